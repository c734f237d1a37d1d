import PyProof.Rows.All
import PyProof.Rules2
import PyProof.FactsAll.str_0
import PyProof.FactsAll.list_3
import PyProof.FactsAll.list_4
import PyProof.AutoSeq1
import PyProof.Rules3
import PyProof.SliceList
import PyProof.CallStr
import PyProof.CompFree
import PyProof.MeetsSeq
import PyProof.SeqRoads2
import PyProof.EqAt
import PyProof.EqKinds
import PyProof.NeKinds
import PyProof.StrOps
import PyProof.ForAppend
import PyProof.WalksMore
import PyProof.RangeFor
import PyProof.JoinWalk
import PyProof.ListTruth
import PyProof.Rows.Globals
import PyProof.Rows.GenRows
import PyProof.WalksPairs
import PyProof.Rows.Exc
import PyProof.SliceMore
import PyProof.StrReplace2
import OpenK.ZRun
import OpenK.ZHead
import OpenK.AllK
import Wide.All
import Lean
import PySem.Challenge.RW_in0072_01
set_option Elab.async false
set_option maxRecDepth 100000
set_option maxHeartbeats 4000000
set_option linter.all false
set_option genInjectivity false
set_option genSizeOf false
namespace Mine
theorem nilA {α : Type} {P : (x : α) → x ∈ ([] : List α) → Prop} : ∀ x (h : x ∈ ([] : List α)), P x h := fun _ h => nomatch h
theorem memC {α : Type} {a b : α} {l : List α} : a ∈ b :: l ↔ a = b ∨ a ∈ l := List.mem_cons
theorem memN {α : Type} (a : α) : a ∈ ([] : List α) ↔ False := List.mem_nil_iff a
noncomputable def Naa : Nat := 420912471562189077482839302586938554960894608015361
noncomputable def Nab : Nat := 22300747858284688926001244774371400987183113
noncomputable def Nac : Nat := 11199373260103194360258002823623975567884288
noncomputable def Nad : Nat := 2670139927152286525715637357493878784
noncomputable def Nae : Nat := 10889037040178070764649045299986035638273
noncomputable def Naf : Nat := 68530189997744358979723727778350137947359021065
noncomputable def Nag : Nat := 68507889249886074290797726754936695430886457344
noncomputable def Nah : Nat := 2670138659501837339462757783800119297
noncomputable def Nai : Nat := 46768052394588894686296556981802570038539540496384
noncomputable def Naj : Nat := 22835963083295358733543542945189678595497263105
noncomputable def Nak : Nat := 93536115944994903901082724962125064646146079588352
noncomputable def Nal : Nat := 420958143482913807485581682371587422290130323392512
noncomputable def Nam : Nat := 22936327325725786079140250892464139794936496129
noncomputable def Nan : Nat := 46973576062343868518007582275137335220279340695552
noncomputable def Nao : Nat := 45671931613767042920450549297912629221751015424
noncomputable def Nap : Nat := 46790888357672190038689061856139191870922740994048
noncomputable def Naq : Nat := 46768052394591551838509484478740975478578419335169
noncomputable def Nar : Nat := 22835963083295358733233756294461441807325595648
noncomputable def Nas : Nat := 46950795851131544856978205505553529399915216633856
noncomputable def Nau : Nat := 46768074700778609783876071749169050448096875511808
noncomputable def Nav : Nat := 22835963083295358733543241378105932782696941577
noncomputable def Naw : Nat := 467680635504062763641636578133687674334909418176512
noncomputable def Nax : Nat := 11199373260107633923932889625296151074832384
noncomputable def Nay : Nat := 421118017519797556950222551003135011331948675074057
noncomputable def Naz : Nat := 5444517870735324900423815081629331765255
noncomputable def Nba : Nat := 421117995219049710348201557007483892104210927321089
noncomputable def Nbb : Nat := 22936316442008255300289168492805186632126826496
noncomputable def Nbc : Nat := 46768052394591551838509484478740975478578410950656
noncomputable def Nbd : Nat := 7975367974709495237422842387460259841
noncomputable def Nbe : Nat := 22835963083295358733543240861344773917089202176
noncomputable def Nbf : Nat := 22835963083295358733543240713770786151630635008
noncomputable def Nbg : Nat := 93536115939550386030981225512931091752329620226048
noncomputable def Nbh : Nat := 151115727451828651051017
noncomputable def Nbi : Nat := 22835963083295358734162211545394492289063059456
noncomputable def Nbj : Nat := 46768052394588894686299342346743460231570243190784
noncomputable def Nbk : Nat := 22835963083295358733544600902819765197272514560
noncomputable def Nbl : Nat := 46790888357672190038689061856139191923699349479425
noncomputable def Nbm : Nat := 205624070111687817802607979782243368027547500544
noncomputable def Nbn : Nat := 421118095572403094649486500816161826940328590966784
noncomputable def Nbo : Nat := 46790888357672190038689061856139191871000050401280
noncomputable def Nbp : Nat := 22847113455894624042328643484442964780723994626
noncomputable def Nbq : Nat := 5468443974659762871219727941222644320256
noncomputable def Nbr : Nat := 5444517870735015567193803957407661950977
noncomputable def Nbs : Nat := 22847113455894624042328643484442964780761747456
noncomputable def Nbt : Nat := 22835968527813229465773291039300359430952994818
noncomputable def Nbu : Nat := 607984826155280795197330080624270234351146075422720
noncomputable def Nbv : Nat := 11199373260107633923933037199248740751245312
noncomputable def Nbw : Nat := 421117995219049710353908769771367897624120748146688
noncomputable def Nbx : Nat := 11150372599265311881612910504770891675600896
noncomputable def Nby : Nat := 46768052394591551838509484478740975513762787231744
noncomputable def Nbz : Nat := 22847113455894624042328643484442964780732383233
noncomputable def Nca : Nat := 22936316436691342049808389782781901963027021824
noncomputable def Ncb : Nat := 5444519168809230200236628303361024739337
noncomputable def Ncc : Nat := 46973676426580982033372515501903056146241769439233
noncomputable def Ncd : Nat := 5468443974659144203357753196039836270593
noncomputable def Nce : Nat := 45671931613767042920450549297912629221751015433
noncomputable def Ncf : Nat := 93536115944994903901082415477115243318660913168384
noncomputable def Ncg : Nat := 46768052443594871131750327834262551390814847631360
noncomputable def Nch : Nat := 633825300114114718417847062530
noncomputable def Nci : Nat := 2676629034909609473977603715753836544
noncomputable def Ncj : Nat := 1902094870435809797474361542656
noncomputable def Nck : Nat := 187140717467605459606263932214560146384750792153088
noncomputable def Ncl : Nat := 11150372599265311881612910504894114320885760
noncomputable def Ncm : Nat := 2670144363929236135328532052620345346
noncomputable def Ncn : Nat := 46973598363086409890079233827766558300029944072201
noncomputable def Nco : Nat := 5444517870735015567193876014993114136576
noncomputable def Ncp : Nat := 46768052394588894686297175951748461763578394839040
noncomputable def Ncq : Nat := 11150372599265311881613058078705897751707648
noncomputable def Ncr : Nat := 17592186044416
noncomputable def Ncs : Nat := 93581776720788895351965019345362099142624374947840
noncomputable def Nct : Nat := 11199378577014543983955200631086005759246336
noncomputable def Ncu : Nat := 93536115944994903901082724962125064646146079592450
noncomputable def Ncv : Nat := 46768052394588894686299342648974879124014109818881
noncomputable def Ncw : Nat := 46768052394588894680592130640817084798262197616640
noncomputable def Ncx : Nat := 46973576073232906854992217073265022222595740663808
noncomputable def Ncy : Nat := 46768052394591551838509484478741191651489436665856
noncomputable def Ncz : Nat := 5444517870735015567193803957390490468353
noncomputable def Nda : Nat := 16333553612205046246241981209518612154369
noncomputable def Ndb : Nat := 421118095605070204471946188840276398877142155264000
noncomputable def Ndc : Nat := 421117995219055015578150899450505788252198071697408
noncomputable def Ndd : Nat := 46768052394591551838509484478740975636908085346313
noncomputable def Nde : Nat := 22835968527813229465773291039300359508270776321
noncomputable def Ndf : Nat := 748289016806498826753023583114852794367382732668928
noncomputable def Ndg : Nat := 11199373260107633923933258560177625265864704
noncomputable def Ndh : Nat := 93581799016092234467844405963444340845451667308544
noncomputable def Ndi : Nat := 420958165789100866729022483973638847717962015574016
noncomputable def Ndj : Nat := 22835963083296656171456694227956428671949996033
noncomputable def Ndk : Nat := 22847113455894624042328643484442964780732387330
noncomputable def Ndl : Nat := 5468446570807882804665625308147463749632
noncomputable def Ndm : Nat := 11150372599265311881612910576828502889203712
noncomputable def Ndn : Nat := 420912471551305357355278506270905060952558956183552
noncomputable def Ndo : Nat := 33462006834836112783068226454272528294608897
noncomputable def Ndp : Nat := 33451117797795934712303577517058933315862528
noncomputable def Ndq : Nat := 309485009821345077352464386
noncomputable def Ndr : Nat := 2670138659501535255545777927753826304
noncomputable def Nds : Nat := 928757260954985252673028097
noncomputable def Ndt : Nat := 91377303450979228323371060651640696476929097731
noncomputable def Ndu : Nat := 46790888357672190038689061856139191870939920861185
noncomputable def Ndv : Nat := 93536115944994903901082724962125064646146079592448
noncomputable def Ndw : Nat := 309485009821345077314717697
noncomputable def Ndx : Nat := 93581799032431108888157021159724611104692265551875
noncomputable def Ndy : Nat := 91388475612285098615497451078250467084027828224
noncomputable def Ndz : Nat := 2535301200456458802993423187968
noncomputable def Nea : Nat := 22869430542627326508259155395777539495360995332
noncomputable def Neb : Nat := 22835963083295358096932575584978898476962152448
noncomputable def Nec : Nat := 2664946364191180981874273215630540800
noncomputable def Ned : Nat := 1298074214633706907132624082307075
noncomputable def Nee : Nat := 2662350214214186435144353965894795264
noncomputable def Nef : Nat := 22847113455894624042328643484442964780723994624
noncomputable def Neg : Nat := 46768052394591551838509484478740975513779971293185
noncomputable def Neh : Nat := 22300747858284688926001244774371400987183111
noncomputable def Nei : Nat := 421118095583292129093515832677271509178160500441089
noncomputable def Nej : Nat := 93536115944994903901082724962125064646146079606786
noncomputable def Nek : Nat := 46768052394591551838509484478740939590587637563392
noncomputable def Nel : Nat := 46768052394591551838509484478740939590518888726529
noncomputable def Nem : Nat := 11150372599265311881461794777283878660866049
noncomputable def Nen : Nat := 5463136153634451378376368916653878020096
noncomputable def Neo : Nat := 78052608194857181614345107419964494577666048
noncomputable def Nep : Nat := 46790888357672190038689061856139191870922740989954
noncomputable def Neq : Nat := 11199397188801999576895836711383594547806208
noncomputable def Ner : Nat := 140395534487217663272000306348069881116435492640770
noncomputable def Nes : Nat := 22835963085953814088502407331110806972253863937
noncomputable def Net : Nat := 2670138660120807506643371713907130369
noncomputable def Neu : Nat := 514699783084766675412074890214613870387072371523585
noncomputable def Nev : Nat := 45671931613767042920450549297912629221751019520
noncomputable def New : Nat := 928455029464035206174343171
noncomputable def Nex : Nat := 46973576062362489397687724171947968982842492321795
noncomputable def Ney : Nat := 123145302310912
noncomputable def Nez : Nat := 2668845658366542434100143292028028928
noncomputable def Nfa : Nat := 2668845655889604545473231146530635777
noncomputable def Nfb : Nat := 11193928742231191694393402577025493582741505
noncomputable def Nfc : Nat := 327536296599869659008632700006769387708355551690752
noncomputable def Nfd : Nat := 11199397186205850839352929803986890613852161
noncomputable def Nfe : Nat := 46790888357672190038689061856139191871000058789889
noncomputable def Nff : Nat := 11150372599265311881462385361482943184244736
noncomputable def Nfg : Nat := 11150372599265311881462385073129421734414336
noncomputable def Nfh : Nat := 46768052394588894685662731681540881402785112786944
noncomputable def Nfi : Nat := 22914053821733593954129517652597027195200733184
noncomputable def Nfj : Nat := 327376366762122256273774141431986759465083015790592
noncomputable def Nfk : Nat := 5468443974659145261758717911443529795585
noncomputable def Nfl : Nat := 46790888357672190038689061856139191976475920201729
noncomputable def Nfm : Nat := 205624070119663185777317475019666210389229568000
noncomputable def Nfn : Nat := 49019290807885385472176411798206796531712
noncomputable def Nfo : Nat := 93536115944994903901082724962125064646146079606784
noncomputable def Nfp : Nat := 11150375257721303450084614765283378666162176
noncomputable def Nfq : Nat := 47156263859606913322591932266034849100200515993600
noncomputable def Nfr : Nat := 5468443974661930626920572435133750050816
noncomputable def Nfs : Nat := 46973676415691944998901659163410982360251619084288
noncomputable def Nft : Nat := 22936365442666495133482673584913601633907113984
noncomputable def Nfu : Nat := 22835963107224058169799964762823511421296312320
noncomputable def Nfv : Nat := 46768052394588894692000987404093324110104002297856
noncomputable def Nfw : Nat := 5444517870735015567193803957467829258249
noncomputable def Nfx : Nat := 46768052394588894686299342346743388332374632693760
noncomputable def Nfy : Nat := 11199373262699343408344320553127532535218177
noncomputable def Nfz : Nat := 46768052394588893382517914646921056628989845569536
noncomputable def Nga : Nat := 22847113455894624042328643484442964866623379475
noncomputable def Ngb : Nat := 3894222643901120721397872259502080
noncomputable def Ngc : Nat := 100402377993309086788865625977976888120836096
noncomputable def Ngd : Nat := 420912471551323980838084417283487968513246550294529
noncomputable def Nge : Nat := 5444517870735015567193803992592042426369
noncomputable def Ngf : Nat := 23070120963734765655217775174179112363791220736
noncomputable def Ngg : Nat := 46973576062338554201539046730061146990783083053056
noncomputable def Ngh : Nat := 16338870524822320694857532448375257956352
noncomputable def Ngi : Nat := 16333553612205046246241981209501432283136
noncomputable def Ngj : Nat := 2670138659502895813926131128086829056
noncomputable def Ngk : Nat := 22936365437349582518994950763384268730591610881
noncomputable def Ngl : Nat := 11150372610949247153222639044347417686179840
noncomputable def Ngm : Nat := 151115727451828651051008
noncomputable def Ngn : Nat := 22835963083295358737566547465482344055464525824
noncomputable def Ngo : Nat := 46768052394588894686296556981655068125951720161280
noncomputable def Ngp : Nat := 140304157183766680147553744394257926212645917032448
noncomputable def Ngq : Nat := 607984725747479564646184220180999444985801764503552
noncomputable def Ngr : Nat := 46768052394591551838509484478740975478578448713737
noncomputable def Ngs : Nat := 45671931613767042920450549297912629221751015426
noncomputable def Ngt : Nat := 22835963083295358733544600755245795084167301120
noncomputable def Ngu : Nat := 46768052400033411253252930214114932643982955511808
noncomputable def Ngv : Nat := 5468443975927413773605625270081802995712
noncomputable def Ngw : Nat := 1075688041038627843156008969454695494388948475578368
noncomputable def Ngx : Nat := 93536115944994903901082724962125064646146138308631
noncomputable def Ngy : Nat := 1901475900342344102245054814210
noncomputable def Ngz : Nat := 420912471600324639074741985556371762398461006190592
noncomputable def Nha : Nat := 11150375257721303450084614765283378666147840
noncomputable def Nhb : Nat := 47064919985485026583297860975350876079356611919872
noncomputable def Nhc : Nat := 5468443974661930626920428319945674194944
noncomputable def Nhd : Nat := 46973598373978102790100445156673809972602127515649
noncomputable def Nhe : Nat := 46973676464697922742426857924595505608080740057088
noncomputable def Nhf : Nat := 46768052394588894689465685598878807594616655708160
noncomputable def Nhg : Nat := 5444517870735015567193803957467829258245
noncomputable def Nhh : Nat := 701863347665830689393911634337728502638980467001353
noncomputable def Nhi : Nat := 45671931613767042920450549297912629221751013384
noncomputable def Nhj : Nat := 327536296594443752924719451929572153875861507932167
noncomputable def Nhk : Nat := 205523716774256846715584860910820928393939269639
noncomputable def Nhl : Nat := 467908883631167079100582121927550631602676446547978
noncomputable def Nhm : Nat := 374327196129719116042596897624109031660932684599305
noncomputable def Nhn : Nat := 8102973862304848219031717594515711735815
noncomputable def Nho : Nat := 421117995219049699968678443246026213152943482339329
noncomputable def Nhp : Nat := 159929794191262368296300578178329249401400211463
noncomputable def Nhq : Nat := 38111625099581885082483987557219301341191
noncomputable def Nhr : Nat := 5449975686081175813204384165802197521534977
noncomputable def Nhs : Nat := 1299375460142294358710883102496919553
noncomputable def Nht : Nat := 374212971685579009924168862726576768336537875124225
noncomputable def Nhu : Nat := 73861159763865084373001
noncomputable def Nhv : Nat := 151569443569135975730782209
noncomputable def Nhw : Nat := 123205461215233
noncomputable def Nhx : Nat := 93536138240295584562872017951109048741029495177216
noncomputable def Nhy : Nat := 68507889257861442265507221992503688182204727299
noncomputable def Nhz : Nat := 140304157183766684044312308314739021686996155236355
noncomputable def Nia : Nat := 608281548720517202830752735245063595323602283532289
noncomputable def Nib : Nat := 296867590896148785280450803914684184974778722316
noncomputable def Nic : Nat := 140304190651228665381562186626506682555306006833165
noncomputable def Nid : Nat := 1299374190943513355127462929899716611
noncomputable def Nie : Nat := 8598541309954
noncomputable def Nif : Nat := 327536274255581609790819634613377249486678624573442
noncomputable def Nig : Nat := 151267286009295038691942403
noncomputable def Nih : Nat := 22858854814585843710032475112898338388521212973057
noncomputable def Nii : Nat := 5449973028921990497770065274133786178621441
noncomputable def Nij : Nat := 421117995268050371190521124051699957920432870395909
noncomputable def Nik : Nat := 205523716774256849885330633216055126332496955398
noncomputable def Nil : Nat := 327376366767566771553433496376042789391671494723593
noncomputable def Nim : Nat := 46908653475109972030144899680574165209275844471554052
noncomputable def Nin : Nat := 309794645946893865630788749313
noncomputable def Nio : Nat := 1299372922673640728190679860339804161
noncomputable def Nip : Nat := 46768052394588898577351312926781126126372537763841
noncomputable def Niq : Nat := 5449970369166021999312819946355543626481666
noncomputable def Nir : Nat := 21788710501738810208933150233079469574145
noncomputable def Nis : Nat := 22858832519274522735805757952278842054726557632512
noncomputable def Nit : Nat := 514448576356816700329301637285359095072024994787329
section
open PySem PySem.W PySem.W.X PySem.Calls PyProof.Rows
noncomputable abbrev pw : Program := PySem.Challenge.pw_in0072_01
noncomputable abbrev o (s : String) : Str := Str.ofString s
noncomputable def noArgs : Arguments := { posonlyargs := [], args := [], vararg := none, kwonlyargs := [], kw_defaults := [], kwarg := none, defaults := [] }
noncomputable def tS (i : Nat) : Stmt := (pw.main.body[i]?).getD (.Pass default)
noncomputable def cS (i j : Nat) : Stmt := match tS i with | .ClassDef _ _ _ b _ _ _ _ _ _ _ => (b[j]?).getD (.Pass default) | s => s
noncomputable def fP : Stmt → Arguments | .FunctionDef _ a _ _ _ _ _ _ _ _ => a | _ => noArgs
noncomputable def fB : Stmt → List Stmt | .FunctionDef _ _ b _ _ _ _ _ _ _ => b | _ => []
noncomputable def fS : Stmt → Scope | .FunctionDef _ _ _ _ _ _ s _ _ _ => s | _ => default
noncomputable def fPos : Stmt → Pos | .FunctionDef _ _ _ _ _ _ _ _ _ p => p | _ => default
noncomputable def en (P : Params) (n : String) (t : Nat) (v : Value) : DictEntry := ⟨PyData.keyHash P (o n), .str (o n) t, v⟩
noncomputable def o0 (P : Params) : Obj := ⟨(.type "dict"), none, (.dict (Array.mk [en P "__name__" 1 (.str (o "builtins") 160), en P "__doc__" 2 (.builtin "builtins.__doc__:str#opaque"), en P "__package__" 3 (.builtin "builtins.__package__:str#opaque"), en P "__loader__" 4 (.builtin "builtins.__loader__:shared#opaque"), en P "__spec__" 5 (.builtin "builtins.__spec__#opaque"), en P "__build_class__" 6 (.builtin "__build_class__"), en P "__import__" 7 (.builtin "__import__"), en P "abs" 8 (.builtin "abs"), en P "all" 9 (.builtin "all"), en P "any" 10 (.builtin "any"), en P "ascii" 11 (.builtin "ascii"), en P "bin" 12 (.builtin "bin"), en P "breakpoint" 13 (.builtin "breakpoint"), en P "callable" 14 (.builtin "callable"), en P "chr" 15 (.builtin "chr"), en P "compile" 16 (.builtin "compile"), en P "delattr" 17 (.builtin "delattr"), en P "dir" 18 (.builtin "dir"), en P "divmod" 19 (.builtin "divmod"), en P "eval" 20 (.builtin "eval"), en P "exec" 21 (.builtin "exec"), en P "format" 22 (.builtin "format"), en P "getattr" 23 (.builtin "getattr"), en P "globals" 24 (.builtin "globals"), en P "hasattr" 25 (.builtin "hasattr"), en P "hash" 26 (.builtin "hash"), en P "hex" 27 (.builtin "hex"), en P "id" 28 (.builtin "id"), en P "input" 29 (.builtin "input"), en P "isinstance" 30 (.builtin "isinstance"), en P "issubclass" 31 (.builtin "issubclass"), en P "iter" 32 (.builtin "iter"), en P "aiter" 33 (.builtin "aiter"), en P "len" 34 (.builtin "len"), en P "locals" 35 (.builtin "locals"), en P "max" 36 (.builtin "max"), en P "min" 37 (.builtin "min"), en P "next" 38 (.builtin "next"), en P "anext" 39 (.builtin "anext"), en P "oct" 40 (.builtin "oct"), en P "ord" 41 (.builtin "ord"), en P "pow" 42 (.builtin "pow"), en P "print" 43 (.builtin "print"), en P "repr" 44 (.builtin "repr"), en P "round" 45 (.builtin "round"), en P "setattr" 46 (.builtin "setattr"), en P "sorted" 47 (.builtin "sorted"), en P "sum" 48 (.builtin "sum"), en P "vars" 49 (.builtin "vars"), en P "None" 50 .none, en P "Ellipsis" 51 .ellipsis, en P "NotImplemented" 52 .notImplemented, en P "False" 53 (.bool false), en P "True" 54 (.bool true), en P "bool" 55 (.type "bool"), en P "memoryview" 56 (.type "memoryview"), en P "bytearray" 57 (.type "bytearray"), en P "bytes" 58 (.type "bytes"), en P "classmethod" 59 (.type "classmethod"), en P "complex" 60 (.type "complex"), en P "dict" 61 (.type "dict"), en P "enumerate" 62 (.type "enumerate"), en P "filter" 63 (.type "filter"), en P "float" 64 (.type "float"), en P "frozenset" 65 (.type "frozenset"), en P "property" 66 (.type "property"), en P "int" 67 (.type "int"), en P "list" 68 (.type "list"), en P "map" 69 (.type "map"), en P "object" 70 (.type "object"), en P "range" 71 (.type "range"), en P "reversed" 72 (.type "reversed"), en P "set" 73 (.type "set"), en P "slice" 74 (.type "slice"), en P "staticmethod" 75 (.type "staticmethod"), en P "str" 76 (.type "str"), en P "super" 77 (.type "super"), en P "tuple" 78 (.type "tuple"), en P "type" 79 (.type "type"), en P "zip" 80 (.type "zip"), en P "__debug__" 81 (.bool true), en P "BaseException" 82 (.type "BaseException"), en P "BaseExceptionGroup" 83 (.type "BaseExceptionGroup"), en P "Exception" 84 (.type "Exception"), en P "GeneratorExit" 85 (.type "GeneratorExit"), en P "KeyboardInterrupt" 86 (.type "KeyboardInterrupt"), en P "SystemExit" 87 (.type "SystemExit"), en P "ArithmeticError" 88 (.type "ArithmeticError"), en P "AssertionError" 89 (.type "AssertionError"), en P "AttributeError" 90 (.type "AttributeError"), en P "BufferError" 91 (.type "BufferError"), en P "EOFError" 92 (.type "EOFError"), en P "ImportError" 93 (.type "ImportError"), en P "LookupError" 94 (.type "LookupError"), en P "MemoryError" 95 (.type "MemoryError"), en P "NameError" 96 (.type "NameError"), en P "OSError" 97 (.type "OSError"), en P "ReferenceError" 98 (.type "ReferenceError"), en P "RuntimeError" 99 (.type "RuntimeError"), en P "StopAsyncIteration" 100 (.type "StopAsyncIteration"), en P "StopIteration" 101 (.type "StopIteration"), en P "SyntaxError" 102 (.type "SyntaxError"), en P "SystemError" 103 (.type "SystemError"), en P "TypeError" 104 (.type "TypeError"), en P "ValueError" 105 (.type "ValueError"), en P "Warning" 106 (.type "Warning"), en P "FloatingPointError" 107 (.type "FloatingPointError"), en P "OverflowError" 108 (.type "OverflowError"), en P "ZeroDivisionError" 109 (.type "ZeroDivisionError"), en P "BytesWarning" 110 (.type "BytesWarning"), en P "DeprecationWarning" 111 (.type "DeprecationWarning"), en P "EncodingWarning" 112 (.type "EncodingWarning"), en P "FutureWarning" 113 (.type "FutureWarning"), en P "ImportWarning" 114 (.type "ImportWarning"), en P "PendingDeprecationWarning" 115 (.type "PendingDeprecationWarning"), en P "ResourceWarning" 116 (.type "ResourceWarning"), en P "RuntimeWarning" 117 (.type "RuntimeWarning"), en P "SyntaxWarning" 118 (.type "SyntaxWarning"), en P "UnicodeWarning" 119 (.type "UnicodeWarning"), en P "UserWarning" 120 (.type "UserWarning"), en P "BlockingIOError" 121 (.type "BlockingIOError"), en P "ChildProcessError" 122 (.type "ChildProcessError"), en P "ConnectionError" 123 (.type "ConnectionError"), en P "FileExistsError" 124 (.type "FileExistsError"), en P "FileNotFoundError" 125 (.type "FileNotFoundError"), en P "InterruptedError" 126 (.type "InterruptedError"), en P "IsADirectoryError" 127 (.type "IsADirectoryError"), en P "NotADirectoryError" 128 (.type "NotADirectoryError"), en P "PermissionError" 129 (.type "PermissionError"), en P "ProcessLookupError" 130 (.type "ProcessLookupError"), en P "TimeoutError" 131 (.type "TimeoutError"), en P "IndentationError" 132 (.type "IndentationError"), en P "_IncompleteInputError" 133 (.type "_IncompleteInputError"), en P "IndexError" 134 (.type "IndexError"), en P "KeyError" 135 (.type "KeyError"), en P "ModuleNotFoundError" 136 (.type "ModuleNotFoundError"), en P "NotImplementedError" 137 (.type "NotImplementedError"), en P "PythonFinalizationError" 138 (.type "PythonFinalizationError"), en P "RecursionError" 139 (.type "RecursionError"), en P "UnboundLocalError" 140 (.type "UnboundLocalError"), en P "UnicodeError" 141 (.type "UnicodeError"), en P "BrokenPipeError" 142 (.type "BrokenPipeError"), en P "ConnectionAbortedError" 143 (.type "ConnectionAbortedError"), en P "ConnectionRefusedError" 144 (.type "ConnectionRefusedError"), en P "ConnectionResetError" 145 (.type "ConnectionResetError"), en P "TabError" 146 (.type "TabError"), en P "UnicodeDecodeError" 147 (.type "UnicodeDecodeError"), en P "UnicodeEncodeError" 148 (.type "UnicodeEncodeError"), en P "UnicodeTranslateError" 149 (.type "UnicodeTranslateError"), en P "ExceptionGroup" 150 (.type "ExceptionGroup"), en P "EnvironmentError" 151 (.type "OSError"), en P "IOError" 152 (.type "OSError"), en P "open" 153 (.builtin "open"), en P "quit" 154 (.builtin "builtins.quit#opaque"), en P "exit" 155 (.builtin "builtins.exit#opaque"), en P "copyright" 156 (.builtin "builtins.copyright#opaque"), en P "credits" 157 (.builtin "builtins.credits#opaque"), en P "license" 158 (.builtin "builtins.license#opaque"), en P "help" 159 (.builtin "builtins.help#opaque")]) 159), Array.mk []⟩
noncomputable def o2 (P : Params) : Obj := ⟨.none, none, (.dict (Array.mk [en P "\x69mport.loaded._sre" 183 (.bool true), en P "class._frozen_importlib.BuiltinImporter" 185 (.ref 14), en P "watched.\x69mport" 206 (.ref 18), en P "class._frozen_importlib.ModuleSpec" 216 (.ref 22), en P "sys.modules.booked-epoch" 245 (.int 4 0), en P "\x69mport.later-laid._sre" 270 (.bool true), en P "watched.library" 272 (.ref 27), en P "watched.library-objects" 0 (.str (o "\x0c\x1e") 0), en P "watched.library-deep._sre" 273 (.str (o "\x04\x00\x00\x0b\x04\x00\x00\x0b\x04\x00\x00\x03\x04\x00\x00\x0b\x08\x04dict\x02") 0), en P "\x69mport.loaded._collections" 280 (.bool true), en P "sys.modules.landed._collections" 294 (.bool true), en P "\x69mport.later-laid._collections" 309 (.bool true), en P "watched.library-deep._collections" 311 (.str (o "\x04\x00\x00\x1d\x04\x00\x00\x1d\x04\x00\x00\x03\x04\x00\x00\x1d\x08\x04dict\x02") 0), en P "type.__subclasses__.OSError.0" 437 (.int 94 0), en P "type.__subclasses__.OSError.n" 438 (.int 1 0)]) 15), Array.mk []⟩
noncomputable def o3 (P : Params) : Obj := ⟨(.type "dict"), none, (.dict (Array.mk [en P "__name__" 165 (.str (o "law_in0072_01") 1287), en P "__doc__" 166 .none, en P "__package__" 167 .none, en P "__loader__" 168 (.builtin "__main__.__loader__#opaque"), en P "__spec__" 169 .none, en P "__annotations__" 170 (.ref 6), en P "__builtins__" 171 (.ref 4), en P "__file__" 173 (.str (o "/claim/cut.py") 172), en P "__cached__" 174 .none, en P "_sre" 275 (.ref 12), en P "deque" 317 (.type "collections.deque"), en P "_wall" 330 (.ref 44), en P "contains" 340 (.ref 51), en P "countOf" 350 (.ref 58), en P "indexOf" 360 (.ref 65), en P "_twin_re_1" 400 (.ref 70), en P "_whence" 410 (.ref 77), en P "_index" 418 (.ref 84), en P "UnsupportedOperation" 440 (.ref 94), en P "IOBase" 472 (.ref 114), en P "BufferedIOBase" 490 (.ref 129), en P "TextIOBase" 508 (.ref 141), en P "BytesIO" 770 (.ref 371), en P "StringIO" 1057 (.ref 618), en P "_kind" 1068 (.ref 627), en P "_fspath" 1077 (.ref 634), en P "_check_arg_types" 1087 (.ref 641), en P "isabs" 1094 (.ref 648), en P "join" 1105 (.ref 764), en P "join_path" 1106 (.ref 655), en P "dirname" 1116 (.ref 662), en P "shlex" 1257 (.ref 753), en P "join_shlex" 1265 (.ref 764), en P "_find_unsafe" 1267 (.ref 765), en P "quote" 1274 (.ref 772), en P "unorderable_list_difference" 1286 (.ref 779), en P "_law_lexer" 1296 (.ref 786), en P "_law_answer" 1305 (.ref 793), en P "_law_due" 1311 (.ref 798), en P "law" 1317 (.ref 803)]) 40), Array.mk []⟩
noncomputable def o4 (P : Params) : Obj := ⟨(.type "module"), (some 0), .plain, Array.mk []⟩
noncomputable def o50 (P : Params) : Obj := ⟨(.type "code"), none, (.fields (Array.mk [(.str (o "contains") 333), (.str (o "contains") 334), (.str (o "/claim/cut.py") 335), (.int 7 0), (.int 2 0), (.int 0 0), (.int 0 0), (.int 3 0), (.ref 45), (.bool true), (.int 318 0), (.ref 46), .none, (.ref 47), (.ref 48), (.ref 49), (.int 338 0), (.int 7 0), (.str (o "/claim/cut.py") 339)])), Array.mk []⟩
noncomputable def o51 (P : Params) : Obj := ⟨(.type "function"), none, (.func { name := (o "contains"), qualname := (o "contains"), params := fP (tS 4), body := .stmts (fB (tS 4)), scope := fS (tS 4), globals := 3, closure := [], defaults := .none, kwdefaults := .none, doc := .none, pyModule := (.str (o "cpy313.operator") 331), annotations := none, code := (.ref 50), closureTuple := .none, builtins := 0 }), Array.mk []⟩
noncomputable def o57 (P : Params) : Obj := ⟨(.type "code"), none, (.fields (Array.mk [(.str (o "countOf") 341), (.str (o "countOf") 342), (.str (o "/claim/cut.py") 343), (.int 9 0), (.int 2 0), (.int 0 0), (.int 0 0), (.int 3 0), (.ref 52), (.bool true), (.int 318 0), (.ref 53), .none, (.ref 54), (.ref 55), (.ref 56), (.int 348 0), (.int 9 0), (.str (o "/claim/cut.py") 349)])), Array.mk []⟩
noncomputable def o58 (P : Params) : Obj := ⟨(.type "function"), none, (.func { name := (o "countOf"), qualname := (o "countOf"), params := fP (tS 5), body := .stmts (fB (tS 5)), scope := fS (tS 5), globals := 3, closure := [], defaults := .none, kwdefaults := .none, doc := .none, pyModule := (.str (o "cpy313.operator") 331), annotations := none, code := (.ref 57), closureTuple := .none, builtins := 0 }), Array.mk []⟩
noncomputable def o64 (P : Params) : Obj := ⟨(.type "code"), none, (.fields (Array.mk [(.str (o "indexOf") 351), (.str (o "indexOf") 352), (.str (o "/claim/cut.py") 353), (.int 15 0), (.int 2 0), (.int 0 0), (.int 0 0), (.int 3 0), (.ref 59), (.bool true), (.int 318 0), (.ref 60), .none, (.ref 61), (.ref 62), (.ref 63), (.int 358 0), (.int 15 0), (.str (o "/claim/cut.py") 359)])), Array.mk []⟩
noncomputable def o65 (P : Params) : Obj := ⟨(.type "function"), none, (.func { name := (o "indexOf"), qualname := (o "indexOf"), params := fP (tS 6), body := .stmts (fB (tS 6)), scope := fS (tS 6), globals := 3, closure := [], defaults := .none, kwdefaults := .none, doc := .none, pyModule := (.str (o "cpy313.operator") 331), annotations := none, code := (.ref 64), closureTuple := .none, builtins := 0 }), Array.mk []⟩
noncomputable def o69 (P : Params) : Obj := ⟨(.type "tuple"), none, (.seq (Array.mk [(.int 14 0), (.int 17 0), (.int 4 0), (.int 1 0), (.int 1 0), (.int 21 0), (.int 9 0), (.int 0 0), (.int 604043296 0), (.int 1 0), (.int 0 0), (.int 0 0), (.int 0 0), (.int 0 0), (.int 0 0), (.int 8 0), (.int 4 0), (.int 0 0), (.int 13 0), (.int 14 0), (.int 21 0), (.int 9 0), (.int 0 0), (.int 604043296 0), (.int 1 0), (.int 0 0), (.int 0 0), (.int 0 0), (.int 0 0), (.int 0 0), (.int 8 0), (.int 4 0), (.int 0 0), (.int 1 0)]) 0), Array.mk []⟩
noncomputable def o70 (P : Params) : Obj := ⟨(.type "re.Pattern"), none, (.fields (Array.mk [(.str (o "[^\\w@%+=:,./-]") 362), (.int 256 399), (.int 0 0), .none, .none, (.ref 69), (.int 0 0)])), Array.mk []⟩
noncomputable def o83 (P : Params) : Obj := ⟨(.type "code"), none, (.fields (Array.mk [(.str (o "_index") 411), (.str (o "_index") 412), (.str (o "/claim/cut.py") 413), (.int 28 0), (.int 2 0), (.int 0 0), (.int 0 0), (.int 3 0), (.ref 78), (.bool true), (.int 318 0), (.ref 79), .none, (.ref 80), (.ref 81), (.ref 82), (.int 416 0), (.int 28 0), (.str (o "/claim/cut.py") 417)])), Array.mk []⟩
noncomputable def o84 (P : Params) : Obj := ⟨(.type "function"), none, (.func { name := (o "_index"), qualname := (o "_index"), params := fP (tS 10), body := .stmts (fB (tS 10)), scope := fS (tS 10), globals := 3, closure := [], defaults := .none, kwdefaults := .none, doc := .none, pyModule := (.str (o "io") 401), annotations := none, code := (.ref 83), closureTuple := .none, builtins := 0 }), Array.mk []⟩
noncomputable def o110 (P : Params) : Obj := ⟨(.type "code"), none, (.fields (Array.mk [(.str (o "__new__") 455), (.str (o "IOBase.__new__") 456), (.str (o "/claim/cut.py") 457), (.int 40 0), (.int 1 0), (.int 1 0), (.int 0 0), (.int 15 0), (.ref 105), (.bool true), (.int 318 0), (.ref 106), .none, (.ref 107), (.ref 108), (.ref 109), (.int 461 0), (.int 40 0), (.str (o "/claim/cut.py") 462)])), Array.mk []⟩
noncomputable def o111 (P : Params) : Obj := ⟨(.type "function"), none, (.func { name := (o "__new__"), qualname := (o "IOBase.__new__"), params := fP (cS 12 1), body := .stmts (fB (cS 12 1)), scope := fS (cS 12 1), globals := 3, closure := [], defaults := .none, kwdefaults := .none, doc := .none, pyModule := (.str (o "io") 401), annotations := none, code := (.ref 110), closureTuple := .none, builtins := 0 }), Array.mk []⟩
noncomputable def o113 (P : Params) : Obj := ⟨(.type "dict"), none, (.dict (Array.mk [en P "__module__" 448 (.str (o "io") 453), en P "__firstlineno__" 452 (.int 37 451), en P "__new__" 463 (.ref 115), en P "__static_attributes__" 464 (.ref 112), en P "__dict__" 467 (.ref 116), en P "__weakref__" 469 (.ref 117), en P "__doc__" 470 .none]) 4), Array.mk []⟩
noncomputable def o114 (P : Params) : Obj := ⟨(.type "type"), none, (.cls { name := (o "IOBase"), bases := [(.type "object")], mro := [(.ref 114), (.type "object")], ns := 113, qualname := (o "IOBase"), hasDict := true, slotNames := [], subclasses := [(.ref 129), (.ref 141)], abstract := false, collection := none, hasDel := false }), Array.mk [none, none, (some (.str (o "IOBase") 441)), (some (.str (o "IOBase") 449)), (some .none), (some (.bool true))]⟩
noncomputable def o115 (P : Params) : Obj := ⟨(.type "staticmethod"), none, (.fields (Array.mk [(.ref 111)])), Array.mk []⟩
noncomputable def o140 (P : Params) : Obj := ⟨(.type "dict"), none, (.dict (Array.mk [en P "__module__" 498 (.str (o "io") 503), en P "__firstlineno__" 502 (.int 46 501), en P "__static_attributes__" 505 (.ref 139), en P "__doc__" 506 .none]) 2), Array.mk []⟩
noncomputable def o141 (P : Params) : Obj := ⟨(.type "type"), none, (.cls { name := (o "TextIOBase"), bases := [(.ref 114)], mro := [(.ref 141), (.ref 114), (.type "object")], ns := 140, qualname := (o "TextIOBase"), hasDict := true, slotNames := [], subclasses := [(.ref 618)], abstract := false, collection := none, hasDel := false }), Array.mk [(some (.ref 132)), none, (some (.str (o "TextIOBase") 491)), (some (.str (o "TextIOBase") 499)), (some .none), (some (.bool true))]⟩
noncomputable def o371 (P : Params) : Obj := ⟨(.type "type"), none, (.cls { name := (o "BytesIO"), bases := [(.ref 129)], mro := [(.ref 371), (.ref 129), (.ref 114), (.type "object")], ns := 370, qualname := (o "BytesIO"), hasDict := true, slotNames := [], subclasses := [], abstract := false, collection := none, hasDel := false }), Array.mk [(some (.ref 144)), none, (some (.str (o "BytesIO") 509)), (some (.str (o "BytesIO") 517)), (some .none), (some (.bool true))]⟩
noncomputable def o381 (P : Params) : Obj := ⟨(.type "tuple"), none, (.seq (Array.mk [(.str (Str.ofString "") 785), (.str (o "\n") 786)]) 0), Array.mk []⟩
noncomputable def o387 (P : Params) : Obj := ⟨(.type "code"), none, (.fields (Array.mk [(.str (o "__init__") 787), (.str (o "StringIO.__init__") 788), (.str (o "/claim/cut.py") 789), (.int 221 0), (.int 3 0), (.int 0 0), (.int 0 0), (.int 3 0), (.ref 382), (.bool true), (.int 318 0), (.ref 383), .none, (.ref 384), (.ref 385), (.ref 386), (.int 793 0), (.int 221 0), (.str (o "/claim/cut.py") 794)])), Array.mk []⟩
noncomputable def o388 (P : Params) : Obj := ⟨(.type "function"), none, (.func { name := (o "__init__"), qualname := (o "StringIO.__init__"), params := fP (cS 16 1), body := .stmts (fB (cS 16 1)), scope := fS (cS 16 1), globals := 3, closure := [], defaults := (.ref 381), kwdefaults := .none, doc := .none, pyModule := (.str (o "io") 401), annotations := none, code := (.ref 387), closureTuple := .none, builtins := 0 }), Array.mk []⟩
noncomputable def o394 (P : Params) : Obj := ⟨(.type "code"), none, (.fields (Array.mk [(.str (o "__translated") 796), (.str (o "StringIO.__translated") 797), (.str (o "/claim/cut.py") 798), (.int 234 0), (.int 2 0), (.int 0 0), (.int 0 0), (.int 3 0), (.ref 389), (.bool true), (.int 318 0), (.ref 390), .none, (.ref 391), (.ref 392), (.ref 393), (.int 802 0), (.int 234 0), (.str (o "/claim/cut.py") 803)])), Array.mk []⟩
noncomputable def o395 (P : Params) : Obj := ⟨(.type "function"), none, (.func { name := (o "__translated"), qualname := (o "StringIO.__translated"), params := fP (cS 16 2), body := .stmts (fB (cS 16 2)), scope := fS (cS 16 2), globals := 3, closure := [], defaults := .none, kwdefaults := .none, doc := .none, pyModule := (.str (o "io") 401), annotations := none, code := (.ref 394), closureTuple := .none, builtins := 0 }), Array.mk []⟩
noncomputable def o401 (P : Params) : Obj := ⟨(.type "code"), none, (.fields (Array.mk [(.str (o "__check") 805), (.str (o "StringIO.__check") 806), (.str (o "/claim/cut.py") 807), (.int 242 0), (.int 1 0), (.int 0 0), (.int 0 0), (.int 3 0), (.ref 396), (.bool true), (.int 318 0), (.ref 397), .none, (.ref 398), (.ref 399), (.ref 400), (.int 809 0), (.int 242 0), (.str (o "/claim/cut.py") 810)])), Array.mk []⟩
noncomputable def o402 (P : Params) : Obj := ⟨(.type "function"), none, (.func { name := (o "__check"), qualname := (o "StringIO.__check"), params := fP (cS 16 3), body := .stmts (fB (cS 16 3)), scope := fS (cS 16 3), globals := 3, closure := [], defaults := .none, kwdefaults := .none, doc := .none, pyModule := (.str (o "io") 401), annotations := none, code := (.ref 401), closureTuple := .none, builtins := 0 }), Array.mk []⟩
noncomputable def o557 (P : Params) : Obj := ⟨(.type "tuple"), none, (.seq (Array.mk [(.int (-1) 978)]) 0), Array.mk []⟩
noncomputable def o563 (P : Params) : Obj := ⟨(.type "code"), none, (.fields (Array.mk [(.str (o "read") 979), (.str (o "StringIO.read") 980), (.str (o "/claim/cut.py") 981), (.int 364 0), (.int 2 0), (.int 2 0), (.int 0 0), (.int 3 0), (.ref 558), (.bool true), (.int 318 0), (.ref 559), .none, (.ref 560), (.ref 561), (.ref 562), (.int 986 0), (.int 364 0), (.str (o "/claim/cut.py") 987)])), Array.mk []⟩
noncomputable def o564 (P : Params) : Obj := ⟨(.type "function"), none, (.func { name := (o "read"), qualname := (o "StringIO.read"), params := fP (cS 16 25), body := .stmts (fB (cS 16 25)), scope := fS (cS 16 25), globals := 3, closure := [], defaults := (.ref 557), kwdefaults := .none, doc := .none, pyModule := (.str (o "io") 401), annotations := none, code := (.ref 563), closureTuple := .none, builtins := 0 }), Array.mk []⟩
noncomputable def o617 (P : Params) : Obj := ⟨(.type "dict"), none, (.dict (Array.mk [en P "__module__" 778 (.str (o "_io") 783), en P "__firstlineno__" 782 (.int 218 781), en P "__init__" 795 (.ref 388), en P "_StringIO__translated" 804 (.ref 395), en P "_StringIO__check" 811 (.ref 402), en P "_StringIO__check_dot" 818 (.ref 409), en P "_StringIO__line" 833 (.ref 416), en P "closed" 841 (.ref 424), en P "line_buffering" 849 (.ref 432), en P "newlines" 857 (.ref 440), en P "encoding" 865 (.ref 448), en P "errors" 873 (.ref 456), en P "close" 880 (.ref 463), en P "__enter__" 887 (.ref 470), en P "__exit__" 895 (.ref 477), en P "readable" 902 (.ref 484), en P "writable" 909 (.ref 491), en P "seekable" 916 (.ref 498), en P "isatty" 923 (.ref 505), en P "flush" 930 (.ref 512), en P "fileno" 937 (.ref 519), en P "detach" 944 (.ref 526), en P "getvalue" 951 (.ref 533), en P "tell" 958 (.ref 540), en P "seek" 968 (.ref 548), en P "truncate" 976 (.ref 556), en P "read" 988 (.ref 564), en P "readline" 998 (.ref 572), en P "readlines" 1008 (.ref 580), en P "__iter__" 1015 (.ref 587), en P "__next__" 1023 (.ref 594), en P "write" 1035 (.ref 601), en P "writelines" 1043 (.ref 608), en P "__repr__" 1050 (.ref 615), en P "__static_attributes__" 1054 (.ref 616), en P "__doc__" 1055 .none]) 2), Array.mk []⟩
noncomputable def o618 (P : Params) : Obj := ⟨(.type "type"), none, (.cls { name := (o "StringIO"), bases := [(.ref 141)], mro := [(.ref 618), (.ref 141), (.ref 114), (.type "object")], ns := 617, qualname := (o "StringIO"), hasDict := true, slotNames := [], subclasses := [], abstract := false, collection := none, hasDel := false }), Array.mk [(some (.ref 374)), none, (some (.str (o "StringIO") 771)), (some (.str (o "StringIO") 779)), (some .none), (some (.bool true))]⟩
noncomputable def o670 (P : Params) : Obj := ⟨(.type "tuple"), none, (.seq (Array.mk [.none, .none, (.bool false), (.bool false)]) 0), Array.mk []⟩
noncomputable def o676 (P : Params) : Obj := ⟨(.type "code"), none, (.fields (Array.mk [(.str (o "__init__") 1131), (.str (o "shlex.__init__") 1132), (.str (o "/claim/cut.py") 1133), (.int 490 0), (.int 5 0), (.int 0 0), (.int 0 0), (.int 3 0), (.ref 671), (.bool true), (.int 318 0), (.ref 672), .none, (.ref 673), (.ref 674), (.ref 675), (.int 1140 0), (.int 490 0), (.str (o "/claim/cut.py") 1141)])), Array.mk []⟩
noncomputable def o677 (P : Params) : Obj := ⟨(.type "function"), none, (.func { name := (o "__init__"), qualname := (o "shlex.__init__"), params := fP (cS 26 0), body := .stmts (fB (cS 26 0)), scope := fS (cS 26 0), globals := 3, closure := [], defaults := (.ref 670), kwdefaults := .none, doc := .none, pyModule := (.str (o "cpy313.shlex") 1117), annotations := none, code := (.ref 676), closureTuple := .none, builtins := 0 }), Array.mk []⟩
noncomputable def o683 (P : Params) : Obj := ⟨(.type "code"), none, (.fields (Array.mk [(.str (o "punctuation_chars") 1143), (.str (o "shlex.punctuation_chars") 1144), (.str (o "/claim/cut.py") 1145), (.int 531 0), (.int 1 0), (.int 0 0), (.int 0 0), (.int 3 0), (.ref 678), (.bool true), (.int 318 0), (.ref 679), .none, (.ref 680), (.ref 681), (.ref 682), (.int 1147 0), (.int 531 0), (.str (o "/claim/cut.py") 1148)])), Array.mk []⟩
noncomputable def o684 (P : Params) : Obj := ⟨(.type "function"), none, (.func { name := (o "punctuation_chars"), qualname := (o "shlex.punctuation_chars"), params := fP (cS 26 1), body := .stmts (fB (cS 26 1)), scope := fS (cS 26 1), globals := 3, closure := [], defaults := .none, kwdefaults := .none, doc := .none, pyModule := (.str (o "cpy313.shlex") 1117), annotations := none, code := (.ref 683), closureTuple := .none, builtins := 0 }), Array.mk []⟩
noncomputable def o685 (P : Params) : Obj := ⟨(.type "property"), none, (.fields (Array.mk [(.ref 684), .none, .none, .none, (.str (o "punctuation_chars") 1150), (.bool false)])), Array.mk []⟩
noncomputable def o713 (P : Params) : Obj := ⟨(.type "code"), none, (.fields (Array.mk [(.str (o "get_token") 1175), (.str (o "shlex.get_token") 1176), (.str (o "/claim/cut.py") 1177), (.int 558 0), (.int 1 0), (.int 0 0), (.int 0 0), (.int 3 0), (.ref 708), (.bool true), (.int 318 0), (.ref 709), .none, (.ref 710), (.ref 711), (.ref 712), (.int 1184 0), (.int 558 0), (.str (o "/claim/cut.py") 1185)])), Array.mk []⟩
noncomputable def o714 (P : Params) : Obj := ⟨(.type "function"), none, (.func { name := (o "get_token"), qualname := (o "shlex.get_token"), params := fP (cS 26 5), body := .stmts (fB (cS 26 5)), scope := fS (cS 26 5), globals := 3, closure := [], defaults := .none, kwdefaults := .none, doc := .none, pyModule := (.str (o "cpy313.shlex") 1117), annotations := none, code := (.ref 713), closureTuple := .none, builtins := 0 }), Array.mk []⟩
noncomputable def o720 (P : Params) : Obj := ⟨(.type "code"), none, (.fields (Array.mk [(.str (o "read_token") 1187), (.str (o "shlex.read_token") 1188), (.str (o "/claim/cut.py") 1189), (.int 585 0), (.int 1 0), (.int 0 0), (.int 0 0), (.int 3 0), (.ref 715), (.bool true), (.int 318 0), (.ref 716), .none, (.ref 717), (.ref 718), (.ref 719), (.int 1195 0), (.int 585 0), (.str (o "/claim/cut.py") 1196)])), Array.mk []⟩
noncomputable def o721 (P : Params) : Obj := ⟨(.type "function"), none, (.func { name := (o "read_token"), qualname := (o "shlex.read_token"), params := fP (cS 26 6), body := .stmts (fB (cS 26 6)), scope := fS (cS 26 6), globals := 3, closure := [], defaults := .none, kwdefaults := .none, doc := .none, pyModule := (.str (o "cpy313.shlex") 1117), annotations := none, code := (.ref 720), closureTuple := .none, builtins := 0 }), Array.mk []⟩
noncomputable def o742 (P : Params) : Obj := ⟨(.type "code"), none, (.fields (Array.mk [(.str (o "__iter__") 1215), (.str (o "shlex.__iter__") 1216), (.str (o "/claim/cut.py") 1217), (.int 732 0), (.int 1 0), (.int 0 0), (.int 0 0), (.int 3 0), (.ref 737), (.bool true), (.int 318 0), (.ref 738), .none, (.ref 739), (.ref 740), (.ref 741), (.int 1219 0), (.int 732 0), (.str (o "/claim/cut.py") 1220)])), Array.mk []⟩
noncomputable def o743 (P : Params) : Obj := ⟨(.type "function"), none, (.func { name := (o "__iter__"), qualname := (o "shlex.__iter__"), params := fP (cS 26 9), body := .stmts (fB (cS 26 9)), scope := fS (cS 26 9), globals := 3, closure := [], defaults := .none, kwdefaults := .none, doc := .none, pyModule := (.str (o "cpy313.shlex") 1117), annotations := none, code := (.ref 742), closureTuple := .none, builtins := 0 }), Array.mk []⟩
noncomputable def o749 (P : Params) : Obj := ⟨(.type "code"), none, (.fields (Array.mk [(.str (o "__next__") 1222), (.str (o "shlex.__next__") 1223), (.str (o "/claim/cut.py") 1224), (.int 735 0), (.int 1 0), (.int 0 0), (.int 0 0), (.int 3 0), (.ref 744), (.bool true), (.int 318 0), (.ref 745), .none, (.ref 746), (.ref 747), (.ref 748), (.int 1227 0), (.int 735 0), (.str (o "/claim/cut.py") 1228)])), Array.mk []⟩
noncomputable def o750 (P : Params) : Obj := ⟨(.type "function"), none, (.func { name := (o "__next__"), qualname := (o "shlex.__next__"), params := fP (cS 26 10), body := .stmts (fB (cS 26 10)), scope := fS (cS 26 10), globals := 3, closure := [], defaults := .none, kwdefaults := .none, doc := .none, pyModule := (.str (o "cpy313.shlex") 1117), annotations := none, code := (.ref 749), closureTuple := .none, builtins := 0 }), Array.mk []⟩
noncomputable def o752 (P : Params) : Obj := ⟨(.type "dict"), none, (.dict (Array.mk [en P "__module__" 1126 (.str (o "cpy313.shlex") 1117), en P "__firstlineno__" 1130 (.int 488 1129), en P "__init__" 1142 (.ref 677), en P "punctuation_chars" 1150 (.ref 685), en P "push_token" 1158 (.ref 692), en P "push_source" 1167 (.ref 700), en P "pop_source" 1174 (.ref 707), en P "get_token" 1186 (.ref 714), en P "read_token" 1197 (.ref 721), en P "sourcehook" 1205 (.ref 728), en P "error_leader" 1214 (.ref 736), en P "__iter__" 1221 (.ref 743), en P "__next__" 1229 (.ref 750), en P "__static_attributes__" 1250 (.ref 751), en P "__dict__" 1252 (.ref 754), en P "__weakref__" 1254 (.ref 755), en P "__doc__" 1255 .none]) 4), Array.mk []⟩
noncomputable def o753 (P : Params) : Obj := ⟨(.type "type"), none, (.cls { name := (o "shlex"), bases := [(.type "object")], mro := [(.ref 753), (.type "object")], ns := 752, qualname := (o "shlex"), hasDict := true, slotNames := [], subclasses := [], abstract := false, collection := none, hasDel := false }), Array.mk [none, none, (some (.str (o "shlex") 1119)), (some (.str (o "shlex") 1127)), (some (.builtin "object.__new__")), (some (.bool true))]⟩
noncomputable def o759 (P : Params) : Obj := ⟨.none, none, (.fields (Array.mk [])), Array.mk []⟩
noncomputable def o763 (P : Params) : Obj := ⟨(.type "code"), none, (.fields (Array.mk [(.str (o "join") 1258), (.str (o "join") 1259), (.str (o "/claim/cut.py") 1260), (.int 740 0), (.int 1 0), (.int 0 0), (.int 0 0), (.int 3 0), (.ref 758), (.bool true), (.int 318 0), (.ref 759), .none, (.ref 760), (.ref 761), (.ref 762), (.int 1262 0), (.int 740 0), (.str (o "/claim/cut.py") 1263)])), Array.mk []⟩
noncomputable def o764 (P : Params) : Obj := ⟨(.type "function"), none, (.func { name := (o "join"), qualname := (o "join"), params := fP (tS 27), body := .stmts (fB (tS 27)), scope := fS (tS 27), globals := 3, closure := [], defaults := .none, kwdefaults := .none, doc := .none, pyModule := (.str (o "cpy313.shlex") 1117), annotations := none, code := (.ref 763), closureTuple := .none, builtins := 0 }), Array.mk []⟩
noncomputable def o765 (P : Params) : Obj := ⟨(.type "builtin_function_or_method"), none, (.fields (Array.mk [(.builtin "re.Pattern.search"), (.ref 70)])), Array.mk []⟩
noncomputable def o771 (P : Params) : Obj := ⟨(.type "code"), none, (.fields (Array.mk [(.str (o "quote") 1268), (.str (o "quote") 1269), (.str (o "/claim/cut.py") 1270), (.int 744 0), (.int 1 0), (.int 0 0), (.int 0 0), (.int 3 0), (.ref 766), (.bool true), (.int 318 0), (.ref 767), .none, (.ref 768), (.ref 769), (.ref 770), (.int 1272 0), (.int 744 0), (.str (o "/claim/cut.py") 1273)])), Array.mk []⟩
noncomputable def o772 (P : Params) : Obj := ⟨(.type "function"), none, (.func { name := (o "quote"), qualname := (o "quote"), params := fP (tS 30), body := .stmts (fB (tS 30)), scope := fS (tS 30), globals := 3, closure := [], defaults := .none, kwdefaults := .none, doc := .none, pyModule := (.str (o "cpy313.shlex") 1117), annotations := none, code := (.ref 771), closureTuple := .none, builtins := 0 }), Array.mk []⟩
noncomputable def o778 (P : Params) : Obj := ⟨(.type "code"), none, (.fields (Array.mk [(.str (o "unorderable_list_difference") 1277), (.str (o "unorderable_list_difference") 1278), (.str (o "/claim/cut.py") 1279), (.int 751 0), (.int 2 0), (.int 0 0), (.int 0 0), (.int 3 0), (.ref 773), (.bool true), (.int 318 0), (.ref 774), .none, (.ref 775), (.ref 776), (.ref 777), (.int 1284 0), (.int 751 0), (.str (o "/claim/cut.py") 1285)])), Array.mk []⟩
noncomputable def o779 (P : Params) : Obj := ⟨(.type "function"), none, (.func { name := (o "unorderable_list_difference"), qualname := (o "unorderable_list_difference"), params := fP (tS 32), body := .stmts (fB (tS 32)), scope := fS (tS 32), globals := 3, closure := [], defaults := .none, kwdefaults := .none, doc := .none, pyModule := (.str (o "cpy313.unittest.util") 1275), annotations := none, code := (.ref 778), closureTuple := .none, builtins := 0 }), Array.mk []⟩
noncomputable def o785 (P : Params) : Obj := ⟨(.type "code"), none, (.fields (Array.mk [(.str (o "_law_lexer") 1289), (.str (o "_law_lexer") 1290), (.str (o "/claim/cut.py") 1291), (.int 761 0), (.int 1 0), (.int 0 0), (.int 0 0), (.int 3 0), (.ref 780), (.bool true), (.int 318 0), (.ref 781), .none, (.ref 782), (.ref 783), (.ref 784), (.int 1294 0), (.int 761 0), (.str (o "/claim/cut.py") 1295)])), Array.mk []⟩
noncomputable def o786 (P : Params) : Obj := ⟨(.type "function"), none, (.func { name := (o "_law_lexer"), qualname := (o "_law_lexer"), params := fP (tS 34), body := .stmts (fB (tS 34)), scope := fS (tS 34), globals := 3, closure := [], defaults := .none, kwdefaults := .none, doc := .none, pyModule := (.str (o "law_in0072_01") 1287), annotations := none, code := (.ref 785), closureTuple := .none, builtins := 0 }), Array.mk []⟩
noncomputable def o792 (P : Params) : Obj := ⟨(.type "code"), none, (.fields (Array.mk [(.str (o "_law_answer") 1297), (.str (o "_law_answer") 1298), (.str (o "/claim/cut.py") 1299), (.int 765 0), (.int 3 0), (.int 0 0), (.int 0 0), (.int 3 0), (.ref 787), (.bool true), (.int 318 0), (.ref 788), .none, (.ref 789), (.ref 790), (.ref 791), (.int 1303 0), (.int 765 0), (.str (o "/claim/cut.py") 1304)])), Array.mk []⟩
noncomputable def o793 (P : Params) : Obj := ⟨(.type "function"), none, (.func { name := (o "_law_answer"), qualname := (o "_law_answer"), params := fP (tS 35), body := .stmts (fB (tS 35)), scope := fS (tS 35), globals := 3, closure := [], defaults := .none, kwdefaults := .none, doc := .none, pyModule := (.str (o "law_in0072_01") 1287), annotations := none, code := (.ref 792), closureTuple := .none, builtins := 0 }), Array.mk []⟩
noncomputable def o797 (P : Params) : Obj := ⟨(.type "code"), none, (.fields (Array.mk [(.str (o "_law_due") 1306), (.str (o "_law_due") 1307), (.str (o "/claim/cut.py") 1308), (.int 770 0), (.int 2 0), (.int 0 0), (.int 0 0), (.int 3 0), (.ref 794), (.bool true), (.int 318 0), (.ref 795), .none, .none, .none, (.ref 796), (.int 1309 0), (.int 770 0), (.str (o "/claim/cut.py") 1310)])), Array.mk []⟩
noncomputable def o798 (P : Params) : Obj := ⟨(.type "function"), none, (.func { name := (o "_law_due"), qualname := (o "_law_due"), params := fP (tS 36), body := .stmts (fB (tS 36)), scope := fS (tS 36), globals := 3, closure := [], defaults := .none, kwdefaults := .none, doc := .none, pyModule := (.str (o "law_in0072_01") 1287), annotations := none, code := (.ref 797), closureTuple := .none, builtins := 0 }), Array.mk []⟩
noncomputable def o802 (P : Params) : Obj := ⟨(.type "code"), none, (.fields (Array.mk [(.str (o "law") 1312), (.str (o "law") 1313), (.str (o "/claim/cut.py") 1314), (.int 780 0), (.int 1 0), (.int 0 0), (.int 0 0), (.int 3 0), (.ref 799), (.bool true), (.int 318 0), (.ref 800), .none, .none, .none, (.ref 801), (.int 1315 0), (.int 780 0), (.str (o "/claim/cut.py") 1316)])), Array.mk []⟩
noncomputable def o803 (P : Params) : Obj := ⟨(.type "function"), none, (.func { name := (o "law"), qualname := (o "law"), params := fP (tS 37), body := .stmts (fB (tS 37)), scope := fS (tS 37), globals := 3, closure := [], defaults := .none, kwdefaults := .none, doc := .none, pyModule := (.str (o "law_in0072_01") 1287), annotations := none, code := (.ref 802), closureTuple := .none, builtins := 0 }), Array.mk []⟩
noncomputable def obsA : List Addr := [0, 2, 3, 4, 50, 51, 57, 58, 64, 65, 69, 70, 83, 84, 110, 111, 113, 114, 115, 140, 141, 371, 381, 387, 388, 394, 395, 401, 402, 557, 563, 564, 617, 618, 670, 676, 677, 683, 684, 685, 713, 714, 720, 721, 742, 743, 749, 750, 752, 753, 759, 763, 764, 765, 771, 772, 778, 779, 785, 786, 792, 793, 797, 798, 802, 803]
noncomputable def obsO (P : Params) : List (Option Obj) := [some (o0 P), some (o2 P), some (o3 P), some (o4 P), some (o50 P), some (o51 P), some (o57 P), some (o58 P), some (o64 P), some (o65 P), some (o69 P), some (o70 P), some (o83 P), some (o84 P), some (o110 P), some (o111 P), some (o113 P), some (o114 P), some (o115 P), some (o140 P), some (o141 P), some (o371 P), some (o381 P), some (o387 P), some (o388 P), some (o394 P), some (o395 P), some (o401 P), some (o402 P), some (o557 P), some (o563 P), some (o564 P), some (o617 P), some (o618 P), some (o670 P), some (o676 P), some (o677 P), some (o683 P), some (o684 P), some (o685 P), some (o713 P), some (o714 P), some (o720 P), some (o721 P), some (o742 P), some (o743 P), some (o749 P), some (o750 P), some (o752 P), some (o753 P), some (o759 P), some (o763 P), some (o764 P), some (o765 P), some (o771 P), some (o772 P), some (o778 P), some (o779 P), some (o785 P), some (o786 P), some (o792 P), some (o793 P), some (o797 P), some (o798 P), some (o802 P), some (o803 P)]
noncomputable def topRunG (ok : Nat → Option Value → Thread → Bool) (st : SharedT → Thread → Option (SharedT × Thread)) (n₀ : Nat) (ann : Option Value) : Nat → SharedT → Thread → Option SharedT
 | 0, _, _ => none
 | n + 1, s, t => match through t with
  | true => some s
  | false => match ok n₀ ann t with
   | false => none
   | true => match st s t with
    | some (s', t') => topRunG ok st n₀ ann n s' t'
    | none => none
theorem topRunG_of {tb : String → Option Builtin} {p : Program} {w : World} {n₀ : Nat} {ann : Option Value} : ∀ {n : Nat} {s s' : SharedT} {t : Thread}, topRunG stepOk (stepT (denote tb) p w) n₀ ann n s t = some s' → topRun tb p w n₀ ann n s.abs t = some s'.abs
 | 0, _, _, _, h => by cases h
 | n + 1, s, s', t, h => by
  unfold topRunG at h
  unfold topRun
  cases he : through t with
  | true => rw [he] at h; cases h; rfl
  | false =>
   rw [he] at h
   cases hk : stepOk n₀ ann t with
   | false => rw [hk] at h; cases h
   | true =>
    rw [hk] at h
    cases hs : stepT (denote tb) p w s t with
    | none => rw [hs] at h; cases h
    | some r => obtain ⟨s₂, t₂⟩ := r; rw [hs] at h; dsimp only; rw [stepT_spec hs]; exact topRunG_of h
noncomputable def build : Nat → List Obj → BT → Option BT
 | _, [], T => some T
 | i, x :: l, T => match ((T.ins i x).get i).isSome with
  | true => build (i + 1) l (T.ins i x)
  | false => none
theorem build_of (life : Life) : ∀ (l : List Obj) (i : Nat) (T T' : BT) (a : Array Obj), build i l T = some T' → absHeap T i life = ⟨a, life⟩ → absHeap T' (i + l.length) life = ⟨a ++ l.toArray, life⟩
 | [], i, T, T', a, h, e => by cases h; simpa using e
 | x :: l, i, T, T', a, h, e => by
  unfold build at h
  cases hs : ((T.ins i x).get i).isSome with
  | false => rw [hs] at h; cases h
  | true =>
   rw [hs] at h
   have e' : absHeap (T.ins i x) (i + 1) life = ⟨a.push x, life⟩ := by rw [absHeap_ins hs, e]; rfl
   have z := build_of life l (i + 1) _ _ _ h e'
   have q1 : i + 1 + l.length = i + (x :: l).length := by simp only [List.length_cons]; omega
   have q2 : a.push x ++ l.toArray = a ++ (x :: l).toArray := by simp
   rw [q1, q2] at z
   exact z
noncomputable def headG {β γ : Type} (op : Shared × Thread) (imp : World → Nat → Shared → Thread → Option Shared) (fence : Shared → Option Shared) (st : World → SharedT → Thread → Option (SharedT × Thread)) (ok : Nat → Option Value → Thread → Bool) (ann : Heap → Option Value)
  (good : Heap → Shared → Bool) (seenF : Shared → β) (Yf : Shared → γ) (N : Nat) (w : World) : Option (Bool × Bool × β × γ) :=
 (imp w N op.1 op.2).bind fun s => (fence s).bind fun s₀ => match build 0 s₀.heap.objs.toList .nil with
  | none => none
  | some T => (topRunG ok (st w) s₀.heap.objs.size (ann s₀.heap) N ⟨T, s₀.heap.objs.size, s₀.heap.life, s₀.gens, s₀.drawn, s₀.toks, s₀.os⟩ (topStub pw)).map fun sT =>
   (s₀.heap.isNs mainGlobals && s₀.gens.size == 0, good s₀.heap sT.abs, seenF sT.abs, Yf sT.abs)
noncomputable abbrev headR {β γ : Type} (mods : List Str) (seenF : Shared → β) (Yf : Shared → γ) (N : Nat) : World → Option (Bool × Bool × β × γ) :=
 headG (start (opening pw)) (fun w n s t => importEnds treeTable (opening pw) w n s t) (fenceModules? pw) (fun w => stepT (denote treeTable) pw w) stepOk (fun h => h.nsMap mainGlobals "__annotations__")
  (fun h s => staticsOk mods h s.heap && namesBound pw s.heap && gensDone s && laidKept h s.heap) seenF Yf N
theorem left_of {q : Program} {loose : List Str} {Xt : Shared → Bool} {γ : Type} {Yf : Shared → γ} {Ya : World → γ} {N : Nat}
  (h : ∀ w, headR (importedModules pw.main.body) (openSeen q loose (importedModules pw.main.body) Xt true) Yf N w = some (true, true, openGood q loose, Ya w)) : LeftO pw q loose Xt Yf Ya N := fun w => by
 have h := h w
 unfold headG at h
 obtain ⟨s, e1, h⟩ := Option.bind_eq_some_iff.mp h
 obtain ⟨s₀, e2, h⟩ := Option.bind_eq_some_iff.mp h
 cases hb : build 0 s₀.heap.objs.toList .nil with
 | none => rw [hb] at h; cases h
 | some T =>
  rw [hb] at h
  obtain ⟨sT, e3, h⟩ := Option.map_eq_some_iff.mp h
  have r := topRunG_of e3
  replace e1 : importEnds treeTable (opening pw) w N (start (opening pw)).1 (start (opening pw)).2 = some s := e1
  obtain ⟨h1, h2, h3, h4⟩ : _ ∧ _ ∧ _ ∧ _ := by simpa only [Prod.mk.injEq] using h
  have z := build_of s₀.heap.life _ 0 .nil T #[] hb (by rfl)
  have z' : absHeap T s₀.heap.objs.size s₀.heap.life = s₀.heap := by
   have q1 : 0 + s₀.heap.objs.toList.length = s₀.heap.objs.size := by simp
   rw [q1] at z
   rw [z]
   cases hh : s₀.heap with
   | mk a l => simp
  have ea : (SharedT.mk T s₀.heap.objs.size s₀.heap.life s₀.gens s₀.drawn s₀.toks s₀.os).abs = s₀ := by
   unfold SharedT.abs
   dsimp only
   rw [z']
  rw [ea] at r
  replace r : topRun treeTable pw w s₀.heap.objs.size (s₀.heap.nsMap mainGlobals "__annotations__") N s₀ (topStub pw) = some sT.abs := r
  replace h2 : (staticsOk (importedModules pw.main.body) s₀.heap sT.abs.heap && namesBound pw sT.abs.heap && gensDone sT.abs && laidKept s₀.heap sT.abs.heap) = true := h2
  unfold openEnds fencedOpening
  rw [e1]
  show ((fenceModules? pw s).bind _).map _ = _
  rw [e2]
  show (topFrom treeTable pw w N s₀).map _ = _
  unfold topFrom
  rw [h1, r]
  show ((match staticsOk (importedModules pw.main.body) s₀.heap sT.abs.heap && namesBound pw sT.abs.heap && gensDone sT.abs && laidKept s₀.heap sT.abs.heap with | true => some sT.abs | false => none) : Option Shared).map _ = _
  rw [h2]
  exact congrArg some (Prod.ext h3 h4)
noncomputable def qv : Program := { pw with main := { pw.main with body := [tS 0, tS 1, tS 37] } }
noncomputable def loose : List Str := [o "_wall", o "contains", o "countOf", o "indexOf", o "_twin_re_1", o "_whence", o "_index", o "UnsupportedOperation", o "IOBase", o "BufferedIOBase", o "TextIOBase", o "BytesIO", o "StringIO", o "_kind", o "_fspath", o "_check_arg_types", o "isabs", o "join", o "join_path", o "dirname", o "shlex", o "join_shlex", o "_find_unsafe", o "quote", o "unorderable_list_difference", o "_law_lexer", o "_law_answer", o "_law_due"]
noncomputable def isFr (x : Obj) : Bool := match x.data with
 | .dict _ _ => (match x.cls with
  | .type n => Nat.beq (PySem.code n) 439938610023
  | _ => false)
 | _ => false
noncomputable def Yf (s : Shared) : List (Option Obj) × Nat × Nat × Bool := (obsA.map s.heap.get?, s.heap.objs.size, s.toks, s.heap.objs.toList.all fun x => !isFr x)
noncomputable def Ya (w : World) : List (Option Obj) × Nat × Nat × Bool := (obsO w.params, 804, 1318, true)
theorem head_twin : ∀ w, headG (PySem.W.Fast.tw1435165496053646825 (opening pw)) (fun w n s t => PySem.W.Fast.tw10274390034422433532 PySem.W.Fast.tw14364793385576792824 (opening pw) w n s t) (PySem.W.Fast.tw14289696077712309145 pw)
  (fun w => PySem.W.Fast.tw10156331382660048174 (PySem.W.Fast.tw11892475500146522536 PySem.W.Fast.tw14364793385576792824) pw w) PySem.W.Fast.tw6613529449190102663 (fun h => PySem.W.Fast.tw8920871248978507458 h mainGlobals "__annotations__")
  (fun h s => staticsOk (PySem.W.Fast.tw5923862056798008813 pw.main.body) h s.heap && namesBound pw s.heap && gensDone s && laidKept h s.heap)
  (PySem.W.Fast.tw4187177175401517315 qv loose (PySem.W.Fast.tw5923862056798008813 pw.main.body) (fun _ => true) true) Yf 6000 w = some (true, true, openGood qv loose, Ya w) := by
 intro w
 kernel_rfl
end
section
open PySem PySem.W PySem.W.X PySem.Spec PySem.Calls PyProof.Rows
inductive Op where
 | cmp (op : CmpOp) (a b : Value)
 | note (e : Value) (env : Env)
 | owned (target : Expr) (it v : Value)
 | test (e : Expr) (env : Env)
 | same (a b : Value)
 | iter (x : Value)
 | exec (st : Stmt) (env : Env)
inductive SP where
 | tree (t : Sem Fin)
 | bnd (p : SP) (k : Result → SP)
 | op (o : Op)
inductive Tgt where
 | code (c : Code)
 | op (o : Op)
structure Hook where
 tgt : Tgt
 pre : List (Nat × Obj)
 post : List (Nat × Obj)
 news : List Obj
 res : Result
 toks : Nat
 noH : Bool
 un : Bool
 noting : Bool
 frs : List Addr
inductive RK where
 | base
 | ret (c : Code) (hd : Option Value) (md : Bool) (k : Result → Sem Fin) (ks : List (Result → SP)) (κ : RK)
noncomputable def kDepth (wt : Code → Nat) : RK → Nat
 | .base => 0
 | .ret c _ _ _ _ κ => wt c + kDepth wt κ
noncomputable def kLen : RK → Nat
 | .base => 0
 | .ret _ _ _ _ _ κ => kLen κ + 1
noncomputable def kHandled (hb : Option Value) : RK → Option Value
 | .base => hb
 | .ret _ hd _ _ _ κ => hd.or (kHandled hb κ)
noncomputable def kEnvs : RK → List Env
 | .base => []
 | .ret c _ _ _ _ κ => c.envs ++ kEnvs κ
inductive Stop where
 | res (r : Result)
 | cut (c : Code)
 | call (c c' : Code) (hd : Option Value) (md : Bool) (k : Result → Sem Fin) (ks : List (Result → SP))
structure Out where
 qa : List (Nat × Nat)
 qo : List (Option Obj × Option Obj)
 qc : List (Tgt × Tgt)
 fin : Stop
 T : BT
 m : Nat
 s : Nat
 i : Nat
structure Dyn where
 adr : Nat → Addr
 tk : Nat → Tok
 stk : Nat → Pos × List (Code × Pos)
 sl : Nat → Nat → Array (Option Value)
 pl : Nat → List Value
structure SV where
 den : Code → Sem Fin
 sp : Code → SP
 entry : Addr → FuncData → List Stmt → Args → Sem Fin
 wt : Code → Nat
 quiet : Code → Bool
 setting : Setting
 kt : KT
 hb : Option Value
 D : Nat
 U : Nat
 nt : Bool
 bf : List Addr
 bo : List Nat
 cur : List Addr
 hooks : Nat → Nat → Nat → Dyn → List Hook
noncomputable def codeOk (kt : KT) (cd : Value) (q : Str) : Bool := match cd with
 | .ref c => (match kt.get c with
   | some ⟨_, _, .fields vs, _⟩ => (match vs.toList with | _ :: .str n _ :: _ => decide (n = q) | _ => false)
   | _ => false)
 | _ => false
noncomputable def begin_ (V : SV) (κ : RK) (e : Nat) (c : Code) : Option (Bool × SP) := match e with
 | 0 => some (false, .tree (V.den c))
 | 1 => match c with
  | .call f args => (match f with
   | .ref a => (match V.kt.get a with
    | some ob => (match ob with
     | ⟨_, _, dt, _⟩ => (match dt with
      | .func fd => (match fd.scope.isCoroutine || fd.scope.isGenerator with
       | true => none
       | false => (match fd.body with
        | .stmts body => (match codeOk V.kt fd.code fd.qualname && Nat.blt (kDepth V.wt κ) V.D with
         | true => some (true, .tree (V.entry a fd body args))
         | false => none)
        | .expr _ => none))
      | _ => none))
    | none => none)
   | _ => none)
  | _ => none
 | _ => some (false, V.sp c)
noncomputable def setAll : List (Nat × Obj) → BT → BT
 | [], T => T
 | (j, x) :: l, T => setAll l (T.set j fun _ => x)
noncomputable def insAll : List Obj → BT → Nat → Option (BT × Nat)
 | [], T, m => some (T, m)
 | x :: l, T, m => match ((T.ins m x).get m).isSome with
  | true => insAll l (T.ins m x) (m + 1)
  | false => none
noncomputable def asks (T : BT) : List (Nat × Obj) → List (Option Obj × Option Obj)
 | [] => []
 | (j, x) :: l => (T.get j, some x) :: asks T l
noncomputable def nth {α : Type} : List α → Nat → Option α
 | [], _ => none
 | x :: l, n => match n with | 0 => some x | n + 1 => nth l n
noncomputable def remap (f : Nat → Obj → Obj) : Nat → Nat → BT → BT
 | _, _, .nil => .nil
 | s, b, .node v l r => .node (f b v) (remap f (2 * s) (s + b) l) (remap f (2 * s) (2 * s + b) r)
noncomputable def slot1 (sl : Nat → Array (Option Value)) (j : Nat) (x : Obj) : Obj := match isFr x with
 | true => { x with slots := sl j }
 | false => x
noncomputable def noted (sl : Nat → Array (Option Value)) (T : BT) : BT := remap (slot1 sl) 1 0 T
noncomputable def frIs (T : BT) (b : Nat) : Bool := match T.get b with
 | some x => isFr x
 | none => false
noncomputable def notModule (e : Env) : Bool := match e.scope.kind with
 | .module => false
 | _ => true
noncomputable def frOk (Y : Dyn) (T : BT) : List Env → List Nat → Option (List (Nat × Nat) × List Nat)
 | [], ce => some ([], ce)
 | e :: es, ce => match e.frame with
  | none => none
  | some f => match ce with
   | [] => none
   | x :: ce => match x with
    | 0 => none
    | b + 1 => match notModule e && frIs T b with
     | false => none
     | true => match frOk Y T es ce with
      | none => none
      | some r => some ((f, Y.adr b) :: r.1, r.2)
noncomputable def inFr (cur : List Addr) (es : List Env) : List Addr → List Nat → Option (List (Nat × Nat) × List Nat)
 | [], ce => some ([], ce)
 | f :: fs, ce => match ce with
  | [] => none
  | e :: ce => match (match Nat.blt e 500 with | true => (match nth es e with | some env => env.frame | none => none) | false => nth cur (e - 500)) with
   | none => none
   | some f0 => match inFr cur es fs ce with
    | none => none
    | some r => some ((f, f0) :: r.1, r.2)
structure Prep where
 T : BT
 qa : List (Nat × Nat)
 ce : List Nat
 s : Nat
noncomputable def prep (V : SV) (Y : Dyn) (noting : Bool) (frs : List Addr) (es : List Env) (ce : List Nat) (T : BT) (s : Nat) : Option Prep := match noting with
 | false => some ⟨T, [], ce, s⟩
 | true => match V.nt && V.bo.all (frIs T) with
  | false => none
  | true => match frOk Y T es ce with
   | none => none
   | some r => match inFr V.cur es frs r.2 with
    | none => none
    | some r' => some ⟨noted (Y.sl s) T, r'.1 ++ r.1, r'.2, s + 1⟩
noncomputable def simR (V : SV) (Y : Dyn) : Nat → List Nat → Bool → Code → RK → List (Result → SP) → SP → BT → Nat → Nat → Nat → Nat → List (Nat × Nat) → List (Option Obj × Option Obj) → List (Tgt × Tgt) → Option Out
 | 0, _, _, _, _, _, _, _, _, _, _, _, _, _, _ => none
 | n + 1, ce, md, c, κ, ks, p, T, m, i, j, s, qa, qo, qc =>
  let ret (r : Result) : Option Out := match ks with
   | k :: ks' => simR V Y n ce md c κ ks' (k r) T m i j s qa qo qc
   | [] => match κ with
    | .base => some ⟨qa, qo, qc, .res r, T, m, s, i⟩
    | .ret c' _ md' k ks' κ' => simR V Y n ce md' c' κ' ks' (.tree (k r)) T m i j s qa qo qc
  let hook (H : Hook) (ce : List Nat) (g : Tgt) (κh : RK) (go : Result → SP) : Option Out :=
   match Nat.blt (kDepth V.wt κh) V.D && (!H.noH || (kHandled V.hb κh).isNone) && (!H.un || Nat.blt (10 * kLen κh) V.U) with
   | false => none
   | true => match prep V Y H.noting H.frs (c.envs ++ kEnvs κ) ce T s with
    | none => none
    | some P => match insAll H.news (setAll H.post P.T) m with
     | none => none
     | some r => simR V Y n P.ce md c κ ks (go H.res) r.1 r.2 (i + H.toks) j P.s (P.qa ++ qa) (asks T H.pre ++ qo) ((g, H.tgt) :: qc)
  match p with
  | .bnd p k => match md with
   | true => none
   | false => simR V Y n ce md c κ (k :: ks) p T m i j s qa qo qc
  | .op o => match md with
   | true => none
   | false => match ce with
    | [] => none
    | e :: ce => match nth (V.hooks m i s Y) e with
     | none => none
     | some H => hook H ce (.op o) (.ret c none md (fun _ => .pure (.done .next)) ks κ) fun r => .tree (match r with | .ok f => .pure (.done f) | .error e => .raise e)
  | .tree t => match t with
   | .pure fin => match fin with
    | .done f => match md with
     | true => none
     | false => ret (.ok f)
    | .again c' => match ks with
     | _ :: _ => none
     | [] => match ce with
      | [] => none
      | e :: ce => match V.quiet c' with
       | false => none
       | true => match Nat.beq e 1001 with
        | true => match κ with
         | .base => some ⟨qa, qo, qc, .cut c', T, m, s, i⟩
         | .ret .. => none
        | false => match begin_ V κ e c' with
         | none => none
         | some r => simR V Y n ce r.1 c' κ [] r.2 T m i j s qa qo qc
   | .raise e => match md with
    | true => match ks with
     | [] => ret (.error e)
     | _ :: _ => none
    | false => ret (.error e)
   | .rule _ k => simR V Y n ce md c κ ks (.tree (k ())) T m i j s qa qo qc
   | .at _ k => simR V Y n ce md c κ ks (.tree (k ())) T m i j s qa qo qc
   | .point _ k => simR V Y n ce md c κ ks (.tree (k ())) T m i j s qa qo qc
   | .ask k => simR V Y n ce md c κ ks (.tree (k V.setting)) T m i j s qa qo qc
   | .load a _ k => match ce with
    | [] => none
    | e :: ce => match e with
     | 0 => match V.kt.get a with
      | some x => simR V Y n ce md c κ ks (.tree (k x)) T m i j s qa qo qc
      | none => none
     | b + 1 => match T.get b with
      | some x => simR V Y n ce md c κ ks (.tree (k x)) T m i j s ((a, Y.adr b) :: qa) qo qc
      | none => none
   | .loadIfAlive a k => match ce with
    | [] => none
    | e :: ce => match e with
     | 0 => match V.kt.get a with
      | some x => simR V Y n ce md c κ ks (.tree (k (some x))) T m i j s qa qo qc
      | none => none
     | b + 1 => match T.get b with
      | some x => simR V Y n ce md c κ ks (.tree (k (some x))) T m i j s ((a, Y.adr b) :: qa) qo qc
      | none => none
   | .alloc x k => match x.isFreed with
    | true => none
    | false => match ((T.ins m x).get m).isSome with
     | true => simR V Y n ce md c κ ks (.tree (k (Y.adr m))) (T.ins m x) (m + 1) i j s qa qo qc
     | false => none
   | .update a _ f k => match ce with
    | [] => none
    | e :: ce => match e with
     | 0 => none
     | b + 1 => match T.get b with
      | some x => match (f x).isFreed with
       | true => none
       | false => simR V Y n ce md c κ ks (.tree (k ())) (T.set b f) m i j s ((a, Y.adr b) :: qa) qo qc
      | none => none
   | .fresh k => simR V Y n ce md c κ ks (.tree (k (Y.tk i))) T m (i + 1) j s qa qo qc
   | .handled own k => match own with
    | true => none
    | false => simR V Y n ce md c κ ks (.tree (k (kHandled V.hb κ))) T m i j s qa qo qc
   | .stack k => simR V Y n ce md c κ ks (.tree (k ((c, (Y.stk j).1) :: (Y.stk j).2))) T m i (j + 1) s qa qo qc
   | .call c' hd _ _ k => match okMark hd with
    | false => none
    | true => match ce with
     | [] => none
     | e :: ce => match Nat.ble 2 e && Nat.blt e 1000 with
      | true => match nth (V.hooks m i s Y) (e - 2) with
       | none => none
       | some H => hook H ce (.code c') (.ret c hd md k ks κ) fun r => .tree (k r)
      | false => match Nat.beq e 1003 with
       | true => match κ with
        | .base => some ⟨qa, qo, qc, .call c c' hd md k ks, T, m, s, i⟩
        | .ret .. => none
       | false => match begin_ V (.ret c hd md k ks κ) e c' with
        | none => none
        | some r => simR V Y n ce r.1 c' (.ret c hd md k ks κ) [] r.2 T m i j s qa qo qc
   | _ => none
noncomputable def entryTree (a : Addr) (fd : FuncData) (body : List Stmt) (args : Args) : Sem PySem.Fin :=
 (bindArgs fd args).bind fun binds => (newFunctionEnv fd.scope fd.globals fd.closure binds (fd.qualname ++ ".<locals>.") (some a) fd.code none fd.builtins).bind fun env => .pure (.again (.func body env))
noncomputable def wpG {α : Type} (M : Model) (Γ : PySem.Ctx) (t : Sem α) (Q : α → Shared → Prop) (E : Value → Shared → Prop) (s : Shared) : Prop :=
 ∀ p, Sem.wp M Γ t (fun a _ s' => Q a s') (fun e _ s' => E e s') p s
theorem wpG_bind {α β : Type} {M : Model} {Γ : PySem.Ctx} {m : Sem α} {f : α → Sem β} {Q : β → Shared → Prop} {E : Value → Shared → Prop} {s : Shared} (h : wpG M Γ m (fun a s' => wpG M Γ (f a) Q E s') E s) : wpG M Γ (m >>= f) Q E s := fun p => by
 rw [Sem.wp_bind']
 exact Sem.wp_mono M Γ m (fun a p' s' h' => h' p') (fun _ _ _ h' => h') p s (h p)
theorem wpG_any {α : Type} {M : Model} {Γ : PySem.Ctx} {A : Around} {m : Sem α} {Q : α → Shared → Prop} {E : Value → Shared → Prop} {s : Shared} (hΓ : Γ.In A) (h : wpAny M A m Q E s) : wpG M Γ m Q E s := fun p => h Γ p hΓ
theorem wpG_split {α β : Type} {M : Model} {Γ : PySem.Ctx} {m : Sem α} {f g : α → Sem β} {Q Q' : β → Shared → Prop} {E : Value → Shared → Prop} {s : Shared}
  (h : wpG M Γ (m.bind f) Q E s) (k : ∀ a p s', Sem.wp M Γ (f a) (fun b _ s'' => Q b s'') (fun e _ s'' => E e s'') p s' → Sem.wp M Γ (g a) (fun b _ s'' => Q' b s'') (fun e _ s'' => E e s'') p s') : wpG M Γ (m.bind g) Q' E s := fun p => by
 have h := h p
 rw [Sem.wp_bind] at h ⊢
 exact Sem.wp_mono M Γ m (fun a p' s' h' => k a p' s' h') (fun _ _ _ h' => h') p s h
theorem own_entry {w : World} {A : Around} {a : Addr} {args : Args} {ob : Obj} {fd : FuncData} {body : List Stmt} {Q : PySem.Fin → Shared → Prop} {E : Value → Shared → Prop} {s : Shared}
  (hroom : A.depth < recursionLimit) (ho : s.heap.get? a = some ob) (hd' : ob.data = .func fd) (hco : fd.scope.isCoroutine = false) (hgen : fd.scope.isGenerator = false) (hbody : fd.body = .stmts body) (hcd : s.heap.CodeRec fd.code fd.qualname)
  (h : wpOwn (model pw w) A (.call (.ref a) args) (entryTree a fd body args) (fun fin s' => s'.heap.NoLimit ∧ Q fin s') E s) :
  wpOwn (model pw w) A (.call (.ref a) args) (denote table (.call (.ref a) args)) Q E s := by
 intro Γ p hc hΓ
 have hin : Γ.In A.in1 := by
  have := hΓ.in
  rw [hc] at this
  exact this
 have hg : wpG (model pw w) Γ (entryTree a fd body args) (fun fin s' => s'.heap.NoLimit ∧ Q fin s') E s := fun p' => h Γ p' hc hΓ
 show Sem.wp _ Γ (callAny (.ref a) args) _ _ p s
 obtain ⟨c, oc, vs, tq, hcc, hoc, hdc, hq⟩ := hcd
 have key : wpG (model pw w) Γ (callAny (.ref a) args) Q E s := by
  unfold callAny
  dsimp only
  refine wpG_bind (wpG_any hin (wpAny_load ho ?_))
  simp only [hd', callFunction, hco, hgen, hbody, hcc]
  refine wpG_bind (m := field (.ref c) 1) (wpG_any hin (wpAny_field hoc hdc hq ?_))
  refine wpG_bind (m := (pure fd.qualname : Sem Str)) (wpG_any hin (wpAny_pure ?_))
  unfold entryTree at hg
  rw [hcc] at hg
  refine wpG_split hg fun binds p₁ s₁ h₁ => ?_
  rw [Sem.wp_bind] at h₁
  show Sem.wp _ Γ (Sem.bind (newFunctionEnv _ _ _ _ _ _ _ _ _) _) _ _ p₁ s₁
  rw [Sem.wp_bind]
  refine Sem.wp_mono _ Γ _ (fun env p₂ s₂ h₂ => ?_) (fun _ _ _ z => z) _ _ h₁
  have h₂' : s₂.heap.NoLimit ∧ Q (.again (.func body env)) s₂ := h₂
  show Sem.wp _ Γ (Sem.bind enterFrame _) _ _ p₂ s₂
  rw [Sem.wp_bind]
  have e := wpAny_enterFrame (M := model pw w) (A := A.in1) (E := E) (Q := fun _ s' => Q (.again (.func body env)) s') h₂'.1 hroom h₂'.2 Γ p₂ hin
  exact Sem.wp_mono _ Γ _ (fun _ p₃ s₃ h₃ => h₃) (fun _ _ _ z => z) _ _ e
 exact key p
theorem remap_get (f : Nat → Obj → Obj) : ∀ (T : BT) (s b j : Nat), (remap f s b T).get j = (T.get j).map (f (s * j + b))
 | .nil, _, _, _ => rfl
 | .node v l r, s, b, j => by
  show (BT.node (f b v) (remap f (2 * s) (s + b) l) (remap f (2 * s) (2 * s + b) r)).get j = _
  rw [BT.get_node, BT.get_node]
  by_cases h0 : j = 0
  ·subst h0; simp
  ·rw [if_neg h0, if_neg h0]
   by_cases p : j % 2 = 1
   ·rw [if_pos p, if_pos p, remap_get f l]
    have : 2 * s * (j / 2) + (s + b) = s * j + b := by
     have hj : j = 2 * (j / 2) + 1 := by omega
     generalize j / 2 = q at hj
     subst hj
     rw [Nat.mul_add, Nat.mul_one, ← Nat.mul_assoc, Nat.mul_comm s 2]; omega
    rw [this]
   ·rw [if_neg p, if_neg p, remap_get f r]
    have : 2 * s * (j / 2 - 1) + (2 * s + b) = s * j + b := by
     have hj : j = 2 * (j / 2 - 1) + 2 := by omega
     generalize j / 2 - 1 = q at hj
     subst hj
     rw [Nat.mul_add, ← Nat.mul_assoc, Nat.mul_comm s 2]; omega
    rw [this]
theorem noted_get (sl : Nat → Array (Option Value)) (T : BT) (j : Nat) : (noted sl T).get j = (T.get j).map (slot1 sl j) := by
 have := remap_get (slot1 sl) T 1 0 j
 rw [Nat.one_mul, Nat.add_zero] at this
 exact this
theorem slot1_t {sl : Nat → Array (Option Value)} {j : Nat} {x : Obj} (h : isFr x = true) : slot1 sl j x = { x with slots := sl j } := by unfold slot1; rw [h]
theorem slot1_f {sl : Nat → Array (Option Value)} {j : Nat} {x : Obj} (h : isFr x = false) : slot1 sl j x = x := by unfold slot1; rw [h]
structure RepR (kt : KT) (bf : List Addr) (bo : List Nat) (h₀ : Heap) (m₀ : Nat) (Y : Dyn) (h : Heap) (T : BT) (m s : Nat) : Prop where
 own : ∀ j x, T.get j = some x → j < m ∧ h.get? (Y.adr j) = some x
 inj : ∀ a b, a < m → b < m → Y.adr a = Y.adr b → a = b
 lt : ∀ a, a < m → Y.adr a < h.objs.size
 base : ∀ b x, kt.get b = some x → h.get? b = some x
 off : ∀ a, a < m → kt.get (Y.adr a) = none
 keep : ∀ b x, h₀.get? b = some x → (∀ a, a < m₀ → Y.adr a ≠ b) → (s = 0 ∨ isFr x = false) → h.get? b = some x
 frk : ∀ b x, h₀.get? b = some x → (∀ a, a < m₀ → Y.adr a ≠ b) → isFr x = true → ∃ sl, h.get? b = some { x with slots := sl }
 new : ∀ a, m₀ ≤ a → a < m → h₀.objs.size ≤ Y.adr a
 low : m₀ ≤ m
 size : h₀.objs.size ≤ h.objs.size
 bfr : ∀ f ∈ bf, (∃ x, h.get? f = some x ∧ isFr x = true ∧ ∀ a, a < m → Y.adr a ≠ f) ∨ (∃ b ∈ bo, b < m ∧ Y.adr b = f)
structure Agree (Y Y' : Dyn) (m i j s : Nat) : Prop where
 adr : ∀ a, a < m → Y'.adr a = Y.adr a
 tk : ∀ a, a < i → Y'.tk a = Y.tk a
 stk : ∀ a, a < j → Y'.stk a = Y.stk a
 sl : ∀ a, a < s → Y'.sl a = Y.sl a
 pl : ∀ a, a < s → Y'.pl a = Y.pl a
theorem Agree.refl (Y : Dyn) (m i j s : Nat) : Agree Y Y m i j s := ⟨fun _ _ => rfl, fun _ _ => rfl, fun _ _ => rfl, fun _ _ => rfl, fun _ _ => rfl⟩
theorem Agree.trans {Y Y' Y'' : Dyn} {m i j s m' i' j' s' : Nat} (x : Agree Y Y' m i j s) (y : Agree Y' Y'' m' i' j' s') (hm : m ≤ m') (hi : i ≤ i') (hj : j ≤ j') (hs : s ≤ s') : Agree Y Y'' m i j s :=
 ⟨fun a ha => (y.adr a (Nat.lt_of_lt_of_le ha hm)).trans (x.adr a ha), fun a ha => (y.tk a (Nat.lt_of_lt_of_le ha hi)).trans (x.tk a ha), fun a ha => (y.stk a (Nat.lt_of_lt_of_le ha hj)).trans (x.stk a ha),
  fun a ha => (y.sl a (Nat.lt_of_lt_of_le ha hs)).trans (x.sl a ha), fun a ha => (y.pl a (Nat.lt_of_lt_of_le ha hs)).trans (x.pl a ha)⟩
noncomputable def Dyn.withAdr (Y : Dyn) (m : Nat) (a : Addr) : Dyn := { Y with adr := fun j => if j = m then a else Y.adr j }
noncomputable def Dyn.withTk (Y : Dyn) (m : Nat) (a : Tok) : Dyn := { Y with tk := fun j => if j = m then a else Y.tk j }
noncomputable def Dyn.withStk (Y : Dyn) (m : Nat) (a : Pos × List (Code × Pos)) : Dyn := { Y with stk := fun j => if j = m then a else Y.stk j }
theorem agree_adr (Y : Dyn) (m i j s : Nat) (a : Addr) : Agree Y (Y.withAdr m a) m i j s := ⟨fun b hb => if_neg (Nat.ne_of_lt hb), fun _ _ => rfl, fun _ _ => rfl, fun _ _ => rfl, fun _ _ => rfl⟩
theorem agree_tk (Y : Dyn) (m i j s : Nat) (a : Tok) : Agree Y (Y.withTk i a) m i j s := ⟨fun _ _ => rfl, fun b hb => if_neg (Nat.ne_of_lt hb), fun _ _ => rfl, fun _ _ => rfl, fun _ _ => rfl⟩
theorem agree_stk (Y : Dyn) (m i j s : Nat) (a : Pos × List (Code × Pos)) : Agree Y (Y.withStk j a) m i j s := ⟨fun _ _ => rfl, fun _ _ => rfl, fun b hb => if_neg (Nat.ne_of_lt hb), fun _ _ => rfl, fun _ _ => rfl⟩
section
variable {kt : KT} {bf : List Addr} {bo : List Nat} {h₀ : Heap} {m₀ : Nat} {Y Y' : Dyn} {h h' : Heap} {T : BT} {m s : Nat}
theorem RepR.agreeA (D : RepR kt bf bo h₀ m₀ Y h T m s) (a : ∀ a, a < m → Y'.adr a = Y.adr a) : RepR kt bf bo h₀ m₀ Y' h T m s :=
 ⟨fun b x e => have z := D.own b x e; ⟨z.1, by rw [a b z.1]; exact z.2⟩, fun b c hb hc e => D.inj b c hb hc (by rw [← a b hb, ← a c hc]; exact e), fun b hb => by rw [a b hb]; exact D.lt b hb, D.base,
  fun b hb => by rw [a b hb]; exact D.off b hb, fun b x e n q => D.keep b x e (fun c hc => by rw [← a c (Nat.lt_of_lt_of_le hc D.low)]; exact n c hc) q, fun b x e n q => D.frk b x e (fun c hc => by rw [← a c (Nat.lt_of_lt_of_le hc D.low)]; exact n c hc) q, fun b h1 h2 => by rw [a b h2]; exact D.new b h1 h2, D.low, D.size,
  fun f hf => (D.bfr f hf).imp (fun ⟨x, e1, e2, e3⟩ => ⟨x, e1, e2, fun b hb => by rw [a b hb]; exact e3 b hb⟩) fun ⟨b, e1, e2, e3⟩ => ⟨b, e1, e2, by rw [a b e2]; exact e3⟩⟩
theorem RepR.agree {i j s' : Nat} (D : RepR kt bf bo h₀ m₀ Y h T m s) (a : Agree Y Y' m i j s') : RepR kt bf bo h₀ m₀ Y' h T m s := D.agreeA a.adr
theorem RepR.alloc (D : RepR kt bf bo h₀ m₀ Y h T m s) {x : Obj} (hf : x.isFreed = false) (hg : ((T.ins m x).get m).isSome = true) : RepR kt bf bo h₀ m₀ (Y.withAdr m h.objs.size) (h.push x) (T.ins m x) (m + 1) s := by
 have new_ : (Y.withAdr m h.objs.size).adr m = h.objs.size := if_pos rfl
 have old_ : ∀ a, a < m → (Y.withAdr m h.objs.size).adr a = Y.adr a := fun a ha => if_neg (Nat.ne_of_lt ha)
 have cs : ∀ a, a < m + 1 → a < m ∨ a = m := fun a ha => by omega
 refine ⟨fun j y e => ?_, fun a b ha hb e => ?_, fun a ha => ?_, fun b y e => Heap.get?_push_of_some _ (D.base b y e), fun a ha => ?_, fun b y e n q => Heap.get?_push_of_some _ (D.keep b y e (fun c hc => by rw [← old_ c (Nat.lt_of_lt_of_le hc D.low)]; exact n c hc) q), fun b y e n q => (D.frk b y e (fun c hc => by rw [← old_ c (Nat.lt_of_lt_of_le hc D.low)]; exact n c hc) q).imp fun _ z => Heap.get?_push_of_some _ z, fun a h1 h2 => ?_, Nat.le_succ_of_le D.low, by rw [Heap.size_push]; exact Nat.le_succ_of_le D.size, fun f hf' => ?_⟩
 ·rw [BT.get_ins x T m hg] at e
  by_cases hj : j = m
  ·subst hj
   rw [if_pos rfl] at e
   cases e
   exact ⟨Nat.lt_succ_self _, by rw [new_]; exact Heap.get?_push_size _ hf⟩
  ·rw [if_neg hj] at e
   have z := D.own j y e
   exact ⟨Nat.lt_succ_of_lt z.1, by rw [old_ j z.1]; exact Heap.get?_push_of_some _ z.2⟩
 ·rcases cs a ha with ha | rfl <;> rcases cs b hb with hb | rfl
  ·rw [old_ a ha, old_ b hb] at e; exact D.inj a b ha hb e
  ·rw [old_ a ha, new_] at e; exact absurd (D.lt a ha) (by rw [e]; exact Nat.lt_irrefl _)
  ·rw [old_ b hb, new_] at e; exact absurd (D.lt b hb) (by rw [← e]; exact Nat.lt_irrefl _)
  ·rfl
 ·rw [Heap.size_push]
  rcases cs a ha with ha | rfl
  ·rw [old_ a ha]; exact Nat.lt_succ_of_lt (D.lt a ha)
  ·rw [new_]; exact Nat.lt_succ_self _
 ·rcases cs a ha with ha | rfl
  ·rw [old_ a ha]; exact D.off a ha
  ·rw [new_]
   cases q : kt.get h.objs.size with
   | none => rfl
   | some y => exact absurd (Heap.lt_size (D.base _ _ q)) (Nat.lt_irrefl _)
 ·rcases cs a h2 with ha | rfl
  ·rw [old_ a ha]; exact D.new a h1 ha
  ·rw [new_]; exact D.size
 ·rcases D.bfr f hf' with ⟨y, e1, e2, e3⟩ | ⟨b, e1, e2, e3⟩
  ·refine .inl ⟨y, Heap.get?_push_of_some _ e1, e2, fun a ha => ?_⟩
   rcases cs a ha with ha | rfl
   ·rw [old_ a ha]; exact e3 a ha
   ·rw [new_]; exact fun q => absurd (Heap.lt_size e1) (by rw [q]; exact Nat.lt_irrefl _)
  ·exact .inr ⟨b, e1, Nat.lt_succ_of_lt e2, by rw [old_ b e2]; exact e3⟩
theorem RepR.update (D : RepR kt bf bo h₀ m₀ Y h T m s) {b : Nat} {x : Obj} {f : Obj → Obj} (e : T.get b = some x) (hf : (f x).isFreed = false) : RepR kt bf bo h₀ m₀ Y (h.update (Y.adr b) f) (T.set b f) m s := by
 have z := D.own b x e
 have hs : Heap.SameBut (Y.adr b) h (h.update (Y.adr b) f) := Heap.SameBut.update ..
 refine ⟨fun j y e' => ?_, D.inj, fun a ha => by rw [hs.1]; exact D.lt a ha, fun c y e' => (hs.2 c fun q => ?_).trans (D.base c y e'), D.off, fun c y e' n w => (hs.2 c fun q => ?_).trans (D.keep c y e' n w), fun c y e' n w => (D.frk c y e' n w).imp fun _ z' => (hs.2 c fun q => ?_).trans z', D.new, D.low, by rw [hs.1]; exact D.size, fun f' hf' => ?_⟩
 ·rw [BT.get_set] at e'
  by_cases hj : j = b
  ·subst hj
   rw [if_pos rfl, e] at e'
   cases e'
   exact ⟨z.1, by first | exact Heap.get?_update_self f z.2 hf | exact Heap.get?_update_self _ z.2 hf⟩
  ·rw [if_neg hj] at e'
   have y' := D.own j y e'
   exact ⟨y'.1, (hs.2 _ fun q => hj (D.inj j b y'.1 z.1 q)).trans y'.2⟩
 ·have := D.off b z.1
  rw [← q, e'] at this
  cases this
 ·by_cases hb : b < m₀
  ·exact n b hb q.symm
  ·have h1 := D.new b (by omega) z.1
   have h2 := Heap.lt_size e'
   rw [q] at h2
   exact absurd (Nat.lt_of_lt_of_le h2 h1) (Nat.lt_irrefl _)
 ·by_cases hb : b < m₀
  ·exact n b hb q.symm
  ·have h1 := D.new b (by omega) z.1
   have h2 := Heap.lt_size e'
   rw [q] at h2
   exact absurd (Nat.lt_of_lt_of_le h2 h1) (Nat.lt_irrefl _)
 ·exact (D.bfr f' hf').imp (fun ⟨y, e1, e2, e3⟩ => ⟨y, (hs.2 _ fun q => e3 b z.1 q.symm).trans e1, e2, e3⟩) fun y => y
structure NoteRel (h h' : Heap) : Prop where
 same : ∀ b x, h.get? b = some x → isFr x = false → h'.get? b = some x
 fr : ∀ b x, h.get? b = some x → isFr x = true → ∃ sl, h'.get? b = some { x with slots := sl }
 size : h.objs.size ≤ h'.objs.size
noncomputable def slOf (Y : Dyn) (h' : Heap) : Nat → Array (Option Value) := fun j => match h'.get? (Y.adr j) with | some x => x.slots | none => #[]
end
theorem nth_mem {α : Type} : ∀ (l : List α) (n : Nat) (x : α), nth l n = some x → x ∈ l
 | x :: l, 0, y, h => by cases h; exact .head _
 | x :: l, n + 1, y, h => .tail _ (nth_mem l n y h)
 | [], n, y, h => by cases n <;> cases h
noncomputable def FrOk (A : Around) (h : Heap) : Prop := ∃ es, A.frames = some es ∧ ∀ env ∈ es, notModule env = true ∧ ∃ f x, env.frame = some f ∧ h.get? f = some x ∧ isFr x = true
theorem frOk_ok {Y : Dyn} {T : BT} : ∀ {es : List Env} {ce : List Nat} {r : List (Nat × Nat) × List Nat}, frOk Y T es ce = some r → (∀ q ∈ r.1, q.1 = q.2) →
  ∀ env ∈ es, notModule env = true ∧ ∃ f b x, env.frame = some f ∧ f = Y.adr b ∧ T.get b = some x ∧ isFr x = true
 | [], _, _, _, _, env, he => nomatch he
 | e :: es, ce, r, h, hq, env, he => by
  unfold frOk at h
  split at h
  ·cases h
  ·rename_i f hf
   split at h
   ·cases h
   ·rename_i x' ce'
    split at h
    ·cases h
    ·rename_i b
     split at h
     ·cases h
     ·rename_i hb
      split at h
      ·cases h
      ·rename_i r' hr
       cases h
       obtain ⟨h1, h2⟩ := Bool.and_eq_true_iff.mp hb
       cases he with
       | head =>
        refine ⟨h1, f, b, ?_⟩
        unfold frIs at h2
        cases q : T.get b with
        | none => rw [q] at h2; cases h2
        | some x =>
         rw [q] at h2
         exact ⟨x, hf, hq (f, Y.adr b) (.head _), rfl, h2⟩
       | tail _ he => exact frOk_ok hr (fun q hq' => hq q (.tail _ hq')) env he
noncomputable def InFr (A : Around) (f : Addr) : Prop := ∃ es, A.frames = some es ∧ ∃ x ∈ es, x.frame = some f
theorem inFr_ok {cur : List Addr} {es : List Env} : ∀ {fs : List Addr} {ce : List Nat} {r : List (Nat × Nat) × List Nat}, inFr cur es fs ce = some r → (∀ q ∈ r.1, q.1 = q.2) → ∀ f ∈ fs, (∃ x ∈ es, x.frame = some f) ∨ f ∈ cur
 | [], _, _, _, _, f, hf => nomatch hf
 | f₁ :: fs, ce, r, h, hq, f, hf => by
  unfold inFr at h
  split at h
  ·cases h
  ·rename_i e ce'
   split at h
   ·cases h
   ·rename_i f0 hf0
    split at h
    ·cases h
    ·rename_i r' hr
     cases h
     cases hf with
     | tail _ hf => exact inFr_ok hr (fun q hq' => hq q (.tail _ hq')) f hf
     | head =>
      have e1 : f₁ = f0 := hq (f₁, f0) (.head _)
      rw [e1]
      split at hf0
      ·split at hf0
       ·rename_i env he
        exact .inl ⟨env, nth_mem _ _ _ he, hf0⟩
       ·cases hf0
      ·exact .inr (nth_mem _ _ _ hf0)
noncomputable def Op.tree : Op → Sem PySem.Fin
 | .cmp op a b => (compareOp op a b).bind fun v => .pure (.done (.ret v))
 | .note e env => (noteFrame e env).bind fun _ => .pure (.done .next)
 | .owned t it v => (letOwnedTupleGo t it v).bind fun _ => .pure (.done .next)
 | .test e env => (isTrue e env (eval e env)).bind fun b => .pure (.done (.ret (.bool b)))
 | .same a b => (eqBool a b).bind fun b => .pure (.done (.ret (.bool b)))
 | .iter x => (pyIter x).bind fun v => .pure (.done (.ret v))
 | .exec st env => (execs [st] env).bind fun f => .pure (.done f)
noncomputable def OutP := Except Value PySem.Fin → Shared → Prop
noncomputable def wpT (w : World) (A : Around) (c : Code) (t : Sem PySem.Fin) (Q : OutP) (s : Shared) : Prop := wpOwn (model pw w) A c t (fun fin s' => Q (.ok fin) s') (fun e s' => Q (.error e) s') s
noncomputable def bndQ (f : Result → Shared → Prop) : OutP := fun r s => match r with
 | .ok (.done x) => f (.ok x) s
 | .ok (.again _) => False
 | .error e => f (.error e) s
noncomputable def SPw (w : World) (A : Around) (c : Code) : SP → OutP → Shared → Prop
 | .tree t, Q, s => wpT w A c t Q s
 | .bnd p k, Q, s => SPw w A c p (bndQ fun r s' => SPw w A c (k r) Q s') s
 | .op o, Q, s => wpT w A c o.tree Q s
structure SVok (V : SV) (w : World) (A : Around) : Prop where
 den : V.den = denote table
 sp : ∀ c A Q s, SPw w A c (V.sp c) Q s → wpT w A c (denote table c) Q s
 entry : V.entry = entryTree
 wt : V.wt = Code.weight
 quiet : V.quiet = Code.quiet
 setting : V.setting = ⟨pw, w.params⟩
 hb : A.handled = V.hb
 room : A.depth + V.D ≤ recursionLimit
 lim : ∀ h : Heap, (∀ b x, V.kt.get b = some x → h.get? b = some x) → h.NoLimit
 ktf : ∀ b x, V.kt.get b = some x → isFr x = false
 fr : V.nt = true → ∃ es, A.frames = some es ∧ ∀ env ∈ es, notModule env = true ∧ ∃ f ∈ V.bf, env.frame = some f
 cur : ∀ f ∈ V.cur, InFr A f
noncomputable def AR (A : Around) : RK → Around
 | .base => A
 | .ret c hd _ _ _ κ => ((AR A κ).under c).mark hd
noncomputable def aft (w : World) (A : Around) (c : Code) (md : Bool) (R : Result → Shared → Prop) : List (Result → SP) → OutP
 | [], .ok fin, s => (md = true → s.heap.NoLimit) ∧ postC pw w A R fin s
 | [], .error e, s => postE R e s
 | k :: ks, r, s => bndQ (fun r s' => SPw w A c (k r) (aft w A c md R ks) s') r s
noncomputable def MeansP (w : World) (A : Around) (c : Code) (md : Bool) (ks : List (Result → SP)) (p : SP) (R : Result → Shared → Prop) (s : Shared) : Prop := SPw w A c p (aft w A c md R ks) s
noncomputable def endR (w : World) (A : Around) (R : Result → Shared → Prop) : RK → Result → Shared → Prop
 | .base => R
 | .ret c hd md k ks κ => fun r s' => MeansP w (AR A κ) c md ks (.tree (k r)) (endR w A R κ) s'
theorem AR_handled {A : Around} {hb : Option Value} (e : A.handled = hb) : ∀ κ, (AR A κ).handled = kHandled hb κ
 | .base => e
 | .ret c hd _ _ _ κ => by
  show hd.or ((AR A κ).under c).handled = hd.or (kHandled hb κ)
  rw [← AR_handled e κ]; rfl
theorem AR_depth {A : Around} : ∀ κ, (AR A κ).depth = A.depth + kDepth Code.weight κ
 | .base => rfl
 | .ret c hd _ _ _ κ => by
  show (AR A κ).depth + c.weight = A.depth + (c.weight + kDepth Code.weight κ)
  rw [AR_depth κ]; omega
theorem fr_d {c : Prop} [Decidable c] {n : Nat} {a : c → Nat} {b : ¬c → Nat} (ha : ∀ h, a h ≤ n) (hb : ∀ h, b h ≤ n) : dite c a b ≤ n := by
 by_cases h : c
 ·rw [dif_pos h]; exact ha h
 ·rw [dif_neg h]; exact hb h
theorem fr_i (c : Code) : (if c.isFrame = true then 1 else 0) ≤ 3 := by split <;> decide
theorem frames_le (c : Code) : c.frames ≤ 3 := by
 unfold Code.frames Code.frames.match_1
 cases c with
 | builtin id args =>
  dsimp only
  repeat (refine fr_d (fun h => by subst h; first | exact (by decide : 2 ≤ 3) | exact (by decide : 3 ≤ 3) | exact (by decide : 1 ≤ 3)) fun h => ?_)
  exact fr_i _
 | _ => exact fr_i _
theorem units_le (c : Code) : c.cUnits ≤ 10 := by
 have := frames_le c
 unfold Code.cUnits
 split <;> omega
theorem AR_units {A : Around} : ∀ κ, (AR A κ).units ≤ A.units + 10 * kLen κ
 | .base => Nat.le_refl _
 | .ret c hd _ _ _ κ => by
  show (AR A κ).units + c.cUnits ≤ A.units + 10 * (kLen κ + 1)
  have := AR_units (A := A) κ
  have := units_le c
  omega
theorem AR_frames {A : Around} {es : List Env} (e : A.frames = some es) : ∀ κ, (AR A κ).frames = some (kEnvs κ ++ es)
 | .base => e
 | .ret c hd _ _ _ κ => by
  show pushEnvs c.envs (AR A κ).frames = some (c.envs ++ kEnvs κ ++ es)
  rw [AR_frames e κ, pushEnvs_eq]
  simp
structure Sub (out : Out) (qa : List (Nat × Nat)) (qo : List (Option Obj × Option Obj)) (qc : List (Tgt × Tgt)) : Prop where
 a : ∀ q ∈ qa, q ∈ out.qa
 o : ∀ q ∈ qo, q ∈ out.qo
 c : ∀ q ∈ qc, q ∈ out.qc
theorem Sub.consA {out : Out} {q qa qo qc} (s : Sub out (q :: qa) qo qc) : Sub out qa qo qc := ⟨fun x hx => s.a x (List.mem_cons_of_mem _ hx), s.o, s.c⟩
theorem Sub.hook {out : Out} {qa' q qa qo qo' qc} (s : Sub out (qa' ++ qa) (qo' ++ qo) (q :: qc)) : Sub out qa qo qc := ⟨fun x hx => s.a x (List.mem_append_right _ hx), fun x hx => s.o x (List.mem_append_right _ hx), fun x hx => s.c x (List.mem_cons_of_mem _ hx)⟩
theorem simR_mono (V : SV) (Y : Dyn) : ∀ (n : Nat) (ce : List Nat) (md : Bool) (c : Code) (κ : RK) (ks : List (Result → SP)) (p : SP) (T : BT) (m i j s : Nat) (qa : List (Nat × Nat)) (qo : List (Option Obj × Option Obj)) (qc : List (Tgt × Tgt)) (out : Out),
  simR V Y n ce md c κ ks p T m i j s qa qo qc = some out → Sub out qa qo qc := by
 intro n
 induction n with
 | zero => intro ce md c κ ks p T m i j s qa qo qc out h; simp [simR] at h
 | succ n ih =>
  intro ce md c κ ks p T m i j s qa qo qc out h
  cases p with
  | tree t =>
   cases t <;> simp only [simR] at h
   all_goals (repeat' (split at h))
   all_goals first
    | (cases h; done)
    | exact ih _ _ _ _ _ _ _ _ _ _ _ _ _ _ _ h
    | exact (ih _ _ _ _ _ _ _ _ _ _ _ _ _ _ _ h).consA
    | exact (ih _ _ _ _ _ _ _ _ _ _ _ _ _ _ _ h).hook
    | (cases h; exact ⟨fun _ x => x, fun _ x => x, fun _ x => x⟩)
  | bnd p k =>
   simp only [simR] at h
   split at h
   ·cases h
   ·exact ih _ _ _ _ _ _ _ _ _ _ _ _ _ _ _ h
  | op o =>
   simp only [simR] at h
   repeat' (split at h)
   all_goals first
    | (cases h; done)
    | exact (ih _ _ _ _ _ _ _ _ _ _ _ _ _ _ _ h).hook
structure GP where
 p : Array GenState → Drawn → OsState → Prop
 n : Nat
 up : Bool
 any : Bool := false
 t0 : Nat := 0
noncomputable def GP.tk (gp : GP) (tok t : Nat) : Prop := gp.n < t ∧ (gp.up = true → t < tok)
noncomputable def GP.le (gp : GP) (tok tok' : Nat) : Prop := gp.up = true → tok ≤ tok'
theorem GP.tk.le {gp : GP} {tok tok' t : Nat} (h : gp.tk tok t) (l : gp.le tok tok') : gp.tk tok' t := ⟨h.1, fun u => Nat.lt_of_lt_of_le (h.2 u) (l u)⟩
theorem GP.tk0 {gp : GP} {tok t : Nat} (h : gp.up = false) (l : gp.n < t) : gp.tk tok t := ⟨l, fun u => by rw [h] at u; cases u⟩
theorem GP.le0 {gp : GP} {tok t : Nat} (h : gp.up = false) : gp.le tok t := fun u => by rw [h] at u; cases u
noncomputable def GP.cnt (gp : GP) (i tok : Nat) : Prop := (gp.any = true → tok = gp.t0 + i) ∧ (gp.any = false → gp.n < tok)
noncomputable def GP.tks (gp : GP) (i tok : Nat) (tk : Nat → Nat) : Prop := (gp.any = true → ∀ x, x < i → tk x = gp.t0 + x) ∧ (gp.any = false → ∀ x, x < i → gp.tk tok (tk x))
theorem GP.cnt_of {gp : GP} {i tok : Nat} (na : gp.any = false) (h : gp.n < tok) : gp.cnt i tok := ⟨fun q => (by rw [na] at q; cases q), fun _ => h⟩
theorem GP.tks_of {gp : GP} {i tok : Nat} {tk : Nat → Nat} (na : gp.any = false) (h : ∀ x, x < i → gp.tk tok (tk x)) : gp.tks i tok tk := ⟨fun q => (by rw [na] at q; cases q), fun _ => h⟩
theorem GP.tks_zero {gp : GP} {tok : Nat} {tk : Nat → Nat} : gp.tks 0 tok tk := ⟨fun _ _ h => absurd h (Nat.not_lt_zero _), fun _ _ h => absurd h (Nat.not_lt_zero _)⟩
noncomputable def Good (V : SV) (w : World) (A : Around) (h₀ : Heap) (m₀ : Nat) (gp : GP) (R : Result → Shared → Prop) (Y : Dyn) (out : Out) : Prop :=
 (∀ q ∈ out.qa, q.1 = q.2) ∧ (∀ q ∈ out.qo, q.1 = q.2) ∧ (∀ q ∈ out.qc, q.1 = q.2) ∧ ∀ h t g d os, gp.cnt out.i t → gp.tks out.i t Y.tk → gp.p g d os → RepR V.kt V.bf V.bo h₀ m₀ Y h out.T out.m out.s →
  match out.fin with | .res r => R r ⟨h, g, d, t, os⟩ | .cut c => codeAny (model pw w) A c R ⟨h, g, d, t, os⟩ | .call c c' hd md k ks => codeAny (model pw w) ((A.under c).mark hd) c' (fun r s' => MeansP w A c md ks (.tree (k r)) R s') ⟨h, g, d, t, os⟩
noncomputable def TgtOk (w : World) (A : Around) (R : Result → Shared → Prop) (s : Shared) : Tgt → Prop
 | .code c => codeAny (model pw w) A c R s
 | .op o => wpAny (model pw w) A o.tree (fun fin s' => ∃ f, fin = .done f ∧ R (.ok f) s') (fun e s' => R (.error e) s') s
noncomputable def T1 (n : Bool) (Y : Dyn) (s : Nat) (T : BT) : BT := match n with | true => noted (Y.sl s) T | false => T
noncomputable def s1 (n : Bool) (s : Nat) : Nat := match n with | true => s + 1 | false => s
structure HooksOk (V : SV) (w : World) (A : Around) (h₀ : Heap) (m₀ : Nat) (gp : GP) : Prop where
 loc : ∀ x m i s Y Y' H, nth (V.hooks m i s Y) x = some H → (∀ a, a < m + H.news.length → Y'.adr a = Y.adr a) → (∀ a, a < i + H.toks → Y'.tk a = Y.tk a) → (∀ a, a < s1 H.noting s → Y'.sl a = Y.sl a ∧ Y'.pl a = Y.pl a) → nth (V.hooks m i s Y') x = some H
 ok : ∀ x (Y : Dyn) (H : Hook) (T : BT) (m i j s : Nat) (h : Heap) (tok : Nat) (g : Array GenState) (d : Drawn) (os : OsState) (A' : Around) (R' : Result → Shared → Prop), nth (V.hooks m i s Y) x = some H →
  A'.depth < A.depth + V.D → (H.noH = true → A'.handled = none) → (H.un = true → A'.units < A.units + V.U) → (H.noting = true → FrOk A' h ∧ ∀ f ∈ H.frs, InFr A' f) → gp.n < tok → (∀ x, x < i → gp.tk tok (Y.tk x)) → gp.p g d os →
  RepR V.kt V.bf V.bo h₀ m₀ Y h T m s → (∀ q ∈ asks T H.pre, q.1 = q.2) →
  (∀ Y' H', Agree Y Y' m i j s → nth (V.hooks m i s Y') x = some H' → H'.noting = H.noting → (insAll H'.news (setAll H'.post (T1 H.noting Y' s T)) m).isSome = true) →
  (∀ Y' h' tok' g' d' os' H' r, Agree Y Y' m i j s → nth (V.hooks m i s Y') x = some H' → H'.noting = H.noting → insAll H'.news (setAll H'.post (T1 H.noting Y' s T)) m = some r → RepR V.kt V.bf V.bo h₀ m₀ Y' h' r.1 r.2 (s1 H.noting s) → gp.n < tok' → (∀ x, x < i + H'.toks → gp.tk tok' (Y'.tk x)) → gp.p g' d' os' → R' H'.res ⟨h', g', d', tok', os'⟩) →
  TgtOk w A' R' ⟨h, g, d, tok, os⟩ H.tgt
theorem insAll_le : ∀ {l : List Obj} {T : BT} {m : Nat} {r : BT × Nat}, insAll l T m = some r → m ≤ r.2
 | [], _, _, _, h => by cases h; exact Nat.le_refl _
 | x :: l, T, m, r, h => by
  unfold insAll at h
  split at h
  ·exact Nat.le_of_succ_le (insAll_le h)
  ·cases h
theorem insAll_get0 : ∀ (l : List Obj) (T : BT) (m : Nat) (r : BT × Nat), insAll l T m = some r → r.2 = m + l.length
 | [], _, _, _, h => by cases h; rfl
 | x :: l, T, m, r, h => by
  unfold insAll at h
  split at h
  ·rw [insAll_get0 l _ _ r h]; simp only [List.length_cons]; omega
  ·cases h
theorem kt_codeRec {kt : KT} {h : Heap} (B : ∀ b x, kt.get b = some x → h.get? b = some x) {cd : Value} {q : Str} (e : codeOk kt cd q = true) : h.CodeRec cd q := by
 unfold codeOk at e
 split at e
 ·split at e
  ·rename_i vs _ ho
   split at e
   ·rename_i a n t r hv
    exact ⟨_, _, vs, t, rfl, B _ _ ho, rfl, by rw [← Array.getElem?_toList, hv, ← of_decide_eq_true e]; rfl⟩
   ·cases e
  ·cases e
 ·cases e
noncomputable def resOf : Result → Except Value PySem.Fin
 | .ok f => .ok (.done f)
 | .error e => .error e
theorem bndQ_res (f : Result → Shared → Prop) (r : Result) (s : Shared) : bndQ f (resOf r) s ↔ f r s := by cases r <;> exact Iff.rfl
theorem prep_f {V : SV} {Y : Dyn} {frs : List Addr} {es : List Env} {ce : List Nat} {T : BT} {s : Nat} {P : Prep} (h : prep V Y false frs es ce T s = some P) : P = ⟨T, [], ce, s⟩ := by cases h; rfl
theorem prep_t {V : SV} {Y : Dyn} {frs : List Addr} {es : List Env} {ce : List Nat} {T : BT} {s : Nat} {P : Prep} (h : prep V Y true frs es ce T s = some P) :
  V.nt = true ∧ V.bo.all (frIs T) = true ∧ ∃ r, frOk Y T es ce = some r ∧ ∃ r', inFr V.cur es frs r.2 = some r' ∧ P = ⟨noted (Y.sl s) T, r'.1 ++ r.1, r'.2, s + 1⟩ := by
 unfold prep at h
 dsimp only at h
 split at h
 ·cases h
 ·rename_i q
  split at h
  ·cases h
  ·rename_i r hr
   split at h
   ·cases h
   ·rename_i r' hr'
    cases h
    obtain ⟨q1, q2⟩ := Bool.and_eq_true_iff.mp q
    exact ⟨q1, q2, r, hr, r', hr', rfl⟩
theorem prep_T {V : SV} {Y : Dyn} {n : Bool} {frs : List Addr} {es : List Env} {ce : List Nat} {T : BT} {s : Nat} {P : Prep} (h : prep V Y n frs es ce T s = some P) : P.T = T1 n Y s T ∧ P.s = s1 n s := by
 cases n with
 | false => rw [prep_f h]; exact ⟨rfl, rfl⟩
 | true => obtain ⟨_, _, r, _, r', _, e⟩ := prep_t h; rw [e]; exact ⟨rfl, rfl⟩
theorem frOk_congr {Y Y' : Dyn} {T : BT} {m : Nat} (hT : ∀ j x, T.get j = some x → j < m) (a : ∀ a, a < m → Y'.adr a = Y.adr a) : ∀ (es : List Env) (ce : List Nat), frOk Y' T es ce = frOk Y T es ce
 | [], _ => rfl
 | e :: es, ce => by
  unfold frOk
  cases e.frame with
  | none => rfl
  | some f =>
   cases ce with
   | nil => rfl
   | cons x ce =>
    cases x with
    | zero => rfl
    | succ b =>
     dsimp only
     cases q : (notModule e && frIs T b) with
     | false => rfl
     | true =>
      dsimp only
      rw [frOk_congr hT a es ce]
      have : b < m := by
       have := (Bool.and_eq_true_iff.mp q).2
       unfold frIs at this
       cases z : T.get b with
       | none => rw [z] at this; cases this
       | some x => exact hT b x z
      rw [a b this]
theorem prep_congr {V : SV} {Y Y' : Dyn} {T : BT} {m s : Nat} {n : Bool} {frs : List Addr} {es : List Env} {ce : List Nat} (hT : ∀ j x, T.get j = some x → j < m) (a : ∀ a, a < m → Y'.adr a = Y.adr a) (hs : n = true → Y'.sl s = Y.sl s) : prep V Y' n frs es ce T s = prep V Y n frs es ce T s := by
 cases n with
 | false => rfl
 | true =>
  unfold prep
  dsimp only
  rw [frOk_congr hT a, hs rfl]
section
variable {V : SV} {w : World} {A : Around} (O : SVok V w A) {h₀ : Heap} {m₀ : Nat} {gp : GP} {R : Result → Shared → Prop}
include O
theorem begin_ok {κ : RK} {e : Nat} {c : Code} {r : Bool × SP} (hb : begin_ V κ e c = some r) {s : Shared} (B : ∀ b x, V.kt.get b = some x → s.heap.get? b = some x)
  (hm : MeansP w (AR A κ) c r.1 [] r.2 (endR w A R κ) s) : codeAny (model pw w) (AR A κ) c (endR w A R κ) s := by
 refine y_code pw w (AR A κ) _ _ c ?_
 unfold begin_ at hb
 split at hb
 ·cases hb
  have hm : wpOwn (model pw w) (AR A κ) c (V.den c) _ _ s := hm
  rw [O.den] at hm
  exact wpOwn_mono hm (fun _ _ x => x.2) fun _ _ x => x
 ·split at hb
  ·split at hb
   ·split at hb
    ·rename_i ob hk
     split at hb
     split at hb
     ·rename_i fd
      split at hb
      ·cases hb
      ·rename_i hcg
       split at hb
       ·rename_i body hbody
        split at hb
        ·rename_i hck
         cases hb
         obtain ⟨h1, h2⟩ := Bool.and_eq_true_iff.mp hck
         obtain ⟨h3, h4⟩ := Bool.or_eq_false_iff.mp hcg
         have hd : (AR A κ).depth < recursionLimit := by
          have := blt_true h2
          have hr := O.room
          rw [AR_depth κ]
          rw [O.wt] at this
          omega
         refine own_entry hd (B _ _ hk) rfl h3 h4 hbody (kt_codeRec B h1) ?_
         have hm : wpOwn (model pw w) (AR A κ) _ (V.entry _ _ _ _) _ _ s := hm
         rw [O.entry] at hm
         exact wpOwn_mono hm (fun _ _ x => ⟨x.1 rfl, x.2⟩) fun _ _ x => x
        ·cases hb
       ·cases hb
     ·cases hb
    ·cases hb
   ·cases hb
  ·cases hb
 ·cases hb
  have := O.sp c (AR A κ) _ s hm
  exact wpOwn_mono this (fun _ _ x => x.2) fun _ _ x => x
theorem frOk_all (κ : RK) {Y : Dyn} {T : BT} {m s : Nat} {h : Heap} {ce : List Nat} {frs : List Addr} {P : Prep} (D : RepR V.kt V.bf V.bo h₀ m₀ Y h T m s) (hp : prep V Y true frs (kEnvs κ) ce T s = some P) (hq : ∀ q ∈ P.qa, q.1 = q.2) : FrOk (AR A κ) h ∧ ∀ f ∈ frs, InFr (AR A κ) f := by
 obtain ⟨q1, q2, r, hr, r', hr', e⟩ := prep_t hp
 obtain ⟨es, e1, e2⟩ := O.fr q1
 rw [e] at hq
 have hq' : ∀ q ∈ r'.1, q.1 = q.2 := fun q h => hq q (List.mem_append_left _ h)
 have hq : ∀ q ∈ r.1, q.1 = q.2 := fun q h => hq q (List.mem_append_right _ h)
 refine ⟨?_, fun f hf => ?_⟩
 case refine_2 =>
  rcases inFr_ok hr' hq' f hf with ⟨x, hx, hxf⟩ | hc
  ·exact ⟨_, AR_frames e1 κ, x, List.mem_append_left _ hx, hxf⟩
  ·obtain ⟨es', e', x, hx, hxf⟩ := O.cur f hc
   rw [e1] at e'
   cases e'
   exact ⟨_, AR_frames e1 κ, x, List.mem_append_right _ hx, hxf⟩
 refine ⟨_, AR_frames e1 κ, fun env he => ?_⟩
 rcases List.mem_append.mp he with he | he
 ·obtain ⟨z, f, b, x, z1, z2, z3, z4⟩ := frOk_ok hr hq env he
  exact ⟨z, f, x, z1, by rw [z2]; exact (D.own b x z3).2, z4⟩
 ·obtain ⟨z, f, hf, z1⟩ := e2 env he
  rcases D.bfr f hf with ⟨x, y1, y2, _⟩ | ⟨b, y1, _, y3⟩
  ·exact ⟨z, f, x, z1, y1, y2⟩
  ·have := List.all_eq_true.mp q2 b y1
   unfold frIs at this
   cases q : T.get b with
   | none => rw [q] at this; cases this
   | some x =>
    rw [q] at this
    exact ⟨z, f, x, z1, by rw [← y3]; exact (D.own b x q).2, this⟩
noncomputable def backR (V : SV) (Y : Dyn) (n : Nat) (ce : List Nat) (md : Bool) (c : Code) (κ : RK) (ks : List (Result → SP)) (r : Result) (T : BT) (m i j s : Nat) (qa : List (Nat × Nat)) (qo : List (Option Obj × Option Obj)) (qc : List (Tgt × Tgt)) : Option Out := match ks with
 | k :: ks' => simR V Y n ce md c κ ks' (k r) T m i j s qa qo qc
 | [] => match κ with
  | .base => some ⟨qa, qo, qc, .res r, T, m, s, i⟩
  | .ret c' _ md' k ks' κ' => simR V Y n ce md' c' κ' ks' (.tree (k r)) T m i j s qa qo qc
theorem simR_sound (K : HooksOk V w A h₀ m₀ gp) (hany : gp.any = true → ∀ m i s Y, V.hooks m i s Y = []) : ∀ (n : Nat) (ce : List Nat) (md : Bool) (c : Code) (κ : RK) (ks : List (Result → SP)) (p : SP) (T : BT) (m i j s : Nat) (qa : List (Nat × Nat)) (qo : List (Option Obj × Option Obj)) (qc : List (Tgt × Tgt)) (Y : Dyn) (h : Heap) (tok : Nat) (g : Array GenState) (d : Drawn) (os : OsState), gp.cnt i tok → gp.tks i tok Y.tk → gp.p g d os →
  (∀ Y', Agree Y Y' m i j s → ∃ out, simR V Y' n ce md c κ ks p T m i j s qa qo qc = some out ∧ Good V w A h₀ m₀ gp R Y' out) → RepR V.kt V.bf V.bo h₀ m₀ Y h T m s → MeansP w (AR A κ) c md ks p (endR w A R κ) ⟨h, g, d, tok, os⟩ := by
 intro n
 induction n with
 | zero => intro ce md c κ ks p T m i j s qa qo qc Y h tok g d os h1 hy gg H D; obtain ⟨_, e, _⟩ := H Y (.refl ..); simp [simR] at e
 | succ n ih =>
  intro ce md c κ ks p T m i j s qa qo qc Y h tok g d os h1 hy gg H D
  have back : ∀ r : Result, (md = true → ks = [] ∧ ∃ e, r = .error e) → (∀ Y', Agree Y Y' m i j s → ∃ out, backR V Y' n ce md c κ ks r T m i j s qa qo qc = some out ∧ Good V w A h₀ m₀ gp R Y' out) →
    aft w (AR A κ) c md (endR w A R κ) ks (resOf r) ⟨h, g, d, tok, os⟩ := by
   intro r hmd Hr
   cases ks with
   | nil =>
    have key : endR w A R κ r ⟨h, g, d, tok, os⟩ := by
     cases κ with
     | base =>
      obtain ⟨out, e, G⟩ := Hr Y (.refl ..)
      cases e
      exact G.2.2.2 h tok g d os h1 hy gg D
     | ret c' hd md' k ks' κ' => exact ih _ _ _ _ _ _ _ _ _ _ _ _ _ _ Y h tok g d os h1 hy gg Hr D
    cases r with
    | ok f => exact ⟨fun q => (by obtain ⟨_, e, he⟩ := hmd q; cases he), key⟩
    | error e => exact key
   | cons k ks' =>
    show bndQ _ (resOf r) _
    rw [bndQ_res]
    exact ih _ _ _ _ _ _ _ _ _ _ _ _ _ _ Y h tok g d os h1 hy gg Hr D
  have hooked : ∀ (x : Nat) (Hk : Hook) (ce : List Nat) (c₀ : Code) (hd : Option Value) (k₀ : Result → Sem PySem.Fin) (gt : Tgt) (go : Result → SP),
    nth (V.hooks m i s Y) x = some Hk →
    (∀ Y', Agree Y Y' m i j s → ∀ Hk', nth (V.hooks m i s Y') x = some Hk' → ∃ out, (match Nat.blt (kDepth V.wt (.ret c hd md k₀ ks κ)) V.D && (!Hk'.noH || (kHandled V.hb (.ret c hd md k₀ ks κ)).isNone) && (!Hk'.un || Nat.blt (10 * kLen (.ret c hd md k₀ ks κ)) V.U) with
     | false => none
     | true => match prep V Y' Hk'.noting Hk'.frs (c.envs ++ kEnvs κ) ce T s with
      | none => none
      | some P => match insAll Hk'.news (setAll Hk'.post P.T) m with
       | none => none
       | some r => simR V Y' n P.ce md c κ ks (go Hk'.res) r.1 r.2 (i + Hk'.toks) j P.s (P.qa ++ qa) (asks T Hk'.pre ++ qo) ((gt, Hk'.tgt) :: qc)) = some out ∧ Good V w A h₀ m₀ gp R Y' out) →
    TgtOk w ((AR A κ).under c |>.mark hd) (fun r s' => MeansP w (AR A κ) c md ks (go r) (endR w A R κ) s') ⟨h, g, d, tok, os⟩ gt := by
   intro x Hk ce c₀ hd k₀ gt go hn H2
   obtain ⟨out, e, G⟩ := H2 Y (.refl ..) Hk hn
   split at e
   ·cases e
   ·rename_i hck
    split at e
    ·cases e
    ·rename_i P hP
     split at e
     ·cases e
     ·rename_i r hr
      obtain ⟨c1, c3⟩ := Bool.and_eq_true_iff.mp hck
      obtain ⟨c1, c2⟩ := Bool.and_eq_true_iff.mp c1
      have S := simR_mono V Y _ _ _ _ _ _ _ _ _ _ _ _ _ _ _ _ e
      have ec : gt = Hk.tgt := G.2.2.1 (gt, Hk.tgt) (S.c _ (.head _))
      have eo : ∀ q ∈ asks T Hk.pre, q.1 = q.2 := fun q hq => G.2.1 q (S.o q (List.mem_append_left _ hq))
      have ea : ∀ q ∈ P.qa, q.1 = q.2 := fun q hq => G.1 q (S.a q (List.mem_append_left _ hq))
      rw [ec]
      have na : gp.any = false := by
       cases q : gp.any with
       | false => rfl
       | true =>
        rw [hany q] at hn
        cases x <;> cases hn
      refine K.ok x Y Hk T m i j s h tok g d os _ _ hn ?_ (fun hh => ?_) (fun hh => ?_) (fun hh => ?_) (h1.2 na) (hy.2 na) gg D eo (fun Y' H' a' hn' hno => ?_) fun Y' h' tok' g' d' os' H' r' a' hn' hno hr' D' h1' hy' gg' => ?_
      ·have := blt_true c1
       show (AR A (.ret c hd md k₀ ks κ)).depth < _
       rw [AR_depth (.ret c hd md k₀ ks κ)]
       rw [O.wt] at this
       omega
      ·show (AR A (.ret c hd md k₀ ks κ)).handled = none
       rw [AR_handled O.hb (.ret c hd md k₀ ks κ)]
       rw [hh] at c2
       simpa using c2
      ·have := AR_units (A := A) (.ret c hd md k₀ ks κ)
       rw [hh] at c3
       have c3 := blt_true (by simpa using c3)
       show (AR A (.ret c hd md k₀ ks κ)).units < _
       omega
      ·rw [hh] at hP
       exact frOk_all O (.ret c hd md k₀ ks κ) D hP ea
      ·obtain ⟨out', e', G'⟩ := H2 Y' a' H' hn'
       split at e'
       ·cases e'
       ·split at e'
        ·cases e'
        ·rename_i P' hP'
         have hPT := prep_T hP'
         rw [hno] at hPT
         rw [hPT.1] at e'
         cases hi : insAll H'.news (setAll H'.post (T1 Hk.noting Y' s T)) m with
         | none => rw [hi] at e'; cases e'
         | some r => rfl
      ·
       obtain ⟨out', e', G'⟩ := H2 Y' a' H' hn'
       split at e'
       ·cases e'
       ·rename_i hck'
        split at e'
        ·cases e'
        ·rename_i P' hP'
         have hPT := prep_T hP'
         rw [hno] at hPT
         rw [hPT.1, hr'] at e'
         have e' : simR V Y' n P'.ce md c κ ks (go H'.res) r'.1 r'.2 (i + H'.toks) j P'.s (P'.qa ++ qa) (asks T H'.pre ++ qo) ((gt, H'.tgt) :: qc) = some out' := e'
         have hl : r'.2 = m + H'.news.length := (insAll_get0 _ _ _ _ hr')
         refine ih P'.ce md c κ ks (go H'.res) r'.1 r'.2 (i + H'.toks) j P'.s (P'.qa ++ qa) (asks T H'.pre ++ qo) ((gt, H'.tgt) :: qc) Y' h' tok' g' d' os' (GP.cnt_of na h1') (GP.tks_of na hy') gg' (fun Y'' a'' => ?_) (by rw [hPT.2]; exact D')
         rw [hPT.2] at a''
         have hsl : s ≤ s1 Hk.noting s := by unfold s1; split <;> omega
         have hn'' := K.loc x m i s Y' Y'' H' hn' (fun b hb => a''.adr b (hl ▸ hb)) (fun b hb => a''.tk b hb) (fun b hb => by rw [hno] at hb; exact ⟨a''.sl b hb, a''.pl b hb⟩)
         obtain ⟨out'', e'', G''⟩ := H2 Y'' (a'.trans a'' (insAll_le hr') (Nat.le_add_right _ _) (Nat.le_refl _) hsl) H' hn''
         have hpc : prep V Y'' H'.noting H'.frs (c.envs ++ kEnvs κ) ce T s = some P' := by
          rw [← hP']
          refine prep_congr (m := m) (fun j x e => (D.own j x e).1) (fun b hb => a''.adr b (Nat.lt_of_lt_of_le hb (insAll_le hr'))) fun q => a''.sl s (by rw [← hno, q]; exact Nat.lt_succ_self s)
         rw [hck', hpc] at e''
         have e'' : (match insAll H'.news (setAll H'.post P'.T) m with
          | none => none
          | some r => simR V Y'' n P'.ce md c κ ks (go H'.res) r.1 r.2 (i + H'.toks) j P'.s (P'.qa ++ qa) (asks T H'.pre ++ qo) ((gt, H'.tgt) :: qc)) = some out'' := e''
         rw [hPT.1, hr'] at e''
         exact ⟨out'', e'', G''⟩
  cases p with
  | bnd p k =>
   cases md with
   | true => obtain ⟨_, e, _⟩ := H Y (.refl ..); simp [simR] at e
   | false => exact ih ce false c κ (k :: ks) p T m i j s qa qo qc Y h tok g d os h1 hy gg (fun Y' a => by obtain ⟨out, e, G⟩ := H Y' a; simp only [simR] at e; exact ⟨out, e, G⟩) D
  | op o =>
   cases md with
   | true => obtain ⟨_, e, _⟩ := H Y (.refl ..); simp [simR] at e
   | false =>
    cases ce with
    | nil => obtain ⟨_, e, _⟩ := H Y (.refl ..); simp [simR] at e
    | cons e₀ ce =>
     cases hn : nth (V.hooks m i s Y) e₀ with
     | none => obtain ⟨_, e, _⟩ := H Y (.refl ..); simp [simR, hn] at e
     | some Hk =>
      have z := hooked e₀ Hk ce c none (fun _ => .pure (.done .next)) (.op o) (fun r => .tree (match r with | .ok f => .pure (.done f) | .error e => .raise e)) hn (fun Y' a Hk' hn' => by
       obtain ⟨out, e, G⟩ := H Y' a
       simp only [simR, hn'] at e
       exact ⟨out, e, G⟩)
      intro Γ p' hc hΓ
      have z : Sem.wp _ Γ o.tree _ _ p' _ := z Γ p' (hc ▸ hΓ.in)
      exact Sem.wp_mono _ Γ _ (fun fin p'' s' h' => by obtain ⟨f, rfl, hm⟩ := h'; exact hm Γ p'' hc hΓ) (fun e p'' s' h' => h' Γ p'' hc hΓ) _ _ z
  | tree t =>
   cases t with
   | pure fin =>
    cases fin with
    | done f =>
     cases md with
     | true => obtain ⟨_, e, _⟩ := H Y (.refl ..); simp [simR] at e
     | false => exact y_pure _ _ _ _ _ _ _ _ _ (back (.ok f) (fun q => by cases q) fun Y' a => by obtain ⟨out, e, G⟩ := H Y' a; simp only [simR] at e; exact ⟨out, e, G⟩)
    | again c' =>
     cases ks with
     | cons _ _ => obtain ⟨_, e, _⟩ := H Y (.refl ..); simp [simR] at e
     | nil =>
      cases ce with
      | nil => obtain ⟨_, e, _⟩ := H Y (.refl ..); simp [simR] at e
      | cons e₀ ce =>
       cases hq : V.quiet c' with
       | false => obtain ⟨_, e, _⟩ := H Y (.refl ..); simp [simR, hq] at e
       | true =>
        refine y_pure _ _ _ _ _ _ _ _ _ ⟨fun _ => O.lim _ D.base, y_again _ _ _ _ _ _ (by rw [← O.quiet]; exact hq) ?_⟩
        cases hx : Nat.beq e₀ 1001 with
        | true =>
         cases κ with
         | ret => obtain ⟨_, e, _⟩ := H Y (.refl ..); simp [simR, hq, hx] at e
         | base =>
          obtain ⟨out, e, G⟩ := H Y (.refl ..)
          simp only [simR, hq, hx] at e
          cases e
          exact G.2.2.2 h tok g d os h1 hy gg D
        | false =>
         cases hb : begin_ V κ e₀ c' with
         | none => obtain ⟨_, e, _⟩ := H Y (.refl ..); simp [simR, hq, hx, hb] at e
         | some r => exact begin_ok O hb D.base (ih ce r.1 c' κ [] r.2 T m i j s qa qo qc Y h tok g d os h1 hy gg (fun Y' a => by obtain ⟨out, e, G⟩ := H Y' a; simp only [simR, hq, hx, hb] at e; exact ⟨out, e, G⟩) D)
   | raise e =>
    refine y_raise _ _ _ _ _ _ _ _ _ (back (.error e) (fun q => ⟨?_, e, rfl⟩) fun Y' a => ?_)
    ·subst q
     cases ks with
     | nil => rfl
     | cons _ _ => obtain ⟨_, e, _⟩ := H Y (.refl ..); simp [simR] at e
    ·obtain ⟨out, e, G⟩ := H Y' a
     simp only [simR] at e
     cases md with
     | true =>
      cases ks with
      | nil => exact ⟨out, e, G⟩
      | cons _ _ => cases e
     | false => exact ⟨out, e, G⟩
   | rule tag k => exact y_skim _ _ _ _ _ _ _ _ _ 1 (ih _ _ _ _ _ (.tree (k ())) _ _ _ _ _ _ _ _ Y h tok g d os h1 hy gg (fun Y' a => by obtain ⟨out, e, G⟩ := H Y' a; simp only [simR] at e; exact ⟨out, e, G⟩) D)
   | «at» q k => exact y_skim _ _ _ _ _ _ _ _ _ 1 (ih _ _ _ _ _ (.tree (k ())) _ _ _ _ _ _ _ _ Y h tok g d os h1 hy gg (fun Y' a => by obtain ⟨out, e, G⟩ := H Y' a; simp only [simR] at e; exact ⟨out, e, G⟩) D)
   | point l k => exact y_skim _ _ _ _ _ _ _ _ _ 1 (ih _ _ _ _ _ (.tree (k ())) _ _ _ _ _ _ _ _ Y h tok g d os h1 hy gg (fun Y' a => by obtain ⟨out, e, G⟩ := H Y' a; simp only [simR] at e; exact ⟨out, e, G⟩) D)
   | ask k => exact y_skim _ _ _ _ _ _ _ _ _ 1 (ih _ _ _ _ _ (.tree (k ⟨pw, w.params⟩)) _ _ _ _ _ _ _ _ Y h tok g d os h1 hy gg (fun Y' a => by obtain ⟨out, e, G⟩ := H Y' a; simp only [simR, O.setting] at e; exact ⟨out, e, G⟩) D)
   | load a q k =>
    cases ce with
    | nil => obtain ⟨_, e, _⟩ := H Y (.refl ..); simp [simR] at e
    | cons e₀ ce =>
     cases e₀ with
     | zero =>
      cases hk : V.kt.get a with
      | none => obtain ⟨_, e, _⟩ := H Y (.refl ..); simp [simR, hk] at e
      | some x => exact y_load _ _ _ _ _ _ _ _ _ _ _ _ _ _ _ _ (D.base _ _ hk) (ih _ _ _ _ _ (.tree (k x)) _ _ _ _ _ _ _ _ Y h tok g d os h1 hy gg (fun Y' a' => by obtain ⟨out, e, G⟩ := H Y' a'; simp only [simR, hk] at e; exact ⟨out, e, G⟩) D)
     | succ b =>
      cases hk : T.get b with
      | none => obtain ⟨_, e, _⟩ := H Y (.refl ..); simp [simR, hk] at e
      | some x =>
       have hbm := (D.own b x hk).1
       have ea : a = Y.adr b := by
        obtain ⟨out, e, G⟩ := H Y (.refl ..)
        simp only [simR, hk] at e
        exact G.1 (a, Y.adr b) ((simR_mono V Y _ _ _ _ _ _ _ _ _ _ _ _ _ _ _ _ e).a _ (.head _))
       refine y_load _ _ _ _ _ _ _ _ _ _ _ _ _ _ _ _ (by rw [ea]; exact (D.own b x hk).2) (ih ce md c κ ks (.tree (k x)) T m i j s ((a, Y.adr b) :: qa) qo qc Y h tok g d os h1 hy gg (fun Y' a' => ?_) D)
       obtain ⟨out, e, G⟩ := H Y' a'
       simp only [simR, hk] at e
       rw [a'.adr b hbm] at e
       exact ⟨out, e, G⟩
   | loadIfAlive a k =>
    cases ce with
    | nil => obtain ⟨_, e, _⟩ := H Y (.refl ..); simp [simR] at e
    | cons e₀ ce =>
     cases e₀ with
     | zero =>
      cases hk : V.kt.get a with
      | none => obtain ⟨_, e, _⟩ := H Y (.refl ..); simp [simR, hk] at e
      | some x => exact y_alive _ _ _ _ _ _ _ _ _ _ _ _ _ _ _ (D.base _ _ hk) (ih _ _ _ _ _ (.tree (k (some x))) _ _ _ _ _ _ _ _ Y h tok g d os h1 hy gg (fun Y' a' => by obtain ⟨out, e, G⟩ := H Y' a'; simp only [simR, hk] at e; exact ⟨out, e, G⟩) D)
     | succ b =>
      cases hk : T.get b with
      | none => obtain ⟨_, e, _⟩ := H Y (.refl ..); simp [simR, hk] at e
      | some x =>
       have hbm := (D.own b x hk).1
       have ea : a = Y.adr b := by
        obtain ⟨out, e, G⟩ := H Y (.refl ..)
        simp only [simR, hk] at e
        exact G.1 (a, Y.adr b) ((simR_mono V Y _ _ _ _ _ _ _ _ _ _ _ _ _ _ _ _ e).a _ (.head _))
       refine y_alive _ _ _ _ _ _ _ _ _ _ _ _ _ _ _ (by rw [ea]; exact (D.own b x hk).2) (ih ce md c κ ks (.tree (k (some x))) T m i j s ((a, Y.adr b) :: qa) qo qc Y h tok g d os h1 hy gg (fun Y' a' => ?_) D)
       obtain ⟨out, e, G⟩ := H Y' a'
       simp only [simR, hk] at e
       rw [a'.adr b hbm] at e
       exact ⟨out, e, G⟩
   | alloc x k =>
    cases hf : x.isFreed with
    | true => obtain ⟨_, e, _⟩ := H Y (.refl ..); simp [simR, hf] at e
    | false =>
     cases hg : ((T.ins m x).get m).isSome with
     | false => obtain ⟨_, e, _⟩ := H Y (.refl ..); simp [simR, hf, hg] at e
     | true =>
      refine wpOwn_bind (m := PySem.alloc x) (f := k) (wpOwn_of_wpAny (wpAny_alloc ?_))
      have z := ih ce md c κ ks (.tree (k h.objs.size)) (T.ins m x) (m + 1) i j s qa qo qc (Y.withAdr m h.objs.size) (h.push x) tok g d os h1 hy gg (fun Y' a' => ?_) (D.alloc hf hg)
      ·exact z
      ·obtain ⟨out, e, G⟩ := H Y' ((agree_adr Y m i j s h.objs.size).trans a' (Nat.le_succ _) (Nat.le_refl _) (Nat.le_refl _) (Nat.le_refl _))
       simp only [simR, hf, hg] at e
       have q : Y'.adr m = h.objs.size := (a'.adr m (Nat.lt_succ_self _)).trans (if_pos rfl)
       rw [q] at e
       exact ⟨out, e, G⟩
   | update a q f k =>
    cases ce with
    | nil => obtain ⟨_, e, _⟩ := H Y (.refl ..); simp [simR] at e
    | cons e₀ ce =>
     cases e₀ with
     | zero => obtain ⟨_, e, _⟩ := H Y (.refl ..); simp [simR] at e
     | succ b =>
      cases hk : T.get b with
      | none => obtain ⟨_, e, _⟩ := H Y (.refl ..); simp [simR, hk] at e
      | some x =>
       cases hf : (f x).isFreed with
       | true => obtain ⟨_, e, _⟩ := H Y (.refl ..); simp [simR, hk, hf] at e
       | false =>
        have hbm := (D.own b x hk).1
        have ea : a = Y.adr b := by
         obtain ⟨out, e, G⟩ := H Y (.refl ..)
         simp only [simR, hk, hf] at e
         exact G.1 (a, Y.adr b) ((simR_mono V Y _ _ _ _ _ _ _ _ _ _ _ _ _ _ _ _ e).a _ (.head _))
        have z := ih ce md c κ ks (.tree (k ())) (T.set b f) m i j s ((a, Y.adr b) :: qa) qo qc Y (h.update (Y.adr b) f) tok g d os h1 hy gg (fun Y' a' => ?_) (D.update hk hf)
        ·rw [← ea] at z
         exact wpOwn_bind (m := updatePart a q f) (f := k) (wpOwn_of_wpAny (wpAny_updatePart (by rw [ea]; exact (D.own b x hk).2) z))
        ·obtain ⟨out, e, G⟩ := H Y' a'
         simp only [simR, hk, hf] at e
         rw [a'.adr b hbm] at e
         exact ⟨out, e, G⟩
   | fresh k =>
    have z := ih ce md c κ ks (.tree (k tok)) T m (i + 1) j s qa qo qc (Y.withTk i tok) h (tok + 1) g d os ⟨fun q => by have := h1.1 q; omega, fun q => Nat.lt_succ_of_lt (h1.2 q)⟩ (by
     refine ⟨fun q x hx => ?_, fun q x hx => ?_⟩
     ·show (if x = i then tok else Y.tk x) = _
      split
      ·have := h1.1 q; omega
      ·exact hy.1 q x (by omega)
     ·show gp.tk (tok + 1) (if x = i then tok else Y.tk x)
      split
      ·exact ⟨h1.2 q, fun _ => Nat.lt_succ_self tok⟩
      ·exact (hy.2 q x (by omega)).le fun _ => Nat.le_succ tok) gg (fun Y' a' => ?_) (D.agree (agree_tk Y m i j s tok))
    ·exact y_fresh _ _ _ _ _ _ _ _ _ _ _ _ _ z
    ·obtain ⟨out, e, G⟩ := H Y' ((agree_tk Y m i j s tok).trans a' (Nat.le_refl _) (Nat.le_succ _) (Nat.le_refl _) (Nat.le_refl _))
     simp only [simR] at e
     have q : Y'.tk i = tok := (a'.tk i (Nat.lt_succ_self _)).trans (if_pos rfl)
     rw [q] at e
     exact ⟨out, e, G⟩
   | handled own k =>
    cases own with
    | true => obtain ⟨_, e, _⟩ := H Y (.refl ..); simp [simR] at e
    | false =>
     refine y_handled _ _ _ _ _ _ _ _ _ ?_
     rw [AR_handled O.hb κ]
     exact ih _ _ _ _ _ (.tree (k (kHandled V.hb κ))) _ _ _ _ _ _ _ _ Y h tok g d os h1 hy gg (fun Y' a => by obtain ⟨out, e, G⟩ := H Y' a; simp only [simR] at e; exact ⟨out, e, G⟩) D
   | stack k =>
    refine y_stack _ _ _ _ _ _ _ _ _ fun p below l => ?_
    refine ih ce md c κ ks (.tree (k ((c, p) :: below))) T m i (j + 1) s qa qo qc (Y.withStk j (p, below)) h tok g d os h1 hy gg (fun Y' a' => ?_) (D.agree (agree_stk Y m i j s (p, below)))
    obtain ⟨out, e, G⟩ := H Y' ((agree_stk Y m i j s (p, below)).trans a' (Nat.le_refl _) (Nat.le_refl _) (Nat.le_succ _) (Nat.le_refl _))
    simp only [simR] at e
    have q : Y'.stk j = (p, below) := (a'.stk j (Nat.lt_succ_self _)).trans (if_pos rfl)
    rw [q] at e
    exact ⟨out, e, G⟩
   | call c' hd gd l k =>
    cases hmk : okMark hd with
    | false => obtain ⟨_, e, _⟩ := H Y (.refl ..); simp [simR, hmk] at e
    | true =>
     have hnb : hd ≠ some byPass := by
      intro e
      subst e
      simp [okMark] at hmk
     cases ce with
     | nil => obtain ⟨_, e, _⟩ := H Y (.refl ..); simp [simR, hmk] at e
     | cons e₀ ce =>
      refine y_call _ _ _ _ _ _ _ _ _ _ _ _ _ hnb ?_
      cases hx : (Nat.ble 2 e₀ && Nat.blt e₀ 1000) with
      | false =>
       show codeAny (model pw w) (AR A (.ret c hd md k ks κ)) c' (endR w A R (.ret c hd md k ks κ)) _
       cases h3 : Nat.beq e₀ 1003 with
       | true =>
        cases κ with
        | ret => obtain ⟨_, e, _⟩ := H Y (.refl ..); simp [simR, hmk, hx, h3] at e
        | base =>
         obtain ⟨out, e, G⟩ := H Y (.refl ..)
         simp only [simR, hmk, hx, h3] at e
         cases e
         exact G.2.2.2 h tok g d os h1 hy gg D
       | false =>
        cases hb : begin_ V (.ret c hd md k ks κ) e₀ c' with
        | none => obtain ⟨_, e, _⟩ := H Y (.refl ..); simp [simR, hmk, hx, h3, hb] at e
        | some r => exact begin_ok O hb D.base (ih ce r.1 c' (.ret c hd md k ks κ) [] r.2 T m i j s qa qo qc Y h tok g d os h1 hy gg (fun Y' a => by obtain ⟨out, e, G⟩ := H Y' a; simp only [simR, hmk, hx, h3, hb] at e; exact ⟨out, e, G⟩) D)
      | true =>
       cases hn : nth (V.hooks m i s Y) (e₀ - 2) with
       | none => obtain ⟨_, e, _⟩ := H Y (.refl ..); simp [simR, hmk, hx, hn] at e
       | some Hk =>
        exact hooked (e₀ - 2) Hk ce c hd k (.code c') (fun r => .tree (k r)) hn (fun Y' a Hk' hn' => by
         obtain ⟨out, e, G⟩ := H Y' a
         simp only [simR, hmk, hx, hn'] at e
         exact ⟨out, e, G⟩)
   | _ => obtain ⟨_, e, _⟩ := H Y (.refl ..); simp [simR] at e
end
noncomputable def preA : List Addr → (Nat → Addr) → Nat → Addr
 | [], z, j => z j
 | a :: l, z, j => match j with | 0 => a | j + 1 => preA l z j
theorem preA_lt : ∀ (l : List Addr) (z : Nat → Addr) (j : Nat), j < l.length → l[j]? = some (preA l z j)
 | a :: l, z, 0, _ => rfl
 | a :: l, z, j + 1, h => by
  show l[j]? = some (preA l z j)
  exact preA_lt l z j (Nat.lt_of_succ_lt_succ h)
theorem preA_eta : ∀ (l : List Addr) (f : Nat → Addr), (∀ j, j < l.length → l[j]? = some (f j)) → f = preA l fun j => f (j + l.length)
 | [], f, _ => rfl
 | a :: l, f, h => by
  funext j
  cases j with
  | zero => exact (Option.some.inj (h 0 (Nat.succ_pos _))).symm
  | succ j =>
   show f (j + 1) = preA l (fun i => f (i + (l.length + 1))) j
   exact congrFun (preA_eta l (fun i => f (i + 1)) fun i hi => h (i + 1) (Nat.succ_lt_succ hi)) j
noncomputable def mkT (xs : List Obj) : BT := match insAll xs .nil 0 with | some r => r.1 | none => .nil
theorem insAll_get : ∀ (xs : List Obj) (T : BT) (m : Nat) (r : BT × Nat), insAll xs T m = some r → r.2 = m + xs.length ∧ ∀ j, r.1.get j = if j < m then T.get j else match xs[j - m]? with | some x => some x | none => T.get j
 | [], T, m, r, h => by
  cases h
  exact ⟨rfl, fun j => by split <;> rfl⟩
 | x :: xs, T, m, r, h => by
  unfold insAll at h
  cases hg : ((T.ins m x).get m).isSome with
  | false => rw [hg] at h; cases h
  | true =>
   rw [hg] at h
   obtain ⟨z1, z2⟩ := insAll_get xs _ _ r h
   refine ⟨by rw [z1]; simp only [List.length_cons]; omega, fun j => ?_⟩
   rw [z2 j, BT.get_ins x T m hg j]
   by_cases h1 : j < m
   ·have : j < m + 1 := by omega
    have h3 : j ≠ m := by omega
    simp [h1, this, h3]
   ·by_cases h2 : j = m
    ·subst h2; simp
    ·have h3 : ¬ j < m + 1 := by omega
     have h4 : j - m = (j - (m + 1)) + 1 := by omega
     simp only [h1, h3, if_false, h2]
     rw [h4, List.getElem?_cons_succ]
theorem mkT_get {xs : List Obj} (ok : (insAll xs .nil 0).isSome = true) (j : Nat) : (mkT xs).get j = xs[j]? := by
 obtain ⟨r, hr⟩ := Option.isSome_iff_exists.mp ok
 have e : mkT xs = r.1 := by unfold mkT; rw [hr]
 obtain ⟨_, z⟩ := insAll_get xs .nil 0 r hr
 rw [e, z j]
 simp only [Nat.not_lt_zero, if_false, Nat.sub_zero]
 cases xs[j]? <;> rfl
noncomputable def Dyn.pre (Y : Dyn) (as : List Addr) : Dyn := { Y with adr := preA as Y.adr }
noncomputable def boOf (xs : List Obj) : List Nat := (List.range xs.length).filter fun j => match nth xs j with | some x => isFr x | none => false
theorem nth_eq {α : Type} : ∀ (l : List α) (n : Nat), nth l n = l[n]?
 | [], n => by cases n <;> rfl
 | x :: l, 0 => rfl
 | x :: l, n + 1 => by show nth l n = _; rw [nth_eq l n]; rfl
structure Starts (kt : KT) (h : Heap) (as : List Addr) (xs : List Obj) : Prop where
 len : as.length = xs.length
 at_ : ∀ (j : Nat) (a : Addr) (x : Obj), as[j]? = some a → xs[j]? = some x → h.get? a = some x
 nodup : as.Nodup
 base : ∀ b x, kt.get b = some x → h.get? b = some x
 off : ∀ a ∈ as, kt.get a = none
theorem Starts.rep {kt : KT} {h : Heap} {as : List Addr} {xs : List Obj} (S : Starts kt h as xs) (ok : (insAll xs .nil 0).isSome = true) {bf : List Addr} (hbf : ∀ f ∈ bf, ∃ x, h.get? f = some x ∧ isFr x = true) (Y : Dyn) :
  RepR kt bf (boOf xs) h as.length (Y.pre as) h (mkT xs) as.length 0 := by
 have at' : ∀ j, j < as.length → ∃ x, xs[j]? = some x ∧ h.get? ((Y.pre as).adr j) = some x := fun j hj => by
  obtain ⟨x, hx⟩ : ∃ x, xs[j]? = some x := ⟨_, List.getElem?_eq_getElem (S.len ▸ hj)⟩
  exact ⟨x, hx, S.at_ j _ x (preA_lt as Y.adr j hj) hx⟩
 refine ⟨fun j x e => ?_, fun a b ha hb e => ?_, fun a ha => ?_, S.base, fun a ha => ?_, fun _ _ e _ _ => e, fun _ x e _ _ => ⟨x.slots, e⟩, fun a h1 h2 => absurd h1 (Nat.not_le_of_lt h2), Nat.le_refl _, Nat.le_refl _, fun f hf => ?_⟩
 ·rw [mkT_get ok] at e
  have hj : j < as.length := by rw [S.len]; exact (List.getElem?_eq_some_iff.mp e).1
  obtain ⟨y, hy, hh⟩ := at' j hj
  rw [e] at hy; cases hy
  exact ⟨hj, hh⟩
 ·have e1 := preA_lt as Y.adr a ha
  have e2 := preA_lt as Y.adr b hb
  have e' : preA as Y.adr a = preA as Y.adr b := e
  rw [e', ← e2] at e1
  exact (List.getElem?_inj ha S.nodup).mp e1
 ·obtain ⟨x, _, hh⟩ := at' a ha
  exact Heap.lt_size hh
 ·exact S.off _ (List.mem_of_getElem? (preA_lt as Y.adr a ha))
 ·obtain ⟨x, e1, e2⟩ := hbf f hf
  by_cases hm : f ∈ as
  ·obtain ⟨j, hj, rfl⟩ := List.mem_iff_getElem.mp hm
   obtain ⟨y, hy, hh⟩ := at' j hj
   have q : (Y.pre as).adr j = as[j] := by
    have := preA_lt as Y.adr j hj
    rw [List.getElem?_eq_getElem hj] at this
    exact (Option.some.inj this).symm
   rw [q, e1] at hh
   cases hh
   refine .inr ⟨j, List.mem_filter.mpr ⟨List.mem_range.mpr (S.len ▸ hj), ?_⟩, hj, q⟩
   rw [nth_eq, hy]
   exact e2
  ·refine .inl ⟨x, e1, e2, fun a ha q => hm ?_⟩
   rw [← q]
   exact List.mem_of_getElem? (preA_lt as Y.adr a ha)
noncomputable def codeR (V : SV) (Y : Dyn) (n : Nat) (ce : List Nat) (e : Nat) (c : Code) (T : BT) (m : Nat) : Option Out := match begin_ V .base e c with
 | none => none
 | some r => simR V Y n ce r.1 c .base [] r.2 T m 0 0 0 [] [] []
theorem run_of {V : SV} {w : World} {A : Around} (O : SVok V w A) {gp : GP} {h : Heap} {g : Array GenState} {d : Drawn} {os : OsState} {tok : Nat} {as : List Addr} {xs : List Obj} {R : Result → Shared → Prop} {c : Code} {n : Nat} {ce : List Nat} {e : Nat}
  (K : HooksOk V w A h as.length gp) (S : Starts V.kt h as xs) (ok : (insAll xs .nil 0).isSome = true) (hbo : V.bo = boOf xs) (hbf : ∀ f ∈ V.bf, ∃ x, h.get? f = some x ∧ isFr x = true) (gg : gp.p g d os)
  (chk : ∀ Y : Dyn, ∃ out, codeR V (Y.pre as) n ce e c (mkT xs) as.length = some out ∧ Good V w A h as.length gp R (Y.pre as) out) (hany : gp.any = true → ∀ m i s Y, V.hooks m i s Y = []) (h1 : gp.cnt 0 tok) : codeAny (model pw w) A c R ⟨h, g, d, tok, os⟩ := by
 have cs : ∀ Y', Agree ((⟨fun _ => 0, fun _ => 0, fun _ => default, fun _ _ => #[], fun _ => []⟩ : Dyn).pre as) Y' as.length 0 0 0 → ∃ out, codeR V Y' n ce e c (mkT xs) as.length = some out ∧ Good V w A h as.length gp R Y' out := fun Y' a => by
  have q : Y'.adr = preA as fun j => Y'.adr (j + as.length) := preA_eta as Y'.adr fun j hj => by
   rw [a.adr j hj]; exact preA_lt as _ j hj
  have q' : Y' = ({ Y' with adr := fun j => Y'.adr (j + as.length) } : Dyn).pre as := by
   cases Y' with | mk x y z u v => exact congrArg (fun f => Dyn.mk f y z u v) q
  have := chk { Y' with adr := fun j => Y'.adr (j + as.length) }
  rw [← q'] at this
  exact this
 cases hb : begin_ V .base e c with
 | none =>
  obtain ⟨out, h1, _⟩ := cs _ (.refl ..)
  simp [codeR, hb] at h1
 | some r =>
  refine begin_ok O (R := R) (κ := .base) hb S.base ?_
  have D := S.rep ok hbf (⟨fun _ => 0, fun _ => 0, fun _ => default, fun _ _ => #[], fun _ => []⟩ : Dyn)
  rw [← hbo] at D
  exact simR_sound O K hany n ce r.1 c .base [] r.2 (mkT xs) as.length 0 0 0 [] [] [] _ h tok g d os h1 GP.tks_zero gg (fun Y' a => by
   obtain ⟨out, h1, G⟩ := cs Y' a
   simp only [codeR, hb] at h1
   exact ⟨out, h1, G⟩) D
noncomputable def view (ws : List Nat) (r : Option Out) : Option (Stop × List (Option Obj) × Nat × Nat) := r.map fun o => (o.fin, ws.map o.T.get, o.s, o.i)
noncomputable def lefts (r : Option Out) : List Nat × List (Option Obj) × List Tgt := match r with
 | some o => (o.qa.map Prod.fst, o.qo.map Prod.fst, o.qc.map Prod.fst)
 | none => ([], [], [])
noncomputable def rights (r : Option Out) : List Nat × List (Option Obj) × List Tgt := match r with
 | some o => (o.qa.map Prod.snd, o.qo.map Prod.snd, o.qc.map Prod.snd)
 | none => ([], [], [])
noncomputable abbrev Chk (ws : List Nat) (r : Option Out) (fin : Stop) (objs : List (Option Obj)) (s i : Nat) : Prop := (view ws r, lefts r) = (some (fin, objs, s, i), rights r)
theorem map_same {α : Type} : ∀ {l : List (α × α)}, l.map Prod.fst = l.map Prod.snd → ∀ q ∈ l, q.1 = q.2
 | [], _, q, hq => nomatch hq
 | x :: l, h, q, hq => by
  obtain ⟨h1, h2⟩ := List.cons.inj h
  cases hq with
  | head => exact h1
  | tail _ hq => exact map_same h2 q hq
theorem run_view {V : SV} {w : World} {A : Around} (O : SVok V w A) {gp : GP} {h : Heap} {g : Array GenState} {d : Drawn} {os : OsState} {tok : Nat} {as : List Addr} {xs : List Obj} {R : Result → Shared → Prop} {c : Code} {n : Nat} {ce : List Nat} {e : Nat} {ws : List Nat}
  {res : Dyn → Stop} {objs : Dyn → List (Option Obj)} {s i : Nat}
  (K : HooksOk V w A h as.length gp) (S : Starts V.kt h as xs) (ok : (insAll xs .nil 0).isSome = true) (hbo : V.bo = boOf xs) (hbf : ∀ f ∈ V.bf, ∃ x, h.get? f = some x ∧ isFr x = true) (h1 : gp.n < tok) (gg : gp.p g d os)
  (chk : ∀ Y : Dyn, Chk ws (codeR V (Y.pre as) n ce e c (mkT xs) as.length) (res (Y.pre as)) (objs (Y.pre as)) s i)
  (fin : ∀ (Y : Dyn) T m h' t' g' d' os', gp.n < t' → (∀ x, x < i → gp.tk t' (Y.tk x)) → gp.p g' d' os' → RepR V.kt V.bf V.bo h as.length (Y.pre as) h' T m s → ws.map T.get = objs (Y.pre as) → match res (Y.pre as) with | .res r => R r ⟨h', g', d', t', os'⟩ | .cut c => codeAny (model pw w) A c R ⟨h', g', d', t', os'⟩ | .call c c' hd md k ks => codeAny (model pw w) ((A.under c).mark hd) c' (fun r s' => MeansP w A c md ks (.tree (k r)) R s') ⟨h', g', d', t', os'⟩) (ha : gp.any = false := by rfl) : codeAny (model pw w) A c R ⟨h, g, d, tok, os⟩ := by
 refine run_of (n := n) (ce := ce) (e := e) O K S ok hbo hbf gg (fun Y => ?_) (fun q => by rw [ha] at q; cases q) (GP.cnt_of ha h1)
 obtain ⟨c1, c2⟩ := Prod.mk.inj (chk Y)
 obtain ⟨out, e1, e2⟩ := Option.map_eq_some_iff.mp c1
 rw [e1] at c2
 simp only [lefts, rights, Prod.mk.injEq] at c2 e2
 obtain ⟨z1, z2, z3⟩ := c2
 obtain ⟨z4, z5, z6, z7⟩ := e2
 refine ⟨out, e1, map_same z1, map_same z2, map_same z3, fun h' t' g' d' os' h1' hy' gg' D => ?_⟩
 rw [z4]
 rw [z6] at D
 rw [z7] at hy'
 exact fin Y out.T out.m h' t' g' d' os' (h1'.2 ha) (hy'.2 ha) gg' D z5
noncomputable def dec (x : Nat) (r : List Nat) : List Nat := Nat.mod x 2048 :: Nat.mod (Nat.div x 2048) 2048 :: Nat.mod (Nat.div x 4194304) 2048 :: Nat.mod (Nat.div x 8589934592) 2048 :: Nat.mod (Nat.div x Ncr) 2048 :: Nat.mod (Nat.div x 36028797018963968) 2048 :: Nat.mod (Nat.div x 73786976294838206464) 2048 :: Nat.mod (Nat.div x 151115727451828646838272) 2048 :: Nat.mod (Nat.div x 309485009821345068724781056) 2048 :: Nat.mod (Nat.div x 633825300114114700748351602688) 2048 :: Nat.mod (Nat.div x 1298074214633706907132624082305024) 2048 :: Nat.mod (Nat.div x 2658455991569831745807614120560689152) 2048 :: Nat.mod (Nat.div x 5444517870735015415413993718908291383296) 2048 :: Nat.mod (Nat.div x 11150372599265311570767859136324180752990208) 2048 :: Nat.mod (Nat.div x 22835963083295358096932575511191922182123945984) 2048 :: Nat.mod (Nat.div x 46768052394588893382517914646921056628989841375232) 2048 :: r
noncomputable def decs : List Nat → List Nat
 | [] => []
 | x :: l => dec x (decs l)
structure KeepB (e : Bool) (h h' : Heap) (l : List Addr) : Prop where
 keep : ∀ a x, h.get? a = some x → a ∉ l → (e = true → isFr x = false) → h'.get? a = some x
 fr : ∀ a x, h.get? a = some x → a ∉ l → isFr x = true → ∃ sl, h'.get? a = some { x with slots := sl }
 size : h.objs.size ≤ h'.objs.size
theorem RepR.keepB {kt : KT} {bf : List Addr} {bo : List Nat} {h h' : Heap} {as : List Addr} {Y : Dyn} {T : BT} {m s : Nat} {e : Bool} (D : RepR kt bf bo h as.length (Y.pre as) h' T m s) (he : s = 0 ∨ e = true) : KeepB e h h' as :=
 ⟨fun a x q n f => D.keep a x q (fun c hc q => n (by
  have := preA_lt as Y.adr c hc
  have q' : preA as Y.adr c = a := q
  rw [q'] at this
  exact List.mem_of_getElem? this)) (he.imp id f), fun a x q n f => D.frk a x q (fun c hc q => n (by
  have := preA_lt as Y.adr c hc
  have q' : preA as Y.adr c = a := q
  rw [q'] at this
  exact List.mem_of_getElem? this)) f, D.size⟩
structure HK where
 ua : List Nat
 ut : List Nat
 nt : Nat
 nn : Nat
 noH : Bool
 un : Bool
 noting : Bool
 frs : (Nat → Addr) → List Addr := fun _ => []
 tgt : (Nat → Addr) → (Nat → Tok) → Tgt
 pre : (Nat → Addr) → (Nat → Tok) → List (Nat × Obj)
 post : (a : Nat → Addr) → (t u : Nat → Tok) → (b : Nat → Addr) → (sl : Nat → Array (Option Value)) → (pl : List Value) → List (Nat × Obj)
 news : (a : Nat → Addr) → (t u : Nat → Tok) → (b : Nat → Addr) → (sl : Nat → Array (Option Value)) → (pl : List Value) → List Obj
 res : (a : Nat → Addr) → (t u : Nat → Tok) → (b : Nat → Addr) → (sl : Nat → Array (Option Value)) → (pl : List Value) → Result
noncomputable def atA {α : Type} (l : List Nat) (f : Nat → α) (d : α) : Nat → α := fun k => match nth l k with | some x => f x | none => d
noncomputable def below {α : Type} (n : Nat) (f : Nat → α) (d : α) : Nat → α := fun k => match Nat.blt k n with | true => f k | false => d
noncomputable def ofL (l : List Nat) : Nat → Nat := fun k => match nth l k with | some x => x | none => 0
theorem below_ofL {l : List Nat} {n : Nat} {f : Nat → Nat} (hl : l.length = n) (e : ∀ x, x < n → f x = ofL l x) : below n f 0 = ofL l := by
 funext x
 unfold below
 cases q : Nat.blt x n with
 | true => exact e x (PySem.W.X.blt_true q)
 | false =>
  have := PySem.W.X.blt_false q
  have z : nth l x = none := by
   have : ∀ (l : List Nat) (x : Nat), l.length ≤ x → nth l x = none := by
    intro l
    induction l with
    | nil => intro x _; cases x <;> rfl
    | cons y l ih =>
     intro x hx
     cases x with
     | zero => simp at hx
     | succ x => exact ih x (Nat.le_of_succ_le_succ hx)
   exact this l x (by omega)
  show 0 = ofL l x
  unfold ofL
  rw [z]
noncomputable def nthD (l : List Nat) (k : Nat) : Nat := match nth l k with | some x => x | none => 0
noncomputable def placed (ua : List Nat) (l : List (Nat × Obj)) : List (Nat × Obj) := l.map fun q => (nthD ua q.1, q.2)
noncomputable def HK.fits (k : HK) (m i : Nat) : Bool := k.ua.all (fun x => Nat.blt x m) && k.ut.all fun x => Nat.blt x i
noncomputable def HK.preY (k : HK) (Y : Dyn) : List (Nat × Obj) := placed k.ua (k.pre (atA k.ua Y.adr 0) (atA k.ut Y.tk 0))
noncomputable def slY (k : HK) (Y : Dyn) (s : Nat) : Nat → Array (Option Value) := match k.noting with | true => atA k.ua (Y.sl s) #[] | false => fun _ => #[]
noncomputable def plY (k : HK) (Y : Dyn) (s : Nat) : List Value := match k.noting with | true => Y.pl s | false => []
noncomputable def HK.hook (k : HK) (ua : List Nat) (a : Nat → Addr) (t u : Nat → Tok) (b : Nat → Addr) (sl : Nat → Array (Option Value)) (pl : List Value) : Hook :=
 {tgt := k.tgt a t, pre := placed ua (k.pre a t), post := placed ua (k.post a t u b sl pl), news := k.news a t u b sl pl, res := k.res a t u b sl pl, toks := k.nt, noH := k.noH, un := k.un, noting := k.noting, frs := k.frs a }
noncomputable def badHook (m : Nat) : Hook := { tgt := .code (.builtin "" ⟨[], []⟩), pre := [(m, default)], post := [], news := [], res := .ok .next, toks := 0, noH := false, un := false, noting := false, frs := [] }
noncomputable def hkHook (m i s : Nat) (Y : Dyn) (k : HK) : Hook := match k.fits m i with
 | true => k.hook k.ua (atA k.ua Y.adr 0) (atA k.ut Y.tk 0) (below k.nt (fun x => Y.tk (i + x)) 0) (below k.nn (fun x => Y.adr (m + x)) 0) (slY k Y s) (plY k Y s)
 | false => badHook m
noncomputable def hksY (ks : List HK) (m i s : Nat) (Y : Dyn) : List Hook := ks.map (hkHook m i s Y)
theorem nth_map {α β : Type} (f : α → β) : ∀ (l : List α) (n : Nat) (y : β), nth (l.map f) n = some y → ∃ x ∈ l, nth l n = some x ∧ y = f x
 | x :: l, 0, y, h => by cases h; exact ⟨x, .head _, rfl, rfl⟩
 | x :: l, n + 1, y, h => by
  obtain ⟨z, h1, h2, h3⟩ := nth_map f l n y h
  exact ⟨z, .tail _ h1, h2, h3⟩
 | [], n, y, h => by cases n <;> cases h
theorem nth_of_map {α β : Type} (f : α → β) : ∀ (l : List α) (n : Nat) (x : α), nth l n = some x → nth (l.map f) n = some (f x)
 | x :: l, 0, y, h => by cases h; rfl
 | x :: l, n + 1, y, h => nth_of_map f l n y h
 | [], n, y, h => by cases n <;> cases h
theorem asks_cons (T : BT) (j : Nat) (x : Obj) (l : List (Nat × Obj)) : asks T ((j, x) :: l) = (T.get j, some x) :: asks T l := rfl
theorem asks_all {T : BT} : ∀ {l : List (Nat × Obj)}, (∀ q ∈ asks T l, q.1 = q.2) → ∀ q ∈ l, T.get q.1 = some q.2
 | [], _, q, hq => nomatch hq
 | (j, x) :: l, h, q, hq => by
  rw [asks_cons] at h
  cases hq with
  | head => exact h _ (List.mem_cons_self ..)
  | tail _ hq => exact asks_all (fun y hy => h y (List.mem_cons_of_mem _ hy)) q hq
theorem atA_congr {α : Type} {l : List Nat} {m : Nat} {f g : Nat → α} {d : α} (h : l.all (fun x => Nat.blt x m) = true) (e : ∀ a, a < m → g a = f a) : atA l g d = atA l f d := by
 funext k
 unfold atA
 cases q : nth l k with
 | none => rfl
 | some x => exact e x (blt_true (List.all_eq_true.mp h x (nth_mem l k x q)))
theorem below_congr {α : Type} {n : Nat} {f g : Nat → α} {d : α} (e : ∀ a, a < n → g a = f a) : below n g d = below n f d := by
 funext k
 unfold below
 cases q : Nat.blt k n with
 | true => exact e k (blt_true q)
 | false => rfl
theorem fits_parts {k : HK} {m i : Nat} (h : k.fits m i = true) : k.ua.all (fun x => Nat.blt x m) = true ∧ k.ut.all (fun x => Nat.blt x i) = true := Bool.and_eq_true_iff.mp h
theorem hkHook_congr {k : HK} {m i s : Nat} {Y Y' : Dyn} (hf : k.fits m i = true) (ha : ∀ a, a < m + k.nn → Y'.adr a = Y.adr a) (ht : ∀ a, a < i + k.nt → Y'.tk a = Y.tk a) (hs : k.noting = true → Y'.sl s = Y.sl s ∧ Y'.pl s = Y.pl s) : hkHook m i s Y' k = hkHook m i s Y k := by
 obtain ⟨f1, f2⟩ := fits_parts hf
 have e1 : atA k.ua Y'.adr 0 = atA k.ua Y.adr 0 := atA_congr f1 fun a h => ha a (Nat.lt_of_lt_of_le h (Nat.le_add_right _ _))
 have e2 : atA k.ut Y'.tk 0 = atA k.ut Y.tk 0 := atA_congr f2 fun a h => ht a (Nat.lt_of_lt_of_le h (Nat.le_add_right _ _))
 have e3 : below k.nt (fun x => Y'.tk (i + x)) 0 = below k.nt (fun x => Y.tk (i + x)) 0 := below_congr fun a h => ht (i + a) (Nat.add_lt_add_left h i)
 have e4 : below k.nn (fun x => Y'.adr (m + x)) 0 = below k.nn (fun x => Y.adr (m + x)) 0 := below_congr fun a h => ha (m + a) (Nat.add_lt_add_left h m)
 have e5 : slY k Y' s = slY k Y s := by
  unfold slY
  cases q : k.noting with
  | false => rfl
  | true => dsimp only; rw [(hs q).1]
 have e6 : plY k Y' s = plY k Y s := by
  unfold plY
  cases q : k.noting with
  | false => rfl
  | true => exact (hs q).2
 unfold hkHook
 rw [hf]
 dsimp only
 rw [e1, e2, e3, e4, e5, e6]
theorem hkHook_bad {k : HK} {m i s : Nat} {Y : Dyn} (hf : k.fits m i = false) : hkHook m i s Y k = badHook m := by
 unfold hkHook; rw [hf]
theorem hkHook_good {k : HK} {m i s : Nat} {Y : Dyn} (hf : k.fits m i = true) : hkHook m i s Y k = k.hook k.ua (atA k.ua Y.adr 0) (atA k.ut Y.tk 0) (below k.nt (fun x => Y.tk (i + x)) 0) (below k.nn (fun x => Y.adr (m + x)) 0) (slY k Y s) (plY k Y s) := by
 unfold hkHook; rw [hf]
structure After (k : HK) (a : Nat → Addr) (t u : Nat → Tok) (b : Nat → Addr) (sl : Nat → Array (Option Value)) (pl : List Value) (h h' : Heap) : Prop where
 keep : ∀ c x, h.get? c = some x → (∀ q ∈ k.post a t u b sl pl, a q.1 ≠ c) → (k.noting = true → isFr x = false) → h'.get? c = some x
 fr : k.noting = true → ∀ c x, h.get? c = some x → (∀ q ∈ k.post a t u b sl pl, a q.1 ≠ c) → isFr x = true → ∃ s', h'.get? c = some { x with slots := s' }
 post : ∀ q ∈ k.post a t u b sl pl, h'.get? (a q.1) = some q.2
 news : ∀ j x, (k.news a t u b sl pl)[j]? = some x → h'.get? (b j) = some x ∧ h.objs.size ≤ b j
 inj : ∀ i j, i < k.nn → j < k.nn → b i = b j → i = j
 size : h.objs.size ≤ h'.objs.size
noncomputable def slA (k : HK) (a : Nat → Addr) (h' : Heap) : Nat → Array (Option Value) := match k.noting with
 | true => fun x => match nth k.ua x with | some _ => (match h'.get? (a x) with | some y => y.slots | none => #[]) | none => #[]
 | false => fun _ => #[]
structure HKwf (k : HK) : Prop where
 nodup : k.ua.Nodup
 post : ∀ a t u b sl pl, ∀ q ∈ k.post a t u b sl pl, q.1 < k.ua.length ∧ ∃ x, (q.1, x) ∈ k.pre a t
 keys : ∀ a t u b sl pl, ((k.post a t u b sl pl).map (·.1)).Nodup
 pre : ∀ a t, ∀ q ∈ k.pre a t, q.1 < k.ua.length
 news : ∀ a t u b sl pl, (k.news a t u b sl pl).length = k.nn
noncomputable def HKok (D U : Nat) (kt : KT) (w : World) (A : Around) (gp : GP) (k : HK) : Prop :=
 ∀ (a : Nat → Addr) (t : Nat → Tok) (A' : Around) (R' : Result → Shared → Prop) (h : Heap) (tok : Nat) (g : Array GenState) (d : Drawn) (os : OsState),
  A'.depth < A.depth + D → (k.noH = true → A'.handled = none) → (k.un = true → A'.units < A.units + U) → (k.noting = true → FrOk A' h ∧ ∀ f ∈ k.frs a, InFr A' f) → gp.n < tok → (∀ x, x < k.ut.length → gp.tk tok (t x)) → gp.p g d os →
  (∀ b x, kt.get b = some x → h.get? b = some x) → (∀ q ∈ k.pre a t, h.get? (a q.1) = some q.2) → (∀ x, x < k.ua.length → kt.get (a x) = none) → (∀ x y, x < k.ua.length → y < k.ua.length → a x = a y → x = y) →
  (∀ h' tok' g' d' os' (us : List Tok) (bs : List Addr) pl, us.length = k.nt → (∀ u ∈ us, gp.tk tok' u) → gp.n < tok' → gp.le tok tok' → bs.length = k.nn → (k.noting = false → pl = []) → gp.p g' d' os' → After k a t (ofL us) (ofL bs) (slA k a h') pl h h' → R' (k.res a t (ofL us) (ofL bs) (slA k a h') pl) ⟨h', g', d', tok', os'⟩) → TgtOk w A' R' ⟨h, g, d, tok, os⟩ (k.tgt a t)
theorem setAll_get : ∀ (l : List (Nat × Obj)) (T : BT) (j : Nat), (l.map (·.1)).Nodup → (setAll l T).get j = match l.lookup j with | some x => (match T.get j with | some _ => some x | none => none) | none => T.get j
 | [], T, j, _ => rfl
 | (i, x) :: l, T, j, hn => by
  have hn' := List.nodup_cons.mp (show (i :: l.map (·.1)).Nodup from hn)
  show (setAll l (T.set i fun _ => x)).get j = _
  rw [setAll_get l _ j hn'.2, BT.get_set, List.lookup_cons]
  by_cases hj : j = i
  ·subst hj
   have : l.lookup j = none := by
    cases q : l.lookup j with
    | none => rfl
    | some y =>
     obtain ⟨l1, l2, e, _⟩ := List.lookup_eq_some_iff.mp q
     exact absurd (by rw [e]; simp) hn'.1
   rw [this]
   simp
   cases T.get j <;> rfl
  ·have : (j == i) = false := by simp [hj]
   rw [this, if_neg hj]
theorem nthD_lt {l : List Nat} {k : Nat} (h : k < l.length) : nth l k = some (nthD l k) ∧ l[k]? = some (nthD l k) := by
 unfold nthD
 rw [nth_eq, List.getElem?_eq_getElem h]
 exact ⟨rfl, rfl⟩
theorem nthD_inj {l : List Nat} (hn : l.Nodup) {x y : Nat} (hx : x < l.length) (hy : y < l.length) (e : nthD l x = nthD l y) : x = y := by
 have h1 := (nthD_lt hx).2
 have h2 := (nthD_lt hy).2
 rw [e, ← h2] at h1
 exact (List.getElem?_inj hx hn).mp h1
theorem placed_keys {ua : List Nat} (hn : ua.Nodup) {l : List (Nat × Obj)} (hl : ∀ q ∈ l, q.1 < ua.length) (hk : (l.map (·.1)).Nodup) : ((placed ua l).map (·.1)).Nodup := by
 unfold placed
 rw [List.map_map]
 have hk : List.Pairwise (· ≠ ·) (l.map (·.1)) := hk
 show List.Pairwise (· ≠ ·) (l.map fun q => nthD ua q.1)
 rw [List.pairwise_map] at hk ⊢
 exact hk.imp_of_mem fun ha hb ne e => ne (nthD_inj hn (hl _ ha) (hl _ hb) e)
theorem lookup_placed {ua : List Nat} {l : List (Nat × Obj)} {j : Nat} {x : Obj} (h : (placed ua l).lookup j = some x) : ∃ q ∈ l, nthD ua q.1 = j ∧ q.2 = x := by
 obtain ⟨l1, l2, e, _⟩ := List.lookup_eq_some_iff.mp h
 have : (j, x) ∈ placed ua l := by rw [e]; simp
 obtain ⟨q, hq, e2⟩ := List.mem_map.mp this
 exact ⟨q, hq, (Prod.mk.inj e2).1, (Prod.mk.inj e2).2⟩
theorem lookup_none_mem {l : List (Nat × Obj)} {j : Nat} (h : l.lookup j = none) : ∀ q ∈ l, q.1 ≠ j := by
 intro q hq e
 have := List.lookup_eq_none_iff.mp h q hq
 simp [e] at this
theorem lt_ge_ne {x y n : Nat} (h1 : x < n) (h2 : n ≤ y) : x ≠ y := by omega
theorem lt_ge_f {x n : Nat} (h1 : x < n) (h2 : n ≤ x) : False := by omega
noncomputable def Dyn.behind (Y : Dyn) (m nn i nt s : Nat) (no : Bool) (b : Nat → Addr) (u : Nat → Tok) (sl : Nat → Array (Option Value)) (pl : List Value) : Dyn :=
 {adr := fun j => if m ≤ j ∧ j < m + nn then b (j - m) else Y.adr j, tk := fun j => if i ≤ j ∧ j < i + nt then u (j - i) else Y.tk j, stk := Y.stk,
  sl := fun j => if j = s ∧ no = true then sl else Y.sl j, pl := fun j => if j = s ∧ no = true then pl else Y.pl j }
theorem agree_behind (Y : Dyn) (m nn i nt s j : Nat) (no : Bool) (b u sl pl) : Agree Y (Y.behind m nn i nt s no b u sl pl) m i j s :=
 ⟨fun a ha => if_neg (by omega), fun a ha => if_neg (by omega), fun _ _ => rfl, fun a ha => if_neg (by omega), fun a ha => if_neg (by omega)⟩
section
variable {V : SV} {w : World} {A : Around} {h₀ : Heap} {m₀ : Nat} {gp : GP}
theorem RepR.behind {k : HK} (W : HKwf k) (ktf : ∀ b x, V.kt.get b = some x → isFr x = false) {Y : Dyn} {h h' : Heap} {T : BT} {m s i : Nat} (D : RepR V.kt V.bf V.bo h₀ m₀ Y h T m s) (hf : k.ua.all (fun x => Nat.blt x m) = true) {t u : Nat → Tok} {b : Nat → Addr} {pl : List Value} {sl : Nat → Array (Option Value)}
  (F : After k (atA k.ua Y.adr 0) t u b sl pl h h') (hpre : ∀ q ∈ k.pre (atA k.ua Y.adr 0) t, ∃ x, T.get (nthD k.ua q.1) = some x) {r : BT × Nat} {no : Bool} (hno : k.noting = no) {nt : Nat}
  (hr : insAll (k.news (atA k.ua Y.adr 0) t u b sl pl) (setAll (placed k.ua (k.post (atA k.ua Y.adr 0) t u b sl pl)) (T1 no (Y.behind m k.nn i nt s no b u (slOf Y h') pl) s T)) m = some r) :
  RepR V.kt V.bf V.bo h₀ m₀ (Y.behind m k.nn i nt s no b u (slOf Y h') pl) h' r.1 r.2 (s1 no s) := by
 have aold : ∀ j, j < m → (Y.behind m k.nn i nt s no b u (slOf Y h') pl).adr j = Y.adr j := fun j hj => if_neg (by omega)
 have anew : ∀ j, j < k.nn → (Y.behind m k.nn i nt s no b u (slOf Y h') pl).adr (m + j) = b j := fun j hj => by
  show (if m ≤ m + j ∧ m + j < m + k.nn then b (m + j - m) else _) = _
  rw [if_pos (by omega), Nat.add_sub_cancel_left]
 obtain ⟨rm, rget⟩ := insAll_get _ _ _ _ hr
 have hlen := W.news (atA k.ua Y.adr 0) t u b sl pl
 rw [hlen] at rm
 have blt : ∀ j, j < k.nn → ∃ x, (k.news (atA k.ua Y.adr 0) t u b sl pl)[j]? = some x := fun j hj => ⟨_, List.getElem?_eq_getElem (hlen ▸ hj)⟩
 have bge : ∀ j, j < k.nn → h.objs.size ≤ b j := fun j hj => by
  obtain ⟨x, hx⟩ := blt j hj
  exact (F.news j x hx).2
 have ualt : ∀ x, x < k.ua.length → nthD k.ua x < m ∧ atA k.ua Y.adr 0 x = Y.adr (nthD k.ua x) := fun x hx => by
  have z := nthD_lt hx
  refine ⟨PySem.W.X.blt_true (List.all_eq_true.mp hf _ (nth_mem _ _ _ z.1)), ?_⟩
  unfold atA
  rw [z.1]
 have postA : ∀ q ∈ k.post (atA k.ua Y.adr 0) t u b sl pl, nthD k.ua q.1 < m ∧ atA k.ua Y.adr 0 q.1 = Y.adr (nthD k.ua q.1) := fun q hq => ualt q.1 (W.post _ _ _ _ _ _ q hq).1
 have notPost : ∀ c, (∀ j, j < m → Y.adr j ≠ c) → ∀ q ∈ k.post (atA k.ua Y.adr 0) t u b sl pl, atA k.ua Y.adr 0 q.1 ≠ c := fun c hc q hq => by
  have z := postA q hq
  rw [z.2]; exact hc _ z.1
 have cs : ∀ a, a < r.2 → a < m ∨ ∃ j, j < k.nn ∧ a = m + j := fun a ha => by
  rw [rm] at ha
  by_cases q : a < m
  ·exact .inl q
  ·exact .inr ⟨a - m, by omega, by omega⟩
 have oldlt : ∀ a, a < m → Y.adr a < h.objs.size := D.lt
 have ownT1 : ∀ j y, (T1 no (Y.behind m k.nn i nt s no b u (slOf Y h') pl) s T).get j = some y → (∀ q ∈ k.post (atA k.ua Y.adr 0) t u b sl pl, nthD k.ua q.1 ≠ j) → j < m ∧ h'.get? (Y.adr j) = some y := fun j y e hq => by
  have np : ∀ j', T.get j = some j' → ∀ q ∈ k.post (atA k.ua Y.adr 0) t u b sl pl, atA k.ua Y.adr 0 q.1 ≠ Y.adr j := fun j' ej q hq' e => by
   have z := postA q hq'
   rw [z.2] at e
   exact hq q hq' (D.inj _ _ z.1 (D.own j j' ej).1 e)
  cases no with
  | false =>
   have e : T.get j = some y := e
   have z := D.own j y e
   exact ⟨z.1, F.keep _ _ z.2 (np y e) (fun q => by rw [hno] at q; cases q)⟩
  | true =>
   have e : (noted ((Y.behind m k.nn i nt s true b u (slOf Y h') pl).sl s) T).get j = some y := e
   have es : (Y.behind m k.nn i nt s true b u (slOf Y h') pl).sl s = slOf Y h' := if_pos ⟨rfl, rfl⟩
   rw [es, noted_get] at e
   obtain ⟨x, e1, e2⟩ := Option.map_eq_some_iff.mp e
   have z := D.own j x e1
   refine ⟨z.1, ?_⟩
   cases q : isFr x with
   | false => rw [slot1_f q] at e2; rw [← e2]; exact F.keep _ _ z.2 (np x e1) fun _ => q
   | true =>
    rw [slot1_t q] at e2
    obtain ⟨s', hs'⟩ := F.fr hno _ _ z.2 (np x e1) q
    have : slOf Y h' j = s' := by unfold slOf; rw [hs']
    rw [hs', ← e2, this]
 refine ⟨fun j y e => ?_, fun a a' ha ha' e => ?_, fun a ha => ?_, fun c x e => ?_, fun a ha => ?_, fun c x e n q => ?_, fun c x e n q => ?_, fun a h1 h2 => ?_, ?_, Nat.le_trans D.size F.size, fun f hf' => ?_⟩
 ·
  rw [rget j] at e
  by_cases hj : j < m
  ·rw [if_pos hj, setAll_get _ _ _ (placed_keys W.nodup (fun q hq => (W.post _ _ _ _ _ _ q hq).1) (W.keys _ _ _ _ _ _))] at e
   refine ⟨by rw [rm]; omega, ?_⟩
   rw [aold j hj]
   cases hl : (placed k.ua (k.post (atA k.ua Y.adr 0) t u b sl pl)).lookup j with
   | none =>
    rw [hl] at e
    refine (ownT1 j y e fun q hq e' => ?_).2
    exact lookup_none_mem hl (nthD k.ua q.1, q.2) (List.mem_map_of_mem hq) e'
   | some x =>
    rw [hl] at e
    obtain ⟨q, hq, e1, e2⟩ := lookup_placed hl
    have : y = x := by
     dsimp only at e
     split at e <;> cases e
     rfl
    have z := F.post q hq
    rw [(postA q hq).2, e1, e2] at z
    rw [this]; exact z
  ·rw [if_neg hj] at e
   have hx : ∃ x, (k.news (atA k.ua Y.adr 0) t u b sl pl)[j - m]? = some x := by
    cases q : (k.news (atA k.ua Y.adr 0) t u b sl pl)[j - m]? with
    | some x => exact ⟨x, rfl⟩
    | none =>
     rw [q] at e
     dsimp only at e
     exfalso
     have : (setAll (placed k.ua (k.post (atA k.ua Y.adr 0) t u b sl pl)) (T1 no (Y.behind m k.nn i nt s no b u (slOf Y h') pl) s T)).get j = none := by
      have t0 : T.get j = none := by
       cases z : T.get j with
       | none => rfl
       | some x => exact absurd (D.own j x z).1 hj
      have t1 : (T1 no (Y.behind m k.nn i nt s no b u (slOf Y h') pl) s T).get j = none := by
       cases no with
       | false => exact t0
       | true =>
        show (noted _ T).get j = none
        rw [noted_get, t0]; rfl
      rw [setAll_get _ _ _ (placed_keys W.nodup (fun q hq => (W.post _ _ _ _ _ _ q hq).1) (W.keys _ _ _ _ _ _)), t1]
      split <;> rfl
     rw [this] at e; cases e
   obtain ⟨x, hx⟩ := hx
   rw [hx] at e
   cases e
   have hlt : j - m < k.nn := by
    rw [← hlen]; exact (List.getElem?_eq_some_iff.mp hx).1
   refine ⟨by rw [rm]; omega, ?_⟩
   have := anew (j - m) hlt
   rw [show m + (j - m) = j by omega] at this
   rw [this]
   exact (F.news _ _ hx).1
 ·rcases cs a ha with ha | ⟨x, hx, rfl⟩ <;> rcases cs a' ha' with ha' | ⟨x', hx', rfl⟩
  ·rw [aold a ha, aold a' ha'] at e; exact D.inj a a' ha ha' e
  ·rw [aold a ha, anew x' hx'] at e
   exact absurd e (lt_ge_ne (oldlt a ha) (bge x' hx'))
  ·rw [aold a' ha', anew x hx] at e
   exact absurd e.symm (lt_ge_ne (oldlt a' ha') (bge x hx))
  ·rw [anew x hx, anew x' hx'] at e
   rw [F.inj x x' hx hx' e]
 ·rcases cs a ha with ha | ⟨x, hx, rfl⟩
  ·rw [aold a ha]; exact Nat.lt_of_lt_of_le (D.lt a ha) F.size
  ·rw [anew x hx]
   obtain ⟨y, hy⟩ := blt x hx
   exact Heap.lt_size (F.news x y hy).1
 ·exact F.keep c x (D.base c x e) (notPost c fun j hj q => by have := D.off j hj; rw [q, e] at this; cases this) fun _ => ktf c x e
 ·rcases cs a ha with ha | ⟨x, hx, rfl⟩
  ·rw [aold a ha]; exact D.off a ha
  ·rw [anew x hx]
   cases q : V.kt.get (b x) with
   | none => rfl
   | some y =>
    exact (lt_ge_f (Heap.lt_size (D.base _ _ q)) (bge x hx)).elim
 ·have nown : ∀ j, j < m → Y.adr j ≠ c := fun j hj q' => by
   by_cases hb : j < m₀
   ·exact n j hb (by rw [aold j hj]; exact q')
   ·have h1 := D.new j (by omega) hj
    have h2 := Heap.lt_size e
    rw [q'] at h1
    exact lt_ge_f h2 h1
  have q' : s = 0 ∨ isFr x = false := by
   rcases q with q | q
   ·cases no with
    | false => exact .inl q
    | true => exact absurd q (Nat.succ_ne_zero s)
   ·exact .inr q
  have z := D.keep c x e (fun a ha => by have := n a ha; rwa [aold a (Nat.lt_of_lt_of_le ha D.low)] at this) q'
  exact F.keep c x z (notPost c nown) fun hn => by
   rcases q with q | q
   ·rw [hno] at hn; subst hn; exact absurd q (Nat.succ_ne_zero s)
   ·exact q
 ·have nown : ∀ j, j < m → Y.adr j ≠ c := fun j hj q' => by
   by_cases hb : j < m₀
   ·exact n j hb (by rw [aold j hj]; exact q')
   ·have h1 := D.new j (by omega) hj
    have h2 := Heap.lt_size e
    rw [q'] at h1
    exact lt_ge_f h2 h1
  obtain ⟨sl', z⟩ := D.frk c x e (fun a ha => by have := n a ha; rwa [aold a (Nat.lt_of_lt_of_le ha D.low)] at this) q
  cases hq : k.noting with
  | false => exact ⟨sl', F.keep c _ z (notPost c nown) fun hn => by rw [hq] at hn; cases hn⟩
  | true =>
   exact F.fr hq c { x with slots := sl' } z (notPost c nown) q
 ·rcases cs a h2 with ha | ⟨x, hx, rfl⟩
  ·rw [aold a ha]; exact D.new a h1 ha
  ·rw [anew x hx]; exact Nat.le_trans D.size (bge x hx)
 ·rw [rm]; exact Nat.le_trans D.low (Nat.le_add_right _ _)
 ·rcases D.bfr f hf' with ⟨x, e1, e2, e3⟩ | ⟨b', e1, e2, e3⟩
  ·have key : ∃ x', h'.get? f = some x' ∧ isFr x' = true := by
    cases hq : k.noting with
    | false => exact ⟨x, F.keep f x e1 (notPost f e3) (fun hn => by rw [hq] at hn; cases hn), e2⟩
    | true =>
     obtain ⟨s', z⟩ := F.fr hq f x e1 (notPost f e3) e2
     exact ⟨_, z, e2⟩
   obtain ⟨x', y1, y2⟩ := key
   refine .inl ⟨x', y1, y2, fun a ha => ?_⟩
   rcases cs a ha with ha | ⟨x, hx, rfl⟩
   ·rw [aold a ha]; exact e3 a ha
   ·rw [anew x hx]
    exact (lt_ge_ne (Heap.lt_size e1) (bge x hx)).symm
  ·exact .inr ⟨b', e1, by rw [rm]; omega, by rw [aold b' e2]; exact e3⟩
theorem hks_ok {ks : List HK} (e : V.hooks = hksY ks) (hW : ∀ k ∈ ks, HKwf k) (ktf : ∀ b x, V.kt.get b = some x → isFr x = false) (ho : ∀ k ∈ ks, HKok V.D V.U V.kt w A gp k) : HooksOk V w A h₀ m₀ gp where
 loc := fun x m i s Y Y' H hn ha ht hs => by
  rw [e] at hn
  obtain ⟨k, hk, hx, rfl⟩ := nth_map _ ks x H hn
  rw [e]
  show nth (ks.map (hkHook m i s Y')) x = _
  rw [nth_of_map _ _ _ _ hx]
  cases hf : k.fits m i with
  | false => rw [hkHook_bad hf, hkHook_bad hf]
  | true =>
   refine congrArg some (hkHook_congr hf ?_ ?_ ?_)
   ·intro a h
    refine ha a ?_
    rw [hkHook_good hf]
    show a < m + (k.news _ _ _ _ _ _).length
    rw [(hW k hk).news]
    exact h
   ·intro a h
    refine ht a ?_
    rw [hkHook_good hf]
    exact h
   ·intro q
    refine hs s ?_
    rw [hkHook_good hf]
    show s < s1 k.noting s
    rw [q]
    exact Nat.lt_succ_self s
 ok := fun x Y H T m i j s h tok g d os A' R' hn hd hh hu hno h1 hy gg D hp ins kk => by
  rw [e] at hn
  obtain ⟨k, hk, hx, rfl⟩ := nth_map _ ks x H hn
  have W := hW k hk
  cases hf : k.fits m i with
  | false =>
   rw [hkHook_bad hf] at hp
   have := asks_all hp (m, default) (.head _)
   exact absurd (D.own m _ this).1 (Nat.lt_irrefl _)
  | true =>
   obtain ⟨f1, f2⟩ := fits_parts hf
   rw [hkHook_good hf] at hp hh hu hno kk ins ⊢
   have hp : ∀ q ∈ asks T (k.preY Y), q.1 = q.2 := hp
   have pre' : ∀ q ∈ k.pre (atA k.ua Y.adr 0) (atA k.ut Y.tk 0), T.get (nthD k.ua q.1) = some q.2 := fun q hq => asks_all hp (nthD k.ua q.1, q.2) (List.mem_map_of_mem hq)
   have ualt : ∀ x, x < k.ua.length → nthD k.ua x < m ∧ atA k.ua Y.adr 0 x = Y.adr (nthD k.ua x) := fun x hx => by
    have z := nthD_lt hx
    refine ⟨PySem.W.X.blt_true (List.all_eq_true.mp f1 _ (nth_mem _ _ _ z.1)), ?_⟩
    unfold atA
    rw [z.1]
   refine ho k hk (atA k.ua Y.adr 0) (atA k.ut Y.tk 0) A' R' h tok g d os hd hh hu hno h1 (fun x hx => ?_) gg D.base (fun q hq => ?_) (fun x hx => ?_) (fun x y hx hy exy => ?_) fun h' tok' g' d' os' us bs pl hus hu0 h1' hle hbs hpl gg' F => ?_
   ·have z := nthD_lt hx
    unfold atA
    rw [z.1]
    exact hy _ (PySem.W.X.blt_true (List.all_eq_true.mp f2 _ (nth_mem _ _ _ z.1)))
   ·rw [(ualt q.1 (W.pre _ _ q hq)).2]
    exact (D.own _ _ (pre' q hq)).2
   ·rw [(ualt x hx).2]; exact D.off _ (ualt x hx).1
   ·rw [(ualt x hx).2, (ualt y hy).2] at exy
    exact nthD_inj W.nodup hx hy (D.inj _ _ (ualt x hx).1 (ualt y hy).1 exy)
   ·
    have hslA : slA k (atA k.ua Y.adr 0) h' = slY k (Y.behind m k.nn i k.nt s k.noting (ofL bs) (ofL us) (slOf Y h') pl) s := by
     unfold slA slY
     cases q : k.noting with
     | false => rfl
     | true =>
      funext x
      unfold atA
      dsimp only
      cases z : nth k.ua x with
      | none => rfl
      | some y =>
       show _ = (if s = s ∧ true = true then slOf Y h' else _) y
       rw [if_pos ⟨rfl, rfl⟩]
       rfl
    have epl : plY k (Y.behind m k.nn i k.nt s k.noting (ofL bs) (ofL us) (slOf Y h') pl) s = pl := by
     unfold plY
     cases q : k.noting with
     | true =>
      show (if s = s ∧ true = true then pl else _) = pl
      rw [if_pos ⟨rfl, rfl⟩]
     | false => exact (hpl q).symm
    have ea : atA k.ua (Y.behind m k.nn i k.nt s k.noting (ofL bs) (ofL us) (slOf Y h') pl).adr 0 = atA k.ua Y.adr 0 := atA_congr f1 fun a ha => if_neg (by omega)
    have et : atA k.ut (Y.behind m k.nn i k.nt s k.noting (ofL bs) (ofL us) (slOf Y h') pl).tk 0 = atA k.ut Y.tk 0 := atA_congr f2 fun a ha => if_neg (by omega)
    have eu : below k.nt (fun x => (Y.behind m k.nn i k.nt s k.noting (ofL bs) (ofL us) (slOf Y h') pl).tk (i + x)) 0 = ofL us := below_ofL hus fun x hx => by
     show (if i ≤ i + x ∧ i + x < i + k.nt then ofL us (i + x - i) else _) = _
     rw [if_pos (by omega), Nat.add_sub_cancel_left]
    have eb : below k.nn (fun x => (Y.behind m k.nn i k.nt s k.noting (ofL bs) (ofL us) (slOf Y h') pl).adr (m + x)) 0 = ofL bs := below_ofL hbs fun x hx => by
     show (if m ≤ m + x ∧ m + x < m + k.nn then ofL bs (m + x - m) else _) = _
     rw [if_pos (by omega), Nat.add_sub_cancel_left]
    have hH' : hkHook m i s (Y.behind m k.nn i k.nt s k.noting (ofL bs) (ofL us) (slOf Y h') pl) k = k.hook k.ua (atA k.ua Y.adr 0) (atA k.ut Y.tk 0) (ofL us) (ofL bs) (slA k (atA k.ua Y.adr 0) h') pl := by
     rw [hkHook_good hf, ea, et, eu, eb, hslA, epl]
    have hn' : nth (V.hooks m i s (Y.behind m k.nn i k.nt s k.noting (ofL bs) (ofL us) (slOf Y h') pl)) x = some (hkHook m i s (Y.behind m k.nn i k.nt s k.noting (ofL bs) (ofL us) (slOf Y h') pl) k) := by rw [e]; exact nth_of_map _ _ _ _ hx
    rw [hH'] at hn'
    have hins := ins _ _ (agree_behind ..) hn' rfl
    obtain ⟨r, hr⟩ := Option.isSome_iff_exists.mp hins
    exact kk _ h' tok' g' d' os' _ r (agree_behind ..) hn' rfl hr (D.behind W ktf f1 F (fun q hq => ⟨_, pre' q hq⟩) rfl hr) h1' (fun x hx => by
     show gp.tk tok' (if i ≤ x ∧ x < i + k.nt then ofL us (x - i) else Y.tk x)
     split
     ·rename_i hxx
      unfold ofL
      rw [nth_eq, List.getElem?_eq_getElem (by omega : x - i < us.length)]
      exact hu0 _ (List.getElem_mem _)
     ·exact (hy x (by
       have hx : x < i + k.nt := hx
       omega)).le hle) gg'
end
noncomputable def roK (ua ut : List Nat) (code : (Nat → Addr) → (Nat → Tok) → Code) (pre : (Nat → Addr) → (Nat → Tok) → List (Nat × Obj)) (val : (Nat → Addr) → (Nat → Tok) → Tok → Value) : HK :=
 {ua, ut, nt := 1, nn := 0, noH := false, un := false, noting := false, tgt := fun a t => .code (code a t), pre, post := fun _ _ _ _ _ _ => [], news := fun _ _ _ _ _ _ => [], res := fun a t u _ _ _ => .ok (.ret (val a t (u 0))) }
theorem roK_wf {ua ut code pre val} (hn : ua.Nodup) (hp : ∀ a t, ∀ q ∈ pre a t, q.1 < ua.length) : HKwf (roK ua ut code pre val) :=
 ⟨hn, fun _ _ _ _ _ _ _ h => (nomatch h), fun _ _ _ _ _ _ => List.nodup_nil, hp, fun _ _ _ _ _ _ => rfl⟩
theorem After.refl {k : HK} {a t u b sl pl} {h : Heap} (h1 : k.post a t u b sl pl = []) (h2 : k.news a t u b sl pl = []) (h3 : k.nn = 0) (h4 : k.noting = false) : After k a t u b sl pl h h :=
 ⟨fun _ _ e _ _ => e, (fun q => by rw [h4] at q; cases q), (fun q hq => by rw [h1] at hq; cases hq), (fun j x e => by rw [h2] at e; cases e), fun i j hi => by rw [h3] at hi; exact absurd hi (Nat.not_lt_zero _), Nat.le_refl _⟩
theorem roK_ok {D U : Nat} {kt : KT} {w : World} {A : Around} {gp : GP} {ua ut code pre val}
  (H : ∀ (a : Nat → Addr) (t : Nat → Tok) (A' : Around) (R' : Result → Shared → Prop) (s : Shared), (∀ q ∈ pre a t, s.heap.get? (a q.1) = some q.2) → gp.n < s.toks → (∀ x, x < ut.length → gp.tk s.toks (t x)) → (∀ v t', gp.tk t' v → s.toks ≤ t' → R' (.ok (.ret (val a t v))) { s with toks := t' }) → codeAny (model pw w) A' (code a t) R' s) :
  HKok D U kt w A gp (roK ua ut code pre val) := fun a t A' R' h tok g d os hd hh hu hno h1 ht gg B hp ho hi K =>
 H a t A' R' ⟨h, g, d, tok, os⟩ hp h1 ht fun v t' hv ht' => K h t' g d os [v] [] [] rfl (fun u hu => by cases hu with | head => exact hv | tail _ h => cases h) (Nat.lt_of_lt_of_le h1 ht') (fun _ => ht') rfl (fun _ => rfl) gg (After.refl rfl rfl rfl rfl)
noncomputable def kt0 (P : Params) : KT := (.node (some (o0 P)) (.node none (.node (some (o3 P)) (.node none (.node none .nil (.node none .nil (.node (some (o111 P)) .nil .nil))) (.node none (.node none .nil (.node none .nil (.node none .nil (.node none (.node (some (o743 P)) .nil .nil) .nil)))) (.node none .nil (.node none .nil (.node none .nil (.node none .nil .nil)))))) (.node none (.node none (.node none (.node none (.node none (.node none .nil (.node (some (o771 P)) .nil .nil)) (.node (some (o387 P)) .nil .nil)) .nil) (.node none (.node none (.node none .nil (.node (some (o803 P)) .nil .nil)) .nil) .nil)) (.node (some (o51 P)) (.node (some (o83 P)) .nil .nil) (.node (some (o115 P)) (.node none (.node none (.node (some (o563 P)) .nil .nil) .nil) .nil) (.node none (.node (some (o371 P)) .nil .nil) .nil)))) (.node none (.node none (.node none (.node none (.node none .nil (.node (some (o779 P)) .nil .nil)) (.node (some (o395 P)) .nil .nil)) .nil) (.node none (.node none .nil (.node none (.node (some (o683 P)) .nil .nil) .nil)) .nil)) (.node none .nil (.node none .nil (.node none .nil (.node none (.node (some (o763 P)) .nil .nil) .nil))))))) (.node none (.node none (.node none (.node none (.node (some (o65 P)) .nil .nil) .nil) (.node none (.node none (.node none (.node none .nil (.node (some (o785 P)) .nil .nil)) (.node (some (o401 P)) .nil .nil)) (.node none .nil (.node none (.node (some (o721 P)) .nil .nil) .nil))) (.node (some (o113 P)) .nil (.node none .nil (.node none (.node (some (o753 P)) .nil .nil) .nil))))) (.node none (.node none (.node none .nil (.node none .nil (.node none (.node (some (o713 P)) .nil .nil) .nil))) (.node none .nil (.node none (.node none (.node (some (o617 P)) .nil .nil) .nil) .nil))) (.node (some (o57 P)) (.node none (.node none (.node none .nil (.node (some (o793 P)) .nil .nil)) .nil) .nil) .nil))) (.node none (.node none (.node none (.node (some (o69 P)) .nil .nil) (.node none (.node none .nil (.node none (.node (some (o677 P)) .nil .nil) .nil)) .nil)) .nil) (.node none (.node none (.node none (.node (some (o141 P)) .nil .nil) .nil) (.node none (.node none (.node none (.node (some (o557 P)) .nil .nil) .nil) (.node none (.node (some (o685 P)) .nil .nil) .nil)) (.node none .nil (.node none (.node (some (o749 P)) .nil .nil) .nil)))) (.node none (.node none (.node none (.node none .nil (.node (some (o797 P)) .nil .nil)) .nil) .nil) (.node none .nil (.node none (.node (some (o381 P)) .nil .nil) (.node none (.node (some (o765 P)) .nil .nil) .nil)))))))) (.node (some (o2 P)) (.node (some (o4 P)) (.node none (.node none (.node none (.node (some (o64 P)) .nil .nil) .nil) (.node none (.node none .nil (.node none .nil (.node none (.node (some (o720 P)) .nil .nil) .nil))) (.node none .nil (.node none .nil (.node none (.node (some (o752 P)) .nil .nil) .nil))))) (.node none .nil (.node none (.node none (.node none (.node none .nil (.node (some (o792 P)) .nil .nil)) .nil) .nil) .nil))) (.node none (.node none (.node none (.node none (.node none (.node none .nil (.node (some (o772 P)) .nil .nil)) (.node (some (o388 P)) .nil .nil)) .nil) (.node none (.node none .nil (.node none (.node (some (o676 P)) .nil .nil) .nil)) .nil)) (.node none (.node (some (o84 P)) .nil .nil) (.node none (.node none (.node none (.node (some (o564 P)) .nil .nil) .nil) .nil) .nil))) (.node none (.node none (.node none (.node (some (o140 P)) .nil .nil) .nil) (.node none (.node none .nil (.node none (.node (some (o684 P)) .nil .nil) .nil)) .nil)) (.node none .nil (.node none .nil (.node none .nil (.node none (.node (some (o764 P)) .nil .nil) .nil))))))) (.node none (.node none (.node none (.node none .nil (.node none (.node none (.node none .nil (.node (some (o802 P)) .nil .nil)) .nil) .nil)) (.node (some (o50 P)) (.node none (.node none (.node none .nil (.node (some (o786 P)) .nil .nil)) (.node (some (o402 P)) .nil .nil)) .nil) (.node (some (o114 P)) .nil .nil))) (.node none (.node none (.node none (.node none (.node none .nil (.node (some (o778 P)) .nil .nil)) (.node (some (o394 P)) .nil .nil)) (.node none .nil (.node none (.node (some (o714 P)) .nil .nil) .nil))) (.node none .nil (.node none (.node none (.node (some (o618 P)) .nil .nil) .nil) .nil))) (.node (some (o58 P)) .nil .nil))) (.node none (.node none (.node none (.node (some (o70 P)) .nil .nil) (.node none .nil (.node none .nil (.node none (.node (some (o742 P)) .nil .nil) .nil)))) .nil) (.node none (.node none .nil (.node (some (o110 P)) .nil (.node none .nil (.node none (.node (some (o750 P)) .nil .nil) .nil)))) (.node none (.node none (.node none (.node none .nil (.node (some (o798 P)) .nil .nil)) (.node none (.node (some (o670 P)) .nil .nil) .nil)) .nil) .nil))))))
noncomputable def denZ (c : Code) : Sem PySem.Fin := PySem.W.ZFast.zw11892475500146522536 PySem.W.ZFast.tableZ c
noncomputable def entryZ (a : Addr) (fd : FuncData) (body : List Stmt) (args : Args) : Sem PySem.Fin :=
 (PySem.W.ZFast.zw9782568553167038054 fd args).bind fun binds => (PySem.W.ZFast.zw11113344188204177931 fd.scope fd.globals fd.closure binds (fd.qualname ++ Str.mk (Array.mk [46, 60, 108, 111, 99, 97, 108, 115, 62, 46])) (some a) fd.code none fd.builtins).bind fun env => .pure (.again (.func body env))
noncomputable def SVz (w : World) (hb : Option Value) (D U : Nat) (sp : Code → SP) (nt : Bool) (bf : List Addr) (bo : List Nat) (cur : List Addr) (hooks : List HK) : SV :=
 {den := denZ, sp := sp, entry := entryZ, wt := PySem.W.ZFast.zw1243936422450756474, quiet := PySem.W.ZFast.zw17772548960776305114, setting := ⟨pw, w.params⟩, kt := kt0 w.params, hb, D, U, nt, bf, bo, cur, hooks := hksY hooks }
theorem denZ_eq : denZ = denote table := by
 funext c
 unfold denZ
 rw [← PySem.W.ZFast.ze11892475500146522536, ← PySem.W.ZFast.tableZ_eq]
theorem locals_eq : Str.mk (Array.mk [46, 60, 108, 111, 99, 97, 108, 115, 62, 46]) = (".<locals>." : Str) := by decide +kernel
theorem entryZ_eq : entryZ = entryTree := by
 funext a fd body args
 unfold entryZ entryTree
 rw [← PySem.W.ZFast.ze9782568553167038054, ← PySem.W.ZFast.ze11113344188204177931, locals_eq]
theorem kt0_2 (P : Params) : (kt0 P).get 2 = some (o2 P) := by kernel_rfl
noncomputable def es2 (P : Params) : Array DictEntry := match (o2 P).data with | .dict es _ => es | _ => #[]
theorem es2_keys (P : Params) : StrKeys (es2 P) := by
 intro e he
 have : (es2 P).all (fun e => match e.key with | .str .. => true | _ => false) = true := by kernel_rfl
 have z := Array.all_eq_true_iff_forall_mem.mp this e he
 revert z
 cases e.key <;> simp
theorem lim0 (P : Params) (h : Heap) (B : ∀ b x, (kt0 P).get b = some x → h.get? b = some x) : h.NoLimit := by
 refine ⟨nsFind (es2 P), ⟨o2 P, es2 P, _, B _ _ (kt0_2 P), rfl, es2_keys P, fun _ => rfl⟩, by kernel_rfl⟩
noncomputable def allKT (p : Obj → Bool) : KT → Bool
 | .nil => true
 | .node v l r => (match v with | some x => p x | none => true) && (allKT p l && allKT p r)
theorem allKT_get {p : Obj → Bool} : ∀ {t : KT}, allKT p t = true → ∀ {j : Nat} {x : Obj}, t.get j = some x → p x = true
 | .nil, _, _, _, e => nomatch e
 | .node v l r, h, j, x, e => by
  obtain ⟨h1, h2⟩ := Bool.and_eq_true_iff.mp h
  obtain ⟨h2, h3⟩ := Bool.and_eq_true_iff.mp h2
  rw [KT.get_node] at e
  by_cases h0 : j = 0
  ·rw [if_pos h0] at e; subst e; exact h1
  ·rw [if_neg h0] at e
   by_cases q : j % 2 = 1
   ·rw [if_pos q] at e; exact allKT_get h2 e
   ·rw [if_neg q] at e; exact allKT_get h3 e
theorem kt0_fr (P : Params) : allKT (fun x => !isFr x) (kt0 P) = true := by kernel_rfl
theorem ktf0 (P : Params) (b : Nat) (x : Obj) (e : (kt0 P).get b = some x) : isFr x = false := by
 have := allKT_get (kt0_fr P) e
 simpa using this
noncomputable def bfOf (A : Around) : List Addr := match A.frames with | some es => es.filterMap (·.frame) | none => []
noncomputable def spDen (c : Code) : SP := .tree (denote table c)
noncomputable def SPok (sp : Code → SP) : Prop := ∀ (w : World) c A Q s, SPw w A c (sp c) Q s → wpT w A c (denote table c) Q s
theorem svz_ok {w : World} {A : Around} {hb : Option Value} {D U : Nat} {sp : Code → SP} {nt : Bool} {bo : List Nat} {cur : List Addr} {hooks : List HK} (hcur : ∀ f ∈ cur, InFr A f) (hsp : SPok sp) (e : A.handled = hb) (r : A.depth + D ≤ recursionLimit) (hf : nt = true → ∃ es, A.frames = some es ∧ ∀ env ∈ es, notModule env = true ∧ ∃ f, env.frame = some f) : SVok (SVz w hb D U sp nt (bfOf A) bo cur hooks) w A :=
 ⟨denZ_eq, fun c A Q s h => hsp w c A Q s h, entryZ_eq, PySem.W.ZFast.ze1243936422450756474.symm, PySem.W.ZFast.ze17772548960776305114.symm, rfl, e, r, lim0 w.params, ktf0 w.params, fun q => by
  obtain ⟨es, e1, e2⟩ := hf q
  refine ⟨es, e1, fun env he => ?_⟩
  obtain ⟨z, f, hf⟩ := e2 env he
  refine ⟨z, f, ?_, hf⟩
  unfold bfOf
  rw [e1]
  exact List.mem_filterMap.mpr ⟨env, he, hf⟩, hcur⟩
theorem FrOk.bf {A : Around} {h : Heap} (F : FrOk A h) : ∀ f ∈ bfOf A, ∃ x, h.get? f = some x ∧ isFr x = true := fun f hf => by
 obtain ⟨es, e1, e2⟩ := F
 unfold bfOf at hf
 rw [e1] at hf
 obtain ⟨env, he, e3⟩ := List.mem_filterMap.mp hf
 obtain ⟨_, f', x, y1, y2, y3⟩ := e2 env he
 rw [e3] at y1
 cases y1
 exact ⟨x, y2, y3⟩
theorem FrOk.fr {A : Around} {h : Heap} (F : FrOk A h) : ∃ es, A.frames = some es ∧ ∀ env ∈ es, notModule env = true ∧ ∃ f, env.frame = some f := by
 obtain ⟨es, e1, e2⟩ := F
 exact ⟨es, e1, fun env he => by obtain ⟨z, f, x, y1, _, _⟩ := e2 env he; exact ⟨z, f, y1⟩⟩
noncomputable def bfN (nt : Bool) (A : Around) : List Addr := match nt with | true => bfOf A | false => []
theorem dle {a b c L : Nat} (h : a + b ≤ L) (e : Nat.ble c b = true := by rfl) : a + c ≤ L := Nat.le_trans (Nat.add_le_add_left (Nat.le_of_ble_eq_true e) a) h
theorem run_k {w : World} {A : Around} {D U : Nat} {nt : Bool} {ks : List HK} {gp : GP} {sp : Code → SP} {cur : List Addr} (hcur : ∀ f ∈ cur, InFr A f) (hsp : SPok sp) (hD : A.depth + D ≤ recursionLimit) {h : Heap} (hf : nt = true → FrOk A h)
  {g : Array GenState} {d : Drawn} {os : OsState} {tok : Nat} {as : List Addr} {xs : List Obj} {R : Result → Shared → Prop} {c : Code} {n : Nat} {ce : List Nat} {e : Nat} {ws : List Nat} {res : Dyn → Stop} {objs : Dyn → List (Option Obj)} {s i : Nat}
  (W : ∀ k ∈ ks, HKwf k) (ho : ∀ k ∈ ks, HKok D U (kt0 w.params) w A gp k) (S : Starts (kt0 w.params) h as xs) (ok : (insAll xs .nil 0).isSome = true) (h1 : gp.n < tok) (gg : gp.p g d os)
  (chk : ∀ Y : Dyn, Chk ws (codeR (SVz w A.handled D U sp nt (bfN nt A) (boOf xs) cur ks) (Y.pre as) n ce e c (mkT xs) as.length) (res (Y.pre as)) (objs (Y.pre as)) s i)
  (fin : ∀ (Y : Dyn) T m h' t' g' d' os', gp.n < t' → (∀ x, x < i → gp.tk t' (Y.tk x)) → gp.p g' d' os' → RepR (kt0 w.params) (bfN nt A) (boOf xs) h as.length (Y.pre as) h' T m s → ws.map T.get = objs (Y.pre as) → match res (Y.pre as) with | .res r => R r ⟨h', g', d', t', os'⟩ | .cut c => codeAny (model pw w) A c R ⟨h', g', d', t', os'⟩ | .call c c' hd md k ks => codeAny (model pw w) ((A.under c).mark hd) c' (fun r s' => MeansP w A c md ks (.tree (k r)) R s') ⟨h', g', d', t', os'⟩) (ha : gp.any = false := by rfl) : codeAny (model pw w) A c R ⟨h, g, d, tok, os⟩ := by
 have O : SVok (SVz w A.handled D U sp nt (bfN nt A) (boOf xs) cur ks) w A := by
  cases nt with
  | true => exact svz_ok hcur hsp rfl hD fun q => (hf q).fr
  | false =>
   have z := svz_ok (w := w) (A := A) (D := D) (U := U) (nt := false) (bo := boOf xs) (hooks := ks) hcur hsp rfl hD (fun q => by cases q)
   exact ⟨z.den, z.sp, z.entry, z.wt, z.quiet, z.setting, z.hb, z.room, z.lim, z.ktf, (fun q => by cases q), hcur⟩
 refine run_view (V := SVz w A.handled D U sp nt (bfN nt A) (boOf xs) cur ks) O (hks_ok rfl W (ktf0 w.params) ho) S ok rfl ?_ h1 gg chk fin ha
 cases nt with
 | true => exact (hf rfl).bf
 | false => exact fun f hf => nomatch hf
end
section
open PySem PySem.W PySem.W.X PySem.Spec PySem.Calls PyProof.Rows PySem.Builtin.Str
noncomputable def sameG (N : Nat) (g : Array GenState) (d : Drawn) (os : OsState) : GP := ⟨fun g' d' os' => g' = g ∧ d' = d ∧ os' = os, N, false, false, 0⟩
theorem code_gives {w : World} {A : Around} {s : Shared} {R : Result → Shared → Prop} {T : String} {name : Str} {id : String} {B : Builtin} {self : Value} {rest : List Value} {md : Made} (slot : Slot T name id) (hT : s.TypeIs self T)
  (entry : entryFor table id = some B) (args : argsOk id ⟨self :: rest, []⟩) (g : Gives (B ⟨self :: rest, []⟩) md) (h : md.post (fun v s' => R (.ok (.ret v)) s') s) : codeAny (model pw w) A (.call (.builtin id) ⟨self :: rest, []⟩) R s :=
 codeAny_call_builtin slot.plain entry (slot.check _ _ _ _ _ _ _ _ hT args (g pw w A R s h))
theorem code_fn {w : World} {A : Around} {s : Shared} {R : Result → Shared → Prop} {id : String} {b : Builtin} {args : List Value} (hk : builtinKind id = none) (hp : plainId id = true)
  (hb : entryFor table id = some b) (ha : argsOk id ⟨args, []⟩) (hc : wpAny (model pw w) A.in1 (b ⟨args, []⟩) (fun fin s' => ∃ v, fin = .done (.ret v) ∧ R (.ok (.ret v)) s') (fun e s' => R (.error e) s') s) : codeAny (model pw w) A (.call (.builtin id) ⟨args, []⟩) R s := by
 refine codeAny_call_builtin hp hb ?_
 have hfin := wpAny_mono hc (Q' := fun fin s' => match fin with | .done f => R (.ok f) s' | .again c' => c'.quiet = true ∧ codeAny (model pw w) A c' R s') (fun fin s' h' => by obtain ⟨v, rfl, hv⟩ := h'; exact hv) fun _ _ h' => h'
 simp only [checkBuiltinCall, hk]
 cases hsig : Manifest.signature? id with
 | none => exact wpAny_pure hfin
 | some sig =>
  simp only [argsOk, hsig] at ha
  have h2 : Bind.checkArgs id sig ⟨args, []⟩ = pure () := ha
  show wpAny _ A.in1 (Bind.checkArgs id sig ⟨args, []⟩) _ _ s
  rw [h2]; exact wpAny_pure hfin
noncomputable def kGe (ut : List Nat) (a : Int) (ta : (Nat → Tok) → Tok) (b : Int) (tb : (Nat → Tok) → Tok) (v : Bool) : HK := roK [] ut (fun _ t => .call (.builtin "int.__ge__") ⟨[.int a (ta t), .int b (tb t)], []⟩) (fun _ _ => []) (fun _ _ _ => .bool v)
theorem kGe_wf {ut a ta b tb v} : HKwf (kGe ut a ta b tb v) := roK_wf List.nodup_nil fun _ _ _ h => nomatch h
theorem kGe_ok {D U : Nat} {kt : KT} {w : World} {A : Around} {gp : GP} {ut a ta b tb v} (hup : gp.up = false) (h : decide (a ≥ b) = v) : HKok D U kt w A gp (kGe ut a ta b tb v) := roK_ok fun _ t A' R' s _ h1 _ k =>
 code_gives F.slot_int_ge (typeIs_int s a _) F.entry_int_ge (F.args_int_ge_2 _ _) (AutoIntG9.int___ge___int_int_0 a (ta t) b (tb t)) (by subst h; exact k s.toks s.toks (GP.tk0 hup h1) (Nat.le_refl _))
noncomputable def kLt (ut : List Nat) (a : Int) (ta : (Nat → Tok) → Tok) (b : Int) (tb : (Nat → Tok) → Tok) (v : Bool) : HK := roK [] ut (fun _ t => .call (.builtin "int.__lt__") ⟨[.int a (ta t), .int b (tb t)], []⟩) (fun _ _ => []) (fun _ _ _ => .bool v)
theorem kLt_wf {ut a ta b tb v} : HKwf (kLt ut a ta b tb v) := roK_wf List.nodup_nil fun _ _ _ h => nomatch h
theorem kLt_ok {D U : Nat} {kt : KT} {w : World} {A : Around} {gp : GP} {ut a ta b tb v} (hup : gp.up = false) (h : decide (a < b) = v) : HKok D U kt w A gp (kLt ut a ta b tb v) := roK_ok fun _ t A' R' s _ h1 _ k =>
 code_gives F.slot_int_lt (typeIs_int s a _) F.entry_int_lt (F.args_int_lt_2 _ _) (AutoIntG1.int___lt___int_int_0 a (ta t) b (tb t)) (by subst h; exact k s.toks s.toks (GP.tk0 hup h1) (Nat.le_refl _))
theorem code_len {w : World} {A' : Around} {R' : Result → Shared → Prop} {s : Shared} {x : Str} {t : Tok} (h : x.length < 1000000) (k : ∀ v t', s.toks ≤ v → v < t' → R' (.ok (.ret (.int x.length v))) { s with toks := t' }) : codeAny (model pw w) A' (.call (.builtin "len") ⟨[.str x t], []⟩) R' s := by
 refine code_fn kind_len plain_len entry_len (args_len1 _) ?_
 unfold Builtin.«len»
 refine wpAny_bind (m := oneArg "len" _) (wpAny_pure ?_)
 refine wpAny_bind (m := callSpecial? (.str x t) (Str.ofString "__len__")) (wpAny_callSpecial?_slot (name := Str.ofString "__len__") (typeIs_str s x t) F.slot_str_len (call_gives F.slot_str_len (typeIs_str s x t) F.entry_str_len (F.args_str_len_1 _) (gives_str_len x t) ?_))
 show wpAny _ _ _ _ _ { s with toks := s.toks + 1 }
 refine wpAny_bind (wpAny_holding (wpAny_pure ?_))
 refine wpAny_bind (wpAny_letGo ?_)
 show wpAny _ _ (if (x.length : Int) < 0 then _ else _) _ _ _
 rw [if_neg (by omega)]
 show wpAny _ _ (if (x.length : Int) ≥ 2 ^ 63 then _ else _) _ _ _
 rw [if_neg (by omega)]
 exact wpAny_bind (wpAny_mkInt (wpAny_pure ⟨_, rfl, k (s.toks + 1) (s.toks + 1 + 1) (Nat.le_succ _) (Nat.lt_succ_self _)⟩))
noncomputable def kLenS (x : Str) (t : Tok) (n : Int) : HK := roK [] [] (fun _ _ => .call (.builtin "len") ⟨[.str x t], []⟩) (fun _ _ => []) (fun _ _ k => .int n k)
theorem kLenS_wf {x t n} : HKwf (kLenS x t n) := roK_wf List.nodup_nil fun _ _ _ h => nomatch h
theorem kLenS_ok {D U : Nat} {kt : KT} {w : World} {A : Around} {gp : GP} {x t n} (h : x.length < 1000000) (e : (x.length : Int) = n) : HKok D U kt w A gp (kLenS x t n) := roK_ok fun _ _ A' R' s _ h1 _ k => by
 subst e; exact code_len h fun v t' a b => k v t' ⟨Nat.lt_of_lt_of_le h1 a, fun _ => b⟩ (Nat.le_of_lt (Nat.lt_of_le_of_lt a b))
noncomputable def sliceObj (p : Int) (t : Tok) (q : Int) (u : Tok) : Obj := ⟨.type "slice", none, .fields (Array.mk [.int p t, .int q u, .none]), Array.mk []⟩
theorem slice_one {x : Str} {p c : Nat} (hc : x.cps[p]? = some c) : slicePicked x (some ((p : Int), 0)) (some ((p : Int) + 1, 0)) none = [p] := by
 have hp : p < x.cps.size := (Array.getElem?_eq_some_iff.mp hc).1
 have e := StrLaws.strSliceIndices_plain (a := p) (b := p + 1) (len := x.length) (Nat.le_succ p) hp
 unfold slicePicked
 show strSliceIndices (some (p : Int)) (some ((p : Int) + 1)) 1 x.length = [p]
 rw [show ((p : Int) + 1) = ((p + 1 : Nat) : Int) by omega, e]
 simp [List.range', Nat.add_sub_cancel_left]
theorem code_slice {w : World} {A' : Around} {R' : Result → Shared → Prop} {s : Shared} {x : Str} {tx : Tok} {b : Addr} {p : Nat} {t u : Tok} {c : Nat} (hc : x.cps[p]? = some c) (hp : s.heap.get? b = some (sliceObj p t ((p : Int) + 1) u))
  {N : Nat} (h0 : N < tx) (h1 : N < s.toks) (k : ∀ v t', N < v → s.toks ≤ t' → R' (.ok (.ret (.str ⟨Array.mk [c]⟩ v))) { s with toks := t' }) : codeAny (model pw w) A' (.call (.builtin "str.__getitem__") ⟨[.str x tx, .ref b], []⟩) R' s := by
 have hs : s.heap.IsSlice b (some ((p : Int), t)) (some ((p : Int) + 1, u)) none := ⟨_, hp, rfl, rfl⟩
 refine codeAny_call_builtin F.slot_str_getitem.plain F.entry_str_getitem (F.slot_str_getitem.check _ _ _ _ _ _ _ _ (typeIs_str s x tx) (F.args_str_getitem_2 _ _) (meets_str_getitem_slice x tx b _ _ _ rfl pw w A' R' s ⟨hs, ?_⟩))
 have e : slicePicked x (some ((p : Int), t)) (some ((p : Int) + 1, u)) none = [p] := slice_one hc
 unfold sliceMade
 rw [e]
 have f : ([p].filterMap (x.cps[·]?)).toArray = Array.mk [c] := by simp [hc]
 split
 ·rename_i hl
  have hx : x = ⟨Array.mk [c]⟩ := by
   have h1 : x.cps.size = 1 := by
    have := (Bool.and_eq_true_iff.mp hl).2
    have := beq_iff_eq.mp this
    exact this.symm
   have hp0 : p = 0 := by have := (Array.getElem?_eq_some_iff.mp hc).1; omega
   subst hp0
   cases x with | mk a =>
   congr 1
   apply Array.ext
   ·exact h1
   ·intro i h2 h3
    have : i = 0 := by simp at h3; exact h3
    subst this
    obtain ⟨_, h4⟩ := Array.getElem?_eq_some_iff.mp hc
    simpa using h4
  show R' (.ok (.ret (.str x tx))) s
  rw [hx]
  exact k tx s.toks h0 (Nat.le_refl _)
 ·rw [f]
  exact ⟨(by show 1 ≤ sizeLine; decide), k s.toks _ h1 (Nat.le_succ _)⟩
noncomputable def kSlice (ua ut : List Nat) (x : Str) (tx : Tok) (p : Int) (t : (Nat → Tok) → Tok) (q : Int) (u : (Nat → Tok) → Tok) (c : Nat) : HK := roK ua ut (fun a _ => .call (.builtin "str.__getitem__") ⟨[.str x tx, .ref (a 0)], []⟩) (fun _ y => [(0, sliceObj p (t y) q (u y))]) (fun _ _ k => .str ⟨Array.mk [c]⟩ k)
theorem kSlice_wf {j ut x tx p t q u c} : HKwf (kSlice [j] ut x tx p t q u c) := roK_wf (by simp) fun a t q h => by
 cases h with
 | head => exact Nat.zero_lt_one
 | tail _ h => cases h
theorem kSlice_ok {D U : Nat} {kt : KT} {w : World} {A : Around} {gp : GP} {ua ut x tx c} {p : Nat} {t u} (hc : x.cps[p]? = some c) (hup : gp.up = false) (h0 : gp.n < tx) : HKok D U kt w A gp (kSlice ua ut x tx p t ((p : Int) + 1) u c) := roK_ok fun a y A' R' s hp h1 _ k =>
 code_slice hc (hp (0, sliceObj p (t y) ((p : Int) + 1) (u y)) (.head _)) h0 h1 fun v t' a b => k v t' (GP.tk0 hup a) b
end
section
open PySem PySem.W PySem.W.X PySem.Spec PySem.Calls PyProof.Rows
noncomputable abbrev wf (w : World) (b : Bool) : World := w.withFollow "special-get-raises" b
noncomputable def sioObj (bd : Addr) : Obj := ⟨.ref 618, some bd, .plain, Array.mk []⟩
structure SK where
 k1 : Tok
 k2 : Tok
 k3 : Tok
 t1 : Tok
 t2 : Tok
noncomputable def sioDict (P : Params) (K : SK) (B : Str) (p : Int) (t : Tok) : Obj := ⟨.type "dict", none, .dict (Array.mk [en P "_StringIO__newline" K.k1 (.str (o "\n") K.t1), en P "_StringIO__buf" K.k2 (.str B K.t2), en P "_StringIO__pos" K.k3 (.int p t)]) 3, Array.mk []⟩
noncomputable def readC (b : Addr) (t0 : Tok) : Code := .call (.ref 564) ⟨[.ref b, .int 1 t0], []⟩
structure Sio (P : Params) (h : Heap) (b bd : Addr) (K : SK) (B : Str) (p : Int) (t : Tok) : Prop where
 obj : h.get? b = some (sioObj bd)
 dict : h.get? bd = some (sioDict P K B p t)
theorem two_starts {kt : KT} {h : Heap} {a b : Addr} {x y : Obj} (B : ∀ b x, kt.get b = some x → h.get? b = some x) (ha : h.get? a = some x) (hb : h.get? b = some y) (ne : a ≠ b) (oa : kt.get a = none) (ob : kt.get b = none) : Starts kt h [a, b] [x, y] :=
 ⟨rfl, fun j a' x' e1 e2 => (by
  rcases j with _ | _ | j
  ·cases e1; cases e2; exact ha
  ·cases e1; cases e2; exact hb
  ·simp at e1), by simp [ne], B, fun c hc => by
   rcases List.mem_cons.mp hc with rfl | hc
   ·exact oa
   ·rcases List.mem_cons.mp hc with rfl | hc
    ·exact ob
    ·cases hc⟩
theorem KeepB.one {h h' : Heap} {b bd : Addr} {x : Obj} (K : KeepB false h h' [b, bd]) (h1 : h.get? b = some x) (h2 : h'.get? b = some x) : KeepB false h h' [bd] :=
 have key : ∀ a y, h.get? a = some y → a ∉ [bd] → h'.get? a = some y := fun a y q n => by
  by_cases ha : a = b
  ·subst ha
   rw [h1] at q
   rw [← q]; exact h2
  ·exact K.keep a y q (by simp only [memC, memN, or_false] at n ⊢; simp [ha, n]) (fun q => by cases q)
 ⟨fun a y q n _ => key a y q n, fun a y q n _ => ⟨y.slots, key a y q n⟩, K.size⟩
theorem back_Sio {kt : KT} {bf bo} {P : Params} {h h' : Heap} {b bd : Addr} {Y : Dyn} {T : BT} {m : Nat} {K : SK} {B : Str} {q : Int} {u : Tok} (D : RepR kt bf bo h [b, bd].length (Y.pre [b, bd]) h' T m 0)
  (e : [0, 1].map T.get = [some (sioObj bd), some (sioDict P K B q u)]) (hb : h.get? b = some (sioObj bd)) : Sio P h' b bd K B q u ∧ KeepB false h h' [bd] := by
 have e0 : T.get 0 = some (sioObj bd) := by
  have := congrArg (fun l => l[0]?) e
  simpa using this
 have e1 : T.get 1 = some (sioDict P K B q u) := by
  have := congrArg (fun l => l[1]?) e
  simpa using this
 have g0 : h'.get? b = some (sioObj bd) := (D.own 0 _ e0).2
 have g1 : h'.get? bd = some _ := (D.own 1 _ e1).2
 exact ⟨⟨g0, g1⟩, (D.keepB (.inl rfl)).one hb g0⟩
noncomputable def ceA : List Nat := decs [Ndy, Ndz, Nea, Neb, Nec, Ncf, Ned, Nee, Ncf, Ner, 151337196519906546286595, 93536115939550386030347400061701285610966044639233, 5444517870735015415413993718916893904898, 6492273477826137834750618139361280, 123205461227520]
noncomputable def ksA (K : SK) (B : Str) (p c : Nat) (t3 : Tok) : List HK := [kLenS B K.t2 B.length, kGe [15] p (fun _ => t3) B.length (fun t => t 0) false, kLt [19, 15] ((p : Int) + 1) (fun t => t 0) B.length (fun t => t 1) true, kSlice [5] [21] B K.t2 p (fun _ => t3) ((p : Int) + 1) (fun t => t 0) c]
theorem chkA (w : World) (r : Bool) (hb : Option Value) (sp : Code → SP) (bf : List Addr) (cur : List Addr) (b bd : Addr) (K : SK) (B : Str) (p c : Nat) (t3 t0 : Tok) (Y : Dyn) :
  Chk [0, 1] (codeR (SVz (wf w r) hb 70 0 sp false bf (boOf [sioObj bd, sioDict w.params K B p t3]) cur (ksA K B p c t3)) (Y.pre [b, bd]) 2000 ceA 1 (readC b t0) (mkT [sioObj bd, sioDict w.params K B p t3]) 2) (.res (.ok (.ret (.str (Str.mk (Array.mk [c])) (Y.tk 31))))) [some (sioObj bd), some (sioDict w.params K B ((p : Int) + 1) (Y.tk 21))] 0 32 := by
 cases r <;> kernel_rfl
theorem readA_ok {N : Nat} {w : World} {r : Bool} {A : Around} (hr : A.depth + 70 ≤ recursionLimit) {h : Heap} {g : Array GenState} {d : Drawn} {os : OsState} {tok : Nat} {R : Result → Shared → Prop} {b bd : Addr} {K : SK} {B : Str} {p c : Nat} {t3 t0 : Tok}
  (hB : ∀ b x, (kt0 w.params).get b = some x → h.get? b = some x) (S : Sio w.params h b bd K B p t3) (ne : b ≠ bd) (ob : (kt0 w.params).get b = none) (od : (kt0 w.params).get bd = none)
  (hl : B.length < 1000000) (ht2 : N < K.t2) (ht3 : N < t3) (h1 : N < tok) (hc : B.cps[p]? = some c) (hp : p + 1 < B.length)
  (fin : ∀ h' t' tc t3', N < tc → N < t3' → N < t' → Sio w.params h' b bd K B ((p : Int) + 1) t3' → KeepB false h h' [bd] → R (.ok (.ret (.str (Str.mk (Array.mk [c])) tc))) ⟨h', g, d, t', os⟩) :
  codeAny (model pw (wf w r)) A (readC b t0) R ⟨h, g, d, tok, os⟩ := by
 refine run_k (D := 70) (U := 0) (nt := false) (sp := spDen) (ks := ksA K B p c t3) (gp := sameG N g d os) (cur := []) nilA (fun _ _ _ _ _ h => h) hr (fun q => by cases q) (as := [b, bd]) (xs := [sioObj bd, sioDict w.params K B p t3]) (ws := [0, 1]) (n := 2000) (ce := ceA) (e := 1) (s := 0) (i := 32)
  (res := fun Y => .res (.ok (.ret (.str (Str.mk (Array.mk [c])) (Y.tk 31))))) (objs := fun Y => [some (sioObj bd), some (sioDict w.params K B ((p : Int) + 1) (Y.tk 21))]) ?_ ?_ (two_starts hB S.obj S.dict ne ob od) rfl h1 ⟨rfl, rfl, rfl⟩ (fun Y => chkA w r A.handled spDen _ [] b bd K B p c t3 t0 Y) ?_
 ·intro k hk
  simp only [ksA, memC, memN, or_false] at hk
  rcases hk with rfl | rfl | rfl | rfl
  ·exact kLenS_wf
  ·exact kGe_wf
  ·exact kLt_wf
  ·exact kSlice_wf
 ·intro k hk
  simp only [ksA, memC, memN, or_false] at hk
  rcases hk with rfl | rfl | rfl | rfl
  ·exact kLenS_ok hl rfl
  ·exact kGe_ok rfl (by simp; omega)
  ·exact kLt_ok rfl (by simp; omega)
  ·exact kSlice_ok hc rfl ht2
 ·rintro Y T m h' t' _ _ _ h1' hy ⟨rfl, rfl, rfl⟩ D e
  have q := back_Sio D e S.obj
  exact fin h' t' (Y.tk 31) (Y.tk 21) (hy 31 (by decide)).1 (hy 21 (by decide)).1 h1' q.1 q.2
noncomputable def ceB : List Nat := decs [Ndy, Ndz, Nea, Neb, Nec, Ncf, Ned, Nee, Ncf, Ner, 46768063544961493945903700048487100085794676672515, 11166711472386915836696350503827720263172096, 46790888357672188740614847222506035527466803527680, 159929832321496650945620133710907143728815673344]
noncomputable def ksB (K : SK) (B : Str) (p c : Nat) (t3 : Tok) : List HK := [kLenS B K.t2 ((p : Int) + 1), kGe [15] p (fun _ => t3) ((p : Int) + 1) (fun t => t 0) false, kLt [19, 15] ((p : Int) + 1) (fun t => t 0) ((p : Int) + 1) (fun t => t 1) false, kSlice [5] [15] B K.t2 p (fun _ => t3) ((p : Int) + 1) (fun t => t 0) c]
theorem chkB (w : World) (r : Bool) (hb : Option Value) (sp : Code → SP) (bf : List Addr) (cur : List Addr) (b bd : Addr) (K : SK) (B : Str) (p c : Nat) (t3 t0 : Tok) (Y : Dyn) :
  Chk [0, 1] (codeR (SVz (wf w r) hb 70 0 sp false bf (boOf [sioObj bd, sioDict w.params K B p t3]) cur (ksB K B p c t3)) (Y.pre [b, bd]) 2000 ceB 1 (readC b t0) (mkT [sioObj bd, sioDict w.params K B p t3]) 2) (.res (.ok (.ret (.str (Str.mk (Array.mk [c])) (Y.tk 29))))) [some (sioObj bd), some (sioDict w.params K B ((p : Int) + 1) (Y.tk 15))] 0 30 := by
 cases r <;> kernel_rfl
theorem readB_ok {N : Nat} {w : World} {r : Bool} {A : Around} (hr : A.depth + 70 ≤ recursionLimit) {h : Heap} {g : Array GenState} {d : Drawn} {os : OsState} {tok : Nat} {R : Result → Shared → Prop} {b bd : Addr} {K : SK} {B : Str} {p c : Nat} {t3 t0 : Tok}
  (hB : ∀ b x, (kt0 w.params).get b = some x → h.get? b = some x) (S : Sio w.params h b bd K B p t3) (ne : b ≠ bd) (ob : (kt0 w.params).get b = none) (od : (kt0 w.params).get bd = none)
  (hl : B.length < 1000000) (ht2 : N < K.t2) (ht3 : N < t3) (h1 : N < tok) (hc : B.cps[p]? = some c) (hp : p + 1 = B.length)
  (fin : ∀ h' t' tc t3', N < tc → N < t3' → N < t' → Sio w.params h' b bd K B ((p : Int) + 1) t3' → KeepB false h h' [bd] → R (.ok (.ret (.str (Str.mk (Array.mk [c])) tc))) ⟨h', g, d, t', os⟩) :
  codeAny (model pw (wf w r)) A (readC b t0) R ⟨h, g, d, tok, os⟩ := by
 refine run_k (D := 70) (U := 0) (nt := false) (sp := spDen) (ks := ksB K B p c t3) (gp := sameG N g d os) (cur := []) nilA (fun _ _ _ _ _ h => h) hr (fun q => by cases q) (as := [b, bd]) (xs := [sioObj bd, sioDict w.params K B p t3]) (ws := [0, 1]) (n := 2000) (ce := ceB) (e := 1) (s := 0) (i := 30)
  (res := fun Y => .res (.ok (.ret (.str (Str.mk (Array.mk [c])) (Y.tk 29))))) (objs := fun Y => [some (sioObj bd), some (sioDict w.params K B ((p : Int) + 1) (Y.tk 15))]) ?_ ?_ (two_starts hB S.obj S.dict ne ob od) rfl h1 ⟨rfl, rfl, rfl⟩ (fun Y => chkB w r A.handled spDen _ [] b bd K B p c t3 t0 Y) ?_
 ·intro k hk
  simp only [ksB, memC, memN, or_false] at hk
  rcases hk with rfl | rfl | rfl | rfl
  ·exact kLenS_wf
  ·exact kGe_wf
  ·exact kLt_wf
  ·exact kSlice_wf
 ·intro k hk
  simp only [ksB, memC, memN, or_false] at hk
  rcases hk with rfl | rfl | rfl | rfl
  ·exact kLenS_ok hl (by omega)
  ·exact kGe_ok rfl (by simp; omega)
  ·exact kLt_ok rfl (by simp)
  ·exact kSlice_ok hc rfl ht2
 ·rintro Y T m h' t' _ _ _ h1' hy ⟨rfl, rfl, rfl⟩ D e
  have q := back_Sio D e S.obj
  exact fin h' t' (Y.tk 29) (Y.tk 15) (hy 29 (by decide)).1 (hy 15 (by decide)).1 h1' q.1 q.2
noncomputable def ceE : List Nat := decs [Ndy, Ndz, Nea, Neb, Nec, Ncf, Ned, Nee, Ncf, 108139193397417986]
noncomputable def ksE (K : SK) (B : Str) (p : Nat) (t3 : Tok) : List HK := [kLenS B K.t2 p, kGe [15] p (fun _ => t3) p (fun t => t 0) true]
theorem chkE (w : World) (r : Bool) (hb : Option Value) (sp : Code → SP) (bf : List Addr) (cur : List Addr) (b bd : Addr) (K : SK) (B : Str) (p : Nat) (t3 t0 : Tok) (Y : Dyn) :
  Chk [0, 1] (codeR (SVz (wf w r) hb 70 0 sp false bf (boOf [sioObj bd, sioDict w.params K B p t3]) cur (ksE K B p t3)) (Y.pre [b, bd]) 2000 ceE 1 (readC b t0) (mkT [sioObj bd, sioDict w.params K B p t3]) 2) (.res (.ok (.ret (.str (Str.mk (Array.mk [])) (Y.tk 18))))) [some (sioObj bd), some (sioDict w.params K B p t3)] 0 19 := by
 cases r <;> kernel_rfl
theorem readE_ok {N : Nat} {w : World} {r : Bool} {A : Around} (hr : A.depth + 70 ≤ recursionLimit) {h : Heap} {g : Array GenState} {d : Drawn} {os : OsState} {tok : Nat} {R : Result → Shared → Prop} {b bd : Addr} {K : SK} {B : Str} {p : Nat} {t3 t0 : Tok}
  (hB : ∀ b x, (kt0 w.params).get b = some x → h.get? b = some x) (S : Sio w.params h b bd K B p t3) (ne : b ≠ bd) (ob : (kt0 w.params).get b = none) (od : (kt0 w.params).get bd = none)
  (hl : B.length < 1000000) (ht2 : N < K.t2) (ht3 : N < t3) (h1 : N < tok) (hp : p = B.length)
  (fin : ∀ h' t' tc t3', N < tc → N < t3' → N < t' → Sio w.params h' b bd K B p t3' → KeepB false h h' [bd] → R (.ok (.ret (.str (Str.mk (Array.mk [])) tc))) ⟨h', g, d, t', os⟩) :
  codeAny (model pw (wf w r)) A (readC b t0) R ⟨h, g, d, tok, os⟩ := by
 refine run_k (D := 70) (U := 0) (nt := false) (sp := spDen) (ks := ksE K B p t3) (gp := sameG N g d os) (cur := []) nilA (fun _ _ _ _ _ h => h) hr (fun q => by cases q) (as := [b, bd]) (xs := [sioObj bd, sioDict w.params K B p t3]) (ws := [0, 1]) (n := 2000) (ce := ceE) (e := 1) (s := 0) (i := 19)
  (res := fun Y => .res (.ok (.ret (.str (Str.mk (Array.mk [])) (Y.tk 18))))) (objs := fun Y => [some (sioObj bd), some (sioDict w.params K B p t3)]) ?_ ?_ (two_starts hB S.obj S.dict ne ob od) rfl h1 ⟨rfl, rfl, rfl⟩ (fun Y => chkE w r A.handled spDen _ [] b bd K B p t3 t0 Y) ?_
 ·intro k hk
  simp only [ksE, memC, memN, or_false] at hk
  rcases hk with rfl | rfl
  ·exact kLenS_wf
  ·exact kGe_wf
 ·intro k hk
  simp only [ksE, memC, memN, or_false] at hk
  rcases hk with rfl | rfl
  ·exact kLenS_ok hl (by omega)
  ·exact kGe_ok rfl (by simp)
 ·rintro Y T m h' t' _ _ _ h1' hy ⟨rfl, rfl, rfl⟩ D e
  have q := back_Sio D e S.obj
  exact fin h' t' (Y.tk 18) t3 (hy 18 (by decide)).1 ht3 h1' q.1 q.2
theorem After.of_keep {k : HK} {a t u b sl pl} {h h' : Heap} (K : KeepB false h h' ((k.post a t u b sl pl).map fun q => a q.1)) (hp : ∀ q ∈ k.post a t u b sl pl, h'.get? (a q.1) = some q.2) (h2 : k.news a t u b sl pl = []) (h3 : k.nn = 0) (h4 : k.noting = false) : After k a t u b sl pl h h' :=
 ⟨fun c x e n _ => K.keep c x e (fun q => by obtain ⟨y, hy, e⟩ := List.mem_map.mp q; exact n y hy e) (fun q => by cases q), (fun q => by rw [h4] at q; cases q), hp, (fun j x e => by rw [h2] at e; cases e), fun i j hi => by rw [h3] at hi; exact absurd hi (Nat.not_lt_zero _), K.size⟩
noncomputable def rdC (P : Params) (S : SK) (B : Str) (p k : Nat) (ut : List Nat) (tp : (Nat → Tok) → Tok) (c : Nat) : HK :=
 {ua := [2, 3], ut, nt := 2, nn := 0, noH := false, un := false, noting := false, tgt := fun a t => .code (readC (a 0) (t 0)), pre := fun a t => [(0, sioObj (a 1)), (1, sioDict P S B ((p + k : Nat) : Int) (tp t))],
  post := fun a t u _ _ _ => [(1, sioDict P S B ((p + (k + 1) : Nat) : Int) (u 1))], news := fun _ _ _ _ _ _ => [], res := fun _ _ u _ _ _ => .ok (.ret (.str (Str.mk (Array.mk [c])) (u 0))) }
noncomputable def rdE (P : Params) (S : SK) (B : Str) (p k : Nat) (ut : List Nat) (tp : (Nat → Tok) → Tok) : HK :=
 {ua := [2, 3], ut, nt := 2, nn := 0, noH := false, un := false, noting := false, tgt := fun a t => .code (readC (a 0) (t 0)), pre := fun a t => [(0, sioObj (a 1)), (1, sioDict P S B ((p + k : Nat) : Int) (tp t))],
  post := fun a t u _ _ _ => [(1, sioDict P S B ((p + k : Nat) : Int) (u 1))], news := fun _ _ _ _ _ _ => [], res := fun _ _ u _ _ _ => .ok (.ret (.str (Str.mk (Array.mk [])) (u 0))) }
theorem rdC_wf {P S B p k ut tp c} : HKwf (rdC P S B p k ut tp c) := by
 refine ⟨by show [2, 3].Nodup; decide, fun a t u b sl pl q h => ?_, fun _ _ _ _ _ _ => by simp [rdC], fun a t q h => ?_, fun _ _ _ _ _ _ => rfl⟩
 ·cases h with
  | head => exact ⟨by show 1 < 2; decide, _, .tail _ (.head _)⟩
  | tail _ h => cases h
 ·rcases List.mem_cons.mp h with rfl | h
  ·exact (by show 0 < 2; decide)
  ·rcases List.mem_cons.mp h with rfl | h
   ·exact (by show 1 < 2; decide)
   ·cases h
theorem rdE_wf {P S B p k ut tp} : HKwf (rdE P S B p k ut tp) := by
 refine ⟨by show [2, 3].Nodup; decide, fun a t u b sl pl q h => ?_, fun _ _ _ _ _ _ => by simp [rdE], fun a t q h => ?_, fun _ _ _ _ _ _ => rfl⟩
 ·cases h with
  | head => exact ⟨by show 1 < 2; decide, _, .tail _ (.head _)⟩
  | tail _ h => cases h
 ·rcases List.mem_cons.mp h with rfl | h
  ·exact (by show 0 < 2; decide)
  ·rcases List.mem_cons.mp h with rfl | h
   ·exact (by show 1 < 2; decide)
   ·cases h
theorem two_ne {gp : GP} (hup : gp.up = false) {tok a b : Tok} (h1 : gp.n < a) (h2 : gp.n < b) : ∀ u ∈ [a, b], gp.tk tok u := fun u hu => by
 rcases List.mem_cons.mp hu with rfl | hu
 ·exact GP.tk0 hup h1
 ·rcases List.mem_cons.mp hu with rfl | hu
  ·exact GP.tk0 hup h2
  ·cases hu
theorem rdC_ok {w : World} {r : Bool} {A : Around} {D U : Nat} {gp : GP} (hup : gp.up = false) {S B p k ut tp c} (hd : A.depth + D + 70 ≤ recursionLimit) (hl : B.length < 1000000) (h2 : gp.n < S.t2) (h3 : ∀ t : Nat → Tok, (∀ x, x < ut.length → gp.n < t x) → gp.n < tp t) (hc : B.cps[p + k]? = some c) : HKok D U (kt0 w.params) (wf w r) A gp (rdC w.params S B p k ut tp c) := by
 intro a t A' R' h tok g dr os hA hh hu hno h1 ht gg hB hp ho hi K
 have p2 := hp (0, sioObj (a 1)) (.head _)
 have p3 := hp (1, sioDict w.params S B ((p + k : Nat) : Int) (tp t)) (.tail _ (.head _))
 have ne : a 0 ≠ a 1 := fun q => by
  have := hi 0 1 (by show 0 < 2; decide) (by show 1 < 2; decide) q
  exact absurd this (by decide)
 have lt : p + k < B.length := (Array.getElem?_eq_some_iff.mp hc).1
 have ar : A'.depth + 70 ≤ recursionLimit := by omega
 have cast : (((p + k : Nat) : Int) + 1) = ((p + (k + 1) : Nat) : Int) := by omega
 have key : ∀ h' t' tc t3', gp.n < tc → gp.n < t3' → gp.n < t' → Sio w.params h' (a 0) (a 1) S B (((p + k : Nat) : Int) + 1) t3' → KeepB false h h' [a 1] → R' (.ok (.ret (.str (Str.mk (Array.mk [c])) tc))) ⟨h', g, dr, t', os⟩ := fun h' t' tc t3' n1 n2 n3 Z kb =>
  K h' t' g dr os [tc, t3'] [] [] rfl (two_ne hup n1 n2) n3 (GP.le0 hup) rfl (fun _ => rfl) gg (After.of_keep kb (fun q hq => by
   cases hq with
   | head => have := Z.dict; rw [cast] at this; exact this
   | tail _ hq => cases hq) rfl rfl rfl)
 by_cases e : p + k + 1 < B.length
 ·exact readA_ok ar hB ⟨p2, p3⟩ ne (ho 0 (by show 0 < 2; decide)) (ho 1 (by show 1 < 2; decide)) hl h2 (h3 t fun x hx => (ht x hx).1) h1 hc e key
 ·exact readB_ok ar hB ⟨p2, p3⟩ ne (ho 0 (by show 0 < 2; decide)) (ho 1 (by show 1 < 2; decide)) hl h2 (h3 t fun x hx => (ht x hx).1) h1 hc (by omega) key
theorem rdE_ok {w : World} {r : Bool} {A : Around} {D U : Nat} {gp : GP} (hup : gp.up = false) {S B p k ut tp} (hd : A.depth + D + 70 ≤ recursionLimit) (hl : B.length < 1000000) (h2 : gp.n < S.t2) (h3 : ∀ t : Nat → Tok, (∀ x, x < ut.length → gp.n < t x) → gp.n < tp t) (hc : p + k = B.length) : HKok D U (kt0 w.params) (wf w r) A gp (rdE w.params S B p k ut tp) := by
 intro a t A' R' h tok g dr os hA hh hu hno h1 ht gg hB hp ho hi K
 have p2 := hp (0, sioObj (a 1)) (.head _)
 have p3 := hp (1, sioDict w.params S B ((p + k : Nat) : Int) (tp t)) (.tail _ (.head _))
 have ne : a 0 ≠ a 1 := fun q => by
  have := hi 0 1 (by show 0 < 2; decide) (by show 1 < 2; decide) q
  exact absurd this (by decide)
 have ar : A'.depth + 70 ≤ recursionLimit := by omega
 exact readE_ok ar hB ⟨p2, p3⟩ ne (ho 0 (by show 0 < 2; decide)) (ho 1 (by show 1 < 2; decide)) hl h2 (h3 t fun x hx => (ht x hx).1) h1 hc fun h' t' tc t3' n1 n2 n3 Z kb =>
  K h' t' g dr os [tc, t3'] [] [] rfl (two_ne hup n1 n2) n3 (GP.le0 hup) rfl (fun _ => rfl) gg (After.of_keep kb (fun q hq => by
   cases hq with
   | head => exact Z.dict
   | tail _ hq => cases hq) rfl rfl rfl)
noncomputable def tupAC (t u : Tok) : Obj := ⟨.type "tuple", none, .seq (Array.mk [.str (o "a") t, .str (o "c") u]) 0, Array.mk []⟩
noncomputable def kIn (ua ut : List Nat) : HK :=
 {ua, ut, nt := 2, nn := 0, noH := false, un := false, noting := false, tgt := fun a t => .code (.call (.builtin "tuple.__contains__") ⟨[.ref (a 0), .str (o "a") (t 2)], []⟩), pre := fun a t => [(0, tupAC (t 0) (t 1))],
  post := fun _ _ _ _ _ _ => [], news := fun _ _ _ _ _ _ => [], res := fun _ _ _ _ _ _ => .ok (.ret (.bool true)) }
theorem kIn_wf {j ut} : HKwf (kIn [j] ut) := ⟨by show [j].Nodup; simp, fun _ _ _ _ _ _ _ h => (nomatch h), fun _ _ _ _ _ _ => List.nodup_nil, fun a t q h => (by
 cases h with
 | head => exact Nat.zero_lt_one
 | tail _ h => cases h), fun _ _ _ _ _ _ => rfl⟩
theorem kIn_ok {w : World} {A : Around} {D U : Nat} {kt : KT} {gp : GP} (hup : gp.up = false) {ua ut} : HKok D U kt w A gp (kIn ua ut) := by
 intro a t A' R' h tok g dr os hA hh hu hno h1 ht gg hB hp ho hi K
 have p := hp (0, tupAC (t 0) (t 1)) (.head _)
 have ht : IsTup h (a 0) (Array.mk [.str (o "a") (t 0), .str (o "c") (t 1)]) := ⟨_, p, rfl, 0, rfl⟩
 have e : ([o "a", o "c"].any fun x => x == o "a") = true := by decide +kernel
 exact codeAny_call_builtin slot_tuple_contains.plain entry_tuple_contains (slot_tuple_contains.check _ _ _ _ _ _ _ _ ht.typeIs (args_tuple_contains _ _) (tuple_contains_strs ht (ys := [o "a", o "c"]) (.cons _ _ (.cons _ _ .nil)) (by rw [e]; exact K h tok g dr os [tok, tok] [] [] rfl (two_ne hup h1 h1) h1 (GP.le0 hup) rfl (fun _ => rfl) gg (After.refl rfl rfl rfl rfl))))
noncomputable def lexObj (ad : Addr) : Obj := ⟨.ref 753, some ad, .plain, Array.mk []⟩
noncomputable def dqObj : Obj := ⟨.type "collections.deque", none, .fields (Array.mk [.none, .int 0 0]), Array.mk []⟩
noncomputable def lexDict (P : Params) (K : Nat → Tok) (b pb fs : Addr) (st : Value) (tt : Tok) : Obj := ⟨.type "dict", none, .dict (Array.mk [en P "instream" (K 0) (.ref b), en P "infile" (K 1) .none, en P "posix" (K 2) (.bool true), en P "eof" (K 3) .none, en P "commenters" (K 4) (.str (Str.ofString "") (K 5)), en P "wordchars" (K 6) (.str (o "abcdfeghijklmnopqrstuvwxyzABCDEFGHIJKLMNOPQRSTUVWXYZ0123456789_ßàáâãäåæçèéêëìíîïðñòóôõöøùúûüýþÿÀÁÂÃÄÅÆÇÈÉÊËÌÍÎÏÐÑÒÓÔÕÖØÙÚÛÜÝÞ") (K 7)), en P "whitespace" (K 8) (.str (o " \t\x0d\n") (K 9)), en P "whitespace_split" (K 10) (.bool true), en P "quotes" (K 11) (.str (o "'\"") (K 12)), en P "escape" (K 13) (.str (o "\\") (K 14)), en P "escapedquotes" (K 15) (.str (o "\"") (K 16)), en P "state" (K 17) st, en P "pushback" (K 18) (.ref pb), en P "lineno" (K 19) (.int 1 (K 20)), en P "debug" (K 21) (.int 0 (K 22)), en P "token" (K 23) (.str (Str.ofString "") tt), en P "filestack" (K 24) (.ref fs), en P "source" (K 25) .none, en P "_punctuation_chars" (K 26) (.str (Str.ofString "") (K 27))]) 19, Array.mk []⟩
structure Lx where
 a : Addr
 ad : Addr
 b : Addr
 bd : Addr
 pb : Addr
 fs : Addr
 K : Nat → Tok
 S : SK
noncomputable def Lx.as (L : Lx) : List Addr := [L.a, L.ad, L.b, L.bd, L.pb, L.fs]
noncomputable def Lx.objs (L : Lx) (P : Params) (B : Str) (p : Nat) (st : Value) (tt t3 : Tok) : List Obj := [lexObj L.ad, lexDict P L.K L.b L.pb L.fs st tt, sioObj L.bd, sioDict P L.S B (p : Int) t3, dqObj, dqObj]
noncomputable def nextC (a : Addr) : Code := .call (.ref 750) ⟨[.ref a], []⟩
theorem Starts.after {kt : KT} {bf bo} {h h' : Heap} {as : List Addr} {xs xs' : List Obj} {Y : Dyn} {T : BT} {m s : Nat} {ws : List Nat} (S : Starts kt h as xs) (D : RepR kt bf bo h as.length (Y.pre as) h' T m s) (hw : ws = List.range as.length) (e : ws.map T.get = xs'.map some) : Starts kt h' as xs' := by
 subst hw
 have l : as.length = xs'.length := by
  have := congrArg List.length e
  simpa using this
 refine ⟨l, fun j a x e1 e2 => ?_, S.nodup, D.base, S.off⟩
 have hj : j < as.length := (List.getElem?_eq_some_iff.mp e1).1
 have e3 : T.get j = some x := by
  have := congrArg (fun l => l[j]?) e
  simp only [List.getElem?_map, List.getElem?_range hj, Option.map_some, e2] at this
  exact Option.some.inj this
 have z1 := preA_lt as Y.adr j hj
 rw [e1] at z1
 have z2 := (D.own j x e3).2
 rw [Option.some.inj z1]
 exact z2
theorem spDen_ok : SPok spDen := fun _ _ _ _ _ h => h
noncomputable def cpsOf : Nat → List Nat
 | 0 => [97]
 | 1 => [98, 32, 99]
 | 2 => [105, 116, 39, 115]
 | 3 => []
 | 4 => [35]
 | 5 => [34, 113, 34]
 | _ => [122, 122]
noncomputable def txt (k : Nat) : Str := Str.mk (Array.mk (cpsOf k))
noncomputable def qOf : Nat → List Nat
 | 0 => [97]
 | 1 => [39, 98, 32, 99, 39]
 | 2 => [39, 105, 116, 39, 34, 39, 34, 39, 115, 39]
 | 3 => [39, 39]
 | 4 => [39, 35, 39]
 | _ => [39, 34, 113, 34, 39]
noncomputable def line : List Nat → List Nat
 | [] => []
 | k :: ws => match ws with
  | [] => qOf k
  | _ :: _ => qOf k ++ 32 :: line ws
noncomputable def Rest (B : Str) (p : Nat) (ws : List Nat) : Prop := (∀ i (hi : i < (line ws).length), B.cps[p + i]? = some (line ws)[i]) ∧ p + (line ws).length = B.length
noncomputable def stepLen (k : Nat) (ws : List Nat) : Nat := match ws with
 | [] => (qOf k).length
 | _ :: _ => (qOf k).length + 1
noncomputable def stOf (ws : List Nat) (ts : Tok) : Value := match ws with
 | [] => .none
 | _ :: _ => .str (o " ") ts
theorem Rest.step {B : Str} {p k : Nat} {ws : List Nat} (h : Rest B p (k :: ws)) : Rest B (p + stepLen k ws) ws := by
 cases ws with
 | nil =>
  refine ⟨fun i hi => absurd hi (Nat.not_lt_zero _), ?_⟩
  exact h.2
 | cons k' ws =>
  have e : line (k :: k' :: ws) = qOf k ++ 32 :: line (k' :: ws) := rfl
  obtain ⟨h1, h2⟩ := h
  rw [e] at h2
  simp only [List.length_append, List.length_cons] at h2
  refine ⟨fun i hi => ?_, ?_⟩
  ·have z := h1 ((qOf k).length + 1 + i) (by rw [e]; simp only [List.length_append, List.length_cons]; omega)
   have q : (line (k :: k' :: ws))[(qOf k).length + 1 + i]'(by rw [e]; simp only [List.length_append, List.length_cons]; omega) = (line (k' :: ws))[i] := by
    simp only [e]
    rw [List.getElem_append_right (by omega)]
    simp only [show (qOf k).length + 1 + i - (qOf k).length = i + 1 by omega, List.getElem_cons_succ]
   rw [q] at z
   show B.cps[p + ((qOf k).length + 1) + i]? = _
   rw [show p + ((qOf k).length + 1) + i = p + ((qOf k).length + 1 + i) by omega]
   exact z
  ·show p + ((qOf k).length + 1) + (line (k' :: ws)).length = _
   omega
theorem Rest.pre {B : Str} {p k k' : Nat} {ws : List Nat} (h : Rest B p (k :: k' :: ws)) : ∀ i (hi : i < (qOf k ++ [32]).length), B.cps[p + i]? = some (qOf k ++ [32])[i] := fun i hi => by
 have e : line (k :: k' :: ws) = (qOf k ++ [32]) ++ line (k' :: ws) := by simp [line]
 have hl : i < (line (k :: k' :: ws)).length := by rw [e, List.length_append]; omega
 have z := h.1 i hl
 rw [z]
 simp only [e]
 rw [List.getElem_append_left hi]
theorem Rest.last {B : Str} {p k : Nat} (h : Rest B p [k]) : (∀ i (hi : i < (qOf k).length), B.cps[p + i]? = some (qOf k)[i]) ∧ p + (qOf k).length = B.length := h
@[reducible] noncomputable def Nx (k : Nat) (ws : List Nat) : Prop := ∀ (N : Nat) (w : World) (r : Bool) (A : Around), A.depth + 140 ≤ recursionLimit → ∀ (h : Heap) (g : Array GenState) (d : Drawn) (os : OsState) (tok : Nat) (R : Result → Shared → Prop) (L : Lx) (B : Str) (p : Nat) (ts tt t3 : Tok),
  Starts (kt0 w.params) h L.as (L.objs w.params B p (.str (o " ") ts) tt t3) → B.length < 1000000 → N < L.S.t2 → N < ts → N < tt → N < t3 → N < tok → Rest B p (k :: ws) →
  (∀ h' t' tc (ts' tt' t3' : Tok), N < tc → N < ts' → N < tt' → N < t3' → N < t' → Starts (kt0 w.params) h' L.as (L.objs w.params B (p + stepLen k ws) (stOf ws ts') tt' t3') → KeepB false h h' L.as → R (.ok (.ret (.str (txt k) tc))) ⟨h', g, d, t', os⟩) →
  codeAny (model pw (wf w r)) A (nextC L.a) R ⟨h, g, d, tok, os⟩
theorem allC {α : Type} {P : α → Prop} {a : α} {l : List α} (h : P a) (t : ∀ x ∈ l, P x) : ∀ x ∈ a :: l, P x := List.forall_mem_cons.mpr ⟨h, t⟩
theorem next_gen {N : Nat} {w : World} {r : Bool} {A : Around} (hr : A.depth + 140 ≤ recursionLimit) {h : Heap} {g : Array GenState} {d : Drawn} {os : OsState} {tok : Nat} {R : Result → Shared → Prop} {L : Lx} {B : Str} {p : Nat} {ts tt t3 : Tok} {ks : List HK} {ce : List Nat} {i : Nat}
  (x : Str) (tc fb fc : Dyn → Tok) (st : Dyn → Value) (p' : Nat) (S : Starts (kt0 w.params) h L.as (L.objs w.params B p (.str (o " ") ts) tt t3)) (h1 : N < tok) (hW : ∀ k ∈ ks, HKwf k) (hO : ∀ k ∈ ks, HKok 70 0 (kt0 w.params) (wf w r) A (sameG N g d os) k)
  (chk : ∀ bf Y, Chk [0, 1, 2, 3, 4, 5] (codeR (SVz (wf w r) A.handled 70 0 spDen false bf (boOf (L.objs w.params B p (.str (o " ") ts) tt t3)) [] ks) (Dyn.pre Y L.as) 20000 ce 1 (nextC L.a) (mkT (L.objs w.params B p (.str (o " ") ts) tt t3)) L.as.length)
   (.res (.ok (.ret (.str x (tc (Dyn.pre Y L.as)))))) ((L.objs w.params B p' (st (Dyn.pre Y L.as)) (fb (Dyn.pre Y L.as)) (fc (Dyn.pre Y L.as))).map some) 0 i)
  (fin : ∀ (Y : Dyn) h' t', (∀ j, j < i → N < Y.tk j) → N < t' → Starts (kt0 w.params) h' L.as (L.objs w.params B p' (st Y) (fb Y) (fc Y)) → KeepB false h h' L.as → R (.ok (.ret (.str x (tc Y)))) ⟨h', g, d, t', os⟩) :
  codeAny (model pw (wf w r)) A (nextC L.a) R ⟨h, g, d, tok, os⟩ := by
 refine run_k (D := 70) (U := 0) (nt := false) (sp := spDen) (ks := ks) (gp := sameG N g d os) (cur := []) nilA spDen_ok (dle ‹_›) (fun q => by cases q) (as := L.as) (xs := (L.objs w.params B p (.str (o " ") ts) tt t3)) (ws := [0, 1, 2, 3, 4, 5]) (n := 20000) (ce := ce) (e := 1) (s := 0) (i := i)
  (res := fun Y => .res (.ok (.ret (.str x (tc Y))))) (objs := fun Y => (L.objs w.params B p' (st Y) (fb Y) (fc Y)).map some) hW hO S rfl h1 ⟨rfl, rfl, rfl⟩ (fun Y => chk _ Y) ?_
 rintro Y T m h' t' _ _ _ h1' hy ⟨rfl, rfl, rfl⟩ D e
 exact fin (Y.pre L.as) h' t' (fun j hj => (hy j hj).1) h1' (S.after D rfl e) (D.keepB (.inl rfl))
noncomputable def ce_w0S : List Nat := decs [Naz, Nar, Nas, Nau, Nav, Naw, Nae, Naf, Nag, Nax, Nac, Nad, Nba, Naa, Nab, Nay, Naa, Nab, Ncb, Nes, Net, Neu, Nev, Nak, New, Nex, Nan, Nct, Nac, Nad, Nah, Naj, Nbf, 46973676415691944998900112192594573728350249943040, Nan, Nan, Nbg, Ncu, Nef, 22835968527813229465773291039300359508300154882, 11150372599265311881613058150781075389939712, 46768052394588894686296556982319403149360178923520, 11193950020269422397515967410326329844826112, 11193950009880391903496555290818031762014208, 46950740099255256248561026002428335836067025387520, 327559054466793933455018137581152483072036265000960, 93536115944994903901082724962125064646146071214087, Ney]
noncomputable def ks_w0S (P : Params) (L : Lx) (B : Str) (p : Nat) (t3 : Tok) : List HK := [rdC P L.S B p 0 [15] (fun _ => t3) 97, rdC P L.S B p 1 [43, 17] (fun t => t 1) 32, kIn [11] [58, 59, 34]]
noncomputable def res_w0S (tt : Tok) (Y : Dyn) : Stop := .res (.ok (.ret (.str (Str.mk (Array.mk [97])) (Y.tk 16))))
noncomputable def out_w0S (P : Params) (L : Lx) (B : Str) (p : Nat) (Y : Dyn) : List (Option Obj) := (L.objs P B (p + 2) (.str (o " ") (Y.tk 67)) (Y.tk 75) (Y.tk 45)).map some
theorem chk_w0S (w : World) (r : Bool) (hb : Option Value) (sp : Code → SP) (bf : List Addr) (cur : List Addr) (L : Lx) (B : Str) (p : Nat) (ts tt t3 : Tok) (Y : Dyn) :
  Chk [0, 1, 2, 3, 4, 5] (codeR (SVz (wf w r) hb 70 0 sp false bf (boOf (L.objs w.params B p (.str (o " ") ts) tt t3)) cur (ks_w0S w.params L B p t3)) (Y.pre L.as) 20000 ce_w0S 1 (nextC L.a) (mkT (L.objs w.params B p (.str (o " ") ts) tt t3)) L.as.length) (res_w0S tt (Y.pre L.as)) (out_w0S w.params L B p (Y.pre L.as)) 0 89 := by
 cases r <;> kernel_rfl
theorem next_w0S {k' : Nat} {ws : List Nat} : Nx 0 (k' :: ws) := fun N w r A hr h g d os tok R L B p ts tt t3 S hl h2 hs ht h3 h1 hR fin => by
 have hw : ∀ i (hi : i < [97, 32].length), B.cps[p + i]? = some [97, 32][i] := hR.pre
 exact next_gen (ks := ks_w0S w.params L B p t3) hr (txt 0) (fun Y => Y.tk 16) (fun Y => Y.tk 75) (fun Y => Y.tk 45) (fun Y => .str (o " ") (Y.tk 67)) (p + 2) S h1 (allC rdC_wf (allC rdC_wf (allC kIn_wf nilA)))
  (allC (rdC_ok rfl hr hl h2 (fun _ _ => h3) (hw 0 (by decide))) (allC (rdC_ok rfl hr hl h2 (fun t e => e 1 (by decide)) (hw 1 (by decide))) (allC (kIn_ok rfl) nilA)))
  (fun bf Y => chk_w0S w r A.handled spDen _ [] L B p ts tt t3 Y) fun Y h' t' hy h1' S' K => fin h' t' (Y.tk 16) (Y.tk 67) (Y.tk 75) (Y.tk 45) (hy 16 (by decide)) (hy 67 (by decide)) (hy 75 (by decide)) (hy 45 (by decide)) h1' S' K
noncomputable def ce_w0E : List Nat := decs [Naz, Nar, Nas, Nau, Nav, Naw, Nae, Naf, Nag, Nax, Nac, Nad, Nba, Naa, Nab, Nay, Naa, Nab, Ncb, Nes, Net, Neu, Nev, Nak, New, Nex, Nan, Nct, Nac, Nad, Nah, Naj, Nbf, 22936316436688751606736941583981721903416999936, Ncs, 420958143482913807485581682371587422290130323392514, Ncb, Neg, 11150372599265311881612910504894114291515393, Nez, Nfa, Nfb, Nfc, Neh, 29360128]
noncomputable def ks_w0E (P : Params) (L : Lx) (B : Str) (p : Nat) (t3 : Tok) : List HK := [rdC P L.S B p 0 [15] (fun _ => t3) 97, rdE P L.S B p 1 [43, 17] (fun t => t 1), kIn [11] [58, 59, 34]]
noncomputable def res_w0E (tt : Tok) (Y : Dyn) : Stop := .res (.ok (.ret (.str (Str.mk (Array.mk [97])) (Y.tk 16))))
noncomputable def out_w0E (P : Params) (L : Lx) (B : Str) (p : Nat) (Y : Dyn) : List (Option Obj) := (L.objs P B (p + 1) .none (Y.tk 68) (Y.tk 45)).map some
theorem chk_w0E (w : World) (r : Bool) (hb : Option Value) (sp : Code → SP) (bf : List Addr) (cur : List Addr) (L : Lx) (B : Str) (p : Nat) (ts tt t3 : Tok) (Y : Dyn) :
  Chk [0, 1, 2, 3, 4, 5] (codeR (SVz (wf w r) hb 70 0 sp false bf (boOf (L.objs w.params B p (.str (o " ") ts) tt t3)) cur (ks_w0E w.params L B p t3)) (Y.pre L.as) 20000 ce_w0E 1 (nextC L.a) (mkT (L.objs w.params B p (.str (o " ") ts) tt t3)) L.as.length) (res_w0E tt (Y.pre L.as)) (out_w0E w.params L B p (Y.pre L.as)) 0 82 := by
 cases r <;> kernel_rfl
theorem next_w0E : Nx 0 [] := fun N w r A hr h g d os tok R L B p ts tt t3 S hl h2 hs ht h3 h1 hR fin => by
 have hw : ∀ i (hi : i < [97].length), B.cps[p + i]? = some [97][i] := hR.last.1
 have he := hR.last.2
 exact next_gen (ks := ks_w0E w.params L B p t3) hr (txt 0) (fun Y => Y.tk 16) (fun Y => Y.tk 68) (fun Y => Y.tk 45) (fun Y => .none) (p + 1) S h1 (allC rdC_wf (allC rdE_wf (allC kIn_wf nilA)))
  (allC (rdC_ok rfl hr hl h2 (fun _ _ => h3) (hw 0 (by decide))) (allC (rdE_ok rfl hr hl h2 (fun t e => e 1 (by decide)) he) (allC (kIn_ok rfl) nilA)))
  (fun bf Y => chk_w0E w r A.handled spDen _ [] L B p ts tt t3 Y) fun Y h' t' hy h1' S' K => fin h' t' (Y.tk 16) ts (Y.tk 68) (Y.tk 45) (hy 16 (by decide)) hs (hy 68 (by decide)) (hy 45 (by decide)) h1' S' K
noncomputable def ce_w1S : List Nat := decs [Naz, Nar, Nas, Nau, Nav, Naw, Nae, Naf, Nag, Nax, Nac, Nad, Nba, Naa, Nab, Nay, Naa, Nab, Nbh, Nbi, Nbj, Nai, Nbk, Nbb, 8589934592, Nbl, Nbc, Nbd, Nbm, Nao, Nal, Naa, Nam, Nbn, Nbo, Nap, Nbs, Nbp, Nbt, Nbe, Nbu, Nae, Naf, Nag, Nbv, Nac, Nad, Nah, Naj, Nbw, Naa, Ncc, Nan, Ncg, Nbg, Nch, Nci, Ncd, Ncj, Nck, Ncl, Nbx, Nby, Naq, Nbz, Ncm, Nah, Ncv, Nai, Ncw, Ncx, Ncr, Ncy, Ncz, Nda, Ndb, Nak, Nak, Nab, Ncn, Ndc, Ndd, Naq, Nde, Nbe, Ndf, Nae, Naf, Nag, Ndg, Nac, Nad, Nah, Naj, Nbf, Nco, Nbr, Nfd, Nac, Nac, Ndh, Nab, Nal, Ncb, Neg, Nfe, Nff, Nfg, Nfh, Nfi, Nfj]
noncomputable def ks_w1S (P : Params) (L : Lx) (B : Str) (p : Nat) (t3 : Tok) : List HK := [rdC P L.S B p 0 [15] (fun _ => t3) 39, rdC P L.S B p 1 [45, 17] (fun t => t 1) 98, rdC P L.S B p 2 [72, 47] (fun t => t 1) 32, rdC P L.S B p 3 [100, 74] (fun t => t 1) 99, rdC P L.S B p 4 [128, 102] (fun t => t 1) 39, rdC P L.S B p 5 [154, 130] (fun t => t 1) 32, kIn [16] [169, 170, 145]]
noncomputable def res_w1S (tt : Tok) (Y : Dyn) : Stop := .res (.ok (.ret (.str (Str.mk (Array.mk [98, 32, 99])) (Y.tk 119))))
noncomputable def out_w1S (P : Params) (L : Lx) (B : Str) (p : Nat) (Y : Dyn) : List (Option Obj) := (L.objs P B (p + 6) (.str (o " ") (Y.tk 178)) (Y.tk 186) (Y.tk 156)).map some
theorem chk_w1S (w : World) (r : Bool) (hb : Option Value) (sp : Code → SP) (bf : List Addr) (cur : List Addr) (L : Lx) (B : Str) (p : Nat) (ts tt t3 : Tok) (Y : Dyn) :
  Chk [0, 1, 2, 3, 4, 5] (codeR (SVz (wf w r) hb 70 0 sp false bf (boOf (L.objs w.params B p (.str (o " ") ts) tt t3)) cur (ks_w1S w.params L B p t3)) (Y.pre L.as) 20000 ce_w1S 1 (nextC L.a) (mkT (L.objs w.params B p (.str (o " ") ts) tt t3)) L.as.length) (res_w1S tt (Y.pre L.as)) (out_w1S w.params L B p (Y.pre L.as)) 0 199 := by
 cases r <;> kernel_rfl
theorem next_w1S {k' : Nat} {ws : List Nat} : Nx 1 (k' :: ws) := fun N w r A hr h g d os tok R L B p ts tt t3 S hl h2 hs ht h3 h1 hR fin => by
 have hw : ∀ i (hi : i < [39, 98, 32, 99, 39, 32].length), B.cps[p + i]? = some [39, 98, 32, 99, 39, 32][i] := hR.pre
 exact next_gen (ks := ks_w1S w.params L B p t3) hr (txt 1) (fun Y => Y.tk 119) (fun Y => Y.tk 186) (fun Y => Y.tk 156) (fun Y => .str (o " ") (Y.tk 178)) (p + 6) S h1 (allC rdC_wf (allC rdC_wf (allC rdC_wf (allC rdC_wf (allC rdC_wf (allC rdC_wf (allC kIn_wf nilA)))))))
  (allC (rdC_ok rfl hr hl h2 (fun _ _ => h3) (hw 0 (by decide))) (allC (rdC_ok rfl hr hl h2 (fun t e => e 1 (by decide)) (hw 1 (by decide))) (allC (rdC_ok rfl hr hl h2 (fun t e => e 1 (by decide)) (hw 2 (by decide))) (allC (rdC_ok rfl hr hl h2 (fun t e => e 1 (by decide)) (hw 3 (by decide))) (allC (rdC_ok rfl hr hl h2 (fun t e => e 1 (by decide)) (hw 4 (by decide))) (allC (rdC_ok rfl hr hl h2 (fun t e => e 1 (by decide)) (hw 5 (by decide))) (allC (kIn_ok rfl) nilA)))))))
  (fun bf Y => chk_w1S w r A.handled spDen _ [] L B p ts tt t3 Y) fun Y h' t' hy h1' S' K => fin h' t' (Y.tk 119) (Y.tk 178) (Y.tk 186) (Y.tk 156) (hy 119 (by decide)) (hy 178 (by decide)) (hy 186 (by decide)) (hy 156 (by decide)) h1' S' K
noncomputable def ce_w1E : List Nat := decs [Naz, Nar, Nas, Nau, Nav, Naw, Nae, Naf, Nag, Nax, Nac, Nad, Nba, Naa, Nab, Nay, Naa, Nab, Nbh, Nbi, Nbj, Nai, Nbk, Nbb, 8589934592, Nbl, Nbc, Nbd, Nbm, Nao, Nal, Naa, Nam, Nbn, Nbo, Nap, Nbs, Nbp, Nbt, Nbe, Nbu, Nae, Naf, Nag, Nbv, Nac, Nad, Nah, Naj, Nbw, Naa, Ncc, Nan, Ncg, Nbg, Nch, Nci, Ncd, Ncj, Nck, Ncl, Nbx, Nby, Naq, Nbz, Ncm, Nah, Ncv, Nai, Ncw, Ncx, Ncr, Ncy, Ncz, Nda, Ndb, Nak, Nak, Nab, Ncn, Ndc, Ndd, Naq, Nde, Nbe, Ndf, Nae, Naf, Nag, Ndg, Nac, Nad, Nah, Naj, Nbf, Nco, Nbr, Nfk, Ndi, Nei, Ndj, Ndk, Nej, Nek, Nel, Nem, Nen, Neo]
noncomputable def ks_w1E (P : Params) (L : Lx) (B : Str) (p : Nat) (t3 : Tok) : List HK := [rdC P L.S B p 0 [15] (fun _ => t3) 39, rdC P L.S B p 1 [45, 17] (fun t => t 1) 98, rdC P L.S B p 2 [72, 47] (fun t => t 1) 32, rdC P L.S B p 3 [100, 74] (fun t => t 1) 99, rdC P L.S B p 4 [128, 102] (fun t => t 1) 39, rdE P L.S B p 5 [154, 130] (fun t => t 1), kIn [16] [169, 170, 145]]
noncomputable def res_w1E (tt : Tok) (Y : Dyn) : Stop := .res (.ok (.ret (.str (Str.mk (Array.mk [98, 32, 99])) (Y.tk 119))))
noncomputable def out_w1E (P : Params) (L : Lx) (B : Str) (p : Nat) (Y : Dyn) : List (Option Obj) := (L.objs P B (p + 5) .none (Y.tk 179) (Y.tk 156)).map some
theorem chk_w1E (w : World) (r : Bool) (hb : Option Value) (sp : Code → SP) (bf : List Addr) (cur : List Addr) (L : Lx) (B : Str) (p : Nat) (ts tt t3 : Tok) (Y : Dyn) :
  Chk [0, 1, 2, 3, 4, 5] (codeR (SVz (wf w r) hb 70 0 sp false bf (boOf (L.objs w.params B p (.str (o " ") ts) tt t3)) cur (ks_w1E w.params L B p t3)) (Y.pre L.as) 20000 ce_w1E 1 (nextC L.a) (mkT (L.objs w.params B p (.str (o " ") ts) tt t3)) L.as.length) (res_w1E tt (Y.pre L.as)) (out_w1E w.params L B p (Y.pre L.as)) 0 192 := by
 cases r <;> kernel_rfl
theorem next_w1E : Nx 1 [] := fun N w r A hr h g d os tok R L B p ts tt t3 S hl h2 hs ht h3 h1 hR fin => by
 have hw : ∀ i (hi : i < [39, 98, 32, 99, 39].length), B.cps[p + i]? = some [39, 98, 32, 99, 39][i] := hR.last.1
 have he := hR.last.2
 exact next_gen (ks := ks_w1E w.params L B p t3) hr (txt 1) (fun Y => Y.tk 119) (fun Y => Y.tk 179) (fun Y => Y.tk 156) (fun Y => .none) (p + 5) S h1 (allC rdC_wf (allC rdC_wf (allC rdC_wf (allC rdC_wf (allC rdC_wf (allC rdE_wf (allC kIn_wf nilA)))))))
  (allC (rdC_ok rfl hr hl h2 (fun _ _ => h3) (hw 0 (by decide))) (allC (rdC_ok rfl hr hl h2 (fun t e => e 1 (by decide)) (hw 1 (by decide))) (allC (rdC_ok rfl hr hl h2 (fun t e => e 1 (by decide)) (hw 2 (by decide))) (allC (rdC_ok rfl hr hl h2 (fun t e => e 1 (by decide)) (hw 3 (by decide))) (allC (rdC_ok rfl hr hl h2 (fun t e => e 1 (by decide)) (hw 4 (by decide))) (allC (rdE_ok rfl hr hl h2 (fun t e => e 1 (by decide)) he) (allC (kIn_ok rfl) nilA)))))))
  (fun bf Y => chk_w1E w r A.handled spDen _ [] L B p ts tt t3 Y) fun Y h' t' hy h1' S' K => fin h' t' (Y.tk 119) ts (Y.tk 179) (Y.tk 156) (hy 119 (by decide)) hs (hy 179 (by decide)) (hy 156 (by decide)) h1' S' K
noncomputable def ce_w2S : List Nat := decs [Naz, Nar, Nas, Nau, Nav, Naw, Nae, Naf, Nag, Nax, Nac, Nad, Nba, Naa, Nab, Nay, Naa, Nab, Nbh, Nbi, Nbj, Nai, Nbk, Nbb, 8589934592, Nbl, Nbc, Nbd, Nbm, Nao, Nal, Naa, Nam, Nbn, Nbo, Nap, Nbs, Nbp, Nbt, Nbe, Nbu, Nae, Naf, Nag, Nbv, Nac, Nad, Nah, Naj, Nbw, Naa, Ncc, Nan, Ncg, Nbg, Nch, Nci, Ncd, Ncj, Nck, Ncl, Nbx, Nby, Naq, Nbz, Ncm, Nah, Naj, Nbb, 8589934592, Nfl, Nbc, Nbd, Nfm, Nao, Nal, Naa, Nam, Nca, Ndl, Nbq, Nfn, Nce, Nfo, Nak, Nak, Nce, Nfp, Ndm, Nfq, Ndn, Ndo, Ndp, Nfr, Nbq, Ncp, Nai, Ncq, Nfs, Nan, Nft, Nca, Nfu, Ncs, Ndq, Nfv, Ndr, Nds, Ndt, Nfw, Nbr, Ndu, Nap, Ndv, Nfx, Nai, Ncq, Nfy, Nfz, Nga, Nep, Ngb, Ngc, Nab, Ncn, Nan, Nct, Nac, Nad, Nah, Ngd, Nab, Nce, Nao, Nal, Nab, Ncb, Nge, Ngf, Ngg, Ngh, Ngi, Ngj, Nah, Naj, Nbf, Nco, Ngk, Nca, Neq, Nac, Ngl, Ndh, Ngm, Ngn, Ngo, Ngp, Ngq, Ngr, Naq, Nbz, Nbp, Ngs, Ngt, Nbf, Ngu, Ngv, Ngw, Ngx, Nef, Ngy, Ngz, Naa, Nam, Nca, Ndl, Nbq, Ncp, Nai, 421117995219049710357716367474124866761117073932288, Naa, Naa, Ndj, Ndk, Nep, 46768063544961493945903700048487136272998717198336, 22835963083295358733543543092799642398596530176, 11150372599265311881613574659579963475230720, Nez, Nfa, Nfb, Nfc, Neh, 29360128]
noncomputable def ks_w2S (P : Params) (L : Lx) (B : Str) (p : Nat) (t3 : Tok) : List HK := [rdC P L.S B p 0 [15] (fun _ => t3) 39, rdC P L.S B p 1 [45, 17] (fun t => t 1) 105, rdC P L.S B p 2 [72, 47] (fun t => t 1) 116, rdC P L.S B p 3 [100, 74] (fun t => t 1) 39, rdC P L.S B p 4 [126, 102] (fun t => t 1) 34, kIn [15] [141, 142, 117], rdC P L.S B p 5 [161, 128] (fun t => t 1) 39, rdC P L.S B p 6 [189, 163] (fun t => t 1) 34, rdC P L.S B p 7 [215, 191] (fun t => t 1) 39, kIn [19] [230, 231, 206], rdC P L.S B p 8 [250, 217] (fun t => t 1) 115, rdC P L.S B p 9 [278, 252] (fun t => t 1) 39, rdC P L.S B p 10 [304, 280] (fun t => t 1) 32, kIn [23] [319, 320, 295]]
noncomputable def res_w2S (tt : Tok) (Y : Dyn) : Stop := .res (.ok (.ret (.str (Str.mk (Array.mk [105, 116, 39, 115])) (Y.tk 269))))
noncomputable def out_w2S (P : Params) (L : Lx) (B : Str) (p : Nat) (Y : Dyn) : List (Option Obj) := (L.objs P B (p + 11) (.str (o " ") (Y.tk 328)) (Y.tk 336) (Y.tk 306)).map some
theorem chk_w2S (w : World) (r : Bool) (hb : Option Value) (sp : Code → SP) (bf : List Addr) (cur : List Addr) (L : Lx) (B : Str) (p : Nat) (ts tt t3 : Tok) (Y : Dyn) :
  Chk [0, 1, 2, 3, 4, 5] (codeR (SVz (wf w r) hb 70 0 sp false bf (boOf (L.objs w.params B p (.str (o " ") ts) tt t3)) cur (ks_w2S w.params L B p t3)) (Y.pre L.as) 20000 ce_w2S 1 (nextC L.a) (mkT (L.objs w.params B p (.str (o " ") ts) tt t3)) L.as.length) (res_w2S tt (Y.pre L.as)) (out_w2S w.params L B p (Y.pre L.as)) 0 349 := by
 cases r <;> kernel_rfl
theorem next_w2S {k' : Nat} {ws : List Nat} : Nx 2 (k' :: ws) := fun N w r A hr h g d os tok R L B p ts tt t3 S hl h2 hs ht h3 h1 hR fin => by
 have hw : ∀ i (hi : i < [39, 105, 116, 39, 34, 39, 34, 39, 115, 39, 32].length), B.cps[p + i]? = some [39, 105, 116, 39, 34, 39, 34, 39, 115, 39, 32][i] := hR.pre
 exact next_gen (ks := ks_w2S w.params L B p t3) hr (txt 2) (fun Y => Y.tk 269) (fun Y => Y.tk 336) (fun Y => Y.tk 306) (fun Y => .str (o " ") (Y.tk 328)) (p + 11) S h1 (allC rdC_wf (allC rdC_wf (allC rdC_wf (allC rdC_wf (allC rdC_wf (allC kIn_wf (allC rdC_wf (allC rdC_wf (allC rdC_wf (allC kIn_wf (allC rdC_wf (allC rdC_wf (allC rdC_wf (allC kIn_wf nilA))))))))))))))
  (allC (rdC_ok rfl hr hl h2 (fun _ _ => h3) (hw 0 (by decide))) (allC (rdC_ok rfl hr hl h2 (fun t e => e 1 (by decide)) (hw 1 (by decide))) (allC (rdC_ok rfl hr hl h2 (fun t e => e 1 (by decide)) (hw 2 (by decide))) (allC (rdC_ok rfl hr hl h2 (fun t e => e 1 (by decide)) (hw 3 (by decide))) (allC (rdC_ok rfl hr hl h2 (fun t e => e 1 (by decide)) (hw 4 (by decide))) (allC (kIn_ok rfl) (allC (rdC_ok rfl hr hl h2 (fun t e => e 1 (by decide)) (hw 5 (by decide))) (allC (rdC_ok rfl hr hl h2 (fun t e => e 1 (by decide)) (hw 6 (by decide))) (allC (rdC_ok rfl hr hl h2 (fun t e => e 1 (by decide)) (hw 7 (by decide))) (allC (kIn_ok rfl) (allC (rdC_ok rfl hr hl h2 (fun t e => e 1 (by decide)) (hw 8 (by decide))) (allC (rdC_ok rfl hr hl h2 (fun t e => e 1 (by decide)) (hw 9 (by decide))) (allC (rdC_ok rfl hr hl h2 (fun t e => e 1 (by decide)) (hw 10 (by decide))) (allC (kIn_ok rfl) nilA))))))))))))))
  (fun bf Y => chk_w2S w r A.handled spDen _ [] L B p ts tt t3 Y) fun Y h' t' hy h1' S' K => fin h' t' (Y.tk 269) (Y.tk 328) (Y.tk 336) (Y.tk 306) (hy 269 (by decide)) (hy 328 (by decide)) (hy 336 (by decide)) (hy 306 (by decide)) h1' S' K
noncomputable def ce_w2E : List Nat := decs [Naz, Nar, Nas, Nau, Nav, Naw, Nae, Naf, Nag, Nax, Nac, Nad, Nba, Naa, Nab, Nay, Naa, Nab, Nbh, Nbi, Nbj, Nai, Nbk, Nbb, 8589934592, Nbl, Nbc, Nbd, Nbm, Nao, Nal, Naa, Nam, Nbn, Nbo, Nap, Nbs, Nbp, Nbt, Nbe, Nbu, Nae, Naf, Nag, Nbv, Nac, Nad, Nah, Naj, Nbw, Naa, Ncc, Nan, Ncg, Nbg, Nch, Nci, Ncd, Ncj, Nck, Ncl, Nbx, Nby, Naq, Nbz, Ncm, Nah, Naj, Nbb, 8589934592, Nfl, Nbc, Nbd, Nfm, Nao, Nal, Naa, Nam, Nca, Ndl, Nbq, Nfn, Nce, Nfo, Nak, Nak, Nce, Nfp, Ndm, Nfq, Ndn, Ndo, Ndp, Nfr, Nbq, Ncp, Nai, Ncq, Nfs, Nan, Nft, Nca, Nfu, Ncs, Ndq, Nfv, Ndr, Nds, Ndt, Nfw, Nbr, Ndu, Nap, Ndv, Nfx, Nai, Ncq, Nfy, Nfz, Nga, Nep, Ngb, Ngc, Nab, Ncn, Nan, Nct, Nac, Nad, Nah, Ngd, Nab, Nce, Nao, Nal, Nab, Ncb, Nge, Ngf, Ngg, Ngh, Ngi, Ngj, Nah, Naj, Nbf, Nco, Ngk, Nca, Neq, Nac, Ngl, Ndh, Ngm, Ngn, Ngo, Ngp, Ngq, Ngr, Naq, Nbz, Nbp, Ngs, Ngt, Nbf, Ngu, Ngv, Ngw, Ngx, Nef, Ngy, Ngz, Naa, Nam, Nca, Ndl, Nbq, Ncp, Nai, 46973576062338563297573050298756413729198342930432, Nbg, Ncu, 11150375257721303450084614765283378666162185, 5444517870735015567193876050186071967744, 46768052394591551838509484478740975636925265217537, 22835963083295358733234965220317067641333219329, 22835963083295358733234964629769055712080560128, 2668840585286901401136732715851186176, 46927982226910400418057252152518711695771101560833, 5316912617274448615551291650383806464, 7]
noncomputable def ks_w2E (P : Params) (L : Lx) (B : Str) (p : Nat) (t3 : Tok) : List HK := [rdC P L.S B p 0 [15] (fun _ => t3) 39, rdC P L.S B p 1 [45, 17] (fun t => t 1) 105, rdC P L.S B p 2 [72, 47] (fun t => t 1) 116, rdC P L.S B p 3 [100, 74] (fun t => t 1) 39, rdC P L.S B p 4 [126, 102] (fun t => t 1) 34, kIn [15] [141, 142, 117], rdC P L.S B p 5 [161, 128] (fun t => t 1) 39, rdC P L.S B p 6 [189, 163] (fun t => t 1) 34, rdC P L.S B p 7 [215, 191] (fun t => t 1) 39, kIn [19] [230, 231, 206], rdC P L.S B p 8 [250, 217] (fun t => t 1) 115, rdC P L.S B p 9 [278, 252] (fun t => t 1) 39, rdE P L.S B p 10 [304, 280] (fun t => t 1), kIn [23] [319, 320, 295]]
noncomputable def res_w2E (tt : Tok) (Y : Dyn) : Stop := .res (.ok (.ret (.str (Str.mk (Array.mk [105, 116, 39, 115])) (Y.tk 269))))
noncomputable def out_w2E (P : Params) (L : Lx) (B : Str) (p : Nat) (Y : Dyn) : List (Option Obj) := (L.objs P B (p + 10) .none (Y.tk 329) (Y.tk 306)).map some
theorem chk_w2E (w : World) (r : Bool) (hb : Option Value) (sp : Code → SP) (bf : List Addr) (cur : List Addr) (L : Lx) (B : Str) (p : Nat) (ts tt t3 : Tok) (Y : Dyn) :
  Chk [0, 1, 2, 3, 4, 5] (codeR (SVz (wf w r) hb 70 0 sp false bf (boOf (L.objs w.params B p (.str (o " ") ts) tt t3)) cur (ks_w2E w.params L B p t3)) (Y.pre L.as) 20000 ce_w2E 1 (nextC L.a) (mkT (L.objs w.params B p (.str (o " ") ts) tt t3)) L.as.length) (res_w2E tt (Y.pre L.as)) (out_w2E w.params L B p (Y.pre L.as)) 0 342 := by
 cases r <;> kernel_rfl
theorem next_w2E : Nx 2 [] := fun N w r A hr h g d os tok R L B p ts tt t3 S hl h2 hs ht h3 h1 hR fin => by
 have hw : ∀ i (hi : i < [39, 105, 116, 39, 34, 39, 34, 39, 115, 39].length), B.cps[p + i]? = some [39, 105, 116, 39, 34, 39, 34, 39, 115, 39][i] := hR.last.1
 have he := hR.last.2
 exact next_gen (ks := ks_w2E w.params L B p t3) hr (txt 2) (fun Y => Y.tk 269) (fun Y => Y.tk 329) (fun Y => Y.tk 306) (fun Y => .none) (p + 10) S h1 (allC rdC_wf (allC rdC_wf (allC rdC_wf (allC rdC_wf (allC rdC_wf (allC kIn_wf (allC rdC_wf (allC rdC_wf (allC rdC_wf (allC kIn_wf (allC rdC_wf (allC rdC_wf (allC rdE_wf (allC kIn_wf nilA))))))))))))))
  (allC (rdC_ok rfl hr hl h2 (fun _ _ => h3) (hw 0 (by decide))) (allC (rdC_ok rfl hr hl h2 (fun t e => e 1 (by decide)) (hw 1 (by decide))) (allC (rdC_ok rfl hr hl h2 (fun t e => e 1 (by decide)) (hw 2 (by decide))) (allC (rdC_ok rfl hr hl h2 (fun t e => e 1 (by decide)) (hw 3 (by decide))) (allC (rdC_ok rfl hr hl h2 (fun t e => e 1 (by decide)) (hw 4 (by decide))) (allC (kIn_ok rfl) (allC (rdC_ok rfl hr hl h2 (fun t e => e 1 (by decide)) (hw 5 (by decide))) (allC (rdC_ok rfl hr hl h2 (fun t e => e 1 (by decide)) (hw 6 (by decide))) (allC (rdC_ok rfl hr hl h2 (fun t e => e 1 (by decide)) (hw 7 (by decide))) (allC (kIn_ok rfl) (allC (rdC_ok rfl hr hl h2 (fun t e => e 1 (by decide)) (hw 8 (by decide))) (allC (rdC_ok rfl hr hl h2 (fun t e => e 1 (by decide)) (hw 9 (by decide))) (allC (rdE_ok rfl hr hl h2 (fun t e => e 1 (by decide)) he) (allC (kIn_ok rfl) nilA))))))))))))))
  (fun bf Y => chk_w2E w r A.handled spDen _ [] L B p ts tt t3 Y) fun Y h' t' hy h1' S' K => fin h' t' (Y.tk 269) ts (Y.tk 329) (Y.tk 306) (hy 269 (by decide)) hs (hy 329 (by decide)) (hy 306 (by decide)) h1' S' K
noncomputable def ce_w3S : List Nat := decs [Naz, Nar, Nas, Nau, Nav, Naw, Nae, Naf, Nag, Nax, Nac, Nad, Nba, Naa, Nab, Nay, Naa, Nab, Nbh, Nbi, Nbj, Nai, Nbk, Nbb, 8589934592, Nbl, Nbc, Nbd, Nbm, Nao, Nal, Naa, Nam, Nbn, Nbo, Nap, Nha, Ndm, Nhb, Ndn, Ndo, Ndp, Nhc, Nbq, Ncp, Nai, Ncq, Nbx, Nby, Naq, 5468455657327075605152689616659589103617, Nbq, Nbq, Ndi, Nae, Nay, Nei, Ndj, Ndk, Nej, Nek, Nel, Nem, Nen, Neo]
noncomputable def ks_w3S (P : Params) (L : Lx) (B : Str) (p : Nat) (t3 : Tok) : List HK := [rdC P L.S B p 0 [15] (fun _ => t3) 39, rdC P L.S B p 1 [45, 17] (fun t => t 1) 39, rdC P L.S B p 2 [71, 47] (fun t => t 1) 32, kIn [13] [86, 87, 62]]
noncomputable def res_w3S (tt : Tok) (Y : Dyn) : Stop := .res (.ok (.ret (.str (Str.mk (Array.mk [])) tt)))
noncomputable def out_w3S (P : Params) (L : Lx) (B : Str) (p : Nat) (Y : Dyn) : List (Option Obj) := (L.objs P B (p + 3) (.str (o " ") (Y.tk 95)) (Y.tk 104) (Y.tk 73)).map some
theorem chk_w3S (w : World) (r : Bool) (hb : Option Value) (sp : Code → SP) (bf : List Addr) (cur : List Addr) (L : Lx) (B : Str) (p : Nat) (ts tt t3 : Tok) (Y : Dyn) :
  Chk [0, 1, 2, 3, 4, 5] (codeR (SVz (wf w r) hb 70 0 sp false bf (boOf (L.objs w.params B p (.str (o " ") ts) tt t3)) cur (ks_w3S w.params L B p t3)) (Y.pre L.as) 20000 ce_w3S 1 (nextC L.a) (mkT (L.objs w.params B p (.str (o " ") ts) tt t3)) L.as.length) (res_w3S tt (Y.pre L.as)) (out_w3S w.params L B p (Y.pre L.as)) 0 117 := by
 cases r <;> kernel_rfl
theorem next_w3S {k' : Nat} {ws : List Nat} : Nx 3 (k' :: ws) := fun N w r A hr h g d os tok R L B p ts tt t3 S hl h2 hs ht h3 h1 hR fin => by
 have hw : ∀ i (hi : i < [39, 39, 32].length), B.cps[p + i]? = some [39, 39, 32][i] := hR.pre
 exact next_gen (ks := ks_w3S w.params L B p t3) hr (txt 3) (fun Y => tt) (fun Y => Y.tk 104) (fun Y => Y.tk 73) (fun Y => .str (o " ") (Y.tk 95)) (p + 3) S h1 (allC rdC_wf (allC rdC_wf (allC rdC_wf (allC kIn_wf nilA))))
  (allC (rdC_ok rfl hr hl h2 (fun _ _ => h3) (hw 0 (by decide))) (allC (rdC_ok rfl hr hl h2 (fun t e => e 1 (by decide)) (hw 1 (by decide))) (allC (rdC_ok rfl hr hl h2 (fun t e => e 1 (by decide)) (hw 2 (by decide))) (allC (kIn_ok rfl) nilA))))
  (fun bf Y => chk_w3S w r A.handled spDen _ [] L B p ts tt t3 Y) fun Y h' t' hy h1' S' K => fin h' t' tt (Y.tk 95) (Y.tk 104) (Y.tk 73) ht (hy 95 (by decide)) (hy 104 (by decide)) (hy 73 (by decide)) h1' S' K
noncomputable def ce_w3E : List Nat := decs [Naz, Nar, Nas, Nau, Nav, Naw, Nae, Naf, Nag, Nax, Nac, Nad, Nba, Naa, Nab, Nay, Naa, Nab, Nbh, Nbi, Nbj, Nai, Nbk, Nbb, 8589934592, Nbl, Nbc, Nbd, Nbm, Nao, Nal, Naa, Nam, Nbn, Nbo, Nap, Nha, Ndm, Nhb, Ndn, Ndo, Ndp, Nhc, Nbq, Ncp, Nai, Ncq, Nbx, Nby, Naq, 2670138659501535772234984786812207105, Nhd, Nhe, Nbg, Ncu, Nce, 46790888357672190038689061856139191853399307995136, 46790888357672190038689061856139191853399274426368, 5444517870735015567120016981095643877376, 2667546950016821962097836385084901377, 38111625095145108210129446982404538368001]
noncomputable def ks_w3E (P : Params) (L : Lx) (B : Str) (p : Nat) (t3 : Tok) : List HK := [rdC P L.S B p 0 [15] (fun _ => t3) 39, rdC P L.S B p 1 [45, 17] (fun t => t 1) 39, rdE P L.S B p 2 [71, 47] (fun t => t 1), kIn [13] [86, 87, 62]]
noncomputable def res_w3E (tt : Tok) (Y : Dyn) : Stop := .res (.ok (.ret (.str (Str.mk (Array.mk [])) tt)))
noncomputable def out_w3E (P : Params) (L : Lx) (B : Str) (p : Nat) (Y : Dyn) : List (Option Obj) := (L.objs P B (p + 2) .none (Y.tk 96) (Y.tk 73)).map some
theorem chk_w3E (w : World) (r : Bool) (hb : Option Value) (sp : Code → SP) (bf : List Addr) (cur : List Addr) (L : Lx) (B : Str) (p : Nat) (ts tt t3 : Tok) (Y : Dyn) :
  Chk [0, 1, 2, 3, 4, 5] (codeR (SVz (wf w r) hb 70 0 sp false bf (boOf (L.objs w.params B p (.str (o " ") ts) tt t3)) cur (ks_w3E w.params L B p t3)) (Y.pre L.as) 20000 ce_w3E 1 (nextC L.a) (mkT (L.objs w.params B p (.str (o " ") ts) tt t3)) L.as.length) (res_w3E tt (Y.pre L.as)) (out_w3E w.params L B p (Y.pre L.as)) 0 109 := by
 cases r <;> kernel_rfl
theorem next_w3E : Nx 3 [] := fun N w r A hr h g d os tok R L B p ts tt t3 S hl h2 hs ht h3 h1 hR fin => by
 have hw : ∀ i (hi : i < [39, 39].length), B.cps[p + i]? = some [39, 39][i] := hR.last.1
 have he := hR.last.2
 exact next_gen (ks := ks_w3E w.params L B p t3) hr (txt 3) (fun Y => tt) (fun Y => Y.tk 96) (fun Y => Y.tk 73) (fun Y => .none) (p + 2) S h1 (allC rdC_wf (allC rdC_wf (allC rdE_wf (allC kIn_wf nilA))))
  (allC (rdC_ok rfl hr hl h2 (fun _ _ => h3) (hw 0 (by decide))) (allC (rdC_ok rfl hr hl h2 (fun t e => e 1 (by decide)) (hw 1 (by decide))) (allC (rdE_ok rfl hr hl h2 (fun t e => e 1 (by decide)) he) (allC (kIn_ok rfl) nilA))))
  (fun bf Y => chk_w3E w r A.handled spDen _ [] L B p ts tt t3 Y) fun Y h' t' hy h1' S' K => fin h' t' tt ts (Y.tk 96) (Y.tk 73) ht hs (hy 96 (by decide)) (hy 73 (by decide)) h1' S' K
noncomputable def ce_w4S : List Nat := decs [Naz, Nar, Nas, Nau, Nav, Naw, Nae, Naf, Nag, Nax, Nac, Nad, Nba, Naa, Nab, Nay, Naa, Nab, Nbh, Nbi, Nbj, Nai, Nbk, Nbb, 8589934592, Nbl, Nbc, Nbd, Nbm, Nao, Nal, Naa, Nam, Nbn, Nbo, Nap, Nbs, Nbp, Nbt, Nbe, Nbu, Nae, Naf, Nag, Nbv, Nac, Nad, Nah, Naj, Nbw, Naa, Nam, Ncs, Ndq, Nhf, Ndr, Nds, Ndt, Nhg, Nbr, Ndu, Nap, Ndv, Nak, Nab, Nhh, 5444517870735015567194128216563652773894, Nbr, 46768052400033411253252930214114860586397503326209, 2670139927771407587334831825766844416, Ncd, 5468455663032122275608924441574549489664, Ndi, Ncc, 374349942824466122195632984803584731623208230322176, Nhi, Nhi, 22847113455894624042328643484442964772134060032, 11150372599265311881311195810990907027619842, 4436777100798802940422837504000]
noncomputable def ks_w4S (P : Params) (L : Lx) (B : Str) (p : Nat) (t3 : Tok) : List HK := [rdC P L.S B p 0 [15] (fun _ => t3) 39, rdC P L.S B p 1 [45, 17] (fun t => t 1) 35, rdC P L.S B p 2 [72, 47] (fun t => t 1) 39, rdC P L.S B p 3 [98, 74] (fun t => t 1) 32, kIn [14] [113, 114, 89]]
noncomputable def res_w4S (tt : Tok) (Y : Dyn) : Stop := .res (.ok (.ret (.str (Str.mk (Array.mk [35])) (Y.tk 46))))
noncomputable def out_w4S (P : Params) (L : Lx) (B : Str) (p : Nat) (Y : Dyn) : List (Option Obj) := (L.objs P B (p + 4) (.str (o " ") (Y.tk 122)) (Y.tk 130) (Y.tk 100)).map some
theorem chk_w4S (w : World) (r : Bool) (hb : Option Value) (sp : Code → SP) (bf : List Addr) (cur : List Addr) (L : Lx) (B : Str) (p : Nat) (ts tt t3 : Tok) (Y : Dyn) :
  Chk [0, 1, 2, 3, 4, 5] (codeR (SVz (wf w r) hb 70 0 sp false bf (boOf (L.objs w.params B p (.str (o " ") ts) tt t3)) cur (ks_w4S w.params L B p t3)) (Y.pre L.as) 20000 ce_w4S 1 (nextC L.a) (mkT (L.objs w.params B p (.str (o " ") ts) tt t3)) L.as.length) (res_w4S tt (Y.pre L.as)) (out_w4S w.params L B p (Y.pre L.as)) 0 143 := by
 cases r <;> kernel_rfl
theorem next_w4S {k' : Nat} {ws : List Nat} : Nx 4 (k' :: ws) := fun N w r A hr h g d os tok R L B p ts tt t3 S hl h2 hs ht h3 h1 hR fin => by
 have hw : ∀ i (hi : i < [39, 35, 39, 32].length), B.cps[p + i]? = some [39, 35, 39, 32][i] := hR.pre
 exact next_gen (ks := ks_w4S w.params L B p t3) hr (txt 4) (fun Y => Y.tk 46) (fun Y => Y.tk 130) (fun Y => Y.tk 100) (fun Y => .str (o " ") (Y.tk 122)) (p + 4) S h1 (allC rdC_wf (allC rdC_wf (allC rdC_wf (allC rdC_wf (allC kIn_wf nilA)))))
  (allC (rdC_ok rfl hr hl h2 (fun _ _ => h3) (hw 0 (by decide))) (allC (rdC_ok rfl hr hl h2 (fun t e => e 1 (by decide)) (hw 1 (by decide))) (allC (rdC_ok rfl hr hl h2 (fun t e => e 1 (by decide)) (hw 2 (by decide))) (allC (rdC_ok rfl hr hl h2 (fun t e => e 1 (by decide)) (hw 3 (by decide))) (allC (kIn_ok rfl) nilA)))))
  (fun bf Y => chk_w4S w r A.handled spDen _ [] L B p ts tt t3 Y) fun Y h' t' hy h1' S' K => fin h' t' (Y.tk 46) (Y.tk 122) (Y.tk 130) (Y.tk 100) (hy 46 (by decide)) (hy 122 (by decide)) (hy 130 (by decide)) (hy 100 (by decide)) h1' S' K
noncomputable def ce_w4E : List Nat := decs [Naz, Nar, Nas, Nau, Nav, Naw, Nae, Naf, Nag, Nax, Nac, Nad, Nba, Naa, Nab, Nay, Naa, Nab, Nbh, Nbi, Nbj, Nai, Nbk, Nbb, 8589934592, Nbl, Nbc, Nbd, Nbm, Nao, Nal, Naa, Nam, Nbn, Nbo, Nap, Nbs, Nbp, Nbt, Nbe, Nbu, Nae, Naf, Nag, Nbv, Nac, Nad, Nah, Naj, Nbw, Naa, Nam, Ncs, Ndq, Nhf, Ndr, Nds, Ndt, Nhg, Nbr, Ndu, Nap, Ndv, Nak, Nab, Nhh, 22835963085953814088502407331110771770693535750, 46768052394588894686297176254053667632325693800449, 46768052394588894686299343706932509210615885070336, 22936327331043995502978732986657133775684632576, Neq, 374327196113358964885294133412474766302616561385472, 374327106872266546965096848544107033709361758208001, Nae, 45671931613767042920450549297912629221751013376, 46768052394591551838509484478740903544189834248192, 1057810092162800536256513]
noncomputable def ks_w4E (P : Params) (L : Lx) (B : Str) (p : Nat) (t3 : Tok) : List HK := [rdC P L.S B p 0 [15] (fun _ => t3) 39, rdC P L.S B p 1 [45, 17] (fun t => t 1) 35, rdC P L.S B p 2 [72, 47] (fun t => t 1) 39, rdE P L.S B p 3 [98, 74] (fun t => t 1), kIn [14] [113, 114, 89]]
noncomputable def res_w4E (tt : Tok) (Y : Dyn) : Stop := .res (.ok (.ret (.str (Str.mk (Array.mk [35])) (Y.tk 46))))
noncomputable def out_w4E (P : Params) (L : Lx) (B : Str) (p : Nat) (Y : Dyn) : List (Option Obj) := (L.objs P B (p + 3) .none (Y.tk 123) (Y.tk 100)).map some
theorem chk_w4E (w : World) (r : Bool) (hb : Option Value) (sp : Code → SP) (bf : List Addr) (cur : List Addr) (L : Lx) (B : Str) (p : Nat) (ts tt t3 : Tok) (Y : Dyn) :
  Chk [0, 1, 2, 3, 4, 5] (codeR (SVz (wf w r) hb 70 0 sp false bf (boOf (L.objs w.params B p (.str (o " ") ts) tt t3)) cur (ks_w4E w.params L B p t3)) (Y.pre L.as) 20000 ce_w4E 1 (nextC L.a) (mkT (L.objs w.params B p (.str (o " ") ts) tt t3)) L.as.length) (res_w4E tt (Y.pre L.as)) (out_w4E w.params L B p (Y.pre L.as)) 0 136 := by
 cases r <;> kernel_rfl
theorem next_w4E : Nx 4 [] := fun N w r A hr h g d os tok R L B p ts tt t3 S hl h2 hs ht h3 h1 hR fin => by
 have hw : ∀ i (hi : i < [39, 35, 39].length), B.cps[p + i]? = some [39, 35, 39][i] := hR.last.1
 have he := hR.last.2
 exact next_gen (ks := ks_w4E w.params L B p t3) hr (txt 4) (fun Y => Y.tk 46) (fun Y => Y.tk 123) (fun Y => Y.tk 100) (fun Y => .none) (p + 3) S h1 (allC rdC_wf (allC rdC_wf (allC rdC_wf (allC rdE_wf (allC kIn_wf nilA)))))
  (allC (rdC_ok rfl hr hl h2 (fun _ _ => h3) (hw 0 (by decide))) (allC (rdC_ok rfl hr hl h2 (fun t e => e 1 (by decide)) (hw 1 (by decide))) (allC (rdC_ok rfl hr hl h2 (fun t e => e 1 (by decide)) (hw 2 (by decide))) (allC (rdE_ok rfl hr hl h2 (fun t e => e 1 (by decide)) he) (allC (kIn_ok rfl) nilA)))))
  (fun bf Y => chk_w4E w r A.handled spDen _ [] L B p ts tt t3 Y) fun Y h' t' hy h1' S' K => fin h' t' (Y.tk 46) ts (Y.tk 123) (Y.tk 100) (hy 46 (by decide)) hs (hy 123 (by decide)) (hy 100 (by decide)) h1' S' K
noncomputable def ce_w5S : List Nat := decs [Naz, Nar, Nas, Nau, Nav, Naw, Nae, Naf, Nag, Nax, Nac, Nad, Nba, Naa, Nab, Nay, Naa, Nab, Nbh, Nbi, Nbj, Nai, Nbk, Nbb, 8589934592, Nbl, Nbc, Nbd, Nbm, Nao, Nal, Naa, Nam, Nbn, Nbo, Nap, Nbs, Nbp, Nbt, Nbe, Nbu, Nae, Naf, Nag, Nbv, Nac, Nad, Nah, Naj, Nbw, Naa, Ncc, Nan, Ncg, Nbg, Nch, Nci, Ncd, Ncj, Nck, Ncl, Nbx, Nby, Naq, Nbz, Ncm, Nah, Ncv, Nai, Ncw, Ncx, Ncr, Ncy, Ncz, Nda, Ndb, Nak, Nak, Nab, Ncn, Ndc, Ndd, Naq, Nde, Nbe, Ndf, Nae, Naf, Nag, Ndg, Nac, Nad, Nah, Naj, Nbf, Nco, Nbr, Nfd, Nac, Nac, Ndh, Nab, Nal, Ncb, Neg, Nfe, Nff, Nfg, Nfh, Nfi, Nfj]
noncomputable def ks_w5S (P : Params) (L : Lx) (B : Str) (p : Nat) (t3 : Tok) : List HK := [rdC P L.S B p 0 [15] (fun _ => t3) 39, rdC P L.S B p 1 [45, 17] (fun t => t 1) 34, rdC P L.S B p 2 [72, 47] (fun t => t 1) 113, rdC P L.S B p 3 [100, 74] (fun t => t 1) 34, rdC P L.S B p 4 [128, 102] (fun t => t 1) 39, rdC P L.S B p 5 [154, 130] (fun t => t 1) 32, kIn [16] [169, 170, 145]]
noncomputable def res_w5S (tt : Tok) (Y : Dyn) : Stop := .res (.ok (.ret (.str (Str.mk (Array.mk [34, 113, 34])) (Y.tk 119))))
noncomputable def out_w5S (P : Params) (L : Lx) (B : Str) (p : Nat) (Y : Dyn) : List (Option Obj) := (L.objs P B (p + 6) (.str (o " ") (Y.tk 178)) (Y.tk 186) (Y.tk 156)).map some
theorem chk_w5S (w : World) (r : Bool) (hb : Option Value) (sp : Code → SP) (bf : List Addr) (cur : List Addr) (L : Lx) (B : Str) (p : Nat) (ts tt t3 : Tok) (Y : Dyn) :
  Chk [0, 1, 2, 3, 4, 5] (codeR (SVz (wf w r) hb 70 0 sp false bf (boOf (L.objs w.params B p (.str (o " ") ts) tt t3)) cur (ks_w5S w.params L B p t3)) (Y.pre L.as) 20000 ce_w5S 1 (nextC L.a) (mkT (L.objs w.params B p (.str (o " ") ts) tt t3)) L.as.length) (res_w5S tt (Y.pre L.as)) (out_w5S w.params L B p (Y.pre L.as)) 0 199 := by
 cases r <;> kernel_rfl
theorem next_w5S {k' : Nat} {ws : List Nat} : Nx 5 (k' :: ws) := fun N w r A hr h g d os tok R L B p ts tt t3 S hl h2 hs ht h3 h1 hR fin => by
 have hw : ∀ i (hi : i < [39, 34, 113, 34, 39, 32].length), B.cps[p + i]? = some [39, 34, 113, 34, 39, 32][i] := hR.pre
 exact next_gen (ks := ks_w5S w.params L B p t3) hr (txt 5) (fun Y => Y.tk 119) (fun Y => Y.tk 186) (fun Y => Y.tk 156) (fun Y => .str (o " ") (Y.tk 178)) (p + 6) S h1 (allC rdC_wf (allC rdC_wf (allC rdC_wf (allC rdC_wf (allC rdC_wf (allC rdC_wf (allC kIn_wf nilA)))))))
  (allC (rdC_ok rfl hr hl h2 (fun _ _ => h3) (hw 0 (by decide))) (allC (rdC_ok rfl hr hl h2 (fun t e => e 1 (by decide)) (hw 1 (by decide))) (allC (rdC_ok rfl hr hl h2 (fun t e => e 1 (by decide)) (hw 2 (by decide))) (allC (rdC_ok rfl hr hl h2 (fun t e => e 1 (by decide)) (hw 3 (by decide))) (allC (rdC_ok rfl hr hl h2 (fun t e => e 1 (by decide)) (hw 4 (by decide))) (allC (rdC_ok rfl hr hl h2 (fun t e => e 1 (by decide)) (hw 5 (by decide))) (allC (kIn_ok rfl) nilA)))))))
  (fun bf Y => chk_w5S w r A.handled spDen _ [] L B p ts tt t3 Y) fun Y h' t' hy h1' S' K => fin h' t' (Y.tk 119) (Y.tk 178) (Y.tk 186) (Y.tk 156) (hy 119 (by decide)) (hy 178 (by decide)) (hy 186 (by decide)) (hy 156 (by decide)) h1' S' K
noncomputable def ce_w5E : List Nat := decs [Naz, Nar, Nas, Nau, Nav, Naw, Nae, Naf, Nag, Nax, Nac, Nad, Nba, Naa, Nab, Nay, Naa, Nab, Nbh, Nbi, Nbj, Nai, Nbk, Nbb, 8589934592, Nbl, Nbc, Nbd, Nbm, Nao, Nal, Naa, Nam, Nbn, Nbo, Nap, Nbs, Nbp, Nbt, Nbe, Nbu, Nae, Naf, Nag, Nbv, Nac, Nad, Nah, Naj, Nbw, Naa, Ncc, Nan, Ncg, Nbg, Nch, Nci, Ncd, Ncj, Nck, Ncl, Nbx, Nby, Naq, Nbz, Ncm, Nah, Ncv, Nai, Ncw, Ncx, Ncr, Ncy, Ncz, Nda, Ndb, Nak, Nak, Nab, Ncn, Ndc, Ndd, Naq, Nde, Nbe, Ndf, Nae, Naf, Nag, Ndg, Nac, Nad, Nah, Naj, Nbf, Nco, Nbr, Nfk, Ndi, Nei, Ndj, Ndk, Nej, Nek, Nel, Nem, Nen, Neo]
noncomputable def ks_w5E (P : Params) (L : Lx) (B : Str) (p : Nat) (t3 : Tok) : List HK := [rdC P L.S B p 0 [15] (fun _ => t3) 39, rdC P L.S B p 1 [45, 17] (fun t => t 1) 34, rdC P L.S B p 2 [72, 47] (fun t => t 1) 113, rdC P L.S B p 3 [100, 74] (fun t => t 1) 34, rdC P L.S B p 4 [128, 102] (fun t => t 1) 39, rdE P L.S B p 5 [154, 130] (fun t => t 1), kIn [16] [169, 170, 145]]
noncomputable def res_w5E (tt : Tok) (Y : Dyn) : Stop := .res (.ok (.ret (.str (Str.mk (Array.mk [34, 113, 34])) (Y.tk 119))))
noncomputable def out_w5E (P : Params) (L : Lx) (B : Str) (p : Nat) (Y : Dyn) : List (Option Obj) := (L.objs P B (p + 5) .none (Y.tk 179) (Y.tk 156)).map some
theorem chk_w5E (w : World) (r : Bool) (hb : Option Value) (sp : Code → SP) (bf : List Addr) (cur : List Addr) (L : Lx) (B : Str) (p : Nat) (ts tt t3 : Tok) (Y : Dyn) :
  Chk [0, 1, 2, 3, 4, 5] (codeR (SVz (wf w r) hb 70 0 sp false bf (boOf (L.objs w.params B p (.str (o " ") ts) tt t3)) cur (ks_w5E w.params L B p t3)) (Y.pre L.as) 20000 ce_w5E 1 (nextC L.a) (mkT (L.objs w.params B p (.str (o " ") ts) tt t3)) L.as.length) (res_w5E tt (Y.pre L.as)) (out_w5E w.params L B p (Y.pre L.as)) 0 192 := by
 cases r <;> kernel_rfl
theorem next_w5E : Nx 5 [] := fun N w r A hr h g d os tok R L B p ts tt t3 S hl h2 hs ht h3 h1 hR fin => by
 have hw : ∀ i (hi : i < [39, 34, 113, 34, 39].length), B.cps[p + i]? = some [39, 34, 113, 34, 39][i] := hR.last.1
 have he := hR.last.2
 exact next_gen (ks := ks_w5E w.params L B p t3) hr (txt 5) (fun Y => Y.tk 119) (fun Y => Y.tk 179) (fun Y => Y.tk 156) (fun Y => .none) (p + 5) S h1 (allC rdC_wf (allC rdC_wf (allC rdC_wf (allC rdC_wf (allC rdC_wf (allC rdE_wf (allC kIn_wf nilA)))))))
  (allC (rdC_ok rfl hr hl h2 (fun _ _ => h3) (hw 0 (by decide))) (allC (rdC_ok rfl hr hl h2 (fun t e => e 1 (by decide)) (hw 1 (by decide))) (allC (rdC_ok rfl hr hl h2 (fun t e => e 1 (by decide)) (hw 2 (by decide))) (allC (rdC_ok rfl hr hl h2 (fun t e => e 1 (by decide)) (hw 3 (by decide))) (allC (rdC_ok rfl hr hl h2 (fun t e => e 1 (by decide)) (hw 4 (by decide))) (allC (rdE_ok rfl hr hl h2 (fun t e => e 1 (by decide)) he) (allC (kIn_ok rfl) nilA)))))))
  (fun bf Y => chk_w5E w r A.handled spDen _ [] L B p ts tt t3 Y) fun Y h' t' hy h1' S' K => fin h' t' (Y.tk 119) ts (Y.tk 179) (Y.tk 156) (hy 119 (by decide)) hs (hy 179 (by decide)) (hy 156 (by decide)) h1' S' K
structure Tr where
 thn : {α β : Type} → Sem α → (α → Sem β) → Sem β
 execs : List Stmt → Env → Sem Flow
 eval : Expr → Env → Sem Value
 isTrue : Expr → Env → Sem Value → Sem Bool
 setFlight : Value → Option Addr → Sem Unit
 lotGoes : Value → Sem Unit
 pyNext : Value → Sem (Option Value)
 assign : Expr → Env → Value → Sem Unit
 handleBy : Value → Env → List ExceptHandler → Sem Flow
 den : Code → Sem PySem.Fin
 pyIter : Value → Sem Value
 newObj : Value → Data → Option Addr → Sem Value
noncomputable def trC : Tr := ⟨Sem.bind, PySem.execs, PySem.eval, PySem.isTrue, PySem.setFlight, theTreesLotGoes, PySem.pyNext, PySem.assign, PySem.handleBy, denote table, PySem.pyIter, @PySem.newObj⟩
noncomputable def trZ : Tr := ⟨PySem.W.R.bindR, PySem.W.ZFast.zw12563942051412417395, PySem.W.ZFast.zw14044960220447912780, PySem.W.ZFast.zw15418851999007992765, PySem.W.ZFast.zw5670386056902412789, PySem.W.ZFast.zw1623429502029203251, PySem.W.ZFast.zw9404975358583537561, PySem.W.ZFast.zw17772580674575903948, PySem.W.ZFast.zw14206642085496868694, denZ, PySem.W.ZFast.zw8711993805878244202, @PySem.W.ZFast.zw12314024073155659997⟩
theorem trZ_eq : trZ = trC := by
 unfold trZ trC
 rw [← PySem.W.ZFast.ze12563942051412417395, ← PySem.W.ZFast.ze14044960220447912780, ← PySem.W.ZFast.ze15418851999007992765, ← PySem.W.ZFast.ze5670386056902412789, ← PySem.W.ZFast.ze1623429502029203251, ← PySem.W.ZFast.ze9404975358583537561, ← PySem.W.ZFast.ze17772580674575903948, ← PySem.W.ZFast.ze14206642085496868694, denZ_eq, ← PySem.W.ZFast.ze8711993805878244202, ← PySem.W.ZFast.ze12314024073155659997]
 congr 1
 funext α β
 exact PySem.W.R.bindR_eq ▸ rfl
namespace Tr
variable (F : Tr)
noncomputable def fin {α : Type} (t : Sem α) (f : α → Flow) : Sem PySem.Fin := F.thn t fun a => .pure (.done (f a))
noncomputable def fl (f : Flow) : SP := .tree (.pure (.done f))
noncomputable def err (e : Value) : SP := .tree (.raise e)
noncomputable def noteK (e : Value) (env : Env) : SP := .bnd (.op (.note e env)) fun r => match r with
 | .ok _ => .tree (F.thn (F.lotGoes e) fun _ => .raise e)
 | .error x => err x
noncomputable def funcSP (bs : SP) (env : Env) : SP := .bnd bs fun r => match r with
 | .ok f => fl (.ret (match f with | .ret v => v | _ => .none))
 | .error e => .bnd (.op (.note e env)) fun r => match r with
  | .ok _ => .tree (F.thn (F.setFlight e none) fun _ => .raise e)
  | .error x => err x
noncomputable def blockSP (bs : SP) (env : Env) : SP := .bnd bs fun r => match r with
 | .ok f => fl f
 | .error e => F.noteK e env
noncomputable def forHead (target : Expr) (it : Value) : Sem PySem.Fin := F.thn ((F.pyNext it).onRaise fun _ => standAt { target.pos with line := 0 }) fun r => match r with
 | none => .pure (.done .brk)
 | some v => .pure (.done (.ret v))
noncomputable def forSP (bs : SP) (target : Expr) (it : Value) (body orelse : List Stmt) (env : Env) : SP := .bnd (.tree (F.forHead target it)) fun r => match r with
 | .error e => F.noteK e env
 | .ok (.ret v) => .bnd (.op (.owned target it v)) fun r => match r with
  | .error e => F.noteK e env
  | .ok _ => .bnd (.tree (F.fin (F.assign target env v) fun _ => .next)) fun r => match r with
   | .error e => F.noteK e env
   | .ok _ => .bnd bs fun r => match r with
    | .error e => F.noteK e env
    | .ok .brk => fl .next
    | .ok (.ret v) => fl (.ret v)
    | .ok _ => .tree (.pure (.again (.forLoop target it body orelse env)))
 | .ok _ => .tree (.pure (.again (.block orelse env)))
noncomputable def oneTest : Expr → Bool
 | .BoolOp .Or [.Compare _ [.Is] _ _, .Compare _ [.Eq] _ _] _ => true
 | _ => false
noncomputable def tst (test : Expr) (env : Env) : SP := match oneTest test with
 | true => .op (.test test env)
 | false => .tree (F.fin (F.isTrue test env (F.eval test env)) fun b => .ret (.bool b))
noncomputable def cmpStmt : Stmt → Bool
 | .Expr (.Call (.Attribute (.Name x _) _ _) [.IfExp _ _ _ _] _ _) _ => x == ("answers" : Str)
 | .Assign [.Name x _] (.IfExp _ _ _ _) _ => x == ("place" : Str)
 | _ => false
noncomputable def stm (s : Stmt) (env : Env) : SP := match cmpStmt s with
 | true => .op (.exec s env)
 | false => .tree (F.fin (F.execs [s] env) id)
noncomputable def exs : Nat → List Stmt → Env → SP
 | 0, ss, env => .tree (F.fin (F.execs ss env) id)
 | n + 1, ss, env => match ss with
  | [] => fl .next
  | s :: ss => .bnd (match s with
    | .If test body orelse _ => .bnd (F.tst test env) fun r => match r with
     | .ok (.ret (.bool true)) => exs n body env
     | .ok _ => exs n orelse env
     | .error e => err e
    | .Try body (h :: hs) orelse [] _ => .bnd (exs n body env) fun r => match r with
     | .ok .next => exs n orelse env
     | .ok f => fl f
     | .error e => .bnd (.op (.note e env)) fun r => match r with
      | .ok _ => .tree (F.fin (F.thn (F.setFlight e none) fun _ => F.handleBy e env (h :: hs)) id)
      | .error x => err x
    | s => F.stm s env) fun r => match r with
   | .ok .next => exs n ss env
   | .ok f => fl f
   | .error e => err e
noncomputable def whileSP (n : Nat) (test : Expr) (body orelse : List Stmt) (env : Env) : SP := .bnd (F.tst test env) fun r => match r with
 | .error e => F.noteK e env
 | .ok (.ret (.bool true)) => .bnd (F.exs n body env) fun r => match r with
  | .error e => F.noteK e env
  | .ok .brk => fl .next
  | .ok (.ret v) => fl (.ret v)
  | .ok _ => .tree (.pure (.again (.whileLoop test body orelse env)))
 | .ok _ => .bnd (F.exs n orelse env) fun r => match r with
  | .error e => F.noteK e env
  | .ok f => fl f
noncomputable def nextHead (it : Value) : Sem PySem.Fin := F.thn (F.pyNext it) fun r => match r with
 | none => .pure (.done .brk)
 | some v => .pure (.done (.ret v))
noncomputable def containsSP (it x : Value) (args : Args) : SP := .bnd (.tree (F.nextHead it)) fun r => match r with
 | .error e => err e
 | .ok (.ret v) => .bnd (.op (.same v x)) fun r => match r with
  | .error e => err e
  | .ok (.ret (.bool true)) => fl (.ret (.bool true))
  | .ok _ => .tree (.pure (.again (.builtin "proto.contains_iter" args)))
 | .ok _ => fl (.ret (.bool false))
noncomputable def enumSP (x : Value) : SP := .bnd (.tree (F.fin (F.pyIter x) .ret)) fun r => match r with
 | .error e => err e
 | .ok (.ret v) => .tree (F.fin (F.newObj (.type "enumerate") (.fields (Array.mk [.none, .bool false, v, .int 0 0, .none, .none])) none) .ret)
 | .ok _ => fl .next
noncomputable def isEnum : Code → Option Value
 | .builtin "enumerate.__new__" ⟨[.type "enumerate", x], []⟩ => some x
 | _ => none
noncomputable def sp0 (c : Code) : SP := match c with
 | .builtin "proto.contains_iter" ⟨[it, x], kw⟩ => F.containsSP it x ⟨[it, x], kw⟩
 | .func body env => F.funcSP (F.exs 8 body env) env
 | .block body env => F.blockSP (F.exs 8 body env) env
 | .forLoop target it body orelse env => F.forSP (F.exs 8 body env) target it body orelse env
 | .whileLoop test body orelse env => F.whileSP 8 test body orelse env
 | c => .tree (F.den c)
noncomputable def sp (c : Code) : SP := match isEnum c with
 | some x => F.enumSP x
 | none => F.sp0 c
end Tr
section
variable {M : Model} {Γ : PySem.Ctx}
theorem wpG_mono {α : Type} {t : Sem α} {Q Q' : α → Shared → Prop} {E E' : Value → Shared → Prop} {s : Shared} (h : wpG M Γ t Q E s) (hQ : ∀ a s, Q a s → Q' a s) (hE : ∀ e s, E e s → E' e s) : wpG M Γ t Q' E' s := fun p =>
 Sem.wp_mono M Γ t (fun a _ s => hQ a s) (fun e _ s => hE e s) p s (h p)
theorem wpG_bindI {α β : Type} {t : Sem α} {f : α → Sem β} {Q : β → Shared → Prop} {E : Value → Shared → Prop} {s : Shared} (h : wpG M Γ (t.bind f) Q E s) {R : α → Shared → Prop} {E' : Value → Shared → Prop}
  (hf : ∀ a s', (∃ p, Sem.wp M Γ (f a) (fun x _ s'' => Q x s'') (fun e _ s'' => E e s'') p s') → R a s') (hE : ∀ e s', E e s' → E' e s') : wpG M Γ t R E' s := fun p => by
 have z := h p
 rw [Sem.wp_bind] at z
 exact Sem.wp_mono M Γ t (fun a p' s' x => hf a s' ⟨p', x⟩) (fun e _ s' x => hE e s' x) p s z
theorem wpG_onRaise {α : Type} {m : Sem α} {k : Value → Sem Unit} {Q : α → Shared → Prop} {E : Value → Shared → Prop} {s : Shared} (h : wpG M Γ m Q (fun e s' => wpG M Γ (k e) (fun _ s'' => E e s'') E s') s) : wpG M Γ (m.onRaise k) Q E s := fun p => by
 rw [Sem.wp_onRaise]
 exact Sem.wp_mono M Γ m (fun _ _ _ x => x) (fun e p' s' x => x p') p s (h p)
theorem wpG_attempt {α : Type} {m : Sem α} {Q : Except Value α → Shared → Prop} {E : Value → Shared → Prop} {s : Shared} (h : wpG M Γ m (fun a => Q (.ok a)) (fun e => Q (.error e)) s) : wpG M Γ m.attempt Q E s := fun p => by
 rw [Sem.wp_attempt]; exact h p
theorem wpG_pure {α : Type} {a : α} {Q : α → Shared → Prop} {E : Value → Shared → Prop} {s : Shared} (h : Q a s) : wpG M Γ (pure a : Sem α) Q E s := fun _ => h
theorem wpG_standAt {q : Pos} {Q : Unit → Shared → Prop} {E : Value → Shared → Prop} {s : Shared} (h : Q () s) : wpG M Γ (standAt q) Q E s := fun _ => h
theorem wpG_rule {t : String} {Q : Unit → Shared → Prop} {E : Value → Shared → Prop} {s : Shared} (h : Q () s) : wpG M Γ (rule t) Q E s := fun _ => h
theorem wpG_point {Q : Unit → Shared → Prop} {E : Value → Shared → Prop} {s : Shared} (h : Q () s) : wpG M Γ point Q E s := fun _ => h
noncomputable def SPg (M : Model) (Γ : PySem.Ctx) : SP → OutP → Shared → Prop
 | .tree t, Q, s => wpG M Γ t (fun x s' => Q (.ok x) s') (fun e s' => Q (.error e) s') s
 | .bnd p k, Q, s => SPg M Γ p (bndQ fun r s' => SPg M Γ (k r) Q s') s
 | .op o, Q, s => wpG M Γ o.tree (fun x s' => Q (.ok x) s') (fun e s' => Q (.error e) s') s
theorem bndQ_mono {f g : Result → Shared → Prop} (h : ∀ r s, f r s → g r s) : ∀ r s, bndQ f r s → bndQ g r s := fun r s x => by
 cases r with
 | ok y => cases y with
  | done z => exact h _ _ x
  | again _ => exact x
 | error e => exact h _ _ x
theorem SPg_mono : ∀ {p : SP} {Q Q' : OutP} {s : Shared}, SPg M Γ p Q s → (∀ r s, Q r s → Q' r s) → SPg M Γ p Q' s
 | .tree t, Q, Q', s, h, k => wpG_mono h (fun x s' => k _ s') fun e s' => k _ s'
 | .bnd p f, Q, Q', s, h, k => SPg_mono (p := p) h (bndQ_mono fun r s x => SPg_mono (p := f r) x k)
 | .op o, Q, Q', s, h, k => wpG_mono h (fun x s' => k _ s') fun e s' => k _ s'
theorem SPg_of {w : World} {A : Around} {c : Code} (hc : Γ.code = c) (hΓ : Γ.Below A) : ∀ {p : SP} {Q : OutP} {s : Shared}, SPw w A c p Q s → SPg (model pw w) Γ p Q s
 | .tree t, Q, s, h => fun p => h Γ p hc hΓ
 | .bnd p f, Q, s, h => by
  have h : SPw w A c p (bndQ fun r s' => SPw w A c (f r) Q s') s := h
  have z := SPg_of hc hΓ (p := p) h
  exact SPg_mono (p := p) z (bndQ_mono fun r s x => SPg_of hc hΓ (p := f r) x)
 | .op o, Q, s, h => fun p => h Γ p hc hΓ
theorem SPg_fl {f : Flow} {Q : OutP} {s : Shared} (h : SPg M Γ (Tr.fl f) Q s) : Q (.ok (.done f)) s := h default
theorem SPg_err {e : Value} {Q : OutP} {s : Shared} (h : SPg M Γ (Tr.err e) Q s) : Q (.error e) s := h default
theorem SPg_again {c : Code} {Q : OutP} {s : Shared} (h : SPg M Γ (.tree (.pure (.again c))) Q s) : Q (.ok (.again c)) s := h default
noncomputable def RunsAs (M : Model) (Γ : PySem.Ctx) {α : Type} (p : SP) (t : Sem α) (f : α → Flow) : Prop := ∀ Q s, SPg M Γ p Q s → wpG M Γ t (fun a s' => Q (.ok (.done (f a))) s') (fun e s' => Q (.error e) s') s
theorem RunsAs.fin {α : Type} (t : Sem α) (f : α → Flow) : RunsAs M Γ (.tree (trC.fin t f)) t f := fun Q s h => wpG_bindI h (fun a s' ⟨p, x⟩ => x) fun e s' x => x
theorem RunsAs.op {o : Op} {α : Type} {t : Sem α} {f : α → Flow} (e : o.tree = t.bind fun a => .pure (.done (f a))) : RunsAs M Γ (.op o) t f := fun Q s h => by
 have h : wpG M Γ o.tree _ _ s := h
 rw [e] at h
 exact wpG_bindI h (fun a s' ⟨p, x⟩ => x) fun e s' x => x
theorem note_own {e : Value} {env : Env} {k : Result → SP} {Q : OutP} {s : Shared} (h : SPg M Γ (.bnd (.op (.note e env)) k) Q s) : wpG M Γ (noteFrame e env) (fun _ s' => SPg M Γ (k (.ok .next)) Q s') (fun x s' => SPg M Γ (k (.error x)) Q s') s :=
 RunsAs.op (o := .note e env) (t := noteFrame e env) (f := fun _ => .next) rfl _ _ h
theorem noteK_own {e : Value} {env : Env} {Q : OutP} {s : Shared} (h : SPg M Γ (trC.noteK e env) Q s) : wpG M Γ (do noteFrame e env; theTreesLotGoes e) (fun _ s' => Q (.error e) s') (fun x s' => Q (.error x) s') s := by
 refine wpG_bind (wpG_mono (note_own h) (fun _ s' x => ?_) fun x s' y => SPg_err y)
 exact wpG_bindI (t := theTreesLotGoes e) x (fun a s' ⟨p, x⟩ => x) fun e s' x => x
theorem execs_one {s₁ : Stmt} {env : Env} {Q : Flow → Shared → Prop} {E : Value → Shared → Prop} {s : Shared} (h : wpG M Γ (execs [s₁] env) Q E s) : wpG M Γ (exec s₁ env) Q E s := by
 rw [execs_cons] at h
 exact wpG_bindI h (fun f s' ⟨p, x⟩ => by cases f <;> exact x) fun e s' x => x
theorem tst_own {test : Expr} {env : Env} : RunsAs M Γ (trC.tst test env) (isTrue test env (eval test env)) (fun b => .ret (.bool b)) := by
 unfold Tr.tst
 split
 ·exact .op rfl
 ·exact .fin _ _
theorem stm_own {st : Stmt} {env : Env} : RunsAs M Γ (trC.stm st env) (execs [st] env) id := by
 unfold Tr.stm
 split
 ·exact .op rfl
 ·exact .fin _ _
theorem exs_own : ∀ (n : Nat) (ss : List Stmt) (env : Env), RunsAs M Γ (trC.exs n ss env) (execs ss env) id
 | 0, ss, env => .fin _ _
 | n + 1, [], env => fun Q s h => wpG_pure (SPg_fl h)
 | n + 1, s₁ :: ss, env => fun Q s h => by
  rw [execs_cons]
  have key : ∀ Q' s, SPg M Γ (match s₁ with
    | .If test body orelse _ => .bnd (trC.tst test env) fun r => match r with
     | .ok (.ret (.bool true)) => trC.exs n body env
     | .ok _ => trC.exs n orelse env
     | .error e => Tr.err e
    | .Try body (h :: hs) orelse [] _ => .bnd (trC.exs n body env) fun r => match r with
     | .ok .next => trC.exs n orelse env
     | .ok f => Tr.fl f
     | .error e => .bnd (.op (.note e env)) fun r => match r with
      | .ok _ => .tree (trC.fin (trC.thn (trC.setFlight e none) fun _ => trC.handleBy e env (h :: hs)) id)
      | .error x => Tr.err x
    | s => trC.stm s env) Q' s → wpG M Γ (exec s₁ env) (fun f s' => Q' (.ok (.done f)) s') (fun e s' => Q' (.error e) s') s := by
   intro Q' s h
   split at h
   ·rename_i test body orelse pos _
    rw [arm_exec_If]
    refine wpG_bind (wpG_standAt (wpG_bind ?_))
    refine wpG_mono (tst_own _ _ h) (fun b s' x => ?_) fun e s' x => SPg_err x
    cases b with
    | true => exact exs_own n body env _ _ x
    | false => exact exs_own n orelse env _ _ x
   ·rename_i body hd hs orelse pos _
    rw [arm_exec_Try]
    refine wpG_bind (wpG_standAt ?_)
    unfold tryStmt
    simp only [List.isEmpty_nil, if_true]
    refine wpG_bind (wpG_attempt ?_)
    refine wpG_mono (exs_own n body env _ _ h) (fun f s' x => ?_) fun e s' x => ?_
    ·cases f with
     | next => exact exs_own n orelse env _ _ x
     | brk => exact wpG_pure (SPg_fl x)
     | cont => exact wpG_pure (SPg_fl x)
     | ret v => exact wpG_pure (SPg_fl x)
    ·refine wpG_bind (wpG_mono (note_own x) (fun _ s' x => ?_) fun e s' x => SPg_err x)
     have z := RunsAs.fin (M := M) (Γ := Γ) (trC.thn (trC.setFlight e none) fun _ => trC.handleBy e env (hd :: hs)) id _ _ x
     simp only [List.isEmpty_cons, Bool.false_eq_true, if_false, Bool.false_and]
     exact z
   ·exact execs_one (stm_own _ _ h)
  refine wpG_bind (wpG_mono (key _ _ h) (fun f s' x => ?_) fun e s' x => SPg_err x)
  cases f with
  | next => exact exs_own n ss env _ _ x
  | brk => exact wpG_pure (SPg_fl x)
  | cont => exact wpG_pure (SPg_fl x)
  | ret v => exact wpG_pure (SPg_fl x)
theorem funcSP_own {bs : SP} {body : List Stmt} {env : Env} (hb : RunsAs M Γ bs (execs body env) id) {Q : OutP} {s : Shared} (h : SPg M Γ (trC.funcSP bs env) Q s) : wpG M Γ (denote table (.func body env)) (fun x s' => Q (.ok x) s') (fun e s' => Q (.error e) s') s := by
 show wpG M Γ (do point; match ← (execs body env).onRaise (leaving env) with | .ret v => ret v | _ => ret .none) _ _ s
 refine wpG_bind (wpG_point (wpG_bind (wpG_onRaise (wpG_mono (hb _ _ h) (fun f s' x => ?_) fun e s' x => ?_))))
 ·have x := SPg_fl x
  cases f <;> exact wpG_pure x
 ·show wpG M Γ (noteFrame e env >>= fun _ => setFlight e none) _ _ s'
  refine wpG_bind (wpG_mono (note_own x) (fun _ s' x => ?_) fun e s' x => SPg_err x)
  exact wpG_bindI (t := setFlight e none) x (fun a s' ⟨p, x⟩ => x) fun e s' x => x
theorem blockSP_own {bs : SP} {body : List Stmt} {env : Env} (hb : RunsAs M Γ bs (execs body env) id) {Q : OutP} {s : Shared} (h : SPg M Γ (trC.blockSP bs env) Q s) : wpG M Γ (denote table (.block body env)) (fun x s' => Q (.ok x) s') (fun e s' => Q (.error e) s') s := by
 show wpG M Γ (do return PySem.Fin.done (← (execs body env).onRaise (fun x => do noteFrame x env; theTreesLotGoes x))) _ _ s
 refine wpG_bind (wpG_onRaise (wpG_mono (hb _ _ h) (fun f s' x => ?_) fun e s' x => noteK_own x))
 exact wpG_pure (SPg_fl x)
theorem forSP_own {bs : SP} {target : Expr} {it : Value} {body orelse : List Stmt} {env : Env} (hb : RunsAs M Γ bs (execs body env) id) {Q : OutP} {s : Shared} (h : SPg M Γ (trC.forSP bs target it body orelse env) Q s) : wpG M Γ (denote table (.forLoop target it body orelse env)) (fun x s' => Q (.ok x) s') (fun e s' => Q (.error e) s') s := by
 show wpG M Γ ((forTurn target it body orelse env).onRaise (fun x => do noteFrame x env; theTreesLotGoes x)) _ _ s
 refine wpG_onRaise ?_
 unfold forTurn
 refine wpG_bind (wpG_standAt (wpG_bind ?_))
 refine wpG_bindI (t := (pyNext it).onRaise fun _ => standAt { target.pos with line := 0 }) h (fun r s' x => ?_) fun e s' x => noteK_own x
 obtain ⟨p, x⟩ := x
 cases r with
 | none => exact wpG_pure (SPg_again x)
 | some v =>
  have x : SPg M Γ (.bnd (.op (.owned target it v)) _) Q s' := x
  refine wpG_bind (wpG_mono (RunsAs.op (o := .owned target it v) (t := letOwnedTupleGo target it v) (f := fun _ => .next) rfl _ _ x) (fun _ s' x => ?_) fun e s' x => noteK_own x)
  refine wpG_bind (wpG_mono (RunsAs.fin (assign target env v) (fun _ => .next) _ _ x) (fun _ s' x => ?_) fun e s' x => noteK_own x)
  refine wpG_bind (wpG_mono (hb _ _ x) (fun f s' x => ?_) fun e s' x => noteK_own x)
  cases f with
  | next => exact wpG_pure (SPg_again x)
  | cont => exact wpG_pure (SPg_again x)
  | brk => exact wpG_pure (SPg_fl x)
  | ret v => exact wpG_pure (SPg_fl x)
theorem whileSP_own {n : Nat} {test : Expr} {body orelse : List Stmt} {env : Env} {Q : OutP} {s : Shared} (h : SPg M Γ (trC.whileSP n test body orelse env) Q s) : wpG M Γ (denote table (.whileLoop test body orelse env)) (fun x s' => Q (.ok x) s') (fun e s' => Q (.error e) s') s := by
 show wpG M Γ ((whileTurn test body orelse env).onRaise (fun x => do noteFrame x env; theTreesLotGoes x)) _ _ s
 refine wpG_onRaise ?_
 unfold whileTurn
 refine wpG_bind (wpG_mono (tst_own _ _ h) (fun b s' x => ?_) fun e s' x => noteK_own x)
 cases b with
 | true =>
  refine wpG_bind (wpG_mono (exs_own n body env _ _ x) (fun f s' x => ?_) fun e s' x => noteK_own x)
  cases f with
  | next => exact wpG_pure (SPg_again x)
  | cont => exact wpG_pure (SPg_again x)
  | brk => exact wpG_pure (SPg_fl x)
  | ret v => exact wpG_pure (SPg_fl x)
 | false =>
  refine wpG_bind (wpG_mono (exs_own n orelse env _ _ x) (fun f s' x => ?_) fun e s' x => noteK_own x)
  exact wpG_pure (SPg_fl x)
end
theorem entry_contains_iter : entryFor table "proto.contains_iter" = some Builtin.«proto.contains_iter» := entryFor_of_fast (by kernel_rfl)
section
variable {M : Model} {Γ : PySem.Ctx}
theorem containsSP_own {it x : Value} {kw : List (Str × Value)} {Q : OutP} {s : Shared} (h : SPg M Γ (trC.containsSP it x ⟨[it, x], kw⟩) Q s) : wpG M Γ (denote table (.builtin "proto.contains_iter" ⟨[it, x], kw⟩)) (fun x s' => Q (.ok x) s') (fun e s' => Q (.error e) s') s := by
 have e : denote table (.builtin "proto.contains_iter" ⟨[it, x], kw⟩) = Builtin.«proto.contains_iter» ⟨[it, x], kw⟩ := by
  unfold denote
  dsimp only
  rw [entry_contains_iter]
 rw [e]
 unfold Builtin.«proto.contains_iter»
 dsimp only
 refine wpG_bind (wpG_bindI (t := pyNext it) h (fun r s' x' => ?_) fun e s' x' => SPg_err x')
 obtain ⟨p, x'⟩ := x'
 cases r with
 | none => exact wpG_bind (m := rule "in.by-iteration.exhausted") (wpG_rule (wpG_pure (SPg_fl x')))
 | some v =>
  refine wpG_bind (wpG_mono (RunsAs.op (o := .same v x) (t := eqBool v x) (f := fun b => .ret (.bool b)) rfl _ _ x') (fun b s' x' => ?_) fun e s' x' => SPg_err x')
  cases b with
  | true => exact wpG_bind (m := rule "in.by-iteration.found") (wpG_rule (wpG_pure (SPg_fl x')))
  | false => exact wpG_pure (SPg_again x')
end
open PySem.Builtin.SmallTypes in
theorem newClass_enum (x : Value) : newClass "enumerate" ⟨[.type "enumerate", x], []⟩ = pure (.type "enumerate", [x]) := by
 have e : isSubtype (.type "enumerate") (.type "enumerate") = pure true := sub_enumerate
 unfold newClass
 simp only [isType, e]
 rfl
theorem isEnum_eq {c : Code} {x : Value} (h : Tr.isEnum c = some x) : c = .builtin "enumerate.__new__" ⟨[.type "enumerate", x], []⟩ := by
 unfold Tr.isEnum at h
 split at h
 ·cases h; rfl
 ·cases h
theorem enumSP_own {M : Model} {Γ : PySem.Ctx} {A : Around} (hin : Γ.In A) {x : Value} {Q : OutP} {s : Shared} (h : SPg M Γ (trC.enumSP x) Q s) : wpG M Γ (denote table (.builtin "enumerate.__new__" ⟨[.type "enumerate", x], []⟩)) (fun x s' => Q (.ok x) s') (fun e s' => Q (.error e) s') s := by
 have e : denote table (.builtin "enumerate.__new__" ⟨[.type "enumerate", x], []⟩) = Builtin.«enumerate.__new__» ⟨[.type "enumerate", x], []⟩ := by
  unfold denote
  dsimp only
  rw [F.entry_enumerate_new]
 rw [e]
 unfold Builtin.«enumerate.__new__»
 rw [newClass_enum]
 refine wpG_bind (wpG_pure ?_)
 have end_ : wpG M Γ (do ret (← Builtin.SmallTypes.newRecord (.type "enumerate") (Builtin.SmallTypes.ownedTupleFields ++ [← pyIter x, rawInt 0, .none, .none]))) (fun x s' => Q (.ok x) s') (fun e s' => Q (.error e) s') s := by
  refine wpG_bind (wpG_mono (RunsAs.fin (pyIter x) .ret _ _ h) (fun v s' z => ?_) fun e s' z => SPg_err z)
  have z : SPg M Γ (.tree (trC.fin (newObj (.type "enumerate") (.fields (Array.mk [.none, .bool false, v, .int 0 0, .none, .none])) none) .ret)) Q s' := z
  refine wpG_bind (wpG_mono (RunsAs.fin (newObj (.type "enumerate") (.fields (Array.mk [.none, .bool false, v, .int 0 0, .none, .none])) none) .ret _ _ z) (fun v s' z => ?_) fun e s' z => z)
  exact wpG_pure z
 have ct : ∀ {Q' : Bool → Shared → Prop} {E : Value → Shared → Prop}, (∀ b, Q' b s) → wpG M Γ (Builtin.SmallTypes.calledThroughType (.type "enumerate")) Q' E s := fun k p => k _
 refine wpG_bind (m := Builtin.SmallTypes.calledThroughType (.type "enumerate")) (ct fun b => ?_)
 cases b
 ·exact wpG_bind (wpG_pure end_)
 ·exact wpG_bind (wpG_pure end_)
theorem sp0_own {M : Model} {Γ : PySem.Ctx} {c : Code} {Q : OutP} {s : Shared} (h : SPg M Γ (trC.sp0 c) Q s) : wpG M Γ (denote table c) (fun x s' => Q (.ok x) s') (fun e s' => Q (.error e) s') s := by
 unfold Tr.sp0 at h
 split at h
 ·exact containsSP_own h
 ·exact funcSP_own (exs_own 8 _ _) h
 ·exact blockSP_own (exs_own 8 _ _) h
 ·exact forSP_own (exs_own 8 _ _) h
 ·exact whileSP_own h
 ·exact fun p => h p
theorem spC_ok : SPok trC.sp := fun w c A Q s h Γ p hc hΓ => by
 have h1 := SPg_of hc hΓ h
 clear h
 unfold Tr.sp at h1
 split at h1
 ·rename_i x ex
  have e := isEnum_eq ex
  rw [e]
  exact enumSP_own hΓ.in h1 p
 ·exact sp0_own h1 p
theorem spZ_ok : SPok trZ.sp := by
 rw [trZ_eq]
 exact spC_ok
theorem NoteRel.refl (h : Heap) : NoteRel h h := ⟨fun _ _ e _ => e, fun _ x e _ => ⟨x.slots, e⟩, Nat.le_refl _⟩
theorem NoteRel.trans {h h' h'' : Heap} (x : NoteRel h h') (y : NoteRel h' h'') : NoteRel h h'' :=
 ⟨fun b o e f => y.same b o (x.same b o e f) f, fun b o e f => by
  obtain ⟨sl, z⟩ := x.fr b o e f
  obtain ⟨sl', z'⟩ := y.fr b { o with slots := sl } z f
  exact ⟨sl', z'⟩, Nat.le_trans x.size y.size⟩
theorem notModule_ne {env : Env} (h : notModule env = true) : env.scope.kind ≠ .module := fun e => by unfold notModule at h; rw [e] at h; cases h
theorem not_freed {h : Heap} {a : Addr} {x : Obj} (e : h.get? a = some x) : x.isFreed = false := by
 unfold Heap.get? at e
 split at e
 ·cases e
 ·rename_i y hz
  obtain ⟨c, d, dt, sl⟩ := x
  cases dt <;> first | rfl | exact absurd e (hz c d sl)
section
variable {M : Model} {A : Around} {E : Value → Shared → Prop}
theorem wpAny_ready : ∀ (es : List Env) {s : Shared} {Q : Unit → Shared → Prop}, (∀ env ∈ es, notModule env = true ∧ ∃ f x, env.frame = some f ∧ s.heap.get? f = some x ∧ isFr x = true) →
  (∀ h', NoteRel s.heap h' → Q () { s with heap := h' }) → wpAny M A (readyFrames es) Q E s
 | [], s, Q, _, h => wpAny_pure (h _ (.refl _))
 | env :: es, s, Q, hes, h => by
  obtain ⟨hm, f, x, hf, hx, hfr⟩ := hes env (.head _)
  simp only [readyFrames, hf]
  refine wpAny_bind (wpAny_load hx ?_)
  by_cases hr : ((x.slots.getD 3 none).isSome) = true
  ·rw [if_pos hr]; exact wpAny_pure (h _ (.refl _))
  ·rw [if_neg hr]
   refine wpAny_bind (wpAny_of_eq (a := false) (by simp [behindIsImport, notModule_ne hm]) ?_)
   have key : ∀ v, wpAny M A (do update f (fun o => { o with slots := #[some env.code, some (.ref env.globals), o.slots.getD 2 none, some v, o.slots.getD 4 none, env.func.map Value.ref, some (.ref env.builtins)] ++ (env.cells.map fun c => some (Value.ref c.2)).toArray }); readyFrames es) Q E s := by
    intro v
    have nf := not_freed hx
    have hf' : ∀ sl, ({ x with slots := sl } : Obj).isFreed = false := fun sl => by
     obtain ⟨c, d, dt, s'⟩ := x; cases dt <;> first | rfl | exact nf
    refine wpAny_bind (wpAny_update hx ?_)
    have N : NoteRel s.heap (s.heap.update f (fun o => { o with slots := #[some env.code, some (.ref env.globals), o.slots.getD 2 none, some v, o.slots.getD 4 none, env.func.map Value.ref, some (.ref env.builtins)] ++ (env.cells.map fun c => some (Value.ref c.2)).toArray })) := by
     have hs : Heap.SameBut f s.heap (s.heap.update f (fun o => { o with slots := #[some env.code, some (.ref env.globals), o.slots.getD 2 none, some v, o.slots.getD 4 none, env.func.map Value.ref, some (.ref env.builtins)] ++ (env.cells.map fun c => some (Value.ref c.2)).toArray })) := .update ..
     refine ⟨fun b o e q => (hs.2 b fun q' => ?_).trans e, fun b o e q => ?_, Nat.le_of_eq hs.1.symm⟩
     ·subst q'; rw [hx] at e; cases e; rw [hfr] at q; cases q
     ·by_cases hb : b = f
      ·subst hb
       rw [hx] at e; cases e
       exact ⟨_, Heap.get?_update_self _ hx (hf' _)⟩
      ·exact ⟨o.slots, (hs.2 b hb).trans e⟩
    refine wpAny_ready es (fun env' he => ?_) fun h' N' => h h' (N.trans N')
    obtain ⟨hm', f', x', y1, y2, y3⟩ := hes env' (.tail _ he)
    obtain ⟨sl, z⟩ := N.fr f' x' y2 y3
    exact ⟨hm', f', _, y1, z, y3⟩
   cases es with
   | nil => exact wpAny_bind (wpAny_keptBack_nil fun v => key v)
   | cons e' es' =>
    refine wpAny_bind (m := keptBack env false (e' :: es')) ?_
    unfold keptBack
    exact wpAny_pure (key _)
structure Noted (e : Addr) (oe : Obj) (f : Addr) (head : Value) (tb : Addr) (pl : List Value) (h h' : Heap) : Prop where
 same : ∀ b x, b ≠ e → h.get? b = some x → isFr x = false → h'.get? b = some x
 fr : ∀ b x, h.get? b = some x → isFr x = true → ∃ sl, h'.get? b = some { x with slots := sl }
 exc : h'.get? e = some (oe.mapFields (·.setIfInBounds 1 (.ref tb)))
 ent : h'.get? tb = some { cls := .type "traceback", data := .fields (Array.mk (head :: .ref f :: .none :: rawInt f :: .none :: pl)) }
 new : h.objs.size ≤ tb
 size : h.objs.size ≤ h'.objs.size
theorem drop_frame {f : Addr} : ∀ {es : List Env}, (∃ x ∈ es, x.frame = some f) → ∃ y ys, es.dropWhile (fun x => x.frame != some f) = y :: ys ∧ y.frame = some f ∧ ∀ z ∈ y :: ys, z ∈ es
 | [], h => by obtain ⟨x, hx, _⟩ := h; cases hx
 | e :: es, h => by
  by_cases q : e.frame = some f
  ·refine ⟨e, es, ?_, q, fun z hz => hz⟩
   simp [List.dropWhile, q]
  ·have h' : ∃ x ∈ es, x.frame = some f := by
    obtain ⟨x, hx, hf⟩ := h
    cases hx with
    | head => exact absurd hf q
    | tail _ hx => exact ⟨x, hx, hf⟩
   obtain ⟨y, ys, e1, e2, e3⟩ := drop_frame h'
   refine ⟨y, ys, ?_, e2, fun z hz => .tail _ (e3 z hz)⟩
   have : (e.frame != some f) = true := by simp [q]
   simp [List.dropWhile, this, e1]
theorem wpAny_entry {s : Shared} {env : Env} {f e : Addr} {oe : Obj} {vs : Array Value} {head : Value} {hn : Bool} {Q : Unit → Shared → Prop} (F : FrOk A s.heap) (I : InFr A f) (hf : env.frame = some f) (he : s.heap.get? e = some oe) (hd : oe.data = .fields vs) (hsz : 1 < vs.size) (hfr : isFr oe = false)
  (h : ∀ h' tb pl, Noted e oe f head tb pl s.heap h' → Q () { s with heap := h' }) :
  wpAny M A (do
   let t ← EntryCells.newEntry head (← PySem.frameOf env) .none (rawInt f) .none (← entryPlaceOf f hn)
   setField (.ref e) 1 t) Q E s := by
 obtain ⟨es, e1, e2⟩ := F
 obtain ⟨es', e3, e4⟩ := I
 rw [e1] at e3; cases e3
 obtain ⟨y, ys, d1, d2, d3⟩ := drop_frame e4
 unfold PySem.frameOf
 refine wpAny_bind (wpAny_bind (wpAny_frameEnvs e1 ?_))
 rw [hf, d1]
 unfold frameObject
 refine wpAny_bind (wpAny_bind (wpAny_ready (y :: ys) (fun z hz => e2 z (d3 z hz)) fun h₁ N => wpAny_pure ?_))
 rw [d2]
 refine wpAny_pure ?_
 refine wpAny_bind (wpAny_entryPlaceOf fun pl hpl => ?_)
 unfold EntryCells.newEntry newFields
 refine wpAny_bind (wpAny_newObj_type ?_ (hpl.sizeOk5 _ _ _ _ _))
 have he₁ : h₁.get? e = some oe := N.same e oe he hfr
 have he₂ := Heap.get?_push_of_some (h := h₁) { cls := .type "traceback", dict := none, data := .fields ([head, .ref f, .none, rawInt f, .none] ++ (if pl.isEmpty then List.replicate 6 Value.none else pl)).toArray } he₁
 refine wpAny_setField he₂ hd hsz ?_
 have hTe : h₁.objs.size ≠ e := Nat.ne_of_gt (Heap.lt_size he₁)
 have hd₃ := Obj.data_mapFields hd (·.setIfInBounds 1 (Value.ref h₁.objs.size))
 refine h _ h₁.objs.size (if pl.isEmpty then List.replicate 6 Value.none else pl) ⟨fun b x hb hx q => ?_, fun b x hx q => ?_, ?_, ?_, N.size, ?_⟩
 ·rw [Heap.get?_update_other _ _ (Ne.symm hb)]
  exact Heap.get?_push_of_some _ (N.same b x hx q)
 ·have hb : b ≠ e := fun q' => by subst q'; rw [he] at hx; cases hx; rw [hfr] at q; cases q
  obtain ⟨sl, z⟩ := N.fr b x hx q
  refine ⟨sl, ?_⟩
  rw [Heap.get?_update_other _ _ (Ne.symm hb)]
  exact Heap.get?_push_of_some _ z
 ·exact Heap.get?_update_self _ he₂ (Obj.isFreed_of_fields hd₃)
 ·rw [Heap.get?_update_other _ _ (Ne.symm hTe)]
  exact Heap.get?_push_size h₁ rfl
 ·show s.heap.objs.size ≤ (Heap.update _ _ _).objs.size
  have hs := Heap.SameBut.update (h := h₁.push { cls := .type "traceback", dict := none, data := .fields ([head, .ref f, .none, rawInt f, .none] ++ (if pl.isEmpty then List.replicate 6 Value.none else pl)).toArray }) e (Obj.mapFields (·.setIfInBounds 1 (Value.ref h₁.objs.size)))
  rw [hs.1, Heap.size_push]
  exact Nat.le_succ_of_le N.size
theorem wpAny_note0 {s : Shared} {env : Env} {f e : Addr} {oe : Obj} {vs : Array Value} {Q : Unit → Shared → Prop} (F : FrOk A s.heap) (I : InFr A f) (hf : env.frame = some f) (he : s.heap.get? e = some oe) (hd : oe.data = .fields vs) (h1 : vs[1]? = some .none) (hfr : isFr oe = false)
  (h : ∀ h' tb pl, Noted e oe f .none tb pl s.heap h' → Q () { s with heap := h' }) : wpAny M A (noteFrame (.ref e) env) Q E s := by
 have hsz : 1 < vs.size := (Array.getElem?_eq_some_iff.mp h1).1
 unfold noteFrame
 simp only [hf]
 refine wpAny_bind (wpAny_field he hd h1 ?_)
 rw [if_neg (by decide)]
 exact wpAny_entry F I hf he hd hsz hfr h
theorem wpAny_note2 {s : Shared} {env : Env} {f e t0 : Addr} {oe ot : Obj} {vs ts : Array Value} {Q : Unit → Shared → Prop} (F : FrOk A s.heap) (I : InFr A f) (hf : env.frame = some f) (he : s.heap.get? e = some oe) (hd : oe.data = .fields vs) (h1 : vs[1]? = some (.ref t0)) (hfr : isFr oe = false)
  (ht : s.heap.get? t0 = some ot) (htd : ot.data = .fields ts) (h3 : ts[3]? = some .none) (htf : isFr ot = false) (ne : t0 ≠ e)
  (h : ∀ h₁ h' tb pl, h₁ = s.heap.update t0 (Obj.mapFields (·.setIfInBounds 3 .none)) → Noted e oe f (.ref t0) tb pl h₁ h' → Q () { s with heap := h' }) : wpAny M A (noteFrame (.ref e) env) Q E s := by
 have hsz : 1 < vs.size := (Array.getElem?_eq_some_iff.mp h1).1
 have hsz3 : 3 < ts.size := (Array.getElem?_eq_some_iff.mp h3).1
 have htf' : ((Obj.mapFields (·.setIfInBounds 3 .none) ot)).isFreed = false := Obj.isFreed_of_fields (Obj.data_mapFields htd _)
 have hs : Heap.SameBut t0 s.heap (s.heap.update t0 (Obj.mapFields (·.setIfInBounds 3 .none))) := .update ..
 unfold noteFrame
 simp only [hf]
 refine wpAny_bind (wpAny_field he hd h1 ?_)
 rw [if_pos (show (Value.ref t0 != Value.none) = true from by simp)]
 refine wpAny_bind (wpAny_field ht htd h3 ?_)
 rw [if_neg (show ¬ ((Value.none == rawInt f) = true) from by simp [rawInt])]
 refine wpAny_bind (wpAny_setField ht htd hsz3 ?_)
 refine wpAny_entry (s := { s with heap := s.heap.update t0 (Obj.mapFields (·.setIfInBounds 3 .none)) }) ?_ I hf ((hs.2 e (Ne.symm ne)).trans he) hd hsz hfr fun h' tb pl N => h _ h' tb pl rfl N
 obtain ⟨es, e1, e2⟩ := F
 refine ⟨es, e1, fun z hz => ?_⟩
 obtain ⟨y1, f', x, y2, y3, y4⟩ := e2 z hz
 exact ⟨y1, f', x, y2, (hs.2 f' fun q => by subst q; rw [ht] at y3; cases y3; rw [htf] at y4; cases y4).trans y3, y4⟩
end
noncomputable def excObj (cls : String) (v0 tb : Value) : Obj := ⟨.type cls, none, .fields (Array.mk [v0, tb, .none, .none, .bool false, .none]), Array.mk []⟩
noncomputable def tbObj (head : Value) (f : Addr) (flight : Value) (pl : List Value) : Obj := ⟨.type "traceback", none, .fields (Array.mk (head :: .ref f :: .none :: flight :: .none :: pl)), Array.mk []⟩
noncomputable def kNote0 (ua ut : List Nat) (cls : String) (env : (Nat → Addr) → Env) (v0 : (Nat → Addr) → Value) : HK :=
 {ua, ut, nt := 0, nn := 1, noH := false, un := false, noting := true, frs := fun a => [a 1], tgt := fun a _ => .op (.note (.ref (a 0)) (env a)), pre := fun a _ => [(0, excObj cls (v0 a) .none)],
  post := fun a _ _ b _ _ => [(0, excObj cls (v0 a) (.ref (b 0)))], news := fun a _ _ _ _ pl => [tbObj .none (a 1) (rawInt (a 1)) pl], res := fun _ _ _ _ _ _ => .ok .next }
theorem kNote0_wf {ua ut cls env v0} (hn : ua.Nodup) (hl : 1 < ua.length) : HKwf (kNote0 ua ut cls env v0) :=
 ⟨hn, fun a t u b sl pl q h => (by
  cases h with
  | head => exact ⟨Nat.lt_of_succ_lt hl, _, .head _⟩
  | tail _ h => cases h), fun _ _ _ _ _ _ => by simp [kNote0], fun a t q h => (by
  cases h with
  | head => exact Nat.lt_of_succ_lt hl
  | tail _ h => cases h), fun _ _ _ _ _ _ => rfl⟩
theorem kNote0_ok {D U : Nat} {kt : KT} {w : World} {A : Around} {gp : GP} {ua ut cls env v0} (hcls : isFr (excObj cls .none .none) = false) (he : ∀ a, (env a).frame = some (a 1)) : HKok D U kt w A gp (kNote0 ua ut cls env v0) := by
 intro a t A' R' h tok g dr os hA hh hu hno h1 ht gg hB hp ho hi K
 obtain ⟨F, I⟩ := hno rfl
 have p0 := hp (0, excObj cls (v0 a) .none) (.head _)
 have hfr : isFr (excObj cls (v0 a) .none) = false := hcls
 refine wpAny_bind (wpAny_note0 (s := ⟨h, g, dr, tok, os⟩) F (I (a 1) (.head _)) (he a) p0 rfl rfl hfr fun h' tb pl N => wpAny_pure ⟨_, rfl, ?_⟩)
 refine K h' tok g dr os [] [tb] pl rfl (fun u hu => nomatch hu) h1 (fun _ => Nat.le_refl _) rfl (fun q => by cases q) gg ⟨fun c x e n q => ?_, fun _ c x e n q => N.fr c x e q, fun q hq => ?_, fun j x e => ?_, fun i j hi hj _ => ?_, N.size⟩
 ·exact N.same c x (fun q' => n _ (.head _) q'.symm) e (q rfl)
 ·cases hq with
  | head => exact N.exc
  | tail _ hq => cases hq
 ·cases j with
  | zero => cases e; exact ⟨N.ent, N.new⟩
  | succ j => cases e
 ·have hi : i < 1 := hi
  have hj : j < 1 := hj
  omega
noncomputable def envFn (x : Obj) (n : Addr) (a : Addr) : Env := match x.data with
 | .func fd => { scope := fd.scope, locals := a, globals := fd.globals, cells := fd.closure, qual := fd.qualname ++ Str.mk (Array.mk [46, 60, 108, 111, 99, 97, 108, 115, 62, 46]), func := some n, code := fd.code, frame := some a, builtins := fd.builtins }
 | _ => default
noncomputable def ce_end : List Nat := decs [5444517870735324900423815081633526069255, Nar, Nas, Nau, Nav, Naw, Nae, Naf, Nag, Nax, Nac, Nad, Nhd, Nhe, Nbg, Ncu, 5444517870735015567194128374893327173641, 46768052394588894685665208771209354529450433185793, 46768052394588894685665207561767026098340987142144, 46768052394588894685662731681688455337791188893696, 374281434967878034221582150740061876425780398915584, 327536296567202553081662996696688739427455063818241, Neh, 561490794096537471655613496903623053642183647166464, 655026765119358350780441249308041621382322502787084, 14]
noncomputable def ks_end (P : Params) (L : Lx) (B : Str) (p : Nat) (t3 : Tok) : List HK := [rdE P L.S B p 0 [15] (fun _ => t3), kNote0 [11, 6, 12] [] "StopIteration" (fun a => envFn (o750 P) 750 (a 1)) (fun a => .ref (a 2))]
theorem chk_end (w : World) (r : Bool) (bf : List Addr) (cur : List Addr) (L : Lx) (B : Str) (p : Nat) (tt t3 : Tok) (Y : Dyn) :
  Chk [0, 1, 2, 3, 4, 5, 11] (codeR (SVz (wf w r) none 70 0 trZ.sp true bf (boOf (L.objs w.params B p .none tt t3)) cur (ks_end w.params L B p t3)) (Y.pre L.as) 20000 ce_end 1 (nextC L.a) (mkT (L.objs w.params B p .none tt t3)) L.as.length)
   (.res (.error (.ref ((Y.pre L.as).adr 11)))) ((L.objs w.params B p .none (Y.tk 28) (Y.tk 17) ++ [excObj "StopIteration" (.ref ((Y.pre L.as).adr 12)) (.ref ((Y.pre L.as).adr 13))]).map some) 1 45 := by
 cases r <;> kernel_rfl
theorem frame_750 (P : Params) (a : Addr) : (envFn (o750 P) 750 a).frame = some a := by kernel_rfl
theorem next_end {N : Nat} {w : World} {r : Bool} {A : Around} (hr : A.depth + 140 ≤ recursionLimit) (hh : A.handled = none) {h : Heap} (F : FrOk A h) {g : Array GenState} {d : Drawn} {os : OsState} {tok : Nat} {R : Result → Shared → Prop} {L : Lx} {B : Str} {p : Nat} {tt t3 : Tok}
  (S : Starts (kt0 w.params) h L.as (L.objs w.params B p .none tt t3)) (hl : B.length < 1000000) (h2 : N < L.S.t2) (ht : N < tt) (h3 : N < t3) (h1 : N < tok) (he : p = B.length)
  (fin : ∀ h' t' (e v tb : Addr) (tt' t3' : Tok), N < tt' → N < t3' → N < t' → Starts (kt0 w.params) h' L.as (L.objs w.params B p .none tt' t3') → KeepB true h h' L.as → h.objs.size ≤ e → h'.get? e = some (excObj "StopIteration" (.ref v) (.ref tb)) → R (.error (.ref e)) ⟨h', g, d, t', os⟩) :
  codeAny (model pw (wf w r)) A (nextC L.a) R ⟨h, g, d, tok, os⟩ := by
 refine run_k (D := 70) (U := 0) (nt := true) (sp := trZ.sp) (ks := ks_end w.params L B p t3) (gp := sameG N g d os) (cur := []) nilA spZ_ok (by omega) (fun _ => F) (as := L.as) (xs := L.objs w.params B p .none tt t3) (ws := [0, 1, 2, 3, 4, 5, 11]) (n := 20000) (ce := ce_end) (e := 1) (s := 1) (i := 45)
  (res := fun Y => .res (.error (.ref (Y.adr 11)))) (objs := fun Y => (L.objs w.params B p .none (Y.tk 28) (Y.tk 17) ++ [excObj "StopIteration" (.ref (Y.adr 12)) (.ref (Y.adr 13))]).map some) ?_ ?_ S rfl h1 ⟨rfl, rfl, rfl⟩ (fun Y => by rw [hh]; exact chk_end w r _ [] L B p tt t3 Y) ?_
 ·intro k hk
  simp only [ks_end, memC, memN, or_false] at hk
  rcases hk with rfl | rfl
  ·exact rdE_wf
  ·exact kNote0_wf (by decide) (by decide)
 ·intro k hk
  simp only [ks_end, memC, memN, or_false] at hk
  rcases hk with rfl | rfl
  ·exact rdE_ok rfl (by omega) hl h2 (fun _ _ => h3) he
  ·exact kNote0_ok (by decide +kernel) fun a => frame_750 w.params (a 1)
 ·rintro Y T m h' t' _ _ _ h1' hy ⟨rfl, rfl, rfl⟩ D e
  have e6 : [0, 1, 2, 3, 4, 5].map T.get = (L.objs w.params B p .none (Y.tk 28) (Y.tk 17)).map some := by
   have := congrArg (List.take 6) e
   exact this
  have e11 : T.get 11 = some (excObj "StopIteration" (.ref ((Y.pre L.as).adr 12)) (.ref ((Y.pre L.as).adr 13))) := by
   have := congrArg (fun l => l[6]?) e
   exact Option.some.inj this
  have z := D.own 11 _ e11
  exact fin h' t' _ _ _ (Y.tk 28) (Y.tk 17) (hy 28 (by decide)).1 (hy 17 (by decide)).1 h1' (S.after D rfl e6) (D.keepB (.inr rfl)) (D.new 11 (by show 6 ≤ 11; decide) z.1) z.2
theorem six {P : Nat → Prop} (h0 : P 0) (h1 : P 1) (h2 : P 2) (h3 : P 3) (h4 : P 4) (h5 : P 5) : ∀ k, k < 6 → P k
 | 0, _ => h0
 | 1, _ => h1
 | 2, _ => h2
 | 3, _ => h3
 | 4, _ => h4
 | 5, _ => h5
theorem next_any {N : Nat} {w : World} {r : Bool} {A : Around} (hr : A.depth + 140 ≤ recursionLimit) {h : Heap} {g : Array GenState} {d : Drawn} {os : OsState} {tok : Nat} {R : Result → Shared → Prop} {L : Lx} {B : Str} {p : Nat} {ts tt t3 : Tok} {k : Nat} {ws : List Nat} (hk : k < 6)
  (S : Starts (kt0 w.params) h L.as (L.objs w.params B p (.str (o " ") ts) tt t3)) (hl : B.length < 1000000) (h2 : N < L.S.t2) (hs : N < ts) (ht : N < tt) (h3 : N < t3) (h1 : N < tok) (hR : Rest B p (k :: ws))
  (fin : ∀ h' t' tc (ts' tt' t3' : Tok), N < tc → N < ts' → N < tt' → N < t3' → N < t' → Starts (kt0 w.params) h' L.as (L.objs w.params B (p + stepLen k ws) (stOf ws ts') tt' t3') → KeepB false h h' L.as → R (.ok (.ret (.str (txt k) tc))) ⟨h', g, d, t', os⟩) :
  codeAny (model pw (wf w r)) A (nextC L.a) R ⟨h, g, d, tok, os⟩ := by
 have z : Nx k ws := by
  cases ws with
  | nil => exact six (P := fun k => Nx k []) next_w0E next_w1E next_w2E next_w3E next_w4E next_w5E k hk
  | cons k' ws => exact six (P := fun k => Nx k (k' :: ws)) next_w0S next_w1S next_w2S next_w3S next_w4S next_w5S k hk
 exact z N w r A hr h g d os tok R L B p ts tt t3 S hl h2 hs ht h3 h1 hR fin
theorem starts_range {kt : KT} {h : Heap} {a : Nat → Addr} {n : Nat} {xs : List Obj} (hx : xs.length = n) (hp : ∀ j x, xs[j]? = some x → h.get? (a j) = some x) (hi : ∀ x y, x < n → y < n → a x = a y → x = y) (B : ∀ b x, kt.get b = some x → h.get? b = some x) (ho : ∀ x, x < n → kt.get (a x) = none) : Starts kt h ((List.range n).map a) xs := by
 refine ⟨by simp [hx], fun j b x e1 e2 => ?_, ?_, B, fun b hb => ?_⟩
 ·rw [List.getElem?_map] at e1
  obtain ⟨j', z1, z2⟩ := Option.map_eq_some_iff.mp e1
  have : j' = j := by
   have := (List.getElem?_eq_some_iff.mp z1)
   obtain ⟨_, q⟩ := this
   simpa using q.symm
  subst this
  rw [← z2]
  exact hp _ _ e2
 ·have : List.Pairwise (· ≠ ·) ((List.range n).map a) := by
   rw [List.pairwise_map]
   exact (List.nodup_range (n := n)).imp_of_mem fun hx hy ne e => ne (hi _ _ (List.mem_range.mp hx) (List.mem_range.mp hy) e)
  exact this
 ·obtain ⟨x, hx, rfl⟩ := List.mem_map.mp hb
  exact ho x (List.mem_range.mp hx)
theorem Starts.get {kt : KT} {h : Heap} {as : List Addr} {xs : List Obj} (S : Starts kt h as xs) {j : Nat} {a : Addr} {x : Obj} (e1 : as[j]? = some a) (e2 : xs[j]? = some x) : h.get? a = some x := S.at_ j a x e1 e2
noncomputable def lexAt (P : Params) (K : Nat → Tok) (S : SK) (B : Str) (a : Nat → Addr) (p : Nat) (st : Value) (tt t3 : Tok) : List (Nat × Obj) :=
 [(0, lexObj (a 1)), (1, lexDict P K (a 2) (a 4) (a 5) st tt), (2, sioObj (a 3)), (3, sioDict P S B (p : Int) t3), (4, dqObj), (5, dqObj)]
noncomputable def lexOf (K : Nat → Tok) (S : SK) (a : Nat → Addr) : Lx := ⟨a 0, a 1, a 2, a 3, a 4, a 5, K, S⟩
theorem lexOf_as (K S a) : (lexOf K S a).as = (List.range 6).map a := rfl
theorem lexAt_lt {P K S B a p st tt t3} : ∀ q ∈ lexAt P K S B a p st tt t3, q.1 < 6 := by
 intro q hq
 simp only [lexAt, memC, memN, or_false] at hq
 rcases hq with rfl | rfl | rfl | rfl | rfl | rfl <;> dsimp only <;> decide
theorem lexAt_starts {P K S B a p st tt t3} {kt : KT} {h : Heap} (hp : ∀ q ∈ lexAt P K S B a p st tt t3, h.get? (a q.1) = some q.2) (hi : ∀ x y, x < 6 → y < 6 → a x = a y → x = y) (Bk : ∀ b x, kt.get b = some x → h.get? b = some x) (ho : ∀ x, x < 6 → kt.get (a x) = none) :
  Starts kt h (lexOf K S a).as ((lexOf K S a).objs P B p st tt t3) := by
 rw [lexOf_as]
 refine starts_range rfl (fun j x e => ?_) hi Bk ho
 have hm : (j, x) ∈ lexAt P K S B a p st tt t3 := by
  rcases j with _ | _ | _ | _ | _ | _ | j
  ·cases e; exact .head _
  ·cases e; exact .tail _ (.head _)
  ·cases e; exact .tail _ (.tail _ (.head _))
  ·cases e; exact .tail _ (.tail _ (.tail _ (.head _)))
  ·cases e; exact .tail _ (.tail _ (.tail _ (.tail _ (.head _))))
  ·cases e; exact .tail _ (.tail _ (.tail _ (.tail _ (.tail _ (.head _)))))
  ·cases e
 exact hp _ hm
noncomputable def kNext (P : Params) (K : Nat → Tok) (S : SK) (B : Str) (p : Nat) (ts tt t3 : Tok) (x : Str) (p' : Nat) (st' : Tok → Value) (ua : List Nat) : HK :=
 {ua, ut := [], nt := 4, nn := 0, noH := false, un := false, noting := false, tgt := fun a _ => .code (nextC (a 0)), pre := fun a _ => lexAt P K S B a p (.str (o " ") ts) tt t3,
  post := fun a _ u _ _ _ => [(1, lexDict P K (a 2) (a 4) (a 5) (st' (u 1)) (u 2)), (3, sioDict P S B (p' : Int) (u 3))], news := fun _ _ _ _ _ _ => [], res := fun _ _ u _ _ _ => .ok (.ret (.str x (u 0))) }
theorem kNext_wf {P K S B p ts tt t3 x p' st' ua} (hn : ua.Nodup) (hl : ua.length = 6) : HKwf (kNext P K S B p ts tt t3 x p' st' ua) := by
 refine ⟨hn, fun a t u b sl pl q h => ?_, fun _ _ _ _ _ _ => by simp [kNext], fun a t q h => by show q.1 < ua.length; rw [hl]; exact lexAt_lt q h, fun _ _ _ _ _ _ => rfl⟩
 show q.1 < ua.length ∧ _
 rw [hl]
 have h : q ∈ [(1, lexDict P K (a 2) (a 4) (a 5) (st' (u 1)) (u 2)), (3, sioDict P S B (p' : Int) (u 3))] := h
 rcases List.mem_cons.mp h with rfl | h
 ·exact ⟨by show 1 < 6; decide, _, .tail _ (.head _)⟩
 ·rcases List.mem_cons.mp h with rfl | h
  ·exact ⟨by show 3 < 6; decide, _, .tail _ (.tail _ (.tail _ (.head _)))⟩
  ·cases h
theorem four_ne {gp : GP} (hup : gp.up = false) {tok a b c d : Tok} (h1 : gp.n < a) (h2 : gp.n < b) (h3 : gp.n < c) (h4 : gp.n < d) : ∀ u ∈ [a, b, c, d], gp.tk tok u := fun u hu => by
 simp only [memC, memN, or_false] at hu
 rcases hu with rfl | rfl | rfl | rfl <;> exact GP.tk0 hup (by assumption)
theorem keep_lex {P K S B} {a : Nat → Addr} {h h' : Heap} {p p' : Nat} {st st' : Value} {tt tt' t3 t3' : Tok} {e : Bool} (Kb : KeepB e h h' (lexOf K S a).as) (hi : ∀ x y, x < 6 → y < 6 → a x = a y → x = y)
  (hp : ∀ q ∈ lexAt P K S B a p st tt t3, h.get? (a q.1) = some q.2) (S' : ∀ q ∈ lexAt P K S B a p' st' tt' t3', h'.get? (a q.1) = some q.2)
  (c : Addr) (x : Obj) (ec : h.get? c = some x) (n1 : a 1 ≠ c) (n3 : a 3 ≠ c) (hf : e = true → isFr x = false) : h'.get? c = some x := by
 by_cases hm : c ∈ (lexOf K S a).as
 ·have hm : c ∈ [a 0, a 1, a 2, a 3, a 4, a 5] := hm
  simp only [memC, memN, or_false] at hm
  have same : ∀ j y, (j, y) ∈ lexAt P K S B a p st tt t3 → (j, y) ∈ lexAt P K S B a p' st' tt' t3' → c = a j → h'.get? c = some x := fun j y m1 m2 ej => by
   have z1 := hp _ m1
   have z2 := S' _ m2
   rw [← ej] at z1 z2
   have z1 : h.get? c = some y := z1
   rw [ec] at z1
   rw [Option.some.inj z1]
   exact z2
  rcases hm with q | q | q | q | q | q
  ·exact same 0 _ (.head _) (.head _) q
  ·exact absurd q.symm n1
  ·exact same 2 _ (.tail _ (.tail _ (.head _))) (.tail _ (.tail _ (.head _))) q
  ·exact absurd q.symm n3
  ·exact same 4 _ (.tail _ (.tail _ (.tail _ (.tail _ (.head _))))) (.tail _ (.tail _ (.tail _ (.tail _ (.head _))))) q
  ·exact same 5 _ (.tail _ (.tail _ (.tail _ (.tail _ (.tail _ (.head _)))))) (.tail _ (.tail _ (.tail _ (.tail _ (.tail _ (.head _)))))) q
 ·exact Kb.keep c x ec hm hf
theorem lexAt_of {P K S B a p st tt t3} {kt : KT} {h : Heap} (Z : Starts kt h (lexOf K S a).as ((lexOf K S a).objs P B p st tt t3)) : ∀ q ∈ lexAt P K S B a p st tt t3, h.get? (a q.1) = some q.2 := by
 intro q hq
 simp only [lexAt, memC, memN, or_false] at hq
 rcases hq with rfl | rfl | rfl | rfl | rfl | rfl
 ·exact Z.get (j := 0) rfl rfl
 ·exact Z.get (j := 1) rfl rfl
 ·exact Z.get (j := 2) rfl rfl
 ·exact Z.get (j := 3) rfl rfl
 ·exact Z.get (j := 4) rfl rfl
 ·exact Z.get (j := 5) rfl rfl
theorem kNext_ok {w : World} {r : Bool} {A : Around} {D U : Nat} {gp : GP} (hup : gp.up = false) {K S B p ts tt t3 k ws ua} (hua : ua.length = 6) (hd : A.depth + D + 140 ≤ recursionLimit) (hk : k < 6) (hl : B.length < 1000000) (h2 : gp.n < S.t2) (hs : gp.n < ts) (ht : gp.n < tt) (h3 : gp.n < t3) (hR : Rest B p (k :: ws)) :
  HKok D U (kt0 w.params) (wf w r) A gp (kNext w.params K S B p ts tt t3 (txt k) (p + stepLen k ws) (stOf ws) ua) := by
 intro a t A' R' h tok g dr os hA hh hu hno h1 _ gg hB hp ho hi C
 have hi : ∀ x y, x < 6 → y < 6 → a x = a y → x = y := fun x y hx hy => hi x y (hua ▸ hx) (hua ▸ hy)
 have Z := lexAt_starts (K := K) (S := S) hp hi hB fun x hx => ho x (hua ▸ hx)
 refine next_any (L := lexOf K S a) (by omega) hk Z hl h2 hs ht h3 h1 hR fun h' t' tc ts' tt' t3' n1 n2 n3 n4 n5 Z' Kb => ?_
 have S' := lexAt_of Z'
 refine C h' t' g dr os [tc, ts', tt', t3'] [] [] rfl (four_ne hup n1 n2 n3 n4) n5 (GP.le0 hup) rfl (fun _ => rfl) gg ⟨fun c x e n _ => ?_, (fun q => by cases q), fun q hq => ?_, (fun j x e => by cases e), fun i j hi => absurd hi (Nat.not_lt_zero _), Kb.size⟩
 ·exact keep_lex Kb hi hp S' c x e (n _ (.head _)) (n _ (.tail _ (.head _))) (fun q => by cases q)
 ·have hq : q ∈ [(1, lexDict w.params K (a 2) (a 4) (a 5) (stOf ws ts') tt'), (3, sioDict w.params S B ((p + stepLen k ws : Nat) : Int) t3')] := hq
  rcases List.mem_cons.mp hq with rfl | hq
  ·exact S' (1, _) (.tail _ (.head _))
  ·rcases List.mem_cons.mp hq with rfl | hq
   ·exact S' (3, _) (.tail _ (.tail _ (.tail _ (.head _))))
   ·cases hq
noncomputable def plv (pl : List Value) (j : Nat) : Value := match nth pl j with | some v => v | none => .none
noncomputable def kEnd (P : Params) (K : Nat → Tok) (S : SK) (B : Str) (p : Nat) (tt t3 : Tok) (ua : List Nat) : HK :=
 {ua, ut := [], nt := 2, nn := 1, noH := true, un := false, noting := true, tgt := fun a _ => .code (nextC (a 0)), pre := fun a _ => lexAt P K S B a p .none tt t3,
  post := fun a _ u _ _ _ => [(1, lexDict P K (a 2) (a 4) (a 5) .none (u 0)), (3, sioDict P S B (p : Int) (u 1))], news := fun _ _ _ _ _ pl => [excObj "StopIteration" (plv pl 0) (plv pl 1)], res := fun _ _ _ b _ _ => .error (.ref (b 0)) }
theorem kEnd_wf {P K S B p tt t3 ua} (hn : ua.Nodup) (hl : ua.length = 6) : HKwf (kEnd P K S B p tt t3 ua) := by
 refine ⟨hn, fun a t u b sl pl q h => ?_, fun _ _ _ _ _ _ => by simp [kEnd], fun a t q h => by show q.1 < ua.length; rw [hl]; exact lexAt_lt q h, fun _ _ _ _ _ _ => rfl⟩
 show q.1 < ua.length ∧ _
 rw [hl]
 have h : q ∈ [(1, lexDict P K (a 2) (a 4) (a 5) .none (u 0)), (3, sioDict P S B (p : Int) (u 1))] := h
 rcases List.mem_cons.mp h with rfl | h
 ·exact ⟨by show 1 < 6; decide, _, .tail _ (.head _)⟩
 ·rcases List.mem_cons.mp h with rfl | h
  ·exact ⟨by show 3 < 6; decide, _, .tail _ (.tail _ (.tail _ (.head _)))⟩
  ·cases h
theorem kEnd_ok {w : World} {r : Bool} {A : Around} {D U : Nat} {gp : GP} (hup : gp.up = false) {K S B p tt t3 ua} (hua : ua.length = 6) (hd : A.depth + D + 140 ≤ recursionLimit) (hl : B.length < 1000000) (h2 : gp.n < S.t2) (ht : gp.n < tt) (h3 : gp.n < t3) (he : p = B.length) :
  HKok D U (kt0 w.params) (wf w r) A gp (kEnd w.params K S B p tt t3 ua) := by
 intro a t A' R' h tok g dr os hA hh hu hno h1 _ gg hB hp ho hi C
 have hi : ∀ x y, x < 6 → y < 6 → a x = a y → x = y := fun x y hx hy => hi x y (hua ▸ hx) (hua ▸ hy)
 have Z := lexAt_starts (K := K) (S := S) hp hi hB fun x hx => ho x (hua ▸ hx)
 refine next_end (L := lexOf K S a) (by omega) (hh rfl) (hno rfl).1 Z hl h2 ht h3 h1 he fun h' t' e v tb tt' t3' n1 n2 n3 Z' Kb hge hex => ?_
 have S' := lexAt_of Z'
 have noFr : ∀ j y, (j, y) ∈ lexAt w.params K S B a p .none tt t3 → isFr y = false := fun j y hm => by
  simp only [lexAt, memC, memN, or_false, Prod.mk.injEq] at hm
  rcases hm with ⟨_, rfl⟩ | ⟨_, rfl⟩ | ⟨_, rfl⟩ | ⟨_, rfl⟩ | ⟨_, rfl⟩ | ⟨_, rfl⟩
  ·rfl
  ·kernel_rfl
  ·rfl
  ·kernel_rfl
  ·kernel_rfl
  ·kernel_rfl
 refine C h' t' g dr os [tt', t3'] [e] [.ref v, .ref tb] rfl (two_ne hup n1 n2) n3 (GP.le0 hup) rfl (fun q => by cases q) gg ⟨fun c x ec n q => ?_, fun _ c x ec n q => ?_, fun q hq => ?_, fun j x ej => ?_, fun i j hi hj _ => ?_, Kb.size⟩
 ·exact keep_lex Kb hi hp S' c x ec (n _ (.head _)) (n _ (.tail _ (.head _))) (fun _ => q rfl)
 ·refine Kb.fr c x ec (fun hm => ?_) q
  have hm : c ∈ [a 0, a 1, a 2, a 3, a 4, a 5] := hm
  simp only [memC, memN, or_false] at hm
  have bad : ∀ j y, (j, y) ∈ lexAt w.params K S B a p .none tt t3 → c = a j → False := fun j y hm ej => by
   have z := hp _ hm
   have z : h.get? (a j) = some y := z
   rw [← ej, ec] at z
   have := noFr j y hm
   rw [← Option.some.inj z, q] at this
   cases this
  rcases hm with q' | q' | q' | q' | q' | q'
  ·exact bad 0 _ (.head _) q'
  ·exact bad 1 _ (.tail _ (.head _)) q'
  ·exact bad 2 _ (.tail _ (.tail _ (.head _))) q'
  ·exact bad 3 _ (.tail _ (.tail _ (.tail _ (.head _)))) q'
  ·exact bad 4 _ (.tail _ (.tail _ (.tail _ (.tail _ (.head _))))) q'
  ·exact bad 5 _ (.tail _ (.tail _ (.tail _ (.tail _ (.tail _ (.head _)))))) q'
 ·have hq : q ∈ [(1, lexDict w.params K (a 2) (a 4) (a 5) .none tt'), (3, sioDict w.params S B (p : Int) t3')] := hq
  rcases List.mem_cons.mp hq with rfl | hq
  ·exact S' (1, _) (.tail _ (.head _))
  ·rcases List.mem_cons.mp hq with rfl | hq
   ·exact S' (3, _) (.tail _ (.tail _ (.tail _ (.head _))))
   ·cases hq
 ·cases j with
  | zero => cases ej; exact ⟨hex, hge⟩
  | succ j => cases ej
 ·have hi : i < 1 := hi
  have hj : j < 1 := hj
  omega
structure LexSt (N : Nat) (P : Params) (h : Heap) (L : Lx) (B : Str) (p : Nat) (ws : List Nat) (ts tt t3 : Tok) : Prop where
 S : Starts (kt0 P) h L.as (L.objs P B p (stOf ws ts) tt t3)
 hs : N < ts
 ht : N < tt
 h3 : N < t3
 R : Rest B p ws
theorem KeepB.weak {e : Bool} {h h' : Heap} {l : List Addr} (K : KeepB e h h' l) : KeepB true h h' l := ⟨fun a x q n f => K.keep a x q n (fun _ => f rfl), K.fr, K.size⟩
theorem KeepB.trans {e e' : Bool} {h h' h'' : Heap} {l : List Addr} (K : KeepB e h h' l) (K' : KeepB e' h' h'' l) : KeepB true h h'' l :=
 ⟨fun a x q n f => K'.keep a x (K.keep a x q n (fun _ => f rfl)) n (fun _ => f rfl), fun a x q n f => by
  obtain ⟨sl, z⟩ := K.fr a x q n f
  exact K'.fr a { x with slots := sl } z n f, Nat.le_trans K.size K'.size⟩
theorem FrOk.keep {A : Around} {e : Bool} {h h' : Heap} {l : List Addr} (F : FrOk A h) (K : KeepB e h h' l) (hl : ∀ a ∈ l, ∀ x, h.get? a = some x → isFr x = false) : FrOk A h' := by
 obtain ⟨es, e1, e2⟩ := F
 refine ⟨es, e1, fun env he => ?_⟩
 obtain ⟨y1, f, x, y2, y3, y4⟩ := e2 env he
 obtain ⟨sl, z⟩ := K.fr f x y3 (fun hm => by have := hl f hm x y3; rw [y4] at this; cases this) y4
 exact ⟨y1, f, _, y2, z, y4⟩
theorem Lx.noFr (L : Lx) {P : Params} {B p st tt t3} : ∀ x ∈ L.objs P B p st tt t3, isFr x = false := by
 intro x hx
 simp only [Lx.objs, memC, memN, or_false] at hx
 rcases hx with rfl | rfl | rfl | rfl | rfl | rfl
 ·rfl
 ·kernel_rfl
 ·rfl
 ·kernel_rfl
 ·kernel_rfl
 ·kernel_rfl
theorem Starts.noFr {kt : KT} {h : Heap} {as : List Addr} {xs : List Obj} (S : Starts kt h as xs) (hx : ∀ x ∈ xs, isFr x = false) : ∀ a ∈ as, ∀ x, h.get? a = some x → isFr x = false := fun a ha x e => by
 obtain ⟨j, hj, rfl⟩ := List.mem_iff_getElem.mp ha
 have hj' : j < xs.length := S.len ▸ hj
 have z := S.at_ j _ xs[j] (List.getElem?_eq_getElem hj) (List.getElem?_eq_getElem hj')
 rw [z] at e
 rw [← Option.some.inj e]
 exact hx _ (List.getElem_mem hj')
noncomputable def kSame (ut : List Nat) (x : Str) (tx : (Nat → Tok) → Tok) (y : Str) (ty : (Nat → Tok) → Tok) (v : Bool) : HK :=
 {ua := [], ut, nt := 0, nn := 0, noH := false, un := false, noting := false, tgt := fun _ t => .op (.same (.str x (tx t)) (.str y (ty t))), pre := fun _ _ => [], post := fun _ _ _ _ _ _ => [], news := fun _ _ _ _ _ _ => [], res := fun _ _ _ _ _ _ => .ok (.ret (.bool v)) }
theorem kSame_wf {ut x tx y ty v} : HKwf (kSame ut x tx y ty v) := ⟨List.nodup_nil, fun _ _ _ _ _ _ _ h => (nomatch h), fun _ _ _ _ _ _ => List.nodup_nil, fun _ _ _ h => (nomatch h), fun _ _ _ _ _ _ => rfl⟩
theorem kSame_ok {D U : Nat} {kt : KT} {w : World} {A : Around} {gp : GP} {ut x tx y ty v} (hv : (x == y) = v) : HKok D U kt w A gp (kSame ut x tx y ty v) := by
 intro a t A' R' h tok g dr os hA hh hu hno h1 ht gg hB hp ho hi K
 refine wpAny_bind (m := eqBool _ _) (PySem.SeqAt.EqAt.str_str x (tx t) y (ty t) pw w _ _ (wpAny_pure ⟨_, rfl, ?_⟩))
 rw [hv]
 exact K h tok g dr os [] [] [] rfl (fun u hu => nomatch hu) h1 (fun _ => Nat.le_refl _) rfl (fun _ => rfl) gg (After.refl rfl rfl rfl rfl)
noncomputable def found (y : Str) (ws : List Nat) : Bool := ws.any fun k => txt k == y
noncomputable def after (y : Str) : List Nat → List Nat
 | [] => []
 | k :: ws => if (txt k == y) = true then ws else after y ws
noncomputable def contC (a : Addr) (y : Str) (ty : Tok) : Code := .builtin "proto.contains_iter" ⟨[.ref a, .str y ty], []⟩
noncomputable def ks_ct (P : Params) (L : Lx) (B : Str) (p : Nat) (ts tt t3 : Tok) (x : Str) (p' : Nat) (st' : Tok → Value) (y : Str) (ty : Tok) (v : Bool) : List HK := [kNext P L.K L.S B p ts tt t3 x p' st' [0, 1, 2, 3, 4, 5], kSame [0] x (fun t => t 0) y (fun _ => ty) v]
noncomputable def ks_ctE (P : Params) (L : Lx) (B : Str) (p : Nat) (tt t3 : Tok) : List HK := [kEnd P L.K L.S B p tt t3 [0, 1, 2, 3, 4, 5]]
noncomputable def ce_ctH : List Nat := decs [73859033888876134401]
noncomputable def ce_ctM : List Nat := decs [151266917038314364361244673]
noncomputable def ce_ctE : List Nat := decs [516580891657905373185]
theorem chk_ctH (w : World) (r : Bool) (hb : Option Value) (bf cur : List Addr) (L : Lx) (B : Str) (p : Nat) (ts tt t3 : Tok) (x : Str) (p' : Nat) (st' : Tok → Value) (y : Str) (ty : Tok) (Y : Dyn) :
  Chk [0, 1, 2, 3, 4, 5] (codeR (SVz (wf w r) hb 70 0 trZ.sp false bf (boOf (L.objs w.params B p (.str (o " ") ts) tt t3)) cur (ks_ct w.params L B p ts tt t3 x p' st' y ty true)) (Y.pre L.as) 1000 ce_ctH 1000 (contC L.a y ty) (mkT (L.objs w.params B p (.str (o " ") ts) tt t3)) L.as.length)
   (.res (.ok (.ret (.bool true)))) ((L.objs w.params B p' (st' (Y.tk 1)) (Y.tk 2) (Y.tk 3)).map some) 0 4 := by
 cases r <;> kernel_rfl
theorem chk_ctM (w : World) (r : Bool) (hb : Option Value) (bf cur : List Addr) (L : Lx) (B : Str) (p : Nat) (ts tt t3 : Tok) (x : Str) (p' : Nat) (st' : Tok → Value) (y : Str) (ty : Tok) (Y : Dyn) :
  Chk [0, 1, 2, 3, 4, 5] (codeR (SVz (wf w r) hb 70 0 trZ.sp false bf (boOf (L.objs w.params B p (.str (o " ") ts) tt t3)) cur (ks_ct w.params L B p ts tt t3 x p' st' y ty false)) (Y.pre L.as) 1000 ce_ctM 1000 (contC L.a y ty) (mkT (L.objs w.params B p (.str (o " ") ts) tt t3)) L.as.length)
   (.cut (contC L.a y ty)) ((L.objs w.params B p' (st' (Y.tk 1)) (Y.tk 2) (Y.tk 3)).map some) 0 4 := by
 cases r <;> kernel_rfl
theorem chk_ctE (w : World) (r : Bool) (bf cur : List Addr) (L : Lx) (B : Str) (p : Nat) (tt t3 : Tok) (y : Str) (ty : Tok) (Y : Dyn) :
  Chk [0, 1, 2, 3, 4, 5] (codeR (SVz (wf w r) none 70 0 trZ.sp true bf (boOf (L.objs w.params B p .none tt t3)) cur (ks_ctE w.params L B p tt t3)) (Y.pre L.as) 1000 ce_ctE 1000 (contC L.a y ty) (mkT (L.objs w.params B p .none tt t3)) L.as.length)
   (.res (.ok (.ret (.bool false)))) ((L.objs w.params B p .none (Y.tk 0) (Y.tk 1)).map some) 1 2 := by
 cases r <;> kernel_rfl
theorem contains_loop {N : Nat} {w : World} {r : Bool} {A : Around} (hr : A.depth + 210 ≤ recursionLimit) (hh : A.handled = none) {g : Array GenState} {d : Drawn} {os : OsState} {L : Lx} {B : Str} (hl : B.length < 1000000) (h2 : N < L.S.t2) (y : Str) (ty : Tok) :
  ∀ (ws : List Nat) (hws : ∀ k ∈ ws, k < 6) {h : Heap} (F : FrOk A h) {tok : Nat} (h1 : N < tok) {p : Nat} {ts tt t3 : Tok} (Z : LexSt N w.params h L B p ws ts tt t3) {R : Result → Shared → Prop}
   (fin : ∀ h' t' p' ts' tt' t3', N < t' → LexSt N w.params h' L B p' (after y ws) ts' tt' t3' → KeepB true h h' L.as → R (.ok (.ret (.bool (found y ws)))) ⟨h', g, d, t', os⟩),
   codeAny (model pw (wf w r)) A (contC L.a y ty) R ⟨h, g, d, tok, os⟩
 | [], hws, h, F, tok, h1, p, ts, tt, t3, Z, R, fin => by
  have S : Starts (kt0 w.params) h L.as (L.objs w.params B p .none tt t3) := Z.S
  refine run_k (D := 70) (U := 0) (nt := true) (sp := trZ.sp) (ks := ks_ctE w.params L B p tt t3) (gp := sameG N g d os) (cur := []) nilA spZ_ok (by omega) (fun _ => F) (as := L.as) (xs := L.objs w.params B p .none tt t3) (ws := [0, 1, 2, 3, 4, 5]) (n := 1000) (ce := ce_ctE) (e := 1000) (s := 1) (i := 2)
   (res := fun Y => .res (.ok (.ret (.bool false)))) (objs := fun Y => (L.objs w.params B p .none (Y.tk 0) (Y.tk 1)).map some) ?_ ?_ S rfl h1 ⟨rfl, rfl, rfl⟩ (fun Y => by rw [hh]; exact chk_ctE w r _ [] L B p tt t3 y ty Y) ?_
  ·intro k hk
   simp only [ks_ctE, memC, memN, or_false] at hk
   rcases hk with rfl
   exact kEnd_wf (by decide) rfl
  ·intro k hk
   simp only [ks_ctE, memC, memN, or_false] at hk
   rcases hk with rfl
   exact kEnd_ok rfl rfl (by omega) hl h2 Z.ht Z.h3 Z.R.2
  ·rintro Y T m h' t' _ _ _ h1' hy ⟨rfl, rfl, rfl⟩ D e
   exact fin h' t' p ts (Y.tk 0) (Y.tk 1) h1' ⟨S.after D rfl e, Z.hs, (hy 0 (by decide)).1, (hy 1 (by decide)).1, Z.R⟩ (D.keepB (.inr rfl))
 | k :: ws, hws, h, F, tok, h1, p, ts, tt, t3, Z, R, fin => by
  have S : Starts (kt0 w.params) h L.as (L.objs w.params B p (.str (o " ") ts) tt t3) := Z.S
  have W : ∀ v, ∀ q ∈ ks_ct w.params L B p ts tt t3 (txt k) (p + stepLen k ws) (stOf ws) y ty v, HKwf q := by
   intro v q hq
   simp only [ks_ct, memC, memN, or_false] at hq
   rcases hq with rfl | rfl
   ·exact kNext_wf (by decide) rfl
   ·exact kSame_wf
  have Ok : ∀ v, (txt k == y) = v → ∀ q ∈ ks_ct w.params L B p ts tt t3 (txt k) (p + stepLen k ws) (stOf ws) y ty v, HKok 70 0 (kt0 w.params) (wf w r) A (sameG N g d os) q := by
   intro v hv q hq
   simp only [ks_ct, memC, memN, or_false] at hq
   rcases hq with rfl | rfl
   ·exact kNext_ok rfl rfl (by omega) (hws k (.head _)) hl h2 Z.hs Z.ht Z.h3 Z.R
   ·exact kSame_ok hv
  cases hv : (txt k == y) with
  | true =>
   refine run_k (D := 70) (U := 0) (nt := false) (sp := trZ.sp) (ks := ks_ct w.params L B p ts tt t3 (txt k) (p + stepLen k ws) (stOf ws) y ty true) (gp := sameG N g d os) (cur := []) nilA spZ_ok (dle ‹_›) (fun q => by cases q) (as := L.as) (xs := L.objs w.params B p (.str (o " ") ts) tt t3) (ws := [0, 1, 2, 3, 4, 5]) (n := 1000) (ce := ce_ctH) (e := 1000) (s := 0) (i := 4)
    (res := fun Y => .res (.ok (.ret (.bool true)))) (objs := fun Y => (L.objs w.params B (p + stepLen k ws) (stOf ws (Y.tk 1)) (Y.tk 2) (Y.tk 3)).map some) (W true) (Ok true hv) S rfl h1 ⟨rfl, rfl, rfl⟩ (fun Y => chk_ctH w r _ _ [] L B p ts tt t3 (txt k) _ (stOf ws) y ty Y) ?_
   rintro Y T m h' t' _ _ _ h1' hy ⟨rfl, rfl, rfl⟩ D e
   have z := fin h' t' (p + stepLen k ws) (Y.tk 1) (Y.tk 2) (Y.tk 3) h1'
   have ea : after y (k :: ws) = ws := if_pos hv
   have ef : found y (k :: ws) = true := by simp [found, hv]
   rw [ea, ef] at z
   exact z ⟨S.after D rfl e, (hy 1 (by decide)).1, (hy 2 (by decide)).1, (hy 3 (by decide)).1, Z.R.step⟩ (D.keepB (e := false) (.inl rfl)).weak
  | false =>
   refine run_k (D := 70) (U := 0) (nt := false) (sp := trZ.sp) (ks := ks_ct w.params L B p ts tt t3 (txt k) (p + stepLen k ws) (stOf ws) y ty false) (gp := sameG N g d os) (cur := []) nilA spZ_ok (dle ‹_›) (fun q => by cases q) (as := L.as) (xs := L.objs w.params B p (.str (o " ") ts) tt t3) (ws := [0, 1, 2, 3, 4, 5]) (n := 1000) (ce := ce_ctM) (e := 1000) (s := 0) (i := 4)
    (res := fun Y => .cut (contC L.a y ty)) (objs := fun Y => (L.objs w.params B (p + stepLen k ws) (stOf ws (Y.tk 1)) (Y.tk 2) (Y.tk 3)).map some) (W false) (Ok false hv) S rfl h1 ⟨rfl, rfl, rfl⟩ (fun Y => chk_ctM w r _ _ [] L B p ts tt t3 (txt k) _ (stOf ws) y ty Y) ?_
   rintro Y T m h' t' _ _ _ h1' hy ⟨rfl, rfl, rfl⟩ D e
   have Kb := D.keepB (e := false) (.inl rfl)
   have ea : after y (k :: ws) = after y ws := if_neg (by rw [hv]; decide)
   have ef : found y (k :: ws) = found y ws := by simp [found, hv]
   rw [ea, ef] at fin
   exact contains_loop hr hh hl h2 y ty ws (fun q hq => hws q (.tail _ hq)) (F.keep Kb (S.noFr L.noFr)) h1' ⟨S.after D rfl e, (hy 1 (by decide)).1, (hy 2 (by decide)).1, (hy 3 (by decide)).1, Z.R.step⟩ fun h'' t'' p'' ts'' tt'' t3'' n Z'' K'' => fin h'' t'' p'' ts'' tt'' t3'' n Z'' (Kb.trans K'')
noncomputable def pOf (B : Str) (ws : List Nat) : Nat := B.length - (line ws).length
theorem Rest.pos {B : Str} {p : Nat} {ws : List Nat} (h : Rest B p ws) : p = pOf B ws := by
 have := h.2
 unfold pOf
 omega
theorem after_mem {y : Str} : ∀ {ws : List Nat}, ∀ k ∈ after y ws, k ∈ ws
 | [], k, h => h
 | j :: ws, k, h => by
  unfold after at h
  split at h
  ·exact .tail _ h
  ·exact .tail _ (after_mem k h)
theorem Rest.here {B : Str} {p : Nat} {ws : List Nat} (h : Rest B p ws) : Rest B (pOf B ws) ws := h.pos ▸ h
theorem Rest.after {B : Str} {y : Str} : ∀ {ws : List Nat} {p : Nat}, Rest B p ws → Rest B (pOf B (after y ws)) (after y ws)
 | [], p, h => h.here
 | k :: ws, p, h => by
  unfold Mine.after
  split
  ·exact h.step.here
  ·exact Rest.after h.step
noncomputable def kLex (P : Params) (K : Nat → Tok) (S : SK) (B : Str) (p : Nat) (st : Value) (tt t3 : Tok) (p' : Nat) (st' : Tok → Value) (ua : List Nat) (c : Addr → Code) (v : Value) : HK :=
 {ua, ut := [], nt := 3, nn := 0, noH := true, un := false, noting := true, tgt := fun a _ => .code (c (a 0)), pre := fun a _ => lexAt P K S B a p st tt t3,
  post := fun a _ u _ _ _ => [(1, lexDict P K (a 2) (a 4) (a 5) (st' (u 0)) (u 1)), (3, sioDict P S B (p' : Int) (u 2))], news := fun _ _ _ _ _ _ => [], res := fun _ _ u _ _ _ => .ok (.ret v) }
theorem kLex_wf {P K S B p st tt t3 p' st' ua c v} (hn : ua.Nodup) (hl : ua.length = 6) : HKwf (kLex P K S B p st tt t3 p' st' ua c v) := by
 refine ⟨hn, fun a t u b sl pl q h => ?_, fun _ _ _ _ _ _ => by simp [kLex], fun a t q h => by show q.1 < ua.length; rw [hl]; exact lexAt_lt q h, fun _ _ _ _ _ _ => rfl⟩
 show q.1 < ua.length ∧ _
 rw [hl]
 have h : q ∈ [(1, lexDict P K (a 2) (a 4) (a 5) (st' (u 0)) (u 1)), (3, sioDict P S B (p' : Int) (u 2))] := h
 rcases List.mem_cons.mp h with rfl | h
 ·exact ⟨by show 1 < 6; decide, _, .tail _ (.head _)⟩
 ·rcases List.mem_cons.mp h with rfl | h
  ·exact ⟨by show 3 < 6; decide, _, .tail _ (.tail _ (.tail _ (.head _)))⟩
  ·cases h
theorem three_ne {gp : GP} (hup : gp.up = false) {tok a b c : Tok} (h1 : gp.n < a) (h2 : gp.n < b) (h3 : gp.n < c) : ∀ u ∈ [a, b, c], gp.tk tok u := fun u hu => by
 simp only [memC, memN, or_false] at hu
 rcases hu with rfl | rfl | rfl <;> exact GP.tk0 hup (by assumption)
theorem kLex_ok {w : World} {r : Bool} {A : Around} {D U : Nat} {gp : GP} (hup : gp.up = false) {K S B p ws ws' ts tt t3 ua c v} (hua : ua.length = 6) (hs : gp.n < ts) (ht : gp.n < tt) (h3 : gp.n < t3) (hR : Rest B p ws)
  (H : ∀ (L : Lx) (A' : Around) (R : Result → Shared → Prop) (h : Heap) (tok : Nat) (g : Array GenState) (d : Drawn) (os : OsState), L.K = K → L.S = S → A'.depth < A.depth + D → A'.handled = none → FrOk A' h → gp.n < tok → LexSt gp.n w.params h L B p ws ts tt t3 →
   (∀ h' t' p' ts' tt' t3', gp.n < t' → LexSt gp.n w.params h' L B p' ws' ts' tt' t3' → KeepB true h h' L.as → R (.ok (.ret v)) ⟨h', g, d, t', os⟩) → codeAny (model pw (wf w r)) A' (c L.a) R ⟨h, g, d, tok, os⟩) :
  HKok D U (kt0 w.params) (wf w r) A gp (kLex w.params K S B p (stOf ws ts) tt t3 (pOf B ws') (stOf ws') ua c v) := by
 intro a t A' R' h tok g dr os hA hh hu hno h1 _ gg hB hp ho hi C
 have hi : ∀ x y, x < 6 → y < 6 → a x = a y → x = y := fun x y hx hy => hi x y (hua ▸ hx) (hua ▸ hy)
 have Z := lexAt_starts (K := K) (S := S) hp hi hB fun x hx => ho x (hua ▸ hx)
 refine H (lexOf K S a) A' R' h tok g dr os rfl rfl hA (hh rfl) (hno rfl).1 h1 ⟨Z, hs, ht, h3, hR⟩ fun h' t' p' ts' tt' t3' n Z' Kb => ?_
 have hp' := Z'.R.pos
 have S' := lexAt_of Z'.S
 subst hp'
 refine C h' t' g dr os [ts', tt', t3'] [] [] rfl (three_ne hup Z'.hs Z'.ht Z'.h3) n (GP.le0 hup) rfl (fun _ => rfl) gg ⟨fun c' x ec n q => ?_, fun _ c' x ec n q => ?_, fun q hq => ?_, (fun j x e => by cases e), fun i j hi => absurd hi (Nat.not_lt_zero _), Kb.size⟩
 ·exact keep_lex Kb hi hp S' c' x ec (n _ (.head _)) (n _ (.tail _ (.head _))) (fun _ => q rfl)
 ·exact Kb.fr c' x ec (fun hm => by
   have := Z.noFr (Lx.noFr _) c' hm x ec
   rw [q] at this
   cases this) q
 ·have hq : q ∈ [(1, lexDict w.params K (a 2) (a 4) (a 5) (stOf ws' ts') tt'), (3, sioDict w.params S B ((pOf B ws' : Nat) : Int) t3')] := hq
  rcases List.mem_cons.mp hq with rfl | hq
  ·exact S' (1, _) (.tail _ (.head _))
  ·rcases List.mem_cons.mp hq with rfl | hq
   ·exact S' (3, _) (.tail _ (.tail _ (.tail _ (.head _))))
   ·cases hq
noncomputable def containsC (a : Addr) (y : Str) (ty : Tok) : Code := .call (.ref 51) ⟨[.ref a, .str y ty], []⟩
noncomputable def ce_cf : List Nat := decs [46768052394591551838509484630299352730642208012295, 11193928752620856323046749082087503870033920, 29364224]
noncomputable def ks_cf (P : Params) (L : Lx) (B : Str) (p : Nat) (st : Value) (tt t3 : Tok) (p' : Nat) (st' : Tok → Value) (y : Str) (ty : Tok) (v : Bool) : List HK := [kLex P L.K L.S B p st tt t3 p' st' [0, 1, 2, 3, 4, 5] (fun a => contC a y ty) (.bool v)]
theorem chk_cf (w : World) (r : Bool) (bf cur : List Addr) (L : Lx) (B : Str) (p : Nat) (st : Value) (tt t3 : Tok) (p' : Nat) (st' : Tok → Value) (y : Str) (ty : Tok) (v : Bool) (Y : Dyn) :
  Chk [0, 1, 2, 3, 4, 5] (codeR (SVz (wf w r) none 70 0 trZ.sp true bf (boOf (L.objs w.params B p st tt t3)) cur (ks_cf w.params L B p st tt t3 p' st' y ty v)) (Y.pre L.as) 2000 ce_cf 1 (containsC L.a y ty) (mkT (L.objs w.params B p st tt t3)) L.as.length)
   (.res (.ok (.ret (.bool v)))) ((L.objs w.params B p' (st' (Y.tk 3)) (Y.tk 4) (Y.tk 5)).map some) 1 6 := by
 cases r <;> kernel_rfl
theorem contains_ok {N : Nat} {w : World} {r : Bool} {A : Around} (hr : A.depth + 350 ≤ recursionLimit) (hh : A.handled = none) {g : Array GenState} {d : Drawn} {os : OsState} {L : Lx} {B : Str} (hl : B.length < 1000000) (h2 : N < L.S.t2) (y : Str) (ty : Tok)
  (ws : List Nat) (hws : ∀ k ∈ ws, k < 6) {h : Heap} (F : FrOk A h) {tok : Nat} (h1 : N < tok) {p : Nat} {ts tt t3 : Tok} (Z : LexSt N w.params h L B p ws ts tt t3) {R : Result → Shared → Prop}
  (fin : ∀ h' t' p' ts' tt' t3', N < t' → LexSt N w.params h' L B p' (after y ws) ts' tt' t3' → KeepB true h h' L.as → R (.ok (.ret (.bool (found y ws)))) ⟨h', g, d, t', os⟩) :
  codeAny (model pw (wf w r)) A (containsC L.a y ty) R ⟨h, g, d, tok, os⟩ := by
 refine run_k (D := 70) (U := 0) (nt := true) (sp := trZ.sp) (ks := ks_cf w.params L B p (stOf ws ts) tt t3 (pOf B (after y ws)) (stOf (after y ws)) y ty (found y ws)) (gp := sameG N g d os) (cur := []) nilA spZ_ok (by omega) (fun _ => F) (as := L.as) (xs := L.objs w.params B p (stOf ws ts) tt t3) (ws := [0, 1, 2, 3, 4, 5]) (n := 2000) (ce := ce_cf) (e := 1) (s := 1) (i := 6)
  (res := fun Y => .res (.ok (.ret (.bool (found y ws))))) (objs := fun Y => (L.objs w.params B (pOf B (after y ws)) (stOf (after y ws) (Y.tk 3)) (Y.tk 4) (Y.tk 5)).map some) ?_ ?_ Z.S rfl h1 ⟨rfl, rfl, rfl⟩ (fun Y => by rw [hh]; exact chk_cf w r _ [] L B p _ tt t3 _ _ y ty _ Y) ?_
 ·intro k hk
  simp only [ks_cf, memC, memN, or_false] at hk
  rcases hk with rfl
  exact kLex_wf (by decide) rfl
 ·intro k hk
  simp only [ks_cf, memC, memN, or_false] at hk
  rcases hk with rfl
  refine kLex_ok rfl rfl Z.hs Z.ht Z.h3 Z.R fun L' A' R' h' tok' g' d' os' e1 e2 hA hh' F' h1' Z' fin' => ?_
  exact contains_loop (by omega) hh' hl (e2 ▸ h2) y ty ws hws F' h1' Z' fin'
 ·rintro Y T m h' t' _ _ _ h1' hy ⟨rfl, rfl, rfl⟩ D e
  exact fin h' t' _ (Y.tk 3) (Y.tk 4) (Y.tk 5) h1' ⟨Z.S.after D rfl e, (hy 3 (by decide)).1, (hy 4 (by decide)).1, (hy 5 (by decide)).1, Z.R.after⟩ (D.keepB (.inr rfl))
theorem wpAny_isSame_ne {M : Model} {A : Around} {E : Value → Shared → Prop} {s : Shared} {y z : Str} {u v : Tok} {Q : Bool → Shared → Prop}
  (h0 : u ≠ 0) (h1 : v ≠ 0) (hne : u ≠ v) (hb : NoneBooked s.heap) (ht : (y == z) = true → Q true s) (hf : Q false s) : wpAny M A (isSame (.str y u) (.str z v)) Q E s := by
 cases e : (y == z) with
 | true => exact wpAny_isSame_str (by simp [h0, h1]) hb fun b => match b with
  | true => ht e
  | false => hf
 | false =>
  show wpAny M A (isSame.created (y == z) u v) Q E s
  rw [e]
  unfold isSame.created
  refine wpAny_ite ?_
  rw [if_neg (by simp [h0, h1])]
  refine wpAny_ite ?_
  rw [if_neg (by simp [hne])]
  exact wpAny_pure hf
theorem wpAny_is_or_eq {w : World} {A : Around} {E : Value → Shared → Prop} {s : Shared} {env : Env} {l r : Str} {p1 p2 p3 p4 p5 p6 p7 : Pos} {m : Str → Option Value} {x y : Str} {tx ty : Tok} {whole : Sem Value} {Q : Bool → Shared → Prop}
  (hk : env.scope.kind = .function) (hl : env.kindOf l = some .local) (hr : env.kindOf r = some .local) (dl : (l == ("__debug__" : Str)) = false) (dr : (r == ("__debug__" : Str)) = false)
  (hn : s.heap.Ns env.locals m) (ml : m l = some (.str x tx)) (mr : m r = some (.str y ty)) (h0 : tx ≠ 0) (h1 : ty ≠ 0) (hne : tx ≠ ty) (hb : NoneBooked s.heap) (h : Q (x == y) s) :
  wpAny (model pw w) A (isTrue (.BoolOp .Or [.Compare (.Name l p1) [.Is] [.Name r p2] p3, .Compare (.Name l p4) [.Eq] [.Name r p5] p6] p7) env whole) Q E s := by
 refine wpAny_isTrue_BoolOp (wpAny_allTrue_Or_cons (wpAny_isTrue_Compare1 (wpAny_Name (wpAny_loadName_local hk hl hn ml (wpAny_Name (wpAny_loadName_local hk hr hn mr ?_) dr)) dl)))
 have eq : wpAny (model pw w) A (allTrue .Or [.Compare (.Name l p4) [.Eq] [.Name r p5] p6] env) Q E s := by
  refine wpAny_allTrue_Or_cons (wpAny_isTrue_Compare1 (wpAny_Name (wpAny_loadName_local hk hl hn ml (wpAny_Name (wpAny_loadName_local hk hr hn mr (P.eq_str (wpAny_truthy_bool ?_))) dr)) dl))
  have e : (x.cps.toList == y.cps.toList) = (x == y) := by
   cases x; cases y
   rename_i a b
   show (a.toList == b.toList) = decide _
   rw [Bool.eq_iff_iff]
   simp
  rw [e]
  cases q : (x == y) with
  | true => rw [q] at h; exact h
  | false => rw [q] at h; exact wpAny_allTrue_Or_nil h
 show wpAny (model pw w) A (do return Value.bool (← isSame (.str x tx) (.str y ty))) _ E s
 refine wpAny_bind (wpAny_isSame_ne h0 h1 hne hb (fun e => wpAny_pure (wpAny_truthy_bool ?_)) (wpAny_pure (wpAny_truthy_bool ?_)))
 ·rw [e] at h; exact h
 ·exact eq
theorem booked0 (P : Params) (h : Heap) (B : ∀ b x, (kt0 P).get b = some x → h.get? b = some x) : NoneBooked h := by
 refine ⟨nsFind (es2 P), ⟨o2 P, es2 P, _, B _ _ (kt0_2 P), rfl, es2_keys P, fun _ => rfl⟩, by kernel_rfl⟩
noncomputable def exL : Expr → List Expr
 | .BoolOp _ v _ => v
 | .Compare l _ c _ => l :: c
 | .Call f a _ _ => f :: a
 | .Attribute v _ _ => [v]
 | .GeneratorExp e g _ _ => e :: g.flatMap fun c => [c.target, c.iter]
 | _ => []
noncomputable def exP : Expr → Pos
 | .BoolOp _ _ p => p
 | .Compare _ _ _ p => p
 | .Call _ _ _ p => p
 | .Attribute _ _ p => p
 | .GeneratorExp _ _ _ p => p
 | .Name _ p => p
 | .Constant _ _ p => p
 | _ => default
noncomputable def exN : Expr → Nat
 | .Constant _ k _ => k
 | _ => 0
noncomputable def sub1 (e : Expr) : List Nat → Expr
 | [] => e
 | i :: r => sub1 ((exL e).getD i default) r
noncomputable def ps1 (e : Expr) (l : List Nat) : Pos := exP (sub1 e l)
noncomputable def IsOr (e : Expr) (l r : Str) : Prop := ∃ p1 p2 p3 p4 p5 p6 p7, e = .BoolOp .Or [.Compare (.Name l p1) [.Is] [.Name r p2] p3, .Compare (.Name l p4) [.Eq] [.Name r p5] p6] p7
noncomputable def orR (e : Expr) (l r : Str) : Expr := .BoolOp .Or [.Compare (.Name l (ps1 e [0, 0])) [.Is] [.Name r (ps1 e [0, 1])] (ps1 e [0]), .Compare (.Name l (ps1 e [1, 0])) [.Eq] [.Name r (ps1 e [1, 1])] (ps1 e [1])] (ps1 e [])
theorem isOr_of {e : Expr} {l r : Str} (h : e = orR e l r) : IsOr e l r := ⟨_, _, _, _, _, _, _, h⟩
noncomputable def kTest (ua ut : List Nat) (tst : Expr) (env : Addr → Env) (fr : (Nat → Addr) → (Nat → Tok) → Obj) (v : Bool) : HK :=
 {ua, ut, nt := 0, nn := 0, noH := false, un := false, noting := false, tgt := fun a _ => .op (.test tst (env (a 0))), pre := fun a t => [(0, fr a t)], post := fun _ _ _ _ _ _ => [], news := fun _ _ _ _ _ _ => [], res := fun _ _ _ _ _ _ => .ok (.ret (.bool v)) }
theorem kTest_wf {ua ut tst env fr v} (hn : ua.Nodup) (hl : 0 < ua.length) : HKwf (kTest ua ut tst env fr v) :=
 ⟨hn, fun _ _ _ _ _ _ _ h => (nomatch h), fun _ _ _ _ _ _ => List.nodup_nil, fun a t q h => (by
  cases h with
  | head => exact hl
  | tail _ h => cases h), fun _ _ _ _ _ _ => rfl⟩
noncomputable def entsOf (x : Obj) : Array DictEntry := match x.data with | .dict es _ => es | _ => #[]
noncomputable def strKeysB (es : Array DictEntry) : Bool := es.all fun e => match e.key with | .str .. => true | _ => false
theorem strKeysB_ok {es : Array DictEntry} (h : strKeysB es = true) : StrKeys es := by
 intro e he
 have z := Array.all_eq_true_iff_forall_mem.mp h e he
 revert z
 cases e.key <;> simp
theorem kTest_ok {D U : Nat} {w : World} {r : Bool} {A : Around} {gp : GP} {ua ut tst env fr v} {l m : Str} {x y : Str} {tx : (Nat → Addr) → (Nat → Tok) → Tok} {ty : Tok} (ho : IsOr tst l m) (hv : (x == y) = v)
  (hk : ∀ a, (env a).scope.kind = .function) (hl : ∀ a, (env a).kindOf l = some .local) (hm : ∀ a, (env a).kindOf m = some .local) (dl : (l == ("__debug__" : Str)) = false) (dm : (m == ("__debug__" : Str)) = false) (hloc : ∀ a, (env a).locals = a)
  (hd : ∀ a t, ∃ es ep, (fr a t).data = .dict es ep ∧ strKeysB es = true ∧ nsFind es l = some (.str x (tx a t)) ∧ nsFind es m = some (.str y ty))
  (htx : ∀ a t, (∀ q, q < ut.length → gp.n < t q) → gp.n < tx a t) (h1 : ty ≠ 0) (h2 : ty ≤ gp.n) : HKok D U (kt0 w.params) (wf w r) A gp (kTest ua ut tst env fr v) := by
 intro a t A' R' h tok g dr os hA hh hu hno hc ht gg hB hp hof hi K
 have p0 := hp (0, fr a t) (.head _)
 obtain ⟨es, ep, d1, d2, d3, d4⟩ := hd a t
 obtain ⟨p1, p2, p3, p4, p5, p6, p7, rfl⟩ := ho
 have hx := htx a t fun q hq => (ht q hq).1
 refine wpAny_bind (wpAny_is_or_eq (s := ⟨h, g, dr, tok, os⟩) (m := nsFind es) (hk _) (hl _) (hm _) dl dm ⟨fr a t, es, ep, by rw [hloc]; exact p0, d1, strKeysB_ok d2, fun _ => rfl⟩ d3 d4 (Nat.ne_of_gt (Nat.lt_of_le_of_lt (Nat.zero_le _) hx)) h1 (Nat.ne_of_gt (Nat.lt_of_le_of_lt h2 hx)) (booked0 w.params h hB) (wpAny_pure ⟨_, rfl, ?_⟩))
 rw [hv]
 exact K h tok g dr os [] [] [] rfl (fun u hu => nomatch hu) hc (fun _ => Nat.le_refl _) rfl (fun _ => rfl) gg (After.refl rfl rfl rfl rfl)
noncomputable def kOwned (ut : List Nat) (target : Expr) (it : Value) (v : (Nat → Tok) → Value) : HK :=
 {ua := [], ut, nt := 0, nn := 0, noH := false, un := false, noting := false, tgt := fun _ t => .op (.owned target it (v t)), pre := fun _ _ => [], post := fun _ _ _ _ _ _ => [], news := fun _ _ _ _ _ _ => [], res := fun _ _ _ _ _ _ => .ok .next }
theorem kOwned_wf {ut target it v} : HKwf (kOwned ut target it v) := ⟨List.nodup_nil, fun _ _ _ _ _ _ _ h => (nomatch h), fun _ _ _ _ _ _ => List.nodup_nil, fun _ _ _ h => (nomatch h), fun _ _ _ _ _ _ => rfl⟩
noncomputable def nameP : Expr → Str × Pos
 | .Name n p => (n, p)
 | _ => (o "", default)
noncomputable def IsName (e : Expr) : Prop := ∃ n p, e = .Name n p
theorem isName_of {e : Expr} (h : e = .Name (nameP e).1 (nameP e).2) : IsName e := ⟨_, _, h⟩
theorem own_name {target : Expr} {it v : Value} (hn : IsName target) : letOwnedTupleGo target it v = pure () := by
 obtain ⟨n, p, rfl⟩ := hn
 rfl
theorem kOwned_ok {D U : Nat} {kt : KT} {w : World} {A : Around} {gp : GP} {ut target it v} (hn : IsName target) : HKok D U kt w A gp (kOwned ut target it v) := by
 intro a t A' R' h tok g d os hA hh hu hno h1 ht gg hB hp ho hi K
 have e : letOwnedTupleGo target it (v t) = pure () := own_name hn
 refine wpAny_bind (m := letOwnedTupleGo target it (v t)) ?_
 rw [e]
 exact wpAny_pure (wpAny_pure ⟨_, rfl, K h tok g d os [] [] [] rfl (fun u hu => nomatch hu) h1 (fun _ => Nat.le_refl _) rfl (fun _ => rfl) gg (After.refl rfl rfl rfl rfl)⟩)
noncomputable def stmtsOf (x : Obj) : List Stmt := match x.data with
 | .func fd => (match fd.body with
  | .stmts b => b
  | _ => [])
 | _ => []
noncomputable def forOf : List Stmt → Option (Expr × List Stmt × List Stmt)
 | [] => none
 | s :: l => match s with
  | .For t _ b e _ => some (t, b, e)
  | _ => forOf l
noncomputable def forCode (x : Obj) (n : Addr) (it : Value) (a : Addr) : Code := match forOf (stmtsOf x) with
 | some (t, b, e) => .forLoop t it b e (envFn x n a)
 | none => .builtin "" ⟨[], []⟩
noncomputable def forTarget (x : Obj) : Expr := match forOf (stmtsOf x) with
 | some (t, _, _) => t
 | none => default
noncomputable def ifOf : List Stmt → Expr
 | [.If t _ _ _] => t
 | _ => default
noncomputable def forTest (x : Obj) : Expr := match forOf (stmtsOf x) with
 | some (_, b, _) => ifOf b
 | none => default
noncomputable def hashZ (P : Params) (s : Str) : Int := condFn Int s.cps.isEmpty 0 (PySem.W.ZFast.zw12210062019545310541 (P.strHash s.cps))
noncomputable def eh (hh : Nat → Int) (k : Nat → Tok) (j : Nat) (n : String) (v : Value) : DictEntry := ⟨hh j, .str (o n) (k j), v⟩
noncomputable def put {α : Type} (f : Nat → α) (j : Nat) (v : α) : Nat → α := fun i => match Nat.beq i j with | true => v | false => f i
noncomputable def cntFr (La : Addr) (hh : Nat → Int) (k : Nat → Tok) (y : Str) (ty : Tok) (c : Int) (kc : Tok) (i : Option (Str × Tok)) (sl : Array (Option Value)) : Obj := match i with
 | none => ⟨.type "frame", none, .dict (Array.mk [eh hh k 0 "a" (.ref La), eh hh k 1 "b" (.str y ty), eh hh k 2 "count" (.int c kc)]) 3, sl⟩
 | some (x, tx) => ⟨.type "frame", none, .dict (Array.mk [eh hh k 0 "a" (.ref La), eh hh k 1 "b" (.str y ty), eh hh k 2 "count" (.int c kc), eh hh k 3 "i" (.str x tx)]) 4, sl⟩
noncomputable def cntC (P : Params) (La f : Addr) : Code := forCode (o58 P) 58 (.ref La) f
noncomputable def cntEnv (P : Params) (f : Addr) : Env := envFn (o58 P) 58 f
noncomputable def ks_cn (P : Params) (L : Lx) (B : Str) (p : Nat) (ts tt t3 : Tok) (x : Str) (p' : Nat) (st' : Tok → Value) (ut : List Nat) (fr : (Nat → Addr) → (Nat → Tok) → Obj) (v : Bool) : List HK :=
 [kNext P L.K L.S B p ts tt t3 x p' st' [0, 1, 2, 3, 4, 5], kOwned [0] (forTarget (o58 P)) (.ref L.a) (fun t => .str x (t 0)), kTest [6] ut (forTest (o58 P)) (cntEnv P) fr v]
noncomputable def ks_cnE (P : Params) (L : Lx) (B : Str) (p : Nat) (tt t3 : Tok) : List HK := [kEnd P L.K L.S B p tt t3 [0, 1, 2, 3, 4, 5]]
noncomputable def ce_cnH : List Nat := decs [46814980376777673547352081405460699263285407111970817]
noncomputable def ce_cnM : List Nat := decs [1299373558666393794969770373568004097]
noncomputable def ce_cnE : List Nat := decs [151116317819696599581851649]
noncomputable abbrev cxs (P : Params) (L : Lx) (B : Str) (p : Nat) (st : Value) (tt t3 : Tok) (fo : Obj) : List Obj := L.objs P B p st tt t3 ++ [fo]
theorem chk_cnH0 (w : World) (r : Bool) (hb : Option Value) (bf cur : List Addr) (L : Lx) (B : Str) (p : Nat) (ts tt t3 : Tok) (x : Str) (p' : Nat) (st' : Tok → Value) (y : Str) (ty : Tok) (f : Addr) (hh : Nat → Int) (k : Nat → Tok) (c : Int) (kc : Tok) (sl : Array (Option Value)) (Y : Dyn) :
  Chk [0, 1, 2, 3, 4, 5, 6] (codeR (SVz (wf w r) hb 70 0 trZ.sp false bf (boOf (cxs w.params L B p (.str (o " ") ts) tt t3 (cntFr L.a hh k y ty c kc none sl))) cur (ks_cn w.params L B p ts tt t3 x p' st' [0, 4] (fun _ t => cntFr L.a (put hh 3 (hashZ w.params (o "i"))) (put k 3 (t 1)) y ty c kc (some (x, t 0)) sl) true)) (Y.pre (L.as ++ [f])) 1000 ce_cnH 1000 (cntC w.params L.a f) (mkT (cxs w.params L B p (.str (o " ") ts) tt t3 (cntFr L.a hh k y ty c kc none sl))) 7)
   (.cut (cntC w.params L.a f)) ((cxs w.params L B p' (st' (Y.tk 1)) (Y.tk 2) (Y.tk 3) (cntFr L.a (put hh 3 (hashZ w.params (o "i"))) (put k 3 (Y.tk 4)) y ty (c + 1) (Y.tk 6) (some (x, Y.tk 0)) sl)).map some) 0 8 := by
 cases r <;> kernel_rfl
theorem chk_cnH1 (w : World) (r : Bool) (hb : Option Value) (bf cur : List Addr) (L : Lx) (B : Str) (p : Nat) (ts tt t3 : Tok) (x : Str) (p' : Nat) (st' : Tok → Value) (y : Str) (ty : Tok) (f : Addr) (hh : Nat → Int) (k : Nat → Tok) (c : Int) (kc : Tok) (x0 : Str) (t0 : Tok) (sl : Array (Option Value)) (Y : Dyn) :
  Chk [0, 1, 2, 3, 4, 5, 6] (codeR (SVz (wf w r) hb 70 0 trZ.sp false bf (boOf (cxs w.params L B p (.str (o " ") ts) tt t3 (cntFr L.a hh k y ty c kc (some (x0, t0)) sl))) cur (ks_cn w.params L B p ts tt t3 x p' st' [0] (fun _ t => cntFr L.a hh k y ty c kc (some (x, t 0)) sl) true)) (Y.pre (L.as ++ [f])) 1000 ce_cnH 1000 (cntC w.params L.a f) (mkT (cxs w.params L B p (.str (o " ") ts) tt t3 (cntFr L.a hh k y ty c kc (some (x0, t0)) sl))) 7)
   (.cut (cntC w.params L.a f)) ((cxs w.params L B p' (st' (Y.tk 1)) (Y.tk 2) (Y.tk 3) (cntFr L.a hh k y ty (c + 1) (Y.tk 6) (some (x, Y.tk 0)) sl)).map some) 0 8 := by
 cases r <;> kernel_rfl
theorem chk_cnM0 (w : World) (r : Bool) (hb : Option Value) (bf cur : List Addr) (L : Lx) (B : Str) (p : Nat) (ts tt t3 : Tok) (x : Str) (p' : Nat) (st' : Tok → Value) (y : Str) (ty : Tok) (f : Addr) (hh : Nat → Int) (k : Nat → Tok) (c : Int) (kc : Tok) (sl : Array (Option Value)) (Y : Dyn) :
  Chk [0, 1, 2, 3, 4, 5, 6] (codeR (SVz (wf w r) hb 70 0 trZ.sp false bf (boOf (cxs w.params L B p (.str (o " ") ts) tt t3 (cntFr L.a hh k y ty c kc none sl))) cur (ks_cn w.params L B p ts tt t3 x p' st' [0, 4] (fun _ t => cntFr L.a (put hh 3 (hashZ w.params (o "i"))) (put k 3 (t 1)) y ty c kc (some (x, t 0)) sl) false)) (Y.pre (L.as ++ [f])) 1000 ce_cnM 1000 (cntC w.params L.a f) (mkT (cxs w.params L B p (.str (o " ") ts) tt t3 (cntFr L.a hh k y ty c kc none sl))) 7)
   (.cut (cntC w.params L.a f)) ((cxs w.params L B p' (st' (Y.tk 1)) (Y.tk 2) (Y.tk 3) (cntFr L.a (put hh 3 (hashZ w.params (o "i"))) (put k 3 (Y.tk 4)) y ty c kc (some (x, Y.tk 0)) sl)).map some) 0 5 := by
 cases r <;> kernel_rfl
theorem chk_cnM1 (w : World) (r : Bool) (hb : Option Value) (bf cur : List Addr) (L : Lx) (B : Str) (p : Nat) (ts tt t3 : Tok) (x : Str) (p' : Nat) (st' : Tok → Value) (y : Str) (ty : Tok) (f : Addr) (hh : Nat → Int) (k : Nat → Tok) (c : Int) (kc : Tok) (x0 : Str) (t0 : Tok) (sl : Array (Option Value)) (Y : Dyn) :
  Chk [0, 1, 2, 3, 4, 5, 6] (codeR (SVz (wf w r) hb 70 0 trZ.sp false bf (boOf (cxs w.params L B p (.str (o " ") ts) tt t3 (cntFr L.a hh k y ty c kc (some (x0, t0)) sl))) cur (ks_cn w.params L B p ts tt t3 x p' st' [0] (fun _ t => cntFr L.a hh k y ty c kc (some (x, t 0)) sl) false)) (Y.pre (L.as ++ [f])) 1000 ce_cnM 1000 (cntC w.params L.a f) (mkT (cxs w.params L B p (.str (o " ") ts) tt t3 (cntFr L.a hh k y ty c kc (some (x0, t0)) sl))) 7)
   (.cut (cntC w.params L.a f)) ((cxs w.params L B p' (st' (Y.tk 1)) (Y.tk 2) (Y.tk 3) (cntFr L.a hh k y ty c kc (some (x, Y.tk 0)) sl)).map some) 0 5 := by
 cases r <;> kernel_rfl
theorem chk_cnE0 (w : World) (r : Bool) (bf cur : List Addr) (L : Lx) (B : Str) (p : Nat) (tt t3 : Tok) (y : Str) (ty : Tok) (f : Addr) (hh : Nat → Int) (k : Nat → Tok) (c : Int) (kc : Tok) (sl : Array (Option Value)) (Y : Dyn) :
  Chk [0, 1, 2, 3, 4, 5, 6] (codeR (SVz (wf w r) none 70 0 trZ.sp true bf (boOf (cxs w.params L B p .none tt t3 (cntFr L.a hh k y ty c kc none sl))) cur (ks_cnE w.params L B p tt t3)) (Y.pre (L.as ++ [f])) 1000 ce_cnE 1000 (cntC w.params L.a f) (mkT (cxs w.params L B p .none tt t3 (cntFr L.a hh k y ty c kc none sl))) 7)
   (.res (.ok .next)) ((cxs w.params L B p .none (Y.tk 0) (Y.tk 1) (cntFr L.a hh k y ty c kc none (Y.sl 0 6))).map some) 1 2 := by
 cases r <;> kernel_rfl
theorem chk_cnE1 (w : World) (r : Bool) (bf cur : List Addr) (L : Lx) (B : Str) (p : Nat) (tt t3 : Tok) (y : Str) (ty : Tok) (f : Addr) (hh : Nat → Int) (k : Nat → Tok) (c : Int) (kc : Tok) (x0 : Str) (t0 : Tok) (sl : Array (Option Value)) (Y : Dyn) :
  Chk [0, 1, 2, 3, 4, 5, 6] (codeR (SVz (wf w r) none 70 0 trZ.sp true bf (boOf (cxs w.params L B p .none tt t3 (cntFr L.a hh k y ty c kc (some (x0, t0)) sl))) cur (ks_cnE w.params L B p tt t3)) (Y.pre (L.as ++ [f])) 1000 ce_cnE 1000 (cntC w.params L.a f) (mkT (cxs w.params L B p .none tt t3 (cntFr L.a hh k y ty c kc (some (x0, t0)) sl))) 7)
   (.res (.ok .next)) ((cxs w.params L B p .none (Y.tk 0) (Y.tk 1) (cntFr L.a hh k y ty c kc (some (x0, t0)) (Y.sl 0 6))).map some) 1 2 := by
 cases r <;> kernel_rfl
structure HQ where
 up : List Nat
 k : (Nat → List Value) → HK
noncomputable def HK.q (k : HK) : HQ := ⟨[], fun _ => k⟩
noncomputable def hqHook (m i s : Nat) (Y : Dyn) (h : HQ) : Hook := match h.up.all (fun x => Nat.blt x s) with
 | true => hkHook m i s Y (h.k (atA h.up Y.pl []))
 | false => badHook m
noncomputable def hqY (hs : List HQ) (m i s : Nat) (Y : Dyn) : List Hook := hs.map (hqHook m i s Y)
section
variable {V : SV} {w : World} {A : Around} {h₀ : Heap} {m₀ : Nat} {gp : GP}
theorem nth_one {α : Type} (x : α) : nth [x] 0 = some x := rfl
theorem hqs_ok {hs : List HQ} (e : V.hooks = hqY hs) (hW : ∀ h ∈ hs, ∀ q, HKwf (h.k q)) (ktf : ∀ b x, V.kt.get b = some x → isFr x = false) (ho : ∀ h ∈ hs, ∀ q, HKok V.D V.U V.kt w A gp (h.k q)) : HooksOk V w A h₀ m₀ gp where
 loc := fun x m i s Y Y' H hn ha ht hs' => by
  rw [e] at hn ⊢
  obtain ⟨h, hk, hx, rfl⟩ := nth_map _ hs x H hn
  show nth (hs.map (hqHook m i s Y')) x = _
  rw [nth_of_map _ _ _ _ hx]
  cases hf : h.up.all (fun x => Nat.blt x s) with
  | false => simp only [hqHook, hf]
  | true =>
   have hh : hqHook m i s Y h = hkHook m i s Y (h.k (atA h.up Y.pl [])) := by simp only [hqHook, hf]
   rw [hh] at ha ht hs'
   have hle : ∀ a, a < s → a < s1 (hkHook m i s Y (h.k (atA h.up Y.pl []))).noting s := fun a ha' => by
    cases (hkHook m i s Y (h.k (atA h.up Y.pl []))).noting
    ·exact ha'
    ·exact Nat.lt_succ_of_lt ha'
   have ep : atA h.up Y'.pl [] = atA h.up Y.pl [] := atA_congr hf fun a h => (hs' a (hle a h)).2
   have hh' : hqHook m i s Y' h = hkHook m i s Y' (h.k (atA h.up Y.pl [])) := by simp only [hqHook, hf, ep]
   rw [hh, hh']
   have Z := hks_ok (V := { V with hooks := hksY [h.k (atA h.up Y.pl [])] }) (w := w) (A := A) (h₀ := h₀) (m₀ := m₀) (gp := gp) rfl (fun k hk' => by
    rw [List.mem_singleton] at hk'
    subst hk'
    exact hW h hk _) ktf (fun k hk' => by
    rw [List.mem_singleton] at hk'
    subst hk'
    exact ho h hk _)
   have z := Z.loc 0 m i s Y Y' _ (nth_one _) ha ht hs'
   exact z
 ok := fun x Y H T m i j s h tok g d os A' R' hn hd hh hu hno h1 hy gg D hp ins kk => by
  rw [e] at hn
  obtain ⟨hq, hk, hx, rfl⟩ := nth_map _ hs x H hn
  cases hf : hq.up.all (fun x => Nat.blt x s) with
  | false =>
   have e2 : hqHook m i s Y hq = badHook m := by simp only [hqHook, hf]
   rw [e2] at hp
   have := asks_all hp (m, default) (.head _)
   exact absurd (D.own m _ this).1 (Nat.lt_irrefl _)
  | true =>
   have hh2 : ∀ Y', Agree Y Y' m i j s → hqHook m i s Y' hq = hkHook m i s Y' (hq.k (atA hq.up Y.pl [])) := fun Y' ag => by
    have ep : atA hq.up Y'.pl [] = atA hq.up Y.pl [] := atA_congr hf fun a h => ag.pl a h
    simp only [hqHook, hf, ep]
   have Z := hks_ok (V := { V with hooks := hksY [hq.k (atA hq.up Y.pl [])] }) (w := w) (A := A) (h₀ := h₀) (m₀ := m₀) (gp := gp) rfl (fun k hk' => by
    rw [List.mem_singleton] at hk'
    subst hk'
    exact hW hq hk _) ktf (fun k hk' => by
    rw [List.mem_singleton] at hk'
    subst hk'
    exact ho hq hk _)
   have eh := hh2 Y (.refl ..)
   rw [eh] at hh hu hno hp ins kk ⊢
   have conv : ∀ Y' H', Agree Y Y' m i j s → nth (hksY [hq.k (atA hq.up Y.pl [])] m i s Y') 0 = some H' → nth (V.hooks m i s Y') x = some H' := fun Y' H' ag q => by
    rw [e]
    show nth (hs.map (hqHook m i s Y')) x = _
    rw [nth_of_map _ _ _ _ hx, hh2 Y' ag]
    exact q
   exact Z.ok 0 Y _ T m i j s h tok g d os A' R' (nth_one _) hd hh hu hno h1 hy gg D hp (fun Y' H' ag q => ins Y' H' ag (conv Y' H' ag q)) (fun Y' h' tok' g' d' os' H' r ag q => kk Y' h' tok' g' d' os' H' r ag (conv Y' H' ag q))
end
noncomputable def SVq (w : World) (hb : Option Value) (D U : Nat) (sp : Code → SP) (nt : Bool) (bf : List Addr) (bo : List Nat) (cur : List Addr) (hooks : List HQ) : SV :=
 {den := denZ, sp := sp, entry := entryZ, wt := PySem.W.ZFast.zw1243936422450756474, quiet := PySem.W.ZFast.zw17772548960776305114, setting := ⟨pw, w.params⟩, kt := kt0 w.params, hb, D, U, nt, bf, bo, cur, hooks := hqY hooks }
theorem run_q {w : World} {A : Around} {D U : Nat} {nt : Bool} {ks : List HQ} {gp : GP} {sp : Code → SP} {cur : List Addr} (hcur : ∀ f ∈ cur, InFr A f) (hsp : SPok sp) (hD : A.depth + D ≤ recursionLimit) {h : Heap} (hf : nt = true → FrOk A h)
  {g : Array GenState} {d : Drawn} {os : OsState} {tok : Nat} {as : List Addr} {xs : List Obj} {R : Result → Shared → Prop} {c : Code} {n : Nat} {ce : List Nat} {e : Nat} {ws : List Nat} {res : Dyn → Stop} {objs : Dyn → List (Option Obj)} {s i : Nat}
  (W : ∀ k ∈ ks, ∀ q, HKwf (k.k q)) (ho : ∀ k ∈ ks, ∀ q, HKok D U (kt0 w.params) w A gp (k.k q)) (S : Starts (kt0 w.params) h as xs) (ok : (insAll xs .nil 0).isSome = true) (h1 : gp.n < tok) (gg : gp.p g d os)
  (chk : ∀ Y : Dyn, Chk ws (codeR (SVq w A.handled D U sp nt (bfN nt A) (boOf xs) cur ks) (Y.pre as) n ce e c (mkT xs) as.length) (res (Y.pre as)) (objs (Y.pre as)) s i)
  (fin : ∀ (Y : Dyn) T m h' t' g' d' os', gp.n < t' → (∀ x, x < i → gp.tk t' (Y.tk x)) → gp.p g' d' os' → RepR (kt0 w.params) (bfN nt A) (boOf xs) h as.length (Y.pre as) h' T m s → ws.map T.get = objs (Y.pre as) → match res (Y.pre as) with | .res r => R r ⟨h', g', d', t', os'⟩ | .cut c => codeAny (model pw w) A c R ⟨h', g', d', t', os'⟩ | .call c c' hd md k ks => codeAny (model pw w) ((A.under c).mark hd) c' (fun r s' => MeansP w A c md ks (.tree (k r)) R s') ⟨h', g', d', t', os'⟩) (ha : gp.any = false := by rfl) : codeAny (model pw w) A c R ⟨h, g, d, tok, os⟩ := by
 have O : SVok (SVq w A.handled D U sp nt (bfN nt A) (boOf xs) cur ks) w A := by
  have O' : SVok (SVz w A.handled D U sp nt (bfN nt A) (boOf xs) cur []) w A := by
   cases nt with
   | true => exact svz_ok hcur hsp rfl hD fun q => (hf q).fr
   | false =>
    have z := svz_ok (w := w) (A := A) (D := D) (U := U) (nt := false) (bo := boOf xs) (hooks := []) hcur hsp rfl hD (fun q => by cases q)
    exact ⟨z.den, z.sp, z.entry, z.wt, z.quiet, z.setting, z.hb, z.room, z.lim, z.ktf, (fun q => by cases q), hcur⟩
  exact ⟨O'.den, O'.sp, O'.entry, O'.wt, O'.quiet, O'.setting, O'.hb, O'.room, O'.lim, O'.ktf, O'.fr, O'.cur⟩
 refine run_view (V := SVq w A.handled D U sp nt (bfN nt A) (boOf xs) cur ks) O (hqs_ok rfl W (ktf0 w.params) ho) S ok rfl ?_ h1 gg chk fin ha
 cases nt with
 | true => exact (hf rfl).bf
 | false => exact fun f hf => nomatch hf
noncomputable def rg (n : Nat) (a : Nat → Addr) : List Addr := (List.range n).map a
theorem rg_len (n : Nat) (a : Nat → Addr) : (rg n a).length = n := by simp [rg]
theorem rg_mem {n : Nat} {a : Nat → Addr} {c : Addr} (h : c ∈ rg n a) : ∃ j, j < n ∧ a j = c := by
 obtain ⟨j, hj, e⟩ := List.mem_map.mp h
 exact ⟨j, List.mem_range.mp hj, e⟩
theorem rg_adr {n : Nat} {a : Nat → Addr} {Y : Dyn} {j : Nat} (h : j < n) : (Y.pre (rg n a)).adr j = a j := by
 have z := preA_lt (rg n a) Y.adr j (by rw [rg_len]; exact h)
 unfold rg at z
 rw [List.getElem?_map, List.getElem?_range h] at z
 exact (Option.some.inj z).symm
theorem map_range_get {n : Nat} {T : BT} {bi : List Nat} {os : List (Option Obj)} (e : (List.range n ++ bi).map T.get = os) {j : Nat} (h : j < n) : os[j]? = some (T.get j) := by
 rw [← e, List.getElem?_map, List.getElem?_append_left (by simpa using h), List.getElem?_range h]
 rfl
theorem map_new_get {n : Nat} {T : BT} {bi : List Nat} {os : List (Option Obj)} (e : (List.range n ++ bi).map T.get = os) {j x : Nat} (h : bi[j]? = some x) : os[n + j]? = some (T.get x) := by
 rw [← e, List.getElem?_map, List.getElem?_append_right (by simp)]
 simp [h]
theorem mem_zip_range {α : Type} {n : Nat} {l : List α} (hl : l.length = n) {q : Nat × α} : q ∈ (List.range n).zip l ↔ l[q.1]? = some q.2 := by
 obtain ⟨j, x⟩ := q
 constructor
 ·intro h
  obtain ⟨i, hi, e⟩ := List.mem_iff_getElem.mp h
  simp only [List.getElem_zip, List.getElem_range, Prod.mk.injEq] at e
  obtain ⟨rfl, rfl⟩ := e
  exact List.getElem?_eq_getElem _
 ·intro h
  obtain ⟨h1, h2⟩ := List.getElem?_eq_some_iff.mp h
  refine List.mem_iff_getElem.mpr ⟨j, by simp [hl] at h1 ⊢; omega, ?_⟩
  simp only [List.getElem_zip, List.getElem_range]
  exact Prod.ext rfl h2
theorem after_of {kt : KT} {bf : List Addr} {bo : List Nat} {h h' : Heap} {k : HK} {n : Nat} {a : Nat → Addr} {t u : Nat → Tok} {sl : Nat → Array (Option Value)} {pl : List Value} {bi : List Nat} {Y : Dyn} {T : BT} {m s : Nat} {ys zs : List Obj}
  (hnn : bi.length = k.nn) (hbi : ∀ x ∈ bi, n ≤ x) (hbn : bi.Nodup) (hpost : k.post a t u (ofL (bi.map (Y.pre (rg n a)).adr)) sl pl = (List.range n).zip ys) (hys : ys.length = n) (hnews : k.news a t u (ofL (bi.map (Y.pre (rg n a)).adr)) sl pl = zs)
  (hz : zs.length = k.nn) (hs : s = 0 ∨ k.noting = true)
  (D : RepR kt bf bo h (rg n a).length (Y.pre (rg n a)) h' T m s) (e : (List.range n ++ bi).map T.get = (ys ++ zs).map some) : After k a t u (ofL (bi.map (Y.pre (rg n a)).adr)) sl pl h h' := by
 have Kb : KeepB k.noting h h' (rg n a) := D.keepB hs
 have post : ∀ j x, ys[j]? = some x → h'.get? (a j) = some x := fun j x ex => by
  have hj : j < n := hys ▸ (List.getElem?_eq_some_iff.mp ex).1
  have z := map_range_get e hj
  rw [List.getElem?_map, List.getElem?_append_left (by omega), ex] at z
  have z := (D.own j x (Option.some.inj z).symm).2
  rw [rg_adr hj] at z
  exact z
 have cov : ∀ c, (∀ q ∈ (List.range n).zip ys, a q.1 ≠ c) → c ∉ rg n a := fun c hc hm => by
  obtain ⟨j, hj, rfl⟩ := rg_mem hm
  exact hc (j, ys[j]'(by omega)) ((mem_zip_range hys).mpr (List.getElem?_eq_getElem _)) rfl
 have bs : ∀ j, j < k.nn → ∃ x, bi[j]? = some x ∧ n ≤ x ∧ ofL (bi.map (Y.pre (rg n a)).adr) j = (Y.pre (rg n a)).adr x := fun j hj => by
  have hj' : j < bi.length := by omega
  refine ⟨bi[j], List.getElem?_eq_getElem hj', hbi _ (List.getElem_mem _), ?_⟩
  unfold ofL
  rw [nth_eq, List.getElem?_map, List.getElem?_eq_getElem hj']
  rfl
 have newT : ∀ j x, bi[j]? = some x → ∃ y, zs[j]? = some y ∧ T.get x = some y := fun j x ex => by
  have z := map_new_get e ex
  rw [List.getElem?_map, List.getElem?_append_right (by omega), hys, Nat.add_sub_cancel_left] at z
  obtain ⟨y, e1, e2⟩ := Option.map_eq_some_iff.mp z
  exact ⟨y, e1, e2.symm⟩
 refine ⟨fun c x ec hq hf => ?_, fun hno c x ec hq hf => ?_, fun q hq => ?_, fun j x ex => ?_, fun i j hi hj q => ?_, D.size⟩
 ·rw [hpost] at hq
  exact Kb.keep c x ec (cov c hq) hf
 ·rw [hpost] at hq
  exact Kb.fr c x ec (cov c hq) hf
 ·rw [hpost] at hq
  exact post q.1 q.2 ((mem_zip_range hys).mp hq)
 ·rw [hnews] at ex
  have hj : j < k.nn := hz ▸ (List.getElem?_eq_some_iff.mp ex).1
  obtain ⟨y, e1, e2, e3⟩ := bs j hj
  obtain ⟨x', f1, f2⟩ := newT j y e1
  rw [ex] at f1
  cases f1
  have z := D.own y x f2
  rw [e3]
  exact ⟨z.2, D.new y (by rw [rg_len]; exact e2) z.1⟩
 ·obtain ⟨x, e1, e2, e3⟩ := bs i hi
  obtain ⟨y, f1, f2, f3⟩ := bs j hj
  rw [e3, f3] at q
  obtain ⟨_, _, g1⟩ := newT i x e1
  obtain ⟨_, _, g2⟩ := newT j y f1
  have q' := D.inj x y (D.own x _ g1).1 (D.own y _ g2).1 q
  rw [q', ← f1] at e1
  exact (List.getElem?_inj (by omega) hbn).mp e1
structure Frm (k : HK) (n : Nat) (fp : List Nat) (ys : (Nat → Array (Option Value)) → List Obj) (zs : (Nat → Array (Option Value)) → List Obj) (res : (Nat → Array (Option Value)) → Result) : Prop where
 no : ∀ j ∈ fp, k.noting = true ∧ j < n
 sl : ∀ sl, ∀ j ∈ fp, ∃ x, (ys sl)[j]? = some x ∧ x.slots = sl j
 dep : ∀ sl sl', (∀ j ∈ fp, sl j = sl' j) → ys sl = ys sl' ∧ zs sl = zs sl' ∧ res sl = res sl'
theorem Frm.nil {k : HK} {n : Nat} {ys zs : List Obj} {res : Result} : Frm k n [] (fun _ => ys) (fun _ => zs) (fun _ => res) := ⟨fun _ h => (nomatch h), fun _ _ h => (nomatch h), fun _ _ _ => ⟨rfl, rfl, rfl⟩⟩
theorem slA_at {k : HK} {a : Nat → Addr} {h' : Heap} {j : Nat} {x : Obj} (hn : k.noting = true) (hj : j < k.ua.length) (e : h'.get? (a j) = some x) : slA k a h' j = x.slots := by
 unfold slA
 rw [hn]
 have z := nthD_lt hj
 dsimp only
 rw [z.1, e]
noncomputable abbrev ChkR (k : HK) (w : World) (D' U' n : Nat) (xs : List Obj) (ks : List HQ) (fuel : Nat) (ce : List Nat) (e : Nat) (c : Code) (bi : List Nat) (a : Nat → Addr) (hb : Option Value) (bf : List Addr) (Y : Dyn) (fin : Stop) (objs : List Obj) (s i : Nat) : Prop :=
 Chk (List.range n ++ bi) (codeR (SVq w hb D' U' trZ.sp k.noting bf (boOf xs) (k.frs a) ks) (Y.pre (rg n a)) fuel ce e c (mkT xs) n) fin (objs.map some) s i
noncomputable def resY (k : HK) (a : Nat → Addr) (t : Nat → Tok) (ti bi : List Nat) (s : Nat) (plf : Dyn → List Value) (Y : Dyn) : Result := k.res a t (ofL (ti.map Y.tk)) (ofL (bi.map Y.adr)) (Y.sl (s - 1)) (plf Y)
noncomputable def newsY (k : HK) (a : Nat → Addr) (t : Nat → Tok) (ti bi : List Nat) (s : Nat) (plf : Dyn → List Value) (Y : Dyn) : List Obj := k.news a t (ofL (ti.map Y.tk)) (ofL (bi.map Y.adr)) (Y.sl (s - 1)) (plf Y)
noncomputable abbrev PostF := (a : Nat → Addr) → (t u : Nat → Tok) → (b : Nat → Addr) → (sl : Nat → Array (Option Value)) → (pl : List Value) → List Obj
noncomputable def ysY (ys : PostF) (a : Nat → Addr) (t : Nat → Tok) (ti bi : List Nat) (s : Nat) (plf : Dyn → List Value) (Y : Dyn) : List Obj := ys a t (ofL (ti.map Y.tk)) (ofL (bi.map Y.adr)) (Y.sl (s - 1)) (plf Y)
theorem hk_run {w : World} {A : Around} {D U D' U' : Nat} {gp : GP} {k : HK} {n : Nat} {c : (Nat → Addr) → (Nat → Tok) → Code} {xs : (Nat → Addr) → (Nat → Tok) → List Obj}
  {ys : PostF}
  {ks : (Nat → Addr) → (Nat → Tok) → List HQ} {fuel : Nat} {ce : List Nat} {e s i : Nat} {ti bi fp : List Nat} {plf : (Nat → Addr) → (Nat → Tok) → Dyn → List Value}
  (hup : gp.up = false) (hn : k.ua.length = n) (hnn : bi.length = k.nn) (hnt : ti.length = k.nt) (hti : ∀ x ∈ ti, x < i) (hbi : ∀ x ∈ bi, n ≤ x) (hbn : bi.Nodup) (hs : s = 0 ∨ k.noting = true) (hfr : k.noting = false → ∀ a, k.frs a = [])
  (htgt : ∀ a t, k.tgt a t = .code (c a t)) (hxs : ∀ a t, (xs a t).length = n) (hpre : ∀ a t j x, (xs a t)[j]? = some x → (j, x) ∈ k.pre a t)
  (hpost : ∀ a t u b sl pl, k.post a t u b sl pl = (List.range n).zip (ys a t u b sl pl)) (hys : ∀ a t u b sl pl, (ys a t u b sl pl).length = n) (hzs : ∀ a t u b sl pl, (k.news a t u b sl pl).length = k.nn)
  (hD : A.depth + D + D' ≤ recursionLimit) (hpl : k.noting = false → ∀ a t Y, plf a t Y = []) (hfp : ∀ a t u b pl, Frm k n fp (fun sl => ys a t u b sl pl) (fun sl => k.news a t u b sl pl) (fun sl => k.res a t u b sl pl))
  (W : ∀ a t, ∀ k' ∈ ks a t, ∀ q, HKwf (k'.k q))
  (Ok : ∀ a t A' g d os, A'.depth < A.depth + D → (k.noH = true → A'.handled = none) → (∀ x, x < k.ut.length → gp.n < t x) → ∀ k' ∈ ks a t, ∀ q, HKok D' U' (kt0 w.params) w A' (sameG gp.n g d os) (k'.k q))
  (ok : ∀ a t, (insAll (xs a t) .nil 0).isSome = true)
  (chk : ∀ a t hb bf Y, (k.noH = true → hb = none) → ChkR k w D' U' n (xs a t) (ks a t) fuel ce e (c a t) bi a hb bf Y
   (.res (resY k a t ti bi s (plf a t) (Y.pre (rg n a)))) (ysY ys a t ti bi s (plf a t) (Y.pre (rg n a)) ++ newsY k a t ti bi s (plf a t) (Y.pre (rg n a))) s i) :
  HKok D U (kt0 w.params) w A gp k := by
 intro a t A' R' h tok g d os hA hh hu hno h1 htk gg hB hp ho hi C
 rw [htgt]
 have S : Starts (kt0 w.params) h (rg n a) (xs a t) := starts_range (hxs a t) (fun j x ex => hp _ (hpre a t j x ex)) (fun x y hx hy => hi x y (hn ▸ hx) (hn ▸ hy)) hB fun x hx => ho x (hn ▸ hx)
 have htk' : ∀ x, x < k.ut.length → gp.n < t x := fun x hx => (htk x hx).1
 show codeAny (model pw w) A' (c a t) R' ⟨h, g, d, tok, os⟩
 refine run_q (D := D') (U := U') (nt := k.noting) (ks := ks a t) (gp := sameG gp.n g d os) (sp := trZ.sp) (cur := k.frs a) (fun f hf => ?_) spZ_ok (by omega) (fun q => (hno q).1) (as := rg n a) (xs := xs a t) (n := fuel) (ce := ce) (e := e) (ws := List.range n ++ bi) (s := s) (i := i) (res := fun Y => .res (resY k a t ti bi s (plf a t) Y)) (objs := fun Y => (ysY ys a t ti bi s (plf a t) Y ++ newsY k a t ti bi s (plf a t) Y).map some) (W a t) (Ok a t A' g d os hA hh htk') S (ok a t) h1 ⟨rfl, rfl, rfl⟩ (fun Y => ?_) ?_
 ·have hq : k.noting = true ∨ k.frs a = [] := by
   cases q : k.noting with
   | true => exact .inl rfl
   | false => exact .inr (hfr q a)
  rcases hq with q | q
  ·exact (hno q).2 f hf
  ·rw [q] at hf; cases hf
 ·have z := chk a t A'.handled (bfN k.noting A') Y hh
  rw [rg_len]
  exact z
 ·rintro Y T m h' t' g' d' os' h1' hy ⟨rfl, rfl, rfl⟩ D ew
  have ew : (List.range n ++ bi).map T.get = (ysY ys a t ti bi s (plf a t) (Y.pre (rg n a)) ++ newsY k a t ti bi s (plf a t) (Y.pre (rg n a))).map some := ew
  have F := hfp a t (ofL (ti.map (Y.pre (rg n a)).tk)) (ofL (bi.map (Y.pre (rg n a)).adr)) (plf a t (Y.pre (rg n a)))
  have hsl : ∀ j ∈ fp, (Y.pre (rg n a)).sl (s - 1) j = slA k a h' j := fun j hj => by
   obtain ⟨q1, q2⟩ := F.no j hj
   obtain ⟨x, q3, q4⟩ := F.sl ((Y.pre (rg n a)).sl (s - 1)) j hj
   have z := map_range_get ew q2
   have q3' : (ysY ys a t ti bi s (plf a t) (Y.pre (rg n a)))[j]? = some x := q3
   rw [List.getElem?_map, List.getElem?_append_left (List.getElem?_eq_some_iff.mp q3').1, q3'] at z
   have z := (D.own j x (Option.some.inj z).symm).2
   rw [rg_adr q2] at z
   rw [slA_at q1 (hn ▸ q2) z, q4]
  obtain ⟨d1, d2, d3⟩ := F.dep _ _ hsl
  have d1 : ysY ys a t ti bi s (plf a t) (Y.pre (rg n a)) = ys a t (ofL (ti.map (Y.pre (rg n a)).tk)) (ofL (bi.map (Y.pre (rg n a)).adr)) (slA k a h') (plf a t (Y.pre (rg n a))) := d1
  have d2 : newsY k a t ti bi s (plf a t) (Y.pre (rg n a)) = k.news a t (ofL (ti.map (Y.pre (rg n a)).tk)) (ofL (bi.map (Y.pre (rg n a)).adr)) (slA k a h') (plf a t (Y.pre (rg n a))) := d2
  have d3 : resY k a t ti bi s (plf a t) (Y.pre (rg n a)) = k.res a t (ofL (ti.map (Y.pre (rg n a)).tk)) (ofL (bi.map (Y.pre (rg n a)).adr)) (slA k a h') (plf a t (Y.pre (rg n a))) := d3
  show R' (resY k a t ti bi s (plf a t) (Y.pre (rg n a))) _
  rw [d3]
  rw [d1, d2] at ew
  refine C h' t' g' d' os' (ti.map (Y.pre (rg n a)).tk) (bi.map (Y.pre (rg n a)).adr) (plf a t (Y.pre (rg n a))) (by simp [hnt]) (fun v hv => ?_) h1' (GP.le0 hup) (by simp [hnn]) (fun q => hpl q _ _ _) gg ?_
  ·obtain ⟨x, hx, rfl⟩ := List.mem_map.mp hv
   exact GP.tk0 hup (hy x (hti x hx)).1
  ·exact after_of hnn hbi hbn (hpost _ _ _ _ _ _) (hys _ _ _ _ _ _) rfl (hzs _ _ _ _ _ _) hs D ew
theorem FrOk.keep2 {A : Around} {e : Bool} {h h' : Heap} {l : List Addr} (F : FrOk A h) (K : KeepB e h h' l) (hl : ∀ a ∈ l, ∀ x, h.get? a = some x → isFr x = true → ∃ x', h'.get? a = some x' ∧ isFr x' = true) : FrOk A h' := by
 obtain ⟨es, e1, e2⟩ := F
 refine ⟨es, e1, fun env he => ?_⟩
 obtain ⟨y1, f, x, y2, y3, y4⟩ := e2 env he
 by_cases hm : f ∈ l
 ·obtain ⟨x', z1, z2⟩ := hl f hm x y3 y4
  exact ⟨y1, f, x', y2, z1, z2⟩
 ·obtain ⟨sl, z⟩ := K.fr f x y3 hm y4
  exact ⟨y1, f, _, y2, z, y4⟩
structure NextK (k k2 : HK) (n : Nat) (gp : GP) (a : Nat → Addr) (t t2 : Nat → Tok) (xs os : List Obj) (c2 : Code) : Prop where
 ua : k2.ua = k.ua
 noH : k2.noH = k.noH
 un : k2.un = k.un
 noting : k2.noting = k.noting
 frs : k2.frs a = k.frs a
 nt : k2.nt = k.nt
 nn : k2.nn = k.nn
 tgt : k2.tgt a t2 = .code c2
 pre : ∀ q ∈ k2.pre a t2, os[q.1]? = some q.2
 ut : ∀ x, x < k2.ut.length → gp.n < t2 x
 post : ∀ u b sl pl, k2.post a t2 u b sl pl = k.post a t u b sl pl
 news : ∀ u b sl pl, k2.news a t2 u b sl pl = k.news a t u b sl pl
 res : ∀ u b sl pl, k2.res a t2 u b sl pl = k.res a t u b sl pl
 frm : ∀ (j : Nat) (x : Obj), xs[j]? = some x → isFr x = true → ∃ y, os[j]? = some y ∧ isFr y = true
theorem hk_turn {w : World} {A : Around} {D U D' U' : Nat} {gp : GP} {k : HK} {n : Nat} {c : (Nat → Addr) → (Nat → Tok) → Code} {xs : (Nat → Addr) → (Nat → Tok) → List Obj} {os : (Nat → Addr) → (Nat → Tok) → Dyn → List Obj} {c2 : (Nat → Addr) → (Nat → Tok) → Dyn → Code}
  {ys : PostF} {ks : (Nat → Addr) → (Nat → Tok) → List HQ} {fuel : Nat} {ce : List Nat} {e s i : Nat} (k2 : (Nat → Addr) → (Nat → Tok) → Dyn → HK) (t2 : (Nat → Addr) → (Nat → Tok) → Dyn → Nat → Tok)
  (hup : gp.up = false) (hn : k.ua.length = n) (hs : s = 0 ∨ k.noting = true) (hfr : k.noting = false → ∀ a, k.frs a = [])
  (htgt : ∀ a t, k.tgt a t = .code (c a t)) (hxs : ∀ a t, (xs a t).length = n) (hpre : ∀ a t j x, (xs a t)[j]? = some x → (j, x) ∈ k.pre a t)
  (hpost : ∀ a t u b sl pl, k.post a t u b sl pl = (List.range n).zip (ys a t u b sl pl)) (hys : ∀ a t u b sl pl, (ys a t u b sl pl).length = n) (hos : ∀ a t Y, (os a t Y).length = n)
  (hD : A.depth + D + D' ≤ recursionLimit)
  (W : ∀ a t, ∀ k' ∈ ks a t, ∀ q, HKwf (k'.k q))
  (Ok : ∀ a t A' g d os, A'.depth < A.depth + D → (k.noH = true → A'.handled = none) → (∀ x, x < k.ut.length → gp.n < t x) → ∀ k' ∈ ks a t, ∀ q, HKok D' U' (kt0 w.params) w A' (sameG gp.n g d os) (k'.k q))
  (ok : ∀ a t, (insAll (xs a t) .nil 0).isSome = true)
  (N : ∀ a t (Y : Dyn), (∀ x, x < i → gp.n < Y.tk x) → (∀ x, x < k.ut.length → gp.n < t x) → NextK k (k2 a t Y) n gp a t (t2 a t Y) (xs a t) (os a t Y) (c2 a t Y))
  (K2 : ∀ a t (Y : Dyn), (∀ x, x < i → gp.n < Y.tk x) → (∀ x, x < k.ut.length → gp.n < t x) → HKok D U (kt0 w.params) w A gp (k2 a t Y))
  (chk : ∀ a t hb bf Y, (k.noH = true → hb = none) → ChkR k w D' U' n (xs a t) (ks a t) fuel ce e (c a t) [] a hb bf Y (.cut (c2 a t (Y.pre (rg n a)))) (os a t (Y.pre (rg n a))) s i) :
  HKok D U (kt0 w.params) w A gp k := by
 intro a t A' R' h tok g d os₀ hA hh hu hno h1 htk gg hB hp ho hi C
 rw [htgt]
 have S : Starts (kt0 w.params) h (rg n a) (xs a t) := starts_range (hxs a t) (fun j x ex => hp _ (hpre a t j x ex)) (fun x y hx hy => hi x y (hn ▸ hx) (hn ▸ hy)) hB fun x hx => ho x (hn ▸ hx)
 have htk' : ∀ x, x < k.ut.length → gp.n < t x := fun x hx => (htk x hx).1
 show codeAny (model pw w) A' (c a t) R' ⟨h, g, d, tok, os₀⟩
 refine run_q (D := D') (U := U') (nt := k.noting) (ks := ks a t) (gp := sameG gp.n g d os₀) (sp := trZ.sp) (cur := k.frs a) (fun f hf => ?_) spZ_ok (by omega) (fun q => (hno q).1) (as := rg n a) (xs := xs a t) (n := fuel) (ce := ce) (e := e) (ws := List.range n ++ []) (s := s) (i := i)
  (res := fun Y => .cut (c2 a t Y)) (objs := fun Y => (os a t Y).map some) (W a t) (Ok a t A' g d os₀ hA hh htk') S (ok a t) h1 ⟨rfl, rfl, rfl⟩ (fun Y => ?_) ?_
 ·have hq : k.noting = true ∨ k.frs a = [] := by
   cases q : k.noting with
   | true => exact .inl rfl
   | false => exact .inr (hfr q a)
  rcases hq with q | q
  ·exact (hno q).2 f hf
  ·rw [q] at hf; cases hf
 ·have z := chk a t A'.handled (bfN k.noting A') Y hh
  rw [rg_len]
  exact z
 ·rintro Y T m h' t' g' d' os' h1' hy ⟨rfl, rfl, rfl⟩ D ew
  have ew : (List.range n ++ []).map T.get = (os a t (Y.pre (rg n a))).map some := ew
  have Kb : KeepB k.noting h h' (rg n a) := D.keepB hs
  have hyt : ∀ x, x < i → gp.n < (Y.pre (rg n a)).tk x := fun x hx => (hy x hx).1
  have N' := N a t (Y.pre (rg n a)) hyt htk'
  have at' : ∀ j x, (os a t (Y.pre (rg n a)))[j]? = some x → h'.get? (a j) = some x := fun j x ex => by
   have hj : j < n := hos a t (Y.pre (rg n a)) ▸ (List.getElem?_eq_some_iff.mp ex).1
   have z := map_range_get ew hj
   rw [List.getElem?_map, ex] at z
   have z := (D.own j x (Option.some.inj z).symm).2
   rw [rg_adr hj] at z
   exact z
  have K2' := K2 a t (Y.pre (rg n a)) hyt htk' a (t2 a t (Y.pre (rg n a))) A' R' h' t' g' d' os' hA (fun q => hh (N'.noH ▸ q)) (fun q => hu (N'.un ▸ q)) (fun q => ?_) h1' (fun x hx => GP.tk0 hup (N'.ut x hx)) gg (fun b x e => D.base b x e) (fun q hq => at' q.1 q.2 (N'.pre q hq)) (fun x hx => ho x (N'.ua ▸ hx)) (fun x y hx hy => hi x y (N'.ua ▸ hx) (N'.ua ▸ hy)) ?_
  ·rw [N'.tgt] at K2'
   exact K2'
  ·have hq : k.noting = true := N'.noting ▸ q
   obtain ⟨F, I⟩ := hno hq
   refine ⟨F.keep2 Kb fun c hc x ex q => ?_, fun f hf => I f (N'.frs ▸ hf)⟩
   obtain ⟨j, hj, rfl⟩ := rg_mem hc
   have hx : (xs a t)[j]? = some ((xs a t)[j]'((hxs a t).symm ▸ hj)) := List.getElem?_eq_getElem _
   have e2 := S.at_ j (a j) _ (by unfold rg; rw [List.getElem?_map, List.getElem?_range hj]; rfl) hx
   rw [ex] at e2
   obtain ⟨y, e3, e4⟩ := N'.frm j _ hx (Option.some.inj e2 ▸ q)
   exact ⟨y, at' j y e3, e4⟩
  ·intro h'' tok' g'' d'' os'' us bs pl l1 l2 l3 l4 l5 l6 l7 F
   have esl : slA (k2 a t (Y.pre (rg n a))) a h'' = slA k a h'' := by
    unfold slA
    rw [N'.noting, N'.ua]
   rw [N'.res, esl]
   refine C h'' tok' g'' d'' os'' us bs pl (l1.trans N'.nt) l2 l3 (GP.le0 hup) (l5.trans N'.nn) (fun q => l6 (N'.noting ▸ q)) l7 ?_
   rw [esl] at F
   have cov : ∀ c, (∀ q ∈ k.post a t (ofL us) (ofL bs) (slA k a h'') pl, a q.1 ≠ c) → c ∉ rg n a := fun c hc hm => by
    obtain ⟨j, hj, rfl⟩ := rg_mem hm
    rw [hpost] at hc
    exact hc (j, _) ((mem_zip_range (hys a t (ofL us) (ofL bs) (slA k a h'') pl)).mpr (List.getElem?_eq_getElem ((hys a t (ofL us) (ofL bs) (slA k a h'') pl).symm ▸ hj))) rfl
   refine ⟨fun c x ec hq hf => ?_, fun hno' c x ec hq hf => ?_, fun q hq => ?_, fun j x ex => ?_, fun i j hi hj => ?_, Nat.le_trans Kb.size F.size⟩
   ·exact F.keep c x (Kb.keep c x ec (cov c hq) hf) (by rw [N'.post]; exact hq) fun q => hf (N'.noting ▸ q)
   ·obtain ⟨sl, z⟩ := Kb.fr c x ec (cov c hq) hf
    exact F.fr (N'.noting.trans hno') c { x with slots := sl } z (by rw [N'.post]; exact hq) hf
   ·exact F.post q (by rw [N'.post]; exact hq)
   ·obtain ⟨q1, q2⟩ := F.news j x (by rw [N'.news]; exact ex)
    exact ⟨q1, Nat.le_trans Kb.size q2⟩
   ·exact F.inj i j (N'.nn ▸ hi) (N'.nn ▸ hj)
noncomputable abbrev XF := (Nat → Addr) → (Nat → Tok) → List Obj
noncomputable abbrev ResF := (a : Nat → Addr) → (t u : Nat → Tok) → (b : Nat → Addr) → (sl : Nat → Array (Option Value)) → (pl : List Value) → Result
noncomputable def mkK (ua ut : List Nat) (nt nn : Nat) (noH noting : Bool) (frs : (Nat → Addr) → List Addr) (c : (Nat → Addr) → (Nat → Tok) → Code) (xs : XF) (ys zs : PostF) (res : ResF) : HK :=
 {ua, ut, nt, nn, noH, un := false, noting, frs, tgt := fun a t => .code (c a t), pre := fun a t => (List.range ua.length).zip (xs a t), post := fun a t u b sl pl => (List.range ua.length).zip (ys a t u b sl pl), news := zs, res }
theorem zip_keys {α : Type} {n : Nat} {l : List α} (h : l.length = n) : ((List.range n).zip l).map (·.1) = List.range n := by
 subst h
 exact List.map_fst_zip (by simp)
section
variable {ua ut : List Nat} {nt nn : Nat} {noH noting : Bool} {frs : (Nat → Addr) → List Addr} {c : (Nat → Addr) → (Nat → Tok) → Code} {xs : XF} {ys zs : PostF} {res : ResF}
theorem mk_wf (hn : ua.Nodup) (hxs : ∀ a t, (xs a t).length = ua.length) (hys : ∀ a t u b sl pl, (ys a t u b sl pl).length = ua.length) (hzs : ∀ a t u b sl pl, (zs a t u b sl pl).length = nn) : HKwf (mkK ua ut nt nn noH noting frs c xs ys zs res) := by
 refine ⟨hn, fun a t u b sl pl q h => ?_, fun a t u b sl pl => ?_, fun a t q h => ?_, hzs⟩
 ·have z := (mem_zip_range (hys a t u b sl pl)).mp h
  have hq : q.1 < ua.length := hys a t u b sl pl ▸ (List.getElem?_eq_some_iff.mp z).1
  exact ⟨hq, _, (mem_zip_range (hxs a t) (q := (q.1, (xs a t)[q.1]'((hxs a t).symm ▸ hq)))).mpr (List.getElem?_eq_getElem _)⟩
 ·show (((List.range ua.length).zip (ys a t u b sl pl)).map (·.1)).Nodup
  rw [zip_keys (hys ..)]
  exact List.nodup_range
 ·have z := (mem_zip_range (hxs a t)).mp h
  exact hxs a t ▸ (List.getElem?_eq_some_iff.mp z).1
theorem mk_run {w : World} {A : Around} {D U D' U' : Nat} {gp : GP} {ks : (Nat → Addr) → (Nat → Tok) → List HQ} {fuel : Nat} {ce : List Nat} {e s i : Nat} {ti bi fp : List Nat} {plf : (Nat → Addr) → (Nat → Tok) → Dyn → List Value}
  (hup : gp.up = false) (hnn : bi.length = nn) (hnt : ti.length = nt) (hti : ∀ x ∈ ti, x < i) (hbi : ∀ x ∈ bi, ua.length ≤ x) (hbn : bi.Nodup) (hs : s = 0 ∨ noting = true) (hfr : noting = false → ∀ a, frs a = [])
  (hxs : ∀ a t, (xs a t).length = ua.length) (hys : ∀ a t u b sl pl, (ys a t u b sl pl).length = ua.length) (hzs : ∀ a t u b sl pl, (zs a t u b sl pl).length = nn)
  (hD : A.depth + D + D' ≤ recursionLimit) (hpl : noting = false → ∀ a t Y, plf a t Y = []) (hfp : ∀ a t u b pl, Frm (mkK ua ut nt nn noH noting frs c xs ys zs res) ua.length fp (fun sl => ys a t u b sl pl) (fun sl => zs a t u b sl pl) (fun sl => res a t u b sl pl))
  (W : ∀ a t, ∀ k' ∈ ks a t, ∀ q, HKwf (k'.k q))
  (Ok : ∀ a t A' g d os, A'.depth < A.depth + D → (noH = true → A'.handled = none) → (∀ x, x < ut.length → gp.n < t x) → ∀ k' ∈ ks a t, ∀ q, HKok D' U' (kt0 w.params) w A' (sameG gp.n g d os) (k'.k q))
  (ok : ∀ a t, (insAll (xs a t) .nil 0).isSome = true)
  (chk : ∀ a t hb bf Y, (noH = true → hb = none) → ChkR (mkK ua ut nt nn noH noting frs c xs ys zs res) w D' U' ua.length (xs a t) (ks a t) fuel ce e (c a t) bi a hb bf Y
   (.res (resY (mkK ua ut nt nn noH noting frs c xs ys zs res) a t ti bi s (plf a t) (Y.pre (rg ua.length a)))) (ysY ys a t ti bi s (plf a t) (Y.pre (rg ua.length a)) ++ newsY (mkK ua ut nt nn noH noting frs c xs ys zs res) a t ti bi s (plf a t) (Y.pre (rg ua.length a))) s i) :
  HKok D U (kt0 w.params) w A gp (mkK ua ut nt nn noH noting frs c xs ys zs res) :=
 hk_run (k := mkK ua ut nt nn noH noting frs c xs ys zs res) (n := ua.length) (c := c) (xs := xs) (ys := ys) hup rfl hnn hnt hti hbi hbn hs hfr (fun _ _ => rfl) hxs (fun a t j x ex => (mem_zip_range (hxs a t) (q := (j, x))).mpr ex) (fun _ _ _ _ _ _ => rfl) hys hzs hD hpl hfp W Ok ok chk
theorem mk_turn {w : World} {A : Around} {D U D' U' : Nat} {gp : GP} {ks : (Nat → Addr) → (Nat → Tok) → List HQ} {fuel : Nat} {ce : List Nat} {e s i : Nat} (c2 : (Nat → Tok) → Dyn → (Nat → Addr) → Code) (xs2 : (Nat → Tok) → Dyn → (Nat → Addr) → List Obj)
  (hup : gp.up = false) (hs : s = 0 ∨ noting = true) (hfr : noting = false → ∀ a, frs a = []) (hxs : ∀ a t, (xs a t).length = ua.length) (hys : ∀ a t u b sl pl, (ys a t u b sl pl).length = ua.length) (hx2 : ∀ t Y a, (xs2 t Y a).length = ua.length)
  (hD : A.depth + D + D' ≤ recursionLimit)
  (W : ∀ a t, ∀ k' ∈ ks a t, ∀ q, HKwf (k'.k q))
  (Ok : ∀ a t A' g d os, A'.depth < A.depth + D → (noH = true → A'.handled = none) → (∀ x, x < ut.length → gp.n < t x) → ∀ k' ∈ ks a t, ∀ q, HKok D' U' (kt0 w.params) w A' (sameG gp.n g d os) (k'.k q))
  (ok : ∀ a t, (insAll (xs a t) .nil 0).isSome = true)
  (frm : ∀ a t Y, ((xs a t).zip (xs2 t Y a)).all (fun q => !isFr q.1 || isFr q.2) = true)
  (K2 : ∀ t Y, (∀ x, x < i → gp.n < Dyn.tk Y x) → (∀ x, x < ut.length → gp.n < t x) → HKok D U (kt0 w.params) w A gp (mkK ua [] nt nn noH noting frs (fun a' _ => c2 t Y a') (fun a' _ => xs2 t Y a') (fun a' _ => ys a' t) (fun a' _ => zs a' t) (fun a' _ => res a' t)))
  (chk : ∀ a t hb bf Y, (noH = true → hb = none) → ChkR (mkK ua ut nt nn noH noting frs c xs ys zs res) w D' U' ua.length (xs a t) (ks a t) fuel ce e (c a t) [] a hb bf Y (.cut (c2 t (Y.pre (rg ua.length a)) a)) (xs2 t (Y.pre (rg ua.length a)) a) s i) :
  HKok D U (kt0 w.params) w A gp (mkK ua ut nt nn noH noting frs c xs ys zs res) :=
 hk_turn (k := mkK ua ut nt nn noH noting frs c xs ys zs res) (n := ua.length) (c := c) (xs := xs) (ys := ys) (os := fun a t Y => xs2 t Y a) (c2 := fun a t Y => c2 t Y a) (fun a t Y => mkK ua [] nt nn noH noting frs (fun a' _ => c2 t Y a') (fun a' _ => xs2 t Y a') (fun a' _ => ys a' t) (fun a' _ => zs a' t) (fun a' _ => res a' t)) (fun _ _ _ _ => 0)
  hup rfl hs hfr (fun _ _ => rfl) hxs (fun a t j x ex => (mem_zip_range (hxs a t) (q := (j, x))).mpr ex) (fun _ _ _ _ _ _ => rfl) hys (fun a t Y => hx2 t Y a) hD W Ok ok
  (fun a t Y h1 h2 => ⟨rfl, rfl, rfl, rfl, rfl, rfl, rfl, rfl, fun q hq => (mem_zip_range (hx2 t Y a)).mp hq, fun x hx => absurd hx (Nat.not_lt_zero _), fun _ _ _ _ => rfl, fun _ _ _ _ => rfl, fun _ _ _ _ => rfl, fun j x ex hf => by
   have hj : j < ua.length := hxs a t ▸ (List.getElem?_eq_some_iff.mp ex).1
   have h2 : (xs2 t Y a)[j]? = some ((xs2 t Y a)[j]'((hx2 t Y a).symm ▸ hj)) := List.getElem?_eq_getElem _
   refine ⟨_, h2, ?_⟩
   have hm : (x, (xs2 t Y a)[j]'((hx2 t Y a).symm ▸ hj)) ∈ (xs a t).zip (xs2 t Y a) := by
    refine List.mem_of_getElem? (i := j) ?_
    rw [List.getElem?_zip_eq_some]
    exact ⟨ex, h2⟩
   have z := List.all_eq_true.mp (frm a t Y) _ hm
   simp only [hf, Bool.not_true, Bool.false_or] at z
   exact z⟩)
  (fun a t Y h1 h2 => K2 t Y h1 h2) chk
end
theorem HKok.ua {D U : Nat} {kt : KT} {w : World} {A : Around} {gp : GP} {k : HK} {l : List Nat} (hl : l.length = k.ua.length) (H : HKok D U kt w A gp k) : HKok D U kt w A gp { k with ua := l } := by
 intro a t A' R' h tok g d os hA hh hu hno h1 ht gg hB hp ho hi C
 refine H a t A' R' h tok g d os hA hh hu hno h1 ht gg hB hp (fun x hx => ho x (hl ▸ hx)) (fun x y hx hy => hi x y (hl ▸ hx) (hl ▸ hy)) fun h' tok' g' d' os' us bs pl l1 l2 l3 l4 l5 l6 l7 F => ?_
 have es : slA { k with ua := l } a h' = slA k a h' := by
  unfold slA
  cases k.noting with
  | false => rfl
  | true =>
   funext x
   dsimp only
   by_cases hx : x < l.length
   ·rw [(nthD_lt hx).1, (nthD_lt (hl ▸ hx)).1]
   ·rw [nth_eq, nth_eq, List.getElem?_eq_none (by omega), List.getElem?_eq_none (by omega)]
 have C' := C h' tok' g' d' os' us bs pl l1 l2 l3 l4 l5 l6 l7
 rw [es] at C'
 exact C' ⟨F.keep, F.fr, F.post, F.news, F.inj, F.size⟩
structure CntSt (N : Nat) (P : Params) (h : Heap) (L : Lx) (B : Str) (p : Nat) (ws : List Nat) (ts tt t3 : Tok) (f : Addr) (fo : Obj) : Prop where
 S : Starts (kt0 P) h (L.as ++ [f]) (cxs P L B p (stOf ws ts) tt t3 fo)
 hs : N < ts
 ht : N < tt
 h3 : N < t3
 R : Rest B p ws
noncomputable def cnt (y : Str) (ws : List Nat) : Nat := ws.countP fun k => txt k == y
noncomputable def CntFr (N : Nat) (La : Addr) (y : Str) (ty : Tok) (c : Int) (fo : Obj) : Prop := ∃ hh k kc i sl, fo = cntFr La hh k y ty c kc i sl ∧ N < kc
theorem cntEnv_kind (P : Params) (f : Addr) : (cntEnv P f).scope.kind = .function := by kernel_rfl
theorem cntEnv_i (P : Params) (f : Addr) : (cntEnv P f).kindOf (o "i") = some .local := by kernel_rfl
theorem cntEnv_b (P : Params) (f : Addr) : (cntEnv P f).kindOf (o "b") = some .local := by kernel_rfl
theorem cntEnv_loc (P : Params) (f : Addr) : (cntEnv P f).locals = f := by kernel_rfl
theorem cntTest (P : Params) : IsOr (forTest (o58 P)) (o "i") (o "b") := isOr_of (by kernel_rfl)
theorem cntTarget (P : Params) : IsName (forTarget (o58 P)) := isName_of (by kernel_rfl)
theorem cntFr_i (La : Addr) (hh : Nat → Int) (k : Nat → Tok) (y : Str) (ty : Tok) (c : Int) (kc : Tok) (x : Str) (tx : Tok) (sl : Array (Option Value)) : ∃ es ep, (cntFr La hh k y ty c kc (some (x, tx)) sl).data = .dict es ep ∧ strKeysB es = true ∧ nsFind es (o "i") = some (.str x tx) ∧ nsFind es (o "b") = some (.str y ty) :=
 ⟨_, _, rfl, by kernel_rfl, by kernel_rfl, by kernel_rfl⟩
theorem ks_cn_wf {P L B p ts tt t3 x p' st' ut fr v} : ∀ q ∈ ks_cn P L B p ts tt t3 x p' st' ut fr v, HKwf q := by
 intro q hq
 simp only [ks_cn, memC, memN, or_false] at hq
 rcases hq with rfl | rfl | rfl
 ·exact kNext_wf (by decide) rfl
 ·exact kOwned_wf
 ·exact kTest_wf (by decide) (by decide)
theorem cntFr_isFr (La : Addr) (hh : Nat → Int) (k : Nat → Tok) (y : Str) (ty : Tok) (c : Int) (kc : Tok) (i : Option (Str × Tok)) (sl : Array (Option Value)) : isFr (cntFr La hh k y ty c kc i sl) = true := by
 cases i with
 | none => kernel_rfl
 | some q => kernel_rfl
theorem keep_fr {P : Params} {A : Around} {e : Bool} {h h' : Heap} {L : Lx} {B B' : Str} {p p' : Nat} {st st' : Value} {tt t3 tt' t3' : Tok} {f : Addr} {fo fo' : Obj} (F : FrOk A h) (K : KeepB e h h' (L.as ++ [f]))
  (S : Starts (kt0 P) h (L.as ++ [f]) (cxs P L B p st tt t3 fo)) (S' : Starts (kt0 P) h' (L.as ++ [f]) (cxs P L B' p' st' tt' t3' fo')) (hf : isFr fo' = true) : FrOk A h' := by
 refine F.keep2 K fun a ha x e q => ?_
 obtain ⟨j, hj, rfl⟩ := List.mem_iff_getElem.mp ha
 have hj' : j < 7 := hj
 have z := S.at_ j _ _ (List.getElem?_eq_getElem hj) (List.getElem?_eq_getElem (S.len ▸ hj))
 by_cases h6 : j = 6
 ·subst h6
  exact ⟨fo', S'.get (j := 6) rfl rfl, hf⟩
 ·exfalso
  have e' := z.symm.trans e
  have hn := Lx.noFr L (P := P) (B := B) (p := p) (st := st) (tt := tt) (t3 := t3)
  have : (cxs P L B p st tt t3 fo)[j]'(S.len ▸ hj) = (L.objs P B p st tt t3)[j]'(by show j < 6; omega) := List.getElem_append_left (by show j < 6; omega)
  rw [this] at e'
  have := hn _ (List.getElem_mem (by show j < 6; omega))
  rw [Option.some.inj e', q] at this
  cases this
theorem cn_turn {N : Nat} {w : World} {r : Bool} {A : Around} (hr : A.depth + 210 ≤ recursionLimit) {g : Array GenState} {d : Drawn} {os : OsState} {L : Lx} {B : Str} (hl : B.length < 1000000) (h2 : N < L.S.t2) (y : Str) (ty : Tok) (hy1 : ty ≠ 0) (hy2 : ty ≤ N) {f : Addr} {k : Nat} {ws : List Nat} (hk : k < 6)
  {h : Heap} {tok : Nat} (h1 : N < tok) {p : Nat} {ts tt t3 : Tok} {c : Int} {fo : Obj} (C : CntFr N L.a y ty c fo) (Z : CntSt N w.params h L B p (k :: ws) ts tt t3 f fo) {R : Result → Shared → Prop}
  (go : ∀ h' t' ts' tt' t3' fo', N < t' → CntSt N w.params h' L B (p + stepLen k ws) ws ts' tt' t3' f fo' → CntFr N L.a y ty (c + cnt y [k]) fo' → KeepB true h h' (L.as ++ [f]) → codeAny (model pw (wf w r)) A (cntC w.params L.a f) R ⟨h', g, d, t', os⟩) :
  codeAny (model pw (wf w r)) A (cntC w.params L.a f) R ⟨h, g, d, tok, os⟩ := by
 obtain ⟨hh, kk, kc, i, sl, rfl, hkc⟩ := C
 have S : Starts (kt0 w.params) h (L.as ++ [f]) (cxs w.params L B p (.str (o " ") ts) tt t3 (cntFr L.a hh kk y ty c kc i sl)) := Z.S
 have Ok : ∀ v ut fr, (txt k == y) = v → (∀ a t, ∃ es ep, (fr a t).data = .dict es ep ∧ strKeysB es = true ∧ nsFind es (o "i") = some (.str (txt k) (t 0)) ∧ nsFind es (o "b") = some (.str y ty)) → 0 < ut.length →
   ∀ q ∈ ks_cn w.params L B p ts tt t3 (txt k) (p + stepLen k ws) (stOf ws) ut fr v, HKok 70 0 (kt0 w.params) (wf w r) A (sameG N g d os) q := by
  intro v ut fr hv hfr hut q hq
  simp only [ks_cn, memC, memN, or_false] at hq
  rcases hq with rfl | rfl | rfl
  ·exact kNext_ok rfl rfl (by omega) hk hl h2 Z.hs Z.ht Z.h3 Z.R
  ·exact kOwned_ok (cntTarget _)
  ·exact kTest_ok (l := o "i") (m := o "b") (x := txt k) (y := y) (tx := fun _ t => t 0) (ty := ty) (cntTest _) hv (cntEnv_kind _) (cntEnv_i _) (cntEnv_b _) (by decide +kernel) (by decide +kernel) (cntEnv_loc _) hfr (fun a t ht => ht 0 hut) hy1 hy2
 cases hv : (txt k == y) with
 | true =>
  have ec : (c + (cnt y [k] : Nat) : Int) = c + 1 := by
   have : cnt y [k] = 1 := by simp [cnt, hv]
   rw [this]; rfl
  cases i with
  | none =>
   refine run_k (D := 70) (U := 0) (nt := false) (sp := trZ.sp) (ks := ks_cn w.params L B p ts tt t3 (txt k) (p + stepLen k ws) (stOf ws) [0, 4] (fun _ t => cntFr L.a (put hh 3 (hashZ w.params (o "i"))) (put kk 3 (t 1)) y ty c kc (some (txt k, t 0)) sl) true) (gp := sameG N g d os) (cur := []) nilA spZ_ok (dle ‹_›) (fun q => by cases q) (as := L.as ++ [f]) (xs := cxs w.params L B p (.str (o " ") ts) tt t3 (cntFr L.a hh kk y ty c kc none sl)) (ws := [0, 1, 2, 3, 4, 5, 6]) (n := 1000) (ce := ce_cnH) (e := 1000) (s := 0) (i := 8)
    (res := fun Y => .cut (cntC w.params L.a f)) (objs := fun Y => (cxs w.params L B (p + stepLen k ws) (stOf ws (Y.tk 1)) (Y.tk 2) (Y.tk 3) (cntFr L.a (put hh 3 (hashZ w.params (o "i"))) (put kk 3 (Y.tk 4)) y ty (c + 1) (Y.tk 6) (some (txt k, Y.tk 0)) sl)).map some) ks_cn_wf (Ok true [0, 4] (fun _ t => cntFr L.a (put hh 3 (hashZ w.params (o "i"))) (put kk 3 (t 1)) y ty c kc (some (txt k, t 0)) sl) hv (fun _ _ => cntFr_i ..) (by decide)) S rfl h1 ⟨rfl, rfl, rfl⟩ (fun Y => chk_cnH0 w r _ _ [] L B p ts tt t3 (txt k) _ (stOf ws) y ty f hh kk c kc sl Y) ?_
   rintro Y T m h' t' _ _ _ h1' hy ⟨rfl, rfl, rfl⟩ D e
   have S' : Starts (kt0 w.params) h' (L.as ++ [f]) (cxs w.params L B (p + stepLen k ws) (stOf ws (Y.tk 1)) (Y.tk 2) (Y.tk 3) (cntFr L.a (put hh 3 (hashZ w.params (o "i"))) (put kk 3 (Y.tk 4)) y ty (c + 1) (Y.tk 6) (some (txt k, Y.tk 0)) sl)) := S.after D rfl e
   exact go h' t' (Y.tk 1) (Y.tk 2) (Y.tk 3) _ h1' ⟨S', (hy 1 (by decide)).1, (hy 2 (by decide)).1, (hy 3 (by decide)).1, Z.R.step⟩ ⟨_, _, _, _, _, by rw [ec], (hy 6 (by decide)).1⟩ (D.keepB (e := false) (.inl rfl)).weak
  | some q =>
   obtain ⟨x0, t0⟩ := q
   refine run_k (D := 70) (U := 0) (nt := false) (sp := trZ.sp) (ks := ks_cn w.params L B p ts tt t3 (txt k) (p + stepLen k ws) (stOf ws) [0] (fun _ t => cntFr L.a hh kk y ty c kc (some (txt k, t 0)) sl) true) (gp := sameG N g d os) (cur := []) nilA spZ_ok (dle ‹_›) (fun q => by cases q) (as := L.as ++ [f]) (xs := cxs w.params L B p (.str (o " ") ts) tt t3 (cntFr L.a hh kk y ty c kc (some (x0, t0)) sl)) (ws := [0, 1, 2, 3, 4, 5, 6]) (n := 1000) (ce := ce_cnH) (e := 1000) (s := 0) (i := 8)
    (res := fun Y => .cut (cntC w.params L.a f)) (objs := fun Y => (cxs w.params L B (p + stepLen k ws) (stOf ws (Y.tk 1)) (Y.tk 2) (Y.tk 3) (cntFr L.a hh kk y ty (c + 1) (Y.tk 6) (some (txt k, Y.tk 0)) sl)).map some) ks_cn_wf (Ok true [0] (fun _ t => cntFr L.a hh kk y ty c kc (some (txt k, t 0)) sl) hv (fun _ _ => cntFr_i ..) (by decide)) S rfl h1 ⟨rfl, rfl, rfl⟩ (fun Y => chk_cnH1 w r _ _ [] L B p ts tt t3 (txt k) _ (stOf ws) y ty f hh kk c kc x0 t0 sl Y) ?_
   rintro Y T m h' t' _ _ _ h1' hy ⟨rfl, rfl, rfl⟩ D e
   have S' : Starts (kt0 w.params) h' (L.as ++ [f]) (cxs w.params L B (p + stepLen k ws) (stOf ws (Y.tk 1)) (Y.tk 2) (Y.tk 3) (cntFr L.a hh kk y ty (c + 1) (Y.tk 6) (some (txt k, Y.tk 0)) sl)) := S.after D rfl e
   exact go h' t' (Y.tk 1) (Y.tk 2) (Y.tk 3) _ h1' ⟨S', (hy 1 (by decide)).1, (hy 2 (by decide)).1, (hy 3 (by decide)).1, Z.R.step⟩ ⟨_, _, _, _, _, by rw [ec], (hy 6 (by decide)).1⟩ (D.keepB (e := false) (.inl rfl)).weak
 | false =>
  have ec : (c + (cnt y [k] : Nat) : Int) = c := by
   have : cnt y [k] = 0 := by simp [cnt, hv]
   rw [this]; simp
  cases i with
  | none =>
   refine run_k (D := 70) (U := 0) (nt := false) (sp := trZ.sp) (ks := ks_cn w.params L B p ts tt t3 (txt k) (p + stepLen k ws) (stOf ws) [0, 4] (fun _ t => cntFr L.a (put hh 3 (hashZ w.params (o "i"))) (put kk 3 (t 1)) y ty c kc (some (txt k, t 0)) sl) false) (gp := sameG N g d os) (cur := []) nilA spZ_ok (dle ‹_›) (fun q => by cases q) (as := L.as ++ [f]) (xs := cxs w.params L B p (.str (o " ") ts) tt t3 (cntFr L.a hh kk y ty c kc none sl)) (ws := [0, 1, 2, 3, 4, 5, 6]) (n := 1000) (ce := ce_cnM) (e := 1000) (s := 0) (i := 5)
    (res := fun Y => .cut (cntC w.params L.a f)) (objs := fun Y => (cxs w.params L B (p + stepLen k ws) (stOf ws (Y.tk 1)) (Y.tk 2) (Y.tk 3) (cntFr L.a (put hh 3 (hashZ w.params (o "i"))) (put kk 3 (Y.tk 4)) y ty c kc (some (txt k, Y.tk 0)) sl)).map some) ks_cn_wf (Ok false [0, 4] (fun _ t => cntFr L.a (put hh 3 (hashZ w.params (o "i"))) (put kk 3 (t 1)) y ty c kc (some (txt k, t 0)) sl) hv (fun _ _ => cntFr_i ..) (by decide)) S rfl h1 ⟨rfl, rfl, rfl⟩ (fun Y => chk_cnM0 w r _ _ [] L B p ts tt t3 (txt k) _ (stOf ws) y ty f hh kk c kc sl Y) ?_
   rintro Y T m h' t' _ _ _ h1' hy ⟨rfl, rfl, rfl⟩ D e
   have S' : Starts (kt0 w.params) h' (L.as ++ [f]) (cxs w.params L B (p + stepLen k ws) (stOf ws (Y.tk 1)) (Y.tk 2) (Y.tk 3) (cntFr L.a (put hh 3 (hashZ w.params (o "i"))) (put kk 3 (Y.tk 4)) y ty c kc (some (txt k, Y.tk 0)) sl)) := S.after D rfl e
   exact go h' t' (Y.tk 1) (Y.tk 2) (Y.tk 3) _ h1' ⟨S', (hy 1 (by decide)).1, (hy 2 (by decide)).1, (hy 3 (by decide)).1, Z.R.step⟩ ⟨_, _, _, _, _, by rw [ec], hkc⟩ (D.keepB (e := false) (.inl rfl)).weak
  | some q =>
   obtain ⟨x0, t0⟩ := q
   refine run_k (D := 70) (U := 0) (nt := false) (sp := trZ.sp) (ks := ks_cn w.params L B p ts tt t3 (txt k) (p + stepLen k ws) (stOf ws) [0] (fun _ t => cntFr L.a hh kk y ty c kc (some (txt k, t 0)) sl) false) (gp := sameG N g d os) (cur := []) nilA spZ_ok (dle ‹_›) (fun q => by cases q) (as := L.as ++ [f]) (xs := cxs w.params L B p (.str (o " ") ts) tt t3 (cntFr L.a hh kk y ty c kc (some (x0, t0)) sl)) (ws := [0, 1, 2, 3, 4, 5, 6]) (n := 1000) (ce := ce_cnM) (e := 1000) (s := 0) (i := 5)
    (res := fun Y => .cut (cntC w.params L.a f)) (objs := fun Y => (cxs w.params L B (p + stepLen k ws) (stOf ws (Y.tk 1)) (Y.tk 2) (Y.tk 3) (cntFr L.a hh kk y ty c kc (some (txt k, Y.tk 0)) sl)).map some) ks_cn_wf (Ok false [0] (fun _ t => cntFr L.a hh kk y ty c kc (some (txt k, t 0)) sl) hv (fun _ _ => cntFr_i ..) (by decide)) S rfl h1 ⟨rfl, rfl, rfl⟩ (fun Y => chk_cnM1 w r _ _ [] L B p ts tt t3 (txt k) _ (stOf ws) y ty f hh kk c kc x0 t0 sl Y) ?_
   rintro Y T m h' t' _ _ _ h1' hy ⟨rfl, rfl, rfl⟩ D e
   have S' : Starts (kt0 w.params) h' (L.as ++ [f]) (cxs w.params L B (p + stepLen k ws) (stOf ws (Y.tk 1)) (Y.tk 2) (Y.tk 3) (cntFr L.a hh kk y ty c kc (some (txt k, Y.tk 0)) sl)) := S.after D rfl e
   exact go h' t' (Y.tk 1) (Y.tk 2) (Y.tk 3) _ h1' ⟨S', (hy 1 (by decide)).1, (hy 2 (by decide)).1, (hy 3 (by decide)).1, Z.R.step⟩ ⟨_, _, _, _, _, by rw [ec], hkc⟩ (D.keepB (e := false) (.inl rfl)).weak
theorem cnt_cons (y : Str) (k : Nat) (ws : List Nat) : cnt y (k :: ws) = cnt y [k] + cnt y ws := by
 unfold cnt
 rw [show k :: ws = [k] ++ ws from rfl, List.countP_append]
theorem count_loop {N : Nat} {w : World} {r : Bool} {A : Around} (hr : A.depth + 210 ≤ recursionLimit) (hh0 : A.handled = none) {g : Array GenState} {d : Drawn} {os : OsState} {L : Lx} {B : Str} (hl : B.length < 1000000) (h2 : N < L.S.t2) (y : Str) (ty : Tok) (hy1 : ty ≠ 0) (hy2 : ty ≤ N) {f : Addr} :
  ∀ (ws : List Nat) (hws : ∀ k ∈ ws, k < 6) {h : Heap} (F : FrOk A h) {tok : Nat} (h1 : N < tok) {p : Nat} {ts tt t3 : Tok} {c : Int} {fo : Obj} (C : CntFr N L.a y ty c fo) (Z : CntSt N w.params h L B p ws ts tt t3 f fo) {R : Result → Shared → Prop}
   (fin : ∀ h' t' p' ts' tt' t3' fo', N < t' → CntSt N w.params h' L B p' [] ts' tt' t3' f fo' → CntFr N L.a y ty (c + cnt y ws) fo' → KeepB true h h' (L.as ++ [f]) → R (.ok .next) ⟨h', g, d, t', os⟩),
   codeAny (model pw (wf w r)) A (cntC w.params L.a f) R ⟨h, g, d, tok, os⟩
 | [], hws, h, F, tok, h1, p, ts, tt, t3, c, fo, C, Z, R, fin => by
  obtain ⟨hh, kk, kc, i, sl, rfl, hkc⟩ := C
  have S : Starts (kt0 w.params) h (L.as ++ [f]) (cxs w.params L B p .none tt t3 (cntFr L.a hh kk y ty c kc i sl)) := Z.S
  have W : ∀ q ∈ ks_cnE w.params L B p tt t3, HKwf q := by
   intro q hq
   simp only [ks_cnE, memC, memN, or_false] at hq
   rcases hq with rfl
   exact kEnd_wf (by decide) rfl
  have Ok : ∀ q ∈ ks_cnE w.params L B p tt t3, HKok 70 0 (kt0 w.params) (wf w r) A (sameG N g d os) q := by
   intro q hq
   simp only [ks_cnE, memC, memN, or_false] at hq
   rcases hq with rfl
   exact kEnd_ok rfl rfl (by omega) hl h2 Z.ht Z.h3 Z.R.2
  have e0 : (c + (cnt y [] : Nat) : Int) = c := by simp [cnt]
  cases i with
  | none =>
   refine run_k (D := 70) (U := 0) (nt := true) (sp := trZ.sp) (ks := ks_cnE w.params L B p tt t3) (gp := sameG N g d os) (cur := []) nilA spZ_ok (by omega) (fun _ => F) (as := L.as ++ [f]) (xs := cxs w.params L B p .none tt t3 (cntFr L.a hh kk y ty c kc none sl)) (ws := [0, 1, 2, 3, 4, 5, 6]) (n := 1000) (ce := ce_cnE) (e := 1000) (s := 1) (i := 2)
    (res := fun Y => .res (.ok .next)) (objs := fun Y => (cxs w.params L B p .none (Y.tk 0) (Y.tk 1) (cntFr L.a hh kk y ty c kc none (Y.sl 0 6))).map some) W Ok S rfl h1 ⟨rfl, rfl, rfl⟩ (fun Y => by rw [hh0]; exact chk_cnE0 w r _ [] L B p tt t3 y ty f hh kk c kc sl Y) ?_
   rintro Y T m h' t' _ _ _ h1' hy ⟨rfl, rfl, rfl⟩ D e
   have S' : Starts (kt0 w.params) h' (L.as ++ [f]) (cxs w.params L B p .none (Y.tk 0) (Y.tk 1) (cntFr L.a hh kk y ty c kc none (Y.sl 0 6))) := S.after D rfl e
   exact fin h' t' p ts (Y.tk 0) (Y.tk 1) _ h1' ⟨S', Z.hs, (hy 0 (by decide)).1, (hy 1 (by decide)).1, Z.R⟩ ⟨_, _, _, _, _, by rw [e0], hkc⟩ (D.keepB (.inr rfl))
  | some q =>
   obtain ⟨x0, t0⟩ := q
   refine run_k (D := 70) (U := 0) (nt := true) (sp := trZ.sp) (ks := ks_cnE w.params L B p tt t3) (gp := sameG N g d os) (cur := []) nilA spZ_ok (by omega) (fun _ => F) (as := L.as ++ [f]) (xs := cxs w.params L B p .none tt t3 (cntFr L.a hh kk y ty c kc (some (x0, t0)) sl)) (ws := [0, 1, 2, 3, 4, 5, 6]) (n := 1000) (ce := ce_cnE) (e := 1000) (s := 1) (i := 2)
    (res := fun Y => .res (.ok .next)) (objs := fun Y => (cxs w.params L B p .none (Y.tk 0) (Y.tk 1) (cntFr L.a hh kk y ty c kc (some (x0, t0)) (Y.sl 0 6))).map some) W Ok S rfl h1 ⟨rfl, rfl, rfl⟩ (fun Y => by rw [hh0]; exact chk_cnE1 w r _ [] L B p tt t3 y ty f hh kk c kc x0 t0 sl Y) ?_
   rintro Y T m h' t' _ _ _ h1' hy ⟨rfl, rfl, rfl⟩ D e
   have S' : Starts (kt0 w.params) h' (L.as ++ [f]) (cxs w.params L B p .none (Y.tk 0) (Y.tk 1) (cntFr L.a hh kk y ty c kc (some (x0, t0)) (Y.sl 0 6))) := S.after D rfl e
   exact fin h' t' p ts (Y.tk 0) (Y.tk 1) _ h1' ⟨S', Z.hs, (hy 0 (by decide)).1, (hy 1 (by decide)).1, Z.R⟩ ⟨_, _, _, _, _, by rw [e0], hkc⟩ (D.keepB (.inr rfl))
 | k :: ws, hws, h, F, tok, h1, p, ts, tt, t3, c, fo, C, Z, R, fin => by
  refine cn_turn hr hl h2 y ty hy1 hy2 (hws k (.head _)) h1 C Z fun h' t' ts' tt' t3' fo' n Z' C' K => ?_
  have hfr : isFr fo' = true := by
   obtain ⟨hh, kk, kc, i, sl, rfl, _⟩ := C'
   exact cntFr_isFr ..
  refine count_loop hr hh0 hl h2 y ty hy1 hy2 ws (fun q hq => hws q (.tail _ hq)) (keep_fr F K Z.S Z'.S hfr) n C' Z' fun h'' t'' p'' ts'' tt'' t3'' fo'' n' Z'' C'' K' => ?_
  refine fin h'' t'' p'' ts'' tt'' t3'' fo'' n' Z'' ?_ (K.trans K')
  rw [cnt_cons, Int.natCast_add, ← Int.add_assoc]
  exact C''
noncomputable def intV : Value → Int | .int i _ => i | _ => 0
noncomputable def tokV : Value → Tok | .int _ t => t | _ => 0
noncomputable def finFr (La : Addr) (y : Str) (ty : Tok) (n : Int) (kc : Tok) (pl : List Value) (sl : Array (Option Value)) : Obj :=
 ⟨.type "frame", none, .dict (Array.mk (eh (fun j => intV (plv pl j)) (fun j => tokV (plv pl j)) 0 "a" (.ref La) :: eh (fun j => intV (plv pl j)) (fun j => tokV (plv pl j)) 1 "b" (.str y ty) :: eh (fun j => intV (plv pl j)) (fun j => tokV (plv pl j)) 2 "count" (.int n kc) ::
  match nth pl 4 with
   | some v => [eh (fun j => intV (plv pl j)) (fun j => tokV (plv pl j)) 3 "i" v]
   | none => [])) (match nth pl 4 with | some _ => 4 | none => 3), sl⟩
noncomputable def hh0 (P : Params) (j : Nat) : Int := match j with | 0 => hashZ P (o "a") | 1 => hashZ P (o "b") | _ => hashZ P (o "count")
noncomputable def kCnt (P : Params) (K : Nat → Tok) (S : SK) (B : Str) (p : Nat) (st : Value) (tt t3 : Tok) (p' : Nat) (st' : Tok → Value) (ua ut : List Nat) (y : Str) (ty : Tok) (n : Int) : HK :=
 {ua, ut, nt := 4, nn := 0, noH := true, un := false, noting := true, tgt := fun a _ => .code (cntC P (a 0) (a 6)), pre := fun a t => lexAt P K S B a p st tt t3 ++ [(6, cntFr (a 0) (hh0 P) t y ty 0 (t 3) none (Array.mk []))],
  post := fun a _ u _ sl pl => [(1, lexDict P K (a 2) (a 4) (a 5) (st' (u 0)) (u 1)), (3, sioDict P S B (p' : Int) (u 2)), (6, finFr (a 0) y ty n (u 3) pl (sl 6))], news := fun _ _ _ _ _ _ => [], res := fun _ _ u _ _ _ => .ok .next }
noncomputable def countC (a : Addr) (y : Str) (ty : Tok) : Code := .call (.ref 58) ⟨[.ref a, .str y ty], []⟩
noncomputable def ce_co : List Nat := decs [5444517870735325958750668262480703141895, 38130236883234525997606498803189872068608]
theorem Starts.snoc {kt : KT} {h : Heap} {as : List Addr} {xs : List Obj} {f : Addr} {fo : Obj} (S : Starts kt h as xs) (e : h.get? f = some fo) (n : f ∉ as) (no : kt.get f = none) : Starts kt h (as ++ [f]) (xs ++ [fo]) where
 len := by simp [S.len]
 at_ := fun j a x e1 e2 => by
  by_cases hj : j < as.length
  ·rw [List.getElem?_append_left hj] at e1
   rw [List.getElem?_append_left (S.len ▸ hj)] at e2
   exact S.at_ j a x e1 e2
  ·rw [List.getElem?_append_right (by omega)] at e1
   rw [List.getElem?_append_right (by have := S.len; omega)] at e2
   rw [S.len] at e1
   cases hz : j - xs.length with
   | zero =>
    rw [hz] at e1 e2
    cases e1; cases e2; exact e
   | succ q =>
    rw [hz] at e1
    simp at e1
 nodup := by
  rw [List.nodup_append]
  exact ⟨S.nodup, by simp, fun a ha b hb q => by
   rw [List.mem_singleton] at hb
   subst hb; subst q
   exact n ha⟩
 base := S.base
 off := fun a ha => by
  rcases List.mem_append.mp ha with ha | ha
  ·exact S.off a ha
  ·rw [List.mem_singleton] at ha
   subst ha; exact no
theorem Starts.init {kt : KT} {h : Heap} {as : List Addr} {xs : List Obj} {f : Addr} {fo : Obj} (S : Starts kt h (as ++ [f]) (xs ++ [fo])) (hl : as.length = xs.length) : Starts kt h as xs where
 len := hl
 at_ := fun j a x e1 e2 => by
  have hj : j < as.length := (List.getElem?_eq_some_iff.mp e1).1
  refine S.at_ j a x ?_ ?_
  ·rw [List.getElem?_append_left hj]; exact e1
  ·rw [List.getElem?_append_left (hl ▸ hj)]; exact e2
 nodup := (List.nodup_append.mp S.nodup).1
 base := S.base
 off := fun a ha => S.off a (List.mem_append_left _ ha)
theorem keep_lex2 {P K S B} {a : Nat → Addr} {h h' : Heap} {p p' : Nat} {st st' : Value} {tt tt' t3 t3' : Tok}
  (hp : ∀ q ∈ lexAt P K S B a p st tt t3, h.get? (a q.1) = some q.2) (S' : ∀ q ∈ lexAt P K S B a p' st' tt' t3', h'.get? (a q.1) = some q.2)
  (c : Addr) (x : Obj) (ec : h.get? c = some x) (n1 : a 1 ≠ c) (n3 : a 3 ≠ c) (hk : c ∉ (lexOf K S a).as → h'.get? c = some x) : h'.get? c = some x := by
 by_cases hm : c ∈ (lexOf K S a).as
 ·have hm : c ∈ [a 0, a 1, a 2, a 3, a 4, a 5] := hm
  simp only [memC, memN, or_false] at hm
  have same : ∀ j y, (j, y) ∈ lexAt P K S B a p st tt t3 → (j, y) ∈ lexAt P K S B a p' st' tt' t3' → c = a j → h'.get? c = some x := fun j y m1 m2 ej => by
   have z1 := hp _ m1
   have z2 := S' _ m2
   rw [← ej] at z1 z2
   have z1 : h.get? c = some y := z1
   rw [ec] at z1
   rw [Option.some.inj z1]
   exact z2
  rcases hm with q | q | q | q | q | q
  ·exact same 0 _ (.head _) (.head _) q
  ·exact absurd q.symm n1
  ·exact same 2 _ (.tail _ (.tail _ (.head _))) (.tail _ (.tail _ (.head _))) q
  ·exact absurd q.symm n3
  ·exact same 4 _ (.tail _ (.tail _ (.tail _ (.tail _ (.head _))))) (.tail _ (.tail _ (.tail _ (.tail _ (.head _))))) q
  ·exact same 5 _ (.tail _ (.tail _ (.tail _ (.tail _ (.tail _ (.head _)))))) (.tail _ (.tail _ (.tail _ (.tail _ (.tail _ (.head _)))))) q
 ·exact hk hm
noncomputable def plOf (hh : Nat → Int) (k : Nat → Tok) (i : Option (Str × Tok)) : List Value := [.int (hh 0) (k 0), .int (hh 1) (k 1), .int (hh 2) (k 2), .int (hh 3) (k 3)] ++ match i with | none => [] | some (x, tx) => [.str x tx]
theorem finFr_eq (La : Addr) (hh : Nat → Int) (k : Nat → Tok) (y : Str) (ty : Tok) (c : Int) (kc : Tok) (i : Option (Str × Tok)) (sl : Array (Option Value)) : finFr La y ty c kc (plOf hh k i) sl = cntFr La hh k y ty c kc i sl := by
 cases i with
 | none => rfl
 | some q => rfl
theorem kCnt_wf {P K S B p st tt t3 p' st' ua ut y ty n} (hn : ua.Nodup) (hl : ua.length = 7) : HKwf (kCnt P K S B p st tt t3 p' st' ua ut y ty n) := by
 refine ⟨hn, fun a t u b sl pl q h => ?_, fun _ _ _ _ _ _ => by simp [kCnt], fun a t q h => ?_, fun _ _ _ _ _ _ => rfl⟩
 ·show q.1 < ua.length ∧ _
  rw [hl]
  have h : q ∈ [(1, lexDict P K (a 2) (a 4) (a 5) (st' (u 0)) (u 1)), (3, sioDict P S B (p' : Int) (u 2)), (6, finFr (a 0) y ty n (u 3) pl (sl 6))] := h
  rcases List.mem_cons.mp h with rfl | h
  ·exact ⟨by show 1 < 7; decide, _, List.mem_append_left _ (.tail _ (.head _))⟩
  ·rcases List.mem_cons.mp h with rfl | h
   ·exact ⟨by show 3 < 7; decide, _, List.mem_append_left _ (.tail _ (.tail _ (.tail _ (.head _))))⟩
   ·rcases List.mem_cons.mp h with rfl | h
    ·exact ⟨by show 6 < 7; decide, _, List.mem_append_right _ (.head _)⟩
    ·cases h
 ·show q.1 < ua.length
  rw [hl]
  have h : q ∈ lexAt P K S B a p st tt t3 ++ [(6, cntFr (a 0) (hh0 P) t y ty 0 (t 3) none (Array.mk []))] := h
  rcases List.mem_append.mp h with h | h
  ·exact Nat.lt_succ_of_lt (lexAt_lt q h)
  ·rcases List.mem_cons.mp h with rfl | h
   ·show 6 < 7; decide
   ·cases h
theorem kCnt_ok {w : World} {r : Bool} {A : Around} {D U : Nat} {gp : GP} (hup : gp.up = false) {K S B p ws ts tt t3 ua ut y ty} (hua : ua.length = 7) (hut : ut.length = 4) (hD : A.depth + D + 210 ≤ recursionLimit) (hws : ∀ k ∈ ws, k < 6) (hl : B.length < 1000000) (h2 : gp.n < S.t2) (hs : gp.n < ts) (ht : gp.n < tt) (h3 : gp.n < t3) (hR : Rest B p ws) (hy1 : ty ≠ 0) (hy2 : ty ≤ gp.n) :
  HKok D U (kt0 w.params) (wf w r) A gp (kCnt w.params K S B p (stOf ws ts) tt t3 B.length (stOf []) ua ut y ty (cnt y ws)) := by
 intro a t A' R' h tok g dr os hA hh hu hno h1 htk gg hB hp ho hi C
 have hi6 : ∀ x y, x < 6 → y < 6 → a x = a y → x = y := fun x y hx hy => hi x y (hua ▸ Nat.lt_succ_of_lt hx) (hua ▸ Nat.lt_succ_of_lt hy)
 have hi7 : ∀ x y, x < 7 → y < 7 → a x = a y → x = y := fun x y hx hy => hi x y (hua ▸ hx) (hua ▸ hy)
 have ho7 : ∀ x, x < 7 → (kt0 w.params).get (a x) = none := fun x hx => ho x (hua ▸ hx)
 have hpl : ∀ q ∈ lexAt w.params K S B a p (stOf ws ts) tt t3, h.get? (a q.1) = some q.2 := fun q hq => hp q (List.mem_append_left _ hq)
 have hf : h.get? (a 6) = some (cntFr (a 0) (hh0 w.params) t y ty 0 (t 3) none (Array.mk [])) := hp (6, _) (List.mem_append_right _ (.head _))
 have Z0 := lexAt_starts (K := K) (S := S) hpl hi6 hB fun x hx => ho x (hua ▸ Nat.lt_succ_of_lt hx)
 have n6 : a 6 ∉ (lexOf K S a).as := fun hm => by
  rw [lexOf_as] at hm
  obtain ⟨x, hx, e⟩ := List.mem_map.mp hm
  have hx := List.mem_range.mp hx
  have := hi7 x 6 (by omega) (by omega) e
  omega
 have Z : Starts (kt0 w.params) h ((lexOf K S a).as ++ [a 6]) (cxs w.params (lexOf K S a) B p (stOf ws ts) tt t3 (cntFr (a 0) (hh0 w.params) t y ty 0 (t 3) none (Array.mk []))) := Z0.snoc hf n6 (ho7 6 (by omega))
 refine count_loop (L := lexOf K S a) (by omega) (hh rfl) hl h2 y ty hy1 hy2 ws hws (hno rfl).1 h1 (c := 0) ⟨_, _, _, _, _, rfl, (htk 3 (by show 3 < ut.length; omega)).1⟩ ⟨Z, hs, ht, h3, hR⟩ fun h' t' p' ts' tt' t3' fo' n Z' CF Kb => ?_
 obtain ⟨hh', k', kc', i', sl', rfl, hkc⟩ := CF
 have hp' : p' = B.length := by
  have := Z'.R.2
  simp only [line, List.length_nil, Nat.add_zero] at this
  exact this
 subst hp'
 have S6 := lexAt_of (Starts.init (as := (lexOf K S a).as) Z'.S rfl)
 have e6 : h'.get? (a 6) = some (cntFr (a 0) hh' k' y ty (0 + (cnt y ws : Nat)) kc' i' sl') := Z'.S.get (j := 6) rfl rfl
 have notF : ∀ j y, (j, y) ∈ lexAt w.params K S B a p (stOf ws ts) tt t3 → isFr y = false := fun j y hm => by
  have hx : y ∈ (lexOf K S a).objs w.params B p (stOf ws ts) tt t3 := by
   have := List.mem_map_of_mem (f := Prod.snd) hm
   exact this
  exact Lx.noFr _ y hx
 refine C h' t' g dr os [ts', tt', t3', kc'] [] (plOf hh' k' i') rfl (four_ne hup Z'.hs Z'.ht Z'.h3 hkc) n (GP.le0 hup) rfl (fun q => by cases q) gg ⟨fun c x ec nn q => ?_, fun _ c x ec nn q => ?_, fun q hq => ?_, (fun j x e => by cases e), fun i j hi => absurd hi (Nat.not_lt_zero _), Kb.size⟩
 ·have m6 : a 6 ≠ c := nn (6, _) (.tail _ (.tail _ (.head _)))
  refine keep_lex2 hpl S6 c x ec (nn (1, _) (.head _)) (nn (3, _) (.tail _ (.head _))) fun hm => Kb.keep c x ec (fun hm' => ?_) fun _ => q rfl
  rcases List.mem_append.mp hm' with hm' | hm'
  ·exact hm hm'
  ·exact m6 (List.mem_singleton.mp hm').symm
 ·have m6 : a 6 ≠ c := nn (6, _) (.tail _ (.tail _ (.head _)))
  refine Kb.fr c x ec (fun hm => ?_) q
  rcases List.mem_append.mp hm with hm | hm
  ·have := Z0.noFr (Lx.noFr _) c hm x ec
   rw [q] at this
   cases this
  ·exact m6 (List.mem_singleton.mp hm).symm
 ·have hq : q ∈ [(1, lexDict w.params K (a 2) (a 4) (a 5) (stOf [] ts') tt'), (3, sioDict w.params S B ((B.length : Nat) : Int) t3'), (6, finFr (a 0) y ty (cnt y ws : Nat) kc' (plOf hh' k' i') (slA (kCnt w.params K S B p (stOf ws ts) tt t3 B.length (stOf []) ua ut y ty (cnt y ws)) a h' 6))] := hq
  rcases List.mem_cons.mp hq with rfl | hq
  ·exact S6 (1, _) (.tail _ (.head _))
  ·rcases List.mem_cons.mp hq with rfl | hq
   ·exact S6 (3, _) (.tail _ (.tail _ (.tail _ (.head _))))
   ·rcases List.mem_cons.mp hq with rfl | hq
    ·have es : slA (kCnt w.params K S B p (stOf ws ts) tt t3 B.length (stOf []) ua ut y ty (cnt y ws)) a h' 6 = sl' := by
      have z := nthD_lt (l := ua) (k := 6) (by omega)
      show (match nth ua 6 with | some _ => (match h'.get? (a 6) with | some y => y.slots | none => #[]) | none => #[]) = sl'
      rw [z.1, e6]
      cases i' <;> rfl
     show h'.get? (a 6) = _
     rw [e6, es, finFr_eq, Int.zero_add]
    ·cases hq
noncomputable def enObj (La : Addr) (tup : Value) (c : Int) (old : Value) : Obj := ⟨.type "enumerate", none, .fields (Array.mk [tup, .bool false, .ref La, .int c 0, .none, old]), Array.mk []⟩
noncomputable def idxEs (La : Addr) (hh : Nat → Int) (k : Nat → Tok) (y : Str) (ty : Tok) (ij : Option (Int × Tok × Str × Tok)) : List DictEntry := [eh hh k 0 "a" (.ref La), eh hh k 1 "b" (.str y ty)] ++ match ij with
 | none => []
 | some (i, ti, x, tx) => [eh hh k 2 "i" (.int i ti), eh hh k 3 "j" (.str x tx)]
noncomputable def idxFr (La : Addr) (hh : Nat → Int) (k : Nat → Tok) (y : Str) (ty : Tok) (ij : Option (Int × Tok × Str × Tok)) (sl : Array (Option Value)) : Obj := match ij with
 | none => ⟨.type "frame", none, .dict (Array.mk (idxEs La hh k y ty none)) 2, sl⟩
 | some q => ⟨.type "frame", none, .dict (Array.mk (idxEs La hh k y ty (some q))) 4, sl⟩
noncomputable def idxC (P : Params) (e f : Addr) : Code := forCode (o65 P) 65 (.ref e) f
noncomputable def idxEnv (P : Params) (f : Addr) : Env := envFn (o65 P) 65 f
noncomputable def encE (e : DictEntry) : List Value := [.int e.hash 0, e.key, e.val]
noncomputable def kOwnE (ua ut : List Nat) (target : Expr) (La : Addr) (c : Int) (old : (Nat → Tok) → Value) : HK :=
 {ua, ut, nt := 0, nn := 0, noH := false, un := false, noting := false, tgt := fun a _ => .op (.owned target (.ref (a 0)) (.ref (a 1))), pre := fun a t => [(0, enObj La (rawInt (a 1)) c (old t))], post := fun _ t _ _ _ _ => [(0, enObj La .none c (old t))], news := fun _ _ _ _ _ _ => [], res := fun _ _ _ _ _ _ => .ok .next }
theorem kOwnE_wf {ua ut target La c old} (hn : ua.Nodup) (hl : 0 < ua.length) : HKwf (kOwnE ua ut target La c old) :=
 ⟨hn, fun a t u b sl pl q h => (by
  cases h with
  | head => exact ⟨hl, _, .head _⟩
  | tail _ h => cases h), fun _ _ _ _ _ _ => by simp [kOwnE], fun a t q h => (by
  cases h with
  | head => exact hl
  | tail _ h => cases h), fun _ _ _ _ _ _ => rfl⟩
noncomputable def tupP : Expr → List Expr × Nat × Pos
 | .Tuple l k p => (l, k, p)
 | _ => ([], 0, default)
noncomputable def IsTup (e : Expr) : Prop := ∃ l k p, e = .Tuple l k p
theorem isTup_of {e : Expr} (h : e = .Tuple (tupP e).1 (tupP e).2.1 (tupP e).2.2) : IsTup e := ⟨_, _, _, h⟩
theorem kOwnE_ok {D U : Nat} {kt : KT} {w : World} {A : Around} {gp : GP} {ua ut target La c old} (hn : IsTup target) : HKok D U kt w A gp (kOwnE ua ut target La c old) := by
 intro a t A' R' h tok g d os hA hh hu hno h1 ht gg hB hp ho hi K
 obtain ⟨elts, x1, pos, rfl⟩ := hn
 have he : IsEnumOut h (a 0) La c (old t) (a 1) := hp (0, _) (.head _)
 refine wpAny_bind (wpAny_letOwnedTupleGo_enum (s := ⟨h, g, d, tok, os⟩) he fun h' he' hs => wpAny_pure ⟨_, rfl, ?_⟩)
 have hs : Heap.SameBut (a 0) h h' := hs
 refine K h' tok g d os [] [] [] rfl (fun u hu => nomatch hu) h1 (fun _ => Nat.le_refl _) rfl (fun _ => rfl) gg ⟨fun x o e n _ => ?_, (fun q => by cases q), fun q hq => ?_, (fun j x e => by cases e), fun i j hi => absurd hi (Nat.not_lt_zero _), Nat.le_of_eq hs.1.symm⟩
 ·exact (hs.2 x fun q => n _ (.head _) q.symm).trans e
 ·cases hq with
  | head => exact he'
  | tail _ hq => cases hq
noncomputable def natV : Value → Nat | .int i _ => i.toNat | _ => 0
noncomputable def decN : Nat → List Value → List DictEntry
 | 0, _ => []
 | n + 1, l => match l with
  | .int h _ :: k :: v :: l => ⟨h, k, v⟩ :: decN n l
  | _ => []
noncomputable def dropN : Nat → List Value → List Value
 | 0, l => l
 | n + 1, l => match l with
  | _ :: _ :: _ :: l => dropN n l
  | _ => []
noncomputable def dropL (n : Nat) (l : List Value) : List Value := match n with
 | 0 => l
 | n + 1 => match l with
  | _ :: l => dropL n l
  | [] => []
noncomputable def frP (pl : List Value) (sl : Array (Option Value)) : Obj := ⟨.type "frame", none, .dict (Array.mk (decN (natV (plv pl 2)) (dropL 3 pl))) (natV (plv pl 2)), sl⟩
noncomputable def tbl (pl : List Value) : List Value := dropN (natV (plv pl 2)) (dropL 3 pl)
noncomputable def encF (v0 old : Value) (es : List DictEntry) (r : List Value) : List Value := v0 :: old :: .int (Int.ofNat es.length) 0 :: (es.flatMap encE ++ r)
noncomputable def lexU : List Nat := [0, 1, 2, 3, 4, 5]
noncomputable def idxXs (P : Params) (K : Nat → Tok) (S : SK) (B : Str) (p : Nat) (st : Value) (tt t3 : Tok) (y : Str) (ty : Tok) (hh : Nat → Int) (kk : (Nat → Tok) → Nat → Tok) (ij : Option (Int × Tok × Str × Tok)) (c : Int) (old : Value) (sl : Array (Option Value)) : XF := fun a t =>
 (lexOf K S a).objs P B p st tt t3 ++ [enObj (a 0) .none c old, idxFr (a 0) hh (kk t) y ty ij sl]
noncomputable def idxH (P : Params) (K : Nat → Tok) (S : SK) (B : Str) (p' : Nat) (st' : Tok → Value) (n : Int) (sl : Array (Option Value)) : PostF := fun a t u b _ pl =>
 (lexOf K S a).objs P B p' (st' (u 0)) (u 1) (u 2) ++ [enObj (a 0) .none (n + 1) (plv pl 1), frP pl sl]
noncomputable def idxE (P : Params) (K : Nat → Tok) (S : SK) (B : Str) (p' : Nat) (n : Int) : PostF := fun a t u b sl pl =>
 (lexOf K S a).objs P B p' .none (u 0) (u 1) ++ [enObj (a 0) .none n (plv pl 1), frP pl (sl 7)]
noncomputable def kIdxH (P : Params) (K : Nat → Tok) (S : SK) (B : Str) (p : Nat) (st : Value) (tt t3 : Tok) (p' : Nat) (st' : Tok → Value) (ua ut : List Nat) (y : Str) (ty : Tok) (hh : Nat → Int) (kk : (Nat → Tok) → Nat → Tok) (ij : Option (Int × Tok × Str × Tok)) (c : Int) (old : Value) (n : Int) (sl : Array (Option Value)) : HK :=
 mkK ua ut 4 0 true true (fun a => [a 7]) (fun a _ => idxC P (a 6) (a 7)) (idxXs P K S B p st tt t3 y ty hh kk ij c old sl) (idxH P K S B p' st' n sl) (fun _ _ _ _ _ _ => []) (fun _ _ u _ _ _ => .ok (.ret (.int n (u 3))))
noncomputable def kIdxE (P : Params) (K : Nat → Tok) (S : SK) (B : Str) (p : Nat) (st : Value) (tt t3 : Tok) (p' : Nat) (ua ut : List Nat) (y : Str) (ty : Tok) (hh : Nat → Int) (kk : (Nat → Tok) → Nat → Tok) (ij : Option (Int × Tok × Str × Tok)) (c : Int) (old : Value) (n : Int) (sl : Array (Option Value)) : HK :=
 mkK ua ut 2 2 true true (fun a => [a 7]) (fun a _ => idxC P (a 6) (a 7)) (idxXs P K S B p st tt t3 y ty hh kk ij c old sl) (idxE P K S B p' n) (fun a _ _ b _ pl => [excObj "ValueError" (plv pl 0) (.ref (b 1)), tbObj .none (a 7) (rawInt (a 7)) (tbl pl)]) (fun _ _ _ b _ _ => .error (.ref (b 0)))
noncomputable def ks_ix (P : Params) (K : Nat → Tok) (S : SK) (B : Str) (p : Nat) (ts tt t3 : Tok) (x : Str) (p' : Nat) (st' : Tok → Value) (La : Addr) (c : Int) (ut : List Nat) (fr : (Nat → Tok) → Obj) (v : Bool) : List HQ :=
 [(kNext P K S B p ts tt t3 x p' st' lexU).q, (kOwnE [6, 8] [0] (forTarget (o65 P)) La (c + 1) (fun t => .str x (t 0))).q, (kTest [7] ut (forTest (o65 P)) (idxEnv P) (fun _ t => fr t) v).q]
noncomputable def ks_ixE (P : Params) (K : Nat → Tok) (S : SK) (B : Str) (p : Nat) (tt t3 : Tok) : List HQ := [(kEnd P K S B p tt t3 lexU).q, (kNote0 [10, 7, 11] [] "ValueError" (fun a => idxEnv P (a 1)) (fun a => .ref (a 2))).q]
noncomputable def ce_ixH : List Nat := decs [Nhj, Nhk, Nhl, Nhm, 33558536]
noncomputable def ce_ixM : List Nat := decs [Nhj, Nhk, Nhl, Nhm, 4198502408]
noncomputable def ce_ixE : List Nat := decs [5444541799435087973167119837852566944743431, 514699894648411621944971476547078947362260918468608, 2097154059]
noncomputable def hIJ (P : Params) (hh : Nat → Int) : Nat → Int := put (put hh 2 (hashZ P (o "i"))) 3 (hashZ P (o "j"))
noncomputable def kIJ (k : Nat → Tok) (ti tj : Tok) : Nat → Tok := put (put k 2 ti) 3 tj
noncomputable def fr0 (P : Params) (La : Addr) (hh : Nat → Int) (k : Nat → Tok) (y : Str) (ty : Tok) (x : Str) (c : Int) (sl : Array (Option Value)) (t : Nat → Tok) : Obj := idxFr La (hIJ P hh) (kIJ k (t 2) (t 3)) y ty (some (c, t 1, x, t 0)) sl
noncomputable def fr1 (La : Addr) (hh : Nat → Int) (k : Nat → Tok) (y : Str) (ty : Tok) (x : Str) (c : Int) (sl : Array (Option Value)) (t : Nat → Tok) : Obj := idxFr La hh k y ty (some (c, t 1, x, t 0)) sl
noncomputable def idx (y : Str) : List Nat → Option Nat
 | [] => none
 | k :: ws => if (txt k == y) = true then some 0 else (idx y ws).map (· + 1)
theorem idxEnv_kind (P : Params) (f : Addr) : (idxEnv P f).scope.kind = .function := by kernel_rfl
theorem idxEnv_j (P : Params) (f : Addr) : (idxEnv P f).kindOf (o "j") = some .local := by kernel_rfl
theorem idxEnv_b (P : Params) (f : Addr) : (idxEnv P f).kindOf (o "b") = some .local := by kernel_rfl
theorem idxEnv_loc (P : Params) (f : Addr) : (idxEnv P f).locals = f := by kernel_rfl
theorem idxEnv_fr (P : Params) (f : Addr) : (idxEnv P f).frame = some f := by kernel_rfl
theorem idxTest (P : Params) : IsOr (forTest (o65 P)) (o "j") (o "b") := isOr_of (by kernel_rfl)
theorem idxTarget (P : Params) : IsTup (forTarget (o65 P)) := isTup_of (by kernel_rfl)
theorem idxFr_j (La : Addr) (hh : Nat → Int) (k : Nat → Tok) (y : Str) (ty : Tok) (c : Int) (ti : Tok) (x : Str) (tx : Tok) (sl : Array (Option Value)) : ∃ es ep, (idxFr La hh k y ty (some (c, ti, x, tx)) sl).data = .dict es ep ∧ strKeysB es = true ∧ nsFind es (o "j") = some (.str x tx) ∧ nsFind es (o "b") = some (.str y ty) :=
 ⟨_, _, rfl, by kernel_rfl, by kernel_rfl, by kernel_rfl⟩
theorem ks_ix_wf {P K S B p ts tt t3 x p' st' La c ut fr v} : ∀ q ∈ ks_ix P K S B p ts tt t3 x p' st' La c ut fr v, ∀ q', HKwf (q.k q') := by
 intro q hq q'
 simp only [ks_ix, memC, memN, or_false] at hq
 rcases hq with rfl | rfl | rfl
 ·exact kNext_wf (by decide) rfl
 ·exact kOwnE_wf (by decide) (by decide)
 ·exact kTest_wf (by decide) (by decide)
theorem ks_ix_ok {w : World} {r : Bool} {A : Around} {gp : GP} (hup : gp.up = false) (hD : A.depth + 210 ≤ recursionLimit) {K S B p ts tt t3 k ws La c ut fr v y ty} (hk : k < 6) (hl : B.length < 1000000) (h2 : gp.n < S.t2) (hs : gp.n < ts) (ht : gp.n < tt) (h3 : gp.n < t3) (hR : Rest B p (k :: ws)) (hy1 : ty ≠ 0) (hy2 : ty ≤ gp.n)
  (hut : 0 < ut.length) (hv : (txt k == y) = v) (hfr : ∀ t, ∃ es ep, (fr t).data = .dict es ep ∧ strKeysB es = true ∧ nsFind es (o "j") = some (.str (txt k) (t 0)) ∧ nsFind es (o "b") = some (.str y ty)) :
  ∀ q ∈ ks_ix w.params K S B p ts tt t3 (txt k) (p + stepLen k ws) (stOf ws) La c ut fr v, ∀ q', HKok 70 0 (kt0 w.params) (wf w r) A gp (q.k q') := by
 intro q hq q'
 simp only [ks_ix, memC, memN, or_false] at hq
 rcases hq with rfl | rfl | rfl
 ·exact kNext_ok hup rfl (by omega) hk hl h2 hs ht h3 hR
 ·exact kOwnE_ok (idxTarget _)
 ·exact kTest_ok (l := o "j") (m := o "b") (x := txt k) (y := y) (tx := fun _ t => t 0) (ty := ty) (idxTest _) hv (idxEnv_kind _) (idxEnv_j _) (idxEnv_b _) (by decide +kernel) (by decide +kernel) (idxEnv_loc _) (fun _ => hfr) (fun a t ht => ht 0 hut) hy1 hy2
theorem kIdxH_ok {w : World} {r : Bool} {A : Around} {D U : Nat} {gp : GP} (hup : gp.up = false) {K : Nat → Tok} {S : SK} {B : Str} (hl : B.length < 1000000) (h2 : gp.n < S.t2) (hD : A.depth + D + 280 ≤ recursionLimit) {y : Str} {ty : Tok} (hy1 : ty ≠ 0) (hy2 : ty ≤ gp.n) {sl : Array (Option Value)} :
  ∀ (ws : List Nat) (hws : ∀ k ∈ ws, k < 6) (m : Nat) (hm : idx y ws = some m) {p : Nat} {ts tt t3 : Tok} {ut : List Nat} {hh : Nat → Int} {kk : (Nat → Tok) → Nat → Tok} {ij : Option (Int × Tok × Str × Tok)} {c n : Int} {old : Value} (hn : c + m = n) (hs : gp.n < ts) (ht : gp.n < tt) (h3 : gp.n < t3) (hR : Rest B p ws),
   HKok D U (kt0 w.params) (wf w r) A gp (kIdxH w.params K S B p (stOf ws ts) tt t3 (pOf B (after y ws)) (stOf (after y ws)) [0, 1, 2, 3, 4, 5, 6, 7] ut y ty hh kk ij c old n sl)
 | [], hws, m, hm, p, ts, tt, t3, ut, hh, kk, ij, c, n, old, hn, hs, ht, h3, hR => by cases hm
 | k :: ws, hws, m, hm, p, ts, tt, t3, ut, hh, kk, ij, c, n, old, hn, hs, ht, h3, hR => by
  have hp : p + stepLen k ws = pOf B ws := hR.step.pos
  cases hv : (txt k == y) with
  | true =>
   have ea : after y (k :: ws) = ws := if_pos hv
   have em : m = 0 := by
    unfold idx at hm
    rw [if_pos hv] at hm
    exact (Option.some.inj hm).symm
   subst em
   obtain rfl : c = n := by omega
   rw [ea]
   cases ij with
   | none =>
    unfold kIdxH
    refine mk_run (w := wf w r) (noH := true) (noting := true) (A := A) (D := D) (D' := 70) (U' := 0) (ks := fun a t => ks_ix w.params K S B p ts tt t3 (txt k) (p + stepLen k ws) (stOf ws) (a 0) c [0, 4, 5, 6] (fr0 w.params (a 0) hh (kk t) y ty (txt k) c sl) true) (fuel := 1000) (ce := ce_ixH) (e := 1000) (s := 0) (i := 7) (ti := [1, 2, 3, 4]) (bi := []) (fp := [])
     (plf := fun a t Y => encF .none (.str (txt k) (Y.tk 0)) (idxEs (a 0) (hIJ w.params hh) (kIJ (kk t) (Y.tk 5) (Y.tk 6)) y ty (some (c, Y.tk 4, txt k, Y.tk 0))) []) hup rfl rfl (by decide) nilA .nil (.inl rfl) (fun q => by cases q) (fun _ _ => rfl) (fun _ _ _ _ _ _ => rfl) (fun _ _ _ _ _ _ => rfl) (dle ‹_›) (fun q => by cases q) (fun _ _ _ _ _ => .nil) (fun _ _ => ks_ix_wf)
     (fun a t A' g d os hA _ _ => ks_ix_ok (A := A') (ut := [0, 4, 5, 6]) rfl (Nat.le_trans (by omega) hD) (hws k (.head _)) hl h2 hs ht h3 hR hy1 hy2 (by decide) hv fun _ => idxFr_j ..) (fun _ _ => by rfl) ?_
    rw [← hp]
    intro a t hb bf Y hh'
    obtain rfl := hh' rfl
    cases r <;> kernel_rfl
   | some q =>
    obtain ⟨c0, ti0, x0, tx0⟩ := q
    unfold kIdxH
    refine mk_run (w := wf w r) (noH := true) (noting := true) (A := A) (D := D) (D' := 70) (U' := 0) (ks := fun a t => ks_ix w.params K S B p ts tt t3 (txt k) (p + stepLen k ws) (stOf ws) (a 0) c [0, 4] (fr1 (a 0) hh (kk t) y ty (txt k) c sl) true) (fuel := 1000) (ce := ce_ixH) (e := 1000) (s := 0) (i := 7) (ti := [1, 2, 3, 4]) (bi := []) (fp := [])
     (plf := fun a t Y => encF .none (.str (txt k) (Y.tk 0)) (idxEs (a 0) hh (kk t) y ty (some (c, Y.tk 4, txt k, Y.tk 0))) []) hup rfl rfl (by decide) nilA .nil (.inl rfl) (fun q => by cases q) (fun _ _ => rfl) (fun _ _ _ _ _ _ => rfl) (fun _ _ _ _ _ _ => rfl) (dle ‹_›) (fun q => by cases q) (fun _ _ _ _ _ => .nil) (fun _ _ => ks_ix_wf)
     (fun a t A' g d os hA _ _ => ks_ix_ok (A := A') (ut := [0, 4]) rfl (Nat.le_trans (by omega) hD) (hws k (.head _)) hl h2 hs ht h3 hR hy1 hy2 (by decide) hv fun _ => idxFr_j ..) (fun _ _ => by rfl) ?_
    rw [← hp]
    intro a t hb bf Y hh'
    obtain rfl := hh' rfl
    cases r <;> kernel_rfl
  | false =>
   have hv' : ¬ (txt k == y) = true := by rw [hv]; decide
   have ea : after y (k :: ws) = after y ws := if_neg hv'
   obtain ⟨m', em, e2⟩ : ∃ m', idx y ws = some m' ∧ m' + 1 = m := by
    unfold idx at hm
    rw [if_neg hv'] at hm
    exact Option.map_eq_some_iff.mp hm
   rw [ea]
   have IH := fun {p : Nat} {ts tt t3 : Tok} {hh : Nat → Int} {kk : (Nat → Tok) → Nat → Tok} {ij : Option (Int × Tok × Str × Tok)} {old : Value} => kIdxH_ok (w := w) (r := r) (A := A) (D := D) (U := U) (K := K) hup hl h2 hD (y := y) hy1 hy2 (sl := sl) ws (fun q hq => hws q (.tail _ hq)) m' em (p := p) (ts := ts) (tt := tt) (t3 := t3) (ut := []) (hh := hh) (kk := kk) (ij := ij) (c := c + 1) (n := n) (old := old) (by omega)
   cases ij with
   | none =>
    unfold kIdxH
    refine mk_turn (w := wf w r) (noH := true) (noting := true) (A := A) (D := D) (D' := 70) (U' := 0) (ks := fun a t => ks_ix w.params K S B p ts tt t3 (txt k) (p + stepLen k ws) (stOf ws) (a 0) c [0, 4, 5, 6] (fr0 w.params (a 0) hh (kk t) y ty (txt k) c sl) false) (fuel := 1000) (ce := ce_ixM) (e := 1000) (s := 0) (i := 7)
     (fun _ _ a => idxC w.params (a 6) (a 7)) (fun t Y a => idxXs w.params K S B (p + stepLen k ws) (stOf ws (Y.tk 1)) (Y.tk 2) (Y.tk 3) y ty (hIJ w.params hh) (fun _ => kIJ (kk t) (Y.tk 5) (Y.tk 6)) (some (c, Y.tk 4, txt k, Y.tk 0)) (c + 1) (.str (txt k) (Y.tk 0)) sl a t)
     hup (.inl rfl) (fun q => by cases q) (fun _ _ => rfl) (fun _ _ _ _ _ _ => rfl) (fun _ _ _ => rfl) (by omega) (fun _ _ => ks_ix_wf)
     (fun a t A' g d os hA _ _ => ks_ix_ok (A := A') (ut := [0, 4, 5, 6]) rfl (Nat.le_trans (by omega) hD) (hws k (.head _)) hl h2 hs ht h3 hR hy1 hy2 (by decide) hv fun _ => idxFr_j ..) (fun _ _ => by rfl) (fun _ _ _ => by kernel_rfl) (fun t Y hy _ => ?_) ?_
    ·exact IH (hy 1 (by decide)) (hy 2 (by decide)) (hy 3 (by decide)) hR.step
    ·intro a t hb bf Y hh'
     obtain rfl := hh' rfl
     cases r <;> kernel_rfl
   | some q =>
    obtain ⟨c0, ti0, x0, tx0⟩ := q
    unfold kIdxH
    refine mk_turn (w := wf w r) (noH := true) (noting := true) (A := A) (D := D) (D' := 70) (U' := 0) (ks := fun a t => ks_ix w.params K S B p ts tt t3 (txt k) (p + stepLen k ws) (stOf ws) (a 0) c [0, 4] (fr1 (a 0) hh (kk t) y ty (txt k) c sl) false) (fuel := 1000) (ce := ce_ixM) (e := 1000) (s := 0) (i := 7)
     (fun _ _ a => idxC w.params (a 6) (a 7)) (fun t Y a => idxXs w.params K S B (p + stepLen k ws) (stOf ws (Y.tk 1)) (Y.tk 2) (Y.tk 3) y ty hh (fun _ => kk t) (some (c, Y.tk 4, txt k, Y.tk 0)) (c + 1) (.str (txt k) (Y.tk 0)) sl a t)
     hup (.inl rfl) (fun q => by cases q) (fun _ _ => rfl) (fun _ _ _ _ _ _ => rfl) (fun _ _ _ => rfl) (by omega) (fun _ _ => ks_ix_wf)
     (fun a t A' g d os hA _ _ => ks_ix_ok (A := A') (ut := [0, 4]) rfl (Nat.le_trans (by omega) hD) (hws k (.head _)) hl h2 hs ht h3 hR hy1 hy2 (by decide) hv fun _ => idxFr_j ..) (fun _ _ => by rfl) (fun _ _ _ => by kernel_rfl) (fun t Y hy _ => ?_) ?_
    ·exact IH (hy 1 (by decide)) (hy 2 (by decide)) (hy 3 (by decide)) hR.step
    ·intro a t hb bf Y hh'
     obtain rfl := hh' rfl
     cases r <;> kernel_rfl
theorem ks_ixE_ok {w : World} {r : Bool} {A : Around} {gp : GP} (hup : gp.up = false) (hD : A.depth + 210 ≤ recursionLimit) {K S B p tt t3} (hl : B.length < 1000000) (h2 : gp.n < S.t2) (ht : gp.n < tt) (h3 : gp.n < t3) (he : p = B.length) :
  ∀ q ∈ ks_ixE w.params K S B p tt t3, ∀ q', HKok 70 0 (kt0 w.params) (wf w r) A gp (q.k q') := by
 intro q hq q'
 simp only [ks_ixE, memC, memN, or_false] at hq
 rcases hq with rfl | rfl
 ·exact kEnd_ok hup rfl (by omega) hl h2 ht h3 he
 ·exact kNote0_ok (by decide +kernel) fun a => idxEnv_fr w.params (a 1)
theorem ks_ixE_wf {P K S B p tt t3} : ∀ q ∈ ks_ixE P K S B p tt t3, ∀ q', HKwf (q.k q') := by
 intro q hq q'
 simp only [ks_ixE, memC, memN, or_false] at hq
 rcases hq with rfl | rfl
 ·exact kEnd_wf (by decide) rfl
 ·exact kNote0_wf (by decide) (by decide)
theorem after_none {y : Str} : ∀ {ws : List Nat}, idx y ws = none → after y ws = []
 | [], _ => rfl
 | k :: ws, h => by
  unfold idx at h
  unfold after
  split at h
  ·cases h
  ·rename_i q
   rw [if_neg q]
   exact after_none (by simpa using h)
theorem frm_ix {P : Params} {K : Nat → Tok} {S : SK} {B : Str} {p' : Nat} {n : Int} {ua ut : List Nat} {frs : (Nat → Addr) → List Addr} {c : (Nat → Addr) → (Nat → Tok) → Code} {xs : XF} (hua : ua.length = 8) (a : Nat → Addr) (t u : Nat → Tok) (b : Nat → Addr) (pl : List Value) :
  Frm (mkK ua ut 2 2 true true frs c xs (idxE P K S B p' n) (fun a _ _ b _ pl => [excObj "ValueError" (plv pl 0) (.ref (b 1)), tbObj .none (a 7) (rawInt (a 7)) (tbl pl)]) (fun _ _ _ b _ _ => .error (.ref (b 0)))) ua.length [7]
   (fun sl => idxE P K S B p' n a t u b sl pl) (fun _ => [excObj "ValueError" (plv pl 0) (.ref (b 1)), tbObj .none (a 7) (rawInt (a 7)) (tbl pl)]) (fun _ => .error (.ref (b 0))) :=
 ⟨fun j hj => by
  rw [List.mem_singleton] at hj
  subst hj
  exact ⟨rfl, by omega⟩, fun sl j hj => by
  rw [List.mem_singleton] at hj
  subst hj
  exact ⟨_, rfl, rfl⟩, fun sl sl' h => ⟨by
  unfold idxE
  rw [h 7 (.head _)], rfl, rfl⟩⟩
theorem kIdxE_ok {w : World} {r : Bool} {A : Around} {D U : Nat} {gp : GP} (hup : gp.up = false) {K : Nat → Tok} {S : SK} {B : Str} (hl : B.length < 1000000) (h2 : gp.n < S.t2) (hD : A.depth + D + 280 ≤ recursionLimit) {y : Str} {ty : Tok} (hy1 : ty ≠ 0) (hy2 : ty ≤ gp.n) {sl : Array (Option Value)} :
  ∀ (ws : List Nat) (hws : ∀ k ∈ ws, k < 6) (hm : idx y ws = none) {p : Nat} {ts tt t3 : Tok} {ut : List Nat} {hh : Nat → Int} {kk : (Nat → Tok) → Nat → Tok} {ij : Option (Int × Tok × Str × Tok)} {c n : Int} {old : Value} (hn : c + ws.length = n) (hs : gp.n < ts) (ht : gp.n < tt) (h3 : gp.n < t3) (hR : Rest B p ws),
   HKok D U (kt0 w.params) (wf w r) A gp (kIdxE w.params K S B p (stOf ws ts) tt t3 B.length [0, 1, 2, 3, 4, 5, 6, 7] ut y ty hh kk ij c old n sl)
 | [], hws, hm, p, ts, tt, t3, ut, hh, kk, ij, c, n, old, hn, hs, ht, h3, hR => by
  have hp : p = B.length := hR.2
  subst hp
  obtain rfl : c = n := by simpa using hn
  cases ij with
  | none =>
   unfold kIdxE
   refine mk_run (w := wf w r) (noH := true) (noting := true) (A := A) (D := D) (D' := 70) (U' := 0) (ks := fun a t => ks_ixE w.params K S B B.length tt t3) (fuel := 1000) (ce := ce_ixE) (e := 1000) (s := 2) (i := 3) (ti := [0, 1]) (bi := [10, 12]) (fp := [7])
     (plf := fun a t Y => encF (.ref (Y.adr 11)) old (idxEs (a 0) hh (kk t) y ty none) (Y.pl 1)) hup rfl rfl (by decide) (by decide) (by decide) (.inr rfl) (fun q => by cases q) (fun _ _ => rfl) (fun _ _ _ _ _ _ => rfl) (fun _ _ _ _ _ _ => rfl) (dle ‹_›) (fun q => by cases q) (fun a t u b pl => frm_ix rfl a t u b pl) (fun _ _ => ks_ixE_wf)
     (fun a t A' g d os hA _ _ => ks_ixE_ok (A := A') rfl (Nat.le_trans (by omega) hD) hl h2 ht h3 rfl) (fun _ _ => by rfl) ?_
   intro a t hb bf Y hh'
   obtain rfl := hh' rfl
   cases r <;> kernel_rfl
  | some q =>
   obtain ⟨c0, ti0, x0, tx0⟩ := q
   unfold kIdxE
   refine mk_run (w := wf w r) (noH := true) (noting := true) (A := A) (D := D) (D' := 70) (U' := 0) (ks := fun a t => ks_ixE w.params K S B B.length tt t3) (fuel := 1000) (ce := ce_ixE) (e := 1000) (s := 2) (i := 3) (ti := [0, 1]) (bi := [10, 12]) (fp := [7])
     (plf := fun a t Y => encF (.ref (Y.adr 11)) old (idxEs (a 0) hh (kk t) y ty (some (c0, ti0, x0, tx0))) (Y.pl 1)) hup rfl rfl (by decide) (by decide) (by decide) (.inr rfl) (fun q => by cases q) (fun _ _ => rfl) (fun _ _ _ _ _ _ => rfl) (fun _ _ _ _ _ _ => rfl) (dle ‹_›) (fun q => by cases q) (fun a t u b pl => frm_ix rfl a t u b pl) (fun _ _ => ks_ixE_wf)
     (fun a t A' g d os hA _ _ => ks_ixE_ok (A := A') rfl (Nat.le_trans (by omega) hD) hl h2 ht h3 rfl) (fun _ _ => by rfl) ?_
   intro a t hb bf Y hh'
   obtain rfl := hh' rfl
   cases r <;> kernel_rfl
 | k :: ws, hws, hm, p, ts, tt, t3, ut, hh, kk, ij, c, n, old, hn, hs, ht, h3, hR => by
  cases hv : (txt k == y) with
  | true =>
   unfold idx at hm
   rw [if_pos hv] at hm
   cases hm
  | false =>
   have hv' : ¬ (txt k == y) = true := by rw [hv]; decide
   have em : idx y ws = none := by
    unfold idx at hm
    rw [if_neg hv'] at hm
    simpa using hm
   have IH := fun {p : Nat} {ts tt t3 : Tok} {hh : Nat → Int} {kk : (Nat → Tok) → Nat → Tok} {ij : Option (Int × Tok × Str × Tok)} {old : Value} => kIdxE_ok (w := w) (r := r) (A := A) (D := D) (U := U) (K := K) hup hl h2 hD (y := y) hy1 hy2 (sl := sl) ws (fun q hq => hws q (.tail _ hq)) em (p := p) (ts := ts) (tt := tt) (t3 := t3) (ut := []) (hh := hh) (kk := kk) (ij := ij) (c := c + 1) (n := n) (old := old) (by simp only [List.length_cons] at hn; omega)
   cases ij with
   | none =>
    unfold kIdxE
    refine mk_turn (w := wf w r) (noH := true) (noting := true) (A := A) (D := D) (D' := 70) (U' := 0) (ks := fun a t => ks_ix w.params K S B p ts tt t3 (txt k) (p + stepLen k ws) (stOf ws) (a 0) c [0, 4, 5, 6] (fr0 w.params (a 0) hh (kk t) y ty (txt k) c sl) false) (fuel := 1000) (ce := ce_ixM) (e := 1000) (s := 0) (i := 7)
     (fun _ _ a => idxC w.params (a 6) (a 7)) (fun t Y a => idxXs w.params K S B (p + stepLen k ws) (stOf ws (Y.tk 1)) (Y.tk 2) (Y.tk 3) y ty (hIJ w.params hh) (fun _ => kIJ (kk t) (Y.tk 5) (Y.tk 6)) (some (c, Y.tk 4, txt k, Y.tk 0)) (c + 1) (.str (txt k) (Y.tk 0)) sl a t)
     hup (.inl rfl) (fun q => by cases q) (fun _ _ => rfl) (fun _ _ _ _ _ _ => rfl) (fun _ _ _ => rfl) (by omega) (fun _ _ => ks_ix_wf)
     (fun a t A' g d os hA _ _ => ks_ix_ok (A := A') (ut := [0, 4, 5, 6]) rfl (Nat.le_trans (by omega) hD) (hws k (.head _)) hl h2 hs ht h3 hR hy1 hy2 (by decide) hv fun _ => idxFr_j ..) (fun _ _ => by rfl) (fun _ _ _ => by kernel_rfl) (fun t Y hy _ => ?_) ?_
    ·exact IH (hy 1 (by decide)) (hy 2 (by decide)) (hy 3 (by decide)) hR.step
    ·intro a t hb bf Y hh'
     obtain rfl := hh' rfl
     cases r <;> kernel_rfl
   | some q =>
    obtain ⟨c0, ti0, x0, tx0⟩ := q
    unfold kIdxE
    refine mk_turn (w := wf w r) (noH := true) (noting := true) (A := A) (D := D) (D' := 70) (U' := 0) (ks := fun a t => ks_ix w.params K S B p ts tt t3 (txt k) (p + stepLen k ws) (stOf ws) (a 0) c [0, 4] (fr1 (a 0) hh (kk t) y ty (txt k) c sl) false) (fuel := 1000) (ce := ce_ixM) (e := 1000) (s := 0) (i := 7)
     (fun _ _ a => idxC w.params (a 6) (a 7)) (fun t Y a => idxXs w.params K S B (p + stepLen k ws) (stOf ws (Y.tk 1)) (Y.tk 2) (Y.tk 3) y ty hh (fun _ => kk t) (some (c, Y.tk 4, txt k, Y.tk 0)) (c + 1) (.str (txt k) (Y.tk 0)) sl a t)
     hup (.inl rfl) (fun q => by cases q) (fun _ _ => rfl) (fun _ _ _ _ _ _ => rfl) (fun _ _ _ => rfl) (by omega) (fun _ _ => ks_ix_wf)
     (fun a t A' g d os hA _ _ => ks_ix_ok (A := A') (ut := [0, 4]) rfl (Nat.le_trans (by omega) hD) (hws k (.head _)) hl h2 hs ht h3 hR hy1 hy2 (by decide) hv fun _ => idxFr_j ..) (fun _ _ => by rfl) (fun _ _ _ => by kernel_rfl) (fun t Y hy _ => ?_) ?_
    ·exact IH (hy 1 (by decide)) (hy 2 (by decide)) (hy 3 (by decide)) hR.step
    ·intro a t hb bf Y hh'
     obtain rfl := hh' rfl
     cases r <;> kernel_rfl
noncomputable def tbO (head fr flight : Value) (rest : List Value) : Obj := ⟨.type "traceback", none, .fields (Array.mk (head :: fr :: .none :: flight :: .none :: rest)), Array.mk []⟩
section
variable {M : Model} {A : Around} {E : Value → Shared → Prop}
theorem wpAny_note1 {s : Shared} {env : Env} {f e t0 : Addr} {oe ot : Obj} {vs ts : Array Value} {Q : Unit → Shared → Prop} (hf : env.frame = some f) (he : s.heap.get? e = some oe) (hd : oe.data = .fields vs) (h1 : vs[1]? = some (.ref t0))
  (ht : s.heap.get? t0 = some ot) (htd : ot.data = .fields ts) (h3 : ts[3]? = some (rawInt f)) (h : Q () s) : wpAny M A (noteFrame (.ref e) env) Q E s := by
 unfold noteFrame
 simp only [hf]
 refine wpAny_bind (wpAny_field he hd h1 ?_)
 rw [if_pos (show (Value.ref t0 != Value.none) = true from by simp)]
 refine wpAny_bind (wpAny_field ht htd h3 ?_)
 rw [if_pos (show (rawInt (f : Nat) == rawInt (f : Nat)) = true from by simp)]
 exact wpAny_pure h
end
noncomputable def kNote1 (ua : List Nat) (cls : String) (env : (Nat → Addr) → Env) (v0 head : Value) (rest : List Value) : HK :=
 {ua, ut := [], nt := 0, nn := 0, noH := false, un := false, noting := false, tgt := fun a _ => .op (.note (.ref (a 0)) (env a)), pre := fun a _ => [(0, excObj cls v0 (.ref (a 2))), (2, tbO head (.ref (a 1)) (rawInt (a 1)) rest)], post := fun _ _ _ _ _ _ => [], news := fun _ _ _ _ _ _ => [], res := fun _ _ _ _ _ _ => .ok .next }
theorem kNote1_wf {ua cls env v0 head rest} (hn : ua.Nodup) (hl : 2 < ua.length) : HKwf (kNote1 ua cls env v0 head rest) :=
 ⟨hn, fun _ _ _ _ _ _ _ h => (nomatch h), fun _ _ _ _ _ _ => List.nodup_nil, fun a t q h => (by
  cases h with
  | head => exact Nat.lt_of_le_of_lt (Nat.zero_le _) hl
  | tail _ h => cases h with
   | head => exact hl
   | tail _ h => cases h), fun _ _ _ _ _ _ => rfl⟩
theorem kNote1_ok {D U : Nat} {kt : KT} {w : World} {A : Around} {gp : GP} {ua cls env v0 head rest} (he : ∀ a, (env a).frame = some (a 1)) : HKok D U kt w A gp (kNote1 ua cls env v0 head rest) := by
 intro a t A' R' h tok g d os hA hh hu hno h1 ht gg hB hp ho hi K
 have p0 := hp (0, excObj cls v0 (.ref (a 2))) (.head _)
 have p2 := hp (2, tbO head (.ref (a 1)) (rawInt (a 1)) rest) (.tail _ (.head _))
 refine wpAny_bind (wpAny_note1 (s := ⟨h, g, d, tok, os⟩) (he a) p0 rfl rfl p2 rfl rfl (wpAny_pure ⟨_, rfl, ?_⟩))
 exact K h tok g d os [] [] [] rfl (fun u hu => nomatch hu) h1 (fun _ => Nat.le_refl _) rfl (fun _ => rfl) gg (After.refl rfl rfl rfl rfl)
noncomputable def kNote2 (ua : List Nat) (cls : String) (env : (Nat → Addr) → Env) (v0 head fr : Value) (rest : List Value) : HK :=
 {ua, ut := [], nt := 0, nn := 1, noH := false, un := false, noting := true, frs := fun a => [a 1], tgt := fun a _ => .op (.note (.ref (a 0)) (env a)), pre := fun a _ => [(0, excObj cls v0 (.ref (a 2))), (2, tbO head fr .none rest)],
  post := fun a _ _ b _ _ => [(0, excObj cls v0 (.ref (b 0)))], news := fun a _ _ _ _ pl => [tbObj (.ref (a 2)) (a 1) (rawInt (a 1)) pl], res := fun _ _ _ _ _ _ => .ok .next }
theorem kNote2_wf {ua cls env v0 head fr rest} (hn : ua.Nodup) (hl : 2 < ua.length) : HKwf (kNote2 ua cls env v0 head fr rest) :=
 ⟨hn, fun a t u b sl pl q h => (by
  cases h with
  | head => exact ⟨Nat.lt_of_le_of_lt (Nat.zero_le _) hl, _, .head _⟩
  | tail _ h => cases h), fun _ _ _ _ _ _ => by simp [kNote2], fun a t q h => (by
  cases h with
  | head => exact Nat.lt_of_le_of_lt (Nat.zero_le _) hl
  | tail _ h => cases h with
   | head => exact hl
   | tail _ h => cases h), fun _ _ _ _ _ _ => rfl⟩
theorem kNote2_ok {D U : Nat} {kt : KT} {w : World} {A : Around} {gp : GP} {ua cls env v0 head fr rest} (hl : 2 < ua.length) (hcls : isFr (excObj cls .none .none) = false) (he : ∀ a, (env a).frame = some (a 1)) : HKok D U kt w A gp (kNote2 ua cls env v0 head fr rest) := by
 intro a t A' R' h tok g dr os hA hh hu hno h1 ht gg hB hp ho hi K
 obtain ⟨F, I⟩ := hno rfl
 have p0 := hp (0, excObj cls v0 (.ref (a 2))) (.head _)
 have p2 := hp (2, tbO head fr .none rest) (.tail _ (.head _))
 have hfr : isFr (excObj cls v0 (.ref (a 2))) = false := hcls
 have htf : isFr (tbO head fr .none rest) = false := by kernel_rfl
 have ne : a 2 ≠ a 0 := fun q => by
  have := hi 2 0 hl (Nat.lt_of_le_of_lt (Nat.zero_le _) hl) q
  exact absurd this (by decide)
 refine wpAny_bind (wpAny_note2 (s := ⟨h, g, dr, tok, os⟩) F (I (a 1) (.head _)) (he a) p0 rfl rfl hfr p2 rfl rfl htf ne fun h₁ h' tb pl e1 N => wpAny_pure ⟨_, rfl, ?_⟩)
 have hs : Heap.SameBut (a 2) h h₁ := by rw [e1]; exact .update ..
 have e2 : h₁.get? (a 2) = some (tbO head fr .none rest) := by
  have z := Heap.get?_update_self (Obj.mapFields (·.setIfInBounds 3 .none)) p2 (Obj.isFreed_of_fields (Obj.data_mapFields (vs := Array.mk (head :: fr :: .none :: .none :: .none :: rest)) rfl _))
  rw [e1]
  exact z
 have same1 : ∀ b x, h.get? b = some x → h₁.get? b = some x := fun b x e => by
  by_cases q : b = a 2
  ·subst q
   rw [p2] at e
   rw [e2]
   exact e
  ·exact (hs.2 b q).trans e
 refine K h' tok g dr os [] [tb] pl rfl (fun u hu => nomatch hu) h1 (fun _ => Nat.le_refl _) rfl (fun q => by cases q) gg ⟨fun c x e n q => ?_, fun _ c x e n q => N.fr c x (same1 c x e) q, fun q hq => ?_, fun j x e => ?_, fun i j hi hj _ => ?_, Nat.le_trans (Nat.le_of_eq hs.1.symm) N.size⟩
 ·exact N.same c x (fun q' => n _ (.head _) q'.symm) (same1 c x e) (q rfl)
 ·cases hq with
  | head => exact N.exc
  | tail _ hq => cases hq
 ·cases j with
  | zero => cases e; exact ⟨N.ent, Nat.le_trans (Nat.le_of_eq hs.1.symm) N.new⟩
  | succ j => cases e
 ·have hi : i < 1 := hi
  have hj : j < 1 := hj
  omega
noncomputable def indexC (a : Addr) (y : Str) (ty : Tok) : Code := .call (.ref 65) ⟨[.ref a, .str y ty], []⟩
noncomputable def lexXs (P : Params) (K : Nat → Tok) (S : SK) (B : Str) (p : Nat) (st : Value) (tt t3 : Tok) : XF := fun a _ => (lexOf K S a).objs P B p st tt t3
noncomputable def lexYs (P : Params) (K : Nat → Tok) (S : SK) (B : Str) (p' : Nat) (st' : Tok → Value) : PostF := fun a _ u _ _ _ => (lexOf K S a).objs P B p' (st' (u 0)) (u 1) (u 2)
noncomputable def lexYE (P : Params) (K : Nat → Tok) (S : SK) (B : Str) (p' : Nat) : PostF := fun a _ u _ _ _ => (lexOf K S a).objs P B p' .none (u 0) (u 1)
noncomputable def kIndexH (P : Params) (K : Nat → Tok) (S : SK) (B : Str) (p : Nat) (st : Value) (tt t3 : Tok) (p' : Nat) (st' : Tok → Value) (ua : List Nat) (y : Str) (ty : Tok) (n : Int) : HK :=
 mkK ua [] 4 0 true true (fun _ => []) (fun a _ => indexC (a 0) y ty) (lexXs P K S B p st tt t3) (lexYs P K S B p' st') (fun _ _ _ _ _ _ => []) (fun _ _ u _ _ _ => .ok (.ret (.int n (u 3))))
noncomputable def excNews : PostF := fun _ _ _ b _ pl => [excObj "ValueError" (plv pl 0) (.ref (b 1)), tbO .none (plv pl 1) .none (dropL 2 pl)]
noncomputable def kIndexE (P : Params) (K : Nat → Tok) (S : SK) (B : Str) (p : Nat) (st : Value) (tt t3 : Tok) (p' : Nat) (ua : List Nat) (y : Str) (ty : Tok) : HK :=
 mkK ua [] 2 2 true true (fun _ => []) (fun a _ => indexC (a 0) y ty) (lexXs P K S B p st tt t3) (lexYE P K S B p') excNews (fun _ _ _ b _ _ => .error (.ref (b 0)))
noncomputable def hhAB (P : Params) (j : Nat) : Int := match j with | 0 => hashZ P (o "a") | _ => hashZ P (o "b")
noncomputable def ks_xh (P : Params) (K : Nat → Tok) (S : SK) (B : Str) (p : Nat) (st : Value) (tt t3 : Tok) (p' : Nat) (st' : Tok → Value) (y : Str) (ty : Tok) (n : Int) : List HQ :=
 [(kIdxH P K S B p st tt t3 p' st' [0, 1, 2, 3, 4, 5, 8, 6] [0, 1] y ty (hhAB P) (fun t => t) none 0 .none n (Array.mk [])).q]
noncomputable def ks_xe (P : Params) (K : Nat → Tok) (S : SK) (B : Str) (p : Nat) (st : Value) (tt t3 : Tok) (p' : Nat) (y : Str) (ty : Tok) (n : Int) : List HQ :=
 [(kIdxE P K S B p st tt t3 p' [0, 1, 2, 3, 4, 5, 8, 6] [0, 1] y ty (hhAB P) (fun t => t) none 0 .none n (Array.mk [])).q, ⟨[0], fun q => kNote1 [9, 6, 10] "ValueError" (fun a => idxEnv P (a 1)) (plv (q 0) 0) .none (tbl (q 0))⟩]
noncomputable def ce_xh : List Nat := decs [Nhn, Nho, 18611793793847150703371354865229907968]
noncomputable def ce_xe : List Nat := decs [Nhn, Nho, 514677047475055385235575941700538276737382254397440, 193608577714187]
theorem kIdxH_wf {P K S B p st tt t3 p' st' ua ut y ty hh kk ij c old n sl} (hn : ua.Nodup) (hl : ua.length = 8) : HKwf (kIdxH P K S B p st tt t3 p' st' ua ut y ty hh kk ij c old n sl) :=
 mk_wf hn (fun _ _ => hl.symm ▸ rfl) (fun _ _ _ _ _ _ => hl.symm ▸ rfl) fun _ _ _ _ _ _ => rfl
theorem kIdxE_wf {P K S B p st tt t3 p' ua ut y ty hh kk ij c old n sl} (hn : ua.Nodup) (hl : ua.length = 8) : HKwf (kIdxE P K S B p st tt t3 p' ua ut y ty hh kk ij c old n sl) :=
 mk_wf hn (fun _ _ => hl.symm ▸ rfl) (fun _ _ _ _ _ _ => hl.symm ▸ rfl) fun _ _ _ _ _ _ => rfl
theorem kIndexH_wf {P K S B p st tt t3 p' st' ua y ty n} (hn : ua.Nodup) (hl : ua.length = 6) : HKwf (kIndexH P K S B p st tt t3 p' st' ua y ty n) :=
 mk_wf hn (fun _ _ => hl.symm ▸ rfl) (fun _ _ _ _ _ _ => hl.symm ▸ rfl) fun _ _ _ _ _ _ => rfl
theorem kIndexE_wf {P K S B p st tt t3 p' ua y ty} (hn : ua.Nodup) (hl : ua.length = 6) : HKwf (kIndexE P K S B p st tt t3 p' ua y ty) :=
 mk_wf hn (fun _ _ => hl.symm ▸ rfl) (fun _ _ _ _ _ _ => hl.symm ▸ rfl) fun _ _ _ _ _ _ => rfl
theorem kIndexH_ok {w : World} {r : Bool} {A : Around} {D U : Nat} {gp : GP} (hup : gp.up = false) {K : Nat → Tok} {S : SK} {B : Str} (hl : B.length < 1000000) (h2 : gp.n < S.t2) (hD : A.depth + D + 420 ≤ recursionLimit) {y : Str} {ty : Tok} (hy1 : ty ≠ 0) (hy2 : ty ≤ gp.n)
  {ws : List Nat} (hws : ∀ k ∈ ws, k < 6) {m : Nat} (hm : idx y ws = some m) {p : Nat} {ts tt t3 : Tok} (hs : gp.n < ts) (ht : gp.n < tt) (h3 : gp.n < t3) (hR : Rest B p ws) :
  HKok D U (kt0 w.params) (wf w r) A gp (kIndexH w.params K S B p (stOf ws ts) tt t3 (pOf B (after y ws)) (stOf (after y ws)) lexU y ty m) := by
 unfold kIndexH
 refine mk_run (w := wf w r) (noH := true) (noting := true) (A := A) (D := D) (D' := 70) (U' := 0) (ks := fun a t => ks_xh w.params K S B p (stOf ws ts) tt t3 (pOf B (after y ws)) (stOf (after y ws)) y ty m) (fuel := 2000) (ce := ce_xh) (e := 1) (s := 1) (i := 7) (ti := [3, 4, 5, 6]) (bi := []) (fp := [])
  (plf := fun _ _ _ => []) hup rfl rfl (by decide) nilA .nil (.inr rfl) (fun q => by cases q) (fun _ _ => rfl) (fun _ _ _ _ _ _ => rfl) (fun _ _ _ _ _ _ => rfl) (dle ‹_›) (fun q => by cases q) (fun _ _ _ _ _ => .nil) (fun a t q hq q' => ?_) (fun a t A' g d os hA _ _ q hq q' => ?_) (fun _ _ => by rfl) ?_
 ·simp only [ks_xh, memC, memN, or_false] at hq
  rcases hq with rfl
  exact kIdxH_wf (by decide) rfl
 ·simp only [ks_xh, memC, memN, or_false] at hq
  rcases hq with rfl
  exact (kIdxH_ok (A := A') (D := 70) (gp := sameG gp.n g d os) (n := m) rfl hl h2 (Nat.le_trans (by omega) hD) hy1 hy2 ws hws m hm (c := 0) (by simp) hs ht h3 hR).ua (l := [0, 1, 2, 3, 4, 5, 8, 6]) rfl
 ·intro a t hb bf Y hh'
  obtain rfl := hh' rfl
  cases r <;> kernel_rfl
theorem kIndexE_ok {w : World} {r : Bool} {A : Around} {D U : Nat} {gp : GP} (hup : gp.up = false) {K : Nat → Tok} {S : SK} {B : Str} (hl : B.length < 1000000) (h2 : gp.n < S.t2) (hD : A.depth + D + 420 ≤ recursionLimit) {y : Str} {ty : Tok} (hy1 : ty ≠ 0) (hy2 : ty ≤ gp.n)
  {ws : List Nat} (hws : ∀ k ∈ ws, k < 6) (hm : idx y ws = none) {p : Nat} {ts tt t3 : Tok} (hs : gp.n < ts) (ht : gp.n < tt) (h3 : gp.n < t3) (hR : Rest B p ws) :
  HKok D U (kt0 w.params) (wf w r) A gp (kIndexE w.params K S B p (stOf ws ts) tt t3 B.length lexU y ty) := by
 unfold kIndexE
 refine mk_run (w := wf w r) (noH := true) (noting := true) (A := A) (D := D) (D' := 70) (U' := 0) (ks := fun a t => ks_xe w.params K S B p (stOf ws ts) tt t3 B.length y ty ws.length) (fuel := 2000) (ce := ce_xe) (e := 1) (s := 1) (i := 5) (ti := [3, 4]) (bi := [9, 10]) (fp := [])
  (plf := fun _ _ Y => plv (Y.pl 0) 0 :: .ref (Y.adr 6) :: tbl (Y.pl 0)) hup rfl rfl (by decide) (by decide) (by decide) (.inr rfl) (fun q => by cases q) (fun _ _ => rfl) (fun _ _ _ _ _ _ => rfl) (fun _ _ _ _ _ _ => rfl) (dle ‹_›) (fun q => by cases q) (fun _ _ _ _ _ => .nil) (fun a t q hq q' => ?_) (fun a t A' g d os hA _ _ q hq q' => ?_) (fun _ _ => by rfl) ?_
 ·simp only [ks_xe, memC, memN, or_false] at hq
  rcases hq with rfl | rfl
  ·exact kIdxE_wf (by decide) rfl
  ·exact kNote1_wf (by decide) (by decide)
 ·simp only [ks_xe, memC, memN, or_false] at hq
  rcases hq with rfl | rfl
  ·exact (kIdxE_ok (A := A') (D := 70) (gp := sameG gp.n g d os) (n := ws.length) rfl hl h2 (Nat.le_trans (by omega) hD) hy1 hy2 ws hws hm (c := 0) (by simp) hs ht h3 hR).ua (l := [0, 1, 2, 3, 4, 5, 8, 6]) rfl
  ·exact kNote1_ok fun a => idxEnv_fr _ _
 ·intro a t hb bf Y hh'
  obtain rfl := hh' rfl
  cases r <;> kernel_rfl
noncomputable def nTxt (n : Int) : Str := Str.ofString (toString n)
noncomputable def kRepr (ut : List Nat) (n : Int) (tn : (Nat → Tok) → Tok) : HK := roK [] ut (fun _ t => .call (.builtin "int.__repr__") ⟨[.int n (tn t)], []⟩) (fun _ _ => []) (fun _ _ u => .str (nTxt n) u)
theorem kRepr_wf {ut n tn} : HKwf (kRepr ut n tn) := roK_wf List.nodup_nil fun _ _ _ h => nomatch h
theorem kRepr_ok {D U : Nat} {kt : KT} {w : World} {A : Around} {gp : GP} {ut n tn} (hn : n.natAbs.log2 < 1920) : HKok D U kt w A gp (kRepr ut n tn) := roK_ok fun _ t A' R' s _ h1 _ k =>
 code_gives F.slot_int_repr (typeIs_int s n _) F.entry_int_repr (F.args_int_repr_1 _) (gives_int_repr n (tn t) hn) ⟨int_text_fits hn, k s.toks (s.toks + 1) ⟨h1, fun _ => Nat.lt_succ_self _⟩ (Nat.le_succ _)⟩
theorem small_log {m : Nat} (h : m < 1000000) : (m : Int).natAbs.log2 < 1920 := by
 have : Nat.log2 m ≤ m := Nat.log2_le_self m
 show Nat.log2 m < 1920
 by_cases h0 : m = 0
 ·subst h0; decide
 ·have z := (Nat.log2_lt h0 (k := 1920)).mpr (Nat.lt_of_lt_of_le h (by decide +kernel))
  exact z
noncomputable def kContF (P : Params) (K : Nat → Tok) (S : SK) (B : Str) (p : Nat) (st : Value) (tt t3 : Tok) (p' : Nat) (st' : Tok → Value) (ua : List Nat) (y : Str) (ty : Tok) (v : Bool) : HK := kLex P K S B p st tt t3 p' st' ua (fun a => containsC a y ty) (.bool v)
theorem kContF_wf {P K S B p st tt t3 p' st' ua y ty v} (hn : ua.Nodup) (hl : ua.length = 6) : HKwf (kContF P K S B p st tt t3 p' st' ua y ty v) := kLex_wf hn hl
theorem kContF_ok {w : World} {r : Bool} {A : Around} {D U : Nat} {gp : GP} (hup : gp.up = false) {K : Nat → Tok} {S : SK} {B : Str} (hl : B.length < 1000000) (h2 : gp.n < S.t2) (hD : A.depth + D + 420 ≤ recursionLimit) {y : Str} {ty : Tok}
  {ws : List Nat} (hws : ∀ k ∈ ws, k < 6) {p : Nat} {ts tt t3 : Tok} {ua : List Nat} (hua : ua.length = 6) (hs : gp.n < ts) (ht : gp.n < tt) (h3 : gp.n < t3) (hR : Rest B p ws) :
  HKok D U (kt0 w.params) (wf w r) A gp (kContF w.params K S B p (stOf ws ts) tt t3 (pOf B (after y ws)) (stOf (after y ws)) ua y ty (found y ws)) :=
 kLex_ok hup hua hs ht h3 hR fun L' A' R' h' tok' g' d' os' e1 e2 hA hh' F' h1' Z' fin' => contains_ok (by omega) hh' hl (e2 ▸ h2) y ty ws hws F' h1' Z' fin'
noncomputable def kCntF (P : Params) (K : Nat → Tok) (S : SK) (B : Str) (p : Nat) (st : Value) (tt t3 : Tok) (p' : Nat) (st' : Tok → Value) (ua : List Nat) (y : Str) (ty : Tok) (n : Int) : HK :=
 mkK ua [] 4 0 true true (fun _ => []) (fun a _ => countC (a 0) y ty) (lexXs P K S B p st tt t3) (lexYs P K S B p' st') (fun _ _ _ _ _ _ => []) (fun _ _ u _ _ _ => .ok (.ret (.int n (u 3))))
theorem kCntF_wf {P K S B p st tt t3 p' st' ua y ty n} (hn : ua.Nodup) (hl : ua.length = 6) : HKwf (kCntF P K S B p st tt t3 p' st' ua y ty n) :=
 mk_wf hn (fun _ _ => hl.symm ▸ rfl) (fun _ _ _ _ _ _ => hl.symm ▸ rfl) fun _ _ _ _ _ _ => rfl
theorem kCntF_ok {w : World} {r : Bool} {A : Around} {D U : Nat} {gp : GP} (hup : gp.up = false) {K : Nat → Tok} {S : SK} {B : Str} (hl : B.length < 1000000) (h2 : gp.n < S.t2) (hD : A.depth + D + 420 ≤ recursionLimit) {y : Str} {ty : Tok} (hy1 : ty ≠ 0) (hy2 : ty ≤ gp.n)
  {ws : List Nat} (hws : ∀ k ∈ ws, k < 6) {p : Nat} {ts tt t3 : Tok} (hs : gp.n < ts) (ht : gp.n < tt) (h3 : gp.n < t3) (hR : Rest B p ws) :
  HKok D U (kt0 w.params) (wf w r) A gp (kCntF w.params K S B p (stOf ws ts) tt t3 B.length (stOf []) lexU y ty (cnt y ws)) := by
 unfold kCntF
 refine mk_run (w := wf w r) (noH := true) (noting := true) (A := A) (D := D) (D' := 70) (U' := 0) (ks := fun a t => [(kCnt w.params K S B p (stOf ws ts) tt t3 B.length (stOf []) [0, 1, 2, 3, 4, 5, 6] [0, 1, 3, 2] y ty (cnt y ws)).q]) (fuel := 2000) (ce := ce_co) (e := 1) (s := 1) (i := 9) (ti := [5, 6, 7, 8]) (bi := []) (fp := [])
  (plf := fun _ _ _ => []) hup rfl rfl (by decide) nilA .nil (.inr rfl) (fun q => by cases q) (fun _ _ => rfl) (fun _ _ _ _ _ _ => rfl) (fun _ _ _ _ _ _ => rfl) (dle ‹_›) (fun q => by cases q) (fun _ _ _ _ _ => .nil) (fun a t q hq q' => ?_) (fun a t A' g d os hA _ _ q hq q' => ?_) (fun _ _ => by rfl) ?_
 ·rw [List.mem_singleton] at hq
  subst hq
  exact kCnt_wf (by decide) rfl
 ·rw [List.mem_singleton] at hq
  subst hq
  exact kCnt_ok (A := A') (D := 70) (gp := sameG gp.n g d os) rfl rfl rfl (Nat.le_trans (by omega) hD) hws hl h2 hs ht h3 hR hy1 hy2
 ·intro a t hb bf Y hh'
  obtain rfl := hh' rfl
  cases r <;> kernel_rfl
noncomputable def ansC (a : Addr) (kd : Int) (tk : Tok) (y : Str) (ty : Tok) : Code := .call (.ref 793) ⟨[.ref a, .int kd tk, .str y ty], []⟩
noncomputable def kAns (P : Params) (K : Nat → Tok) (S : SK) (B : Str) (p : Nat) (st : Value) (tt t3 : Tok) (p' : Nat) (st' : Tok → Value) (ua ut : List Nat) (kd : Int) (tk : (Nat → Tok) → Tok) (y : Str) (ty : Tok) (x : Str) : HK :=
 mkK ua ut 4 0 true true (fun _ => []) (fun a t => ansC (a 0) kd (tk t) y ty) (lexXs P K S B p st tt t3) (lexYs P K S B p' st') (fun _ _ _ _ _ _ => []) (fun _ _ u _ _ _ => .ok (.ret (.str x (u 3))))
noncomputable def ansTxt (kd : Nat) (y : Str) (ws : List Nat) : Str := match kd with
 | 0 => (match idx y ws with | some m => nTxt m | none => o "refused")
 | 1 => (match found y ws with | true => o "True" | false => o "False")
 | _ => nTxt (cnt y ws)
noncomputable def left4 (kd : Nat) (y : Str) (ws : List Nat) : List Nat := match kd with
 | 0 => after y ws
 | 1 => after y ws
 | _ => []
theorem pOf_nil (B : Str) : pOf B [] = B.length := by simp [pOf, line]
theorem idx_lt {y : Str} : ∀ {ws : List Nat} {m : Nat}, idx y ws = some m → m < ws.length
 | [], m, h => nomatch h
 | k :: ws, m, h => by
  unfold idx at h
  split at h
  ·cases h; simp
  ·obtain ⟨m', e1, e2⟩ := Option.map_eq_some_iff.mp h
   have := idx_lt e1
   simp only [List.length_cons]
   omega
theorem cnt_le (y : Str) (ws : List Nat) : cnt y ws ≤ ws.length := List.countP_le_length
theorem kAns_ok {w : World} {r : Bool} {A : Around} {D U : Nat} {gp : GP} (hup : gp.up = false) {K : Nat → Tok} {S : SK} {B : Str} (hl : B.length < 1000000) (h2 : gp.n < S.t2) (hD : A.depth + D + 560 ≤ recursionLimit) {y : Str} {ty : Tok} (hy1 : ty ≠ 0) (hy2 : ty ≤ gp.n)
  {ws : List Nat} (hws : ∀ k ∈ ws, k < 6) (hwl : ws.length < 1000000) {kd : Nat} (hk : kd = 0 ∨ kd = 1 ∨ kd = 4) {p : Nat} {ts tt t3 : Tok} {ut : List Nat} {tk : (Nat → Tok) → Tok} (hs : gp.n < ts) (ht : gp.n < tt) (h3 : gp.n < t3) (hR : Rest B p ws) :
  HKok D U (kt0 w.params) (wf w r) A gp (kAns w.params K S B p (stOf ws ts) tt t3 (pOf B (left4 kd y ws)) (stOf (left4 kd y ws)) lexU ut kd tk y ty (ansTxt kd y ws)) := by
 rcases hk with rfl | rfl | rfl
 ·cases hm : idx y ws with
  | some m =>
   have e : ansTxt 0 y ws = nTxt m := by simp only [ansTxt, hm]
   rw [e]
   unfold kAns
   refine mk_run (w := wf w r) (noH := true) (noting := true) (A := A) (D := D) (D' := 70) (U' := 0) (ks := fun a t => [(kIndexH w.params K S B p (stOf ws ts) tt t3 (pOf B (after y ws)) (stOf (after y ws)) lexU y ty m).q, (kRepr [7] m (fun t => t 0)).q]) (fuel := 2000) (ce := decs [Nhp, 928455029464035206174357506]) (e := 1) (s := 1) (i := 9) (ti := [4, 5, 6, 8]) (bi := []) (fp := [])
    (plf := fun _ _ _ => []) hup rfl rfl (by decide) nilA .nil (.inr rfl) (fun q => by cases q) (fun _ _ => rfl) (fun _ _ _ _ _ _ => rfl) (fun _ _ _ _ _ _ => rfl) (dle ‹_›) (fun q => by cases q) (fun _ _ _ _ _ => .nil) (fun a t q hq q' => ?_) (fun a t A' g d os hA _ _ q hq q' => ?_) (fun _ _ => by rfl) ?_
   ·simp only [memC, memN, or_false] at hq
    rcases hq with rfl | rfl
    ·exact kIndexH_wf (by decide) rfl
    ·exact kRepr_wf
   ·simp only [memC, memN, or_false] at hq
    rcases hq with rfl | rfl
    ·exact kIndexH_ok (A := A') (D := 70) (gp := sameG gp.n g d os) rfl hl h2 (Nat.le_trans (by omega) hD) hy1 hy2 hws hm hs ht h3 hR
    ·exact kRepr_ok (small_log (Nat.lt_trans (idx_lt hm) hwl))
   ·intro a t hb bf Y hh'
    obtain rfl := hh' rfl
    cases r <;> kernel_rfl
  | none =>
   have e : ansTxt 0 y ws = o "refused" := by simp only [ansTxt, hm]
   have ea : left4 0 y ws = [] := after_none hm
   rw [e, ea, pOf_nil]
   unfold kAns
   refine mk_run (w := wf w r) (noH := true) (noting := true) (A := A) (D := D) (D' := 70) (U' := 0) (ks := fun a t => [(kIndexE w.params K S B p (stOf ws ts) tt t3 B.length lexU y ty).q, ⟨[0], fun q => kNote2 [7, 6, 8] "ValueError" (fun a => envFn (o793 w.params) 793 (a 1)) (plv (q 0) 0) .none (plv (q 0) 1) (dropL 2 (q 0))⟩]) (fuel := 2000) (ce := decs [Nhp, 467908972779723949176573598533057469529801298556930]) (e := 1) (s := 2) (i := 7) (ti := [4, 4, 5, 6]) (bi := []) (fp := [])
    (plf := fun _ _ _ => []) hup rfl rfl (by decide) nilA .nil (.inr rfl) (fun q => by cases q) (fun _ _ => rfl) (fun _ _ _ _ _ _ => rfl) (fun _ _ _ _ _ _ => rfl) (dle ‹_›) (fun q => by cases q) (fun _ _ _ _ _ => .nil) (fun a t q hq q' => ?_) (fun a t A' g d os hA _ _ q hq q' => ?_) (fun _ _ => by rfl) ?_
   ·simp only [memC, memN, or_false] at hq
    rcases hq with rfl | rfl
    ·exact kIndexE_wf (by decide) rfl
    ·exact kNote2_wf (by decide) (by decide)
   ·simp only [memC, memN, or_false] at hq
    rcases hq with rfl | rfl
    ·exact kIndexE_ok (A := A') (D := 70) (gp := sameG gp.n g d os) rfl hl h2 (Nat.le_trans (by omega) hD) hy1 hy2 hws hm hs ht h3 hR
    ·exact kNote2_ok (by decide) (by decide +kernel) fun a => by kernel_rfl
   ·intro a t hb bf Y hh'
    obtain rfl := hh' rfl
    cases r <;> kernel_rfl
 ·have chk : ∀ v, found y ws = v → HKok D U (kt0 w.params) (wf w r) A gp (kAns w.params K S B p (stOf ws ts) tt t3 (pOf B (left4 1 y ws)) (stOf (left4 1 y ws)) lexU ut ((1 : Nat) : Int) tk y ty (match v with | true => o "True" | false => o "False")) := by
   intro v hv
   unfold kAns
   refine mk_run (w := wf w r) (noH := true) (noting := true) (A := A) (D := D) (D' := 70) (U' := 0) (ks := fun a t => [(kContF w.params K S B p (stOf ws ts) tt t3 (pOf B (after y ws)) (stOf (after y ws)) lexU y ty v).q]) (fuel := 2000) (ce := decs [Nhq, 123162482194439]) (e := 1) (s := 1) (i := 9) (ti := [5, 6, 7, 8]) (bi := []) (fp := [])
    (plf := fun _ _ _ => []) hup rfl rfl (by decide) nilA .nil (.inr rfl) (fun q => by cases q) (fun _ _ => rfl) (fun _ _ _ _ _ _ => rfl) (fun _ _ _ _ _ _ => rfl) (dle ‹_›) (fun q => by cases q) (fun _ _ _ _ _ => .nil) (fun a t q hq q' => ?_) (fun a t A' g d os hA _ _ q hq q' => ?_) (fun _ _ => by rfl) ?_
   ·rw [List.mem_singleton] at hq
    subst hq
    exact kContF_wf (by decide) rfl
   ·rw [List.mem_singleton] at hq
    subst hq
    subst hv
    exact kContF_ok (A := A') (D := 70) (gp := sameG gp.n g d os) rfl hl h2 (Nat.le_trans (by omega) hD) hws rfl hs ht h3 hR
   ·intro a t hb bf Y hh'
    obtain rfl := hh' rfl
    cases r <;> cases v <;> kernel_rfl
  exact chk _ rfl
 ·show HKok D U (kt0 w.params) (wf w r) A gp (kAns w.params K S B p (stOf ws ts) tt t3 (pOf B []) (stOf []) lexU ut ((4 : Nat) : Int) tk y ty (nTxt (cnt y ws)))
  rw [pOf_nil]
  unfold kAns
  refine mk_run (w := wf w r) (noH := true) (noting := true) (A := A) (D := D) (D' := 70) (U' := 0) (ks := fun a t => [(kCntF w.params K S B p (stOf ws ts) tt t3 B.length (stOf []) lexU y ty (cnt y ws)).q, (kRepr [8] (cnt y ws) (fun t => t 0)).q]) (fuel := 2000) (ce := decs [Nhq, 7975367974709495237422965524164261895]) (e := 1) (s := 1) (i := 10) (ti := [5, 6, 7, 9]) (bi := []) (fp := [])
   (plf := fun _ _ _ => []) hup rfl rfl (by decide) nilA .nil (.inr rfl) (fun q => by cases q) (fun _ _ => rfl) (fun _ _ _ _ _ _ => rfl) (fun _ _ _ _ _ _ => rfl) (dle ‹_›) (fun q => by cases q) (fun _ _ _ _ _ => .nil) (fun a t q hq q' => ?_) (fun a t A' g d os hA _ _ q hq q' => ?_) (fun _ _ => by rfl) ?_
  ·simp only [memC, memN, or_false] at hq
   rcases hq with rfl | rfl
   ·exact kCntF_wf (by decide) rfl
   ·exact kRepr_wf
  ·simp only [memC, memN, or_false] at hq
   rcases hq with rfl | rfl
   ·exact kCntF_ok (A := A') (D := 70) (gp := sameG gp.n g d os) rfl hl h2 (Nat.le_trans (by omega) hD) hy1 hy2 hws hs ht h3 hR
   ·exact kRepr_ok (small_log (Nat.lt_of_le_of_lt (cnt_le y ws) hwl))
  ·intro a t hb bf Y hh'
   obtain rfl := hh' rfl
   cases r <;> kernel_rfl
noncomputable def lstO (vs : List Value) (n : Nat) : Obj := ⟨.type "list", none, .seq (Array.mk vs) n, Array.mk []⟩
noncomputable def litO (l : Addr) (i : Nat) : Obj := ⟨.type "list_iterator", none, .fields (Array.mk [.ref l, .int i 0]), Array.mk []⟩
noncomputable def litE (i : Nat) : Obj := ⟨.type "list_iterator", none, .fields (Array.mk [.none, .int i 0]), Array.mk []⟩
noncomputable def tup0 : Obj := ⟨.type "tuple", none, .seq (Array.mk []) 0, Array.mk []⟩
theorem mk_direct {D U : Nat} {kt : KT} {w : World} {A : Around} {gp : GP} {ua ut : List Nat} {nt nn : Nat} {noH : Bool} {c : (Nat → Addr) → (Nat → Tok) → Code} {xs : XF} {ys zs : PostF} {res : ResF} (hup : gp.up = false)
  (hxs : ∀ a t, (xs a t).length = ua.length) (hys : ∀ a t u b sl pl, (ys a t u b sl pl).length = ua.length) (hzs : ∀ a t u b sl pl, (zs a t u b sl pl).length = nn)
  (H : ∀ (a : Nat → Addr) (t : Nat → Tok) (A' : Around) (R' : Result → Shared → Prop) (h : Heap) (tok : Nat) (g : Array GenState) (d : Drawn) (os : OsState), A'.depth < A.depth + D → (noH = true → A'.handled = none) → gp.n < tok → (∀ x, x < ut.length → gp.n < t x) →
   (∀ x y, x < ua.length → y < ua.length → a x = a y → x = y) → (∀ j x, (xs a t)[j]? = some x → h.get? (a j) = some x) →
   (∀ (h' : Heap) (tok' : Nat) (us : List Tok) (bs : List Addr), us.length = nt → (∀ u ∈ us, gp.n < u) → gp.n < tok' → bs.length = nn → bs.Nodup →
    (∀ j x, (ys a t (ofL us) (ofL bs) (fun _ => #[]) [])[j]? = some x → h'.get? (a j) = some x) → (∀ c x, h.get? c = some x → (∀ j, j < ua.length → a j ≠ c) → h'.get? c = some x) →
    (∀ j x, (zs a t (ofL us) (ofL bs) (fun _ => #[]) [])[j]? = some x → h'.get? (ofL bs j) = some x ∧ h.objs.size ≤ ofL bs j) → h.objs.size ≤ h'.objs.size → R' (res a t (ofL us) (ofL bs) (fun _ => #[]) []) ⟨h', g, d, tok', os⟩) →
   codeAny (model pw w) A' (c a t) R' ⟨h, g, d, tok, os⟩) : HKok D U kt w A gp (mkK ua ut nt nn noH false (fun _ => []) c xs ys zs res) := by
 intro a t A' R' h tok g d os hA hh hu hno h1 htk gg hB hp ho hi C
 refine H a t A' R' h tok g d os hA hh h1 (fun x hx => (htk x hx).1) hi (fun j x ex => hp (j, x) ((mem_zip_range (hxs a t)).mpr ex)) fun h' tok' us bs l1 l2 l3 l4 l5 q1 q2 q3 q4 => ?_
 have e0 : slA (mkK ua ut nt nn noH false (fun _ => []) c xs ys zs res) a h' = fun _ => #[] := rfl
 have z := C h' tok' g d os us bs [] l1 (fun u hu => GP.tk0 hup (l2 u hu)) l3 (GP.le0 hup) l4 (fun _ => rfl) gg
 rw [e0] at z
 refine z ⟨fun c x ec hn _ => ?_, (fun q => by cases q), fun q hq => q1 q.1 q.2 ((mem_zip_range (hys ..)).mp hq), q3, fun i j hi hj q => ?_, q4⟩
 ·refine q2 c x ec fun j hj => hn (j, _) ((mem_zip_range (hys a t (ofL us) (ofL bs) (fun _ => #[]) [])).mpr (List.getElem?_eq_getElem ((hys a t (ofL us) (ofL bs) (fun _ => #[]) []).symm ▸ hj)))
 ·have hi : i < nn := hi
  have hj : j < nn := hj
  have at_ : ∀ i, i < nn → bs[i]? = some (ofL bs i) := fun i hi => by
   unfold ofL
   rw [nth_eq, List.getElem?_eq_getElem (by omega)]
  have e1 := at_ i hi
  rw [q, ← at_ j hj] at e1
  exact (List.getElem?_inj (by omega) l5).mp e1
theorem code_slot {w : World} {A : Around} {s : Shared} {R : Result → Shared → Prop} {T : String} {name : Str} {id : String} {B : Builtin} {self : Value} {rest : List Value} (slot : Slot T name id) (hT : s.TypeIs self T)
  (entry : entryFor table id = some B) (args : argsOk id ⟨self :: rest, []⟩) (h : wpAny (model pw w) A.in1 (B ⟨self :: rest, []⟩) (fun fin s' => ∃ v, fin = .done (.ret v) ∧ R (.ok (.ret v)) s') (fun e s' => R (.error e) s') s) : codeAny (model pw w) A (.call (.builtin id) ⟨self :: rest, []⟩) R s :=
 codeAny_call_builtin slot.plain entry (slot.check _ _ _ _ _ _ _ _ hT args (wpAny_mono h (fun fin s' h' => by obtain ⟨v, rfl, hv⟩ := h'; exact hv) fun _ _ h' => h'))
theorem code_meets {w : World} {A : Around} {s : Shared} {R : Result → Shared → Prop} {T : String} {name : Str} {id : String} {B : Builtin} {self : Value} {rest : List Value} {S : PySem.Spec} (slot : Slot T name id) (hT : s.TypeIs self T)
  (entry : entryFor table id = some B) (args : argsOk id ⟨self :: rest, []⟩) (m : Meets (B ⟨self :: rest, []⟩) S) (h : S A R s) : codeAny (model pw w) A (.call (.builtin id) ⟨self :: rest, []⟩) R s :=
 codeAny_call_builtin slot.plain entry (slot.check _ _ _ _ _ _ _ _ hT args (m pw w A R s h))
theorem one_keep {n : Nat} {a : Nat → Addr} {i : Nat} {h h' : Heap} (hs : Heap.SameBut (a i) h h') (hi : i < n) : ∀ c x, h.get? c = some x → (∀ j, j < n → a j ≠ c) → h'.get? c = some x := fun c x e q => (hs.2 c fun e' => q i hi e'.symm).trans e
noncomputable def kLNext (ua : List Nat) (vs : List Value) (n i : Nat) (v : Value) : HK :=
 mkK ua [] 0 0 false false (fun _ => []) (fun a _ => .call (.builtin "list_iterator.__next__") ⟨[.ref (a 0)], []⟩) (fun a _ => [litO (a 1) i, lstO vs n]) (fun a _ _ _ _ _ => [litO (a 1) (i + 1), lstO vs n]) (fun _ _ _ _ _ _ => []) (fun _ _ _ _ _ _ => .ok (.ret v))
theorem kLNext_wf {ua vs n i v} (hn : ua.Nodup) (hl : ua.length = 2) : HKwf (kLNext ua vs n i v) := mk_wf hn (fun _ _ => hl.symm ▸ rfl) (fun _ _ _ _ _ _ => hl.symm ▸ rfl) fun _ _ _ _ _ _ => rfl
theorem kLNext_ok {D U : Nat} {kt : KT} {w : World} {A : Around} {gp : GP} (hup : gp.up = false) {ua vs n i v} (hl : ua.length = 2) (hv : vs[i]? = some v) : HKok D U kt w A gp (kLNext ua vs n i v) :=
 mk_direct hup (fun _ _ => hl.symm ▸ rfl) (fun _ _ _ _ _ _ => hl.symm ▸ rfl) (fun _ _ _ _ _ _ => rfl) fun a t A' R' h tok g d os hA hh h1 htk hi hp C => by
  have p0 := hp 0 _ rfl
  have p1 := hp 1 _ rfl
  have ne : a 1 ≠ a 0 := fun q => absurd (hi 1 0 (by omega) (by omega) q) (by decide)
  have hT : (⟨h, g, d, tok, os⟩ : Shared).TypeIs (.ref (a 0)) "list_iterator" := ⟨_, p0, rfl⟩
  refine code_slot slot_listiter_next hT entry_listiter_next (args_listiter_next _) ?_
  show wpAny _ _ (field (.ref (a 0)) 0 >>= _) _ _ _
  refine wpAny_bind (wpAny_field p0 rfl (x := .ref (a 1)) rfl ?_)
  show wpAny _ _ (if (Value.ref (a 1) == Value.none) = true then _ else _) _ _ _
  rw [if_neg (show ¬ ((Value.ref (a 1) == Value.none) = true) from Bool.false_ne_true)]
  show wpAny _ _ (field (.ref (a 0)) 1 >>= _) _ _ _
  refine wpAny_bind (wpAny_field p0 rfl (x := .int i 0) rfl ?_)
  show wpAny _ _ (seqItems? (.ref (a 1)) >>= _) _ _ _
  refine wpAny_bind (wpAny_seqItems p1 rfl ?_)
  have hv' : (Array.mk vs)[i]? = some v := by simpa using hv
  simp only [Int.toNat_natCast, hv']
  refine wpAny_bind (wpAny_setField p0 rfl (by simp) (wpAny_pure ⟨v, rfl, ?_⟩))
  have hs : Heap.SameBut (a 0) h (h.update (a 0) (Obj.mapFields (·.setIfInBounds 1 (rawInt ((i : Int) + 1))))) := .update ..
  have e0 : (h.update (a 0) (Obj.mapFields (·.setIfInBounds 1 (rawInt ((i : Int) + 1))))).get? (a 0) = some (litO (a 1) (i + 1)) := Heap.get?_update_self _ p0 rfl
  exact C _ tok [] [] rfl (fun u hu => nomatch hu) h1 rfl .nil (fun j x ex => by
   match j, ex with
   | 0, ex => cases ex; exact e0
   | 1, ex => cases ex; exact (hs.2 _ ne).trans p1) (one_keep (i := 0) hs (by omega)) (fun j x ex => by cases ex) (Nat.le_of_eq hs.1.symm)
noncomputable def kLEnd (ua : List Nat) (vs : List Value) (n i : Nat) : HK :=
 mkK ua [] 0 2 true false (fun _ => []) (fun a _ => .call (.builtin "list_iterator.__next__") ⟨[.ref (a 0)], []⟩) (fun a _ => [litO (a 1) i, lstO vs n]) (fun a _ _ _ _ _ => [litE i, lstO vs n]) (fun _ _ _ b _ _ => [excObj "StopIteration" (.ref (b 1)) .none, tup0]) (fun _ _ _ b _ _ => .error (.ref (b 0)))
theorem kLEnd_wf {ua vs n i} (hn : ua.Nodup) (hl : ua.length = 2) : HKwf (kLEnd ua vs n i) := mk_wf hn (fun _ _ => hl.symm ▸ rfl) (fun _ _ _ _ _ _ => hl.symm ▸ rfl) fun _ _ _ _ _ _ => rfl
theorem kLEnd_ok {D U : Nat} {kt : KT} {w : World} {A : Around} {gp : GP} (hup : gp.up = false) {ua vs n i} (hl : ua.length = 2) (hv : vs[i]? = none) : HKok D U kt w A gp (kLEnd ua vs n i) :=
 mk_direct hup (fun _ _ => hl.symm ▸ rfl) (fun _ _ _ _ _ _ => hl.symm ▸ rfl) (fun _ _ _ _ _ _ => rfl) fun a t A' R' h tok g d os hA hh h1 htk hi hp C => by
  have p0 := hp 0 _ rfl
  have p1 := hp 1 _ rfl
  have ne : a 1 ≠ a 0 := fun q => absurd (hi 1 0 (by omega) (by omega) q) (by decide)
  have hT : (⟨h, g, d, tok, os⟩ : Shared).TypeIs (.ref (a 0)) "list_iterator" := ⟨_, p0, rfl⟩
  refine code_slot slot_listiter_next hT entry_listiter_next (args_listiter_next _) ?_
  show wpAny _ _ (field (.ref (a 0)) 0 >>= _) _ _ _
  refine wpAny_bind (wpAny_field p0 rfl (x := .ref (a 1)) rfl ?_)
  show wpAny _ _ (if (Value.ref (a 1) == Value.none) = true then _ else _) _ _ _
  rw [if_neg (show ¬ ((Value.ref (a 1) == Value.none) = true) from Bool.false_ne_true)]
  show wpAny _ _ (field (.ref (a 0)) 1 >>= _) _ _ _
  refine wpAny_bind (wpAny_field p0 rfl (x := .int i 0) rfl ?_)
  show wpAny _ _ (seqItems? (.ref (a 1)) >>= _) _ _ _
  refine wpAny_bind (wpAny_seqItems p1 rfl ?_)
  have hv' : (Array.mk vs)[i]? = none := by simpa using hv
  simp only [Int.toNat_natCast, hv']
  refine wpAny_bind (wpAny_rule (wpAny_bind (wpAny_setField p0 rfl (by simp) ?_)))
  show wpAny _ _ (newExc (.type "StopIteration") [] >>= _) _ _ _
  refine wpAny_bind ?_
  simp only [newExc, newTuple]
  refine wpAny_bind (wpAny_newObj_type ?_ (by size_fits))
  refine wpAny_bind (m := firstArgMember _ _) (wpAny_of_eq (a := Value.none) (by first | rfl | (simp only [firstArgMember]; rfl)) ?_)
  refine wpAny_newObj_type ?_ (by size_fits)
  simp only [raiseNew]
  refine wpAny_bind (wpAny_handled ?_)
  rw [show A'.in1.handled = none from hh rfl]
  refine wpAny_bind (wpAny_pure (wpAny_throw ?_))
  have hs : Heap.SameBut (a 0) h (h.update (a 0) (Obj.mapFields (·.setIfInBounds 0 Value.none))) := .update ..
  have e0 : (h.update (a 0) (Obj.mapFields (·.setIfInBounds 0 Value.none))).get? (a 0) = some (litE i) := Heap.get?_update_self _ p0 rfl
  generalize hh1 : h.update (a 0) (Obj.mapFields (·.setIfInBounds 0 Value.none)) = h1' at hs e0
  have z1 : h1'.objs.size = h.objs.size := hs.1
  have z2 : (h1'.push tup0).objs.size = h1'.objs.size + 1 := Heap.size_push ..
  have ex : ∀ j x, [litE i, lstO vs n][j]? = some x → h1'.get? (a j) = some x := fun j x ex => by
   match j, ex with
   | 0, ex => cases ex; exact e0
   | 1, ex => cases ex; exact (hs.2 _ ne).trans p1
  have et : (h1'.push tup0).get? h1'.objs.size = some tup0 := Heap.get?_push_size _ rfl
  exact C ((h1'.push tup0).push (excObj "StopIteration" (.ref h1'.objs.size) .none)) tok [] [(h1'.push tup0).objs.size, h1'.objs.size] rfl (fun u hu => nomatch hu) h1 rfl (by simp [z2]) (fun j x e => Heap.get?_push_of_some _ (Heap.get?_push_of_some _ (ex j x e))) (fun c x e q => Heap.get?_push_of_some _ (Heap.get?_push_of_some _ (one_keep (i := 0) hs (by omega) c x e q))) (fun j x e => by
   match j, e with
   | 0, e => cases e; exact ⟨Heap.get?_push_size _ rfl, by show h.objs.size ≤ (h1'.push tup0).objs.size; omega⟩
   | 1, e => cases e; exact ⟨Heap.get?_push_of_some _ et, by show h.objs.size ≤ h1'.objs.size; omega⟩) (by rw [Heap.size_push]; omega)
end
section
open PySem PySem.W PySem.W.X PySem.Calls PyProof.Rows
theorem size_small {vs : List Value} (h : vs.length < 1000000) : (Array.mk vs).size ≤ sizeLine := by
 show vs.length ≤ sizeLine
 rw [sizeLine_eq]
 omega
noncomputable def kApp (ua ut : List Nat) (vs : List Value) (n : Nat) (v : (Nat → Addr) → (Nat → Tok) → Value) : HK :=
 mkK ua ut 0 0 false false (fun _ => []) (fun a t => .call (.builtin "list.append") ⟨[.ref (a 0), v a t], []⟩) (fun _ _ => [lstO vs n]) (fun a t _ _ _ _ => [lstO (vs ++ [v a t]) (n + 1)]) (fun _ _ _ _ _ _ => []) (fun _ _ _ _ _ _ => .ok (.ret .none))
theorem kApp_wf {ua ut vs n v} (hn : ua.Nodup) (hl : ua.length = 1) : HKwf (kApp ua ut vs n v) := mk_wf hn (fun _ _ => hl.symm ▸ rfl) (fun _ _ _ _ _ _ => hl.symm ▸ rfl) fun _ _ _ _ _ _ => rfl
theorem kApp_ok {D U : Nat} {kt : KT} {w : World} {A : Around} {gp : GP} (hup : gp.up = false) {ua ut vs n v} (hl : ua.length = 1) (hv : vs.length < 1000000) : HKok D U kt w A gp (kApp ua ut vs n v) :=
 mk_direct hup (fun _ _ => hl.symm ▸ rfl) (fun _ _ _ _ _ _ => hl.symm ▸ rfl) (fun _ _ _ _ _ _ => rfl) fun a t A' R' h tok g d os hA hh h1 htk hi hp C => by
  have p0 := hp 0 _ rfl
  have hT : (⟨h, g, d, tok, os⟩ : Shared).TypeIs (.ref (a 0)) "list" := ⟨_, p0, rfl⟩
  refine code_meets slot_list_append hT entry_list_append (args_list_append _ _) (list_append (a 0) (Array.mk vs) n (v a t) (size_small hv)) ⟨p0, ?_⟩
  have hs : Heap.SameBut (a 0) h (h.update (a 0) (Obj.mapSeq fun x => x.push (v a t))) := .update ..
  have eo : Obj.mapSeq (fun x => x.push (v a t)) (lstO vs n) = lstO (vs ++ [v a t]) (n + 1) := by
   unfold lstO Obj.mapSeq
   dsimp only
   rw [if_neg (by simp)]
   congr 2
   apply Array.ext'
   simp
  have e0 : (h.update (a 0) (Obj.mapSeq fun x => x.push (v a t))).get? (a 0) = some (lstO (vs ++ [v a t]) (n + 1)) := by
   rw [← eo]
   exact Heap.get?_update_self _ p0 (by rw [eo]; rfl)
  exact C _ tok [] [] rfl (fun u hu => nomatch hu) h1 rfl .nil (fun j x ex => by
   match j, ex with
   | 0, ex => cases ex; exact e0) (one_keep (i := 0) hs (by omega)) (fun j x ex => by cases ex) (Nat.le_of_eq hs.1.symm)
noncomputable def kGetI (ua ut : List Nat) (vs : List Value) (n : Nat) (i : Int) (ti : (Nat → Tok) → Tok) (v : Value) : HK :=
 mkK ua ut 0 0 false false (fun _ => []) (fun a t => .call (.builtin "list.__getitem__") ⟨[.ref (a 0), .int i (ti t)], []⟩) (fun _ _ => [lstO vs n]) (fun _ _ _ _ _ _ => [lstO vs n]) (fun _ _ _ _ _ _ => []) (fun _ _ _ _ _ _ => .ok (.ret v))
theorem kGetI_wf {ua ut vs n i ti v} (hn : ua.Nodup) (hl : ua.length = 1) : HKwf (kGetI ua ut vs n i ti v) := mk_wf hn (fun _ _ => hl.symm ▸ rfl) (fun _ _ _ _ _ _ => hl.symm ▸ rfl) fun _ _ _ _ _ _ => rfl
theorem kGetI_ok {D U : Nat} {kt : KT} {w : World} {A : Around} {gp : GP} (hup : gp.up = false) {ua ut vs n} {i : Int} {ti v} (hl : ua.length = 1) {m : Nat} (hi' : i = (m : Int)) (hm : m < 1000000) (hv : vs[m]? = some v) : HKok D U kt w A gp (kGetI ua ut vs n i ti v) :=
 mk_direct hup (fun _ _ => hl.symm ▸ rfl) (fun _ _ _ _ _ _ => hl.symm ▸ rfl) (fun _ _ _ _ _ _ => rfl) fun a t A' R' h tok g d os hA hh h1 htk hi hp C => by
  have p0 := hp 0 _ rfl
  have hT : (⟨h, g, d, tok, os⟩ : Shared).TypeIs (.ref (a 0)) "list" := ⟨_, p0, rfl⟩
  refine code_slot slot_list_getitem hT entry_list_getitem (args_list_getitem _ _) ?_
  show wpAny _ _ (Builtin.List.listSubscript? (.int i (ti t)) >>= _) _ _ _
  subst hi'
  have hf : Builtin.List.listFitsIndex ((m : Nat) : Int) = true := fitsIndex_of (by omega) (by omega)
  refine wpAny_bind ?_
  with_reducible refine wpAny_listSubscript_int (k := (m : Int)) (t := ti t) ?_ ?_
  ·exact hf
  dsimp only
  have hx' : (Array.mk vs)[m]? = some v := by simpa using hv
  show wpAny _ _ ((seqItemAt (a 0) m >>= fun r => pure (r.map (m, ·))) >>= _) _ _ _
  refine wpAny_bind (wpAny_bind (wpAny_seqItemAt p0 rfl (wpAny_pure ?_)))
  rw [hx']
  have K := C h tok [] [] rfl (fun u hu => nomatch hu) h1 rfl .nil (fun j x ex => by
   match j, ex with
   | 0, ex => cases ex; exact p0) (fun c x e _ => e) (fun j x ex => by cases ex) (Nat.le_refl _)
  first
   | exact wpAny_bind (wpAny_pure (wpAny_pure ⟨v, rfl, K⟩))
   | exact wpAny_pure ⟨v, rfl, K⟩
noncomputable def kMod (ut : List Nat) (x y : Int) (tx ty : (Nat → Tok) → Tok) (z : Int) : HK := roK [] ut (fun _ t => .call (.builtin "int.__mod__") ⟨[.int x (tx t), .int y (ty t)], []⟩) (fun _ _ => []) (fun _ _ u => .int z u)
theorem kMod_wf {ut x y tx ty z} : HKwf (kMod ut x y tx ty z) := roK_wf List.nodup_nil fun _ _ _ h => nomatch h
theorem kMod_ok {D U : Nat} {kt : KT} {w : World} {A : Around} {gp : GP} {ut x y tx ty z} (hy : y ≠ 0) (hz : x.fmod y = z) : HKok D U kt w A gp (kMod ut x y tx ty z) := roK_ok fun _ t A' R' s _ h1 _ k => by
 subst hz
 exact code_gives PySem.slot_int_mod (typeIs_int s x _) PySem.entry_int_mod (PySem.args_int_mod _ _) (AutoIntG6.int___mod___int_int_1 x (tx t) y (ty t) (by simpa using hy)) (k s.toks (s.toks + 1) ⟨h1, fun _ => Nat.lt_succ_self _⟩ (Nat.le_succ _))
noncomputable def kFdiv (ut : List Nat) (x y : Int) (tx ty : (Nat → Tok) → Tok) (z : Int) : HK := roK [] ut (fun _ t => .call (.builtin "int.__floordiv__") ⟨[.int x (tx t), .int y (ty t)], []⟩) (fun _ _ => []) (fun _ _ u => .int z u)
theorem kFdiv_wf {ut x y tx ty z} : HKwf (kFdiv ut x y tx ty z) := roK_wf List.nodup_nil fun _ _ _ h => nomatch h
theorem kFdiv_ok {D U : Nat} {kt : KT} {w : World} {A : Around} {gp : GP} {ut x y tx ty z} (hy : y ≠ 0) (hs : y.natAbs < 1073741824) (hz : x.fdiv y = z) : HKok D U kt w A gp (kFdiv ut x y tx ty z) := roK_ok fun _ t A' R' s _ h1 _ k => by
 subst hz
 exact code_gives F.slot_int_floordiv (typeIs_int s x _) F.entry_int_floordiv (F.args_int_floordiv_2 _ _) (AutoIntG4.int___floordiv___int_int_1 x (tx t) y (ty t) (by simpa using hy) (by rw [PyProof.noPylong_small hs]; decide)) (k s.toks (s.toks + 1) ⟨h1, fun _ => Nat.lt_succ_self _⟩ (Nat.le_succ _))
noncomputable def kIn2 (ua ut : List Nat) (x y z : Int) (tx ty tz : (Nat → Tok) → Tok) (n : Nat) (v : Bool) : HK :=
 mkK ua ut 0 0 false false (fun _ => []) (fun a t => .call (.builtin "list.__contains__") ⟨[.ref (a 0), .int x (tx t)], []⟩) (fun _ t => [lstO [.int y (ty t), .int z (tz t)] n]) (fun _ t _ _ _ _ => [lstO [.int y (ty t), .int z (tz t)] n]) (fun _ _ _ _ _ _ => []) (fun _ _ _ _ _ _ => .ok (.ret (.bool v)))
theorem kIn2_wf {ua ut x y z tx ty tz n v} (hn : ua.Nodup) (hl : ua.length = 1) : HKwf (kIn2 ua ut x y z tx ty tz n v) := mk_wf hn (fun _ _ => hl.symm ▸ rfl) (fun _ _ _ _ _ _ => hl.symm ▸ rfl) fun _ _ _ _ _ _ => rfl
theorem kIn2_ok {D U : Nat} {kt : KT} {w : World} {A : Around} {gp : GP} (hup : gp.up = false) {ua ut x y z tx ty tz n v} (hl : ua.length = 1) (hv : (y == x || z == x) = v) : HKok D U kt w A gp (kIn2 ua ut x y z tx ty tz n v) :=
 mk_direct hup (fun _ _ => hl.symm ▸ rfl) (fun _ _ _ _ _ _ => hl.symm ▸ rfl) (fun _ _ _ _ _ _ => rfl) fun a t A' R' h tok g d os hA hh h1 htk hi hp C => by
  have p0 := hp 0 _ rfl
  have hT : (⟨h, g, d, tok, os⟩ : Shared).TypeIs (.ref (a 0)) "list" := ⟨_, p0, rfl⟩
  refine code_meets slot_list_contains hT entry_list_contains (args_list_contains _ _) (PySem.MeetsSeq.list_contains (a 0) (Array.mk [.int y (ty t), .int z (tz t)]) n (.int x (tx t)) (fun q => match q with | .int i _ => i == x | _ => false) (fun q hq => ?_)) ⟨p0, ?_⟩
  ·have hq : q ∈ [Value.int y (ty t), Value.int z (tz t)] := by simpa using hq
   simp only [memC, memN, or_false] at hq
   rcases hq with rfl | rfl
   ·exact PySem.MeetsSeq.EqGives.int y x _ _
   ·exact PySem.MeetsSeq.EqGives.int z x _ _
  ·have e : ((Array.mk [Value.int y (ty t), Value.int z (tz t)]).any fun q => match q with | .int i _ => i == x | _ => false) = v := by
    rw [← hv]
    simp
   rw [e]
   exact C h tok [] [] rfl (fun u hu => nomatch hu) h1 rfl .nil (fun j x ex => by
    match j, ex with
    | 0, ex => cases ex; exact p0) (fun c x e _ => e) (fun j x ex => by cases ex) (Nat.le_refl _)
noncomputable def partV (k : Option Int) (t : Tok) : Value := match k with | none => .none | some k => .int k t
noncomputable def slcO (lo hi st : Option Int) (t : Nat → Tok) : Obj := ⟨.type "slice", none, .fields (Array.mk [partV lo (t 0), partV hi (t 1), partV st (t 2)]), Array.mk []⟩
theorem partV_is (k : Option Int) (t : Tok) : IsPart (partV k t) k := by
 cases k with
 | none => first | exact .none | constructor
 | some k => first | exact .int _ _ | constructor
noncomputable def kSlc (ua ut : List Nat) (vs : List Value) (n : Nat) (lo hi st : Option Int) (tp : (Nat → Tok) → Nat → Tok) (rs : List Value) : HK :=
 mkK ua ut 0 1 false false (fun _ => []) (fun a t => .call (.builtin "list.__getitem__") ⟨[.ref (a 0), .ref (a 1)], []⟩) (fun _ t => [lstO vs n, slcO lo hi st (tp t)]) (fun _ t _ _ _ _ => [lstO vs n, slcO lo hi st (tp t)]) (fun _ _ _ _ _ _ => [lstO rs 0]) (fun _ _ _ b _ _ => .ok (.ret (.ref (b 0))))
theorem kSlc_wf {ua ut vs n lo hi st tp rs} (hn : ua.Nodup) (hl : ua.length = 2) : HKwf (kSlc ua ut vs n lo hi st tp rs) := mk_wf hn (fun _ _ => hl.symm ▸ rfl) (fun _ _ _ _ _ _ => hl.symm ▸ rfl) fun _ _ _ _ _ _ => rfl
theorem kSlc_ok {D U : Nat} {kt : KT} {w : World} {A : Around} {gp : GP} (hup : gp.up = false) {ua ut vs n lo hi' st tp rs} (hl : ua.length = 2) (h0 : st ≠ some 0) (hr : slicePick (Array.mk vs) lo hi' st = Array.mk rs) (hv : vs.length < 1000000) : HKok D U kt w A gp (kSlc ua ut vs n lo hi' st tp rs) :=
 mk_direct hup (fun _ _ => hl.symm ▸ rfl) (fun _ _ _ _ _ _ => hl.symm ▸ rfl) (fun _ _ _ _ _ _ => rfl) fun a t A' R' h tok g d os hA hh h1 htk hi hp C => by
  have p0 := hp 0 _ rfl
  have p1 := hp 1 _ rfl
  have hT : (⟨h, g, d, tok, os⟩ : Shared).TypeIs (.ref (a 0)) "list" := ⟨_, p0, rfl⟩
  have hTs : (⟨h, g, d, tok, os⟩ : Shared).TypeIs (.ref (a 1)) "slice" := ⟨_, p1, rfl⟩
  refine code_slot slot_list_getitem hT entry_list_getitem (args_list_getitem _ _) ?_
  show wpAny _ _ (Builtin.List.listSubscript? (.ref (a 1)) >>= _) _ _ _
  refine wpAny_bind ?_
  unfold Builtin.List.listSubscript?
  refine wpAny_bind (wpAny_specialOf hTs slice_no_index ?_)
  simp only [Option.isNone_none, if_true]
  refine wpAny_pure ?_
  show wpAny _ _ (typeOf (.ref (a 1)) >>= _) _ _ _
  refine wpAny_bind (wpAny_typeOf hTs ?_)
  rw [if_neg (by decide)]
  rw [listSliceParts_eq]
  have hstep : ¬ ((rawPart st == rawInt 0) = true) := by
   cases st with
   | none => exact Bool.false_ne_true
   | some c =>
    intro hh
    have : c = 0 := by simpa [rawPart, rawInt] using hh
    exact h0 (by rw [this])
  refine wpAny_bind (wpAny_bind (wpAny_field p1 rfl (x := partV st (tp t 2)) rfl (wpAny_bind (wpAny_listPart (partV_is _ _) ?_))))
  rw [if_neg hstep]
  refine wpAny_bind (wpAny_field p1 rfl (x := partV lo (tp t 0)) rfl (wpAny_bind (wpAny_listPart (partV_is _ _) ?_)))
  refine wpAny_bind (wpAny_field p1 rfl (x := partV hi' (tp t 1)) rfl (wpAny_bind (wpAny_listPart (partV_is _ _) (wpAny_pure ?_))))
  refine wpAny_bind (m := Builtin.List.listItems (.ref (a 0))) ?_
  unfold Builtin.List.listItems
  refine wpAny_bind (wpAny_seqItems p0 rfl (wpAny_pure ?_))
  refine wpAny_bind (wpAny_of_eq (sliceIndices_raw lo hi' st (Array.mk vs).size h0) ?_)
  refine wpAny_bind (wpAny_newObj_type (wpAny_pure ⟨_, rfl, ?_⟩) (Nat.le_trans (slicePick_size_le (Array.mk vs) lo hi' st) (size_small hv)))
  have e : (h.push { cls := .type "list", dict := none, data := .seq (slicePick (Array.mk vs) lo hi' st) }).get? h.objs.size = some (lstO rs 0) := by
   rw [hr]
   exact Heap.get?_push_size _ rfl
  exact C _ tok [] [h.objs.size] rfl (fun u hu => nomatch hu) h1 rfl (by simp) (fun j x ex => by
   match j, ex with
   | 0, ex => cases ex; exact Heap.get?_push_of_some _ p0
   | 1, ex => cases ex; exact Heap.get?_push_of_some _ p1) (fun c x e _ => Heap.get?_push_of_some _ e) (fun j x ex => by
   match j, ex with
   | 0, ex => cases ex; exact ⟨e, Nat.le_refl _⟩) (by rw [Heap.size_push]; exact Nat.le_succ _)
noncomputable def kAddL (ua : List Nat) (vs : List Value) (n : Nat) (us : (Nat → Tok) → List Value) (ut : List Nat) (m : Nat) : HK :=
 mkK ua ut 0 1 false false (fun _ => []) (fun a t => .call (.builtin "list.__add__") ⟨[.ref (a 0), .ref (a 1)], []⟩) (fun _ t => [lstO vs n, lstO (us t) m]) (fun _ t _ _ _ _ => [lstO vs n, lstO (us t) m]) (fun _ t _ _ _ _ => [lstO (vs ++ us t) 0]) (fun _ _ _ b _ _ => .ok (.ret (.ref (b 0))))
theorem kAddL_wf {ua ut vs n us m} (hn : ua.Nodup) (hl : ua.length = 2) : HKwf (kAddL ua vs n us ut m) := mk_wf hn (fun _ _ => hl.symm ▸ rfl) (fun _ _ _ _ _ _ => hl.symm ▸ rfl) fun _ _ _ _ _ _ => rfl
theorem kAddL_ok {D U : Nat} {kt : KT} {w : World} {A : Around} {gp : GP} (hup : gp.up = false) {ua ut vs n us m} (hl : ua.length = 2) (hv : vs.length < 1000000) (hv2 : ∀ t, (us t).length < 1000000) : HKok D U kt w A gp (kAddL ua vs n us ut m) :=
 mk_direct hup (fun _ _ => hl.symm ▸ rfl) (fun _ _ _ _ _ _ => hl.symm ▸ rfl) (fun _ _ _ _ _ _ => rfl) fun a t A' R' h tok g d os hA hh h1 htk hi hp C => by
  have p0 := hp 0 _ rfl
  have p1 := hp 1 _ rfl
  have hT : (⟨h, g, d, tok, os⟩ : Shared).TypeIs (.ref (a 0)) "list" := ⟨_, p0, rfl⟩
  have hz : (Array.mk vs).size + (Array.mk (us t)).size ≤ sizeLine := by
   have := hv2 t
   show vs.length + (us t).length ≤ sizeLine
   rw [sizeLine_eq]
   omega
  refine code_meets F.slot_list_add hT F.entry_list_add (F.args_list_add_2 _ _) (PySem.AutoSeq1.list___add___list_list_0 (a 0) (Array.mk vs) n (a 1) (Array.mk (us t)) m hz) ⟨p0, p1, ?_⟩
  have e : (h.push { cls := Value.type "list", data := Data.seq (Array.mk vs ++ Array.mk (us t)) }).get? h.objs.size = some (lstO (vs ++ us t) 0) := by
   rw [show (Array.mk vs ++ Array.mk (us t) : Array Value) = Array.mk (vs ++ us t) from by apply Array.ext'; simp]
   exact Heap.get?_push_size _ rfl
  exact C _ tok [] [h.objs.size] rfl (fun u hu => nomatch hu) h1 rfl (by simp) (fun j x ex => by
   match j, ex with
   | 0, ex => cases ex; exact Heap.get?_push_of_some _ p0
   | 1, ex => cases ex; exact Heap.get?_push_of_some _ p1) (fun c x e _ => Heap.get?_push_of_some _ e) (fun j x ex => by
   match j, ex with
   | 0, ex => cases ex; exact ⟨e, Nat.le_refl _⟩) (by rw [Heap.size_push]; exact Nat.le_succ _)
end
section
open PySem PySem.W PySem.W.X PySem.Spec PySem.Calls PyProof.Rows
noncomputable abbrev pieceR (V : SV) (Y : Dyn) (n : Nat) (ce : List Nat) (c : Code) (p : SP) (T : BT) (m : Nat) : Option Out := simR V Y n ce false c .base [] p T m 0 0 0 [] [] []
theorem run_p {w : World} {A : Around} {D U : Nat} {nt : Bool} {ks : List HQ} {gp : GP} {sp : Code → SP} {cur : List Addr} (hcur : ∀ f ∈ cur, InFr A f) (hsp : SPok sp) (hD : A.depth + D ≤ recursionLimit) {h : Heap} (hf : nt = true → FrOk A h)
  {g : Array GenState} {d : Drawn} {os : OsState} {tok : Nat} {as : List Addr} {xs : List Obj} {R : Result → Shared → Prop} {c : Code} {p : SP} {n : Nat} {ce : List Nat} {ws : List Nat} {res : Dyn → Result} {objs : Dyn → List (Option Obj)} {s i : Nat}
  (W : ∀ k ∈ ks, ∀ q, HKwf (k.k q)) (ho : ∀ k ∈ ks, ∀ q, HKok D U (kt0 w.params) w A gp (k.k q)) (S : Starts (kt0 w.params) h as xs) (ok : (insAll xs .nil 0).isSome = true) (h1 : gp.n < tok) (gg : gp.p g d os)
  (chk : ∀ Y : Dyn, Chk ws (pieceR (SVq w A.handled D U sp nt (bfN nt A) (boOf xs) cur ks) (Y.pre as) n ce c p (mkT xs) as.length) (.res (res (Y.pre as))) (objs (Y.pre as)) s i)
  (fin : ∀ (Y : Dyn) T m h' t' g' d' os', gp.n < t' → (∀ x, x < i → gp.tk t' (Y.tk x)) → gp.p g' d' os' → RepR (kt0 w.params) (bfN nt A) (boOf xs) h as.length (Y.pre as) h' T m s → ws.map T.get = objs (Y.pre as) → R (res (Y.pre as)) ⟨h', g', d', t', os'⟩) (ha : gp.any = false := by rfl) :
  MeansP w A c false [] p R ⟨h, g, d, tok, os⟩ := by
 have O : SVok (SVq w A.handled D U sp nt (bfN nt A) (boOf xs) cur ks) w A := by
  have O' : SVok (SVz w A.handled D U sp nt (bfN nt A) (boOf xs) cur []) w A := by
   cases nt with
   | true => exact svz_ok hcur hsp rfl hD fun q => (hf q).fr
   | false =>
    have z := svz_ok (w := w) (A := A) (D := D) (U := U) (nt := false) (bo := boOf xs) (hooks := []) hcur hsp rfl hD (fun q => by cases q)
    exact ⟨z.den, z.sp, z.entry, z.wt, z.quiet, z.setting, z.hb, z.room, z.lim, z.ktf, (fun q => by cases q), hcur⟩
  exact ⟨O'.den, O'.sp, O'.entry, O'.wt, O'.quiet, O'.setting, O'.hb, O'.room, O'.lim, O'.ktf, O'.fr, O'.cur⟩
 have K := hqs_ok (V := SVq w A.handled D U sp nt (bfN nt A) (boOf xs) cur ks) (w := w) (A := A) (h₀ := h) (m₀ := as.length) (gp := gp) rfl W (ktf0 w.params) ho
 have hbf : ∀ f ∈ bfN nt A, ∃ x, h.get? f = some x ∧ isFr x = true := by
  cases nt with
  | true => exact (hf rfl).bf
  | false => exact fun f hf => nomatch hf
 have D0 := S.rep ok hbf (⟨fun _ => 0, fun _ => 0, fun _ => default, fun _ _ => #[], fun _ => []⟩ : Dyn)
 refine simR_sound O K (fun q => by rw [ha] at q; cases q) n ce false c .base [] p (mkT xs) as.length 0 0 0 [] [] [] _ h tok g d os (GP.cnt_of ha h1) GP.tks_zero gg (fun Y' a => ?_) D0
 have q : Y'.adr = preA as fun j => Y'.adr (j + as.length) := preA_eta as Y'.adr fun j hj => by
  rw [a.adr j hj]; exact preA_lt as _ j hj
 have q' : Y' = ({ Y' with adr := fun j => Y'.adr (j + as.length) } : Dyn).pre as := by
  cases Y' with | mk x y z u v => exact congrArg (fun f => Dyn.mk f y z u v) q
 rw [q']
 obtain ⟨c1, c2⟩ := Prod.mk.inj (chk { Y' with adr := fun j => Y'.adr (j + as.length) })
 obtain ⟨out, e1, e2⟩ := Option.map_eq_some_iff.mp c1
 rw [e1] at c2
 simp only [lefts, rights, Prod.mk.injEq] at c2 e2
 obtain ⟨z1, z2, z3⟩ := c2
 obtain ⟨z4, z5, z6, z7⟩ := e2
 refine ⟨out, e1, map_same z1, map_same z2, map_same z3, fun h' t' g' d' os' h1' hy' gg' D => ?_⟩
 rw [z4]
 rw [z6] at D
 rw [z7] at hy'
 exact fin _ out.T out.m h' t' g' d' os' (h1'.2 ha) (hy'.2 ha) gg' D z5
section
variable {w : World} {Γ : PySem.Ctx} {A : Around} {c : Code}
theorem tree_run {α : Type} (hc : Γ.code = c) (hΓ : Γ.Below A) {t : Sem α} {f : α → Flow} {R : Result → Shared → Prop} {s : Shared} (h : MeansP w A c false [] (.tree (trZ.fin t f)) R s) : wpG (model pw w) Γ t (fun v s' => R (.ok (f v)) s') (fun e s' => R (.error e) s') s := by
 rw [trZ_eq] at h
 have z := RunsAs.fin (M := model pw w) (Γ := Γ) t f _ _ (SPg_of hc hΓ (p := .tree (trC.fin t f)) h)
 exact wpG_mono z (fun v s' x => x.2) fun e s' x => x
end
structure Went (P : Params) (e : Bool) (h h' : Heap) (as as2 : List Addr) (ys zs : List Obj) : Prop where
 S : Starts (kt0 P) h' (as ++ as2) (ys ++ zs)
 K : KeepB e h h' as
 len : as.length = ys.length
 new : ∀ a ∈ as2, h.objs.size ≤ a
theorem Went.fst {P : Params} {e : Bool} {h h' : Heap} {as as2 : List Addr} {ys zs : List Obj} (W : Went P e h h' as as2 ys zs) : Starts (kt0 P) h' as ys where
 len := W.len
 at_ := fun j a x e1 e2 => by
  have hj : j < as.length := (List.getElem?_eq_some_iff.mp e1).1
  exact W.S.at_ j a x (by rw [List.getElem?_append_left hj]; exact e1) (by rw [List.getElem?_append_left (W.len ▸ hj)]; exact e2)
 nodup := (List.nodup_append.mp W.S.nodup).1
 base := W.S.base
 off := fun a ha => W.S.off a (List.mem_append_left _ ha)
theorem Went.at2 {P : Params} {e : Bool} {h h' : Heap} {as as2 : List Addr} {ys zs : List Obj} (W : Went P e h h' as as2 ys zs) {j : Nat} {a : Addr} {x : Obj} (e1 : as2[j]? = some a) (e2 : zs[j]? = some x) : h'.get? a = some x :=
 W.S.at_ (as.length + j) a x (by rw [List.getElem?_append_right (by omega), Nat.add_sub_cancel_left]; exact e1) (by rw [List.getElem?_append_right (by have := W.len; omega), W.len, Nat.add_sub_cancel_left]; exact e2)
theorem pre_adr {as : List Addr} {Y : Dyn} {j : Nat} (h : j < as.length) : as[j]? = some ((Y.pre as).adr j) := preA_lt as Y.adr j h
theorem went_of {P : Params} {bf : List Addr} {bo : List Nat} {h h' : Heap} {as : List Addr} {Y : Dyn} {T : BT} {m s : Nat} {e : Bool} {bi : List Nat} {ys zs : List Obj} (hno : as.Nodup) (hoff : ∀ a ∈ as, (kt0 P).get a = none) (D : RepR (kt0 P) bf bo h as.length (Y.pre as) h' T m s) (he : s = 0 ∨ e = true)
  (hl : as.length = ys.length) (hz : bi.length = zs.length) (hbi : ∀ x ∈ bi, as.length ≤ x) (hbn : bi.Nodup) (ew : (List.range as.length ++ bi).map T.get = (ys ++ zs).map some) : Went P e h h' as (bi.map (Y.pre as).adr) ys zs := by
 have t1 : ∀ j x, ys[j]? = some x → T.get j = some x := fun j x ex => by
  have hj : j < as.length := hl ▸ (List.getElem?_eq_some_iff.mp ex).1
  have z := map_range_get ew hj
  rw [List.getElem?_map, List.getElem?_append_left (by omega), ex] at z
  exact (Option.some.inj z).symm
 have t2 : ∀ j y, bi[j]? = some y → ∃ x, zs[j]? = some x ∧ T.get y = some x := fun j y ey => by
  have z := map_new_get ew ey
  rw [List.getElem?_map, List.getElem?_append_right (by omega), hl, Nat.add_sub_cancel_left] at z
  obtain ⟨x, e1, e2⟩ := Option.map_eq_some_iff.mp z
  exact ⟨x, e1, e2.symm⟩
 have lt2 : ∀ y ∈ bi, y < m ∧ h.objs.size ≤ (Y.pre as).adr y := fun y hy => by
  obtain ⟨j, hj, rfl⟩ := List.mem_iff_getElem.mp hy
  obtain ⟨x, _, e2⟩ := t2 j _ (List.getElem?_eq_getElem hj)
  have z := (D.own _ _ e2).1
  exact ⟨z, D.new _ (hbi _ hy) z⟩
 have lt1 : ∀ j, j < as.length → j < m := fun j hj => Nat.lt_of_lt_of_le hj D.low
 refine ⟨⟨by simp [hl, hz], fun j a x e1 e2 => ?_, ?_, D.base, fun a ha => ?_⟩, D.keepB he, hl, fun a ha => ?_⟩
 ·by_cases hj : j < as.length
  ·rw [List.getElem?_append_left hj, pre_adr (Y := Y) hj] at e1
   rw [List.getElem?_append_left (hl ▸ hj)] at e2
   rw [← Option.some.inj e1]
   exact (D.own j x (t1 j x e2)).2
  ·rw [List.getElem?_append_right (by omega), List.getElem?_map] at e1
   rw [List.getElem?_append_right (by omega), ← hl] at e2
   obtain ⟨y, f1, f2⟩ := Option.map_eq_some_iff.mp e1
   obtain ⟨x', f3, f4⟩ := t2 _ y f1
   rw [e2] at f3
   cases f3
   rw [← f2]
   exact (D.own y x f4).2
 ·rw [List.nodup_append]
  refine ⟨hno, ?_, fun a ha b hb q => ?_⟩
  ·have : List.Pairwise (· ≠ ·) (bi.map (Y.pre as).adr) := by
    rw [List.pairwise_map]
    exact List.Pairwise.imp_of_mem (fun ha hb ne e => ne (D.inj _ _ (lt2 _ ha).1 (lt2 _ hb).1 e)) hbn
   exact this
  ·obtain ⟨j, hj, rfl⟩ := List.mem_iff_getElem.mp ha
   obtain ⟨y, hy, rfl⟩ := List.mem_map.mp hb
   have z := pre_adr (Y := Y) hj
   rw [List.getElem?_eq_getElem hj] at z
   have z := Option.some.inj z
   rw [z] at q
   have := D.inj _ _ (lt1 j hj) (lt2 y hy).1 q
   have := hbi y hy
   omega
 ·rcases List.mem_append.mp ha with ha | ha
  ·exact hoff a ha
  ·obtain ⟨y, hy, rfl⟩ := List.mem_map.mp ha
   exact D.off y (lt2 y hy).1
 ·obtain ⟨y, hy, rfl⟩ := List.mem_map.mp ha
  exact (lt2 y hy).2
noncomputable def viewC (ws : List Nat) (r : Option Out) : Option ((Code × Code × Option Value × Bool × Nat) × List (Option Obj) × Nat × Nat) := match r with
 | some o => (match o.fin with
  | .call c c' hd md _ ks => some ((c, c', hd, md, ks.length), ws.map o.T.get, o.s, o.i)
  | _ => none)
 | none => none
noncomputable def kOf (r : Option Out) : Result → Sem PySem.Fin := match r with
 | some o => (match o.fin with
  | .call _ _ _ _ k _ => k
  | _ => fun _ => .pure (.done .next))
 | none => fun _ => .pure (.done .next)
noncomputable abbrev ChkC (ws : List Nat) (r : Option Out) (c c' : Code) (objs : List (Option Obj)) (s i : Nat) : Prop := (viewC ws r, lefts r) = (some ((c, c', none, false, 0), objs, s, i), rights r)
section
variable {w : World} {A : Around} {D U : Nat} {nt : Bool} {ks : List HQ} {N : Nat} {cur : List Addr} {h : Heap} {g : Array GenState} {d : Drawn} {os : OsState} {tok : Nat} {as : List Addr} {xs : List Obj} {R : Result → Shared → Prop} {n : Nat} {ce : List Nat} {s i : Nat}
 {bi : List Nat} {ys zs : Dyn → List Obj}
theorem code_w {c : Code} {e : Nat} {res : Dyn → Stop} (hcur : ∀ f ∈ cur, InFr A f) (hD : A.depth + D ≤ recursionLimit) (hf : nt = true → FrOk A h)
  (W : ∀ k ∈ ks, ∀ q, HKwf (k.k q)) (ho : ∀ k ∈ ks, ∀ q, HKok D U (kt0 w.params) w A (sameG N g d os) (k.k q)) (S : Starts (kt0 w.params) h as xs) (ok : (insAll xs .nil 0).isSome = true) (h1 : N < tok)
  (hs : s = 0 ∨ nt = true) (hl : ∀ Y, as.length = (ys Y).length) (hz : ∀ Y, bi.length = (zs Y).length) (hbi : ∀ x ∈ bi, as.length ≤ x) (hbn : bi.Nodup)
  (chk : ∀ bf (Y : Dyn), Chk (List.range as.length ++ bi) (codeR (SVq w A.handled D U trZ.sp nt bf (boOf xs) cur ks) (Y.pre as) n ce e c (mkT xs) as.length) (res (Y.pre as)) ((ys (Y.pre as) ++ zs (Y.pre as)).map some) s i)
  (fin : ∀ (Y : Dyn) h' t', N < t' → (∀ x, x < i → N < Y.tk x) → Went w.params nt h h' as (bi.map Y.adr) (ys Y) (zs Y) → match res Y with | .res r => R r ⟨h', g, d, t', os⟩ | .cut c => codeAny (model pw w) A c R ⟨h', g, d, t', os⟩ | .call c c' hd md k ks => codeAny (model pw w) ((A.under c).mark hd) c' (fun r s' => MeansP w A c md ks (.tree (k r)) R s') ⟨h', g, d, t', os⟩) :
  codeAny (model pw w) A c R ⟨h, g, d, tok, os⟩ := by
 refine run_q (gp := sameG N g d os) hcur spZ_ok hD hf W ho S ok h1 ⟨rfl, rfl, rfl⟩ (res := res) (objs := fun Y => (ys Y ++ zs Y).map some) (chk _) ?_
 rintro Y T m h' t' _ _ _ h1' hy ⟨rfl, rfl, rfl⟩ Dr ew
 exact fin (Y.pre as) h' t' h1' (fun x hx => (hy x hx).1) (went_of S.nodup S.off Dr hs (hl _) (hz _) hbi hbn ew)
theorem piece_w {c : Code} {p : SP} {res : Dyn → Result} (hcur : ∀ f ∈ cur, InFr A f) (hD : A.depth + D ≤ recursionLimit) (hf : nt = true → FrOk A h)
  (W : ∀ k ∈ ks, ∀ q, HKwf (k.k q)) (ho : ∀ k ∈ ks, ∀ q, HKok D U (kt0 w.params) w A (sameG N g d os) (k.k q)) (S : Starts (kt0 w.params) h as xs) (ok : (insAll xs .nil 0).isSome = true) (h1 : N < tok)
  (hs : s = 0 ∨ nt = true) (hl : ∀ Y, as.length = (ys Y).length) (hz : ∀ Y, bi.length = (zs Y).length) (hbi : ∀ x ∈ bi, as.length ≤ x) (hbn : bi.Nodup)
  (chk : ∀ bf (Y : Dyn), Chk (List.range as.length ++ bi) (pieceR (SVq w A.handled D U trZ.sp nt bf (boOf xs) cur ks) (Y.pre as) n ce c p (mkT xs) as.length) (.res (res (Y.pre as))) ((ys (Y.pre as) ++ zs (Y.pre as)).map some) s i)
  (fin : ∀ (Y : Dyn) h' t', N < t' → (∀ x, x < i → N < Y.tk x) → Went w.params nt h h' as (bi.map Y.adr) (ys Y) (zs Y) → R (res Y) ⟨h', g, d, t', os⟩) :
  MeansP w A c false [] p R ⟨h, g, d, tok, os⟩ := by
 refine run_p (gp := sameG N g d os) hcur spZ_ok hD hf W ho S ok h1 ⟨rfl, rfl, rfl⟩ (res := res) (objs := fun Y => (ys Y ++ zs Y).map some) (chk _) ?_
 rintro Y T m h' t' _ _ _ h1' hy ⟨rfl, rfl, rfl⟩ Dr ew
 exact fin (Y.pre as) h' t' h1' (fun x hx => (hy x hx).1) (went_of S.nodup S.off Dr hs (hl _) (hz _) hbi hbn ew)
theorem call_w {c : Code} {p : SP} {c' : Dyn → Code} (hcur : ∀ f ∈ cur, InFr A f) (hD : A.depth + D ≤ recursionLimit) (hf : nt = true → FrOk A h)
  (W : ∀ k ∈ ks, ∀ q, HKwf (k.k q)) (ho : ∀ k ∈ ks, ∀ q, HKok D U (kt0 w.params) w A (sameG N g d os) (k.k q)) (S : Starts (kt0 w.params) h as xs) (ok : (insAll xs .nil 0).isSome = true) (h1 : N < tok)
  (hs : s = 0 ∨ nt = true) (hl : ∀ Y, as.length = (ys Y).length) (hz : ∀ Y, bi.length = (zs Y).length) (hbi : ∀ x ∈ bi, as.length ≤ x) (hbn : bi.Nodup)
  (chk : ∀ bf (Y : Dyn), ChkC (List.range as.length ++ bi) (pieceR (SVq w A.handled D U trZ.sp nt bf (boOf xs) cur ks) (Y.pre as) n ce c p (mkT xs) as.length) c (c' (Y.pre as)) ((ys (Y.pre as) ++ zs (Y.pre as)).map some) s i)
  (fin : ∀ (Y : Dyn) h' t', N < t' → (∀ x, x < i → N < (Y.pre as).tk x) → Went w.params nt h h' as (bi.map (Y.pre as).adr) (ys (Y.pre as)) (zs (Y.pre as)) →
   codeAny (model pw w) ((A.under c).mark none) (c' (Y.pre as)) (fun r s' => MeansP w A c false [] (.tree (kOf (pieceR (SVq w A.handled D U trZ.sp nt (bfN nt A) (boOf xs) cur ks) (Y.pre as) n ce c p (mkT xs) as.length) r)) R s') ⟨h', g, d, t', os⟩) :
  MeansP w A c false [] p R ⟨h, g, d, tok, os⟩ := by
 have O : SVok (SVq w A.handled D U trZ.sp nt (bfN nt A) (boOf xs) cur ks) w A := by
  have O' : SVok (SVz w A.handled D U trZ.sp nt (bfN nt A) (boOf xs) cur []) w A := by
   cases nt with
   | true => exact svz_ok hcur spZ_ok rfl hD fun q => (hf q).fr
   | false =>
    have z := svz_ok (w := w) (A := A) (D := D) (U := U) (nt := false) (bo := boOf xs) (hooks := []) hcur spZ_ok rfl hD (fun q => by cases q)
    exact ⟨z.den, z.sp, z.entry, z.wt, z.quiet, z.setting, z.hb, z.room, z.lim, z.ktf, (fun q => by cases q), hcur⟩
  exact ⟨O'.den, O'.sp, O'.entry, O'.wt, O'.quiet, O'.setting, O'.hb, O'.room, O'.lim, O'.ktf, O'.fr, O'.cur⟩
 have K := hqs_ok (V := SVq w A.handled D U trZ.sp nt (bfN nt A) (boOf xs) cur ks) (w := w) (A := A) (h₀ := h) (m₀ := as.length) (gp := sameG N g d os) rfl W (ktf0 w.params) ho
 have hbf : ∀ f ∈ bfN nt A, ∃ x, h.get? f = some x ∧ isFr x = true := by
  cases nt with
  | true => exact (hf rfl).bf
  | false => exact fun f hf => nomatch hf
 have D0 := S.rep ok hbf (⟨fun _ => 0, fun _ => 0, fun _ => default, fun _ _ => #[], fun _ => []⟩ : Dyn)
 refine simR_sound O K (fun q => by cases q) n ce false c .base [] p (mkT xs) as.length 0 0 0 [] [] [] _ h tok g d os (GP.cnt_of rfl h1) GP.tks_zero ⟨rfl, rfl, rfl⟩ (fun Y' a => ?_) D0
 have q : Y'.adr = preA as fun j => Y'.adr (j + as.length) := preA_eta as Y'.adr fun j hj => by
  rw [a.adr j hj]; exact preA_lt as _ j hj
 have q' : Y' = ({ Y' with adr := fun j => Y'.adr (j + as.length) } : Dyn).pre as := by
  cases Y' with | mk x y z u v => exact congrArg (fun f => Dyn.mk f y z u v) q
 rw [q']
 generalize ({ Y' with adr := fun j => Y'.adr (j + as.length) } : Dyn) = Y
 have F := fin Y
 obtain ⟨c1, c2⟩ := Prod.mk.inj (chk (bfN nt A) Y)
 cases er : pieceR (SVq w A.handled D U trZ.sp nt (bfN nt A) (boOf xs) cur ks) (Y.pre as) n ce c p (mkT xs) as.length with
 | none => rw [er] at c1; cases c1
 | some out =>
  rw [er] at c1 c2 F
  simp only [viewC] at c1
  split at c1
  ·rename_i c0 c1' hd md k ks' ef
   simp only [Option.some.injEq, Prod.mk.injEq] at c1
   obtain ⟨⟨y0, y1, y2, y3, y4⟩, y5, y6, y7⟩ := c1
   simp only [lefts, rights, Prod.mk.injEq] at c2
   obtain ⟨z1, z2, z3⟩ := c2
   refine ⟨out, er, map_same z1, map_same z2, map_same z3, fun h' t' g' d' os' h1' hy' gg' D => ?_⟩
   obtain ⟨rfl, rfl, rfl⟩ := gg'
   rw [y6] at D
   rw [y7] at hy'
   have Wn := went_of (ys := ys (Y.pre as)) (zs := zs (Y.pre as)) S.nodup S.off D hs (hl _) (hz _) hbi hbn y5
   have F := F h' t' (h1'.2 rfl) (fun x hx => (hy'.2 rfl x hx).1) Wn
   subst y2
   subst y3
   have e0 : ks' = [] := List.length_eq_zero_iff.mp y4
   subst e0
   have ek : kOf (some out) = k := by simp only [kOf, ef]
   rw [ek] at F
   rw [ef]
   subst y0
   subst y1
   exact F
  ·cases c1
end
theorem ofL_at {l : List Nat} {j : Nat} (h : j < l.length) : l[j]? = some (ofL l j) := by
 unfold ofL
 rw [nth_eq, List.getElem?_eq_getElem h]
theorem KeepB.comp {e : Bool} {h h₁ h₂ : Heap} {as bs : List Addr} (K : KeepB e h h₁ as) (K' : KeepB e h₁ h₂ bs) (hb : ∀ b ∈ bs, b ∈ as ∨ h.objs.size ≤ b) : KeepB e h h₂ as := by
 have out : ∀ a x, h.get? a = some x → a ∉ as → a ∉ bs := fun a x ex n m => (hb a m).elim n fun q => absurd (Heap.lt_size ex) (Nat.not_lt.mpr q)
 exact ⟨fun a x q n f => K'.keep a x (K.keep a x q n f) (out a x q n) f, fun a x q n f => by
  obtain ⟨sl, z⟩ := K.fr a x q n f
  exact K'.fr a { x with slots := sl } z (out a x q n) f, Nat.le_trans K.size K'.size⟩
theorem KeepB.sub {e : Bool} {h h' : Heap} {as bs : List Addr} (K : KeepB e h h' as) (hb : ∀ a ∈ as, a ∈ bs) : KeepB e h h' bs :=
 ⟨fun a x q n f => K.keep a x q (fun m => n (hb a m)) f, fun a x q n f => K.fr a x q (fun m => n (hb a m)) f, K.size⟩
theorem KeepB.up {e : Bool} {h h' : Heap} {as : List Addr} (K : KeepB false h h' as) : KeepB e h h' as := ⟨fun a x q n f => K.keep a x q n (fun h => by cases h), K.fr, K.size⟩
theorem mk_code {P : Params} {w : World} {A : Around} {N : Nat} {g : Array GenState} {d : Drawn} {os : OsState} {D U : Nat} {ua ut : List Nat} {nt nn : Nat} {noH noting : Bool} {c : (Nat → Addr) → (Nat → Tok) → Code} {xs : XF} {ys zs : PostF} {res : ResF}
  (H : HKok D U (kt0 P) w A (sameG N g d os) (mkK ua ut nt nn noH noting (fun _ => []) c xs ys zs res)) (hD : 0 < D) (hn : noH = true → A.handled = none) {h : Heap} (hf : noting = true → FrOk A h) {tok : Nat} (h1 : N < tok) {as : List Addr} {ts : List Tok}
  (hts : ts.length = ut.length) (ht : ∀ t ∈ ts, N < t) (S : Starts (kt0 P) h as (xs (ofL as) (ofL ts))) (ha : as.length = ua.length) (hxs : ∀ a t, (xs a t).length = ua.length) (hys : ∀ a t u b sl pl, (ys a t u b sl pl).length = ua.length) (hzs : ∀ a t u b sl pl, (zs a t u b sl pl).length = nn)
  {R : Result → Shared → Prop}
  (fin : ∀ h' t' (us : List Tok) (bs : List Addr) sl pl, N < t' → us.length = nt → (∀ u ∈ us, N < u) → bs.length = nn → Went P noting h h' as bs (ys (ofL as) (ofL ts) (ofL us) (ofL bs) sl pl) (zs (ofL as) (ofL ts) (ofL us) (ofL bs) sl pl) → R (res (ofL as) (ofL ts) (ofL us) (ofL bs) sl pl) ⟨h', g, d, t', os⟩) :
  codeAny (model pw w) A (c (ofL as) (ofL ts)) R ⟨h, g, d, tok, os⟩ := by
 have mem : ∀ x, x < ua.length → ofL as x ∈ as := fun x hx => List.mem_of_getElem? (ofL_at (ha ▸ hx))
 refine H (ofL as) (ofL ts) A R h tok g d os (by omega) hn (fun q => by cases q) (fun q => ⟨hf q, fun f h => (nomatch h)⟩) h1 (fun x hx => GP.tk0 rfl (ht _ (List.mem_of_getElem? (ofL_at (hts ▸ hx))))) ⟨rfl, rfl, rfl⟩ S.base (fun q hq => ?_) (fun x hx => S.off _ (mem x hx)) (fun x y hx hy e => ?_) fun h' tok' g' d' os' us bs pl l1 l2 l3 l4 l5 l6 l7 F => ?_
 ·have z := (mem_zip_range (hxs _ _)).mp hq
  have hj : q.1 < ua.length := hxs (ofL as) (ofL ts) ▸ (List.getElem?_eq_some_iff.mp z).1
  exact S.at_ q.1 _ _ (ofL_at (ha ▸ hj)) z
 ·have e1 := ofL_at (l := as) (ha ▸ hx : x < as.length)
  rw [e, ← ofL_at (l := as) (ha ▸ hy : y < as.length)] at e1
  exact (List.getElem?_inj (by have : y < as.length := ha ▸ hy; have : x < as.length := ha ▸ hx; omega) S.nodup).mp e1
 ·obtain ⟨rfl, rfl, rfl⟩ := l7
  refine fin h' tok' us bs _ pl l3 l1 (fun u hu => (l2 u hu).1) l5 ?_
  have hys' := hys (ofL as) (ofL ts) (ofL us) (ofL bs) (slA (mkK ua ut nt nn noH noting (fun _ => []) c xs ys zs res) (ofL as) h') pl
  have hzs' := hzs (ofL as) (ofL ts) (ofL us) (ofL bs) (slA (mkK ua ut nt nn noH noting (fun _ => []) c xs ys zs res) (ofL as) h') pl
  have l5 : bs.length = nn := l5
  have post : ∀ j x, (ys (ofL as) (ofL ts) (ofL us) (ofL bs) (slA (mkK ua ut nt nn noH noting (fun _ => []) c xs ys zs res) (ofL as) h') pl)[j]? = some x → h'.get? (ofL as j) = some x := fun j x e => F.post (j, x) ((mem_zip_range hys').mpr e)
  have nin : ∀ e, e ∉ as → ∀ q ∈ (mkK ua ut nt nn noH noting (fun _ => []) c xs ys zs res).post (ofL as) (ofL ts) (ofL us) (ofL bs) (slA (mkK ua ut nt nn noH noting (fun _ => []) c xs ys zs res) (ofL as) h') pl, ofL as q.1 ≠ e := fun e he q hq e' => by
   have z := (mem_zip_range hys').mp hq
   have hj : q.1 < ua.length := hys' ▸ (List.getElem?_eq_some_iff.mp z).1
   exact he (e' ▸ mem q.1 hj)
  have asl : ∀ a ∈ as, a < h.objs.size := fun a ha' => by
   obtain ⟨j, hj, rfl⟩ := List.mem_iff_getElem.mp ha'
   exact Heap.lt_size (S.at_ j _ _ (List.getElem?_eq_getElem hj) (List.getElem?_eq_getElem (S.len ▸ hj)))
  have news : ∀ j x, (zs (ofL as) (ofL ts) (ofL us) (ofL bs) (slA (mkK ua ut nt nn noH noting (fun _ => []) c xs ys zs res) (ofL as) h') pl)[j]? = some x → h'.get? (ofL bs j) = some x ∧ h.objs.size ≤ ofL bs j := F.news
  have bge : ∀ b ∈ bs, h.objs.size ≤ b := fun b hb => by
   obtain ⟨j, hj, rfl⟩ := List.mem_iff_getElem.mp hb
   have z := (news j _ (List.getElem?_eq_getElem (by omega : j < (zs (ofL as) (ofL ts) (ofL us) (ofL bs) (slA (mkK ua ut nt nn noH noting (fun _ => []) c xs ys zs res) (ofL as) h') pl).length))).2
   have e := ofL_at hj
   rw [List.getElem?_eq_getElem hj] at e
   rw [Option.some.inj e]
   exact z
  have hbase : ∀ b x, (kt0 P).get b = some x → h'.get? b = some x := fun b x e => F.keep b x (S.base b x e) (nin b fun hm => by rw [S.off b hm] at e; cases e) fun _ => ktf0 P b x e
  refine ⟨⟨by simp [ha, hys', hzs', l5], fun j a x e1 e2 => ?_, ?_, hbase, fun b hb => ?_⟩, ⟨fun a x q n f => F.keep a x q (nin a n) f, fun a x q n f => ?_, F.size⟩, by omega, bge⟩
  ·by_cases hj : j < as.length
   ·rw [List.getElem?_append_left hj, ofL_at hj] at e1
    rw [List.getElem?_append_left (by omega)] at e2
    rw [← Option.some.inj e1]
    exact post j x e2
   ·rw [List.getElem?_append_right (by omega)] at e1
    rw [List.getElem?_append_right (by omega), hys', ← ha] at e2
    have hb := (List.getElem?_eq_some_iff.mp e1).1
    rw [ofL_at hb] at e1
    rw [← Option.some.inj e1]
    exact (news _ _ e2).1
  ·rw [List.nodup_append]
   refine ⟨S.nodup, ?_, fun a ha' b hb q => ?_⟩
   ·rw [List.nodup_iff_pairwise_ne, List.pairwise_iff_getElem]
    intro i j hi hj hij q
    have e1 := ofL_at hi
    have e2 := ofL_at hj
    rw [List.getElem?_eq_getElem hi] at e1
    rw [List.getElem?_eq_getElem hj] at e2
    rw [Option.some.inj e1, Option.some.inj e2] at q
    have := F.inj i j (show i < nn by omega) (show j < nn by omega) q
    omega
   ·subst q
    exact absurd (asl a ha') (Nat.not_lt.mpr (bge a hb))
  ·rcases List.mem_append.mp hb with hb | hb
   ·exact S.off b hb
   ·cases q : (kt0 P).get b with
    | none => rfl
    | some x => exact absurd (Heap.lt_size (S.base b x q)) (Nat.not_lt.mpr (bge b hb))
  ·cases hno : noting with
   | true => exact F.fr hno a x q (nin a n) f
   | false => exact ⟨x.slots, F.keep a x q (nin a n) (fun h => by rw [show (mkK ua ut nt nn noH noting (fun _ => []) c xs ys zs res).noting = noting from rfl, hno] at h; cases h)⟩
end
section
open PySem PySem.W PySem.W.X PySem.Calls PyProof.Rows
noncomputable def stmtAt (x : Obj) (i : Nat) : Stmt := match nth (stmtsOf x) i with | some s => s | none => default
noncomputable def asgV : Stmt → Expr
 | .Assign _ v _ => v
 | _ => default
noncomputable def compSc : Expr → Scope
 | .ListComp _ _ sc _ => sc
 | _ => default
noncomputable def lawEnv (P : Params) (f cL cK : Addr) : Env := { envFn (o803 P) 803 f with cells := [(o "lexer", cL), (o "kinds", cK)] }
noncomputable def cmpC (e : Expr) (it acc : Addr) (env : Env) : Code := .compLoop e 0 (.ref it) (.ref acc) env
noncomputable def cmpS (e : Expr) (it acc : Addr) (env : Env) : Code := .compStart e 0 (.ref it) (.ref acc) env
noncomputable def cellV (v : Value) : Obj := ⟨.type "cell", none, .cell (some v), Array.mk []⟩
noncomputable def cell0 : Obj := ⟨.type "cell", none, .cell none, Array.mk []⟩
noncomputable def locO (es : List DictEntry) : Obj := ⟨.type "dict", none, .dict (Array.mk es) es.length, Array.mk []⟩
noncomputable def wordsE (P : Params) : Expr := asgV (stmtAt (o803 P) 1)
noncomputable def questE (P : Params) : Expr := asgV (stmtAt (o803 P) 2)
noncomputable def answE (P : Params) : Expr := asgV (stmtAt (o803 P) 4)
noncomputable def leftE (P : Params) : Expr := asgV (stmtAt (o803 P) 5)
noncomputable def kEnv (P : Params) (e : Expr) (f cL cK d : Addr) : Env := compEnvC (compSc e) [(o "kinds", cK)] d (lawEnv P f cL cK)
noncomputable def lEnv (P : Params) (e : Expr) (f cL cK d : Addr) : Env := compEnvC (compSc e) [(o "lexer", cL)] d (lawEnv P f cL cK)
noncomputable def nEnv (P : Params) (e : Expr) (f cL cK d : Addr) : Env := compEnvC (compSc e) [] d (lawEnv P f cL cK)
noncomputable def kindsV (kt : Nat → Tok) : List Value := [.str (txt 0) (kt 0), .str (txt 1) (kt 1), .str (txt 2) (kt 2), .str (txt 3) (kt 3), .str (txt 4) (kt 4), .str (txt 5) (kt 5), .str (txt 6) (kt 6)]
noncomputable def numV (q : Int × Tok) : Value := .int q.1 q.2
noncomputable def m6 (x : Int) : Nat := (x.fmod 6).toNat
theorem m6_lt (x : Int) : m6 x < 6 := by
 have h1 := Int.fmod_nonneg_of_pos x (b := 6) (by decide)
 have h2 := Int.fmod_lt_of_pos x (b := 6) (by decide)
 unfold m6
 omega
theorem m6_int (x : Int) : x.fmod 6 = (m6 x : Int) := by
 have h1 := Int.fmod_nonneg_of_pos x (b := 6) (by decide)
 unfold m6
 omega
noncomputable def kindV (kt : Nat → Tok) (k : Nat) : Value := .str (txt k) (kt k)
theorem kindsV_at (kt : Nat → Tok) {k : Nat} (h : k < 7) : (kindsV kt)[k]? = some (kindV kt k) := by
 rcases Nat.lt_or_ge k 6 with h6 | h6
 ·exact six (P := fun k => (kindsV kt)[k]? = some (kindV kt k)) rfl rfl rfl rfl rfl rfl k h6
 ·obtain rfl : k = 6 := Nat.le_antisymm (Nat.le_of_lt_succ h) h6
  rfl
noncomputable def wordV (kt : Nat → Tok) (q : Int × Tok) : Value := kindV kt (m6 q.1)
noncomputable def oneLoc (n : String) : Option (Int × Tok × Value) → Obj
 | none => locO []
 | some (h, k, v) => locO [⟨h, .str (o n) k, v⟩]
noncomputable def locPl (n : String) (pl : List Value) : Obj := oneLoc n (some (intV (plv pl 0), tokV (plv pl 0), plv pl 1))
noncomputable def wlXs (kt : Nat → Tok) (nl : List (Int × Tok)) (i : Nat) (loc : Option (Int × Tok × Value)) : XF := fun a _ => [litO (a 5) i, lstO ((nl.take i).map (wordV kt)) i, oneLoc "x" loc, cellV (.ref (a 4)), lstO (kindsV kt) 0, lstO (nl.map numV) 0]
noncomputable def wlYs (kt : Nat → Tok) (nl : List (Int × Tok)) : PostF := fun a _ _ _ _ pl => [litE nl.length, lstO (nl.map (wordV kt)) nl.length, locPl "x" pl, cellV (.ref (a 4)), lstO (kindsV kt) 0, lstO (nl.map numV) 0]
noncomputable def kWL (P : Params) (ua : List Nat) (f cL : Addr) (kt : Nat → Tok) (nl : List (Int × Tok)) (i : Nat) (loc : Option (Int × Tok × Value)) : HK :=
 mkK ua [] 0 0 true true (fun _ => []) (fun a _ => cmpC (wordsE P) (a 0) (a 1) (kEnv P (wordsE P) f cL (a 3) (a 2))) (wlXs kt nl i loc) (wlYs kt nl) (fun _ _ _ _ _ _ => []) (fun _ _ _ _ _ _ => .ok .next)
noncomputable def ks_wl (kt : Nat → Tok) (nl : List (Int × Tok)) (i : Nat) (q : Int × Tok) : List HQ :=
 [(kLNext [0, 5] (nl.map numV) 0 i (numV q)).q, (kMod [1] q.1 6 (fun _ => q.2) (fun t => t 0) (m6 q.1)).q, (kGetI [4] [2] (kindsV kt) 0 (m6 q.1) (fun t => t 0) (kindV kt (m6 q.1))).q, (kApp [1] [] ((nl.take i).map (wordV kt)) i (fun _ _ => kindV kt (m6 q.1))).q]
theorem ks_wl_wf {kt nl i q} : ∀ k ∈ ks_wl kt nl i q, ∀ q', HKwf (k.k q') := by
 intro k hk q'
 simp only [ks_wl, memC, memN, or_false] at hk
 rcases hk with rfl | rfl | rfl | rfl
 ·exact kLNext_wf (by decide) rfl
 ·exact kMod_wf
 ·exact kGetI_wf (by decide) rfl
 ·exact kApp_wf (by decide) rfl
theorem ks_wl_ok {D U : Nat} {kt' : KT} {w : World} {A : Around} {gp : GP} (hup : gp.up = false) {kt nl} {i : Nat} {q : Int × Tok} (hq : nl[i]? = some q) (hl : nl.length < 1000000) : ∀ k ∈ ks_wl kt nl i q, ∀ q', HKok D U kt' w A gp (k.k q') := by
 intro k hk q'
 simp only [ks_wl, memC, memN, or_false] at hk
 rcases hk with rfl | rfl | rfl | rfl
 ·exact kLNext_ok hup rfl (by rw [List.getElem?_map, hq]; rfl)
 ·exact kMod_ok (by decide) (m6_int q.1)
 ·have := m6_lt q.1
  exact kGetI_ok hup rfl (m := m6 q.1) rfl (by omega) (kindsV_at kt (by omega))
 ·refine kApp_ok hup rfl ?_
  rw [List.length_map, List.length_take]
  omega
theorem take_succ_map {α β : Type} {l : List α} {i : Nat} {q : α} (f : α → β) (h : l[i]? = some q) : (l.take (i + 1)).map f = (l.take i).map f ++ [f q] := by
 rw [List.take_add_one, h, List.map_append]
 rfl
theorem kWL_ok {w : World} {r : Bool} {A : Around} {D U : Nat} {gp : GP} (hup : gp.up = false) (hD : A.depth + D + 140 ≤ recursionLimit) {f cL : Addr} {kt : Nat → Tok} {nl : List (Int × Tok)} (hl : nl.length < 1000000) :
  ∀ (m i : Nat) (hi : i + m = nl.length) {loc : Option (Int × Tok × Value)} (hloc : loc = none → 0 < m), HKok D U (kt0 w.params) (wf w r) A gp (kWL w.params [0, 1, 2, 3, 4, 5] f cL kt nl i loc)
 | 0, i, hi, none, hloc => absurd (hloc rfl) (Nat.lt_irrefl _)
 | 0, i, hi, some (h, k, v), hloc => by
  obtain rfl : i = nl.length := by omega
  unfold kWL
  refine mk_run (w := wf w r) (noH := true) (noting := true) (A := A) (D := D) (D' := 70) (U' := 0) (ks := fun a t => [(kLEnd [0, 5] (nl.map numV) 0 nl.length).q]) (fuel := 1000) (ce := decs [29364225]) (e := 0) (s := 0) (i := 0) (ti := []) (bi := []) (fp := [])
   (plf := fun a t Y => [.int h k, v]) hup rfl rfl nilA nilA .nil (.inl rfl) (fun q => by cases q) (fun _ _ => rfl) (fun _ _ _ _ _ _ => rfl) (fun _ _ _ _ _ _ => rfl) (dle ‹_›) (fun q => by cases q) (fun _ _ _ _ _ => .nil) (fun a t q hq q' => ?_)
   (fun a t A' g d os hA _ _ q hq q' => ?_) (fun _ _ => by rfl) ?_
  ·rw [List.mem_singleton] at hq
   subst hq
   exact kLEnd_wf (by decide) rfl
  ·rw [List.mem_singleton] at hq
   subst hq
   exact kLEnd_ok (gp := sameG gp.n g d os) rfl rfl (by rw [List.getElem?_map, List.getElem?_eq_none (Nat.le_refl _)]; rfl)
  ·intro a t hb bf Y hh'
   obtain rfl := hh' rfl
   have e : wlXs kt nl nl.length (some (h, k, v)) a t = [litO (a 5) nl.length, lstO (nl.map (wordV kt)) nl.length, oneLoc "x" (some (h, k, v)), cellV (.ref (a 4)), lstO (kindsV kt) 0, lstO (nl.map numV) 0] := by
    unfold wlXs
    rw [List.take_length]
   rw [e]
   cases r <;> kernel_rfl
 | m + 1, i, hi, loc, hloc => by
  obtain ⟨q, hq⟩ : ∃ q, nl[i]? = some q := ⟨_, List.getElem?_eq_getElem (by omega)⟩
  have IH := fun {loc : Option (Int × Tok × Value)} (h : loc = none → 0 < m) => kWL_ok (w := w) (r := r) (A := A) (D := D) (U := U) (f := f) (cL := cL) (kt := kt) hup hD hl m (i + 1) (by omega) (loc := loc) h
  have ex : ∀ loc a t, wlXs kt nl (i + 1) loc a t = [litO (a 5) (i + 1), lstO ((nl.take i).map (wordV kt) ++ [kindV kt (m6 q.1)]) (i + 1), oneLoc "x" loc, cellV (.ref (a 4)), lstO (kindsV kt) 0, lstO (nl.map numV) 0] := fun loc a t => by
   unfold wlXs
   rw [take_succ_map _ hq]
   rfl
  cases loc with
  | none =>
   unfold kWL
   refine mk_turn (w := wf w r) (noH := true) (noting := true) (A := A) (D := D) (D' := 70) (U' := 0) (ks := fun a t => ks_wl kt nl i q) (fuel := 1000) (ce := decs [Nhr]) (e := 0) (s := 0) (i := 3)
    (fun _ _ a => cmpC (wordsE w.params) (a 0) (a 1) (kEnv w.params (wordsE w.params) f cL (a 3) (a 2))) (fun t Y a => wlXs kt nl (i + 1) (some (hashZ w.params (o "x"), Y.tk 0, numV q)) a t)
    hup (.inl rfl) (fun q => by cases q) (fun _ _ => rfl) (fun _ _ _ _ _ _ => rfl) (fun _ _ _ => rfl) (by omega) (fun _ _ => ks_wl_wf)
    (fun a t A' g d os hA _ _ => ks_wl_ok rfl hq hl) (fun _ _ => by rfl) (fun a t Y => by rw [ex]; kernel_rfl) (fun t Y hy _ => ?_) ?_
   ·exact IH (fun h => by cases h)
   ·intro a t hb bf Y hh'
    obtain rfl := hh' rfl
    rw [ex]
    cases r <;> kernel_rfl
  | some z =>
   obtain ⟨h, k, v⟩ := z
   unfold kWL
   refine mk_turn (w := wf w r) (noH := true) (noting := true) (A := A) (D := D) (D' := 70) (U' := 0) (ks := fun a t => ks_wl kt nl i q) (fuel := 1000) (ce := decs [Nhr]) (e := 0) (s := 0) (i := 3)
    (fun _ _ a => cmpC (wordsE w.params) (a 0) (a 1) (kEnv w.params (wordsE w.params) f cL (a 3) (a 2))) (fun t Y a => wlXs kt nl (i + 1) (some (h, k, numV q)) a t)
    hup (.inl rfl) (fun q => by cases q) (fun _ _ => rfl) (fun _ _ _ _ _ _ => rfl) (fun _ _ _ => rfl) (by omega) (fun _ _ => ks_wl_wf)
    (fun a t A' g d os hA _ _ => ks_wl_ok rfl hq hl) (fun _ _ => by rfl) (fun a t Y => by rw [ex]; kernel_rfl) (fun t Y hy _ => ?_) ?_
   ·exact IH (fun h => by cases h)
   ·intro a t hb bf Y hh'
    obtain rfl := hh' rfl
    rw [ex]
    cases r <;> kernel_rfl
noncomputable def kApp2 (ua ut : List Nat) (vs : List Value) (n : Nat) (x : (Nat → Tok) → Obj) : HK :=
 mkK ua ut 0 0 false false (fun _ => []) (fun a t => .call (.builtin "list.append") ⟨[.ref (a 0), .ref (a 1)], []⟩) (fun _ t => [lstO vs n, x t]) (fun a t _ _ _ _ => [lstO (vs ++ [.ref (a 1)]) (n + 1), x t]) (fun _ _ _ _ _ _ => []) (fun _ _ _ _ _ _ => .ok (.ret .none))
theorem kApp2_wf {ua ut vs n x} (hn : ua.Nodup) (hl : ua.length = 2) : HKwf (kApp2 ua ut vs n x) := mk_wf hn (fun _ _ => hl.symm ▸ rfl) (fun _ _ _ _ _ _ => hl.symm ▸ rfl) fun _ _ _ _ _ _ => rfl
theorem push_obj {vs : List Value} {n : Nat} (v : Value) : Obj.mapSeq (fun x => x.push v) (lstO vs n) = lstO (vs ++ [v]) (n + 1) := by
 unfold lstO Obj.mapSeq
 dsimp only
 rw [if_neg (by simp)]
 congr 2
 apply Array.ext'
 simp
theorem kApp2_ok {D U : Nat} {kt : KT} {w : World} {A : Around} {gp : GP} (hup : gp.up = false) {ua ut vs n x} (hl : ua.length = 2) (hv : vs.length < 1000000) : HKok D U kt w A gp (kApp2 ua ut vs n x) :=
 mk_direct hup (fun _ _ => hl.symm ▸ rfl) (fun _ _ _ _ _ _ => hl.symm ▸ rfl) (fun _ _ _ _ _ _ => rfl) fun a t A' R' h tok g d os hA hh h1 htk hi hp C => by
  have p0 := hp 0 _ rfl
  have p1 := hp 1 _ rfl
  have ne : a 1 ≠ a 0 := fun q => absurd (hi 1 0 (by omega) (by omega) q) (by decide)
  have hT : (⟨h, g, d, tok, os⟩ : Shared).TypeIs (.ref (a 0)) "list" := ⟨_, p0, rfl⟩
  refine code_meets slot_list_append hT entry_list_append (args_list_append _ _) (list_append (a 0) (Array.mk vs) n (.ref (a 1)) (size_small hv)) ⟨p0, ?_⟩
  have hs : Heap.SameBut (a 0) h (h.update (a 0) (Obj.mapSeq fun x => x.push (.ref (a 1)))) := .update ..
  have e0 : (h.update (a 0) (Obj.mapSeq fun x => x.push (.ref (a 1)))).get? (a 0) = some (lstO (vs ++ [.ref (a 1)]) (n + 1)) := by
   rw [← push_obj]
   exact Heap.get?_update_self _ p0 (by rw [push_obj]; rfl)
  exact C _ tok [] [] rfl (fun u hu => nomatch hu) h1 rfl .nil (fun j x ex => by
   match j, ex with
   | 0, ex => cases ex; exact e0
   | 1, ex => cases ex; exact (hs.2 _ ne).trans p1) (one_keep (i := 0) hs (by omega)) (fun j x ex => by cases ex) (Nat.le_of_eq hs.1.symm)
noncomputable def q5 (x : Int) : Nat := ((x.fdiv 6).fmod 5).toNat
noncomputable def w7 (x : Int) : Nat := ((x.fdiv 30).fmod 7).toNat
theorem q5_int (x : Int) : (x.fdiv 6).fmod 5 = (q5 x : Int) := by
 have h1 := Int.fmod_nonneg_of_pos (x.fdiv 6) (b := 5) (by decide)
 unfold q5
 omega
theorem w7_int (x : Int) : (x.fdiv 30).fmod 7 = (w7 x : Int) := by
 have h1 := Int.fmod_nonneg_of_pos (x.fdiv 30) (b := 7) (by decide)
 unfold w7
 omega
theorem q5_lt (x : Int) : q5 x < 5 := by
 have h1 := Int.fmod_nonneg_of_pos (x.fdiv 6) (b := 5) (by decide)
 have h2 := Int.fmod_lt_of_pos (x.fdiv 6) (b := 5) (by decide)
 unfold q5
 omega
theorem w7_lt (x : Int) : w7 x < 7 := by
 have h1 := Int.fmod_nonneg_of_pos (x.fdiv 30) (b := 7) (by decide)
 have h2 := Int.fmod_lt_of_pos (x.fdiv 30) (b := 7) (by decide)
 unfold w7
 omega
noncomputable def kept (x : Int) : Bool := !((2 : Int) == (q5 x : Int) || (3 : Int) == (q5 x : Int))
structure Qd where
 a : Addr
 kd : Nat
 tk : Tok
 k : Nat
noncomputable def qO (kt : Nat → Tok) (q : Qd) : Obj := lstO [.int q.kd q.tk, kindV kt q.k] 0
noncomputable def Qd.v (q : Qd) : Value := .ref q.a
noncomputable def questOf (ns : List Int) : List (Nat × Nat) := (ns.filter kept).map fun x => (q5 x, w7 x)
noncomputable def qlXs (kt : Nat → Tok) (kl nA : Addr) (nl : List (Int × Tok)) (i : Nat) (qs : List Qd) (loc : Option (Int × Tok × Value)) : List Obj := [litO nA i, lstO (qs.map Qd.v) qs.length, oneLoc "x" loc, cellV (.ref kl), lstO (kindsV kt) 0, lstO (nl.map numV) 0]
noncomputable def ks_ql1 (kt : Nat → Tok) (nl : List (Int × Tok)) (i : Nat) (q : Int × Tok) (v : Bool) : List HQ :=
 [(kLNext [0, 5] (nl.map numV) 0 i (numV q)).q, (kFdiv [1] q.1 6 (fun _ => q.2) (fun t => t 0) (q.1.fdiv 6)).q, (kMod [2, 3] (q.1.fdiv 6) 5 (fun t => t 0) (fun t => t 1) (q5 q.1)).q, (kIn2 [6] [4, 5, 6] (q5 q.1) 2 3 (fun t => t 0) (fun t => t 1) (fun t => t 2) 0 v).q]
noncomputable def ks_ql2 (kt : Nat → Tok) (nl : List (Int × Tok)) (i : Nat) (q : Int × Tok) (qs : List Qd) : List HQ :=
 [(kLNext [0, 5] (nl.map numV) 0 i (numV q)).q, (kFdiv [1] q.1 6 (fun _ => q.2) (fun t => t 0) (q.1.fdiv 6)).q, (kMod [2, 3] (q.1.fdiv 6) 5 (fun t => t 0) (fun t => t 1) (q5 q.1)).q, (kIn2 [6] [4, 5, 6] (q5 q.1) 2 3 (fun t => t 0) (fun t => t 1) (fun t => t 2) 0 false).q,
 (kFdiv [7] q.1 6 (fun _ => q.2) (fun t => t 0) (q.1.fdiv 6)).q, (kMod [8, 9] (q.1.fdiv 6) 5 (fun t => t 0) (fun t => t 1) (q5 q.1)).q, (kFdiv [11] q.1 30 (fun _ => q.2) (fun t => t 0) (q.1.fdiv 30)).q, (kMod [12, 13] (q.1.fdiv 30) 7 (fun t => t 0) (fun t => t 1) (w7 q.1)).q,
 (kGetI [4] [14] (kindsV kt) 0 (w7 q.1) (fun t => t 0) (kindV kt (w7 q.1))).q, (kApp2 [1, 7] [10] (qs.map Qd.v) qs.length (fun t => lstO [.int (q5 q.1) (t 0), kindV kt (w7 q.1)] 0)).q]
theorem ks_ql1_wf {kt nl i q v} : ∀ k ∈ ks_ql1 kt nl i q v, ∀ q', HKwf (k.k q') := by
 intro k hk q'
 simp only [ks_ql1, memC, memN, or_false] at hk
 rcases hk with rfl | rfl | rfl | rfl
 ·exact kLNext_wf (by decide) rfl
 ·exact kFdiv_wf
 ·exact kMod_wf
 ·exact kIn2_wf (by decide) rfl
theorem ks_ql2_wf {kt nl i q qs} : ∀ k ∈ ks_ql2 kt nl i q qs, ∀ q', HKwf (k.k q') := by
 intro k hk q'
 simp only [ks_ql2, memC, memN, or_false] at hk
 rcases hk with rfl | rfl | rfl | rfl | rfl | rfl | rfl | rfl | rfl | rfl
 ·exact kLNext_wf (by decide) rfl
 ·exact kFdiv_wf
 ·exact kMod_wf
 ·exact kIn2_wf (by decide) rfl
 ·exact kFdiv_wf
 ·exact kMod_wf
 ·exact kFdiv_wf
 ·exact kMod_wf
 ·exact kGetI_wf (by decide) rfl
 ·exact kApp2_wf (by decide) rfl
theorem ks_ql1_ok {D U : Nat} {kt' : KT} {w : World} {A : Around} {gp : GP} (hup : gp.up = false) {kt nl} {i : Nat} {q : Int × Tok} {v : Bool} (hq : nl[i]? = some q) (hv : ((2 : Int) == (q5 q.1 : Int) || (3 : Int) == (q5 q.1 : Int)) = v) : ∀ k ∈ ks_ql1 kt nl i q v, ∀ q', HKok D U kt' w A gp (k.k q') := by
 intro k hk q'
 simp only [ks_ql1, memC, memN, or_false] at hk
 rcases hk with rfl | rfl | rfl | rfl
 ·exact kLNext_ok hup rfl (by rw [List.getElem?_map, hq]; rfl)
 ·exact kFdiv_ok (by decide) (by decide) rfl
 ·exact kMod_ok (by decide) (q5_int q.1)
 ·exact kIn2_ok hup rfl hv
theorem ks_ql2_ok {D U : Nat} {kt' : KT} {w : World} {A : Around} {gp : GP} (hup : gp.up = false) {kt nl} {i : Nat} {q : Int × Tok} {qs : List Qd} (hq : nl[i]? = some q) (hv : ((2 : Int) == (q5 q.1 : Int) || (3 : Int) == (q5 q.1 : Int)) = false) (hl : qs.length < 1000000) : ∀ k ∈ ks_ql2 kt nl i q qs, ∀ q', HKok D U kt' w A gp (k.k q') := by
 intro k hk q'
 simp only [ks_ql2, memC, memN, or_false] at hk
 have := w7_lt q.1
 rcases hk with rfl | rfl | rfl | rfl | rfl | rfl | rfl | rfl | rfl | rfl
 ·exact kLNext_ok hup rfl (by rw [List.getElem?_map, hq]; rfl)
 ·exact kFdiv_ok (by decide) (by decide) rfl
 ·exact kMod_ok (by decide) (q5_int q.1)
 ·exact kIn2_ok hup rfl hv
 ·exact kFdiv_ok (by decide) (by decide) rfl
 ·exact kMod_ok (by decide) (q5_int q.1)
 ·exact kFdiv_ok (by decide) (by decide) rfl
 ·exact kMod_ok (by decide) (w7_int q.1)
 ·exact kGetI_ok hup rfl (m := w7 q.1) rfl (by omega) (kindsV_at kt (by omega))
 ·exact kApp2_ok hup rfl (by rw [List.length_map]; exact hl)
theorem KeepB.trans0 {h h' h'' : Heap} {l : List Addr} (K : KeepB false h h' l) (K' : KeepB false h' h'' l) : KeepB false h h'' l :=
 ⟨fun a x q n f => K'.keep a x (K.keep a x q n f) n f, fun a x q n f => by
  obtain ⟨sl, z⟩ := K.fr a x q n f
  exact K'.fr a { x with slots := sl } z n f, Nat.le_trans K.size K'.size⟩
theorem quest_succ {nl : List (Int × Tok)} {i : Nat} {q : Int × Tok} (h : nl[i]? = some q) : questOf ((nl.take (i + 1)).map Prod.fst) = questOf ((nl.take i).map Prod.fst) ++ (if kept q.1 = true then [(q5 q.1, w7 q.1)] else []) := by
 rw [take_succ_map _ h]
 unfold questOf
 rw [List.filter_append, List.map_append]
 congr 1
 by_cases hk : kept q.1 = true
 ·simp [hk]
 ·simp [hk]
noncomputable def Qs (n0 : Nat) (h : Heap) (kt : Nat → Tok) (as : List Addr) (qs : List Qd) : Prop := ∀ q ∈ qs, h.get? q.a = some (qO kt q) ∧ q.a ∉ as ∧ n0 ≤ q.a
theorem Qs.keep {n0 : Nat} {h h' : Heap} {kt : Nat → Tok} {as : List Addr} {qs : List Qd} (Q : Qs n0 h kt as qs) (K : KeepB false h h' as) : Qs n0 h' kt as qs := fun q hq => ⟨K.keep _ _ (Q q hq).1 (Q q hq).2.1 (fun h => by cases h), (Q q hq).2⟩
noncomputable def qd (q : Qd) : Nat × Nat := (q.kd, q.k)
theorem ge_one {n j : Nat} (h : n ≤ j) : ∀ x ∈ [j], n ≤ x := fun x hx => by
 rw [List.mem_singleton] at hx
 subst hx
 exact h
noncomputable abbrev qAs (it acc dd cK kl nA : Addr) : List Addr := [it, acc, dd, cK, kl, nA]
theorem quest_turn {N : Nat} {w : World} {r : Bool} {A : Around} (hr : A.depth + 140 ≤ recursionLimit) {g : Array GenState} {d : Drawn} {os : OsState} {it acc dd cK kl nA f cL : Addr} {kt : Nat → Tok} {nl : List (Int × Tok)} (hl : nl.length < 1000000)
  {i : Nat} {q : Int × Tok} (hq : nl[i]? = some q) {h : Heap} {tok : Nat} (h1 : N < tok) {qs : List Qd} (hqs : qs.map qd = questOf ((nl.take i).map Prod.fst)) {loc : Option (Int × Tok × Value)}
  (S : Starts (kt0 w.params) h (qAs it acc dd cK kl nA) (qlXs kt kl nA nl i qs loc)) {n0 : Nat} (hn0 : n0 ≤ h.objs.size) (Q : Qs n0 h kt (qAs it acc dd cK kl nA) qs) {R : Result → Shared → Prop}
  (go : ∀ h' t' qs' loc', N < t' → qs'.map qd = questOf ((nl.take (i + 1)).map Prod.fst) → loc' ≠ none → Starts (kt0 w.params) h' (qAs it acc dd cK kl nA) (qlXs kt kl nA nl (i + 1) qs' loc') → Qs n0 h' kt (qAs it acc dd cK kl nA) qs' → KeepB false h h' (qAs it acc dd cK kl nA) →
   codeAny (model pw (wf w r)) A (cmpC (questE w.params) it acc (kEnv w.params (questE w.params) f cL cK dd)) R ⟨h', g, d, t', os⟩) :
  codeAny (model pw (wf w r)) A (cmpC (questE w.params) it acc (kEnv w.params (questE w.params) f cL cK dd)) R ⟨h, g, d, tok, os⟩ := by
 have hql : qs.length < 1000000 := by
  have e1 := congrArg List.length hqs
  have e2 : (questOf ((nl.take i).map Prod.fst)).length ≤ i := by
   unfold questOf
   rw [List.length_map]
   refine Nat.le_trans (List.length_filter_le _ _) ?_
   rw [List.length_map, List.length_take]
   omega
  have e3 : i < nl.length := (List.getElem?_eq_some_iff.mp hq).1
  rw [List.length_map] at e1
  omega
 have qx : ∀ (qs' : List Qd) loc, qlXs kt kl nA nl (i + 1) qs' loc = [litO nA (i + 1), lstO (qs'.map Qd.v) qs'.length, oneLoc "x" loc, cellV (.ref kl), lstO (kindsV kt) 0, lstO (nl.map numV) 0] := fun _ _ => rfl
 cases hv : kept q.1 with
 | false =>
  have hv' : ((2 : Int) == (q5 q.1 : Int) || (3 : Int) == (q5 q.1 : Int)) = true := by
   unfold kept at hv
   simpa only [Bool.not_eq_false'] using hv
  have qn : qs.map qd = questOf ((nl.take (i + 1)).map Prod.fst) := by
   rw [quest_succ hq, if_neg (by rw [hv]; decide), List.append_nil, hqs]
  cases loc with
  | none =>
   refine code_w (w := wf w r) (D := 70) (U := 0) (nt := false) (N := N) (ks := ks_ql1 kt nl i q true) (cur := []) (as := qAs it acc dd cK kl nA) (xs := qlXs kt kl nA nl i qs none) (n := 1000) (ce := decs [Nhs]) (e := 0) (s := 0) (i := 7) (bi := []) (res := fun Y => .cut (cmpC (questE w.params) it acc (kEnv w.params (questE w.params) f cL cK dd)))
    (ys := fun Y => qlXs kt kl nA nl (i + 1) qs (some (hashZ w.params (o "x"), Y.tk 0, numV q))) (zs := fun _ => []) nilA (dle ‹_›) (fun q => by cases q) ks_ql1_wf (ks_ql1_ok rfl hq hv') S rfl h1 (.inl rfl) (fun _ => rfl) (fun _ => rfl) nilA .nil ?_ ?_
   ·intro bf Y
    cases r <;> kernel_rfl
   ·intro Y h' t' ht' hy Wn
    exact go h' t' qs _ ht' qn (by simp) Wn.fst (Q.keep Wn.K) Wn.K
  | some z =>
   obtain ⟨hx, kx, vx⟩ := z
   refine code_w (w := wf w r) (D := 70) (U := 0) (nt := false) (N := N) (ks := ks_ql1 kt nl i q true) (cur := []) (as := qAs it acc dd cK kl nA) (xs := qlXs kt kl nA nl i qs (some (hx, kx, vx))) (n := 1000) (ce := decs [Nhs]) (e := 0) (s := 0) (i := 7) (bi := []) (res := fun Y => .cut (cmpC (questE w.params) it acc (kEnv w.params (questE w.params) f cL cK dd)))
    (ys := fun Y => qlXs kt kl nA nl (i + 1) qs (some (hx, kx, numV q))) (zs := fun _ => []) nilA (dle ‹_›) (fun q => by cases q) ks_ql1_wf (ks_ql1_ok rfl hq hv') S rfl h1 (.inl rfl) (fun _ => rfl) (fun _ => rfl) nilA .nil ?_ ?_
   ·intro bf Y
    cases r <;> kernel_rfl
   ·intro Y h' t' ht' hy Wn
    exact go h' t' qs _ ht' qn (by simp) Wn.fst (Q.keep Wn.K) Wn.K
 | true =>
  have hv' : ((2 : Int) == (q5 q.1 : Int) || (3 : Int) == (q5 q.1 : Int)) = false := by
   unfold kept at hv
   simpa only [Bool.not_eq_true'] using hv
  have fin : ∀ (Y : Dyn) h' t' loc', loc' ≠ none → N < t' → Went (wf w r).params false h h' (qAs it acc dd cK kl nA) ([7].map Y.adr) [litO nA (i + 1), lstO (qs.map Qd.v ++ [.ref (Y.adr 7)]) (qs.length + 1), oneLoc "x" loc', cellV (.ref kl), lstO (kindsV kt) 0, lstO (nl.map numV) 0] [lstO [.int (q5 q.1) (Y.tk 10), kindV kt (w7 q.1)] 0] →
    codeAny (model pw (wf w r)) A (cmpC (questE w.params) it acc (kEnv w.params (questE w.params) f cL cK dd)) R ⟨h', g, d, t', os⟩ := by
   intro Y h' t' loc' hloc ht' Wn
   have ez : (qs ++ [(⟨Y.adr 7, q5 q.1, Y.tk 10, w7 q.1⟩ : Qd)]).map Qd.v = qs.map Qd.v ++ [.ref (Y.adr 7)] := by simp [Qd.v]
   have el : (qs ++ [(⟨Y.adr 7, q5 q.1, Y.tk 10, w7 q.1⟩ : Qd)]).length = qs.length + 1 := by simp
   refine go h' t' (qs ++ [⟨Y.adr 7, q5 q.1, Y.tk 10, w7 q.1⟩]) loc' ht' ?_ hloc ?_ ?_ Wn.K
   ·rw [quest_succ hq, if_pos hv, List.map_append, hqs]
    rfl
   ·rw [qx, ez, el]
    exact Wn.fst
   ·intro q' hq'
    rcases List.mem_append.mp hq' with hq' | hq'
    ·exact Q.keep Wn.K q' hq'
    ·rw [List.mem_singleton] at hq'
     subst hq'
     refine ⟨Wn.at2 (j := 0) rfl rfl, fun hm => ?_, Nat.le_trans hn0 (Wn.new _ (.head _))⟩
     exact (List.nodup_append.mp Wn.S.nodup).2.2 _ hm _ (.head _) rfl
  cases loc with
  | none =>
   refine code_w (w := wf w r) (D := 70) (U := 0) (nt := false) (N := N) (ks := ks_ql2 kt nl i q qs) (cur := []) (as := qAs it acc dd cK kl nA) (xs := qlXs kt kl nA nl i qs none) (n := 1000) (ce := decs [Nht, Nhu]) (e := 0) (s := 0) (i := 15) (bi := [7]) (res := fun Y => .cut (cmpC (questE w.params) it acc (kEnv w.params (questE w.params) f cL cK dd)))
    (ys := fun Y => [litO nA (i + 1), lstO (qs.map Qd.v ++ [.ref (Y.adr 7)]) (qs.length + 1), oneLoc "x" (some (hashZ w.params (o "x"), Y.tk 0, numV q)), cellV (.ref kl), lstO (kindsV kt) 0, lstO (nl.map numV) 0]) (zs := fun Y => [lstO [.int (q5 q.1) (Y.tk 10), kindV kt (w7 q.1)] 0]) nilA (dle ‹_›) (fun q => by cases q) ks_ql2_wf (ks_ql2_ok rfl hq hv' hql) S rfl h1 (.inl rfl) (fun _ => rfl) (fun _ => rfl) (ge_one (by show 6 ≤ 7; decide)) (by decide) ?_ ?_
   ·intro bf Y
    cases r <;> kernel_rfl
   ·intro Y h' t' ht' hy Wn
    exact fin Y h' t' _ (by simp) ht' Wn
  | some z =>
   obtain ⟨hx, kx, vx⟩ := z
   refine code_w (w := wf w r) (D := 70) (U := 0) (nt := false) (N := N) (ks := ks_ql2 kt nl i q qs) (cur := []) (as := qAs it acc dd cK kl nA) (xs := qlXs kt kl nA nl i qs (some (hx, kx, vx))) (n := 1000) (ce := decs [Nht, Nhu]) (e := 0) (s := 0) (i := 15) (bi := [7]) (res := fun Y => .cut (cmpC (questE w.params) it acc (kEnv w.params (questE w.params) f cL cK dd)))
    (ys := fun Y => [litO nA (i + 1), lstO (qs.map Qd.v ++ [.ref (Y.adr 7)]) (qs.length + 1), oneLoc "x" (some (hx, kx, numV q)), cellV (.ref kl), lstO (kindsV kt) 0, lstO (nl.map numV) 0]) (zs := fun Y => [lstO [.int (q5 q.1) (Y.tk 10), kindV kt (w7 q.1)] 0]) nilA (dle ‹_›) (fun q => by cases q) ks_ql2_wf (ks_ql2_ok rfl hq hv' hql) S rfl h1 (.inl rfl) (fun _ => rfl) (fun _ => rfl) (ge_one (by show 6 ≤ 7; decide)) (by decide) ?_ ?_
   ·intro bf Y
    cases r <;> kernel_rfl
   ·intro Y h' t' ht' hy Wn
    exact fin Y h' t' _ (by simp) ht' Wn
theorem quest_loop {N : Nat} {w : World} {r : Bool} {A : Around} (hr : A.depth + 140 ≤ recursionLimit) (hh : A.handled = none) {g : Array GenState} {d : Drawn} {os : OsState} {it acc dd cK kl nA f cL : Addr} {kt : Nat → Tok} {nl : List (Int × Tok)} (hl : nl.length < 1000000) {R : Result → Shared → Prop} :
  ∀ (m i : Nat) (hi : i + m = nl.length) {h : Heap} {tok : Nat} (h1 : N < tok) {qs : List Qd} (hqs : qs.map qd = questOf ((nl.take i).map Prod.fst)) {loc : Option (Int × Tok × Value)} (hloc : loc = none → 0 < m)
   (S : Starts (kt0 w.params) h (qAs it acc dd cK kl nA) (qlXs kt kl nA nl i qs loc)) {n0 : Nat} (hn0 : n0 ≤ h.objs.size) (Q : Qs n0 h kt (qAs it acc dd cK kl nA) qs)
   (fin : ∀ h' t' qs' hx kx vx, N < t' → qs'.map qd = questOf (nl.map Prod.fst) → Starts (kt0 w.params) h' (qAs it acc dd cK kl nA) [litE nl.length, lstO (qs'.map Qd.v) qs'.length, oneLoc "x" (some (hx, kx, vx)), cellV (.ref kl), lstO (kindsV kt) 0, lstO (nl.map numV) 0] → Qs n0 h' kt (qAs it acc dd cK kl nA) qs' → KeepB false h h' (qAs it acc dd cK kl nA) → R (.ok .next) ⟨h', g, d, t', os⟩),
   codeAny (model pw (wf w r)) A (cmpC (questE w.params) it acc (kEnv w.params (questE w.params) f cL cK dd)) R ⟨h, g, d, tok, os⟩
 | 0, i, hi, h, tok, h1, qs, hqs, none, hloc, S, n0, hn0, Q, fin => absurd (hloc rfl) (Nat.lt_irrefl _)
 | 0, i, hi, h, tok, h1, qs, hqs, some (hx, kx, vx), hloc, S, n0, hn0, Q, fin => by
  obtain rfl : i = nl.length := by omega
  rw [List.take_length] at hqs
  refine code_w (w := wf w r) (D := 70) (U := 0) (nt := false) (N := N) (ks := [(kLEnd [0, 5] (nl.map numV) 0 nl.length).q]) (cur := []) (as := qAs it acc dd cK kl nA) (xs := qlXs kt kl nA nl nl.length qs (some (hx, kx, vx))) (n := 1000) (ce := decs [29364225]) (e := 0) (s := 0) (i := 0) (bi := []) (res := fun Y => .res (.ok .next))
   (ys := fun Y => [litE nl.length, lstO (qs.map Qd.v) qs.length, oneLoc "x" (some (hx, kx, vx)), cellV (.ref kl), lstO (kindsV kt) 0, lstO (nl.map numV) 0]) (zs := fun _ => []) nilA (dle ‹_›) (fun q => by cases q) (fun k hk q' => ?_) (fun k hk q' => ?_) S rfl h1 (.inl rfl) (fun _ => rfl) (fun _ => rfl) nilA .nil ?_ ?_
  ·rw [List.mem_singleton] at hk
   subst hk
   exact kLEnd_wf (by decide) rfl
  ·rw [List.mem_singleton] at hk
   subst hk
   exact kLEnd_ok (gp := sameG N g d os) rfl rfl (by rw [List.getElem?_map, List.getElem?_eq_none (Nat.le_refl _)]; rfl)
  ·intro bf Y
   rw [hh]
   cases r <;> kernel_rfl
  ·intro Y h' t' ht' hy Wn
   exact fin h' t' qs hx kx vx ht' hqs Wn.fst (Q.keep Wn.K) Wn.K
 | m + 1, i, hi, h, tok, h1, qs, hqs, loc, hloc, S, n0, hn0, Q, fin => by
  obtain ⟨q, hq⟩ : ∃ q, nl[i]? = some q := ⟨_, List.getElem?_eq_getElem (by omega)⟩
  refine quest_turn hr hl hq h1 hqs S hn0 Q fun h' t' qs' loc' ht' hqs' hloc' S' Q' K' => ?_
  exact quest_loop hr hh hl m (i + 1) (by omega) ht' hqs' (fun e => absurd e hloc') S' (Nat.le_trans hn0 K'.size) Q' fun h'' t'' qs'' hx kx vx a1 a2 a3 a4 a5 => fin h'' t'' qs'' hx kx vx a1 a2 a3 a4 (K'.trans0 a5)
noncomputable def lawEs (hh : Nat → Int) (k : Nat → Tok) : Nat → List (String × Value) → List DictEntry
 | _, [] => []
 | j, (n, v) :: l => eh hh k j n v :: lawEs hh k (j + 1) l
noncomputable def frO (hh : Nat → Int) (k : Nat → Tok) (l : List (String × Value)) (sl : Array (Option Value)) : Obj := ⟨.type "frame", none, .dict (Array.mk (lawEs hh k 0 l)) l.length, sl⟩
noncomputable def lawC (P : Params) (f cL cK : Addr) : Code := .func (stmtsOf (o803 P)) (lawEnv P f cL cK)
noncomputable def stmP (P : Params) (i : Nat) (env : Env) : SP := .tree (trZ.fin (trZ.execs [stmtAt (o803 P) i] env) id)
noncomputable def lcP : Expr → Expr × List Comprehension × Scope × Pos
 | .ListComp e g s p => (e, g, s, p)
 | e => (e, [], default, default)
noncomputable def lcG (e : Expr) : Comprehension := (lcP e).2.1.headD ⟨e, e, [], 0⟩
noncomputable def lcR (e : Expr) : Expr := .ListComp (lcP e).1 (⟨(lcG e).target, (lcG e).iter, (lcG e).ifs, 0⟩ :: (lcP e).2.1.tail) (lcP e).2.2.1 (lcP e).2.2.2
noncomputable def IsLC (e : Expr) : Prop := ∃ elt t it ifs rest sc pos, e = .ListComp elt (⟨t, it, ifs, 0⟩ :: rest) sc pos
theorem isLC_of {e : Expr} (h : e = lcR e) : IsLC e := ⟨_, _, _, _, _, _, _, h⟩
theorem start_list {w : World} {A : Around} {R : Result → Shared → Prop} {s : Shared} {e : Expr} {it l : Addr} {i : Nat} {acc : Addr} {env : Env} (he : IsLC e) (hi : s.heap.get? it = some (litO l i)) (h0 : codeAny (model pw w) A (cmpC e it acc env) R s) : codeAny (model pw w) A (cmpS e it acc env) R s := by
 obtain ⟨elt, t, iter, ifs, rest, sc, pos, rfl⟩ := he
 exact codeAny_compStart_list h0 (wpAny_pyIter_listiter (i := i) ⟨_, hi, rfl, rfl⟩ h0)
theorem wordsE_is (P : Params) : IsLC (wordsE P) := isLC_of (by kernel_rfl)
theorem questE_is (P : Params) : IsLC (questE P) := isLC_of (by kernel_rfl)
theorem Starts.re {kt : KT} {h h' : Heap} {as : List Addr} {xs xs' : List Obj} (S : Starts kt h as xs) (hl : as.length = xs'.length) (hb : ∀ b x, kt.get b = some x → h'.get? b = some x) (ha : ∀ (j : Nat) (a : Addr) (x : Obj), as[j]? = some a → xs'[j]? = some x → h'.get? a = some x) : Starts kt h' as xs' := ⟨hl, ha, S.nodup, hb, S.off⟩
theorem Starts.pick {kt : KT} {h : Heap} {as : List Addr} {xs : List Obj} (S : Starts kt h as xs) (ix : List Nat) {as' : List Addr} {xs' : List Obj} (hn : ix.Nodup) (h1 : ix.map (as[·]?) = as'.map some) (h2 : ix.map (xs[·]?) = xs'.map some) : Starts kt h as' xs' := by
 have l1 : ix.length = as'.length := by simpa using congrArg List.length h1
 have l2 : ix.length = xs'.length := by simpa using congrArg List.length h2
 have a1 : ∀ j, ix[j]?.map (as[·]?) = as'[j]?.map some := fun j => by rw [← List.getElem?_map, h1, List.getElem?_map]
 have a2 : ∀ j, ix[j]?.map (xs[·]?) = xs'[j]?.map some := fun j => by rw [← List.getElem?_map, h2, List.getElem?_map]
 have mem : ∀ a ∈ as', ∃ i, as[i]? = some a := fun a ha => by
  obtain ⟨j, hj, rfl⟩ := List.mem_iff_getElem.mp ha
  have z := a1 j
  rw [List.getElem?_eq_getElem hj, List.getElem?_eq_getElem (l1 ▸ hj : j < ix.length)] at z
  exact ⟨_, Option.some.inj z⟩
 refine ⟨by omega, fun j a x e1 e2 => ?_, ?_, S.base, fun a ha => ?_⟩
 ·have z1 := a1 j
  have z2 := a2 j
  rw [e1] at z1
  rw [e2] at z2
  cases q : ix[j]? with
  | none => rw [q] at z1; cases z1
  | some i =>
   rw [q] at z1 z2
   exact S.at_ i a x (Option.some.inj z1) (Option.some.inj z2)
 ·rw [List.nodup_iff_pairwise_ne, List.pairwise_iff_getElem]
  intro i j hi hj hij q
  have z1 := a1 i
  have z2 := a1 j
  rw [List.getElem?_eq_getElem hi, List.getElem?_eq_getElem (l1 ▸ hi : i < ix.length)] at z1
  rw [List.getElem?_eq_getElem hj, List.getElem?_eq_getElem (l1 ▸ hj : j < ix.length)] at z2
  have z1 : as[ix[i]]? = some as'[i] := Option.some.inj z1
  have z2 : as[ix[j]]? = some as'[j] := Option.some.inj z2
  rw [q, ← z2] at z1
  have hlt : ix[i] < as.length := by
   cases q' : as[ix[i]]? with
   | none => rw [z1, z2] at q'; cases q'
   | some _ => exact (List.getElem?_eq_some_iff.mp q').1
  have e1 := (List.getElem?_inj hlt S.nodup).mp z1
  rw [List.nodup_iff_pairwise_ne, List.pairwise_iff_getElem] at hn
  exact hn i j (l1 ▸ hi) (l1 ▸ hj) hij e1
 ·obtain ⟨i, e⟩ := mem a ha
  exact S.off a (List.mem_of_getElem? e)
noncomputable abbrev lawA (A : Around) (P : Params) (f cL cK : Addr) : Around := (A.under (lawC P f cL cK)).mark none
theorem lawA_handled {A : Around} {P : Params} {f cL cK : Addr} (h : A.handled = none) : (lawA A P f cL cK).handled = none := by
 show (none : Option Value).or A.handled = none
 rw [h]
 rfl
theorem lawA_depth {A : Around} {P : Params} {f cL cK : Addr} : (lawA A P f cL cK).depth ≤ A.depth + 3 := by
 show A.depth + (lawC P f cL cK).weight ≤ A.depth + 3
 have : (lawC P f cL cK).weight ≤ 3 := by
  have e : (lawC P f cL cK).weight = 1 := by kernel_rfl
  omega
 omega
theorem frO_fr {hh k l sl} : isFr (frO hh k l sl) = true := by kernel_rfl
theorem lawA_fr {A : Around} {P : Params} {f cL cK : Addr} {h : Heap} (F : FrOk A h) {x : Obj} (e : h.get? f = some x) (hx : isFr x = true) : FrOk (lawA A P f cL cK) h := by
 obtain ⟨es, e1, e2⟩ := F
 refine ⟨lawEnv P f cL cK :: es, ?_, fun env he => ?_⟩
 ·show pushEnvs (lawC P f cL cK).envs A.frames = _
  rw [e1, pushEnvs_eq]
  rfl
 ·rcases List.mem_cons.mp he with rfl | he
  ·exact ⟨by kernel_rfl, f, x, by kernel_rfl, e, hx⟩
  ·exact e2 env he
theorem starts_get {kt : KT} {h : Heap} {as : List Addr} {xs : List Obj} (S : Starts kt h as xs) (j : Nat) {a : Addr} {x : Obj} (e1 : as[j]? = some a) (e2 : xs[j]? = some x) : h.get? a = some x := S.at_ j a x e1 e2
theorem notIn_of_size {h : Heap} {as : List Addr} {a : Addr} {x : Obj} (e : h.get? a = some x) (hn : ∀ b ∈ as, h.objs.size ≤ b) : a ∉ as := fun hm => absurd (Heap.lt_size e) (Nat.not_lt.mpr (hn a hm))
theorem FrOk.went {P : Params} {A : Around} {e : Bool} {h h' : Heap} {as as2 : List Addr} {xs ys zs : List Obj} (F : FrOk A h) (S : Starts (kt0 P) h as xs) (W : Went P e h h' as as2 ys zs) (hf : (xs.zip ys).all (fun q => !isFr q.1 || isFr q.2) = true) : FrOk A h' :=
 F.keep2 W.K fun a ha x ex q => by
  obtain ⟨j, hj, rfl⟩ := List.mem_iff_getElem.mp ha
  have hx : j < xs.length := S.len ▸ hj
  have hy : j < ys.length := W.len ▸ hj
  have e1 := S.at_ j _ _ (List.getElem?_eq_getElem hj) (List.getElem?_eq_getElem hx)
  rw [ex] at e1
  have e1 := Option.some.inj e1
  refine ⟨ys[j], W.fst.at_ j _ _ (List.getElem?_eq_getElem hj) (List.getElem?_eq_getElem hy), ?_⟩
  have hm : (xs[j], ys[j]) ∈ xs.zip ys := by
   refine List.mem_of_getElem? (i := j) ?_
   rw [List.getElem?_zip_eq_some]
   exact ⟨List.getElem?_eq_getElem hx, List.getElem?_eq_getElem hy⟩
  have z := List.all_eq_true.mp hf _ hm
  rw [e1] at q
  simp only [q, Bool.not_true, Bool.false_or] at z
  exact z
noncomputable def locX (n : Nat) : Obj := ⟨.type "dict", none, .dict (Array.mk []) n, Array.mk []⟩
theorem law_s2 {N : Nat} {w : World} {r : Bool} {A : Around} (hr : A.depth + 420 ≤ recursionLimit) (hh0 : A.handled = none) {g : Array GenState} {d : Drawn} {os : OsState} {f cK cL sA kl nA : Addr} {kt : Nat → Tok} {nl : List (Int × Tok)} (hl : nl.length < 1000000) (hpos : 0 < nl.length) {hh : Nat → Int} {k : Nat → Tok} {sl : Array (Option Value)}
  {h : Heap} (F : FrOk A h) {tok : Nat} (h1 : N < tok) (S : Starts (kt0 w.params) h [f, cK, kl, nA] [frO hh k [("script", .ref sA), ("numbers", .ref nA)] sl, cellV (.ref kl), lstO (kindsV kt) 0, lstO (nl.map numV) 0]) {R : Result → Shared → Prop}
  (fin : ∀ h' t' hh' k' sl' wA, N < t' → Starts (kt0 w.params) h' [f, cK, kl, nA, wA] [frO hh' k' [("script", .ref sA), ("numbers", .ref nA), ("words", .ref wA)] sl', cellV (.ref kl), lstO (kindsV kt) 0, lstO (nl.map numV) 0, lstO (nl.map (wordV kt)) nl.length] → KeepB true h h' [f, cK, kl, nA] → h.objs.size ≤ wA → R (.ok .next) ⟨h', g, d, t', os⟩) :
  MeansP (wf w r) A (lawC w.params f cL cK) false [] (stmP w.params 1 (lawEnv w.params f cL cK)) R ⟨h, g, d, tok, os⟩ := by
 refine call_w (w := wf w r) (D := 70) (U := 0) (nt := false) (N := N) (ks := []) (cur := []) (as := [f, cK, kl, nA]) (xs := [frO hh k [("script", .ref sA), ("numbers", .ref nA)] sl, cellV (.ref kl), lstO (kindsV kt) 0, lstO (nl.map numV) 0]) (n := 2000) (ce := decs [Nhv]) (s := 0) (i := 0) (bi := [4, 5, 6])
  (c' := fun Y => cmpS (wordsE w.params) (Y.adr 4) (Y.adr 5) (kEnv w.params (wordsE w.params) f cL cK (Y.adr 6)))
  (ys := fun Y => [frO hh k [("script", .ref sA), ("numbers", .ref nA)] sl, cellV (.ref kl), lstO (kindsV kt) 0, lstO (nl.map numV) 0]) (zs := fun Y => [litO nA 0, lstO [] 0, locO []])
  nilA (dle ‹_›) (fun q => by cases q) nilA nilA S rfl h1 (.inl rfl) (fun _ => rfl) (fun _ => rfl) ?_ (by decide) ?_ ?_
 ·intro x hx
  simp only [memC, memN, or_false] at hx
  rcases hx with rfl | rfl | rfl
  ·show 4 ≤ 4; decide
  ·show 4 ≤ 5; decide
  ·show 4 ≤ 6; decide
 ·intro bf Y
  cases r <;> kernel_rfl
 ·intro Y h1' t1' ht1 _ W1
  have S1 : Starts (kt0 w.params) h1' _ _ := W1.S
  have F1 : FrOk A h1' := F.went (P := (wf w r).params) S W1 (by kernel_rfl)
  have ef1 : h1'.get? f = some (frO hh k [("script", .ref sA), ("numbers", .ref nA)] sl) := starts_get S1 0 rfl rfl
  have H := kWL_ok (w := w) (r := r) (A := lawA A w.params f cL cK) (D := 1) (U := 0) (gp := sameG N g d os) rfl (by have := lawA_depth (A := A) (P := w.params) (f := f) (cL := cL) (cK := cK); omega) (f := f) (cL := cL) (kt := kt) hl nl.length 0 (by omega) (loc := none) (fun _ => hpos)
  refine start_list (wordsE_is _) (l := nA) (i := 0) (starts_get S1 4 rfl rfl) ?_
  refine mk_code (P := w.params) (as := [(Y.pre [f, cK, kl, nA]).adr 4, (Y.pre [f, cK, kl, nA]).adr 5, (Y.pre [f, cK, kl, nA]).adr 6, cK, kl, nA]) (ts := []) H (by decide) (fun _ => lawA_handled hh0) (fun _ => lawA_fr F1 ef1 frO_fr) ht1 rfl nilA (S1.pick [4, 5, 6, 1, 2, 3] (by decide) rfl rfl) rfl (fun _ _ => rfl) (fun _ _ _ _ _ _ => rfl) (fun _ _ _ _ _ _ => rfl) ?_
  intro h2 t2 us bs sl2 pl ht2 _ _ hbs W2
  have ebs : bs = [] := List.length_eq_zero_iff.mp hbs
  subst ebs
  have nd := S1.nodup
  have nf : f ∉ [(Y.pre [f, cK, kl, nA]).adr 4, (Y.pre [f, cK, kl, nA]).adr 5, (Y.pre [f, cK, kl, nA]).adr 6, cK, kl, nA] := by
   simp only [List.map_cons, List.map_nil, List.cons_append, List.nil_append, List.nodup_cons, memC, memN, or_false, not_or] at nd ⊢
   obtain ⟨⟨a1, a2, a3, a4, a5, a6⟩, _⟩ := nd
   exact ⟨a4, a5, a6, a1, a2, a3⟩
  obtain ⟨sl', ef2⟩ := W2.K.fr f _ ef1 nf frO_fr
  have ef2 : h2.get? f = some (frO hh k [("script", .ref sA), ("numbers", .ref nA)] sl') := ef2
  have SL := W2.fst
  have S2 : Starts (kt0 w.params) h2 ([f, cK, kl, nA] ++ [4, 5, 6].map (Y.pre [f, cK, kl, nA]).adr) [frO hh k [("script", .ref sA), ("numbers", .ref nA)] sl', cellV (.ref kl), lstO (kindsV kt) 0, lstO (nl.map numV) 0, litE nl.length, lstO (nl.map (wordV kt)) nl.length, locPl "x" pl] :=
   S1.re rfl SL.base fun j a x e1 e2 => by
    rcases j with _ | _ | _ | _ | _ | _ | _ | j
    ·cases e1; cases e2; exact ef2
    ·cases e1; cases e2; exact starts_get SL 3 rfl rfl
    ·cases e1; cases e2; exact starts_get SL 4 rfl rfl
    ·cases e1; cases e2; exact starts_get SL 5 rfl rfl
    ·cases e1; cases e2; exact starts_get SL 0 rfl rfl
    ·cases e1; cases e2; exact starts_get SL 1 rfl rfl
    ·cases e1; cases e2; exact starts_get SL 2 rfl rfl
    ·cases e2
  refine piece_w (w := wf w r) (D := 70) (U := 0) (nt := false) (N := N) (ks := []) (cur := []) (as := [f, cK, kl, nA] ++ [4, 5, 6].map (Y.pre [f, cK, kl, nA]).adr) (xs := [frO hh k [("script", .ref sA), ("numbers", .ref nA)] sl', cellV (.ref kl), lstO (kindsV kt) 0, lstO (nl.map numV) 0, litE nl.length, lstO (nl.map (wordV kt)) nl.length, locPl "x" pl]) (n := 2000) (ce := decs [Nhw]) (s := 0) (i := 1) (bi := []) (res := fun Y => .ok .next)
   (ys := fun Y2 => [frO (put hh 2 (hashZ w.params (o "words"))) (put k 2 (Y2.tk 0)) [("script", .ref sA), ("numbers", .ref nA), ("words", .ref ((Y.pre [f, cK, kl, nA]).adr 5))] sl', cellV (.ref kl), lstO (kindsV kt) 0, lstO (nl.map numV) 0, litE nl.length, lstO (nl.map (wordV kt)) nl.length, locX 2]) (zs := fun Y => [])
   nilA (dle ‹_›) (fun q => by cases q) nilA nilA S2 rfl ht2 (.inl rfl) (fun _ => rfl) (fun _ => rfl) nilA .nil ?_ ?_
  ·intro bf2 Y2
   cases r <;> kernel_rfl
  ·intro Y2 h3 t3 ht3 _ W3
   have S3 : Starts (kt0 w.params) h3 _ _ := W3.fst
   have new4 : ∀ b ∈ [4, 5, 6].map (Y.pre [f, cK, kl, nA]).adr, h.objs.size ≤ b := W1.new
   refine fin h3 t3 _ _ _ _ ht3 (S3.pick [0, 1, 2, 3, 5] (by decide) rfl rfl) ?_ (new4 _ (.tail _ (.head _)))
   refine (W1.K.up.comp W2.K fun b hb => ?_).comp W3.K.up fun b hb => ?_
   ·simp only [memC, memN, or_false] at hb
    rcases hb with rfl | rfl | rfl | rfl | rfl | rfl
    ·exact .inr (new4 _ (.head _))
    ·exact .inr (new4 _ (.tail _ (.head _)))
    ·exact .inr (new4 _ (.tail _ (.tail _ (.head _))))
    ·exact .inl (.tail _ (.head _))
    ·exact .inl (.tail _ (.tail _ (.head _)))
    ·exact .inl (.tail _ (.tail _ (.tail _ (.head _))))
   ·rcases List.mem_append.mp hb with hb | hb
    ·exact .inl hb
    ·exact .inr (new4 b hb)
theorem law_s3 {N : Nat} {w : World} {r : Bool} {A : Around} (hr : A.depth + 420 ≤ recursionLimit) (hh0 : A.handled = none) {g : Array GenState} {d : Drawn} {os : OsState} {f cK cL sA kl nA wA : Addr} {kt : Nat → Tok} {nl : List (Int × Tok)} (hl : nl.length < 1000000) (hpos : 0 < nl.length) {hh : Nat → Int} {k : Nat → Tok} {sl : Array (Option Value)}
  {h : Heap} (F : FrOk A h) {tok : Nat} (h1 : N < tok) (S : Starts (kt0 w.params) h [f, cK, kl, nA] [frO hh k [("script", .ref sA), ("numbers", .ref nA), ("words", .ref wA)] sl, cellV (.ref kl), lstO (kindsV kt) 0, lstO (nl.map numV) 0]) {R : Result → Shared → Prop}
  (fin : ∀ h' t' hh' k' qA (qs : List Qd), N < t' → qs.map qd = questOf (nl.map Prod.fst) → Starts (kt0 w.params) h' [f, cK, kl, nA, qA] [frO hh' k' [("script", .ref sA), ("numbers", .ref nA), ("words", .ref wA), ("questions", .ref qA)] sl, cellV (.ref kl), lstO (kindsV kt) 0, lstO (nl.map numV) 0, lstO (qs.map Qd.v) qs.length] → (∀ q ∈ qs, h'.get? q.a = some (qO kt q) ∧ h.objs.size ≤ q.a ∧ q.a ≠ qA) → KeepB false h h' [f, cK, kl, nA] → h.objs.size ≤ qA → R (.ok .next) ⟨h', g, d, t', os⟩) :
  MeansP (wf w r) A (lawC w.params f cL cK) false [] (stmP w.params 2 (lawEnv w.params f cL cK)) R ⟨h, g, d, tok, os⟩ := by
 refine call_w (w := wf w r) (D := 70) (U := 0) (nt := false) (N := N) (ks := []) (cur := []) (as := [f, cK, kl, nA]) (xs := [frO hh k [("script", .ref sA), ("numbers", .ref nA), ("words", .ref wA)] sl, cellV (.ref kl), lstO (kindsV kt) 0, lstO (nl.map numV) 0]) (n := 2000) (ce := decs [Nhv]) (s := 0) (i := 0) (bi := [4, 5, 6])
  (c' := fun Y => cmpS (questE w.params) (Y.adr 4) (Y.adr 5) (kEnv w.params (questE w.params) f cL cK (Y.adr 6)))
  (ys := fun Y => [frO hh k [("script", .ref sA), ("numbers", .ref nA), ("words", .ref wA)] sl, cellV (.ref kl), lstO (kindsV kt) 0, lstO (nl.map numV) 0]) (zs := fun Y => [litO nA 0, lstO [] 0, locO []])
  nilA (dle ‹_›) (fun q => by cases q) nilA nilA S rfl h1 (.inl rfl) (fun _ => rfl) (fun _ => rfl) ?_ (by decide) ?_ ?_
 ·intro x hx
  simp only [memC, memN, or_false] at hx
  rcases hx with rfl | rfl | rfl
  ·show 4 ≤ 4; decide
  ·show 4 ≤ 5; decide
  ·show 4 ≤ 6; decide
 ·intro bf Y
  cases r <;> kernel_rfl
 ·intro Y h1' t1' ht1 _ W1
  have S1 : Starts (kt0 w.params) h1' _ _ := W1.S
  have F1 : FrOk A h1' := F.went (P := (wf w r).params) S W1 (by kernel_rfl)
  have ef1 : h1'.get? f = some (frO hh k [("script", .ref sA), ("numbers", .ref nA), ("words", .ref wA)] sl) := starts_get S1 0 rfl rfl
  refine start_list (questE_is _) (l := nA) (i := 0) (starts_get S1 4 rfl rfl) ?_
  have new4 : ∀ b ∈ [4, 5, 6].map (Y.pre [f, cK, kl, nA]).adr, h.objs.size ≤ b := W1.new
  refine quest_loop (N := N) (w := w) (r := r) (f := f) (cL := cL) (kt := kt) (by have := lawA_depth (A := A) (P := w.params) (f := f) (cL := cL) (cK := cK); omega) (lawA_handled hh0) hl nl.length 0 (by omega) ht1 (qs := []) rfl (loc := none) (fun _ => hpos) (S1.pick [4, 5, 6, 1, 2, 3] (by decide) rfl rfl) W1.K.size nilA ?_
  intro h2 t2 qs hx kx vx ht2 hqs SL Q K2
  have nd := S1.nodup
  have nf : f ∉ qAs ((Y.pre [f, cK, kl, nA]).adr 4) ((Y.pre [f, cK, kl, nA]).adr 5) ((Y.pre [f, cK, kl, nA]).adr 6) cK kl nA := by
   simp only [List.map_cons, List.map_nil, List.cons_append, List.nil_append, List.nodup_cons, memC, memN, or_false, not_or] at nd ⊢
   obtain ⟨⟨a1, a2, a3, a4, a5, a6⟩, _⟩ := nd
   exact ⟨a4, a5, a6, a1, a2, a3⟩
  have ef2 : h2.get? f = some (frO hh k [("script", .ref sA), ("numbers", .ref nA), ("words", .ref wA)] sl) := K2.keep f _ ef1 nf (fun h => by cases h)
  have S2 : Starts (kt0 w.params) h2 ([f, cK, kl, nA] ++ [4, 5, 6].map (Y.pre [f, cK, kl, nA]).adr) [frO hh k [("script", .ref sA), ("numbers", .ref nA), ("words", .ref wA)] sl, cellV (.ref kl), lstO (kindsV kt) 0, lstO (nl.map numV) 0, litE nl.length, lstO (qs.map Qd.v) qs.length, oneLoc "x" (some (hx, kx, vx))] :=
   S1.re rfl SL.base fun j a x e1 e2 => by
    rcases j with _ | _ | _ | _ | _ | _ | _ | j
    ·cases e1; cases e2; exact ef2
    ·cases e1; cases e2; exact starts_get SL 3 rfl rfl
    ·cases e1; cases e2; exact starts_get SL 4 rfl rfl
    ·cases e1; cases e2; exact starts_get SL 5 rfl rfl
    ·cases e1; cases e2; exact starts_get SL 0 rfl rfl
    ·cases e1; cases e2; exact starts_get SL 1 rfl rfl
    ·cases e1; cases e2; exact starts_get SL 2 rfl rfl
    ·cases e2
  refine piece_w (w := wf w r) (D := 70) (U := 0) (nt := false) (N := N) (ks := []) (cur := []) (as := [f, cK, kl, nA] ++ [4, 5, 6].map (Y.pre [f, cK, kl, nA]).adr) (xs := [frO hh k [("script", .ref sA), ("numbers", .ref nA), ("words", .ref wA)] sl, cellV (.ref kl), lstO (kindsV kt) 0, lstO (nl.map numV) 0, litE nl.length, lstO (qs.map Qd.v) qs.length, oneLoc "x" (some (hx, kx, vx))]) (n := 2000) (ce := decs [Nhw]) (s := 0) (i := 1) (bi := []) (res := fun Y => .ok .next)
   (ys := fun Y2 => [frO (put hh 3 (hashZ w.params (o "questions"))) (put k 3 (Y2.tk 0)) [("script", .ref sA), ("numbers", .ref nA), ("words", .ref wA), ("questions", .ref ((Y.pre [f, cK, kl, nA]).adr 5))] sl, cellV (.ref kl), lstO (kindsV kt) 0, lstO (nl.map numV) 0, litE nl.length, lstO (qs.map Qd.v) qs.length, locX 2]) (zs := fun Y => [])
   nilA (dle ‹_›) (fun q => by cases q) nilA nilA S2 rfl ht2 (.inl rfl) (fun _ => rfl) (fun _ => rfl) nilA .nil ?_ ?_
  ·intro bf2 Y2
   cases r <;> kernel_rfl
  ·intro Y2 h3 t3 ht3 _ W3
   have S3 : Starts (kt0 w.params) h3 _ _ := W3.fst
   have fr7 : ∀ b ∈ [f, cK, kl, nA] ++ [4, 5, 6].map (Y.pre [f, cK, kl, nA]).adr, b ∈ [f, cK, kl, nA] ∨ h.objs.size ≤ b := fun b hb => by
    rcases List.mem_append.mp hb with hb | hb
    ·exact .inl hb
    ·exact .inr (new4 b hb)
   refine fin h3 t3 _ _ _ qs ht3 hqs (S3.pick [0, 1, 2, 3, 5] (by decide) rfl rfl) (fun q hq => ?_) ?_ (new4 _ (.tail _ (.head _)))
   ·obtain ⟨e1, e2, e3⟩ := Q q hq
    have nq : q.a ∉ [f, cK, kl, nA] ++ [4, 5, 6].map (Y.pre [f, cK, kl, nA]).adr := fun hm => by
     simp only [List.map_cons, List.map_nil, List.cons_append, List.nil_append, memC, memN, or_false, not_or] at hm e2
     obtain ⟨b1, b2, b3, b4, b5, b6⟩ := e2
     rcases hm with q' | q' | q' | q' | q' | q' | q'
     ·rw [q', ef2] at e1
      have z := congrArg isFr (Option.some.inj e1)
      rw [frO_fr] at z
      have z2 : isFr (qO kt q) = false := by kernel_rfl
      rw [z2] at z
      cases z
     ·exact b4 q'
     ·exact b5 q'
     ·exact b6 q'
     ·exact b1 q'
     ·exact b2 q'
     ·exact b3 q'
    refine ⟨W3.K.keep _ _ e1 nq (fun h => by cases h), e3, fun q' => e2 (q' ▸ .tail _ (.head _))⟩
   ·refine ((W1.K.comp K2 fun b hb => ?_)).comp W3.K fr7
    simp only [memC, memN, or_false] at hb
    rcases hb with rfl | rfl | rfl | rfl | rfl | rfl
    ·exact .inr (new4 _ (.head _))
    ·exact .inr (new4 _ (.tail _ (.head _)))
    ·exact .inr (new4 _ (.tail _ (.tail _ (.head _))))
    ·exact .inl (.tail _ (.head _))
    ·exact .inl (.tail _ (.tail _ (.head _)))
    ·exact .inl (.tail _ (.tail _ (.tail _ (.head _))))
end
section
open PySem PySem.W PySem.W.X PySem.Spec PySem.Calls PyProof.Rows
noncomputable def anyG (g : Array GenState) (d : Drawn) (os : OsState) (t0 : Nat) : GP := ⟨fun g' d' os' => g' = g ∧ d' = d ∧ os' = os, 0, false, true, t0⟩
theorem svq_ok0 {w : World} {A : Around} {D U : Nat} {bo : List Nat} (hD : A.depth + D ≤ recursionLimit) : SVok (SVq w A.handled D U trZ.sp false (bfN false A) bo [] []) w A := by
 have z := svz_ok (w := w) (A := A) (D := D) (U := U) (nt := false) (bo := bo) (hooks := []) (cur := []) nilA spZ_ok rfl hD (fun q => by cases q)
 exact ⟨z.den, z.sp, z.entry, z.wt, z.quiet, z.setting, z.hb, z.room, z.lim, z.ktf, (fun q => by cases q), z.cur⟩
section
variable {w : World} {A : Around} {D U : Nat} {h : Heap} {g : Array GenState} {d : Drawn} {os : OsState} {tok : Nat} {as : List Addr} {xs : List Obj} {R : Result → Shared → Prop} {n : Nat} {ce : List Nat} {i : Nat} {bi : List Nat} {ys zs : Dyn → List Obj}
theorem code_a {c : Code} {e : Nat} {res : Dyn → Stop}
  (hD : A.depth + D ≤ recursionLimit) (S : Starts (kt0 w.params) h as xs) (ok : (insAll xs .nil 0).isSome = true)
  (hl : ∀ Y, as.length = (ys Y).length) (hz : ∀ Y, bi.length = (zs Y).length) (hbi : ∀ x ∈ bi, as.length ≤ x) (hbn : bi.Nodup)
  (chk : ∀ bf (Y : Dyn), Chk (List.range as.length ++ bi) (codeR (SVq w A.handled D U trZ.sp false bf (boOf xs) [] []) (Y.pre as) n ce e c (mkT xs) as.length) (res (Y.pre as)) ((ys (Y.pre as) ++ zs (Y.pre as)).map some) 0 i)
  (fin : ∀ (Y : Dyn) h', (∀ x, x < i → Y.tk x = tok + x) → Went w.params false h h' as (bi.map Y.adr) (ys Y) (zs Y) → match res Y with | .res r => R r ⟨h', g, d, tok + i, os⟩ | .cut c => codeAny (model pw w) A c R ⟨h', g, d, tok + i, os⟩ | .call c c' hd md k ks => codeAny (model pw w) ((A.under c).mark hd) c' (fun r s' => MeansP w A c md ks (.tree (k r)) R s') ⟨h', g, d, tok + i, os⟩) :
  codeAny (model pw w) A c R ⟨h, g, d, tok, os⟩ := by
 have K := hqs_ok (V := SVq w A.handled D U trZ.sp false (bfN false A) (boOf xs) [] []) (w := w) (A := A) (h₀ := h) (m₀ := as.length) (gp := anyG g d os tok) rfl nilA (ktf0 w.params) nilA
 refine run_of (n := n) (ce := ce) (e := e) (svq_ok0 hD) K S ok rfl (fun f hf => nomatch hf) ⟨rfl, rfl, rfl⟩ (fun Y => ?_) (fun _ _ _ _ _ => rfl) ⟨fun _ => rfl, fun q => by cases q⟩
 obtain ⟨c1, c2⟩ := Prod.mk.inj (chk (bfN false A) Y)
 obtain ⟨out, e1, e2⟩ := Option.map_eq_some_iff.mp c1
 rw [e1] at c2
 simp only [lefts, rights, Prod.mk.injEq] at c2 e2
 obtain ⟨z1, z2, z3⟩ := c2
 obtain ⟨z4, z5, z6, z7⟩ := e2
 refine ⟨out, e1, map_same z1, map_same z2, map_same z3, fun h' t' g' d' os' ct ck gg' D => ?_⟩
 obtain ⟨rfl, rfl, rfl⟩ := gg'
 rw [z4]
 rw [z6] at D
 rw [z7] at ct ck
 have et : t' = tok + i := ct.1 rfl
 subst et
 exact fin (Y.pre as) h' (ck.1 rfl) (went_of S.nodup S.off D (.inl rfl) (hl _) (hz _) hbi hbn z5)
theorem piece_a {c : Code} {p : SP} {res : Dyn → Result}
  (hD : A.depth + D ≤ recursionLimit) (S : Starts (kt0 w.params) h as xs) (ok : (insAll xs .nil 0).isSome = true)
  (hl : ∀ Y, as.length = (ys Y).length) (hz : ∀ Y, bi.length = (zs Y).length) (hbi : ∀ x ∈ bi, as.length ≤ x) (hbn : bi.Nodup)
  (chk : ∀ bf (Y : Dyn), Chk (List.range as.length ++ bi) (pieceR (SVq w A.handled D U trZ.sp false bf (boOf xs) [] []) (Y.pre as) n ce c p (mkT xs) as.length) (.res (res (Y.pre as))) ((ys (Y.pre as) ++ zs (Y.pre as)).map some) 0 i)
  (fin : ∀ (Y : Dyn) h', (∀ x, x < i → Y.tk x = tok + x) → Went w.params false h h' as (bi.map Y.adr) (ys Y) (zs Y) → R (res Y) ⟨h', g, d, tok + i, os⟩) :
  MeansP w A c false [] p R ⟨h, g, d, tok, os⟩ := by
 have K := hqs_ok (V := SVq w A.handled D U trZ.sp false (bfN false A) (boOf xs) [] []) (w := w) (A := A) (h₀ := h) (m₀ := as.length) (gp := anyG g d os tok) rfl nilA (ktf0 w.params) nilA
 have D0 := S.rep ok (fun f (hf : f ∈ bfN false A) => nomatch hf) (⟨fun _ => 0, fun _ => 0, fun _ => default, fun _ _ => #[], fun _ => []⟩ : Dyn)
 refine simR_sound (svq_ok0 hD) K (fun _ _ _ _ _ => rfl) n ce false c .base [] p (mkT xs) as.length 0 0 0 [] [] [] _ h tok g d os ⟨fun _ => rfl, fun q => by cases q⟩ GP.tks_zero ⟨rfl, rfl, rfl⟩ (fun Y' a => ?_) D0
 have q : Y'.adr = preA as fun j => Y'.adr (j + as.length) := preA_eta as Y'.adr fun j hj => by
  rw [a.adr j hj]; exact preA_lt as _ j hj
 have q' : Y' = ({ Y' with adr := fun j => Y'.adr (j + as.length) } : Dyn).pre as := by
  cases Y' with | mk x y z u v => exact congrArg (fun f => Dyn.mk f y z u v) q
 rw [q']
 generalize ({ Y' with adr := fun j => Y'.adr (j + as.length) } : Dyn) = Y
 obtain ⟨c1, c2⟩ := Prod.mk.inj (chk (bfN false A) Y)
 obtain ⟨out, e1, e2⟩ := Option.map_eq_some_iff.mp c1
 rw [e1] at c2
 simp only [lefts, rights, Prod.mk.injEq] at c2 e2
 obtain ⟨z1, z2, z3⟩ := c2
 obtain ⟨z4, z5, z6, z7⟩ := e2
 refine ⟨out, e1, map_same z1, map_same z2, map_same z3, fun h' t' g' d' os' ct ck gg' D => ?_⟩
 obtain ⟨rfl, rfl, rfl⟩ := gg'
 rw [z4]
 rw [z6] at D
 rw [z7] at ct ck
 have et : t' = tok + i := ct.1 rfl
 subst et
 exact fin (Y.pre as) h' (ck.1 rfl) (went_of S.nodup S.off D (.inl rfl) (hl _) (hz _) hbi hbn z5)
theorem call_a {c : Code} {p : SP} {c' : Dyn → Code}
  (hD : A.depth + D ≤ recursionLimit) (S : Starts (kt0 w.params) h as xs) (ok : (insAll xs .nil 0).isSome = true)
  (hl : ∀ Y, as.length = (ys Y).length) (hz : ∀ Y, bi.length = (zs Y).length) (hbi : ∀ x ∈ bi, as.length ≤ x) (hbn : bi.Nodup)
  (chk : ∀ bf (Y : Dyn), ChkC (List.range as.length ++ bi) (pieceR (SVq w A.handled D U trZ.sp false bf (boOf xs) [] []) (Y.pre as) n ce c p (mkT xs) as.length) c (c' (Y.pre as)) ((ys (Y.pre as) ++ zs (Y.pre as)).map some) 0 i)
  (fin : ∀ (Y : Dyn) h', (∀ x, x < i → (Y.pre as).tk x = tok + x) → Went w.params false h h' as (bi.map (Y.pre as).adr) (ys (Y.pre as)) (zs (Y.pre as)) →
   codeAny (model pw w) ((A.under c).mark none) (c' (Y.pre as)) (fun r s' => MeansP w A c false [] (.tree (kOf (pieceR (SVq w A.handled D U trZ.sp false (bfN false A) (boOf xs) [] []) (Y.pre as) n ce c p (mkT xs) as.length) r)) R s') ⟨h', g, d, tok + i, os⟩) :
  MeansP w A c false [] p R ⟨h, g, d, tok, os⟩ := by
 have K := hqs_ok (V := SVq w A.handled D U trZ.sp false (bfN false A) (boOf xs) [] []) (w := w) (A := A) (h₀ := h) (m₀ := as.length) (gp := anyG g d os tok) rfl nilA (ktf0 w.params) nilA
 have D0 := S.rep ok (fun f (hf : f ∈ bfN false A) => nomatch hf) (⟨fun _ => 0, fun _ => 0, fun _ => default, fun _ _ => #[], fun _ => []⟩ : Dyn)
 refine simR_sound (svq_ok0 hD) K (fun _ _ _ _ _ => rfl) n ce false c .base [] p (mkT xs) as.length 0 0 0 [] [] [] _ h tok g d os ⟨fun _ => rfl, fun q => by cases q⟩ GP.tks_zero ⟨rfl, rfl, rfl⟩ (fun Y' a => ?_) D0
 have q : Y'.adr = preA as fun j => Y'.adr (j + as.length) := preA_eta as Y'.adr fun j hj => by
  rw [a.adr j hj]; exact preA_lt as _ j hj
 have q' : Y' = ({ Y' with adr := fun j => Y'.adr (j + as.length) } : Dyn).pre as := by
  cases Y' with | mk x y z u v => exact congrArg (fun f => Dyn.mk f y z u v) q
 rw [q']
 generalize ({ Y' with adr := fun j => Y'.adr (j + as.length) } : Dyn) = Y
 have F := fin Y
 obtain ⟨c1, c2⟩ := Prod.mk.inj (chk (bfN false A) Y)
 cases er : pieceR (SVq w A.handled D U trZ.sp false (bfN false A) (boOf xs) [] []) (Y.pre as) n ce c p (mkT xs) as.length with
 | none => rw [er] at c1; cases c1
 | some out =>
  rw [er] at c1 c2 F
  simp only [viewC] at c1
  split at c1
  ·rename_i c0 c1' hd md k ks' ef
   simp only [Option.some.injEq, Prod.mk.injEq] at c1
   obtain ⟨⟨y0, y1, y2, y3, y4⟩, y5, y6, y7⟩ := c1
   simp only [lefts, rights, Prod.mk.injEq] at c2
   obtain ⟨z1, z2, z3⟩ := c2
   refine ⟨out, er, map_same z1, map_same z2, map_same z3, fun h' t' g' d' os' ct ck gg' D => ?_⟩
   obtain ⟨rfl, rfl, rfl⟩ := gg'
   rw [y6] at D
   rw [y7] at ct ck
   have et : t' = tok + i := ct.1 rfl
   subst et
   have Wn := went_of (e := false) (ys := ys (Y.pre as)) (zs := zs (Y.pre as)) S.nodup S.off D (.inl rfl) (hl _) (hz _) hbi hbn y5
   have F := F h' (ck.1 rfl) Wn
   subst y2
   subst y3
   have e0 : ks' = [] := List.length_eq_zero_iff.mp y4
   subst e0
   have ek : kOf (some out) = k := by simp only [kOf, ef]
   rw [ek] at F
   rw [ef]
   subst y0
   subst y1
   exact F
  ·cases c1
theorem code_piece {c : Code} {p : SP} {e : Nat} (hD : A.depth + D ≤ recursionLimit) (hb : begin_ (SVq w A.handled D U trZ.sp false (bfN false A) [] [] []) .base e c = some (false, p)) (B : ∀ b x, (kt0 w.params).get b = some x → h.get? b = some x)
  (H : MeansP w A c false [] p R ⟨h, g, d, tok, os⟩) : codeAny (model pw w) A c R ⟨h, g, d, tok, os⟩ :=
 begin_ok (R := R) (κ := .base) (svq_ok0 (D := D) (U := U) hD) hb B H
end
end
section
open PySem PySem.W PySem.W.X PySem.Spec PySem.Calls PyProof.Rows PySem.Builtin.Str
noncomputable def qtx (k : Nat) : Str := Str.mk (Array.mk (qOf k))
theorem lt6 {P : Nat → Prop} {k : Nat} (h : k < 6) (h0 : P 0) (h1 : P 1) (h2 : P 2) (h3 : P 3) (h4 : P 4) (h5 : P 5) : P k := six h0 h1 h2 h3 h4 h5 k h
theorem Went.all {P : Params} {h h' : Heap} {as2 : List Addr} {ys zs : List Obj} (W : Went P false h h' [] as2 ys zs) (b : Addr) (x : Obj) (e : h.get? b = some x) : h'.get? b = some x := W.K.keep b x e (fun q => nomatch q) (fun q => by cases q)
noncomputable def code772 (P : Params) (f : Addr) : Code := .func (stmtsOf (o772 P)) (envFn (o772 P) 772 f)
noncomputable def repl2 : Str := Str.mk (Array.mk [105, 116, 39, 34, 39, 34, 39, 115])
noncomputable def sq : Str := o "'"
noncomputable def sqq : Str := o "'\"'\"'"
theorem repl_ne : ((occurrences (txt 2) sq 0 (txt 2).length ((txt 2).length + 1)).isEmpty || (sq.length == 0 && sqq.length == 0)) = false := by kernel_rfl
theorem repl_eq : glued sqq (partsBetween (txt 2) (occurrences (txt 2) sq 0 (txt 2).length ((txt 2).length + 1)) sq.length) = repl2 := by kernel_rfl
theorem repl_gives {t u v : Tok} (hu : u ≠ 0) (hv : v ≠ 0) (huv : u ≠ v) : Gives (Builtin.«str.replace» ⟨[.str (txt 2) t, .str sq u, .str sqq v], []⟩) (.str repl2) := by
 have z := gives_str_replace (txt 2) sq sqq t u v fun _ => ⟨by simp [hu, hv], by simp [huv], by kernel_rfl, by kernel_rfl⟩
 rw [if_neg (by rw [repl_ne]; exact Bool.false_ne_true), repl_eq] at z
 exact z
theorem quote_2 {w : World} {r : Bool} {A : Around} {h : Heap} {g : Array GenState} {d : Drawn} {os : OsState} {tok : Nat} {t : Tok} {R : Result → Shared → Prop} (hD : A.depth + 70 ≤ recursionLimit) (S : Starts (kt0 w.params) h [] [])
  (fin : ∀ h' t' u, (∀ b x, h.get? b = some x → h'.get? b = some x) → R (.ok (.ret (.str (qtx 2) u))) ⟨h', g, d, t', os⟩) : codeAny (model pw (wf w r)) A (.call (.ref 772) ⟨[.str (txt 2) t], []⟩) R ⟨h, g, d, tok, os⟩ := by
 refine code_a (w := wf w r) (D := 70) (U := 0) (as := []) (xs := []) (n := 2000) (e := 1) (ce := decs [4198500353]) (i := 1) (bi := [0]) (ys := fun _ => []) (zs := fun Y => [frO (fun _ => hashZ w.params (o "s")) Y.tk [("s", .str (txt 2) t)] #[]]) (res := fun Y => .cut (code772 w.params (Y.adr 0))) hD S rfl (fun _ => rfl) (fun _ => rfl) (fun _ _ => Nat.zero_le _) (by decide) ?_ fun Y h1 _ W1 => ?_
 ·intro bf Y
  cases r <;> kernel_rfl
 have S1 : Starts (kt0 w.params) h1 [Y.adr 0] _ := W1.S
 refine code_piece (w := wf w r) (D := 70) (U := 0) (e := 0) hD rfl S1.base ?_
 refine call_a (w := wf w r) (D := 70) (U := 0) (as := [Y.adr 0]) (n := 2000) (ce := decs [46768052394588893382517914646921092657786860339201, 1003]) (i := 5) (bi := []) (ys := fun _ => [frO (fun _ => hashZ w.params (o "s")) Y.tk [("s", .str (txt 2) t)] #[]]) (zs := fun _ => []) (c' := fun Y2 => .call (.builtin "str.replace") ⟨[.str (txt 2) t, .str sq (Y2.tk 3), .str sqq (Y2.tk 4)], []⟩) hD S1 rfl (fun _ => rfl) (fun _ => rfl) nilA .nil ?_ fun Y2 h2 e2 W2 => ?_
 ·intro bf Y2
  cases r <;> kernel_rfl
 have e3 := e2 3 (by decide)
 have e4 := e2 4 (by decide)
 refine code_gives F.slot_str_replace (typeIs_str _ _ _) F.entry_str_replace (F.args_str_replace_3 _ _ _) (repl_gives (by rw [e3]; exact Nat.succ_ne_zero _) (by rw [e4]; exact Nat.succ_ne_zero _) (by rw [e3, e4]; exact fun q => absurd (Nat.add_left_cancel q) (by decide))) ⟨by decide, ?_⟩
 have S2 : Starts (kt0 w.params) h2 [] [] := ⟨rfl, fun j a x e => (nomatch e), .nil, W2.S.base, fun _ h => nomatch h⟩
 refine piece_a (w := wf w r) (D := 70) (U := 0) (as := []) (xs := []) (n := 2000) (ce := decs [0]) (i := 3) (bi := []) (ys := fun _ => []) (zs := fun _ => []) (res := fun Y3 => .ok (.ret (.str (qtx 2) (Y3.tk 2)))) hD S2 rfl (fun _ => rfl) (fun _ => rfl) nilA .nil ?_ fun Y3 h3 e3 W3 => fin h3 _ _ fun b x e => W3.all b x (W2.K.keep b x (W1.all b x e) (fun hm => ?_) (fun q => by cases q))
 ·intro bf Y3
  cases r <;> kernel_rfl
 ·simp only [memC, memN, or_false] at hm
  subst hm
  exact absurd (Heap.lt_size e) (Nat.not_lt.mpr (W1.new _ (.head _)))
theorem quote_ok {w : World} {r : Bool} {A : Around} {h : Heap} {g : Array GenState} {d : Drawn} {os : OsState} {tok : Nat} {t : Tok} {k : Nat} {R : Result → Shared → Prop} (hk : k < 6) (hD : A.depth + 70 ≤ recursionLimit) (S : Starts (kt0 w.params) h [] [])
  (fin : ∀ h' t' u, (∀ b x, h.get? b = some x → h'.get? b = some x) → R (.ok (.ret (.str (qtx k) u))) ⟨h', g, d, t', os⟩) : codeAny (model pw (wf w r)) A (.call (.ref 772) ⟨[.str (txt k) t], []⟩) R ⟨h, g, d, tok, os⟩ := by
 revert fin
 refine lt6 (P := fun k => (∀ h' t' u, (∀ b x, h.get? b = some x → h'.get? b = some x) → R (.ok (.ret (.str (qtx k) u))) ⟨h', g, d, t', os⟩) → codeAny (model pw (wf w r)) A (.call (.ref 772) ⟨[.str (txt k) t], []⟩) R ⟨h, g, d, tok, os⟩) hk ?_ ?_ ?_ ?_ ?_ ?_ <;> intro fin
 ·refine code_a (w := wf w r) (D := 70) (U := 0) (as := []) (xs := []) (n := 2000) (e := 1) (ce := decs [Ndw, 4194304]) (i := 3) (bi := []) (ys := fun _ => []) (zs := fun _ => []) (res := fun Y => .res (.ok (.ret (.str (qtx 0) t)))) hD S rfl (fun _ => rfl) (fun _ => rfl) nilA .nil ?_ fun Y h' _ W => fin h' _ _ W.all
  intro bf Y
  cases r <;> kernel_rfl
 ·refine code_a (w := wf w r) (D := 70) (U := 0) (as := []) (xs := []) (n := 2000) (e := 1) (ce := decs [Ndw, 4194304]) (i := 9) (bi := []) (ys := fun _ => []) (zs := fun _ => []) (res := fun Y => .res (.ok (.ret (.str (qtx 1) (Y.tk 8))))) hD S rfl (fun _ => rfl) (fun _ => rfl) nilA .nil ?_ fun Y h' _ W => fin h' _ _ W.all
  intro bf Y
  cases r <;> kernel_rfl
 ·exact quote_2 hD S fin
 ·refine code_a (w := wf w r) (D := 70) (U := 0) (as := []) (xs := []) (n := 2000) (e := 1) (ce := decs [8589936641]) (i := 4) (bi := []) (ys := fun _ => []) (zs := fun _ => []) (res := fun Y => .res (.ok (.ret (.str (qtx 3) (Y.tk 3))))) hD S rfl (fun _ => rfl) (fun _ => rfl) nilA .nil ?_ fun Y h' _ W => fin h' _ _ W.all
  intro bf Y
  cases r <;> kernel_rfl
 ·refine code_a (w := wf w r) (D := 70) (U := 0) (as := []) (xs := []) (n := 2000) (e := 1) (ce := decs [Ndw, 4194304]) (i := 9) (bi := []) (ys := fun _ => []) (zs := fun _ => []) (res := fun Y => .res (.ok (.ret (.str (qtx 4) (Y.tk 8))))) hD S rfl (fun _ => rfl) (fun _ => rfl) nilA .nil ?_ fun Y h' _ W => fin h' _ _ W.all
  intro bf Y
  cases r <;> kernel_rfl
 ·refine code_a (w := wf w r) (D := 70) (U := 0) (as := []) (xs := []) (n := 2000) (e := 1) (ce := decs [Ndw, 4194304]) (i := 9) (bi := []) (ys := fun _ => []) (zs := fun _ => []) (res := fun Y => .res (.ok (.ret (.str (qtx 5) (Y.tk 8))))) hD S rfl (fun _ => rfl) (fun _ => rfl) nilA .nil ?_ fun Y h' _ W => fin h' _ _ W.all
  intro bf Y
  cases r <;> kernel_rfl
end
section
open PySem PySem.W PySem.W.X PySem.Spec PySem.Calls PyProof.Rows PySem.Builtin.Str PySem.Builtin
open Sem (wp)
theorem line_cons : ∀ (k : Nat) (ws : List Nat), line (k :: ws) = qOf k ++ ws.flatMap fun j => 32 :: qOf j
 | k, [] => by simp [line]
 | k, k' :: ws => by
  show qOf k ++ 32 :: line (k' :: ws) = _
  rw [line_cons k' ws]
  simp
theorem fold_line : ∀ (ws : List Nat) (a : Array Nat), ((ws.map qtx).foldl (fun acc p => acc ++ (o " ").cps ++ p.cps) a).toList = a.toList ++ ws.flatMap fun j => 32 :: qOf j
 | [], a => by simp
 | k :: ws, a => by
  rw [List.map_cons, List.foldl_cons, fold_line ws]
  have e : (o " ").cps.toList = [32] := by kernel_rfl
  simp [e, qtx]
theorem glued_line (ks : List Nat) : glued (o " ") (ks.map qtx) = Str.mk (Array.mk (line ks)) := by
 cases ks with
 | nil => rfl
 | cons k ws =>
  unfold glued
  congr 1
  apply Array.toList_inj.mp
  rw [line_cons]
  exact fold_line ws _
theorem qtx_len {k : Nat} : (qtx k).length ≤ 10 := by
 show (qOf k).length ≤ 10
 unfold qOf
 split <;> decide
theorem join_fold : ∀ (ks : List Nat) (n : Nat), (ks.map qtx).foldl (fun a (p : Str) => a + p.length + (o " ").length) n ≤ n + 11 * ks.length
 | [], n => Nat.le_refl _
 | k :: ks, n => by
  rw [List.map_cons, List.foldl_cons]
  have h1 := join_fold ks (n + (qtx k).length + (o " ").length)
  have h2 := @qtx_len k
  have h3 : (o " ").length = 1 := by kernel_rfl
  simp only [List.length_cons]
  omega
theorem join_fits {ks : List Nat} (h : ks.length ≤ 100) : JoinOk (o " ") (ks.map qtx) = true := by
 unfold JoinOk
 rw [Bool.not_eq_true']
 unfold tooLong sizeLine
 refine decide_eq_false (Nat.not_lt.mpr ?_)
 rw [List.foldl_toArray]
 exact Nat.le_trans (join_fold ks 0) (by omega)
section
variable {prog : Program} {w : World} {A : Around} {E : Value → Shared → Prop} {s : Shared} {x : Str} {t : Tok} {Q : Value → Shared → Prop} {I : Addr} {fp wr : List Addr} {G : Array GenState → Array GenState → Prop} {n : Nat} {P : Nat → Value → Prop} {St : Nat → Shared → Prop}
theorem join_told (W : WalksS prog w A.in1.in1 I fp wr G n P St) (hT : ∀ i s, St i s → s.TypeIs (.ref I) "generator") (hst : St 0 s) (hfp : ∀ b ∈ fp, b < s.heap.objs.size) (hI : I ∈ fp) (hn : n ≤ sizeLine) (h2 : 2 ≤ n)
  (hq : ∀ s' (vs : List Value), Moved wr G s s' → vs.length = n → (∀ j v, vs[j]? = some v → P j v) → ∃ l, vs = strValues l ∧ JoinOk x (l.map (·.1)) = true ∧ Q (.str (glued x (l.map (·.1))) s'.toks) { s' with toks := s'.toks + 1 }) :
  wpAny (model prog w) A (call (.builtin "str.join") [.str x t, .ref I]) Q E s := by
 refine wpAny_call (codeAny_call_builtin F.slot_str_join.plain F.entry_str_join (F.slot_str_join.check _ _ _ _ _ _ _ _ (typeIs_str _ _ _) (F.args_str_join_2 _ _) ?_))
 rw [join_tree_other]
 refine wpAny_bind (wpAny_typeOf (hT 0 s hst) ?_)
 refine wpAny_bind (m := (pyIter (.ref I)).tryCatch _) (wpAny_tryCatch (W.of_in1.self 0 s _ _ hst ?_))
 refine wpAny_bind (wpAny_collect_gen W hT hst hfp hI (fun s' acc hm hacc => ?_) hn)
 have hl : acc.toList.length = n := by rw [Array.length_toList]; exact hacc.1
 obtain ⟨l, e, hok, hQ⟩ := hq s' acc.toList hm hl fun j v hv => hacc.2 j v (by rw [← hv]; simp)
 rw [e]
 unfold JoinOk at hok
 rw [Bool.not_eq_true'] at hok
 have hlen : 2 ≤ l.length := by
  have := congrArg List.length e
  rw [hl] at this
  simp only [strValues, List.length_map] at this
  omega
 rcases l with _ | ⟨p1, _ | ⟨p2, l⟩⟩
 ·exact absurd hlen (by decide)
 ·exact absurd hlen (by simp)
 ·exact gives_joinTail x (p1 :: p2 :: l) hok prog w A (wants Q E) s' ⟨joinFit_length hok, hQ⟩
end
noncomputable def retE : Stmt → Expr
 | .Return (some e) _ => e
 | _ => default
noncomputable def retP : Stmt → Pos
 | .Return _ p => p
 | _ => default
noncomputable def joinE (P : Params) : Expr := retE (stmtAt (o764 P) 0)
theorem join_body (P : Params) : stmtsOf (o764 P) = [stmtAt (o764 P) 0] := by kernel_rfl
theorem join_ret (P : Params) : ∃ pos, stmtAt (o764 P) 0 = .Return (some (joinE P)) pos := ⟨retP (stmtAt (o764 P) 0), by kernel_rfl⟩
noncomputable def jeSc : Expr → Scope
 | .Call _ [.GeneratorExp _ _ sc _] _ _ => sc
 | _ => default
theorem joinE_eq (P : Params) : ∃ c1 c2 apos p1 p2 p3 p4 p5 sc pos cpos, (apos.endLine == cpos.line) = true ∧ jeSc (joinE P) = sc ∧ joinE P = .Call (.Attribute (.Constant (.str (o " ")) c1 c2) (o "join") apos) [.GeneratorExp (.Call (.Name (o "quote") p1) [.Name (o "arg") p2] [] p3) [⟨.Name (o "arg") p4, .Name (o "split_command") p5, [], 0⟩] sc pos] [] cpos :=
 ⟨exN (sub1 (joinE P) [0, 0]), ps1 (joinE P) [0, 0], ps1 (joinE P) [0], ps1 (joinE P) [1, 0, 0], ps1 (joinE P) [1, 0, 1], ps1 (joinE P) [1, 0], ps1 (joinE P) [1, 1], ps1 (joinE P) [1, 2], jeSc (joinE P), ps1 (joinE P) [1], ps1 (joinE P) [], by kernel_rfl, rfl, by kernel_rfl⟩
noncomputable def joinEnv (P : Params) (f : Addr) : Env := envFn (o764 P) 764 f
noncomputable def es3 (P : Params) : Array DictEntry := entsOf (o3 P)
theorem kt0_3 (P : Params) : (kt0 P).get 3 = some (o3 P) := by kernel_rfl
theorem kt0_4 (P : Params) : (kt0 P).get 4 = some (o4 P) := by kernel_rfl
theorem kt0_763 (P : Params) : (kt0 P).get 763 = some (o763 P) := by kernel_rfl
theorem kt0_772 (P : Params) : (kt0 P).get 772 = some (o772 P) := by kernel_rfl
theorem es3_keys (P : Params) : strKeysB (es3 P) = true := by kernel_rfl
theorem ns3 {P : Params} {h : Heap} (B : ∀ b x, (kt0 P).get b = some x → h.get? b = some x) : h.Ns 3 (nsFind (es3 P)) := ⟨o3 P, es3 P, 40, B _ _ (kt0_3 P), rfl, strKeysB_ok (es3_keys P), fun _ => rfl⟩
theorem quote_at (P : Params) : nsFind (es3 P) (o "quote") = some (.ref 772) := by kernel_rfl
theorem built_at (P : Params) : nsFind (es3 P) "__builtins__" = some (.ref 4) := by kernel_rfl
theorem sc_dot (P : Params) : (jeSc (joinE P)).names.lookup (".0" : Str) = some NameKind.local := by kernel_rfl
theorem sc_arg (P : Params) : (jeSc (joinE P)).names.lookup (o "arg") = some NameKind.local := by kernel_rfl
theorem sc_kind (P : Params) : (jeSc (joinE P)).kind = .function := by kernel_rfl
theorem sc_co (P : Params) : (jeSc (joinE P)).isCoroutine = false := by kernel_rfl
theorem sc_names (P : Params) : (jeSc (joinE P)).names.all (fun y => y.2 != .cell && y.2 != .free) = true := by kernel_rfl
theorem closure_none (P : Params) (env : Env) : closureFor (jeSc (joinE P)) env = pure [] := by kernel_rfl
theorem gen_quote (P : Params) (C : Addr) (code : Value) (bi f : Addr) : (genEnv (jeSc (joinE P)) [] C code bi (joinEnv P f)).kindOf (o "quote") = some .globalImplicit := by kernel_rfl
theorem gen_arg (P : Params) (C : Addr) (code : Value) (bi f : Addr) : (genEnv (jeSc (joinE P)) [] C code bi (joinEnv P f)).kindOf (o "arg") = some .local := by kernel_rfl
theorem join_loc (P : Params) (f : Addr) : (joinEnv P f).kindOf (o "split_command") = some .local := by kernel_rfl
theorem join_kind (P : Params) (f : Addr) : (joinEnv P f).scope.kind = .function := by kernel_rfl
theorem type_join : typeOf (.builtin "str.join") = pure (.type "method_descriptor") := by show builtinType _ = _; rw [builtinType_eq_fast]; kernel_rfl
theorem code763 {P : Params} {h : Heap} (B : ∀ b x, (kt0 P).get b = some x → h.get? b = some x) (ht : h.get? 759 = some (o759 P)) : h.IsCode 763 759 #[] ∧ h.TableAt 763 759 #[] :=
 ⟨⟨o763 P, _, _, _, _, _, _, _, _, o759 P, B _ _ (kt0_763 P), rfl, rfl, rfl, rfl, rfl, rfl, ht, rfl, trivial, by decide⟩, ⟨o763 P, _, B _ _ (kt0_763 P), rfl, rfl, rfl⟩, ht⟩
theorem kt0_759 (P : Params) : (kt0 P).get 759 = none := by kernel_rfl
theorem keeps_refl (s : Shared) : Keeps s s := ⟨s.heap, s.toks, rfl, fun _ _ e => e⟩
theorem elt_ok {w : World} {r : Bool} {A' : Around} {E' : Value → Shared → Prop} {s₂ : Shared} {m₂ : Str → Option Value} {cenv : Env} {k : Nat} {t : Tok} {p1 p2 p3 : Pos} (hk : k < 6) (hD : A'.depth + 71 ≤ recursionLimit)
  (hkind : cenv.scope.kind = .function) (hq : cenv.kindOf (o "quote") = some .globalImplicit) (ha : cenv.kindOf (o "arg") = some .local) (hg : cenv.globals = 3) (B : ∀ b x, (kt0 w.params).get b = some x → s₂.heap.get? b = some x) (hn : s₂.heap.Ns cenv.locals m₂) (hv : m₂ (o "arg") = some (.str (txt k) t)) :
  wpAny (model pw (wf w r)) A' (eval (.Call (.Name (o "quote") p1) [.Name (o "arg") p2] [] p3) cenv) (fun y s₃ => (∃ u, y = .str (qtx k) u) ∧ Keeps s₂ s₃) E' s₂ := by
 refine wpAny_Call_NameR (Calls.Name_function_global hkind hq (Calls.loadGlobal_global (mg := nsFind (es3 w.params)) (by rw [hg]; exact ns3 B) (quote_at _) ?_) (by decide))
 rw [show backTo p3 (starEach [.Name (o "arg") p2] cenv) = [(false, eval (.Name (o "arg") p2) cenv)] from rfl]
 refine Calls.callWith_function (Calls.evalArgs_plain (Calls.spliced_cons (wpAny_Name (wpAny_loadName_local hkind ha hn hv (Calls.spliced_nil ⟨⟨B _ _ (kt0_772 _), rfl⟩, wpAny_call ?_⟩)) (by decide))))
 refine quote_ok hk (by omega) ⟨rfl, fun j a x e => (nomatch e), .nil, B, fun _ h => nomatch h⟩ fun h' t' u hk => ⟨⟨u, rfl⟩, h', t', rfl, hk⟩
theorem passing_all (n : Nat) : passing (fun _ => true) n 0 = List.range n := by
 unfold passing
 rw [List.drop_zero]
 exact List.filter_eq_self.mpr fun _ _ => rfl
theorem nin2 {a x y : Nat} (h1 : a ≠ x) (h2 : a ≠ y) : a ∉ x :: [y] := fun h => by
 simp only [memC, memN, or_false] at h
 omega
structure JoinLeft (h h' : Heap) (g g' : Array GenState) : Prop where
 keep : ∀ b x, b ≠ 759 → h.get? b = some x → h'.get? b = some x
 size : h.objs.size ≤ h'.objs.size
 bare : AllBare g → AllBare g'
 tab : ∃ m, h'.get? 759 = some { cls := .none, data := .fields m }
noncomputable def wordsAre (ks : List Nat) (vs : List Value) : Prop := vs.length = ks.length ∧ ∀ (i : Nat) v, vs[i]? = some v → ∃ k t, ks[i]? = some k ∧ v = .str (txt k) t
theorem join_gen {w : World} {r : Bool} {A : Around} {h : Heap} {g : Array GenState} {d : Drawn} {os : OsState} {tok : Nat} {f l : Addr} {ks : List Nat} {vs : List Value} {e0 : Nat} {fo : Obj} {Q : Value → Shared → Prop} {E : Value → Shared → Prop} {p1 p2 p3 p4 p5 pos : Pos}
  (hD : A.depth + 77 ≤ recursionLimit) (hh : A.handled = none) (B : ∀ b x, (kt0 w.params).get b = some x → h.get? b = some x) (h759 : h.get? 759 = some (o759 w.params)) (hl : h.get? l = some (lstO vs e0)) (hl9 : l ≠ 759) (hW : wordsAre ks vs) (hk : ∀ k ∈ ks, k < 6) (h2 : 2 ≤ ks.length) (h100 : ks.length ≤ 100)
  (hf : h.Ns f (fun y => if y = o "split_command" then some (.ref l) else none)) {t0 : Tok}
  (fin : ∀ h' g' u, tok ≤ u → JoinLeft h h' g g' → Q (.str (Str.mk (Array.mk (line ks))) u) ⟨h', g', d, u + 1, os⟩) :
  wpAny (model pw (wf w r)) A (eval (.GeneratorExp (.Call (.Name (o "quote") p1) [.Name (o "arg") p2] [] p3) [⟨.Name (o "arg") p4, .Name (o "split_command") p5, [], 0⟩] (jeSc (joinE w.params)) pos) (joinEnv w.params f)) (fun v s' => wpAny (model pw (wf w r)) A (call (.builtin "str.join") [.str (o " ") t0, v]) Q E s') E ⟨h, g, d, tok, os⟩ := by
 have hlen : vs.length = ks.length := hW.1
 have sizes : ∀ {H : Heap} {b x}, H.get? b = some x → b < H.objs.size := fun e => Heap.lt_size e
 have l_lt := sizes hl
 have h9lt := sizes h759
 have h2lt : 2 < h.objs.size := by
  obtain ⟨_, hn, _⟩ := lim0 w.params h B
  exact hn.lt
 refine wpAny_with_toks (n := tok) (Nat.le_refl _) (wpAny_mono (E := E) (Q := fun v s' => tok ≤ s'.toks → wpAny (model pw (wf w r)) A (call (.builtin "str.join") [.str (o " ") t0, v]) Q E s') ?_ (fun _ _ x => x) fun _ _ x _ => x)
 refine wpAny_GeneratorExp_walksQD (cl := []) hh (sc_co _) (closure_none _ _) (fun y hy q => ?_) (sc_dot _) (sc_arg _) (sc_kind _) (by omega) ?_ (fun _ => rfl)
 ·have z := List.all_eq_true.mp (sc_names w.params) y hy
  rw [q] at z
  revert z
  decide
 refine wpAny_Name (wpAny_loadName_local (join_kind _ _) (join_loc _ _) hf (if_pos rfl) ?_) (by decide)
 refine wpAny_pyIter_list ⟨_, hl, rfl, e0, rfl⟩ ?_
 generalize hI : h.objs.size = I
 have hp : ∀ b x, h.get? b = some x → (h.push { cls := .type "list_iterator", data := .fields #[.ref l, .int 0 0] }).get? b = some x := fun b x e => Heap.get?_push_of_some _ e
 have hpI : (h.push { cls := .type "list_iterator", data := .fields #[.ref l, .int 0 0] }).get? I = some { cls := .type "list_iterator", data := .fields #[.ref l, .int 0 0] } := by
  rw [← hI]; exact Heap.get?_push_size _ rfl
 have hps : (h.push { cls := .type "list_iterator", data := .fields #[.ref l, .int 0 0] }).objs.size = I + 1 := by rw [Heap.size_push, hI]
 generalize (h.push { cls := .type "list_iterator", data := .fields #[.ref l, .int 0 0] }) = hA at hp hpI hps
 have BA : ∀ b x, (kt0 w.params).get b = some x → hA.get? b = some x := fun b x e => hp b x (B b x e)
 have cA := code763 BA (hp _ _ h759)
 refine ⟨lim0 w.params hA BA, wpAny_genexprCodeX (c := 763) (P := 759) (ps := #[]) rfl cA.1 cA.2 rfl fun c' h₃ tk₃ hx₃ hge hlt hcode₃ _ htab₃ _ => ?_⟩
 have hge : hA.objs.size ≤ c' := hge
 have n759 : ∀ {b x}, (kt0 w.params).get b = some x → b ≠ 759 := fun e q => by rw [q, kt0_759] at e; cases e
 have B3 : ∀ b x, (kt0 w.params).get b = some x → h₃.get? b = some x := fun b x e => hx₃ b x (n759 e) (BA b x e)
 refine wpAny_builtinsFor (m := nsFind (es3 w.params)) (bm := 4) (o := o4 w.params) (ns3 B3) (built_at _) (by decide) (B3 4 _ (kt0_4 _)) rfl rfl rfl ?_
 have hI9 : I ≠ 759 := Nat.ne_of_gt (hI ▸ h9lt)
 have e3I := hx₃ _ _ hI9 hpI
 have e3l := hx₃ _ _ hl9 (hp _ _ hl)
 have hlI : l ≠ I := Nat.ne_of_lt (hI ▸ l_lt)
 have sz3 : I < h₃.objs.size := sizes e3I
 refine ⟨I, [I, l], [I], vs.toArray.size, fun i v => vs.toArray[i]? = some v, fun i h => h.IsListIter I l i ∧ h.IsList l vs.toArray, fun _ => true, fun i y => ∃ k u, ks[i]? = some k ∧ y = .str (qtx k) u, rfl, fun A' hA' => Walks.list hA' I l hlI vs.toArray, ⟨⟨_, e3I, rfl, rfl⟩, ⟨_, e3l, rfl, e0, rfl⟩⟩, ?_, lim0 w.params h₃ B3, ?_, ?_, ?_⟩
 ·intro b hb
  simp only [memC, memN, or_false] at hb
  rcases hb with rfl | rfl
  ·exact sz3
  ·exact sizes e3l
 ·intro hm
  simp only [memC, memN, or_false] at hm
  have : (2 : Nat) = I := hm
  omega
 ·intro href hhref
  have B2 : ∀ (s₂ : Shared), (∀ b ∈ List.range h₃.objs.size, b ∉ [I] → ∀ o, href.get? b = some o → s₂.heap.get? b = some o) → ∀ b x, (kt0 w.params).get b = some x → s₂.heap.get? b = some x := fun s₂ hs b x e => by
   refine hs b (List.mem_range.mpr (sizes (B3 b x e))) (fun hm => ?_) x (hhref b x (B3 b x e))
   simp only [memC, memN, or_false] at hm
   have z1 : b < h.objs.size := sizes (B b x e)
   exact absurd (hm ▸ z1 : I < h.objs.size) (by omega)
  refine ⟨fun A' E' i v s₂ m₂ hA' _ _ hP hn hm hs => ?_, fun A' E' i v s₂ m₂ hA' hdep _ hP _ hn hm hs => ?_⟩
  ·show wpAny _ A' (pure true) _ _ _
   exact wpAny_pure ⟨rfl, keeps_refl _⟩
  have hv : vs[i]? = some v := by simpa using hP
  obtain ⟨k, t, ek, rfl⟩ := hW.2 i v hv
  refine wpAny_mono (elt_ok (k := k) (t := t) (hk k (List.mem_of_getElem? ek)) (by omega) (sc_kind w.params) (gen_quote w.params _ _ _ _) (gen_arg w.params _ _ _ _) rfl (B2 s₂ hs) hn hm) (fun y s₃ x => ⟨?_, x.2⟩) fun _ _ x => x
  obtain ⟨⟨u, rfl⟩, _⟩ := x
  exact ⟨k, u, ek, rfl⟩
 ·intro a h₅ tk gs hgb hag hsz₅ hk₅ W hat htk
  have hn : (passing (fun _ => true) vs.toArray.size 0).length = ks.length := by rw [passing_all]; simpa using hlen
  have W2 := W.in4_2
  rw [hn] at W2
  have hk₅ : ∀ b o, h₃.get? b = some o → h₅.get? b = some o := hk₅
  have hag : h₃.objs.size < a := hag
  refine join_told W2 (fun i s st => st.1.typeIs) hat ?_ List.mem_cons_self ?_ h2 fun s' vs' hm hl' hP => ?_
  ·intro b hb
   show b < h₅.objs.size
   rw [hsz₅]
   rcases List.mem_cons.mp hb with rfl | hb
   ·exact Nat.lt_succ_self _
   ·rcases List.mem_cons.mp hb with rfl | hb
    ·exact Nat.lt_succ_of_lt hag
    ·exact Nat.lt_succ_of_lt (Nat.lt_trans (List.mem_range.mp hb) hag)
  ·unfold sizeLine; omega
  ·have hP' : ∀ (j : Nat) (v : Value), vs'[j]? = some v → ∃ k u, ks[j]? = some k ∧ v = Value.str (qtx k) u := fun j v e => by
    obtain ⟨i, hi, k, u, e1, e2⟩ := hP j v e
    rw [passing_all] at hi
    have hj : j < ks.length := hl' ▸ (List.getElem?_eq_some_iff.mp e).1
    rw [List.getElem?_range (by simpa [hlen] using hj)] at hi
    cases hi
    exact ⟨k, u, e1, e2⟩
   obtain ⟨lt, elt⟩ := exists_strValues vs' fun v hv => by
    obtain ⟨j, hj, rfl⟩ := List.mem_iff_getElem.mp hv
    obtain ⟨k, u, _, e⟩ := hP' j _ (List.getElem?_eq_getElem hj)
    exact ⟨_, _, e⟩
   have etx : lt.map (·.1) = ks.map qtx := by
    apply List.ext_getElem?
    intro j
    have hll : lt.length = ks.length := by rw [← hl', ← elt]; simp [strValues]
    by_cases hj : j < ks.length
    ·have hj' : j < lt.length := hll ▸ hj
     have z : vs'[j]? = some (Value.str lt[j].1 lt[j].2) := by rw [← elt]; simp [strValues, List.getElem?_eq_getElem hj']
     obtain ⟨k, u, e1, e2⟩ := hP' j _ z
     injection e2 with e3 _
     rw [List.getElem?_map, List.getElem?_map, List.getElem?_eq_getElem hj', e1]
     simp [e3]
    ·rw [List.getElem?_eq_none (by simpa [hll] using Nat.le_of_not_lt hj), List.getElem?_eq_none (by simpa using Nat.le_of_not_lt hj)]
   refine ⟨lt, elt.symm, by rw [etx]; exact join_fits h100, ?_⟩
   rw [etx, glued_line]
   have t5 : tok ≤ s'.toks := Nat.le_trans htk hm.toks
   have hd := hm.drawn
   have ho := hm.os
   have hga := hm.gens
   have hhp := hm.heap
   have nI3 : ∀ {b x}, h.get? b = some x → b ∉ h₃.objs.size :: [I] := fun {b x} e => by
    have z : b < h.objs.size := sizes e
    have z' : b < I := hI ▸ z
    exact nin2 (Nat.ne_of_lt (Nat.lt_trans z' sz3)) (Nat.ne_of_lt z')
   have ga : ∃ x, s'.heap.get? a = some x := by
    obtain ⟨o, nm, qn, e1, _⟩ := hat.1
    exact ⟨o, hhp a o (nin2 (Nat.ne_of_gt hag) (Nat.ne_of_gt (Nat.lt_trans sz3 hag))) e1⟩
   have left : JoinLeft h s'.heap g s'.gens := ⟨fun b x hb e => hhp b x (nI3 e) (hk₅ b x (hx₃ b x hb (hp b x e))), by
    obtain ⟨x, e⟩ := ga
    exact hI ▸ Nat.le_of_lt (Nat.lt_trans (Nat.lt_trans sz3 hag) (sizes e)), fun hg => (hg.push hgb).moved hga, _, hhp 759 _ (nI3 h759) (hk₅ 759 _ htab₃.2)⟩
   cases s' with
   | mk h' g' d' t' os' =>
    cases hd
    cases ho
    exact fin h' g' t' t5 left
noncomputable def jfO (P : Params) (k : Nat → Tok) (l : Addr) : Obj := frO (fun _ => hashZ P (o "split_command")) k [("split_command", .ref l)] #[]
theorem jf_ns {P : Params} {k : Nat → Tok} {l : Addr} {h : Heap} {f : Addr} (e : h.get? f = some (jfO P k l)) : h.Ns f (fun y => if y = o "split_command" then some (.ref l) else none) := by
 refine ⟨_, entsOf (jfO P k l), 1, e, rfl, strKeysB_ok (by kernel_rfl), fun y => ?_⟩
 show nsFind (Array.mk [⟨_, .str (o "split_command") _, .ref l⟩]) y = if y = o "split_command" then some (.ref l) else none
 by_cases q : y = o "split_command"
 ·subst q
  rw [if_pos rfl]
  kernel_rfl
 ·rw [if_neg q]
  unfold nsFind findBy
  rw [List.find?_toArray]
  have e : (Value.isStr (.str (o "split_command") (k 0)) y) = false := by
   show (o "split_command" == y) = false
   exact beq_eq_false_iff_ne.mpr fun e => q e.symm
  simp [List.find?, e]
theorem join_ok {N : Nat} {w : World} {r : Bool} {A : Around} {h : Heap} {g : Array GenState} {d : Drawn} {os : OsState} {tok : Nat} {l : Addr} {ks : List Nat} {vs : List Value} {e0 : Nat} {R : Result → Shared → Prop}
  (hD : A.depth + 140 ≤ recursionLimit) (hh : A.handled = none) (S : Starts (kt0 w.params) h [l] [lstO vs e0]) (h759 : h.get? 759 = some (o759 w.params)) (hW : wordsAre ks vs) (hk : ∀ k ∈ ks, k < 6) (h2 : 2 ≤ ks.length) (h100 : ks.length ≤ 100) (h1 : N < tok)
  (fin : ∀ h' g' u, N < u → JoinLeft h h' g g' → R (.ok (.ret (.str (Str.mk (Array.mk (line ks))) u))) ⟨h', g', d, u + 1, os⟩) :
  codeAny (model pw (wf w r)) A (.call (.ref 764) ⟨[.ref l], []⟩) R ⟨h, g, d, tok, os⟩ := by
 have hl := S.at_ 0 l _ rfl rfl
 have hl9 : l ≠ 759 := fun q => by
  rw [q, h759] at hl
  have := congrArg Obj.cls (Option.some.inj hl)
  cases this
 refine code_w (w := wf w r) (D := 70) (U := 0) (nt := false) (N := N) (ks := []) (cur := []) (as := [l]) (xs := [lstO vs e0]) (n := 2000) (e := 1) (ce := decs [4198502402]) (s := 0) (i := 1) (bi := [1]) (ys := fun _ => [lstO vs e0]) (zs := fun Y => [jfO w.params Y.tk l]) (res := fun Y => .cut (.func (stmtsOf (o764 w.params)) (joinEnv w.params (Y.adr 1))))
  nilA (dle ‹_›) (fun q => by cases q) nilA nilA S rfl h1 (.inl rfl) (fun _ => rfl) (fun _ => rfl) (fun x hx => ?_) (by decide) ?_ fun Y h1 t1 ht1 _ W1 => ?_
 ·simp only [memC, memN, or_false] at hx
  subst hx
  exact Nat.le_refl 1
 ·intro bf Y
  cases r <;> kernel_rfl
 have S1 : Starts (kt0 w.params) h1 [l, Y.adr 1] _ := W1.S
 have k1 : ∀ b x, h.get? b = some x → h1.get? b = some x := fun b x e => by
  by_cases q : b = l
  ·rw [q, hl] at e
   cases e
   rw [q]
   exact starts_get S1 0 rfl rfl
  ·exact W1.K.keep b x e (fun hm => by
    simp only [memC, memN, or_false] at hm
    exact q hm) (fun q => by cases q)
 show codeAny _ A (.func (stmtsOf (o764 w.params)) (joinEnv w.params (Y.adr 1))) R _
 obtain ⟨rpos, er⟩ := join_ret w.params
 obtain ⟨c1, c2, apos, p1, p2, p3, p4, p5, sc, pos, cpos, hline, hsc, ej⟩ := joinE_eq w.params
 rw [join_body, er]
 refine codeAny_func (wpAny_execs_cons (wpAny_Return_some ?_))
 show wpAny _ _ (eval (joinE w.params) _) _ _ _
 rw [← hsc] at ej
 rw [ej]
 refine wpAny_Call_method1_late rfl hline rfl (Calls.Constant_str ⟨"str", "str.join", F.plainAttrs_str, F.slot_str_join, type_join, typeIs_str _ _ _, fun a e => (nomatch e), ?_⟩)
 refine Calls.callWith_builtin rfl (Calls.evalArgs_plain (Calls.spliced_cons ?_))
 refine wpAny_mono (join_gen (fo := default) (r := r) (A := A.deeper (joinEnv w.params (Y.adr 1))) (ks := ks) (vs := vs) (f := Y.adr 1) (l := l) (by show A.depth + 1 + 77 ≤ _; omega) hh S1.base (k1 _ _ h759) (starts_get S1 0 rfl rfl) hl9 hW hk h2 h100 (jf_ns (starts_get S1 1 rfl rfl)) (t0 := t1) (Q := fun v s' => R (.ok (.ret v)) s') ?_) (fun v s' x => Calls.spliced_nil x) fun _ _ x => x
 intro h' g' u hu L
 exact fin h' g' u (Nat.lt_of_lt_of_le ht1 (Nat.le_of_succ_le hu)) ⟨fun b x hb e => L.keep b x hb (k1 b x e), Nat.le_trans W1.K.size L.size, L.bare, L.tab⟩
end
section
open PySem PySem.W PySem.W.X PySem.Spec PySem.Calls PyProof.Rows
noncomputable def lxP : List Nat := [34, 36, 38, 40, 43, 92, 46, 50, 55, 53, 57, 60, 58, 63, 61, 66, 64, 69, 71, 74, 72, 77, 75, 80, 82, 84, 88, 85]
noncomputable def lxL (Y : Dyn) (t : Tok) : Lx := ⟨Y.adr 2, Y.adr 1, Y.adr 8, Y.adr 7, Y.adr 11, Y.adr 12, fun i => Y.tk (lxP.getD i 0), ⟨Y.tk 17, Y.tk 20, Y.tk 23, 786, t⟩⟩
noncomputable def enZ (P : Params) (n : String) (t : Nat) (v : Value) : DictEntry := ⟨hashZ P (o n), .str (o n) t, v⟩
theorem hashZ_eq (P : Params) (s : Str) : hashZ P s = PyData.keyHash P s := by
 unfold hashZ PyData.keyHash
 rw [← PySem.W.ZFast.ze12210062019545310541]
 cases s.cps.isEmpty <;> rfl
theorem enZ_eq (P : Params) (n : String) (t : Nat) (v : Value) : enZ P n t v = en P n t v := by
 unfold enZ en
 rw [hashZ_eq]
noncomputable def lexDictZ (P : Params) (K : Nat → Tok) (b pb fs : Addr) (st : Value) (tt : Tok) : Obj := ⟨.type "dict", none, .dict (Array.mk [enZ P "instream" (K 0) (.ref b), enZ P "infile" (K 1) .none, enZ P "posix" (K 2) (.bool true), enZ P "eof" (K 3) .none, enZ P "commenters" (K 4) (.str (Str.ofString "") (K 5)), enZ P "wordchars" (K 6) (.str (o "abcdfeghijklmnopqrstuvwxyzABCDEFGHIJKLMNOPQRSTUVWXYZ0123456789_ßàáâãäåæçèéêëìíîïðñòóôõöøùúûüýþÿÀÁÂÃÄÅÆÇÈÉÊËÌÍÎÏÐÑÒÓÔÕÖØÙÚÛÜÝÞ") (K 7)), enZ P "whitespace" (K 8) (.str (o " \t\x0d\n") (K 9)), enZ P "whitespace_split" (K 10) (.bool true), enZ P "quotes" (K 11) (.str (o "'\"") (K 12)), enZ P "escape" (K 13) (.str (o "\\") (K 14)), enZ P "escapedquotes" (K 15) (.str (o "\"") (K 16)), enZ P "state" (K 17) st, enZ P "pushback" (K 18) (.ref pb), enZ P "lineno" (K 19) (.int 1 (K 20)), enZ P "debug" (K 21) (.int 0 (K 22)), enZ P "token" (K 23) (.str (Str.ofString "") tt), enZ P "filestack" (K 24) (.ref fs), enZ P "source" (K 25) .none, enZ P "_punctuation_chars" (K 26) (.str (Str.ofString "") (K 27))]) 19, Array.mk []⟩
noncomputable def sioDictZ (P : Params) (K : SK) (B : Str) (p : Int) (t : Tok) : Obj := ⟨.type "dict", none, .dict (Array.mk [enZ P "_StringIO__newline" K.k1 (.str (o "\n") K.t1), enZ P "_StringIO__buf" K.k2 (.str B K.t2), enZ P "_StringIO__pos" K.k3 (.int p t)]) 3, Array.mk []⟩
theorem lexDictZ_eq (P : Params) (K : Nat → Tok) (b pb fs : Addr) (st : Value) (tt : Tok) : lexDictZ P K b pb fs st tt = lexDict P K b pb fs st tt := by
 unfold lexDictZ lexDict
 simp only [enZ_eq]
theorem sioDictZ_eq (P : Params) (K : SK) (B : Str) (p : Int) (t : Tok) : sioDictZ P K B p t = sioDict P K B p t := by
 unfold sioDictZ sioDict
 simp only [enZ_eq]
noncomputable def lxZ (L : Lx) (P : Params) (B : Str) (p : Nat) (st : Value) (tt t3 : Tok) : List Obj := [lexObj L.ad, lexDictZ P L.K L.b L.pb L.fs st tt, sioObj L.bd, sioDictZ P L.S B (p : Int) t3, dqObj, dqObj]
theorem lxZ_eq (L : Lx) (P : Params) (B : Str) (p : Nat) (st : Value) (tt t3 : Tok) : lxZ L P B p st tt t3 = L.objs P B p st tt t3 := by
 unfold lxZ Lx.objs
 rw [lexDictZ_eq, sioDictZ_eq]
theorem lexer_ok {N : Nat} {w : World} {r : Bool} {A : Around} {h : Heap} {g : Array GenState} {d : Drawn} {os : OsState} {tok : Nat} {B : Str} {t : Tok} {R : Result → Shared → Prop}
  (hD : A.depth + 140 ≤ recursionLimit) (hh : A.handled = none) (S : Starts (kt0 w.params) h [] []) (h1 : N < tok) (ht : N < t)
  (fin : ∀ (L : Lx) h' t' ts tt t3, N < t' → N < L.S.t2 → N < ts → N < tt → N < t3 → Went (wf w r).params false h h' [] L.as [] (L.objs w.params B 0 (.str (o " ") ts) tt t3) → R (.ok (.ret (.ref L.a))) ⟨h', g, d, t', os⟩) :
  codeAny (model pw (wf w r)) A (.call (.ref 786) ⟨[.str B t], []⟩) R ⟨h, g, d, tok, os⟩ := by
 refine code_w (w := wf w r) (D := 70) (U := 0) (nt := false) (N := N) (ks := []) (cur := []) (as := []) (xs := []) (n := 20000) (e := 1) (ce := decs [17592186046465, 0, 187072220728728172795384157810794187804230807453696, 21778071482941300206453462153993201393668, 34359738368, 0, 159851741583076593200197917922296120773481332736, Ney, 0, 205523716750319059487531918326670769813737963520, 467680524000334125519612796323554439832606544494592, 228359630859538140888118922668569277606144245760, 205523667749658222872393179601051734820045979648, 374327196064382230151335472408043347529984102123520, 420912571904653445513133300436383900772152090052618, 100407819850132751170549448346753111469064192, 23926109628556187403383620473754484736, 11689009280764117928307228846063616, 420912471551300052125329163525651673854525350871040, 11689640011667702481121496788914184, 514631264094168777013011788944659370293682224758784, 11689009589039611742313623484127243, 2785365752474892349376299008, 140304157183766684044312927587137837436598333997065, 140395545648484613890790285531007363891709645684736, Nhx, 68507905583439688397319873117901078327235448834, 68507889249886076193512171525761101749012135936, 33472901188788273993949714225098673124022272, 93581799016097551379827545929167483034944128679936, 140304157183774655517429929336564297760460775626756, 140372665073016570116067185568417575208165132210176, 93536138256629138173176516298690967422478776799232, 16333557506427690600709884910083074162688, Nhy, Nhz, 68552501634638385139609014733002082557997613056, 93581776731677931093435669146357303223185263558656, 16333557506427690600709884910083074170882, Nhy, Nhz, 10894355249602528216762881019288613814272, 7980567881187264941445690274047066112, 140395523347739412765919262173188265078779111538691, Nhx, 33451125773163910350253844295850135901966338, 140304157200100233759758790640647553397155281508352, 607984681129655613974001160282453171258550441220096, 33451117797795935641364029482109955636985869, 16344190033588024411108258898973961486339, 187117903816156402412581340006594952826035021813760, 68507905583439688397319873117901078327235452932, 655072593118074208409696437715849745440649594798080, 701520953256130052800892086578962459745419207405568, 795399597486112753355213724222054185170568023668736, 140304157183774655517429929336564297760460775626753, 140304190634884481837711100145461408361384461209600, 309787388922258935502602240]) (s := 0) (i := 97) (bi := [2, 1, 8, 7, 11, 12]) (ys := fun _ => []) (zs := fun Y => lxZ (lxL Y t) w.params B 0 (.str (o " ") (Y.tk 67)) (Y.tk 78) (Y.tk 21)) (res := fun Y => .res (.ok (.ret (.ref (Y.adr 2)))))
  nilA (dle ‹_›) (fun q => by cases q) nilA nilA S rfl h1 (.inl rfl) (fun _ => rfl) (fun _ => rfl) (fun _ _ => Nat.zero_le _) (by decide) ?_ fun Y h1 t1 ht1 hy W1 => ?_
 ·intro bf Y
  rw [hh]
  cases r <;> kernel_rfl
 ·exact fin (lxL Y t) h1 t1 (Y.tk 67) (Y.tk 78) (Y.tk 21) ht1 ht (hy 67 (by decide)) (hy 78 (by decide)) (hy 21 (by decide)) (by rw [← lxZ_eq]; exact W1)
end
section
open PySem PySem.W PySem.W.X PySem.Calls PyProof.Rows
theorem Starts.none {kt : KT} {h : Heap} {as : List Addr} {xs : List Obj} (S : Starts kt h as xs) : Starts kt h [] [] := ⟨rfl, fun j a x e => (nomatch e), .nil, S.base, fun _ h => nomatch h⟩
theorem one_but {α : Type} {a b c b' : α} {l : List α} {j : Nat} (n : j ≠ 1) : ([a, b, c] ++ l)[j]? = ([a, b', c] ++ l)[j]? := by
 rcases j with _ | _ | j
 ·rfl
 ·exact absurd rfl n
 ·rfl
theorem law_s4 {N : Nat} {w : World} {r : Bool} {A : Around} (hr : A.depth + 420 ≤ recursionLimit) (hh0 : A.handled = none) {g : Array GenState} {d : Drawn} {os : OsState} {f cK cL sA nA wA qA : Addr} {ks : List Nat} {vs : List Value} {e0 : Nat} (hW : wordsAre ks vs) (hk : ∀ k ∈ ks, k < 6) (h2 : 2 ≤ ks.length) (h100 : ks.length ≤ 100) {hh : Nat → Int} {k : Nat → Tok} {sl : Array (Option Value)}
  {h : Heap} (h759 : h.get? 759 = some (o759 w.params)) {tok : Nat} (h1 : N < tok) (S : Starts (kt0 w.params) h [f, cL, wA] [frO hh k [("script", .ref sA), ("numbers", .ref nA), ("words", .ref wA), ("questions", .ref qA)] sl, cell0, lstO vs e0]) {R : Result → Shared → Prop}
  (fin : ∀ h' g' t' (L : Lx) ts tt t3, N < t' → N < L.S.t2 → N < ts → N < tt → N < t3 → Starts (kt0 w.params) h' ([f, cL, wA] ++ L.as) ([frO hh k [("script", .ref sA), ("numbers", .ref nA), ("words", .ref wA), ("questions", .ref qA)] sl, cellV (.ref L.a), lstO vs e0] ++ L.objs w.params (Str.mk (Array.mk (line ks))) 0 (.str (o " ") ts) tt t3) →
   (∀ b x, b ≠ 759 → b ≠ cL → h.get? b = some x → h'.get? b = some x) → h.objs.size ≤ h'.objs.size → (∀ b ∈ L.as, h.objs.size ≤ b) → (AllBare g → AllBare g') → (∃ m, h'.get? 759 = some { cls := .none, data := .fields m }) → R (.ok .next) ⟨h', g', d, t', os⟩) :
  MeansP (wf w r) A (lawC w.params f cL cK) false [] (stmP w.params 3 (lawEnv w.params f cL cK)) R ⟨h, g, d, tok, os⟩ := by
 have lawD : (lawA A w.params f cL cK).depth + 140 ≤ recursionLimit := by have := lawA_depth (A := A) (P := w.params) (f := f) (cL := cL) (cK := cK); omega
 refine call_w (w := wf w r) (D := 70) (U := 0) (nt := false) (N := N) (ks := []) (cur := []) (as := [f, cL, wA]) (xs := [frO hh k [("script", .ref sA), ("numbers", .ref nA), ("words", .ref wA), ("questions", .ref qA)] sl, cell0, lstO vs e0]) (n := 2000) (ce := decs [17644962606743552]) (s := 0) (i := 0) (bi := [])
  (c' := fun Y => .call (.ref 764) ⟨[.ref wA], []⟩) (ys := fun Y => [frO hh k [("script", .ref sA), ("numbers", .ref nA), ("words", .ref wA), ("questions", .ref qA)] sl, cell0, lstO vs e0]) (zs := fun Y => [])
  nilA (dle ‹_›) (fun q => by cases q) nilA nilA S rfl h1 (.inl rfl) (fun _ => rfl) (fun _ => rfl) nilA .nil ?_ fun Y h1' t1 ht1 _ W1 => ?_
 ·intro bf Y
  cases r <;> kernel_rfl
 have S1 : Starts (kt0 w.params) h1' _ _ := W1.fst
 have nS := S.nodup
 have ne759 : ∀ (j : Nat) (a : Addr) (x : Obj), [f, cL, wA][j]? = some a → [frO hh k [("script", .ref sA), ("numbers", .ref nA), ("words", .ref wA), ("questions", .ref qA)] sl, cell0, lstO vs e0][j]? = some x → x.cls ≠ .none → a ≠ 759 := fun j a x e1 e2 hx q => by
  have z := S.at_ j a x e1 e2
  rw [q, h759] at z
  cases z
  exact hx rfl
 have f9 : f ≠ 759 := ne759 0 _ _ rfl rfl (by intro q; cases q)
 have c9 : cL ≠ 759 := ne759 1 _ _ rfl rfl (by intro q; cases q)
 have w9 : wA ≠ 759 := ne759 2 _ _ rfl rfl (by intro q; cases q)
 have k1 : ∀ b x, h.get? b = some x → h1'.get? b = some x := fun b x e => by
  by_cases q : b ∈ [f, cL, wA]
  ·obtain ⟨j, hj, rfl⟩ := List.mem_iff_getElem.mp q
   have hj' : j < 3 := hj
   have e1 := S.at_ j _ _ (List.getElem?_eq_getElem hj) (List.getElem?_eq_getElem (S.len ▸ hj))
   rw [e] at e1
   rw [Option.some.inj e1]
   exact S1.at_ j _ _ (List.getElem?_eq_getElem hj) (List.getElem?_eq_getElem (S.len ▸ hj))
  ·exact W1.K.keep b x e q (fun q => by cases q)
 refine join_ok (N := N) (ks := ks) (vs := vs) lawD (lawA_handled hh0) (S1.pick [2] (by decide) rfl rfl) (k1 _ _ h759) hW hk h2 h100 ht1 fun h2' g2 u hu J2 => ?_
 have S2 : Starts (kt0 w.params) h2' [f, cL, wA] [frO hh k [("script", .ref sA), ("numbers", .ref nA), ("words", .ref wA), ("questions", .ref qA)] sl, cell0, lstO vs e0] := S1.re rfl (fun b x e => J2.keep b x (fun q => by rw [q, kt0_759] at e; cases e) (S1.base b x e)) fun j a x e1 e2 => by
  refine J2.keep a x ?_ (S1.at_ j a x e1 e2)
  rcases j with _ | _ | _ | j
  ·cases e1; exact f9
  ·cases e1; exact c9
  ·cases e1; exact w9
  ·cases e2
 refine call_w (w := wf w r) (D := 70) (U := 0) (nt := false) (N := N) (ks := []) (cur := []) (as := [f, cL, wA]) (xs := [frO hh k [("script", .ref sA), ("numbers", .ref nA), ("words", .ref wA), ("questions", .ref qA)] sl, cell0, lstO vs e0]) (n := 2000) (ce := decs [2054144]) (s := 0) (i := 0) (bi := [])
  (c' := fun Y => .call (.ref 786) ⟨[.str (Str.mk (Array.mk (line ks))) u], []⟩) (ys := fun Y => [frO hh k [("script", .ref sA), ("numbers", .ref nA), ("words", .ref wA), ("questions", .ref qA)] sl, cell0, lstO vs e0]) (zs := fun Y => [])
  nilA (dle ‹_›) (fun q => by cases q) nilA nilA S2 rfl (Nat.lt_succ_of_lt hu) (.inl rfl) (fun _ => rfl) (fun _ => rfl) nilA .nil ?_ fun Y2 h3 t3' ht3 _ W3 => ?_
 ·intro bf Y2
  cases r <;> kernel_rfl
 have S3 : Starts (kt0 w.params) h3 _ _ := W3.fst
 refine lexer_ok (N := N) lawD (lawA_handled hh0) S3.none ht3 hu fun L h4 t4 ts tt t3 ht4 hs2 hts htt ht3 W4 => ?_
 have k4 : ∀ b x, h3.get? b = some x → h4.get? b = some x := W4.all
 have S4 : Starts (kt0 w.params) h4 ([f, cL, wA] ++ L.as) ([frO hh k [("script", .ref sA), ("numbers", .ref nA), ("words", .ref wA), ("questions", .ref qA)] sl, cell0, lstO vs e0] ++ L.objs w.params (Str.mk (Array.mk (line ks))) 0 (.str (o " ") ts) tt t3) := by
  have SL : Starts (kt0 w.params) h4 L.as (L.objs w.params (Str.mk (Array.mk (line ks))) 0 (.str (o " ") ts) tt t3) := W4.S
  refine ⟨rfl, fun j a x e1 e2 => ?_, ?_, SL.base, fun a ha => ?_⟩
  ·by_cases hj : j < 3
   ·rw [List.getElem?_append_left hj] at e1
    rw [List.getElem?_append_left hj] at e2
    exact k4 a x (S3.at_ j a x e1 e2)
   ·rw [List.getElem?_append_right (Nat.not_lt.mp hj)] at e1
    rw [List.getElem?_append_right (Nat.not_lt.mp hj)] at e2
    exact SL.at_ _ a x e1 e2
  ·rw [List.nodup_append]
   refine ⟨S3.nodup, SL.nodup, fun a ha b hb q => ?_⟩
   obtain ⟨j, hj, rfl⟩ := List.mem_iff_getElem.mp ha
   have e1 := S3.at_ j _ _ (List.getElem?_eq_getElem hj) (List.getElem?_eq_getElem (S3.len ▸ hj))
   have z : h3.objs.size ≤ b := W4.new b hb
   exact absurd (Heap.lt_size e1) (Nat.not_lt.mpr (q ▸ z))
  ·rcases List.mem_append.mp ha with ha | ha
   ·exact S3.off a ha
   ·exact SL.off a ha
 have sz3 : h.objs.size ≤ h3.objs.size := Nat.le_trans (Nat.le_trans W1.K.size J2.size) W3.K.size
 refine piece_w (w := wf w r) (D := 70) (U := 0) (nt := false) (N := N) (ks := []) (cur := []) (as := [f, cL, wA] ++ L.as) (xs := [frO hh k [("script", .ref sA), ("numbers", .ref nA), ("words", .ref wA), ("questions", .ref qA)] sl, cell0, lstO vs e0] ++ L.objs w.params (Str.mk (Array.mk (line ks))) 0 (.str (o " ") ts) tt t3) (n := 2000) (ce := decs [4098]) (s := 0) (i := 0) (bi := []) (res := fun Y => .ok .next)
  (ys := fun Y => [frO hh k [("script", .ref sA), ("numbers", .ref nA), ("words", .ref wA), ("questions", .ref qA)] sl, cellV (.ref L.a), lstO vs e0] ++ L.objs w.params (Str.mk (Array.mk (line ks))) 0 (.str (o " ") ts) tt t3) (zs := fun Y => [])
  nilA (dle ‹_›) (fun q => by cases q) nilA nilA S4 rfl ht4 (.inl rfl) (fun _ => rfl) (fun _ => rfl) nilA .nil ?_ fun Y3 h5 t5 ht5 _ W5 => ?_
 ·intro bf Y3
  cases r <;> kernel_rfl
 refine have k25 : ∀ b x, b ≠ cL → h2'.get? b = some x → h5.get? b = some x := fun b x hc e2 => ?_; fin h5 g2 t5 L ts tt t3 ht5 hs2 hts htt ht3 W5.fst (fun b x hb hc e => k25 b x hc (J2.keep b x hb (k1 b x e))) (Nat.le_trans sz3 (Nat.le_trans W4.K.size W5.K.size)) (fun b hb => Nat.le_trans sz3 (W4.new b hb)) J2.bare (J2.tab.imp fun m e => k25 759 _ c9.symm e)
 have e4 : h4.get? b = some x := k4 b x (by
  by_cases q : b ∈ [f, cL, wA]
  ·obtain ⟨j, hj, rfl⟩ := List.mem_iff_getElem.mp q
   have e1 := S2.at_ j _ _ (List.getElem?_eq_getElem hj) (List.getElem?_eq_getElem (S2.len ▸ hj))
   rw [e2] at e1
   rw [Option.some.inj e1]
   exact S3.at_ j _ _ (List.getElem?_eq_getElem hj) (List.getElem?_eq_getElem (S2.len ▸ hj))
  ·exact W3.K.keep b x e2 q (fun q => by cases q))
 by_cases q : b ∈ [f, cL, wA] ++ L.as
 ·obtain ⟨j, hj, rfl⟩ := List.mem_iff_getElem.mp q
  have e1 := S4.at_ j _ _ (List.getElem?_eq_getElem hj) (List.getElem?_eq_getElem (S4.len ▸ hj))
  rw [e4] at e1
  rw [Option.some.inj e1]
  have q1 : j ≠ 1 := fun q1 => by
   subst q1
   exact absurd rfl hc
  exact W5.fst.at_ j _ _ (List.getElem?_eq_getElem hj) ((one_but q1).trans (List.getElem?_eq_getElem (S4.len ▸ hj)))
 ·exact W5.K.keep b x e4 q (fun q => by cases q)
noncomputable def ansF : List (Nat × Nat) → List Nat → List Str
 | [], _ => []
 | (kd, k) :: r, ws => ansTxt kd (txt k) ws :: ansF r (left4 kd (txt k) ws)
noncomputable def leftF : List (Nat × Nat) → List Nat → List Nat
 | [], ws => ws
 | (kd, k) :: r, ws => leftF r (left4 kd (txt k) ws)
theorem left4_mem {kd : Nat} {y : Str} {ws : List Nat} : ∀ k ∈ left4 kd y ws, k ∈ ws := by
 intro k hk
 unfold left4 at hk
 split at hk
 ·exact after_mem k hk
 ·exact after_mem k hk
 ·cases hk
theorem after_len {y : Str} : ∀ {ws : List Nat}, (after y ws).length ≤ ws.length
 | [] => Nat.le_refl _
 | k :: ws => by
  unfold after
  split
  ·simp
  ·exact Nat.le_trans after_len (Nat.le_succ _)
theorem left4_len {kd : Nat} {y : Str} {ws : List Nat} : (left4 kd y ws).length ≤ ws.length := by
 unfold left4
 split
 ·exact after_len
 ·exact after_len
 ·exact Nat.zero_le _
theorem Rest.nil_end (B : Str) : Rest B B.length [] := ⟨fun i hi => absurd hi (Nat.not_lt_zero _), rfl⟩
theorem Rest.left4 {B : Str} {kd : Nat} {y : Str} {ws : List Nat} {p : Nat} (h : Rest B p ws) : Rest B (pOf B (left4 kd y ws)) (left4 kd y ws) := by
 unfold Mine.left4
 split
 ·exact h.after
 ·exact h.after
 ·rw [pOf_nil]; exact .nil_end B
theorem leftF_mem : ∀ {qs : List (Nat × Nat)} {ws : List Nat}, ∀ k ∈ leftF qs ws, k ∈ ws
 | [], ws, k, h => h
 | (kd, y) :: r, ws, k, h => left4_mem k (leftF_mem k h)
theorem Starts.add1 {kt : KT} {h : Heap} {as : List Addr} {xs : List Obj} (S : Starts kt h as xs) {a : Addr} {x : Obj} (e : h.get? a = some x) (hn : a ∉ as) (hk : kt.get a = Option.none) : Starts kt h (as ++ [a]) (xs ++ [x]) where
 len := by simp [S.len]
 at_ := fun j b y e1 e2 => by
  have l := S.len
  by_cases hj : j < as.length
  ·rw [List.getElem?_append_left hj] at e1
   rw [List.getElem?_append_left (l ▸ hj)] at e2
   exact S.at_ j b y e1 e2
  ·rw [List.getElem?_append_right (by omega)] at e1
   rw [List.getElem?_append_right (by omega), ← l] at e2
   cases hd : j - as.length with
   | zero => rw [hd] at e1 e2; cases e1; cases e2; exact e
   | succ n => rw [hd] at e1; cases e1
 nodup := by
  rw [List.nodup_append]
  refine ⟨S.nodup, by simp, fun b hb c hc q => ?_⟩
  rw [List.mem_singleton] at hc
  exact hn (hc ▸ q ▸ hb)
 base := S.base
 off := fun b hb => by
  rcases List.mem_append.mp hb with hb | hb
  ·exact S.off b hb
  ·rw [List.mem_singleton] at hb
   exact hb ▸ hk
theorem Starts.left {kt : KT} {h : Heap} {as as2 : List Addr} {xs xs2 : List Obj} (S : Starts kt h (as ++ as2) (xs ++ xs2)) (hl : as.length = xs.length) : Starts kt h as xs where
 len := hl
 at_ := fun j a x e1 e2 => by
  have hj : j < as.length := (List.getElem?_eq_some_iff.mp e1).1
  exact S.at_ j a x (by rw [List.getElem?_append_left hj]; exact e1) (by rw [List.getElem?_append_left (hl ▸ hj)]; exact e2)
 nodup := (List.nodup_append.mp S.nodup).1
 base := S.base
 off := fun a ha => S.off a (List.mem_append_left _ ha)
theorem KeepB.less {e : Bool} {h h' : Heap} {as : List Addr} {a : Addr} {x : Obj} (K : KeepB e h h' (as ++ [a])) (e0 : h.get? a = some x) (e1 : h'.get? a = some x) : KeepB e h h' as :=
 ⟨fun b y q n f => by
  by_cases eb : b = a
  ·subst eb; rw [e0] at q; cases q; exact e1
  ·exact K.keep b y q (fun hm => by
    rcases List.mem_append.mp hm with hm | hm
    ·exact n hm
    ·exact eb (List.mem_singleton.mp hm)) f, fun b y q n f => by
  by_cases eb : b = a
  ·subst eb; rw [e0] at q; cases q; exact ⟨x.slots, e1⟩
  ·exact K.fr b y q (fun hm => by
    rcases List.mem_append.mp hm with hm | hm
    ·exact n hm
    ·exact eb (List.mem_singleton.mp hm)) f, K.size⟩
noncomputable def strV (x : Str × Tok) : Value := .str x.1 x.2
noncomputable def loc2 : Option ((Int × Tok × Value) × (Int × Tok × Value)) → Obj
 | none => locO []
 | some ((h1, k1, v1), (h2, k2, v2)) => locO [⟨h1, .str (o "kind") k1, v1⟩, ⟨h2, .str (o "word") k2, v2⟩]
noncomputable abbrev anAs (it acc dd cL qA : Addr) (L : Lx) : List Addr := [it, acc, dd, cL, qA] ++ L.as
noncomputable def anXs (P : Params) (L : Lx) (B : Str) (p : Nat) (st : Value) (tt t3 : Tok) (qA : Addr) (qs : List Qd) (i : Nat) (accs : List (Str × Tok)) (loc : Option ((Int × Tok × Value) × (Int × Tok × Value))) : List Obj :=
 [litO qA i, lstO (accs.map strV) accs.length, loc2 loc, cellV (.ref L.a), lstO (qs.map Qd.v) qs.length] ++ L.objs P B p st tt t3
noncomputable def ks_an (P : Params) (L : Lx) (B : Str) (p : Nat) (ws : List Nat) (ts tt t3 : Tok) (kt : Nat → Tok) (qs : List Qd) (i : Nat) (q : Qd) (accs : List (Str × Tok)) : List HQ :=
 [(kLNext [0, 4] (qs.map Qd.v) qs.length i (.ref q.a)).q,
 (kAns P L.K L.S B p (stOf ws ts) tt t3 (pOf B (left4 q.kd (txt q.k) ws)) (stOf (left4 q.kd (txt q.k) ws)) [5, 6, 7, 8, 9, 10] [] q.kd (fun _ => q.tk) (txt q.k) (kt q.k) (ansTxt q.kd (txt q.k) ws)).q,
 (kApp [1] [5] (accs.map strV) accs.length (fun _ t => .str (ansTxt q.kd (txt q.k) ws) (t 0))).q]
theorem ks_an_wf {P L B p ws ts tt t3 kt qs i q accs} : ∀ k ∈ ks_an P L B p ws ts tt t3 kt qs i q accs, ∀ q', HKwf (k.k q') := by
 intro k hk q'
 simp only [ks_an, memC, memN, or_false] at hk
 rcases hk with rfl | rfl | rfl
 ·exact kLNext_wf (by decide) rfl
 ·exact mk_wf (by decide) (fun _ _ => rfl) (fun _ _ _ _ _ _ => rfl) fun _ _ _ _ _ _ => rfl
 ·exact kApp_wf (by decide) rfl
theorem ks_an_ok {w : World} {r : Bool} {A : Around} {D U : Nat} {gp : GP} (hup : gp.up = false) {L : Lx} {B : Str} (hl : B.length < 1000000) (h2 : gp.n < L.S.t2) (hD : A.depth + D + 560 ≤ recursionLimit) {kt : Nat → Tok} {qs : List Qd} {i : Nat} {q : Qd} (hq : qs[i]? = some q) (hy1 : kt q.k ≠ 0) (hy2 : kt q.k ≤ gp.n)
  {ws : List Nat} (hws : ∀ k ∈ ws, k < 6) (hwl : ws.length < 1000000) (hk : q.kd = 0 ∨ q.kd = 1 ∨ q.kd = 4) {p : Nat} {ts tt t3 : Tok} (hs : gp.n < ts) (ht : gp.n < tt) (h3 : gp.n < t3) (hR : Rest B p ws) {accs : List (Str × Tok)} (ha : accs.length < 1000000) :
  ∀ k ∈ ks_an w.params L B p ws ts tt t3 kt qs i q accs, ∀ q', HKok D U (kt0 w.params) (wf w r) A gp (k.k q') := by
 intro k hk' q'
 simp only [ks_an, memC, memN, or_false] at hk'
 rcases hk' with rfl | rfl | rfl
 ·exact kLNext_ok hup rfl (by rw [List.getElem?_map, hq]; rfl)
 ·exact (kAns_ok (w := w) (r := r) (A := A) (D := D) (U := U) (K := L.K) (S := L.S) (ut := []) (tk := fun _ => q.tk) hup hl h2 hD hy1 hy2 hws hwl hk hs ht h3 hR).ua (l := [5, 6, 7, 8, 9, 10]) rfl
 ·exact kApp_ok hup rfl (by rw [List.length_map]; exact ha)
noncomputable def anYs (P : Params) (L : Lx) (B : Str) (p : Nat) (st : Value) (tt t3 : Tok) (qA : Addr) (qs : List Qd) (i : Nat) (accs : List (Str × Tok)) (x : Str) (u : Tok) (loc : Option ((Int × Tok × Value) × (Int × Tok × Value))) : List Obj :=
 [litO qA i, lstO (accs.map strV ++ [.str x u]) (accs.length + 1), loc2 loc, cellV (.ref L.a), lstO (qs.map Qd.v) qs.length] ++ L.objs P B p st tt t3
theorem anYs_eq {P L B p st tt t3 qA qs i accs x u loc} : anYs P L B p st tt t3 qA qs i accs x u loc = anXs P L B p st tt t3 qA qs i (accs ++ [(x, u)]) loc := by
 unfold anYs anXs
 have e1 : (accs ++ [(x, u)]).map strV = accs.map strV ++ [.str x u] := by simp [strV]
 have e2 : (accs ++ [(x, u)]).length = accs.length + 1 := by simp
 rw [e1, e2]
theorem qO_fr {kt q} : isFr (qO kt q) = false := by
 kernel_rfl
theorem ans_turn {N : Nat} {w : World} {r : Bool} {A : Around} (hr : A.depth + 630 ≤ recursionLimit) (hh : A.handled = none) {g : Array GenState} {d : Drawn} {os : OsState} {it acc dd cL cK qA f : Addr} {L : Lx} {B : Str} (hl : B.length < 1000000) (h2 : N < L.S.t2) {kt : Nat → Tok} {qs : List Qd}
  {i : Nat} {q : Qd} (hq : qs[i]? = some q) (hy1 : kt q.k ≠ 0) (hy2 : kt q.k ≤ N) (hk : q.kd = 0 ∨ q.kd = 1 ∨ q.kd = 4) {ws : List Nat} (hws : ∀ k ∈ ws, k < 6) (hwl : ws.length < 1000000) {p : Nat} {ts tt t3 : Tok} (hs : N < ts) (ht : N < tt) (h3 : N < t3) (hR : Rest B p ws)
  {accs : List (Str × Tok)} (ha : accs.length < 1000000) {loc : Option ((Int × Tok × Value) × (Int × Tok × Value))} {h : Heap} {tok : Nat} (F : FrOk A h) (h1 : N < tok)
  (S : Starts (kt0 w.params) h (anAs it acc dd cL qA L) (anXs w.params L B p (stOf ws ts) tt t3 qA qs i accs loc)) (hqo : h.get? q.a = some (qO kt q)) (hqn : q.a ∉ anAs it acc dd cL qA L) (hqk : (kt0 w.params).get q.a = none) {R : Result → Shared → Prop}
  (go : ∀ h' t' ts' tt' t3' u loc', N < t' → N < ts' → N < tt' → N < t3' → N < u → FrOk A h' → Starts (kt0 w.params) h' (anAs it acc dd cL qA L) (anXs w.params L B (pOf B (left4 q.kd (txt q.k) ws)) (stOf (left4 q.kd (txt q.k) ws) ts') tt' t3' qA qs (i + 1) (accs ++ [(ansTxt q.kd (txt q.k) ws, u)]) (some loc')) →
   KeepB true h h' (anAs it acc dd cL qA L) → codeAny (model pw (wf w r)) A (cmpC (answE w.params) it acc (lEnv w.params (answE w.params) f cL cK dd)) R ⟨h', g, d, t', os⟩) :
  codeAny (model pw (wf w r)) A (cmpC (answE w.params) it acc (lEnv w.params (answE w.params) f cL cK dd)) R ⟨h, g, d, tok, os⟩ := by
 have S' := S.add1 hqo hqn hqk
 have fin : ∀ (Y : Dyn) h' t' loc', N < t' → (∀ x, x < 6 → N < Y.tk x) → Went (wf w r).params true h h' (anAs it acc dd cL qA L ++ [q.a]) ([].map Y.adr) (anYs w.params L B (pOf B (left4 q.kd (txt q.k) ws)) (stOf (left4 q.kd (txt q.k) ws) (Y.tk 2)) (Y.tk 3) (Y.tk 4) qA qs (i + 1) accs (ansTxt q.kd (txt q.k) ws) (Y.tk 5) (some loc') ++ [qO kt q]) [] →
   (((anXs w.params L B p (stOf ws ts) tt t3 qA qs i accs loc ++ [qO kt q]).zip (anYs w.params L B (pOf B (left4 q.kd (txt q.k) ws)) (stOf (left4 q.kd (txt q.k) ws) (Y.tk 2)) (Y.tk 3) (Y.tk 4) qA qs (i + 1) accs (ansTxt q.kd (txt q.k) ws) (Y.tk 5) (some loc') ++ [qO kt q])).all (fun q => !isFr q.1 || isFr q.2) = true) →
   codeAny (model pw (wf w r)) A (cmpC (answE w.params) it acc (lEnv w.params (answE w.params) f cL cK dd)) R ⟨h', g, d, t', os⟩ := by
  intro Y h' t' loc' ht' hy Wn hz
  have SS : Starts (kt0 w.params) h' (anAs it acc dd cL qA L ++ [q.a]) _ := Wn.fst
  have F' : FrOk A h' := F.went (P := (wf w r).params) S' Wn hz
  have Sl := SS.left rfl
  rw [anYs_eq] at Sl
  refine go h' t' (Y.tk 2) (Y.tk 3) (Y.tk 4) (Y.tk 5) loc' ht' (hy 2 (by decide)) (hy 3 (by decide)) (hy 4 (by decide)) (hy 5 (by decide)) F' Sl (Wn.K.less hqo ?_)
  exact starts_get SS 11 rfl rfl
 cases loc with
 | none =>
  refine code_w (w := wf w r) (D := 70) (U := 0) (nt := true) (N := N) (ks := ks_an w.params L B p ws ts tt t3 kt qs i q accs) (cur := []) (as := anAs it acc dd cL qA L ++ [q.a]) (xs := anXs w.params L B p (stOf ws ts) tt t3 qA qs i accs none ++ [qO kt q]) (n := 2000) (ce := decs [Nia, Nib, Nic, 2050052]) (e := 0) (s := 1) (i := 6) (bi := []) (res := fun Y => .cut (cmpC (answE w.params) it acc (lEnv w.params (answE w.params) f cL cK dd)))
   (ys := fun Y => anYs w.params L B (pOf B (left4 q.kd (txt q.k) ws)) (stOf (left4 q.kd (txt q.k) ws) (Y.tk 2)) (Y.tk 3) (Y.tk 4) qA qs (i + 1) accs (ansTxt q.kd (txt q.k) ws) (Y.tk 5) (some ((hashZ w.params (o "kind"), Y.tk 0, .int q.kd q.tk), (hashZ w.params (o "word"), Y.tk 1, kindV kt q.k))) ++ [qO kt q]) (zs := fun _ => [])
   nilA (by omega) (fun _ => F) ks_an_wf (ks_an_ok (w := w) (r := r) (A := A) (gp := sameG N g d os) rfl hl h2 hr hq hy1 hy2 hws hwl hk hs ht h3 hR ha) S' rfl h1 (.inr rfl) (fun _ => rfl) (fun _ => rfl) nilA .nil ?_ ?_
  ·intro bf Y
   rw [hh]
   cases r <;> kernel_rfl
  ·intro Y h' t' ht' hy Wn
   exact fin Y h' t' _ ht' hy Wn (by kernel_rfl)
 | some z =>
  obtain ⟨⟨ha1, ka1, va1⟩, ⟨ha2, ka2, va2⟩⟩ := z
  refine code_w (w := wf w r) (D := 70) (U := 0) (nt := true) (N := N) (ks := ks_an w.params L B p ws ts tt t3 kt qs i q accs) (cur := []) (as := anAs it acc dd cL qA L ++ [q.a]) (xs := anXs w.params L B p (stOf ws ts) tt t3 qA qs i accs (some ((ha1, ka1, va1), (ha2, ka2, va2))) ++ [qO kt q]) (n := 2000) (ce := decs [Nia, Nib, Nic, 2050052]) (e := 0) (s := 1) (i := 6) (bi := []) (res := fun Y => .cut (cmpC (answE w.params) it acc (lEnv w.params (answE w.params) f cL cK dd)))
   (ys := fun Y => anYs w.params L B (pOf B (left4 q.kd (txt q.k) ws)) (stOf (left4 q.kd (txt q.k) ws) (Y.tk 2)) (Y.tk 3) (Y.tk 4) qA qs (i + 1) accs (ansTxt q.kd (txt q.k) ws) (Y.tk 5) (some ((ha1, ka1, .int q.kd q.tk), (ha2, ka2, kindV kt q.k))) ++ [qO kt q]) (zs := fun _ => [])
   nilA (by omega) (fun _ => F) ks_an_wf (ks_an_ok (w := w) (r := r) (A := A) (gp := sameG N g d os) rfl hl h2 hr hq hy1 hy2 hws hwl hk hs ht h3 hR ha) S' rfl h1 (.inr rfl) (fun _ => rfl) (fun _ => rfl) nilA .nil ?_ ?_
  ·intro bf Y
   rw [hh]
   cases r <;> kernel_rfl
  ·intro Y h' t' ht' hy Wn
   exact fin Y h' t' _ ht' hy Wn (by kernel_rfl)
noncomputable def anEnd (P : Params) (L : Lx) (B : Str) (p : Nat) (st : Value) (tt t3 : Tok) (qs : List Qd) (accs : List (Str × Tok)) (loc : (Int × Tok × Value) × (Int × Tok × Value)) : List Obj :=
 [litE qs.length, lstO (accs.map strV) accs.length, loc2 (some loc), cellV (.ref L.a), lstO (qs.map Qd.v) qs.length] ++ L.objs P B p st tt t3
theorem KeepB.transT {h h' h'' : Heap} {l : List Addr} (K : KeepB true h h' l) (K' : KeepB true h' h'' l) : KeepB true h h'' l :=
 ⟨fun a x q n f => K'.keep a x (K.keep a x q n f) n f, fun a x q n f => by
  obtain ⟨sl, z⟩ := K.fr a x q n f
  exact K'.fr a { x with slots := sl } z n f, Nat.le_trans K.size K'.size⟩
theorem ans_loop {N : Nat} {w : World} {r : Bool} {A : Around} (hr : A.depth + 630 ≤ recursionLimit) (hh : A.handled = none) {g : Array GenState} {d : Drawn} {os : OsState} {it acc dd cL cK qA f : Addr} {L : Lx} {B : Str} (hl : B.length < 1000000) (h2 : N < L.S.t2) {kt : Nat → Tok} {qs : List Qd}
  (hqs : ∀ q ∈ qs, (kt q.k ≠ 0 ∧ kt q.k ≤ N) ∧ (q.kd = 0 ∨ q.kd = 1 ∨ q.kd = 4) ∧ q.a ∉ anAs it acc dd cL qA L ∧ (kt0 w.params).get q.a = none) {R : Result → Shared → Prop} :
  ∀ (rest : List Qd) (i : Nat) (hi : qs.drop i = rest) (hn : i + rest.length = qs.length) {ws : List Nat} (hws : ∀ k ∈ ws, k < 6) (hwl : ws.length < 1000000) {p : Nat} {ts tt t3 : Tok} (hs : N < ts) (ht : N < tt) (h3 : N < t3) (hR : Rest B p ws)
   {accs : List (Str × Tok)} (ha : accs.length + rest.length < 1000000) (hu : ∀ x ∈ accs, N < x.2) {loc : Option ((Int × Tok × Value) × (Int × Tok × Value))} (hloc : loc = none → rest ≠ []) {h : Heap} {tok : Nat} (F : FrOk A h) (h1 : N < tok)
   (S : Starts (kt0 w.params) h (anAs it acc dd cL qA L) (anXs w.params L B p (stOf ws ts) tt t3 qA qs i accs loc)) (Q : ∀ q ∈ qs, h.get? q.a = some (qO kt q))
   (fin : ∀ h' t' ts' tt' t3' accs' loc', N < t' → N < ts' → N < tt' → N < t3' → accs'.map Prod.fst = accs.map Prod.fst ++ ansF (rest.map qd) ws → (∀ x ∈ accs', N < x.2) → FrOk A h' →
    Starts (kt0 w.params) h' (anAs it acc dd cL qA L) (anEnd w.params L B (pOf B (leftF (rest.map qd) ws)) (stOf (leftF (rest.map qd) ws) ts') tt' t3' qs accs' loc') → (∀ q ∈ qs, h'.get? q.a = some (qO kt q)) → KeepB true h h' (anAs it acc dd cL qA L) → R (.ok .next) ⟨h', g, d, t', os⟩),
   codeAny (model pw (wf w r)) A (cmpC (answE w.params) it acc (lEnv w.params (answE w.params) f cL cK dd)) R ⟨h, g, d, tok, os⟩
 | [], i, hi, hn, ws, hws, hwl, p, ts, tt, t3, hs, ht, h3, hR, accs, ha, hu, none, hloc, h, tok, F, h1, S, Q, fin => absurd rfl (hloc rfl)
 | [], i, hi, hn, ws, hws, hwl, p, ts, tt, t3, hs, ht, h3, hR, accs, ha, hu, some ((ha1, ka1, va1), (ha2, ka2, va2)), hloc, h, tok, F, h1, S, Q, fin => by
  obtain rfl : i = qs.length := hn
  obtain rfl : p = pOf B ws := hR.pos
  refine code_w (w := wf w r) (D := 70) (U := 0) (nt := false) (N := N) (ks := [(kLEnd [0, 4] (qs.map Qd.v) qs.length qs.length).q]) (cur := []) (as := anAs it acc dd cL qA L) (xs := anXs w.params L B (pOf B ws) (stOf ws ts) tt t3 qA qs qs.length accs (some ((ha1, ka1, va1), (ha2, ka2, va2)))) (n := 1000) (ce := decs [50335745]) (e := 0) (s := 0) (i := 0) (bi := []) (res := fun Y => .res (.ok .next))
   (ys := fun Y => anEnd w.params L B (pOf B ws) (stOf ws ts) tt t3 qs accs ((ha1, ka1, va1), (ha2, ka2, va2))) (zs := fun _ => []) nilA (dle ‹_›) (fun q => by cases q) (fun k hk q' => ?_) (fun k hk q' => ?_) S rfl h1 (.inl rfl) (fun _ => rfl) (fun _ => rfl) nilA .nil ?_ ?_
  ·rw [List.mem_singleton] at hk
   subst hk
   exact kLEnd_wf (by decide) rfl
  ·rw [List.mem_singleton] at hk
   subst hk
   exact kLEnd_ok (gp := sameG N g d os) rfl rfl (by rw [List.getElem?_map, List.getElem?_eq_none (Nat.le_refl _)]; rfl)
  ·intro bf Y
   rw [hh]
   cases r <;> kernel_rfl
  ·intro Y h' t' ht' hy Wn
   exact fin h' t' ts tt t3 accs _ ht' hs ht h3 (by simp [ansF]) hu (F.went (P := (wf w r).params) S Wn (by kernel_rfl)) Wn.fst (fun q hq => Wn.K.keep _ _ (Q q hq) (hqs q hq).2.2.1 (fun h => by cases h)) Wn.K.up
 | q :: rest, i, hi, hn, ws, hws, hwl, p, ts, tt, t3, hs, ht, h3, hR, accs, ha, hu, loc, hloc, h, tok, F, h1, S, Q, fin => by
  have hq : qs[i]? = some q := by
   have z := congrArg (fun l => l[0]?) hi
   simpa using z
  have hm : q ∈ qs := List.mem_of_getElem? hq
  obtain ⟨⟨y1, y2⟩, hkd, hqn, hqk⟩ := hqs q hm
  have hd : qs.drop (i + 1) = rest := by
   have z := congrArg List.tail hi
   rw [List.tail_drop] at z
   exact z
  simp only [List.length_cons] at hn ha
  refine ans_turn hr hh hl h2 hq y1 y2 hkd hws hwl hs ht h3 hR (by omega) F h1 S (Q q hm) hqn hqk fun h' t' ts' tt' t3' u loc' ht' hs' htt' h3' hu' F' S' K' => ?_
  have Q' : ∀ q ∈ qs, h'.get? q.a = some (qO kt q) := fun q' hq' => K'.keep _ _ (Q q' hq') (hqs q' hq').2.2.1 (fun _ => qO_fr)
  refine ans_loop hr hh hl h2 hqs rest (i + 1) hd (by omega) (fun k hk => hws k (left4_mem k hk)) (Nat.lt_of_le_of_lt left4_len hwl) hs' htt' h3' hR.left4 (accs := accs ++ [(ansTxt q.kd (txt q.k) ws, u)]) (by simp only [List.length_append, List.length_cons, List.length_nil]; omega) (fun x hx => ?_) (fun e => by cases e) F' ht' S' Q' fun h'' t'' ts'' tt'' t3'' accs'' loc'' a1 a2 a3 a4 a5 a6 a7 a8 a9 a10 => fin h'' t'' ts'' tt'' t3'' accs'' loc'' a1 a2 a3 a4 ?_ a6 a7 a8 a9 (K'.transT a10)
  ·rcases List.mem_append.mp hx with hx | hx
   ·exact hu x hx
   ·rw [List.mem_singleton] at hx
    subst hx
    exact hu'
  ·rw [a5]
   simp [ansF, qd]
theorem answE_is (P : Params) : IsLC (answE P) := isLC_of (by kernel_rfl)
theorem FrOk.back {A : Around} {P : Params} {f cL cK : Addr} {h h' : Heap} (F : FrOk A h) (F' : FrOk (lawA A P f cL cK) h') : FrOk A h' := by
 obtain ⟨es, e1, _⟩ := F
 obtain ⟨es', e3, e4⟩ := F'
 have e5 : (lawA A P f cL cK).frames = some (lawEnv P f cL cK :: es) := by
  show pushEnvs (lawC P f cL cK).envs A.frames = _
  rw [e1, pushEnvs_eq]
  rfl
 rw [e5] at e3
 cases e3
 exact ⟨es, e1, fun env he => e4 env (.tail _ he)⟩
noncomputable def lawL (sA nA wA qA : Addr) : List (String × Value) := [("script", .ref sA), ("numbers", .ref nA), ("words", .ref wA), ("questions", .ref qA)]
noncomputable def s5Xs (P : Params) (L : Lx) (B : Str) (p : Nat) (st : Value) (tt t3 : Tok) (qs : List Qd) (fr : Obj) : List Obj := [fr, cellV (.ref L.a), lstO (qs.map Qd.v) qs.length] ++ L.objs P B p st tt t3
theorem law_s5 {N : Nat} {w : World} {r : Bool} {A : Around} (hr : A.depth + 637 ≤ recursionLimit) (hh0 : A.handled = none) {g : Array GenState} {d : Drawn} {os : OsState} {f cK cL sA nA wA qA : Addr} {L : Lx} {B : Str} (hl : B.length < 1000000) (h2 : N < L.S.t2) {kt : Nat → Tok} {qs : List Qd} (hne : qs ≠ []) (hql : qs.length < 1000000)
  {ws : List Nat} (hws : ∀ k ∈ ws, k < 6) (hwl : ws.length < 1000000) {p : Nat} {ts tt t3 : Tok} (hs : N < ts) (ht : N < tt) (h3 : N < t3) (hR : Rest B p ws) {hh : Nat → Int} {k : Nat → Tok} {sl : Array (Option Value)}
  {h : Heap} (hqs : ∀ q ∈ qs, (kt q.k ≠ 0 ∧ kt q.k ≤ N) ∧ (q.kd = 0 ∨ q.kd = 1 ∨ q.kd = 4) ∧ q.a ∉ [f, cL, qA] ++ L.as ∧ (kt0 w.params).get q.a = none ∧ h.get? q.a = some (qO kt q)) (F : FrOk A h) {tok : Nat} (h1 : N < tok)
  (S : Starts (kt0 w.params) h ([f, cL, qA] ++ L.as) (s5Xs w.params L B p (stOf ws ts) tt t3 qs (frO hh k (lawL sA nA wA qA) sl))) {R : Result → Shared → Prop}
  (fin : ∀ h' t' ts' tt' t3' (accs : List (Str × Tok)) hh' k' sl' aA, N < t' → N < ts' → N < tt' → N < t3' → accs.map Prod.fst = ansF (qs.map qd) ws → (∀ x ∈ accs, N < x.2) → FrOk A h' →
   Starts (kt0 w.params) h' ([f, cL, qA] ++ L.as ++ [aA]) (s5Xs w.params L B (pOf B (leftF (qs.map qd) ws)) (stOf (leftF (qs.map qd) ws) ts') tt' t3' qs (frO hh' k' (lawL sA nA wA qA ++ [("answers", .ref aA)]) sl') ++ [lstO (accs.map strV) accs.length]) →
   KeepB true h h' ([f, cL, qA] ++ L.as) → h.objs.size ≤ aA → R (.ok .next) ⟨h', g, d, t', os⟩) :
  MeansP (wf w r) A (lawC w.params f cL cK) false [] (stmP w.params 4 (lawEnv w.params f cL cK)) R ⟨h, g, d, tok, os⟩ := by
 have lawD : (lawA A w.params f cL cK).depth + 630 ≤ recursionLimit := by have := lawA_depth (A := A) (P := w.params) (f := f) (cL := cL) (cK := cK); omega
 refine call_w (w := wf w r) (D := 70) (U := 0) (nt := false) (N := N) (ks := []) (cur := []) (as := [f, cL, qA] ++ L.as) (xs := s5Xs w.params L B p (stOf ws ts) tt t3 qs (frO hh k (lawL sA nA wA qA) sl)) (n := 2000) (ce := decs [151569812503999857731573761]) (s := 0) (i := 0) (bi := [9, 10, 11])
  (c' := fun Y => cmpS (answE w.params) (Y.adr 9) (Y.adr 10) (lEnv w.params (answE w.params) f cL cK (Y.adr 11)))
  (ys := fun Y => s5Xs w.params L B p (stOf ws ts) tt t3 qs (frO hh k (lawL sA nA wA qA) sl)) (zs := fun Y => [litO qA 0, lstO [] 0, locO []])
  nilA (dle ‹_›) (fun q => by cases q) nilA nilA S rfl h1 (.inl rfl) (fun _ => rfl) (fun _ => rfl) ?_ (by decide) ?_ ?_
 ·intro x hx
  simp only [memC, memN, or_false] at hx
  rcases hx with rfl | rfl | rfl
  ·show 9 ≤ 9; decide
  ·show 9 ≤ 10; decide
  ·show 9 ≤ 11; decide
 ·intro bf Y
  cases r <;> kernel_rfl
 ·intro Y h1' t1' ht1 _ W1
  have S1 : Starts (kt0 w.params) h1' _ _ := W1.S
  have F1 : FrOk A h1' := F.went (P := (wf w r).params) S W1 (by kernel_rfl)
  have ef1 : h1'.get? f = some (frO hh k (lawL sA nA wA qA) sl) := starts_get S1 0 rfl rfl
  refine start_list (answE_is _) (l := qA) (i := 0) (starts_get S1 9 rfl rfl) ?_
  generalize eY : Y.pre ([f, cL, qA] ++ L.as) = Y' at *
  have new3 : ∀ b ∈ [9, 10, 11].map Y'.adr, h.objs.size ≤ b := W1.new
  have nd := S1.nodup
  have qn : ∀ q ∈ qs, q.a ∉ [9, 10, 11].map Y'.adr := fun q hq hm => absurd (Heap.lt_size (hqs q hq).2.2.2.2) (Nat.not_lt.mpr (new3 _ hm))
  have inA : ∀ {b}, b ∈ anAs (Y'.adr 9) (Y'.adr 10) (Y'.adr 11) cL qA L → b ∈ [cL, qA] ++ L.as ∨ b ∈ [9, 10, 11].map Y'.adr := fun {b} hb => by
   simp only [anAs, List.cons_append, List.nil_append, List.mem_cons, List.map_cons, List.map_nil, List.mem_nil_iff, or_false] at hb ⊢
   rcases hb with h | h | h | h | h | h
   ·exact .inr (.inl h)
   ·exact .inr (.inr (.inl h))
   ·exact .inr (.inr (.inr h))
   ·exact .inl (.inl h)
   ·exact .inl (.inr (.inl h))
   ·exact .inl (.inr (.inr h))
  have inB : ∀ {b}, b ∈ [cL, qA] ++ L.as → b ∈ [f, cL, qA] ++ L.as := fun hb => .tail _ hb
  have nf : f ∉ anAs (Y'.adr 9) (Y'.adr 10) (Y'.adr 11) cL qA L := fun hm => by
   rcases inA hm with hm | hm
   ·exact (List.nodup_cons.mp S.nodup).1 hm
   ·exact absurd (Heap.lt_size (starts_get S 0 rfl rfl)) (Nat.not_lt.mpr (new3 _ hm))
  refine ans_loop (N := N) (w := w) (r := r) (f := f) (cL := cL) (cK := cK) (kt := kt) lawD (lawA_handled hh0) hl h2 (qs := qs) (fun q hq => ⟨(hqs q hq).1, (hqs q hq).2.1, fun hm => ?_, (hqs q hq).2.2.2.1⟩) qs 0 rfl (by simp) hws hwl hs ht h3 hR (accs := []) (by simpa using hql) nilA (loc := none) (fun _ => hne) (lawA_fr F1 ef1 frO_fr) ht1 (S1.pick [9, 10, 11, 1, 2, 3, 4, 5, 6, 7, 8] (by decide) rfl rfl) (fun q hq => W1.K.keep _ _ (hqs q hq).2.2.2.2 (hqs q hq).2.2.1 (fun h => by cases h)) ?_
  ·rcases inA hm with hm | hm
   ·exact (hqs q hq).2.2.1 (inB hm)
   ·exact qn q hq hm
  intro h2' t2 ts' tt' t3' accs loc' ht2 hs' htt' h3' hacc hu F2 SL Q2 K2
  obtain ⟨⟨ha1, ka1, va1⟩, ⟨ha2, ka2, va2⟩⟩ := loc'
  have F2 := F1.back F2
  obtain ⟨sl', ef2⟩ := K2.fr f _ ef1 nf frO_fr
  have ef2 : h2'.get? f = some (frO hh k (lawL sA nA wA qA) sl') := ef2
  have S2 : Starts (kt0 w.params) h2' ([f, cL, qA] ++ L.as ++ [9, 10, 11].map Y'.adr) (s5Xs w.params L B (pOf B (leftF (qs.map qd) ws)) (stOf (leftF (qs.map qd) ws) ts') tt' t3' qs (frO hh k (lawL sA nA wA qA) sl') ++ [litE qs.length, lstO (accs.map strV) accs.length, loc2 (some ((ha1, ka1, va1), (ha2, ka2, va2)))]) :=
   S1.re rfl SL.base fun j a x e1 e2 => by
    rcases j with _ | _ | _ | _ | _ | _ | _ | _ | _ | _ | _ | _ | j
    ·cases e1; cases e2; exact ef2
    ·cases e1; cases e2; exact starts_get SL 3 rfl rfl
    ·cases e1; cases e2; exact starts_get SL 4 rfl rfl
    ·cases e1; cases e2; exact starts_get SL 5 rfl rfl
    ·cases e1; cases e2; exact starts_get SL 6 rfl rfl
    ·cases e1; cases e2; exact starts_get SL 7 rfl rfl
    ·cases e1; cases e2; exact starts_get SL 8 rfl rfl
    ·cases e1; cases e2; exact starts_get SL 9 rfl rfl
    ·cases e1; cases e2; exact starts_get SL 10 rfl rfl
    ·cases e1; cases e2; exact starts_get SL 0 rfl rfl
    ·cases e1; cases e2; exact starts_get SL 1 rfl rfl
    ·cases e1; cases e2; exact starts_get SL 2 rfl rfl
    ·cases e2
  refine piece_w (w := wf w r) (D := 70) (U := 0) (nt := false) (N := N) (ks := []) (cur := []) (as := [f, cL, qA] ++ L.as ++ [9, 10, 11].map Y'.adr) (xs := s5Xs w.params L B (pOf B (leftF (qs.map qd) ws)) (stOf (leftF (qs.map qd) ws) ts') tt' t3' qs (frO hh k (lawL sA nA wA qA) sl') ++ [litE qs.length, lstO (accs.map strV) accs.length, loc2 (some ((ha1, ka1, va1), (ha2, ka2, va2)))]) (n := 2000) (ce := decs [1814274605694255410186241]) (s := 0) (i := 1) (bi := []) (res := fun Y => .ok .next)
   (ys := fun Y2 => s5Xs w.params L B (pOf B (leftF (qs.map qd) ws)) (stOf (leftF (qs.map qd) ws) ts') tt' t3' qs (frO (put hh 4 (hashZ w.params (o "answers"))) (put k 4 (Y2.tk 0)) (lawL sA nA wA qA ++ [("answers", .ref (Y'.adr 10))]) sl') ++ [litE qs.length, lstO (accs.map strV) accs.length, locX 4]) (zs := fun Y => [])
   nilA (dle ‹_›) (fun q => by cases q) nilA nilA S2 rfl ht2 (.inl rfl) (fun _ => rfl) (fun _ => rfl) nilA .nil ?_ ?_
  ·subst eY
   intro bf2 Y2
   cases r <;> kernel_rfl
  ·intro Y2 h3x t3x ht3 _ W3
   have S3 : Starts (kt0 w.params) h3x _ _ := W3.fst
   have F3 : FrOk A h3x := F2.went (P := (wf w r).params) S2 W3 (by kernel_rfl)
   refine fin h3x t3x ts' tt' t3' accs _ _ _ (Y'.adr 10) ht3 hs' htt' h3' (by simpa using hacc) hu F3 (S3.pick [0, 1, 2, 3, 4, 5, 6, 7, 8, 10] (by decide) rfl rfl) ?_ (new3 _ (.tail _ (.head _)))
   refine (W1.K.up.comp K2 fun b hb => ?_).comp W3.K.up fun b hb => ?_
   ·exact (inA hb).imp inB (new3 b)
   ·rcases List.mem_append.mp hb with hb | hb
    ·exact .inl hb
    ·exact .inr (new3 b hb)
noncomputable abbrev lfAs (acc dd : Addr) (L : Lx) : List Addr := [acc, dd] ++ L.as
noncomputable def lfXs (P : Params) (L : Lx) (B : Str) (p : Nat) (st : Value) (tt t3 : Tok) (accs : List (Str × Tok)) (loc : Option (Int × Tok × Value)) : List Obj :=
 [lstO (accs.map strV) accs.length, oneLoc "word" loc] ++ L.objs P B p st tt t3
noncomputable def lfYs (P : Params) (L : Lx) (B : Str) (p : Nat) (st : Value) (tt t3 : Tok) (accs : List (Str × Tok)) (x : Str) (u : Tok) (loc : Option (Int × Tok × Value)) : List Obj :=
 [lstO (accs.map strV ++ [.str x u]) (accs.length + 1), oneLoc "word" loc] ++ L.objs P B p st tt t3
theorem lfYs_eq {P L B p st tt t3 accs x u loc} : lfYs P L B p st tt t3 accs x u loc = lfXs P L B p st tt t3 (accs ++ [(x, u)]) loc := by
 unfold lfYs lfXs
 have e1 : (accs ++ [(x, u)]).map strV = accs.map strV ++ [.str x u] := by simp [strV]
 have e2 : (accs ++ [(x, u)]).length = accs.length + 1 := by simp
 rw [e1, e2]
noncomputable abbrev lfC (P : Params) (L : Lx) (acc dd f cL cK : Addr) : Code := cmpC (leftE P) L.a acc (nEnv P (leftE P) f cL cK dd)
noncomputable def ks_lf (P : Params) (L : Lx) (B : Str) (p : Nat) (k : Nat) (ws : List Nat) (ts tt t3 : Tok) (accs : List (Str × Tok)) : List HQ :=
 [(kNext P L.K L.S B p ts tt t3 (txt k) (p + stepLen k ws) (stOf ws) [2, 3, 4, 5, 6, 7]).q, (kApp [0] [0] (accs.map strV) accs.length (fun _ t => .str (txt k) (t 0))).q]
theorem ks_lf_wf {P L B p k ws ts tt t3 accs} : ∀ k' ∈ ks_lf P L B p k ws ts tt t3 accs, ∀ q', HKwf (k'.k q') := by
 intro k' hk q'
 simp only [ks_lf, memC, memN, or_false] at hk
 rcases hk with rfl | rfl
 ·exact kNext_wf (by decide) rfl
 ·exact kApp_wf (by decide) rfl
theorem ks_lf_ok {w : World} {r : Bool} {A : Around} {D U : Nat} {gp : GP} (hup : gp.up = false) {L : Lx} {B : Str} (hl : B.length < 1000000) (h2 : gp.n < L.S.t2) (hD : A.depth + D + 140 ≤ recursionLimit) {k : Nat} {ws : List Nat} (hk : k < 6) {p : Nat} {ts tt t3 : Tok} (hs : gp.n < ts) (ht : gp.n < tt) (h3 : gp.n < t3) (hR : Rest B p (k :: ws)) {accs : List (Str × Tok)} (ha : accs.length < 1000000) :
  ∀ k' ∈ ks_lf w.params L B p k ws ts tt t3 accs, ∀ q', HKok D U (kt0 w.params) (wf w r) A gp (k'.k q') := by
 intro k' hk' q'
 simp only [ks_lf, memC, memN, or_false] at hk'
 rcases hk' with rfl | rfl
 ·exact kNext_ok hup rfl hD hk hl h2 hs ht h3 hR
 ·exact kApp_ok hup rfl (by rw [List.length_map]; exact ha)
theorem left_turn {N : Nat} {w : World} {r : Bool} {A : Around} (hr : A.depth + 210 ≤ recursionLimit) {g : Array GenState} {d : Drawn} {os : OsState} {acc dd cL cK f : Addr} {L : Lx} {B : Str} (hl : B.length < 1000000) (h2 : N < L.S.t2)
  {k : Nat} {ws : List Nat} (hk : k < 6) {p : Nat} {ts tt t3 : Tok} (hs : N < ts) (ht : N < tt) (h3 : N < t3) (hR : Rest B p (k :: ws)) {accs : List (Str × Tok)} (ha : accs.length < 1000000) {loc : Option (Int × Tok × Value)} {h : Heap} {tok : Nat} (F : FrOk A h) (h1 : N < tok)
  (S : Starts (kt0 w.params) h (lfAs acc dd L) (lfXs w.params L B p (.str (o " ") ts) tt t3 accs loc)) {R : Result → Shared → Prop}
  (go : ∀ h' t' ts' tt' t3' u loc', N < t' → N < ts' → N < tt' → N < t3' → N < u → FrOk A h' → Starts (kt0 w.params) h' (lfAs acc dd L) (lfXs w.params L B (p + stepLen k ws) (stOf ws ts') tt' t3' (accs ++ [(txt k, u)]) (some loc')) →
   KeepB false h h' (lfAs acc dd L) → codeAny (model pw (wf w r)) A (lfC w.params L acc dd f cL cK) R ⟨h', g, d, t', os⟩) :
  codeAny (model pw (wf w r)) A (lfC w.params L acc dd f cL cK) R ⟨h, g, d, tok, os⟩ := by
 have fin : ∀ (Y : Dyn) h' t' loc', N < t' → (∀ x, x < 5 → N < Y.tk x) → Went (wf w r).params false h h' (lfAs acc dd L) ([].map Y.adr) (lfYs w.params L B (p + stepLen k ws) (stOf ws (Y.tk 1)) (Y.tk 2) (Y.tk 3) accs (txt k) (Y.tk 0) (some loc')) [] →
   (((lfXs w.params L B p (.str (o " ") ts) tt t3 accs loc).zip (lfYs w.params L B (p + stepLen k ws) (stOf ws (Y.tk 1)) (Y.tk 2) (Y.tk 3) accs (txt k) (Y.tk 0) (some loc'))).all (fun q => !isFr q.1 || isFr q.2) = true) →
   codeAny (model pw (wf w r)) A (lfC w.params L acc dd f cL cK) R ⟨h', g, d, t', os⟩ := by
  intro Y h' t' loc' ht' hy Wn hz
  have SS : Starts (kt0 w.params) h' (lfAs acc dd L) _ := Wn.fst
  rw [lfYs_eq] at SS
  exact go h' t' (Y.tk 1) (Y.tk 2) (Y.tk 3) (Y.tk 0) loc' ht' (hy 1 (by decide)) (hy 2 (by decide)) (hy 3 (by decide)) (hy 0 (by decide)) (F.went (P := (wf w r).params) S Wn hz) SS Wn.K
 cases loc with
 | none =>
  refine code_w (w := wf w r) (D := 70) (U := 0) (nt := false) (N := N) (ks := ks_lf w.params L B p k ws ts tt t3 accs) (cur := []) (as := lfAs acc dd L) (xs := lfXs w.params L B p (.str (o " ") ts) tt t3 accs none) (n := 2000) (ce := decs [Nid]) (e := 0) (s := 0) (i := 5) (bi := []) (res := fun Y => .cut (lfC w.params L acc dd f cL cK))
   (ys := fun Y => lfYs w.params L B (p + stepLen k ws) (stOf ws (Y.tk 1)) (Y.tk 2) (Y.tk 3) accs (txt k) (Y.tk 0) (some (hashZ w.params (o "word"), Y.tk 4, .str (txt k) (Y.tk 0)))) (zs := fun _ => [])
   nilA (dle ‹_›) (fun q => by cases q) ks_lf_wf (ks_lf_ok (w := w) (r := r) (A := A) (gp := sameG N g d os) rfl hl h2 (by omega) hk hs ht h3 hR ha) S rfl h1 (.inl rfl) (fun _ => rfl) (fun _ => rfl) nilA .nil ?_ ?_
  ·intro bf Y
   cases r <;> kernel_rfl
  ·intro Y h' t' ht' hy Wn
   exact fin Y h' t' _ ht' hy Wn (by kernel_rfl)
 | some z =>
  obtain ⟨ha1, ka1, va1⟩ := z
  refine code_w (w := wf w r) (D := 70) (U := 0) (nt := false) (N := N) (ks := ks_lf w.params L B p k ws ts tt t3 accs) (cur := []) (as := lfAs acc dd L) (xs := lfXs w.params L B p (.str (o " ") ts) tt t3 accs (some (ha1, ka1, va1))) (n := 2000) (ce := decs [Nid]) (e := 0) (s := 0) (i := 5) (bi := []) (res := fun Y => .cut (lfC w.params L acc dd f cL cK))
   (ys := fun Y => lfYs w.params L B (p + stepLen k ws) (stOf ws (Y.tk 1)) (Y.tk 2) (Y.tk 3) accs (txt k) (Y.tk 0) (some (ha1, ka1, .str (txt k) (Y.tk 0)))) (zs := fun _ => [])
   nilA (dle ‹_›) (fun q => by cases q) ks_lf_wf (ks_lf_ok (w := w) (r := r) (A := A) (gp := sameG N g d os) rfl hl h2 (by omega) hk hs ht h3 hR ha) S rfl h1 (.inl rfl) (fun _ => rfl) (fun _ => rfl) nilA .nil ?_ ?_
  ·intro bf Y
   cases r <;> kernel_rfl
  ·intro Y h' t' ht' hy Wn
   exact fin Y h' t' _ ht' hy Wn (by kernel_rfl)
theorem left_loop {N : Nat} {w : World} {r : Bool} {A : Around} (hr : A.depth + 210 ≤ recursionLimit) (hh : A.handled = none) {g : Array GenState} {d : Drawn} {os : OsState} {acc dd cL cK f : Addr} {L : Lx} {B : Str} (hl : B.length < 1000000) (h2 : N < L.S.t2) {R : Result → Shared → Prop} :
  ∀ (ws : List Nat) (hws : ∀ k ∈ ws, k < 6) {p : Nat} {ts tt t3 : Tok} (hs : N < ts) (ht : N < tt) (h3 : N < t3) (hR : Rest B p ws) {accs : List (Str × Tok)} (ha : accs.length + ws.length < 1000000) (hu : ∀ x ∈ accs, N < x.2) {loc : Option (Int × Tok × Value)} {h : Heap} {tok : Nat} (F : FrOk A h) (h1 : N < tok)
   (S : Starts (kt0 w.params) h (lfAs acc dd L) (lfXs w.params L B p (stOf ws ts) tt t3 accs loc))
   (fin : ∀ h' t' tt' t3' accs' loc', N < t' → N < tt' → N < t3' → accs'.map Prod.fst = accs.map Prod.fst ++ ws.map txt → (∀ x ∈ accs', N < x.2) → FrOk A h' →
    Starts (kt0 w.params) h' (lfAs acc dd L) (lfXs w.params L B B.length .none tt' t3' accs' loc') → KeepB true h h' (lfAs acc dd L) → R (.ok .next) ⟨h', g, d, t', os⟩),
   codeAny (model pw (wf w r)) A (lfC w.params L acc dd f cL cK) R ⟨h, g, d, tok, os⟩
 | [], hws, p, ts, tt, t3, hs, ht, h3, hR, accs, ha, hu, loc, h, tok, F, h1, S, fin => by
  have hp : p = B.length := hR.2
  subst hp
  have S : Starts (kt0 w.params) h (lfAs acc dd L) (lfXs w.params L B B.length .none tt t3 accs loc) := S
  refine code_w (w := wf w r) (D := 70) (U := 0) (nt := true) (N := N) (ks := [(kEnd w.params L.K L.S B B.length tt t3 [2, 3, 4, 5, 6, 7]).q]) (cur := []) (as := lfAs acc dd L) (xs := lfXs w.params L B B.length .none tt t3 accs loc) (n := 1000) (ce := decs [664154844247581786115]) (e := 0) (s := 1) (i := 2) (bi := []) (res := fun Y => .res (.ok .next))
   (ys := fun Y => lfXs w.params L B B.length .none (Y.tk 0) (Y.tk 1) accs loc) (zs := fun _ => []) nilA (by omega) (fun _ => F) (fun k hk q' => ?_) (fun k hk q' => ?_) S (by cases loc <;> rfl) h1 (.inr rfl) (fun _ => rfl) (fun _ => rfl) nilA .nil ?_ ?_
  ·rw [List.mem_singleton] at hk
   subst hk
   exact kEnd_wf (by decide) rfl
  ·rw [List.mem_singleton] at hk
   subst hk
   exact kEnd_ok (gp := sameG N g d os) rfl rfl (by omega) hl h2 ht h3 rfl
  ·intro bf Y
   rw [hh]
   rcases loc with _ | ⟨a1, a2, a3⟩ <;> cases r <;> kernel_rfl
  ·intro Y h' t' ht' hy Wn
   exact fin h' t' (Y.tk 0) (Y.tk 1) accs loc ht' (hy 0 (by decide)) (hy 1 (by decide)) (by simp) hu (F.went (P := (wf w r).params) S Wn (by rcases loc with _ | ⟨a1, a2, a3⟩ <;> kernel_rfl)) Wn.fst Wn.K
 | k :: ws, hws, p, ts, tt, t3, hs, ht, h3, hR, accs, ha, hu, loc, h, tok, F, h1, S, fin => by
  simp only [List.length_cons] at ha
  refine left_turn hr hl h2 (hws k (.head _)) hs ht h3 hR (by omega) F h1 S fun h' t' ts' tt' t3' u loc' ht' hs' htt' h3' hu' F' S' K' => ?_
  refine left_loop hr hh hl h2 ws (fun k hk => hws k (.tail _ hk)) hs' htt' h3' hR.step (accs := accs ++ [(txt k, u)]) (by simp only [List.length_append, List.length_cons, List.length_nil]; omega) (fun x hx => ?_) F' ht' S' fun h'' t'' tt'' t3'' accs'' loc'' a1 a2 a3 a4 a5 a6 a7 a8 => fin h'' t'' tt'' t3'' accs'' loc'' a1 a2 a3 ?_ a5 a6 a7 (K'.up.transT a8)
  ·rcases List.mem_append.mp hx with hx | hx
   ·exact hu x hx
   ·rw [List.mem_singleton] at hx
    subst hx
    exact hu'
  ·rw [a4]
   simp
theorem left_start {N : Nat} {w : World} {r q : Bool} {A : Around} (hr : A.depth + 210 ≤ recursionLimit) {g : Array GenState} {d : Drawn} {os : OsState} {acc dd cL cK f : Addr} {L : Lx} {B : Str} {p : Nat} {st : Value} {tt t3 : Tok} {h : Heap} {tok : Nat} (h1 : N < tok)
  (S : Starts (kt0 w.params) h (lfAs acc dd L) (lfXs w.params L B p st tt t3 [] none)) {R : Result → Shared → Prop}
  (go : ∀ h' t', N < t' → Starts (kt0 w.params) h' (lfAs acc dd L) (lfXs w.params L B p st tt t3 [] none) → KeepB false h h' (lfAs acc dd L) → codeAny (model pw ((wf w r).withFollow "comprehension-iter-twice" q)) A (lfC w.params L acc dd f cL cK) R ⟨h', g, d, t', os⟩) :
  codeAny (model pw ((wf w r).withFollow "comprehension-iter-twice" q)) A (cmpS (leftE w.params) L.a acc (nEnv w.params (leftE w.params) f cL cK dd)) R ⟨h, g, d, tok, os⟩ := by
 cases q with
 | false =>
  refine code_w (w := (wf w r).withFollow "comprehension-iter-twice" false) (D := 70) (U := 0) (nt := false) (N := N) (ks := []) (cur := []) (as := lfAs acc dd L) (xs := lfXs w.params L B p st tt t3 [] none) (n := 2000) (ce := decs [68608242627217249320820126454350158399845433347, 4198498304]) (e := 0) (s := 0) (i := 1) (bi := []) (res := fun Y => .cut (lfC w.params L acc dd f cL cK))
   (ys := fun Y => lfXs w.params L B p st tt t3 [] none) (zs := fun _ => [])
   nilA (dle ‹_›) (fun q => by cases q) nilA nilA S rfl h1 (.inl rfl) (fun _ => rfl) (fun _ => rfl) nilA .nil ?_ ?_
  ·intro bf Y
   cases r <;> kernel_rfl
  ·intro Y h' t' ht' hy Wn
   exact go h' t' ht' Wn.fst Wn.K
 | true =>
  refine code_w (w := (wf w r).withFollow "comprehension-iter-twice" true) (D := 70) (U := 0) (nt := false) (N := N) (ks := []) (cur := []) (as := lfAs acc dd L) (xs := lfXs w.params L B p st tt t3 [] none) (n := 2000) (ce := decs [1001]) (e := 0) (s := 0) (i := 0) (bi := []) (res := fun Y => .cut (lfC w.params L acc dd f cL cK))
   (ys := fun Y => lfXs w.params L B p st tt t3 [] none) (zs := fun _ => [])
   nilA (dle ‹_›) (fun q => by cases q) nilA nilA S rfl h1 (.inl rfl) (fun _ => rfl) (fun _ => rfl) nilA .nil ?_ ?_
  ·intro bf Y
   cases r <;> kernel_rfl
  ·intro Y h' t' ht' hy Wn
   exact go h' t' ht' Wn.fst Wn.K
theorem left_begin {N : Nat} {w : World} {r : Bool} {A : Around} (hr : A.depth + 210 ≤ recursionLimit) {g : Array GenState} {d : Drawn} {os : OsState} {acc dd cL cK f : Addr} {L : Lx} {B : Str} {p : Nat} {st : Value} {tt t3 : Tok} {h : Heap} {tok : Nat} (h1 : N < tok)
  (S : Starts (kt0 w.params) h (lfAs acc dd L) (lfXs w.params L B p st tt t3 [] none)) {R : Result → Shared → Prop}
  (go : ∀ h' t', N < t' → Starts (kt0 w.params) h' (lfAs acc dd L) (lfXs w.params L B p st tt t3 [] none) → KeepB false h h' (lfAs acc dd L) → codeAny (model pw (wf w r)) A (lfC w.params L acc dd f cL cK) R ⟨h', g, d, t', os⟩) :
  codeAny (model pw (wf w r)) A (cmpS (leftE w.params) L.a acc (nEnv w.params (leftE w.params) f cL cK dd)) R ⟨h, g, d, tok, os⟩ := by
 have e := World.withFollow_self (wf w r) "comprehension-iter-twice"
 have z := left_start (N := N) (w := w) (r := r) (q := (wf w r).params.followText "comprehension-iter-twice") hr (f := f) (cL := cL) (cK := cK) (g := g) (d := d) (os := os) h1 S (R := R) (fun h' t' a b c => by rw [e]; exact go h' t' a b c)
 rw [e] at z
 exact z
noncomputable def s6Xs (P : Params) (L : Lx) (B : Str) (p : Nat) (st : Value) (tt t3 : Tok) (fr : Obj) : List Obj := [fr, cellV (.ref L.a)] ++ L.objs P B p st tt t3
noncomputable def lawL5 (sA nA wA qA aA : Addr) : List (String × Value) := [("script", .ref sA), ("numbers", .ref nA), ("words", .ref wA), ("questions", .ref qA), ("answers", .ref aA)]
theorem law_s6 {N : Nat} {w : World} {r : Bool} {A : Around} (hr : A.depth + 637 ≤ recursionLimit) (hh0 : A.handled = none) {g : Array GenState} {d : Drawn} {os : OsState} {f cK cL sA nA wA qA aA : Addr} {L : Lx} {B : Str} (hl : B.length < 1000000) (h2 : N < L.S.t2)
  {ws : List Nat} (hws : ∀ k ∈ ws, k < 6) (hwl : ws.length < 1000000) {p : Nat} {ts tt t3 : Tok} (hs : N < ts) (ht : N < tt) (h3 : N < t3) (hR : Rest B p ws) {hh : Nat → Int} {k : Nat → Tok} {sl : Array (Option Value)}
  {h : Heap} (F : FrOk A h) {tok : Nat} (h1 : N < tok)
  (S : Starts (kt0 w.params) h ([f, cL] ++ L.as) (s6Xs w.params L B p (stOf ws ts) tt t3 (frO hh k (lawL5 sA nA wA qA aA) sl))) {R : Result → Shared → Prop}
  (fin : ∀ h' t' (accs : List (Str × Tok)) hh' k' sl' lA, N < t' → accs.map Prod.fst = ws.map txt → (∀ x ∈ accs, N < x.2) → FrOk A h' →
   Starts (kt0 w.params) h' [f, lA] [frO hh' k' (lawL5 sA nA wA qA aA ++ [("left", .ref lA)]) sl', lstO (accs.map strV) accs.length] →
   KeepB true h h' ([f, cL] ++ L.as) → h.objs.size ≤ lA → R (.ok .next) ⟨h', g, d, t', os⟩) :
  MeansP (wf w r) A (lawC w.params f cL cK) false [] (stmP w.params 5 (lawEnv w.params f cL cK)) R ⟨h, g, d, tok, os⟩ := by
 have lawD : (lawA A w.params f cL cK).depth + 630 ≤ recursionLimit := by have := lawA_depth (A := A) (P := w.params) (f := f) (cL := cL) (cK := cK); omega
 have lawD3 : (lawA A w.params f cL cK).depth + 210 ≤ recursionLimit := by omega
 refine call_w (w := wf w r) (D := 70) (U := 0) (nt := false) (N := N) (ks := []) (cur := []) (as := [f, cL] ++ L.as) (xs := s6Xs w.params L B p (stOf ws ts) tt t3 (frO hh k (lawL5 sA nA wA qA aA) sl)) (n := 2000) (ce := decs [140509680900540926609039618978509124402883447494658, 8615704395776]) (s := 0) (i := 1) (bi := [9, 10])
  (c' := fun Y => cmpS (leftE w.params) L.a (Y.adr 9) (nEnv w.params (leftE w.params) f cL cK (Y.adr 10)))
  (ys := fun Y => s6Xs w.params L B p (stOf ws ts) tt t3 (frO hh k (lawL5 sA nA wA qA aA) sl)) (zs := fun Y => [lstO [] 0, locO []])
  nilA (dle ‹_›) (fun q => by cases q) nilA nilA S rfl h1 (.inl rfl) (fun _ => rfl) (fun _ => rfl) ?_ (by decide) ?_ ?_
 ·intro x hx
  simp only [memC, memN, or_false] at hx
  rcases hx with rfl | rfl
  ·show 8 ≤ 9; decide
  ·show 8 ≤ 10; decide
 ·intro bf Y
  cases r <;> kernel_rfl
 ·intro Y h1' t1' ht1 _ W1
  have S1 : Starts (kt0 w.params) h1' _ _ := W1.S
  have F1 : FrOk A h1' := F.went (P := (wf w r).params) S W1 (by kernel_rfl)
  have ef1 : h1'.get? f = some (frO hh k (lawL5 sA nA wA qA aA) sl) := starts_get S1 0 rfl rfl
  generalize eY : Y.pre ([f, cL] ++ L.as) = Y' at *
  have new3 : ∀ b ∈ [9, 10].map Y'.adr, h.objs.size ≤ b := W1.new
  have inA : ∀ {b}, b ∈ lfAs (Y'.adr 9) (Y'.adr 10) L → b ∈ L.as ∨ b ∈ [9, 10].map Y'.adr := fun {b} hb => by
   simp only [lfAs, List.cons_append, List.nil_append, List.mem_cons, List.map_cons, List.map_nil, List.mem_nil_iff, or_false] at hb ⊢
   rcases hb with h | h | h
   ·exact .inr (.inl h)
   ·exact .inr (.inr h)
   ·exact .inl h
  have inB : ∀ {b}, b ∈ L.as → b ∈ [f, cL] ++ L.as := fun hb => .tail _ (.tail _ hb)
  have nf : f ∉ lfAs (Y'.adr 9) (Y'.adr 10) L := fun hm => by
   rcases inA hm with hm | hm
   ·exact (List.nodup_cons.mp S.nodup).1 (.tail _ hm)
   ·exact absurd (Heap.lt_size (starts_get S 0 rfl rfl)) (Nat.not_lt.mpr (new3 _ hm))
  refine left_begin (N := N) lawD3 ht1 (S1.pick [8, 9, 2, 3, 4, 5, 6, 7] (by decide) rfl rfl) fun hx tx htx Sx Kx => ?_
  have efx : hx.get? f = some (frO hh k (lawL5 sA nA wA qA aA) sl) := Kx.keep _ _ ef1 nf (fun h => by cases h)
  have Fx : FrOk (lawA A w.params f cL cK) hx := lawA_fr (F1.keep2 Kx fun a ha x e hx' => by
   rcases List.mem_iff_getElem.mp ha with ⟨j, hj, rfl⟩
   have Sy := S1.pick (as' := lfAs (Y'.adr 9) (Y'.adr 10) L) (xs' := lfXs w.params L B p (stOf ws ts) tt t3 [] none) [8, 9, 2, 3, 4, 5, 6, 7] (by decide) rfl rfl
   have e1 := Sy.at_ j _ _ (List.getElem?_eq_getElem hj) (List.getElem?_eq_getElem (Sy.len ▸ hj))
   have e2 := Sx.at_ j _ _ (List.getElem?_eq_getElem hj) (List.getElem?_eq_getElem (Sx.len ▸ hj))
   rw [e] at e1
   cases e1
   exact ⟨_, e2, hx'⟩) efx frO_fr
  refine left_loop (N := N) (w := w) (r := r) (f := f) (cL := cL) (cK := cK) lawD3 (lawA_handled hh0) hl h2 ws hws hs ht h3 hR (accs := []) (by simpa using hwl) nilA (loc := none) Fx htx Sx ?_
  intro h2' t2 tt' t3' accs loc' ht2 htt' h3' hacc hu F2 SL K2
  have F2 := F1.back F2
  obtain ⟨sl', ef2⟩ := K2.fr f _ efx nf frO_fr
  have ef2 : h2'.get? f = some (frO hh k (lawL5 sA nA wA qA aA) sl') := ef2
  have S2 : Starts (kt0 w.params) h2' ([f] ++ [9, 10].map Y'.adr) [frO hh k (lawL5 sA nA wA qA aA) sl', lstO (accs.map strV) accs.length, oneLoc "word" loc'] :=
   (S1.pick (as' := [f] ++ [9, 10].map Y'.adr) (xs' := [frO hh k (lawL5 sA nA wA qA aA) sl, lstO [] 0, locO []]) [0, 8, 9] (by decide) rfl rfl).re rfl SL.base fun j a x e1 e2 => by
    rcases j with _ | _ | _ | j
    ·cases e1; cases e2; exact ef2
    ·cases e1; cases e2; exact starts_get SL 0 rfl rfl
    ·cases e1; cases e2; exact starts_get SL 1 rfl rfl
    ·cases e2
  have last : ∀ (Y2 : Dyn) h3x t3x (lx : Obj), N < t3x → Went (wf w r).params false h2' h3x ([f] ++ [9, 10].map Y'.adr) ([].map Y2.adr) [frO (put hh 5 (hashZ w.params (o "left"))) (put k 5 (Y2.tk 0)) (lawL5 sA nA wA qA aA ++ [("left", .ref (Y'.adr 9))]) sl', lstO (accs.map strV) accs.length, lx] [] → R (.ok .next) ⟨h3x, g, d, t3x, os⟩ := by
   intro Y2 h3x t3x lx ht3 W3
   have S3 : Starts (kt0 w.params) h3x _ _ := W3.fst
   have F3 : FrOk A h3x := F2.keep2 W3.K fun a ha x e hx' => by
    rcases List.mem_iff_getElem.mp ha with ⟨j, hj, rfl⟩
    have hj3 : j < 3 := hj
    match j, hj3 with
    | 0, _ => exact ⟨_, starts_get S3 0 rfl rfl, frO_fr⟩
    | 1, _ =>
     have e1 := starts_get S2 1 rfl rfl
     rw [show ([f] ++ [9, 10].map Y'.adr)[1] = Y'.adr 9 from rfl] at e
     rw [e] at e1
     cases e1
     cases (show isFr (lstO (accs.map strV) accs.length) = false by kernel_rfl).symm.trans hx'
    | 2, _ =>
     have e1 := starts_get S2 2 rfl rfl
     rw [show ([f] ++ [9, 10].map Y'.adr)[2] = Y'.adr 10 from rfl] at e
     rw [e] at e1
     cases e1
     rcases loc' with _ | ⟨a1, a2, a3⟩
     ·cases (show isFr (oneLoc "word" none) = false by kernel_rfl).symm.trans hx'
     ·cases (show isFr (oneLoc "word" (some (a1, a2, a3))) = false by kernel_rfl).symm.trans hx'
   refine fin h3x t3x accs _ _ _ (Y'.adr 9) ht3 (by simpa using hacc) hu F3 (S3.pick [0, 1] (by decide) rfl rfl) ?_ (new3 _ (.head _))
   refine ((W1.K.up.comp Kx.up fun b hb => ?_).comp K2 fun b hb => ?_).comp W3.K.up fun b hb => ?_
   ·exact (inA hb).imp inB (new3 b)
   ·exact (inA hb).imp inB (new3 b)
   ·rcases List.mem_append.mp hb with hb | hb
    ·rw [List.mem_singleton] at hb
     exact .inl (hb ▸ .head _)
    ·exact .inr (new3 b hb)
  rcases loc' with _ | ⟨ha1, ka1, va1⟩
  ·refine piece_w (w := wf w r) (D := 70) (U := 0) (nt := false) (N := N) (ks := []) (cur := []) (as := [f] ++ [9, 10].map Y'.adr) (xs := [frO hh k (lawL5 sA nA wA qA aA) sl', lstO (accs.map strV) accs.length, oneLoc "word" none]) (n := 2000) (ce := decs [12584961]) (s := 0) (i := 1) (bi := []) (res := fun Y => .ok .next)
    (ys := fun Y2 => [frO (put hh 5 (hashZ w.params (o "left"))) (put k 5 (Y2.tk 0)) (lawL5 sA nA wA qA aA ++ [("left", .ref (Y'.adr 9))]) sl', lstO (accs.map strV) accs.length, locX 0]) (zs := fun Y => [])
    nilA (dle ‹_›) (fun q => by cases q) nilA nilA S2 rfl ht2 (.inl rfl) (fun _ => rfl) (fun _ => rfl) nilA .nil ?_ fun Y2 h3x t3x ht3 _ W3 => last Y2 h3x t3x _ ht3 W3
   subst eY
   intro bf2 Y2
   cases r <;> kernel_rfl
  ·refine piece_w (w := wf w r) (D := 70) (U := 0) (nt := false) (N := N) (ks := []) (cur := []) (as := [f] ++ [9, 10].map Y'.adr) (xs := [frO hh k (lawL5 sA nA wA qA aA) sl', lstO (accs.map strV) accs.length, oneLoc "word" (some (ha1, ka1, va1))]) (n := 2000) (ce := decs [52802340521985]) (s := 0) (i := 1) (bi := []) (res := fun Y => .ok .next)
    (ys := fun Y2 => [frO (put hh 5 (hashZ w.params (o "left"))) (put k 5 (Y2.tk 0)) (lawL5 sA nA wA qA aA ++ [("left", .ref (Y'.adr 9))]) sl', lstO (accs.map strV) accs.length, locX 2]) (zs := fun Y => [])
    nilA (dle ‹_›) (fun q => by cases q) nilA nilA S2 rfl ht2 (.inl rfl) (fun _ => rfl) (fun _ => rfl) nilA .nil ?_ fun Y2 h3x t3x ht3 _ W3 => last Y2 h3x t3x _ ht3 W3
   subst eY
   intro bf2 Y2
   cases r <;> kernel_rfl
end
section
open PySem PySem.W PySem.W.X PySem.Spec PySem.Calls PyProof.Rows PySem.MeetsSeq
noncomputable def kLLen (ua : List Nat) (vs : List Value) (n : Nat) (m : Int) : HK :=
 mkK ua [] 1 0 false false (fun _ => []) (fun a _ => .builtin "len" ⟨[.ref (a 0)], []⟩) (fun _ _ => [lstO vs n]) (fun _ _ _ _ _ _ => [lstO vs n]) (fun _ _ _ _ _ _ => []) (fun _ _ u _ _ _ => .ok (.ret (.int m (u 0))))
theorem kLLen_wf {ua vs n m} (hn : ua.Nodup) (hl : ua.length = 1) : HKwf (kLLen ua vs n m) := mk_wf hn (fun _ _ => hl.symm ▸ rfl) (fun _ _ _ _ _ _ => hl.symm ▸ rfl) fun _ _ _ _ _ _ => rfl
theorem kLLen_ok {D U : Nat} {kt : KT} {w : World} {A : Around} {gp : GP} (hup : gp.up = false) {ua vs n} {m : Int} (hl : ua.length = 1) (hv : vs.length < 1000000) (hm : (vs.length : Int) = m) : HKok D U kt w A gp (kLLen ua vs n m) :=
 mk_direct hup (fun _ _ => hl.symm ▸ rfl) (fun _ _ _ _ _ _ => hl.symm ▸ rfl) (fun _ _ _ _ _ _ => rfl) fun a t A' R' h tok g d os hA hh h1 htk hi hp C => by
  have p0 := hp 0 _ rfl
  refine codeAny_builtin entry_len (wpAny_mono (wpAny_len_body_list (items := Array.mk vs) ⟨_, p0, rfl, n, rfl⟩ (by show ((Array.mk vs).size : Int) < _; simp only [List.size_toArray]; omega) (Q := fun r s' => R' (.ok (.ret r)) s') ?_) (fun fin s' x => by obtain ⟨r, rfl, hr⟩ := x; exact hr) fun _ _ x => x)
  have e : (((Array.mk vs).size : Nat) : Int) = m := by rw [← hm]; simp
  rw [e]
  exact C h (tok + 1 + 1) [tok + 1] [] rfl (fun u hu => by rw [List.mem_singleton] at hu; subst hu; exact Nat.lt_succ_of_lt h1) (Nat.lt_succ_of_lt (Nat.lt_succ_of_lt h1)) rfl .nil (fun j x ex => by
   match j, ex with
   | 0, ex => cases ex; exact p0) (fun c x e _ => e) (fun j x ex => by cases ex) (Nat.le_refl _)
theorem erase_obj {vs vs' : List Value} {n j : Nat} (hj : j < vs.length) (e : vs.eraseIdx j = vs') : Obj.mapSeq (fun xs => xs.eraseIdxIfInBounds j) (lstO vs n) = lstO vs' (n + 1) := by
 subst e
 unfold lstO Obj.mapSeq
 dsimp only
 have e1 : (Array.mk vs).eraseIdxIfInBounds j = Array.mk (vs.eraseIdx j) := by
  have hj' : j < (Array.mk vs).size := hj
  rw [Array.eraseIdxIfInBounds, dif_pos hj']
  apply Array.ext'
  simp
 rw [e1, if_neg]
 simp only [List.size_toArray, beq_iff_eq, List.length_eraseIdx, if_pos hj]
 omega
noncomputable def kPop (ua : List Nat) (vs : List Value) (n : Nat) (v : Value) : HK :=
 mkK ua [] 0 0 false false (fun _ => []) (fun a _ => .call (.builtin "list.pop") ⟨[.ref (a 0)], []⟩) (fun _ _ => [lstO (vs ++ [v]) n]) (fun _ _ _ _ _ _ => [lstO vs (n + 1)]) (fun _ _ _ _ _ _ => []) (fun _ _ _ _ _ _ => .ok (.ret v))
theorem kPop_wf {ua vs n v} (hn : ua.Nodup) (hl : ua.length = 1) : HKwf (kPop ua vs n v) := mk_wf hn (fun _ _ => hl.symm ▸ rfl) (fun _ _ _ _ _ _ => hl.symm ▸ rfl) fun _ _ _ _ _ _ => rfl
theorem kPop_ok {D U : Nat} {kt : KT} {w : World} {A : Around} {gp : GP} (hup : gp.up = false) {ua vs n v} (hl : ua.length = 1) (hv : vs.length < 999999) : HKok D U kt w A gp (kPop ua vs n v) :=
 mk_direct hup (fun _ _ => hl.symm ▸ rfl) (fun _ _ _ _ _ _ => hl.symm ▸ rfl) (fun _ _ _ _ _ _ => rfl) fun a t A' R' h tok g d os hA hh h1 htk hi hp C => by
  have p0 := hp 0 _ rfl
  have hT : (⟨h, g, d, tok, os⟩ : Shared).TypeIs (.ref (a 0)) "list" := ⟨_, p0, rfl⟩
  have hsz : (Array.mk (vs ++ [v])).size - 1 = vs.length := by simp
  refine code_meets F.slot_list_pop hT F.entry_list_pop (F.args_list_pop_1 _) (list_pop_last (a 0) (Array.mk (vs ++ [v])) n v (by rw [hsz]; simp) (size_small (by simp; omega))) ⟨p0, ?_⟩
  rw [hsz]
  have hs : Heap.SameBut (a 0) h (h.update (a 0) (Obj.mapSeq fun xs => xs.eraseIdxIfInBounds vs.length)) := .update ..
  have eo := erase_obj (vs := vs ++ [v]) (vs' := vs) (n := n) (j := vs.length) (by simp) (by simp [List.eraseIdx_append_of_length_le])
  have e0 : (h.update (a 0) (Obj.mapSeq fun xs => xs.eraseIdxIfInBounds vs.length)).get? (a 0) = some (lstO vs (n + 1)) := by
   rw [← eo]
   exact Heap.get?_update_self _ p0 (by rw [eo]; rfl)
  exact C _ tok [] [] rfl (fun u hu => nomatch hu) h1 rfl .nil (fun j x ex => by
   match j, ex with
   | 0, ex => cases ex; exact e0) (one_keep (i := 0) hs (by omega)) (fun j x ex => by cases ex) (Nat.le_of_eq hs.1.symm)
noncomputable def kRem (ua ut : List Nat) (vs vs' : List Value) (n : Nat) (v : Value) : HK :=
 mkK ua ut 0 0 false false (fun _ => []) (fun a _ => .call (.builtin "list.remove") ⟨[.ref (a 0), v], []⟩) (fun _ _ => [lstO vs n]) (fun _ _ _ _ _ _ => [lstO vs' (n + 1)]) (fun _ _ _ _ _ _ => []) (fun _ _ _ _ _ _ => .ok (.ret .none))
theorem kRem_wf {ua ut vs vs' n v} (hn : ua.Nodup) (hl : ua.length = 1) : HKwf (kRem ua ut vs vs' n v) := mk_wf hn (fun _ _ => hl.symm ▸ rfl) (fun _ _ _ _ _ _ => hl.symm ▸ rfl) fun _ _ _ _ _ _ => rfl
theorem map_erase : ∀ (xs : List (Str × Tok)) (j : Nat), (xs.map strV).eraseIdx j = (xs.eraseIdx j).map strV
 | [], _ => rfl
 | x :: xs, 0 => rfl
 | x :: xs, j + 1 => by
  show strV x :: (xs.map strV).eraseIdx j = strV x :: (xs.eraseIdx j).map strV
  rw [map_erase xs j]
noncomputable def eqT (x : Str × Tok) (y : Value) : Bool := match y with
 | .str z _ => z.cps.toList == x.1.cps.toList
 | _ => false
theorem eqT_gives {x : Str × Tok} {xs : List (Str × Tok)} : ∀ y, y ∈ Array.mk (xs.map strV) → EqGives y (strV x) (eqT x y) := by
 intro y hy
 have hy : y ∈ xs.map strV := by simpa using hy
 obtain ⟨z, _, rfl⟩ := List.mem_map.mp hy
 exact SeqRoads2.EqGives.str z.1 x.1 z.2 x.2
theorem kRem_ok {D U : Nat} {kt : KT} {w : World} {A : Around} {gp : GP} (hup : gp.up = false) {ua ut n} (hl : ua.length = 1) {xs xs' : List (Str × Tok)} {x : Str × Tok} {j : Nat} (hv : xs.length < 1000000) (hj : j < xs.length) (hit : (xs[j].1.cps.toList == x.1.cps.toList) = true) (hno : ∀ m (hm : m < j), (xs[m].1.cps.toList == x.1.cps.toList) = false) (he : xs.eraseIdx j = xs') : HKok D U kt w A gp (kRem ua ut (xs.map strV) (xs'.map strV) n (strV x)) :=
 mk_direct hup (fun _ _ => hl.symm ▸ rfl) (fun _ _ _ _ _ _ => hl.symm ▸ rfl) (fun _ _ _ _ _ _ => rfl) fun a t A' R' h tok g d os hA hh h1 htk hi hp C => by
  have p0 := hp 0 _ rfl
  have hT : (⟨h, g, d, tok, os⟩ : Shared).TypeIs (.ref (a 0)) "list" := ⟨_, p0, rfl⟩
  have hj' : j < (Array.mk (xs.map strV)).size := by simpa using hj
  refine code_meets F.slot_list_remove hT F.entry_list_remove (F.args_list_remove_2 _ _) (list_remove (a 0) (Array.mk (xs.map strV)) n (strV x) (eqT x) eqT_gives j hj' (by simpa [eqT, strV] using hit) (fun m hm hmj => by simpa [eqT, strV] using hno m hmj) (size_small (by simpa using hv))) ⟨p0, ?_⟩
  have hs : Heap.SameBut (a 0) h (h.update (a 0) (Obj.mapSeq fun xs => xs.eraseIdxIfInBounds j)) := .update ..
  have eo := erase_obj (vs := xs.map strV) (vs' := xs'.map strV) (n := n) (j := j) (by simpa using hj) (by rw [← he, map_erase])
  have e0 : (h.update (a 0) (Obj.mapSeq fun xs => xs.eraseIdxIfInBounds j)).get? (a 0) = some (lstO (xs'.map strV) (n + 1)) := by
   rw [← eo]
   exact Heap.get?_update_self _ p0 (by rw [eo]; rfl)
  exact C _ tok [] [] rfl (fun u hu => nomatch hu) h1 rfl .nil (fun j x ex => by
   match j, ex with
   | 0, ex => cases ex; exact e0) (one_keep (i := 0) hs (by omega)) (fun j x ex => by cases ex) (Nat.le_of_eq hs.1.symm)
open AutoSeq1 (wpAny_loadPart')
noncomputable def tupS (v : Value) : Obj := ⟨.type "tuple", none, .seq (Array.mk [v]) 0, Array.mk []⟩
theorem raise_words {α : Type} {M : Model} {A : Around} {E : Value → Shared → Prop} {s : Shared} {cls msg : String} {Q : α → Shared → Prop} (hp : PlainExc cls) (hh : A.handled = none)
  (h : E (.ref (s.heap.push (tupS (.str msg s.toks))).objs.size) { s with heap := (s.heap.push (tupS (.str msg s.toks))).push (excObj cls (.ref s.heap.objs.size) .none), toks := s.toks + 1 }) :
  wpAny M A (raiseErrorWords cls msg : Sem α) Q E s := by
 unfold raiseErrorWords
 refine wpAny_bind (wpAny_mkText (wpAny_bind ?_))
 unfold newExc newTuple
 refine wpAny_bind (wpAny_newObj_type ?_)
 refine wpAny_bind (m := firstArgMember _ _) (wpAny_of_eq (a := Value.none) (by simp only [firstArgMember, hp.first]; rfl) ?_)
 rw [hp.own]
 refine wpAny_newObj_type ?_
 unfold raiseNew
 refine wpAny_bind (wpAny_handled ?_)
 rw [hh]
 first
  | refine wpAny_throw ?_
  | refine wpAny_bind (wpAny_pure (wpAny_throw ?_))
 exact h
noncomputable def remMsg : String := "list.remove(x): x not in list"
noncomputable def RaisesRem : PySem.Spec := fun A R s => A.handled = none ∧ R (.error (.ref (s.heap.push (tupS (.str remMsg s.toks))).objs.size)) { s with heap := (s.heap.push (tupS (.str remMsg s.toks))).push (excObj "ValueError" (.ref s.heap.objs.size) .none), toks := s.toks + 1 }
theorem rem_loop_none (l : Addr) (items : Array Value) (n : Nat) (x : Value) (e : Value → Bool) (he : ∀ y, y ∈ items → EqGives y x (e y)) (hno : ∀ m (hm : m < items.size), e items[m] = false) (k : Nat) :
  ∀ i : Nat, items.size - i = k → Meets (Builtin.«list.remove.loop» ⟨[.ref l, x, rawInt i], []⟩)
   (fun A R s => s.heap.get? l = some { cls := .type "list", dict := none, data := .seq items n, slots := #[] } ∧ RaisesRem A R s) := by
 induction k with
 | zero =>
  intro i hk prog w A R s h
  obtain ⟨hp, g, d, tk, os⟩ := s; obtain ⟨hl, h⟩ := h
  wp_walk using wpAny_loadPart' hl
  have hi : items[((i : Nat) : Int).toNat]? = none := by simp; omega
  rw [hi]
  wp_walk
  exact raise_words plainExc_ValueError h.1 h.2
 | succ k ih =>
  intro i hk prog w A R s h
  obtain ⟨hp, g, d, tk, os⟩ := s; obtain ⟨hl, h⟩ := h
  have hlt : i < items.size := by omega
  wp_walk using wpAny_loadPart' hl
  have hi : items[((i : Nat) : Int).toNat]? = some items[i] := by simp [hlt]
  have hc : ((i : Int) + 1) = ((i + 1 : Nat) : Int) := by push_cast; rfl
  rw [hi]
  refine wpAny_bind (he _ (Array.getElem_mem hlt) prog w _ _ _ _ ?_)
  rw [hno i hlt]
  wp_walk
  rw [hc]
  refine ⟨plainId_quiet plain_remove_loop _, codeAny_builtin entry_remove_loop ?_⟩
  rw [Around.under_plainId plain_remove_loop _]
  exact ih (i + 1) (by omega) prog w A R _ ⟨hl, h⟩
theorem rem_none (l : Addr) (items : Array Value) (n : Nat) (x : Value) (e : Value → Bool) (he : ∀ y, y ∈ items → EqGives y x (e y)) (hno : ∀ m (hm : m < items.size), e items[m] = false) :
  Meets (Builtin.«list.remove» ⟨[.ref l, x], []⟩)
   (fun A R s => s.heap.get? l = some { cls := .type "list", dict := none, data := .seq items n, slots := #[] } ∧ RaisesRem A R s) := by
 intro prog w A R s h
 obtain ⟨hp, g, d, tk, os⟩ := s; obtain ⟨hl, h⟩ := h
 wp_walk using wpAny_loadPart' hl
 refine ⟨plainId_quiet plain_remove_loop _, codeAny_builtin entry_remove_loop ?_⟩
 rw [Around.under_plainId plain_remove_loop _]
 exact rem_loop_none l items n x e he hno _ 0 rfl prog w A R _ ⟨hl, h⟩
noncomputable def kNoRem (ua ut : List Nat) (vs : List Value) (n : Nat) (v : Value) : HK :=
 mkK ua ut 1 2 true false (fun _ => []) (fun a _ => .call (.builtin "list.remove") ⟨[.ref (a 0), v], []⟩) (fun _ _ => [lstO vs n]) (fun _ _ _ _ _ _ => [lstO vs n]) (fun _ _ u b _ _ => [excObj "ValueError" (.ref (b 1)) .none, tupS (.str remMsg (u 0))]) (fun _ _ _ b _ _ => .error (.ref (b 0)))
theorem kNoRem_wf {ua ut vs n v} (hn : ua.Nodup) (hl : ua.length = 1) : HKwf (kNoRem ua ut vs n v) := mk_wf hn (fun _ _ => hl.symm ▸ rfl) (fun _ _ _ _ _ _ => hl.symm ▸ rfl) fun _ _ _ _ _ _ => rfl
theorem kNoRem_ok {D U : Nat} {kt : KT} {w : World} {A : Around} {gp : GP} (hup : gp.up = false) {ua ut n} (hl : ua.length = 1) {xs : List (Str × Tok)} {x : Str × Tok} (hno : ∀ m (hm : m < xs.length), (xs[m].1.cps.toList == x.1.cps.toList) = false) : HKok D U kt w A gp (kNoRem ua ut (xs.map strV) n (strV x)) :=
 mk_direct hup (fun _ _ => hl.symm ▸ rfl) (fun _ _ _ _ _ _ => hl.symm ▸ rfl) (fun _ _ _ _ _ _ => rfl) fun a t A' R' h tok g d os hA hh h1 htk hi hp C => by
  have p0 := hp 0 _ rfl
  have hT : (⟨h, g, d, tok, os⟩ : Shared).TypeIs (.ref (a 0)) "list" := ⟨_, p0, rfl⟩
  refine code_meets F.slot_list_remove hT F.entry_list_remove (F.args_list_remove_2 _ _) (rem_none (a 0) (Array.mk (xs.map strV)) n (strV x) (eqT x) eqT_gives (fun m hm => by simpa [eqT, strV] using hno m (by simpa using hm))) ⟨p0, hh rfl, ?_⟩
  have z2 : (h.push (tupS (.str remMsg tok))).objs.size = h.objs.size + 1 := Heap.size_push ..
  have et : (h.push (tupS (.str remMsg tok))).get? h.objs.size = some (tupS (.str remMsg tok)) := Heap.get?_push_size _ rfl
  exact C _ (tok + 1) [tok] [(h.push (tupS (.str remMsg tok))).objs.size, h.objs.size] rfl (fun u hu => by rw [List.mem_singleton] at hu; subst hu; exact h1) (Nat.lt_succ_of_lt h1) rfl (by simp [z2]) (fun j x ex => by
   match j, ex with
   | 0, ex => cases ex; exact Heap.get?_push_of_some _ (Heap.get?_push_of_some _ p0)) (fun c x e q => Heap.get?_push_of_some _ (Heap.get?_push_of_some _ e)) (fun j x e => by
   match j, e with
   | 0, e => cases e; exact ⟨Heap.get?_push_size _ rfl, by show h.objs.size ≤ (h.push (tupS (.str remMsg tok))).objs.size; omega⟩
   | 1, e => cases e; exact ⟨Heap.get?_push_of_some _ et, Nat.le_refl _⟩) (by show h.objs.size ≤ ((h.push (tupS (.str remMsg tok))).push _).objs.size; rw [Heap.size_push, Heap.size_push]; omega)
end
section
open PySem PySem.W PySem.W.X PySem.Spec PySem.Calls PyProof.Rows
noncomputable def eqTx (x : Str) (z : Str × Tok) : Bool := z.1.cps.toList == x.cps.toList
noncomputable def findT (x : Str) (act : List (Str × Tok)) : Option Nat := act.findIdx? (eqTx x)
noncomputable def uld : List (Str × Tok) → List (Str × Tok) → List (Str × Tok) × List (Str × Tok)
 | [], act => (act, [])
 | x :: r, act => match findT x.1 act with
  | some j => uld r (act.eraseIdx j)
  | none => ((uld r act).1, x :: (uld r act).2)
theorem findT_some {x : Str} {act : List (Str × Tok)} {j : Nat} (h : findT x act = some j) : ∃ hj : j < act.length, (act[j].1.cps.toList == x.cps.toList) = true ∧ ∀ m (hm : m < j), (act[m].1.cps.toList == x.cps.toList) = false := by
 unfold findT at h
 rw [List.findIdx?_eq_some_iff_getElem] at h
 obtain ⟨hj, h1, h2⟩ := h
 exact ⟨hj, h1, fun m hm => by
  have z := h2 m hm
  simpa [eqTx] using z⟩
theorem findT_none {x : Str} {act : List (Str × Tok)} (h : findT x act = none) : ∀ m (hm : m < act.length), (act[m].1.cps.toList == x.cps.toList) = false := fun m hm => by
 unfold findT at h
 rw [List.findIdx?_eq_none_iff] at h
 simpa [eqTx] using h _ (List.getElem_mem hm)
noncomputable def whileOf : List Stmt → Option (Expr × List Stmt × List Stmt)
 | [] => none
 | s :: l => match s with
  | .While t b e _ => some (t, b, e)
  | _ => whileOf l
noncomputable def whileCode (x : Obj) (n : Addr) (a : Addr) : Code := match whileOf (stmtsOf x) with
 | some (t, b, e) => .whileLoop t b e (envFn x n a)
 | none => .builtin "" ⟨[], []⟩
noncomputable abbrev uC (P : Params) (f : Addr) : Code := whileCode (o779 P) 779 f
noncomputable def uF (P : Params) (f : Addr) : Code := .func (stmtsOf (o779 P)) (envFn (o779 P) 779 f)
noncomputable def uFr (hh : Nat → Int) (k : Nat → Tok) (e a m : Addr) (it : Option (Int × Tok × Value)) (sl : Array (Option Value)) : Obj :=
 ⟨.type "frame", none, .dict (Array.mk ([⟨hh 0, .str (o "expected") (k 0), .ref e⟩, ⟨hh 1, .str (o "actual") (k 1), .ref a⟩, ⟨hh 2, .str (o "missing") (k 2), .ref m⟩] ++ (match it with | none => [] | some (h, kt, v) => [⟨h, .str (o "item") kt, v⟩]))) (match it with | none => 3 | some _ => 4), sl⟩
noncomputable def uXs (vs act miss : List Value) (n1 n2 n3 : Nat) (fr : Obj) : List Obj := [lstO vs n1, lstO act n2, fr, lstO miss n3]
noncomputable abbrev uAs (e a f m : Addr) : List Addr := [e, a, f, m]
noncomputable def ks_uf (vs act act' : List Value) (n1 n2 : Nat) (x : Value) (m : Nat) : List HQ := [(kLLen [0] (vs ++ [x]) n1 ((m + 1 : Nat) : Int)).q, (kPop [0] vs n1 x).q, (kRem [1] [] act act' n2 x).q]
noncomputable def ks_un (P : Params) (vs act miss : List Value) (n1 n2 n3 : Nat) (x : Value) (m : Nat) : List HQ :=
 [(kLLen [0] (vs ++ [x]) n1 ((m + 1 : Nat) : Int)).q, (kPop [0] vs n1 x).q, (kNoRem [1] [] act n2 x).q, (kNote0 [4, 2, 5] [] "ValueError" (fun a => envFn (o779 P) 779 (a 1)) (fun a => .ref (a 2))).q, (kApp [3] [] miss n3 (fun _ _ => x)).q]
theorem ks_uf_wf {vs act act' n1 n2 x m} : ∀ k' ∈ ks_uf vs act act' n1 n2 x m, ∀ q', HKwf (k'.k q') := by
 intro k' hk q'
 simp only [ks_uf, memC, memN, or_false] at hk
 rcases hk with rfl | rfl | rfl
 ·exact kLLen_wf (by decide) rfl
 ·exact kPop_wf (by decide) rfl
 ·exact kRem_wf (by decide) rfl
theorem ks_un_wf {P vs act miss n1 n2 n3 x m} : ∀ k' ∈ ks_un P vs act miss n1 n2 n3 x m, ∀ q', HKwf (k'.k q') := by
 intro k' hk q'
 simp only [ks_un, memC, memN, or_false] at hk
 rcases hk with rfl | rfl | rfl | rfl | rfl
 ·exact kLLen_wf (by decide) rfl
 ·exact kPop_wf (by decide) rfl
 ·exact kNoRem_wf (by decide) rfl
 ·exact kNote0_wf (by decide) (by decide)
 ·exact kApp_wf (by decide) rfl
theorem ks_uf_ok {D U : Nat} {kt : KT} {w : World} {A : Around} {gp : GP} (hup : gp.up = false) {r act : List (Str × Tok)} {n1 n2 : Nat} {x : Str × Tok} {j : Nat} (hr : r.length < 999999) (ha : act.length < 1000000) (hj : findT x.1 act = some j) : ∀ k' ∈ ks_uf (r.map strV) (act.map strV) ((act.eraseIdx j).map strV) n1 n2 (strV x) r.length, ∀ q', HKok D U kt w A gp (k'.k q') := by
 intro k' hk q'
 obtain ⟨h1, h2, h3⟩ := findT_some hj
 simp only [ks_uf, memC, memN, or_false] at hk
 rcases hk with rfl | rfl | rfl
 ·exact kLLen_ok hup rfl (by simp; omega) (by simp)
 ·exact kPop_ok hup rfl (by simpa using hr)
 ·exact kRem_ok hup rfl ha h1 h2 h3 rfl
theorem ks_un_ok {D U : Nat} {w : World} {A : Around} {gp : GP} (hup : gp.up = false) {P : Params} {kt : KT} {r act miss : List (Str × Tok)} {n1 n2 n3 : Nat} {x : Str × Tok} (hr : r.length < 999999) (hm : miss.length < 1000000) (hj : findT x.1 act = none) : ∀ k' ∈ ks_un P (r.map strV) (act.map strV) (miss.map strV) n1 n2 n3 (strV x) r.length, ∀ q', HKok D U kt w A gp (k'.k q') := by
 intro k' hk q'
 simp only [ks_un, memC, memN, or_false] at hk
 rcases hk with rfl | rfl | rfl | rfl | rfl
 ·exact kLLen_ok hup rfl (by simp; omega) (by simp)
 ·exact kPop_ok hup rfl (by simpa using hr)
 ·exact kNoRem_ok hup rfl (findT_none hj)
 ·exact kNote0_ok (by decide +kernel) (fun _ => rfl)
 ·exact kApp_ok hup rfl (by simpa using hm)
theorem uld_turn {N : Nat} {w : World} {r : Bool} {A : Around} (hr : A.depth + 140 ≤ recursionLimit) (hh : A.handled = none) {g : Array GenState} {d : Drawn} {os : OsState} {e a f m : Addr} (I : InFr A f) {x : Str × Tok} {rs act miss : List (Str × Tok)} {n1 n2 n3 : Nat} (hrs : rs.length < 999999) (hact : act.length < 1000000) (hmiss : miss.length < 1000000)
  {hs : Nat → Int} {k : Nat → Tok} {it : Option (Int × Tok × Value)} {sl : Array (Option Value)} {h : Heap} {tok : Nat} (F : FrOk A h) (h1 : N < tok)
  (S : Starts (kt0 w.params) h (uAs e a f m) (uXs (rs.map strV ++ [strV x]) (act.map strV) (miss.map strV) n1 n2 n3 (uFr hs k e a m it sl))) {R : Result → Shared → Prop}
  (go : ∀ h' t' act' miss' n2' n3' it' sl', N < t' → ((∃ j, findT x.1 act = some j ∧ act' = act.eraseIdx j ∧ miss' = miss) ∨ (findT x.1 act = none ∧ act' = act ∧ miss' = miss ++ [x])) → FrOk A h' → Starts (kt0 w.params) h' (uAs e a f m) (uXs (rs.map strV) (act'.map strV) (miss'.map strV) (n1 + 1) n2' n3' (uFr hs k e a m (some it') sl')) →
   KeepB true h h' (uAs e a f m) → codeAny (model pw (wf w r)) A (uC w.params f) R ⟨h', g, d, t', os⟩) :
  codeAny (model pw (wf w r)) A (uC w.params f) R ⟨h, g, d, tok, os⟩ := by
 cases hj : findT x.1 act with
 | some j =>
  rcases it with _ | ⟨a1, a2, a3⟩
  ·refine code_w (w := wf w r) (D := 70) (U := 0) (nt := false) (N := N) (ks := ks_uf (rs.map strV) (act.map strV) ((act.eraseIdx j).map strV) n1 n2 (strV x) rs.length) (cur := []) (as := uAs e a f m) (xs := uXs (rs.map strV ++ [strV x]) (act.map strV) (miss.map strV) n1 n2 n3 (uFr hs k e a m none sl)) (n := 2000) (ce := decs [Ndx, Nie]) (e := 0) (s := 0) (i := 2) (bi := []) (res := fun Y => .cut (uC w.params f))
    (ys := fun Y => uXs (rs.map strV) ((act.eraseIdx j).map strV) (miss.map strV) (n1 + 1) (n2 + 1) n3 (uFr hs k e a m (some (hashZ w.params (o "item"), Y.tk 1, strV x)) sl)) (zs := fun _ => []) nilA (dle ‹_›) (fun q => by cases q) ks_uf_wf (ks_uf_ok rfl hrs hact hj) S rfl h1 (.inl rfl) (fun _ => rfl) (fun _ => rfl) nilA .nil ?_ ?_
   ·intro bf Y
    cases r <;> kernel_rfl
   ·intro Y h' t' ht' hy Wn
    exact go h' t' (act.eraseIdx j) miss _ _ _ _ ht' (.inl ⟨j, hj, rfl, rfl⟩) (F.went (P := (wf w r).params) S Wn (by kernel_rfl)) Wn.fst Wn.K.up
  ·refine code_w (w := wf w r) (D := 70) (U := 0) (nt := false) (N := N) (ks := ks_uf (rs.map strV) (act.map strV) ((act.eraseIdx j).map strV) n1 n2 (strV x) rs.length) (cur := []) (as := uAs e a f m) (xs := uXs (rs.map strV ++ [strV x]) (act.map strV) (miss.map strV) n1 n2 n3 (uFr hs k e a m (some (a1, a2, a3)) sl)) (n := 2000) (ce := decs [Ndx, Nie]) (e := 0) (s := 0) (i := 2) (bi := []) (res := fun Y => .cut (uC w.params f))
    (ys := fun Y => uXs (rs.map strV) ((act.eraseIdx j).map strV) (miss.map strV) (n1 + 1) (n2 + 1) n3 (uFr hs k e a m (some (a1, a2, strV x)) sl)) (zs := fun _ => []) nilA (dle ‹_›) (fun q => by cases q) ks_uf_wf (ks_uf_ok rfl hrs hact hj) S rfl h1 (.inl rfl) (fun _ => rfl) (fun _ => rfl) nilA .nil ?_ ?_
   ·intro bf Y
    cases r <;> kernel_rfl
   ·intro Y h' t' ht' hy Wn
    exact go h' t' (act.eraseIdx j) miss _ _ _ _ ht' (.inl ⟨j, hj, rfl, rfl⟩) (F.went (P := (wf w r).params) S Wn (by kernel_rfl)) Wn.fst Wn.K.up
 | none =>
  have em : miss.map strV ++ [strV x] = (miss ++ [x]).map strV := by simp
  rcases it with _ | ⟨a1, a2, a3⟩
  ·refine code_w (w := wf w r) (D := 70) (U := 0) (nt := true) (N := N) (ks := ks_un w.params (rs.map strV) (act.map strV) (miss.map strV) n1 n2 n3 (strV x) rs.length) (cur := [f]) (as := uAs e a f m) (xs := uXs (rs.map strV ++ [strV x]) (act.map strV) (miss.map strV) n1 n2 n3 (uFr hs k e a m none sl)) (n := 2000) (ce := decs [Ndx, Nif, Nig]) (e := 1000) (s := 1) (i := 3) (bi := []) (res := fun Y => .cut (uC w.params f))
    (ys := fun Y => uXs (rs.map strV) (act.map strV) (miss.map strV ++ [strV x]) (n1 + 1) n2 (n3 + 1) (uFr hs k e a m (some (hashZ w.params (o "item"), Y.tk 1, strV x)) (Y.sl 0 2))) (zs := fun _ => []) (fun f' hf => by rw [List.mem_singleton] at hf; exact hf ▸ I) (by omega) (fun _ => F) ks_un_wf (ks_un_ok rfl hrs hmiss hj) S rfl h1 (.inr rfl) (fun _ => rfl) (fun _ => rfl) nilA .nil ?_ ?_
   ·intro bf Y
    rw [hh]
    cases r <;> kernel_rfl
   ·intro Y h' t' ht' hy Wn
    refine go h' t' act (miss ++ [x]) n2 (n3 + 1) (hashZ w.params (o "item"), Y.tk 1, strV x) (Y.sl 0 2) ht' (.inr ⟨hj, rfl, rfl⟩) (F.went (P := (wf w r).params) S Wn (by kernel_rfl)) ?_ Wn.K
    rw [← em]
    exact Wn.fst
  ·refine code_w (w := wf w r) (D := 70) (U := 0) (nt := true) (N := N) (ks := ks_un w.params (rs.map strV) (act.map strV) (miss.map strV) n1 n2 n3 (strV x) rs.length) (cur := [f]) (as := uAs e a f m) (xs := uXs (rs.map strV ++ [strV x]) (act.map strV) (miss.map strV) n1 n2 n3 (uFr hs k e a m (some (a1, a2, a3)) sl)) (n := 2000) (ce := decs [Ndx, Nif, Nig]) (e := 1000) (s := 1) (i := 3) (bi := []) (res := fun Y => .cut (uC w.params f))
    (ys := fun Y => uXs (rs.map strV) (act.map strV) (miss.map strV ++ [strV x]) (n1 + 1) n2 (n3 + 1) (uFr hs k e a m (some (a1, a2, strV x)) (Y.sl 0 2))) (zs := fun _ => []) (fun f' hf => by rw [List.mem_singleton] at hf; exact hf ▸ I) (by omega) (fun _ => F) ks_un_wf (ks_un_ok rfl hrs hmiss hj) S rfl h1 (.inr rfl) (fun _ => rfl) (fun _ => rfl) nilA .nil ?_ ?_
   ·intro bf Y
    rw [hh]
    cases r <;> kernel_rfl
   ·intro Y h' t' ht' hy Wn
    refine go h' t' act (miss ++ [x]) n2 (n3 + 1) (a1, a2, strV x) (Y.sl 0 2) ht' (.inr ⟨hj, rfl, rfl⟩) (F.went (P := (wf w r).params) S Wn (by kernel_rfl)) ?_ Wn.K
    rw [← em]
    exact Wn.fst
theorem uld_hit {x : Str × Tok} {r act : List (Str × Tok)} {j : Nat} (hj : findT x.1 act = some j) : uld (x :: r) act = uld r (act.eraseIdx j) := by
 show (match findT x.1 act with | some j => uld r (act.eraseIdx j) | none => ((uld r act).1, x :: (uld r act).2)) = _
 rw [hj]
theorem uld_miss {x : Str × Tok} {r act : List (Str × Tok)} (hj : findT x.1 act = none) : uld (x :: r) act = ((uld r act).1, x :: (uld r act).2) := by
 show (match findT x.1 act with | some j => uld r (act.eraseIdx j) | none => ((uld r act).1, x :: (uld r act).2)) = _
 rw [hj]
theorem erase_len {α : Type} {l : List α} {j : Nat} : (l.eraseIdx j).length ≤ l.length := by
 rw [List.length_eraseIdx]
 split <;> omega
theorem uld_loop {N : Nat} {w : World} {r : Bool} {A : Around} (hr : A.depth + 140 ≤ recursionLimit) (hh : A.handled = none) {g : Array GenState} {d : Drawn} {os : OsState} {e a f m : Addr} (I : InFr A f) {R : Result → Shared → Prop} :
  ∀ (rs : List (Str × Tok)) {act miss : List (Str × Tok)} {n1 n2 n3 : Nat} (hrs : rs.length + miss.length < 999999) (hact : act.length < 1000000)
   {hs : Nat → Int} {k : Nat → Tok} {it : Option (Int × Tok × Value)} {sl : Array (Option Value)} {h : Heap} {tok : Nat} (F : FrOk A h) (h1 : N < tok)
   (S : Starts (kt0 w.params) h (uAs e a f m) (uXs (rs.reverse.map strV) (act.map strV) (miss.map strV) n1 n2 n3 (uFr hs k e a m it sl)))
   (fin : ∀ h' t' n1' n2' n3' it' sl', N < t' → FrOk A h' → Starts (kt0 w.params) h' (uAs e a f m) (uXs [] ((uld rs act).1.map strV) ((miss ++ (uld rs act).2).map strV) n1' n2' n3' (uFr hs k e a m it' sl')) → KeepB true h h' (uAs e a f m) → R (.ok .next) ⟨h', g, d, t', os⟩),
   codeAny (model pw (wf w r)) A (uC w.params f) R ⟨h, g, d, tok, os⟩
 | [], act, miss, n1, n2, n3, hrs, hact, hs, k, it, sl, h, tok, F, h1, S, fin => by
  have S : Starts (kt0 w.params) h (uAs e a f m) (uXs [] (act.map strV) (miss.map strV) n1 n2 n3 (uFr hs k e a m it sl)) := S
  have key : ∀ h' t', N < t' → (∀ (Y : Dyn), Went (wf w r).params false h h' (uAs e a f m) ([].map Y.adr) (uXs [] (act.map strV) (miss.map strV) n1 n2 n3 (uFr hs k e a m it sl)) [] → FrOk A h' → R (.ok .next) ⟨h', g, d, t', os⟩) := fun h' t' ht' Y Wn F' => by
   refine fin h' t' n1 n2 n3 it sl ht' F' ?_ Wn.K.up
   have z : miss ++ (uld [] act).2 = miss := by simp [uld]
   rw [z]
   exact Wn.fst
  rcases it with _ | ⟨a1, a2, a3⟩
  ·refine code_w (w := wf w r) (D := 70) (U := 0) (nt := false) (N := N) (ks := [(kLLen [0] [] n1 0).q]) (cur := []) (as := uAs e a f m) (xs := uXs [] (act.map strV) (miss.map strV) n1 n2 n3 (uFr hs k e a m none sl)) (n := 2000) (ce := decs [17184065539]) (e := 0) (s := 0) (i := 1) (bi := []) (res := fun Y => .res (.ok .next))
    (ys := fun Y => uXs [] (act.map strV) (miss.map strV) n1 n2 n3 (uFr hs k e a m none sl)) (zs := fun _ => []) nilA (dle ‹_›) (fun q => by cases q) (fun k hk q' => ?_) (fun k hk q' => ?_) S rfl h1 (.inl rfl) (fun _ => rfl) (fun _ => rfl) nilA .nil ?_ ?_
   ·rw [List.mem_singleton] at hk; subst hk; exact kLLen_wf (by decide) rfl
   ·rw [List.mem_singleton] at hk; subst hk; exact kLLen_ok (gp := sameG N g d os) rfl rfl (by decide) rfl
   ·intro bf Y
    cases r <;> kernel_rfl
   ·intro Y h' t' ht' hy Wn
    exact key h' t' ht' Y Wn (F.went (P := (wf w r).params) S Wn (by kernel_rfl))
  ·refine code_w (w := wf w r) (D := 70) (U := 0) (nt := false) (N := N) (ks := [(kLLen [0] [] n1 0).q]) (cur := []) (as := uAs e a f m) (xs := uXs [] (act.map strV) (miss.map strV) n1 n2 n3 (uFr hs k e a m (some (a1, a2, a3)) sl)) (n := 2000) (ce := decs [17184065539]) (e := 0) (s := 0) (i := 1) (bi := []) (res := fun Y => .res (.ok .next))
    (ys := fun Y => uXs [] (act.map strV) (miss.map strV) n1 n2 n3 (uFr hs k e a m (some (a1, a2, a3)) sl)) (zs := fun _ => []) nilA (dle ‹_›) (fun q => by cases q) (fun k hk q' => ?_) (fun k hk q' => ?_) S rfl h1 (.inl rfl) (fun _ => rfl) (fun _ => rfl) nilA .nil ?_ ?_
   ·rw [List.mem_singleton] at hk; subst hk; exact kLLen_wf (by decide) rfl
   ·rw [List.mem_singleton] at hk; subst hk; exact kLLen_ok (gp := sameG N g d os) rfl rfl (by decide) rfl
   ·intro bf Y
    cases r <;> kernel_rfl
   ·intro Y h' t' ht' hy Wn
    exact key h' t' ht' Y Wn (F.went (P := (wf w r).params) S Wn (by kernel_rfl))
 | x :: rs, act, miss, n1, n2, n3, hrs, hact, hs, k, it, sl, h, tok, F, h1, S, fin => by
  simp only [List.length_cons] at hrs
  have er : (x :: rs).reverse.map strV = rs.reverse.map strV ++ [strV x] := by simp
  rw [er] at S
  refine uld_turn hr hh I (rs := rs.reverse) (by simp; omega) hact (by omega) F h1 S fun h' t' act' miss' n2' n3' it' sl' ht' hc F' S' K' => ?_
  have e1 : (uld (x :: rs) act).1 = (uld rs act').1 ∧ miss ++ (uld (x :: rs) act).2 = miss' ++ (uld rs act').2 := by
   rcases hc with ⟨j, hj, rfl, rfl⟩ | ⟨hj, rfl, rfl⟩
   ·rw [uld_hit hj]; exact ⟨rfl, rfl⟩
   ·rw [uld_miss hj]; exact ⟨rfl, by simp⟩
  have l1 : act'.length ≤ act.length ∧ miss'.length ≤ miss.length + 1 := by
   rcases hc with ⟨j, hj, rfl, rfl⟩ | ⟨hj, rfl, rfl⟩
   ·exact ⟨erase_len, by omega⟩
   ·exact ⟨Nat.le_refl _, by simp⟩
  refine uld_loop hr hh I rs (by omega) (by omega) F' ht' S' fun h'' t'' n1' n2'' n3'' it'' sl'' a1 a2 a3 a4 => fin h'' t'' n1' n2'' n3'' it'' sl'' a1 a2 ?_ (K'.transT a4)
  rw [e1.1, e1.2]
  exact a3
noncomputable abbrev uA (A : Around) (P : Params) (f : Addr) : Around := (A.under (uF P f)).mark none
theorem uA_handled {A : Around} {P : Params} {f : Addr} (h : A.handled = none) : (uA A P f).handled = none := by
 show (none : Option Value).or A.handled = none
 rw [h]
 rfl
theorem uA_depth {A : Around} {P : Params} {f : Addr} : (uA A P f).depth ≤ A.depth + 3 := by
 show A.depth + (uF P f).weight ≤ A.depth + 3
 have : (uF P f).weight ≤ 3 := by
  have e : (uF P f).weight = 1 := by kernel_rfl
  omega
 omega
theorem uA_fr {A : Around} {P : Params} {f : Addr} {h : Heap} (F : FrOk A h) {x : Obj} (e : h.get? f = some x) (hx : isFr x = true) : FrOk (uA A P f) h ∧ InFr (uA A P f) f := by
 obtain ⟨es, e1, e2⟩ := F
 have e3 : (uA A P f).frames = some (envFn (o779 P) 779 f :: es) := by
  show pushEnvs (uF P f).envs A.frames = _
  rw [e1, pushEnvs_eq]
  rfl
 refine ⟨⟨_, e3, fun env he => ?_⟩, _, e3, _, .head _, by kernel_rfl⟩
 rcases List.mem_cons.mp he with rfl | he
 ·exact ⟨by kernel_rfl, f, x, by kernel_rfl, e, hx⟩
 ·exact e2 env he
theorem uFr_is {hh k e a m it sl} : isFr (uFr hh k e a m it sl) = true := by kernel_rfl
theorem FrOk.back2 {A : Around} {P : Params} {f : Addr} {h h' : Heap} (F : FrOk A h) (F' : FrOk (uA A P f) h') : FrOk A h' := by
 obtain ⟨es, e1, _⟩ := F
 obtain ⟨es', e3, e4⟩ := F'
 have e5 : (uA A P f).frames = some (envFn (o779 P) 779 f :: es) := by
  show pushEnvs (uF P f).envs A.frames = _
  rw [e1, pushEnvs_eq]
  rfl
 rw [e5] at e3
 cases e3
 exact ⟨es, e1, fun env he => e4 env (.tail _ he)⟩
noncomputable def hsU (P : Params) : Nat → Int
 | 0 => hashZ P (o "expected")
 | 1 => hashZ P (o "actual")
 | _ => hashZ P (o "missing")
noncomputable def kU (a b c : Tok) : Nat → Tok
 | 0 => a
 | 1 => b
 | _ => c
noncomputable def uFr0 (P : Params) (a b : Tok) (e c : Addr) : Obj := ⟨.type "frame", none, .dict (Array.mk [⟨hashZ P (o "expected"), .str (o "expected") a, .ref e⟩, ⟨hashZ P (o "actual"), .str (o "actual") b, .ref c⟩]) 2, #[]⟩
noncomputable def tupO (vs : List Value) : Obj := ⟨.type "tuple", none, .seq (Array.mk vs) 0, Array.mk []⟩
theorem uld_ok {N : Nat} {w : World} {r : Bool} {A : Around} (hr : A.depth + 210 ≤ recursionLimit) (hh : A.handled = none) {g : Array GenState} {d : Drawn} {os : OsState} {e a : Addr} {rs act : List (Str × Tok)} {n1 n2 : Nat} (hrs : rs.length < 999999) (hact : act.length < 1000000)
  {h : Heap} {tok : Nat} (F : FrOk A h) (h1 : N < tok) (S : Starts (kt0 w.params) h [e, a] [lstO (rs.reverse.map strV) n1, lstO (act.map strV) n2]) {R : Result → Shared → Prop}
  (fin : ∀ h' t' n1' n2' n3' m u, N < t' → FrOk A h' → Starts (kt0 w.params) h' [e, a, m, u] [lstO [] n1', lstO ((uld rs act).1.map strV) n2', lstO ((uld rs act).2.map strV) n3', tupO [.ref m, .ref a]] → KeepB true h h' [e, a] → h.objs.size ≤ m → h.objs.size ≤ u → R (.ok (.ret (.ref u))) ⟨h', g, d, t', os⟩) :
  codeAny (model pw (wf w r)) A (.call (.ref 779) ⟨[.ref e, .ref a], []⟩) R ⟨h, g, d, tok, os⟩ := by
 refine code_w (w := wf w r) (D := 70) (U := 0) (nt := false) (N := N) (ks := []) (cur := []) (as := [e, a]) (xs := [lstO (rs.reverse.map strV) n1, lstO (act.map strV) n2]) (n := 2000) (e := 1) (ce := decs [17609804012853251]) (s := 0) (i := 2) (bi := [2]) (ys := fun _ => [lstO (rs.reverse.map strV) n1, lstO (act.map strV) n2]) (zs := fun Y => [uFr0 w.params (Y.tk 0) (Y.tk 1) e a]) (res := fun Y => .cut (uF w.params (Y.adr 2)))
  nilA (dle ‹_›) (fun q => by cases q) nilA nilA S rfl h1 (.inl rfl) (fun _ => rfl) (fun _ => rfl) (ge_one (by show 2 ≤ 2; decide)) (by decide) ?_ fun Y h1' t1 ht1 hy1 W1 => ?_
 ·intro bf Y
  cases r <;> kernel_rfl
 have S1 : Starts (kt0 w.params) h1' [e, a, Y.adr 2] [lstO (rs.reverse.map strV) n1, lstO (act.map strV) n2, uFr0 w.params (Y.tk 0) (Y.tk 1) e a] := W1.S
 have F1 : FrOk A h1' := F.went (P := (wf w r).params) S W1 (by kernel_rfl)
 have new1 : h.objs.size ≤ Y.adr 2 := W1.new _ (.head _)
 generalize Y.adr 2 = f at S1 new1 W1
 refine code_piece (w := wf w r) (D := 70) (U := 0) (e := 0) (by omega) rfl S1.base ?_
 refine call_w (w := wf w r) (D := 70) (U := 0) (nt := false) (N := N) (ks := []) (cur := []) (as := [e, a, f]) (xs := [lstO (rs.reverse.map strV) n1, lstO (act.map strV) n2, uFr0 w.params (Y.tk 0) (Y.tk 1) e a]) (n := 2000) (ce := decs [4206893059]) (s := 0) (i := 1) (bi := [3])
  (c' := fun _ => uC w.params f) (ys := fun Y2 => [lstO (rs.reverse.map strV) n1, lstO (act.map strV) n2, uFr (hsU w.params) (kU (Y.tk 0) (Y.tk 1) (Y2.tk 0)) e a (Y2.adr 3) none #[]]) (zs := fun _ => [lstO [] 0])
  nilA (dle ‹_›) (fun q => by cases q) nilA nilA S1 rfl ht1 (.inl rfl) (fun _ => rfl) (fun _ => rfl) (ge_one (by show 3 ≤ 3; decide)) (by decide) ?_ fun Y2 h2 t2 ht2 _ W2 => ?_
 ·intro bf Y2
  cases r <;> kernel_rfl
 generalize eY : Y2.pre [e, a, f] = Y2' at *
 have S2 : Starts (kt0 w.params) h2 ([e, a, f] ++ [Y2'.adr 3]) [lstO (rs.reverse.map strV) n1, lstO (act.map strV) n2, uFr (hsU w.params) (kU (Y.tk 0) (Y.tk 1) (Y2'.tk 0)) e a (Y2'.adr 3) none #[], lstO [] 0] := W2.S
 have F2 : FrOk A h2 := F1.went (P := (wf w r).params) S1 W2 (by kernel_rfl)
 have new2 : h1'.objs.size ≤ Y2'.adr 3 := W2.new _ (.head _)
 obtain ⟨F2u, I2⟩ := uA_fr (P := w.params) F2 (starts_get S2 2 rfl rfl) uFr_is
 refine uld_loop (N := N) (by have := uA_depth (A := A) (P := w.params) (f := f); omega) (uA_handled hh) I2 rs (miss := []) (by simpa using hrs) hact F2u ht2 S2 ?_
 intro h3 t3 n1' n2' n3' it' sl' ht3 F3u S3 K3
 have F3 := F2.back2 F3u
 have em : [] ++ (uld rs act).2 = (uld rs act).2 := rfl
 rw [em] at S3
 have last : ∀ (Y4 : Dyn) h4 t4, N < t4 → (h3.objs.size ≤ Y4.adr 4) → Went (wf w r).params false h3 h4 (uAs e a f (Y2'.adr 3)) ([4].map Y4.adr) (uXs [] ((uld rs act).1.map strV) ((uld rs act).2.map strV) n1' n2' n3' (uFr (hsU w.params) (kU (Y.tk 0) (Y.tk 1) (Y2'.tk 0)) e a (Y2'.adr 3) it' sl')) [tupO [.ref (Y2'.adr 3), .ref a]] → FrOk A h4 → R (.ok (.ret (.ref (Y4.adr 4)))) ⟨h4, g, d, t4, os⟩ := by
  intro Y4 h4 t4 ht4 hge W4 F4
  have S4 : Starts (kt0 w.params) h4 ([e, a, f, Y2'.adr 3] ++ [Y4.adr 4]) _ := W4.S
  have z12 : h.objs.size ≤ h1'.objs.size := W1.K.size
  refine fin h4 t4 n1' n2' n3' (Y2'.adr 3) (Y4.adr 4) ht4 F4 (S4.pick [0, 1, 3, 4] (by decide) rfl rfl) ?_ (Nat.le_trans z12 new2) (Nat.le_trans z12 (Nat.le_trans W2.K.size (Nat.le_trans K3.size hge)))
  refine ((W1.K.up.comp W2.K.up fun b hb => ?_).comp K3 fun b hb => ?_).comp W4.K.up fun b hb => ?_
  ·simp only [memC, memN, or_false] at hb ⊢
   rcases hb with rfl | rfl | rfl
   ·exact .inl (.inl rfl)
   ·exact .inl (.inr rfl)
   ·exact .inr new1
  ·simp only [uAs, memC, memN, or_false] at hb ⊢
   rcases hb with rfl | rfl | rfl | rfl
   ·exact .inl (.inl rfl)
   ·exact .inl (.inr rfl)
   ·exact .inr new1
   ·exact .inr (Nat.le_trans z12 new2)
  ·simp only [uAs, memC, memN, or_false] at hb ⊢
   rcases hb with rfl | rfl | rfl | rfl
   ·exact .inl (.inl rfl)
   ·exact .inl (.inr rfl)
   ·exact .inr new1
   ·exact .inr (Nat.le_trans z12 new2)
 rcases it' with _ | ⟨a1, a2, a3⟩
 ·refine piece_w (w := wf w r) (D := 70) (U := 0) (nt := false) (N := N) (ks := []) (cur := []) (as := uAs e a f (Y2'.adr 3)) (xs := uXs [] ((uld rs act).1.map strV) ((uld rs act).2.map strV) n1' n2' n3' (uFr (hsU w.params) (kU (Y.tk 0) (Y.tk 1) (Y2'.tk 0)) e a (Y2'.adr 3) none sl')) (n := 2000) (ce := decs [6147]) (s := 0) (i := 0) (bi := [4]) (res := fun Y4 => .ok (.ret (.ref (Y4.adr 4))))
   (ys := fun Y4 => uXs [] ((uld rs act).1.map strV) ((uld rs act).2.map strV) n1' n2' n3' (uFr (hsU w.params) (kU (Y.tk 0) (Y.tk 1) (Y2'.tk 0)) e a (Y2'.adr 3) none sl')) (zs := fun _ => [tupO [.ref (Y2'.adr 3), .ref a]])
   nilA (dle ‹_›) (fun q => by cases q) nilA nilA S3 rfl ht3 (.inl rfl) (fun _ => rfl) (fun _ => rfl) (ge_one (by show 4 ≤ 4; decide)) (by decide) ?_ fun Y4 h4 t4 ht4 _ W4 => last Y4 h4 t4 ht4 (W4.new _ (.head _)) W4 (F3.went (P := (wf w r).params) S3 W4 (by kernel_rfl))
  subst eY
  intro bf Y4
  cases r <;> kernel_rfl
 ·refine piece_w (w := wf w r) (D := 70) (U := 0) (nt := false) (N := N) (ks := []) (cur := []) (as := uAs e a f (Y2'.adr 3)) (xs := uXs [] ((uld rs act).1.map strV) ((uld rs act).2.map strV) n1' n2' n3' (uFr (hsU w.params) (kU (Y.tk 0) (Y.tk 1) (Y2'.tk 0)) e a (Y2'.adr 3) (some (a1, a2, a3)) sl')) (n := 2000) (ce := decs [6147]) (s := 0) (i := 0) (bi := [4]) (res := fun Y4 => .ok (.ret (.ref (Y4.adr 4))))
   (ys := fun Y4 => uXs [] ((uld rs act).1.map strV) ((uld rs act).2.map strV) n1' n2' n3' (uFr (hsU w.params) (kU (Y.tk 0) (Y.tk 1) (Y2'.tk 0)) e a (Y2'.adr 3) (some (a1, a2, a3)) sl')) (zs := fun _ => [tupO [.ref (Y2'.adr 3), .ref a]])
   nilA (dle ‹_›) (fun q => by cases q) nilA nilA S3 rfl ht3 (.inl rfl) (fun _ => rfl) (fun _ => rfl) (ge_one (by show 4 ≤ 4; decide)) (by decide) ?_ fun Y4 h4 t4 ht4 _ W4 => last Y4 h4 t4 ht4 (W4.new _ (.head _)) W4 (F3.went (P := (wf w r).params) S3 W4 (by kernel_rfl))
  subst eY
  intro bf Y4
  cases r <;> kernel_rfl
noncomputable def lawL6 (sA nA wA qA aA lA : Addr) : List (String × Value) := [("script", .ref sA), ("numbers", .ref nA), ("words", .ref wA), ("questions", .ref qA), ("answers", .ref aA), ("left", .ref lA)]
noncomputable def lawL8 (sA nA wA qA aA lA mA oA : Addr) : List (String × Value) := [("script", .ref sA), ("numbers", .ref nA), ("words", .ref wA), ("questions", .ref qA), ("answers", .ref aA), ("left", .ref lA), ("eaten", .ref mA), ("over", .ref oA)]
noncomputable def ks_s7 (ws ls : List Value) (e1 e2 : Nat) : List HQ := [(kSlc [1, 3] [] ws e1 none none none (fun _ _ => 0) ws).q, (kSlc [2, 5] [] ls e2 none none none (fun _ _ => 0) ls).q]
theorem ks_s7_wf {ws ls e1 e2} : ∀ k' ∈ ks_s7 ws ls e1 e2, ∀ q', HKwf (k'.k q') := by
 intro k' hk q'
 simp only [ks_s7, memC, memN, or_false] at hk
 rcases hk with rfl | rfl
 ·exact kSlc_wf (by decide) rfl
 ·exact kSlc_wf (by decide) rfl
theorem ks_s7_ok {D U : Nat} {kt : KT} {w : World} {A : Around} {gp : GP} (hup : gp.up = false) {ws ls : List Value} {e1 e2 : Nat} (h1 : ws.length < 1000000) (h2 : ls.length < 1000000) : ∀ k' ∈ ks_s7 ws ls e1 e2, ∀ q', HKok D U kt w A gp (k'.k q') := by
 intro k' hk q'
 simp only [ks_s7, memC, memN, or_false] at hk
 rcases hk with rfl | rfl
 ·exact kSlc_ok hup rfl (by decide) (slicePick_all _) h1
 ·exact kSlc_ok hup rfl (by decide) (slicePick_all _) h2
theorem law_s7 {N : Nat} {w : World} {r : Bool} {A : Around} (hr : A.depth + 637 ≤ recursionLimit) (hh0 : A.handled = none) {g : Array GenState} {d : Drawn} {os : OsState} {f cK cL sA nA wA qA aA lA : Addr} {W Lf : List (Str × Tok)} {e1 e2 : Nat} (hW : W.length < 999999) (hL : Lf.length < 999999) {hh : Nat → Int} {k : Nat → Tok} {sl : Array (Option Value)}
  {h : Heap} (F : FrOk A h) {tok : Nat} (h1 : N < tok)
  (S : Starts (kt0 w.params) h [f, wA, lA] [frO hh k (lawL6 sA nA wA qA aA lA) sl, lstO (W.map strV) e1, lstO (Lf.map strV) e2]) {R : Result → Shared → Prop}
  (fin : ∀ h' t' hh' k' sl' mA oA n2 n3, N < t' → FrOk A h' →
   Starts (kt0 w.params) h' [f, wA, lA, mA, oA] [frO hh' k' (lawL8 sA nA wA qA aA lA mA oA) sl', lstO (W.map strV) e1, lstO (Lf.map strV) e2, lstO ((uld W.reverse Lf).2.map strV) n3, lstO ((uld W.reverse Lf).1.map strV) n2] →
   KeepB true h h' [f, wA, lA] → h.objs.size ≤ mA → h.objs.size ≤ oA → R (.ok .next) ⟨h', g, d, t', os⟩) :
  MeansP (wf w r) A (lawC w.params f cL cK) false [] (stmP w.params 6 (lawEnv w.params f cL cK)) R ⟨h, g, d, tok, os⟩ := by
 have lawD3 : (lawA A w.params f cL cK).depth + 210 ≤ recursionLimit := by have := lawA_depth (A := A) (P := w.params) (f := f) (cL := cL) (cK := cK); omega
 refine call_w (w := wf w r) (D := 70) (U := 0) (nt := false) (N := N) (ks := ks_s7 (W.map strV) (Lf.map strV) e1 e2) (cur := []) (as := [f, wA, lA]) (xs := [frO hh k (lawL6 sA nA wA qA aA lA) sl, lstO (W.map strV) e1, lstO (Lf.map strV) e2]) (n := 2000) (ce := decs [5460851428243345510370149271024916110510080]) (s := 0) (i := 0) (bi := [4, 6])
  (c' := fun Y => .call (.ref 779) ⟨[.ref (Y.adr 4), .ref (Y.adr 6)], []⟩)
  (ys := fun Y => [frO hh k (lawL6 sA nA wA qA aA lA) sl, lstO (W.map strV) e1, lstO (Lf.map strV) e2]) (zs := fun Y => [lstO (W.map strV) 0, lstO (Lf.map strV) 0])
  nilA (dle ‹_›) (fun q => by cases q) ks_s7_wf (ks_s7_ok rfl (by simp; omega) (by simp; omega)) S rfl h1 (.inl rfl) (fun _ => rfl) (fun _ => rfl) ?_ (by decide) ?_ fun Y h1' t1 ht1 _ W1 => ?_
 ·intro x hx
  simp only [memC, memN, or_false] at hx
  rcases hx with rfl | rfl
  ·show 3 ≤ 4; decide
  ·show 3 ≤ 6; decide
 ·intro bf Y
  cases r <;> kernel_rfl
 generalize eY : Y.pre [f, wA, lA] = Y' at *
 have S1 : Starts (kt0 w.params) h1' ([f, wA, lA] ++ [4, 6].map Y'.adr) [frO hh k (lawL6 sA nA wA qA aA lA) sl, lstO (W.map strV) e1, lstO (Lf.map strV) e2, lstO (W.map strV) 0, lstO (Lf.map strV) 0] := W1.S
 have F1 : FrOk A h1' := F.went (P := (wf w r).params) S W1 (by kernel_rfl)
 have ef1 : h1'.get? f = some (frO hh k (lawL6 sA nA wA qA aA lA) sl) := starts_get S1 0 rfl rfl
 have new2 : ∀ b ∈ [4, 6].map Y'.adr, h.objs.size ≤ b := W1.new
 have nin : ∀ {b x}, h.get? b = some x → b ∉ [Y'.adr 4, Y'.adr 6] := fun e hm => absurd (Heap.lt_size e) (Nat.not_lt.mpr (new2 _ hm))
 have S1' : Starts (kt0 w.params) h1' [Y'.adr 4, Y'.adr 6] [lstO (W.reverse.reverse.map strV) 0, lstO (Lf.map strV) 0] := by
  rw [List.reverse_reverse]
  exact S1.pick [3, 4] (by decide) rfl rfl
 refine uld_ok (N := N) lawD3 (lawA_handled hh0) (rs := W.reverse) (act := Lf) (by simpa using hW) (by omega) (lawA_fr F1 ef1 frO_fr) ht1 S1' fun h2' t2 n1' n2' n3' m u ht2 F2 S2 K2 hm hu => ?_
 have F2 := F1.back F2
 obtain ⟨sl', ef2⟩ := K2.fr f _ ef1 (nin (starts_get S 0 rfl rfl)) frO_fr
 have ef2 : h2'.get? f = some (frO hh k (lawL6 sA nA wA qA aA lA) sl') := ef2
 have ew2 : h2'.get? wA = some (lstO (W.map strV) e1) := K2.keep _ _ (starts_get S1 1 rfl rfl) (nin (starts_get S 1 rfl rfl)) (fun _ => by kernel_rfl)
 have el2 : h2'.get? lA = some (lstO (Lf.map strV) e2) := K2.keep _ _ (starts_get S1 2 rfl rfl) (nin (starts_get S 2 rfl rfl)) (fun _ => by kernel_rfl)
 have hm' : h.objs.size ≤ m := Nat.le_trans W1.K.size hm
 have hu' : h.objs.size ≤ u := Nat.le_trans W1.K.size hu
 have ha' : h.objs.size ≤ Y'.adr 6 := new2 _ (.tail _ (.head _))
 have S3 : Starts (kt0 w.params) h2' ([f, wA, lA] ++ [m, Y'.adr 6, u]) [frO hh k (lawL6 sA nA wA qA aA lA) sl', lstO (W.map strV) e1, lstO (Lf.map strV) e2, lstO ((uld W.reverse Lf).2.map strV) n3', lstO ((uld W.reverse Lf).1.map strV) n2', tupO [.ref m, .ref (Y'.adr 6)]] := by
  refine ⟨rfl, fun j a x q1 q2 => ?_, ?_, S2.base, fun a ha => ?_⟩
  ·rcases j with _ | _ | _ | _ | _ | _ | j
   ·cases q1; cases q2; exact ef2
   ·cases q1; cases q2; exact ew2
   ·cases q1; cases q2; exact el2
   ·cases q1; cases q2; exact starts_get S2 2 rfl rfl
   ·cases q1; cases q2; exact starts_get S2 1 rfl rfl
   ·cases q1; cases q2; exact starts_get S2 3 rfl rfl
   ·cases q2
  ·rw [List.nodup_append]
   have n2 := S2.nodup
   refine ⟨S.nodup, ?_, fun a ha b hb q => ?_⟩
   ·simp only [List.nodup_cons, memC, memN, or_false, not_or] at n2 ⊢
    obtain ⟨⟨_, _, _⟩, ⟨b1, b2⟩, b3, _⟩ := n2
    exact ⟨⟨fun q => b1 q.symm, b3⟩, b2, fun q => q.elim, .nil⟩
   ·obtain ⟨j, hj, rfl⟩ := List.mem_iff_getElem.mp ha
    have e1 := Heap.lt_size (S.at_ j _ _ (List.getElem?_eq_getElem hj) (List.getElem?_eq_getElem (S.len ▸ hj)))
    simp only [memC, memN, or_false] at hb
    rcases hb with hb | hb | hb
    ·exact absurd e1 (Nat.not_lt.mpr (q ▸ hb ▸ hm'))
    ·exact absurd e1 (Nat.not_lt.mpr (q ▸ hb ▸ ha'))
    ·exact absurd e1 (Nat.not_lt.mpr (q ▸ hb ▸ hu'))
  ·rcases List.mem_append.mp ha with ha | ha
   ·exact S.off a ha
   ·simp only [memC, memN, or_false] at ha
    rcases ha with rfl | rfl | rfl
    ·exact S2.off _ (.tail _ (.tail _ (.head _)))
    ·exact S2.off _ (.tail _ (.head _))
    ·exact S2.off _ (.tail _ (.tail _ (.tail _ (.head _))))
 refine piece_w (w := wf w r) (D := 70) (U := 0) (nt := false) (N := N) (ks := []) (cur := []) (as := [f, wA, lA] ++ [m, Y'.adr 6, u]) (xs := [frO hh k (lawL6 sA nA wA qA aA lA) sl', lstO (W.map strV) e1, lstO (Lf.map strV) e2, lstO ((uld W.reverse Lf).2.map strV) n3', lstO ((uld W.reverse Lf).1.map strV) n2', tupO [.ref m, .ref (Y'.adr 6)]]) (n := 2000)
  (ce := decs [327536285444071151067696230053424571142146237673478, 280768244161743231855346944661459909463336667840519, 73823022692670912519]) (s := 0) (i := 2) (bi := []) (res := fun _ => .ok .next)
  (ys := fun Y3 => [frO (put (put hh 6 (hashZ w.params (o "eaten"))) 7 (hashZ w.params (o "over"))) (put (put k 6 (Y3.tk 0)) 7 (Y3.tk 1)) (lawL8 sA nA wA qA aA lA m (Y'.adr 6)) sl', lstO (W.map strV) e1, lstO (Lf.map strV) e2, lstO ((uld W.reverse Lf).2.map strV) n3', lstO ((uld W.reverse Lf).1.map strV) n2', tupO [.ref m, .ref (Y'.adr 6)]]) (zs := fun _ => [])
  nilA (dle ‹_›) (fun q => by cases q) nilA nilA S3 rfl ht2 (.inl rfl) (fun _ => rfl) (fun _ => rfl) nilA .nil ?_ fun Y3 h3 t3 ht3 _ W3 => ?_
 ·subst eY
  intro bf Y3
  rw [hh0]
  cases r <;> kernel_rfl
 have S4 : Starts (kt0 w.params) h3 _ _ := W3.fst
 refine fin h3 t3 _ _ _ m (Y'.adr 6) n2' n3' ht3 (F2.went (P := (wf w r).params) S3 W3 (by kernel_rfl)) (S4.pick [0, 1, 2, 3, 4] (by decide) rfl rfl) ?_ hm' ha'
 refine (W1.K.up.comp K2 fun b hb => ?_).comp W3.K.up fun b hb => ?_
 ·exact .inr (new2 b hb)
 ·rcases List.mem_append.mp hb with hb | hb
  ·exact .inl hb
  ·simp only [memC, memN, or_false] at hb
   rcases hb with rfl | rfl | rfl
   ·exact .inr hm'
   ·exact .inr ha'
   ·exact .inr hu'
noncomputable abbrev noF (A : Around) : Around := { A with frames := none, guards := none }
theorem any_below {Γ : PySem.Ctx} {A : Around} (h : Γ.In A) : Γ.Below (noF A) :=
 ⟨h.1, Nat.le_trans (Nat.le_add_right _ _) h.2.1, fun l hl => (nomatch hl), fun g hg => (nomatch hg), Nat.le_trans (by show unitsOf Γ.below ≤ Γ.code.cUnits + unitsOf Γ.below; omega) h.2.2.2.2⟩
theorem any_run {w : World} {A : Around} {α : Type} {t : Sem α} {f : α → Flow} {R : Result → Shared → Prop} {s : Shared} (h : ∀ c, MeansP w (noF A) c false [] (.tree (trZ.fin t f)) R s) :
  wpAny (model pw w) A t (fun v s' => R (.ok (f v)) s') (fun e s' => R (.error e) s') s := fun Γ p hΓ => tree_run rfl (any_below hΓ) (h Γ.code) p
end
section
open PySem PySem.W PySem.W.X PySem.Spec PySem.Calls PyProof.Rows PySem.MeetsSeq
noncomputable def kLenC (ua : List Nat) (vs : List Value) (n : Nat) (m : Int) : HK :=
 mkK ua [] 1 0 false false (fun _ => []) (fun a _ => .call (.builtin "len") ⟨[.ref (a 0)], []⟩) (fun _ _ => [lstO vs n]) (fun _ _ _ _ _ _ => [lstO vs n]) (fun _ _ _ _ _ _ => []) (fun _ _ u _ _ _ => .ok (.ret (.int m (u 0))))
theorem kLenC_wf {ua vs n m} (hn : ua.Nodup) (hl : ua.length = 1) : HKwf (kLenC ua vs n m) := mk_wf hn (fun _ _ => hl.symm ▸ rfl) (fun _ _ _ _ _ _ => hl.symm ▸ rfl) fun _ _ _ _ _ _ => rfl
theorem kLenC_ok {D U : Nat} {kt : KT} {w : World} {A : Around} {gp : GP} (hup : gp.up = false) {ua vs n} {m : Int} (hl : ua.length = 1) (hv : vs.length < 1000000) (hm : (vs.length : Int) = m) : HKok D U kt w A gp (kLenC ua vs n m) :=
 mk_direct hup (fun _ _ => hl.symm ▸ rfl) (fun _ _ _ _ _ _ => hl.symm ▸ rfl) (fun _ _ _ _ _ _ => rfl) fun a t A' R' h tok g d os hA hh h1 htk hi hp C => by
  have p0 := hp 0 _ rfl
  refine code_fn kind_len plain_len entry_len (args_len1 _) (wpAny_mono (wpAny_len_body_list (items := Array.mk vs) ⟨_, p0, rfl, n, rfl⟩ (by show ((Array.mk vs).size : Int) < _; simp only [List.size_toArray]; omega) (Q := fun r s' => R' (.ok (.ret r)) s') ?_) (fun fin s' x => by obtain ⟨r, rfl, hr⟩ := x; exact ⟨r, rfl, hr⟩) fun _ _ x => x)
  have e : (((Array.mk vs).size : Nat) : Int) = m := by rw [← hm]; simp
  rw [e]
  exact C h (tok + 1 + 1) [tok + 1] [] rfl (fun u hu => by rw [List.mem_singleton] at hu; subst hu; exact Nat.lt_succ_of_lt h1) (Nat.lt_succ_of_lt (Nat.lt_succ_of_lt h1)) rfl .nil (fun j x ex => by
   match j, ex with
   | 0, ex => cases ex; exact p0) (fun c x e _ => e) (fun j x ex => by cases ex) (Nat.le_refl _)
noncomputable def rngO (a : Int) (t : Tok) (b : Int) (u v : Tok) : Obj := ⟨.type "range", none, .fields (Array.mk [.int a t, .int b u, .int 1 v]), Array.mk []⟩
noncomputable def ritO (x l : Int) : Obj := ⟨.type "range_iterator", none, .fields (Array.mk [.int x 0, .int l 0, .int 1 0]), Array.mk []⟩
noncomputable def kRNext (ua : List Nat) (x l x' l' : Int) : HK :=
 mkK ua [] 1 0 false false (fun _ => []) (fun a _ => .call (.builtin "range_iterator.__next__") ⟨[.ref (a 0)], []⟩) (fun _ _ => [ritO x l]) (fun _ _ _ _ _ _ => [ritO x' l']) (fun _ _ _ _ _ _ => []) (fun _ _ u _ _ _ => .ok (.ret (.int x (u 0))))
theorem kRNext_wf {ua x l x' l'} (hn : ua.Nodup) (hl : ua.length = 1) : HKwf (kRNext ua x l x' l') := mk_wf hn (fun _ _ => hl.symm ▸ rfl) (fun _ _ _ _ _ _ => hl.symm ▸ rfl) fun _ _ _ _ _ _ => rfl
theorem kRNext_ok {D U : Nat} {kt : KT} {w : World} {A : Around} {gp : GP} (hup : gp.up = false) {ua} {x l x' l' : Int} (hl : ua.length = 1) (h0 : 0 < l) (hx : x + 1 = x') (hl' : l - 1 = l') : HKok D U kt w A gp (kRNext ua x l x' l') :=
 mk_direct hup (fun _ _ => hl.symm ▸ rfl) (fun _ _ _ _ _ _ => hl.symm ▸ rfl) (fun _ _ _ _ _ _ => rfl) fun a t A' R' h tok g d os hA hh h1 htk hi hp C => by
  have p0 := hp 0 _ rfl
  have hT : (⟨h, g, d, tok, os⟩ : Shared).TypeIs (.ref (a 0)) "range_iterator" := ⟨_, p0, rfl⟩
  refine code_meets F.slot_range_iterator_next hT F.entry_range_iterator_next (F.args_range_iterator_next_1 _) (AutoRange.range_iterator___next___range_iterator_1 (a 0) x l 1 (by omega)) ⟨p0, ?_⟩
  subst hx
  subst hl'
  refine C _ (tok + 1) [tok] [] rfl (fun u hu => by rw [List.mem_singleton] at hu; subst hu; exact h1) (Nat.lt_succ_of_lt h1) rfl .nil (fun j x ex => by
   match j, ex with
   | 0, ex => cases ex; exact Heap.get?_update_self _ (Heap.get?_update_self _ p0 rfl) rfl) (one_keep (i := 0) ((Heap.SameBut.update ..).trans (Heap.SameBut.update ..)) (by omega)) (fun j x ex => by cases ex) (Nat.le_of_eq ((Heap.SameBut.update ..).trans (Heap.SameBut.update ..)).1.symm)
noncomputable def kREnd (ua : List Nat) (x : Int) : HK :=
 mkK ua [] 0 2 true false (fun _ => []) (fun a _ => .call (.builtin "range_iterator.__next__") ⟨[.ref (a 0)], []⟩) (fun _ _ => [ritO x 0]) (fun _ _ _ _ _ _ => [ritO x 0]) (fun _ _ _ b _ _ => [excObj "StopIteration" (.ref (b 1)) .none, tup0]) (fun _ _ _ b _ _ => .error (.ref (b 0)))
theorem kREnd_wf {ua x} (hn : ua.Nodup) (hl : ua.length = 1) : HKwf (kREnd ua x) := mk_wf hn (fun _ _ => hl.symm ▸ rfl) (fun _ _ _ _ _ _ => hl.symm ▸ rfl) fun _ _ _ _ _ _ => rfl
theorem kREnd_ok {D U : Nat} {kt : KT} {w : World} {A : Around} {gp : GP} (hup : gp.up = false) {ua} {x : Int} (hl : ua.length = 1) : HKok D U kt w A gp (kREnd ua x) :=
 mk_direct hup (fun _ _ => hl.symm ▸ rfl) (fun _ _ _ _ _ _ => hl.symm ▸ rfl) (fun _ _ _ _ _ _ => rfl) fun a t A' R' h tok g d os hA hh h1 htk hi hp C => by
  have p0 := hp 0 _ rfl
  have hT : (⟨h, g, d, tok, os⟩ : Shared).TypeIs (.ref (a 0)) "range_iterator" := ⟨_, p0, rfl⟩
  refine code_slot F.slot_range_iterator_next hT F.entry_range_iterator_next (F.args_range_iterator_next_1 _) ?_
  show wpAny _ _ (field (.ref (a 0)) 0 >>= _) _ _ _
  refine wpAny_bind (wpAny_field p0 rfl (x := .int x 0) rfl ?_)
  show wpAny _ _ (field (.ref (a 0)) 1 >>= _) _ _ _
  refine wpAny_bind (wpAny_field p0 rfl (x := .int 0 0) rfl ?_)
  show wpAny _ _ (field (.ref (a 0)) 2 >>= _) _ _ _
  refine wpAny_bind (wpAny_field p0 rfl (x := .int 1 0) rfl ?_)
  show wpAny _ _ (if (0 : Int) ≤ 0 then _ else _) _ _ _
  rw [if_pos (by decide)]
  refine wpAny_bind (wpAny_rule ?_)
  refine wpAny_bind (m := Builtin.SmallTypes.stopIteration) ?_
  show wpAny _ _ (newExc (.type "StopIteration") [] >>= _) _ _ _
  refine wpAny_bind ?_
  simp only [newExc, newTuple]
  refine wpAny_bind (wpAny_newObj_type ?_ (by size_fits))
  refine wpAny_bind (m := firstArgMember _ _) (wpAny_of_eq (a := Value.none) (by first | rfl | (simp only [firstArgMember]; rfl)) ?_)
  refine wpAny_newObj_type ?_ (by size_fits)
  simp only [raiseNew]
  refine wpAny_bind (wpAny_handled ?_)
  rw [show A'.in1.handled = none from hh rfl]
  refine wpAny_bind (wpAny_pure (wpAny_throw ?_))
  have z2 : (h.push tup0).objs.size = h.objs.size + 1 := Heap.size_push ..
  have et : (h.push tup0).get? h.objs.size = some tup0 := Heap.get?_push_size _ rfl
  exact C ((h.push tup0).push (excObj "StopIteration" (.ref h.objs.size) .none)) tok [] [(h.push tup0).objs.size, h.objs.size] rfl (fun u hu => nomatch hu) h1 rfl (by simp [z2]) (fun j x ex => by
   match j, ex with
   | 0, ex => cases ex; exact Heap.get?_push_of_some _ (Heap.get?_push_of_some _ p0)) (fun c x e q => Heap.get?_push_of_some _ (Heap.get?_push_of_some _ e)) (fun j x e => by
   match j, e with
   | 0, e => cases e; exact ⟨Heap.get?_push_size _ rfl, by show h.objs.size ≤ (h.push tup0).objs.size; omega⟩
   | 1, e => cases e; exact ⟨Heap.get?_push_of_some _ et, Nat.le_refl _⟩) (by rw [Heap.size_push]; omega)
noncomputable def kRIter (ua ut : List Nat) (a0 b0 l0 : Int) (ta tb tc : (Nat → Tok) → Tok) : HK :=
 mkK ua ut 0 1 false false (fun _ => []) (fun a _ => .call (.builtin "range.__iter__") ⟨[.ref (a 0)], []⟩) (fun _ t => [rngO a0 (ta t) b0 (tb t) (tc t)]) (fun _ t _ _ _ _ => [rngO a0 (ta t) b0 (tb t) (tc t)]) (fun _ _ _ _ _ _ => [ritO a0 l0]) (fun _ _ _ b _ _ => .ok (.ret (.ref (b 0))))
theorem kRIter_wf {ua ut a0 b0 l0 ta tb tc} (hn : ua.Nodup) (hl : ua.length = 1) : HKwf (kRIter ua ut a0 b0 l0 ta tb tc) := mk_wf hn (fun _ _ => hl.symm ▸ rfl) (fun _ _ _ _ _ _ => hl.symm ▸ rfl) fun _ _ _ _ _ _ => rfl
theorem kRIter_ok {D U : Nat} {kt : KT} {w : World} {A : Around} {gp : GP} (hup : gp.up = false) {ua ut} {a0 b0 l0 : Int} {ta tb tc} (hl : ua.length = 1) (h0 : 0 ≤ a0) (hab : a0 ≤ b0) (hb : b0 < 1000000) (he : b0 - a0 = l0) : HKok D U kt w A gp (kRIter ua ut a0 b0 l0 ta tb tc) :=
 mk_direct hup (fun _ _ => hl.symm ▸ rfl) (fun _ _ _ _ _ _ => hl.symm ▸ rfl) (fun _ _ _ _ _ _ => rfl) fun a t A' R' h tok g d os hA hh h1 htk hi hp C => by
  have p0 := hp 0 _ rfl
  have hT : (⟨h, g, d, tok, os⟩ : Shared).TypeIs (.ref (a 0)) "range" := ⟨_, p0, rfl⟩
  have hsz : Builtin.Range.rangeSize a0 b0 1 = l0 := by rw [rangeSize_one]; split <;> omega
  have fits : ∀ n : Int, -1000001 < n → n < 1000001 → Builtin.Range.rangeFitsLong n = true := fun n h1 h2 => by
   unfold Builtin.Range.rangeFitsLong
   simp only [Bool.and_eq_true, decide_eq_true_eq]
   omega
  have hsm : Builtin.Range.small a0 b0 1 = true := by
   unfold Builtin.Range.small
   rw [hsz, fits a0 (by omega) (by omega), fits b0 (by omega) (by omega), fits 1 (by decide) (by decide), fits l0 (by omega) (by omega)]
   simp only [Bool.and_true, Bool.true_and, Bool.or_eq_true]
   refine .inr ?_
   rw [if_pos (by decide)]
   exact fits _ (by omega) (by omega)
  refine code_meets F.slot_range_iter hT F.entry_range_iter (F.args_range_iter_1 _) (AutoRange.range___iter___range_1 (a 0) a0 b0 1 (ta t) (tb t) (tc t) (by have z := hsm; unfold Builtin.Range.small at z; rw [z]; decide)) ⟨p0, ?_⟩
  unfold Builtin.Range.small at hsm
  simp only [hsm, if_true]
  rw [hsz]
  exact C (h.push (ritO a0 l0)) tok [] [h.objs.size] rfl (fun u hu => nomatch hu) h1 rfl (by simp) (fun j x ex => by
   match j, ex with
   | 0, ex => cases ex; exact Heap.get?_push_of_some _ p0) (fun c x e q => Heap.get?_push_of_some _ e) (fun j x e => by
   match j, e with
   | 0, e => cases e; exact ⟨Heap.get?_push_size _ rfl, Nat.le_refl _⟩) (by rw [Heap.size_push]; omega)
noncomputable def kStrEq (ut : List Nat) (x : Str) (tx : (Nat → Tok) → Tok) (y : Str) (ty : (Nat → Tok) → Tok) (v : Bool) : HK := roK [] ut (fun _ t => .call (.builtin "str.__eq__") ⟨[.str x (tx t), .str y (ty t)], []⟩) (fun _ _ => []) (fun _ _ _ => .bool v)
theorem kStrEq_wf {ut x tx y ty v} : HKwf (kStrEq ut x tx y ty v) := roK_wf List.nodup_nil fun _ _ _ h => nomatch h
theorem kStrEq_ok {D U : Nat} {kt : KT} {w : World} {A : Around} {gp : GP} (hup : gp.up = false) {ut x tx y ty v} (h : (x.cps.toList == y.cps.toList) = v) : HKok D U kt w A gp (kStrEq ut x tx y ty v) := roK_ok fun _ t A' R' s _ h1 _ k =>
 code_gives F.slot_str_eq (typeIs_str s x _) F.entry_str_eq (F.args_str_eq_2 _ _) (gives_str_eq x y (tx t) (ty t)) (by rw [h]; exact k s.toks s.toks (GP.tk0 hup h1) (Nat.le_refl _))
end
section
open PySem PySem.W PySem.W.X PySem.Spec PySem.Calls PyProof.Rows
noncomputable abbrev pieceK (V : SV) (Y : Dyn) (n : Nat) (ce : List Nat) (c : Code) (κs : List (Result → SP)) (p : SP) (T : BT) (m : Nat) : Option Out := simR V Y n ce false c .base κs p T m 0 0 0 [] [] []
noncomputable def viewS (ws : List Nat) (r : Option Out) : Option ((Code × Code × Option Value × Bool) × List (Option Obj) × Nat × Nat) := match r with
 | some o => (match o.fin with
  | .call c c' hd md _ ks => some ((c, c', hd, md), ws.map o.T.get, o.s, o.i)
  | _ => none)
 | none => none
noncomputable def ksOf (r : Option Out) : List (Result → SP) := match r with
 | some o => (match o.fin with
  | .call _ _ _ _ _ ks => ks
  | _ => [])
 | none => []
noncomputable abbrev ChkS (ws : List Nat) (r : Option Out) (c c' : Code) (objs : List (Option Obj)) (s i : Nat) : Prop := (viewS ws r, lefts r) = (some ((c, c', none, false), objs, s, i), rights r)
section
variable {w : World} {A : Around} {D U : Nat} {nt : Bool} {ks : List HQ} {N : Nat} {cur : List Addr} {h : Heap} {g : Array GenState} {d : Drawn} {os : OsState} {tok : Nat} {as : List Addr} {xs : List Obj} {R : Result → Shared → Prop} {n : Nat} {ce : List Nat} {s i : Nat}
 {bi : List Nat} {ys zs : Dyn → List Obj} {κs : List (Result → SP)}
theorem svq_ok1 {bo : List Nat} (hcur : ∀ f ∈ cur, InFr A f) (hD : A.depth + D ≤ recursionLimit) (hf : nt = true → FrOk A h) : SVok (SVq w A.handled D U trZ.sp nt (bfN nt A) bo cur ks) w A := by
 have O' : SVok (SVz w A.handled D U trZ.sp nt (bfN nt A) bo cur []) w A := by
  cases nt with
  | true => exact svz_ok hcur spZ_ok rfl hD fun q => (hf q).fr
  | false =>
   have z := svz_ok (w := w) (A := A) (D := D) (U := U) (nt := false) (bo := bo) (hooks := []) hcur spZ_ok rfl hD (fun q => by cases q)
   exact ⟨z.den, z.sp, z.entry, z.wt, z.quiet, z.setting, z.hb, z.room, z.lim, z.ktf, (fun q => by cases q), hcur⟩
 exact ⟨O'.den, O'.sp, O'.entry, O'.wt, O'.quiet, O'.setting, O'.hb, O'.room, O'.lim, O'.ktf, O'.fr, O'.cur⟩
theorem call_s {c : Code} {p : SP} {c' : Dyn → Code} (hcur : ∀ f ∈ cur, InFr A f) (hD : A.depth + D ≤ recursionLimit) (hf : nt = true → FrOk A h)
  (W : ∀ k ∈ ks, ∀ q, HKwf (k.k q)) (ho : ∀ k ∈ ks, ∀ q, HKok D U (kt0 w.params) w A (sameG N g d os) (k.k q)) (S : Starts (kt0 w.params) h as xs) (ok : (insAll xs .nil 0).isSome = true) (h1 : N < tok)
  (hs : s = 0 ∨ nt = true) (hl : ∀ Y, as.length = (ys Y).length) (hz : ∀ Y, bi.length = (zs Y).length) (hbi : ∀ x ∈ bi, as.length ≤ x) (hbn : bi.Nodup)
  (chk : ∀ bf (Y : Dyn), ChkS (List.range as.length ++ bi) (pieceK (SVq w A.handled D U trZ.sp nt bf (boOf xs) cur ks) (Y.pre as) n ce c κs p (mkT xs) as.length) c (c' (Y.pre as)) ((ys (Y.pre as) ++ zs (Y.pre as)).map some) s i)
  (fin : ∀ (Y : Dyn) h' t', N < t' → (∀ x, x < i → N < (Y.pre as).tk x) → Went w.params nt h h' as (bi.map (Y.pre as).adr) (ys (Y.pre as)) (zs (Y.pre as)) →
   codeAny (model pw w) ((A.under c).mark none) (c' (Y.pre as)) (fun r s' => MeansP w A c false (ksOf (pieceK (SVq w A.handled D U trZ.sp nt (bfN nt A) (boOf xs) cur ks) (Y.pre as) n ce c κs p (mkT xs) as.length)) (.tree (kOf (pieceK (SVq w A.handled D U trZ.sp nt (bfN nt A) (boOf xs) cur ks) (Y.pre as) n ce c κs p (mkT xs) as.length) r)) R s') ⟨h', g, d, t', os⟩) :
  MeansP w A c false κs p R ⟨h, g, d, tok, os⟩ := by
 have K := hqs_ok (V := SVq w A.handled D U trZ.sp nt (bfN nt A) (boOf xs) cur ks) (w := w) (A := A) (h₀ := h) (m₀ := as.length) (gp := sameG N g d os) rfl W (ktf0 w.params) ho
 have hbf : ∀ f ∈ bfN nt A, ∃ x, h.get? f = some x ∧ isFr x = true := by
  cases nt with
  | true => exact (hf rfl).bf
  | false => exact fun f hf => nomatch hf
 have D0 := S.rep ok hbf (⟨fun _ => 0, fun _ => 0, fun _ => default, fun _ _ => #[], fun _ => []⟩ : Dyn)
 refine simR_sound (svq_ok1 hcur hD hf) K (fun q => by cases q) n ce false c .base κs p (mkT xs) as.length 0 0 0 [] [] [] _ h tok g d os (GP.cnt_of rfl h1) GP.tks_zero ⟨rfl, rfl, rfl⟩ (fun Y' a => ?_) D0
 have q : Y'.adr = preA as fun j => Y'.adr (j + as.length) := preA_eta as Y'.adr fun j hj => by
  rw [a.adr j hj]; exact preA_lt as _ j hj
 have q' : Y' = ({ Y' with adr := fun j => Y'.adr (j + as.length) } : Dyn).pre as := by
  cases Y' with | mk x y z u v => exact congrArg (fun f => Dyn.mk f y z u v) q
 rw [q']
 generalize ({ Y' with adr := fun j => Y'.adr (j + as.length) } : Dyn) = Y
 have F := fin Y
 obtain ⟨c1, c2⟩ := Prod.mk.inj (chk (bfN nt A) Y)
 cases er : pieceK (SVq w A.handled D U trZ.sp nt (bfN nt A) (boOf xs) cur ks) (Y.pre as) n ce c κs p (mkT xs) as.length with
 | none => rw [er] at c1; cases c1
 | some out =>
  rw [er] at c1 c2 F
  simp only [viewS] at c1
  split at c1
  ·rename_i c0 c1' hd md k ks' ef
   simp only [Option.some.injEq, Prod.mk.injEq] at c1
   obtain ⟨⟨y0, y1, y2, y3⟩, y5, y6, y7⟩ := c1
   simp only [lefts, rights, Prod.mk.injEq] at c2
   obtain ⟨z1, z2, z3⟩ := c2
   refine ⟨out, er, map_same z1, map_same z2, map_same z3, fun h' t' g' d' os' h1' hy' gg' D => ?_⟩
   obtain ⟨rfl, rfl, rfl⟩ := gg'
   rw [y6] at D
   rw [y7] at hy'
   have Wn := went_of (ys := ys (Y.pre as)) (zs := zs (Y.pre as)) S.nodup S.off D hs (hl _) (hz _) hbi hbn y5
   have F := F h' t' (h1'.2 rfl) (fun x hx => (hy'.2 rfl x hx).1) Wn
   subst y2
   subst y3
   have ek : kOf (some out) = k := by simp only [kOf, ef]
   have eks : ksOf (some out) = ks' := by simp only [ksOf, ef]
   rw [ek, eks] at F
   rw [ef]
   subst y0
   subst y1
   exact F
  ·cases c1
theorem piece_s {c : Code} {p : SP} {res : Dyn → Stop} (hcur : ∀ f ∈ cur, InFr A f) (hD : A.depth + D ≤ recursionLimit) (hf : nt = true → FrOk A h)
  (W : ∀ k ∈ ks, ∀ q, HKwf (k.k q)) (ho : ∀ k ∈ ks, ∀ q, HKok D U (kt0 w.params) w A (sameG N g d os) (k.k q)) (S : Starts (kt0 w.params) h as xs) (ok : (insAll xs .nil 0).isSome = true) (h1 : N < tok)
  (hs : s = 0 ∨ nt = true) (hl : ∀ Y, as.length = (ys Y).length) (hz : ∀ Y, bi.length = (zs Y).length) (hbi : ∀ x ∈ bi, as.length ≤ x) (hbn : bi.Nodup)
  (chk : ∀ bf (Y : Dyn), Chk (List.range as.length ++ bi) (pieceK (SVq w A.handled D U trZ.sp nt bf (boOf xs) cur ks) (Y.pre as) n ce c κs p (mkT xs) as.length) (res (Y.pre as)) ((ys (Y.pre as) ++ zs (Y.pre as)).map some) s i)
  (fin : ∀ (Y : Dyn) h' t', N < t' → (∀ x, x < i → N < Y.tk x) → Went w.params nt h h' as (bi.map Y.adr) (ys Y) (zs Y) → match res Y with | .res r => R r ⟨h', g, d, t', os⟩ | .cut c => codeAny (model pw w) A c R ⟨h', g, d, t', os⟩ | .call c c' hd md k ks => codeAny (model pw w) ((A.under c).mark hd) c' (fun r s' => MeansP w A c md ks (.tree (k r)) R s') ⟨h', g, d, t', os⟩) :
  MeansP w A c false κs p R ⟨h, g, d, tok, os⟩ := by
 have K := hqs_ok (V := SVq w A.handled D U trZ.sp nt (bfN nt A) (boOf xs) cur ks) (w := w) (A := A) (h₀ := h) (m₀ := as.length) (gp := sameG N g d os) rfl W (ktf0 w.params) ho
 have hbf : ∀ f ∈ bfN nt A, ∃ x, h.get? f = some x ∧ isFr x = true := by
  cases nt with
  | true => exact (hf rfl).bf
  | false => exact fun f hf => nomatch hf
 have D0 := S.rep ok hbf (⟨fun _ => 0, fun _ => 0, fun _ => default, fun _ _ => #[], fun _ => []⟩ : Dyn)
 refine simR_sound (svq_ok1 hcur hD hf) K (fun q => by cases q) n ce false c .base κs p (mkT xs) as.length 0 0 0 [] [] [] _ h tok g d os (GP.cnt_of rfl h1) GP.tks_zero ⟨rfl, rfl, rfl⟩ (fun Y' a => ?_) D0
 have q : Y'.adr = preA as fun j => Y'.adr (j + as.length) := preA_eta as Y'.adr fun j hj => by
  rw [a.adr j hj]; exact preA_lt as _ j hj
 have q' : Y' = ({ Y' with adr := fun j => Y'.adr (j + as.length) } : Dyn).pre as := by
  cases Y' with | mk x y z u v => exact congrArg (fun f => Dyn.mk f y z u v) q
 rw [q']
 generalize ({ Y' with adr := fun j => Y'.adr (j + as.length) } : Dyn) = Y
 obtain ⟨c1, c2⟩ := Prod.mk.inj (chk (bfN nt A) Y)
 obtain ⟨out, e1, e2⟩ := Option.map_eq_some_iff.mp c1
 rw [e1] at c2
 simp only [lefts, rights, Prod.mk.injEq] at c2 e2
 obtain ⟨z1, z2, z3⟩ := c2
 obtain ⟨z4, z5, z6, z7⟩ := e2
 refine ⟨out, e1, map_same z1, map_same z2, map_same z3, fun h' t' g' d' os' h1' hy' gg' D => ?_⟩
 obtain ⟨rfl, rfl, rfl⟩ := gg'
 rw [z4]
 rw [z6] at D
 rw [z7] at hy'
 exact fin (Y.pre as) h' t' (h1'.2 rfl) (fun x hx => (hy'.2 rfl x hx).1) (went_of S.nodup S.off D hs (hl _) (hz _) hbi hbn z5)
end
noncomputable def fndS (y : Str) : Nat → List (Str × Tok) → List Nat
 | _, [] => []
 | p, x :: ws => match eqTx y x with
  | true => p :: fndS y (p + 1) ws
  | false => fndS y (p + 1) ws
noncomputable def forStm (x : Obj) (i : Nat) : Stmt := match forOf (stmtsOf x) with | some (_, b, _) => (match nth b i with | some s => s | none => default) | none => default
noncomputable def fndE (P : Params) : Expr := asgV (forStm (o798 P) 0)
noncomputable def dueEnv (P : Params) (f cw cws : Addr) : Env := { envFn (o798 P) 798 f with cells := [(o "word", cw), (o "words", cws)] }
noncomputable def fEnv (P : Params) (f cw cws d : Addr) : Env := compEnvC (compSc (fndE P)) [(o "words", cws), (o "word", cw)] d (dueEnv P f cw cws)
noncomputable abbrev fnAs (it acc dd wA cw cws : Addr) : List Addr := [it, acc, dd, wA, cw, cws]
noncomputable def fnXs (W : List (Str × Tok)) (e : Nat) (wA : Addr) (y : Str) (ty : Tok) (x l : Int) (accs : List Value) (n : Nat) (loc : Option (Int × Tok × Value)) : List Obj :=
 [ritO x l, lstO accs n, oneLoc "k" loc, lstO (W.map strV) e, cellV (.str y ty), cellV (.ref wA)]
noncomputable def ks_fh (W : List (Str × Tok)) (e : Nat) (y : Str) (ty : Tok) (p : Nat) (l : Nat) (x : Str × Tok) (accs : List Value) (n : Nat) (v : Bool) : List HQ :=
 [(kRNext [0] (p : Int) ((l + 1 : Nat) : Int) ((p + 1 : Nat) : Int) (l : Int)).q, (kGetI [3] [0] (W.map strV) e (p : Int) (fun t => t 0) (strV x)).q, (kStrEq [] x.1 (fun _ => x.2) y (fun _ => ty) v).q, (kApp [1] [0] accs n (fun _ t => .int (p : Int) (t 0))).q]
theorem ks_fh_wf {W e y ty p l x accs n v} : ∀ k' ∈ ks_fh W e y ty p l x accs n v, ∀ q', HKwf (k'.k q') := by
 intro k' hk q'
 simp only [ks_fh, memC, memN, or_false] at hk
 rcases hk with rfl | rfl | rfl | rfl
 ·exact kRNext_wf (by decide) rfl
 ·exact kGetI_wf (by decide) rfl
 ·exact kStrEq_wf
 ·exact kApp_wf (by decide) rfl
theorem ks_fh_ok {D U : Nat} {kt : KT} {w : World} {A : Around} {gp : GP} (hup : gp.up = false) {W : List (Str × Tok)} {e : Nat} {y : Str} {ty : Tok} {p l : Nat} {x : Str × Tok} {accs : List Value} {n : Nat} {v : Bool} (hx : W[p]? = some x) (hW : W.length < 1000000) (ha : accs.length < 1000000) (hv : eqTx y x = v) :
  ∀ k' ∈ ks_fh W e y ty p l x accs n v, ∀ q', HKok D U kt w A gp (k'.k q') := by
 intro k' hk q'
 have hp : p < W.length := (List.getElem?_eq_some_iff.mp hx).1
 simp only [ks_fh, memC, memN, or_false] at hk
 rcases hk with rfl | rfl | rfl | rfl
 ·exact kRNext_ok hup rfl (by omega) (by omega) (by omega)
 ·exact kGetI_ok hup rfl (m := p) rfl (by omega) (by rw [List.getElem?_map, hx]; rfl)
 ·exact kStrEq_ok hup hv
 ·exact kApp_ok hup rfl ha
theorem fnd_turn {N : Nat} {w : World} {r : Bool} {A : Around} (hr : A.depth + 140 ≤ recursionLimit) {g : Array GenState} {d : Drawn} {os : OsState} {it acc dd wA cw cws f : Addr} {W : List (Str × Tok)} {e : Nat} {y : Str} {ty : Tok} {p l : Nat} {x : Str × Tok} (hx : W[p]? = some x) (hW : W.length < 1000000) {accs : List Value} {n : Nat} (ha : accs.length < 1000000)
  {loc : Option (Int × Tok × Value)} {h : Heap} {tok : Nat} (h1 : N < tok) (S : Starts (kt0 w.params) h (fnAs it acc dd wA cw cws) (fnXs W e wA y ty (p : Int) ((l + 1 : Nat) : Int) accs n loc)) {R : Result → Shared → Prop}
  (go : ∀ h' t' u loc', N < t' → N < u → Starts (kt0 w.params) h' (fnAs it acc dd wA cw cws) (fnXs W e wA y ty ((p + 1 : Nat) : Int) (l : Int) (match eqTx y x with | true => accs ++ [.int (p : Int) u] | false => accs) (match eqTx y x with | true => n + 1 | false => n) (some loc')) → KeepB false h h' (fnAs it acc dd wA cw cws) →
   codeAny (model pw (wf w r)) A (cmpC (fndE w.params) it acc (fEnv w.params f cw cws dd)) R ⟨h', g, d, t', os⟩) :
  codeAny (model pw (wf w r)) A (cmpC (fndE w.params) it acc (fEnv w.params f cw cws dd)) R ⟨h, g, d, tok, os⟩ := by
 cases hv : eqTx y x with
 | true =>
  rw [hv] at go
  dsimp only at go
  rcases loc with _ | ⟨a1, a2, a3⟩
  ·refine code_w (w := wf w r) (D := 70) (U := 0) (nt := false) (N := N) (ks := ks_fh W e y ty p l x accs n true) (cur := []) (as := fnAs it acc dd wA cw cws) (xs := fnXs W e wA y ty (p : Int) ((l + 1 : Nat) : Int) accs n none) (n := 2000) (ce := decs [Nih]) (e := 0) (s := 0) (i := 3) (bi := []) (res := fun Y => .cut (cmpC (fndE w.params) it acc (fEnv w.params f cw cws dd)))
    (ys := fun Y => fnXs W e wA y ty ((p + 1 : Nat) : Int) (l : Int) (accs ++ [Value.int (p : Int) (Y.tk 0)]) (n + 1) (some (hashZ w.params (o "k"), Y.tk 1, .int (p : Int) (Y.tk 0)))) (zs := fun _ => []) nilA (dle ‹_›) (fun q => by cases q) ks_fh_wf (ks_fh_ok rfl hx hW ha hv) S rfl h1 (.inl rfl) (fun _ => rfl) (fun _ => rfl) nilA .nil ?_ fun Y h' t' ht' hy Wn => go h' t' (Y.tk 0) _ ht' (hy 0 (by decide)) Wn.fst Wn.K
   intro bf Y
   cases r <;> kernel_rfl
  ·refine code_w (w := wf w r) (D := 70) (U := 0) (nt := false) (N := N) (ks := ks_fh W e y ty p l x accs n true) (cur := []) (as := fnAs it acc dd wA cw cws) (xs := fnXs W e wA y ty (p : Int) ((l + 1 : Nat) : Int) accs n (some (a1, a2, a3))) (n := 2000) (ce := decs [Nih]) (e := 0) (s := 0) (i := 3) (bi := []) (res := fun Y => .cut (cmpC (fndE w.params) it acc (fEnv w.params f cw cws dd)))
    (ys := fun Y => fnXs W e wA y ty ((p + 1 : Nat) : Int) (l : Int) (accs ++ [Value.int (p : Int) (Y.tk 0)]) (n + 1) (some (a1, a2, .int (p : Int) (Y.tk 0)))) (zs := fun _ => []) nilA (dle ‹_›) (fun q => by cases q) ks_fh_wf (ks_fh_ok rfl hx hW ha hv) S rfl h1 (.inl rfl) (fun _ => rfl) (fun _ => rfl) nilA .nil ?_ fun Y h' t' ht' hy Wn => go h' t' (Y.tk 0) _ ht' (hy 0 (by decide)) Wn.fst Wn.K
   intro bf Y
   cases r <;> kernel_rfl
 | false =>
  rw [hv] at go
  dsimp only at go
  rcases loc with _ | ⟨a1, a2, a3⟩
  ·refine code_w (w := wf w r) (D := 70) (U := 0) (nt := false) (N := N) (ks := ks_fh W e y ty p l x accs n false) (cur := []) (as := fnAs it acc dd wA cw cws) (xs := fnXs W e wA y ty (p : Int) ((l + 1 : Nat) : Int) accs n none) (n := 2000) (ce := decs [Nii]) (e := 0) (s := 0) (i := 3) (bi := []) (res := fun Y => .cut (cmpC (fndE w.params) it acc (fEnv w.params f cw cws dd)))
    (ys := fun Y => fnXs W e wA y ty ((p + 1 : Nat) : Int) (l : Int) accs n (some (hashZ w.params (o "k"), Y.tk 1, .int (p : Int) (Y.tk 0)))) (zs := fun _ => []) nilA (dle ‹_›) (fun q => by cases q) ks_fh_wf (ks_fh_ok rfl hx hW ha hv) S rfl h1 (.inl rfl) (fun _ => rfl) (fun _ => rfl) nilA .nil ?_ fun Y h' t' ht' hy Wn => go h' t' (Y.tk 0) _ ht' (hy 0 (by decide)) Wn.fst Wn.K
   intro bf Y
   cases r <;> kernel_rfl
  ·refine code_w (w := wf w r) (D := 70) (U := 0) (nt := false) (N := N) (ks := ks_fh W e y ty p l x accs n false) (cur := []) (as := fnAs it acc dd wA cw cws) (xs := fnXs W e wA y ty (p : Int) ((l + 1 : Nat) : Int) accs n (some (a1, a2, a3))) (n := 2000) (ce := decs [Nii]) (e := 0) (s := 0) (i := 3) (bi := []) (res := fun Y => .cut (cmpC (fndE w.params) it acc (fEnv w.params f cw cws dd)))
    (ys := fun Y => fnXs W e wA y ty ((p + 1 : Nat) : Int) (l : Int) accs n (some (a1, a2, .int (p : Int) (Y.tk 0)))) (zs := fun _ => []) nilA (dle ‹_›) (fun q => by cases q) ks_fh_wf (ks_fh_ok rfl hx hW ha hv) S rfl h1 (.inl rfl) (fun _ => rfl) (fun _ => rfl) nilA .nil ?_ fun Y h' t' ht' hy Wn => go h' t' (Y.tk 0) _ ht' (hy 0 (by decide)) Wn.fst Wn.K
   intro bf Y
   cases r <;> kernel_rfl
noncomputable def plcV (q : Nat × Tok) : Value := .int (q.1 : Int) q.2
theorem fnd_loop {N : Nat} {w : World} {r : Bool} {A : Around} (hr : A.depth + 140 ≤ recursionLimit) (hh : A.handled = none) {g : Array GenState} {d : Drawn} {os : OsState} {it acc dd wA cw cws f : Addr} {W : List (Str × Tok)} {e : Nat} {y : Str} {ty : Tok} (hW : W.length < 1000000) {R : Result → Shared → Prop} :
  ∀ (ws : List (Str × Tok)) (p : Nat) (hd : W.drop p = ws) (hp : p ≤ W.length) {accs : List (Nat × Tok)} (ha : accs.length ≤ p) (hu : ∀ q ∈ accs, N < q.2) {loc : Option (Int × Tok × Value)} {h : Heap} {tok : Nat} (h1 : N < tok)
   (S : Starts (kt0 w.params) h (fnAs it acc dd wA cw cws) (fnXs W e wA y ty (p : Int) (ws.length : Int) (accs.map plcV) accs.length loc))
   (fin : ∀ h' t' (accs' : List (Nat × Tok)) loc', N < t' → (∀ q ∈ accs', N < q.2) → accs'.map Prod.fst = accs.map Prod.fst ++ fndS y p ws → Starts (kt0 w.params) h' (fnAs it acc dd wA cw cws) (fnXs W e wA y ty (W.length : Int) 0 (accs'.map plcV) accs'.length loc') → KeepB false h h' (fnAs it acc dd wA cw cws) → R (.ok .next) ⟨h', g, d, t', os⟩),
   codeAny (model pw (wf w r)) A (cmpC (fndE w.params) it acc (fEnv w.params f cw cws dd)) R ⟨h, g, d, tok, os⟩
 | [], p, hd, hp, accs, ha, hu, loc, h, tok, h1, S, fin => by
  have hpl : p = W.length := by
   have z := congrArg List.length hd
   rw [List.length_drop, List.length_nil] at z
   omega
  subst hpl
  have S : Starts (kt0 w.params) h (fnAs it acc dd wA cw cws) (fnXs W e wA y ty (W.length : Int) 0 (accs.map plcV) accs.length loc) := S
  refine code_w (w := wf w r) (D := 70) (U := 0) (nt := false) (N := N) (ks := [(kREnd [0] (W.length : Int)).q]) (cur := []) (as := fnAs it acc dd wA cw cws) (xs := fnXs W e wA y ty (W.length : Int) 0 (accs.map plcV) accs.length loc) (n := 1000) (ce := decs [29364225]) (e := 0) (s := 0) (i := 0) (bi := []) (res := fun Y => .res (.ok .next))
   (ys := fun Y => fnXs W e wA y ty (W.length : Int) 0 (accs.map plcV) accs.length loc) (zs := fun _ => []) nilA (dle ‹_›) (fun q => by cases q) (fun k hk q' => ?_) (fun k hk q' => ?_) S (by cases loc <;> rfl) h1 (.inl rfl) (fun _ => rfl) (fun _ => rfl) nilA .nil ?_ ?_
  ·rw [List.mem_singleton] at hk
   subst hk
   exact kREnd_wf (by decide) rfl
  ·rw [List.mem_singleton] at hk
   subst hk
   exact kREnd_ok (gp := sameG N g d os) rfl rfl
  ·intro bf Y
   rw [hh]
   rcases loc with _ | ⟨a1, a2, a3⟩ <;> cases r <;> kernel_rfl
  ·intro Y h' t' ht' hy Wn
   exact fin h' t' accs loc ht' hu (by simp [fndS]) Wn.fst Wn.K
 | x :: ws, p, hd, hp, accs, ha, hu, loc, h, tok, h1, S, fin => by
  have hx : W[p]? = some x := by
   have z := congrArg (fun l => l[0]?) hd
   simpa using z
  have hlt : p < W.length := (List.getElem?_eq_some_iff.mp hx).1
  have hd' : W.drop (p + 1) = ws := by
   have z := congrArg List.tail hd
   rw [List.tail_drop] at z
   exact z
  refine fnd_turn (w := w) (r := r) (f := f) hr (l := ws.length) hx hW (accs := accs.map plcV) (n := accs.length) (by rw [List.length_map]; omega) h1 S fun h' t' u loc' ht' hu' S' K' => ?_
  cases hv : eqTx y x with
  | true =>
   rw [hv] at S'
   have e1 : accs.map plcV ++ [.int (p : Int) u] = (accs ++ [(p, u)]).map plcV := by simp [plcV]
   have e2 : accs.length + 1 = (accs ++ [(p, u)]).length := by simp
   rw [e1, e2] at S'
   refine fnd_loop hr hh hW ws (p + 1) hd' hlt (accs := accs ++ [(p, u)]) (by simp; omega) (fun q hq => ?_) ht' S' fun h'' t'' accs' loc'' b1 b2 b3 b4 b5 => fin h'' t'' accs' loc'' b1 b2 ?_ b4 (K'.trans0 b5)
   ·rcases List.mem_append.mp hq with hq | hq
    ·exact hu q hq
    ·rw [List.mem_singleton] at hq
     subst hq
     exact hu'
   ·rw [b3]
    have e3 : fndS y p (x :: ws) = p :: fndS y (p + 1) ws := by
     show (match eqTx y x with | true => _ | false => _) = _
     rw [hv]
    rw [e3]
    simp
  | false =>
   rw [hv] at S'
   refine fnd_loop hr hh hW ws (p + 1) hd' hlt (accs := accs) (by omega) hu ht' S' fun h'' t'' accs' loc'' b1 b2 b3 b4 b5 => fin h'' t'' accs' loc'' b1 b2 ?_ b4 (K'.trans0 b5)
   rw [b3]
   have e3 : fndS y p (x :: ws) = fndS y (p + 1) ws := by
    show (match eqTx y x with | true => _ | false => _) = _
    rw [hv]
   rw [e3]
theorem fnd_start {N : Nat} {w : World} {r q : Bool} {A : Around} (hr : A.depth + 140 ≤ recursionLimit) {g : Array GenState} {d : Drawn} {os : OsState} {it acc dd wA cw cws f : Addr} {W : List (Str × Tok)} {e : Nat} {y : Str} {ty : Tok} {p l : Int} {h : Heap} {tok : Nat} (h1 : N < tok)
  (S : Starts (kt0 w.params) h (fnAs it acc dd wA cw cws) (fnXs W e wA y ty p l [] 0 none)) {R : Result → Shared → Prop}
  (go : ∀ h' t', N < t' → Starts (kt0 w.params) h' (fnAs it acc dd wA cw cws) (fnXs W e wA y ty p l [] 0 none) → KeepB false h h' (fnAs it acc dd wA cw cws) → codeAny (model pw ((wf w r).withFollow "comprehension-iter-twice" q)) A (cmpC (fndE w.params) it acc (fEnv w.params f cw cws dd)) R ⟨h', g, d, t', os⟩) :
  codeAny (model pw ((wf w r).withFollow "comprehension-iter-twice" q)) A (cmpS (fndE w.params) it acc (fEnv w.params f cw cws dd)) R ⟨h, g, d, tok, os⟩ := by
 cases q with
 | false =>
  refine code_w (w := (wf w r).withFollow "comprehension-iter-twice" false) (D := 70) (U := 0) (nt := false) (N := N) (ks := []) (cur := []) (as := fnAs it acc dd wA cw cws) (xs := fnXs W e wA y ty p l [] 0 none) (n := 2000) (ce := decs [73860799299938653571073]) (e := 0) (s := 0) (i := 0) (bi := []) (res := fun Y => .cut (cmpC (fndE w.params) it acc (fEnv w.params f cw cws dd)))
   (ys := fun Y => fnXs W e wA y ty p l [] 0 none) (zs := fun _ => [])
   nilA (dle ‹_›) (fun q => by cases q) nilA nilA S rfl h1 (.inl rfl) (fun _ => rfl) (fun _ => rfl) nilA .nil ?_ fun Y h' t' ht' hy Wn => go h' t' ht' Wn.fst Wn.K
  intro bf Y
  cases r <;> kernel_rfl
 | true =>
  refine code_w (w := (wf w r).withFollow "comprehension-iter-twice" true) (D := 70) (U := 0) (nt := false) (N := N) (ks := []) (cur := []) (as := fnAs it acc dd wA cw cws) (xs := fnXs W e wA y ty p l [] 0 none) (n := 2000) (ce := decs [1001]) (e := 0) (s := 0) (i := 0) (bi := []) (res := fun Y => .cut (cmpC (fndE w.params) it acc (fEnv w.params f cw cws dd)))
   (ys := fun Y => fnXs W e wA y ty p l [] 0 none) (zs := fun _ => [])
   nilA (dle ‹_›) (fun q => by cases q) nilA nilA S rfl h1 (.inl rfl) (fun _ => rfl) (fun _ => rfl) nilA .nil ?_ fun Y h' t' ht' hy Wn => go h' t' ht' Wn.fst Wn.K
  intro bf Y
  cases r <;> kernel_rfl
theorem fnd_begin {N : Nat} {w : World} {r : Bool} {A : Around} (hr : A.depth + 140 ≤ recursionLimit) {g : Array GenState} {d : Drawn} {os : OsState} {it acc dd wA cw cws f : Addr} {W : List (Str × Tok)} {e : Nat} {y : Str} {ty : Tok} {p l : Int} {h : Heap} {tok : Nat} (h1 : N < tok)
  (S : Starts (kt0 w.params) h (fnAs it acc dd wA cw cws) (fnXs W e wA y ty p l [] 0 none)) {R : Result → Shared → Prop}
  (go : ∀ h' t', N < t' → Starts (kt0 w.params) h' (fnAs it acc dd wA cw cws) (fnXs W e wA y ty p l [] 0 none) → KeepB false h h' (fnAs it acc dd wA cw cws) → codeAny (model pw (wf w r)) A (cmpC (fndE w.params) it acc (fEnv w.params f cw cws dd)) R ⟨h', g, d, t', os⟩) :
  codeAny (model pw (wf w r)) A (cmpS (fndE w.params) it acc (fEnv w.params f cw cws dd)) R ⟨h, g, d, tok, os⟩ := by
 have e1 := World.withFollow_self (wf w r) "comprehension-iter-twice"
 have z := fnd_start (N := N) (w := w) (r := r) (q := (wf w r).params.followText "comprehension-iter-twice") hr (f := f) (g := g) (d := d) (os := os) h1 S (R := R) (fun h' t' a b c => by rw [e1]; exact go h' t' a b c)
 rw [e1] at z
 exact z
theorem uld_nil : ∀ (r : List (Str × Tok)), uld r [] = ([], r)
 | [] => rfl
 | x :: r => by
  rw [uld_miss (by rfl), uld_nil r]
theorem str_toList {x y : Str} (h : (x.cps.toList == y.cps.toList) = true) : x = y := by
 have h := beq_iff_eq.mp h
 cases x with | mk a => cases y with | mk b => exact congrArg Str.mk (Array.toList_inj.mp h)
theorem erase_perm : ∀ (act : List (Str × Tok)) (j : Nat) (hj : j < act.length), (act.map Prod.fst).Perm (act[j].1 :: (act.eraseIdx j).map Prod.fst)
 | x :: act, 0, _ => .refl _
 | x :: act, j + 1, hj => by
  have hj' : j < act.length := by simpa using hj
  have z := erase_perm act j hj'
  show (x.1 :: act.map Prod.fst).Perm (act[j].1 :: x.1 :: (act.eraseIdx j).map Prod.fst)
  exact (z.cons x.1).trans (.swap _ _ _)
theorem uld_suffix : ∀ (s r act : List (Str × Tok)), (act.map Prod.fst).Perm (s.map Prod.fst) → uld (s ++ r) act = ([], r)
 | [], r, act, h => by
  have z := h.eq_nil
  have : act = [] := List.map_eq_nil_iff.mp z
  subst this
  exact uld_nil r
 | x :: s, r, act, h => by
  have hm : x.1 ∈ act.map Prod.fst := h.mem_iff.mpr (.head _)
  obtain ⟨y, hy, ey⟩ := List.mem_map.mp hm
  cases hj : findT x.1 act with
  | none =>
   exfalso
   obtain ⟨m, hm', rfl⟩ := List.mem_iff_getElem.mp hy
   have z := findT_none hj m hm'
   rw [ey] at z
   simp at z
  | some j =>
   obtain ⟨hj1, hj2, _⟩ := findT_some hj
   show uld (x :: (s ++ r)) act = _
   rw [uld_hit hj]
   refine uld_suffix s r _ ?_
   have z := erase_perm act j hj1
   rw [str_toList hj2] at z
   exact (z.symm.trans h).cons_inv
theorem uld_law {W Lf : List (Str × Tok)} {p : Nat} (h : Lf.map Prod.fst = (W.drop p).map Prod.fst) : uld W.reverse Lf = ([], (W.take p).reverse) := by
 have e : W.reverse = (W.drop p).reverse ++ (W.take p).reverse := by rw [← List.reverse_append, List.take_append_drop]
 rw [e]
 refine uld_suffix _ _ _ ?_
 rw [h, List.map_reverse]
 exact (List.reverse_perm _).symm
noncomputable def fndR (y : Str) : Nat → List Nat → List Nat
 | _, [] => []
 | p, k :: ws => match txt k == y with
  | true => p :: fndR y (p + 1) ws
  | false => fndR y (p + 1) ws
theorem fndR_cnt {y : Str} : ∀ {ws : List Nat} {p : Nat}, (fndR y p ws).length = cnt y ws
 | [], p => rfl
 | k :: ws, p => by
  unfold fndR cnt
  rw [List.countP_cons]
  have z := fndR_cnt (y := y) (ws := ws) (p := p + 1)
  unfold cnt at z
  cases hv : (txt k == y) with
  | true => simp [z]
  | false => simp [z]
theorem fndR_nil {y : Str} : ∀ {ws : List Nat} {p : Nat}, fndR y p ws = [] → idx y ws = none ∧ found y ws = false ∧ after y ws = []
 | [], p, _ => ⟨rfl, rfl, rfl⟩
 | k :: ws, p, h => by
  unfold fndR at h
  cases hv : (txt k == y) with
  | true => rw [hv] at h; cases h
  | false =>
   rw [hv] at h
   obtain ⟨h1, h2, h3⟩ := fndR_nil (ws := ws) h
   refine ⟨?_, ?_, ?_⟩
   ·unfold idx; rw [hv, h1]; rfl
   ·unfold found at h2 ⊢; rw [List.any_cons, hv, h2]; rfl
   ·unfold after; rw [hv]; exact h3
theorem fndR_cons {y : Str} : ∀ {ws : List Nat} {p j : Nat} {fs : List Nat}, fndR y p ws = j :: fs → idx y ws = some (j - p) ∧ found y ws = true ∧ after y ws = ws.drop (j + 1 - p) ∧ p ≤ j ∧ j < p + ws.length
 | [], p, j, fs, h => by cases h
 | k :: ws, p, j, fs, h => by
  unfold fndR at h
  cases hv : (txt k == y) with
  | true =>
   rw [hv] at h
   obtain ⟨rfl, _⟩ := List.cons.inj h
   refine ⟨?_, ?_, ?_, Nat.le_refl _, by simp⟩
   ·unfold idx; rw [hv]; simp
   ·unfold found; rw [List.any_cons, hv]; rfl
   ·unfold after; rw [hv]; simp
  | false =>
   rw [hv] at h
   obtain ⟨h1, h2, h3, h4, h5⟩ := fndR_cons (ws := ws) h
   refine ⟨?_, ?_, ?_, by omega, by simp only [List.length_cons]; omega⟩
   ·unfold idx; rw [hv, h1]
    show some (j - (p + 1) + 1) = some (j - p)
    congr 1; omega
   ·unfold found at h2 ⊢; rw [List.any_cons, hv, h2]; rfl
   ·unfold after; rw [hv]
    show after y ws = _
    rw [h3, show j + 1 - p = (j + 1 - (p + 1)) + 1 by omega, List.drop_succ_cons]
noncomputable def dueAns (kd : Nat) (p : Nat) (fs : List Nat) : Str := match kd with
 | 0 => (match fs with | [] => o "refused" | j :: _ => nTxt ((j : Int) - (p : Int)))
 | 1 => (match fs with | [] => o "False" | _ :: _ => o "True")
 | _ => nTxt fs.length
noncomputable def duePl (kd n : Nat) (fs : List Nat) : Nat := match kd with
 | 0 => (match fs with | [] => n | j :: _ => j + 1)
 | 1 => (match fs with | [] => n | j :: _ => j + 1)
 | _ => n
noncomputable def dueA (W : List Nat) : List (Nat × Nat) → Nat → List Str
 | [], _ => []
 | (kd, k) :: r, p => dueAns kd p (fndR (txt k) p (W.drop p)) :: dueA W r (duePl kd W.length (fndR (txt k) p (W.drop p)))
noncomputable def dueP (W : List Nat) : List (Nat × Nat) → Nat → Nat
 | [], p => p
 | (kd, k) :: r, p => dueP W r (duePl kd W.length (fndR (txt k) p (W.drop p)))
theorem due_step {W : List Nat} {kd k p : Nat} (hp : p ≤ W.length) (hk : kd = 0 ∨ kd = 1 ∨ kd = 4) :
  dueAns kd p (fndR (txt k) p (W.drop p)) = ansTxt kd (txt k) (W.drop p) ∧ left4 kd (txt k) (W.drop p) = W.drop (duePl kd W.length (fndR (txt k) p (W.drop p))) ∧ duePl kd W.length (fndR (txt k) p (W.drop p)) ≤ W.length := by
 cases hf : fndR (txt k) p (W.drop p) with
 | nil =>
  obtain ⟨h1, h2, h3⟩ := fndR_nil hf
  have h4 : cnt (txt k) (W.drop p) = 0 := by rw [← fndR_cnt (p := p), hf]; rfl
  rcases hk with rfl | rfl | rfl
  ·refine ⟨?_, ?_, Nat.le_refl _⟩
   ·show o "refused" = ansTxt 0 (txt k) (W.drop p)
    unfold ansTxt; rw [h1]; rfl
   ·show after (txt k) (W.drop p) = W.drop W.length
    rw [h3, List.drop_length]
  ·refine ⟨?_, ?_, Nat.le_refl _⟩
   ·show o "False" = ansTxt 1 (txt k) (W.drop p)
    unfold ansTxt; rw [h2]; rfl
   ·show after (txt k) (W.drop p) = W.drop W.length
    rw [h3, List.drop_length]
  ·refine ⟨?_, ?_, Nat.le_refl _⟩
   ·show nTxt 0 = ansTxt 4 (txt k) (W.drop p)
    unfold ansTxt; rw [h4]; rfl
   ·show [] = W.drop W.length
    rw [List.drop_length]
 | cons j fs =>
  obtain ⟨h1, h2, h3, h4, h5⟩ := fndR_cons hf
  rw [List.length_drop] at h5
  have h6 : after (txt k) (W.drop p) = W.drop (j + 1) := by
   rw [h3, List.drop_drop]
   congr 1; omega
  rcases hk with rfl | rfl | rfl
  ·refine ⟨?_, h6, by show j + 1 ≤ W.length; omega⟩
   show nTxt ((j : Int) - (p : Int)) = ansTxt 0 (txt k) (W.drop p)
   unfold ansTxt; rw [h1]
   show nTxt ((j : Int) - (p : Int)) = nTxt ((j - p : Nat) : Int)
   congr 1; omega
  ·refine ⟨?_, h6, by show j + 1 ≤ W.length; omega⟩
   show o "True" = ansTxt 1 (txt k) (W.drop p)
   unfold ansTxt; rw [h2]; rfl
  ·refine ⟨?_, ?_, Nat.le_refl _⟩
   ·show nTxt ((j :: fs).length : Nat) = ansTxt 4 (txt k) (W.drop p)
    rw [← hf, fndR_cnt]; rfl
   ·show [] = W.drop W.length
    rw [List.drop_length]
theorem due_eq {W : List Nat} : ∀ (qs : List (Nat × Nat)) (p : Nat), p ≤ W.length → (∀ q ∈ qs, q.1 = 0 ∨ q.1 = 1 ∨ q.1 = 4) → dueA W qs p = ansF qs (W.drop p) ∧ leftF qs (W.drop p) = W.drop (dueP W qs p) ∧ dueP W qs p ≤ W.length
 | [], p, hp, _ => ⟨rfl, rfl, hp⟩
 | (kd, k) :: r, p, hp, hq => by
  obtain ⟨h1, h2, h3⟩ := due_step (k := k) hp (hq _ (.head _))
  obtain ⟨e1, e2, e3⟩ := due_eq r _ h3 fun q hq' => hq q (.tail _ hq')
  refine ⟨?_, ?_, e3⟩
  ·show _ :: _ = _ :: _
   rw [h1, e1, h2]
  ·show leftF r (left4 kd (txt k) (W.drop p)) = _
   rw [h2, e2]
   rfl
noncomputable def kOwnL (ua : List Nat) (target : Expr) (l : Addr) (i : Nat) (q : Addr) : HK :=
 {ua, ut := [], nt := 0, nn := 0, noH := false, un := false, noting := false, tgt := fun a _ => .op (.owned target (.ref (a 0)) (.ref q)), pre := fun _ _ => [(0, litO l i)], post := fun _ _ _ _ _ _ => [], news := fun _ _ _ _ _ _ => [], res := fun _ _ _ _ _ _ => .ok .next }
theorem kOwnL_wf {ua target l i q} (hn : ua.Nodup) (hl : 0 < ua.length) : HKwf (kOwnL ua target l i q) :=
 ⟨hn, fun _ _ _ _ _ _ _ h => (nomatch h), fun _ _ _ _ _ _ => List.nodup_nil, fun a t q h => (by
  cases h with
  | head => exact hl
  | tail _ h => cases h), fun _ _ _ _ _ _ => rfl⟩
theorem kOwnL_ok {D U : Nat} {kt : KT} {w : World} {A : Around} {gp : GP} {ua target l i q} (hn : IsTup target) : HKok D U kt w A gp (kOwnL ua target l i q) := by
 intro a t A' R' h tok g d os hA hh hu hno h1 ht gg hB hp ho hi K
 obtain ⟨elts, x1, pos, rfl⟩ := hn
 have p0 : h.get? (a 0) = some (litO l i) := hp (0, _) (.head _)
 refine wpAny_bind (wpAny_letOwnedTupleGo_listiter (s := ⟨h, g, d, tok, os⟩) (l := l) (i := i) ⟨_, p0, rfl, rfl⟩ (wpAny_pure ⟨_, rfl, ?_⟩))
 exact K h tok g d os [] [] [] rfl (fun u hu => nomatch hu) h1 (fun _ => Nat.le_refl _) rfl (fun _ => rfl) gg (After.refl rfl rfl rfl rfl)
theorem eqTx_txt {k j : Nat} {t : Tok} : eqTx (txt j) (txt k, t) = (txt k == txt j) := by
 unfold eqTx
 cases h : (txt k == txt j) with
 | true => rw [beq_iff_eq.mp h]; simp
 | false =>
  have z := beq_eq_false_iff_ne.mp h
  refine beq_eq_false_iff_ne.mpr fun e => z ?_
  exact str_toList (beq_iff_eq.mpr e)
theorem fndS_fndR {j : Nat} {f : Nat → Tok} : ∀ (ks : List Nat) (p : Nat), fndS (txt j) p (ks.map fun k => (txt k, f k)) = fndR (txt j) p ks
 | [], p => rfl
 | k :: ks, p => by
  rw [List.map_cons]
  unfold fndS fndR
  rw [eqTx_txt]
  cases (txt k == txt j) with
  | true => rw [fndS_fndR ks]
  | false => exact fndS_fndR ks _
noncomputable def duFr (hh : Nat → Int) (k : Nat → Tok) (qA aA : Addr) (p : Nat) (tp : Tok) (l : List (String × Value)) (sl : Array (Option Value)) : Obj := frO hh k ([("questions", .ref qA), ("answers", .ref aA), ("place", .int (p : Int) tp)] ++ l) sl
noncomputable def execSt (P : Params) (i : Nat) : Stmt := forStm (o798 P) i
noncomputable def ifElse (s : Stmt) : Stmt := match s with | .If _ _ (s :: _) _ => s | _ => default
section
variable {w : World} {A : Around} {ks : List HQ} {N : Nat} {h : Heap} {g : Array GenState} {d : Drawn} {os : OsState} {tok : Nat} {as : List Addr} {xs : List Obj} {n : Nat} {ce : List Nat} {i : Nat} {bi : List Nat} {ys zs : Dyn → List Obj}
theorem sub_w {α : Type} {t : Sem α} {f : α → Flow} {R : Result → Shared → Prop} {res : Dyn → Result} (hD : A.depth + 70 ≤ recursionLimit)
  (W : ∀ k ∈ ks, ∀ q, HKwf (k.k q)) (ho : ∀ k ∈ ks, ∀ q, HKok 70 0 (kt0 w.params) w (noF A) (sameG N g d os) (k.k q)) (S : Starts (kt0 w.params) h as xs) (ok : (insAll xs .nil 0).isSome = true) (h1 : N < tok)
  (hl : ∀ Y, as.length = (ys Y).length) (hz : ∀ Y, bi.length = (zs Y).length) (hbi : ∀ x ∈ bi, as.length ≤ x) (hbn : bi.Nodup)
  (chk : ∀ c bf (Y : Dyn), Chk (List.range as.length ++ bi) (pieceR (SVq w A.handled 70 0 trZ.sp false bf (boOf xs) [] ks) (Y.pre as) n ce c (.tree (trZ.fin t f)) (mkT xs) as.length) (.res (res (Y.pre as))) ((ys (Y.pre as) ++ zs (Y.pre as)).map some) 0 i)
  (fin : ∀ (Y : Dyn) h' t', N < t' → (∀ x, x < i → N < Y.tk x) → Went w.params false h h' as (bi.map Y.adr) (ys Y) (zs Y) → R (res Y) ⟨h', g, d, t', os⟩) :
  wpAny (model pw w) A t (fun v s' => R (.ok (f v)) s') (fun e s' => R (.error e) s') ⟨h, g, d, tok, os⟩ :=
 any_run fun c => piece_w (A := noF A) (D := 70) (U := 0) (nt := false) (cur := []) (s := 0) nilA hD (fun q => by cases q) W ho S ok h1 (.inl rfl) hl hz hbi hbn (chk c) fin
theorem trZ_evals : trZ.eval = PySem.eval ∧ trZ.isTrue = PySem.isTrue := by rw [trZ_eq]; exact ⟨rfl, rfl⟩
theorem ev_w {e : Expr} {env : Env} {Q E : Value → Shared → Prop} {v : Dyn → Value} (hD : A.depth + 70 ≤ recursionLimit)
  (W : ∀ k ∈ ks, ∀ q, HKwf (k.k q)) (ho : ∀ k ∈ ks, ∀ q, HKok 70 0 (kt0 w.params) w (noF A) (sameG N g d os) (k.k q)) (S : Starts (kt0 w.params) h as xs) (ok : (insAll xs .nil 0).isSome = true) (h1 : N < tok)
  (hl : ∀ Y, as.length = (ys Y).length) (hz : ∀ Y, bi.length = (zs Y).length) (hbi : ∀ x ∈ bi, as.length ≤ x) (hbn : bi.Nodup)
  (chk : ∀ c bf (Y : Dyn), Chk (List.range as.length ++ bi) (pieceR (SVq w A.handled 70 0 trZ.sp false bf (boOf xs) [] ks) (Y.pre as) n ce c (.tree (trZ.fin (trZ.eval e env) .ret)) (mkT xs) as.length) (.res (.ok (.ret (v (Y.pre as))))) ((ys (Y.pre as) ++ zs (Y.pre as)).map some) 0 i)
  (fin : ∀ (Y : Dyn) h' t', N < t' → (∀ x, x < i → N < Y.tk x) → Went w.params false h h' as (bi.map Y.adr) (ys Y) (zs Y) → Q (v Y) ⟨h', g, d, t', os⟩) :
  wpAny (model pw w) A (PySem.eval e env) Q E ⟨h, g, d, tok, os⟩ := by
 have z := sub_w (t := trZ.eval e env) (f := .ret) (R := fun r s' => match r with | .ok (.ret v) => Q v s' | .ok _ => False | .error e => E e s') (res := fun Y => .ok (.ret (v Y))) hD W ho S ok h1 hl hz hbi hbn chk fin
 rw [trZ_evals.1] at z
 exact z
theorem tr_w {e : Expr} {env : Env} {Q : Bool → Shared → Prop} {E : Value → Shared → Prop} {b : Bool} (hD : A.depth + 70 ≤ recursionLimit)
  (W : ∀ k ∈ ks, ∀ q, HKwf (k.k q)) (ho : ∀ k ∈ ks, ∀ q, HKok 70 0 (kt0 w.params) w (noF A) (sameG N g d os) (k.k q)) (S : Starts (kt0 w.params) h as xs) (ok : (insAll xs .nil 0).isSome = true) (h1 : N < tok)
  (hl : ∀ Y, as.length = (ys Y).length) (hz : ∀ Y, bi.length = (zs Y).length) (hbi : ∀ x ∈ bi, as.length ≤ x) (hbn : bi.Nodup)
  (chk : ∀ c bf (Y : Dyn), Chk (List.range as.length ++ bi) (pieceR (SVq w A.handled 70 0 trZ.sp false bf (boOf xs) [] ks) (Y.pre as) n ce c (.tree (trZ.fin (trZ.isTrue e env (trZ.eval e env)) fun b => .ret (.bool b))) (mkT xs) as.length) (.res (.ok (.ret (.bool b)))) ((ys (Y.pre as) ++ zs (Y.pre as)).map some) 0 i)
  (fin : ∀ (Y : Dyn) h' t', N < t' → (∀ x, x < i → N < Y.tk x) → Went w.params false h h' as (bi.map Y.adr) (ys Y) (zs Y) → Q b ⟨h', g, d, t', os⟩) :
  wpAny (model pw w) A (PySem.isTrue e env (PySem.eval e env)) Q E ⟨h, g, d, tok, os⟩ := by
 have z := sub_w (t := trZ.isTrue e env (trZ.eval e env)) (f := fun b => .ret (.bool b)) (R := fun r s' => match r with | .ok (.ret (.bool b)) => Q b s' | .ok _ => False | .error e => E e s') (res := fun Y => .ok (.ret (.bool b))) hD W ho S ok h1 hl hz hbi hbn chk fin
 rw [trZ_evals.1, trZ_evals.2] at z
 exact z
theorem st_w {env : Env} {x : Str} {v : Value} {Q : Unit → Shared → Prop} {E : Value → Shared → Prop} (hD : A.depth + 70 ≤ recursionLimit)
  (W : ∀ k ∈ ks, ∀ q, HKwf (k.k q)) (ho : ∀ k ∈ ks, ∀ q, HKok 70 0 (kt0 w.params) w (noF A) (sameG N g d os) (k.k q)) (S : Starts (kt0 w.params) h as xs) (ok : (insAll xs .nil 0).isSome = true) (h1 : N < tok)
  (hl : ∀ Y, as.length = (ys Y).length) (hz : ∀ Y, bi.length = (zs Y).length) (hbi : ∀ x ∈ bi, as.length ≤ x) (hbn : bi.Nodup)
  (chk : ∀ c bf (Y : Dyn), Chk (List.range as.length ++ bi) (pieceR (SVq w A.handled 70 0 trZ.sp false bf (boOf xs) [] ks) (Y.pre as) n ce c (.tree (trZ.fin (PySem.W.ZFast.zw7998390705656384164 env x v) fun _ => .next)) (mkT xs) as.length) (.res (.ok .next)) ((ys (Y.pre as) ++ zs (Y.pre as)).map some) 0 i)
  (fin : ∀ (Y : Dyn) h' t', N < t' → (∀ x, x < i → N < Y.tk x) → Went w.params false h h' as (bi.map Y.adr) (ys Y) (zs Y) → Q () ⟨h', g, d, t', os⟩) :
  wpAny (model pw w) A (PySem.storeName env x v) Q E ⟨h, g, d, tok, os⟩ := by
 have z := sub_w (t := PySem.W.ZFast.zw7998390705656384164 env x v) (f := fun _ => .next) (R := fun r s' => match r with | .ok .next => Q () s' | .ok _ => False | .error e => E e s') (res := fun Y => .ok .next) hD W ho S ok h1 hl hz hbi hbn chk fin
 rw [← PySem.W.ZFast.ze7998390705656384164] at z
 exact z
theorem cl_w {f : Value} {vs : List Value} {Q E : Value → Shared → Prop} {v : Dyn → Value} (hD : A.depth + 70 ≤ recursionLimit)
  (W : ∀ k ∈ ks, ∀ q, HKwf (k.k q)) (ho : ∀ k ∈ ks, ∀ q, HKok 70 0 (kt0 w.params) w (noF A) (sameG N g d os) (k.k q)) (S : Starts (kt0 w.params) h as xs) (ok : (insAll xs .nil 0).isSome = true) (h1 : N < tok)
  (hl : ∀ Y, as.length = (ys Y).length) (hz : ∀ Y, bi.length = (zs Y).length) (hbi : ∀ x ∈ bi, as.length ≤ x) (hbn : bi.Nodup)
  (chk : ∀ c bf (Y : Dyn), Chk (List.range as.length ++ bi) (pieceR (SVq w A.handled 70 0 trZ.sp false bf (boOf xs) [] ks) (Y.pre as) n ce c (.tree (trZ.fin (PySem.W.ZFast.zw11478286150595567475 f vs []) .ret)) (mkT xs) as.length) (.res (.ok (.ret (v (Y.pre as))))) ((ys (Y.pre as) ++ zs (Y.pre as)).map some) 0 i)
  (fin : ∀ (Y : Dyn) h' t', N < t' → (∀ x, x < i → N < Y.tk x) → Went w.params false h h' as (bi.map Y.adr) (ys Y) (zs Y) → Q (v Y) ⟨h', g, d, t', os⟩) :
  wpAny (model pw w) A (PySem.call f vs) Q E ⟨h, g, d, tok, os⟩ := by
 have z := sub_w (t := PySem.W.ZFast.zw11478286150595567475 f vs []) (f := .ret) (R := fun r s' => match r with | .ok (.ret v) => Q v s' | .ok _ => False | .error e => E e s') (res := fun Y => .ok (.ret (v Y))) hD W ho S ok h1 hl hz hbi hbn chk fin
 rw [← PySem.W.ZFast.ze11478286150595567475] at z
 exact z
theorem nm_w {e : Expr} {env : Env} {Q E : Value → Shared → Prop} {v : Value} (hD : A.depth + 70 ≤ recursionLimit) (S : Starts (kt0 w.params) h as xs) (ok : (insAll xs .nil 0).isSome = true) (h1 : N < tok)
  (chk : ∀ c bf (Y : Dyn), Chk (List.range as.length ++ []) (pieceR (SVq w A.handled 70 0 trZ.sp false bf (boOf xs) [] []) (Y.pre as) 1000 ce c (.tree (trZ.fin (trZ.eval e env) .ret)) (mkT xs) as.length) (.res (.ok (.ret v))) ((xs ++ []).map some) 0 0)
  (fin : ∀ h' t', N < t' → Starts (kt0 w.params) h' as xs → KeepB false h h' as → Q v ⟨h', g, d, t', os⟩) :
  wpAny (model pw w) A (PySem.eval e env) Q E ⟨h, g, d, tok, os⟩ :=
 ev_w (ks := []) (bi := []) (v := fun _ => v) (ys := fun _ => xs) (zs := fun _ => []) hD nilA nilA S ok h1 (fun _ => S.len) (fun _ => rfl) nilA .nil chk fun Y h' t' ht' _ Wn => fin h' t' ht' Wn.fst Wn.K
end
theorem isList_of {h : Heap} {a : Addr} {vs : List Value} {n : Nat} (e : h.get? a = some (lstO vs n)) : h.IsList a (Array.mk vs) := ⟨_, e, rfl, n, rfl⟩
theorem eq_nil {w : World} {A : Around} {E : Value → Shared → Prop} {s : Shared} {l b : Addr} {vs : List Value} {n m : Nat} {Q : Value → Shared → Prop} (hl : s.heap.get? l = some (lstO vs n)) (hb : s.heap.get? b = some (lstO [] m)) (hu : A.units < cLine)
  (hQ : Q (.bool vs.isEmpty) s) : wpAny (model pw w) A (compareOp .Eq (.ref l) (.ref b)) Q E s := by
 cases vs with
 | nil => exact SeqAt.eq_listAt (e := fun _ => true) (isList_of hl) (isList_of hb) rfl hu (fun j h1 _ => absurd h1 (Nat.not_lt_zero _)) hQ
 | cons v vs => exact SeqAt.eq_list_lengthsAt (isList_of hl) (isList_of hb) rfl hu hQ
theorem ne_nil {w : World} {A : Around} {E : Value → Shared → Prop} {s : Shared} {l b : Addr} {vs : List Value} {n m : Nat} {Q : Value → Shared → Prop} (hl : s.heap.get? l = some (lstO vs n)) (hb : s.heap.get? b = some (lstO [] m)) (hu : A.units < cLine)
  (hQ : Q (.bool (!vs.isEmpty)) s) : wpAny (model pw w) A (compareOp .NotEq (.ref l) (.ref b)) Q E s := by
 cases vs with
 | nil => exact SeqAt.RcNeAt.lists (e := fun _ => true) (isList_of hl) (isList_of hb) rfl hu (fun j h1 _ => absurd h1 (Nat.not_lt_zero _)) pw w E Q hQ
 | cons v vs => exact SeqAt.RcNeAt.lists_lengths (isList_of hl) (isList_of hb) rfl hu pw w E Q hQ
structure PB where
 x : Str
 xp : Pos
 t1 : Expr
 l2 : Expr
 lp : Pos
 q2 : Pos
 bq : Pos
 bx : Str
 bn : Pos
 ba : Expr
 bp : Pos
 els : Expr
 iq : Pos
 q : Pos
noncomputable def PB.st (p : PB) : Stmt := .Assign [.Name p.x p.xp] (.IfExp (.BoolOp .Or [p.t1, .Compare p.l2 [.Eq] [.List [] p.lp] p.q2] p.bq) (.Call (.Name p.bx p.bn) [p.ba] [] p.bp) p.els p.iq) p.q
noncomputable def pbOf (s : Stmt) : PB := match s with
 | .Assign [.Name x xp] (.IfExp (.BoolOp .Or [t1, .Compare l2 [.Eq] [.List [] lp] q2] bq) (.Call (.Name bx bn) [ba] [] bp) els iq) q => ⟨x, xp, t1, l2, lp, q2, bq, bx, bn, ba, bp, els, iq, q⟩
 | _ => ⟨o "", default, default, default, default, default, default, o "", default, default, default, default, default, default⟩
theorem pb_is (P : Params) : execSt P 2 = (pbOf (execSt P 2)).st := by kernel_rfl
structure PA where
 ov : Expr
 ap : Pos
 t1 : Expr
 l2 : Expr
 lp : Pos
 q2 : Pos
 rf : Expr
 sx : Str
 sn : Pos
 sa : Expr
 sp : Pos
 iq2 : Pos
 fx : Str
 fn : Pos
 l3 : Expr
 lp3 : Pos
 q3 : Pos
 cq3 : Pos
 iq1 : Pos
 cq : Pos
 sq : Pos
noncomputable def PA.e3 (p : PA) : Expr := .Compare p.l3 [.NotEq] [.List [] p.lp3] p.q3
noncomputable def PA.arg (p : PA) : Expr := .IfExp p.t1 (.IfExp (.Compare p.l2 [.Eq] [.List [] p.lp] p.q2) p.rf (.Call (.Name p.sx p.sn) [p.sa] [] p.sp) p.iq2) (.Call (.Name p.fx p.fn) [p.e3] [] p.cq3) p.iq1
noncomputable def PA.st (p : PA) : Stmt := .Expr (.Call (.Attribute p.ov (o "append") p.ap) [p.arg] [] p.cq) p.sq
noncomputable def paOf (s : Stmt) : PA := match s with
 | .Expr (.Call (.Attribute ov _ apos) [.IfExp t1 (.IfExp (.Compare l2 [.Eq] [.List [] lp] q2) rf (.Call (.Name sx sn) [sa] [] sp) iq2) (.Call (.Name fx fn) [.Compare l3 [.NotEq] [.List [] lp3] q3] [] cq3) iq1] [] cq) sq => ⟨ov, apos, t1, l2, lp, q2, rf, sx, sn, sa, sp, iq2, fx, fn, l3, lp3, q3, cq3, iq1, cq, sq⟩
 | _ => ⟨default, default, default, default, default, default, default, o "", default, default, default, default, o "", default, default, default, default, default, default, default, default⟩
noncomputable def appSt (P : Params) : Stmt := ifElse (execSt P 1)
theorem pa_is (P : Params) : appSt P = (paOf (appSt P)).st := by kernel_rfl
noncomputable def mkOp (ua ut : List Nat) (nt : Nat) (op : (Nat → Addr) → Op) (xs : XF) (ys : (Nat → Addr) → (t u : Nat → Tok) → List Obj) : HK :=
 {ua, ut, nt, nn := 0, noH := false, un := true, noting := false, tgt := fun a _ => .op (op a), pre := fun a t => (List.range ua.length).zip (xs a t), post := fun a t u _ _ _ => (List.range ua.length).zip (ys a t u), news := fun _ _ _ _ _ _ => [], res := fun _ _ _ _ _ _ => .ok .next }
section
variable {ua ut : List Nat} {nt : Nat} {op : (Nat → Addr) → Op} {xs : XF} {ys : (Nat → Addr) → (t u : Nat → Tok) → List Obj}
theorem mkOp_wf (hn : ua.Nodup) (hxs : ∀ a t, (xs a t).length = ua.length) (hys : ∀ a t u, (ys a t u).length = ua.length) : HKwf (mkOp ua ut nt op xs ys) := by
 refine ⟨hn, fun a t u b sl pl q h => ?_, fun a t u b sl pl => ?_, fun a t q h => ?_, fun _ _ _ _ _ _ => rfl⟩
 ·have z := (mem_zip_range (hys a t u)).mp h
  have hq : q.1 < ua.length := hys a t u ▸ (List.getElem?_eq_some_iff.mp z).1
  exact ⟨hq, _, (mem_zip_range (hxs a t) (q := (q.1, (xs a t)[q.1]'((hxs a t).symm ▸ hq)))).mpr (List.getElem?_eq_getElem _)⟩
 ·show (((List.range ua.length).zip (ys a t u)).map (·.1)).Nodup
  rw [zip_keys (hys ..)]
  exact List.nodup_range
 ·have z := (mem_zip_range (hxs a t)).mp h
  exact hxs a t ▸ (List.getElem?_eq_some_iff.mp z).1
theorem mkOp_ok {D U : Nat} {kt : KT} {w : World} {A : Around} {gp : GP} (hup : gp.up = false) (hxs : ∀ a t, (xs a t).length = ua.length) (hys : ∀ a t u, (ys a t u).length = ua.length)
  (H : ∀ (a : Nat → Addr) (t : Nat → Tok) (A' : Around) (R' : Result → Shared → Prop) (h : Heap) (tok : Nat) (g : Array GenState) (d : Drawn) (os : OsState), A'.depth < A.depth + D → A'.units < A.units + U → gp.n < tok → Starts kt h (rg ua.length a) (xs a t) →
   (∀ h' tok' us, us.length = nt → (∀ u ∈ us, gp.n < u) → gp.n < tok' → Starts kt h' (rg ua.length a) (ys a t (ofL us)) → KeepB false h h' (rg ua.length a) → R' (.ok .next) ⟨h', g, d, tok', os⟩) →
   wpAny (model pw w) A' (op a).tree (fun fin s' => ∃ f, fin = .done f ∧ R' (.ok f) s') (fun e s' => R' (.error e) s') ⟨h, g, d, tok, os⟩) : HKok D U kt w A gp (mkOp ua ut nt op xs ys) := by
 intro a t A' R' h tok g d os hA hh hu hno h1 htk gg hB hp ho hi C
 have S : Starts kt h (rg ua.length a) (xs a t) := starts_range (hxs a t) (fun j x ex => hp (j, x) ((mem_zip_range (hxs a t)).mpr ex)) hi hB ho
 refine H a t A' R' h tok g d os hA (hu rfl) h1 S fun h' tok' us l1 l2 l3 S' K' => ?_
 have e0 : slA (mkOp ua ut nt op xs ys) a h' = fun _ => #[] := rfl
 have z := C h' tok' g d os us [] [] l1 (fun u hu => GP.tk0 hup (l2 u hu)) l3 (GP.le0 hup) rfl (fun _ => rfl) gg
 rw [e0] at z
 refine z ⟨fun c x ec hn _ => K'.keep c x ec (fun hm => ?_) (fun q => by cases q), (fun q => by cases q), fun q hq => ?_, (fun j x ex => by cases ex), (fun i j hi => absurd hi (Nat.not_lt_zero _)), K'.size⟩
 ·obtain ⟨j, hj, rfl⟩ := rg_mem hm
  exact hn (j, (ys a t (ofL us))[j]'((hys a t (ofL us)).symm ▸ hj)) ((mem_zip_range (hys a t (ofL us))).mpr (List.getElem?_eq_getElem _)) rfl
 ·have z := (mem_zip_range (hys a t (ofL us))).mp hq
  have hj : q.1 < ua.length := hys a t (ofL us) ▸ (List.getElem?_eq_some_iff.mp z).1
  refine S'.at_ q.1 (a q.1) q.2 ?_ z
  unfold rg
  rw [List.getElem?_map, List.getElem?_range hj]
  rfl
end
noncomputable def dvXs (hs : Nat → Int) (k : Nat → Tok) (sl : Array (Option Value)) (qA : Addr) (p : Nat) (tp : Tok) (kd : Nat) (tk : Tok) (fs : List (Nat × Tok)) (eF : Nat) (W : List (Str × Tok)) (eW : Nat) (av : List Value) (nA : Nat) (a : Nat → Addr) : List Obj :=
 [duFr hs k qA (a 4) p tp [("kind", .int kd tk), ("found", .ref (a 1))] sl, lstO (fs.map plcV) eF, cellV (.ref (a 3)), lstO (W.map strV) eW, lstO av nA]
noncomputable def kPlc (P : Params) (ua ut : List Nat) (hs : Nat → Int) (k : (Nat → Tok) → Nat → Tok) (sl : Array (Option Value)) (qA cw : Addr) (p : Nat) (tp : Tok) (kd : Nat) (tk : Tok) (fs : List (Nat × Tok)) (eF : Nat) (W : List (Str × Tok)) (eW : Nat) (av : (Nat → Tok) → List Value) (nA : Nat) : HK :=
 mkOp ua ut 1 (fun a => .exec (execSt P 2) (dueEnv P (a 0) cw (a 2))) (fun a t => dvXs hs (k t) sl qA p tp kd tk fs eF W eW (av t) nA a) (fun a t u => dvXs hs (k t) sl qA (duePl kd W.length (fs.map Prod.fst)) (u 0) kd tk fs eF W eW (av t) nA a)
theorem kPlc_wf {P ua ut hs k sl qA cw p tp kd tk fs eF W eW av nA} (hn : ua.Nodup) (hl : ua.length = 5) : HKwf (kPlc P ua ut hs k sl qA cw p tp kd tk fs eF W eW av nA) := mkOp_wf hn (fun _ _ => hl.symm ▸ rfl) fun _ _ _ => hl.symm ▸ rfl
section
variable {w : World} {r : Bool} {A' : Around} {N : Nat} {h : Heap} {g : Array GenState} {d : Drawn} {os : OsState} {tok : Nat} {a : Nat → Addr} {hs : Nat → Int} {k : Nat → Tok} {sl : Array (Option Value)} {qA cw : Addr} {p : Nat} {tp : Tok} {kd : Nat} {tk : Tok} {fs : List (Nat × Tok)} {eF : Nat} {W : List (Str × Tok)} {eW : Nat} {av : List Value} {nA : Nat} {E : Value → Shared → Prop}
noncomputable abbrev pbE (P : Params) : PB := pbOf (execSt P 2)
theorem plc_t1 {b : Bool} (hb : Nat.beq kd 4 = b) (hk : kd = 0 ∨ kd = 1 ∨ kd = 4) (hD : A'.depth + 70 ≤ recursionLimit) (S : Starts (kt0 w.params) h (rg 5 a) (dvXs hs k sl qA p tp kd tk fs eF W eW av nA a)) (h1 : N < tok) {Q : Bool → Shared → Prop}
  (fin : ∀ h' t', N < t' → Starts (kt0 w.params) h' (rg 5 a) (dvXs hs k sl qA p tp kd tk fs eF W eW av nA a) → KeepB false h h' (rg 5 a) → Q b ⟨h', g, d, t', os⟩) :
  wpAny (model pw (wf w r)) A' (isTrue (pbE w.params).t1 (dueEnv w.params (a 0) cw (a 2)) (eval (pbE w.params).t1 (dueEnv w.params (a 0) cw (a 2)))) Q E ⟨h, g, d, tok, os⟩ := by
 refine tr_w (w := wf w r) (N := N) (ks := []) (n := 1000) (ce := decs [1]) (i := 1) (bi := []) (ys := fun _ => dvXs hs k sl qA p tp kd tk fs eF W eW av nA a) (zs := fun _ => []) hD nilA nilA S rfl h1 (fun _ => rfl) (fun _ => rfl) nilA .nil ?_ fun Y h' t' ht' _ Wn => fin h' t' ht' Wn.fst Wn.K
 intro c bf Y
 rcases hk with rfl | rfl | rfl <;> cases hb <;> cases r <;> kernel_rfl
theorem plc_cmp (hu : A'.units < cLine) (hD : A'.depth + 70 ≤ recursionLimit) (S : Starts (kt0 w.params) h (rg 5 a) (dvXs hs k sl qA p tp kd tk fs eF W eW av nA a)) (h1 : N < tok) {Q : Bool → Shared → Prop}
  (fin : ∀ h' t', N < t' → Starts (kt0 w.params) h' (rg 5 a) (dvXs hs k sl qA p tp kd tk fs eF W eW av nA a) → KeepB false h h' (rg 5 a) → Q fs.isEmpty ⟨h', g, d, t', os⟩) :
  wpAny (model pw (wf w r)) A' (isTrue (.Compare (pbE w.params).l2 [.Eq] [.List [] (pbE w.params).lp] (pbE w.params).q2) (dueEnv w.params (a 0) cw (a 2)) (eval (.Compare (pbE w.params).l2 [.Eq] [.List [] (pbE w.params).lp] (pbE w.params).q2) (dueEnv w.params (a 0) cw (a 2)))) Q E ⟨h, g, d, tok, os⟩ := by
 refine wpAny_isTrue_Compare1 ?_
 refine ev_w (w := wf w r) (N := N) (ks := []) (n := 1000) (ce := decs [1]) (i := 0) (bi := []) (v := fun Y => .ref (a 1)) (ys := fun _ => dvXs hs k sl qA p tp kd tk fs eF W eW av nA a) (zs := fun _ => []) hD nilA nilA S rfl h1 (fun _ => rfl) (fun _ => rfl) nilA .nil ?_ fun Y h2 t2 ht2 _ W2 => ?_
 ·intro c bf Y
  cases r <;> kernel_rfl
 have S2 : Starts (kt0 w.params) h2 (rg 5 a) (dvXs hs k sl qA p tp kd tk fs eF W eW av nA a) := W2.fst
 refine ev_w (w := wf w r) (N := N) (ks := []) (n := 1000) (ce := decs []) (i := 0) (bi := [5]) (v := fun Y => .ref (Y.adr 5)) (ys := fun _ => dvXs hs k sl qA p tp kd tk fs eF W eW av nA a) (zs := fun _ => [lstO [] 0]) hD nilA nilA S2 rfl ht2 (fun _ => rfl) (fun _ => rfl) (fun x hx => ?_) (by decide) ?_ fun Y3 h3 t3 ht3 _ W3 => ?_
 ·rw [List.mem_singleton] at hx
  subst hx
  show 5 ≤ 5
  decide
 ·intro c bf Y
  cases r <;> kernel_rfl
 have S3 : Starts (kt0 w.params) h3 (rg 5 a) (dvXs hs k sl qA p tp kd tk fs eF W eW av nA a) := W3.fst
 refine eq_nil (starts_get S3 1 rfl rfl) (W3.at2 (j := 0) rfl rfl) hu (wpAny_truthy_bool ?_)
 rw [List.isEmpty_map]
 exact fin h3 t3 ht3 S3 (W2.K.trans0 W3.K)
end
section
variable {w : World} {r : Bool} {A' : Around} {N : Nat} {h : Heap} {g : Array GenState} {d : Drawn} {os : OsState} {tok : Nat} {a : Nat → Addr} {hs : Nat → Int} {k : Nat → Tok} {sl : Array (Option Value)} {qA cw : Addr} {p : Nat} {tp : Tok} {kd : Nat} {tk : Tok} {fs : List (Nat × Tok)} {eF : Nat} {W : List (Str × Tok)} {eW : Nat} {av : List Value} {nA : Nat} {E : Value → Shared → Prop}
theorem plc_len (hW : W.length < 1000000) (hD : A'.depth + 70 ≤ recursionLimit) (S : Starts (kt0 w.params) h (rg 5 a) (dvXs hs k sl qA p tp kd tk fs eF W eW av nA a)) (h1 : N < tok) {Q : Value → Shared → Prop}
  (fin : ∀ h' t' u, N < t' → N < u → Starts (kt0 w.params) h' (rg 5 a) (dvXs hs k sl qA p tp kd tk fs eF W eW av nA a) → KeepB false h h' (rg 5 a) → Q (.int (W.length : Int) u) ⟨h', g, d, t', os⟩) :
  wpAny (model pw (wf w r)) A' (eval (.Call (.Name (pbE w.params).bx (pbE w.params).bn) [(pbE w.params).ba] [] (pbE w.params).bp) (dueEnv w.params (a 0) cw (a 2))) Q E ⟨h, g, d, tok, os⟩ := by
 refine Call_name1 (by kernel_rfl) ?_
 refine ev_w (w := wf w r) (N := N) (ks := []) (n := 1000) (ce := decs [0]) (i := 0) (bi := []) (v := fun Y => .builtin "len") (ys := fun _ => dvXs hs k sl qA p tp kd tk fs eF W eW av nA a) (zs := fun _ => []) hD nilA nilA S rfl h1 (fun _ => rfl) (fun _ => rfl) nilA .nil ?_ fun Y h2 t2 ht2 _ W2 => ?_
 ·intro c bf Y
  cases r <;> kernel_rfl
 refine callWith_builtin1 ?_
 have S2 : Starts (kt0 w.params) h2 (rg 5 a) (dvXs hs k sl qA p tp kd tk fs eF W eW av nA a) := W2.fst
 refine ev_w (w := wf w r) (N := N) (ks := []) (n := 1000) (ce := decs [3]) (i := 0) (bi := []) (v := fun Y => .ref (a 3)) (ys := fun _ => dvXs hs k sl qA p tp kd tk fs eF W eW av nA a) (zs := fun _ => []) hD nilA nilA S2 rfl ht2 (fun _ => rfl) (fun _ => rfl) nilA .nil ?_ fun Y h3 t3 ht3 _ W3 => ?_
 ·intro c bf Y
  cases r <;> kernel_rfl
 have S3 : Starts (kt0 w.params) h3 (rg 5 a) (dvXs hs k sl qA p tp kd tk fs eF W eW av nA a) := W3.fst
 refine call_len_list (isList_of (starts_get S3 3 rfl rfl)) (by show ((W.map strV).length : Int) < _; rw [List.length_map]; omega) ?_
 have z := fin h3 (t3 + 1 + 1) (t3 + 1) (Nat.lt_succ_of_lt (Nat.lt_succ_of_lt ht3)) (Nat.lt_succ_of_lt ht3) S3 (W2.K.trans0 W3.K)
 have e : ((Array.mk (W.map strV)).size : Int) = (W.length : Int) := by simp
 rw [e]
 exact z
theorem plc_els {f0 : Nat × Tok} (hD : A'.depth + 70 ≤ recursionLimit) (S : Starts (kt0 w.params) h (rg 5 a) (dvXs hs k sl qA p tp kd tk (f0 :: fs) eF W eW av nA a)) (h1 : N < tok) {Q : Value → Shared → Prop}
  (fin : ∀ h' t' u, N < t' → N < u → Starts (kt0 w.params) h' (rg 5 a) (dvXs hs k sl qA p tp kd tk (f0 :: fs) eF W eW av nA a) → KeepB false h h' (rg 5 a) → Q (.int ((f0.1 + 1 : Nat) : Int) u) ⟨h', g, d, t', os⟩) :
  wpAny (model pw (wf w r)) A' (eval (pbE w.params).els (dueEnv w.params (a 0) cw (a 2))) Q E ⟨h, g, d, tok, os⟩ := by
 refine ev_w (w := wf w r) (N := N) (ks := []) (n := 1000) (ce := decs [302231526961268519866369]) (i := 3) (bi := []) (v := fun Y => .int ((f0.1 + 1 : Nat) : Int) (Y.tk 2)) (ys := fun _ => dvXs hs k sl qA p tp kd tk (f0 :: fs) eF W eW av nA a) (zs := fun _ => []) hD nilA nilA S rfl h1 (fun _ => rfl) (fun _ => rfl) nilA .nil ?_ fun Y h' t' ht' hy Wn => fin h' t' (Y.tk 2) ht' (hy 2 (by decide)) Wn.fst Wn.K
 intro c bf Y
 cases r <;> kernel_rfl
theorem plc_st {p' : Nat} {u : Tok} (hD : A'.depth + 70 ≤ recursionLimit) (S : Starts (kt0 w.params) h (rg 5 a) (dvXs hs k sl qA p tp kd tk fs eF W eW av nA a)) (h1 : N < tok) {Q : Unit → Shared → Prop}
  (fin : ∀ h' t', N < t' → Starts (kt0 w.params) h' (rg 5 a) (dvXs hs k sl qA p' u kd tk fs eF W eW av nA a) → KeepB false h h' (rg 5 a) → Q () ⟨h', g, d, t', os⟩) :
  wpAny (model pw (wf w r)) A' (storeName (dueEnv w.params (a 0) cw (a 2)) (pbE w.params).x (.int (p' : Int) u)) Q E ⟨h, g, d, tok, os⟩ := by
 refine st_w (w := wf w r) (N := N) (ks := []) (n := 1000) (ce := decs [2049]) (i := 1) (bi := []) (ys := fun _ => dvXs hs k sl qA p' u kd tk fs eF W eW av nA a) (zs := fun _ => []) hD nilA nilA S rfl h1 (fun _ => rfl) (fun _ => rfl) nilA .nil ?_ fun Y h' t' ht' hy Wn => fin h' t' ht' Wn.fst Wn.K
 intro c bf Y
 cases r <;> kernel_rfl
end
noncomputable abbrev DoneP (w : World) (A' : Around) (R' : Result → Shared → Prop) (f : Flow) (s' : Shared) : Prop := wpAny (model pw w) A' (.pure (PySem.Fin.done f)) (fun fin s' => ∃ f, fin = .done f ∧ R' (.ok f) s') (fun e s' => R' (.error e) s') s'
theorem kPlc_ok {D U : Nat} {w : World} {r : Bool} {A : Around} {gp : GP} (hup : gp.up = false) (hD : A.depth + D + 70 ≤ recursionLimit) (hU : A.units + U ≤ cLine) {ua ut hs k sl qA cw p tp kd tk fs eF W eW av nA} (hl : ua.length = 5) (hW : W.length < 1000000) (hk : kd = 0 ∨ kd = 1 ∨ kd = 4) :
  HKok D U (kt0 w.params) (wf w r) A gp (kPlc w.params ua ut hs k sl qA cw p tp kd tk fs eF W eW av nA) := by
 refine mkOp_ok hup (fun _ _ => hl.symm ▸ rfl) (fun _ _ _ => hl.symm ▸ rfl) fun a t A' R' h tok g d os hA hu h1 S C => ?_
 rw [hl] at S C
 have hD' : A'.depth + 70 ≤ recursionLimit := by omega
 have hu' : A'.units < cLine := by omega
 show wpAny _ _ ((execs [execSt w.params 2] (dueEnv w.params (a 0) cw (a 2))).bind _) _ _ _
 refine wpAny_bind (wpAny_execs_cons ?_)
 rw [pb_is]
 refine wpAny_Assign_Name ?_
 have fin : ∀ h2 t2 u, gp.n < t2 → gp.n < u → Starts (kt0 w.params) h2 (rg 5 a) (dvXs hs (k t) sl qA p tp kd tk fs eF W eW (av t) nA a) → KeepB false h h2 (rg 5 a) →
   wpAny (model pw (wf w r)) A' (storeName (dueEnv w.params (a 0) cw (a 2)) (pbE w.params).x (.int (duePl kd W.length (fs.map Prod.fst) : Int) u)) (fun _ s' => wpAny (model pw (wf w r)) A' (execs [] (dueEnv w.params (a 0) cw (a 2))) (fun f s' => DoneP (wf w r) A' R' f s') (fun e s' => R' (.error e) s') s') (fun e s' => R' (.error e) s') ⟨h2, g, d, t2, os⟩ := fun h2 t2 u ht2 hu2 S2 K2 =>
  plc_st hD' S2 ht2 fun h3 t3 ht3 S3 K3 => wpAny_execs_nil (wpAny_pure ⟨_, rfl, C h3 t3 [u] rfl (fun x hx => by rw [List.mem_singleton] at hx; subst hx; exact hu2) ht3 S3 (K2.trans0 K3)⟩)
 refine wpAny_IfExp (wpAny_isTrue_BoolOp (wpAny_allTrue_Or_cons ?_))
 have len : ∀ h2 t2, gp.n < t2 → duePl kd W.length (fs.map Prod.fst) = W.length → Starts (kt0 w.params) h2 (rg 5 a) (dvXs hs (k t) sl qA p tp kd tk fs eF W eW (av t) nA a) → KeepB false h h2 (rg 5 a) →
   wpAny (model pw (wf w r)) A' (eval (.Call (.Name (pbE w.params).bx (pbE w.params).bn) [(pbE w.params).ba] [] (pbE w.params).bp) (dueEnv w.params (a 0) cw (a 2))) (fun v s₁ => wpAny (model pw (wf w r)) A' (storeName (dueEnv w.params (a 0) cw (a 2)) (pbE w.params).x v) (fun _ s' => wpAny (model pw (wf w r)) A' (execs [] (dueEnv w.params (a 0) cw (a 2))) (fun f s' => DoneP (wf w r) A' R' f s') (fun e s' => R' (.error e) s') s') (fun e s' => R' (.error e) s') s₁) (fun e s' => R' (.error e) s') ⟨h2, g, d, t2, os⟩ := fun h2 t2 ht2 e2 S2 K2 =>
  plc_len hW hD' S2 ht2 fun h3 t3 u ht3 hu3 S3 K3 => by
   have z := fin h3 t3 u ht3 hu3 S3 (K2.trans0 K3)
   rw [e2] at z
   exact z
 cases hb : Nat.beq kd 4 with
 | true =>
  refine plc_t1 hb hk hD' S h1 fun h2 t2 ht2 S2 K2 => ?_
  have e4 : kd = 4 := Nat.eq_of_beq_eq_true hb
  subst e4
  exact len h2 t2 ht2 rfl S2 K2
 | false =>
  refine plc_t1 hb hk hD' S h1 fun h2 t2 ht2 S2 K2 => ?_
  refine wpAny_allTrue_Or_cons (plc_cmp hu' hD' S2 ht2 fun h3 t3 ht3 S3 K3 => ?_)
  have k01 : kd = 0 ∨ kd = 1 := by
   rcases hk with rfl | rfl | rfl
   ·exact .inl rfl
   ·exact .inr rfl
   ·cases hb
  cases fs with
  | nil => exact len h3 t3 ht3 (by rcases k01 with rfl | rfl <;> rfl) S3 (K2.trans0 K3)
  | cons f0 fs =>
   refine wpAny_allTrue_Or_nil ?_
   refine plc_els hD' S3 ht3 fun h4 t4 u ht4 hu4 S4 K4 => ?_
   have z := fin h4 t4 u ht4 hu4 S4 ((K2.trans0 K3).trans0 K4)
   have e2 : duePl kd W.length ((f0 :: fs).map Prod.fst) = f0.1 + 1 := by rcases k01 with rfl | rfl <;> rfl
   rw [e2] at z
   exact z
noncomputable def bTxt (b : Bool) : Str := match b with | true => o "True" | false => o "False"
noncomputable abbrev paE (P : Params) : PA := paOf (appSt P)
noncomputable def kApA (P : Params) (ua ut : List Nat) (hs : Nat → Int) (k : (Nat → Tok) → Nat → Tok) (sl : Array (Option Value)) (qA cw : Addr) (p : Nat) (tp : Tok) (kd : Nat) (tk : Tok) (fs : List (Nat × Tok)) (eF : Nat) (W : List (Str × Tok)) (eW : Nat) (av : List Value) (nA : Nat) : HK :=
 mkOp ua ut 1 (fun a => .exec (appSt P) (dueEnv P (a 0) cw (a 2))) (fun a t => dvXs hs (k t) sl qA p tp kd tk fs eF W eW av nA a) (fun a t u => dvXs hs (k t) sl qA p tp kd tk fs eF W eW (av ++ [.str (dueAns kd p (fs.map Prod.fst)) (u 0)]) (nA + 1) a)
theorem kApA_wf {P ua ut hs k sl qA cw p tp kd tk fs eF W eW av nA} (hn : ua.Nodup) (hl : ua.length = 5) : HKwf (kApA P ua ut hs k sl qA cw p tp kd tk fs eF W eW av nA) := mkOp_wf hn (fun _ _ => hl.symm ▸ rfl) fun _ _ _ => hl.symm ▸ rfl
section
variable {w : World} {r : Bool} {A' : Around} {N : Nat} {h : Heap} {g : Array GenState} {d : Drawn} {os : OsState} {tok : Nat} {a : Nat → Addr} {hs : Nat → Int} {k : Nat → Tok} {sl : Array (Option Value)} {qA cw : Addr} {p : Nat} {tp : Tok} {kd : Nat} {tk : Tok} {fs : List (Nat × Tok)} {eF : Nat} {W : List (Str × Tok)} {eW : Nat} {av : List Value} {nA : Nat} {E : Value → Shared → Prop}
theorem app_w {l : Addr} {v : Value} (hv : av.length < 1000000) (e : h.get? l = some (lstO av nA)) {Q : Value → Shared → Prop} (fin : ∀ h', h'.get? l = some (lstO (av ++ [v]) (nA + 1)) → Heap.SameBut l h h' → Q .none ⟨h', g, d, tok, os⟩) :
  wpAny (model pw w) A' (call (.builtin "list.append") [.ref l, v]) Q E ⟨h, g, d, tok, os⟩ := by
 refine wpAny_runValue ?_
 have hT : (⟨h, g, d, tok, os⟩ : Shared).TypeIs (.ref l) "list" := ⟨_, e, rfl⟩
 refine code_meets slot_list_append hT entry_list_append (args_list_append _ _) (list_append l (Array.mk av) nA v (size_small hv)) ⟨e, ?_⟩
 have eo : Obj.mapSeq (fun x => x.push v) (lstO av nA) = lstO (av ++ [v]) (nA + 1) := by
  unfold lstO Obj.mapSeq
  dsimp only
  rw [if_neg (by simp)]
  congr 2
  apply Array.ext'
  simp
 refine fin _ ?_ (.update ..)
 rw [← eo]
 exact Heap.get?_update_self _ e (by rw [eo]; rfl)
theorem apa_name {x : Expr} {v : Value} {ce : List Nat} (hD : A'.depth + 70 ≤ recursionLimit) (S : Starts (kt0 w.params) h (rg 5 a) (dvXs hs k sl qA p tp kd tk fs eF W eW av nA a)) (h1 : N < tok) {Q : Value → Shared → Prop}
  (chk : ∀ c bf (Y : Dyn), Chk (List.range 5) (pieceR (SVq (wf w r) A'.handled 70 0 trZ.sp false bf (boOf (dvXs hs k sl qA p tp kd tk fs eF W eW av nA a)) [] []) (Y.pre (rg 5 a)) 1000 ce c (.tree (trZ.fin (trZ.eval x (dueEnv w.params (a 0) cw (a 2))) .ret)) (mkT (dvXs hs k sl qA p tp kd tk fs eF W eW av nA a)) 5) (.res (.ok (.ret v))) ((dvXs hs k sl qA p tp kd tk fs eF W eW av nA a).map some) 0 0)
  (fin : ∀ h' t', N < t' → Starts (kt0 w.params) h' (rg 5 a) (dvXs hs k sl qA p tp kd tk fs eF W eW av nA a) → KeepB false h h' (rg 5 a) → Q v ⟨h', g, d, t', os⟩) :
  wpAny (model pw (wf w r)) A' (eval x (dueEnv w.params (a 0) cw (a 2))) Q E ⟨h, g, d, tok, os⟩ :=
 ev_w (w := wf w r) (N := N) (ks := []) (n := 1000) (ce := ce) (i := 0) (bi := []) (v := fun Y => v) (ys := fun _ => dvXs hs k sl qA p tp kd tk fs eF W eW av nA a) (zs := fun _ => []) hD nilA nilA S rfl h1 (fun _ => rfl) (fun _ => rfl) nilA .nil chk fun Y h' t' ht' _ Wn => fin h' t' ht' Wn.fst Wn.K
theorem apa_t1 {b : Bool} (hb : Nat.beq kd 0 = b) (hk : kd = 0 ∨ kd = 1) (hD : A'.depth + 70 ≤ recursionLimit) (S : Starts (kt0 w.params) h (rg 5 a) (dvXs hs k sl qA p tp kd tk fs eF W eW av nA a)) (h1 : N < tok) {Q : Bool → Shared → Prop}
  (fin : ∀ h' t', N < t' → Starts (kt0 w.params) h' (rg 5 a) (dvXs hs k sl qA p tp kd tk fs eF W eW av nA a) → KeepB false h h' (rg 5 a) → Q b ⟨h', g, d, t', os⟩) :
  wpAny (model pw (wf w r)) A' (isTrue (paE w.params).t1 (dueEnv w.params (a 0) cw (a 2)) (eval (paE w.params).t1 (dueEnv w.params (a 0) cw (a 2)))) Q E ⟨h, g, d, tok, os⟩ := by
 refine tr_w (w := wf w r) (N := N) (ks := []) (n := 1000) (ce := decs [1]) (i := 1) (bi := []) (ys := fun _ => dvXs hs k sl qA p tp kd tk fs eF W eW av nA a) (zs := fun _ => []) hD nilA nilA S rfl h1 (fun _ => rfl) (fun _ => rfl) nilA .nil ?_ fun Y h' t' ht' _ Wn => fin h' t' ht' Wn.fst Wn.K
 intro c bf Y
 rcases hk with rfl | rfl <;> cases hb <;> cases r <;> kernel_rfl
theorem apa_nil {lp : Pos} (hD : A'.depth + 70 ≤ recursionLimit) (S : Starts (kt0 w.params) h (rg 5 a) (dvXs hs k sl qA p tp kd tk fs eF W eW av nA a)) (h1 : N < tok) {Q : Value → Shared → Prop}
  (fin : ∀ h' t' b, N < t' → Starts (kt0 w.params) h' (rg 5 a) (dvXs hs k sl qA p tp kd tk fs eF W eW av nA a) → KeepB false h h' (rg 5 a) → h'.get? b = some (lstO [] 0) → Q (.ref b) ⟨h', g, d, t', os⟩) :
  wpAny (model pw (wf w r)) A' (eval (.List [] lp) (dueEnv w.params (a 0) cw (a 2))) Q E ⟨h, g, d, tok, os⟩ := by
 refine ev_w (w := wf w r) (N := N) (ks := []) (n := 1000) (ce := decs []) (i := 0) (bi := [5]) (v := fun Y => .ref (Y.adr 5)) (ys := fun _ => dvXs hs k sl qA p tp kd tk fs eF W eW av nA a) (zs := fun _ => [lstO [] 0]) hD nilA nilA S rfl h1 (fun _ => rfl) (fun _ => rfl) (fun x hx => ?_) (by decide) ?_ fun Y3 h3 t3 ht3 _ W3 => fin h3 t3 _ ht3 W3.fst W3.K (W3.at2 (j := 0) rfl rfl)
 ·rw [List.mem_singleton] at hx
  subst hx
  show 5 ≤ 5
  decide
 ·intro c bf Y
  cases r <;> kernel_rfl
theorem apa_eq (hu : A'.units < cLine) (hD : A'.depth + 70 ≤ recursionLimit) (S : Starts (kt0 w.params) h (rg 5 a) (dvXs hs k sl qA p tp kd tk fs eF W eW av nA a)) (h1 : N < tok) {Q : Bool → Shared → Prop}
  (fin : ∀ h' t', N < t' → Starts (kt0 w.params) h' (rg 5 a) (dvXs hs k sl qA p tp kd tk fs eF W eW av nA a) → KeepB false h h' (rg 5 a) → Q fs.isEmpty ⟨h', g, d, t', os⟩) :
  wpAny (model pw (wf w r)) A' (isTrue (.Compare (paE w.params).l2 [.Eq] [.List [] (paE w.params).lp] (paE w.params).q2) (dueEnv w.params (a 0) cw (a 2)) (eval (.Compare (paE w.params).l2 [.Eq] [.List [] (paE w.params).lp] (paE w.params).q2) (dueEnv w.params (a 0) cw (a 2)))) Q E ⟨h, g, d, tok, os⟩ := by
 refine wpAny_isTrue_Compare1 ?_
 refine apa_name (ce := decs [1]) (v := .ref (a 1)) hD S h1 (by intro c bf Y; cases r <;> kernel_rfl) fun h2 t2 ht2 S2 K2 => ?_
 refine apa_nil hD S2 ht2 fun h3 t3 b ht3 S3 K3 e3 => ?_
 refine eq_nil (starts_get S3 1 rfl rfl) e3 hu (wpAny_truthy_bool ?_)
 rw [List.isEmpty_map]
 exact fin h3 t3 ht3 S3 (K2.trans0 K3)
theorem apa_ne (hu : A'.units < cLine) (hD : A'.depth + 70 ≤ recursionLimit) (S : Starts (kt0 w.params) h (rg 5 a) (dvXs hs k sl qA p tp kd tk fs eF W eW av nA a)) (h1 : N < tok) {Q : Value → Shared → Prop}
  (fin : ∀ h' t', N < t' → Starts (kt0 w.params) h' (rg 5 a) (dvXs hs k sl qA p tp kd tk fs eF W eW av nA a) → KeepB false h h' (rg 5 a) → Q (.bool (!fs.isEmpty)) ⟨h', g, d, t', os⟩) :
  wpAny (model pw (wf w r)) A' (eval (paE w.params).e3 (dueEnv w.params (a 0) cw (a 2))) Q E ⟨h, g, d, tok, os⟩ := by
 refine wpAny_Compare1 ?_
 refine apa_name (ce := decs [1]) (v := .ref (a 1)) hD S h1 (by intro c bf Y; cases r <;> kernel_rfl) fun h2 t2 ht2 S2 K2 => ?_
 refine apa_nil hD S2 ht2 fun h3 t3 b ht3 S3 K3 e3 => ?_
 refine ne_nil (starts_get S3 1 rfl rfl) e3 hu ?_
 rw [List.isEmpty_map]
 exact fin h3 t3 ht3 S3 (K2.trans0 K3)
theorem apa_str {b : Bool} (hD : A'.depth + 70 ≤ recursionLimit) (S : Starts (kt0 w.params) h (rg 5 a) (dvXs hs k sl qA p tp kd tk fs eF W eW av nA a)) (h1 : N < tok) {Q : Value → Shared → Prop}
  (fin : ∀ h' t' u, N < t' → N < u → Starts (kt0 w.params) h' (rg 5 a) (dvXs hs k sl qA p tp kd tk fs eF W eW av nA a) → KeepB false h h' (rg 5 a) → Q (.str (bTxt b) u) ⟨h', g, d, t', os⟩) :
  wpAny (model pw (wf w r)) A' (call (.type "str") [.bool b]) Q E ⟨h, g, d, tok, os⟩ := by
 refine cl_w (w := wf w r) (N := N) (ks := []) (n := 1000) (ce := decs [0]) (i := 1) (bi := []) (v := fun Y => .str (bTxt b) (Y.tk 0)) (ys := fun _ => dvXs hs k sl qA p tp kd tk fs eF W eW av nA a) (zs := fun _ => []) hD nilA nilA S rfl h1 (fun _ => rfl) (fun _ => rfl) nilA .nil ?_ fun Y h' t' ht' hy Wn => fin h' t' (Y.tk 0) ht' (hy 0 (by decide)) Wn.fst Wn.K
 intro c bf Y
 cases b <;> cases r <;> kernel_rfl
theorem apa_sub {f0 : Nat × Tok} (hD : A'.depth + 70 ≤ recursionLimit) (S : Starts (kt0 w.params) h (rg 5 a) (dvXs hs k sl qA p tp kd tk (f0 :: fs) eF W eW av nA a)) (h1 : N < tok) {Q : Value → Shared → Prop}
  (fin : ∀ h' t' u, N < t' → N < u → Starts (kt0 w.params) h' (rg 5 a) (dvXs hs k sl qA p tp kd tk (f0 :: fs) eF W eW av nA a) → KeepB false h h' (rg 5 a) → Q (.int ((f0.1 : Int) - (p : Int)) u) ⟨h', g, d, t', os⟩) :
  wpAny (model pw (wf w r)) A' (eval (paE w.params).sa (dueEnv w.params (a 0) cw (a 2))) Q E ⟨h, g, d, tok, os⟩ := by
 refine ev_w (w := wf w r) (N := N) (ks := []) (n := 1000) (ce := decs [309787241348306337244647425]) (i := 2) (bi := []) (v := fun Y => .int ((f0.1 : Int) - (p : Int)) (Y.tk 1)) (ys := fun _ => dvXs hs k sl qA p tp kd tk (f0 :: fs) eF W eW av nA a) (zs := fun _ => []) hD nilA nilA S rfl h1 (fun _ => rfl) (fun _ => rfl) nilA .nil ?_ fun Y h' t' ht' hy Wn => fin h' t' (Y.tk 1) ht' (hy 1 (by decide)) Wn.fst Wn.K
 intro c bf Y
 cases r <;> kernel_rfl
theorem apa_ref (hD : A'.depth + 70 ≤ recursionLimit) (S : Starts (kt0 w.params) h (rg 5 a) (dvXs hs k sl qA p tp kd tk fs eF W eW av nA a)) (h1 : N < tok) {Q : Value → Shared → Prop}
  (fin : ∀ h' t' u, N < t' → N < u → Starts (kt0 w.params) h' (rg 5 a) (dvXs hs k sl qA p tp kd tk fs eF W eW av nA a) → KeepB false h h' (rg 5 a) → Q (.str (o "refused") u) ⟨h', g, d, t', os⟩) :
  wpAny (model pw (wf w r)) A' (eval (paE w.params).rf (dueEnv w.params (a 0) cw (a 2))) Q E ⟨h, g, d, tok, os⟩ := by
 refine ev_w (w := wf w r) (N := N) (ks := []) (n := 1000) (ce := decs []) (i := 1) (bi := []) (v := fun Y => .str (o "refused") (Y.tk 0)) (ys := fun _ => dvXs hs k sl qA p tp kd tk fs eF W eW av nA a) (zs := fun _ => []) hD nilA nilA S rfl h1 (fun _ => rfl) (fun _ => rfl) nilA .nil ?_ fun Y h' t' ht' hy Wn => fin h' t' (Y.tk 0) ht' (hy 0 (by decide)) Wn.fst Wn.K
 intro c bf Y
 cases r <;> kernel_rfl
end
theorem kApA_ok {D U : Nat} {w : World} {r : Bool} {A : Around} {gp : GP} (hup : gp.up = false) (hD : A.depth + D + 70 ≤ recursionLimit) (hU : A.units + U ≤ cLine) {ua ut hs k sl qA cw p tp kd tk fs eF W eW av nA} (hl : ua.length = 5) (hf : ∀ f ∈ fs, f.1 < 1000000) (hp : p < 1000000) (hv : av.length < 1000000) (hk : kd = 0 ∨ kd = 1) :
  HKok D U (kt0 w.params) (wf w r) A gp (kApA w.params ua ut hs k sl qA cw p tp kd tk fs eF W eW av nA) := by
 refine mkOp_ok hup (fun _ _ => hl.symm ▸ rfl) (fun _ _ _ => hl.symm ▸ rfl) fun a t A' R' h tok g d os hA hu h1 S C => ?_
 rw [hl] at S C
 have hD' : A'.depth + 70 ≤ recursionLimit := by omega
 have hu' : A'.units < cLine := by omega
 show wpAny _ _ ((execs [appSt w.params] (dueEnv w.params (a 0) cw (a 2))).bind _) _ _ _
 refine wpAny_bind (wpAny_execs_cons ?_)
 rw [pa_is]
 refine wpAny_Expr ?_
 refine wpAny_Call_append (by kernel_rfl) (by kernel_rfl) (by kernel_rfl) rfl ?_
 refine apa_name (ce := decs [1]) (v := .ref (a 4)) hD' S h1 (by intro c bf Y; cases r <;> kernel_rfl) fun h2 t2 ht2 S2 K2 => ?_
 have e2 := starts_get S2 4 rfl rfl
 refine ⟨a 4, Array.mk av, rfl, ⟨_, nA, e2, rfl, rfl, rfl⟩, ?_⟩
 have fin : ∀ h3 t3 u, gp.n < t3 → gp.n < u → Starts (kt0 w.params) h3 (rg 5 a) (dvXs hs (k t) sl qA p tp kd tk fs eF W eW av nA a) → KeepB false h h3 (rg 5 a) →
   wpAny (model pw (wf w r)) A' (call (.builtin "list.append") [.ref (a 4), .str (dueAns kd p (fs.map Prod.fst)) u]) (fun v s' => match v with | .ref _ => False | _ => wpAny (model pw (wf w r)) A' (execs [] (dueEnv w.params (a 0) cw (a 2))) (fun f s' => DoneP (wf w r) A' R' f s') (fun e s' => R' (.error e) s') s') (fun e s' => R' (.error e) s') ⟨h3, g, d, t3, os⟩ := fun h3 t3 u ht3 hu3 S3 K3 =>
  app_w hv (starts_get S3 4 rfl rfl) fun h4 e4 hs4 => by
   have nd := S3.nodup
   have S4 : Starts (kt0 w.params) h4 (rg 5 a) (dvXs hs (k t) sl qA p tp kd tk fs eF W eW (av ++ [.str (dueAns kd p (fs.map Prod.fst)) u]) (nA + 1) a) := S3.re rfl (fun b x e => (hs4.2 b fun q => by
     have z := S3.off (a 4) (List.mem_of_getElem? (i := 4) rfl)
     rw [← q, e] at z
     cases z).trans (S3.base b x e)) fun j b x q1 q2 => by
    have keep : ∀ i, i < 4 → h4.get? (a i) = h3.get? (a i) := fun i hi => hs4.2 _ fun q => by
     have e1 : (rg 5 a)[i]? = some (a i) := by
      unfold rg
      rw [List.getElem?_map, List.getElem?_range (by omega)]
      rfl
     have e2 : (rg 5 a)[4]? = some (a 4) := rfl
     rw [q, ← e2] at e1
     have := (List.getElem?_inj (by rw [rg_len]; omega) nd).mp e1
     omega
    rcases j with _ | _ | _ | _ | _ | j
    ·cases q1; cases q2; exact (keep 0 (by decide)).trans (starts_get S3 0 rfl rfl)
    ·cases q1; cases q2; exact (keep 1 (by decide)).trans (starts_get S3 1 rfl rfl)
    ·cases q1; cases q2; exact (keep 2 (by decide)).trans (starts_get S3 2 rfl rfl)
    ·cases q1; cases q2; exact (keep 3 (by decide)).trans (starts_get S3 3 rfl rfl)
    ·cases q1; cases q2; exact e4
    ·cases q2
   have K4 : KeepB false h3 h4 (rg 5 a) := ⟨fun b x e n _ => (hs4.2 b fun q => n (q ▸ List.mem_of_getElem? (i := 4) rfl)).trans e, fun b x e n _ => ⟨x.slots, (hs4.2 b fun q => n (q ▸ List.mem_of_getElem? (i := 4) rfl)).trans e⟩, Nat.le_of_eq hs4.1.symm⟩
   exact wpAny_execs_nil (wpAny_pure ⟨_, rfl, C h4 t3 [u] rfl (fun x hx => by rw [List.mem_singleton] at hx; subst hx; exact hu3) ht3 S4 (K3.trans0 K4)⟩)
 refine wpAny_IfExp ?_
 cases hb : Nat.beq kd 0 with
 | true =>
  have e0 : kd = 0 := Nat.eq_of_beq_eq_true hb
  refine apa_t1 hb hk hD' S2 ht2 fun h3 t3 ht3 S3 K3 => ?_
  refine wpAny_IfExp (apa_eq hu' hD' S3 ht3 fun h4 t4 ht4 S4 K4 => ?_)
  have K24 := (K2.trans0 K3).trans0 K4
  subst e0
  cases fs with
  | nil =>
   refine apa_ref hD' S4 ht4 fun h5 t5 u ht5 hu5 S5 K5 => ?_
   exact fin h5 t5 u ht5 hu5 S5 (K24.trans0 K5)
  | cons f0 fs =>
   refine Call_name1 (by kernel_rfl) ?_
   refine apa_name (ce := decs [0]) (v := .type "str") hD' S4 ht4 (by intro c bf Y; cases r <;> kernel_rfl) fun h5 t5 ht5 S5 K5 => ?_
   refine callWith_type1 ?_
   refine apa_sub hD' S5 ht5 fun h6 t6 u ht6 hu6 S6 K6 => ?_
   have hlt := hf f0 (.head _)
   refine P.str_of_int ?_ ?_
   ·have hb : ((f0.1 : Int) - (p : Int)).natAbs < 1000000 := by omega
    have z := small_log hb
    rwa [Int.natAbs_natCast] at z
   ·exact fin h6 (t6 + 1) t6 (Nat.lt_succ_of_lt ht6) ht6 S6 ((K24.trans0 K5).trans0 K6)
 | false =>
  have e1 : kd = 1 := by
   rcases hk with rfl | rfl
   ·cases hb
   ·rfl
  refine apa_t1 hb hk hD' S2 ht2 fun h3 t3 ht3 S3 K3 => ?_
  subst e1
  refine Call_name1 (by kernel_rfl) ?_
  refine apa_name (ce := decs [0]) (v := .type "str") hD' S3 ht3 (by intro c bf Y; cases r <;> kernel_rfl) fun h5 t5 ht5 S5 K5 => ?_
  refine callWith_type1 ?_
  refine apa_ne hu' hD' S5 ht5 fun h6 t6 ht6 S6 K6 => ?_
  refine apa_str hD' S6 ht6 fun h7 t7 u ht7 hu7 S7 K7 => ?_
  have z := fin h7 t7 u ht7 hu7 S7 ((((K2.trans0 K3).trans0 K5).trans0 K6).trans0 K7)
  have e : dueAns 1 p (fs.map Prod.fst) = bTxt (!fs.isEmpty) := by cases fs <;> rfl
  rw [e] at z
  exact z
noncomputable def dueC (P : Params) (it f cw cws : Addr) : Code := match forOf (stmtsOf (o798 P)) with
 | some (t, b, e) => .forLoop t (.ref it) b e (dueEnv P f cw cws)
 | none => .builtin "" ⟨[], []⟩
theorem dueTup (P : Params) : IsTup (forTarget (o798 P)) := isTup_of (by kernel_rfl)
noncomputable abbrev duAs (f wA qA aA it q cws cw : Addr) : List Addr := [f, wA, qA, aA, it, q, cws, cw]
noncomputable def duXs (kt : Nat → Tok) (W : List (Str × Tok)) (eW : Nat) (wA qA : Addr) (qs : List Qd) (av : List Value) (nA : Nat) (i : Nat) (q : Qd) (fr cwO : Obj) : List Obj :=
 [fr, lstO (W.map strV) eW, lstO (qs.map Qd.v) qs.length, lstO av nA, litO qA i, qO kt q, cellV (.ref wA), cwO]
noncomputable def ks_dh (P : Params) (W : List (Str × Tok)) (eW : Nat) (qA : Addr) (qs : List Qd) (i p : Nat) (tp : Tok) (q : Qd) : List HQ :=
 [(kLNext [4, 2] (qs.map Qd.v) qs.length i (.ref q.a)).q, (kOwnL [4] (forTarget (o798 P)) qA (i + 1) q.a).q, (kLenC [1] (W.map strV) eW (W.length : Int)).q, (kRIter [11] [1, 2] (p : Int) (W.length : Int) ((W.length - p : Nat) : Int) (fun _ => tp) (fun t => t 0) (fun t => t 1)).q]
theorem ks_dh_wf {P W eW qA qs i p tp q} : ∀ k' ∈ ks_dh P W eW qA qs i p tp q, ∀ q', HKwf (k'.k q') := by
 intro k' hk q'
 simp only [ks_dh, memC, memN, or_false] at hk
 rcases hk with rfl | rfl | rfl | rfl
 ·exact kLNext_wf (by decide) rfl
 ·exact kOwnL_wf (by decide) (by decide)
 ·exact kLenC_wf (by decide) rfl
 ·exact kRIter_wf (by decide) rfl
theorem ks_dh_ok {D U : Nat} {kt : KT} {w : World} {A : Around} {gp : GP} (hup : gp.up = false) {P : Params} {W : List (Str × Tok)} {eW : Nat} {qA : Addr} {qs : List Qd} {i p : Nat} {tp : Tok} {q : Qd} (hq : qs[i]? = some q) (hW : W.length < 1000000) (hp : p ≤ W.length) : ∀ k' ∈ ks_dh P W eW qA qs i p tp q, ∀ q', HKok D U kt w A gp (k'.k q') := by
 intro k' hk q'
 simp only [ks_dh, memC, memN, or_false] at hk
 rcases hk with rfl | rfl | rfl | rfl
 ·exact kLNext_ok hup rfl (by rw [List.getElem?_map, hq]; rfl)
 ·exact kOwnL_ok (dueTup P)
 ·exact kLenC_ok hup rfl (by simpa using hW) (by simp)
 ·exact kRIter_ok hup rfl (by omega) (by omega) (by omega) (by omega)
noncomputable def ks_dt (P : Params) (ut1 ut2 : List Nat) (hs : Nat → Int) (k : (Nat → Tok) → Nat → Tok) (j : Nat) (sl : Array (Option Value)) (qA cw : Addr) (p : Nat) (tp : Tok) (kd : Nat) (tk : Tok) (fs : List (Nat × Tok)) (W : List (Str × Tok)) (eW : Nat) (av : List Value) (nA : Nat) : List HQ :=
 [(kApA P [0, 9, 6, 1, 3] ut1 hs k sl qA cw p tp kd tk fs fs.length W eW av nA).q, (kPlc P [0, 9, 6, 1, 3] ut2 hs k sl qA cw p tp kd tk fs fs.length W eW (fun t => av ++ [.str (dueAns kd p (fs.map Prod.fst)) (t j)]) (nA + 1)).q]
noncomputable def ks_d4 (P : Params) (ut2 : List Nat) (hs : Nat → Int) (k : (Nat → Tok) → Nat → Tok) (j : Nat) (sl : Array (Option Value)) (qA cw : Addr) (p : Nat) (tp : Tok) (tk : Tok) (fs : List (Nat × Tok)) (W : List (Str × Tok)) (eW : Nat) (av : List Value) (nA t0 : Nat) : List HQ :=
 [(kLenC [9] (fs.map plcV) fs.length (fs.length : Int)).q, (kRepr [t0] (fs.length : Int) (fun t => t 0)).q, (kApp [3] [t0 + 1] av nA (fun _ t => .str (nTxt fs.length) (t 0))).q, (kPlc P [0, 9, 6, 1, 3] ut2 hs k sl qA cw p tp 4 tk fs fs.length W eW (fun t => av ++ [.str (nTxt fs.length) (t j)]) (nA + 1)).q]
theorem ks_dt_wf {P ut1 ut2 hs k j sl qA cw p tp kd tk fs W eW av nA} : ∀ k' ∈ ks_dt P ut1 ut2 hs k j sl qA cw p tp kd tk fs W eW av nA, ∀ q', HKwf (k'.k q') := by
 intro k' hk q'
 simp only [ks_dt, memC, memN, or_false] at hk
 rcases hk with rfl | rfl
 ·exact kApA_wf (by decide) rfl
 ·exact kPlc_wf (by decide) rfl
theorem ks_d4_wf {P ut2 hs k j sl qA cw p tp tk fs W eW av nA t0} : ∀ k' ∈ ks_d4 P ut2 hs k j sl qA cw p tp tk fs W eW av nA t0, ∀ q', HKwf (k'.k q') := by
 intro k' hk q'
 simp only [ks_d4, memC, memN, or_false] at hk
 rcases hk with rfl | rfl | rfl | rfl
 ·exact kLenC_wf (by decide) rfl
 ·exact kRepr_wf
 ·exact kApp_wf (by decide) rfl
 ·exact kPlc_wf (by decide) rfl
section
variable {D U : Nat} {w : World} {r : Bool} {A : Around} {gp : GP} (hup : gp.up = false) (hD : A.depth + D + 70 ≤ recursionLimit) (hU : A.units + U ≤ cLine) {fs : List (Nat × Tok)} {W : List (Str × Tok)} {av : List Value} {p kd : Nat} (hf : ∀ f ∈ fs, f.1 < 1000000) (hl : fs.length < 1000000) (hW : W.length < 1000000) (hp : p < 1000000) (hv : av.length < 1000000)
include hup hD hU hf hW hp hv in
theorem ks_dt_ok {ut1 ut2 hs k j sl qA cw tp tk eW nA} (hk : kd = 0 ∨ kd = 1) : ∀ k' ∈ ks_dt w.params ut1 ut2 hs k j sl qA cw p tp kd tk fs W eW av nA, ∀ q', HKok D U (kt0 w.params) (wf w r) A gp (k'.k q') := by
 intro k' hk' q'
 simp only [ks_dt, memC, memN, or_false] at hk'
 rcases hk' with rfl | rfl
 ·exact kApA_ok hup hD hU rfl hf hp hv hk
 ·exact kPlc_ok hup hD hU rfl hW (hk.imp id .inl)
include hup hD hU hl hW hv in
theorem ks_d4_ok {ut2 hs k j sl qA cw tp tk eW nA t0} : ∀ k' ∈ ks_d4 w.params ut2 hs k j sl qA cw p tp tk fs W eW av nA t0, ∀ q', HKok D U (kt0 w.params) (wf w r) A gp (k'.k q') := by
 intro k' hk' q'
 simp only [ks_d4, memC, memN, or_false] at hk'
 rcases hk' with rfl | rfl | rfl | rfl
 ·exact kLenC_ok hup rfl (by simpa using hl) (by simp)
 ·exact kRepr_ok (small_log hl)
 ·exact kApp_ok hup rfl hv
 ·exact kPlc_ok hup hD hU rfl hW (.inr (.inr rfl))
end
noncomputable def duNames (st : Option (Value × Addr × Value)) : List (String × Value) := match st with
 | none => []
 | some (kv, fo, _) => [("kind", kv), ("found", .ref fo)]
noncomputable def duCell (st : Option (Value × Addr × Value)) : Obj := match st with
 | none => cell0
 | some (_, _, cv) => cellV cv
theorem due_under {A : Around} {P : Params} {it f cw cws : Addr} : ((A.under (dueC P it f cw cws)).mark none).depth = A.depth ∧ ((A.under (dueC P it f cw cws)).mark none).handled = A.handled := by
 constructor
 ·show A.depth + (dueC P it f cw cws).weight = A.depth
  have e : (dueC P it f cw cws).weight = 0 := by kernel_rfl
  rw [e]
  rfl
 ·rfl
theorem due_in {f wA qA aA it q cws cw b : Addr} {h : Heap} {as2 : List Addr} (hn : ∀ a ∈ as2, h.objs.size ≤ a) {x y z : Addr} (e : as2 = [x, y, z]) (hb : b ∈ fnAs x y z wA cw cws) : b ∈ duAs f wA qA aA it q cws cw ∨ h.objs.size ≤ b := by
 subst e
 simp only [fnAs, duAs, memC, memN, or_false] at hb ⊢
 rcases hb with rfl | rfl | rfl | rfl | rfl | rfl
 ·exact .inr (hn _ (by simp))
 ·exact .inr (hn _ (by simp))
 ·exact .inr (hn _ (by simp))
 ·simp
 ·simp
 ·simp
theorem due_mid {P : Params} {h h' : Heap} {f wA qA aA it q cws cw x y z : Addr} {W : List (Str × Tok)} {eW : Nat} {yt : Str} {ty : Tok} {fr lq la lt oq r0 r1 a0 a1 l0 l1 : Obj}
  (S : Starts (kt0 P) h (duAs f wA qA aA it q cws cw ++ [x, y, z]) ([fr, lstO (W.map strV) eW, lq, la, lt, oq, cellV (.ref wA), cellV (.str yt ty)] ++ [r0, a0, l0]))
  (S' : Starts (kt0 P) h' (fnAs x y z wA cw cws) [r1, a1, l1, lstO (W.map strV) eW, cellV (.str yt ty), cellV (.ref wA)]) (K : KeepB false h h' (fnAs x y z wA cw cws)) :
  Starts (kt0 P) h' (duAs f wA qA aA it q cws cw ++ [x, y, z]) ([fr, lstO (W.map strV) eW, lq, la, lt, oq, cellV (.ref wA), cellV (.str yt ty)] ++ [r1, a1, l1]) := by
 have ne : ∀ i j a b, (duAs f wA qA aA it q cws cw ++ [x, y, z])[i]? = some a → (duAs f wA qA aA it q cws cw ++ [x, y, z])[j]? = some b → i ≠ j → a ≠ b := fun i j a b e1 e2 hij q => by
  subst q
  rw [← e2] at e1
  exact hij ((List.getElem?_inj (List.getElem?_eq_some_iff.mp e2).1 S.nodup).mp e1.symm).symm
 have out : ∀ i b, (duAs f wA qA aA it q cws cw ++ [x, y, z])[i]? = some b → i ≠ 8 → i ≠ 9 → i ≠ 10 → i ≠ 1 → i ≠ 7 → i ≠ 6 → b ∉ fnAs x y z wA cw cws := fun i b e q1 q2 q3 q4 q5 q6 hm => by
  simp only [fnAs, memC, memN, or_false] at hm
  rcases hm with h | h | h | h | h | h
  ·exact ne i 8 b x e rfl q1 h
  ·exact ne i 9 b y e rfl q2 h
  ·exact ne i 10 b z e rfl q3 h
  ·exact ne i 1 b wA e rfl q4 h
  ·exact ne i 7 b cw e rfl q5 h
  ·exact ne i 6 b cws e rfl q6 h
 have kp : ∀ i b o, (duAs f wA qA aA it q cws cw ++ [x, y, z])[i]? = some b → h.get? b = some o → i ≠ 8 → i ≠ 9 → i ≠ 10 → i ≠ 1 → i ≠ 7 → i ≠ 6 → h'.get? b = some o := fun i b o e eo q1 q2 q3 q4 q5 q6 => K.keep b o eo (out i b e q1 q2 q3 q4 q5 q6) (fun h => by cases h)
 refine S.re rfl S'.base fun j a o q1 q2 => ?_
 rcases j with _ | _ | _ | _ | _ | _ | _ | _ | _ | _ | _ | j
 ·exact kp 0 a o q1 (S.at_ 0 a o q1 q2) (by decide) (by decide) (by decide) (by decide) (by decide) (by decide)
 ·cases q1; cases q2; exact starts_get S' 3 rfl rfl
 ·exact kp 2 a o q1 (S.at_ 2 a o q1 q2) (by decide) (by decide) (by decide) (by decide) (by decide) (by decide)
 ·exact kp 3 a o q1 (S.at_ 3 a o q1 q2) (by decide) (by decide) (by decide) (by decide) (by decide) (by decide)
 ·exact kp 4 a o q1 (S.at_ 4 a o q1 q2) (by decide) (by decide) (by decide) (by decide) (by decide) (by decide)
 ·exact kp 5 a o q1 (S.at_ 5 a o q1 q2) (by decide) (by decide) (by decide) (by decide) (by decide) (by decide)
 ·cases q1; cases q2; exact starts_get S' 5 rfl rfl
 ·cases q1; cases q2; exact starts_get S' 4 rfl rfl
 ·cases q1; cases q2; exact starts_get S' 0 rfl rfl
 ·cases q1; cases q2; exact starts_get S' 1 rfl rfl
 ·cases q1; cases q2; exact starts_get S' 2 rfl rfl
 ·cases q2
theorem due_in' {as as2 : List Addr} {h : Heap} (hn : ∀ a ∈ as2, h.objs.size ≤ a) : ∀ b ∈ as ++ as2, b ∈ as ∨ h.objs.size ≤ b := fun b hb => (List.mem_append.mp hb).imp id (hn b)
theorem fnd_lt {y : Str} : ∀ {ws : List (Str × Tok)} {p : Nat}, (∀ j ∈ fndS y p ws, j < p + ws.length) ∧ (fndS y p ws).length ≤ ws.length
 | [], p => ⟨fun _ h => (nomatch h), Nat.le_refl _⟩
 | x :: ws, p => by
  obtain ⟨h1, h2⟩ := fnd_lt (y := y) (ws := ws) (p := p + 1)
  unfold fndS
  cases eqTx y x with
  | true =>
   refine ⟨fun j hj => ?_, by simpa using h2⟩
   rcases List.mem_cons.mp hj with rfl | hj
   ·simp
   ·have := h1 j hj
    simp only [List.length_cons]
    omega
  | false =>
   refine ⟨fun j hj => ?_, Nat.le_succ_of_le h2⟩
   have := h1 j hj
   simp only [List.length_cons]
   omega
theorem fnd_small {fs : List (Nat × Tok)} {y : Str} {p : Nat} {W : List (Str × Tok)} (e : fs.map Prod.fst = fndS y p (W.drop p)) (hW : W.length < 1000000) : (∀ f ∈ fs, f.1 < 1000000) ∧ fs.length < 1000000 := by
 obtain ⟨h1, h2⟩ := fnd_lt (y := y) (ws := W.drop p) (p := p)
 rw [List.length_drop] at h1 h2
 refine ⟨fun f hf => ?_, ?_⟩
 ·have := h1 f.1 (e ▸ List.mem_map_of_mem hf)
  by_cases hp : p ≤ W.length
  ·omega
  ·have e2 : W.drop p = [] := List.drop_eq_nil_of_le (by omega)
   rw [e2] at e
   have : fs = [] := List.map_eq_nil_iff.mp e
   subst this
   cases hf
 ·have z := congrArg List.length e
  rw [List.length_map] at z
  omega
theorem due_turn {N : Nat} {w : World} {r : Bool} {A : Around} (hr : A.depth + 280 ≤ recursionLimit) (hh : A.handled = none) (hU : A.units + 100 ≤ cLine) {g : Array GenState} {d : Drawn} {os : OsState} {f wA qA aA it cws cw : Addr} {kt : Nat → Tok} {W : List (Str × Tok)} {eW : Nat} {qs : List Qd} {av : List Value} {nA : Nat} (hv : av.length < 1000000) {i p : Nat} {tp : Tok} {q : Qd} (hq : qs[i]? = some q) (hkd : q.kd = 0 ∨ q.kd = 1 ∨ q.kd = 4) (hW : W.length < 1000000) (hp : p ≤ W.length)
  {st : Option (Value × Addr × Value)} {hs : Nat → Int} {k : Nat → Tok} {sl : Array (Option Value)} {h : Heap} {tok : Nat} (h1 : N < tok) (S : Starts (kt0 w.params) h (duAs f wA qA aA it q.a cws cw) (duXs kt W eW wA qA qs av nA i q (duFr hs k qA aA p tp (duNames st) sl) (duCell st))) {R : Result → Shared → Prop}
  (go : ∀ h' t' hs' k' u tp' fo, N < t' → N < u → Starts (kt0 w.params) h' (duAs f wA qA aA it q.a cws cw) (duXs kt W eW wA qA qs (av ++ [.str (dueAns q.kd p (fndS (txt q.k) p (W.drop p))) u]) (nA + 1) (i + 1) q (duFr hs' k' qA aA (duePl q.kd W.length (fndS (txt q.k) p (W.drop p))) tp' (duNames (some (.int q.kd q.tk, fo, kindV kt q.k))) sl) (duCell (some (.int q.kd q.tk, fo, kindV kt q.k)))) →
   KeepB false h h' (duAs f wA qA aA it q.a cws cw) → codeAny (model pw (wf w r)) A (dueC w.params it f cw cws) R ⟨h', g, d, t', os⟩) :
  codeAny (model pw (wf w r)) A (dueC w.params it f cw cws) R ⟨h, g, d, tok, os⟩ := by
 refine code_piece (D := 70) (U := 0) (e := 1000) (p := trZ.sp (dueC w.params it f cw cws)) (by omega) rfl S.base ?_
 obtain ⟨ed, eh⟩ := due_under (A := A) (P := w.params) (it := it) (f := f) (cw := cw) (cws := cws)
 rcases st with _ | z
 ·refine call_s (w := wf w r) (D := 70) (U := 0) (nt := false) (N := N) (ks := ks_dh w.params W eW qA qs i p tp q) (cur := []) (as := duAs f wA qA aA it q.a cws cw) (xs := duXs kt W eW wA qA qs av nA i q (duFr hs k qA aA p tp (duNames none) sl) (duCell none)) (κs := []) (n := 2000) (ce := decs [Nij, Nik, Nil, Nim]) (s := 0) (i := 3) (bi := [12, 13, 14])
   (c' := fun Y => cmpS (fndE w.params) (Y.adr 12) (Y.adr 13) (fEnv w.params f cw cws (Y.adr 14)))
   (ys := fun Y => duXs kt W eW wA qA qs av nA (i + 1) q (duFr (put hs 3 (hashZ w.params (o "kind"))) (put k 3 (Y.tk 0)) qA aA p tp [("kind", .int q.kd q.tk)] sl) (cellV (kindV kt q.k))) (zs := fun Y => [ritO (p : Int) ((W.length - p : Nat) : Int), lstO [] 0, locO []])
   nilA (dle ‹_›) (fun q => by cases q) ks_dh_wf (ks_dh_ok rfl hq hW hp) S rfl h1 (.inl rfl) (fun _ => rfl) (fun _ => rfl) ?_ (by decide) ?_ fun Y h1' t1 ht1 _ W1 => ?_
  ·intro x hx
   simp only [memC, memN, or_false] at hx
   rcases hx with rfl | rfl | rfl
   ·show 8 ≤ 12; decide
   ·show 8 ≤ 13; decide
   ·show 8 ≤ 14; decide
  ·intro bf Y
   rw [hh]
   cases r <;> kernel_rfl
  generalize eY : Y.pre (duAs f wA qA aA it q.a cws cw) = Y' at *
  have S1 : Starts (kt0 w.params) h1' (duAs f wA qA aA it q.a cws cw ++ [12, 13, 14].map Y'.adr) (duXs kt W eW wA qA qs av nA (i + 1) q (duFr (put hs 3 (hashZ w.params (o "kind"))) (put k 3 (Y'.tk 0)) qA aA p tp [("kind", .int q.kd q.tk)] sl) (cellV (kindV kt q.k)) ++ [ritO (p : Int) ((W.length - p : Nat) : Int), lstO [] 0, locO []]) := W1.S
  refine fnd_begin (N := N) (by omega) (W := W) (e := eW) (y := txt q.k) (ty := kt q.k) (p := p) (l := ((W.length - p : Nat) : Int)) ht1 (S1.pick [8, 9, 10, 1, 7, 6] (by decide) rfl rfl) fun h2 t2 ht2 S2 K2 => ?_
  refine fnd_loop (N := N) (by omega) (eh.trans hh) (f := f) hW (W.drop p) p rfl hp (accs := []) (Nat.zero_le _) nilA (loc := none) ht2 (by rw [List.length_drop]; exact S2) fun h3 t3 fs loc ht3 hfu hfs S3 K3 => ?_
  have hfs : fs.map Prod.fst = fndS (txt q.k) p (W.drop p) := by simpa using hfs
  have S4 : Starts (kt0 w.params) h3 (duAs f wA qA aA it q.a cws cw ++ [12, 13, 14].map Y'.adr) (duXs kt W eW wA qA qs av nA (i + 1) q (duFr (put hs 3 (hashZ w.params (o "kind"))) (put k 3 (Y'.tk 0)) qA aA p tp [("kind", .int q.kd q.tk)] sl) (cellV (kindV kt q.k)) ++ [ritO (W.length : Int) 0, lstO (fs.map plcV) fs.length, oneLoc "k" loc]) := due_mid S1 S3 (K2.trans0 K3)
  have Kh : KeepB false h h3 (duAs f wA qA aA it q.a cws cw) := W1.K.comp (K2.trans0 K3) (fun b hb => due_in W1.new rfl hb)
  rw [← hfs] at go
  obtain ⟨hf, hfl⟩ := fnd_small hfs hW
  have hp' : p < 1000000 := by omega
  have ekd : (q.kd = 0 ∨ q.kd = 1) ∨ q.kd = 4 := by rcases hkd with e | e | e <;> simp [e]
  rcases ekd with hk | hk
  ·rcases loc with _ | ⟨a1, a2, a3⟩
   ·refine piece_s (w := wf w r) (D := 70) (U := 100) (nt := false) (N := N) (ks := ks_dt w.params [0] [0, 2] (put (put hs 3 (hashZ w.params (o "kind"))) 4 (hashZ w.params (o "found"))) (fun t => put (put k 3 (Y'.tk 0)) 4 (t 0)) 1 sl qA cw p tp q.kd q.tk fs W eW av nA) (cur := []) (as := duAs f wA qA aA it q.a cws cw ++ [12, 13, 14].map Y'.adr) (xs := duXs kt W eW wA qA qs av nA (i + 1) q (duFr (put hs 3 (hashZ w.params (o "kind"))) (put k 3 (Y'.tk 0)) qA aA p tp [("kind", .int q.kd q.tk)] sl) (cellV (kindV kt q.k)) ++ [ritO (W.length : Int) 0, lstO (fs.map plcV) fs.length, oneLoc "k" none]) (n := 2000) (ce := decs [Nin]) (s := 0) (i := 4) (bi := []) (res := fun _ => .cut (dueC w.params it f cw cws))
     (ys := fun Y2 => duXs kt W eW wA qA qs (av ++ [.str (dueAns q.kd p (fs.map Prod.fst)) (Y2.tk 2)]) (nA + 1) (i + 1) q (duFr (put (put hs 3 (hashZ w.params (o "kind"))) 4 (hashZ w.params (o "found"))) (put (put k 3 (Y'.tk 0)) 4 (Y2.tk 0)) qA aA (duePl q.kd W.length (fs.map Prod.fst)) (Y2.tk 3) [("kind", .int q.kd q.tk), ("found", .ref (Y'.adr 13))] sl) (cellV (kindV kt q.k)) ++ [ritO (W.length : Int) 0, lstO (fs.map plcV) fs.length, locX 0]) (zs := fun _ => [])
     nilA (dle ‹_›) (fun q => by cases q) ks_dt_wf (ks_dt_ok (gp := sameG N g d os) rfl (by omega) hU hf hW hp' hv hk) S4 rfl ht3 (.inl rfl) (fun _ => rfl) (fun _ => rfl) nilA .nil ?_ fun Y2 h5 t5 ht5 hy5 W5 => go h5 t5 _ _ (Y2.tk 2) (Y2.tk 3) (Y'.adr 13) ht5 (hy5 2 (by decide)) (W5.fst.pick [0, 1, 2, 3, 4, 5, 6, 7] (by decide) rfl rfl) (Kh.comp W5.K (due_in' W1.new))
    subst eY
    intro bf Y2
    rw [hh]
    rcases hk with e | e <;> rw [e] <;> cases r <;> kernel_rfl
   ·refine piece_s (w := wf w r) (D := 70) (U := 100) (nt := false) (N := N) (ks := ks_dt w.params [0] [0, 2] (put (put hs 3 (hashZ w.params (o "kind"))) 4 (hashZ w.params (o "found"))) (fun t => put (put k 3 (Y'.tk 0)) 4 (t 0)) 1 sl qA cw p tp q.kd q.tk fs W eW av nA) (cur := []) (as := duAs f wA qA aA it q.a cws cw ++ [12, 13, 14].map Y'.adr) (xs := duXs kt W eW wA qA qs av nA (i + 1) q (duFr (put hs 3 (hashZ w.params (o "kind"))) (put k 3 (Y'.tk 0)) qA aA p tp [("kind", .int q.kd q.tk)] sl) (cellV (kindV kt q.k)) ++ [ritO (W.length : Int) 0, lstO (fs.map plcV) fs.length, oneLoc "k" (some (a1, a2, a3))]) (n := 2000) (ce := decs [Nio]) (s := 0) (i := 4) (bi := []) (res := fun _ => .cut (dueC w.params it f cw cws))
     (ys := fun Y2 => duXs kt W eW wA qA qs (av ++ [.str (dueAns q.kd p (fs.map Prod.fst)) (Y2.tk 2)]) (nA + 1) (i + 1) q (duFr (put (put hs 3 (hashZ w.params (o "kind"))) 4 (hashZ w.params (o "found"))) (put (put k 3 (Y'.tk 0)) 4 (Y2.tk 0)) qA aA (duePl q.kd W.length (fs.map Prod.fst)) (Y2.tk 3) [("kind", .int q.kd q.tk), ("found", .ref (Y'.adr 13))] sl) (cellV (kindV kt q.k)) ++ [ritO (W.length : Int) 0, lstO (fs.map plcV) fs.length, locX 2]) (zs := fun _ => [])
     nilA (dle ‹_›) (fun q => by cases q) ks_dt_wf (ks_dt_ok (gp := sameG N g d os) rfl (by omega) hU hf hW hp' hv hk) S4 rfl ht3 (.inl rfl) (fun _ => rfl) (fun _ => rfl) nilA .nil ?_ fun Y2 h5 t5 ht5 hy5 W5 => go h5 t5 _ _ (Y2.tk 2) (Y2.tk 3) (Y'.adr 13) ht5 (hy5 2 (by decide)) (W5.fst.pick [0, 1, 2, 3, 4, 5, 6, 7] (by decide) rfl rfl) (Kh.comp W5.K (due_in' W1.new))
    subst eY
    intro bf Y2
    rw [hh]
    rcases hk with e | e <;> rw [e] <;> cases r <;> kernel_rfl
  ·rw [hk] at go
   have e4 : dueAns 4 p (fs.map Prod.fst) = nTxt fs.length := by
    show nTxt ((fs.map Prod.fst).length : Nat) = _
    rw [List.length_map]
   rw [e4] at go
   rcases loc with _ | ⟨a1, a2, a3⟩
   ·refine piece_s (w := wf w r) (D := 70) (U := 100) (nt := false) (N := N) (ks := ks_d4 w.params [0, 3] (put (put hs 3 (hashZ w.params (o "kind"))) 4 (hashZ w.params (o "found"))) (fun t => put (put k 3 (Y'.tk 0)) 4 (t 0)) 1 sl qA cw p tp q.tk fs W eW av nA 2) (cur := []) (as := duAs f wA qA aA it q.a cws cw ++ [12, 13, 14].map Y'.adr) (xs := duXs kt W eW wA qA qs av nA (i + 1) q (duFr (put hs 3 (hashZ w.params (o "kind"))) (put k 3 (Y'.tk 0)) qA aA p tp [("kind", .int q.kd q.tk)] sl) (cellV (kindV kt q.k)) ++ [ritO (W.length : Int) 0, lstO (fs.map plcV) fs.length, oneLoc "k" none]) (n := 2000) (ce := decs [Nip, Niq]) (s := 0) (i := 5) (bi := []) (res := fun _ => .cut (dueC w.params it f cw cws))
     (ys := fun Y2 => duXs kt W eW wA qA qs (av ++ [.str (nTxt fs.length) (Y2.tk 3)]) (nA + 1) (i + 1) q (duFr (put (put hs 3 (hashZ w.params (o "kind"))) 4 (hashZ w.params (o "found"))) (put (put k 3 (Y'.tk 0)) 4 (Y2.tk 0)) qA aA (duePl 4 W.length (fs.map Prod.fst)) (Y2.tk 4) [("kind", .int 4 q.tk), ("found", .ref (Y'.adr 13))] sl) (cellV (kindV kt q.k)) ++ [ritO (W.length : Int) 0, lstO (fs.map plcV) fs.length, locX 0]) (zs := fun _ => [])
     nilA (dle ‹_›) (fun q => by cases q) ks_d4_wf (ks_d4_ok (gp := sameG N g d os) rfl (by omega) hU hfl hW hv) S4 rfl ht3 (.inl rfl) (fun _ => rfl) (fun _ => rfl) nilA .nil ?_ fun Y2 h5 t5 ht5 hy5 W5 => go h5 t5 _ _ (Y2.tk 3) (Y2.tk 4) (Y'.adr 13) ht5 (hy5 3 (by decide)) (W5.fst.pick [0, 1, 2, 3, 4, 5, 6, 7] (by decide) rfl rfl) (Kh.comp W5.K (due_in' W1.new))
    subst eY
    intro bf Y2
    rw [hh]
    rw [hk]; cases r <;> kernel_rfl
   ·refine piece_s (w := wf w r) (D := 70) (U := 100) (nt := false) (N := N) (ks := ks_d4 w.params [0, 3] (put (put hs 3 (hashZ w.params (o "kind"))) 4 (hashZ w.params (o "found"))) (fun t => put (put k 3 (Y'.tk 0)) 4 (t 0)) 1 sl qA cw p tp q.tk fs W eW av nA 2) (cur := []) (as := duAs f wA qA aA it q.a cws cw ++ [12, 13, 14].map Y'.adr) (xs := duXs kt W eW wA qA qs av nA (i + 1) q (duFr (put hs 3 (hashZ w.params (o "kind"))) (put k 3 (Y'.tk 0)) qA aA p tp [("kind", .int q.kd q.tk)] sl) (cellV (kindV kt q.k)) ++ [ritO (W.length : Int) 0, lstO (fs.map plcV) fs.length, oneLoc "k" (some (a1, a2, a3))]) (n := 2000) (ce := decs [Nir, Nis]) (s := 0) (i := 5) (bi := []) (res := fun _ => .cut (dueC w.params it f cw cws))
     (ys := fun Y2 => duXs kt W eW wA qA qs (av ++ [.str (nTxt fs.length) (Y2.tk 3)]) (nA + 1) (i + 1) q (duFr (put (put hs 3 (hashZ w.params (o "kind"))) 4 (hashZ w.params (o "found"))) (put (put k 3 (Y'.tk 0)) 4 (Y2.tk 0)) qA aA (duePl 4 W.length (fs.map Prod.fst)) (Y2.tk 4) [("kind", .int 4 q.tk), ("found", .ref (Y'.adr 13))] sl) (cellV (kindV kt q.k)) ++ [ritO (W.length : Int) 0, lstO (fs.map plcV) fs.length, locX 2]) (zs := fun _ => [])
     nilA (dle ‹_›) (fun q => by cases q) ks_d4_wf (ks_d4_ok (gp := sameG N g d os) rfl (by omega) hU hfl hW hv) S4 rfl ht3 (.inl rfl) (fun _ => rfl) (fun _ => rfl) nilA .nil ?_ fun Y2 h5 t5 ht5 hy5 W5 => go h5 t5 _ _ (Y2.tk 3) (Y2.tk 4) (Y'.adr 13) ht5 (hy5 3 (by decide)) (W5.fst.pick [0, 1, 2, 3, 4, 5, 6, 7] (by decide) rfl rfl) (Kh.comp W5.K (due_in' W1.new))
    subst eY
    intro bf Y2
    rw [hh]
    rw [hk]; cases r <;> kernel_rfl
 ·obtain ⟨kv, fo, cv⟩ := z
  refine call_s (w := wf w r) (D := 70) (U := 0) (nt := false) (N := N) (ks := ks_dh w.params W eW qA qs i p tp q) (cur := []) (as := duAs f wA qA aA it q.a cws cw) (xs := duXs kt W eW wA qA qs av nA i q (duFr hs k qA aA p tp (duNames (some (kv, fo, cv))) sl) (duCell (some (kv, fo, cv)))) (κs := []) (n := 2000) (ce := decs [Nij, Nik, Nil, Nim]) (s := 0) (i := 3) (bi := [12, 13, 14])
   (c' := fun Y => cmpS (fndE w.params) (Y.adr 12) (Y.adr 13) (fEnv w.params f cw cws (Y.adr 14)))
   (ys := fun Y => duXs kt W eW wA qA qs av nA (i + 1) q (duFr hs k qA aA p tp [("kind", .int q.kd q.tk), ("found", .ref fo)] sl) (cellV (kindV kt q.k))) (zs := fun Y => [ritO (p : Int) ((W.length - p : Nat) : Int), lstO [] 0, locO []])
   nilA (dle ‹_›) (fun q => by cases q) ks_dh_wf (ks_dh_ok rfl hq hW hp) S rfl h1 (.inl rfl) (fun _ => rfl) (fun _ => rfl) ?_ (by decide) ?_ fun Y h1' t1 ht1 _ W1 => ?_
  ·intro x hx
   simp only [memC, memN, or_false] at hx
   rcases hx with rfl | rfl | rfl
   ·show 8 ≤ 12; decide
   ·show 8 ≤ 13; decide
   ·show 8 ≤ 14; decide
  ·intro bf Y
   rw [hh]
   cases r <;> kernel_rfl
  generalize eY : Y.pre (duAs f wA qA aA it q.a cws cw) = Y' at *
  have S1 : Starts (kt0 w.params) h1' (duAs f wA qA aA it q.a cws cw ++ [12, 13, 14].map Y'.adr) (duXs kt W eW wA qA qs av nA (i + 1) q (duFr hs k qA aA p tp [("kind", .int q.kd q.tk), ("found", .ref fo)] sl) (cellV (kindV kt q.k)) ++ [ritO (p : Int) ((W.length - p : Nat) : Int), lstO [] 0, locO []]) := W1.S
  refine fnd_begin (N := N) (by omega) (W := W) (e := eW) (y := txt q.k) (ty := kt q.k) (p := p) (l := ((W.length - p : Nat) : Int)) ht1 (S1.pick [8, 9, 10, 1, 7, 6] (by decide) rfl rfl) fun h2 t2 ht2 S2 K2 => ?_
  refine fnd_loop (N := N) (by omega) (eh.trans hh) (f := f) hW (W.drop p) p rfl hp (accs := []) (Nat.zero_le _) nilA (loc := none) ht2 (by rw [List.length_drop]; exact S2) fun h3 t3 fs loc ht3 hfu hfs S3 K3 => ?_
  have hfs : fs.map Prod.fst = fndS (txt q.k) p (W.drop p) := by simpa using hfs
  have S4 : Starts (kt0 w.params) h3 (duAs f wA qA aA it q.a cws cw ++ [12, 13, 14].map Y'.adr) (duXs kt W eW wA qA qs av nA (i + 1) q (duFr hs k qA aA p tp [("kind", .int q.kd q.tk), ("found", .ref fo)] sl) (cellV (kindV kt q.k)) ++ [ritO (W.length : Int) 0, lstO (fs.map plcV) fs.length, oneLoc "k" loc]) := due_mid S1 S3 (K2.trans0 K3)
  have Kh : KeepB false h h3 (duAs f wA qA aA it q.a cws cw) := W1.K.comp (K2.trans0 K3) (fun b hb => due_in W1.new rfl hb)
  rw [← hfs] at go
  obtain ⟨hf, hfl⟩ := fnd_small hfs hW
  have hp' : p < 1000000 := by omega
  have ekd : (q.kd = 0 ∨ q.kd = 1) ∨ q.kd = 4 := by rcases hkd with e | e | e <;> simp [e]
  rcases ekd with hk | hk
  ·rcases loc with _ | ⟨a1, a2, a3⟩
   ·refine piece_s (w := wf w r) (D := 70) (U := 100) (nt := false) (N := N) (ks := ks_dt w.params [] [2] hs (fun _ => k) 0 sl qA cw p tp q.kd q.tk fs W eW av nA) (cur := []) (as := duAs f wA qA aA it q.a cws cw ++ [12, 13, 14].map Y'.adr) (xs := duXs kt W eW wA qA qs av nA (i + 1) q (duFr hs k qA aA p tp [("kind", .int q.kd q.tk), ("found", .ref fo)] sl) (cellV (kindV kt q.k)) ++ [ritO (W.length : Int) 0, lstO (fs.map plcV) fs.length, oneLoc "k" none]) (n := 2000) (ce := decs [Nin]) (s := 0) (i := 4) (bi := []) (res := fun _ => .cut (dueC w.params it f cw cws))
     (ys := fun Y2 => duXs kt W eW wA qA qs (av ++ [.str (dueAns q.kd p (fs.map Prod.fst)) (Y2.tk 2)]) (nA + 1) (i + 1) q (duFr hs k qA aA (duePl q.kd W.length (fs.map Prod.fst)) (Y2.tk 3) [("kind", .int q.kd q.tk), ("found", .ref (Y'.adr 13))] sl) (cellV (kindV kt q.k)) ++ [ritO (W.length : Int) 0, lstO (fs.map plcV) fs.length, locX 0]) (zs := fun _ => [])
     nilA (dle ‹_›) (fun q => by cases q) ks_dt_wf (ks_dt_ok (gp := sameG N g d os) rfl (by omega) hU hf hW hp' hv hk) S4 rfl ht3 (.inl rfl) (fun _ => rfl) (fun _ => rfl) nilA .nil ?_ fun Y2 h5 t5 ht5 hy5 W5 => go h5 t5 _ _ (Y2.tk 2) (Y2.tk 3) (Y'.adr 13) ht5 (hy5 2 (by decide)) (W5.fst.pick [0, 1, 2, 3, 4, 5, 6, 7] (by decide) rfl rfl) (Kh.comp W5.K (due_in' W1.new))
    subst eY
    intro bf Y2
    rw [hh]
    rcases hk with e | e <;> rw [e] <;> cases r <;> kernel_rfl
   ·refine piece_s (w := wf w r) (D := 70) (U := 100) (nt := false) (N := N) (ks := ks_dt w.params [] [2] hs (fun _ => k) 0 sl qA cw p tp q.kd q.tk fs W eW av nA) (cur := []) (as := duAs f wA qA aA it q.a cws cw ++ [12, 13, 14].map Y'.adr) (xs := duXs kt W eW wA qA qs av nA (i + 1) q (duFr hs k qA aA p tp [("kind", .int q.kd q.tk), ("found", .ref fo)] sl) (cellV (kindV kt q.k)) ++ [ritO (W.length : Int) 0, lstO (fs.map plcV) fs.length, oneLoc "k" (some (a1, a2, a3))]) (n := 2000) (ce := decs [Nio]) (s := 0) (i := 4) (bi := []) (res := fun _ => .cut (dueC w.params it f cw cws))
     (ys := fun Y2 => duXs kt W eW wA qA qs (av ++ [.str (dueAns q.kd p (fs.map Prod.fst)) (Y2.tk 2)]) (nA + 1) (i + 1) q (duFr hs k qA aA (duePl q.kd W.length (fs.map Prod.fst)) (Y2.tk 3) [("kind", .int q.kd q.tk), ("found", .ref (Y'.adr 13))] sl) (cellV (kindV kt q.k)) ++ [ritO (W.length : Int) 0, lstO (fs.map plcV) fs.length, locX 2]) (zs := fun _ => [])
     nilA (dle ‹_›) (fun q => by cases q) ks_dt_wf (ks_dt_ok (gp := sameG N g d os) rfl (by omega) hU hf hW hp' hv hk) S4 rfl ht3 (.inl rfl) (fun _ => rfl) (fun _ => rfl) nilA .nil ?_ fun Y2 h5 t5 ht5 hy5 W5 => go h5 t5 _ _ (Y2.tk 2) (Y2.tk 3) (Y'.adr 13) ht5 (hy5 2 (by decide)) (W5.fst.pick [0, 1, 2, 3, 4, 5, 6, 7] (by decide) rfl rfl) (Kh.comp W5.K (due_in' W1.new))
    subst eY
    intro bf Y2
    rw [hh]
    rcases hk with e | e <;> rw [e] <;> cases r <;> kernel_rfl
  ·rw [hk] at go
   have e4 : dueAns 4 p (fs.map Prod.fst) = nTxt fs.length := by
    show nTxt ((fs.map Prod.fst).length : Nat) = _
    rw [List.length_map]
   rw [e4] at go
   rcases loc with _ | ⟨a1, a2, a3⟩
   ·refine piece_s (w := wf w r) (D := 70) (U := 100) (nt := false) (N := N) (ks := ks_d4 w.params [3] hs (fun _ => k) 0 sl qA cw p tp q.tk fs W eW av nA 2) (cur := []) (as := duAs f wA qA aA it q.a cws cw ++ [12, 13, 14].map Y'.adr) (xs := duXs kt W eW wA qA qs av nA (i + 1) q (duFr hs k qA aA p tp [("kind", .int q.kd q.tk), ("found", .ref fo)] sl) (cellV (kindV kt q.k)) ++ [ritO (W.length : Int) 0, lstO (fs.map plcV) fs.length, oneLoc "k" none]) (n := 2000) (ce := decs [Nip, Niq]) (s := 0) (i := 5) (bi := []) (res := fun _ => .cut (dueC w.params it f cw cws))
     (ys := fun Y2 => duXs kt W eW wA qA qs (av ++ [.str (nTxt fs.length) (Y2.tk 3)]) (nA + 1) (i + 1) q (duFr hs k qA aA (duePl 4 W.length (fs.map Prod.fst)) (Y2.tk 4) [("kind", .int 4 q.tk), ("found", .ref (Y'.adr 13))] sl) (cellV (kindV kt q.k)) ++ [ritO (W.length : Int) 0, lstO (fs.map plcV) fs.length, locX 0]) (zs := fun _ => [])
     nilA (dle ‹_›) (fun q => by cases q) ks_d4_wf (ks_d4_ok (gp := sameG N g d os) rfl (by omega) hU hfl hW hv) S4 rfl ht3 (.inl rfl) (fun _ => rfl) (fun _ => rfl) nilA .nil ?_ fun Y2 h5 t5 ht5 hy5 W5 => go h5 t5 _ _ (Y2.tk 3) (Y2.tk 4) (Y'.adr 13) ht5 (hy5 3 (by decide)) (W5.fst.pick [0, 1, 2, 3, 4, 5, 6, 7] (by decide) rfl rfl) (Kh.comp W5.K (due_in' W1.new))
    subst eY
    intro bf Y2
    rw [hh]
    rw [hk]; cases r <;> kernel_rfl
   ·refine piece_s (w := wf w r) (D := 70) (U := 100) (nt := false) (N := N) (ks := ks_d4 w.params [3] hs (fun _ => k) 0 sl qA cw p tp q.tk fs W eW av nA 2) (cur := []) (as := duAs f wA qA aA it q.a cws cw ++ [12, 13, 14].map Y'.adr) (xs := duXs kt W eW wA qA qs av nA (i + 1) q (duFr hs k qA aA p tp [("kind", .int q.kd q.tk), ("found", .ref fo)] sl) (cellV (kindV kt q.k)) ++ [ritO (W.length : Int) 0, lstO (fs.map plcV) fs.length, oneLoc "k" (some (a1, a2, a3))]) (n := 2000) (ce := decs [Nir, Nis]) (s := 0) (i := 5) (bi := []) (res := fun _ => .cut (dueC w.params it f cw cws))
     (ys := fun Y2 => duXs kt W eW wA qA qs (av ++ [.str (nTxt fs.length) (Y2.tk 3)]) (nA + 1) (i + 1) q (duFr hs k qA aA (duePl 4 W.length (fs.map Prod.fst)) (Y2.tk 4) [("kind", .int 4 q.tk), ("found", .ref (Y'.adr 13))] sl) (cellV (kindV kt q.k)) ++ [ritO (W.length : Int) 0, lstO (fs.map plcV) fs.length, locX 2]) (zs := fun _ => [])
     nilA (dle ‹_›) (fun q => by cases q) ks_d4_wf (ks_d4_ok (gp := sameG N g d os) rfl (by omega) hU hfl hW hv) S4 rfl ht3 (.inl rfl) (fun _ => rfl) (fun _ => rfl) nilA .nil ?_ fun Y2 h5 t5 ht5 hy5 W5 => go h5 t5 _ _ (Y2.tk 3) (Y2.tk 4) (Y'.adr 13) ht5 (hy5 3 (by decide)) (W5.fst.pick [0, 1, 2, 3, 4, 5, 6, 7] (by decide) rfl rfl) (Kh.comp W5.K (due_in' W1.new))
    subst eY
    intro bf Y2
    rw [hh]
    rw [hk]; cases r <;> kernel_rfl
noncomputable abbrev d7As (f wA qA aA it cws cw : Addr) : List Addr := [f, wA, qA, aA, it, cws, cw]
noncomputable def wT (kt : Nat → Tok) (ks : List Nat) : List (Str × Tok) := ks.map fun k => (txt k, kt k)
theorem wT_len {kt ks} : (wT kt ks).length = ks.length := List.length_map ..
theorem fnd_wT {kt ks} {k p : Nat} : fndS (txt k) p ((wT kt ks).drop p) = fndR (txt k) p (ks.drop p) := by
 unfold wT
 rw [← List.map_drop]
 exact fndS_fndR _ _
noncomputable def d7Xs (kt : Nat → Tok) (ks : List Nat) (eW : Nat) (wA : Addr) (qs : List Qd) (accs : List (Str × Tok)) (lt fr cwO : Obj) : List Obj :=
 [fr, lstO ((wT kt ks).map strV) eW, lstO (qs.map Qd.v) qs.length, lstO (accs.map strV) accs.length, lt, cellV (.ref wA), cwO]
theorem due_app {accs : List (Str × Tok)} {x : Str} {u : Tok} : accs.map strV ++ [.str x u] = (accs ++ [(x, u)]).map strV ∧ accs.length + 1 = (accs ++ [(x, u)]).length := ⟨by simp [strV], by simp⟩
theorem due_loop {N : Nat} {w : World} {r : Bool} {A : Around} (hr : A.depth + 280 ≤ recursionLimit) (hh : A.handled = none) (hU : A.units + 100 ≤ cLine) {g : Array GenState} {d : Drawn} {os : OsState} {f wA qA aA it cws cw : Addr} {kt : Nat → Tok} {ks : List Nat} (hW : ks.length < 1000000) {eW : Nat} {qs : List Qd} {sl : Array (Option Value)}
  (hqs : ∀ q ∈ qs, (q.kd = 0 ∨ q.kd = 1 ∨ q.kd = 4) ∧ q.a ∉ d7As f wA qA aA it cws cw ∧ (kt0 w.params).get q.a = none) {R : Result → Shared → Prop} :
  ∀ (rest : List Qd) (i : Nat) (hi : qs.drop i = rest) (hn : i + rest.length = qs.length) {accs : List (Str × Tok)} (ha : accs.length + rest.length < 1000000) {p : Nat} (hp : p ≤ ks.length) {tp : Tok} {st : Option (Value × Addr × Value)} {hs : Nat → Int} {k : Nat → Tok} {h : Heap} {tok : Nat} (h1 : N < tok)
   (S : Starts (kt0 w.params) h (d7As f wA qA aA it cws cw) (d7Xs kt ks eW wA qs accs (litO qA i) (duFr hs k qA aA p tp (duNames st) sl) (duCell st))) (Q : ∀ q ∈ qs, h.get? q.a = some (qO kt q))
   (fin : ∀ h' t' (accs' : List (Str × Tok)) hs' k' tp' st', N < t' → accs'.map Prod.fst = accs.map Prod.fst ++ dueA ks (rest.map qd) p →
    Starts (kt0 w.params) h' (d7As f wA qA aA it cws cw) (d7Xs kt ks eW wA qs accs' (litE qs.length) (duFr hs' k' qA aA (dueP ks (rest.map qd) p) tp' (duNames st') sl) (duCell st')) → KeepB false h h' (d7As f wA qA aA it cws cw) → R (.ok .next) ⟨h', g, d, t', os⟩),
   codeAny (model pw (wf w r)) A (dueC w.params it f cw cws) R ⟨h, g, d, tok, os⟩
 | [], i, hi, hn, accs, ha, p, hp, tp, st, hs, k, h, tok, h1, S, Q, fin => by
  obtain rfl : i = qs.length := hn
  refine code_w (w := wf w r) (D := 70) (U := 0) (nt := false) (N := N) (ks := [(kLEnd [4, 2] (qs.map Qd.v) qs.length qs.length).q]) (cur := []) (as := d7As f wA qA aA it cws cw) (xs := d7Xs kt ks eW wA qs accs (litO qA qs.length) (duFr hs k qA aA p tp (duNames st) sl) (duCell st)) (n := 1000) (ce := decs [33558533]) (e := 0) (s := 0) (i := 0) (bi := []) (res := fun Y => .res (.ok .next))
   (ys := fun Y => d7Xs kt ks eW wA qs accs (litE qs.length) (duFr hs k qA aA p tp (duNames st) sl) (duCell st)) (zs := fun _ => []) nilA (dle ‹_›) (fun q => by cases q) (fun k hk q' => ?_) (fun k hk q' => ?_) S (by rcases st with _ | ⟨a1, a2, a3⟩ <;> rfl) h1 (.inl rfl) (fun _ => rfl) (fun _ => rfl) nilA .nil ?_ ?_
  ·rw [List.mem_singleton] at hk
   subst hk
   exact kLEnd_wf (by decide) rfl
  ·rw [List.mem_singleton] at hk
   subst hk
   exact kLEnd_ok (gp := sameG N g d os) rfl rfl (by rw [List.getElem?_map, List.getElem?_eq_none (Nat.le_refl _)]; rfl)
  ·intro bf Y
   rw [hh]
   rcases st with _ | ⟨a1, a2, a3⟩ <;> cases r <;> kernel_rfl
  ·intro Y h' t' ht' hy Wn
   exact fin h' t' accs hs k tp st ht' (by simp [dueA]) Wn.fst Wn.K
 | q :: rest, i, hi, hn, accs, ha, p, hp, tp, st, hs, k, h, tok, h1, S, Q, fin => by
  have hq : qs[i]? = some q := by
   have z := congrArg (fun l => l[0]?) hi
   simpa using z
  have hm : q ∈ qs := List.mem_of_getElem? hq
  obtain ⟨hkd, hqn, hqk⟩ := hqs q hm
  have hd : qs.drop (i + 1) = rest := by
   have z := congrArg List.tail hi
   rw [List.tail_drop] at z
   exact z
  simp only [List.length_cons] at hn ha
  have S8 : Starts (kt0 w.params) h (duAs f wA qA aA it q.a cws cw) (duXs kt (wT kt ks) eW wA qA qs (accs.map strV) accs.length i q (duFr hs k qA aA p tp (duNames st) sl) (duCell st)) := (S.add1 (Q q hm) hqn hqk).pick [0, 1, 2, 3, 4, 7, 5, 6] (by decide) rfl rfl
  refine due_turn (N := N) hr hh hU (by rw [List.length_map]; omega) hq hkd (by rw [wT_len]; exact hW) (by rw [wT_len]; exact hp) h1 S8 fun h' t' hs' k' u tp' fo ht' hu' S' K' => ?_
  rw [fnd_wT, wT_len] at S'
  obtain ⟨e1, e2⟩ := due_app (accs := accs) (x := dueAns q.kd p (fndR (txt q.k) p (ks.drop p))) (u := u)
  rw [e1, e2] at S'
  have K7 : KeepB false h h' (d7As f wA qA aA it cws cw) := (K'.sub (bs := d7As f wA qA aA it cws cw ++ [q.a]) fun b hb => by
   simp only [duAs, d7As, List.cons_append, List.nil_append, memC, memN, or_false] at hb ⊢
   rcases hb with h | h | h | h | h | h | h | h <;> simp [h]).less (Q q hm) (starts_get S' 5 rfl rfl)
  have Q' : ∀ q ∈ qs, h'.get? q.a = some (qO kt q) := fun q' hq' => K7.keep _ _ (Q q' hq') (hqs q' hq').2.1 (fun h => by cases h)
  have hp' : duePl q.kd ks.length (fndR (txt q.k) p (ks.drop p)) ≤ ks.length := (due_step (k := q.k) hp hkd).2.2
  refine due_loop hr hh hU hW hqs rest (i + 1) hd (by omega) (accs := accs ++ [(dueAns q.kd p (fndR (txt q.k) p (ks.drop p)), u)]) (by simp only [List.length_append, List.length_cons, List.length_nil]; omega) hp' ht' (S'.pick [0, 1, 2, 3, 4, 6, 7] (by decide) rfl rfl) Q' fun h'' t'' accs'' hs'' k'' tp'' st'' b1 b2 b3 b4 => fin h'' t'' accs'' hs'' k'' tp'' st'' b1 ?_ b3 (K7.trans0 b4)
  rw [b2]
  simp [dueA, qd]
theorem pick_from {vs : List Value} {p : Nat} (hp : p ≤ vs.length) : slicePick (Array.mk vs) (some (p : Int)) none none = Array.mk (vs.drop p) := by
 have e : sliceBounds (some (p : Int)) none none (Array.mk vs).size = ((p : Int), ((vs.length : Nat) : Int), 1) := by
  simp only [sliceBounds, Option.getD_none, show (1 : Int) > 0 by decide, if_true, if_neg (show ¬ ((p : Int) < 0) by omega), List.size_toArray]
  congr 1
  omega
 rw [kmk_pick_nat _ e]
 show Array.mk ((vs.drop p).take (vs.length - p)) = _
 rw [List.take_of_length_le (by rw [List.length_drop]; exact Nat.le_refl _)]
theorem pick_upto {vs : List Value} {p : Nat} (hp : p ≤ vs.length) : slicePick (Array.mk vs) none (some (p : Int)) none = Array.mk (vs.take p) := by
 have e : sliceBounds none (some (p : Int)) none (Array.mk vs).size = (((0 : Nat) : Int), (p : Int), 1) := by
  simp only [sliceBounds, Option.getD_none, show (1 : Int) > 0 by decide, if_true, if_neg (show ¬ ((p : Int) < 0) by omega), List.size_toArray]
  congr 1
  congr 1
  omega
 rw [kmk_pick_nat _ e]
 show Array.mk ((vs.drop 0).take (p - 0)) = _
 rw [List.drop_zero, Nat.sub_zero]
noncomputable def dF (P : Params) (f cws cw : Addr) : Code := .func (stmtsOf (o798 P)) (dueEnv P f cw cws)
noncomputable def hsD (P : Params) : Nat → Int
 | 0 => hashZ P (o "questions")
 | 1 => hashZ P (o "answers")
 | _ => hashZ P (o "place")
noncomputable def kD (a b c : Tok) : Nat → Tok
 | 0 => a
 | 1 => b
 | _ => c
theorem dF_under {A : Around} {P : Params} {f cws cw : Addr} : ((A.under (dF P f cws cw)).mark none).depth = A.depth + 1 ∧ ((A.under (dF P f cws cw)).mark none).units = A.units + 3 ∧ ((A.under (dF P f cws cw)).mark none).handled = A.handled := by
 refine ⟨?_, ?_, rfl⟩
 ·show A.depth + (dF P f cws cw).weight = A.depth + 1
  have e : (dF P f cws cw).weight = 1 := by kernel_rfl
  rw [e]
 ·show A.units + (dF P f cws cw).cUnits = A.units + 3
  have e : (dF P f cws cw).cUnits = 3 := by kernel_rfl
  rw [e]
noncomputable def ks_de (vs : List Value) (eW p : Nat) (tp : Tok) : List HQ :=
 [(kSlc [1, 7] [] vs eW (some (p : Int)) none none (fun _ _ => tp) (vs.drop p)).q, (kSlc [1, 9] [] vs eW none (some (p : Int)) none (fun _ _ => tp) (vs.take p)).q, (kSlc [10, 11] [1] (vs.take p) 0 none none (some (-1)) (fun t _ => t 0) (vs.take p).reverse).q]
theorem ks_de_wf {vs eW p tp} : ∀ k' ∈ ks_de vs eW p tp, ∀ q', HKwf (k'.k q') := by
 intro k' hk q'
 simp only [ks_de, memC, memN, or_false] at hk
 rcases hk with rfl | rfl | rfl
 ·exact kSlc_wf (by decide) rfl
 ·exact kSlc_wf (by decide) rfl
 ·exact kSlc_wf (by decide) rfl
theorem ks_de_ok {D U : Nat} {kt : KT} {w : World} {A : Around} {gp : GP} (hup : gp.up = false) {vs : List Value} {eW p : Nat} {tp : Tok} (hp : p ≤ vs.length) (hv : vs.length < 1000000) : ∀ k' ∈ ks_de vs eW p tp, ∀ q', HKok D U kt w A gp (k'.k q') := by
 intro k' hk q'
 simp only [ks_de, memC, memN, or_false] at hk
 rcases hk with rfl | rfl | rfl
 ·exact kSlc_ok hup rfl (by decide) (pick_from hp) hv
 ·exact kSlc_ok hup rfl (by decide) (pick_upto hp) hv
 ·exact kSlc_ok hup rfl (by decide) (krv_pick _) (Nat.lt_of_le_of_lt (by rw [List.length_take]; exact Nat.min_le_right _ _) hv)
theorem due_ok {N : Nat} {w : World} {r : Bool} {A : Around} (hr : A.depth + 420 ≤ recursionLimit) (hh : A.handled = none) (hU : A.units + 200 ≤ cLine) {g : Array GenState} {d : Drawn} {os : OsState} {wA qA : Addr} {kt : Nat → Tok} {ks : List Nat} (hW : ks.length < 1000000) {eW : Nat} {qs : List Qd} (hQ : qs.length < 1000000)
  {h : Heap} (hqs : ∀ q ∈ qs, (q.kd = 0 ∨ q.kd = 1 ∨ q.kd = 4) ∧ q.a ∉ [wA, qA] ∧ (kt0 w.params).get q.a = none ∧ h.get? q.a = some (qO kt q)) {tok : Nat} (h1 : N < tok)
  (S : Starts (kt0 w.params) h [wA, qA] [lstO ((wT kt ks).map strV) eW, lstO (qs.map Qd.v) qs.length]) {R : Result → Shared → Prop}
  (fin : ∀ h' t' (accs : List (Str × Tok)) aA lA rA nA uA, N < t' → accs.map Prod.fst = dueA ks (qs.map qd) 0 →
   Starts (kt0 w.params) h' [wA, qA, aA, lA, rA, nA, uA] [lstO ((wT kt ks).map strV) eW, lstO (qs.map Qd.v) qs.length, lstO (accs.map strV) accs.length, lstO (((wT kt ks).map strV).drop (dueP ks (qs.map qd) 0)) 0, lstO (((wT kt ks).map strV).take (dueP ks (qs.map qd) 0)).reverse 0, lstO [] 0, lstO [.ref aA, .ref lA, .ref rA, .ref nA] 0] →
   KeepB false h h' [wA, qA] → (∀ b ∈ [aA, lA, rA, nA, uA], h.objs.size ≤ b) → R (.ok (.ret (.ref uA))) ⟨h', g, d, t', os⟩) :
  codeAny (model pw (wf w r)) A (.call (.ref 798) ⟨[.ref wA, .ref qA], []⟩) R ⟨h, g, d, tok, os⟩ := by
 refine code_w (w := wf w r) (D := 70) (U := 0) (nt := false) (N := N) (ks := []) (cur := []) (as := [wA, qA]) (xs := [lstO ((wT kt ks).map strV) eW, lstO (qs.map Qd.v) qs.length]) (n := 2000) (e := 1) (ce := decs [17609804012855300]) (s := 0) (i := 1) (bi := [2, 3, 4]) (ys := fun _ => [lstO ((wT kt ks).map strV) eW, lstO (qs.map Qd.v) qs.length]) (zs := fun Y => [frO (fun _ => hashZ w.params (o "questions")) (fun _ => Y.tk 0) [("questions", .ref qA)] (Array.mk []), cellV (.ref wA), cell0]) (res := fun Y => .cut (dF w.params (Y.adr 2) (Y.adr 3) (Y.adr 4)))
  nilA (dle ‹_›) (fun q => by cases q) nilA nilA S rfl h1 (.inl rfl) (fun _ => rfl) (fun _ => rfl) (fun x hx => ?_) (by decide) ?_ fun Y h1' t1 ht1 hy1 W1 => ?_
 ·simp only [memC, memN, or_false] at hx
  rcases hx with rfl | rfl | rfl
  ·show 2 ≤ 2; decide
  ·show 2 ≤ 3; decide
  ·show 2 ≤ 4; decide
 ·intro bf Y
  cases r <;> kernel_rfl
 have S1 : Starts (kt0 w.params) h1' [wA, qA, Y.adr 2, Y.adr 3, Y.adr 4] [lstO ((wT kt ks).map strV) eW, lstO (qs.map Qd.v) qs.length, frO (fun _ => hashZ w.params (o "questions")) (fun _ => Y.tk 0) [("questions", .ref qA)] (Array.mk []), cellV (.ref wA), cell0] := W1.S
 have new1 : ∀ b ∈ [Y.adr 2, Y.adr 3, Y.adr 4], h.objs.size ≤ b := W1.new
 have K1 := W1.K
 generalize Y.tk 0 = tq at S1
 generalize Y.adr 2 = f at S1 new1
 generalize Y.adr 3 = cws at S1 new1
 generalize Y.adr 4 = cw at S1 new1
 refine code_piece (w := wf w r) (D := 70) (U := 0) (e := 0) (by omega) rfl S1.base ?_
 refine call_w (w := wf w r) (D := 70) (U := 0) (nt := false) (N := N) (ks := []) (cur := []) (as := [wA, qA, f, cws, cw]) (xs := [lstO ((wT kt ks).map strV) eW, lstO (qs.map Qd.v) qs.length, frO (fun _ => hashZ w.params (o "questions")) (fun _ => tq) [("questions", .ref qA)] (Array.mk []), cellV (.ref wA), cell0]) (n := 2000) (ce := decs [374327184957563115400983058742179386496991834945543, 327559143669790678317899067419810588473139717472264, 22904593626649153002902061371484136258097756782600]) (s := 0) (i := 3) (bi := [5, 10])
  (c' := fun Y2 => dueC w.params (Y2.adr 10) f cw cws) (ys := fun Y2 => [lstO ((wT kt ks).map strV) eW, lstO (qs.map Qd.v) qs.length, duFr (hsD w.params) (kD tq (Y2.tk 1) (Y2.tk 2)) qA (Y2.adr 5) 0 (Y2.tk 0) [] (Array.mk []), cellV (.ref wA), cell0]) (zs := fun _ => [lstO [] 0, litO qA 0])
  nilA (dle ‹_›) (fun q => by cases q) nilA nilA S1 rfl ht1 (.inl rfl) (fun _ => rfl) (fun _ => rfl) (fun x hx => ?_) (by decide) ?_ fun Y2 h2 t2 ht2 _ W2 => ?_
 ·simp only [memC, memN, or_false] at hx
  rcases hx with rfl | rfl
  ·show 5 ≤ 5; decide
  ·show 5 ≤ 10; decide
 ·intro bf Y2
  rw [hh]
  cases r <;> kernel_rfl
 generalize eY : Y2.pre [wA, qA, f, cws, cw] = Y2' at *
 have S2 : Starts (kt0 w.params) h2 ([wA, qA, f, cws, cw] ++ [Y2'.adr 5, Y2'.adr 10]) [lstO ((wT kt ks).map strV) eW, lstO (qs.map Qd.v) qs.length, duFr (hsD w.params) (kD tq (Y2'.tk 1) (Y2'.tk 2)) qA (Y2'.adr 5) 0 (Y2'.tk 0) [] (Array.mk []), cellV (.ref wA), cell0, lstO [] 0, litO qA 0] := W2.S
 have new2 : ∀ b ∈ [Y2'.adr 5, Y2'.adr 10], h1'.objs.size ≤ b := W2.new
 obtain ⟨dd, du, dh⟩ := dF_under (A := A) (P := w.params) (f := f) (cws := cws) (cw := cw)
 have S7 : Starts (kt0 w.params) h2 (d7As f wA qA (Y2'.adr 5) (Y2'.adr 10) cws cw) (d7Xs kt ks eW wA qs [] (litO qA 0) (duFr (hsD w.params) (kD tq (Y2'.tk 1) (Y2'.tk 2)) qA (Y2'.adr 5) 0 (Y2'.tk 0) (duNames none) (Array.mk [])) (duCell none)) := S2.pick [2, 0, 1, 5, 6, 3, 4] (by decide) rfl rfl
 have qfree : ∀ q ∈ qs, q.a ∉ d7As f wA qA (Y2'.adr 5) (Y2'.adr 10) cws cw := fun q hq hm => by
  obtain ⟨_, b1, _, b3⟩ := hqs q hq
  have lt := Heap.lt_size b3
  have lt1 := Nat.lt_of_lt_of_le lt K1.size
  simp only [d7As, memC, memN, or_false, not_or] at hm b1
  rcases hm with e | e | e | e | e | e | e
  ·exact absurd lt (Nat.not_lt.mpr (e ▸ new1 f (.head _)))
  ·exact b1.1 e
  ·exact b1.2 e
  ·exact absurd lt1 (Nat.not_lt.mpr (e ▸ new2 _ (.head _)))
  ·exact absurd lt1 (Nat.not_lt.mpr (e ▸ new2 _ (.tail _ (.head _))))
  ·exact absurd lt (Nat.not_lt.mpr (e ▸ new1 cws (.tail _ (.head _))))
  ·exact absurd lt (Nat.not_lt.mpr (e ▸ new1 cw (.tail _ (.tail _ (.head _)))))
 have Qs2 : ∀ q ∈ qs, h2.get? q.a = some (qO kt q) := fun q hq => by
  obtain ⟨_, b1, _, b3⟩ := hqs q hq
  have z1 := K1.keep _ _ b3 b1 (fun h => by cases h)
  refine W2.K.keep _ _ z1 (fun hm => qfree q hq ?_) (fun h => by cases h)
  simp only [d7As, memC, memN, or_false] at hm ⊢
  rcases hm with h | h | h | h | h <;> simp [h]
 refine due_loop (N := N) (by omega) (dh.trans hh) (by omega) hW (qs := qs) (fun q hq => ⟨(hqs q hq).1, qfree q hq, (hqs q hq).2.2.1⟩) qs 0 rfl (by simp) (accs := []) (by simpa using hQ) (Nat.zero_le _) (st := none) ht2 S7 Qs2 fun h3 t3 accs hs' k' tp st ht3 hacc S3 K3 => ?_
 have hP := (due_eq (W := ks) (qs.map qd) 0 (Nat.zero_le _) (fun q hq => by
  obtain ⟨q', hq', rfl⟩ := List.mem_map.mp hq
  exact (hqs q' hq').1)).2.2
 have hlen : ((wT kt ks).map strV).length = ks.length := by rw [List.length_map, wT_len]
 generalize hpe : dueP ks (qs.map qd) 0 = P0 at *
 generalize hvs : (wT kt ks).map strV = vs at *
 have last : ∀ (Y4 : Dyn) h4 t4, N < t4 → Went (wf w r).params false h3 h4 (d7As f wA qA (Y2'.adr 5) (Y2'.adr 10) cws cw) ([8, 12, 13, 14].map Y4.adr) [duFr hs' k' qA (Y2'.adr 5) P0 tp (duNames st) (Array.mk []), lstO vs eW, lstO (qs.map Qd.v) qs.length, lstO (accs.map strV) accs.length, litE qs.length, cellV (.ref wA), duCell st] [lstO (vs.drop P0) 0, lstO (vs.take P0).reverse 0, lstO [] 0, lstO [.ref (Y2'.adr 5), .ref (Y4.adr 8), .ref (Y4.adr 12), .ref (Y4.adr 13)] 0] →
   R (.ok (.ret (.ref (Y4.adr 14)))) ⟨h4, g, d, t4, os⟩ := fun Y4 h4 t4 ht4 W4 => by
  have S4 : Starts (kt0 w.params) h4 (d7As f wA qA (Y2'.adr 5) (Y2'.adr 10) cws cw ++ [Y4.adr 8, Y4.adr 12, Y4.adr 13, Y4.adr 14]) _ := W4.S
  have z1 := K1.size
  have z2 := W2.K.size
  have z3 := K3.size
  have new4 : ∀ b ∈ [Y4.adr 8, Y4.adr 12, Y4.adr 13, Y4.adr 14], h3.objs.size ≤ b := W4.new
  refine fin h4 t4 accs (Y2'.adr 5) (Y4.adr 8) (Y4.adr 12) (Y4.adr 13) (Y4.adr 14) ht4 (by simpa using hacc) (S4.pick [1, 2, 3, 7, 8, 9, 10] (by decide) rfl rfl) ?_ fun b hb => ?_
  ·have inn : ∀ b ∈ d7As f wA qA (Y2'.adr 5) (Y2'.adr 10) cws cw, b ∈ [wA, qA] ∨ h.objs.size ≤ b := fun b hb => by
    simp only [d7As, memC, memN, or_false] at hb ⊢
    rcases hb with rfl | rfl | rfl | rfl | rfl | rfl | rfl
    ·exact .inr (new1 _ (.head _))
    ·exact .inl (.inl rfl)
    ·exact .inl (.inr rfl)
    ·exact .inr (Nat.le_trans z1 (new2 _ (.head _)))
    ·exact .inr (Nat.le_trans z1 (new2 _ (.tail _ (.head _))))
    ·exact .inr (new1 _ (.tail _ (.head _)))
    ·exact .inr (new1 _ (.tail _ (.tail _ (.head _))))
   refine ((K1.comp W2.K fun b hb => ?_).comp K3 inn).comp W4.K inn
   simp only [memC, memN, or_false] at hb ⊢
   rcases hb with rfl | rfl | rfl | rfl | rfl
   ·exact .inl (.inl rfl)
   ·exact .inl (.inr rfl)
   ·exact .inr (new1 _ (.head _))
   ·exact .inr (new1 _ (.tail _ (.head _)))
   ·exact .inr (new1 _ (.tail _ (.tail _ (.head _))))
  ·rcases List.mem_cons.mp hb with rfl | hb
   ·exact Nat.le_trans z1 (new2 _ (.head _))
   ·exact Nat.le_trans (Nat.le_trans z1 (Nat.le_trans z2 z3)) (new4 b hb)
 have S3' : Starts (kt0 w.params) h3 (d7As f wA qA (Y2'.adr 5) (Y2'.adr 10) cws cw) [duFr hs' k' qA (Y2'.adr 5) P0 tp (duNames st) (Array.mk []), lstO vs eW, lstO (qs.map Qd.v) qs.length, lstO (accs.map strV) accs.length, litE qs.length, cellV (.ref wA), duCell st] := by
  have z := S3
  unfold d7Xs at z
  rw [hvs] at z
  exact z
 have bis : ∀ x ∈ [8, 12, 13, 14], (d7As f wA qA (Y2'.adr 5) (Y2'.adr 10) cws cw).length ≤ x := fun x hx => by
  simp only [memC, memN, or_false] at hx
  rcases hx with rfl | rfl | rfl | rfl
  ·show 7 ≤ 8; decide
  ·show 7 ≤ 12; decide
  ·show 7 ≤ 13; decide
  ·show 7 ≤ 14; decide
 have hP' : P0 ≤ vs.length := hlen ▸ hP
 have hv' : vs.length < 1000000 := hlen ▸ hW
 rcases st with _ | ⟨a1, a2, a3⟩
 ·refine piece_w (w := wf w r) (D := 70) (U := 0) (nt := false) (N := N) (ks := ks_de vs eW P0 tp) (cur := []) (as := d7As f wA qA (Y2'.adr 5) (Y2'.adr 10) cws cw) (xs := [duFr hs' k' qA (Y2'.adr 5) P0 tp (duNames none) (Array.mk []), lstO vs eW, lstO (qs.map Qd.v) qs.length, lstO (accs.map strV) accs.length, litE qs.length, cellV (.ref wA), duCell none]) (n := 2000) (ce := decs [Nit, 16799755]) (s := 0) (i := 2) (bi := [8, 12, 13, 14]) (res := fun Y4 => .ok (.ret (.ref (Y4.adr 14))))
   (ys := fun _ => [duFr hs' k' qA (Y2'.adr 5) P0 tp (duNames none) (Array.mk []), lstO vs eW, lstO (qs.map Qd.v) qs.length, lstO (accs.map strV) accs.length, litE qs.length, cellV (.ref wA), duCell none]) (zs := fun Y4 => [lstO (vs.drop P0) 0, lstO (vs.take P0).reverse 0, lstO [] 0, lstO [.ref (Y2'.adr 5), .ref (Y4.adr 8), .ref (Y4.adr 12), .ref (Y4.adr 13)] 0])
   nilA (dle ‹_›) (fun q => by cases q) ks_de_wf (ks_de_ok rfl hP' hv') S3' rfl ht3 (.inl rfl) (fun _ => rfl) (fun _ => rfl) bis (by decide) ?_ fun Y4 h4 t4 ht4 _ W4 => last Y4 h4 t4 ht4 W4
  subst eY
  subst hvs
  intro bf Y4
  rw [hh]
  cases r <;> kernel_rfl
 ·refine piece_w (w := wf w r) (D := 70) (U := 0) (nt := false) (N := N) (ks := ks_de vs eW P0 tp) (cur := []) (as := d7As f wA qA (Y2'.adr 5) (Y2'.adr 10) cws cw) (xs := [duFr hs' k' qA (Y2'.adr 5) P0 tp (duNames (some (a1, a2, a3))) (Array.mk []), lstO vs eW, lstO (qs.map Qd.v) qs.length, lstO (accs.map strV) accs.length, litE qs.length, cellV (.ref wA), duCell (some (a1, a2, a3))]) (n := 2000) (ce := decs [Nit, 16799755]) (s := 0) (i := 2) (bi := [8, 12, 13, 14]) (res := fun Y4 => .ok (.ret (.ref (Y4.adr 14))))
   (ys := fun _ => [duFr hs' k' qA (Y2'.adr 5) P0 tp (duNames (some (a1, a2, a3))) (Array.mk []), lstO vs eW, lstO (qs.map Qd.v) qs.length, lstO (accs.map strV) accs.length, litE qs.length, cellV (.ref wA), duCell (some (a1, a2, a3))]) (zs := fun Y4 => [lstO (vs.drop P0) 0, lstO (vs.take P0).reverse 0, lstO [] 0, lstO [.ref (Y2'.adr 5), .ref (Y4.adr 8), .ref (Y4.adr 12), .ref (Y4.adr 13)] 0])
   nilA (dle ‹_›) (fun q => by cases q) ks_de_wf (ks_de_ok rfl hP' hv') S3' rfl ht3 (.inl rfl) (fun _ => rfl) (fun _ => rfl) bis (by decide) ?_ fun Y4 h4 t4 ht4 _ W4 => last Y4 h4 t4 ht4 W4
  subst eY
  subst hvs
  intro bf Y4
  rw [hh]
  cases r <;> kernel_rfl
theorem rc_txt {A : Around} {s : Shared} {a b : Addr} {xs ys : List (Str × Tok)} {n m : Nat} (ha : s.heap.get? a = some (lstO (xs.map strV) n)) (hb : s.heap.get? b = some (lstO (ys.map strV) m)) (e : xs.map Prod.fst = ys.map Prod.fst) (hu : A.units < cLine) : SeqAt.RcAt A s (.ref a) (.ref b) true := by
 have hl : xs.length = ys.length := by simpa using congrArg List.length e
 have z := SeqAt.RcAt.lists (A := A) (s := s) (e := fun _ => true) (isList_of ha) (isList_of hb) (by simpa using hl) hu (fun j h1 h2 => by
  have j1 : j < xs.length := by simpa using h1
  have j2 : j < ys.length := by simpa using h2
  have e1 : xs[j].1 = ys[j].1 := by
   have q := congrArg (fun l : List Str => l[j]?) e
   simp only [List.getElem?_map, List.getElem?_eq_getElem j1, List.getElem?_eq_getElem j2, Option.map_some, Option.some.injEq] at q
   exact q
  have q := SeqAt.EqAt.str_str (A := A.in1) (s := s) xs[j].1 xs[j].2 ys[j].1 ys[j].2
  rw [e1, beq_self_eq_true] at q
  have g1 : (Array.mk (xs.map strV))[j] = .str ys[j].1 xs[j].2 := by
   rw [← e1]
   simp [strV]
  have g2 : (Array.mk (ys.map strV))[j] = .str ys[j].1 ys[j].2 := by simp [strV]
  rw [g1, g2]
  exact q)
 have et : (List.range (Array.mk (xs.map strV)).size).all (fun _ => true) = true := List.all_eq_true.mpr fun _ _ => rfl
 rw [et] at z
 exact z
structure P8 where
 es : List Expr
 lp : Pos
 dx : Str
 dn : Pos
 ax : Str
 an : Pos
 bx : Str
 bn : Pos
 cp : Pos
 q : Pos
 p : Pos
noncomputable def P8.st (p : P8) : Stmt := .Return (some (.Compare (.List p.es p.lp) [.Eq] [.Call (.Name p.dx p.dn) [.Name p.ax p.an, .Name p.bx p.bn] [] p.cp] p.q)) p.p
noncomputable def p8Of (s : Stmt) : P8 := match s with
 | .Return (some (.Compare (.List es lp) [.Eq] [.Call (.Name dx dn) [.Name ax an, .Name bx bn] [] cp] q)) p => ⟨es, lp, dx, dn, ax, an, bx, bn, cp, q, p⟩
 | _ => ⟨[], default, o "", default, o "", default, o "", default, default, default, default⟩
noncomputable abbrev p8 (P : Params) : P8 := p8Of (stmtAt (o803 P) 7)
theorem p8_is (P : Params) : stmtAt (o803 P) 7 = (p8 P).st := by kernel_rfl
theorem kt0_798 (P : Params) : (kt0 P).get 798 = some (o798 P) := by kernel_rfl
noncomputable def fd798 (P : Params) : FuncData := match (o798 P).data with | .func fd => fd | _ => default
theorem o798_fd (P : Params) : (o798 P).data = .func (fd798 P) := by kernel_rfl
theorem lawA_units {A : Around} {P : Params} {f cL cK : Addr} : (A.under (lawC P f cL cK)).units = A.units + 3 := by
 show A.units + (lawC P f cL cK).cUnits = A.units + 3
 have e : (lawC P f cL cK).cUnits = 3 := by kernel_rfl
 rw [e]
noncomputable abbrev s8Xs (hh : Nat → Int) (k : Nat → Tok) (sl : Array (Option Value)) (sA nA wA qA aA lA mA oA : Addr) (kt : Nat → Tok) (ks : List Nat) (eW : Nat) (qs : List Qd) (ac : List (Str × Tok)) (n1 : Nat) (Lf : List (Str × Tok)) (n2 n3 n4 : Nat) : List Obj :=
 [frO hh k (lawL8 sA nA wA qA aA lA mA oA) sl, lstO ((wT kt ks).map strV) eW, lstO (qs.map Qd.v) qs.length, lstO (ac.map strV) n1, lstO (Lf.map strV) n2, lstO ((uld (wT kt ks).reverse Lf).2.map strV) n3, lstO ((uld (wT kt ks).reverse Lf).1.map strV) n4]
theorem law_s8 {N : Nat} {w : World} {r : Bool} {A : Around} (hr : A.depth + 637 ≤ recursionLimit) (hh0 : A.handled = none) (hU : A.units + 300 ≤ cLine) {g : Array GenState} {d : Drawn} {os : OsState} {f cK cL sA nA wA qA aA lA mA oA : Addr} {kt : Nat → Tok} {ks : List Nat} (hks : ks.length < 1000000) {eW : Nat} {qs : List Qd} (hQ : qs.length < 1000000)
  {ac Lf : List (Str × Tok)} {n1 n2 n3 n4 : Nat} (hac : ac.map Prod.fst = ansF (qs.map qd) ks) (hLf : Lf.map Prod.fst = (leftF (qs.map qd) ks).map txt) {hh : Nat → Int} {k : Nat → Tok} {sl : Array (Option Value)}
  {h : Heap} (hqs : ∀ q ∈ qs, (q.kd = 0 ∨ q.kd = 1 ∨ q.kd = 4) ∧ q.a ∉ [f, wA, qA, aA, lA, mA, oA] ∧ (kt0 w.params).get q.a = none ∧ h.get? q.a = some (qO kt q)) {tok : Nat} (h1 : N < tok)
  (S : Starts (kt0 w.params) h [f, wA, qA, aA, lA, mA, oA] (s8Xs hh k sl sA nA wA qA aA lA mA oA kt ks eW qs ac n1 Lf n2 n3 n4)) {R : Result → Shared → Prop}
  (fin : ∀ h' t', N < t' → KeepB false h h' [] → R (.ok (.ret (.bool true))) ⟨h', g, d, t', os⟩) :
  MeansP (wf w r) A (lawC w.params f cL cK) false [] (stmP w.params 7 (lawEnv w.params f cL cK)) R ⟨h, g, d, tok, os⟩ := by
 have hd : (A.under (lawC w.params f cL cK)).depth + 630 ≤ recursionLimit := by
  have := lawA_depth (A := A) (P := w.params) (f := f) (cL := cL) (cK := cK)
  have e : (lawA A w.params f cL cK).depth = (A.under (lawC w.params f cL cK)).depth := rfl
  omega
 have hhd : (A.under (lawC w.params f cL cK)).handled = none := hh0
 have hun : (A.under (lawC w.params f cL cK)).units + 250 ≤ cLine := by rw [lawA_units]; omega
 generalize hA2 : A.under (lawC w.params f cL cK) = A2 at hd hhd hun
 unfold stmP
 rw [trZ_eq]
 show wpOwn (model pw (wf w r)) A (lawC w.params f cL cK) ((execs [stmtAt (o803 w.params) 7] (lawEnv w.params f cL cK)).bind fun v => .pure (PySem.Fin.done v)) _ _ _
 refine wpOwn_of_wpAny ?_
 rw [hA2]
 refine wpAny_bind (wpAny_mono (Q := fun fl s' => R (.ok fl) s') ?_ (fun fl s' x => wpAny_pure ⟨fun q => (by cases q), x⟩) fun _ _ x => x)
 refine wpAny_execs_cons ?_
 rw [p8_is]
 refine wpAny_Return_some (wpAny_Compare1 ?_)
 refine ev_w (w := wf w r) (N := N) (ks := []) (n := 1000) (ce := decs [8594130945]) (i := 0) (bi := [7]) (v := fun Y => .ref (Y.adr 7)) (as := [f, wA, qA, aA, lA, mA, oA]) (xs := (s8Xs hh k sl sA nA wA qA aA lA mA oA kt ks eW qs ac n1 Lf n2 n3 n4))
  (ys := fun _ => (s8Xs hh k sl sA nA wA qA aA lA mA oA kt ks eW qs ac n1 Lf n2 n3 n4)) (zs := fun _ => [lstO [.ref aA, .ref lA, .ref mA, .ref oA] 0])
  (by omega) nilA nilA S rfl h1 (fun _ => rfl) (fun _ => rfl) (ge_one (by show 7 ≤ 7; decide)) (by decide) ?_ fun Y h2 t2 ht2 _ W2 => ?_
 ·intro c bf Y
  cases r <;> kernel_rfl
 have S2 : Starts (kt0 w.params) h2 [f, wA, qA, aA, lA, mA, oA, Y.adr 7] _ := W2.S
 have K2 := W2.K
 have new2 : h.objs.size ≤ Y.adr 7 := W2.new _ (.head _)
 have e7 : h2.get? (Y.adr 7) = some (lstO [.ref aA, .ref lA, .ref mA, .ref oA] 0) := starts_get S2 7 rfl rfl
 have S2' : Starts (kt0 w.params) h2 [f, wA, qA, aA, lA, mA, oA] _ := W2.fst
 generalize Y.adr 7 = x7 at e7 new2
 refine Call_Name rfl ?_
 refine nm_w (w := wf w r) (by omega) (ce := decs [0]) (v := .ref 798) S2' rfl ht2 (by intro c bf Y; cases r <;> kernel_rfl) fun h3 t3 ht3 S3 K3 => ?_
 refine callWith_def (o := o798 w.params) (fd := fd798 w.params) (o798_fd _) ?_
 refine wpAny_items_cons ?_
 refine nm_w (w := wf w r) (by omega) (ce := decs [1]) (v := .ref wA) S3 rfl ht3 (by intro c bf Y; cases r <;> kernel_rfl) fun h4 t4 ht4 S4 K4 => ?_
 refine wpAny_items_cons ?_
 refine nm_w (w := wf w r) (by omega) (ce := decs [1]) (v := .ref qA) S4 rfl ht4 (by intro c bf Y; cases r <;> kernel_rfl) fun h5 t5 ht5 S5 K5 => ?_
 refine wpAny_items_nil ?_
 refine ⟨S5.base _ _ (kt0_798 _), ?_⟩
 refine wpAny_runValue ?_
 have K25 : KeepB false h h5 [f, wA, qA, aA, lA, mA, oA] := ((K2.trans0 K3).trans0 K4).trans0 K5
 have all0 : ∀ b x, h.get? b = some x → h5.get? b = some x := fun b x e => by
  by_cases hm : b ∈ [f, wA, qA, aA, lA, mA, oA]
  ·obtain ⟨j, hj, rfl⟩ := List.mem_iff_getElem.mp hm
   have z := S5.at_ j _ _ (List.getElem?_eq_getElem hj) (List.getElem?_eq_getElem (S5.len ▸ hj))
   have z0 := S.at_ j _ _ (List.getElem?_eq_getElem hj) (List.getElem?_eq_getElem (S.len ▸ hj))
   rw [e] at z0
   rw [z, ← z0]
  ·exact K25.keep b x e hm (fun q => by cases q)
 have e75 : h5.get? x7 = some (lstO [.ref aA, .ref lA, .ref mA, .ref oA] 0) := by
  have nn : x7 ∉ [f, wA, qA, aA, lA, mA, oA] := fun hm => by
   obtain ⟨j, hj, e⟩ := List.mem_iff_getElem.mp hm
   have z0 := Heap.lt_size (S.at_ j _ _ (List.getElem?_eq_getElem hj) (List.getElem?_eq_getElem (S.len ▸ hj)))
   have z1 : x7 < h.objs.size := e ▸ z0
   exact absurd z1 (Nat.not_lt.mpr new2)
  exact K5.keep _ _ (K4.keep _ _ (K3.keep _ _ e7 nn (fun q => by cases q)) nn (fun q => by cases q)) nn (fun q => by cases q)
 refine due_ok (N := N) (w := w) (r := r) (by omega) hhd (by omega) hks (qs := qs) hQ (kt := kt) (eW := eW) (fun q hq => ?_) ht5 (S5.pick [1, 2] (by decide) rfl rfl) fun h6 t6 accs aA' lA' rA' nA' uA ht6 hacc S6 K6 new6 => ?_
 ·obtain ⟨b1, b2, b3, b4⟩ := hqs q hq
  refine ⟨b1, fun hm => b2 ?_, b3, all0 _ _ b4⟩
  simp only [memC, memN, or_false] at hm ⊢
  rcases hm with h | h <;> simp [h]
 have all6 : ∀ b x, h5.get? b = some x → h6.get? b = some x := fun b x e => by
  by_cases hm : b ∈ [wA, qA]
  ·simp only [memC, memN, or_false] at hm
   rcases hm with rfl | rfl
   ·have z := starts_get S5 1 rfl rfl
    rw [e] at z
    cases z
    exact starts_get S6 0 rfl rfl
   ·have z := starts_get S5 2 rfl rfl
    rw [e] at z
    cases z
    exact starts_get S6 1 rfl rfl
  ·exact K6.keep b x e hm (fun q => by cases q)
 have g6 : ∀ {j : Nat} {a : Addr} {x : Obj}, [f, wA, qA, aA, lA, mA, oA][j]? = some a → (s8Xs hh k sl sA nA wA qA aA lA mA oA kt ks eW qs ac n1 Lf n2 n3 n4)[j]? = some x → h6.get? a = some x ∧ a < h5.objs.size := fun e1 e2 => ⟨all6 _ _ (starts_get S5 _ e1 e2), Heap.lt_size (starts_get S5 _ e1 e2)⟩
 obtain ⟨p1, p2, p3⟩ := due_eq (W := ks) (qs.map qd) 0 (Nat.zero_le _) (fun q hq => by
  obtain ⟨q', hq', rfl⟩ := List.mem_map.mp hq
  exact (hqs q' hq').1)
 rw [List.drop_zero] at p1 p2
 have hu1 : A2.units < cLine := by omega
 have hu2 : A2.in1.units < cLine := by
  show A2.units + 1 < cLine
  omega
 have q3 : Lf.map Prod.fst = ((wT kt ks).drop (dueP ks (qs.map qd) 0)).map Prod.fst := by
  rw [hLf, p2]
  unfold wT
  rw [← List.map_drop, List.map_map]
  rfl
 have eu := uld_law q3
 have ne : ∀ {a b : Addr}, a < h5.objs.size → b ∈ [aA', lA', rA', nA', uA] → a ≠ b := fun lt hb q => absurd lt (Nat.not_lt.mpr (q ▸ new6 _ hb))
 have r1 : SeqAt.EqAt A2.in1 ⟨h6, g, d, t6, os⟩ (.ref aA) (.ref aA') true := by
  obtain ⟨g1, g2⟩ := g6 (j := 3) rfl rfl
  exact .of_refs (ne g2 (by simp)) (rc_txt g1 (starts_get S6 2 rfl rfl) (by rw [hac, hacc, p1]) hu2)
 have r2 : SeqAt.EqAt A2.in1 ⟨h6, g, d, t6, os⟩ (.ref lA) (.ref lA') true := by
  obtain ⟨g1, g2⟩ := g6 (j := 4) rfl rfl
  refine .of_refs (ne g2 (by simp)) (rc_txt (ys := (wT kt ks).drop (dueP ks (qs.map qd) 0)) (m := 0) g1 ?_ q3 hu2)
  rw [List.map_drop]
  exact starts_get S6 3 rfl rfl
 have r3 : SeqAt.EqAt A2.in1 ⟨h6, g, d, t6, os⟩ (.ref mA) (.ref rA') true := by
  obtain ⟨g1, g2⟩ := g6 (j := 5) rfl rfl
  refine .of_refs (ne g2 (by simp)) (rc_txt (ys := ((wT kt ks).take (dueP ks (qs.map qd) 0)).reverse) (m := 0) g1 ?_ (by rw [eu]) hu2)
  rw [List.map_reverse, List.map_take]
  exact starts_get S6 4 rfl rfl
 have r4 : SeqAt.EqAt A2.in1 ⟨h6, g, d, t6, os⟩ (.ref oA) (.ref nA') true := by
  obtain ⟨g1, g2⟩ := g6 (j := 6) rfl rfl
  exact .of_refs (ne g2 (by simp)) (rc_txt (ys := []) g1 (starts_get S6 5 rfl rfl) (by rw [eu]) hu2)
 refine SeqAt.eq_listAt (e := fun _ => true) (isList_of (all6 _ _ e75)) (isList_of (starts_get S6 6 rfl rfl)) rfl hu1 (fun j j1 j2 => ?_) ?_
 ·have j1 : j < 4 := j1
  rcases j with _ | _ | _ | _ | j
  ·exact r1
  ·exact r2
  ·exact r3
  ·exact r4
  ·omega
 ·refine fin h6 t6 ht6 ⟨fun b x e _ _ => all6 _ _ (all0 _ _ e), fun b x e _ _ => ⟨x.slots, all6 _ _ (all0 _ _ e)⟩, Nat.le_trans K25.size K6.size⟩
noncomputable def fixN (t : Nat → Tok) : List (Int × Tok) := [(30, t 0), (97, t 1), (2, t 2), (15, t 3), (18, t 4), (16, t 5), (13, t 6)]
noncomputable def ks_s1b (nl0 : List (Int × Tok)) : List HQ := [(kAddL [5, 6] ((nl0.take 4).map numV) 0 (fun t => [.int 30 (t 0), .int 97 (t 1), .int 2 (t 2), .int 15 (t 3), .int 18 (t 4), .int 16 (t 5), .int 13 (t 6)]) [0, 1, 2, 3, 4, 5, 6] 0).q]
theorem ks_s1b_wf {nl0} : ∀ k' ∈ ks_s1b nl0, ∀ q', HKwf (k'.k q') := by
 intro k' hk q'
 simp only [ks_s1b, memC, memN, or_false] at hk
 subst hk
 exact kAddL_wf (by decide) rfl
theorem ks_s1b_ok {D U : Nat} {kt : KT} {w : World} {A : Around} {gp : GP} (hup : gp.up = false) {nl0 : List (Int × Tok)} : ∀ k' ∈ ks_s1b nl0, ∀ q', HKok D U kt w A gp (k'.k q') := by
 intro k' hk q'
 simp only [ks_s1b, memC, memN, or_false] at hk
 subst hk
 exact kAddL_ok hup rfl (by rw [List.length_map, List.length_take]; omega) (fun _ => by simp)
theorem law_s1b {w : World} {r : Bool} {A : Around} (hr : A.depth + 140 ≤ recursionLimit) (hh0 : A.handled = none) {g : Array GenState} {d : Drawn} {os : OsState} {f cK cL sA : Addr} {nl0 : List (Int × Tok)} (hl : nl0.length < 1000000) {e0 : Nat} {hh : Nat → Int} {k : Nat → Tok} {sl : Array (Option Value)}
  {h : Heap} {tok : Nat} (S : Starts (kt0 w.params) h [f, cK, sA] [frO hh k [("script", .ref sA)] sl, cell0, lstO (nl0.map numV) e0]) {R : Result → Shared → Prop}
  (fin : ∀ h' t' hh' k' (tn : Nat → Tok) kl nA, tok + 6 < t' → Went (wf w r).params false h h' [f, cK, sA] [kl, nA] [frO hh' k' [("script", .ref sA), ("numbers", .ref nA)] sl, cellV (.ref kl), lstO (nl0.map numV) e0] [lstO (kindsV fun j => tok + j) 0, lstO ((nl0.take 4 ++ fixN tn).map numV) 0] → R (.ok .next) ⟨h', g, d, t', os⟩) :
  MeansP (wf w r) A (lawC w.params f cL cK) false [] (stmP w.params 0 (lawEnv w.params f cL cK)) R ⟨h, g, d, tok, os⟩ := by
 refine call_a (w := wf w r) (D := 70) (U := 0) (as := [f, cK, sA]) (xs := [frO hh k [("script", .ref sA)] sl, cell0, lstO (nl0.map numV) e0]) (n := 2000) (ce := decs [17644988384942081]) (i := 8) (bi := [3, 4])
  (c' := fun Y => .call (.builtin "list.__getitem__") ⟨[.ref sA, .ref (Y.adr 4)], []⟩) (ys := fun Y => [frO hh k [("script", .ref sA)] sl, cell0, lstO (nl0.map numV) e0]) (zs := fun Y => [lstO (kindsV Y.tk) 0, slcO none (some 4) none (fun _ => Y.tk 7)])
  (by omega) S rfl (fun _ => rfl) (fun _ => rfl) (fun x hx => ?_) (by decide) ?_ fun Y h1 hy W1 => ?_
 ·simp only [memC, memN, or_false] at hx
  rcases hx with rfl | rfl
  ·show 3 ≤ 3; decide
  ·show 3 ≤ 4; decide
 ·intro bf Y
  cases r <;> kernel_rfl
 generalize eY : Y.pre [f, cK, sA] = Y' at *
 have S1 : Starts (kt0 w.params) h1 [f, cK, sA, Y'.adr 3, Y'.adr 4] [frO hh k [("script", .ref sA)] sl, cell0, lstO (nl0.map numV) e0, lstO (kindsV Y'.tk) 0, slcO none (some 4) none (fun _ => Y'.tk 7)] := W1.S
 have new1 : ∀ b ∈ [Y'.adr 3, Y'.adr 4], h.objs.size ≤ b := W1.new
 have H := kSlc_ok (D := 1) (U := 0) (kt := kt0 w.params) (w := wf w r) (A := lawA A w.params f cL cK) (gp := sameG (tok + 6) g d os) (ua := [0, 1]) (ut := [0]) (vs := nl0.map numV) (n := e0) (lo := none) (hi' := some 4) (st := none) (tp := fun t _ => t 0) (rs := (nl0.take 4).map numV) rfl rfl (by decide) (by
  have e := slicePick_upto' (Array.mk (nl0.map numV)) 4
  simp only [List.map_take]
  exact e) (by rw [List.length_map]; exact hl)
 refine mk_code (P := w.params) (as := [sA, Y'.adr 4]) (ts := [Y'.tk 7]) H (by decide) (fun q => by cases q) (fun q => by cases q) (by omega) rfl (fun t ht => by
  rw [List.mem_singleton] at ht
  rw [ht, hy 7 (by decide)]
  omega) (S1.pick [2, 4] (by decide) rfl rfl) rfl (fun _ _ => rfl) (fun _ _ _ _ _ _ => rfl) (fun _ _ _ _ _ _ => rfl) ?_
 intro h2 t2 us bs sl2 pl ht2 hus _ hbs W2
 obtain ⟨b, rfl⟩ : ∃ b, bs = [b] := by
  match bs, hbs with
  | [b], _ => exact ⟨b, rfl⟩
 have W2 : Went w.params false h1 h2 [sA, Y'.adr 4] [b] [lstO (nl0.map numV) e0, slcO none (some 4) none (fun _ => Y'.tk 7)] [lstO ((nl0.take 4).map numV) 0] := W2
 have nb : h1.objs.size ≤ b := W2.new b (.head _)
 have nd := S1.nodup
 have S2' : Starts (kt0 w.params) h2 [sA, Y'.adr 4, b] [lstO (nl0.map numV) e0, slcO none (some 4) none (fun _ => Y'.tk 7), lstO ((nl0.take 4).map numV) 0] := W2.S
 have S2 : Starts (kt0 w.params) h2 [f, cK, sA, Y'.adr 3, Y'.adr 4, b] [frO hh k [("script", .ref sA)] sl, cell0, lstO (nl0.map numV) e0, lstO (kindsV Y'.tk) 0, slcO none (some 4) none (fun _ => Y'.tk 7), lstO ((nl0.take 4).map numV) 0] := by
  have z : Starts (kt0 w.params) h2 [f, cK, sA, Y'.adr 3, Y'.adr 4] [frO hh k [("script", .ref sA)] sl, cell0, lstO (nl0.map numV) e0, lstO (kindsV Y'.tk) 0, slcO none (some 4) none (fun _ => Y'.tk 7)] := S1.re rfl S2'.base fun j a x q1 q2 => by
   by_cases hm : a ∈ [sA, Y'.adr 4]
   ·simp only [memC, memN, or_false] at hm
    have key : ∀ i, [f, cK, sA, Y'.adr 3, Y'.adr 4][i]? = some a → j = i := fun i e => (List.getElem?_inj (List.getElem?_eq_some_iff.mp q1).1 nd).mp (q1.trans e.symm)
    rcases hm with rfl | rfl
    ·obtain rfl := key 2 rfl
     cases q2
     exact starts_get S2' 0 rfl rfl
    ·obtain rfl := key 4 rfl
     cases q2
     exact starts_get S2' 1 rfl rfl
   ·exact W2.K.keep a x (S1.at_ j a x q1 q2) hm (fun q => by cases q)
  exact z.add1 (starts_get S2' 2 rfl rfl) (fun hm => by
   obtain ⟨j, hj, e⟩ := List.mem_iff_getElem.mp hm
   have z0 := Heap.lt_size (S1.at_ j _ _ (List.getElem?_eq_getElem hj) (List.getElem?_eq_getElem (S1.len ▸ hj)))
   exact absurd (e ▸ z0 : b < h1.objs.size) (Nat.not_lt.mpr nb)) (S2'.off _ (.tail _ (.tail _ (.head _))))
 have ek : kindsV Y'.tk = kindsV fun j => tok + j := by
  unfold kindsV
  rw [hy 0 (by decide), hy 1 (by decide), hy 2 (by decide), hy 3 (by decide), hy 4 (by decide), hy 5 (by decide), hy 6 (by decide)]
 refine piece_w (w := wf w r) (D := 70) (U := 0) (nt := false) (N := tok + 6) (ks := ks_s1b nl0) (cur := []) (as := [f, cK, sA, Y'.adr 3, Y'.adr 4, b]) (xs := [frO hh k [("script", .ref sA)] sl, cell0, lstO (nl0.map numV) e0, lstO (kindsV Y'.tk) 0, slcO none (some 4) none (fun _ => Y'.tk 7), lstO ((nl0.take 4).map numV) 0]) (n := 2000) (ce := decs [467680635449641524018955484168081876308944490608646, 467680635504086701434569986174739337452738152777738, 1298708659206957923606674637082624]) (s := 0) (i := 8) (bi := [7]) (res := fun _ => .ok .next)
  (ys := fun Y2 => [frO (put hh 1 (hashZ w.params (o "numbers"))) (put k 1 (Y2.tk 7)) [("script", .ref sA), ("numbers", .ref (Y2.adr 7))] sl, cellV (.ref (Y'.adr 3)), lstO (nl0.map numV) e0, lstO (kindsV Y'.tk) 0, slcO none (some 4) none (fun _ => Y'.tk 7), lstO ((nl0.take 4).map numV) 0]) (zs := fun Y2 => [lstO ((nl0.take 4).map numV ++ (fixN Y2.tk).map numV) 0])
  nilA (dle ‹_›) (fun q => by cases q) ks_s1b_wf (ks_s1b_ok rfl) S2 rfl ht2 (.inl rfl) (fun _ => rfl) (fun _ => rfl) (ge_one (by show 6 ≤ 7; decide)) (by decide) ?_ fun Y2 h3 t3 ht3 hy3 W3 => ?_
 ·subst eY
  intro bf Y2
  rw [hh0]
  cases r <;> kernel_rfl
 rw [← List.map_append, ek] at W3
 have S3 : Starts (kt0 w.params) h3 [f, cK, sA, Y'.adr 3, Y'.adr 4, b, Y2.adr 7] _ := W3.S
 have hs1 := W1.K.size
 have hs2 := W2.K.size
 have n7 : h2.objs.size ≤ Y2.adr 7 := W3.new _ (.head _)
 refine fin h3 t3 _ _ Y2.tk (Y'.adr 3) (Y2.adr 7) ht3 ⟨S3.pick [0, 1, 2, 3, 6] (by decide) rfl rfl, (W1.K.comp W2.K fun x hx => ?_).comp W3.K fun x hx => ?_, rfl, fun x hx => ?_⟩
 ·simp only [memC, memN, or_false] at hx ⊢
  rcases hx with rfl | rfl
  ·simp
  ·exact .inr (new1 _ (by simp))
 ·simp only [memC, memN, or_false] at hx ⊢
  rcases hx with rfl | rfl | rfl | rfl | rfl | rfl
  ·simp
  ·simp
  ·simp
  ·exact .inr (new1 _ (by simp))
  ·exact .inr (new1 _ (by simp))
  ·exact .inr (Nat.le_trans hs1 nb)
 ·simp only [memC, memN, or_false] at hx
  rcases hx with rfl | rfl
  ·exact new1 _ (by simp)
  ·exact Nat.le_trans hs1 (Nat.le_trans hs2 n7)
noncomputable def contP (rest : SP) : Result → SP := fun r => match r with
 | .ok .next => rest
 | .ok f => Tr.fl f
 | .error e => Tr.err e
noncomputable def bodyP (P : Params) (env : Env) : Nat → Nat → SP
 | 0, i => .tree (trZ.fin (trZ.execs ((stmtsOf (o803 P)).drop i) env) id)
 | n + 1, i => .bnd (stmP P i env) (contP (bodyP P env n (i + 1)))
theorem law_sp (P : Params) (f cL cK : Addr) : trZ.sp (lawC P f cL cK) = trZ.funcSP (bodyP P (lawEnv P f cL cK) 8 0) (lawEnv P f cL cK) := by kernel_rfl
section
variable {w : World} {A : Around} {c : Code} {R : Result → Shared → Prop} {Q : OutP} {s : Shared} {P : Params} {env : Env} {i : Nat}
theorem stm_bnd {k : Result → SP} (h : MeansP w A c false [] (stmP P i env) R s) (hk : ∀ r s', R r s' → SPw w A c (k r) Q s') : SPw w A c (.bnd (stmP P i env) k) Q s := by
 unfold stmP at h ⊢
 rw [trZ_eq] at h ⊢
 intro Γ p hc hΓ
 have z : Sem.wp (model pw w) Γ ((execs [stmtAt (o803 P) i] env).bind fun v => .pure (PySem.Fin.done v)) _ _ p s := h Γ p hc hΓ
 show Sem.wp (model pw w) Γ ((execs [stmtAt (o803 P) i] env).bind fun v => .pure (PySem.Fin.done v)) _ _ p s
 rw [Sem.wp_bind] at z ⊢
 exact Sem.wp_mono (model pw w) Γ _ (fun a p' s' x => hk (.ok a) s' x.2) (fun e p' s' x => hk (.error e) s' x) p s z
theorem law_step {rest : SP} (h : MeansP w A c false [] (stmP P i env) (fun r s' => r = .ok .next ∧ SPw w A c rest Q s') s) : SPw w A c (.bnd (stmP P i env) (contP rest)) Q s :=
 stm_bnd h fun r s' x => by
  obtain ⟨rfl, x⟩ := x
  exact x
theorem law_last {rest : SP} (h : MeansP w A c false [] (stmP P i env) (fun r s' => ∃ v, r = .ok (.ret v) ∧ Q (.ok (.done (.ret v))) s') s) : SPw w A c (.bnd (stmP P i env) (contP rest)) Q s :=
 stm_bnd h fun r s' x => by
  obtain ⟨v, rfl, x⟩ := x
  exact fun Γ p hc hΓ => x
theorem func_ret {v : Value} (h : R (.ok (.ret v)) s) : bndQ (fun r s' => SPw w A c (match r with
 | .ok f => Tr.fl (.ret (match f with | .ret v => v | _ => .none))
 | .error e => .bnd (.op (.note e env)) fun r => match r with
  | .ok _ => .tree (trZ.thn (trZ.setFlight e none) fun _ => .raise e)
  | .error x => Tr.err x) (aft w A c false R []) s') (.ok (.done (.ret v))) s := fun Γ p hc hΓ => ⟨fun q => (by cases q), h⟩
end
theorem law_fun {w : World} {A : Around} {c : Code} {R : Result → Shared → Prop} {s : Shared} {bs : SP} {env : Env} (h : ∀ Q : OutP, (∀ v s', R (.ok (.ret v)) s' → Q (.ok (.done (.ret v))) s') → SPw w A c bs Q s) : MeansP w A c false [] (trZ.funcSP bs env) R s := h _ fun v s' x => func_ret x
structure Old (h h' : Heap) : Prop where
 keep : ∀ b x, b ≠ 759 → h.get? b = some x → isFr x = false → h'.get? b = some x
 size : h.objs.size ≤ h'.objs.size
theorem Old.step {h h1 h2 : Heap} {bs : List Addr} (O : Old h h1) (K : KeepB true h1 h2 bs) (hb : ∀ b ∈ bs, h.objs.size ≤ b) : Old h h2 :=
 ⟨fun b x n e f => K.keep b x (O.keep b x n e f) (notIn_of_size e hb) fun _ => f, Nat.le_trans O.size K.size⟩
theorem lst_fr {vs n} : isFr (lstO vs n) = false := by kernel_rfl
theorem cell_fr {v} : isFr ⟨.type "cell", none, .cell v, Array.mk []⟩ = false := by kernel_rfl
theorem ne_new {h : Heap} {a b : Addr} {x : Obj} (e : h.get? a = some x) (hb : h.objs.size ≤ b) : a ≠ b := fun q => absurd (Heap.lt_size e) (Nat.not_lt.mpr (q ▸ hb))
theorem qOf_len (k : Nat) : (qOf k).length ≤ 20 := by
 unfold qOf
 split <;> decide
theorem line_len : ∀ (ks : List Nat), (line ks).length ≤ 21 * ks.length
 | [] => Nat.le_refl _
 | [k] => by
  show (qOf k).length ≤ _
  have := qOf_len k
  simp only [List.length_cons, List.length_nil]
  omega
 | k :: k' :: ks => by
  show (qOf k ++ 32 :: line (k' :: ks)).length ≤ _
  have h1 := qOf_len k
  have h2 := line_len (k' :: ks)
  simp only [List.length_append, List.length_cons] at h2 ⊢
  omega
theorem rest_line (ks : List Nat) : Rest (Str.mk (Array.mk (line ks))) 0 ks := by
 refine ⟨fun i hi => ?_, by show 0 + (line ks).length = (line ks).length; omega⟩
 show (Array.mk (line ks))[0 + i]? = _
 rw [Nat.zero_add]
 simp [hi]
theorem kept_kd {x : Int} (h : kept x = true) : q5 x = 0 ∨ q5 x = 1 ∨ q5 x = 4 := by
 have := q5_lt x
 unfold kept at h
 simp only [Bool.not_eq_true', Bool.or_eq_false_iff, beq_eq_false_iff_ne] at h
 omega
noncomputable def ksOfN (nl : List (Int × Tok)) : List Nat := nl.map fun q => m6 q.1
theorem words_wT {kt : Nat → Tok} {nl : List (Int × Tok)} : nl.map (wordV kt) = (wT kt (ksOfN nl)).map strV := by
 unfold wT ksOfN
 rw [List.map_map, List.map_map]
 rfl
theorem words_are {kt : Nat → Tok} {nl : List (Int × Tok)} : wordsAre (ksOfN nl) (nl.map (wordV kt)) := by
 refine ⟨by simp [ksOfN], fun i v e => ?_⟩
 rw [List.getElem?_map] at e
 obtain ⟨q, e1, rfl⟩ := Option.map_eq_some_iff.mp e
 exact ⟨m6 q.1, kt (m6 q.1), by simp [ksOfN, e1], rfl⟩
theorem quest_facts {ns : List Int} {qs : List Qd} (h : qs.map qd = questOf ns) : ∀ q ∈ qs, (q.kd = 0 ∨ q.kd = 1 ∨ q.kd = 4) ∧ q.k < 7 := by
 intro q hq
 have hm : qd q ∈ questOf ns := h ▸ List.mem_map_of_mem hq
 obtain ⟨x, hx, e⟩ := List.mem_map.mp hm
 have hk := (List.mem_filter.mp hx).2
 have e1 : q5 x = q.kd := congrArg Prod.fst e
 have e2 : w7 x = q.k := congrArg Prod.snd e
 exact ⟨e1 ▸ kept_kd hk, e2 ▸ w7_lt x⟩
theorem quest_ne {ns : List Int} {qs : List Qd} (h : qs.map qd = questOf ns) (h30 : (30 : Int) ∈ ns) : qs ≠ [] := fun e => by
 subst e
 have hm : (q5 30, w7 30) ∈ questOf ns := List.mem_map_of_mem (List.mem_filter.mpr ⟨h30, by decide +kernel⟩)
 rw [← h] at hm
 cases hm
theorem quest_len {ns : List Int} {qs : List Qd} (h : qs.map qd = questOf ns) : qs.length ≤ ns.length := by
 have z := congrArg List.length h
 unfold questOf at z
 rw [List.length_map, List.length_map] at z
 rw [z]
 exact List.length_filter_le _ _
theorem leftF_len : ∀ (qs : List (Nat × Nat)) (ws : List Nat), (leftF qs ws).length ≤ ws.length
 | [], _ => Nat.le_refl _
 | (kd, k) :: r, ws => Nat.le_trans (leftF_len r _) left4_len
theorem rest_leftF {B : Str} : ∀ (qs : List (Nat × Nat)) {ws : List Nat} {p : Nat}, Rest B p ws → Rest B (pOf B (leftF qs ws)) (leftF qs ws)
 | [], _, _, h => h.here
 | (kd, k) :: r, _, _, h => rest_leftF r h.left4
noncomputable abbrev Tab (h : Heap) : Prop := ∃ m, h.get? 759 = some { cls := .none, data := .fields m }
theorem Tab.step {h0 h1 h2 : Heap} {bs : List Addr} (T : Tab h1) (K : KeepB true h1 h2 bs) (h9 : 759 < h0.objs.size) (hb : ∀ b ∈ bs, h0.objs.size ≤ b) : Tab h2 := T.imp fun m e => K.keep 759 _ e (fun hm => absurd h9 (Nat.not_lt.mpr (hb _ hm))) fun _ => rfl
theorem frOk_nil {A : Around} (hA : A.frames = some []) (h : Heap) : FrOk A h := ⟨[], hA, fun _ h => nomatch h⟩
theorem law_ok {w : World} {r : Bool} {A : Around} (hr : A.depth + 644 ≤ recursionLimit) (hh0 : A.handled = none) (hU : A.units + 310 ≤ cLine) (hA : A.frames = some []) {g : Array GenState} {d : Drawn} {os : OsState} {sA : Addr} {nl0 : List (Int × Tok)} (hl : nl0.length < 1000000) {e0 : Nat}
  {h : Heap} (h759 : h.get? 759 = some (o759 w.params)) {tok : Nat} (htok : 0 < tok) (S : Starts (kt0 w.params) h [sA] [lstO (nl0.map numV) e0]) {R : Result → Shared → Prop}
  (fin : ∀ h' g' t', Old h h' → Tab h' → (AllBare g → AllBare g') → R (.ok (.ret (.bool true))) ⟨h', g', d, t', os⟩) :
  codeAny (model pw (wf w r)) A (.call (.ref 803) ⟨[.ref sA], []⟩) R ⟨h, g, d, tok, os⟩ := by
 have n9 : 759 < h.objs.size := Heap.lt_size h759
 refine code_w (w := wf w r) (D := 70) (U := 0) (nt := false) (N := 0) (ks := []) (cur := []) (as := [sA]) (xs := [lstO (nl0.map numV) e0]) (n := 2000) (e := 1) (ce := decs [4198502402]) (s := 0) (i := 1) (bi := [1, 2, 3]) (ys := fun _ => [lstO (nl0.map numV) e0]) (zs := fun Y => [frO (fun _ => hashZ w.params (o "script")) (fun _ => Y.tk 0) [("script", .ref sA)] (Array.mk []), cell0, cell0]) (res := fun Y => .cut (lawC w.params (Y.adr 1) (Y.adr 3) (Y.adr 2)))
  nilA (dle ‹_›) (fun q => by cases q) nilA nilA S rfl htok (.inl rfl) (fun _ => rfl) (fun _ => rfl) (fun x hx => ?_) (by decide) ?_ fun Y h1 t1 ht1 _ W1 => ?_
 ·simp only [memC, memN, or_false] at hx
  rcases hx with rfl | rfl | rfl
  ·show 1 ≤ 1; decide
  ·show 1 ≤ 2; decide
  ·show 1 ≤ 3; decide
 ·intro bf Y
  cases r <;> kernel_rfl
 have S1 : Starts (kt0 w.params) h1 [sA, Y.adr 1, Y.adr 2, Y.adr 3] [lstO (nl0.map numV) e0, frO (fun _ => hashZ w.params (o "script")) (fun _ => Y.tk 0) [("script", .ref sA)] (Array.mk []), cell0, cell0] := W1.S
 have new1 : ∀ b ∈ [Y.adr 1, Y.adr 2, Y.adr 3], h.objs.size ≤ b := W1.new
 have es0 := starts_get S 0 rfl rfl
 have K1 : KeepB false h h1 [] := (show KeepB false h h1 ([] ++ [sA]) from W1.K).less es0 (starts_get S1 0 rfl rfl)
 show codeAny _ A (lawC w.params (Y.adr 1) (Y.adr 3) (Y.adr 2)) R _
 generalize Y.tk 0 = ts0 at S1
 generalize Y.adr 1 = f at S1 new1
 generalize Y.adr 3 = cL at S1 new1
 generalize Y.adr 2 = cK at S1 new1
 have O1 : Old h h1 := ⟨fun b x _ e _ => K1.keep b x e (fun h => nomatch h) (fun q => by cases q), K1.size⟩
 have T1 : h1.get? 759 = some (o759 w.params) := K1.keep _ _ h759 (fun h => nomatch h) (fun q => by cases q)
 have nf : h.objs.size ≤ f := new1 _ (by simp)
 have nK : h.objs.size ≤ cK := new1 _ (by simp)
 have nL : h.objs.size ≤ cL := new1 _ (by simp)
 refine code_piece (w := wf w r) (D := 70) (U := 0) (e := 1000) (p := trZ.sp (lawC w.params f cL cK)) (dle ‹_›) rfl S1.base ?_
 rw [law_sp]
 refine law_fun fun Q hQ => ?_
 have nd1 := S1.nodup
 simp only [List.nodup_cons, memC, memN, or_false, not_or] at nd1
 obtain ⟨⟨sf, sK, sL⟩, ⟨fK, fL⟩, KL, _⟩ := nd1
 have okt : ∀ {b : Addr}, h.objs.size ≤ b → (kt0 w.params).get b = none := fun {b} hb => by
  cases q : (kt0 w.params).get b with
  | none => rfl
  | some x => exact absurd (Heap.lt_size (S.base b x q)) (Nat.not_lt.mpr hb)
 show SPw _ A _ (.bnd (stmP w.params 0 (lawEnv w.params f cL cK)) (contP (bodyP w.params (lawEnv w.params f cL cK) 7 1))) Q _
 refine law_step (law_s1b (f := f) (cK := cK) (cL := cL) (dle ‹_›) hh0 hl (S1.pick [1, 2, 0] (by decide) rfl rfl) fun h2 t2 hh2 k2 tn kl nA ht2 W2 => ⟨rfl, ?_⟩)
 generalize hkt : (fun j => t1 + j) = kt at W2
 have kt1 : ∀ j, j < 7 → kt j ≠ 0 ∧ kt j ≤ t1 + 6 := fun j hj => by
  have e : kt j = t1 + j := by rw [← hkt]
  rw [e]
  constructor
  ·have := ht1; omega
  ·omega
 generalize hN : t1 + 6 = N at ht2 kt1
 generalize hnl : nl0.take 4 ++ fixN tn = nl at W2
 have hpos : 0 < nl.length := by rw [← hnl]; simp [fixN]
 have hlen : nl.length ≤ 11 := by
  rw [← hnl]
  simp only [List.length_append, List.length_take, fixN, List.length_cons, List.length_nil]
  omega
 have hlen7 : 7 ≤ nl.length := by
  rw [← hnl]
  simp only [List.length_append, List.length_take, fixN, List.length_cons, List.length_nil]
  omega
 have h30 : (30 : Int) ∈ nl.map Prod.fst := by rw [← hnl]; simp [fixN]
 have S2 : Starts (kt0 w.params) h2 [f, cK, sA, kl, nA] [frO hh2 k2 [("script", .ref sA), ("numbers", .ref nA)] (Array.mk []), cellV (.ref kl), lstO (nl0.map numV) e0, lstO (kindsV kt) 0, lstO (nl.map numV) 0] := W2.S
 have new2 : ∀ b ∈ [kl, nA], h1.objs.size ≤ b := W2.new
 have K2 : KeepB false h1 h2 [f, cK] := (show KeepB false h1 h2 ([f, cK] ++ [sA]) from W2.K).less (starts_get S1 0 rfl rfl) (starts_get S2 2 rfl rfl)
 have O2 : Old h h2 := O1.step K2.up fun b hb => by
  simp only [memC, memN, or_false] at hb
  rcases hb with rfl | rfl
  ·exact nf
  ·exact nK
 have T2 : h2.get? 759 = some (o759 w.params) := K2.keep _ _ T1 (fun hm => by
  simp only [memC, memN, or_false] at hm
  rcases hm with e | e
  ·exact absurd n9 (Nat.not_lt.mpr (e ▸ nf))
  ·exact absurd n9 (Nat.not_lt.mpr (e ▸ nK))) (fun q => by cases q)
 have eL1 : h1.get? cL = some cell0 := starts_get S1 3 rfl rfl
 have eL2 : h2.get? cL = some cell0 := K2.keep _ _ eL1 (fun hm => by
  simp only [memC, memN, or_false] at hm
  rcases hm with e | e
  ·exact fL e.symm
  ·exact KL e.symm) (fun q => by cases q)
 have nkl : h1.objs.size ≤ kl := new2 _ (by simp)
 have nnA : h1.objs.size ≤ nA := new2 _ (by simp)
 have Lkl : cL ≠ kl := ne_new eL1 nkl
 have LnA : cL ≠ nA := ne_new eL1 nnA
 have z01 : h.objs.size ≤ h1.objs.size := O1.size
 have in4 : ∀ b ∈ [f, cK, kl, nA], h.objs.size ≤ b := fun b hb => by
  simp only [memC, memN, or_false] at hb
  rcases hb with rfl | rfl | rfl | rfl
  ·exact nf
  ·exact nK
  ·exact Nat.le_trans z01 nkl
  ·exact Nat.le_trans z01 nnA
 have L4 : cL ∉ [f, cK, kl, nA] := fun hm => by
  simp only [memC, memN, or_false] at hm
  rcases hm with e | e | e | e
  ·exact fL e.symm
  ·exact KL e.symm
  ·exact Lkl e
  ·exact LnA e
 show SPw _ A _ (.bnd (stmP w.params 1 (lawEnv w.params f cL cK)) (contP (bodyP w.params (lawEnv w.params f cL cK) 6 2))) Q _
 refine law_step (law_s2 (N := N) (f := f) (cK := cK) (cL := cL) (dle ‹_›) hh0 (by omega) hpos (frOk_nil hA h2) ht2 (S2.pick [0, 1, 3, 4] (by decide) rfl rfl) fun h3 t3 hh3 k3 sl3 wA ht3 S3 K3 nwA => ⟨rfl, ?_⟩)
 have O3 : Old h h3 := O2.step K3 in4
 have T3 : h3.get? 759 = some (o759 w.params) := K3.keep _ _ T2 (fun hm => absurd n9 (Nat.not_lt.mpr (in4 _ hm))) (fun _ => rfl)
 have eL3 : h3.get? cL = some cell0 := K3.keep _ _ eL2 L4 (fun _ => cell_fr)
 have wA4 : wA ∉ [f, cK, kl, nA] := fun hm => by
  have nd := S3.nodup
  exact (List.nodup_append.mp (show ([f, cK, kl, nA] ++ [wA]).Nodup from nd)).2.2 _ hm _ (.head _) rfl
 have LwA : cL ≠ wA := ne_new eL2 nwA
 show SPw _ A _ (.bnd (stmP w.params 2 (lawEnv w.params f cL cK)) (contP (bodyP w.params (lawEnv w.params f cL cK) 5 3))) Q _
 refine law_step (law_s3 (N := N) (f := f) (cK := cK) (cL := cL) (dle ‹_›) hh0 (by omega) hpos (frOk_nil hA h3) ht3 (S3.pick [0, 1, 2, 3] (by decide) rfl rfl) fun h4 t4 hh4 k4 qA qs ht4 hqs S4 Q4 K4 nqA => ⟨rfl, ?_⟩)
 have O4 : Old h h4 := O3.step K4.up in4
 have T4 : h4.get? 759 = some (o759 w.params) := K4.keep _ _ T3 (fun hm => absurd n9 (Nat.not_lt.mpr (in4 _ hm))) (fun q => by cases q)
 have eL4 : h4.get? cL = some cell0 := K4.keep _ _ eL3 L4 (fun q => by cases q)
 have eW3 : h3.get? wA = some (lstO (nl.map (wordV kt)) nl.length) := starts_get S3 4 rfl rfl
 have eW4 : h4.get? wA = some (lstO (nl.map (wordV kt)) nl.length) := K4.keep _ _ eW3 wA4 (fun q => by cases q)
 have ef3 : h3.get? f = some (frO hh3 k3 [("script", .ref sA), ("numbers", .ref nA), ("words", .ref wA)] sl3) := starts_get S3 0 rfl rfl
 have fwA : f ≠ wA := fun q => wA4 (by simp [q])
 have fqA : f ≠ qA := ne_new ef3 nqA
 have LqA : cL ≠ qA := ne_new eL3 nqA
 have wqA : wA ≠ qA := ne_new eW3 nqA
 obtain ⟨Lx1, Lx2⟩ : (∀ q ∈ qs, (q.kd = 0 ∨ q.kd = 1 ∨ q.kd = 4) ∧ q.k < 7) ∧ qs.length ≤ 11 := ⟨quest_facts hqs, Nat.le_trans (quest_len hqs) (by rw [List.length_map]; exact hlen)⟩
 have hne := quest_ne hqs h30
 have ks6 : ∀ k ∈ ksOfN nl, k < 6 := fun k hk => by
  obtain ⟨q, _, rfl⟩ := List.mem_map.mp hk
  exact m6_lt _
 have ksl : (ksOfN nl).length = nl.length := List.length_map ..
 have S4' : Starts (kt0 w.params) h4 [f, cL, wA] [frO hh4 k4 (lawL sA nA wA qA) sl3, cell0, lstO (nl.map (wordV kt)) nl.length] :=
  ((S4.pick [0] (by decide) rfl rfl : Starts (kt0 w.params) h4 [f] [frO hh4 k4 (lawL sA nA wA qA) sl3]).add1 eL4 (by simpa using fun q : cL = f => fL q.symm) (okt nL)).add1 eW4 (by
   simp only [List.cons_append, List.nil_append, memC, memN, or_false, not_or]
   exact ⟨fun q => fwA q.symm, fun q => LwA q.symm⟩) (okt (Nat.le_trans O2.size nwA))
 show SPw _ A _ (.bnd (stmP w.params 3 (lawEnv w.params f cL cK)) (contP (bodyP w.params (lawEnv w.params f cL cK) 4 4))) Q _
 refine law_step (law_s4 (N := N) (f := f) (cK := cK) (cL := cL) (ks := ksOfN nl) (dle ‹_›) hh0 words_are ks6 (by omega) (by omega) T4 ht4 S4' fun h5 g5 t5 L ts tt t3' ht5 hL2 hts htt ht3' S5 k5 z5 nLx hb5 T5 => ⟨rfl, ?_⟩)
 have O5 : Old h h5 := ⟨fun b x n e fr => k5 b x n (ne_new e nL) (O4.keep b x n e fr), Nat.le_trans O4.size z5⟩
 have nqa : ∀ {b : Addr}, h.objs.size ≤ b → b ≠ 759 := fun hb q => absurd n9 (Nat.not_lt.mpr (q ▸ hb))
 have z03 : h.objs.size ≤ h3.objs.size := O3.size
 have eQ4 : h4.get? qA = some (lstO (qs.map Qd.v) qs.length) := starts_get S4 4 rfl rfl
 have eQ5 : h5.get? qA = some (lstO (qs.map Qd.v) qs.length) := k5 _ _ (nqa (Nat.le_trans z03 nqA)) LqA.symm eQ4
 have q5' : ∀ q ∈ qs, h5.get? q.a = some (qO kt q) := fun q hq => k5 _ _ (nqa (Nat.le_trans z03 (Q4 q hq).2.1)) (ne_new eL3 (Q4 q hq).2.1).symm (Q4 q hq).1
 have eW5 : h5.get? wA = some (lstO (nl.map (wordV kt)) nl.length) := starts_get S5 2 rfl rfl
 have nLn : ∀ {b : Addr} {x : Obj}, h4.get? b = some x → b ∉ L.as := fun e => notIn_of_size e nLx
 have nd5 : ([f, cL, wA] ++ L.as).Nodup := S5.nodup
 have qaN : ∀ q ∈ qs, q.a ∉ [f, cL, qA] ++ L.as := fun q hq hm => by
  obtain ⟨b1, b2, b3⟩ := Q4 q hq
  rcases List.mem_append.mp hm with hm | hm
  ·simp only [memC, memN, or_false] at hm
   rcases hm with e | e | e
   ·exact ne_new ef3 b2 e.symm
   ·exact ne_new eL3 b2 e.symm
   ·exact b3 e
  ·exact nLn b1 hm
 have S5' : Starts (kt0 w.params) h5 ([f, cL, qA] ++ L.as) (s5Xs w.params L (Str.mk (Array.mk (line (ksOfN nl)))) 0 (.str (o " ") ts) tt t3' qs (frO hh4 k4 (lawL sA nA wA qA) sl3)) := by
  have z := (S5.pick [0, 1, 3, 4, 5, 6, 7, 8] (as' := [f, cL] ++ L.as) (by decide) rfl rfl : Starts (kt0 w.params) h5 ([f, cL] ++ L.as) (s6Xs w.params L (Str.mk (Array.mk (line (ksOfN nl)))) 0 (.str (o " ") ts) tt t3' (frO hh4 k4 (lawL sA nA wA qA) sl3))).add1 eQ5 (fun hm => by
   rcases List.mem_append.mp hm with hm | hm
   ·simp only [memC, memN, or_false] at hm
    rcases hm with e | e
    ·exact fqA e.symm
    ·exact LqA e.symm
   ·exact nLn eQ4 hm) (okt (Nat.le_trans z03 nqA))
  exact z.pick [0, 1, 8, 2, 3, 4, 5, 6, 7] (by decide) rfl rfl
 have hBl : (Str.mk (Array.mk (line (ksOfN nl)))).length < 1000000 := by
  show (line (ksOfN nl)).length < 1000000
  have := line_len (ksOfN nl)
  omega
 have est : Value.str (o " ") ts = stOf (ksOfN nl) ts := by
  cases hk : ksOfN nl with
  | nil =>
   rw [hk] at ksl
   simp only [List.length_nil] at ksl
   omega
  | cons a b => rfl
 rw [est] at S5'
 have inL5 : ∀ b ∈ [f, cL, qA] ++ L.as, h.objs.size ≤ b := fun b hb => by
  rcases List.mem_append.mp hb with hb | hb
  ·simp only [memC, memN, or_false] at hb
   rcases hb with rfl | rfl | rfl
   ·exact nf
   ·exact nL
   ·exact Nat.le_trans z03 nqA
  ·exact Nat.le_trans O4.size (nLx b hb)
 show SPw _ A _ (.bnd (stmP w.params 4 (lawEnv w.params f cL cK)) (contP (bodyP w.params (lawEnv w.params f cL cK) 3 5))) Q _
 refine law_step (law_s5 (N := N) (f := f) (cK := cK) (cL := cL) (kt := kt) (dle ‹_›) hh0 hBl hL2 hne (by omega) ks6 (by omega) hts htt ht3' (rest_line _) (fun q hq => ⟨kt1 q.k (Lx1 q hq).2, (Lx1 q hq).1, qaN q hq, okt (Nat.le_trans z03 (Q4 q hq).2.1), q5' q hq⟩) (frOk_nil hA h5) ht5 S5' fun h6 t6 ts' tt' t3'' accs hh6 k6 sl6 aA ht6 hts' htt' ht3'' hacc _ _ S6 K6 naA => ⟨rfl, ?_⟩)
 have O6 : Old h h6 := O5.step K6 inL5
 have T6 : Tab h6 := Tab.step T5 K6 n9 inL5
 have wA5 : wA ∉ [f, cL, qA] ++ L.as := fun hm => by
  rcases List.mem_append.mp hm with hm | hm
  ·simp only [memC, memN, or_false] at hm
   rcases hm with e | e | e
   ·exact fwA e.symm
   ·exact LwA e.symm
   ·exact wqA e
  ·exact nLn eW4 hm
 have eW6 : h6.get? wA = some (lstO (nl.map (wordV kt)) nl.length) := K6.keep _ _ eW5 wA5 (fun _ => lst_fr)
 have q6' : ∀ q ∈ qs, h6.get? q.a = some (qO kt q) := fun q hq => K6.keep _ _ (q5' q hq) (qaN q hq) (fun _ => qO_fr)
 have ex6 : Starts (kt0 w.params) h6 ([f, cL] ++ L.as) (s6Xs w.params L (Str.mk (Array.mk (line (ksOfN nl)))) (pOf (Str.mk (Array.mk (line (ksOfN nl)))) (leftF (qs.map qd) (ksOfN nl))) (stOf (leftF (qs.map qd) (ksOfN nl)) ts') tt' t3'' (frO hh6 k6 (lawL5 sA nA wA qA aA) sl6)) := S6.pick [0, 1, 3, 4, 5, 6, 7, 8] (by decide) rfl rfl
 have eQ6 : h6.get? qA = some (lstO (qs.map Qd.v) qs.length) := starts_get S6 2 rfl rfl
 have eA6 : h6.get? aA = some (lstO (accs.map strV) accs.length) := starts_get S6 9 rfl rfl
 have sub6 : ∀ b ∈ [f, cL] ++ L.as, b ∈ [f, cL, qA] ++ L.as := fun b hb => by
  simp only [List.cons_append, List.nil_append, List.mem_cons] at hb ⊢
  rcases hb with h | h | h <;> simp [h]
 have nd6 := S6.nodup
 have A6 : aA ∉ [f, cL, qA] ++ L.as := fun hm => (List.nodup_append.mp (show ([f, cL, qA] ++ L.as ++ [aA]).Nodup from nd6)).2.2 _ hm _ (.head _) rfl
 have Q6 : qA ∉ [f, cL] ++ L.as := fun hm => by
  rcases List.mem_append.mp hm with hm | hm
  ·simp only [memC, memN, or_false] at hm
   rcases hm with e | e
   ·exact fqA e.symm
   ·exact LqA e.symm
  ·exact nLn eQ4 hm
 show SPw _ A _ (.bnd (stmP w.params 5 (lawEnv w.params f cL cK)) (contP (bodyP w.params (lawEnv w.params f cL cK) 2 6))) Q _
 refine law_step (law_s6 (N := N) (f := f) (cK := cK) (cL := cL) (dle ‹_›) hh0 hBl hL2 (ws := leftF (qs.map qd) (ksOfN nl)) (fun k hk => ks6 k (leftF_mem k hk)) (Nat.lt_of_le_of_lt (leftF_len _ _) (by omega)) hts' htt' ht3'' (rest_leftF _ (rest_line _)) (frOk_nil hA h6) ht6 ex6 fun h7 t7 Lf hh7 k7 sl7 lA ht7 hLf _ _ S7 K7 nlA => ⟨rfl, ?_⟩)
 have in6 : ∀ b ∈ [f, cL] ++ L.as, h.objs.size ≤ b := fun b hb => inL5 b (sub6 b hb)
 have O7 : Old h h7 := O6.step K7 in6
 have T7 : Tab h7 := T6.step K7 n9 in6
 have eW7 : h7.get? wA = some (lstO (nl.map (wordV kt)) nl.length) := K7.keep _ _ eW6 (fun hm => wA5 (sub6 _ hm)) (fun _ => lst_fr)
 have eQ7 : h7.get? qA = some (lstO (qs.map Qd.v) qs.length) := K7.keep _ _ eQ6 Q6 (fun _ => lst_fr)
 have eA7 : h7.get? aA = some (lstO (accs.map strV) accs.length) := K7.keep _ _ eA6 (fun hm => A6 (sub6 _ hm)) (fun _ => lst_fr)
 have q7' : ∀ q ∈ qs, h7.get? q.a = some (qO kt q) := fun q hq => K7.keep _ _ (q6' q hq) (fun hm => qaN q hq (sub6 _ hm)) (fun _ => qO_fr)
 have lw : lA ≠ wA := (ne_new eW6 nlA).symm
 have lq : lA ≠ qA := (ne_new eQ6 nlA).symm
 have la : lA ≠ aA := (ne_new eA6 nlA).symm
 rw [words_wT] at eW7
 have S7' : Starts (kt0 w.params) h7 [f, wA, lA] [frO hh7 k7 (lawL6 sA nA wA qA aA lA) sl7, lstO ((wT kt (ksOfN nl)).map strV) nl.length, lstO (Lf.map strV) Lf.length] :=
  ((S7 : Starts (kt0 w.params) h7 [f, lA] [frO hh7 k7 (lawL6 sA nA wA qA aA lA) sl7, lstO (Lf.map strV) Lf.length]).add1 eW7 (by
   simp only [memC, memN, or_false, not_or]
   exact ⟨fun q => fwA q.symm, fun q => lw q.symm⟩) (okt (Nat.le_trans O2.size nwA))).pick [0, 2, 1] (by decide) rfl rfl
 have hLl : Lf.length < 999999 := by
  have z := congrArg List.length hLf
  rw [List.length_map, List.length_map] at z
  rw [z]
  exact Nat.lt_of_le_of_lt (leftF_len _ _) (by omega)
 show SPw _ A _ (.bnd (stmP w.params 6 (lawEnv w.params f cL cK)) (contP (bodyP w.params (lawEnv w.params f cL cK) 1 7))) Q _
 refine law_step (law_s7 (N := N) (f := f) (cK := cK) (cL := cL) (dle ‹_›) hh0 (by rw [wT_len]; omega) hLl (frOk_nil hA h7) ht7 S7' fun h8 t8 hh8 k8 sl8 mA oA n2 n3 ht8 _ S8 K8 nmA noA => ⟨rfl, ?_⟩)
 have in7 : ∀ b ∈ [f, wA, lA], h.objs.size ≤ b := fun b hb => by
  simp only [memC, memN, or_false] at hb
  rcases hb with rfl | rfl | rfl
  ·exact nf
  ·exact Nat.le_trans O2.size nwA
  ·exact Nat.le_trans O6.size nlA
 have O8 : Old h h8 := O7.step K8 in7
 have T8 : Tab h8 := T7.step K8 n9 in7
 have aA7 : aA ≠ wA := (ne_new eW5 naA).symm
 have afA : aA ≠ f := fun q => A6 (by simp [q])
 have out7 : ∀ {b : Addr}, b ≠ f → b ≠ wA → b ≠ lA → b ∉ [f, wA, lA] := fun x y z hm => by
  simp only [memC, memN, or_false] at hm
  rcases hm with e | e | e
  ·exact x e
  ·exact y e
  ·exact z e
 have eQ8 : h8.get? qA = some (lstO (qs.map Qd.v) qs.length) := K8.keep _ _ eQ7 (out7 fqA.symm wqA.symm lq.symm) (fun _ => lst_fr)
 have eA8 : h8.get? aA = some (lstO (accs.map strV) accs.length) := K8.keep _ _ eA7 (out7 afA aA7 la.symm) (fun _ => lst_fr)
 have qf : ∀ q ∈ qs, q.a ≠ f ∧ q.a ≠ wA ∧ q.a ≠ lA ∧ q.a ≠ qA ∧ q.a ≠ aA := fun q hq => by
  obtain ⟨b1, b2, b3⟩ := Q4 q hq
  exact ⟨(ne_new ef3 b2).symm, (ne_new eW3 b2).symm, ne_new (q6' q hq) nlA, b3, ne_new (q5' q hq) naA⟩
 have q8' : ∀ q ∈ qs, h8.get? q.a = some (qO kt q) := fun q hq => K8.keep _ _ (q7' q hq) (out7 (qf q hq).1 (qf q hq).2.1 (qf q hq).2.2.1) (fun _ => qO_fr)
 have S8' : Starts (kt0 w.params) h8 [f, wA, qA, aA, lA, mA, oA] (s8Xs hh8 k8 sl8 sA nA wA qA aA lA mA oA kt (ksOfN nl) nl.length qs accs accs.length Lf Lf.length n3 n2) :=
  ((S8.add1 eQ8 (by
   simp only [memC, memN, or_false, not_or]
   exact ⟨fqA.symm, wqA.symm, lq.symm, ne_new eQ7 nmA, ne_new eQ7 noA⟩) (okt (Nat.le_trans z03 nqA))).add1 eA8 (by
   simp only [List.cons_append, List.nil_append, memC, memN, or_false, not_or]
   exact ⟨afA, aA7, la.symm, ne_new eA7 nmA, ne_new eA7 noA, (ne_new eQ5 naA).symm⟩) (okt (Nat.le_trans O5.size naA))).pick [0, 1, 5, 6, 2, 3, 4] (by decide) rfl rfl
 show SPw _ A _ (.bnd (stmP w.params 7 (lawEnv w.params f cL cK)) (contP (bodyP w.params (lawEnv w.params f cL cK) 0 8))) Q _
 refine law_last (law_s8 (N := N) (f := f) (cK := cK) (cL := cL) (kt := kt) (ks := ksOfN nl) (dle ‹_›) hh0 (by omega) (by omega) (by omega) hacc hLf (fun q hq => ⟨(Lx1 q hq).1, ?_, okt (Nat.le_trans z03 (Q4 q hq).2.1), q8' q hq⟩) ht8 S8' fun h9 t9 ht9 K9 => ⟨_, rfl, hQ _ _ ?_⟩)
 ·obtain ⟨b1, b2, b3, b4, b5⟩ := qf q hq
  simp only [memC, memN, or_false, not_or]
  exact ⟨b1, b2, b4, b5, b3, ne_new (q7' q hq) nmA, ne_new (q7' q hq) noA⟩
 ·exact fin h9 g5 t9 (O8.step K9.up fun _ h => nomatch h) (T8.step K9.up n9 fun _ h => nomatch h) hb5
end
section
open PySem PySem.W PySem.W.X PySem.Calls PyProof.Rows
theorem left : LeftO pw qv loose (fun _ => true) Yf Ya 6000 := left_of fun w => by
 have h := head_twin w
 rw [← PySem.W.Fast.te1435165496053646825, ← PySem.W.Fast.te10274390034422433532, ← PySem.W.Fast.te14364793385576792824, ← PySem.W.Fast.te14289696077712309145, ← PySem.W.Fast.te10156331382660048174, ← PySem.W.Fast.te11892475500146522536,
  ← PySem.W.Fast.te6613529449190102663, ← PySem.W.Fast.te8920871248978507458, ← PySem.W.Fast.te5923862056798008813, ← PySem.W.Fast.te4187177175401517315] at h
 with_reducible exact h
theorem row_said_tw : PySem.W.Fast.tw17960256430627541270 (PySem.W.Fast.tw2368527892694137696 PySem.Challenge.rw_in0072_01) = true := by
 unfold PySem.W.Fast.tw17960256430627541270
 repeat' (with_reducible refine look_both ?_ ?_)
 all_goals (try (unfold PySem.W.Fast.tw2436336058641802641; repeat' (with_reducible refine look_both ?_ ?_)))
 all_goals (try (unfold PySem.W.Fast.tw12908688711261696721; repeat' (with_reducible refine look_both ?_ ?_)))
 all_goals (as_aux_lemma => kernel_rfl)
theorem law_said : PySem.Challenge.rw_in0072_01.wellSaid = true := by
 rw [PySem.W.Fast.te9446332074065402090]
 unfold PySem.W.Fast.tw9446332074065402090
 repeat' (with_reducible refine look_both ?_ ?_)
 all_goals first | with_reducible exact row_said_tw | as_aux_lemma => kernel_rfl
noncomputable def kwl : List (Str × Expr) := []
noncomputable def dl : DefRec := ⟨o "law", fP (tS 37), fB (tS 37), fS (tS 37), fPos (tS 37)⟩
abbrev rwL : OpenLaw := PySem.Challenge.rw_in0072_01
theorem h_def : defOf qv rwL.row.name = some (dl, kwl) := by kernel_rfl
theorem h_the : rwL.row.prog.theDef rwL.row.name = some (dl.params, dl.body, dl.scope) := by kernel_rfl
theorem h_kw : kwWritten? dl.params.kwonlyargs dl.params.kw_defaults = some kwl := by kernel_rfl
theorem h_wr : (!rwL.row.writes || rwL.row.records.isEmpty) = true := by kernel_rfl
theorem h_ok : (chainsOk qv && opensWell rwL.row.prog && (frees rwL.row.toRowW && rwL.row.within.isEmpty)) = true := by kernel_rfl
theorem h_bare : rwL.row.prog.bare := ⟨rfl, rfl, rfl, rfl, rfl, by decide +kernel⟩
theorem h_prom : rwL.row.toRowW.promised := by w_witness2
theorem holds_of (call : WalkX (r := rwL.row.toRowW) qv loose (fun _ _ => True) Yf Ya dl kwl fun f vs => PySem.call f vs) : PySem.Challenge.rw_in0072_01.Holds := by
 refine holds_law law_said fun said => ?_
 refine holds_openX (r := rwL.row) (q := qv) (loose := loose) (Xt := fun _ => true) (XP := fun _ _ => True) (Yf := Yf) (Ya := Ya) (d := dl) (kwd := kwl) (N := 6000) ?_ ?_ ?_ h_def h_the h_kw ?_ h_wr said h_ok h_bare h_prom call
 ·exact left
 ·exact fun _ _ => trivial
 ·exact fun _ _ _ _ _ => trivial
 ·exact fun _ _ => recFacts_nil (by with_unfolding_all rfl)
end
section
open PySem PySem.W PySem.W.X PySem.Spec PySem.Calls PyProof.Rows
noncomputable def K0 (P : Params) : Frag := (obsA.zip (obsO P)).filterMap fun p => p.2.map fun x => (p.1, x)
noncomputable def rmK : Nat → KT → Nat → KT
 | 0, t, _ => t
 | _ + 1, .nil, _ => .nil
 | n + 1, .node v l r, i => match Nat.beq i 0 with
  | true => .nil
  | false => match Nat.beq (i % 2) 1 with
   | true => .node v (rmK n l (i / 2)) r
   | false => .node v l (rmK n r (i / 2 - 1))
theorem rmK_holds {h : Heap} : ∀ (n : Nat) (t : KT) (i s b : Nat), KT.Holds h s b t → KT.Holds h s b (rmK n t i)
 | 0, _, _, _, _, H => H
 | _ + 1, .nil, _, _, _, H => H
 | n + 1, .node v l r, i, s, b, H => by
  unfold rmK
  cases Nat.beq i 0 with
  | true => exact trivial
  | false => cases Nat.beq (i % 2) 1 with
   | true => exact ⟨H.1, rmK_holds n l _ _ _ H.2.1, H.2.2⟩
   | false => exact ⟨H.1, H.2.1, rmK_holds n r _ _ _ H.2.2⟩
theorem kt0_of (P : Params) : rmK 40 (KT.of (K0 P)) 759 = kt0 P := by kernel_rfl
theorem allIn_zip {h : Heap} : ∀ {as : List Addr} {os : List (Option Obj)}, as.map h.get? = os → AllIn h ((as.zip os).filterMap fun p => p.2.map fun x => (p.1, x))
 | [], os, e => trivial
 | a :: as, [], e => trivial
 | a :: as, o :: os, e => by
  obtain ⟨e1, e2⟩ := List.cons.inj e
  rw [List.zip_cons_cons, List.filterMap_cons]
  have ih := allIn_zip e2
  cases o with
  | none => exact ih
  | some x => exact ⟨e1, ih⟩
theorem kt_gen {h : Heap} {K : Frag} {t : KT} (e : rmK 40 (KT.of K) 759 = t) (a : AllIn h K) : ∀ b x, t.get b = some x → h.get? b = some x := fun b x q => by
 have z := rmK_holds 40 _ 759 _ _ (X.holds_of a)
 rw [e] at z
 exact X.kt_at z q
theorem allIn_K0 {P : Params} {h : Heap} (e : obsA.map h.get? = obsO P) : AllIn h (K0 P) := by
 unfold K0
 exact allIn_zip e
theorem kt0_all {P : Params} {h : Heap} (e : obsA.map h.get? = obsO P) : ∀ b x, (kt0 P).get b = some x → h.get? b = some x := by
 have a := allIn_K0 e
 have k := kt0_of P
 generalize kt0 P = t at k ⊢
 generalize K0 P = K at k a
 exact kt_gen k a
noncomputable def i759 : Nat := obsA.findIdx fun a => Nat.beq a 759
theorem at_759 {P : Params} {h : Heap} (e : obsA.map h.get? = obsO P) : h.get? 759 = some (o759 P) := by
 have z := congrArg (fun l => l[i759]?) e
 have e1 : obsA[i759]? = some 759 := by decide +kernel
 have e2 : (obsO P)[i759]? = some (some (o759 P)) := by kernel_rfl
 simp only [List.getElem?_map, e1, e2, Option.map_some, Option.some.injEq] at z
 exact z
theorem ints_numV : ∀ {vs : List Value} {ns : List Int}, IntsAre vs ns → ∃ nl : List (Int × Tok), vs = nl.map numV ∧ nl.length = ns.length
 | _, _, .nil => ⟨[], rfl, rfl⟩
 | _, _, .cons n t h => by
  obtain ⟨nl, rfl, e⟩ := ints_numV h
  exact ⟨(n, t) :: nl, rfl, by simp [e]⟩
theorem law_at (P : Params) : nsFind (es3 P) (o "law") = some (.ref 803) := by kernel_rfl
theorem o3_dict (P : Params) : (o3 P).data = .dict (es3 P) (match (o3 P).data with | .dict _ n => n | _ => 0) := by kernel_rfl
theorem old_ok {P : Params} {h h' : Heap} (B : ∀ b x, (kt0 P).get b = some x → h.get? b = some x) (h759 : h.get? 759 = some (o759 P)) (hf : ∀ b x, h.get? b = some x → isFr x = false) (O : Old h h') (T : Tab h') : OldK h h' := by
 have key : ∀ b x, h.get? b = some x → asItWas h h' b x := fun b x e => by
  by_cases q : b = 759
  ·subst q
   rw [h759] at e
   cases e
   obtain ⟨m, em⟩ := T
   refine .inr (.inl ⟨(code763 B h759).2.isCodeTable, rfl, Array.mk [], m, rfl, ?_⟩)
   rw [em]
   congr 2
   simp
  ·exact .inl (O.keep b x q e (hf b x e))
 refine ⟨key, fun b x e => ?_⟩
 by_cases q : b = 759
 ·subst q
  obtain ⟨m, em⟩ := T
  exact ⟨_, em⟩
 ·exact ⟨x, O.keep b x q e (hf b x e)⟩
theorem script_heap {R : WRecords} {w : World} {s₀ s₁ : Shared} {ns : List Int} {a : Addr} {as : List Addr} (L : Laid R w s₀ s₁ [ofPy (PyData.list (ns.map PyData.int))] [.ref a] as) : ∃ x, isFr x = false ∧ s₁.heap = s₀.heap.push x := by
 obtain ⟨ord, _, e⟩ := L.laid
 simp only [ofPy, layAllW, layW] at e
 cases q : layAllW R (classAt s₀.heap) w.params ord (ofPys (List.map PyData.int ns)) s₀ with
 | none => rw [q] at e; cases e
 | some r =>
  rw [q] at e
  have hh := lay_ints ns s₀ r q
  simp only [Option.some.injEq, Prod.mk.injEq] at e
  exact ⟨{ cls := .type "list", data := .seq r.1.toArray }, rfl, by rw [← e.2, ← hh]⟩
theorem heap_at {h : Heap} {b : Addr} {x : Obj} (e : h.get? b = some x) : h.objs[b]? = some x := by
 unfold Heap.get? at e
 split at e
 ·cases e
 ·exact e
theorem walk : WalkX (r := rwL.row.toRowW) qv loose (fun _ _ => True) Yf Ya dl kwl fun f vs => PySem.call f vs := by
 intro w s₀ s₁ mg mb G Y fa o pm cd doc dV kV ho hd hcd hD hg hgens args vals as L hpre hlay hrd hwl hlo
 have Tg : s₁.heap.Ns mainGlobals mg := G.T.g
 have Y1 : obsA.map s₀.heap.get? = obsO w.params := congrArg Prod.fst Y
 have Y2 : s₀.heap.objs.size = 804 := congrArg (fun x => x.2.1) Y
 have Y3 : s₀.toks = 1318 := congrArg (fun x => x.2.2.1) Y
 have Y4 : (s₀.heap.objs.toList.all fun x => !isFr x) = true := congrArg (fun x => x.2.2.2) Y
 clear Y ho hd hcd hD G
 w_on
 wrow_args hpre hlay hrd hwl hlo
 rename_i ns hs hlay0 hL1 hr1 hl2 as1 as2 sA vs as0 hL ra w1 r0 hI hr hc1 hc2
 obtain ⟨nl0, rfl, hlen⟩ := ints_numV hI
 have B0 := kt0_all Y1
 have B1 : ∀ b x, (kt0 w.params).get b = some x → s₁.heap.get? b = some x := fun b x e => L.keeps b x (B0 b x e)
 have h759 : s₁.heap.get? 759 = some (o759 w.params) := L.keeps _ _ (at_759 Y1)
 have h803 : fa = 803 := by
  obtain ⟨ob, es, ep, e1, e2, _, e4⟩ := Tg
  have e5 : s₁.heap.get? 3 = some ob := e1
  rw [B1 3 _ (kt0_3 _)] at e5
  cases e5
  rw [o3_dict] at e2
  cases e2
  have z := (e4 (Mine.o "law")).symm.trans (law_at w.params)
  have hg' : mg (Mine.o "law") = some (.ref fa) := hg
  rw [hg'] at z
  cases z
  rfl
 subst h803
 obtain ⟨ea, _⟩ := script_at L
 have et := script_toks L Y3
 have eo : s₁.heap.get? sA = some (lstO (nl0.map numV) 0) := script_obj L hL
 rw [Y2] at ea
 subst ea
 have off : (kt0 w.params).get 804 = none := by
  cases q : (kt0 w.params).get 804 with
  | none => rfl
  | some x =>
   have z := Heap.lt_size (B0 804 x q)
   rw [Y2] at z
   exact absurd z (Nat.lt_irrefl _)
 have hfr : ∀ b x, s₁.heap.get? b = some x → isFr x = false := fun b x e => by
  obtain ⟨y, hy, ep⟩ := script_heap L
  rw [ep] at e
  by_cases hb : b = s₀.heap.objs.size
  ·subst hb
   have z := heap_at e
   have z2 : (s₀.heap.push y).objs[s₀.heap.objs.size]? = some y := by simp [Heap.push]
   rw [z2] at z
   cases z
   exact hy
  ·have z := heap_at e
   have z2 : (s₀.heap.push y).objs[b]? = s₀.heap.objs[b]? := by simp [Heap.push, Array.getElem?_push, hb]
   rw [z2] at z
   have hm : x ∈ s₀.heap.objs.toList := by
    obtain ⟨h1, rfl⟩ := Array.getElem?_eq_some_iff.mp z
    simp
   have q := List.all_eq_true.mp Y4 x hm
   simpa using q
 have S : Starts (kt0 w.params) s₁.heap [804] [lstO (nl0.map numV) 0] := ⟨rfl, fun j a x e1 e2 => by
  match j, e1, e2 with
  | 0, e1, e2 => cases e1; cases e2; exact eo, by simp, B1, fun a ha => by
  rw [List.mem_singleton] at ha
  rw [ha]
  exact off⟩
 have e1 := World.withFollow_self w "special-get-raises"
 refine enter_call ?_
 have z := law_ok (w := w) (r := w.params.followText "special-get-raises") (A := callerA) (g := s₁.gens) (d := s₁.drawn) (os := s₁.os) (by decide) rfl (by decide) rfl (nl0 := nl0) (by omega) h759 (tok := s₁.toks) (Nat.lt_of_lt_of_le (by decide) et) S (R := GoodWG rwL.row.toRowW.claim (classAt s₀.heap) (ExcName.means s₀.heap) [ofPy (PyData.list (ns.map PyData.int))] s₁) fun h' g' t' O T hb => ?_
 ·have z' : codeAny (model pw (w.withFollow "special-get-raises" (w.params.followText "special-get-raises"))) callerA (.call (.ref 803) ⟨[.ref 804], []⟩) _ s₁ := z
  rw [e1] at z'
  exact z'
 ·refine ⟨.inl ⟨_, _, [], rfl, fun _ => rfl, ReadsW.bool true, ?_, fun _ => ⟨List.nodup_nil, fun _ hm => nomatch hm⟩⟩, old_ok B1 h759 hfr O T, rfl, hb (by rw [hgens]; exact AllBare.empty)⟩
  first
   | rfl
   | wrow_post
end
end Mine
theorem PySem.Challenge.cw_in0072_01_holds : PySem.Challenge.rw_in0072_01.Holds :=
 Mine.holds_of Mine.walk
