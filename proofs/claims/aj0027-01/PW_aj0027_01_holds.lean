import PyProof.Rows.All
import Wide.All
import OpenK.AllK
import Wide.FinOn
import PySem.Challenge.RW_aj0027_01
open PySem PySem.W PySem.Calls PySem.Spec PyProof.Rows
set_option Elab.async false
set_option maxRecDepth 100000
set_option maxHeartbeats 4000000
set_option linter.unusedVariables false
set_option compiler.extract_closed false
set_option tactic.hygienic false
namespace Mine
theorem byc {p:Prop} (h:¬p→False):p:=Classical.byContradiction h
theorem keepK {r:OpenRow} (K:Params→Frag) (as:List Addr) (e:∀ P,as=(K P).map (·.1)) (hc:(∀ P,as=(K P).map (·.1))→r.Holds) (hw:r.toRowW.promised):r.Holds:=hc e
section
local macro_rules | `(tactic| o_head (kmHook $K $a $e $ts))=>`(tactic| refine' keepK $K $a $e ?hc ?hw)
open_top hd for PySem.Challenge.rw_aj0027_01.row
end
theorem fillUp:PySem.Challenge.rw_aj0027_01=PySem.Challenge.rw_aj0027_01∧Mine.hd.heap_1=Mine.hd.heap_1:=by k_fill;exact ⟨rfl,rfl⟩
local macro_rules | `(tactic| walk_at $s:str)=>`(tactic| k_extra $(Lean.Syntax.mkStrLit ("@"++s.getString)))
theorem rs0:True:=by
 w_on
 w_top off
 k_with_none
 exact trivial
variable {prog:Program} {w:World} {A:Around} {s:Shared} {p:Program} {loose:List Str} {mean:ExcName→Option Value} {mg mb:Str→Option Value}
noncomputable def codeL:List Nat→Nat
 | []=>0
 | c::r=>2 ^ c * (2 * codeL r + 1)
theorem codeL_c (c:Nat) (r:List Nat):codeL (c::r)=2 ^ c * (2 * codeL r + 1):=rfl
theorem two_pow_odd {a b m n:Nat} (h:2 ^ a * (2 * m + 1)=2 ^ b * (2 * n + 1)):a=b∧m=n:=by
 induction a generalizing b with
 | zero=>cases b with
  | zero=>simp only [Nat.pow_zero,Nat.one_mul] at h;lia
  | succ b=>rw [Nat.pow_succ,Nat.mul_comm (2 ^ b) 2,Nat.mul_assoc] at h;simp only [Nat.pow_zero,Nat.one_mul] at h;lia
 | succ a ih=>cases b with
  | zero=>rw [Nat.pow_succ,Nat.mul_comm (2 ^ a) 2,Nat.mul_assoc] at h;simp only [Nat.pow_zero,Nat.one_mul] at h;lia
  | succ b =>
   rw [Nat.pow_succ,Nat.pow_succ,Nat.mul_comm (2 ^ a) 2,Nat.mul_comm (2 ^ b) 2,Nat.mul_assoc,Nat.mul_assoc] at h
   have:=ih (Nat.eq_of_mul_eq_mul_left (by lia) h)
   lia
theorem codeL_inj {x y:List Nat} (h:codeL x=codeL y):x=y:=by
 induction x generalizing y with
 | nil=>cases y with
  | nil=>rfl
  | cons c r =>
   have h1:0 < 2 ^ c * (2 * codeL r + 1):=Nat.mul_pos (Nat.pow_pos (by lia)) (by lia)
   rw [codeL_c,show codeL []=0 from rfl] at h;lia
 | cons c r ih=>cases y with
  | nil =>
   have h1:0 < 2 ^ c * (2 * codeL r + 1):=Nat.mul_pos (Nat.pow_pos (by lia)) (by lia)
   rw [codeL_c,show codeL []=0 from rfl] at h;lia
  | cons b y =>
   rw [codeL_c,codeL_c] at h
   have h1:=two_pow_odd h
   rw [h1.1,ih h1.2]
noncomputable def nmList:List Nat:=[162259276829213363391578010288128,186070713419675363980626894819329161914404559424855528710782631274465797239101783663058423224390134000215947146601553085676537611240341504,6864797660130609714981900799082747059893517729273958931945315642268629716643408097570507689540227172783839429687492704938365462514448988580276378244246142976,14742040721959145907193572581985425532595083940983871436363063645491894755861453746636329971830520149082285159462506530920106028084522403064716916010688104870218563584,16687398718132110018711107079456207913562913905079969641941491965666323751580247419501192151040,39614081257132168796771975168,22713710134237715329666368996500141835254462820416934657077957919246314733621331855975289766384956886938693091427506524002889542664192,189516368689051383685178160212708123448456121706809497324417828975624261224419824114621149207637221620632186854864728981690657358195408764681838492714189809145366690836442484990110817290388988051966345038514031615008460393938944,627057063764139831929324851379409876926770517818681547520986352455427515561085167878416117603757411335305197161199036408411265884220898890896934131977613461603965049816829965900491877046791351587995385856,177450860423732151013018507785157425371517122293174897451605290588373424319498585261780377181873878681843773813466029135949713113088,115172193140305827399949785796783849297198483943858732176375842800629944942861037292187878827581426693771097210594677972045269737897478249905118673066368957155377152,1386334847060407429789207092071678554888517475933181568974434641853269810329358010693099869082352814123804035898029721967306735616,3685510180489786476798393145496356427511486091179005612345392857679793861850333370786468553328595372127069089628382668727760764050500427758089561849841109079412441088,1234079962583568685353019702286557670650766667096430885366013537002912450645201718905513466160202753671184668511352903055924231035102087652614389289262031137385248242159476446563254905420203137145749699443518561234857088238604989799060540102248527983334350571603940932779737885266397158634769082015178236225795946735393225948670564891001517227685958657530611614708873578319984102443057383940591358871990774614045811730281075950081438549043627049585676963619813720064,7198262071269114212496861612297571147483371271833995336612095425121704968649134067719038468135358059311183931788547450164435177542954583002738468543465405221437440,29484081443918291814387145163970851420091888729432044898763142861298503551586853141377181565482426610148767197091711455639141279585755922633041036757561917571155886080,14059105607947488696282932836519039892679568596550936780212879323281262592109312118381676843724908070907714731790229502251297212657608601622205450436189064527872,101201126653655309176247673359478611927873672080187622905581047399616084835123778428754294369399988651548961085344580361164374487036057557525402226028195021535532138441378033153767331002698511088775904129460691682450628236752104339742993155278128879226539403669753093178583782240454672799235067643834066273327906086258212864,14059105607947488696282932836524238648356045124412646306808147340362813457432791557477429927914201941911600743589141743888084212301129179818094223637338419888128,15744403932561434696684473303452629139971863599657220283540210169490550068582411283116479483124823903350823754647935391163913024772235232565966705638312907404644834410896346141857772390644498743187326400453902302265833503090258952240515344762068065288501455749120,79833612381388792466254908521473543603660204504419931096410074722673359706244378040164205066251458896268541267240158857652492372836133831524338844525495473196101166729136980381654993725507110809272997164296068499608877625321002820501408438029318721212747581372988222737886469439483289427509248,34175792574734561318320347298712834245019411688007954857894961364493775683474329323463107579740160,6476872105833939787279851095006631163383915013132007865957187034052066657875074627640683699414042551877894449908792460631192087272014618166776601926602523542339407672417007560640792410307447734560291837179653612842465446854795218928771576692658957256631535131075310579971331513903736000665907298557146847276123744453919768576,6359114106063703798370219984742412915773860454781207793150757848574978708622393730013288773592534821271455312727978862506520685193366169465103760401966076947733768000261058486645293344261754482481953150535241645826572992846496683524096,1453677448591213781098647615776009077456285620506683818052989306831764142951765238782418545048637240452538546339270759824355150977302528,39614081257132239165516152832,11356855067118857664833184498250070917627231410208467328538978959623158189562944588590665960677069724740747466349099893056624610246656,4455508415646675018204269146192569441066540182153439490508525804760244923399357247955629006895838803631792256481797479750323710959736694775925479773175078819836081509770202702987056239345664,262733146001979837311819117676584406903683961977153978190436887459900941461006604227883039484173879798209824387701989171488207632390437034602967347527846618109689721484836676214796721327257721126029432598711396537030293633645037413141051558206670459547807953641294156262584086665589477605295777459822582434930827644152553052760116461755541546080411240628224,160026063062018484942094643937668326707214629685682842210181434473520742782088000993522808694760905630223904098562922659566220458596496877106734688693374196323909179675679687093440101995041727802079496179985119613346604250335123600209859617516030347022221925991071377343945803212913698111850549159753637449868120517628120188044653812295911249196729286874915861259469677403525530116984005846509819054062479225714907059491273266265235531579312137382170526921862374756682350913391587990672971071597678048647864275560994214696254287176394842955762935697809326363887130489166492342872161681685453926482790997858391529913916140250629347422515427803136,44362715105933037753254626946289373430775567940574383523074972009407761234950027623750663422086866114047977178569741484827382644736,809609013229242473409981386875988562647752154226433493061691326772304773366195895045871733097439174070172872074931030400887677785362012760251944488055291012371179267264609064432524623159634105858765166056805673016323000406719219573207938267861305664203297915785726078286113580415335529865032151589051925010222773775114436608,70149324220868077495255175920561716000241653254362696078600100586630430090932758511181434313902277622779493934452416521328107608318981606848732453482002609262090733852174522000415986546236071072763862481416651062951044243285462248279083249759270678738057297348778459965755005513697120521462393125000426302282301796917133222267538490145974433532134451454576983139685226269835385416223637317538505609422196197315489603617428304691180488333649819822194688,9745314011399999080353382387875188312709116708377405043950708628968499827959332061324146313698065233653599089786380290855784124887111527233801584018079972004264978191630215559201700545440453816957396339746570820432339233011984151553789747937029344754956770890322940953558865500858210058240,374144419156711479367142263404336678983683801088000,748288838313422626427285580579705132015602532089856,363419362147803445274661903944145610840320059813134706446701480027570302541917261127046502590481978850976343482180594855821475921788928,74751027079122046462216955587793574866616173680038959026824893288009369608273281923305565756496916708933716265349662779186561677530919121579574835318200769192512008982968097179324826509542338592768,86645927941275464361825443254505541524963393166812588321376199741204595599853155501558106316938483630294681729776259497845587968,6210072369202835740595917953850010295778571147588832906773163739897778677361681225362472662139479199811320531061806216130252076673375966499493414449827503743379497435002521201775896460727162971813060979742963054328397896957602824192,1386334847060407429789207092071543987705254458597990682606945959885753329524474464847236657014678296097881717213445574631419281408,943490606205385338060388645247067234086085372222967771927236073311476958225268623229999009833393651508525283320635549815608606834550922898887824911958067067536959078400,88725430211866075506509253892596176515764250507421110423272291001463880600509059354148518298696555425414336400586036473146736902144,11090678776483259438313656736572608220086346177993812863460308025130799881958685349756605814924922099316306036529279336822702342144,2707685248164858261307045101702764175896125808942294629616463853883992936364821946231204062003665062127496437907529006055424000,224945689727159819140526925384299095651170104079954092962082880333356054929700202458246663921658396741488981896497990987364475306439777111946863666572264248180736,2335969596222563951944279862118549186463544211606240077022412242201815672776777821581647647964535341902121862609844878645407930221684977770945146761399452839099874343037848166273418160187222523904,5545339388241629719156828368286167540372063895808513300029815796827895282837605099412901903080942187885356553906103630452756578304,82631996098781074868989413504128972554171937147915447541595752303912379974215207893732739406843051731388387413115564720128,57586096570152913699974892898403281503666360829594199272686171479879075224248571126957526259324683437013281981925157348094460263491526011943183268324433562129399808,90854840536950861318665475986000706778251556198677917375328810425374253563685468221164479603626275567953197963799726747546754618490880,7371020360979572953596786290992712766297541970491935718181531822763411207936416234151826683384905781818311020491019988718382721801877286024807951858365957606989627392,1386334847060407429789207092071541868405617255820018306296346869763518567465726716599956844993561754715019357060949205415679229952,9568131466127621947163770315239464333794894721109452732824508884650314073254647980877131398781989295252433566207724282649260135649155467569101076644101409506466405057976547245547235803934443144478720,306180206916083902309240650087602477125394576658759860976285044661698369738672753739516803987132405806587480557617512730685992197447418003945789906845137575951154397880538226709669985333868131487055872,1167984798111281975972139931059274593231772105803120038511206121106453091161466535358159986505394418706145888683631725748966236322874054039153424886990630720276722937765407645315439430553550454784,44362715105933037753254626946289475958153292144258338484116868141379900081316555167812703163697139350256391985115208744875912593408,570305077202774402330146450712536422476451223536679706304299863820156455794602402587198033359987067240960005340107398484343777630399102533621012352457981711896961848744021699036737518276968448,15458150092069033378781407563727949563266422738501103975255835825135238483562801123000303777110321586315651703227792371767883539034305950838918781295421408671325534499635200,528294531135665246352339784916516612877961432099825320498180693769086818330585314255625049038415036469653103615650858692171121152037506808705851706441802083429071877365174549272491919642503388786792233169269675049441372554506044220791547434008682303062531427394421522432,158456325028528675187087900672,316912650057057350374175801344,34175792574734561318320347298719573820310060017655111072924420635420073327863297757752917458157568,573374653997517877902705223825521845627082795941090879890491006279138041316614493300931577365860269948928,709803441694928604052074031140909396172500116822528723528713828603467407159804727404768187992594379831773717442183140260475366801408,21661481985318866090456360813622113407169006471538357036931710827883778411108738863174379704814089582308454760008534017798307840,3599131035634557106248430806149495290537452623245585380511745087534637688715853785957636365305109815684889998675142505082991482975877084087068115487312124382806016,2135987035920910082395021706169973363769378751103444442057776289552762956762470975869476034052096,143343663499379469475676305956380433907625098491620129412267362809761223219266312333848963615782613286912,41315998049390537434494706752048317304023813590647967983146075391219055435230955456462621182899865259500430421906824364032,709803441694928604052074031140769412126114004059368883386178300406410654308514240081331385724408716671170665730924919133601152368640,9568131466127621947163770315237577582926870231044986755433586340865199309858980086183112416831533666945941784804753558901222051750556618376968971524142806765089453388673080352723056896598197902770176,177450860423732151013018507785157358087925490784507302008421546247481814334306131027218123850063273820297280001909731656614608371712]
noncomputable def nix (x:Str):Option Nat:=nmList.findIdx? (fun y=>Nat.beq y (codeL x.cps.toList))
theorem nx_k:nix "k"=some 0:=by kernel_rfl!
theorem nx_text:nix "text"=some 1:=by kernel_rfl!
theorem nx_place:nix "place"=some 2:=by kernel_rfl!
theorem nx_signs:nix "signs"=some 3:=by kernel_rfl!
theorem nx_end:nix "end"=some 4:=by kernel_rfl!
theorem nx_us:nix "_"=some 5:=by kernel_rfl!
theorem nx_past:nix "past"=some 6:=by kernel_rfl!
theorem nx_partial:nix "partial"=some 7:=by kernel_rfl!
theorem nx_groups:nix "groups"=some 8:=by kernel_rfl!
theorem nx_sign:nix "sign"=some 9:=by kernel_rfl!
theorem nx_value:nix "value"=some 10:=by kernel_rfl!
theorem nx_self:nix "self"=some 11:=by kernel_rfl!
theorem nx_other:nix "other"=some 12:=by kernel_rfl!
theorem nx_version_string:nix "version_string"=some 13:=by kernel_rfl!
theorem nx_major:nix "major"=some 14:=by kernel_rfl!
theorem nx_minor:nix "minor"=some 15:=by kernel_rfl!
theorem nx_patch:nix "patch"=some 16:=by kernel_rfl!
theorem nx_prerelease:nix "prerelease"=some 17:=by kernel_rfl!
theorem nx_build:nix "build"=some 18:=by kernel_rfl!
theorem nx_has_text:nix "has_text"=some 19:=by kernel_rfl!
theorem nx_has_parts:nix "has_parts"=some 20:=by kernel_rfl!
theorem nx_cls:nix "cls"=some 21:=by kernel_rfl!
theorem nx_allow_none:nix "allow_none"=some 22:=by kernel_rfl!
theorem nx_version:nix "version"=some 23:=by kernel_rfl!
theorem nx_rest:nix "rest"=some 24:=by kernel_rfl!
theorem nx_dot0:nix ".0"=some 25:=by kernel_rfl!
theorem nx_part:nix "part"=some 26:=by kernel_rfl!
theorem nx_coerce:nix "coerce"=some 27:=by kernel_rfl!
theorem nx_identifiers:nix "identifiers"=some 28:=by kernel_rfl!
theorem nx_allow_leading_zeroes:nix "allow_leading_zeroes"=some 29:=by kernel_rfl!
theorem nx_item:nix "item"=some 30:=by kernel_rfl!
theorem nx_with_build:nix "with_build"=some 31:=by kernel_rfl!
theorem nx_prerelease_key:nix "prerelease_key"=some 32:=by kernel_rfl!
theorem nx_build_key:nix "build_key"=some 33:=by kernel_rfl!
theorem nx_v1:nix "v1"=some 34:=by kernel_rfl!
theorem nx_v2:nix "v2"=some 35:=by kernel_rfl!
theorem nx_word:nix "word"=some 36:=by kernel_rfl!
theorem nx_number:nix "number"=some 37:=by kernel_rfl!
theorem nx_kind:nix "kind"=some 38:=by kernel_rfl!
theorem nx_numbers:nix "numbers"=some 39:=by kernel_rfl!
theorem nx_tail:nix "tail"=some 40:=by kernel_rfl!
theorem nx_parts:nix "parts"=some 41:=by kernel_rfl!
theorem nx_tree:nix "tree"=some 42:=by kernel_rfl!
theorem nx_path:nix "path"=some 43:=by kernel_rfl!
theorem nx_name:nix "name"=some 44:=by kernel_rfl!
theorem nx_names:nix "names"=some 45:=by kernel_rfl!
theorem nx_digits:nix "digits"=some 46:=by kernel_rfl!
theorem nx_pair:nix "pair"=some 47:=by kernel_rfl!
theorem nx_head:nix "head"=some 48:=by kernel_rfl!
theorem nx_found:nix "found"=some 49:=by kernel_rfl!
theorem nx_pool:nix "pool"=some 50:=by kernel_rfl!
theorem nx_trees:nix "trees"=some 51:=by kernel_rfl!
theorem nx_ends:nix "ends"=some 52:=by kernel_rfl!
theorem nx_triple:nix "triple"=some 53:=by kernel_rfl!
theorem nx_script:nix "script"=some 54:=by kernel_rfl!
theorem nx_builds:nix "builds"=some 55:=by kernel_rfl!
theorem nx_walk:nix "walk"=some 56:=by kernel_rfl!
theorem nx_places:nix "places"=some 57:=by kernel_rfl!
theorem nx_texts:nix "texts"=some 58:=by kernel_rfl!
theorem nx_versions:nix "versions"=some 59:=by kernel_rfl!
theorem nx_a:nix "a"=some 60:=by kernel_rfl!
theorem nx_b:nix "b"=some 61:=by kernel_rfl!
theorem nx_one:nix "one"=some 62:=by kernel_rfl!
theorem nx_two:nix "two"=some 63:=by kernel_rfl!
theorem nx_told:nix "told"=some 64:=by kernel_rfl!
theorem nx_here:nix "here"=some 65:=by kernel_rfl!
theorem nx_there:nix "there"=some 66:=by kernel_rfl!
theorem nx_due:nix "due"=some 67:=by kernel_rfl!
theorem nx_row:nix "row"=some 68:=by kernel_rfl!
theorem nx_back:nix "back"=some 69:=by kernel_rfl!
theorem nx_rise:nix "rise"=some 70:=by kernel_rfl!
theorem nx_answer:nix "answer"=some 71:=by kernel_rfl!
theorem nx_that:nix "that"=some 72:=by kernel_rfl!
theorem nix_debug:nix "__debug__"=none:=by kernel_rfl!
theorem nix_inj {x y:Str} {i:Nat} (hx:nix x=some i) (hy:nix y=some i):x=y:=by
 have a:=List.findIdx?_eq_some_iff_getElem.mp hx
 have b:=List.findIdx?_eq_some_iff_getElem.mp hy
 refine byc fun b_=>?_
 obtain ⟨h1,h2,_⟩:=a
 obtain ⟨h3,h4,_⟩:=b
 refine b_ ?_;clear b_
 have e:=codeL_inj ((Nat.eq_of_beq_eq_true h2).symm.trans (Nat.eq_of_beq_eq_true h4))
 cases x;cases y
 simp only [Str.mk.injEq]
 exact Array.toList_inj.mp e
noncomputable def frm (l:List (Nat × Value)) (y:Str):Option Value:=match nix y with
 | some i=>l.lookup i
 | none=>none
theorem frm_push {x:Str} {i:Nat} (hx:nix x=some i) (v:Value) (l:List (Nat × Value)):(fun y=>if y=x then some v else frm l y)=frm ((i,v)::l):=funext fun y=>by
 unfold frm
 by_cases h:y=x
 ·refine byc fun b_=>?_
  subst h
  refine b_ ?_;clear b_
  rw [if_pos rfl,hx];simp only [List.lookup_cons,beq_self_eq_true]
 ·rw [if_neg h]
  cases hy:nix y with
  | none=>rfl
  | some k =>
   have:(k == i)=false:=beq_eq_false_iff_ne.mpr fun e=>h (nix_inj hy (e ▸ hx))
   simp only [List.lookup_cons,this]
theorem frm_look {x:Str} {i:Nat} {l:List (Nat × Value)} {v:Value} (hx:nix x=some i) (h:l.lookup i=some v):frm l x=some v:=by
 unfold frm;rw [hx];exact h
noncomputable def NamesAre:List (Str × Value)→List (Nat × Value)→Prop
 | [],[]=>True
 | b::bl,c::l=>nix b.1=some c.1∧b.2=c.2∧NamesAre bl l
 | _,_=>False
theorem frm_binds {bl:List (Str × Value)}:∀ {l:List (Nat × Value)},NamesAre bl l→(fun y=>bl.lookup y)=frm l:=by
 induction bl with
 | nil=>intro l h;cases l with
  | nil=>exact funext fun y=>by unfold frm;cases nix y <;> rfl
  | cons=>exact h.elim
 | cons b bl ih=>intro l h;cases l with
  | nil=>exact h.elim
  | cons c l =>
   refine Eq.trans ?_ ((frm_push h.1 b.2 l).trans (congrArg (fun z=>frm ((c.1,z)::l)) h.2.1))
   rw [← ih h.2.2]
   funext y
   show (match y == b.1 with | true=>_ | false=>_)=_
   by_cases e:y=b.1
   ·rw [if_pos e,beq_iff_eq.mpr e]
   ·rw [if_neg e,beq_eq_false_iff_ne.mpr e]
theorem namesC {x:Str} {v:Value} {i:Nat} {bl:List (Str × Value)} {l:List (Nat × Value)} (hx:nix x=some i) (h:NamesAre bl l):NamesAre ((x,v)::bl) ((i,v)::l):=⟨hx,rfl,h⟩
theorem namesN:NamesAre [] []:=trivial
structure Loc (sc:Scope) (x:Str) (i:Nat):Prop where
 ix:nix x=some i
 kd:sc.names.lookup x=some .local
structure Glo (w:World) (sc:Scope) (x:Str) (v:Value):Prop where
 gl:nsIn (hd.heap_1 w.params) mainGlobals x=some (some v)
 kd:sc.names.lookup x=some .globalImplicit
 nd:(x == ("__debug__":Str))=false
structure Blt (w:World) (sc:Scope) (x:Str) (v:Value):Prop where
 gl:nsIn (hd.heap_1 w.params) mainGlobals x=some none
 bo:bootBuiltins x=some v
 nn:x ≠ "__name__"
 kd:sc.names.lookup x=some .globalImplicit
 nd:(x == ("__debug__":Str))=false
theorem nd_of_nix {x:Str} {i:Nat} (h:nix x=some i):(x == ("__debug__":Str))=false:=beq_eq_false_iff_ne.mpr fun e=>by rw [e,nix_debug] at h;cases h
section
variable {M:Model} {E:Value→Shared→Prop} {A:Around} {s:Shared} {name:Str} {scope:Scope} {L a:Addr} {cd:Value} {h₀:Heap} {l:List (Nat × Value)} {x:Str} {pos:Pos} {v:Value} {Q:Value→Shared→Prop} {i:Nat}
theorem ldL (F:Fr h₀ L s.heap (frm l)) (n:Loc scope x i) (hv:l.lookup i=some v) (h:Q v s) (hk:scope.kind=.function):wpAny M A (eval (.Name x pos) (envOf name scope L a cd)) Q E s :=
 ld F (frm_look n.ix hv) h hk n.kd (nd_of_nix n.ix)
theorem ldnL (F:Fr h₀ L s.heap (frm l)) (n:Loc scope x i) (hv:l.lookup i=some v) (h:Q v s) (hk:scope.kind=.function):wpAny M A (loadName (envOf name scope L a cd) x) Q E s :=
 ldn F (frm_look n.ix hv) h hk n.kd
theorem ldG {m:Str→Option Value} (F:Fr h₀ L s.heap m) (X:(hd.heap_1 w.params).In h₀) (T:Top p loose mean mg mb h₀) (n:Glo w scope x v) (h:Q v s) (hk:scope.kind=.function):wpAny M A (eval (.Name x pos) (envOf name scope L a cd)) Q E s :=
 name_K F X (topRead_of T) n.gl h hk n.kd n.nd
theorem ldB {m:Str→Option Value} (F:Fr h₀ L s.heap m) (X:(hd.heap_1 w.params).In h₀) (T:Top p loose mean mg mb h₀) (n:Blt w scope x v) (h:Q v s) (hk:scope.kind=.function):wpAny M A (eval (.Name x pos) (envOf name scope L a cd)) Q E s :=
 name_B F X (topRead_of T) n.gl n.bo n.nn h hk n.kd n.nd
theorem addLoc {body:List Stmt} {Q:Flow→Shared→Prop} (hx:nix x=some i) (hk:scope.names.lookup x=some .local) (h:Loc scope x i→wpAny M A (execs body (envOf name scope L a cd)) Q E s):wpAny M A (execs body (envOf name scope L a cd)) Q E s:=h ⟨hx,hk⟩
theorem addGlo {body:List Stmt} {Q:Flow→Shared→Prop} (hg:∀ w:World,nsIn (hd.heap_1 w.params) mainGlobals x=some (some v)∧(x == ("__debug__":Str))=false) (hk:scope.names.lookup x=some .globalImplicit) (h:Glo w scope x v→wpAny M A (execs body (envOf name scope L a cd)) Q E s):wpAny M A (execs body (envOf name scope L a cd)) Q E s:=h ⟨(hg w).1,hk,(hg w).2⟩
theorem addBlt {body:List Stmt} {Q:Flow→Shared→Prop} (hg:∀ w:World,nsIn (hd.heap_1 w.params) mainGlobals x=some none∧bootBuiltins x=some v∧x ≠ "__name__"∧(x == ("__debug__":Str))=false) (hk:scope.names.lookup x=some .globalImplicit) (h:Blt w scope x v→wpAny M A (execs body (envOf name scope L a cd)) Q E s):wpAny M A (execs body (envOf name scope L a cd)) Q E s :=
 h ⟨(hg w).1,(hg w).2.1,(hg w).2.2.1,hk,(hg w).2.2.2⟩
end
theorem ite_t {P Q:Prop} {i:Decidable (true=true)} (h:P):@ite Prop (true=true) i P Q:=by rw [if_pos rfl];exact h
theorem ite_f {P Q:Prop} {i:Decidable (false=true)} (h:Q):@ite Prop (false=true) i P Q:=by rw [if_neg Bool.false_ne_true];exact h
noncomputable def Hold (P:Prop):Prop:=P
theorem unhold {P:Prop} (h:Hold P):P:=h
inductive Ret (s:Shared) (Post:Value→Heap→Prop) (r:Result) (s':Shared):Prop
 | mk (v h' tk:_) (cj1:r=.ok (.ret v)) (cj2:s'={ s with heap:=h',toks:=tk }) (cj3:(∀ b o,s.heap.get? b=some o→h'.get? b=some o)) (cj4:Post v h'):Ret s Post r s'
section
theorem enter {R:Result→Shared→Prop} {name qual:Str} {params:Arguments} {body:List Stmt} {scope:Scope} {dV kV doc pm cdv ct oc:Value} {an od:Option Addr} {osl:Array (Option Value)} {f:Addr} {args:Args} (binds:List (Str × Value)) (fl:List (Nat × Value))
  (X:(hd.heap_1 w.params).In s.heap) (T:Top p loose mean mg mb s.heap)
  (ho:(hd.heap_1 w.params).lookup f=some ⟨oc,od,.func (fnOf name qual params body scope dV kV doc pm an cdv ct),osl⟩) (hcd:codeIn (hd.heap_1 w.params) cdv qual=true) (hroom:A.depth < recursionLimit)
  (hbind:BindsTo s (fnOf name qual params body scope dV kV doc pm an cdv ct) args binds) (hloc:∀ y ∈ binds,scope.names.lookup y.1=some .local)
  (hco:scope.isCoroutine=false) (hgen:scope.isGenerator=false) (hk:scope.kind=.function) (hcell:∀ x ∈ scope.names,x.2 ≠ .cell) (hnm:NamesAre binds.reverse fl)
  (h:∀ L h₁ tk,Fr s.heap L h₁ (frm fl)→News s.heap L h₁ [] →
   wpAny (model prog w) (A.deeper (envOf qual scope L f cdv)) (execs body (envOf qual scope L f cdv))
    (fun fl s'=>R (.ok (.ret (match fl with | .ret v=>v | _=>.none))) s') (fun _ _=>False)
    { s with heap:=h₁,toks:=tk }):codeAny (model prog w) A (.call (.ref f) args) R s:=by
 refine codeAny_call_def (fd:=fnOf name qual params body scope dV kV doc pm an cdv ct) (body:=body) (binds:=binds) hroom (X _ _ ho) rfl T.nolimit (codeRec_of X hcd) rfl hbind hcell hloc (fun h₁ hns hk₁=>?_) hco hgen hk
 rw [frm_binds hnm] at hns
 exact wpAny_mono (h s.heap.objs.size h₁ _ ⟨hns,hk₁,Nat.le_refl _⟩ .nil) (fun _ _ x=>x) fun _ _ x=>x.elim
theorem ret_end {s:Shared} {L:Addr} {h':Heap} {m:Str→Option Value} {tk:Nat} {v:Value} {Post:Value→Heap→Prop} (F:Fr s.heap L h' m) (h:Post v h') :
  Ret s Post (.ok (.ret v)) { s with heap:=h',toks:=tk }:=⟨v,h',tk,rfl,rfl,F.keep,h⟩
set_option tactic.hygienic true in
theorem while_ {env:Env} {test:Expr} {body orelse:List Stmt} {pos:Pos} {Q:Flow→Shared→Prop} (I:Nat→Shared→Prop) (n:Nat) (h0:I n s)
  (turn:∀ n s,I n s→wpAny (model prog w) A (isTrue test env (eval test env)) (fun b s₂ =>
    if b then wpAny (model prog w) A (execs body env) (fun f s₃=>match f with
      | .next | .cont=>Hold (∃ m,m < n∧I m s₃)
      | .brk=>Q .next s₃
      | .ret v=>Q (.ret v) s₃) (fun _ _=>False) s₂
    else wpAny (model prog w) A (execs orelse env) Q (fun _ _=>False) s₂) (fun _ _=>False) s) :
  wpAny (model prog w) A (exec (.While test body orelse pos) env) Q (fun _ _=>False) s:=by
 refine wpAny_While (codeAny_whileLoop I (fun n s hI=>?_) n h0)
 refine wpAny_mono (turn n s hI) (fun b s₂ h=>?_) fun _ _ x=>x.elim
 cases b with
 | true =>
  simp only [if_true] at h ⊢
  refine wpAny_mono h (fun f s₃ h=>?_) fun _ _ x=>x.elim
  cases f <;> exact h
 | false =>
  simp only [Bool.false_eq_true,if_false] at h ⊢
  exact wpAny_mono h (fun f s₃ h=>h) fun _ _ x=>x.elim
theorem use {f:Value} {args:List Value} {Post:Value→Heap→Prop} {Q:Value→Shared→Prop} {E:Value→Shared→Prop}
  (C:codeAny (model prog w) A (.call f ⟨args,[]⟩) (Ret s Post) s)
  (h:∀ v h' tk,(∀ b o,s.heap.get? b=some o→h'.get? b=some o)→Post v h'→Q v { s with heap:=h',toks:=tk }):wpAny (model prog w) A (call f args) Q E s:=by
 refine wpAny_call (codeAny_mono C fun r s' hr=>?_)
 refine byc fun b_=>?_
 obtain ⟨v,h',tk,rfl,rfl,hk,hp⟩:=hr
 refine b_ ?_;clear b_
 exact h v h' tk hk hp
section
variable {M:Model} {E:Value→Shared→Prop} {name:Str} {scope:Scope} {L a:Addr} {cd:Value} {h₀:Heap} {l:List (Nat × Value)} {news:List (Addr × Obj)} {x:Str} {k:Nat} {Q:Unit→Shared→Prop}
theorem stF {hp:Heap} {gs:Array GenState} {dr:Drawn} {t0:Nat} {os:OsState} {v:Value} (F:Fr h₀ L hp (frm l)) (N:News h₀ L hp news) (n:Loc scope x k) (hk:scope.kind=.function)
  (h:∀ h' tk,Fr h₀ L h' (frm ((k,v)::l))→News h₀ L h' news→Q () ⟨h',gs,dr,tk,os⟩) :
  wpAny M A (storeName (envOf name scope L a cd) x v) Q E ⟨hp,gs,dr,t0,os⟩:=by
 refine stN F N (fun h' F' N'=>h h' _ ?_ N') hk n.kd
 rw [← frm_push n.ix];exact F'
theorem stF_int {hp:Heap} {gs:Array GenState} {dr:Drawn} {t0:Nat} {os:OsState} {i:Int} {t:Tok} (F:Fr h₀ L hp (frm l)) (N:News h₀ L hp news) (n:Loc scope x k) (hk:scope.kind=.function)
  (h:∀ t h' tk,Fr h₀ L h' (frm ((k,.int i t)::l))→News h₀ L h' news→Q () ⟨h',gs,dr,tk,os⟩) :
  wpAny M A (storeName (envOf name scope L a cd) x (.int i t)) Q E ⟨hp,gs,dr,t0,os⟩:=stF F N n hk (h t)
theorem stF_str {hp:Heap} {gs:Array GenState} {dr:Drawn} {t0:Nat} {os:OsState} {i:Str} {t:Tok} (F:Fr h₀ L hp (frm l)) (N:News h₀ L hp news) (n:Loc scope x k) (hk:scope.kind=.function)
  (h:∀ t h' tk,Fr h₀ L h' (frm ((k,.str i t)::l))→News h₀ L h' news→Q () ⟨h',gs,dr,tk,os⟩) :
  wpAny M A (storeName (envOf name scope L a cd) x (.str i t)) Q E ⟨hp,gs,dr,t0,os⟩:=stF F N n hk (h t)
end
theorem fr_on {h₀ h h':Heap} {L:Addr} {m:Str→Option Value} (F:Fr h₀ L h m) (hk:∀ b o,h.get? b=some o→h'.get? b=some o):Fr h₀ L h' m :=
 ⟨F.ns.keeps hk,fun b o e=>hk b o (F.keep b o e),F.above⟩
theorem news_on {h₀ h h':Heap} {L:Addr} {news:List (Addr × Obj)} (N:News h₀ L h news) (hk:∀ b o,h.get? b=some o→h'.get? b=some o):News h₀ L h' news :=
 fun p hp=>⟨hk _ _ (N p hp).1,(N p hp).2⟩
end
theorem gk_behind (w:World):nsIn (hd.heap_1 w.params) mainGlobals "_behind"=some (some (.ref 28))∧(("_behind":Str) == ("__debug__":Str))=false:=⟨by k_is,by kernel_rfl!⟩
theorem gk_MaxIdentifier (w:World):nsIn (hd.heap_1 w.params) mainGlobals "MaxIdentifier"=some (some (.ref 94))∧(("MaxIdentifier":Str) == ("__debug__":Str))=false:=⟨by k_is,by kernel_rfl!⟩
theorem gk_NumericIdentifier (w:World):nsIn (hd.heap_1 w.params) mainGlobals "NumericIdentifier"=some (some (.ref 150))∧(("NumericIdentifier":Str) == ("__debug__":Str))=false:=⟨by k_is,by kernel_rfl!⟩
theorem gk_AlphaIdentifier (w:World):nsIn (hd.heap_1 w.params) mainGlobals "AlphaIdentifier"=some (some (.ref 206))∧(("AlphaIdentifier":Str) == ("__debug__":Str))=false:=⟨by k_is,by kernel_rfl!⟩
theorem gk_Version (w:World):nsIn (hd.heap_1 w.params) mainGlobals "Version"=some (some (.ref 388))∧(("Version":Str) == ("__debug__":Str))=false:=⟨by k_is,by kernel_rfl!⟩
theorem gk_version_groups (w:World):nsIn (hd.heap_1 w.params) mainGlobals "_version_groups"=some (some (.ref 42))∧(("_version_groups":Str) == ("__debug__":Str))=false:=⟨by k_is,by kernel_rfl!⟩
theorem gk_has_leading_zero (w:World):nsIn (hd.heap_1 w.params) mainGlobals "_has_leading_zero"=some (some (.ref 49))∧(("_has_leading_zero":Str) == ("__debug__":Str))=false:=⟨by k_is,by kernel_rfl!⟩
theorem gk_law_word (w:World):nsIn (hd.heap_1 w.params) mainGlobals "_law_word"=some (some (.ref 419))∧(("_law_word":Str) == ("__debug__":Str))=false:=⟨by k_is,by kernel_rfl!⟩
theorem gk_law_branches (w:World):nsIn (hd.heap_1 w.params) mainGlobals "_law_branches"=some (some (.ref 443))∧(("_law_branches":Str) == ("__debug__":Str))=false:=⟨by k_is,by kernel_rfl!⟩
theorem gk_law_walk (w:World):nsIn (hd.heap_1 w.params) mainGlobals "_law_walk"=some (some (.ref 450))∧(("_law_walk":Str) == ("__debug__":Str))=false:=⟨by k_is,by kernel_rfl!⟩
theorem gk_law_plant (w:World):nsIn (hd.heap_1 w.params) mainGlobals "_law_plant"=some (some (.ref 438))∧(("_law_plant":Str) == ("__debug__":Str))=false:=⟨by k_is,by kernel_rfl!⟩
theorem gk_law_text (w:World):nsIn (hd.heap_1 w.params) mainGlobals "_law_text"=some (some (.ref 431))∧(("_law_text":Str) == ("__debug__":Str))=false:=⟨by k_is,by kernel_rfl!⟩
theorem gk_law_order (w:World):nsIn (hd.heap_1 w.params) mainGlobals "_law_order"=some (some (.ref 455))∧(("_law_order":Str) == ("__debug__":Str))=false:=⟨by k_is,by kernel_rfl!⟩
theorem gk_compare (w:World):nsIn (hd.heap_1 w.params) mainGlobals "compare"=some (some (.ref 399))∧(("compare":Str) == ("__debug__":Str))=false:=⟨by k_is,by kernel_rfl!⟩
theorem gk_law_parts (w:World):nsIn (hd.heap_1 w.params) mainGlobals "_law_parts"=some (some (.ref 424))∧(("_law_parts":Str) == ("__debug__":Str))=false:=⟨by k_is,by kernel_rfl!⟩
theorem bk_len (w:World):nsIn (hd.heap_1 w.params) mainGlobals "len"=some none∧bootBuiltins "len"=some (.builtin "len")∧("len":Str) ≠ "__name__"∧(("len":Str) == ("__debug__":Str))=false:=⟨by k_is,boot_len,by decide +kernel,by kernel_rfl!⟩
theorem bk_isinstance (w:World):nsIn (hd.heap_1 w.params) mainGlobals "isinstance"=some none∧bootBuiltins "isinstance"=some (.builtin "isinstance")∧("isinstance":Str) ≠ "__name__"∧(("isinstance":Str) == ("__debug__":Str))=false:=⟨by k_is,boot_isinstance,by decide +kernel,by kernel_rfl!⟩
theorem bk_NotImplemented (w:World):nsIn (hd.heap_1 w.params) mainGlobals "NotImplemented"=some none∧bootBuiltins "NotImplemented"=some .notImplemented∧("NotImplemented":Str) ≠ "__name__"∧(("NotImplemented":Str) == ("__debug__":Str))=false:=⟨by k_is,by kernel_rfl!,by decide +kernel,by kernel_rfl!⟩
theorem bk_tuple (w:World):nsIn (hd.heap_1 w.params) mainGlobals "tuple"=some none∧bootBuiltins "tuple"=some (.type "tuple")∧("tuple":Str) ≠ "__name__"∧(("tuple":Str) == ("__debug__":Str))=false:=⟨by k_is,boot_tuple,by decide +kernel,by kernel_rfl!⟩
theorem bk_int (w:World):nsIn (hd.heap_1 w.params) mainGlobals "int"=some none∧bootBuiltins "int"=some (.type "int")∧("int":Str) ≠ "__name__"∧(("int":Str) == ("__debug__":Str))=false:=⟨by k_is,boot_int,by decide +kernel,by kernel_rfl!⟩
theorem bk_str (w:World):nsIn (hd.heap_1 w.params) mainGlobals "str"=some none∧bootBuiltins "str"=some (.type "str")∧("str":Str) ≠ "__name__"∧(("str":Str) == ("__debug__":Str))=false:=⟨by k_is,boot_str,by decide +kernel,by kernel_rfl!⟩
theorem bk_abs (w:World):nsIn (hd.heap_1 w.params) mainGlobals "abs"=some none∧bootBuiltins "abs"=some (.builtin "abs")∧("abs":Str) ≠ "__name__"∧(("abs":Str) == ("__debug__":Str))=false:=⟨by k_is,boot_abs,by decide +kernel,by kernel_rfl!⟩
theorem bk_range (w:World):nsIn (hd.heap_1 w.params) mainGlobals "range"=some none∧bootBuiltins "range"=some (.type "range")∧("range":Str) ≠ "__name__"∧(("range":Str) == ("__debug__":Str))=false:=⟨by k_is,boot_range,by decide +kernel,by kernel_rfl!⟩
theorem bk_sorted (w:World):nsIn (hd.heap_1 w.params) mainGlobals "sorted"=some none∧bootBuiltins "sorted"=some (.builtin "sorted")∧("sorted":Str) ≠ "__name__"∧(("sorted":Str) == ("__debug__":Str))=false:=⟨by k_is,boot_sorted,by decide +kernel,by kernel_rfl!⟩
noncomputable def At (K:Flow→Shared→Prop) (a:Flow) (s:Shared):Prop:=K a s
noncomputable def S0 (_:Shared):Prop:=True
noncomputable def NxT (M:Model) (A:Around) (rest:List Stmt) (env:Env) (Q:Flow→Shared→Prop) (E:Value→Shared→Prop) (K:Flow→Shared→Prop):Prop:=∀ s',wpAny M A (execs rest env) Q E s'→At K .next s'
noncomputable def NxN (M:Model) (A:Around) (rest:List Stmt) (env:Env) (Q:Flow→Shared→Prop) (E:Value→Shared→Prop) (K:Flow→Shared→Prop) (s:Shared):Prop:=∀ h tk,wpAny M A (execs rest env) Q E { s with heap:=h,toks:=tk }→At K .next { s with heap:=h,toks:=tk }
noncomputable def RtT (Q K:Flow→Shared→Prop):Prop:=∀ f s',f ≠ .next→Q f s'→At K f s'
theorem execsK {M:Model} {env:Env} {st:Stmt} {rest:List Stmt} {Q:Flow→Shared→Prop} {E:Value→Shared→Prop} (h:∀ K:Flow→Shared→Prop,NxT M A rest env Q E K→RtT Q K→wpAny M A (exec st env) (At K) E s):wpAny M A (execs (st::rest) env) Q E s :=
 wpAny_execs_cons (h (fun f s'=>match f with | .next=>wpAny M A (execs rest env) Q E s' | f=>Q f s') (fun _ x=>x) fun f s' n x=>by cases f <;> first | exact absurd rfl n | exact x)
theorem execsN {M:Model} {env:Env} {st:Stmt} {rest:List Stmt} {Q:Flow→Shared→Prop} {E:Value→Shared→Prop} {s':Shared} (m:S0 s) (h:∀ K:Flow→Shared→Prop,NxN M A rest env Q E K s→RtT Q K→wpAny M A (exec st env) (At K) E s'):wpAny M A (execs (st::rest) env) Q E s' :=
 execsK fun K n=>h K fun _ _=>n _
theorem ret_ne {v:Value}:Flow.ret v ≠ .next:=fun h=>nomatch h
theorem brk_ne:Flow.brk ≠ .next:=fun h=>nomatch h
theorem cont_ne:Flow.cont ≠ .next:=fun h=>nomatch h
theorem retK {c:Code} {Post:Value→Heap→Prop} (h:∀ R:Result→Shared→Prop,S0 s→(∀ v h' tk,(∀ b o,s.heap.get? b=some o→h'.get? b=some o)→Post v h'→R (.ok (.ret v)) { s with heap:=h',toks:=tk })→codeAny (model prog w) A c R s):codeAny (model prog w) A c (Ret s Post) s:=h _ trivial fun v h' tk g p=>⟨v,h',tk,rfl,rfl,g,p⟩
section
variable {M:Model} {E:Value→Shared→Prop} {env:Env} {hp:Heap} {gs:Array GenState} {dr:Drawn} {t0:Nat} {os:OsState} {Q:Value→Shared→Prop}
theorem constI {i:Int} {k:Nat} {pos:Pos} (h:∀ t tk,Q (.int i t) ⟨hp,gs,dr,tk,os⟩):wpAny M A (eval (.Constant (.int i) k pos) env) Q E ⟨hp,gs,dr,t0,os⟩:=wpAny_Constant_int (h _ _)
theorem constS {x:Str} {k:Nat} {pos:Pos} (h:∀ t tk,Q (.str x t) ⟨hp,gs,dr,tk,os⟩):wpAny M A (eval (.Constant (.str x) k pos) env) Q E ⟨hp,gs,dr,t0,os⟩:=Calls.Constant_str (h _ _)
theorem addI {a b:Int} {t u:Tok} (h:∀ t tk,Q (.int (a + b) t) ⟨hp,gs,dr,tk,os⟩):wpAny (model prog w) A (binaryOp .Add (.int a t) (.int b u)) Q E ⟨hp,gs,dr,t0,os⟩:=add_int (h _ _)
theorem subI {a b:Int} {t u:Tok} (h:∀ t tk,Q (.int (a - b) t) ⟨hp,gs,dr,tk,os⟩):wpAny (model prog w) A (binaryOp .Sub (.int a t) (.int b u)) Q E ⟨hp,gs,dr,t0,os⟩:=sub_int (h _ _)
end
theorem memSub {α:Type} {q:α} {m l:List α} (h:q ∈ m) (i:∀ q ∈ m,q ∈ l):q ∈ l:=i q h
theorem subC {α:Type} {x:α} {m l:List α} (h1:x ∈ l) (h2:∀ q ∈ m,q ∈ l):∀ q ∈ x::m,q ∈ l:=List.forall_mem_cons.mpr ⟨h1,h2⟩
theorem subA {α:Type} {n m l:List α} (h1:∀ q ∈ n,q ∈ l) (h2:∀ q ∈ m,q ∈ l):∀ q ∈ n++m,q ∈ l:=fun q h=>(List.mem_append.mp h).elim (h1 q) (h2 q)
theorem mT {α:Type} {x y:α} {l:List α} (h:x ∈ l):x ∈ y::l:=.tail _ h
theorem mH {α:Type} {x:α} {l:List α}:x ∈ x::l:=.head _
theorem mL {α:Type} {x:α} {l m:List α} (h:x ∈ l):x ∈ l++m:=List.mem_append_left _ h
theorem mR {α:Type} {x:α} {l m:List α} (h:x ∈ m):x ∈ l++m:=List.mem_append_right _ h
theorem subN {α:Type} {l:List α}:∀ q ∈ ([]:List α),q ∈ l:=fun _ h=>absurd h List.not_mem_nil
theorem rs1m0:True:=by
 k_with "@storeName"=>((try dsimp only);k_extra "@my st";kernel_rfl!;(intro _;intros;k_sweep))
 k_with "@my st"=>first | (apply stF_int;kpc_g;kpc_g;kpc_g) | (apply stF_str;kpc_g;kpc_g;kpc_g) | (apply stF;kpc_g;kpc_g;kpc_g)
 k_with "@my enter"=>(k_is;k_is;k_extra "@my ent8";k_extra "@my ent9";k_extra "@my loc";exact rfl;exact rfl;exact rfl;decide)
 k_with "@my enterC"=>(k_is;k_is;k_extra "@my ent8";k_extra "@my ent9";k_extra "@my loc";exact rfl;exact rfl;exact rfl)
 k_with "@my loc"=>(apply locs;exact rfl)
 k_with "@my ent8"=>omega
 k_with "@my ent9"=>(apply BindsTo.of_eq;exact rfl)
 k_with "@my look"=>first | kpc_g | (with_unfolding_all rfl) | assumption
 k_with "@loadName"=>(apply ldnL;kpc_g;kpc_g;k_extra "@my look";rotate_left;kernel_rfl!)
 k_with "@eval Name"=>first | (apply ldL;kpc_g;kpc_g;k_extra "@my look";rotate_left;kernel_rfl!) | (apply ldG;kpc_g;kpc_g;kpc_g;kpc_g;rotate_left;kernel_rfl!) | (apply ldB;kpc_g;kpc_g;kpc_g;kpc_g;rotate_left;kernel_rfl!)
 k_with "@ite"=>first | apply ite_t | apply ite_f
 k_with "@execs cons"=>first | (apply execsN;kpc_g;intro _;intro _;intro _) | (apply execsK;intro _;intro _;intro _)
 k_with "@eval Constant int"=>(apply constI;intro _;intro _)
 k_with "@eval Constant str"=>(apply constS;intro _;intro _)
 k_with "@binaryOp Add int int"=>(apply addI;intro _;intro _)
 k_with "@binaryOp Sub int int"=>(apply subI;intro _;intro _)
 k_with "@my mem"=>first | kpc_g | apply mH | (apply mT;k_extra "@my mem") | (apply mL;k_extra "@my mem") | (apply mR;k_extra "@my mem")
 k_with "@my sub"=>first | (apply subC;k_extra "@my mem";k_extra "@my sub") | (apply subA;k_extra "@my sub";k_extra "@my sub") | (intro _;intro _;k_extra "@my mem") | apply subN
 k_with "@At next"=>first | refine (by kpc_g:NxN _ _ _ _ _ _ _ _) _ _ ?_ | refine (by kpc_g:NxT _ _ _ _ _ _ _) _ ?_
 k_with "@At ret"=>refine (by kpc_g:RtT _ _) _ _ ret_ne ?_
 k_with "@At brk"=>refine (by kpc_g:RtT _ _) _ _ brk_ne ?_
 k_with "@At cont"=>refine (by kpc_g:RtT _ _) _ _ cont_ne ?_
 exact trivial
noncomputable def spanS (text signs:Str):Nat→Nat→Nat
 | 0,k=>k
 | n + 1,k=>if (Builtin.Str.occurrences signs (Txt.item text k) 0 signs.length 1).isEmpty then k else spanS text signs n (k + 1)
theorem spanS_c (text signs:Str) (n k:Nat):spanS text signs (n + 1) k=if (Builtin.Str.occurrences signs (Txt.item text k) 0 signs.length 1).isEmpty then k else spanS text signs n (k + 1):=rfl
noncomputable def behindS (text signs:Str) (pl:Nat):Nat:=spanS text signs (text.length - pl) pl
inductive BhI (s:Shared) (L:Addr) (text signs:Str) (t1 t3:Tok) (pl n:Nat) (s':Shared):Prop
 | mk (h:Heap) (tk k:Nat) (t:Tok) (l:List (Nat × Value)) (e1:s'={ s with heap:=h,toks:=tk }) (e2:n=text.length - k) (e3:spanS text signs (text.length - k) k=behindS text signs pl) (F:Fr s.heap L h (frm l)) (l1:l.lookup 2=some (.int (k:Nat) t)) (l2:l.lookup 1=some (.str text t1)) (l3:l.lookup 3=some (.str signs t3)):BhI s L text signs t1 t3 pl n s'
theorem behind_spec (text signs:Str) (t1 t2 t3:Tok) (pl:Nat) (X:(hd.heap_1 w.params).In s.heap) (T:Top p loose mean mg mb s.heap) (hdp:A.depth + 1 < recursionLimit) (hlen:text.length ≤ 1000) (hlen2:signs.length ≤ 1000) :
  codeAny (model prog w) A (.call (.ref 28) ⟨[.str text t1,.int pl t2,.str signs t3],[]⟩) (Ret s fun v _=>∃ t,v=.int (behindS text signs pl) t) s:=by
 apply enter (w:=w) [("text",.str text t1),("place",.int pl t2),("signs",.str signs t3)] [(3,.str signs t3),(2,.int pl t2),(1,.str text t1)] X T
 walk_at "my enter"
 case hnm=>exact namesC nx_signs (namesC nx_place (namesC nx_text (namesN)))
 intro L h1 tk F N
 refine addLoc nx_text (by kernel_rfl!) ?_;intro n_text
 refine addLoc nx_place (by kernel_rfl!) ?_;intro n_place
 refine addLoc nx_signs (by kernel_rfl!) ?_;intro n_signs
 refine addBlt (w:=w) bk_len (by kernel_rfl!) ?_;intro n_len
 walk1
 refine while_ (BhI s L text signs t1 t3 pl) (text.length - pl) ?_ ?_
 ·exact ⟨h1,tk,pl,t2,_,rfl,rfl,rfl,F,rfl,rfl,rfl⟩
 ·clear F N
  rintro n s' pk0
  refine byc fun b_=>?_
  obtain ⟨h,tk,k,t,l,rfl,hk3,hk4,F,hl1,hl2,hl3⟩:=pk0
  refine b_ ?_;clear b_
  have N:News s.heap L h []:=News.nil
  k_steps
  all_goals try dsimp only
  ·refine ret_end F ⟨t,?_⟩
   rw [← hk4,show text.length - k=(text.length - k - 1) + 1 from (Nat.sub_add_cancel (Nat.sub_pos_of_lt (Int.ofNat_lt.mp (by assumption)))).symm,spanS_c,if_pos (by assumption)]
  ·have e:text.length - k=(text.length - (k+1)) + 1:=(Nat.sub_add_cancel (Nat.sub_pos_of_lt (Int.ofNat_lt.mp (by assumption)))).symm
   have e2:spanS text signs (text.length - (k+1)) (k+1)=behindS text signs pl:=by
    refine Eq.trans ?_ hk4
    rw [e,spanS_c,if_neg (by simp [*])]
   rw [e] at hk3;rw [hk3];exact ⟨_,Nat.lt_succ_self _,_,_,k + 1,_,_,rfl,rfl,e2,by with_reducible assumption,by exact rfl,by exact hl2,by exact hl3⟩
  ·refine ret_end F ⟨t,?_⟩
   rw [← hk4,show text.length - k=0 from Nat.sub_eq_zero_of_le (Nat.le_of_not_lt fun h=>absurd (Int.ofNat_lt.mpr h) (by assumption))];rfl
inductive Idn where
 | mx
 | num (n:Int)
 | al (b:Array UInt8)
 deriving DecidableEq
theorem instKeep {h h':Heap} {x C:Addr} {ox:Obj} {od:Option Obj} (I:InstAt h x ox C od) (k:∀ b o,h.get? b=some o→h'.get? b=some o):InstAt h' x ox C od:=by
 refine byc fun b_=>?_
 obtain ⟨a,b,c,d⟩:=I
 refine b_ ?_;clear b_
 refine ⟨k _ _ a,b,c,?_⟩
 split at d
 ·exact k _ _ d
 ·trivial
 ·exact d.elim
structure ClsOk (w:World) (D:Addr):Prop where
 pg:plainGet (hd.heap_1 w.params) D "__class__"=true
 dc:hasDictIn (hd.heap_1 w.params) D=true
 cl:findIn (hd.heap_1 w.params) (.ref D) "__class__"=some (some (.builtin "object.__class__"))
 me:mroIn (hd.heap_1 w.params) D (.type "object")=some true
theorem sp_get (w:World):specialIn (hd.heap_1 w.params) (.builtin "object.__class__") "__get__"=some (some (.builtin "getset_descriptor.__get__")):=by k_is
theorem tk_get (w:World):takesIn (hd.heap_1 w.params) (.builtin "object.__class__")=some true:=by k_is
theorem ck_94 (w:World):ClsOk w 94:=⟨by k_is,by k_is,by k_is,by k_is⟩
theorem isy_94 (w:World):isIn (hd.heap_1 w.params) (.ref 94) 94=true:=by k_is
theorem ck_150 (w:World):ClsOk w 150:=⟨by k_is,by k_is,by k_is,by k_is⟩
theorem isy_150 (w:World):isIn (hd.heap_1 w.params) (.ref 150) 150=true:=by k_is
theorem ck_206 (w:World):ClsOk w 206:=⟨by k_is,by k_is,by k_is,by k_is⟩
theorem isy_206 (w:World):isIn (hd.heap_1 w.params) (.ref 206) 206=true:=by k_is
theorem ck_388 (w:World):ClsOk w 388:=⟨by k_is,by k_is,by k_is,by k_is⟩
theorem isy_388 (w:World):isIn (hd.heap_1 w.params) (.ref 388) 388=true:=by k_is
theorem isn_94_150 (w:World):kin_not (hd.heap_1 w.params) 94 150=true:=by kin_no
theorem isn_94_206 (w:World):kin_not (hd.heap_1 w.params) 94 206=true:=by kin_no
theorem isn_150_94 (w:World):kin_not (hd.heap_1 w.params) 150 94=true:=by kin_no
theorem isn_150_206 (w:World):kin_not (hd.heap_1 w.params) 150 206=true:=by kin_no
theorem isn_206_94 (w:World):kin_not (hd.heap_1 w.params) 206 94=true:=by kin_no
theorem isn_206_150 (w:World):kin_not (hd.heap_1 w.params) 206 150=true:=by kin_no
theorem isiT {E:Value→Shared→Prop} {h₀:Heap} {L x D C:Addr} {m:Str→Option Value} {ox:Obj} {od:Option Obj} {Q:Value→Shared→Prop} (F:Fr h₀ L s.heap m) (X:(hd.heap_1 w.params).In h₀) (I:InstAt h₀ x ox D od) (e:isIn (hd.heap_1 w.params) (.ref D) C=true)
  (h:∀ tk,Q (.bool true) { s with toks:=tk }):wpAny (model prog w) A (call (.builtin "isinstance") [.ref x,.ref C]) Q E s :=
 isi_call (X.keeps F.keep) (fun _=>(instKeep I F.keep).type) e (fun e=>nomatch e) (h s.toks)
theorem isiF {E:Value→Shared→Prop} {h₀:Heap} {L x D C:Addr} {m:Str→Option Value} {ox od:Obj} {Q:Value→Shared→Prop} (F:Fr h₀ L s.heap m) (X:(hd.heap_1 w.params).In h₀) (I:InstAt h₀ x ox D (some od)) (c:ClsOk w D) (e:kin_not (hd.heap_1 w.params) D C=true)
  (h:∀ tk,Q (.bool false) { s with toks:=tk }):wpAny (model prog w) A (call (.builtin "isinstance") [.ref x,.ref C]) Q E s :=
 kin_callC (X.keeps F.keep) (instKeep I F.keep) e c.pg c.dc c.cl (sp_get w) (tk_get w) c.me (h _)
noncomputable def IdAt (h:Heap) (x:Addr):Idn→Prop
 | .mx=>∃ ox n,InstAt h x ox 94 (some (dictOf [] n))
 | .num k=>∃ ox n hs kt t,InstAt h x ox 150 (some (dictOf [⟨hs,.str "value" kt,.int k t⟩] n))
 | .al b=>∃ ox n hs kt t,InstAt h x ox 206 (some (dictOf [⟨hs,.str "value" kt,.bytes b t⟩] n))
theorem IdAt.keep {h h':Heap} {x:Addr} {i:Idn} (I:IdAt h x i) (k:∀ b o,h.get? b=some o→h'.get? b=some o):IdAt h' x i:=by
 cases i with
 | mx=>obtain ⟨ox,n,I⟩:=I;exact ⟨ox,n,instKeep I k⟩
 | num m=>obtain ⟨ox,n,a,b,c,I⟩:=I;exact ⟨ox,n,a,b,c,instKeep I k⟩
 | al m=>obtain ⟨ox,n,a,b,c,I⟩:=I;exact ⟨ox,n,a,b,c,instKeep I k⟩
theorem rs3m0:True:=by
 k_with "@my isy"=>first | exact isy_94 .. | exact isy_150 .. | exact isy_206 .. | exact isy_388 ..
 k_with "@my ck"=>first | exact ck_94 .. | exact ck_150 .. | exact ck_206 .. | exact ck_388 ..
 k_with "@my isn"=>first | exact isn_94_150 .. | exact isn_94_206 .. | exact isn_150_94 .. | exact isn_150_206 .. | exact isn_206_94 .. | exact isn_206_150 ..
 k_with "@call builtin:isinstance"=>first | (apply isiT;kpc_g;kpc_g;kpc_g;k_extra "@my isy";intro _) | (apply isiF;kpc_g;kpc_g;kpc_g;k_extra "@my ck";k_extra "@my isn";intro _)
 k_with "@my ret"=>((try dsimp only);apply ret_end;kpc_g)
 k_with "@my inst"=>(apply instKeep;assumption;apply Fr.keep;kpc_g)
 exact trivial
local macro_rules | `(tactic| k_inst)=>`(tactic| walk_at "my inst")
theorem slot_bytes_lt:Slot "bytes" (cmpInfo .Lt).2.1 "bytes.__lt__" :=
 .of (owner:="bytes") (n:="__lt__") (by rw [typeLookup_type,builtinLookup_eq_fast];kernel_rfl) (by decide +kernel) (by decide +kernel) (by decide +kernel)
  (by first | exact .inl (by decide +kernel) | exact .inr (by decide +kernel)) (by rw [isSubtype_type];kernel_rfl)
theorem entry_bytes_lt:entryFor table "bytes.__lt__"=some Builtin.«bytes.__lt__»:=entryFor_of_tree (by kernel_rfl)
theorem args_bytes_lt_2 (a b:Value):argsOk "bytes.__lt__" ⟨[a,b],[]⟩:=by
 unfold argsOk;rw [signature?_of (id:="bytes.__lt__") (n:=['_','_','t','l','_','_']) (o:=['s','e','t','y','b']) (by kernel_rfl) (by kernel_rfl:Manifest.owners.lookup (String.ofList ['s','e','t','y','b'].reverse)=some Manifest.sig_bytes)];kernel_rfl
theorem gives_bytes_lt (b c:Array UInt8) (t u:Tok):Gives (Builtin.«bytes.__lt__» ⟨[.bytes b t,.bytes c u],[]⟩) (.val (.bool (Builtin.Bytes.order b.toList c.toList == .lt))):=by
 refine .of_wp fun M A E s Q hq=>?_
 refine (?_:wpAny M A (isInstance (.bytes c u) (.type "bytes") >>= fun r=>_) _ E s)
 refine wpAny_bind (wpAny_isInstance (typeIs_bytes s c u) F.sub_bytes_bytes ?_)
 exact wpAny_pure ⟨_,rfl,hq⟩
theorem lt_bytes {E:Value→Shared→Prop} {b c:Array UInt8} {t u:Tok} {Q:Value→Shared→Prop} (h:Q (.bool (Builtin.Bytes.order b.toList c.toList == .lt)) s):wpAny (model prog w) A (compareOp .Lt (.bytes b t) (.bytes c u)) Q E s :=
 compareOp_gives (op:=.Lt) (typeIs_bytes s b t) (typeIs_bytes s c u) slot_bytes_lt entry_bytes_lt (args_bytes_lt_2 _ _) (gives_bytes_lt b c t u) (fun e=>nomatch e) h
theorem rs3m1:True:=by
 k_with "@compareOp Lt bytes bytes"=>apply lt_bytes
 exact trivial
theorem mx_eq {x y:Addr} {j:Idn} (X:(hd.heap_1 w.params).In s.heap) (T:Top p loose mean mg mb s.heap) (hx:IdAt s.heap x .mx) (hy:IdAt s.heap y j) (hdp:A.depth + 2 < recursionLimit) :
  codeAny (model prog w) A (.call (.ref 63) ⟨[.ref x,.ref y],[]⟩) (Ret s fun v _=>v=.bool (match j with | .mx=>true | _=>false)) s:=by
 refine byc fun b_=>?_
 obtain ⟨ox,n,Ix⟩:=hx
 refine b_ ?_;clear b_
 apply enter (w:=w) [("self",.ref x),("other",.ref y)] [(12,.ref y),(11,.ref x)] X T
 walk_at "my enter"
 case hnm=>exact namesC nx_other (namesC nx_self (namesN))
 intro L h1 tk F N
 refine addLoc nx_self (by kernel_rfl!) ?_;intro n_self
 refine addLoc nx_other (by kernel_rfl!) ?_;intro n_other
 refine addGlo (w:=w) gk_MaxIdentifier (by kernel_rfl!) ?_;intro n_MaxIdentifier
 refine addBlt (w:=w) bk_isinstance (by kernel_rfl!) ?_;intro n_isinstance
 cases j
 case mx=>(obtain ⟨oy,m,Iy⟩:=hy;k_steps;walk_at "my ret";rfl)
 all_goals (obtain ⟨oy,m,hs,kt,t,Iy⟩:=hy;k_steps;walk_at "my ret";rfl)
theorem num_eq {x y:Addr} {a:Int} {j:Idn} (X:(hd.heap_1 w.params).In s.heap) (T:Top p loose mean mg mb s.heap) (hx:IdAt s.heap x (.num a)) (hy:IdAt s.heap y j) (hdp:A.depth + 2 < recursionLimit) :
  codeAny (model prog w) A (.call (.ref 119) ⟨[.ref x,.ref y],[]⟩) (Ret s fun v _=>v=(match j with | .num b=>.bool (a == b) | _=>.notImplemented)) s:=by
 refine byc fun b_=>?_
 obtain ⟨ox,n,hsx,kx,tx,Ix⟩:=hx
 refine b_ ?_;clear b_
 apply enter (w:=w) [("self",.ref x),("other",.ref y)] [(12,.ref y),(11,.ref x)] X T
 walk_at "my enter"
 case hnm=>exact namesC nx_other (namesC nx_self (namesN))
 intro L h1 tk F N
 refine addLoc nx_self (by kernel_rfl!) ?_;intro n_self
 refine addLoc nx_other (by kernel_rfl!) ?_;intro n_other
 refine addGlo (w:=w) gk_NumericIdentifier (by kernel_rfl!) ?_;intro n_NumericIdentifier
 refine addBlt (w:=w) bk_isinstance (by kernel_rfl!) ?_;intro n_isinstance
 refine addBlt (w:=w) bk_NotImplemented (by kernel_rfl!) ?_;intro n_NotImplemented
 cases j
 case mx=>(obtain ⟨oy,m,Iy⟩:=hy;k_steps;walk_at "my ret";rfl)
 all_goals (obtain ⟨oy,m,hs,kt,t,Iy⟩:=hy;k_steps;walk_at "my ret";rfl)
theorem al_eq {x y:Addr} {a:Array UInt8} {j:Idn} (X:(hd.heap_1 w.params).In s.heap) (T:Top p loose mean mg mb s.heap) (hx:IdAt s.heap x (.al a)) (hy:IdAt s.heap y j) (hdp:A.depth + 2 < recursionLimit) :
  codeAny (model prog w) A (.call (.ref 175) ⟨[.ref x,.ref y],[]⟩) (Ret s fun v _=>v=(match j with | .al b=>.bool (a.toList == b.toList) | _=>.notImplemented)) s:=by
 refine byc fun b_=>?_
 obtain ⟨ox,n,hsx,kx,tx,Ix⟩:=hx
 refine b_ ?_;clear b_
 apply enter (w:=w) [("self",.ref x),("other",.ref y)] [(12,.ref y),(11,.ref x)] X T
 walk_at "my enter"
 case hnm=>exact namesC nx_other (namesC nx_self (namesN))
 intro L h1 tk F N
 refine addLoc nx_self (by kernel_rfl!) ?_;intro n_self
 refine addLoc nx_other (by kernel_rfl!) ?_;intro n_other
 refine addGlo (w:=w) gk_AlphaIdentifier (by kernel_rfl!) ?_;intro n_AlphaIdentifier
 refine addBlt (w:=w) bk_isinstance (by kernel_rfl!) ?_;intro n_isinstance
 refine addBlt (w:=w) bk_NotImplemented (by kernel_rfl!) ?_;intro n_NotImplemented
 cases j
 case mx=>(obtain ⟨oy,m,Iy⟩:=hy;k_steps;walk_at "my ret";rfl)
 all_goals (obtain ⟨oy,m,hs,kt,t,Iy⟩:=hy;k_steps;walk_at "my ret";rfl)
theorem mx_lt {x y:Addr} {j:Idn} (X:(hd.heap_1 w.params).In s.heap) (T:Top p loose mean mg mb s.heap) (hx:IdAt s.heap x .mx) (hy:IdAt s.heap y j) (hdp:A.depth + 2 < recursionLimit) :
  codeAny (model prog w) A (.call (.ref 70) ⟨[.ref x,.ref y],[]⟩) (Ret s fun v _=>v=.bool false) s:=by
 refine byc fun b_=>?_
 obtain ⟨ox,n,Ix⟩:=hx
 refine b_ ?_;clear b_
 apply enter (w:=w) [("self",.ref x),("other",.ref y)] [(12,.ref y),(11,.ref x)] X T
 walk_at "my enter"
 case hnm=>exact namesC nx_other (namesC nx_self (namesN))
 intro L h1 tk F N
 refine addLoc nx_self (by kernel_rfl!) ?_;intro n_self
 refine addLoc nx_other (by kernel_rfl!) ?_;intro n_other
 cases j
 case mx=>(obtain ⟨oy,m,Iy⟩:=hy;k_steps;walk_at "my ret";rfl)
 all_goals (obtain ⟨oy,m,hs,kt,t,Iy⟩:=hy;k_steps;walk_at "my ret";rfl)
theorem num_lt {x y:Addr} {a:Int} {j:Idn} (X:(hd.heap_1 w.params).In s.heap) (T:Top p loose mean mg mb s.heap) (hx:IdAt s.heap x (.num a)) (hy:IdAt s.heap y j) (hdp:A.depth + 2 < recursionLimit) :
  codeAny (model prog w) A (.call (.ref 126) ⟨[.ref x,.ref y],[]⟩) (Ret s fun v _=>v=.bool (match j with | .num b=>decide (a < b) | _=>true)) s:=by
 refine byc fun b_=>?_
 obtain ⟨ox,n,hsx,kx,tx,Ix⟩:=hx
 refine b_ ?_;clear b_
 apply enter (w:=w) [("self",.ref x),("other",.ref y)] [(12,.ref y),(11,.ref x)] X T
 walk_at "my enter"
 case hnm=>exact namesC nx_other (namesC nx_self (namesN))
 intro L h1 tk F N
 refine addLoc nx_self (by kernel_rfl!) ?_;intro n_self
 refine addLoc nx_other (by kernel_rfl!) ?_;intro n_other
 refine addGlo (w:=w) gk_MaxIdentifier (by kernel_rfl!) ?_;intro n_MaxIdentifier
 refine addGlo (w:=w) gk_AlphaIdentifier (by kernel_rfl!) ?_;intro n_AlphaIdentifier
 refine addGlo (w:=w) gk_NumericIdentifier (by kernel_rfl!) ?_;intro n_NumericIdentifier
 refine addBlt (w:=w) bk_isinstance (by kernel_rfl!) ?_;intro n_isinstance
 refine addBlt (w:=w) bk_NotImplemented (by kernel_rfl!) ?_;intro n_NotImplemented
 cases j
 case mx=>(obtain ⟨oy,m,Iy⟩:=hy;k_steps;walk_at "my ret";rfl)
 all_goals (obtain ⟨oy,m,hs,kt,t,Iy⟩:=hy;k_steps;walk_at "my ret";rfl)
theorem al_lt {x y:Addr} {a:Array UInt8} {j:Idn} (X:(hd.heap_1 w.params).In s.heap) (T:Top p loose mean mg mb s.heap) (hx:IdAt s.heap x (.al a)) (hy:IdAt s.heap y j) (hdp:A.depth + 2 < recursionLimit) :
  codeAny (model prog w) A (.call (.ref 182) ⟨[.ref x,.ref y],[]⟩) (Ret s fun v _=>v=.bool (match j with | .al b=>Builtin.Bytes.order a.toList b.toList == .lt | .num _=>false | .mx=>true)) s:=by
 refine byc fun b_=>?_
 obtain ⟨ox,n,hsx,kx,tx,Ix⟩:=hx
 refine b_ ?_;clear b_
 apply enter (w:=w) [("self",.ref x),("other",.ref y)] [(12,.ref y),(11,.ref x)] X T
 walk_at "my enter"
 case hnm=>exact namesC nx_other (namesC nx_self (namesN))
 intro L h1 tk F N
 refine addLoc nx_self (by kernel_rfl!) ?_;intro n_self
 refine addLoc nx_other (by kernel_rfl!) ?_;intro n_other
 refine addGlo (w:=w) gk_MaxIdentifier (by kernel_rfl!) ?_;intro n_MaxIdentifier
 refine addGlo (w:=w) gk_NumericIdentifier (by kernel_rfl!) ?_;intro n_NumericIdentifier
 refine addGlo (w:=w) gk_AlphaIdentifier (by kernel_rfl!) ?_;intro n_AlphaIdentifier
 refine addBlt (w:=w) bk_isinstance (by kernel_rfl!) ?_;intro n_isinstance
 refine addBlt (w:=w) bk_NotImplemented (by kernel_rfl!) ?_;intro n_NotImplemented
 cases j
 case mx=>(obtain ⟨oy,m,Iy⟩:=hy;k_steps;walk_at "my ret";rfl)
 all_goals (obtain ⟨oy,m,hs,kt,t,Iy⟩:=hy;k_steps;walk_at "my ret";rfl)
noncomputable def Idn.beq:Idn→Idn→Bool
 | .mx,.mx=>true
 | .num a,.num b=>a == b
 | .al a,.al b=>a.toList == b.toList
 | _,_=>false
noncomputable def Idn.blt:Idn→Idn→Bool
 | .mx,_=>false
 | .num a,.num b=>decide (a < b)
 | .num _,_=>true
 | .al _,.num _=>false
 | .al a,.al b=>Builtin.Bytes.order a.toList b.toList == .lt
 | .al _,.mx=>true
noncomputable def Idn.ble:Idn→Idn→Bool
 | .mx,.mx=>true
 | .mx,_=>false
 | i,j=>i.blt j || i.beq j
noncomputable def Idn.bgt:Idn→Idn→Bool
 | .mx,.mx=>false
 | .mx,_=>true
 | i,j=>!i.blt j && !i.beq j
noncomputable def Idn.bge:Idn→Idn→Bool
 | .mx,_=>true
 | i,j=>!i.blt j
noncomputable def Idn.cls:Idn→Addr
 | .mx=>94
 | .num _=>150
 | .al _=>206
theorem IdAt.inst {h:Heap} {x:Addr} {i:Idn} (I:IdAt h x i):∃ ox od,InstAt h x ox i.cls (some od):=by
 cases i with
 | mx=>obtain ⟨ox,n,I⟩:=I;exact ⟨_,_,I⟩
 | num m=>obtain ⟨ox,n,a,b,c,I⟩:=I;exact ⟨_,_,I⟩
 | al m=>obtain ⟨ox,n,a,b,c,I⟩:=I;exact ⟨_,_,I⟩
theorem tc_fn {M:Model} {E:Value→Shared→Prop} {x C f:Addr} {ox:Obj} {od:Option Obj} {name:Str} {b:Value} {Q:Option Value→Shared→Prop} (X:(hd.heap_1 w.params).In s.heap) (I:InstAt s.heap x ox C od)
  (hs:findIn (hd.heap_1 w.params) (.ref C) name=some (some (.ref f))∧isFn (hd.heap_1 w.params) (.ref f)=true)
  (h:wpAny M A (call (.ref f) [.ref x,b]) (fun v s'=>Q (match v with | .notImplemented=>none | v=>some v) s') E s):wpAny M A (tryCompare (.ref x) name b) Q E s:=by
 unfold tryCompare
 refine wpAny_bind (ifBound_K X I hs.1 hs.2 (wpAny_mono h (fun v s' hv=>?_) fun _ _ e=>e))
 cases v <;> exact wpAny_pure hv
theorem tc_ne {E:Value→Shared→Prop} {x C f:Addr} {ox:Obj} {od:Option Obj} {b:Value} {Q:Option Value→Shared→Prop} (X:(hd.heap_1 w.params).In s.heap) (I:InstAt s.heap x ox C od) (hu:A.units + 1 < cLine)
  (hn:findIn (hd.heap_1 w.params) (.ref C) "__ne__"=some (some (.builtin "object.__ne__"))∧subIn (hd.heap_1 w.params) (.ref C) (.type "object")=some true)
  (hs:findIn (hd.heap_1 w.params) (.ref C) "__eq__"=some (some (.ref f))∧isFn (hd.heap_1 w.params) (.ref f)=true)
  (h:wpAny (model prog w) A.in1 (call (.ref f) [.ref x,b]) (fun v s'=>(v=.notImplemented∧Q none s')∨∃ c,v=.bool c∧Q (some (.bool (!c))) s') E s):wpAny (model prog w) A (tryCompare (.ref x) "__ne__" b) Q E s:=by
 unfold tryCompare
 unfold callSpecialIfBound? bindSpecialIfBound?
 refine wpAny_bind (wpAny_holding (wpAny_bind (wpAny_bind (wpAny_bind (I.type.here ((looks_findIn X hn.1).here ?_))))))
 refine (?_:wpAny _ _ (do let s ← ask;if s.params.followText "special-get-raises"=true then _ else _) _ _ _)
 rw [F.cmp_object.ne.bind]
 have fin:wpAny (model prog w) A (call (.builtin "object.__ne__") ([.ref x]++[b]) >>= fun v=>pure (some v)) (fun r s'=>wpAny (model prog w) A (match r with | some .notImplemented | none=>pure none | some v=>pure (some v)) Q E s') E s:=by
  refine wpAny_bind (wpAny_call (codeAny_call_builtin F.cmp_object.ne.plain F.cmpEntry_ne ?_))
  have hk:wpAny (model prog w) A.in1 (checkBuiltinCall "object.__ne__" ⟨[.ref x]++[b],[]⟩) (fun _ s₁=>s₁=s) (fun _ _=>False) s:=by
   simp only [checkBuiltinCall,F.cmpKind_ne,F.cmpSplit_ne]
   refine wpAny_bind ?_
   unfold isInstance
   refine wpAny_bind (I.type.here ((looks_subIn X hn.2).here ?_))
   have ha:=F.cmpArgs_ne (.ref x) b
   cases hsig:Manifest.signature? "object.__ne__" with
   | none=>exact wpAny_pure rfl
   | some sig =>
    simp only [argsOk,hsig] at ha
    have h2:Bind.checkArgs "object.__ne__" sig ⟨.ref x::[b],[]⟩=pure ():=ha
    show wpAny _ _ (Bind.checkArgs "object.__ne__" sig ⟨.ref x::[b],[]⟩) _ _ _
    rw [h2];exact wpAny_pure rfl
  refine wpAny_mono hk (fun _ s₁ e=>?_) fun _ _ e=>e.elim
  subst e
  show wpAny _ _ (Builtin.«object.__ne__» ⟨[.ref x,b],[]⟩) _ _ _
  unfold Builtin.«object.__ne__»
  refine wpAny_bind (wpAny_pure ?_)
  dsimp only
  refine wpAny_bind (wpAny_cRoomFor hu ?_)
  refine wpAny_bind (ifBound_K X I hs.1 hs.2 (wpAny_mono h (fun v s' hv=>?_) fun _ _ e=>e))
  rcases hv with ⟨rfl,hq⟩ | ⟨c,rfl,hq⟩
  ·exact wpAny_pure (wpAny_pure (wpAny_pure hq))
  ·exact wpAny_bind (wpAny_truthy_bool (wpAny_pure (wpAny_pure (wpAny_pure hq))))
 refine wpAny_bind (wpAny_askSetting (wpAny_ite ?_))
 split
 ·exact wpAny_bind (wpAny_pure (wpAny_pure fin))
 ·exact wpAny_tryCatch (wpAny_bind (wpAny_pure (wpAny_pure fin)))
noncomputable def Grown (h h':Heap):Prop:=∀ b o,h.get? b=some o→h'.get? b=some o
theorem Grown.refl (h:Heap):Grown h h:=fun _ _ e=>e
theorem Grown.trans {a b c:Heap} (x:Grown a b) (y:Grown b c):Grown a c:=fun p o e=>y p o (x p o e)
inductive Got {α:Type} (s:Shared) (Post:α→Heap→Prop) (v:α) (s':Shared):Prop
 | mk (h' tk:_) (cj1:s'={ s with heap:=h',toks:=tk }) (cj2:Grown s.heap h') (cj3:Post v h'):Got (α:=α) s Post v s'
theorem got_now {α:Type} {Post:α→Heap→Prop} {v:α} (h:Post v s.heap):Got s Post v s:=⟨s.heap,s.toks,rfl,.refl _,h⟩
theorem got_call {f:Value} {args:List Value} {Post:Value→Heap→Prop}
  (C:codeAny (model prog w) A (.call f ⟨args,[]⟩) (Ret s Post) s):wpAny (model prog w) A (call f args) (Got s Post) (fun _ _=>False) s:=by
 refine wpAny_call (codeAny_mono C fun r s' hr=>?_)
 obtain ⟨v,h',tk,rfl,rfl,hk,hp⟩:=hr
 exact ⟨h',tk,rfl,hk,hp⟩
inductive On (s s':Shared):Prop
 | mk (h' tk:_) (cj1:s'={ s with heap:=h',toks:=tk }) (cj2:Grown s.heap h'):On s s'
theorem On.refl (s:Shared):On s s:=⟨s.heap,s.toks,rfl,.refl _⟩
theorem On.trans {a b c:Shared} (x:On a b) (y:On b c):On a c:=by
 obtain ⟨h1,t1,rfl,g1⟩:=x
 obtain ⟨h2,t2,rfl,g2⟩:=y
 exact ⟨h2,t2,rfl,g1.trans g2⟩
theorem Got.on {α:Type} {Post:α→Heap→Prop} {v:α} {s':Shared} (g:Got s Post v s'):On s s':=by
 obtain ⟨h',tk,e,g,_⟩:=g;exact ⟨h',tk,e,g⟩
theorem Got.post {α:Type} {Post:α→Heap→Prop} {v:α} {s':Shared} (g:Got s Post v s'):Post v s'.heap:=by
 obtain ⟨h',tk,rfl,_,p⟩:=g;exact p
theorem On.got {α:Type} {Post:α→Heap→Prop} {v:α} {s':Shared} (o:On s s') (p:Post v s'.heap):Got s Post v s':=by
 obtain ⟨h',tk,rfl,g⟩:=o;exact ⟨h',tk,rfl,g,p⟩
theorem On.heap {s s':Shared} (o:On s s'):Grown s.heap s'.heap:=by obtain ⟨h',tk,rfl,g⟩:=o;exact g
set_option genInjectivity false in
structure Kd (prog:Program) (w:World) (A:Around) (s:Shared) (op:CmpOp) (α:Type) where
 is:Heap→Value→α→Prop
 eqf:α→α→Bool
 opf:α→α→Bool
 ok:α→α→Prop
 keep:∀ {h h' v a},Grown h h'→is h v a→is h' v a
 self:∀ {h v a b},is h v a→is h v b→eqf a b=true
 heq:∀ {s' u v a b},On s s'→is s'.heap u a→is s'.heap v b→ok a b→wpAny (model prog w) A (richCompare .Eq u v) (Got s' fun r _=>r=.bool (eqf a b)) (fun _ _=>False) s'
 hop:op ≠ .Eq→op ≠ .NotEq→∀ {s' u v a b},On s s'→is s'.heap u a→is s'.heap v b→ok a b→eqf a b=false→wpAny (model prog w) A (richCompare op u v) (Got s' fun r _=>r=.bool (opf a b)) (fun _ _=>False) s'
 nofl:∀ {h v a} {f:UInt64} {t:Tok},is h v a→v ≠ .float f t
inductive AllIs {α:Type} (is:Heap→Value→α→Prop) (h:Heap):List Value→List α→Prop
 | nil:AllIs is h [] []
 | cons {v:Value} {a:α} {vs:List Value} {as:List α}:is h v a→AllIs is h vs as→AllIs is h (v::vs) (a::as)
theorem AllIs.keep {α:Type} {is:Heap→Value→α→Prop} {h h':Heap} (k:∀ {v a},is h v a→is h' v a) {vs:List Value} {as:List α} (x:AllIs is h vs as):AllIs is h' vs as:=by
 induction x with
 | nil=>exact .nil
 | cons a _ ih=>exact .cons (k a) ih
theorem AllIs.length {α:Type} {is:Heap→Value→α→Prop} {h:Heap} {vs:List Value} {as:List α} (x:AllIs is h vs as):vs.length=as.length:=by
 induction x with
 | nil=>rfl
 | cons _ _ ih=>exact congrArg Nat.succ ih
inductive TupIs {α:Type} (is:Heap→Value→α→Prop) (h:Heap) (v:Value) (as:List α):Prop
 | mk (x o items n:_) (cj1:v=.ref x) (cj2:h.get? x=some o) (cj3:o.cls=.type "tuple") (cj4:o.data=.seq items n) (cj5:AllIs is h items.toList as):TupIs (α:=α) is h v as
noncomputable def lexB {α:Type} (eqf opf:α→α→Bool) (fin:Bool):List α→List α→Bool
 | a::as,b::bs=>if eqf a b then lexB eqf opf fin as bs else opf a b
 | _,_=>fin
theorem lexB_c {α:Type} (eqf opf:α→α→Bool) (fin:Bool) (a:α) (as:List α) (b:α) (bs:List α):lexB eqf opf fin (a::as) (b::bs)=if eqf a b then lexB eqf opf fin as bs else opf a b:=rfl
noncomputable def ZipOk {α:Type} (ok:α→α→Prop):List α→List α→Prop
 | a::as,b::bs=>ok a b∧ZipOk ok as bs
 | _,_=>True
theorem ZipOk.all {α:Type} {ok:α→α→Prop} (h:∀ a b,ok a b):∀ (as bs:List α),ZipOk ok as bs
 | [],_=>by cases ‹List α› <;> trivial
 | _::_,[]=>trivial
 | a::as,b::bs=>⟨h a b,ZipOk.all h as bs⟩
noncomputable def eqL {α:Type} (eqf:α→α→Bool):List α→List α→Bool
 | [],[]=>true
 | a::as,b::bs=>eqf a b && eqL eqf as bs
 | _,_=>false
theorem eqL_c {α:Type} (eqf:α→α→Bool) (a:α) (as:List α) (b:α) (bs:List α):eqL eqf (a::as) (b::bs)=(eqf a b && eqL eqf as bs):=rfl
theorem eqBool_kd {op:CmpOp} {α:Type} (K:Kd prog w A s op α) {u v:Value} {a b:α} {s':Shared} (o:On s s') (hu:K.is s'.heap u a) (hv:K.is s'.heap v b) (hok:K.ok a b) :
  wpAny (model prog w) A (eqBool u v) (Got s' fun e _=>e=K.eqf a b) (fun _ _=>False) s':=by
 unfold eqBool
 refine wpAny_holding ?_
 by_cases e:(u == v)=true
 ·rw [if_pos e]
  cases eq_of_beq e
  exact wpAny_bind (wpAny_rule (wpAny_pure (got_now (K.self hu hv).symm)))
 ·rw [if_neg e]
  have fin:wpAny (model prog w) A (do truthOfDropped (← richCompare .Eq u v)) (Got s' fun e _=>e=K.eqf a b) (fun _ _=>False) s':=by
   refine wpAny_bind (wpAny_mono (K.heq o hu hv hok) (fun r s2 g=>?_) fun _ _ x=>x)
   obtain ⟨h',tk,rfl,g,rfl⟩:=g
   exact wpAny_truthy_bool ⟨h',tk,rfl,g,rfl⟩
  cases u with
  | float f t=>exact (K.nofl hu rfl).elim
  | _=>exact fin
noncomputable def sizesB (op:CmpOp) (m n:Nat):Bool:=match op with
  | .Eq=>m == n | .NotEq=>m != n | .Lt=>m < n | .LtE=>m ≤ n | .Gt=>m > n | _=>m ≥ n
theorem sizesB_eq (op:CmpOp) (m n:Nat):Value.bool (sizesB op m n)=PySem.Builtin.Tuple.tupleCompareSizes op m n:=by cases op <;> rfl
theorem keepQ {α:Type} {M:Model} {t:Sem α} {Q:α→Shared→Prop} {E:Value→Shared→Prop} (h:∀ G:α→Shared→Prop,(∀ a s',Q a s'→G a s')→wpAny M A t G E s):wpAny M A t Q E s:=h Q fun _ _ x=>x
inductive TgI {prog:Program} {w:World} {A:Around} {s:Shared} {op:CmpOp} {α:Type} (K:Kd prog w A s op α) (fz:Bool) (as bs:List α) (rest:List (Value × Value)) (s':Shared):Prop
 | mk (o:On s s') (as' bs':List α) (xs' ys':List Value) (hz:rest=List.zip xs' ys') (hx:AllIs K.is s'.heap xs' as') (hy:AllIs K.is s'.heap ys' bs') (hok:ZipOk K.ok as' bs') (he:lexB K.eqf K.opf fz as' bs'=lexB K.eqf K.opf fz as bs):TgI K fz as bs rest s'
set_option tactic.hygienic true in
theorem tuple_goC:∃ C:String→CmpOp→Builtin,(Builtin.«tuple.__eq__»=C "__eq__" .Eq∧Builtin.«tuple.__ne__»=C "__ne__" .NotEq∧Builtin.«tuple.__lt__»=C "__lt__" .Lt∧Builtin.«tuple.__le__»=C "__le__" .LtE∧Builtin.«tuple.__gt__»=C "__gt__" .Gt∧Builtin.«tuple.__ge__»=C "__ge__" .GtE) ∧
  ∀ (name:String) {prog:Program} {w:World} {A:Around} {s:Shared} {op:CmpOp} {α:Type} (K:Kd prog w A s op α) {x y:Addr} {as bs:List α},TupIs K.is s.heap (.ref x) as→TupIs K.is s.heap (.ref y) bs→ZipOk K.ok as bs →
  ((op=.Eq∧∀ a b,K.opf a b=false)∨(op=.NotEq∧∀ a b,K.opf a b=true)∨(op ≠ .Eq∧op ≠ .NotEq)) →
  wpAny (model prog w) A (C name op ⟨[.ref x,.ref y],[]⟩) (fun fin s'=>∃ v,fin=.done (.ret v)∧Got s (fun r _=>r=.bool (lexB K.eqf K.opf (sizesB op as.length bs.length) as bs)) v s') (fun _ _=>False) s:=by
 refine ⟨_,⟨rfl,rfl,rfl,rfl,rfl,rfl⟩,?_⟩
 intro name prog w A s op α K x y as bs hx hy hok hop
 refine byc fun b_=>?_
 obtain ⟨x',ox,xs,nx,ex,hox,hcx,hdx,hix⟩:=hx
 obtain ⟨y',oy,ys,ny,ey,hoy,hcy,hdy,hiy⟩:=hy
 cases ex;cases ey
 have hTb:s.TypeIs (.ref y) "tuple":=⟨oy,hoy,hcy⟩
 obtain ⟨fz,hfz⟩:∃ fz,sizesB op as.length bs.length=fz:=⟨_,rfl⟩
 refine b_ ?_;clear b_
 rw [hfz]
 refine keepQ fun G hG'=>?_
 show wpAny _ _ (isInstance (.ref y) (.type "tuple") >>= _) _ _ s
 refine wpAny_bind (wpAny_isInstance hTb isSubtype_tuple_tuple ?_)
 simp only [Bool.not_true,Bool.false_eq_true,if_false]
 refine wpAny_bind (wpAny_tupleItemsOf hox hdx ?_)
 refine wpAny_bind (wpAny_tupleItemsOf hoy hdy ?_)
 refine wpAny_bind ?_
 refine wpAny_forIn_list _
  (fun rest r s'=>r.1=none∧TgI K fz as bs rest s')
  _ ?_ ?_ _ _ ⟨rfl,.refl _,as,bs,xs.toList,ys.toList,rfl,hix,hiy,hok,rfl⟩
 ·rintro ⟨u,v⟩ rest r s' pk0
  refine byc fun b_=>?_
  obtain ⟨hr,o,as',bs',xs',ys',hz,hx',hy',hok',he⟩:=pk0
  cases hx' with
  | nil=>simp at hz
  | @cons u' a xs'' as'' h1 hx'' =>
   cases hy' with
   | nil=>simp at hz
   | @cons v' b ys'' bs'' h2 hy'' =>
    simp only [List.zip_cons_cons,List.cons.injEq,Prod.mk.injEq] at hz
    obtain ⟨⟨rfl,rfl⟩,rfl⟩:=hz
    refine b_ ?_;clear b_
    refine wpAny_bind (wpAny_mono (eqBool_kd K o h1 h2 hok'.1) (fun e s2 g=>?_) fun _ _ x=>x)
    have o2:=g.on
    have ee:=g.post
    refine byc fun b_=>?_
    subst ee
    refine b_ ?_;clear b_
    rw [lexB_c] at he
    by_cases hq:K.eqf a b=true
    ·rw [hq] at he ⊢
     simp only [Bool.not_true,Bool.false_eq_true,if_false]
     refine wpAny_pure ⟨rfl,o.trans o2,as'',bs'',xs'',ys'',rfl,hx''.keep (K.keep o2.heap),hy''.keep (K.keep o2.heap),hok'.2,?_⟩
     simpa using he
    ·have hq':K.eqf a b=false:=by simpa using hq
     rw [hq'] at he ⊢
     simp only [Bool.not_false,if_true]
     simp only [Bool.false_eq_true,if_false] at he
     split
     ·refine wpAny_bind (wpAny_pure (wpAny_pure (wpAny_pure (hG' _ _ ⟨_,rfl,(o.trans o2).got ?_⟩))))
      rw [← he]
      rcases hop with ⟨_,h⟩ | ⟨h,_⟩ | ⟨h,_⟩
      ·rw [h]
      ·exact nomatch h
      ·exact absurd rfl h
     ·refine wpAny_bind (wpAny_pure (wpAny_pure (wpAny_pure (hG' _ _ ⟨_,rfl,(o.trans o2).got ?_⟩))))
      rw [← he]
      rcases hop with ⟨h,_⟩ | ⟨_,h⟩ | ⟨_,h⟩
      ·exact nomatch h
      ·rw [h]
      ·exact absurd rfl h
     ·rename_i n1 n2
      refine wpAny_bind (wpAny_rule ?_)
      refine wpAny_bind (wpAny_mono (K.hop n1 n2 (o.trans o2) (K.keep o2.heap h1) (K.keep o2.heap h2) hok'.1 hq') (fun r s3 g=>?_) fun _ _ x=>x)
      have o3:=g.on
      have e3:=g.post
      refine byc fun b_=>?_
      subst e3
      refine b_ ?_;clear b_
      refine wpAny_bind (wpAny_pure (wpAny_pure (wpAny_pure (hG' _ _ ⟨_,rfl,((o.trans o2).trans o3).got ?_⟩))))
      rw [← he]
 ·rintro ⟨r1,r2⟩ s' pk0
  refine byc fun b_=>?_
  obtain ⟨hr,o,as',bs',xs',ys',hz,hx',hy',hok',he⟩:=pk0
  simp only at hr
  subst hr
  refine b_ ?_;clear b_
  refine wpAny_pure (hG' _ _ ⟨_,rfl,o.got ?_⟩)
  rw [← he]
  have hl:xs.size=as.length:=by rw [← hix.length];simp
  have hl2:ys.size=bs.length:=by rw [← hiy.length];simp
  rw [hl,hl2]
  refine Eq.trans (b:=Value.bool fz) (by rw [← hfz,sizesB_eq]) ?_
  cases hx' with
  | nil=>cases hy' <;> rfl
  | cons _ _ =>
   cases hy' with
   | nil=>rfl
   | cons _ _=>simp at hz
theorem tuple_go {op:CmpOp} {α:Type} (B:Builtin) (K:Kd prog w A s op α) {x y:Addr} {as bs:List α} (hx:TupIs K.is s.heap (.ref x) as) (hy:TupIs K.is s.heap (.ref y) bs) (hok:ZipOk K.ok as bs)
  (hB:(op=.Eq∧B=Builtin.«tuple.__eq__»∧∀ a b,K.opf a b=false)∨(op=.NotEq∧B=Builtin.«tuple.__ne__»∧∀ a b,K.opf a b=true)∨(op=.Lt∧B=Builtin.«tuple.__lt__»)∨(op=.LtE∧B=Builtin.«tuple.__le__») ∨
   (op=.Gt∧B=Builtin.«tuple.__gt__»)∨(op=.GtE∧B=Builtin.«tuple.__ge__»)) :
  wpAny (model prog w) A (B ⟨[.ref x,.ref y],[]⟩) (fun fin s'=>∃ v,fin=.done (.ret v)∧Got s (fun r _=>r=.bool (lexB K.eqf K.opf (sizesB op as.length bs.length) as bs)) v s') (fun _ _=>False) s:=by
 refine byc fun b_=>?_
 obtain ⟨C,⟨e1,e2,e3,e4,e5,e6⟩,H⟩:=tuple_goC
 refine b_ ?_;clear b_
 have H:=fun n=>H n K hx hy hok
 have fin:∀ n,B=C n op→((op=.Eq∧∀ a b,K.opf a b=false)∨(op=.NotEq∧∀ a b,K.opf a b=true)∨(op ≠ .Eq∧op ≠ .NotEq))→_:=fun n e h=>e ▸ H n h
 rcases hB with ⟨h,rfl,hop⟩ | ⟨h,rfl,hop⟩ | ⟨h,rfl⟩ | ⟨h,rfl⟩ | ⟨h,rfl⟩ | ⟨h,rfl⟩
 ·exact fin _ (h ▸ e1) (.inl ⟨h,hop⟩)
 ·exact fin _ (h ▸ e2) (.inr (.inl ⟨h,hop⟩))
 ·exact fin _ (h ▸ e3) (.inr (.inr (h ▸ ⟨by decide,by decide⟩)))
 ·exact fin _ (h ▸ e4) (.inr (.inr (h ▸ ⟨by decide,by decide⟩)))
 ·exact fin _ (h ▸ e5) (.inr (.inr (h ▸ ⟨by decide,by decide⟩)))
 ·exact fin _ (h ▸ e6) (.inr (.inr (h ▸ ⟨by decide,by decide⟩)))
theorem ms_94_eq (w:World):findIn (hd.heap_1 w.params) (.ref 94) "__eq__"=some (some (.ref 63))∧isFn (hd.heap_1 w.params) (.ref 63)=true:=⟨by k_is,by k_is⟩
theorem ms_94_lt (w:World):findIn (hd.heap_1 w.params) (.ref 94) "__lt__"=some (some (.ref 70))∧isFn (hd.heap_1 w.params) (.ref 70)=true:=⟨by k_is,by k_is⟩
theorem ms_94_le (w:World):findIn (hd.heap_1 w.params) (.ref 94) "__le__"=some (some (.ref 77))∧isFn (hd.heap_1 w.params) (.ref 77)=true:=⟨by k_is,by k_is⟩
theorem ms_94_gt (w:World):findIn (hd.heap_1 w.params) (.ref 94) "__gt__"=some (some (.ref 84))∧isFn (hd.heap_1 w.params) (.ref 84)=true:=⟨by k_is,by k_is⟩
theorem ms_94_ge (w:World):findIn (hd.heap_1 w.params) (.ref 94) "__ge__"=some (some (.ref 91))∧isFn (hd.heap_1 w.params) (.ref 91)=true:=⟨by k_is,by k_is⟩
theorem ms_94_ne (w:World):findIn (hd.heap_1 w.params) (.ref 94) "__ne__"=some (some (.builtin "object.__ne__"))∧subIn (hd.heap_1 w.params) (.ref 94) (.type "object")=some true:=⟨by k_is,by k_is⟩
theorem ms_150_eq (w:World):findIn (hd.heap_1 w.params) (.ref 150) "__eq__"=some (some (.ref 119))∧isFn (hd.heap_1 w.params) (.ref 119)=true:=⟨by k_is,by k_is⟩
theorem ms_150_lt (w:World):findIn (hd.heap_1 w.params) (.ref 150) "__lt__"=some (some (.ref 126))∧isFn (hd.heap_1 w.params) (.ref 126)=true:=⟨by k_is,by k_is⟩
theorem ms_150_gt (w:World):findIn (hd.heap_1 w.params) (.ref 150) "__gt__"=some (some (.ref 133))∧isFn (hd.heap_1 w.params) (.ref 133)=true:=⟨by k_is,by k_is⟩
theorem ms_150_le (w:World):findIn (hd.heap_1 w.params) (.ref 150) "__le__"=some (some (.ref 140))∧isFn (hd.heap_1 w.params) (.ref 140)=true:=⟨by k_is,by k_is⟩
theorem ms_150_ge (w:World):findIn (hd.heap_1 w.params) (.ref 150) "__ge__"=some (some (.ref 147))∧isFn (hd.heap_1 w.params) (.ref 147)=true:=⟨by k_is,by k_is⟩
theorem ms_150_ne (w:World):findIn (hd.heap_1 w.params) (.ref 150) "__ne__"=some (some (.builtin "object.__ne__"))∧subIn (hd.heap_1 w.params) (.ref 150) (.type "object")=some true:=⟨by k_is,by k_is⟩
theorem ms_206_eq (w:World):findIn (hd.heap_1 w.params) (.ref 206) "__eq__"=some (some (.ref 175))∧isFn (hd.heap_1 w.params) (.ref 175)=true:=⟨by k_is,by k_is⟩
theorem ms_206_lt (w:World):findIn (hd.heap_1 w.params) (.ref 206) "__lt__"=some (some (.ref 182))∧isFn (hd.heap_1 w.params) (.ref 182)=true:=⟨by k_is,by k_is⟩
theorem ms_206_gt (w:World):findIn (hd.heap_1 w.params) (.ref 206) "__gt__"=some (some (.ref 189))∧isFn (hd.heap_1 w.params) (.ref 189)=true:=⟨by k_is,by k_is⟩
theorem ms_206_le (w:World):findIn (hd.heap_1 w.params) (.ref 206) "__le__"=some (some (.ref 196))∧isFn (hd.heap_1 w.params) (.ref 196)=true:=⟨by k_is,by k_is⟩
theorem ms_206_ge (w:World):findIn (hd.heap_1 w.params) (.ref 206) "__ge__"=some (some (.ref 203))∧isFn (hd.heap_1 w.params) (.ref 203)=true:=⟨by k_is,by k_is⟩
theorem ms_206_ne (w:World):findIn (hd.heap_1 w.params) (.ref 206) "__ne__"=some (some (.builtin "object.__ne__"))∧subIn (hd.heap_1 w.params) (.ref 206) (.type "object")=some true:=⟨by k_is,by k_is⟩
theorem ns_94_150 (w:World):subIn (hd.heap_1 w.params) (.ref 150) (.ref 94)=some false:=by k_is
theorem ns_94_206 (w:World):subIn (hd.heap_1 w.params) (.ref 206) (.ref 94)=some false:=by k_is
theorem ns_150_94 (w:World):subIn (hd.heap_1 w.params) (.ref 94) (.ref 150)=some false:=by k_is
theorem ns_150_206 (w:World):subIn (hd.heap_1 w.params) (.ref 206) (.ref 150)=some false:=by k_is
theorem ns_206_94 (w:World):subIn (hd.heap_1 w.params) (.ref 94) (.ref 206)=some false:=by k_is
theorem ns_206_150 (w:World):subIn (hd.heap_1 w.params) (.ref 150) (.ref 206)=some false:=by k_is
theorem notSub (w:World) {i j:Idn} (h:i.cls ≠ j.cls):subIn (hd.heap_1 w.params) (.ref j.cls) (.ref i.cls)=some false:=by
 cases i <;> cases j <;> first | exact (h rfl).elim | exact ns_94_150 w | exact ns_94_206 w | exact ns_150_94 w | exact ns_150_206 w | exact ns_206_94 w | exact ns_206_150 w
theorem rich_go {op:CmpOp} {x y:Addr} {i j:Idn} {E:Value→Shared→Prop} {Q:Value→Shared→Prop} {rest:Sem Value} (hu:A.units < cLine) (X:(hd.heap_1 w.params).In s.heap) (hx:IdAt s.heap x i) (hy:IdAt s.heap y j)
  (hrest:rest=match op with
   | .Eq=>do rule "compare.eq-identity";return .bool (← isSame (.ref x) (.ref y))
   | .NotEq=>do rule "compare.ne-identity";return .bool (!(← isSame (.ref x) (.ref y)))
   | _=>do
    rule "compare.unsupported"
    raiseError "TypeError" s!"'{(cmpInfo op).1}' not supported between instances of '{← typeNameOf (.ref x)}' and '{← typeNameOf (.ref y)}'")
  (h:wpAny (model prog w) A (tryCompare (.ref x) (cmpInfo op).2.1 (.ref y)) (fun r s'=>match r with
   | some v=>Q v s'
   | none=>wpAny (model prog w) A (tryCompare (.ref y) (cmpInfo op).2.2 (.ref x)) (fun r s'=>match r with
    | some v=>Q v s'
    | none=>wpAny (model prog w) A rest Q E s') E s') E s):wpAny (model prog w) A (richCompare op (.ref x) (.ref y)) Q E s:=by
 obtain ⟨ox,dx,Ix⟩:=hx.inst
 obtain ⟨oy,dy,Iy⟩:=hy.inst
 unfold richCompare
 simp -iota only [oneThing_ref]
 refine wpAny_holding (wpAny_bind (wpAny_cRoomFor hu ?_))
 refine wpAny_bind (Ix.type.here (wpAny_bind (Iy.type.here ?_)))
 subst hrest
 by_cases e:i.cls=j.cls
 ·rw [e]
  simp -iota only [bne_self_eq_false,Bool.false_eq_true,if_false]
  refine wpAny_bind (wpAny_pure ?_)
  simp -iota only [Bool.false_eq_true,if_false]
  refine wpAny_bind (wpAny_mono h (fun r s' hr=>?_) fun _ _ e=>e)
  cases r with
  | some v=>exact wpAny_pure hr
  | none =>
   dsimp only
   simp -iota only [Bool.not_false,if_true]
   refine wpAny_bind (wpAny_mono hr (fun r s' hr=>?_) fun _ _ e=>e)
   cases r with
   | some v=>exact wpAny_pure hr
   | none=>exact hr
 ·have e2:(Value.ref i.cls != Value.ref j.cls)=true:=by simpa using e
  rw [e2]
  simp -iota only [if_true]
  refine wpAny_bind ((looks_subIn X (notSub w e)).here ?_)
  simp -iota only [Bool.false_eq_true,if_false]
  refine wpAny_bind (wpAny_mono h (fun r s' hr=>?_) fun _ _ e=>e)
  cases r with
  | some v=>exact wpAny_pure hr
  | none =>
   dsimp only
   simp -iota only [Bool.not_false,if_true]
   refine wpAny_bind (wpAny_mono hr (fun r s' hr=>?_) fun _ _ e=>e)
   cases r with
   | some v=>exact wpAny_pure hr
   | none=>exact hr
theorem id_isSame {x y:Addr} {i j:Idn} {Q:Bool→Shared→Prop} {E:Value→Shared→Prop} (hx:IdAt s.heap x i) (hy:IdAt s.heap y j) (hc:i.cls ≠ j.cls) (h:Q false s):wpAny (model prog w) A (isSame (.ref x) (.ref y)) Q E s:=by
 refine byc fun b_=>?_
 obtain ⟨ox,dx,Ix⟩:=hx.inst
 obtain ⟨oy,dy,Iy⟩:=hy.inst
 refine b_ ?_;clear b_
 have c1:=Ix.2
 have c2:=Iy.2
 refine wpAny_isSame_ref_other (fun e=>?_) Ix.1 Iy.1 (by rw [c1];exact fun e=>nomatch e) h
 refine byc fun b_=>?_
 subst e
 refine b_ ?_;clear b_
 have:ox=oy:=Option.some.inj (Ix.1.symm.trans Iy.1)
 refine byc fun b_=>?_
 subst this
 refine b_ ?_;clear b_
 rw [c1] at c2
 exact hc (by injection c2)
set_option tactic.hygienic true in
theorem id_lt {x y:Addr} {i j:Idn} (X:(hd.heap_1 w.params).In s.heap) (T:Top p loose mean mg mb s.heap) (hx:IdAt s.heap x i) (hy:IdAt s.heap y j) (hdp:A.depth + 2 < recursionLimit) (hu:A.units < cLine) :
  wpAny (model prog w) A (richCompare .Lt (.ref x) (.ref y)) (Got s fun v _=>v=.bool (i.blt j)) (fun _ _=>False) s:=by
 refine byc fun b_=>?_
 obtain ⟨ox,dx,Ix⟩:=hx.inst
 refine b_ ?_;clear b_
 refine rich_go hu X hx hy rfl ?_
 cases i
 case mx =>
  refine tc_fn X Ix (ms_94_lt w) (wpAny_mono (got_call (mx_lt X T hx hy hdp)) (fun v s' g=>?_) fun _ _ x=>x)
  have e:=g.post;subst e
  exact g.on.got (by cases j <;> rfl)
 case num a =>
  refine tc_fn X Ix (ms_150_lt w) (wpAny_mono (got_call (num_lt X T hx hy hdp)) (fun v s' g=>?_) fun _ _ x=>x)
  have e:=g.post;subst e
  exact g.on.got (by cases j <;> rfl)
 case al a =>
  refine tc_fn X Ix (ms_206_lt w) (wpAny_mono (got_call (al_lt X T hx hy hdp)) (fun v s' g=>?_) fun _ _ x=>x)
  have e:=g.post;subst e
  exact g.on.got (by cases j <;> rfl)
noncomputable def Idn.eqm:Idn→Addr
 | .mx=>63
 | .num _=>119
 | .al _=>175
noncomputable def Idn.eqv:Idn→Idn→Value
 | .mx,j=>.bool (match j with | .mx=>true | _=>false)
 | .num a,j=>(match j with | .num b=>.bool (a == b) | _=>.notImplemented)
 | .al a,j=>(match j with | .al b=>.bool (a.toList == b.toList) | _=>.notImplemented)
theorem id_eqm {x y:Addr} {i j:Idn} (X:(hd.heap_1 w.params).In s.heap) (T:Top p loose mean mg mb s.heap) (hx:IdAt s.heap x i) (hy:IdAt s.heap y j) (hdp:A.depth + 2 < recursionLimit) :
  wpAny (model prog w) A (call (.ref i.eqm) [.ref x,.ref y]) (Got s fun v _=>v=i.eqv j) (fun _ _=>False) s:=by
 cases i <;> cases j <;> first | exact got_call (mx_eq X T hx hy hdp) | exact got_call (num_eq X T hx hy hdp) | exact got_call (al_eq X T hx hy hdp)
theorem ms_eq (w:World) (i:Idn):findIn (hd.heap_1 w.params) (.ref i.cls) "__eq__"=some (some (.ref i.eqm))∧isFn (hd.heap_1 w.params) (.ref i.eqm)=true:=by
 cases i <;> first | exact ms_94_eq w | exact ms_150_eq w | exact ms_206_eq w
theorem ms_ne (w:World) (i:Idn):findIn (hd.heap_1 w.params) (.ref i.cls) "__ne__"=some (some (.builtin "object.__ne__"))∧subIn (hd.heap_1 w.params) (.ref i.cls) (.type "object")=some true:=by
 cases i <;> first | exact ms_94_ne w | exact ms_150_ne w | exact ms_206_ne w
theorem eqv_or (i j:Idn):i.eqv j=.bool (i.beq j)∨(i.eqv j=.notImplemented∧i.cls ≠ j.cls∧i.beq j=false∧(j.eqv i=.bool false∨j.eqv i=.notImplemented)):=by
 cases i <;> cases j <;> first | exact .inl rfl | exact .inr ⟨rfl,(fun e=>by simp [Idn.cls] at e),rfl,.inl rfl⟩ | exact .inr ⟨rfl,(fun e=>by simp [Idn.cls] at e),rfl,.inr rfl⟩
theorem id_eq {x y:Addr} {i j:Idn} (X:(hd.heap_1 w.params).In s.heap) (T:Top p loose mean mg mb s.heap) (hx:IdAt s.heap x i) (hy:IdAt s.heap y j) (hdp:A.depth + 2 < recursionLimit) (hu:A.units < cLine) :
  wpAny (model prog w) A (richCompare .Eq (.ref x) (.ref y)) (Got s fun v _=>v=.bool (i.beq j)) (fun _ _=>False) s:=by
 refine byc fun b_=>?_
 obtain ⟨ox,dx,Ix⟩:=hx.inst
 refine b_ ?_;clear b_
 refine rich_go hu X hx hy rfl ?_
 refine tc_fn X Ix (ms_eq w i) (wpAny_mono (id_eqm X T hx hy hdp) (fun v s' g=>?_) fun _ _ x=>x)
 have e:=g.post;subst e
 rcases eqv_or i j with e | ⟨e,hc,hb,e2⟩
 ·rw [e];exact g.on.got rfl
 ·rw [e]
  have G:=g.on.heap
  have hy':=hy.keep G
  have hx':=hx.keep G
  refine byc fun b_=>?_
  obtain ⟨oy,dy,Iy⟩:=hy'.inst
  refine b_ ?_;clear b_
  refine tc_fn (X.keeps G) Iy (ms_eq w j) (wpAny_mono (id_eqm (X.keeps G) (T.keeps G) hy' hx' hdp) (fun v s2 g2=>?_) fun _ _ x=>x)
  have e3:=g2.post;subst e3
  have o:=g.on.trans g2.on
  rcases e2 with e2 | e2
  ·rw [e2,hb];exact o.got rfl
  ·rw [e2,hb]
   refine wpAny_bind (wpAny_rule (wpAny_bind (id_isSame (hx.keep o.heap) (hy.keep o.heap) hc (wpAny_pure (o.got rfl)))))
theorem id_ne {x y:Addr} {i j:Idn} (X:(hd.heap_1 w.params).In s.heap) (T:Top p loose mean mg mb s.heap) (hx:IdAt s.heap x i) (hy:IdAt s.heap y j) (hdp:A.depth + 2 < recursionLimit) (hu:A.units + 1 < cLine) :
  wpAny (model prog w) A (richCompare .NotEq (.ref x) (.ref y)) (Got s fun v _=>v=.bool (!i.beq j)) (fun _ _=>False) s:=by
 refine byc fun b_=>?_
 obtain ⟨ox,dx,Ix⟩:=hx.inst
 refine b_ ?_;clear b_
 refine rich_go (by lia) X hx hy rfl ?_
 refine tc_ne X Ix hu (ms_ne w i) (ms_eq w i) (wpAny_mono (id_eqm (A:=A.in1) X T hx hy hdp) (fun v s' g=>?_) fun _ _ x=>x)
 have e:=g.post;subst e
 rcases eqv_or i j with e | ⟨e,hc,hb,e2⟩
 ·exact .inr ⟨_,e,g.on.got rfl⟩
 ·refine .inl ⟨e,?_⟩
  have G:=g.on.heap
  have hy':=hy.keep G
  have hx':=hx.keep G
  refine byc fun b_=>?_
  obtain ⟨oy,dy,Iy⟩:=hy'.inst
  refine b_ ?_;clear b_
  refine tc_ne (X.keeps G) Iy hu (ms_ne w j) (ms_eq w j) (wpAny_mono (id_eqm (A:=A.in1) (X.keeps G) (T.keeps G) hy' hx' hdp) (fun v s2 g2=>?_) fun _ _ x=>x)
  have e3:=g2.post;subst e3
  have o:=g.on.trans g2.on
  rcases e2 with e2 | e2
  ·exact .inr ⟨_,e2,o.got (by rw [hb])⟩
  ·refine .inl ⟨e2,?_⟩
   refine wpAny_bind (wpAny_rule (wpAny_bind (id_isSame (hx.keep o.heap) (hy.keep o.heap) hc (wpAny_pure (o.got (by rw [hb]))))))
theorem rs7m0:True:=by
 k_with "@compareOp Eq ref ref"=>(apply id_eqW;kpc_g;k_extra "@my in";k_extra "@my tk";k_extra "@my ik";k_extra "@my ik";k_extra "@my room";k_extra "@my room";intro _)
 k_with "@my in"=>kpc_g
 exact trivial
noncomputable def Rm (A:Around) (k:Nat):Prop:=A.depth + k < recursionLimit∧A.units + 8 * k < cLine∧A.handled=none
theorem Rm.here {A:Around} {k:Nat} (r:Rm A k):A.depth < recursionLimit:=Nat.lt_of_le_of_lt (Nat.le_add_right _ _) r.1
theorem Rm.dp {A:Around} {k:Nat} (j:Nat) (r:Rm A k) (h:j ≤ k):A.depth + j < recursionLimit:=Nat.lt_of_le_of_lt (Nat.add_le_add_left h _) r.1
theorem Rm.un {A:Around} {k:Nat} (r:Rm A k):A.units < cLine:=Nat.lt_of_le_of_lt (Nat.le_add_right _ _) r.2.1
theorem Rm.hand {A:Around} {k:Nat} (r:Rm A k):A.handled=none:=r.2.2
theorem Rm.un1 {A:Around} {k:Nat} (r:Rm A (k + 1)):A.units + 1 < cLine:=by have:=r.2.1;lia
theorem Rm.deeper {A:Around} {k:Nat} {e:Env} (r:Rm A (k + 1)) (j:Nat) (h:j ≤ k):Rm (A.deeper e) j:=by
 obtain ⟨a,b,c⟩:=r
 refine ⟨?_,?_,c⟩
 ·show A.depth + 1 + j < _;lia
 ·show A.units + 3 + 8 * j < _;lia
theorem Rm.in1 {A:Around} {k:Nat} (r:Rm A (k + 1)) (j:Nat) (h:j ≤ k):Rm A.in1 j:=by
 obtain ⟨a,b,c⟩:=r
 refine ⟨?_,?_,c⟩
 ·show A.depth + j < _;lia
 ·show A.units + 1 + 8 * j < _;lia
theorem Rm.le {A:Around} {k:Nat} (r:Rm A k) (j:Nat) (h:j ≤ k):Rm A j:=by
 refine byc fun b_=>?_
 obtain ⟨a,b,c⟩:=r
 refine b_ ?_;clear b_
 exact ⟨by lia,by lia,c⟩
theorem id_ltF {h₀:Heap} {L x y:Addr} {m:Str→Option Value} {i j:Idn} {Q:Value→Shared→Prop} (F:Fr h₀ L s.heap m) (X:(hd.heap_1 w.params).In h₀) (T:Top p loose mean mg mb h₀) (hx:IdAt h₀ x i) (hy:IdAt h₀ y j) (r:Rm A 2)
  (h:∀ h' tk,Fr h₀ L h' m→Q (.bool (i.blt j)) { s with heap:=h',toks:=tk }) :
  wpAny (model prog w) A (compareOp .Lt (.ref x) (.ref y)) Q (fun _ _=>False) s:=by
 refine (?_:wpAny _ _ (richCompare .Lt (.ref x) (.ref y)) _ _ _)
 refine wpAny_mono (id_lt (X.keeps F.keep) (T.keeps F.keep) (hx.keep F.keep) (hy.keep F.keep) (r.dp 2 (by decide)) r.un) (fun v s' g=>?_) fun _ _ x=>x
 refine byc fun b_=>?_
 obtain ⟨h',tk,rfl,g,rfl⟩:=g
 refine b_ ?_;clear b_
 exact h h' tk (fr_on F g)
theorem id_eqF {h₀:Heap} {L x y:Addr} {m:Str→Option Value} {i j:Idn} {Q:Value→Shared→Prop} (F:Fr h₀ L s.heap m) (X:(hd.heap_1 w.params).In h₀) (T:Top p loose mean mg mb h₀) (hx:IdAt h₀ x i) (hy:IdAt h₀ y j) (r:Rm A 2)
  (h:∀ h' tk,Fr h₀ L h' m→Q (.bool (i.beq j)) { s with heap:=h',toks:=tk }) :
  wpAny (model prog w) A (compareOp .Eq (.ref x) (.ref y)) Q (fun _ _=>False) s:=by
 refine (?_:wpAny _ _ (richCompare .Eq (.ref x) (.ref y)) _ _ _)
 refine wpAny_mono (id_eq (X.keeps F.keep) (T.keeps F.keep) (hx.keep F.keep) (hy.keep F.keep) (r.dp 2 (by decide)) r.un) (fun v s' g=>?_) fun _ _ x=>x
 refine byc fun b_=>?_
 obtain ⟨h',tk,rfl,g,rfl⟩:=g
 refine b_ ?_;clear b_
 exact h h' tk (fr_on F g)
theorem id_neF {h₀:Heap} {L x y:Addr} {m:Str→Option Value} {i j:Idn} {Q:Value→Shared→Prop} (F:Fr h₀ L s.heap m) (X:(hd.heap_1 w.params).In h₀) (T:Top p loose mean mg mb h₀) (hx:IdAt h₀ x i) (hy:IdAt h₀ y j) (r:Rm A 2)
  (h:∀ h' tk,Fr h₀ L h' m→Q (.bool (!i.beq j)) { s with heap:=h',toks:=tk }) :
  wpAny (model prog w) A (compareOp .NotEq (.ref x) (.ref y)) Q (fun _ _=>False) s:=by
 refine (?_:wpAny _ _ (richCompare .NotEq (.ref x) (.ref y)) _ _ _)
 refine wpAny_mono (id_ne (X.keeps F.keep) (T.keeps F.keep) (hx.keep F.keep) (hy.keep F.keep) (r.dp 2 (by decide)) r.un1) (fun v s' g=>?_) fun _ _ x=>x
 refine byc fun b_=>?_
 obtain ⟨h',tk,rfl,g,rfl⟩:=g
 refine b_ ?_;clear b_
 exact h h' tk (fr_on F g)
theorem rs8m0:True:=by
 k_with "@my rm"=>first | (apply Rm.deeper;assumption;decide) | (apply Rm.le;assumption;decide) | (apply Rm.in1;assumption;decide)
 k_with "@my ent8"=>first | (apply Rm.here;assumption) | omega
 k_with "@compareOp Lt ref"=>(apply id_ltF;kpc_g;kpc_g;kpc_g;kpc_g;kpc_g;k_extra "@my rm";(intro _;intros;k_sweep))
 k_with "@compareOp Eq ref"=>(apply id_eqF;kpc_g;kpc_g;kpc_g;kpc_g;kpc_g;k_extra "@my rm";(intro _;intros;k_sweep))
 k_with "@compareOp NotEq ref"=>(apply id_neF;kpc_g;kpc_g;kpc_g;kpc_g;kpc_g;k_extra "@my rm";(intro _;intros;k_sweep))
 exact trivial
noncomputable def Idn.isMx:Idn→Bool
 | .mx=>true
 | _=>false
theorem mx_le {x y:Addr} {j:Idn} (X:(hd.heap_1 w.params).In s.heap) (T:Top p loose mean mg mb s.heap) (hx:IdAt s.heap x .mx) (hy:IdAt s.heap y j) (r:Rm A 3) :
  codeAny (model prog w) A (.call (.ref 77) ⟨[.ref x,.ref y],[]⟩) (Ret s fun v _=>v=.bool j.isMx) s:=by
 apply enter (w:=w) [("self",.ref x),("other",.ref y)] [(12,.ref y),(11,.ref x)] X T
 walk_at "my enter"
 case hnm=>exact namesC nx_other (namesC nx_self (namesN))
 intro L h1 tk F N
 refine addLoc nx_self (by kernel_rfl!) ?_;intro n_self
 refine addLoc nx_other (by kernel_rfl!) ?_;intro n_other
 refine addGlo (w:=w) gk_MaxIdentifier (by kernel_rfl!) ?_;intro n_MaxIdentifier
 refine addBlt (w:=w) bk_isinstance (by kernel_rfl!) ?_;intro n_isinstance
 refine byc fun b_=>?_
 obtain ⟨oy,dy,Iy⟩:=hy.inst
 refine b_ ?_;clear b_
 cases j <;> (k_steps;walk_at "my ret";rfl)
theorem mx_gt {x y:Addr} {j:Idn} (X:(hd.heap_1 w.params).In s.heap) (T:Top p loose mean mg mb s.heap) (hx:IdAt s.heap x .mx) (hy:IdAt s.heap y j) (r:Rm A 3) :
  codeAny (model prog w) A (.call (.ref 84) ⟨[.ref x,.ref y],[]⟩) (Ret s fun v _=>v=.bool (!j.isMx)) s:=by
 apply enter (w:=w) [("self",.ref x),("other",.ref y)] [(12,.ref y),(11,.ref x)] X T
 walk_at "my enter"
 case hnm=>exact namesC nx_other (namesC nx_self (namesN))
 intro L h1 tk F N
 refine addLoc nx_self (by kernel_rfl!) ?_;intro n_self
 refine addLoc nx_other (by kernel_rfl!) ?_;intro n_other
 refine addGlo (w:=w) gk_MaxIdentifier (by kernel_rfl!) ?_;intro n_MaxIdentifier
 refine addBlt (w:=w) bk_isinstance (by kernel_rfl!) ?_;intro n_isinstance
 refine byc fun b_=>?_
 obtain ⟨oy,dy,Iy⟩:=hy.inst
 refine b_ ?_;clear b_
 cases j <;> (k_steps;walk_at "my ret";rfl)
theorem mx_ge {x y:Addr} {j:Idn} (X:(hd.heap_1 w.params).In s.heap) (T:Top p loose mean mg mb s.heap) (hx:IdAt s.heap x .mx) (hy:IdAt s.heap y j) (r:Rm A 3) :
  codeAny (model prog w) A (.call (.ref 91) ⟨[.ref x,.ref y],[]⟩) (Ret s fun v _=>v=.bool true) s:=by
 apply enter (w:=w) [("self",.ref x),("other",.ref y)] [(12,.ref y),(11,.ref x)] X T
 walk_at "my enter"
 case hnm=>exact namesC nx_other (namesC nx_self (namesN))
 intro L h1 tk F N
 refine addLoc nx_self (by kernel_rfl!) ?_;intro n_self
 refine addLoc nx_other (by kernel_rfl!) ?_;intro n_other
 k_steps;walk_at "my ret";rfl
theorem num_gt {x y:Addr} {a:Int} {j:Idn} (X:(hd.heap_1 w.params).In s.heap) (T:Top p loose mean mg mb s.heap) (hx:IdAt s.heap x (.num a)) (hy:IdAt s.heap y j) (r:Rm A 3) :
  codeAny (model prog w) A (.call (.ref 133) ⟨[.ref x,.ref y],[]⟩) (Ret s fun v _=>v=.bool (!(Idn.num a).blt j && !(Idn.num a).beq j)) s:=by
 apply enter (w:=w) [("self",.ref x),("other",.ref y)] [(12,.ref y),(11,.ref x)] X T
 walk_at "my enter"
 case hnm=>exact namesC nx_other (namesC nx_self (namesN))
 intro L h1 tk F N
 refine addLoc nx_self (by kernel_rfl!) ?_;intro n_self
 refine addLoc nx_other (by kernel_rfl!) ?_;intro n_other
 k_steps
 all_goals (walk_at "my ret";simp only [*];try rfl)
theorem num_le {x y:Addr} {a:Int} {j:Idn} (X:(hd.heap_1 w.params).In s.heap) (T:Top p loose mean mg mb s.heap) (hx:IdAt s.heap x (.num a)) (hy:IdAt s.heap y j) (r:Rm A 3) :
  codeAny (model prog w) A (.call (.ref 140) ⟨[.ref x,.ref y],[]⟩) (Ret s fun v _=>v=.bool ((Idn.num a).blt j || (Idn.num a).beq j)) s:=by
 apply enter (w:=w) [("self",.ref x),("other",.ref y)] [(12,.ref y),(11,.ref x)] X T
 walk_at "my enter"
 case hnm=>exact namesC nx_other (namesC nx_self (namesN))
 intro L h1 tk F N
 refine addLoc nx_self (by kernel_rfl!) ?_;intro n_self
 refine addLoc nx_other (by kernel_rfl!) ?_;intro n_other
 k_steps
 all_goals (walk_at "my ret";simp only [*];try rfl)
theorem num_ge {x y:Addr} {a:Int} {j:Idn} (X:(hd.heap_1 w.params).In s.heap) (T:Top p loose mean mg mb s.heap) (hx:IdAt s.heap x (.num a)) (hy:IdAt s.heap y j) (r:Rm A 3) :
  codeAny (model prog w) A (.call (.ref 147) ⟨[.ref x,.ref y],[]⟩) (Ret s fun v _=>v=.bool (!(Idn.num a).blt j)) s:=by
 apply enter (w:=w) [("self",.ref x),("other",.ref y)] [(12,.ref y),(11,.ref x)] X T
 walk_at "my enter"
 case hnm=>exact namesC nx_other (namesC nx_self (namesN))
 intro L h1 tk F N
 refine addLoc nx_self (by kernel_rfl!) ?_;intro n_self
 refine addLoc nx_other (by kernel_rfl!) ?_;intro n_other
 k_steps
 all_goals (walk_at "my ret";simp only [*];try rfl)
theorem al_gt {x y:Addr} {a:Array UInt8} {j:Idn} (X:(hd.heap_1 w.params).In s.heap) (T:Top p loose mean mg mb s.heap) (hx:IdAt s.heap x (.al a)) (hy:IdAt s.heap y j) (r:Rm A 3) :
  codeAny (model prog w) A (.call (.ref 189) ⟨[.ref x,.ref y],[]⟩) (Ret s fun v _=>v=.bool (!(Idn.al a).blt j && !(Idn.al a).beq j)) s:=by
 apply enter (w:=w) [("self",.ref x),("other",.ref y)] [(12,.ref y),(11,.ref x)] X T
 walk_at "my enter"
 case hnm=>exact namesC nx_other (namesC nx_self (namesN))
 intro L h1 tk F N
 refine addLoc nx_self (by kernel_rfl!) ?_;intro n_self
 refine addLoc nx_other (by kernel_rfl!) ?_;intro n_other
 k_steps
 all_goals (walk_at "my ret";simp only [*];try rfl)
theorem al_le {x y:Addr} {a:Array UInt8} {j:Idn} (X:(hd.heap_1 w.params).In s.heap) (T:Top p loose mean mg mb s.heap) (hx:IdAt s.heap x (.al a)) (hy:IdAt s.heap y j) (r:Rm A 3) :
  codeAny (model prog w) A (.call (.ref 196) ⟨[.ref x,.ref y],[]⟩) (Ret s fun v _=>v=.bool ((Idn.al a).blt j || (Idn.al a).beq j)) s:=by
 apply enter (w:=w) [("self",.ref x),("other",.ref y)] [(12,.ref y),(11,.ref x)] X T
 walk_at "my enter"
 case hnm=>exact namesC nx_other (namesC nx_self (namesN))
 intro L h1 tk F N
 refine addLoc nx_self (by kernel_rfl!) ?_;intro n_self
 refine addLoc nx_other (by kernel_rfl!) ?_;intro n_other
 k_steps
 all_goals (walk_at "my ret";simp only [*];try rfl)
theorem al_ge {x y:Addr} {a:Array UInt8} {j:Idn} (X:(hd.heap_1 w.params).In s.heap) (T:Top p loose mean mg mb s.heap) (hx:IdAt s.heap x (.al a)) (hy:IdAt s.heap y j) (r:Rm A 3) :
  codeAny (model prog w) A (.call (.ref 203) ⟨[.ref x,.ref y],[]⟩) (Ret s fun v _=>v=.bool (!(Idn.al a).blt j)) s:=by
 apply enter (w:=w) [("self",.ref x),("other",.ref y)] [(12,.ref y),(11,.ref x)] X T
 walk_at "my enter"
 case hnm=>exact namesC nx_other (namesC nx_self (namesN))
 intro L h1 tk F N
 refine addLoc nx_self (by kernel_rfl!) ?_;intro n_self
 refine addLoc nx_other (by kernel_rfl!) ?_;intro n_other
 k_steps
 all_goals (walk_at "my ret";simp only [*];try rfl)
noncomputable def opOk (op:CmpOp):Prop:=op=.Lt∨op=.LtE∨op=.Gt∨op=.GtE
noncomputable def Idn.opf (op:CmpOp) (i j:Idn):Bool:=match op with
 | .Lt=>i.blt j
 | .LtE=>i.ble j
 | .Gt=>i.bgt j
 | _=>i.bge j
noncomputable def Idn.mth (op:CmpOp) (i:Idn):Addr:=match op,i with
 | .LtE,.mx=>77
 | .LtE,.num _=>140
 | .LtE,.al _=>196
 | .Gt,.mx=>84
 | .Gt,.num _=>133
 | .Gt,.al _=>189
 | _,.mx=>91
 | _,.num _=>147
 | _,.al _=>203
theorem id_ord {op:CmpOp} {x y:Addr} {i j:Idn} (ho:op=.LtE∨op=.Gt∨op=.GtE) (X:(hd.heap_1 w.params).In s.heap) (T:Top p loose mean mg mb s.heap) (hx:IdAt s.heap x i) (hy:IdAt s.heap y j) (r:Rm A 3) :
  wpAny (model prog w) A (richCompare op (.ref x) (.ref y)) (Got s fun v _=>v=.bool (i.opf op j)) (fun _ _=>False) s:=by
 refine byc fun b_=>?_
 obtain ⟨ox,dx,Ix⟩:=hx.inst
 refine b_ ?_;clear b_
 refine rich_go r.un X hx hy rfl ?_
 have m:findIn (hd.heap_1 w.params) (.ref i.cls) (cmpInfo op).2.1=some (some (.ref (i.mth op)))∧isFn (hd.heap_1 w.params) (.ref (i.mth op))=true:=by
  rcases ho with rfl | rfl | rfl <;> cases i <;> first | exact ms_94_le w | exact ms_94_gt w | exact ms_94_ge w | exact ms_150_le w | exact ms_150_gt w | exact ms_150_ge w | exact ms_206_le w | exact ms_206_gt w | exact ms_206_ge w
 have c:codeAny (model prog w) A (.call (.ref (i.mth op)) ⟨[.ref x,.ref y],[]⟩) (Ret s fun v _=>v=.bool (i.opf op j)) s:=by
  rcases ho with rfl | rfl | rfl <;> cases i <;> cases j <;>
   first | exact mx_le X T hx hy r | exact mx_gt X T hx hy r | exact mx_ge X T hx hy r | exact num_le X T hx hy r | exact num_gt X T hx hy r | exact num_ge X T hx hy r | exact al_le X T hx hy r | exact al_gt X T hx hy r | exact al_ge X T hx hy r
 refine tc_fn X Ix m (wpAny_mono (got_call c) (fun v s' g=>?_) fun _ _ x=>x)
 have e:=g.post;subst e
 exact g.on.got rfl
theorem id_op {op:CmpOp} {x y:Addr} {i j:Idn} (ho:opOk op) (X:(hd.heap_1 w.params).In s.heap) (T:Top p loose mean mg mb s.heap) (hx:IdAt s.heap x i) (hy:IdAt s.heap y j) (r:Rm A 3) :
  wpAny (model prog w) A (richCompare op (.ref x) (.ref y)) (Got s fun v _=>v=.bool (i.opf op j)) (fun _ _=>False) s:=by
 rcases ho with rfl | h
 ·exact id_lt X T hx hy (r.dp 2 (by decide)) r.un
 ·exact id_ord h X T hx hy r
theorem inst_dict {h:Heap} {x C:Addr} {ox dx:Obj} (I:InstAt h x ox C (some dx)):∃ da,ox.dict=some da∧h.get? da=some dx:=by
 have d:=I.dict
 cases e:ox.dict with
 | none=>rw [e] at d;exact d.elim
 | some da=>rw [e] at d;exact ⟨da,rfl,d⟩
theorem inst_inj {h:Heap} {x C D:Addr} {ox oy dx dy:Obj} (I:InstAt h x ox C (some dx)) (J:InstAt h x oy D (some dy)):C=D∧dx=dy:=by
 have e:ox=oy:=Option.some.inj (I.at_.symm.trans J.at_)
 refine byc fun b_=>?_
 subst e
 obtain ⟨a,e1,e2⟩:=inst_dict I
 obtain ⟨b,e3,e4⟩:=inst_dict J
 refine b_ ?_;clear b_
 refine ⟨?_,?_⟩
 ·have c1:=I.cls;rw [J.cls] at c1;injection c1 with c1;exact c1.symm
 ·cases e1.symm.trans e3
  exact Option.some.inj (e2.symm.trans e4)
theorem IdAt.inj {h:Heap} {x:Addr} {i j:Idn} (a:IdAt h x i) (b:IdAt h x j):i.beq j=true:=by
 cases i with
 | mx =>
  obtain ⟨_,_,I⟩:=a
  cases j with
  | mx=>rfl
  | num m=>obtain ⟨_,_,_,_,_,J⟩:=b;exact absurd (inst_inj I J).1 (by decide)
  | al m=>obtain ⟨_,_,_,_,_,J⟩:=b;exact absurd (inst_inj I J).1 (by decide)
 | num n =>
  obtain ⟨_,_,_,_,_,I⟩:=a
  cases j with
  | mx=>obtain ⟨_,_,J⟩:=b;exact absurd (inst_inj I J).1 (by decide)
  | num m =>
   obtain ⟨_,_,_,_,_,J⟩:=b
   have:=(inst_inj I J).2
   simp [dictOf] at this
   exact this.1.2.2.1 ▸ beq_self_eq_true _
  | al m=>obtain ⟨_,_,_,_,_,J⟩:=b;exact absurd (inst_inj I J).1 (by decide)
 | al n =>
  obtain ⟨_,_,_,_,_,I⟩:=a
  cases j with
  | mx=>obtain ⟨_,_,J⟩:=b;exact absurd (inst_inj I J).1 (by decide)
  | num m=>obtain ⟨_,_,_,_,_,J⟩:=b;exact absurd (inst_inj I J).1 (by decide)
  | al m =>
   obtain ⟨_,_,_,_,_,J⟩:=b
   have:=(inst_inj I J).2
   simp [dictOf] at this
   exact this.1.2.2.1 ▸ beq_self_eq_true _
noncomputable def kdId {op:CmpOp} (X:(hd.heap_1 w.params).In s.heap) (T:Top p loose mean mg mb s.heap) (r:Rm A 3) (ho:op ≠ .Eq→op ≠ .NotEq→opOk op):Kd prog w A s op Idn where
 is:=fun h v i=>∃ x,v=.ref x∧IdAt h x i
 eqf:=Idn.beq
 ok:=fun _ _=>True
 opf:=Idn.opf op
 keep:=fun g ⟨x,e,I⟩=>⟨x,e,I.keep g⟩
 self:=fun ⟨x,e,I⟩ ⟨y,e',J⟩=>by cases e;cases e';exact I.inj J
 heq:=fun o ⟨x,e,I⟩ ⟨y,e',J⟩ _=>by
  subst e;subst e'
  exact id_eq (X.keeps o.heap) (T.keeps o.heap) I J (r.dp 2 (by decide)) r.un
 hop:=fun h1 h2 _ _ _ _ _ o ⟨x,e,I⟩ ⟨y,e',J⟩ _ _=>by
  subst e;subst e'
  exact id_op (ho h1 h2) (X.keeps o.heap) (T.keeps o.heap) I J r
 nofl:=fun ⟨x,e,_⟩ e'=>by rw [e] at e';cases e'
noncomputable def Kd.to {op op':CmpOp} {α:Type} (K:Kd prog w A s op α) (f:α→α→Bool) (h:op'=.Eq∨op'=.NotEq):Kd prog w A s op' α :=
 { K with opf:=f,hop:=fun h1 h2=>(h.elim h1 h2).elim }
noncomputable def Kd.mv {op:CmpOp} {α:Type} {s':Shared} (K:Kd prog w A s op α) (o:On s s'):Kd prog w A s' op α :=
 { K with heq:=fun o'=>K.heq (o.trans o'),hop:=fun h1 h2 _ _ _ _ _ o'=>K.hop h1 h2 (o.trans o') }
theorem sizes_e (m n:Nat):sizesB .Eq (m + 1) (n + 1)=sizesB .Eq m n:=(decide_eq_decide.mpr Nat.succ_inj:decide (m + 1=n + 1)=decide (m=n))
theorem sizes_n (m n:Nat):sizesB .NotEq (m + 1) (n + 1)=sizesB .NotEq m n:=congrArg (!·) (sizes_e m n)
theorem lexB_eq {α:Type} (eqf:α→α→Bool) (as bs:List α):lexB eqf (fun _ _=>false) (sizesB .Eq as.length bs.length) as bs=eqL eqf as bs:=by
 induction as generalizing bs with
 | nil=>cases bs <;> rfl
 | cons a as ih=>cases bs with
  | nil=>rfl
  | cons b bs =>
   rw [lexB_c,eqL_c,← ih bs]
   cases eqf a b
   ·rfl
   ·exact congrArg (fun z=>lexB eqf _ z as bs) (sizes_e _ _)
theorem lexB_ne {α:Type} (eqf:α→α→Bool) (as bs:List α):lexB eqf (fun _ _=>true) (sizesB .NotEq as.length bs.length) as bs=!eqL eqf as bs:=by
 induction as generalizing bs with
 | nil=>cases bs <;> rfl
 | cons a as ih=>cases bs with
  | nil=>rfl
  | cons b bs =>
   rw [lexB_c,eqL_c]
   cases eqf a b
   ·rfl
   ·exact (congrArg (fun z=>lexB eqf _ z as bs) (sizes_n _ _)).trans (ih bs)
theorem TupIs.ty {α:Type} {is:Heap→Value→α→Prop} {x:Addr} {as:List α} (t:TupIs is s.heap (.ref x) as):s.TypeIs (.ref x) "tuple":=by
 obtain ⟨x',o,_,_,e,ho,hc,_⟩:=t;cases e;exact ⟨o,ho,hc⟩
theorem tup_eq {op:CmpOp} {α:Type} (K:Kd prog w A.in1 s op α) {u v:Value} {as bs:List α} (hx:TupIs K.is s.heap u as) (hy:TupIs K.is s.heap v bs) (hok:ZipOk K.ok as bs) (hu:A.units < cLine) :
  wpAny (model prog w) A (richCompare .Eq u v) (Got s fun r _=>r=.bool (eqL K.eqf as bs)) (fun _ _=>False) s:=by
 refine byc fun b_=>?_
 obtain ⟨x,_,_,_,rfl,_⟩:=id hx
 obtain ⟨y,_,_,_,rfl,_⟩:=id hy
 refine b_ ?_;clear b_
 refine wpAny_richCompare_same_room (op:=.Eq) hx.ty hy.ty F.slot_tuple_eq (wpAny_call_entry F.slot_tuple_eq hx.ty F.entry_tuple_eq
  (wpAny_mono (tuple_go Builtin.«tuple.__eq__» (K.to (fun _ _=>false) (.inl rfl)) hx hy hok (.inl ⟨rfl,rfl,fun _ _=>rfl⟩)) (fun fin s' g=>?_) fun _ _ x=>x) (F.args_tuple_eq_2 _ _)) hu
 refine byc fun b_=>?_
 obtain ⟨v,rfl,h',tk,rfl,g,rfl⟩:=g
 refine b_ ?_;clear b_
 exact ⟨_,rfl,(fun e=>nomatch e),h',tk,rfl,g,by rw [← lexB_eq];rfl⟩
theorem tup_ne {op:CmpOp} {α:Type} (K:Kd prog w A.in1 s op α) {u v:Value} {as bs:List α} (hx:TupIs K.is s.heap u as) (hy:TupIs K.is s.heap v bs) (hok:ZipOk K.ok as bs) (hu:A.units < cLine) :
  wpAny (model prog w) A (richCompare .NotEq u v) (Got s fun r _=>r=.bool (!eqL K.eqf as bs)) (fun _ _=>False) s:=by
 refine byc fun b_=>?_
 obtain ⟨x,_,_,_,rfl,_⟩:=id hx
 obtain ⟨y,_,_,_,rfl,_⟩:=id hy
 refine b_ ?_;clear b_
 refine wpAny_richCompare_same_room (op:=.NotEq) hx.ty hy.ty F.slot_tuple_ne (wpAny_call_entry F.slot_tuple_ne hx.ty F.entry_tuple_ne
  (wpAny_mono (tuple_go Builtin.«tuple.__ne__» (K.to (fun _ _=>true) (.inr rfl)) hx hy hok (.inr (.inl ⟨rfl,rfl,fun _ _=>rfl⟩))) (fun fin s' g=>?_) fun _ _ x=>x) (F.args_tuple_ne_2 _ _)) hu
 refine byc fun b_=>?_
 obtain ⟨v,rfl,h',tk,rfl,g,rfl⟩:=g
 refine b_ ?_;clear b_
 exact ⟨_,rfl,(fun e=>nomatch e),h',tk,rfl,g,by rw [← lexB_ne];rfl⟩
theorem tup_op {op:CmpOp} {α:Type} (ho:opOk op) (K:Kd prog w A.in1 s op α) {u v:Value} {as bs:List α} (hx:TupIs K.is s.heap u as) (hy:TupIs K.is s.heap v bs) (hok:ZipOk K.ok as bs) (hu:A.units < cLine) :
  wpAny (model prog w) A (richCompare op u v) (Got s fun r _=>r=.bool (lexB K.eqf K.opf (sizesB op as.length bs.length) as bs)) (fun _ _=>False) s:=by
 refine byc fun b_=>?_
 obtain ⟨x,_,_,_,rfl,_⟩:=id hx
 obtain ⟨y,_,_,_,rfl,_⟩:=id hy
 refine b_ ?_;clear b_
 have tl:∀ fin s',(∃ v,fin=Fin.done (.ret v)∧Got s (fun r _=>r=.bool (lexB K.eqf K.opf (sizesB op as.length bs.length) as bs)) v s') →
   ∃ v,fin=.done (.ret v)∧v ≠ .notImplemented∧Got s (fun r _=>r=.bool (lexB K.eqf K.opf (sizesB op as.length bs.length) as bs)) v s':=by
  rintro fin s' ⟨v,rfl,h',tk,rfl,g,rfl⟩
  exact ⟨_,rfl,(fun e=>nomatch e),h',tk,rfl,g,rfl⟩
 rcases ho with rfl | rfl | rfl | rfl
 ·exact wpAny_richCompare_same_room hx.ty hy.ty F.slot_tuple_lt (wpAny_call_entry F.slot_tuple_lt hx.ty F.entry_tuple_lt (wpAny_mono (tuple_go _ K hx hy hok (.inr (.inr (.inl ⟨rfl,rfl⟩)))) tl fun _ _ x=>x) (F.args_tuple_lt_2 _ _)) hu
 ·exact wpAny_richCompare_same_room hx.ty hy.ty F.slot_tuple_le (wpAny_call_entry F.slot_tuple_le hx.ty F.entry_tuple_le (wpAny_mono (tuple_go _ K hx hy hok (.inr (.inr (.inr (.inl ⟨rfl,rfl⟩))))) tl fun _ _ x=>x) (F.args_tuple_le_2 _ _)) hu
 ·exact wpAny_richCompare_same_room hx.ty hy.ty F.slot_tuple_gt (wpAny_call_entry F.slot_tuple_gt hx.ty F.entry_tuple_gt (wpAny_mono (tuple_go _ K hx hy hok (.inr (.inr (.inr (.inr (.inl ⟨rfl,rfl⟩)))))) tl fun _ _ x=>x) (F.args_tuple_gt_2 _ _)) hu
 ·exact wpAny_richCompare_same_room hx.ty hy.ty F.slot_tuple_ge (wpAny_call_entry F.slot_tuple_ge hx.ty F.entry_tuple_ge (wpAny_mono (tuple_go _ K hx hy hok (.inr (.inr (.inr (.inr (.inr ⟨rfl,rfl⟩)))))) tl fun _ _ x=>x) (F.args_tuple_ge_2 _ _)) hu
theorem eqL_self {α:Type} {is:Heap→Value→α→Prop} {eqf:α→α→Bool} {h:Heap} (self:∀ {v a b},is h v a→is h v b→eqf a b=true):∀ {vs:List Value} {as bs:List α},AllIs is h vs as→AllIs is h vs bs→eqL eqf as bs=true:=by
 intro vs as bs x
 induction x generalizing bs with
 | nil=>intro y;cases y;rfl
 | cons a _ ih=>intro y;cases y with | cons b y=>exact Bool.and_eq_true_iff.mpr ⟨self a b,ih y⟩
theorem TupIs.self {α:Type} {is:Heap→Value→α→Prop} {eqf:α→α→Bool} {h:Heap} (self:∀ {v a b},is h v a→is h v b→eqf a b=true) {v:Value} {as bs:List α} (x:TupIs is h v as) (y:TupIs is h v bs):eqL eqf as bs=true:=by
 refine byc fun b_=>?_
 obtain ⟨a,o,it,n,rfl,ho,_,hd,hi⟩:=x
 obtain ⟨b,o',it',n',e,ho',_,hd',hi'⟩:=y
 cases e
 refine b_ ?_;clear b_
 cases ho.symm.trans ho'
 rw [hd] at hd'
 injection hd' with h1 _
 refine byc fun b_=>?_
 subst h1
 refine b_ ?_;clear b_
 exact eqL_self self hi hi'
theorem TupIs.keep {α:Type} {is:Heap→Value→α→Prop} {h h':Heap} (k:∀ {v a},is h v a→is h' v a) (g:Grown h h') {v:Value} {as:List α} (x:TupIs is h v as):TupIs is h' v as:=by
 refine byc fun b_=>?_
 obtain ⟨a,o,it,n,e,ho,hc,hd,hi⟩:=x
 refine b_ ?_;clear b_
 exact ⟨a,o,it,n,e,g _ _ ho,hc,hd,hi.keep k⟩
noncomputable def kdTup {op:CmpOp} {α:Type} (K:Kd prog w A.in1 s op α) (hu:A.units < cLine) (ho:op ≠ .Eq→op ≠ .NotEq→opOk op):Kd prog w A s op (List α) where
 is:=TupIs K.is
 eqf:=eqL K.eqf
 ok:=ZipOk K.ok
 opf:=fun as bs=>lexB K.eqf K.opf (sizesB op as.length bs.length) as bs
 keep:=fun g x=>x.keep (K.keep g) g
 self:=fun x y=>x.self K.self y
 heq:=fun o hx hy hok=>tup_eq (K.mv o) hx hy hok hu
 hop:=fun h1 h2 _ _ _ _ _ o hx hy hok _=>tup_op (ho h1 h2) (K.mv o) hx hy hok hu
 nofl:=fun ⟨x,_,_,_,e,_,_,_,_⟩ e'=>by rw [e] at e';cases e'
noncomputable def intOp (op:CmpOp) (a b:Int):Bool:=match op with
 | .Lt=>decide (a < b)
 | .LtE=>decide (a ≤ b)
 | .Gt=>decide (a > b)
 | _=>decide (a ≥ b)
theorem int_rich {op:CmpOp} {a b:Int} {t u:Tok} (ho:opOk op):wpAny (model prog w) A (richCompare op (.int a t) (.int b u)) (Got s fun r _=>r=.bool (intOp op a b)) (fun _ _=>False) s:=by
 rcases ho with rfl | rfl | rfl | rfl
 ·show wpAny _ _ (compareOp .Lt (.int a t) (.int b u)) _ _ _
  walk1
  exact got_now rfl
 ·show wpAny _ _ (compareOp .LtE (.int a t) (.int b u)) _ _ _
  walk1
  exact got_now rfl
 ·show wpAny _ _ (compareOp .Gt (.int a t) (.int b u)) _ _ _
  walk1
  exact got_now rfl
 ·show wpAny _ _ (compareOp .GtE (.int a t) (.int b u)) _ _ _
  walk1
  exact got_now rfl
theorem int_eq {a b:Int} {t u:Tok}:wpAny (model prog w) A (richCompare .Eq (.int a t) (.int b u)) (Got s fun r _=>r=.bool (a == b)) (fun _ _=>False) s:=by
 show wpAny _ _ (compareOp .Eq (.int a t) (.int b u)) _ _ _
 walk1
 exact got_now rfl
theorem str_eq {a b:Str} {t u:Tok}:wpAny (model prog w) A (richCompare .Eq (.str a t) (.str b u)) (Got s fun r _=>r=.bool (a == b)) (fun _ _=>False) s:=by
 show wpAny _ _ (compareOp .Eq (.str a t) (.str b u)) _ _ _
 walk1
 exact got_now rfl
inductive Ne (α:Type) where
 | n (i:Int)
 | o (a:α)
noncomputable def Ne.is {α:Type} (is:Heap→Value→α→Prop) (h:Heap) (v:Value):Ne α→Prop
 | .n i=>∃ t,v=.int i t
 | .o a=>is h v a
noncomputable def Ne.eqf {α:Type} (f:α→α→Bool):Ne α→Ne α→Bool
 | .n a,.n b=>a == b
 | .o a,.o b=>f a b
 | _,_=>false
noncomputable def Ne.ok {α:Type} (f:α→α→Prop):Ne α→Ne α→Prop
 | .n _,.n _=>True
 | .o a,.o b=>f a b
 | _,_=>False
noncomputable def Ne.opf {α:Type} (op:CmpOp) (f:α→α→Bool):Ne α→Ne α→Bool
 | .n a,.n b=>intOp op a b
 | .o a,.o b=>f a b
 | _,_=>false
noncomputable def kdNe {op:CmpOp} {α:Type} (K:Kd prog w A s op α) (hni:∀ {h i t a},¬ K.is h (.int i t) a) (ho:op ≠ .Eq→op ≠ .NotEq→opOk op):Kd prog w A s op (Ne α) where
 is:=Ne.is K.is
 eqf:=Ne.eqf K.eqf
 opf:=Ne.opf op K.opf
 ok:=Ne.ok K.ok
 keep:=fun {_ _ _ a} g x=>by
  cases a with
  | n i=>exact x
  | o a=>exact K.keep g x
 self:=fun {_ _ a b} x y=>by
  cases a with
  | n i =>
   obtain ⟨t,rfl⟩:=x
   cases b with
   | n j=>obtain ⟨_,e⟩:=y;cases e;exact beq_self_eq_true _
   | o b=>exact (hni y).elim
  | o a =>
   cases b with
   | n j=>obtain ⟨_,rfl⟩:=y;exact (hni x).elim
   | o b=>exact K.self x y
 heq:=fun {_ _ _ a b} o x y hok=>by
  cases a <;> cases b <;> first | exact hok.elim | exact K.heq o x y hok | (obtain ⟨_,rfl⟩:=x;obtain ⟨_,rfl⟩:=y;exact int_eq)
 hop:=fun h1 h2 {_ _ _ a b} o x y hok he=>by
  cases a <;> cases b <;> first | exact hok.elim | exact K.hop h1 h2 o x y hok he | (obtain ⟨_,rfl⟩:=x;obtain ⟨_,rfl⟩:=y;exact int_rich (ho h1 h2))
 nofl:=fun {_ _ a _ _} x e=>by
  cases a with
  | n i=>obtain ⟨t,rfl⟩:=x;cases e
  | o a=>exact K.nofl x e
noncomputable def kdStr {op:CmpOp} (h:op=.Eq∨op=.NotEq):Kd prog w A s op Str where
 is:=fun _ v a=>∃ t,v=.str a t
 eqf:=fun a b=>a == b
 ok:=fun _ _=>True
 opf:=fun _ _=>false
 keep:=fun _ x=>x
 self:=fun ⟨_,e⟩ ⟨_,e'⟩=>by rw [e] at e';cases e';exact beq_self_eq_true _
 heq:=fun _ ⟨_,e⟩ ⟨_,e'⟩ _=>by subst e;subst e';exact str_eq
 hop:=fun h1 h2=>(h.elim h1 h2).elim
 nofl:=fun ⟨_,e⟩ e'=>by rw [e] at e';cases e'
structure NewAbove (h₀ h:Heap) (news:List (Addr × Obj)):Prop where
 keep:Grown h₀ h
 size:h₀.objs.size ≤ h.objs.size
 news:∀ p ∈ news,h.get? p.1=some p.2∧h₀.get? p.1=none
theorem enterN {R:Result→Shared→Prop} {name qual:Str} {params:Arguments} {body:List Stmt} {scope:Scope} {dV kV doc pm cdv ct oc:Value} {an od:Option Addr} {osl:Array (Option Value)} {f:Addr} {args:Args} {h₀:Heap} {news:List (Addr × Obj)} (NW:NewAbove h₀ s.heap news) (binds:List (Str × Value)) (fl:List (Nat × Value))
  (X:(hd.heap_1 w.params).In h₀) (T:Top p loose mean mg mb h₀)
  (ho:(hd.heap_1 w.params).lookup f=some ⟨oc,od,.func (fnOf name qual params body scope dV kV doc pm an cdv ct),osl⟩) (hcd:codeIn (hd.heap_1 w.params) cdv qual=true) (hroom:A.depth < recursionLimit)
  (hbind:BindsTo s (fnOf name qual params body scope dV kV doc pm an cdv ct) args binds) (hloc:∀ y ∈ binds,scope.names.lookup y.1=some .local)
  (hco:scope.isCoroutine=false) (hgen:scope.isGenerator=false) (hk:scope.kind=.function) (hcell:∀ x ∈ scope.names,x.2 ≠ .cell) (hnm:NamesAre binds.reverse fl)
  (h:∀ L h₁ tk,Fr h₀ L h₁ (frm fl)→News h₀ L h₁ news →
   wpAny (model prog w) (A.deeper (envOf qual scope L f cdv)) (execs body (envOf qual scope L f cdv))
    (fun fl s'=>R (.ok (.ret (match fl with | .ret v=>v | _=>.none))) s') (fun _ _=>False)
    { s with heap:=h₁,toks:=tk }):codeAny (model prog w) A (.call (.ref f) args) R s:=by
 refine codeAny_call_def (fd:=fnOf name qual params body scope dV kV doc pm an cdv ct) (body:=body) (binds:=binds) hroom ((X.keeps NW.keep) _ _ ho) rfl ((T.keeps NW.keep).nolimit) (codeRec_of (X.keeps NW.keep) hcd) rfl hbind hcell hloc (fun h₁ hns hk₁=>?_) hco hgen hk
 rw [frm_binds hnm] at hns
 exact wpAny_mono (h s.heap.objs.size h₁ _ ⟨hns,fun b o e=>hk₁ _ _ (NW.keep _ _ e),NW.size⟩ (fun p hp=>⟨hk₁ _ _ (NW.news p hp).1,Nat.ne_of_lt (Heap.lt_size (NW.news p hp).1),(NW.news p hp).2⟩)) (fun _ _ x=>x) fun _ _ x=>x.elim
theorem Rm.mk {A:Around} {C:Addr} {rest:List Value} {k:Nat} (r:Rm A (k + 1)) (j:Nat) (h:j ≤ k):Rm (A.under (.builtin "type.__call__" ⟨.ref C::rest,[]⟩)) j:=by
 refine byc fun b_=>?_
 obtain ⟨a,b,c⟩:=r
 refine b_ ?_;clear b_
 refine ⟨?_,?_,c⟩
 ·show A.depth + 1 + j < _;lia
 ·have e:(A.under (.builtin "type.__call__" ⟨.ref C::rest,[]⟩)).units=A.units + (Code.builtin "type.__call__" ⟨.ref C::rest,[]⟩).cUnits:=rfl
  have e2:(Code.builtin "type.__call__" ⟨.ref C::rest,[]⟩).cUnits=1:=by kernel_rfl
  lia
theorem newInst {rest:List Value} {C fI:Addr} {R:Result→Shared→Prop} (X:(hd.heap_1 w.params).In s.heap) (hm:makesIn (hd.heap_1 w.params) C=true)
  (hi:findIn (hd.heap_1 w.params) (.ref C) "__init__"=some (some (.ref fI))) (hf:typeIn (hd.heap_1 w.params) (.ref fI)=some (.type "function"))
  (h:∀ x dx h',NewAbove s.heap h' [(x,instObj C dx),(dx,emptyDict)]→@LT.lt Nat _ dx x→codeAny (model prog w) (A.under (.builtin "type.__call__" ⟨.ref C::rest,[]⟩)) (.call (.ref fI) ⟨.ref x::rest,[]⟩) (InitBack x R) { s with heap:=h' }) :
  codeAny (model prog w) A (.call (.ref C) ⟨rest,[]⟩) R s:=by
 refine byc fun b_=>?_
 obtain ⟨hh,g,d,t,os⟩:=s
 refine b_ ?_;clear b_
 refine make_core (makes_of X hm) (looks_findIn X hi) (fun self=>bind_fn X self hf) (.inl rfl) ?_
 refine h (hh.objs.size + 1) hh.objs.size _ ⟨fun b o e=>Heap.get?_push_of_some _ (Heap.get?_push_of_some _ e),by simp only [Heap.size_push];lia,?_⟩ (Nat.lt_succ_self _)
 intro p hp
 rcases List.mem_cons.mp hp with rfl | hp
 ·refine ⟨by heap_get,?_⟩
  cases q:hh.get? (hh.objs.size + 1) with
  | none=>rfl
  | some o=>exact absurd (Heap.lt_size q) (by show ¬ (_:Nat) < _;simp)
 ·rcases List.mem_cons.mp hp with rfl | hp
  ·refine ⟨by heap_get,?_⟩
   cases q:hh.get? hh.objs.size with
   | none=>rfl
   | some o=>exact absurd (Heap.lt_size q) (by show ¬ (_:Nat) < _;simp)
  ·cases hp
theorem init_end {s:Shared} {x L:Addr} {h':Heap} {m:Str→Option Value} {tk:Nat} {Post:Value→Heap→Prop} (F:Fr s.heap L h' m) (h:Post (.ref x) h') :
  InitBack x (Ret s Post) (.ok (.ret .none)) { s with heap:=h',toks:=tk }:=⟨rfl,ret_end F h⟩
theorem mi_150 (w:World):makesIn (hd.heap_1 w.params) 150=true∧findIn (hd.heap_1 w.params) (.ref 150) "__init__"=some (some (.ref 112))∧typeIn (hd.heap_1 w.params) (.ref 112)=some (.type "function"):=⟨by k_is,by k_is,by k_is⟩
theorem mi_206 (w:World):makesIn (hd.heap_1 w.params) 206=true∧findIn (hd.heap_1 w.params) (.ref 206) "__init__"=some (some (.ref 168))∧typeIn (hd.heap_1 w.params) (.ref 168)=some (.type "function"):=⟨by k_is,by k_is,by k_is⟩
theorem mi_94 (w:World):makesIn (hd.heap_1 w.params) 94=true∧findIn (hd.heap_1 w.params) (.ref 94) "__init__"=some (some (.builtin "object.__init__")):=⟨by k_is,by k_is⟩
noncomputable def encB (x:Str):Array UInt8:=((x.cps.extract 0 x.cps.size).extract 0 x.cps.size).foldl (fun acc y=>acc++[y.toUInt8].toArray) #[]
theorem encB_list (x:Str):(encB x).toList=x.cps.toList.map Nat.toUInt8:=by
 unfold encB
 have:∀ (l:List Nat) (acc:Array UInt8),(l.foldl (fun acc y=>acc++[y.toUInt8].toArray) acc).toList=acc.toList++l.map Nat.toUInt8:=by
  intro l
  induction l with
  | nil=>intro acc;simp
  | cons c l ih=>intro acc;rw [List.foldl_cons,ih];simp
 rw [← Array.foldl_toList,this]
 simp
open Builtin Builtin._codecs in
theorem encA {M:Model} {E:Value→Shared→Prop} {x:Str} {Q:Array UInt8→Shared→Prop} (hl:x.length ≤ 1000) (h:Q (encB x) s) {st:Faults} {G:Nat→Nat × Array UInt8 × Faults→Sem (ForInStep (Nat × Array UInt8 × Faults))}
  (h1:∀ k,0 < x.cps.size→G k (0,#[],st)=pure (.yield (x.cps.size,encB x,st))) (h2:∀ k,¬ (encB x).size > sizeLine→G k (x.cps.size,encB x,st)=pure (.done (x.cps.size,encB x,st))) :
  wpAny M A ((forIn [:x.length] ((0,#[],st):Nat × Array UInt8 × Faults) G) >>= fun r=>pure r.2.1) Q E s:=by
 rw [Std.Legacy.Range.forIn_eq_forIn_range']
 have hs:(Std.Legacy.Range.size [:x.length])=x.length:=by simp [Std.Legacy.Range.size]
 rw [hs]
 refine wpAny_bind ?_
 refine wpAny_forIn_list _ (fun rest b s'=>s'=s∧((b=(0,#[],st)∧rest.length=x.length)∨b=(x.cps.size,encB x,st))) _ ?_ ?_ _ _ ⟨rfl,.inl ⟨rfl,by simp⟩⟩
 ·rintro k rest b s' ⟨rfl,⟨rfl,h3⟩ | rfl⟩
  ·rw [h1 k (by rw [List.length_cons] at h3;exact Nat.lt_of_lt_of_eq (Nat.succ_pos _) h3)]
   exact wpAny_pure ⟨rfl,.inr rfl⟩
  ·rw [h2 k (by
    have:(encB x).size=x.cps.size:=by rw [← Array.length_toList,encB_list,List.length_map,Array.length_toList]
    have hz:x.cps.size=x.length:=rfl
    rw [sizeLine_eq];lia)]
   exact wpAny_pure (wpAny_pure h)
 ·rintro b s' ⟨rfl,⟨rfl,h3⟩ | rfl⟩
  ·have:encB x=#[]:=by
    have:x.cps=#[]:=Array.eq_empty_of_size_eq_zero h3.symm
    unfold encB;rw [this];rfl
   rw [this] at h
   exact wpAny_pure h
  ·exact wpAny_pure h
open Builtin Builtin._codecs in
theorem encodeNarrow_ascii {M:Model} {E:Value→Shared→Prop} {id:String} {self:Value} {x:Str} {Q:Array UInt8→Shared→Prop} (hc:∀ c ∈ x.cps.toList,c < 128) (hl:x.length ≤ 1000) (h:Q (encB x) s) :
  wpAny M A (encodeNarrow id asciiCodec none self x) Q E s:=by
 have bad:∀ c ∈ x.cps.toList,asciiCodec.bad c=false:=fun c h=>decide_eq_false (Nat.not_le.mpr (hc c h))
 refine encA hl h (fun k h0=>?_) fun k h0=>?_
 ·have hb:asciiCodec.bad x.cps[0]=false:=bad _ (by simp)
  have hf:Array.findIdx? asciiCodec.bad (x.cps.extract 0 x.cps.size)=none:=by
   rw [Array.findIdx?_eq_none_iff]
   intro c hm
   rw [Array.extract_size] at hm
   exact bad c (Array.mem_toList_iff.mpr hm)
  have hsz:(x.cps.extract 0 x.cps.size).size=x.cps.size:=by simp
  refine (if_neg (show ¬ (#[]:Array UInt8).size > sizeLine from Nat.not_lt_zero _)).trans ?_
  dsimp only
  rw [Array.getElem?_eq_getElem h0]
  refine (if_pos (show (!asciiCodec.bad x.cps[0])=true by rw [hb];rfl)).trans ?_
  refine congrArg (fun z:Nat × Array UInt8 × Faults=>(pure (.yield z):Sem (ForInStep (Nat × Array UInt8 × Faults)))) ?_
  rw [hf,Option.getD_none,Nat.zero_add,hsz]
  rfl
 ·have e2:x.cps[x.cps.size]?=none:=by simp
  refine (if_neg h0).trans ?_
  dsimp only
  rw [e2]
open Builtin Builtin._codecs in
theorem encode_ascii_tree (x:Str) (t u:Tok):«str.encode» ⟨[.str x t,.str "ascii" u],[]⟩=(do ret (← encodeRoad "str.encode" (.str x t) x (Str.ofString "ascii") none)):=by kernel_rfl
open Builtin Builtin._codecs in
theorem encodeRoad_ascii (id:String) (self:Value) (x:Str) (errors:Option Str):encodeRoad id self x (Str.ofString "ascii") errors=(do mkBytes (← encodeNarrow id asciiCodec errors self x)):=by
 unfold encodeRoad;rfl
open Builtin Builtin._codecs in
theorem gives_encode_ascii {x:Str} {t u:Tok} (hc:∀ c ∈ x.cps.toList,c < 128) (hl:x.length ≤ 1000):Gives («str.encode» ⟨[.str x t,.str "ascii" u],[]⟩) (.bytes (encB x)):=by
 rw [encode_ascii_tree,encodeRoad_ascii]
 refine .of_wp fun M A E s Q hq=>?_
 exact wpAny_bind (wpAny_bind (encodeNarrow_ascii hc hl (wpAny_mkBytes (wpAny_pure ⟨_,rfl,hq.2⟩) hq.1)))
theorem call_encode {E:Value→Shared→Prop} {x:Str} {t u:Tok} {Q:Value→Shared→Prop} (hc:∀ c ∈ x.cps.toList,c < 128) (hl:x.length ≤ 1000) (h:Q (.bytes (encB x) s.toks) { s with toks:=s.toks + 1 }) :
  wpAny (model prog w) A (call (.builtin "str.encode") [.str x t,.str "ascii" u]) Q E s :=
 call_gives F.slot_str_encode (typeIs_str s x t) F.entry_str_encode (F.args_str_encode_2 _ _) (gives_encode_ascii hc hl) ⟨by
  have:(encB x).size=x.cps.size:=by rw [← Array.length_toList,encB_list,List.length_map,Array.length_toList]
  rw [this,sizeLine_eq];show x.length ≤ _;lia,h⟩
theorem gm_encode {M:Model} {E:Value→Shared→Prop} {x:Str} {t:Tok} {pl:Sem Bool} {Q:Value × List Value→Shared→Prop} (h:Q (.builtin "str.encode",[.str x t]) s):wpAny M A (getMethod (.str x t) "encode" pl) Q E s :=
 GM.of (.str x t) (typeIs_str _ _ _) F.slot_str_encode F.type_str_encode GM.noRef h
theorem rs12m0:True:=by
 k_with "@getMethod str"=>(with_reducible apply gm_encode)
 k_with "@call builtin:str.encode"=>(apply call_encode;assumption;omega)
 exact trivial
theorem useF {f:Value} {args:List Value} {Post:Value→Heap→Prop} {Q:Value→Shared→Prop} {E:Value→Shared→Prop} {h₀:Heap} {L:Addr} {m:Str→Option Value} {news:List (Addr × Obj)} (F:Fr h₀ L s.heap m) (N:News h₀ L s.heap news)
  (C:codeAny (model prog w) A (.call f ⟨args,[]⟩) (Ret s Post) s)
  (h:∀ v h' tk,Fr h₀ L h' m→News h₀ L h' news→Post v h'→Q v { s with heap:=h',toks:=tk }):wpAny (model prog w) A (call f args) Q E s :=
 use C fun v h' tk g p=>h v h' tk (fr_on F g) (news_on N g) p
noncomputable def behindI (text signs:Str) (i:Int):Int:=(behindS text signs i.toNat:Nat)
theorem behindI_spec {text signs:Str} {t1 t2 t3:Tok} {i:Int} (X:(hd.heap_1 w.params).In s.heap) (T:Top p loose mean mg mb s.heap) (r:Rm A 1) (hlen:text.length ≤ 1000) (hlen2:signs.length ≤ 1000) (h0:0 ≤ i) {n:Int} (hv:behindI text signs i=n) :
  codeAny (model prog w) A (.call (.ref 28) ⟨[.str text t1,.int i t2,.str signs t3],[]⟩) (Ret s fun v _=>∃ t,v=.int n t) s:=by
 subst hv
 obtain ⟨n,rfl⟩:=Int.eq_ofNat_of_zero_le h0
 exact behind_spec text signs t1 t2 t3 n X T r.1 hlen hlen2
theorem behindF {text signs:Str} {t1 t2 t3:Tok} {i n:Int} {Q:Value→Shared→Prop} {E:Value→Shared→Prop} {h₀:Heap} {L:Addr} {m:Str→Option Value} {news:List (Addr × Obj)} (F:Fr h₀ L s.heap m) (N:News h₀ L s.heap news)
  (X:(hd.heap_1 w.params).In h₀) (T:Top p loose mean mg mb h₀) (hv:behindI text signs i=n) (r:Rm A 1) (hlen:text.length ≤ 1000) (hlen2:signs.length ≤ 1000) (h0:0 ≤ i)
  (h:∀ t h' tk,Fr h₀ L h' m→News h₀ L h' news→Q (.int n t) { s with heap:=h',toks:=tk }):wpAny (model prog w) A (call (.ref 28) [.str text t1,.int i t2,.str signs t3]) Q E s :=
 useF F N (behindI_spec (X.keeps F.keep) (T.keeps F.keep) r hlen hlen2 h0 hv) fun _ h' tk F' N' ⟨t,e⟩=>by subst e;exact h t h' tk F' N'
theorem lenN {l:Addr} {items:Array Value} {n:Nat} {Q:Value→Shared→Prop} {E:Value→Shared→Prop} {h₀:Heap} {L:Addr} {news:List (Addr × Obj)} (N:News h₀ L s.heap news) (m:(l,listOf items n) ∈ news) (hz:items.size ≤ 1000)
  (h:∀ t tk,Q (.int items.size t) { s with toks:=tk }):wpAny (model prog w) A (call (.builtin "len") [.ref l]) Q E s :=
 call_len_list ⟨_,(N _ m).1,rfl,n,rfl⟩ (by omega) (h _ _)
theorem le1000 {n:Nat} (h:n ≤ 1000):n ≤ sizeLine:=by rw [sizeLine_eq];omega
theorem rs13m0:True:=by
 k_with "@my fits"=>first | (apply Nat.le_of_ble_eq_true;exact rfl) | (apply le1000;kpc_g) | decide
 k_with "@call builtin:len"=>apply lenN <;> (first | kpc_g | k_mem | decide | (intro _;intros))
 k_with "@my rmd"=>(apply Rm.deeper;assumption;decide)
 exact trivial
local macro_rules | `(tactic| size_fits)=>`(tactic| walk_at "my fits")
structure Cut (text:Str) (e0 e1 e2 e3 f3 e4:Int) (d1 d2:Bool):Prop where
 nl:(Txt.slice text (some (-1)) none == "\n")=false
 b0:behindI text "0123456789" 0=e0
 z0:(e0 == 0)=false
 p1:0 ≤ e0
 s1:(Txt.slice text (some e0) (some (e0 + 1)) == ".")=true
 b1:behindI text "0123456789" (e0 + 1)=e1
 z1:(e1 == e0 + 1)=false
 p2:0 ≤ e1
 s2:(Txt.slice text (some e1) (some (e1 + 1)) == ".")=true
 b2:behindI text "0123456789" (e1 + 1)=e2
 z2:(e2 == e1 + 1)=false
 p3:0 ≤ e2
 s3:(Txt.slice text (some e2) (some (e2 + 1)) == "-")=d1
 b3:behindI text "0123456789abcdefghijklmnopqrstuvwxyzABCDEFGHIJKLMNOPQRSTUVWXYZ.-" (e2 + 1)=e3
 g3:d1=true→e2 + 1 < e3
 f5:f3=if d1=true then e3 else e2
 s4:(Txt.slice text (some f3) (some (f3 + 1)) == "+")=d2
 b4:behindI text "0123456789abcdefghijklmnopqrstuvwxyzABCDEFGHIJKLMNOPQRSTUVWXYZ.-" (f3 + 1)=e4
 g4:d2=true→f3 + 1 < e4
 f4:(text.length:Int)=if d2=true then e4 else f3
theorem News.get {h₀ h:Heap} {L x:Addr} {o:Obj} {news:List (Addr × Obj)} (N:News h₀ L h news) (m:(x,o) ∈ news):h.get? x=some o:=(N _ m).1
theorem News.both {h₀ h:Heap} {L x:Addr} {o:Obj} {news:List (Addr × Obj)} (N:News h₀ L h news) (m:(x,o) ∈ news):h.get? x=some o∧h₀.get? x=none:=⟨(N _ m).1,(N _ m).2.2⟩
inductive TEnd (g:Array GenState) (dr:Drawn) (os:OsState) (h₀:Heap) (L it:Addr) (o:Obj) (Jn:List (Nat × Value)→List (Addr × Obj)→Prop) (s':Shared):Prop
 | mk (h':Heap) (tk':Nat) (l':List (Nat × Value)) (news':List (Addr × Obj)) (e:s'=⟨h',g,dr,tk',os⟩) (F:Fr h₀ L h' (frm l')) (N:News h₀ L h' ((it,o)::news')) (hn:∀ p ∈ news',p.1 ≠ it) (hj:Jn l' news'):TEnd g dr os h₀ L it o Jn s'
noncomputable def TurnEnd (s:Shared) (h₀:Heap) (L it:Addr) (o:Obj) (Jn:List (Nat × Value)→List (Addr × Obj)→Prop) (Q:Flow→Shared→Prop) (f:Flow) (s':Shared):Prop:=match f with
 | .ret v=>Q (.ret v) s'
 | .brk=>Q .next s'
 | _=>TEnd s.gens s.drawn s.os h₀ L it o Jn s'
theorem turn_end {h₀ h':Heap} {L it:Addr} {o:Obj} {Jn:List (Nat × Value)→List (Addr × Obj)→Prop} {Q:Flow→Shared→Prop} {tk':Nat} {l':List (Nat × Value)} {news':List (Addr × Obj)} (F:Fr h₀ L h' (frm l')) (N:News h₀ L h' ((it,o)::news'))
  (hn:∀ p ∈ news',p.1 ≠ it) (hj:Jn l' news'):TurnEnd s h₀ L it o Jn Q .next { s with heap:=h',toks:=tk' }:=⟨h',tk',l',news',rfl,F,N,hn,hj⟩
section
variable {E:Value→Shared→Prop} {env:Env} {h₀:Heap} {target:Expr} {body:List Stmt} {Q:Flow→Shared→Prop} {l₀:List (Nat × Value)} {news₀:List (Addr × Obj)}
set_option tactic.hygienic true in
theorem turns_of {I ax:Addr} {lo:Obj} {n:Nat} {P:Nat→Value→Heap→Prop} {Md:Nat→Value→Heap→Prop} {St:Nat→Heap→Prop} (W:KTurns prog w A target I [I,ax] [I] n P Md St) {s₂:Shared}
  (hLI:env.locals ≠ I) (hLa:env.locals ≠ ax) (hI:h₀.get? I=none) (hst:St 0 s₂.heap) (hobj:∀ i h,St i h→∃ o,h.get? I=some o)
  (F:Fr h₀ env.locals s₂.heap (frm l₀)) (N:News h₀ env.locals s₂.heap news₀) (hn:∀ p ∈ news₀,p.1 ≠ I)
  (J:Nat→List (Nat × Value)→List (Addr × Obj)→Prop) (h0:J 0 l₀ news₀)
  (hax:∀ i l news h,J i l news→Fr h₀ env.locals h (frm l)→News h₀ env.locals h news→h.get? ax=some lo)
  (turn:∀ i v l news o h tk,i < n→P i v h→J i l news→Fr h₀ env.locals h (frm l)→News h₀ env.locals h ((I,o)::news)→(∀ p ∈ news,p.1 ≠ I) →
   wpAny (model prog w) A (assign target env v) (fun _ s₃=>wpAny (model prog w) A (execs body env) (TurnEnd s₂ h₀ env.locals I o (J (i + 1)) Q) E s₃) E { s₂ with heap:=h,toks:=tk })
  (fin:∀ l news h tk,J n l news→Fr h₀ env.locals h (frm l)→News h₀ env.locals h news→Q .next { s₂ with heap:=h,toks:=tk }) :
  TurnsAt prog w A h₀ env target body Q E (.ref I) s₂:=by
 refine ⟨I,[I,ax],[I],n,P,Md,St,frm l₀,news₀,fun i m news=>∃ l,m=frm l∧J i l news,rfl,W,?_,?_,?_,hst,F,N,⟨l₀,rfl,h0⟩,?_,?_⟩
 ·intro h
  rcases List.mem_cons.mp h with h | h
  ·exact hLI h
  ·exact hLa (List.mem_singleton.mp h)
 ·intro b hb;rw [List.mem_singleton.mp hb];exact hI
 ·intro p hp hb;exact hn p hp (List.mem_singleton.mp hb)
 ·rintro i v m₁ news₁ h₁ tk₁ own hi hP pk0 hnw hsub hown hall hst₁ F₁ N₁
  refine byc fun b_=>?_
  obtain ⟨l,rfl,hJ⟩:=pk0
  obtain ⟨o,ho⟩:=hobj _ _ hst₁
  refine b_ ?_;clear b_
  have hIo:(I,o) ∈ own:=hall I (by simp) hI o ho
  have hne:∀ p ∈ news₁,p.1 ≠ I:=fun p hp e=>hnw p hp (by rw [e];simp)
  have N2:News h₀ env.locals h₁ ((I,o)::news₁):=List.forall_mem_cons.mpr ⟨N₁ _ (mL hIo),fun p hp=>N₁ _ (mR hp)⟩
  refine wpAny_mono (turn i v l news₁ o h₁ tk₁ hi hP hJ F₁ N2 hne) (fun _ s₃ h=>wpAny_mono h (fun f s₄ h=>?_) fun _ _ e=>e) fun _ _ e=>e
  have nx:TEnd s₂.gens s₂.drawn s₂.os h₀ env.locals I o (J (i + 1)) s₄ →
    LoopStepU h₀ env.locals [I] own (fun m news=>∃ l,m=frm l∧J (i + 1) l news) { s₂ with heap:=h₁,toks:=tk₁ } .next s₄:=by
   rintro pk0
   refine byc fun b_=>?_
   obtain ⟨h',tk',l',news',rfl,F',N',hn',hJ'⟩:=pk0
   refine b_ ?_;clear b_
   refine ⟨rfl,h',tk',frm l',news',rfl,F',?_,?_,l',rfl,hJ'⟩
   ·intro p hp
    rcases List.mem_append.mp hp with hp | hp
    ·have b:=N₁ p (List.mem_append_left _ hp)
     refine ⟨?_,b.2⟩
     have hb:=hsub p hp
     rcases List.mem_cons.mp hb with e | e
     ·have e2:p.2=o:=by have q:=hown p hp;rw [e,ho] at q;exact (Option.some.inj q).symm
      rw [e,e2];exact (N' _ (List.mem_cons_self ..)).1
     ·have e':=List.mem_singleton.mp e
      have e2:p.2=lo:=by
       have q:=hown p hp
       rw [e',hax i l news₁ h₁ hJ F₁ (fun p hp=>N₁ p (List.mem_append_right _ hp))] at q;exact (Option.some.inj q).symm
      rw [e',e2];exact hax (i + 1) l' news' h' hJ' F' (fun p hp=>N' p (List.mem_cons_of_mem _ hp))
    ·exact N' _ (List.mem_cons_of_mem _ hp)
   ·intro p hp hb;exact hn' p hp (List.mem_singleton.mp hb)
  cases f with
  | ret v=>exact h
  | brk=>exact h
  | next=>exact nx h
  | cont=>exact nx h
 ·rintro h' tk m' news' F' N' _ pk0
  refine byc fun b_=>?_
  obtain ⟨l,rfl,hJ⟩:=pk0
  refine b_ ?_;clear b_
  exact fin l news' h' tk hJ F' N'
theorem iterT {ax:Addr} {lo:Obj} {vs:List Value} {k:Nat} (hh:A.handled=none) (F:Fr h₀ env.locals s.heap (frm l₀)) (N:News h₀ env.locals s.heap news₀) (hc:lo.cls=.type "tuple") (hd:lo.data=.seq vs.toArray k) (hLa:env.locals ≠ ax)
  (J:Nat→List (Nat × Value)→List (Addr × Obj)→Prop) (h0:J 0 l₀ news₀)
  (hax:∀ i l news h,J i l news→Fr h₀ env.locals h (frm l)→News h₀ env.locals h news→h.get? ax=some lo)
  (turn:∀ i v l news I o h tk,vs[i]?=some v→J i l news→Fr h₀ env.locals h (frm l)→News h₀ env.locals h ((I,o)::news)→(∀ p ∈ news,p.1 ≠ I) →
   wpAny (model prog w) A (assign target env v) (fun _ s₃=>wpAny (model prog w) A (execs body env) (TurnEnd s h₀ env.locals I o (J (i + 1)) Q) E s₃) E { s with heap:=h,toks:=tk })
  (fin:∀ l news h tk,J vs.length l news→Fr h₀ env.locals h (frm l)→News h₀ env.locals h news→Q .next { s with heap:=h,toks:=tk }) :
  wpAny (model prog w) A (pyIter (.ref ax)) (fun it s₂=>TurnsAt prog w A h₀ env target body Q E it s₂) E s:=by
 have hget:=hax 0 l₀ news₀ s.heap h0 F N
 have hl:s.heap.IsTuple ax vs.toArray:=⟨lo,hget,hc,k,hd⟩
 have hlt:ax < s.heap.objs.size:=Heap.lt_size hget
 have hne:ax ≠ s.heap.objs.size:=Nat.ne_of_lt hlt
 refine wpAny_pyIter_tuple hl ?_
 refine turns_of (s₂:={ s with heap:=s.heap.push { cls:=.type "tuple_iterator",data:=.fields #[.ref ax,.int 0 0] } }) (KTurns.ofWalks (Walks.tuple hh s.heap.objs.size ax hne vs.toArray) fun i v s Q E st q=>letGo_tupleiter st.1 q) (Nat.ne_of_lt F.ns.lt) hLa (next_is_new F) ?_ (fun i h st=>?_) (F.push _) (fun p hp=>⟨Heap.get?_push_of_some _ (N p hp).1,(N p hp).2⟩) (fun p hp=>Nat.ne_of_lt (Heap.lt_size (N p hp).1)) J h0 hax ?_ ?_
 ·exact ⟨⟨_,Heap.get?_push_size _ rfl,rfl,rfl⟩,hl.at fun o e=>Heap.get?_push_of_some _ e⟩
 ·obtain ⟨it,hit,_⟩:=st.1
  exact ⟨it,hit⟩
 ·intro i v l news o h tk hi hP hJ F' N' hn
  have hP':vs.toArray[i]?=some v:=hP
  exact turn i v l news _ o h tk (by simpa using hP') hJ F' N' hn
 ·intro l news h tk hJ F' N'
  exact fin l news h tk (by simpa using hJ) F' N'
end
theorem rs14m0:True:=by
 k_with "@exec While"=>(fail_if_success k_extra "e14");apply unhold
 k_with "@call ref"=>(fail_if_success k_extra "e14");apply behindF <;> (first | kpc_g | k_extra "@my rmd" | assumption | decide | omega | (intro _;intros;k_sweep))
 exact trivial
inductive Ph (text:Str) (e0 e1 e2:Int):Nat→Int→Array Value→Prop
 | a (u0:Tok):Ph text e0 e1 e2 2 e0 #[.str (Txt.slice text none (some e0)) u0]
 | b (u0 u1:Tok):Ph text e0 e1 e2 1 e1 #[.str (Txt.slice text none (some e0)) u0,.str (Txt.slice text (some (e0 + 1)) (some e1)) u1]
 | c (u0 u1 u2:Tok):Ph text e0 e1 e2 0 e2 #[.str (Txt.slice text none (some e0)) u0,.str (Txt.slice text (some (e0 + 1)) (some e1)) u1,.str (Txt.slice text (some (e1 + 1)) (some e2)) u2]
inductive PhStep (text:Str) (e0 e1 e2:Int) (n:Nat) (e:Int) (its:Array Value):Prop
 | stop (h:n=0) (he:e=e2) (hs:its.size=3) (hp:0 ≤ e)
 | go (m:Nat) (e':Int) (h:m < n) (hs:(its.size:Int) < 3) (hz:its.size ≤ 3) (hp:0 ≤ e) (sl:(Txt.slice text (some e) (some (e + 1)) == ".")=true) (bh:behindI text "0123456789" (e + 1)=e') (z:(e' == e + 1)=false) (nx:∀ u,Ph text e0 e1 e2 m e' (its.push (.str (Txt.slice text (some (e + 1)) (some e')) u)))
theorem Ph.step {text:Str} {e0 e1 e2 e3 f3 e4:Int} {d1 d2:Bool} (C:Cut text e0 e1 e2 e3 f3 e4 d1 d2) {n:Nat} {e:Int} {its:Array Value} (h:Ph text e0 e1 e2 n e its):PhStep text e0 e1 e2 n e its:=by
 cases h with
 | a u0=>exact .go 1 e1 (by decide) (by show (1:Int) < 3;decide) (by show (1:Nat) ≤ 3;decide) C.p1 C.s1 C.b1 C.z1 fun u=>.b u0 u
 | b u0 u1=>exact .go 0 e2 (by decide) (by show (2:Int) < 3;decide) (by show (2:Nat) ≤ 3;decide) C.p2 C.s2 C.b2 C.z2 fun u=>.c u0 u1 u
 | c u0 u1 u2=>exact .stop rfl rfl rfl C.p3
inductive Gs (text:Str) (e0 e1 e2 e3 f3 e4:Int) (d1 d2:Bool):Nat→Int→Array Value→Prop
 | a (u0 u1 u2:Tok):Gs text e0 e1 e2 e3 f3 e4 d1 d2 0 e2 #[.str (Txt.slice text none (some e0)) u0,.str (Txt.slice text (some (e0 + 1)) (some e1)) u1,.str (Txt.slice text (some (e1 + 1)) (some e2)) u2]
 | b (u0 u1 u2 u3:Tok) (v3:Value) (h3:v3=if d1=true then .str (Txt.slice text (some (e2 + 1)) (some e3)) u3 else .none):Gs text e0 e1 e2 e3 f3 e4 d1 d2 1 f3 #[.str (Txt.slice text none (some e0)) u0,.str (Txt.slice text (some (e0 + 1)) (some e1)) u1,.str (Txt.slice text (some (e1 + 1)) (some e2)) u2,v3]
 | c (u0 u1 u2 u3 u4:Tok) (v3 v4:Value) (h3:v3=if d1=true then .str (Txt.slice text (some (e2 + 1)) (some e3)) u3 else .none) (h4:v4=if d2=true then .str (Txt.slice text (some (f3 + 1)) (some e4)) u4 else .none) :
  Gs text e0 e1 e2 e3 f3 e4 d1 d2 2 (if d2=true then e4 else f3) #[.str (Txt.slice text none (some e0)) u0,.str (Txt.slice text (some (e0 + 1)) (some e1)) u1,.str (Txt.slice text (some (e1 + 1)) (some e2)) u2,v3,v4]
inductive GsStep (text:Str) (e0 e1 e2 e3 f3 e4:Int) (d1 d2:Bool) (i:Nat) (e:Int) (its:Array Value) (v:Value):Prop
 | yes (sg:Str) (t:Tok) (e':Int) (hv:v=.str sg t) (hp:0 ≤ e) (hz:its.size ≤ 1000) (bh:behindI text "0123456789abcdefghijklmnopqrstuvwxyzABCDEFGHIJKLMNOPQRSTUVWXYZ.-" (e + 1)=e') (sl:(Txt.slice text (some e) (some (e + 1)) == sg)=true) (gt:e + 1 < e')
   (nx:∀ u,Gs text e0 e1 e2 e3 f3 e4 d1 d2 (i + 1) e' (its.push (.str (Txt.slice text (some (e + 1)) (some e')) u)))
 | no (sg:Str) (t:Tok) (e':Int) (hv:v=.str sg t) (hp:0 ≤ e) (hz:its.size ≤ 1000) (bh:behindI text "0123456789abcdefghijklmnopqrstuvwxyzABCDEFGHIJKLMNOPQRSTUVWXYZ.-" (e + 1)=e') (sl:(Txt.slice text (some e) (some (e + 1)) == sg)=false)
   (nx:Gs text e0 e1 e2 e3 f3 e4 d1 d2 (i + 1) e (its.push .none))
theorem Gs.step {text:Str} {e0 e1 e2 e3 f3 e4:Int} {d1 d2:Bool} (C:Cut text e0 e1 e2 e3 f3 e4 d1 d2) {i:Nat} {e:Int} {its:Array Value} {v:Value} {k k':Tok} (h:Gs text e0 e1 e2 e3 f3 e4 d1 d2 i e its) (hi:[Value.str "-" k,Value.str "+" k'][i]?=some v):GsStep text e0 e1 e2 e3 f3 e4 d1 d2 i e its v:=by
 refine byc fun b_=>?_
 obtain ⟨_,_,_,_,_,_,_,_,_,_,_,p3,s3,b3,g3,f5,s4,b4,g4,_⟩:=C
 refine b_ ?_;clear b_
 cases h with
 | a u0 u1 u2 =>
  cases hi
  cases d1 with
  | true=>exact .yes _ _ _ rfl p3 (Nat.le_of_ble_eq_true rfl) b3 s3 (g3 rfl) fun u=>f5.symm ▸ .b u0 u1 u2 u _ rfl
  | false=>exact .no _ _ _ rfl p3 (Nat.le_of_ble_eq_true rfl) b3 s3 (f5.symm ▸ .b u0 u1 u2 0 _ rfl)
 | b u0 u1 u2 u3 v3 h3 =>
  cases hi
  have hp:0 ≤ f3:=by
   cases d1 with
   | true=>have h:=g3 rfl;have:f3=e3:=f5;lia
   | false=>exact f5.symm ▸ p3
  cases d2 with
  | true=>exact .yes _ _ _ rfl hp (Nat.le_of_ble_eq_true rfl) b4 s4 (g4 rfl) fun u=>.c u0 u1 u2 u3 u v3 _ h3 rfl
  | false=>exact .no _ _ _ rfl hp (Nat.le_of_ble_eq_true rfl) b4 s4 (.c u0 u1 u2 u3 0 v3 _ h3 rfl)
 | c=>cases hi
inductive GrJ (D:Addr) (lo:Obj) (gs:Addr) (text:Str) (t1:Tok) (e0 e1 e2 e3 f3 e4:Int) (d1 d2:Bool) (i:Nat) (l:List (Nat × Value)) (news:List (Addr × Obj)):Prop
 | mk (e:Int) (te:Tok) (its:Array Value) (gn:Nat) (hn:news=[(D,lo),(gs,listOf its gn)])
  (l4:l.lookup 4=some (.int e te)) (l8:l.lookup 8=some (.ref gs)) (l7:l.lookup 7=some (.bool false)) (l1:l.lookup 1=some (.str text t1)) (gr:Gs text e0 e1 e2 e3 f3 e4 d1 d2 i e its)
inductive GrI (s:Shared) (L:Addr) (text:Str) (t1:Tok) (e0 e1 e2:Int) (n:Nat) (s':Shared):Prop
 | mk (h:Heap) (tk:Nat) (l:List (Nat × Value)) (e:Int) (te:Tok) (gs:Addr) (its:Array Value) (gn:Nat) (hs:s'={ s with heap:=h,toks:=tk }) (F:Fr s.heap L h (frm l)) (N:News s.heap L h [(gs,listOf its gn)])
  (l4:l.lookup 4=some (.int e te)) (l8:l.lookup 8=some (.ref gs)) (l7:l.lookup 7=some (.bool false)) (l1:l.lookup 1=some (.str text t1)) (ph:Ph text e0 e1 e2 n e its)
theorem groups_spec {text:Str} {t1:Tok} {e0 e1 e2 e3 f3 e4:Int} {d1 d2:Bool} (X:(hd.heap_1 w.params).In s.heap) (T:Top p loose mean mg mb s.heap) (r:Rm A 3) (hl:text.length ≤ 1000) (C:Cut text e0 e1 e2 e3 f3 e4 d1 d2) :
  codeAny (model prog w) A (.call (.ref 42) ⟨[.str text t1,.bool false],[]⟩) (Ret s fun v h'=>∃ x n u0 u1 u2 u3 u4,v=.ref x∧h'.get? x=some (listOf #[.str (Txt.slice text none (some e0)) u0,.str (Txt.slice text (some (e0 + 1)) (some e1)) u1,
   .str (Txt.slice text (some (e1 + 1)) (some e2)) u2,if d1=true then .str (Txt.slice text (some (e2 + 1)) (some e3)) u3 else .none,if d2=true then .str (Txt.slice text (some (f3 + 1)) (some e4)) u4 else .none] n)∧s.heap.get? x=none) s:=by
 refine retK fun R hS hR=>?_
 have nl:=C.nl
 have b0:=C.b0
 have z0:=C.z0
 apply enter (w:=w) [("text",.str text t1),("partial",.bool false)] [(7,.bool false),(1,.str text t1)] X T
 walk_at "my enter"
 case hnm=>exact namesC nx_partial (namesC nx_text (namesN))
 intro L h1 tk F N
 refine addLoc nx_text (by kernel_rfl!) ?_;intro n_text
 refine addLoc nx_partial (by kernel_rfl!) ?_;intro n_partial
 refine addLoc nx_end (by kernel_rfl!) ?_;intro n_end
 refine addLoc nx_groups (by kernel_rfl!) ?_;intro n_groups
 refine addLoc nx_past (by kernel_rfl!) ?_;intro n_past
 refine addLoc nx_sign (by kernel_rfl!) ?_;intro n_sign
 refine addGlo (w:=w) gk_behind (by kernel_rfl!) ?_;intro n_behind
 refine addBlt (w:=w) bk_len (by kernel_rfl!) ?_;intro n_len
 k_steps
 rename Fr _ _ _ _=>F
 rename News _ _ _ _=>N
 refine while_ (GrI s L text t1 e0 e1 e2) 2 ⟨_,_,_,_,_,_,_,_,rfl,F,N,rfl,rfl,rfl,rfl,.a _⟩ ?_
 clear F N
 rintro n s' pk0
 refine byc fun b_=>?_
 obtain ⟨h,tk,l,e,te,gs,its,gn,rfl,F,N,l4,l8,l7,l1,ph⟩:=pk0
 cases ph.step C with
 | go m e' hm hs hz hp sl bh z nx =>
  refine b_ ?_;clear b_
  have hp1:0 ≤ e + 1:=Int.add_nonneg hp (by decide)
  have hz1:its.size ≤ 1000:=Nat.le_trans hz (by decide)
  k_steps
  rename Fr _ _ _ _=>F
  rename News _ _ _ _=>N
  exact ⟨m,hm,_,_,_,_,_,_,_,_,rfl,F,N,rfl,l8,l7,l1,nx _⟩
 | stop hn he hs hp =>
  subst he
  refine b_ ?_;clear b_
  have hz1:its.size ≤ 1000:=by rw [hs];decide
  k_steps
  k_dflt (refine whl_start 100 ?_)
  k_steps
  rename Fr _ _ _ _=>F
  rename News _ _ _ _=>N
  rename _ < _=>lt
  rename Addr=>D
  obtain ⟨ta,tb,N⟩:∃ ta tb,News s.heap L _ [(D,{ cls:=.type "tuple",data:=.seq #[.str "-" ta,.str "+" tb] }),(gs,listOf its gn)]:=⟨_,_,N⟩
  refine' iterT (l₀:=l) (vs:=[.str "-" ta,.str "+" tb]) (lo:={ cls:=.type "tuple",data:=.seq #[.str "-" ta,.str "+" tb] }) ?hh ?F ?N rfl rfl ?ne (GrJ D { cls:=.type "tuple",data:=.seq #[.str "-" ta,.str "+" tb] } gs text t1 e0 e1 e e3 f3 e4 d1 d2) ?h0 ?hax ?turn ?fin
  case hh=>exact r.hand
  case F=>exact F
  case N=>exact N
  case ne=>exact fun e=>(N _ (List.mem_cons_self ..)).2.1 e.symm
  case h0 =>
   subst hn
   cases ph with
   | c u0 u1 u2=>exact ⟨_,_,_,_,rfl,l4,l8,l7,l1,.a u0 u1 u2⟩
  case hax=>exact fun i l news h ⟨_,_,_,_,hn,_,_,_,_,_⟩ _ N'=>(N' _ (hn ▸ List.mem_cons_self ..)).1
  case turn =>
   clear F N l4 l8 l7 l1
   rintro i v l news I oI h tk' hi pk0 F N sep
   refine byc fun b_=>?_
   obtain ⟨e',te',its',gn',rfl,l4,l8,l7,l1,gr⟩:=pk0
   have F:Fr s.heap L h (frm l):=F
   have N:News s.heap L h [(I,oI),(D,_),(gs,listOf its' gn')]:=N
   have n1:=neN (sep (gs,_) (List.mem_cons_of_mem _ (List.mem_cons_self ..)))
   have n2:=ltN lt
   dsimp only at n1
   have C1:=C.b0
   cases gr.step C hi with
   | yes sg t e2' hv hp hz bh sl gt nx =>
    subst hv
    refine b_ ?_;clear b_
    have hp1:0 ≤ e' + 1:=Int.add_nonneg hp (by decide)
    k_steps
    rename Fr _ _ _ _=>F
    rename News _ _ _ _=>N
    exact turn_end (L:=L) F N (List.forall_mem_cons.mpr ⟨sep _ (List.mem_cons_self ..),List.forall_mem_cons.mpr ⟨n1,fun _ h=>nomatch h⟩⟩) ⟨e2',_,_,_,rfl,rfl,l8,l7,l1,nx _⟩
   | no sg t e2' hv hp hz bh sl nx =>
    subst hv
    refine b_ ?_;clear b_
    have hp1:0 ≤ e' + 1:=Int.add_nonneg hp (by decide)
    k_steps
    rename Fr _ _ _ _=>F
    rename News _ _ _ _=>N
    exact turn_end (L:=L) F N (List.forall_mem_cons.mpr ⟨sep _ (List.mem_cons_self ..),List.forall_mem_cons.mpr ⟨n1,fun _ h=>nomatch h⟩⟩) ⟨e',_,_,_,rfl,l4,l8,l7,l1,nx⟩
  case fin =>
   clear F N l4 l8 l7 l1
   rintro l news h tk' pk0 F' N'
   refine byc fun b_=>?_
   obtain ⟨e',te',its',gn',rfl,l4,l8,l7,l1,gr⟩:=pk0
   refine b_ ?_;clear b_
   have F:Fr s.heap L h (frm l):=F'
   have N:News s.heap L h [(D,_),(gs,listOf its' gn')]:=N'
   clear F' N'
   have f4:(e' != (text.length:Int))=false:=by
    rw [C.f4]
    cases gr;exact bne_self_eq_false _
   k_steps
   refine byc fun b_=>?_
   cases gr with
   | c u0 u1 u2 u3 u4 v3 v4 h3 h4 =>
    subst h3 h4
    refine b_ ?_
    exact hR _ _ _ F.keep ⟨_,_,u0,u1,u2,u3,u4,rfl,News.both N (List.mem_cons_of_mem _ (List.mem_cons_self ..))⟩
theorem rs14e:True:=by
 k_with "e14"=>skip
 exact trivial
theorem rs15m0:True:=by
 k_with "@my ent9"=>first | (apply BindsTo.of_eq;exact rfl) | apply binds_K <;> (first | kpc_g | k_extra "@my inkp" | k_is | exact rfl)
 k_with "@my inkp"=>(apply Frag.In.keeps;kpc_g;apply NewAbove.keep;kpc_g)
 exact trivial
theorem lead_spec {v:Str} {t1:Tok} (X:(hd.heap_1 w.params).In s.heap) (T:Top p loose mean mg mb s.heap) (r:Rm A 2) (hl:v.length ≤ 1000) (h0:(v.length:Int) ≠ 0)
  (hz:(Txt.item v 0 == "0")=true→Txt.isdigit v=true→(v != "0")=false) :
  codeAny (model prog w) A (.call (.ref 49) ⟨[.str v t1],[]⟩) (Ret s fun u h'=>u=.bool false) s:=by
 apply enter (w:=w) [("value",.str v t1)] [(10,.str v t1)] X T
 walk_at "my enter"
 case hnm=>exact namesC nx_value (namesN)
 intro L h1 tk F N
 refine addLoc nx_value (by kernel_rfl!) ?_;intro n_value
 k_steps
 all_goals (try dsimp only)
 all_goals first
  | exact ret_end (by with_reducible assumption) rfl
  | exact ret_end (by with_reducible assumption) (congrArg Value.bool (by with_reducible assumption))
  | exact ret_end (by with_reducible assumption) (congrArg Value.bool (hz (by with_reducible assumption) (by with_reducible assumption)))
  | exact absurd (by with_reducible assumption) h0
theorem coerce_spec {v:Str} {t1:Tok} {n:Int} (X:(hd.heap_1 w.params).In s.heap) (T:Top p loose mean mg mb s.heap) (r:Rm A 2) (hl:v.length ≤ 640) (hn:PySem.intText? v=some n) :
  codeAny (model prog w) A (.call (.ref 233) ⟨[.ref 388,.str v t1,.bool false],[]⟩) (Ret s fun u h'=>∃ t,u=.int n t) s:=by
 apply enter (w:=w) [("cls",.ref 388),("value",.str v t1),("allow_none",.bool false)] [(22,.bool false),(10,.str v t1),(21,.ref 388)] X T
 walk_at "my enter"
 case hnm=>exact namesC nx_allow_none (namesC nx_value (namesC nx_cls (namesN)))
 intro L h1 tk F N
 refine addLoc nx_cls (by kernel_rfl!) ?_;intro n_cls
 refine addLoc nx_value (by kernel_rfl!) ?_;intro n_value
 refine addLoc nx_allow_none (by kernel_rfl!) ?_;intro n_allow_none
 refine addBlt (w:=w) bk_int (by kernel_rfl!) ?_;intro n_int
 k_steps
 exact ret_end (s:=s) (by with_reducible assumption) ⟨_,rfl⟩
theorem rs15m1:True:=by
 k_with "@exec For Name Name cons nil"=>((with_reducible rename Fr _ _ _ _=>lF');(with_unfolding_all refine' For_turns lF' ?_))
 exact trivial
theorem rs15m2:True:=by
 k_with "@exec Raise some none"=>(fail_if_success k_extra "e15");apply unhold
 exact trivial
structure Good (b:Bool) (v:Str):Prop where
 ne:(v.length:Int) ≠ 0
 le:v.length ≤ 640
 ok:b=false→(Txt.item v 0 == "0")=true→Txt.isdigit v=true→(v != "0")=false
theorem valid_spec {tu:Addr} {o:Obj} {vs:List Value} {n:Nat} {b:Bool} (X:(hd.heap_1 w.params).In s.heap) (T:Top p loose mean mg mb s.heap) (r:Rm A 2) (ht:s.heap.get? tu=some o) (hc:o.cls=.type "tuple") (hdt:o.data=.seq vs.toArray n)
  (hv:∀ v ∈ vs,∃ x t,v=.str x t∧Good b x) :
  codeAny (model prog w) A (.call (.ref 293) ⟨[.ref 388,.ref tu],[("allow_leading_zeroes",.bool b)]⟩) (Ret s fun u h'=>u=.none) s:=by
 apply enter (w:=w) [("cls",.ref 388),("identifiers",.ref tu),("allow_leading_zeroes",.bool b)] [(29,.bool b),(28,.ref tu),(21,.ref 388)] X T
 walk_at "my enter"
 case hnm=>exact namesC nx_allow_leading_zeroes (namesC nx_identifiers (namesC nx_cls (namesN)))
 intro L h1 tk F N
 refine addLoc nx_cls (by kernel_rfl!) ?_;intro n_cls
 refine addLoc nx_identifiers (by kernel_rfl!) ?_;intro n_identifiers
 refine addLoc nx_allow_leading_zeroes (by kernel_rfl!) ?_;intro n_allow_leading_zeroes
 refine addLoc nx_item (by kernel_rfl!) ?_;intro n_item
 k_steps
 rename Fr _ _ _ _=>F
 refine' iterT ?hh ?F ?N hc hdt ?ne (fun i l news=>l.lookup 28=some (.ref tu)∧l.lookup 29=some (.bool b)) ?h0 (fun i l news h _ F' _=>F'.keep _ _ ht) ?turn ?fin
 case hh=>exact r.hand
 case F=>exact F
 case N=>exact N
 case h0=>exact ⟨rfl,rfl⟩
 case ne =>
  intro e
  have h1:=F.above
  have h2:=Heap.lt_size ht
  have e':L=tu:=e
  rw [← e'] at h2
  exact absurd h1 (Nat.not_le.mpr h2)
 case turn =>
  rintro i v l news I o' h tk' hi ⟨hl1,hl2⟩ F' N' hn
  refine byc fun b_=>?_
  obtain ⟨x,t,rfl,g⟩:=hv v (List.mem_of_getElem? hi)
  refine b_ ?_;clear b_
  clear F N
  have g1:=g.ne
  have g2:=Nat.le_trans g.le (by decide:640 ≤ 1000)
  have F:Fr s.heap L h (frm l):=F'
  have N:News s.heap L h ((I,o')::news):=N'
  clear F' N'
  have g3:b=true∨(Txt.item x 0 == "0")=false∨Txt.isdigit x=false∨(x != "0")=false:=by
   have g3:=g.ok
   cases b
   ·cases e1:(Txt.item x 0 == "0")
    ·exact .inr (.inl rfl)
    ·cases e2:Txt.isdigit x
     ·exact .inr (.inr (.inl rfl))
     ·exact .inr (.inr (.inr (g3 rfl e1 e2)))
   ·exact .inl rfl
  clear g
  rcases g3 with rfl | g3 | g3 | g3
  all_goals k_steps
  all_goals (try dsimp only)
  all_goals first | exact absurd (by with_reducible assumption) g1 | (refine turn_end (L:=L) (by with_reducible assumption) (by with_reducible assumption) hn ?_;exact ⟨hl1,hl2⟩)
 case fin =>
  rintro l news h tk' _ F' N'
  k_steps
  exact ret_end (s:=s) F' rfl
theorem rs15e:True:=by
 k_with "e15"=>skip
 exact trivial
theorem News.cons {h₀ h:Heap} {L x:Addr} {o:Obj} {m:Str→Option Value} {news:List (Addr × Obj)} {h':Heap} (F:Fr h₀ L h m) (N:News h₀ L h' news) (hx:h'.get? x=some o) (hn:h.get? x=none):News h₀ L h' ((x,o)::news):=by
 intro p hp
 rcases List.mem_cons.mp hp with rfl | hp
 ·refine ⟨hx,fun e=>?_,?_⟩
  ·refine byc fun b_=>?_
   obtain ⟨q,_,_,hq,_⟩:=F.ns
   refine b_ ?_;clear b_
   dsimp only at e
   rw [e,hq] at hn;cases hn
  ·cases e:h₀.get? x with
   | none=>rfl
   | some o'=>rw [F.keep _ _ e] at hn;cases hn
 ·exact N p hp
theorem groupsF {text:Str} {t1:Tok} {e0 e1 e2 e3 f3 e4:Int} {d1 d2:Bool} {Q:Value→Shared→Prop} {E:Value→Shared→Prop} {h₀:Heap} {L:Addr} {m:Str→Option Value} {news:List (Addr × Obj)} (F:Fr h₀ L s.heap m) (N:News h₀ L s.heap news)
  (X:(hd.heap_1 w.params).In h₀) (T:Top p loose mean mg mb h₀) (C:Cut text e0 e1 e2 e3 f3 e4 d1 d2) (r:Rm A 3) (hl:text.length ≤ 1000)
  (h:∀ x n u0 u1 u2 u3 u4 v3 v4 h' tk,(v3=if d1=true then .str (Txt.slice text (some (e2 + 1)) (some e3)) u3 else .none)→(v4=if d2=true then .str (Txt.slice text (some (f3 + 1)) (some e4)) u4 else .none)→Fr h₀ L h' m→News h₀ L h' ((x,listOf #[.str (Txt.slice text none (some e0)) u0,.str (Txt.slice text (some (e0 + 1)) (some e1)) u1,
   .str (Txt.slice text (some (e1 + 1)) (some e2)) u2,v3,v4] n)::news)→Q (.ref x) { s with heap:=h',toks:=tk }) :
  wpAny (model prog w) A (call (.ref 42) [.str text t1,.bool false]) Q E s :=
 useF F N (groups_spec (X.keeps F.keep) (T.keeps F.keep) r hl C) fun _ h' tk F' N' pk0=>by obtain ⟨x,n,u0,u1,u2,u3,u4,e,hx,hn⟩:=pk0;subst e;exact h x n u0 u1 u2 u3 u4 _ _ h' tk rfl rfl F' (News.cons F N' hx hn)
section
variable {Q:Value→Shared→Prop} {E:Value→Shared→Prop} {h₀:Heap} {L:Addr} {m:Str→Option Value} {news:List (Addr × Obj)}
theorem leadF {v:Str} {t1:Tok} (F:Fr h₀ L s.heap m) (N:News h₀ L s.heap news) (X:(hd.heap_1 w.params).In h₀) (T:Top p loose mean mg mb h₀) (g:Good false v) (r:Rm A 2)
  (h:∀ h' tk,Fr h₀ L h' m→News h₀ L h' news→Q (.bool false) { s with heap:=h',toks:=tk }):wpAny (model prog w) A (call (.ref 49) [.str v t1]) Q E s :=
 useF F N (lead_spec (X.keeps F.keep) (T.keeps F.keep) r (Nat.le_trans g.le (by decide)) g.ne (g.ok rfl)) fun _ h' tk F' N' e=>by subst e;exact h h' tk F' N'
theorem useM {q:Addr} {f self:Value} {args:List Value} {kw:List (Str × Value)} {Post:Value→Heap→Prop} (F:Fr h₀ L s.heap m) (N:News h₀ L s.heap news) (hq:(q,methodObj f self) ∈ news)
  (C:codeAny (model prog w) A (.call f ⟨self::args,kw⟩) (Ret s Post) s)
  (h:∀ v h' tk,Fr h₀ L h' m→News h₀ L h' news→Post v h'→Q v { s with heap:=h',toks:=tk }):wpAny (model prog w) A (call (.ref q) args kw) Q E s:=by
 refine call_meth N hq (codeAny_mono C fun r s' hr=>?_)
 refine byc fun b_=>?_
 obtain ⟨v,h',tk,rfl,rfl,hk,hp⟩:=hr
 refine b_ ?_;clear b_
 exact h v h' tk (fr_on F hk) (news_on N hk) hp
theorem coerceM {q:Addr} {v:Str} {t1:Tok} {n:Int} (F:Fr h₀ L s.heap m) (N:News h₀ L s.heap news) (X:(hd.heap_1 w.params).In h₀) (T:Top p loose mean mg mb h₀) (hn:PySem.intText? v=some n) (hl:v.length ≤ 640) (hq:(q,methodObj (.ref 233) (.ref 388)) ∈ news) (r:Rm A 2)
  (h:∀ t h' tk,Fr h₀ L h' m→News h₀ L h' news→Q (.int n t) { s with heap:=h',toks:=tk }):wpAny (model prog w) A (call (.ref q) [.str v t1,.bool false]) Q E s :=
 useM F N hq (coerce_spec (X.keeps F.keep) (T.keeps F.keep) r hl hn) fun _ h' tk F' N' pk0=>by obtain ⟨t,e⟩:=pk0;subst e;exact h t h' tk F' N'
end
theorem rs16m0:True:=by
 k_with "@call ref"=>k_dflt (first | (apply groupsF;kpc_g;kpc_g;kpc_g;kpc_g;kpc_g;k_extra "@my rmd";kpc_g;(intro _;intros;k_sweep)) | (apply leadF;kpc_g;kpc_g;kpc_g;kpc_g;kpc_g;k_extra "@my rmd";(intro _;intros;k_sweep)) | (apply coerceM;kpc_g;kpc_g;kpc_g;kpc_g;kpc_g;kpc_g;k_mem;k_extra "@my rmd";(intro _;intros;k_sweep)))
 exact trivial
noncomputable def tupO (vs:List Value):Obj:={ cls:=.type "tuple",data:=.seq vs.toArray }
inductive StrTup (h₀ h:Heap) (a:Addr) (ps:List Str):Prop
 | mk (l:List (Str × Tok)) (cj1:h.get? a=some (tupO (strValues l))) (cj2:h₀.get? a=none) (cj3:l.map (·.1)=ps):StrTup h₀ h a ps
theorem strTup_of {h₀ h:Heap} {L a:Addr} {news:List (Addr × Obj)} {l:List (Str × Tok)} {ps:List Str} (N:News h₀ L h news) (e:l.map (·.1)=ps) (m:(a,tupO (strValues l)) ∈ news):StrTup h₀ h a ps:=⟨l,(N _ m).1,(N _ m).2.2,e⟩
theorem strTup_nil {h₀ h:Heap} {L a:Addr} {news:List (Addr × Obj)} {ps:List Str} (N:News h₀ L h news) (e:ps=[]) (m:(a,{ cls:=.type "tuple",data:=.seq #[] }) ∈ news):StrTup h₀ h a ps:=⟨[],(N _ m).1,(N _ m).2.2,e.symm⟩
section
variable {Q:Value→Shared→Prop} {E:Value→Shared→Prop} {h₀:Heap} {L:Addr} {m:Str→Option Value} {news:List (Addr × Obj)}
theorem splitF {x y:Str} {t u:Tok} {ps:List Str} (F:Fr h₀ L s.heap m) (N:News h₀ L s.heap news) (sp:Txt.split x y=ps) (hl:x.length ≤ 640) (hy:(y.length == 0)=false)
  (h:∀ D l h' k,l.map (·.1)=ps→Fr h₀ L h' m→News h₀ L h' ((D,listOf (strValues l).toArray 0)::news)→Q (.ref D) { s with heap:=h',toks:=k }):wpAny (model prog w) A (call (.builtin "str.split") [.str x t,.str y u]) Q E s :=
 splitN1 F N hy (fun l h' k e F' N'=>h _ l h' k (e.trans sp) F' N') (le1000 (by lia))
theorem tupF {D:Addr} {l:List (Str × Tok)} {ps:List Str} {n:Nat} (F:Fr h₀ L s.heap m) (N:News h₀ L s.heap news) (hm:(D,listOf (strValues l).toArray n) ∈ news) (e:l.map (·.1)=ps) (hz:ps.length ≤ 1000)
  (h:∀ t h',Fr h₀ L h' m→News h₀ L h' ((t,tupO (strValues l))::news)→Q (.ref t) { s with heap:=h' }):wpAny (model prog w) A (call (.type "tuple") [.ref D]) Q E s :=
 tuple_ofL F N ⟨_,(N _ hm).1,rfl,n,rfl⟩ (fun t h' F' N' _=>h t h' F' N') (le1000 (by rw [strValues,List.length_map,← List.length_map (f:=(·.1)),e];exact hz))
theorem callWith_MKW {M:Model} {env:Env} {pos:Pos} {q g:Addr} {self:Value} {e:Expr} {rest:List Expr} {kws:List Keyword} (X:(hd.heap_1 w.params).In h₀) (F:Fr h₀ L s.heap m) (N:News h₀ L s.heap news) (hq:(q,methodObj (.ref g) self) ∈ news) (hf:fnIn (hd.heap_1 w.params) g=true)
  (hall:(backToKw pos (keywordEach kws env)).all (·.1.isSome)=true)
  (h:wpAny M A (spliced (backTo pos (starEach (e::rest) env))) (fun vs s₁=>wpAny M A (evalAll ((backToKw pos (keywordEach kws env)).map (·.2)))
   (fun ks s₂=>MethP (hd.heap_1 w.params) q g self s₂.heap∧wpAny M A (call (.ref q) vs (((backToKw pos (keywordEach kws env)).filterMap (·.1)).zip ks)) Q E s₂) E s₁) E s)
  (hplain:((backTo pos (starEach (e::rest) env)).any (·.1) || (backToKw pos (keywordEach kws env)).any (·.1.isNone))=false:=by rfl) (he:starEach (e::rest) env=(false,eval e env)::starEach rest env:=by rfl) :
  wpAny M A (callWith pos (.ref q) [] (backTo pos (starEach (e::rest) env)) (backToKw pos (keywordEach kws env))) Q E s :=
 callWith_of hplain (keeps_M hf) (evalArgs_kw2 hall h he)
theorem fi_293 (w:World):fnIn (hd.heap_1 w.params) 293=true:=by k_is
theorem callW293 {M:Model} {env:Env} {pos:Pos} {q:Addr} {self:Value} {e:Expr} {rest:List Expr} {kws:List Keyword} (X:(hd.heap_1 w.params).In h₀) (F:Fr h₀ L s.heap m) (N:News h₀ L s.heap news) (hq:(q,methodObj (.ref 293) self) ∈ news)
  (hall:(backToKw pos (keywordEach kws env)).all (·.1.isSome)=true)
  (hplain:((backTo pos (starEach (e::rest) env)).any (·.1) || (backToKw pos (keywordEach kws env)).any (·.1.isNone))=false) (he:starEach (e::rest) env=(false,eval e env)::starEach rest env)
  (h:wpAny M A (spliced (backTo pos (starEach (e::rest) env))) (fun vs s₁=>wpAny M A (evalAll ((backToKw pos (keywordEach kws env)).map (·.2)))
   (fun ks s₂=>MethP (hd.heap_1 w.params) q 293 self s₂.heap∧wpAny M A (call (.ref q) vs (((backToKw pos (keywordEach kws env)).filterMap (·.1)).zip ks)) Q E s₂) E s₁) E s) :
  wpAny M A (callWith pos (.ref q) [] (backTo pos (starEach (e::rest) env)) (backToKw pos (keywordEach kws env))) Q E s:=callWith_MKW X F N hq (fi_293 w) hall h hplain he
theorem validM {q tu:Addr} {l:List (Str × Tok)} {ps:List Str} {b:Bool} (F:Fr h₀ L s.heap m) (N:News h₀ L s.heap news) (X:(hd.heap_1 w.params).In h₀) (T:Top p loose mean mg mb h₀) (hq:(q,methodObj (.ref 293) (.ref 388)) ∈ news) (r:Rm A 2) (ht:(tu,tupO (strValues l)) ∈ news) (e:l.map (·.1)=ps) (hg:∀ v ∈ ps,Good b v)
  (h:∀ h' tk,Fr h₀ L h' m→News h₀ L h' news→Q .none { s with heap:=h',toks:=tk }):wpAny (model prog w) A (call (.ref q) [.ref tu] [("allow_leading_zeroes",.bool b)]) Q E s :=
 useM F N hq (valid_spec (X.keeps F.keep) (T.keeps F.keep) r (N _ ht).1 rfl rfl fun v hv=>by
  obtain ⟨p,hp,rfl⟩:=List.mem_map.mp hv
  exact ⟨p.1,p.2,rfl,hg _ (by rw [← e];exact List.mem_map_of_mem hp)⟩) fun _ h' tk F' N' e=>by subst e;exact h h' tk F' N'
end
theorem rs17m0:True:=by
 k_with "@callWith ref"=>k_dflt ((apply callW293;kpc_g;kpc_g;kpc_g;k_mem;exact rfl;exact rfl;exact rfl))
 k_with "@call builtin:str.split"=>k_dflt (((try dsimp only);apply splitF) <;> (first | kpc_g | decide | (intro _;intros;k_sweep)))
 k_with "@call type:tuple"=>k_dflt (((try dsimp only);apply tupF) <;> (first | kpc_g | k_mem | (intro _;intros;k_sweep)))
 k_with "@call ref"=>k_dflt ((apply validM;kpc_g;kpc_g;kpc_g;kpc_g;k_mem;k_extra "@my rmd";k_mem;kpc_g;kpc_g;(intro _;intros;k_sweep)))
 exact trivial
inductive Picked (v:Value) (x:Str) (u:Tok) (ps:List Str):Prop
 | none (h:v=.none) (e:ps=[])
 | some (h:v=.str x u) (e:Txt.split x "."=ps) (q:(x == "")=false)
theorem pick {v:Value} {d:Bool} {x:Str} {u:Tok} {ps:List Str} (e:v=if d=true then .str x u else .none) (sp:d=true→Txt.split x "."=ps) (q:d=true→(x == "")=false) (n:d=false→ps=[]):Picked v x u ps:=by
 cases d with
 | true=>exact .some e (sp rfl) (q rfl)
 | false=>exact .none e (n rfl)
noncomputable def JoinT (h₀:Heap) (L:Addr) (l:List (Nat × Value)) (news:List (Addr × Obj)) (K:Flow→Shared→Prop) (sB:Shared) (i:Nat) (ps:List Str):Prop :=
 ∀ a ls h' tk,ls.map (·.1)=ps→Fr h₀ L h' (frm ((i,.ref a)::l))→News h₀ L h' ((a,tupO (strValues ls))::news)→At K .next { sB with heap:=h',toks:=tk }
theorem joinS {h₀ h:Heap} {L:Addr} {l:List (Nat × Value)} {news:List (Addr × Obj)} {K:Flow→Shared→Prop} {sB:Shared} {G:Prop} (i:Nat) (ps:List Str) (_:Fr h₀ L h (frm l)) (_:News h₀ L h news) (J:JoinT h₀ L l news K sB i ps) (g:JoinT h₀ L l news K sB i ps→G):G:=g J
theorem News.sub {h₀ h:Heap} {L:Addr} {n₁ n₂:List (Addr × Obj)} (N:News h₀ L h n₂) (m:∀ p ∈ n₁,p ∈ n₂):News h₀ L h n₁:=fun p hp=>N p (m p hp)
theorem rs17m1:True:=by
 k_with "@my str tuple"=>(fail_if_success k_extra "e17");first | (apply strTup_nil;kpc_g;kpc_g;k_mem) | (apply strTup_of;kpc_g;rotate_left;k_mem;kpc_g)
 k_with "@my sub"=>(fail_if_success k_extra "e17");first | apply List.forall_mem_nil | (apply List.forall_mem_cons.mpr;apply And.intro;k_mem;k_extra "@my sub")
 exact trivial
theorem parse_spec {text:Str} {t1:Tok} {e0 e1 e2 e3 f3 e4 n0 n1 n2:Int} {d1 d2:Bool} {pre bld:List Str} (X:(hd.heap_1 w.params).In s.heap) (T:Top p loose mean mg mb s.heap) (r:Rm A 4) (hl:text.length ≤ 1000) (hl0:(text.length:Int) ≠ 0) (C:Cut text e0 e1 e2 e3 f3 e4 d1 d2)
  (g0:Good false (Txt.slice text none (some e0))) (i0:PySem.intText? (Txt.slice text none (some e0))=some n0) (g1:Good false (Txt.slice text (some (e0 + 1)) (some e1))) (i1:PySem.intText? (Txt.slice text (some (e0 + 1)) (some e1))=some n1)
  (g2:Good false (Txt.slice text (some (e1 + 1)) (some e2))) (i2:PySem.intText? (Txt.slice text (some (e1 + 1)) (some e2))=some n2)
  (l0:(Txt.slice text none (some e0)).length ≤ 640) (l1:(Txt.slice text (some (e0 + 1)) (some e1)).length ≤ 640) (l2:(Txt.slice text (some (e1 + 1)) (some e2)).length ≤ 640)
  (sp1:d1=true→Txt.split (Txt.slice text (some (e2 + 1)) (some e3)) "."=pre) (l3:(Txt.slice text (some (e2 + 1)) (some e3)).length ≤ 640) (gp:∀ v ∈ pre,Good false v) (q1:d1=true→(Txt.slice text (some (e2 + 1)) (some e3) == "")=false)
  (sp2:d2=true→Txt.split (Txt.slice text (some (f3 + 1)) (some e4)) "."=bld) (l4:(Txt.slice text (some (f3 + 1)) (some e4)).length ≤ 640) (gb:∀ v ∈ bld,Good true v) (q2:d2=true→(Txt.slice text (some (f3 + 1)) (some e4) == "")=false)
  (hp:pre.length ≤ 1000) (hb:bld.length ≤ 1000) (np:d1=false→pre=[]) (nb:d2=false→bld=[]) :
  codeAny (model prog w) A (.call (.ref 282) ⟨[.ref 388,.str text t1,.bool false],[]⟩) (Ret s fun u h'=>∃ x t0 t1 t2 a b,u=.ref x∧(h'.get? x=some { cls:=.type "tuple",data:=.seq #[.int n0 t0,.int n1 t1,.int n2 t2,.ref a,.ref b] }∧s.heap.get? x=none)∧StrTup s.heap h' a pre∧StrTup s.heap h' b bld) s:=by
 refine retK fun R hS hR=>?_
 obtain ⟨hA,dA,fA,gA,uA⟩:=A
 obtain rfl:hA=none:=r.hand
 apply enter (w:=w) [("cls",.ref 388),("version_string",.str text t1),("partial",.bool false),("coerce",.bool false)] [(27,.bool false),(7,.bool false),(13,.str text t1),(21,.ref 388)] X T
 walk_at "my enter"
 case hnm=>exact namesC nx_coerce (namesC nx_partial (namesC nx_version_string (namesC nx_cls (namesN))))
 intro L h1 tk F N
 refine addLoc nx_cls (by kernel_rfl!) ?_;intro n_cls
 refine addLoc nx_version_string (by kernel_rfl!) ?_;intro n_version_string
 refine addLoc nx_partial (by kernel_rfl!) ?_;intro n_partial
 refine addLoc nx_coerce (by kernel_rfl!) ?_;intro n_coerce
 refine addLoc nx_groups (by kernel_rfl!) ?_;intro n_groups
 refine addLoc nx_major (by kernel_rfl!) ?_;intro n_major
 refine addLoc nx_minor (by kernel_rfl!) ?_;intro n_minor
 refine addLoc nx_patch (by kernel_rfl!) ?_;intro n_patch
 refine addLoc nx_prerelease (by kernel_rfl!) ?_;intro n_prerelease
 refine addLoc nx_build (by kernel_rfl!) ?_;intro n_build
 refine addGlo (w:=w) gk_version_groups (by kernel_rfl!) ?_;intro n_version_groups
 refine addGlo (w:=w) gk_has_leading_zero (by kernel_rfl!) ?_;intro n_has_leading_zero
 refine addBlt (w:=w) bk_int (by kernel_rfl!) ?_;intro n_int
 refine addBlt (w:=w) bk_tuple (by kernel_rfl!) ?_;intro n_tuple
 k_steps
 with_reducible rename (_:Value)=ite (_=true) _ _=>ek4
 have p4:=pick ek4 sp2 q2 nb
 clear ek4 sp2 q2 nb
 with_reducible rename (_:Value)=ite (_=true) _ _=>ek3
 have p3:=pick ek3 sp1 q1 np
 clear ek3 sp1 q1 np
 rename Fr _ _ _ _=>F
 rename News _ _ _ _=>N
 rename Flow→Shared→Prop=>K
 rename NxN _ _ _ _ _ _ _ _=>hK
 refine joinS (K:=K) (sB:=s) 17 pre F N ?_ fun hJ=>?_
 ·clear F N
  intro a ls h' tk els F N
  k_steps
  rename Fr _ _ _ _=>F
  rename News _ _ _ _=>N
  rename Flow→Shared→Prop=>K
  rename NxN _ _ _ _ _ _ _ _=>hK
  refine joinS (K:=K) (sB:=s) 18 bld F N ?_ fun hJ=>?_
  ·clear F N
   intro a2 ls2 h' tk els2 F N
   k_steps
   refine' hR _ _ _ (Fr.keep (by with_reducible assumption)) ⟨_,_,_,_,_,_,rfl,News.both (by with_reducible assumption) ?mm,?s1,?s2⟩
   case mm=>k_mem
   case s1=>walk_at "my str tuple"
   case s2=>walk_at "my str tuple"
  ·clear hK
   rcases p4 with ⟨rfl,e⟩ | ⟨rfl,e,q⟩
   ·k_steps
    rename Fr _ _ _ _=>F
    rename News _ _ _ _=>N
    exact hJ _ [] _ _ e.symm F (News.sub N (by walk_at "my sub"))
   ·k_steps
    rename Fr _ _ _ _=>F
    rename News _ _ _ _=>N
    rename List.map _ _=_=>el
    exact hJ _ _ _ _ el F (News.sub N (by walk_at "my sub"))
 ·clear hK
  rcases p3 with ⟨rfl,e⟩ | ⟨rfl,e,q⟩
  ·k_steps
   rename Fr _ _ _ _=>F
   rename News _ _ _ _=>N
   exact hJ _ [] _ _ e.symm F (News.sub N (by walk_at "my sub"))
  ·k_steps
   rename Fr _ _ _ _=>F
   rename News _ _ _ _=>N
   rename List.map _ _=_=>el
   exact hJ _ _ _ _ el F (News.sub N (by walk_at "my sub"))
theorem rs17e:True:=by
 k_with "e17"=>skip
 exact trivial
noncomputable def live (h₀:Heap):List Addr:=(List.range h₀.objs.size).filter fun b=>(h₀.get? b).isSome
theorem mem_live {h₀:Heap} {b:Addr}:b ∈ live h₀↔h₀.get? b ≠ none:=by
 unfold live
 rw [List.mem_filter]
 constructor
 ·rintro ⟨_,h⟩ e;rw [e] at h;cases h
 ·intro h
  cases e:h₀.get? b with
  | none=>exact absurd e h
  | some o=>exact ⟨List.mem_range.mpr (Heap.lt_size e),rfl⟩
noncomputable def part (h₀ h:Heap):Heap:=hideAll h (live h₀)
theorem part_of {h₀ h:Heap} {b:Addr} {o:Obj} (e:(part h₀ h).get? b=some o):h.get? b=some o∧h₀.get? b=none:=by
 refine ⟨of_hideAll _ e,?_⟩
 cases q:h₀.get? b with
 | none=>rfl
 | some x =>
  have:(part h₀ h).get? b=none:=hideAll_none _ (mem_live.mpr (by rw [q];simp))
  rw [this] at e;cases e
theorem part_get {h₀ h:Heap} {b:Addr} {o:Obj} (e:h.get? b=some o) (n:h₀.get? b=none):(part h₀ h).get? b=some o:=hideAll_get _ e fun m=>mem_live.mp m n
theorem part_grown {h₀ h₀' h h':Heap} (a:∀ b,h₀'.get? b ≠ none→h₀.get? b ≠ none) (k:∀ b o,h₀.get? b=none→h.get? b=some o→h'.get? b=some o):Grown (part h₀ h) (part h₀' h'):=fun b o e=>by
 refine byc fun b_=>?_
 obtain ⟨e1,e2⟩:=part_of e
 refine b_ ?_;clear b_
 refine part_get (k b o e2 e1) ?_
 cases q:h₀'.get? b with
 | none=>rfl
 | some x=>exact absurd e2 (a b (by rw [q];simp))
theorem news_part {h₀ h:Heap} {L:Addr} {news:List (Addr × Obj)} (N:News h₀ L h news):News h₀ L (part h₀ h) news:=fun p hp=>⟨part_get (N p hp).1 (N p hp).2.2,(N p hp).2⟩
noncomputable def EltOk (prog:Program) (w:World) (cenv:Env) (x:Str) (elt:Expr) (vs:Array Value) (F:Nat→Value→Heap→Prop) (g:Heap) (D U:Nat):Prop :=
 ∀ (A':Around) E' i v (s₂:Shared) m₂,A'.handled=none→A'.depth ≤ D→A'.units ≤ U→vs[i]?=some v→s₂.heap.Ns cenv.locals m₂→m₂ x=some v→Grown g s₂.heap →
  wpAny (model prog w) A' (eval elt cenv) (fun y s₃=>∃ h' tk,s₃={ s₂ with heap:=h',toks:=tk }∧Grown s₂.heap h'∧F i y (part s₂.heap h')) E' s₂
inductive Sn (C I:Addr) (s₀ s:Shared):Prop
 | mk (h' tk:_) (cj1:s={ s₀ with heap:=h',toks:=tk }) (cj2:∀ b o,b ≠ C→b ≠ I→s₀.heap.get? b=some o→h'.get? b=some o):Sn C I s₀ s
theorem Sn.refl (C I:Addr) (s:Shared):Sn C I s s:=⟨s.heap,s.toks,rfl,fun _ _ _ _ e=>e⟩
theorem Sn.step {C I:Addr} {s₀ s:Shared} (x:Sn C I s₀ s) {h':Heap} {tk:Nat} (hk:∀ b o,b ≠ C→b ≠ I→s.heap.get? b=some o→h'.get? b=some o):Sn C I s₀ { s with heap:=h',toks:=tk }:=by
 refine byc fun b_=>?_
 obtain ⟨h₁,tk₁,rfl,hk₁⟩:=x
 refine b_ ?_;clear b_
 exact ⟨h',tk,rfl,fun b o hC hI e=>hk b o hC hI (hk₁ b o hC hI e)⟩
noncomputable def gProto (C I S:Addr) (N:Nat) (F:Nat→Value→Heap→Prop):Protocol:=fun m s₀ v s kap =>
 Sn C I s₀ s∧(∀ b,s₀.heap.get? b ≠ none→s.heap.get? b ≠ none)∧F (N - 1 - m) v (part s₀.heap s.heap) ∧
  ∀ s'':Shared,(∀ b o,b ≠ S→s.heap.get? b=some o→s''.heap.get? b=some o)→kap (.send .none) s''
noncomputable def gEnd (e:Result) (C I:Addr):GenEnd:=fun n s₀ r s₁=>r=e∧(n=0∧Sn C I s₀ s₁)
section
variable {elt iter:Expr} {x:Str} {px:Pos} {scope:Scope} {pos:Pos} {I ax S:Addr} {vs:Array Value} {St₀:Nat→Heap→Prop} {cenv:Env} {F:Nat→Value→Heap→Prop} {g:Heap}
theorem idx_lt {N i k:Nat} (h:N - i=k + 1):i < N:=Nat.lt_of_sub_pos (h ▸ Nat.succ_pos k)
theorem idx_end {N i:Nat} (h:N - i=0) (hi:i ≤ N):i=N:=Nat.le_antisymm hi (Nat.le_of_sub_eq_zero h)
theorem idx_next {N i k:Nat} (h:N - i=k + 1):N - (i + 1)=k:=congrArg Nat.pred h
theorem idx_back {N i k:Nat} (h:N - i=k + 1):N - 1 - k=i:=by rw [Nat.sub_sub,Nat.add_comm,← h];exact Nat.sub_sub_self (Nat.le_of_lt (idx_lt h))
theorem seg_loopG (hh:A.handled=none) (W₀:∀ A':Around,A'.handled=none→Walks prog w A' I [I,ax] [I] vs.size (fun i v=>vs[i]?=some v) St₀) (hobj:∀ i h,St₀ i h→∃ o,h.get? I=some o)
  (hx:cenv.kindOf x=some .local) (hp:(cenv.scope.kind == .class || (cenv.scope.kind == .module && cenv.locals != cenv.globals))=false)
  (hco:cenv.scope.isCoroutine=false) (hCI:cenv.locals ≠ I) (hCa:cenv.locals ≠ ax) (hSC:cenv.locals ≠ S) (hSI:I ≠ S) (hSa:ax ≠ S) (hgC:g.get? cenv.locals=none) (hgI:g.get? I=none) (hgS:g.get? S=none)
  (hF:∀ i v h h',Grown h h'→F i v h→F i v h') (hq:EltOk prog w cenv x elt vs F g (A.depth + 1) (A.units + 3)) :
  ∀ (k i:Nat) (s₀ s:Shared) (m:Str→Option Value),vs.size - i=k→i ≤ vs.size→St₀ i s.heap→s.heap.Ns cenv.locals m→Sn cenv.locals I s₀ s→Grown g s.heap →
   Seg (model prog w) A (gEnd (.ok .next) cenv.locals I) (gProto cenv.locals I S vs.size F) k s₀
    (.compLoop (.GeneratorExp elt [⟨.Name x px,iter,[],0⟩] scope pos) 0 (.ref I) .none cenv)
    ((model prog w).den (.compLoop (.GeneratorExp elt [⟨.Name x px,iter,[],0⟩] scope pos) 0 (.ref I) .none cenv)) [] s:=by
 have hh':(A.over (.compLoop (.GeneratorExp elt [⟨.Name x px,iter,[],0⟩] scope pos) 0 (.ref I) .none cenv) []).handled=none:=hh
 have hdep':(A.over (.compLoop (.GeneratorExp elt [⟨.Name x px,iter,[],0⟩] scope pos) 0 (.ref I) .none cenv) []).depth ≤ A.depth + 1:=Nat.le_of_eq rfl
 have huni':(A.over (.compLoop (.GeneratorExp elt [⟨.Name x px,iter,[],0⟩] scope pos) 0 (.ref I) .none cenv) []).units ≤ A.units + 3:=Nat.le_of_eq rfl
 have hCw:cenv.locals ∉ [I]:=fun h=>hCI (List.mem_singleton.mp h)
 have gI:∀ {b:Addr} {o:Obj},g.get? b=some o→b ∉ [I]:=fun e h=>by rw [List.mem_singleton.mp h,hgI] at e;cases e
 have gC:∀ {b:Addr} {o:Obj},g.get? b=some o→b ≠ cenv.locals:=fun e h=>by rw [h,hgC] at e;cases e
 have gS:∀ {b:Addr} {o:Obj},g.get? b=some o→b ≠ S:=fun e h=>by rw [h,hgS] at e;cases e
 intro k
 induction k with
 | zero =>
  intro i s₀ s m hk hi hst hn hsince hg
  have hin:i=vs.size:=idx_end hk hi
  refine byc fun b_=>?_
  subst hin
  refine b_ ?_;clear b_
  show Seg _ A _ _ _ s₀ _ ((compTurn (.GeneratorExp elt [⟨.Name x px,iter,[],0⟩] scope pos) 0 (.ref I) .none cenv).onRaise (leaving cenv)) [] s
  rw [compTurn_gen,Sem.onRaise_eq_wrap]
  refine seg_bind_wrap (wpAny_standAt ?_)
  refine seg_bind_wrap ((W₀ _ hh').done s _ _ hst fun h' tk hk'=>?_)
  exact seg_end (.ok .next) ⟨rfl,rfl,hsince.step fun b o _ hw e=>hk' b o (fun h=>hw (List.mem_singleton.mp h)) e⟩
 | succ k ih =>
  intro i s₀ s m hk hi hst hn hsince hg
  have hlt:i < vs.size:=idx_lt hk
  show Seg _ A _ _ _ s₀ _ ((compTurn (.GeneratorExp elt [⟨.Name x px,iter,[],0⟩] scope pos) 0 (.ref I) .none cenv).onRaise (leaving cenv)) [] s
  rw [compTurn_gen,Sem.onRaise_eq_wrap]
  refine seg_bind_wrap (wpAny_standAt ?_)
  refine seg_bind_wrap ((W₀ _ hh').item i s _ _ hlt hst fun v h₁ tk₁ hPv hst₁ hk₁=>?_)
  refine seg_bind_wrap (wpAny_of_eq (rfl:letOwnedTupleGo (.Name x px) (.ref I) v=pure ()) ?_)
  refine seg_bind_wrap (wpAny_assign_Name (wpAny_storeName_local hx (hn.at' fun o e=>hk₁ _ o hCw e) (fun h₂ hn₂ hs₂=>?_) hp))
  have up₂:∀ b o,b ≠ cenv.locals→b ≠ I→s.heap.get? b=some o→h₂.get? b=some o:=fun b o hbC hbI e=>hs₂.extBut b o hbC (hk₁ b o (fun h=>hbI (List.mem_singleton.mp h)) e)
  have hst₂:St₀ (i + 1) h₂:=(W₀ A hh).frame _ _ _ hst₁ fun b hb o e=>hs₂.extBut b o (fun h=>by
   rcases List.mem_cons.mp hb with q | q
   ·exact hCI (h.symm.trans q)
   ·exact hCa (h.symm.trans (List.mem_singleton.mp q))) e
  have hg₂:Grown g h₂:=fun b o e=>up₂ b o (gC e) (fun q=>gI e (by rw [q];simp)) (hg b o e)
  refine seg_bind_wrap ?_
  simp only [List.forIn_nil]
  refine wpAny_pure ?_
  simp only [if_true]
  have hy:∀ v,yieldOut cenv v=yieldValue v:=fun v=>by simp only [yieldOut,hco,Bool.false_eq_true,if_false]
  simp only [hy]
  rw [Sem.bind_eq_wrap',Sem.bind_eq_wrap',Sem.wrap_wrap,Sem.wrap_wrap]
  refine seg_wrap (wpAny_mono (hq _ _ i v _ _ hh' hdep' huni' hPv hn₂ (by simp) hg₂) (fun y s₄ h₄=>?_) fun _ _ e=>e)
  refine byc fun b_=>?_
  obtain ⟨h₄,tk₄,rfl,hk₄,hFy⟩:=h₄
  have hst₄:St₀ (i + 1) h₄:=(W₀ A hh).frame _ _ _ hst₂ fun b _ o e=>hk₄ b o e
  have hn₄:=hn₂.keeps hk₄
  have hsn:Sn cenv.locals I s { s with heap:=h₂,toks:=(s.toks) }:=⟨h₂,s.toks,rfl,up₂⟩
  obtain ⟨h₀',tk₀',es,hk₀⟩:=hsince
  refine b_ ?_;clear b_
  have lv₂:∀ b,s₀.heap.get? b ≠ none→h₂.get? b ≠ none:=by
   intro b hb
   by_cases q1:b=cenv.locals
   ·refine byc fun b_=>?_
    subst q1
    obtain ⟨o,_,_,ho,_⟩:=hn₂
    refine b_ ?_;clear b_
    rw [ho];simp
   ·by_cases q2:b=I
    ·refine byc fun b_=>?_
     subst q2
     obtain ⟨o,ho⟩:=hobj _ _ hst₂
     refine b_ ?_;clear b_
     rw [ho];simp
    ·cases q:s₀.heap.get? b with
     | none=>exact absurd q hb
     | some o =>
      have:h₂.get? b=some o:=up₂ b o q1 q2 (by rw [es];exact hk₀ b o q1 q2 q)
      rw [this];simp
  have hidx:vs.size - 1 - k=i:=idx_back hk
  refine seg_at (seg_yield rfl rfl rfl ⟨?_,?_,?_,fun s'' hal=>?_⟩)
  ·refine byc fun b_=>?_
   subst es
   refine b_ ?_;clear b_
   exact ⟨h₄,tk₄,rfl,fun b o hC hI e=>hk₄ b o (up₂ b o hC hI (hk₀ b o hC hI e))⟩
  ·intro b hb
   cases q:h₂.get? b with
   | none=>exact absurd q (lv₂ b hb)
   | some o=>show h₄.get? b ≠ none;rw [hk₄ b o q];simp
  ·show F (vs.size - 1 - k) y _
   rw [hidx]
   refine hF _ _ _ _ (part_grown (fun b hb=>lv₂ b hb) fun b o _ e=>e) hFy
  ·refine seg_again rfl (ih (i + 1) s'' s'' _ (idx_next hk) hlt ((W₀ A hh).frame _ _ _ hst₄ fun b hb o e=>hal b o (fun q=>by
     rcases List.mem_cons.mp hb with h | h
     ·exact hSI (h.symm.trans q)
     ·exact hSa ((List.mem_singleton.mp h).symm.trans q)) e)
    (hn₄.at' fun o e=>hal _ o hSC e) (Sn.refl _ _ _) fun b o e=>hal b o (gS e) (hk₄ b o (hg₂ b o e)))
theorem seg_startG (hh:A.handled=none) (W₀:∀ A':Around,A'.handled=none→Walks prog w A' I [I,ax] [I] vs.size (fun i v=>vs[i]?=some v) St₀) (hobj:∀ i h,St₀ i h→∃ o,h.get? I=some o)
  (hx:cenv.kindOf x=some .local) (hp:(cenv.scope.kind == .class || (cenv.scope.kind == .module && cenv.locals != cenv.globals))=false)
  (hco:cenv.scope.isCoroutine=false) (hCI:cenv.locals ≠ I) (hCa:cenv.locals ≠ ax) (hSC:cenv.locals ≠ S) (hSI:I ≠ S) (hSa:ax ≠ S) (hgC:g.get? cenv.locals=none) (hgI:g.get? I=none) (hgS:g.get? S=none)
  (hF:∀ i v h h',Grown h h'→F i v h→F i v h') (hq:EltOk prog w cenv x elt vs F g (A.depth + 1) (A.units + 3)) (s₀ s:Shared) (m:Str→Option Value) (hst:St₀ 0 s.heap) (hn:s.heap.Ns cenv.locals m) (hs:Sn cenv.locals I s₀ s) (hg:Grown g s.heap) :
  Seg (model prog w) A (gEnd (.ok .next) cenv.locals I) (gProto cenv.locals I S vs.size F) vs.size s₀
   (.compStart (.GeneratorExp elt [⟨.Name x px,iter,[],0⟩] scope pos) 0 (.ref I) .none cenv)
   ((model prog w).den (.compStart (.GeneratorExp elt [⟨.Name x px,iter,[],0⟩] scope pos) 0 (.ref I) .none cenv)) [] s:=by
 have hh':(A.over (.compStart (.GeneratorExp elt [⟨.Name x px,iter,[],0⟩] scope pos) 0 (.ref I) .none cenv) []).handled=none:=hh
 have loop:=seg_loopG (iter:=iter) (px:=px) (scope:=scope) (pos:=pos) hh W₀ hobj hx hp hco hCI hCa hSC hSI hSa hgC hgI hgS hF hq vs.size 0 s₀ s m (Nat.sub_zero _) (Nat.zero_le _) hst hn hs hg
 refine (?_:Seg _ A _ _ _ s₀ _ ((compStart (.GeneratorExp elt [⟨.Name x px,iter,[],0⟩] scope pos) 0 (.ref I) .none cenv).onRaise (leaving cenv)) [] s)
 unfold compStart
 rw [Sem.onRaise_eq_wrap]
 refine (?_:Seg _ A _ _ _ s₀ _ ((ask >>= _).wrap _ _ _ _) [] s)
 refine seg_bind_wrap (wpAny_askSetting ?_)
 split
 ·exact seg_again rfl loop
 ·refine seg_bind_wrap (wpAny_rule ?_)
  refine (?_:Seg _ A _ _ _ s₀ _ ((standAt iter.pos >>= _).wrap _ _ _ _) [] s)
  exact seg_bind_wrap (wpAny_standAt (seg_bind_wrap ((W₀ _ hh').self 0 s _ _ hst (seg_again rfl loop))))
end
theorem pyNextQ {e:Result} (he:e=.ok .next∨e=.ok (.ret .none)) {E:Value→Shared→Prop} {a:Addr} {g n:Nat} {gs:GenState} {P:Nat→Shared→Shared→Prop} {Y:Protocol} {Q:Option Value→Shared→Prop} (hh:A.handled=none)
  (hl:s.heap.NoLimit) (hroom:A.depth < recursionLimit) (hg:s.heap.IsGen a g) (hgs:s.gens[g]?=some gs)
  (hgo:gs.Goes (model prog w) A.in1 (fun n s₀ r s₁=>r=e∧P n s₀ s₁) Y n (.send .none) (s.setGen g .running))
  (hY:∀ v s₁ gs',gs'.bare=true→Y (n - 1) (s.setGen g .running) v s₁ (fun r' s''=>match n with
    | 0=>False
    | m + 1=>gs'.Goes (model prog w) A.in1 (fun n s₀ r s₁=>r=e∧P n s₀ s₁) Y m r' s'')→Q (some v) (s₁.setGen g gs'))
  (hP:∀ s₁,P n (s.setGen g .running) s₁→∀ h',(∀ b o,s₁.heap.get? b=some o→h'.get? b=some o)→Q none { s₁.setGen g .finished with heap:=h' }) :
  wpAny (model prog w) A (pyNext (.ref a)) Q E s:=by
 rcases he with rfl | rfl
 ·exact wpAny_pyNext_genexpQ hh hl hroom hg hgs hgo hY hP
 ·unfold pyNext
  refine wpAny_bind (wpAny_attempt (wpAny_callSpecial?_slot (name:=Str.ofString "__next__") hg.typeIs slot_gen_next (wpAny_call_entry slot_gen_next hg.typeIs entry_gen_next ?_ (args_gen_next _))))
  refine (?_:wpAny _ A.in1 (Builtin.Generator.genWake (.ref a) (.send .none)) _ _ s)
  unfold Builtin.Generator.genWake
  refine wpAny_bind (wpAny_holding (wpAny_genNumber hg (wpAny_bind (wpAny_genState hgs ?_))))
  cases gs with
  | running=>exact hgo.elim
  | finished=>exact hgo.elim
  | _ =>
   refine wpAny_bind (wpAny_roomToWake hl hroom ?_)
   refine (?_:wpAny _ A.in1 (.resume g (.send .none) [] _) _ _ s)
   refine wpAny_resumeQ hgs hgo (fun x s₁ hx=>?_) (fun v s₁ gs' hb hv=>?_)
   ·refine byc fun b_=>?_
    obtain ⟨rfl,hp⟩:=hx
    refine b_ ?_;clear b_
    refine (?_:wpAny _ A.in1 (newExc (.type "StopIteration") [] >>= _) _ _ _)
    refine wpAny_bind ?_
    simp -iota only [newExc,newTuple]
    refine wpAny_bind (wpAny_newObj_type ?_ (by size_fits))
    refine wpAny_bind (m:=firstArgMember _ _) (wpAny_of_eq (a:=Value.none) (by first | rfl | (simp -iota only [firstArgMember];rfl)) ?_)
    refine wpAny_newObj_type ?_ (by size_fits)
    simp -iota only [raiseNew]
    refine wpAny_bind (wpAny_bind (wpAny_handled ?_))
    first | rw [show A.in1.handled=none from hh] | rw [hh]
    refine wpAny_throw ?_
    refine wpAny_bind (wpAny_isInstance (T:="StopIteration") (b:=true) ⟨_,Heap.get?_push_size _ rfl,rfl⟩ isSubtype_stop ?_)
    exact wpAny_pure (hP s₁ hp _ fun b o hb=>Heap.get?_push_of_some _ (Heap.get?_push_of_some _ hb))
   ·exact wpAny_pure ⟨v,rfl,wpAny_pure (hY v s₁ gs' hb hv)⟩
noncomputable def GenH (prog:Program) (w:World) (A:Around) (e:Result) (a:Addr) (g:Nat) (C I S:Addr) (N:Nat) (F:Nat→Value→Heap→Prop) (j:Nat) (s:Shared):Prop :=
 s.heap.IsGen a g∧s.heap.NoLimit∧∃ gs,s.gens[g]?=some gs∧∀ s'':Shared,(∀ b o,b ≠ S→s.heap.get? b=some o→s''.heap.get? b=some o) →
  gs.Goes (model prog w) A.in1 (gEnd e C I) (gProto C I S N F) (N - j) (.send .none) s''
inductive Went (g:Nat) (s s':Shared) (K:Addr→Prop):Prop
 | mk (h' tk g':_) (cj1:s'={ s with heap:=h',toks:=tk,gens:=g' }) (cj2:(∀ b o,¬ K b→s.heap.get? b=some o→h'.get? b=some o)) (cj3:GenOnlyQ g s.gens g'):Went g s s' K
theorem Went.trans {g:Nat} {s s' s'':Shared} {K:Addr→Prop} (x:Went g s s' K) (y:Went g s' s'' K):Went g s s'' K:=by
 refine byc fun b_=>?_
 obtain ⟨h1,t1,g1,rfl,k1,q1⟩:=x
 obtain ⟨h2,t2,g2,rfl,k2,q2⟩:=y
 refine b_ ?_;clear b_
 exact ⟨h2,t2,g2,rfl,fun b o hb e=>k2 b o hb (k1 b o hb e),GenOnlyQ.trans q1 q2⟩
theorem Went.mono {g:Nat} {s s':Shared} {K K':Addr→Prop} (x:Went g s s' K) (h:∀ b,K b→K' b):Went g s s' K':=by
 refine byc fun b_=>?_
 obtain ⟨h1,t1,g1,rfl,k1,q1⟩:=x
 refine b_ ?_;clear b_
 exact ⟨h1,t1,g1,rfl,fun b o hb e=>k1 b o (fun q=>hb (h b q)) e,q1⟩
section
variable {e:Result} {a C I S:Addr} {g N:Nat} {F:Nat→Value→Heap→Prop} {E:Value→Shared→Prop}
theorem GenH.frame {j:Nat} {s:Shared} (x:GenH prog w A e a g C I S N F j s) {h':Heap} {tk:Nat} (ha:a ≠ S) (hc:cStatics ≠ S) (hk:∀ b o,b ≠ S→s.heap.get? b=some o→h'.get? b=some o):GenH prog w A e a g C I S N F j { s with heap:=h',toks:=tk }:=by
 refine byc fun b_=>?_
 obtain ⟨⟨o,nm,qn,ho,r⟩,⟨mc,hns,hnn⟩,gs,hgs,hgo⟩:=x
 refine b_ ?_;clear b_
 exact ⟨⟨o,nm,qn,hk _ _ ha ho,r⟩,⟨mc,hns.at' fun o e=>hk _ o hc e,hnn⟩,gs,hgs,fun s'' hal=>hgo s'' fun b o hb e=>hal b o hb (hk b o hb e)⟩
theorem genH_item {j:Nat} {Q:Option Value→Shared→Prop} (he:e=.ok .next∨e=.ok (.ret .none)) (hh:A.handled=none) (hroom:A.depth < recursionLimit) (haC:a ≠ C) (haI:a ≠ I) (hcC:cStatics ≠ C) (hcI:cStatics ≠ I) (hj:j < N) (st:GenH prog w A e a g C I S N F j s)
  (hQ:∀ v s',Went g s s' (fun b=>b=C∨b=I)→(∀ b,s.heap.get? b ≠ none→s'.heap.get? b ≠ none)→F j v (part s.heap s'.heap)→GenH prog w A e a g C I S N F (j + 1) s'→Q (some v) s'):wpAny (model prog w) A (pyNext (.ref a)) Q E s:=by
 refine byc fun b_=>?_
 obtain ⟨hg,hl,gs,hgs,hgo⟩:=st
 obtain ⟨m,hm⟩:∃ m,N - j=m + 1:=⟨N - j - 1,(Nat.sub_add_cancel (Nat.sub_pos_of_lt hj)).symm⟩
 refine b_ ?_;clear b_
 rw [hm] at hgo
 refine pyNextQ he (P:=fun n s₀ s₁=>n=0∧Sn C I s₀ s₁) hh hl hroom hg hgs (hgo _ fun _ _ _ e=>e) (fun v s₁ gs' hb hv=>?_) (fun s₁ hp h' hk=>?_)
 ·refine byc fun b_=>?_
  obtain ⟨⟨h₁,tk₁,rfl,hk₁⟩,hlv,hF,hkap⟩:=hv
  refine b_ ?_;clear b_
  have hidx:N - 1 - (m + 1 - 1)=j:=idx_back hm
  rw [hidx] at hF
  refine hQ v _ ⟨h₁,tk₁,_,rfl,fun b o hb e=>hk₁ b o (fun q=>hb (.inl q)) (fun q=>hb (.inr q)) e,?_⟩ hlv hF ⟨let ⟨o,nm,qn,ho,r⟩:=hg;⟨o,nm,qn,hk₁ a o haC haI ho,r⟩,(let ⟨mc,hns,hnn⟩:=hl;⟨mc,hns.at' fun o e=>hk₁ cStatics o hcC hcI e,hnn⟩),gs',setGen_self (gs:=.running) (setGen_self hgs),fun s'' hal=>?_⟩
  ·exact GenOnlyQ.of ((GenOnly.setGen s g .running).trans (GenOnly.setGen { s.setGen g .running with heap:=h₁,toks:=tk₁ } g gs')) (setGen_self (gs:=.running) (setGen_self hgs)) hb
  ·have e:N - (j + 1)=m:=idx_next hm
   rw [e]
   exact hkap s'' hal
 ·exact absurd hp.1 (Nat.succ_ne_zero m)
theorem genH_done {Q:Option Value→Shared→Prop} (he:e=.ok .next∨e=.ok (.ret .none)) (hh:A.handled=none) (hroom:A.depth < recursionLimit) (st:GenH prog w A e a g C I S N F N s)
  (hQ:∀ s',Went g s s' (fun b=>b=C∨b=I)→Q none s'):wpAny (model prog w) A (pyNext (.ref a)) Q E s:=by
 refine byc fun b_=>?_
 obtain ⟨hg,hl,gs,hgs,hgo⟩:=st
 refine b_ ?_;clear b_
 rw [Nat.sub_self] at hgo
 refine pyNextQ he (P:=fun n s₀ s₁=>n=0∧Sn C I s₀ s₁) hh hl hroom hg hgs (hgo _ fun _ _ _ e=>e) (fun v s₁ gs' hb hv=>?_) (fun s₁ hp h' hk=>?_)
 ·refine byc fun b_=>?_
  obtain ⟨_,_,_,hkap⟩:=hv
  refine b_ ?_;clear b_
  exact False.elim (hkap s₁ fun _ _ _ e=>e)
 ·refine byc fun b_=>?_
  obtain ⟨_,h₁,tk₁,rfl,hk₁⟩:=hp
  refine b_ ?_;clear b_
  refine hQ _ ⟨h',tk₁,_,rfl,fun b o hb e=>hk b o (hk₁ b o (fun q=>hb (.inl q)) (fun q=>hb (.inr q)) e),?_⟩
  exact GenOnlyQ.of ((GenOnly.setGen s g .running).trans (GenOnly.setGen { s.setGen g .running with heap:=h₁,toks:=tk₁ } g .finished)) (setGen_self (gs:=.running) (setGen_self hgs)) rfl
noncomputable def ItemsH (F:Nat→Value→Heap→Prop) (href h:Heap) (acc:Array Value) (i:Nat):Prop:=acc.size=i∧∀ j v,acc[j]?=some v→F j v (part href h)
set_option tactic.hygienic true in
theorem extendH (he:e=.ok .next∨e=.ok (.ret .none)) (hh:A.handled=none) (hroom:A.in1.depth < recursionLimit) (haC:a ≠ C) (haI:a ≠ I) (haS:a ≠ S) (hcC:cStatics ≠ C) (hcI:cStatics ≠ I) (hcS:cStatics ≠ S) (hSC:S ≠ C) (hSI:S ≠ I) (hn:N ≤ sizeLine) (hF:∀ i v h h',Grown h h'→F i v h→F i v h')
  (href:Heap) (lC:href.get? C ≠ none) (lI:href.get? I ≠ none) (lS:href.get? S ≠ none) (res:Value) {R:Result→Shared→Prop} :
  ∀ (k i:Nat) (s:Shared) (acc:Array Value) (c:Nat),N - i=k→i ≤ N→GenH prog w A.in1 e a g C I S N F i s→s.heap.get? S=some { cls:=.type "list",dict:=none,data:=.seq acc c,slots:=#[] }→(∀ b,href.get? b ≠ none→s.heap.get? b ≠ none)→ItemsH F href s.heap acc i →
  (∀ s' acc' c',Went g s s' (fun b=>b=C∨b=I∨b=S)→s'.heap.get? S=some { cls:=.type "list",dict:=none,data:=.seq acc' c',slots:=#[] }→ItemsH F href s'.heap acc' N→R (.ok (.ret res)) s') →
  codeAny (model prog w) A (.builtin "list.extend.loop" ⟨[.ref S,.ref a,res],[]⟩) R s:=by
 have wd:∀ b,(b=C∨b=I)→(b=C∨b=I∨b=S):=fun b h=>h.elim .inl fun q=>.inr (.inl q)
 have nS:¬ (S=C∨S=I):=fun h=>h.elim hSC hSI
 intro k
 induction k with
 | zero =>
  intro i s acc c hk hi hst hS hlv hacc hR
  have hin:i=N:=idx_end hk hi
  refine byc fun b_=>?_
  subst hin
  refine b_ ?_;clear b_
  refine codeAny_builtin PySem.F.entry_extend_loop ?_
  rw [Around.under_plainId PySem.F.plain_extend_loop _]
  show wpAny _ A.in1 (pyNext (.ref a) >>= _) _ _ s
  refine wpAny_bind (genH_done (A:=A.in1) he hh hroom hst fun s' hm=>?_)
  refine wpAny_pure (hR s' acc c (hm.mono wd) ?_ ?_)
  ·obtain ⟨h',tk,g',rfl,hk',_⟩:=hm;exact hk' S _ nS hS
  ·refine ⟨hacc.1,fun j v e=>hF _ _ _ _ ?_ (hacc.2 j v e)⟩
   refine byc fun b_=>?_
   obtain ⟨h',tk,g',rfl,hk',_⟩:=hm
   refine b_ ?_;clear b_
   exact part_grown (fun b h=>h) fun b o hb e=>hk' b o (fun q=>by rcases q with q | q <;> rw [q] at hb <;> first | exact lC hb | exact lI hb) e
 | succ k ih =>
  intro i s acc c hk hi hst hS hlv hacc hR
  have hlt:i < N:=idx_lt hk
  refine codeAny_builtin PySem.F.entry_extend_loop ?_
  rw [Around.under_plainId PySem.F.plain_extend_loop _]
  show wpAny _ A.in1 (pyNext (.ref a) >>= _) _ _ s
  refine wpAny_bind (genH_item (A:=A.in1) he hh hroom haC haI hcC hcI hlt hst fun v s' hm hl' hFv hst'=>?_)
  refine byc fun b_=>?_
  obtain ⟨h',tk,g',rfl,hk',hgq⟩:=hm
  refine b_ ?_;clear b_
  have hS':=hk' S _ nS hS
  show wpAny _ A.in1 (updateSeq S (·.push v) >>= _) _ _ _
  refine wpAny_bind ?_
  have oth:∀ b o,b ≠ S→h'.get? b=some o→(h'.update S (Obj.mapSeq (·.push v))).get? b=some o:=fun b o hb e=>(Heap.get?_update_other _ _ (Ne.symm hb)).trans e
  refine wpAny_updateSeq hS' rfl (wpAny_pure ⟨plainId_quiet PySem.F.plain_extend_loop _,ih (i + 1) _ (acc.push v) _ (idx_next hk) hlt (GenH.frame hst' haS hcS (h':=h'.update S (Obj.mapSeq (·.push v))) (tk:=tk) oth) (Heap.get?_update_self _ hS' rfl) ?_ ?_ fun s'' acc' c' hm'' hS'' hacc'=>?_⟩)
   (by rw [hacc.1];exact Nat.le_trans hi hn) (by rw [Array.size_push,hacc.1];exact Nat.succ_le_succ (Nat.le_trans hi hn))
  ·intro b hb
   have h1:=hl' b (hlv b hb)
   by_cases q:b=S
   ·refine byc fun b_=>?_
    subst q
    refine b_ ?_;clear b_
    rw [show Heap.get? _ b=_ from Heap.get?_update_self _ hS' rfl];simp
   ·cases e:h'.get? b with
    | none=>exact absurd e h1
    | some o=>rw [show Heap.get? _ b=_ from oth b o q e];simp
  ·refine ⟨by rw [Array.size_push,hacc.1],fun j u e=>?_⟩
   rw [Array.getElem?_push] at e
   have gr:Grown (part href h') (part href (h'.update S (Obj.mapSeq (·.push v)))):=part_grown (fun b h=>h) fun b o hb e=>oth b o (fun q=>by rw [q] at hb;exact lS hb) e
   split at e
   ·rename_i ej;rw [hacc.1] at ej;cases e;rw [ej]
    exact hF _ _ _ _ (Grown.trans (part_grown hlv fun b o _ e=>e) gr) hFv
   ·refine hF _ _ _ _ (Grown.trans ?_ gr) (hacc.2 j u e)
    exact part_grown (fun b h=>h) fun b o hb e=>hk' b o (fun q=>by rcases q with q | q <;> rw [q] at hb <;> first | exact lC hb | exact lI hb) e
  ·refine hR s'' acc' c' (Went.trans (s':={ s with heap:=h'.update S (Obj.mapSeq (·.push v)),toks:=tk,gens:=g' }) ⟨_,_,_,rfl,fun b o hb e=>oth b o (fun q=>hb (.inr (.inr q))) (hk' b o (fun q=>hb (wd b q)) e),hgq⟩ hm'') hS'' hacc'
end
section
variable {e:Result} {a C I:Addr} {g N:Nat} {F:Nat→Value→Heap→Prop} {E:Value→Shared→Prop}
noncomputable def Drained (g:Nat) (C I:Addr) (N:Nat) (F:Nat→Value→Heap→Prop) (s s':Shared) (acc:Array Value):Prop :=
 Went g s s' (fun b=>b=C∨b=I)∧acc.size=N∧∀ j v,acc[j]?=some v→F j v (part s.heap s'.heap)
theorem collectH {Q:List Value→Shared→Prop} (he:e=.ok .next∨e=.ok (.ret .none)) (hh:A.handled=none) (hroom:A.in1.depth < recursionLimit) (haC:a ≠ C) (haI:a ≠ I) (hcC:cStatics ≠ C) (hcI:cStatics ≠ I) (hn:N ≤ sizeLine) (hF:∀ i v h h',Grown h h'→F i v h→F i v h')
  (lC:s.heap.get? C ≠ none) (lI:s.heap.get? I ≠ none) (hst:GenH prog w A.in1 e a g C I s.heap.objs.size N F 0 s)
  (hQ:∀ s' acc,Drained g C I N F s s' acc→Q acc.toList s'):wpAny (model prog w) A (collect (.ref a)) Q E s:=by
 have lt':∀ {b:Addr},s.heap.get? b ≠ none→b < s.heap.objs.size:=fun {b} h=>by
  cases e:s.heap.get? b with
  | none=>exact absurd e h
  | some o=>exact Heap.lt_size e
 have hT:s.TypeIs (.ref a) "generator":=hst.1.typeIs
 have haS:a ≠ s.heap.objs.size:=Nat.ne_of_lt (let ⟨_,_,_,ho,_⟩:=hst.1;Heap.lt_size ho)
 have hcS:cStatics ≠ s.heap.objs.size:=Nat.ne_of_lt (let ⟨_,hn,_⟩:=hst.2.1;hn.lt)
 have hCS:=Nat.ne_of_lt (lt' lC)
 have hIS:=Nat.ne_of_lt (lt' lI)
 unfold collect
 refine wpAny_bind (wpAny_runValue (codeAny_builtin PySem.F.entry_proto_collect ?_))
 rw [Around.under_plainId PySem.F.plain_proto_collect _]
 show wpAny _ A.in1 (newList [] >>= fun l=>again (.builtin "list.__iadd__" ⟨[l,.ref a],[]⟩)) _ _ s
 refine wpAny_bind (wpAny_newObj_type ?_)
 refine wpAny_pure ⟨plainId_quiet PySem.F.plain_list_iadd _,codeAny_builtin PySem.F.entry_list_iadd ?_⟩
 rw [Around.under_plainId PySem.F.plain_list_iadd _]
 have hst₁:=GenH.frame hst haS hcS (h':=s.heap.push { cls:=.type "list",data:=.seq ([]:List Value).toArray }) (tk:=s.toks) fun b o _ e=>Heap.get?_push_of_some _ e
 have hT₁:Shared.TypeIs { s with heap:=s.heap.push { cls:=.type "list",data:=.seq ([]:List Value).toArray },toks:=s.toks } (.ref a) "generator":=hst₁.1.typeIs
 show wpAny _ A.in1 (Builtin.List.listExtendWith (.ref s.heap.objs.size) (.ref a) (.ref s.heap.objs.size)) _ _ _
 unfold Builtin.List.listExtendWith
 refine wpAny_bind (wpAny_typeOf hT₁ ?_)
 have h1:Builtin.List.listSameRef (.ref s.heap.objs.size) (.ref a)=false:=by simp [Builtin.List.listSameRef,Ne.symm haS]
 have h2:(Value.type "generator" == Value.type "list")=false:=by decide
 have h3:(Value.type "generator" == Value.type "tuple")=false:=by decide
 simp -iota only [h1,h2,h3,Bool.or_false,Bool.false_eq_true,if_false]
 refine wpAny_bind (wpAny_pyIter_gen hst₁.1 ?_)
 refine wpAny_bind (wpAny_holding ?_)
 unfold Builtin.List.listLengthHint
 refine wpAny_bind (wpAny_specialOf hT₁ PySem.F.gen_no_len ?_)
 show wpAny _ A.in1 (specialOf (Value.ref a) (Str.ofString "__length_hint__") >>= _) _ _ _
 refine wpAny_bind (wpAny_specialOf hT₁ PySem.F.gen_no_hint ?_)
 refine wpAny_pure ?_
 show wpAny _ A.in1 (rule "list.extend.makes-room" >>= fun _=>Builtin.List.listTouch (.ref s.heap.objs.size) >>= fun _ =>
  again (.builtin "list.extend.loop" ⟨[.ref s.heap.objs.size,.ref a,.ref s.heap.objs.size],[]⟩)) _ _ _
 refine wpAny_bind (wpAny_rule ?_)
 have hS₁:(s.heap.push { cls:=.type "list",data:=.seq ([]:List Value).toArray }).get? s.heap.objs.size=some { cls:=.type "list",data:=.seq ([]:List Value).toArray }:=Heap.get?_push_size _ rfl
 refine wpAny_bind ?_
 show wpAny _ A.in1 (updateSeq s.heap.objs.size (·.push .none) >>= fun _=>updateSeq s.heap.objs.size (·.pop)) _ _ _
 refine wpAny_bind (wpAny_updateSeq hS₁ rfl ?_)
 have hS₂:=Heap.get?_update_self (Obj.mapSeq (·.push Value.none)) hS₁ rfl
 refine wpAny_updateSeq hS₂ rfl ?_
 have hS₃:=Heap.get?_update_self (Obj.mapSeq (·.pop)) hS₂ rfl
 have oth:∀ b o,b ≠ s.heap.objs.size→(s.heap.push { cls:=.type "list",data:=.seq ([]:List Value).toArray }).get? b=some o →
   (((s.heap.push { cls:=.type "list",data:=.seq ([]:List Value).toArray }).update s.heap.objs.size (Obj.mapSeq (·.push Value.none))).update s.heap.objs.size (Obj.mapSeq (·.pop))).get? b=some o :=
  fun b o hb e=>(Heap.get?_update_other _ _ (Ne.symm hb)).trans ((Heap.get?_update_other _ _ (Ne.symm hb)).trans e)
 obtain ⟨h₀,eh₀⟩:∃ h₀,h₀=((s.heap.push { cls:=.type "list",data:=.seq ([]:List Value).toArray }).update s.heap.objs.size (Obj.mapSeq (·.push Value.none))).update s.heap.objs.size (Obj.mapSeq (·.pop)):=⟨_,rfl⟩
 rw [← eh₀] at hS₃ oth
 have kp:Grown s.heap h₀:=fun b o e=>oth b o (Nat.ne_of_lt (Heap.lt_size e)) (Heap.get?_push_of_some _ e)
 have lv:∀ b,s.heap.get? b ≠ none→h₀.get? b ≠ none:=fun b hb=>by
  cases e:s.heap.get? b with
  | none=>exact absurd e hb
  | some o=>rw [kp b o e];simp
 have hst₃:GenH prog w A.in1 e a g C I s.heap.objs.size N F 0 { s with heap:=h₀,toks:=s.toks }:=GenH.frame hst₁ haS hcS (h':=h₀) (tk:=s.toks) oth
 refine wpAny_pure ⟨plainId_quiet PySem.F.plain_extend_loop _,?_⟩
 rw [← eh₀]
 refine extendH he hh hroom haC haI haS hcC hcI hcS (Ne.symm hCS) (Ne.symm hIS) hn hF h₀ (lv _ lC) (lv _ lI) (by rw [hS₃];simp) _ N 0 _ _ _ rfl (Nat.zero_le _) hst₃ hS₃ (fun b h=>h) ⟨rfl,fun j v e=>by simp at e⟩ fun s' acc' c' hm hS' hacc=>?_
 show wpAny _ A (load s.heap.objs.size >>= _) _ _ s'
 refine wpAny_bind (wpAny_load hS' ?_)
 refine wpAny_pure (hQ s' acc' ⟨?_,hacc.1,fun j v e=>hF _ _ _ _ (part_grown lv fun b o _ e=>e) (hacc.2 j v e)⟩)
 obtain ⟨h',tk,g',rfl,hk',hgq⟩:=hm
 exact ⟨h',tk,g',rfl,fun b o hb e=>hk' b o (fun q=>by
  rcases q with q | q | q
  ·exact hb (.inl q)
  ·exact hb (.inr q)
  ·rw [q] at e;exact absurd (Heap.lt_size e) (Nat.lt_irrefl _)) (kp b o e),hgq⟩
theorem tuple_newH {Q₁:Value→Shared→Prop} (he:e=.ok .next∨e=.ok (.ret .none)) (hh:A.handled=none) (hroom:A.in1.in1.depth < recursionLimit) (haC:a ≠ C) (haI:a ≠ I) (hcC:cStatics ≠ C) (hcI:cStatics ≠ I) (hn:N ≤ sizeLine) (hF:∀ i v h h',Grown h h'→F i v h→F i v h')
  (lC:s.heap.get? C ≠ none) (lI:s.heap.get? I ≠ none) (hst:GenH prog w A.in1.in1 e a g C I s.heap.objs.size N F 0 s)
  (h:∀ s' acc,Drained g C I N F s s' acc→Q₁ (.ref s'.heap.objs.size) { s' with heap:=s'.heap.push { cls:=.type "tuple",data:=.seq acc } }) :
  codeAny (model prog w) A (.call (.builtin "tuple.__new__") ⟨[.type "tuple",.ref a],[]⟩) (wants Q₁ E) s:=by
 refine codeAny_of_tree ?_
 refine (?_:wpAny _ A.in1 (do checkBuiltinCall "tuple.__new__" ⟨[.type "tuple",.ref a],[]⟩;again (.builtin "tuple.__new__" ⟨[.type "tuple",.ref a],[]⟩)) _ _ s)
 refine wpAny_bind (wpAny_of_eq (PySem.F.newCall_tuple_1 _) (wpAny_pure ⟨plainId_quiet PySem.F.plain_tuple_new _,codeAny_builtin PySem.F.entry_tuple_new ?_⟩))
 rw [Around.under_plainId PySem.F.plain_tuple_new _]
 have hsub:=sub_tuple_self
 have hinit:=init_tuple_lookup
 have hmh:=madeHere_tuple
 have hTI:s.TypeIs (.ref a) "generator":=hst.1.typeIs
 wp_walk using wpAny_typeOf hTI,collectH (A:=A.in1) he hh hroom haC haI hcC hcI hn hF lC lI hst
 intro s' acc hd
 refine (?_:wpAny _ _ (Builtin.Tuple.tupleExact acc.toList.toArray >>= fun v=>ret v) _ _ _)
 unfold Builtin.Tuple.tupleExact
 refine wpAny_bind (wpAny_newObj_type ?_ (by show acc.toList.toArray.size ≤ sizeLine;simp -iota only [Array.toArray_toList];rw [hd.2.1];exact hn))
 refine wpAny_pure ?_
 have e:acc.toList.toArray=acc:=by simp
 rw [e]
 exact h s' acc hd
theorem call_tupleH {Q:Value→Shared→Prop} (he:e=.ok .next∨e=.ok (.ret .none)) (hh:A.handled=none) (hroom:A.in1.in1.in1.depth < recursionLimit) (haC:a ≠ C) (haI:a ≠ I) (hcC:cStatics ≠ C) (hcI:cStatics ≠ I) (hn:N ≤ sizeLine) (hF:∀ i v h h',Grown h h'→F i v h→F i v h')
  (lC:s.heap.get? C ≠ none) (lI:s.heap.get? I ≠ none) (hst:GenH prog w A.in1.in1.in1 e a g C I s.heap.objs.size N F 0 s)
  (hQ:∀ s' acc,Drained g C I N F s s' acc→Q (.ref s'.heap.objs.size) { s' with heap:=s'.heap.push { cls:=.type "tuple",data:=.seq acc } }) :
  wpAny (model prog w) A (call (.type "tuple") [.ref a]) Q E s:=by
 refine callType_codes (Q₁:=fun obj s₁=>s₁.TypeIs obj "tuple"∧Q obj s₁) PySem.F.called_tuple (PySem.F.typeCall_tuple_1 _) PySem.F.entry_object_init
  (tuple_newH (A:=A.in1) he hh hroom haC haI hcC hcI hn hF lC lI hst fun s' acc hd=>⟨⟨_,Heap.get?_push_size _ rfl,rfl⟩,hQ s' acc hd⟩) fun obj s₁ h₁=>?_
 exact ⟨h₁.1,PySem.F.args_object_init_2 obj _,object_init_meets PySem.F.called_tuple.init.lookup PySem.F.called_tuple.made (by decide) prog w A.in1 _ s₁ ⟨h₁.1,rfl,h₁.2⟩⟩
end
noncomputable def ents (q:Heap):List (Addr × Obj):=(live q).filterMap fun b=>(q.get? b).map (b,·)
theorem mem_ents {q:Heap} {b:Addr} {o:Obj}:(b,o) ∈ ents q↔q.get? b=some o:=by
 unfold ents
 rw [List.mem_filterMap]
 constructor
 ·rintro ⟨a,_,e⟩
  cases h:q.get? a with
  | none=>rw [h] at e;cases e
  | some x=>rw [h] at e;simp only [Option.map_some,Option.some.injEq,Prod.mk.injEq] at e;rw [← e.1,h,e.2]
 ·intro e
  exact ⟨b,mem_live.mpr (by rw [e];simp),by rw [e];rfl⟩
noncomputable def Sub (q:Heap) (news:List (Addr × Obj)):Prop:=∀ b o,q.get? b=some o→(b,o) ∈ news
theorem Sub.grown {q h₀ h:Heap} {L:Addr} {news:List (Addr × Obj)} (S:Sub q news) (N:News h₀ L h news):Grown q h:=fun b o e=>(N _ (S b o e)).1
theorem Sub.le {q:Heap} {a b:List (Addr × Obj)} (S:Sub q a) (h:∀ p ∈ a,p ∈ b):Sub q b:=fun x o e=>h _ (S x o e)
noncomputable def isTabB (o:Obj):Bool:=match o.cls with
 | .none=>true
 | _=>false
noncomputable def NotT (nl:List (Addr × Obj)):Prop:=∀ p ∈ nl,p.1 ≠ 323
theorem NotT.nil:NotT []:=fun _ h=>nomatch h
inductive NoTab (nl:List (Addr × Obj)):List (Addr × Obj)→(List (Addr × Obj)→List (Addr × Obj))→Prop
 | tail (h:NotT nl):NoTab nl nl fun t=>t
 | skip {o:Obj} {r:List (Addr × Obj)} {f:List (Addr × Obj)→List (Addr × Obj)}:NoTab nl r f→NoTab nl ((323,o)::r) f
 | keep {x:Addr} {o:Obj} {r:List (Addr × Obj)} {f:List (Addr × Obj)→List (Addr × Obj)}:isTabB o=false→NoTab nl r f→NoTab nl ((x,o)::r) fun t=>(x,o)::f t
theorem noTab_ne {h₀ h:Heap} {L:Addr} {news:List (Addr × Obj)} {ps:Array Value} (N:News h₀ L h news) (ht:(323,tabObj ps) ∈ news) {p:Addr × Obj} (hp:p ∈ news) (e:isTabB p.2=false):p.1 ≠ 323:=fun q=>by
 have h1:=(N p hp).1
 have h2:h.get? 323=some (tabObj ps):=(N _ ht).1
 rw [q,h2] at h1
 rw [← Option.some.inj h1] at e
 cases e
theorem NoTab.mem {nl r t:List (Addr × Obj)} {f:List (Addr × Obj)→List (Addr × Obj)} (n:NoTab nl r f):∀ p ∈ f t,p ∈ t∨(p ∈ r∧(isTabB p.2=false∨p.1 ≠ 323)):=by
 induction n with
 | tail h=>exact fun p hp=>.inl hp
 | skip _ ih=>exact fun p hp=>(ih p hp).imp id fun q=>⟨List.mem_cons_of_mem _ q.1,q.2⟩
 | keep e _ ih =>
  intro p hp
  rcases List.mem_cons.mp hp with rfl | hp
  ·exact .inr ⟨List.mem_cons_self ..,.inl e⟩
  ·exact (ih p hp).imp id fun q=>⟨List.mem_cons_of_mem _ q.1,q.2⟩
theorem NoTab.nl {nl r:List (Addr × Obj)} {f:List (Addr × Obj)→List (Addr × Obj)} (n:NoTab nl r f):NotT nl∧∀ p ∈ nl,p ∈ r:=by
 induction n with
 | tail h=>exact ⟨h,fun _ h=>h⟩
 | skip _ ih=>exact ⟨ih.1,fun p hp=>List.mem_cons_of_mem _ (ih.2 p hp)⟩
 | keep e _ ih=>exact ⟨ih.1,fun p hp=>List.mem_cons_of_mem _ (ih.2 p hp)⟩
noncomputable def hid (h:Heap):Heap:=hideAll h [323]
theorem hid_of {h:Heap} {b:Addr} {o:Obj} (e:(hid h).get? b=some o):h.get? b=some o:=of_hideAll _ e
theorem hid_get {h:Heap} {b:Addr} {o:Obj} (e:h.get? b=some o) (n:b ≠ 323):(hid h).get? b=some o:=hideAll_get _ e fun m=>n (List.mem_singleton.mp m)
theorem hid_tab (h:Heap):(hid h).get? 323=none:=hideAll_none _ (List.mem_singleton.mpr rfl)
theorem hid_grown {h₀ h:Heap} (g:Grown h₀ h) (n:h₀.get? 323=none):Grown h₀ (hid h):=fun b o e=>hid_get (g b o e) fun q=>by rw [q,n] at e;cases e
structure TT (w:World) (p:Program) (loose:List Str) (mean:ExcName→Option Value) (mg mb:Str→Option Value) (s:Shared) (ps:Array Value):Prop where
 X:(hd.heap_1 w.params).In (hid s.heap)
 T:Top p loose mean mg mb (hid s.heap)
 tab:s.heap.get? 323=some (tabObj ps)
 tr:TriplesOk ps.toList
 ab:AllBare s.gens
theorem TT.nw {s:Shared} {ps:Array Value} (t:TT w p loose mean mg mb s ps):NewAbove (hid s.heap) s.heap [(323,tabObj ps)] where
 keep:=fun _ _ e=>hid_of e
 size:=Nat.le_of_eq (hideAll_size _ _)
 news:=fun q hq=>by rw [List.mem_singleton.mp hq];exact ⟨t.tab,hid_tab _⟩
inductive RetT (s:Shared) (Post:Value→Heap→Prop) (r:Result) (s':Shared):Prop
 | mk (v h' tk g' ps':_) (cj1:r=.ok (.ret v)) (cj2:s'={ s with heap:=h',toks:=tk,gens:=g' }) (cj3:(∀ b o,b ≠ 323→s.heap.get? b=some o→h'.get? b=some o)) (cj4:h'.get? 323=some (tabObj ps')) (cj5:TriplesOk ps'.toList) (cj6:AllBare g') (cj7:Post v (part s.heap h')):RetT s Post r s'
theorem retT_end {s:Shared} {L:Addr} {h':Heap} {m:Str→Option Value} {tk:Nat} {g':Array GenState} {v:Value} {Post:Value→Heap→Prop} {news:List (Addr × Obj)} {ps:Array Value} (F:Fr (hid s.heap) L h' m) (N:News (hid s.heap) L h' news) (ht:(323,tabObj ps) ∈ news) (tr:TriplesOk ps.toList) (ab:AllBare g')
  (h:Post v (part s.heap h')):RetT s Post (.ok (.ret v)) { s with heap:=h',toks:=tk,gens:=g' } :=
 ⟨v,h',tk,g',ps,rfl,rfl,fun b o n e=>F.keep _ _ (hid_get e n),(N _ ht).1,tr,ab,h⟩
theorem part_hid {h h':Heap} {b:Addr} {o:Obj} (e:h'.get? b=some o) (n:(hid h).get? b=none) (ne:b ≠ 323):(part h h').get? b=some o:=part_get e <| by
 cases q:h.get? b with
 | none=>rfl
 | some x=>rw [hid_get q ne] at n;cases n
theorem news_partT {h h':Heap} {L:Addr} {nl news:List (Addr × Obj)} {f:List (Addr × Obj)→List (Addr × Obj)} {ps:Array Value} (N:News (hid h) L h' news) (ht:(323,tabObj ps) ∈ news) (nt:NoTab nl news f):News (hid h) L (part h h') (f nl):=fun p hp=>by
 have:p ∈ news∧p.1 ≠ 323:=by
  rcases nt.mem p hp with q | ⟨m,e | e⟩
  ·exact ⟨nt.nl.2 p q,nt.nl.1 p q⟩
  ·exact ⟨m,noTab_ne N ht m e⟩
  ·exact ⟨m,e⟩
 exact ⟨part_hid (N p this.1).1 (N p this.1).2.2 this.2,(N p this.1).2⟩
section
variable {Q:Value→Shared→Prop} {E:Value→Shared→Prop} {h₀:Heap} {L:Addr} {m:Str→Option Value} {news news':List (Addr × Obj)} {ps:Array Value}
theorem tt_of (F:Fr h₀ L s.heap m) (N:News h₀ L s.heap news) (X:(hd.heap_1 w.params).In h₀) (T:Top p loose mean mg mb h₀) (ht:(323,tabObj ps) ∈ news) (tr:TriplesOk ps.toList) (ab:AllBare s.gens):TT w p loose mean mg mb s ps :=
 have g:=hid_grown F.keep (N _ ht).2.2
 ⟨X.keeps g,T.keeps g,(N _ ht).1,tr,ab⟩
theorem fr_tab {h h':Heap} (F:Fr h₀ L h m) (N:News h₀ L h news) (ht:(323,tabObj ps) ∈ news) (k:∀ b o,b ≠ 323→h.get? b=some o→h'.get? b=some o):Fr h₀ L h' m :=
 ⟨F.ns.at' fun o e=>k _ o (Ne.symm (N _ ht).2.1) e,fun b o e=>k b o (fun q=>by rw [q,(N _ ht).2.2] at e;cases e) (F.keep b o e),F.above⟩
theorem news_tab {h h':Heap} {ps':Array Value} {nl t:List (Addr × Obj)} {f:List (Addr × Obj)→List (Addr × Obj)} (N:News h₀ L h news) (ht:(323,tabObj ps) ∈ news) (nt:NoTab nl news f) (k:∀ b o,b ≠ 323→h.get? b=some o→h'.get? b=some o) (e:h'.get? 323=some (tabObj ps')) (Nt:News h₀ L h' t):News h₀ L h' ((323,tabObj ps')::f t):=fun p hp=>by
 rcases List.mem_cons.mp hp with rfl | hp
 ·exact ⟨e,(N _ ht).2⟩
 ·rcases nt.mem p hp with q | ⟨m,e2 | e2⟩
  ·exact Nt p q
  ·exact ⟨k _ _ (noTab_ne N ht m e2) (N p m).1,(N p m).2⟩
  ·exact ⟨k _ _ e2 (N p m).1,(N p m).2⟩
theorem news_ents {h h':Heap} (F:Fr h₀ L h m) (N:News h₀ L h' news) (k:∀ b o,h₀.get? b=some o→h.get? b ≠ none):News h₀ L h' (news++ents (part h h')):=fun p hp=>by
 rcases List.mem_append.mp hp with hp | hp
 ·exact N p hp
 ·obtain ⟨e1,e2⟩:=part_of (mem_ents.mp hp)
  refine ⟨e1,fun q=>?_,?_⟩
  ·obtain ⟨o,_,_,ho,_⟩:=F.ns
   rw [q,ho] at e2;cases e2
  ·cases q:h₀.get? p.1 with
   | none=>rfl
   | some o=>exact absurd e2 (k _ _ q)
theorem useT {f:Value} {args:List Value} {kw:List (Str × Value)} {Post:Value→Heap→Prop} {nl:List (Addr × Obj)} {c:List (Addr × Obj)→List (Addr × Obj)} (F:Fr h₀ L s.heap m) (N:News h₀ L s.heap news) (X:(hd.heap_1 w.params).In h₀) (T:Top p loose mean mg mb h₀) (ht:(323,tabObj ps) ∈ news) (tr:TriplesOk ps.toList) (ab:AllBare s.gens) (nt:NoTab nl news c)
  (C:TT w p loose mean mg mb s ps→codeAny (model prog w) A (.call f ⟨args,kw⟩) (RetT s Post) s)
  (h:∀ v h' tk g' ps' q nl',Fr h₀ L h' m→News h₀ L h' ((323,tabObj ps')::c nl')→TriplesOk ps'.toList→AllBare g'→Post v q→Sub q nl'→(∀ p ∈ nl,p ∈ nl')→NotT nl'→(∀ p ∈ nl',p ∈ nl∨s.heap.get? p.1=none)→Q v { s with heap:=h',toks:=tk,gens:=g' }):wpAny (model prog w) A (call f args kw) Q E s:=by
 refine wpAny_call (codeAny_mono (C (tt_of F N X T ht tr ab)) fun r s' hr=>?_)
 refine byc fun b_=>?_
 obtain ⟨v,h',tk,g',ps',rfl,rfl,hk,e,tr',ab',hp⟩:=hr
 refine b_ ?_;clear b_
 have F':=fr_tab F N ht hk
 have n0:News h₀ L h' nl:=fun p hp=>⟨hk _ _ (nt.nl.1 p hp) (N p (nt.nl.2 p hp)).1,(N p (nt.nl.2 p hp)).2⟩
 have n1:News h₀ L h' (nl++ents (part s.heap h')):=news_ents F n0 fun b o e=>by rw [F.keep b o e];simp
 refine h v h' tk g' ps' (part s.heap h') (nl++ents (part s.heap h')) F' (news_tab N ht nt hk e n1) tr' ab' hp (fun b o e=>List.mem_append_right _ (mem_ents.mpr e)) (fun p hp=>List.mem_append_left _ hp) (fun p hp=>?_) fun p hp=>(List.mem_append.mp hp).imp id fun hp=>(part_of (mem_ents.mp hp)).2
 rcases List.mem_append.mp hp with hp | hp
 ·exact nt.nl.1 p hp
 ·intro q
  have h1:=(part_of (mem_ents.mp hp)).2
  rw [q,(N _ ht).1] at h1;cases h1
end
theorem codeTab {M:Model} {env:Env} {c P:Addr} {ps:Array Value} {pos:Pos} {qn:Str} {scope:Scope} {Q:Value→Shared→Prop} {E:Value→Shared→Prop} (hc:env.code=.ref c) (H:CodeHd s.heap c P) (hP:s.heap.get? P=some (tabObj ps)) (tr:TriplesOk ps.toList)
  (hQ:∀ code h' tk ps',Heap.ExtBut P s.heap h'→h'.get? P=some (tabObj ps')→TriplesOk ps'.toList→Q code { s with heap:=h',toks:=tk }):wpAny M A (genexprCode env pos qn scope) Q E s:=by
 have hok:=H.code hP tr
 cases hnf:codeAmong pos ps.toList with
 | none =>
  refine wpAny_genexprCodeX hc hok (H.tab hP) hnf fun c' h' tk hk _ _ hcode _ htab _=>?_
  refine hQ _ h' tk _ hk htab.2 ?_
  refine byc fun b_=>?_
  obtain ⟨_,_,_,_,_,_,_,_,_,_,_,_,_,_,_,_,_,_,_,ht,_⟩:=hcode
  refine b_ ?_;clear b_
  exact ht
 | some cv =>
  refine byc fun b_=>?_
  obtain ⟨o,vs,file,tf,flags,tg,inF,text,tt,op,ho,hd,h11,h2,h7,h9,h10,hop,hpd,htr,hne⟩:=id hok
  refine b_ ?_;clear b_
  unfold genexprCode codeAt
  rw [hc,if_neg (show ¬ ((Value.ref c == Value.none)=true) from Bool.false_ne_true)]
  refine wpAny_bind (wpAny_fieldsOf ho hd ?_)
  rw [h11]
  refine wpAny_bind (wpAny_fieldsOf hop hpd ?_)
  rw [hnf]
  exact wpAny_pure (hQ cv s.heap s.toks ps (Heap.ExtBut.refl _ _) hP tr)
noncomputable def GenNext (prog:Program) (w:World) (A:Around) (elt:Expr) (x:Str) (px:Pos) (iter:Expr) (scope:Scope) (pos:Pos) (env:Env) (cl:List (Str × Addr)) (Q:Value→Shared→Prop) (E:Value→Shared→Prop) (xv:Value) (s₁:Shared):Prop :=
 wpAny (model prog w) A (pyIter xv) (fun it s₂=>s₂.heap.NoLimit ∧
   wpAny (model prog w) A (genexprCode env pos (env.qual++"<genexpr>") scope) (fun code s₃=>wpAny (model prog w) A (builtinsFor env.globals env.builtins) (fun bi s₄ =>
    ∀ h',h'.Ns s₄.heap.objs.size (fun y=>if y=".0" then some it else none)→Heap.SameBut s₄.heap.objs.size (s₄.heap.push { cls:=.type "frame",data:=.dict #[] }) h' →
     Q (.ref h'.objs.size) { s₄ with
      gens:=s₄.gens.push (.fresh (.compStart (.GeneratorExp elt [⟨.Name x px,iter,[],0⟩] scope pos) 0 it .none (genEnv scope cl s₄.heap.objs.size code bi env))),
      toks:=s₄.toks + 1 + 1 + 1,
      heap:=h'.push { cls:=.type "generator",data:=.fields #[.int s₄.gens.size 0,.str "<genexpr>" (s₄.toks + 1),.str (env.qual++"<genexpr>") (s₄.toks + 1 + 1)] } }) E s₃) E s₂) E s₁
theorem genEval {A:Around} {elt:Expr} {x:Str} {px:Pos} {iter:Expr} {scope:Scope} {pos:Pos} {env:Env} {cl:List (Str × Addr)} {Q:Value→Shared→Prop} {E:Value→Shared→Prop} {s:Shared}
  (hco:scope.isCoroutine=false) (hclos:closureFor scope env=pure cl) (hcell:∀ y ∈ scope.names,y.2 ≠ .cell) (h0:scope.names.lookup (".0":Str)=some NameKind.local) (hkind:scope.kind=.function) (hs:∀ x,genFold iter env x=pure x)
  (hroom:A.depth < recursionLimit) (h:wpAny (model prog w) A (eval iter env) (fun xv s₁=>Hold (GenNext prog w A elt x px iter scope pos env cl Q E xv s₁)) E s) :
  wpAny (model prog w) A (eval (.GeneratorExp elt [⟨.Name x px,iter,[],0⟩] scope pos) env) Q E s:=wpAny_GeneratorExp_make hco hclos hcell h0 hkind hroom h hs
structure GenReady (prog:Program) (w:World) (A:Around) (news:List (Addr × Obj)) (a C I:Addr) (g N:Nat) (F:Nat→Value→Heap→Prop) (s:Shared):Prop where
 aC:a ≠ C
 aI:a ≠ I
 cC:cStatics ≠ C
 cI:cStatics ≠ I
 lC:s.heap.get? C ≠ none
 lI:s.heap.get? I ≠ none
 fn:N ≤ 1000
 mono:∀ i v h h',Grown h h'→F i v h→F i v h'
 sep:∀ p ∈ news,p.1 ≠ C∧p.1 ≠ I
 st:GenH prog w A.in1.in1.in1 (.ok .next) a g C I s.heap.objs.size N F 0 s
section
variable {A:Around} {s:Shared} {Q:Value→Shared→Prop} {E:Value→Shared→Prop} {h₀:Heap} {L:Addr} {m:Str→Option Value} {nl news:List (Addr × Obj)} {c:List (Addr × Obj)→List (Addr × Obj)} {ps:Array Value}
theorem getLt {h:Heap} {b:Addr} (hb:h.get? b ≠ none):b < h.objs.size:=by
 cases e:h.get? b with
 | none=>exact absurd e hb
 | some o=>exact Heap.lt_size e
theorem getNew {h:Heap} {b:Addr} (hb:h.objs.size ≤ b):h.get? b=none:=by
 cases e:h.get? b with
 | none=>rfl
 | some o=>exact absurd (Heap.lt_size e) (Nat.not_lt.mpr hb)
theorem genNext {elt:Expr} {x:Str} {px:Pos} {iter:Expr} {scope:Scope} {pos:Pos} {env:Env} {cl:List (Str × Addr)} {ax:Addr} {vs:Array Value} {Fe:Nat→Value→Heap→Prop}
  (hh:A.handled=none) (hroom:A.in4.depth < recursionLimit) (F:Fr h₀ L s.heap m) (N:News h₀ L s.heap news) (X:(hd.heap_1 w.params).In h₀) (T:Top p loose mean mg mb h₀) (ht:(323,tabObj ps) ∈ news) (tr:TriplesOk ps.toList) (ab:AllBare s.gens) (nt:NoTab nl news c)
  (hco:scope.isCoroutine=false) (hx:scope.names.lookup x=some .local) (hkind:scope.kind=.function) (hcode:env.code=.ref 327) (hH:codeHdIn (hd.heap_1 w.params) 327 323=true) (hgl:env.globals=mainGlobals)
  (hT:s.heap.IsTuple ax vs) (hz:vs.size ≤ 1000) (hF:∀ i v h h',Grown h h'→Fe i v h→Fe i v h')
  (hE:∀ C code bi,h₀.objs.size ≤ C→EltOk prog w (genEnv scope cl C code bi env) x elt vs Fe h₀ (A.in4.depth + 1) (A.in4.units + 3))
  (hQ:∀ a C I g h₅ tk g' ps',Fr h₀ L h₅ m→News h₀ L h₅ ((323,tabObj ps')::c nl)→TriplesOk ps'.toList→AllBare g'→L ≠ C→L ≠ I→h₀.get? C=none→h₀.get? I=none →
   GenReady prog w A ((323,tabObj ps')::c nl) a C I g vs.size Fe { s with heap:=h₅,toks:=tk,gens:=g' }→Q (.ref a) { s with heap:=h₅,toks:=tk,gens:=g' }) :
  GenNext prog w A elt x px iter scope pos env cl Q E (.ref ax) s:=by
 unfold GenNext
 refine byc fun b_=>?_
 obtain ⟨it,eit⟩:∃ it,it=s.heap.objs.size:=⟨_,rfl⟩
 obtain ⟨h₂,eh₂⟩:∃ h₂,h₂=s.heap.push { cls:=.type "tuple_iterator",data:=.fields #[.ref ax,.int 0 0] }:=⟨_,rfl⟩
 refine b_ ?_;clear b_
 have k2:Grown s.heap h₂:=fun b o e=>by rw [eh₂];exact Heap.get?_push_of_some _ e
 have hit:h₂.get? it=some { cls:=.type "tuple_iterator",data:=.fields #[.ref ax,.int 0 0] }:=by rw [eh₂,eit];exact Heap.get?_push_size _ rfl
 have hns:Heap.NoLimit h₂:=(T.nolimit.keeps F.keep).keeps k2
 refine wpAny_pyIter_tuple hT ⟨by rw [← eh₂];exact hns,?_⟩
 rw [← eh₂,← eit]
 have F2:Fr h₀ L h₂ m:=F.keeps k2
 have N2:News h₀ L h₂ news:=fun p hp=>⟨k2 _ _ (N p hp).1,(N p hp).2⟩
 refine codeTab hcode (codeHd_of_K (X.keeps F2.keep) hH) (N2 _ ht).1 tr fun code h₃ tk₃ ps' k3 tab3 tr3=>?_
 have F3:Fr h₀ L h₃ m:=fr_tab F2 N2 ht k3
 have n0:News h₀ L h₃ nl:=fun p hp=>⟨k3 _ _ (nt.nl.1 p hp) (N2 p (nt.nl.2 p hp)).1,(N2 p (nt.nl.2 p hp)).2⟩
 have N3:News h₀ L h₃ ((323,tabObj ps')::c nl):=news_tab N2 ht nt k3 tab3 n0
 refine byc fun b_=>?_
 obtain ⟨bm,ob,b1,b2,b3,b4,b5,b6⟩:=T.bmain
 refine b_ ?_;clear b_
 refine wpAny_builtinsFor (T.g.keeps F3.keep |> fun z=>by rw [hgl];exact z) b1 b2 (F3.keep _ _ b3) b4 b5 b6 ?_
 intro h' hn' hs'
 have hsz:h'.objs.size=h₃.objs.size + 1:=by rw [hs'.1,Heap.size_push]
 have k4:Grown h₃ h':=fun b o e=>hs'.extBut b o (Nat.ne_of_lt (Heap.lt_size e)) (Heap.get?_push_of_some _ e)
 refine byc fun b_=>?_
 obtain ⟨h₅,eh₅⟩:∃ h₅,h₅=h'.push { cls:=.type "generator",data:=.fields #[.int s.gens.size 0,.str "<genexpr>" (tk₃ + 1),.str (env.qual++"<genexpr>") (tk₃ + 1 + 1)] }:=⟨_,rfl⟩
 refine b_ ?_;clear b_
 have k5:Grown h₃ h₅:=fun b o e=>by rw [eh₅];exact Heap.get?_push_of_some _ (k4 b o e)
 have ne323:∀ {b:Addr},s.heap.get? b=none→b ≠ 323:=fun {b} e q=>by rw [q,(N _ ht).1] at e;cases e
 have itNone:s.heap.get? it=none:=getNew (Nat.le_of_eq eit.symm)
 have hit3:h₃.get? it=some { cls:=.type "tuple_iterator",data:=.fields #[.ref ax,.int 0 0] }:=k3 _ _ (ne323 itNone) hit
 have itlt:it < h₃.objs.size:=Heap.lt_size hit3
 have lvs:∀ {b:Addr},s.heap.get? b ≠ none→b < h₃.objs.size:=fun {b} h=>by
  cases e:s.heap.get? b with
  | none=>exact absurd e h
  | some o =>
   by_cases q:b=323
   ·rw [q];exact Heap.lt_size tab3
   ·exact Heap.lt_size (k3 b o q (k2 b o e))
 have axl:s.heap.get? ax ≠ none:=by obtain ⟨o,ho,_⟩:=hT;rw [ho];simp
 have hTab:s.heap.get? 323=some (tabObj ps):=(N _ ht).1
 have axne:ax ≠ 323:=fun q=>by
  refine byc fun b_=>?_
  obtain ⟨o,ho,hc,_⟩:=hT
  refine b_ ?_;clear b_
  rw [q,hTab] at ho
  rw [← Option.some.inj ho] at hc;cases hc
 have hT3:h₃.IsTuple ax vs:=hT.at fun o e=>k3 _ _ axne (k2 _ _ e)
 have cl3:cStatics < h₃.objs.size:=let ⟨_,hn,_⟩:=T.nolimit.keeps F3.keep;hn.lt
 have h0lt:∀ {b:Addr},h₃.objs.size ≤ b→h₀.get? b=none:=fun {b} hb=>by
  cases e:h₀.get? b with
  | none=>rfl
  | some o=>exact absurd (Heap.lt_size (F3.keep b o e)) (Nat.not_lt.mpr hb)
 have itNone0:h₀.get? it=none:=by
  cases e:h₀.get? it with
  | none=>rfl
  | some o=>rw [F.keep _ _ e] at itNone;cases itNone
 have Lne:L ≠ it:=fun q=>by
  refine byc fun b_=>?_
  obtain ⟨o,_,_,ho,_⟩:=F.ns
  refine b_ ?_;clear b_
  rw [q,itNone] at ho;cases ho
 have hit5:h₅.get? it=some { cls:=.type "tuple_iterator",data:=.fields #[.ref ax,.int 0 0] }:=k5 _ _ hit3
 have hT5:h₅.IsTuple ax vs:=hT3.at fun o e=>k5 _ _ e
 have sz5:h₅.objs.size=h₃.objs.size + 2:=by rw [eh₅,Heap.size_push,hsz]
 have W:=fun (A':Around) (hA:A'.handled=none)=>Walks.tuple (prog:=prog) (w:=w) hA it ax (fun q=>axl (by rw [q];exact itNone)) vs
 rw [← eh₅]
 refine hQ h'.objs.size h₃.objs.size it s.gens.size h₅ _ _ ps' (F3.keeps k5) (fun p hp=>⟨k5 _ _ (N3 p hp).1,(N3 p hp).2⟩) tr3 (ab.push rfl) (Nat.ne_of_lt F3.ns.lt) Lne (h0lt (Nat.le_refl _)) itNone0 ?_
 have nsC:h₅.Ns h₃.objs.size (fun y=>if y=".0" then some (.ref it) else none):=by rw [eh₅];exact hn'.push _
 refine ⟨Nat.ne_of_gt (by rw [hsz];exact Nat.lt_succ_self _),Nat.ne_of_gt (by rw [hsz];exact Nat.lt_succ_of_lt itlt),Nat.ne_of_lt cl3,fun q=>?_,?_,by rw [show Heap.get? _ it=_ from hit5];simp,hz,hF,?_,?_⟩
 ·refine byc fun b_=>?_
  obtain ⟨_,⟨o,_,_,ho,_⟩,_⟩:=T.nolimit.keeps F.keep
  refine b_ ?_;clear b_
  rw [q,itNone] at ho;cases ho
 ·refine byc fun b_=>?_
  obtain ⟨o,_,_,ho,_⟩:=nsC
  refine b_ ?_;clear b_
  rw [show Heap.get? _ h₃.objs.size=_ from ho];simp
 ·intro p hp
  have lt3:p.1 < h₃.objs.size:=Heap.lt_size (N3 p hp).1
  refine ⟨Nat.ne_of_lt lt3,fun q=>?_⟩
  rcases List.mem_cons.mp hp with rfl | hp
  ·rw [show it=323 from q.symm,hTab] at itNone;cases itNone
  ·rcases nt.mem p hp with h | ⟨h,_⟩
   ·have:=(N p (nt.nl.2 p h)).1
    rw [q,itNone] at this;cases this
   ·have:=(N p h).1
    rw [q,itNone] at this;cases this
 ·refine ⟨⟨_,_,_,by rw [eh₅];exact Heap.get?_push_size _ rfl,rfl,rfl,rfl⟩,(T.nolimit.keeps F3.keep).keeps k5,_,Array.getElem?_push_size ..,fun s'' hal=>⟨rfl,?_⟩⟩
  have ne5:∀ {b:Addr},b < h₅.objs.size→b ≠ h₅.objs.size:=fun h=>Nat.ne_of_lt h
  have ne35:h₃.objs.size ≠ h₅.objs.size:=Nat.ne_of_lt (by rw [sz5];exact Nat.lt_add_of_pos_right (by decide))
  have neit5:it ≠ h₅.objs.size:=Nat.ne_of_lt (by rw [sz5];exact Nat.lt_of_lt_of_le itlt (Nat.le_add_right _ _))
  have g0:Grown h₀ s''.heap:=fun b o e=>hal b o (ne5 (Heap.lt_size (k5 _ _ (F3.keep b o e)))) (k5 _ _ (F3.keep b o e))
  refine seg_startG (A:=A.in1.in1.in1.in1) (cenv:=genEnv scope cl h₃.objs.size code builtinsNs env) (ax:=ax) (F:=Fe) (g:=h₀) hh W (fun i h st=>?_) hx (by simp [genEnv,hkind]) hco (Nat.ne_of_gt itlt) (Nat.ne_of_gt (lvs axl)) ne35 neit5 (ne5 (let ⟨o,ho,_⟩:=hT5;Heap.lt_size ho)) (h0lt (Nat.le_refl _)) itNone0 (h0lt (by rw [sz5];exact Nat.le_add_right _ _)) hF (hE _ _ _ (Nat.le_of_lt (Nat.lt_of_le_of_lt F3.above F3.ns.lt))) s'' s'' _ ?_ (nsC.at' fun o e=>hal _ o ne35 e) (Sn.refl _ _ _) g0
  ·obtain ⟨o,ho,_⟩:=st.1;exact ⟨o,ho⟩
  ·exact ⟨⟨_,hal _ _ neit5 hit5,rfl,rfl⟩,hT5.at fun o e=>hal _ _ (ne5 (Heap.lt_size e)) e⟩
end
section
variable {A:Around} {s:Shared} {Q:Value→Shared→Prop} {E:Value→Shared→Prop} {h₀:Heap} {L:Addr} {m:Str→Option Value} {nl news:List (Addr × Obj)} {c:List (Addr × Obj)→List (Addr × Obj)} {ps:Array Value}
theorem genTup {a C I:Addr} {g N₀:Nat} {Fe:Nat→Value→Heap→Prop} (hh:A.handled=none) (hroom:A.in4.depth < recursionLimit) (F:Fr h₀ L s.heap m) (N:News h₀ L s.heap ((323,tabObj ps)::news)) (ab:AllBare s.gens) (nt:NoTab nl news c)
  (G:GenReady prog w A ((323,tabObj ps)::news) a C I g N₀ Fe s) (hLC:L ≠ C) (hLI:L ≠ I) (h0C:h₀.get? C=none) (h0I:h₀.get? I=none)
  (h:∀ t acc h' tk g' q nl',Fr h₀ L h' m→News h₀ L h' ((t,{ cls:=.type "tuple",data:=.seq acc })::(323,tabObj ps)::c nl')→AllBare g'→acc.size=N₀→(∀ j v,acc[j]?=some v→Fe j v q)→Sub q nl'→(∀ p ∈ nl,p ∈ nl')→NotT nl'→Q (.ref t) { s with heap:=h',toks:=tk,gens:=g' }) :
  wpAny (model prog w) A (call (.type "tuple") [.ref a]) Q E s:=by
 refine call_tupleH (.inl rfl) hh hroom G.aC G.aI G.cC G.cI (le1000 G.fn) G.mono G.lC G.lI G.st fun s' acc hd=>?_
 refine byc fun b_=>?_
 obtain ⟨⟨h',tk,g',rfl,hk,hg⟩,hsz,hit⟩:=hd
 refine b_ ?_;clear b_
 have F':Fr h₀ L h' m:=⟨F.ns.at' fun o e=>hk _ o (fun q=>q.elim hLC hLI) e,fun b o e=>hk b o (fun q=>by rcases q with q | q <;> rw [q] at e <;> first | (rw [h0C] at e;cases e) | (rw [h0I] at e;cases e)) (F.keep b o e),F.above⟩
 have N':News h₀ L h' ((323,tabObj ps)::news):=fun p hp=>⟨hk _ _ (fun q=>q.elim (G.sep p hp).1 (G.sep p hp).2) (N p hp).1,(N p hp).2⟩
 have n0:News h₀ L h' nl:=fun p hp=>N' p (List.mem_cons_of_mem _ (nt.nl.2 p hp))
 have n1:News h₀ L h' (nl++ents (part s.heap h')):=news_ents F n0 fun b o e=>by rw [F.keep b o e];simp
 have N2:News h₀ L h' ((323,tabObj ps)::c (nl++ents (part s.heap h'))):=by
  refine news_tab N' (List.mem_cons_self ..) (NoTab.skip nt) (fun b o _ e=>e) (N' _ (List.mem_cons_self ..)).1 n1
 refine h _ acc _ tk g' (part s.heap h') (nl++ents (part s.heap h')) (F'.push _) (N2.push F' _) (ab.moved hg) hsz hit (fun b o e=>List.mem_append_right _ (mem_ents.mpr e)) (fun p hp=>List.mem_append_left _ hp) fun p hp=>?_
 rcases List.mem_append.mp hp with hp | hp
 ·exact nt.nl.1 p hp
 ·intro q
  have h1:=(part_of (mem_ents.mp hp)).2
  rw [q,(N _ (List.mem_cons_self ..)).1] at h1;cases h1
end
structure AttrOk (w:World) (name:Str):Prop where
 pg:plainGet (hd.heap_1 w.params) 388 name=true
 fd:findIn (hd.heap_1 w.params) (.ref 388) name=some none
theorem ao_major (w:World):AttrOk w "major":=⟨by k_is,by k_is⟩
theorem ao_minor (w:World):AttrOk w "minor":=⟨by k_is,by k_is⟩
theorem ao_patch (w:World):AttrOk w "patch":=⟨by k_is,by k_is⟩
theorem ao_prerelease (w:World):AttrOk w "prerelease":=⟨by k_is,by k_is⟩
theorem ao_build (w:World):AttrOk w "build":=⟨by k_is,by k_is⟩
theorem ao_partial (w:World):AttrOk w "partial":=⟨by k_is,by k_is⟩
theorem ao_cmp_precedence_key (w:World):AttrOk w "_cmp_precedence_key":=⟨by k_is,by k_is⟩
theorem ao_sort_precedence_key (w:World):AttrOk w "_sort_precedence_key":=⟨by k_is,by k_is⟩
theorem hd_388 (w:World):hasDictIn (hd.heap_1 w.params) 388=true:=by k_is
theorem ng_none (w:World):noGet (hd.heap_1 w.params) none=true:=rfl
theorem vg_major {k0:Int} {t0:Tok} {v0:Value} {r:List DictEntry}:getL "major" (⟨k0,.str "major" t0,v0⟩::r)=some (some v0):=by kernel_rfl!
theorem vg_minor {k0:Int} {t0:Tok} {v0:Value} {k1:Int} {t1:Tok} {v1:Value} {r:List DictEntry}:getL "minor" (⟨k0,.str "major" t0,v0⟩::⟨k1,.str "minor" t1,v1⟩::r)=some (some v1):=by kernel_rfl!
theorem vg_patch {k0:Int} {t0:Tok} {v0:Value} {k1:Int} {t1:Tok} {v1:Value} {k2:Int} {t2:Tok} {v2:Value} {r:List DictEntry}:getL "patch" (⟨k0,.str "major" t0,v0⟩::⟨k1,.str "minor" t1,v1⟩::⟨k2,.str "patch" t2,v2⟩::r)=some (some v2):=by kernel_rfl!
theorem vg_prerelease {k0:Int} {t0:Tok} {v0:Value} {k1:Int} {t1:Tok} {v1:Value} {k2:Int} {t2:Tok} {v2:Value} {k3:Int} {t3:Tok} {v3:Value} {r:List DictEntry}:getL "prerelease" (⟨k0,.str "major" t0,v0⟩::⟨k1,.str "minor" t1,v1⟩::⟨k2,.str "patch" t2,v2⟩::⟨k3,.str "prerelease" t3,v3⟩::r)=some (some v3):=by kernel_rfl!
theorem vg_build {k0:Int} {t0:Tok} {v0:Value} {k1:Int} {t1:Tok} {v1:Value} {k2:Int} {t2:Tok} {v2:Value} {k3:Int} {t3:Tok} {v3:Value} {k4:Int} {t4:Tok} {v4:Value} {r:List DictEntry}:getL "build" (⟨k0,.str "major" t0,v0⟩::⟨k1,.str "minor" t1,v1⟩::⟨k2,.str "patch" t2,v2⟩::⟨k3,.str "prerelease" t3,v3⟩::⟨k4,.str "build" t4,v4⟩::r)=some (some v4):=by kernel_rfl!
theorem vg_partial {k0:Int} {t0:Tok} {v0:Value} {k1:Int} {t1:Tok} {v1:Value} {k2:Int} {t2:Tok} {v2:Value} {k3:Int} {t3:Tok} {v3:Value} {k4:Int} {t4:Tok} {v4:Value} {k5:Int} {t5:Tok} {v5:Value} {r:List DictEntry}:getL "partial" (⟨k0,.str "major" t0,v0⟩::⟨k1,.str "minor" t1,v1⟩::⟨k2,.str "patch" t2,v2⟩::⟨k3,.str "prerelease" t3,v3⟩::⟨k4,.str "build" t4,v4⟩::⟨k5,.str "partial" t5,v5⟩::r)=some (some v5):=by kernel_rfl!
theorem vg_cmp_precedence_key {k0:Int} {t0:Tok} {v0:Value} {k1:Int} {t1:Tok} {v1:Value} {k2:Int} {t2:Tok} {v2:Value} {k3:Int} {t3:Tok} {v3:Value} {k4:Int} {t4:Tok} {v4:Value} {k5:Int} {t5:Tok} {v5:Value} {k6:Int} {t6:Tok} {v6:Value} {r:List DictEntry}:getL "_cmp_precedence_key" (⟨k0,.str "major" t0,v0⟩::⟨k1,.str "minor" t1,v1⟩::⟨k2,.str "patch" t2,v2⟩::⟨k3,.str "prerelease" t3,v3⟩::⟨k4,.str "build" t4,v4⟩::⟨k5,.str "partial" t5,v5⟩::⟨k6,.str "_cmp_precedence_key" t6,v6⟩::r)=some (some v6):=by kernel_rfl!
theorem vg_sort_precedence_key {k0:Int} {t0:Tok} {v0:Value} {k1:Int} {t1:Tok} {v1:Value} {k2:Int} {t2:Tok} {v2:Value} {k3:Int} {t3:Tok} {v3:Value} {k4:Int} {t4:Tok} {v4:Value} {k5:Int} {t5:Tok} {v5:Value} {k6:Int} {t6:Tok} {v6:Value} {k7:Int} {t7:Tok} {v7:Value} {r:List DictEntry}:getL "_sort_precedence_key" (⟨k0,.str "major" t0,v0⟩::⟨k1,.str "minor" t1,v1⟩::⟨k2,.str "patch" t2,v2⟩::⟨k3,.str "prerelease" t3,v3⟩::⟨k4,.str "build" t4,v4⟩::⟨k5,.str "partial" t5,v5⟩::⟨k6,.str "_cmp_precedence_key" t6,v6⟩::⟨k7,.str "_sort_precedence_key" t7,v7⟩::r)=some (some v7):=by kernel_rfl!
theorem getV {x:Addr} {ox:Obj} {n:Nat} {es:List DictEntry} {name:Str} {v:Value} {expr:Bool} {Q E:Value→Shared→Prop} {h₀:Heap} {L:Addr} {m:Str→Option Value} (F:Fr h₀ L s.heap m) (X:(hd.heap_1 w.params).In h₀) (I:InstAt h₀ x ox 388 (some (dictOf es n))) (ao:AttrOk w name)
  (hl:getL name es=some (some v)) (hv:handedIn v=true) (h:Q v { s with toks:=s.toks + 1 }):wpAny (model prog w) A (getAttr (.ref x) name expr) Q E s :=
 get_own F X (instKeep I F.keep) ao.pg (hd_388 w) ao.fd (ng_none w) hl hv h
theorem rs23m0:True:=by
 k_with "@my attr"=>first | exact ao_major .. | exact ao_minor .. | exact ao_patch .. | exact ao_prerelease .. | exact ao_build .. | exact ao_partial .. | exact ao_cmp_precedence_key .. | exact ao_sort_precedence_key ..
 k_with "@my field"=>first | (with_reducible apply vg_major) | (with_reducible apply vg_minor) | (with_reducible apply vg_patch) | (with_reducible apply vg_prerelease) | (with_reducible apply vg_build) | (with_reducible apply vg_partial) | (with_reducible apply vg_cmp_precedence_key) | (with_reducible apply vg_sort_precedence_key)
 k_with "@getAttr ref"=>k_dflt ((apply getV;kpc_g;kpc_g;kpc_g;k_extra "@my attr";k_extra "@my field";exact rfl))
 exact trivial
inductive VerIn (h:Heap) (x:Addr) (n0 n1 n2:Int) (pa ba:Addr) (rest:List DictEntry):Prop
 | mk (ox n k0 k1 k2 k3 k4 k5 t0 t1 t2 t3 t4 t5 i0 i1 i2:_) (cj1:InstAt h x ox 388 (some (dictOf (⟨k0,.str "major" t0,.int n0 i0⟩::⟨k1,.str "minor" t1,.int n1 i1⟩::⟨k2,.str "patch" t2,.int n2 i2⟩::⟨k3,.str "prerelease" t3,.ref pa⟩::⟨k4,.str "build" t4,.ref ba⟩::⟨k5,.str "partial" t5,.bool false⟩::rest) n))):VerIn h x n0 n1 n2 pa ba rest
theorem truthyT {Q:Bool→Shared→Prop} {E:Value→Shared→Prop} {h₀:Heap} {L a:Addr} {m:Str→Option Value} {vs:List Value} {b:Bool} (F:Fr h₀ L s.heap m) (ha:h₀.get? a=some (tupO vs)) (hl:vs.length ≤ 1000) (hb:vs.isEmpty=!b) (h:∀ tk,Q b { s with toks:=tk }):wpAny (model prog w) A (truthy (.ref a)) Q E s:=by
 refine truthy_tuple (items:=vs.toArray) ⟨_,F.keep _ _ ha,rfl,_,rfl⟩ (by simp only [List.size_toArray];omega) ?_
 have e:(!vs.toArray.isEmpty)=b:=by cases vs <;> cases b <;> simp_all
 rw [e];exact h _
theorem rs23m1:True:=by
 k_with "@truthy ref"=>k_dflt (apply truthyT <;> (first | kpc_g | intro _))
 exact trivial
theorem mk_numP {b:Str} {t:Tok} {n:Int} (hn:PySem.intText? b=some n) (hl:b.length ≤ 640) (X:(hd.heap_1 w.params).In s.heap) (T:Top p loose mean mg mb s.heap) (r:Rm A 3) :
  codeAny (model prog w) A (.call (.ref 150) ⟨[.str b t],[]⟩) (Ret s fun v h'=>∃ x,v=.ref x∧IdAt (part s.heap h') x (.num n)) s:=by
 refine newInst X (mi_150 w).1 (mi_150 w).2.1 (mi_150 w).2.2 fun x dx h' NW lt=>?_
 have r2:=r.mk (C:=150) (rest:=[.str b t]) 2 (by decide)
 apply enterN NW (w:=w) [("self",.ref x),("value",.str b t)] [(10,.str b t),(11,.ref x)] X T
 walk_at "my enter"
 case hnm=>exact namesC nx_value (namesC nx_self (namesN))
 intro L h1 tk F N
 refine addLoc nx_self (by kernel_rfl!) ?_;intro n_self
 refine addLoc nx_value (by kernel_rfl!) ?_;intro n_value
 refine addBlt (w:=w) bk_int (by kernel_rfl!) ?_;intro n_int
 k_steps
 refine init_end (s:=s) (by with_reducible assumption) ⟨x,rfl,?_⟩
 refine' ⟨_,_,_,_,_,InstAt.of_news (news_part (by with_reducible assumption)) ?h1 ?h2⟩
 case h1=>k_mem
 case h2=>k_mem
theorem mk_alP {b:Str} {t:Tok} (hc:∀ c ∈ b.cps.toList,c < 128) (hl:b.length ≤ 640) (X:(hd.heap_1 w.params).In s.heap) (T:Top p loose mean mg mb s.heap) (r:Rm A 3) :
  codeAny (model prog w) A (.call (.ref 206) ⟨[.str b t],[]⟩) (Ret s fun v h'=>∃ x,v=.ref x∧IdAt (part s.heap h') x (.al (encB b))) s:=by
 refine newInst X (mi_206 w).1 (mi_206 w).2.1 (mi_206 w).2.2 fun x dx h' NW lt=>?_
 have r2:=r.mk (C:=206) (rest:=[.str b t]) 2 (by decide)
 apply enterN NW (w:=w) [("self",.ref x),("value",.str b t)] [(10,.str b t),(11,.ref x)] X T
 walk_at "my enter"
 case hnm=>exact namesC nx_value (namesC nx_self (namesN))
 intro L h1 tk F N
 refine addLoc nx_self (by kernel_rfl!) ?_;intro n_self
 refine addLoc nx_value (by kernel_rfl!) ?_;intro n_value
 k_steps
 refine init_end (s:=s) (by with_reducible assumption) ⟨x,rfl,?_⟩
 refine' ⟨_,_,_,_,_,InstAt.of_news (news_part (by with_reducible assumption)) ?h1 ?h2⟩
 case h1=>k_mem
 case h2=>k_mem
inductive IdOf:Str→Idn→Prop
 | num {v:Str} {n:Int} (d:Txt.isdigit v=true) (i:PySem.intText? v=some n) (l:v.length ≤ 640):IdOf v (.num n)
 | al {v:Str} (d:Txt.isdigit v=false) (c:∀ c ∈ v.cps.toList,c < 128) (l:v.length ≤ 640):IdOf v (.al (encB v))
noncomputable abbrev gscope:Scope:={ kind:=.function,names:=[(".0",.local),("part",.local),("NumericIdentifier",.globalImplicit),("AlphaIdentifier",.globalImplicit)],isGenerator:=true,isCoroutine:=false }
structure GEnv (ev:Env):Prop where
 kd:ev.scope.kind=.function
 lp:ev.kindOf "part"=some .local
 n1:ev.kindOf "NumericIdentifier"=some .globalImplicit
 n2:ev.kindOf "AlphaIdentifier"=some .globalImplicit
 gl:ev.globals=mainGlobals
theorem gEnv_of {C bi:Addr} {code cd:Value} {nm:Str} {sc:Scope} {L a:Addr}:GEnv (genEnv gscope [] C code bi (envOf nm sc L a cd)):=⟨rfl,rfl,rfl,rfl,rfl⟩
section
variable {ev:Env} {h₀:Heap} {m:Str→Option Value} {Q E:Value→Shared→Prop} {pos:Pos}
theorem nmPart {v:Value} (G:GEnv ev) (F:Fr h₀ ev.locals s.heap m) (hv:m "part"=some v) (h:Q v s):wpAny (model prog w) A (eval (.Name "part" pos) ev) Q E s :=
 wpAny_Name (wpAny_loadName_local G.kd G.lp F.ns hv h) (by decide)
theorem nmNum (G:GEnv ev) (F:Fr h₀ ev.locals s.heap m) (X:(hd.heap_1 w.params).In h₀) (T:Top p loose mean mg mb h₀) (h:Q (.ref 150) s):wpAny (model prog w) A (eval (.Name "NumericIdentifier" pos) ev) Q E s :=
 nameG_K F X (topRead_of T) (gk_NumericIdentifier w).1 h G.gl G.kd G.n1 (gk_NumericIdentifier w).2
theorem nmAl (G:GEnv ev) (F:Fr h₀ ev.locals s.heap m) (X:(hd.heap_1 w.params).In h₀) (T:Top p loose mean mg mb h₀) (h:Q (.ref 206) s):wpAny (model prog w) A (eval (.Name "AlphaIdentifier" pos) ev) Q E s :=
 nameG_K F X (topRead_of T) (gk_AlphaIdentifier w).1 h G.gl G.kd G.n2 (gk_AlphaIdentifier w).2
inductive EltPost (s₂:Shared) (k:Idn) (y:Value) (s₃:Shared):Prop
 | mk (h' tk:_) (cj1:s₃={ s₂ with heap:=h',toks:=tk }) (cj2:Grown s₂.heap h') (cj3:∃ x,y=.ref x∧IdAt (part s₂.heap h') x k):EltPost s₂ k y s₃
theorem leafNum {v:Str} {t:Tok} {n:Int} {tk:Nat} {L:Addr} (hn:PySem.intText? v=some n) (hl:v.length ≤ 640) (F:Fr h₀ L s.heap m) (X:(hd.heap_1 w.params).In h₀) (T:Top p loose mean mg mb h₀) (r:Rm A 3):wpAny (model prog w) A (call (.ref 150) [.str v t]) (EltPost s (.num n)) E { s with toks:=tk }:=by
 refine wpAny_call (codeAny_mono (mk_numP (s:={ s with toks:=tk }) hn hl (X.keeps F.keep) (T.keeps F.keep) r) fun r s' hr=>?_)
 obtain ⟨v,h',tk,rfl,rfl,hk,hp⟩:=hr
 exact ⟨h',tk,rfl,hk,hp⟩
theorem leafAl {v:Str} {t:Tok} {tk:Nat} {L:Addr} (hc:∀ c ∈ v.cps.toList,c < 128) (hl:v.length ≤ 640) (F:Fr h₀ L s.heap m) (X:(hd.heap_1 w.params).In h₀) (T:Top p loose mean mg mb h₀) (r:Rm A 3):wpAny (model prog w) A (call (.ref 206) [.str v t]) (EltPost s (.al (encB v))) E { s with toks:=tk }:=by
 refine wpAny_call (codeAny_mono (mk_alP (s:={ s with toks:=tk }) hc hl (X.keeps F.keep) (T.keeps F.keep) r) fun r s' hr=>?_)
 obtain ⟨v,h',tk,rfl,rfl,hk,hp⟩:=hr
 exact ⟨h',tk,rfl,hk,hp⟩
end
inductive IdItem (ks:List Idn) (i:Nat) (v:Value) (h:Heap):Prop
 | mk (k:_) (cj1:ks[i]?=some k) (cj2:∃ x,v=.ref x∧IdAt h x k):IdItem ks i v h
theorem IdItem.mono {ks:List Idn} (i:Nat) (v:Value) (h h':Heap) (g:Grown h h') (x:IdItem ks i v h):IdItem ks i v h':=by
 refine byc fun b_=>?_
 obtain ⟨k,hk,a,e,I⟩:=x
 refine b_ ?_;clear b_
 exact ⟨k,hk,a,e,I.keep g⟩
inductive IdsOf:List Str→List Idn→Prop
 | nil:IdsOf [] []
 | cons {v:Str} {k:Idn} {vs:List Str} {ks:List Idn}:IdOf v k→IdsOf vs ks→IdsOf (v::vs) (k::ks)
theorem IdsOf.get {vs:List Str} {ks:List Idn} (x:IdsOf vs ks):∀ {i:Nat} {v:Str},vs[i]?=some v→∃ k,ks[i]?=some k∧IdOf v k:=by
 induction x with
 | nil=>intro _ _ h;exact nomatch h
 | cons a _ ih =>
  intro i v h
  cases i with
  | zero=>exact ⟨_,rfl,(Option.some.inj h) ▸ a⟩
  | succ i=>exact ih (i:=i) h
theorem IdsOf.length {vs:List Str} {ks:List Idn} (x:IdsOf vs ks):vs.length=ks.length:=by
 induction x with
 | nil=>rfl
 | cons _ _ ih=>exact congrArg Nat.succ ih
theorem eltOk_of {cenv:Env} {elt:Expr} {lps:List (Str × Tok)} {vs:List Str} {ks:List Idn} {g:Heap} {D U:Nat} (hv:lps.map (·.1)=vs) (hi:IdsOf vs ks) (hg:g.objs.size ≤ cenv.locals) (hD:D + 3 < recursionLimit) (hU:U + 24 < cLine)
  (h:∀ (A':Around) (s₂:Shared) (m₂:Str→Option Value) (v:Str) (t:Tok) (k:Idn) (E':Value→Shared→Prop),Rm A' 3→IdOf v k→m₂ "part"=some (.str v t)→Fr g cenv.locals s₂.heap m₂→wpAny (model prog w) A' (eval elt cenv) (EltPost s₂ k) E' s₂) :
  EltOk prog w cenv "part" elt (strValues lps).toArray (IdItem ks) g D U:=by
 intro A' E' i v s₂ m₂ hh hd hu hvi hn hm hg2
 have e:(strValues lps)[i]?=some v:=by simpa using hvi
 rw [strValues,List.getElem?_map] at e
 cases q:lps[i]? with
 | none=>rw [q] at e;cases e
 | some pr =>
  rw [q] at e
  cases e
  obtain ⟨k,hk,hid⟩:=hi.get (i:=i) (v:=pr.1) (by rw [← hv,List.getElem?_map,q];rfl)
  refine wpAny_mono (h A' s₂ m₂ pr.1 pr.2 k E' ⟨by lia,by lia,hh⟩ hid hm ⟨hn,hg2,hg⟩) (fun y s₃ h=>?_) fun _ _ e=>e
  refine byc fun b_=>?_
  obtain ⟨h',tk,e1,e2,x,e3,e4⟩:=h
  refine b_ ?_;clear b_
  exact ⟨h',tk,e1,e2,k,hk,x,e3,e4⟩
theorem allIs_items {ks:List Idn} {acc:Array Value} {q:Heap} (hs:acc.size=ks.length) (h:∀ j v,acc[j]?=some v→IdItem ks j v q):AllIs (fun h v i=>∃ x,v=.ref x∧IdAt h x i) q acc.toList ks:=by
 have:∀ (l:List Value) (ks:List Idn),l.length=ks.length→(∀ j v,l[j]?=some v→IdItem ks j v q)→AllIs (fun h v i=>∃ x,v=.ref x∧IdAt h x i) q l ks:=by
  intro l
  induction l with
  | nil =>
   intro ks e _
   cases ks with
   | nil=>exact .nil
   | cons a r=>cases e
  | cons v l ih =>
   intro ks e h
   cases ks with
   | nil=>cases e
   | cons a r =>
    refine .cons ?_ (ih r (by simpa using e) fun j v hj=>?_)
    ·refine byc fun b_=>?_
     obtain ⟨k,hk,x,e1,e2⟩:=h 0 v rfl
     refine b_ ?_;clear b_
     cases hk
     exact ⟨x,e1,e2⟩
    ·refine byc fun b_=>?_
     obtain ⟨k,hk,x,e1,e2⟩:=h (j + 1) v (by simpa using hj)
     refine b_ ?_;clear b_
     exact ⟨k,by simpa using hk,x,e1,e2⟩
 exact this acc.toList ks (by simpa using hs) fun j v hj=>h j v (by simpa using hj)
noncomputable abbrev IdIs:Heap→Value→Idn→Prop:=fun h v i=>∃ x,v=.ref x∧IdAt h x i
theorem Rm.here1 {A:Around} {e:Env} {k:Nat} (r:Rm A (k + 1)):(A.deeper e).depth < recursionLimit:=Rm.here (r.deeper (e:=e) 0 (Nat.zero_le k))
theorem rs24m0:True:=by
 k_with "@eval Name"=>((with_reducible show wpAny _ _ (eval _ (genEnv _ _ _ _ _ _)) _ _ _);walk_at "my gname")
 k_with "@call ref"=>((with_reducible show wpAny _ _ _ (EltPost _ _) _ _);walk_at "my leaf")
 k_with "@eval GeneratorExp"=>k_dflt ((apply genEval;exact rfl;exact rfl;decide;exact rfl;exact rfl;k_extra "@my jr";apply Rm.here1;kpc_g))
 k_with "@my jr"=>(intro _;exact rfl)
 k_with "@my gname"=>k_dflt (first | (apply nmPart;apply gEnv_of;kpc_g;kpc_g) | (apply nmNum;apply gEnv_of;kpc_g;kpc_g;kpc_g) | (apply nmAl;apply gEnv_of;kpc_g;kpc_g;kpc_g))
 k_with "@my leaf"=>k_dflt (first | (apply leafNum;kpc_g;kpc_g;kpc_g;kpc_g;kpc_g;kpc_g) | (apply leafAl;kpc_g;kpc_g;kpc_g;kpc_g;kpc_g;kpc_g))
 exact trivial
theorem ch_327 (w:World):codeHdIn (hd.heap_1 w.params) 327 323=true:=by kernel_rfl!
noncomputable def keyIds (ks:List Idn):List Idn:=if ks.isEmpty then [.mx] else ks
noncomputable abbrev KeyIs:Heap→Value→List (Ne (List Idn))→Prop:=TupIs (Ne.is (TupIs IdIs))
theorem genRoom {A:Around} {e:Env} (r:Rm A 6):(A.deeper e).in4.depth < recursionLimit∧(A.deeper e).in4.depth + 1 + 3 < recursionLimit∧(A.deeper e).in4.units + 3 + 24 < cLine:=by
 refine byc fun b_=>?_
 obtain ⟨a,b,_⟩:=Rm.deeper (e:=e) r 5 (by decide)
 refine b_ ?_;clear b_
 exact ⟨by show (A.deeper e).depth < _;lia,by show (A.deeper e).depth + 1 + 3 < _;lia,by show (A.deeper e).units + 1 + 1 + 1 + 1 + 3 + 24 < _;lia⟩
theorem genRoom1 {A:Around} {e:Env} (r:Rm A 6):(A.deeper e).in4.depth < recursionLimit:=(genRoom r).1
theorem idsOf_ne {vs:List Str} {ks:List Idn} {lps:List (Str × Tok)} {b:Bool} (hv:lps.map (·.1)=vs) (hi:IdsOf vs ks) (he:(strValues lps).isEmpty=b):ks.isEmpty=b:=by
 refine byc fun b_=>?_
 subst hv
 refine b_ ?_;clear b_
 cases lps with
 | nil=>cases hi;exact he
 | cons a r =>
  cases hi with
  | cons _ _=>exact he
theorem szOf {vs:List Str} {ks:List Idn} {lps:List (Str × Tok)} (hv:lps.map (·.1)=vs) (hi:IdsOf vs ks):(strValues lps).toArray.size=ks.length:=by
 rw [← hi.length,← hv];simp [strValues]
theorem sub_partT {q h h':Heap} {L:Addr} {nl news:List (Addr × Obj)} {f:List (Addr × Obj)→List (Addr × Obj)} (N:News (hid h) L h' news) (nt:NoTab nl news f) (S:Sub q nl):Grown q (part h h'):=fun b o e=>by
 have m:=S b o e
 exact part_hid (N _ (nt.nl.2 _ m)).1 (N _ (nt.nl.2 _ m)).2.2 (nt.nl.1 _ m)
theorem keyIs_mk {q:Heap} {x k:Addr} {n0 n1 n2:Int} {i0 i1 i2:Tok} {ids:List Idn} (h1:q.get? x=some { cls:=.type "tuple",data:=.seq #[.int n0 i0,.int n1 i1,.int n2 i2,.ref k] }) (h2:TupIs IdIs q (.ref k) ids):KeyIs q (.ref x) [.n n0,.n n1,.n n2,.o ids] :=
 ⟨x,_,_,_,rfl,h1,rfl,rfl,.cons ⟨_,rfl⟩ (.cons ⟨_,rfl⟩ (.cons ⟨_,rfl⟩ (.cons h2 .nil)))⟩
theorem IdIs.keep {h h':Heap} (g:Grown h h') {v:Value} {k:Idn} (x:IdIs h v k):IdIs h' v k:=by
 refine byc fun b_=>?_
 obtain ⟨a,e,I⟩:=x
 refine b_ ?_;clear b_
 exact ⟨a,e,I.keep g⟩
theorem tup_items {q q':Heap} {t:Addr} {acc:Array Value} {ks:List Idn} {n:Nat} (e:q'.get? t=some { cls:=.type "tuple",data:=.seq acc }) (hn:n=ks.length) (hs:acc.size=n) (h:∀ j v,acc[j]?=some v→IdItem ks j v q) (g:Grown q q'):TupIs IdIs q' (.ref t) ks :=
 ⟨t,_,acc,_,rfl,e,rfl,rfl,(allIs_items (hs.trans hn) h).keep (IdIs.keep g)⟩
theorem tup_mx {q:Heap} {t m:Addr} {ox:Obj} {n:Nat} (e:q.get? t=some { cls:=.type "tuple",data:=.seq #[.ref m] }) (I:InstAt q m ox 94 (some (dictOf [] n))):TupIs IdIs q (.ref t) [.mx] :=
 ⟨t,_,_,_,rfl,e,rfl,rfl,.cons ⟨m,rfl,_,_,I⟩ .nil⟩
theorem key_end {q h h':Heap} {L x k:Addr} {nl news:List (Addr × Obj)} {f:List (Addr × Obj)→List (Addr × Obj)} {ps acc:Array Value} {n0 n1 n2:Int} {i0 i1 i2:Tok} {ks:List Idn} {n:Nat} (N:News (hid h) L h' news) (S:Sub q nl) (hn:n=ks.length) (hs:acc.size=n) (hit:∀ j v,acc[j]?=some v→IdItem ks j v q)
  (ht:(323,tabObj ps) ∈ news) (nt:NoTab nl news f) (m1:(x,{ cls:=.type "tuple",data:=.seq #[.int n0 i0,.int n1 i1,.int n2 i2,.ref k] }) ∈ f nl) (m2:(k,{ cls:=.type "tuple",data:=.seq acc }) ∈ f nl) :
  KeyIs (part h h') (.ref x) [.n n0,.n n1,.n n2,.o ks] :=
 have N2:=news_partT N ht nt
 keyIs_mk (News.get N2 m1) (tup_items (News.get N2 m2) hn hs hit (sub_partT N nt S))
theorem keyIds_f {ks:List Idn} (h:ks.isEmpty=false):keyIds ks=ks:=by unfold keyIds;rw [h];rfl
theorem keyIds_t {ks:List Idn} (h:ks.isEmpty=true):keyIds ks=[.mx]:=by unfold keyIds;rw [h];rfl
theorem rs25m0:True:=by
 k_with "@my notab"=>first | (apply NoTab.tail;kpc_g) | (apply NoTab.tail;apply NotT.nil) | (apply NoTab.skip;k_extra "@my notab") | (apply NoTab.keep;exact rfl;k_extra "@my notab")
 k_with "@my gen"=>(apply genNext;exact rfl;apply genRoom1;kpc_g;kpc_g;kpc_g;kpc_g;kpc_g;k_mem;kpc_g;k_extra "@my dg";k_extra "@my notab";exact rfl;exact rfl;exact rfl;exact rfl;exact ch_327 ..;exact rfl;rotate_left;rotate_left;apply IdItem.mono)
 k_with "@call type:tuple"=>k_dflt (((try dsimp only);apply genTup;exact rfl;apply genRoom1;kpc_g;kpc_g;kpc_g;k_extra "@my dg";k_extra "@my notab";kpc_g;kpc_g;kpc_g;kpc_g;kpc_g;(intro _;intros;k_sweep)))
 k_with "@my dg"=>((try dsimp only);kpc_g)
 k_with "@my elt"=>(intro _ _ _ hC;refine' eltOk_of (by kpc_g) (by kpc_g) hC (genRoom (by kpc_g)).2.1 (genRoom (by kpc_g)).2.2 ?_;intro _ _ _ _ _ _ _ _ hid _ _;cases hid <;> k_steps)
 exact trivial
set_option maxHeartbeats 1500000 in
theorem bpk_f {x pa ba:Addr} {n0 n1 n2:Int} {rest:List DictEntry} {lps:List (Str × Tok)} {vs:List Str} {ks:List Idn} {ps:Array Value} (t:TT w p loose mean mg mb s ps) (r:Rm A 6) (I:VerIn (hid s.heap) x n0 n1 n2 pa ba rest) (hp:(hid s.heap).get? pa=some (tupO (strValues lps)))
  (hl:(strValues lps).length ≤ 1000) (hv:lps.map (·.1)=vs) (hi:IdsOf vs ks) :
  codeAny (model prog w) A (.call (.ref 328) ⟨[.ref x],[("with_build",.bool false)]⟩) (RetT s fun u q=>KeyIs q u [.n n0,.n n1,.n n2,.o (keyIds ks)]) s:=by
 obtain ⟨hA,dA,fA,gA,uA⟩:=A
 obtain rfl:hA=none:=r.hand
 have NW:=t.nw
 have X:=t.X
 have T:=t.T
 have tr:=t.tr
 have ab:=t.ab
 obtain ⟨ox,n,k0,k1,k2,k3,k4,k5,t0,t1,t2,t3,t4,t5,i0,i1,i2,I⟩:=I
 obtain ⟨e1,he1⟩:∃ e1,(strValues lps).isEmpty=!e1:=⟨!(strValues lps).isEmpty,(Bool.not_not _).symm⟩
 have hke:=idsOf_ne hv hi he1
 cases e1
 all_goals
  apply enterN NW (w:=w) [("self",.ref x),("with_build",.bool false)] [(31,.bool false),(11,.ref x)] X T
  walk_at "my enter"
  case hnm=>exact namesC nx_with_build (namesC nx_self (namesN))
  intro L h1 tk F N
  refine addLoc nx_self (by kernel_rfl!) ?_;intro n_self
  refine addLoc nx_with_build (by kernel_rfl!) ?_;intro n_with_build
  refine addLoc nx_prerelease_key (by kernel_rfl!) ?_;intro n_prerelease_key
  refine addLoc nx_build_key (by kernel_rfl!) ?_;intro n_build_key
  refine addGlo (w:=w) gk_MaxIdentifier (by kernel_rfl!) ?_;intro n_MaxIdentifier
  refine addBlt (w:=w) bk_tuple (by kernel_rfl!) ?_;intro n_tuple
 all_goals k_steps
 case false =>
  (try dsimp only)
  rename Fr _ _ _ _=>F
  rename News _ _ _ _=>N
  refine' retT_end F N ?ht ?tr ?ab ?post
  case ht=>k_mem
  case tr=>with_reducible assumption
  case ab=>with_reducible assumption
  have N2:=news_partT (nl:=[]) N (ps:=ps) (by k_mem) (by walk_at "my notab")
  rw [keyIds_t hke]
  refine' keyIs_mk (News.get N2 ?m1) (tup_mx (News.get N2 ?m2) (InstAt.of_news N2 ?h1 ?h2))
  case m1=>k_mem
  case m2=>k_mem
  case h1=>k_mem
  case h2=>k_mem
 case true =>
  walk_at "my gen"
  case hT=>exact ⟨_,Fr.keep (by with_reducible assumption) _ _ hp,rfl,_,rfl⟩
  case hz=>simpa using hl
  case hE=>walk_at "my elt"
  intro a C I g h₅ tk g' ps' F5 N5 tr5 ab5 q1 q2 q3 q4 GR
  k_steps
  (try dsimp only)
  rename Fr _ _ _ _=>F
  rename News _ _ _ _=>N
  rename Sub _ _=>S
  rename Array.size _=_=>hs
  rename ∀ _ _,_→IdItem _ _ _ _=>hit
  refine' retT_end F N ?ht2 ?tr2 ?ab2 ?post2
  case ht2=>k_mem
  case tr2=>with_reducible assumption
  case ab2=>with_reducible assumption
  rename NotT _=>nT
  rw [keyIds_f hke]
  refine' key_end N S (szOf hv hi) hs hit ?ht3 ?nt3 ?m12 ?m22
  case ht3=>k_mem
  case nt3=>walk_at "my notab"
  case m12=>(try dsimp only);k_mem
  case m22=>(try dsimp only);k_mem
theorem with_part {P:Prop} {h h':Heap} {L:Addr} {nl news:List (Addr × Obj)} {f:List (Addr × Obj)→List (Addr × Obj)} {ps:Array Value} (N:News (hid h) L h' news) (ht:(323,tabObj ps) ∈ news) (nt:NoTab nl news f)
  (C:News (hid h) L (part h h') (f nl)→(∀ q,Sub q nl→Grown q (part h h'))→P):P:=C (news_partT N ht nt) fun _ S=>sub_partT N nt S
theorem keyIs_mk5 {q:Heap} {x k k':Addr} {n0 n1 n2:Int} {i0 i1 i2:Tok} {ids ids':List Idn} (h1:q.get? x=some { cls:=.type "tuple",data:=.seq #[.int n0 i0,.int n1 i1,.int n2 i2,.ref k,.ref k'] }) (h2:TupIs IdIs q (.ref k) ids) (h3:TupIs IdIs q (.ref k') ids'):KeyIs q (.ref x) [.n n0,.n n1,.n n2,.o ids,.o ids'] :=
 ⟨x,_,_,_,rfl,h1,rfl,rfl,.cons ⟨_,rfl⟩ (.cons ⟨_,rfl⟩ (.cons ⟨_,rfl⟩ (.cons h2 (.cons h3 .nil))))⟩
theorem strValues_nil {l:List (Str × Tok)} (h:(strValues l).isEmpty=true):l=[]:=by
 cases l with
 | nil=>rfl
 | cons a r=>cases h
inductive OrP (h₀:Heap) (L:Addr) (l:List (Nat × Value)) (news:List (Addr × Obj)) (c:Shared) (vs:Array Value) (v:Value) (s':Shared):Prop
 | mk (t:Addr) (h':Heap) (tk:Nat) (e1:v=.ref t) (e2:s'={ c with heap:=h',toks:=tk }) (F:Fr h₀ L h' (frm l)) (N:News h₀ L h' news) (hT:h'.IsTuple t vs):OrP h₀ L l news c vs v s'
noncomputable def BuildAt (h:Heap) (ba:Addr) (lbs:List (Str × Tok)):Prop:=h.get? ba=some (tupO (strValues lbs))
theorem genEvalO {A:Around} {elt:Expr} {x:Str} {px:Pos} {op:BoolOp} {es:List Expr} {pi:Pos} {scope:Scope} {pos:Pos} {env:Env} {cl:List (Str × Addr)} {Q:Value→Shared→Prop} {E:Value→Shared→Prop} {s:Shared} {h₀:Heap} {L ba:Addr} {l:List (Nat × Value)} {news:List (Addr × Obj)} {lbs:List (Str × Tok)}
  (hco:scope.isCoroutine=false) (hclos:closureFor scope env=pure cl) (hcell:∀ y ∈ scope.names,y.2 ≠ .cell) (h0:scope.names.lookup (".0":Str)=some NameKind.local) (hkind:scope.kind=.function) (hs:∀ x,genFold (.BoolOp op es pi) env x=pure x)
  (hroom:A.depth < recursionLimit) (B:BuildAt h₀ ba lbs) (F:Fr h₀ L s.heap (frm l)) (N:News h₀ L s.heap news) (C:wpAny (model prog w) A (eval (.BoolOp op es pi) env) (OrP h₀ L l news s (strValues lbs).toArray) E s)
  (h:∀ t h' tk,Fr h₀ L h' (frm l)→News h₀ L h' news→h'.IsTuple t (strValues lbs).toArray→GenNext prog w A elt x px (.BoolOp op es pi) scope pos env cl Q E (.ref t) { s with heap:=h',toks:=tk }) :
  wpAny (model prog w) A (eval (.GeneratorExp elt [⟨.Name x px,.BoolOp op es pi,[],0⟩] scope pos) env) Q E s :=
 genEval hco hclos hcell h0 hkind hs hroom (wpAny_mono C (fun v s' p=>by obtain ⟨t,h',tk,e1,e2,F,N,hT⟩:=p;subst e1;subst e2;exact h t h' tk F N hT) fun _ _ x=>x)
theorem rs26m0:True:=by
 k_with "@eval GeneratorExp"=>(fail_if_success k_extra "e26");k_dflt ((apply genEvalO;exact rfl;exact rfl;decide;exact rfl;exact rfl;k_extra "@my jr";apply Rm.here1;kpc_g;kpc_g;kpc_g;kpc_g))
 exact trivial
theorem bpk_t {x pa ba:Addr} {n0 n1 n2:Int} {rest:List DictEntry} {lps lbs:List (Str × Tok)} {vs vb:List Str} {ks bs:List Idn} {ps:Array Value} (t:TT w p loose mean mg mb s ps) (r:Rm A 6) (I:VerIn (hid s.heap) x n0 n1 n2 pa ba rest) (hp:(hid s.heap).get? pa=some (tupO (strValues lps)))
  (hl:(strValues lps).length ≤ 1000) (hv:lps.map (·.1)=vs) (hi:IdsOf vs ks) (hb:(hid s.heap).get? ba=some (tupO (strValues lbs))) (hlb:(strValues lbs).length ≤ 1000) (hvb:lbs.map (·.1)=vb) (hib:IdsOf vb bs) :
  codeAny (model prog w) A (.call (.ref 328) ⟨[.ref x],[("with_build",.bool true)]⟩) (RetT s fun u q=>KeyIs q u [.n n0,.n n1,.n n2,.o (keyIds ks),.o bs]) s:=by
 refine byc fun b_=>?_
 obtain ⟨hA,dA,fA,gA,uA⟩:=A
 obtain rfl:hA=none:=r.hand
 have NW:=t.nw
 have X:=t.X
 have T:=t.T
 have tr:=t.tr
 have ab:=t.ab
 obtain ⟨ox,n,k0,k1,k2,k3,k4,k5,t0,t1,t2,t3,t4,t5,i0,i1,i2,I⟩:=I
 obtain ⟨e1,he1⟩:∃ e1,(strValues lps).isEmpty=!e1:=⟨!(strValues lps).isEmpty,(Bool.not_not _).symm⟩
 obtain ⟨e2,he2⟩:∃ e2,(strValues lbs).isEmpty=!e2:=⟨!(strValues lbs).isEmpty,(Bool.not_not _).symm⟩
 refine b_ ?_;clear b_
 have hke:=idsOf_ne hv hi he1
 have hB:BuildAt (hid s.heap) ba lbs:=hb
 cases e1
 ·skip
  apply enterN NW (w:=w) [("self",.ref x),("with_build",.bool true)] [(31,.bool true),(11,.ref x)] X T
  walk_at "my enter"
  case hnm=>exact namesC nx_with_build (namesC nx_self (namesN))
  intro L h1 tk F N
  refine addLoc nx_self (by kernel_rfl!) ?_;intro n_self
  refine addLoc nx_with_build (by kernel_rfl!) ?_;intro n_with_build
  refine addLoc nx_prerelease_key (by kernel_rfl!) ?_;intro n_prerelease_key
  refine addLoc nx_build_key (by kernel_rfl!) ?_;intro n_build_key
  refine addGlo (w:=w) gk_MaxIdentifier (by kernel_rfl!) ?_;intro n_MaxIdentifier
  refine addBlt (w:=w) bk_tuple (by kernel_rfl!) ?_;intro n_tuple
  k_steps
  ·exact ⟨_,_,_,rfl,rfl,by kpc_g,by kpc_g,⟨_,Fr.keep (by with_reducible assumption) _ _ hb,rfl,_,rfl⟩⟩
  ·rename Fr _ _ _ _=>F
   rename News _ _ _ _=>N
   have z:lbs=[]:=strValues_nil (by rw [he2,(by assumption:e2=false)];rfl)
   refine ⟨_,_,_,rfl,rfl,F,News.sub N fun q hq=>List.mem_cons_of_mem _ hq,?_⟩
   rw [z]
   exact ⟨_,News.get N (by k_mem),rfl,_,rfl⟩
  try dsimp only
  rename Heap.IsTuple _ _ _=>hT
  walk_at "my gen"
  case hT=>exact hT
  case hz=>simpa using hlb
  case hE=>walk_at "my elt"
  intro a C I g h₅ tk g' ps2 F5 N5 tr5 ab5 q1 q2 q3 q4 GR
  k_steps
  (try dsimp only)
  rename Fr _ _ _ _=>F
  rename News _ _ _ _=>N
  rename Sub _ _=>S2
  rename Array.size _=_=>hs2
  rename ∀ _ _,_→IdItem _ _ _ _=>hit2
  rename ∀ _,_→_ ∈ _=>le2
  rename NotT _=>nT
  refine' retT_end F N ?ht00 ?tr00 ?ab00 ?post00
  case ht00=>k_mem
  case tr00=>with_reducible assumption
  case ab00=>with_reducible assumption
  refine' with_part N ?hw00 ?nw00 ?_
  case hw00=>k_mem
  case nw00=>walk_at "my notab"
  intro N2 G2
  (try dsimp only at N2)
  rw [keyIds_t hke]
  refine' keyIs_mk5 (News.get N2 ?m100) (tup_mx (News.get N2 ?m200) (InstAt.of_news N2 ?h100 ?h200)) (tup_items (News.get N2 ?m300) (szOf hvb hib) hs2 hit2 (G2 _ S2))
  case m100=>k_mem
  case m200=>k_mem
  case m300=>k_mem
  case h100=>k_mem
  case h200=>k_mem
 ·skip
  apply enterN NW (w:=w) [("self",.ref x),("with_build",.bool true)] [(31,.bool true),(11,.ref x)] X T
  walk_at "my enter"
  case hnm=>exact namesC nx_with_build (namesC nx_self (namesN))
  intro L h1 tk F N
  refine addLoc nx_self (by kernel_rfl!) ?_;intro n_self
  refine addLoc nx_with_build (by kernel_rfl!) ?_;intro n_with_build
  refine addLoc nx_prerelease_key (by kernel_rfl!) ?_;intro n_prerelease_key
  refine addLoc nx_build_key (by kernel_rfl!) ?_;intro n_build_key
  refine addGlo (w:=w) gk_MaxIdentifier (by kernel_rfl!) ?_;intro n_MaxIdentifier
  refine addBlt (w:=w) bk_tuple (by kernel_rfl!) ?_;intro n_tuple
  k_steps
  walk_at "my gen"
  case hT=>exact ⟨_,Fr.keep (by with_reducible assumption) _ _ hp,rfl,_,rfl⟩
  case hz=>simpa using hl
  case hE=>walk_at "my elt"
  intro a C I g h₅ tk g' ps' F5 N5 tr5 ab5 q1 q2 q3 q4 GR
  k_steps
  ·exact ⟨_,_,_,rfl,rfl,by kpc_g,by kpc_g,⟨_,Fr.keep (by with_reducible assumption) _ _ hb,rfl,_,rfl⟩⟩
  ·rename Fr _ _ _ _=>F
   rename News _ _ _ _=>N
   have z:lbs=[]:=strValues_nil (by rw [he2,(by assumption:e2=false)];rfl)
   refine ⟨_,_,_,rfl,rfl,F,News.sub N fun q hq=>List.mem_cons_of_mem _ hq,?_⟩
   rw [z]
   exact ⟨_,News.get N (by k_mem),rfl,_,rfl⟩
  rename Sub _ _=>S1
  rename Array.size _=_=>hs1
  rename ∀ _ _,_→IdItem _ _ _ _=>hit1
  try dsimp only
  rename Heap.IsTuple _ _ _=>hT
  walk_at "my gen"
  case hT=>exact hT
  case hz=>simpa using hlb
  case hE=>walk_at "my elt"
  intro a C I g h₅ tk g' ps2 F5 N5 tr5 ab5 q1 q2 q3 q4 GR
  k_steps
  (try dsimp only)
  rename Fr _ _ _ _=>F
  rename News _ _ _ _=>N
  rename Sub _ _=>S2
  rename Array.size _=_=>hs2
  rename ∀ _ _,_→IdItem _ _ _ _=>hit2
  rename ∀ _,_→_ ∈ _=>le2
  rename NotT _=>nT
  refine' retT_end F N ?ht11 ?tr11 ?ab11 ?post11
  case ht11=>k_mem
  case tr11=>with_reducible assumption
  case ab11=>with_reducible assumption
  refine' with_part N ?hw11 ?nw11 ?_
  case hw11=>k_mem
  case nw11=>walk_at "my notab"
  intro N2 G2
  (try dsimp only at N2)
  rw [keyIds_f hke]
  refine' keyIs_mk5 (News.get N2 ?m111) (tup_items (News.get N2 ?m211) (szOf hv hi) hs1 hit1 (G2 _ (S1.le le2))) (tup_items (News.get N2 ?m311) (szOf hvb hib) hs2 hit2 (G2 _ S2))
  case m111=>k_mem
  case m211=>k_mem
  case m311=>k_mem
theorem rs26e:True:=by
 k_with "e26"=>skip
 exact trivial
noncomputable def isDictB (o:Obj):Bool:=match o.cls with
 | .type t=>t == "dict"
 | _=>false
inductive AllC (d:Addr):List (Addr × Obj)→Prop
 | nil:AllC d []
 | tail {r:List (Addr × Obj)} (h:∀ p ∈ r,p.1 ≠ d):AllC d r
 | cons {x:Addr} {o:Obj} {r:List (Addr × Obj)}:isDictB o=false→AllC d r→AllC d ((x,o)::r)
inductive UpdC (d:Addr) (o o':Obj):List (Addr × Obj)→List (Addr × Obj)→Prop
 | head {r:List (Addr × Obj)}:AllC d r→UpdC d o o' ((d,o)::r) ((d,o')::r)
 | tail {x:Addr} {ob:Obj} {r r':List (Addr × Obj)}:isDictB ob=false→UpdC d o o' r r'→UpdC d o o' ((x,ob)::r) ((x,ob)::r')
theorem dictNe {h₀ h:Heap} {L d x:Addr} {o ob:Obj} {news:List (Addr × Obj)} (N:News h₀ L h news) (hd:(d,o) ∈ news) (hx:(x,ob) ∈ news) (e:isDictB o=true) (n:isDictB ob=false):x ≠ d:=fun q=>by
 have h1:=(N _ hd).1
 have h2:=(N _ hx).1
 rw [q,h1] at h2
 rw [show o=ob from Option.some.inj h2,n] at e
 cases e
theorem AllC.ne {h₀ h:Heap} {L d:Addr} {o:Obj} {news r:List (Addr × Obj)} (N:News h₀ L h news) (hd:(d,o) ∈ news) (e:isDictB o=true) (a:AllC d r) (s:∀ p ∈ r,p ∈ news):∀ p ∈ r,p.1 ≠ d:=by
 induction a with
 | nil=>exact fun _ hp=>nomatch hp
 | tail h=>exact h
 | cons n _ ih =>
  intro p hp
  rcases List.mem_cons.mp hp with rfl | hp
  ·exact dictNe N hd (s _ (List.mem_cons_self ..)) e n
  ·exact ih (fun p hp=>s p (List.mem_cons_of_mem _ hp)) p hp
theorem UpdC.mem {d:Addr} {o o':Obj} {r r':List (Addr × Obj)} (u:UpdC d o o' r r'):(d,o) ∈ r:=by
 induction u with
 | head _=>exact List.mem_cons_self ..
 | tail _ _ ih=>exact List.mem_cons_of_mem _ ih
theorem UpdC.up {h₀ h:Heap} {L d:Addr} {o o':Obj} {news r r':List (Addr × Obj)} (N:News h₀ L h news) (hd:(d,o) ∈ news) (e:isDictB o=true) (u:UpdC d o o' r r') (s:∀ p ∈ r,p ∈ news):Upd d o o' r r':=by
 induction u with
 | head a=>exact .head (a.ne N hd e fun p hp=>s p (List.mem_cons_of_mem _ hp))
 | tail n _ ih=>exact .tail (dictNe N hd (s _ (List.mem_cons_self ..)) e n) (ih fun p hp=>s p (List.mem_cons_of_mem _ hp))
theorem UpdC.upd {h₀ h:Heap} {L d:Addr} {o o':Obj} {news news':List (Addr × Obj)} (N:News h₀ L h news) (e:isDictB o=true) (u:UpdC d o o' news news'):Upd d o o' news news':=u.up N u.mem e fun _ h=>h
theorem news_hid {h₀ h:Heap} {L:Addr} {nl news:List (Addr × Obj)} {f:List (Addr × Obj)→List (Addr × Obj)} {ps:Array Value} (N:News h₀ L h news) (ht:(323,tabObj ps) ∈ news) (nt:NoTab nl news f):News h₀ L (hid h) (f nl):=fun p hp=>by
 have:p ∈ news∧p.1 ≠ 323:=by
  rcases nt.mem p hp with q | ⟨m,e | e⟩
  ·exact ⟨nt.nl.2 p q,nt.nl.1 p q⟩
  ·exact ⟨m,noTab_ne N ht m e⟩
  ·exact ⟨m,e⟩
 exact ⟨hid_get (N p this.1).1 this.2,(N p this.1).2⟩
theorem mi_388 (w:World):makesIn (hd.heap_1 w.params) 388=true∧findIn (hd.heap_1 w.params) (.ref 388) "__init__"=some (some (.ref 225))∧typeIn (hd.heap_1 w.params) (.ref 225)=some (.type "function"):=⟨by k_is,by k_is,by k_is⟩
inductive TxE (text:Str) (n0 n1 n2:Int) (pre bld:List Str):Prop
 | mk (e0 e1 e2 e3 f3 e4:Int) (d1 d2:Bool) (C:Cut text e0 e1 e2 e3 f3 e4 d1 d2)
  (h0:Good false (Txt.slice text none (some e0))∧PySem.intText? (Txt.slice text none (some e0))=some n0∧(Txt.slice text none (some e0)).length ≤ 640)
  (h1:Good false (Txt.slice text (some (e0 + 1)) (some e1))∧PySem.intText? (Txt.slice text (some (e0 + 1)) (some e1))=some n1∧(Txt.slice text (some (e0 + 1)) (some e1)).length ≤ 640)
  (h2:Good false (Txt.slice text (some (e1 + 1)) (some e2))∧PySem.intText? (Txt.slice text (some (e1 + 1)) (some e2))=some n2∧(Txt.slice text (some (e1 + 1)) (some e2)).length ≤ 640)
  (hp:(d1=true→Txt.split (Txt.slice text (some (e2 + 1)) (some e3)) "."=pre)∧(Txt.slice text (some (e2 + 1)) (some e3)).length ≤ 640∧(d1=true→(Txt.slice text (some (e2 + 1)) (some e3) == "")=false)∧(d1=false→pre=[]))
  (hq:(d2=true→Txt.split (Txt.slice text (some (f3 + 1)) (some e4)) "."=bld)∧(Txt.slice text (some (f3 + 1)) (some e4)).length ≤ 640∧(d2=true→(Txt.slice text (some (f3 + 1)) (some e4) == "")=false)∧(d2=false→bld=[])):TxE text n0 n1 n2 pre bld
structure Txv (text:Str) (n0 n1 n2:Int) (pre bld:List Str) (ks bs:List Idn):Prop where
 ex:TxE text n0 n1 n2 pre bld
 lt:text.length ≤ 1000
 l0:(text.length:Int) ≠ 0
 gp:∀ v ∈ pre,Good false v
 gb:∀ v ∈ bld,Good true v
 lp:pre.length ≤ 1000
 lb:bld.length ≤ 1000
 ip:IdsOf pre ks
 ib:IdsOf bld bs
theorem parse_txv {text:Str} {t1:Tok} {n0 n1 n2:Int} {pre bld:List Str} {ks bs:List Idn} (V:Txv text n0 n1 n2 pre bld ks bs) (X:(hd.heap_1 w.params).In s.heap) (T:Top p loose mean mg mb s.heap) (r:Rm A 4) :
  codeAny (model prog w) A (.call (.ref 282) ⟨[.ref 388,.str text t1,.bool false],[]⟩) (Ret s fun u h'=>∃ x t0 t1 t2 a b,u=.ref x∧(h'.get? x=some { cls:=.type "tuple",data:=.seq #[.int n0 t0,.int n1 t1,.int n2 t2,.ref a,.ref b] }∧s.heap.get? x=none)∧StrTup s.heap h' a pre∧StrTup s.heap h' b bld) s:=by
 refine byc fun b_=>?_
 obtain ⟨⟨e0,e1,e2,e3,f3,e4,d1,d2,C,⟨a1,a2,a3⟩,⟨b1,b2,b3⟩,⟨c1,c2,c3⟩,⟨p1,p2,p3,p4⟩,⟨q1,q2,q3,q4⟩⟩,lt,l0,gp,gb,lp,lb,ip,ib⟩:=V
 refine b_ ?_;clear b_
 exact parse_spec X T r lt l0 C a1 a2 b1 b2 c1 c2 a3 b3 c3 p1 p2 gp p3 q1 q2 gb q3 lp lb p4 q4
section
variable {Q:Value→Shared→Prop} {E:Value→Shared→Prop} {h₀:Heap} {L:Addr} {m:Str→Option Value} {news:List (Addr × Obj)}
theorem parseM {q:Addr} {text:Str} {t1:Tok} {n0 n1 n2:Int} {pre bld:List Str} {ks bs:List Idn} (F:Fr h₀ L s.heap m) (N:News h₀ L s.heap news) (X:(hd.heap_1 w.params).In h₀) (T:Top p loose mean mg mb h₀) (V:Txv text n0 n1 n2 pre bld ks bs) (hq:(q,methodObj (.ref 282) (.ref 388)) ∈ news) (r:Rm A 4)
  (h:∀ x t0 t1 t2 a b la lb h' tk,la.map (·.1)=pre→lb.map (·.1)=bld→Fr h₀ L h' m→News h₀ L h' ((x,{ cls:=.type "tuple",data:=.seq #[.int n0 t0,.int n1 t1,.int n2 t2,.ref a,.ref b] })::(a,tupO (strValues la))::(b,tupO (strValues lb))::news)→Q (.ref x) { s with heap:=h',toks:=tk }) :
  wpAny (model prog w) A (call (.ref q) [.str text t1,.bool false]) Q E s :=
 useM F N hq (parse_txv V (X.keeps F.keep) (T.keeps F.keep) r) fun _ h' tk F' N' pk0=>by
  obtain ⟨x,t0,t1,t2,a,b,e,⟨hx,nx⟩,⟨la,ha,na,ea⟩,⟨lb,hb,nb,eb⟩⟩:=pk0
  refine byc fun b_=>?_
  subst e
  refine b_ ?_;clear b_
  exact h x t0 t1 t2 a b la lb h' tk ea eb F' (News.cons F (News.cons F (News.cons F N' hb nb) ha na) hx nx)
end
section
variable {Q:Value→Shared→Prop} {E:Value→Shared→Prop} {h₀:Heap} {L:Addr} {m:Str→Option Value} {nl news:List (Addr × Obj)} {c:List (Addr × Obj)→List (Addr × Obj)} {ps:Array Value}
structure Tail (q:Heap) (nl nl':List (Addr × Obj)):Prop where
 sub:Sub q nl'
 le:∀ p ∈ nl,p ∈ nl'
 nt:NotT nl'
theorem bpkF_f {x dx pa ba:Addr} {n0 n1 n2:Int} {rest:List DictEntry} {la:List (Str × Tok)} {vs:List Str} {ks:List Idn} {sl:Array (Option Value)} {n:Nat} {k0 k1 k2 k3 k4 k5:Int} {t0 t1 t2 t3 t4 t5 i0 i1 i2:Tok}
  (F:Fr h₀ L s.heap m) (N:News h₀ L s.heap news) (X:(hd.heap_1 w.params).In h₀) (T:Top p loose mean mg mb h₀) (r:Rm A 6) (ht:(323,tabObj ps) ∈ news) (tr:TriplesOk ps.toList) (ab:AllBare s.gens) (nt:NoTab nl news c)
  (mx:(x,(⟨.ref 388,some dx,.plain,sl⟩:Obj)) ∈ c nl) (md:(dx,dictOf (⟨k0,.str "major" t0,.int n0 i0⟩::⟨k1,.str "minor" t1,.int n1 i1⟩::⟨k2,.str "patch" t2,.int n2 i2⟩ ::
  ⟨k3,.str "prerelease" t3,.ref pa⟩::⟨k4,.str "build" t4,.ref ba⟩::⟨k5,.str "partial" t5,.bool false⟩::rest) n) ∈ c nl) (mp:(pa,tupO (strValues la)) ∈ c nl) (ea:la.map (·.1)=vs) (la0:vs.length ≤ 1000) (ia:IdsOf vs ks) (hdx:∀ p ∈ nl,p.1 ≠ dx)
  (h:∀ v h' tk g' ps' q nl',Fr h₀ L h' m→News h₀ L h' ((323,tabObj ps')::c nl')→TriplesOk ps'.toList→AllBare g'→KeyIs q (.ref v) [.n n0,.n n1,.n n2,.o (keyIds ks)]→Tail q nl nl'→NotT nl'→(∀ p ∈ nl',p.1 ≠ dx)→Q (.ref v) { s with heap:=h',toks:=tk,gens:=g' }) :
  wpAny (model prog w) A (call (.ref 328) [.ref x] [("with_build",.bool false)]) Q E s:=by
 have NH:=news_hid N ht nt
 refine useT F N X T ht tr ab nt (fun t=>bpk_f t r ⟨_,_,_,_,_,_,_,_,_,_,_,_,_,_,_,_,_,InstAt.of_news NH mx md⟩ (NH _ mp).1 (by rw [strValues,List.length_map,← List.length_map (f:=(·.1)),ea];exact la0) ea ia) fun v h' tk g' ps' q nl' F' N' tr' ab' hp S le nt' old=>?_
 refine byc fun b_=>?_
 obtain ⟨y,o,items,k,rfl,r1,r2,r3,r4⟩:=hp
 refine b_ ?_;clear b_
 have hdl:s.heap.get? dx ≠ none:=by
  rw [hid_of (NH _ md).1];simp
 exact h y h' tk g' ps' q nl' F' N' tr' ab' ⟨y,o,items,k,rfl,r1,r2,r3,r4⟩ ⟨S,le,nt'⟩ nt' fun p hp=>(old p hp).elim (hdx p) fun e q=>hdl (by rw [← q];exact e)
theorem bpkF_t {x dx pa ba:Addr} {n0 n1 n2:Int} {rest:List DictEntry} {la:List (Str × Tok)} {vs:List Str} {ks:List Idn} {lb:List (Str × Tok)} {vb:List Str} {bs:List Idn} {sl:Array (Option Value)} {n:Nat} {k0 k1 k2 k3 k4 k5:Int} {t0 t1 t2 t3 t4 t5 i0 i1 i2:Tok}
  (F:Fr h₀ L s.heap m) (N:News h₀ L s.heap news) (X:(hd.heap_1 w.params).In h₀) (T:Top p loose mean mg mb h₀) (r:Rm A 6) (ht:(323,tabObj ps) ∈ news) (tr:TriplesOk ps.toList) (ab:AllBare s.gens) (nt:NoTab nl news c)
  (mx:(x,(⟨.ref 388,some dx,.plain,sl⟩:Obj)) ∈ c nl) (md:(dx,dictOf (⟨k0,.str "major" t0,.int n0 i0⟩::⟨k1,.str "minor" t1,.int n1 i1⟩::⟨k2,.str "patch" t2,.int n2 i2⟩ ::
  ⟨k3,.str "prerelease" t3,.ref pa⟩::⟨k4,.str "build" t4,.ref ba⟩::⟨k5,.str "partial" t5,.bool false⟩::rest) n) ∈ c nl) (mp:(pa,tupO (strValues la)) ∈ c nl) (ea:la.map (·.1)=vs) (la0:vs.length ≤ 1000) (ia:IdsOf vs ks) (mb':(ba,tupO (strValues lb)) ∈ c nl) (eb:lb.map (·.1)=vb) (lb0:vb.length ≤ 1000) (ib:IdsOf vb bs) (hdx:∀ p ∈ nl,p.1 ≠ dx)
  (h:∀ v h' tk g' ps' q nl',Fr h₀ L h' m→News h₀ L h' ((323,tabObj ps')::c nl')→TriplesOk ps'.toList→AllBare g'→KeyIs q (.ref v) [.n n0,.n n1,.n n2,.o (keyIds ks),.o bs]→Tail q nl nl'→NotT nl'→(∀ p ∈ nl',p.1 ≠ dx)→Q (.ref v) { s with heap:=h',toks:=tk,gens:=g' }) :
  wpAny (model prog w) A (call (.ref 328) [.ref x] [("with_build",.bool true)]) Q E s:=by
 have NH:=news_hid N ht nt
 refine useT F N X T ht tr ab nt (fun t=>bpk_t t r ⟨_,_,_,_,_,_,_,_,_,_,_,_,_,_,_,_,_,InstAt.of_news NH mx md⟩ (NH _ mp).1 (by rw [strValues,List.length_map,← List.length_map (f:=(·.1)),ea];exact la0) ea ia (NH _ mb').1 (by rw [strValues,List.length_map,← List.length_map (f:=(·.1)),eb];exact lb0) eb ib) fun v h' tk g' ps' q nl' F' N' tr' ab' hp S le nt' old=>?_
 refine byc fun b_=>?_
 obtain ⟨y,o,items,k,rfl,r1,r2,r3,r4⟩:=hp
 refine b_ ?_;clear b_
 have hdl:s.heap.get? dx ≠ none:=by
  rw [hid_of (NH _ md).1];simp
 exact h y h' tk g' ps' q nl' F' N' tr' ab' ⟨y,o,items,k,rfl,r1,r2,r3,r4⟩ ⟨S,le,nt'⟩ nt' fun p hp=>(old p hp).elim (hdx p) fun e q=>hdl (by rw [← q];exact e)
end
inductive VerAt (q:Heap) (x:Addr) (n0 n1 n2:Int) (pre bld:List Str) (ks bs:List Idn):Prop
 | mk (pa ba c1 c2 k6 k7 t6 t7 la lb:_) (cj1:VerIn q x n0 n1 n2 pa ba [⟨k6,.str "_cmp_precedence_key" t6,.ref c1⟩,⟨k7,.str "_sort_precedence_key" t7,.ref c2⟩]) (cj2:(q.get? pa=some (tupO (strValues la))∧la.map (·.1)=pre∧pre.length ≤ 1000)) (cj3:(q.get? ba=some (tupO (strValues lb))∧lb.map (·.1)=bld∧bld.length ≤ 1000)) (cj4:KeyIs q (.ref c1) [.n n0,.n n1,.n n2,.o (keyIds ks)]) (cj5:KeyIs q (.ref c2) [.n n0,.n n1,.n n2,.o (keyIds ks),.o bs]):VerAt q x n0 n1 n2 pre bld ks bs
theorem newT {s:Shared} {ps:Array Value} {x dx:Addr} {h':Heap} {o od:Obj} (t:TT w p loose mean mg mb s ps) (NW:NewAbove s.heap h' [(x,o),(dx,od)]):NewAbove (hid s.heap) h' [(x,o),(dx,od),(323,tabObj ps)] where
 keep:=fun b o e=>NW.keep b o (hid_of e)
 size:=Nat.le_trans (Nat.le_of_eq (hideAll_size _ _)) NW.size
 news:=fun q hq=>by
  have hn:∀ q ∈ [(x,o),(dx,od)],h'.get? q.1=some q.2∧(hid s.heap).get? q.1=none:=fun q hq=>⟨(NW.news q hq).1,by
   cases e:(hid s.heap).get? q.1 with
   | none=>rfl
   | some o=>exact absurd ((NW.news q hq).2.symm.trans (hid_of e)) (fun e=>nomatch e)⟩
  rcases List.mem_cons.mp hq with rfl | hq
  ·exact hn _ (List.mem_cons_self ..)
  ·rcases List.mem_cons.mp hq with rfl | hq
   ·exact hn _ (List.mem_cons_of_mem _ (List.mem_cons_self ..))
   ·rw [List.mem_singleton.mp hq];exact ⟨NW.keep _ _ t.tab,hid_tab _⟩
theorem KeyIs.keep {h h':Heap} (g:Grown h h') {v:Value} {as:List (Ne (List Idn))} (x:KeyIs h v as):KeyIs h' v as :=
 TupIs.keep (fun {v a} y=>by
  cases a with
  | n i=>exact y
  | o a=>exact TupIs.keep (fun z=>IdIs.keep g z) g y) g x
theorem initT_end {s:Shared} {x L:Addr} {h':Heap} {m:Str→Option Value} {tk:Nat} {g':Array GenState} {Post:Value→Heap→Prop} {news:List (Addr × Obj)} {ps:Array Value} (F:Fr (hid s.heap) L h' m) (N:News (hid s.heap) L h' news) (ht:(323,tabObj ps) ∈ news) (tr:TriplesOk ps.toList) (ab:AllBare g')
  (h:Post (.ref x) (part s.heap h')):InitBack x (RetT s Post) (.ok (.ret .none)) { s with heap:=h',toks:=tk,gens:=g' }:=⟨rfl,retT_end F N ht tr ab h⟩
theorem rs29m0:True:=by
 k_with "@my upd"=>(apply UpdC.upd;kpc_g;exact rfl;k_extra "@my updc")
 k_with "@my updc"=>first | (apply UpdC.head;k_extra "@my allc") | (apply UpdC.tail;exact rfl;k_extra "@my updc")
 k_with "@my allc"=>first | apply AllC.nil | (apply AllC.tail;kpc_g) | (apply AllC.cons;exact rfl;k_extra "@my allc")
 k_with "@my nodx"=>first | kpc_g | apply List.forall_mem_nil
 k_with "@call ref"=>k_dflt (first | ((try dsimp only);apply parseM;kpc_g;kpc_g;kpc_g;kpc_g;kpc_g;k_mem;k_extra "@my rmd";(intro _;intros;k_sweep)) | ((try dsimp only);apply bpkF_f;kpc_g;kpc_g;kpc_g;kpc_g;k_extra "@my rmd";k_mem;kpc_g;k_extra "@my dg";k_extra "@my notab";k_extra "@my dm";k_extra "@my dm";k_extra "@my dm";kpc_g;kpc_g;kpc_g;k_extra "@my nodx";(intro _;intros;k_sweep)) | ((try dsimp only);apply bpkF_t;kpc_g;kpc_g;kpc_g;kpc_g;k_extra "@my rmd";k_mem;kpc_g;k_extra "@my dg";k_extra "@my notab";k_extra "@my dm";k_extra "@my dm";k_extra "@my dm";kpc_g;kpc_g;kpc_g;k_extra "@my dm";kpc_g;kpc_g;kpc_g;k_extra "@my nodx";(intro _;intros;k_sweep)))
 k_with "@my dm"=>((try dsimp only);k_mem)
 exact trivial
local macro_rules | `(tactic| k_upd)=>`(tactic| walk_at "my upd")
theorem version_spec {text:Str} {tt:Tok} {n0 n1 n2:Int} {pre bld:List Str} {ks bs:List Idn} {ps:Array Value} (V:Txv text n0 n1 n2 pre bld ks bs) (t:TT w p loose mean mg mb s ps) (r:Rm A 8) :
  codeAny (model prog w) A (.call (.ref 388) ⟨[.str text tt],[]⟩) (RetT s fun u q=>∃ x,u=.ref x∧VerAt q x n0 n1 n2 pre bld ks bs) s:=by
 refine newInst (t.X.keeps fun _ _ e=>hid_of e) (mi_388 w).1 (mi_388 w).2.1 (mi_388 w).2.2 fun x dx h' NW0 lt=>?_
 have r2:=r.mk (C:=388) (rest:=[.str text tt]) 7 (by decide)
 generalize hA1:A.under (.builtin "type.__call__" ⟨.ref 388::[.str text tt],[]⟩)=A1 at r2 ⊢
 clear r hA1
 obtain ⟨hA,dA,fA,gA,uA⟩:=A1
 obtain rfl:hA=none:=r2.hand
 have NW:=newT t NW0
 have X:=t.X
 have T:=t.T
 have tr:=t.tr
 have ab:=t.ab
 have lp:=V.lp
 have lb:=V.lb
 have ip:=V.ip
 have ib:=V.ib
 apply enterN NW (w:=w) [("self",.ref x),("version_string",.str text tt),("major",.none),("minor",.none),("patch",.none),("prerelease",.none),("build",.none),("partial",.bool false)] [(7,.bool false),(18,.none),(17,.none),(16,.none),(15,.none),(14,.none),(13,.str text tt),(11,.ref x)] X T
 walk_at "my enter"
 case hnm=>exact namesC nx_partial (namesC nx_build (namesC nx_prerelease (namesC nx_patch (namesC nx_minor (namesC nx_major (namesC nx_version_string (namesC nx_self (namesN))))))))
 intro L h1 tk F N
 refine addLoc nx_self (by kernel_rfl!) ?_;intro n_self
 refine addLoc nx_version_string (by kernel_rfl!) ?_;intro n_version_string
 refine addLoc nx_major (by kernel_rfl!) ?_;intro n_major
 refine addLoc nx_minor (by kernel_rfl!) ?_;intro n_minor
 refine addLoc nx_patch (by kernel_rfl!) ?_;intro n_patch
 refine addLoc nx_prerelease (by kernel_rfl!) ?_;intro n_prerelease
 refine addLoc nx_build (by kernel_rfl!) ?_;intro n_build
 refine addLoc nx_partial (by kernel_rfl!) ?_;intro n_partial
 refine addLoc nx_has_text (by kernel_rfl!) ?_;intro n_has_text
 refine addLoc nx_has_parts (by kernel_rfl!) ?_;intro n_has_parts
 refine addBlt (w:=w) bk_tuple (by kernel_rfl!) ?_;intro n_tuple
 k_steps
 (try dsimp only)
 rename Fr _ _ _ _=>F
 rename News _ _ _ _=>N
 rename Tail _ _ _=>T2
 rename Tail _ [] _=>T1
 rename KeyIs _ _ _=>K2
 rename KeyIs _ _ [_,_,_,_]=>K1
 rename NotT _=>nT
 refine' initT_end F N ?ht ?tr ?ab ⟨x,rfl,with_part N ?ht2 ?nt ?vv⟩
 case ht=>k_mem
 case tr=>with_reducible assumption
 case ab=>(try dsimp only);with_reducible assumption
 case ht2=>k_mem
 case nt=>walk_at "my notab"
 intro N2 G2
 (try dsimp only at N2)
 refine' ⟨_,_,_,_,_,_,_,_,_,_,⟨_,_,_,_,_,_,_,_,_,_,_,_,_,_,_,_,_,InstAt.of_news N2 ?h1 ?h2⟩,⟨News.get N2 ?m1,?ea,lp⟩,⟨News.get N2 ?m2,?eb,lb⟩,K1.keep (G2 _ (T1.sub.le T2.le)),K2.keep (G2 _ T2.sub)⟩
 case h1=>k_mem
 case h2=>k_mem
 case m1=>k_mem
 case m2=>k_mem
 case ea=>with_reducible assumption
 case eb=>with_reducible assumption
noncomputable def idsOp (op:CmpOp) (a b:List Idn):Bool:=lexB Idn.beq (Idn.opf op) (sizesB op a.length b.length) a b
noncomputable def keyOp (op:CmpOp) (a b:List (Ne (List Idn))):Bool:=lexB (Ne.eqf (eqL Idn.beq)) (Ne.opf op (idsOp op)) (sizesB op a.length b.length) a b
noncomputable def KeyOk (a b:List (Ne (List Idn))):Prop:=ZipOk (Ne.ok (ZipOk fun _ _=>True)) a b
theorem keyOk4 {a0 a1 a2 b0 b1 b2:Int} {a b:List Idn}:KeyOk [.n a0,.n a1,.n a2,.o a] [.n b0,.n b1,.n b2,.o b]:=⟨trivial,trivial,trivial,ZipOk.all (fun _ _=>trivial) a b,trivial⟩
theorem keyOk5 {a0 a1 a2 b0 b1 b2:Int} {a b a' b':List Idn}:KeyOk [.n a0,.n a1,.n a2,.o a,.o a'] [.n b0,.n b1,.n b2,.o b,.o b']:=⟨trivial,trivial,trivial,ZipOk.all (fun _ _=>trivial) a b,ZipOk.all (fun _ _=>trivial) a' b',trivial⟩
theorem key_op {op:CmpOp} {u v:Value} {a b:List (Ne (List Idn))} (ho:opOk op) (X:(hd.heap_1 w.params).In s.heap) (T:Top p loose mean mg mb s.heap) (r:Rm A 7) (hx:KeyIs s.heap u a) (hy:KeyIs s.heap v b) (hok:KeyOk a b) :
  wpAny (model prog w) A (richCompare op u v) (Got s fun r _=>r=.bool (keyOp op a b)) (fun _ _=>False) s:=by
 have r1:Rm A.in1 6:=r.in1 6 (by decide)
 have r2:Rm A.in1.in1 5:=r1.in1 5 (by decide)
 exact tup_op ho (kdNe (kdTup (A:=A.in1) (kdId (A:=A.in1.in1) X T (r2.le 3 (by decide)) fun _ _=>ho) r1.un fun _ _=>ho) (fun h=>by obtain ⟨_,_,_,_,e,_⟩:=h;cases e) fun _ _=>ho) hx hy hok r.un
section
variable {Q:Value→Shared→Prop} {E:Value→Shared→Prop} {h₀:Heap} {L:Addr} {m:Str→Option Value} {news:List (Addr × Obj)}
theorem keyF {op:CmpOp} {u v:Value} {a b:List (Ne (List Idn))} (ho:opOk op) (F:Fr h₀ L s.heap m) (N:News h₀ L s.heap news) (X:(hd.heap_1 w.params).In h₀) (T:Top p loose mean mg mb h₀) (r:Rm A 7) (hx:KeyIs h₀ u a) (hy:KeyIs h₀ v b) (hok:KeyOk a b)
  (h:∀ h' tk,Fr h₀ L h' m→News h₀ L h' news→Q (.bool (keyOp op a b)) { s with heap:=h',toks:=tk }):wpAny (model prog w) A (richCompare op u v) Q E s:=by
 refine wpAny_mono (key_op ho (X.keeps F.keep) (T.keeps F.keep) r (hx.keep F.keep) (hy.keep F.keep) hok) (fun c s' g=>?_) fun _ _ x=>x.elim
 obtain ⟨h',tk,rfl,g,rfl⟩:=g
 exact h h' tk (fr_on F g) (news_on N g)
end
set_option genInjectivity false in
structure VerOf where
 n0:Int
 n1:Int
 n2:Int
 pre:List Str
 bld:List Str
 ks:List Idn
 bs:List Idn
noncomputable def VerOf.k4 (v:VerOf):List (Ne (List Idn)):=[.n v.n0,.n v.n1,.n v.n2,.o (keyIds v.ks)]
noncomputable def VerOf.k5 (v:VerOf):List (Ne (List Idn)):=[.n v.n0,.n v.n1,.n v.n2,.o (keyIds v.ks),.o v.bs]
noncomputable abbrev Ver (h:Heap) (x:Addr) (v:VerOf):Prop:=VerAt h x v.n0 v.n1 v.n2 v.pre v.bld v.ks v.bs
theorem ok44 (a b:VerOf):KeyOk a.k4 b.k4:=keyOk4
theorem ok55 (a b:VerOf):KeyOk a.k5 b.k5:=keyOk5
theorem rs30m0:True:=by
 k_with "@my ok44"=>first | exact ok44 .. | (apply Or.inl;exact rfl) | (apply Or.inr;apply Or.inl;exact rfl) | (apply Or.inr;apply Or.inr;apply Or.inl;exact rfl) | (apply Or.inr;apply Or.inr;apply Or.inr;exact rfl)
 k_with "@my key"=>apply keyF <;> (first | kpc_g | k_extra "@my rmd" | k_extra "@my ok44" | (intro _;intros;k_sweep))
 k_with "@compareOp Lt ref ref"=>k_dflt ((apply cmp_ofLt;k_extra "@my key"))
 k_with "@compareOp LtE ref ref"=>k_dflt ((apply cmp_ofLtE;k_extra "@my key"))
 k_with "@compareOp Gt ref ref"=>k_dflt ((apply cmp_ofGt;k_extra "@my key"))
 k_with "@compareOp GtE ref ref"=>k_dflt ((apply cmp_ofGtE;k_extra "@my key"))
 exact trivial
theorem ver_lt {x y:Addr} {a b:VerOf} (X:(hd.heap_1 w.params).In s.heap) (T:Top p loose mean mg mb s.heap) (hx:Ver s.heap x a) (hy:Ver s.heap y b) (r:Rm A 8) :
  codeAny (model prog w) A (.call (.ref 364) ⟨[.ref x,.ref y],[]⟩) (Ret s fun v _=>v=.bool (keyOp .Lt a.k4 b.k4)) s:=by
 refine byc fun b_=>?_
 obtain ⟨_,_,_,_,_,_,_,_,_,_,⟨_,_,_,_,_,_,_,_,_,_,_,_,_,_,_,_,_,I⟩,_,_,K,_⟩:=hx
 obtain ⟨_,_,_,_,_,_,_,_,_,_,⟨_,_,_,_,_,_,_,_,_,_,_,_,_,_,_,_,_,J⟩,_,_,K',_⟩:=hy
 refine b_ ?_;clear b_
 have K:KeyIs s.heap _ a.k4:=K
 have K':KeyIs s.heap _ b.k4:=K'
 apply enter (w:=w) [("self",.ref x),("other",.ref y)] [(12,.ref y),(11,.ref x)] X T
 walk_at "my enter"
 case hnm=>exact namesC nx_other (namesC nx_self (namesN))
 intro L h1 tk F N
 refine addLoc nx_self (by kernel_rfl!) ?_;intro n_self
 refine addLoc nx_other (by kernel_rfl!) ?_;intro n_other
 refine addGlo (w:=w) gk_Version (by kernel_rfl!) ?_;intro n_Version
 refine addBlt (w:=w) bk_isinstance (by kernel_rfl!) ?_;intro n_isinstance
 refine addBlt (w:=w) bk_NotImplemented (by kernel_rfl!) ?_;intro n_NotImplemented
 k_steps
 (try dsimp only)
 refine ret_end (by with_reducible assumption) rfl
theorem ver_le {x y:Addr} {a b:VerOf} (X:(hd.heap_1 w.params).In s.heap) (T:Top p loose mean mg mb s.heap) (hx:Ver s.heap x a) (hy:Ver s.heap y b) (r:Rm A 8) :
  codeAny (model prog w) A (.call (.ref 371) ⟨[.ref x,.ref y],[]⟩) (Ret s fun v _=>v=.bool (keyOp .LtE a.k4 b.k4)) s:=by
 refine byc fun b_=>?_
 obtain ⟨_,_,_,_,_,_,_,_,_,_,⟨_,_,_,_,_,_,_,_,_,_,_,_,_,_,_,_,_,I⟩,_,_,K,_⟩:=hx
 obtain ⟨_,_,_,_,_,_,_,_,_,_,⟨_,_,_,_,_,_,_,_,_,_,_,_,_,_,_,_,_,J⟩,_,_,K',_⟩:=hy
 refine b_ ?_;clear b_
 have K:KeyIs s.heap _ a.k4:=K
 have K':KeyIs s.heap _ b.k4:=K'
 apply enter (w:=w) [("self",.ref x),("other",.ref y)] [(12,.ref y),(11,.ref x)] X T
 walk_at "my enter"
 case hnm=>exact namesC nx_other (namesC nx_self (namesN))
 intro L h1 tk F N
 refine addLoc nx_self (by kernel_rfl!) ?_;intro n_self
 refine addLoc nx_other (by kernel_rfl!) ?_;intro n_other
 refine addGlo (w:=w) gk_Version (by kernel_rfl!) ?_;intro n_Version
 refine addBlt (w:=w) bk_isinstance (by kernel_rfl!) ?_;intro n_isinstance
 refine addBlt (w:=w) bk_NotImplemented (by kernel_rfl!) ?_;intro n_NotImplemented
 k_steps
 (try dsimp only)
 refine ret_end (by with_reducible assumption) rfl
theorem ver_gt {x y:Addr} {a b:VerOf} (X:(hd.heap_1 w.params).In s.heap) (T:Top p loose mean mg mb s.heap) (hx:Ver s.heap x a) (hy:Ver s.heap y b) (r:Rm A 8) :
  codeAny (model prog w) A (.call (.ref 378) ⟨[.ref x,.ref y],[]⟩) (Ret s fun v _=>v=.bool (keyOp .Gt a.k4 b.k4)) s:=by
 refine byc fun b_=>?_
 obtain ⟨_,_,_,_,_,_,_,_,_,_,⟨_,_,_,_,_,_,_,_,_,_,_,_,_,_,_,_,_,I⟩,_,_,K,_⟩:=hx
 obtain ⟨_,_,_,_,_,_,_,_,_,_,⟨_,_,_,_,_,_,_,_,_,_,_,_,_,_,_,_,_,J⟩,_,_,K',_⟩:=hy
 refine b_ ?_;clear b_
 have K:KeyIs s.heap _ a.k4:=K
 have K':KeyIs s.heap _ b.k4:=K'
 apply enter (w:=w) [("self",.ref x),("other",.ref y)] [(12,.ref y),(11,.ref x)] X T
 walk_at "my enter"
 case hnm=>exact namesC nx_other (namesC nx_self (namesN))
 intro L h1 tk F N
 refine addLoc nx_self (by kernel_rfl!) ?_;intro n_self
 refine addLoc nx_other (by kernel_rfl!) ?_;intro n_other
 refine addGlo (w:=w) gk_Version (by kernel_rfl!) ?_;intro n_Version
 refine addBlt (w:=w) bk_isinstance (by kernel_rfl!) ?_;intro n_isinstance
 refine addBlt (w:=w) bk_NotImplemented (by kernel_rfl!) ?_;intro n_NotImplemented
 k_steps
 (try dsimp only)
 refine ret_end (by with_reducible assumption) rfl
theorem ver_ge {x y:Addr} {a b:VerOf} (X:(hd.heap_1 w.params).In s.heap) (T:Top p loose mean mg mb s.heap) (hx:Ver s.heap x a) (hy:Ver s.heap y b) (r:Rm A 8) :
  codeAny (model prog w) A (.call (.ref 385) ⟨[.ref x,.ref y],[]⟩) (Ret s fun v _=>v=.bool (keyOp .GtE a.k4 b.k4)) s:=by
 refine byc fun b_=>?_
 obtain ⟨_,_,_,_,_,_,_,_,_,_,⟨_,_,_,_,_,_,_,_,_,_,_,_,_,_,_,_,_,I⟩,_,_,K,_⟩:=hx
 obtain ⟨_,_,_,_,_,_,_,_,_,_,⟨_,_,_,_,_,_,_,_,_,_,_,_,_,_,_,_,_,J⟩,_,_,K',_⟩:=hy
 refine b_ ?_;clear b_
 have K:KeyIs s.heap _ a.k4:=K
 have K':KeyIs s.heap _ b.k4:=K'
 apply enter (w:=w) [("self",.ref x),("other",.ref y)] [(12,.ref y),(11,.ref x)] X T
 walk_at "my enter"
 case hnm=>exact namesC nx_other (namesC nx_self (namesN))
 intro L h1 tk F N
 refine addLoc nx_self (by kernel_rfl!) ?_;intro n_self
 refine addLoc nx_other (by kernel_rfl!) ?_;intro n_other
 refine addGlo (w:=w) gk_Version (by kernel_rfl!) ?_;intro n_Version
 refine addBlt (w:=w) bk_isinstance (by kernel_rfl!) ?_;intro n_isinstance
 refine addBlt (w:=w) bk_NotImplemented (by kernel_rfl!) ?_;intro n_NotImplemented
 k_steps
 (try dsimp only)
 refine ret_end (by with_reducible assumption) rfl
noncomputable abbrev StrIs:Heap→Value→Str→Prop:=fun _ v a=>∃ t,v=.str a t
theorem strT {h:Heap} {a:Addr} {l:List (Str × Tok)} {vs:List Str} (e:h.get? a=some (tupO (strValues l))) (hl:l.map (·.1)=vs):TupIs StrIs h (.ref a) vs:=by
 refine ⟨a,_,_,_,rfl,e,rfl,rfl,?_⟩
 subst hl
 show AllIs StrIs h (strValues l) _
 clear e
 induction l with
 | nil=>exact .nil
 | cons p r ih=>exact .cons ⟨p.2,rfl⟩ ih
theorem strN {h:Heap} {a:Addr} {vs:List Str} (e:h.get? a=some { cls:=.type "tuple",data:=.seq #[] }) (hv:vs=[]):TupIs StrIs h (.ref a) vs:=by
 subst hv
 exact ⟨a,_,_,_,rfl,e,rfl,rfl,.nil⟩
theorem eqL_str (a:List Str):∀ (b:List Str),eqL (fun x y=>x == y) a b=(a == b):=by
 induction a with
 | nil=>intro b;cases b <;> rfl
 | cons x a ih=>intro b;cases b with
  | nil=>rfl
  | cons y b=>exact congrArg (x == y && ·) (ih b)
theorem strs_eq {u v:Value} {a b:List Str} (hx:TupIs StrIs s.heap u a) (hy:TupIs StrIs s.heap v b) (r:Rm A 2) :
  wpAny (model prog w) A (richCompare .Eq u v) (Got s fun r _=>r=.bool (a == b)) (fun _ _=>False) s:=by
 rw [← eqL_str]
 exact tup_eq (kdStr (op:=.Eq) (.inl rfl)) hx hy (ZipOk.all (fun _ _=>trivial) a b) r.un
section
variable {Q:Value→Shared→Prop} {E:Value→Shared→Prop} {h₀:Heap} {L:Addr} {m:Str→Option Value} {news:List (Addr × Obj)}
theorem strsF {u v:Value} {a b:List Str} (F:Fr h₀ L s.heap m) (N:News h₀ L s.heap news) (r:Rm A 2) (hx:TupIs StrIs s.heap u a) (hy:TupIs StrIs s.heap v b)
  (h:∀ h' tk,Fr h₀ L h' m→News h₀ L h' news→Q (.bool (a == b)) { s with heap:=h',toks:=tk }):wpAny (model prog w) A (richCompare .Eq u v) Q E s:=by
 refine wpAny_mono (strs_eq hx hy r) (fun c s' g=>?_) fun _ _ x=>x.elim
 obtain ⟨h',tk,rfl,g,rfl⟩:=g
 exact h h' tk (fr_on F g) (news_on N g)
end
theorem pre_nil {l:List (Str × Tok)} {vs:List Str} (h:l.map (·.1)=vs) (e:(strValues l).isEmpty=!false):vs=[]:=by
 rw [← h,strValues_nil e];rfl
inductive SrcAt (h:Heap) (a:Addr) (vs:List Str):Prop
 | mk (l:List (Str × Tok)) (e:h.get? a=some (tupO (strValues l))) (hl:l.map (·.1)=vs) (hz:(strValues l).length ≤ 1000):SrcAt h a vs
noncomputable def OrNext (M:Model) (A:Around) (k:Nat) (p pos:Pos) (env:Env) (Q:Value→Shared→Prop) (E:Value→Shared→Prop) (v:Value) (s:Shared):Prop :=
 wpAny M A (truthy v) (fun c s₂=>if c then Q v s₂ else wpAny M A (eval (.BoolOp .Or [.Tuple [] k p] pos) env) Q E s₂) E s
theorem orEval {M:Model} {A:Around} {e:Expr} {k:Nat} {p pos:Pos} {env:Env} {Q:Value→Shared→Prop} {E:Value→Shared→Prop} {s:Shared} (h:wpAny M A (eval e env) (fun v s₁=>Hold (OrNext M A k p pos env Q E v s₁)) E s):wpAny M A (eval (.BoolOp .Or [e,.Tuple [] k p] pos) env) Q E s:=BoolOp_or h
theorem holdI {P:Prop} (h:P):Hold P:=h
section
variable {Q:Value→Shared→Prop} {E:Value→Shared→Prop} {h₀:Heap} {L a:Addr} {m:Str→Option Value} {news:List (Addr × Obj)}
theorem orNext {vs:List Str} {k:Nat} {p pos:Pos} {env:Env} (F:Fr h₀ L s.heap m) (N:News h₀ L s.heap news) (S:SrcAt h₀ a vs)
  (h:∀ t h' tk,Fr h₀ L h' m→News h₀ L h' news→Grown s.heap h'→TupIs StrIs h' (.ref t) vs→Q (.ref t) { s with heap:=h',toks:=tk }):OrNext (model prog w) A k p pos env Q E (.ref a) s:=by
 refine byc fun b_=>?_
 obtain ⟨l,e,hl,hz⟩:=S
 obtain ⟨b,hb⟩:∃ b,(strValues l).isEmpty=!b:=⟨!(strValues l).isEmpty,(Bool.not_not _).symm⟩
 refine b_ ?_;clear b_
 refine truthyT F e hz hb fun tk=>?_
 cases b with
 | true=>exact h a s.heap tk F N (fun _ _ e=>e) (strT (F.keep _ _ e) hl)
 | false =>
  have z:vs=[]:=pre_nil hl hb
  refine BoolOp_one (Tuple_ ?_)
  walk1
  refine wpAny_newTuple (h _ _ tk (F.push _) (fun q hq=>(N.push F _) q (List.mem_cons_of_mem _ hq)) (fun b o e=>Heap.get?_push_of_some _ e) ?_)
  rw [z]
  exact strN (Heap.get?_push_size _ rfl) rfl
end
theorem tisKeep {h h':Heap} {v:Value} {vs:List Str} (x:TupIs StrIs h v vs) (g:Grown h h'):TupIs StrIs h' v vs:=TupIs.keep (is:=StrIs) (h:=h) (h':=h') (fun y=>y) g x
theorem eqE0 {x y:Int} {r:Bool} (h:x ≠ y):Value.bool (x == y)=.bool (x == y && r):=by rw [beq_eq_false_iff_ne.mpr h];rfl
theorem eqE1 {x y x' y':Int} {r:Bool} (h:x=y) (h':x' ≠ y'):Value.bool (x' == y')=.bool (x == y && (x' == y' && r)):=by rw [beq_eq_false_iff_ne.mpr h',beq_iff_eq.mpr h];rfl
theorem eqE2 {x y x' y' x'' y'':Int} {r:Bool} (h:x=y) (h':x'=y') (h'':x'' ≠ y''):Value.bool (x'' == y'')=.bool (x == y && (x' == y' && (x'' == y'' && r))):=by rw [beq_eq_false_iff_ne.mpr h'',beq_iff_eq.mpr h,beq_iff_eq.mpr h'];rfl
theorem eqE3 {x y x' y' x'' y'':Int} {p q:List Str} {r:Bool} (h:x=y) (h':x'=y') (h'':x''=y'') (hp:(p == q)=false):Value.bool (p == q)=.bool (x == y && (x' == y' && (x'' == y'' && (p == q && r)))):=by rw [hp,beq_iff_eq.mpr h'',beq_iff_eq.mpr h,beq_iff_eq.mpr h'];rfl
theorem eqE4 {x y x' y' x'' y'':Int} {p q:List Str} {r:Bool} (h:x=y) (h':x'=y') (h'':x''=y'') (hp:(p == q)=true):Value.bool r=.bool (x == y && (x' == y' && (x'' == y'' && (p == q && r)))):=by rw [hp,beq_iff_eq.mpr h'',beq_iff_eq.mpr h,beq_iff_eq.mpr h'];rfl
theorem svLen {l:List (Str × Tok)} {vs:List Str} (e:l.map (·.1)=vs) (h:vs.length ≤ 1000):(strValues l).length ≤ 1000:=by rw [strValues,List.length_map,← List.length_map (f:=(·.1)),e];exact h
theorem rs31m0:True:=by
 k_with "@eval BoolOp"=>(fail_if_success k_extra "e31");k_dflt (apply orEval)
 k_with "@my left"=>(fail_if_success k_extra "e31");first | kpc_g | (apply tisKeep;kpc_g;kpc_g)
 k_with "@compareOp Eq ref ref"=>(fail_if_success k_extra "e31");k_dflt (((try dsimp only);apply cmp_ofEq;apply strsF;kpc_g;kpc_g;k_extra "@my rmd";k_extra "@my left";k_extra "@my left";(intro _;intros;k_sweep)))
 k_with "@my or"=>(fail_if_success k_extra "e31");(apply holdI;apply orNext;kpc_g;kpc_g;kpc_g;(intro _;intros;k_sweep))
 k_with "@my ors"=>(fail_if_success k_extra "e31");first | (walk_at "my or";k_steps;all_goals walk_at "my ors") | skip
 exact trivial
theorem ver_eq {x y:Addr} {a b:VerOf} (X:(hd.heap_1 w.params).In s.heap) (T:Top p loose mean mg mb s.heap) (hx:Ver s.heap x a) (hy:Ver s.heap y b) (r:Rm A 8) :
  codeAny (model prog w) A (.call (.ref 350) ⟨[.ref x,.ref y],[]⟩) (Ret s fun v _=>v=.bool (a.n0 == b.n0 && (a.n1 == b.n1 && (a.n2 == b.n2 && (a.pre == b.pre && a.bld == b.bld))))) s:=by
 refine byc fun b_=>?_
 obtain ⟨pa,pb,_,_,_,_,_,_,la,lb,⟨_,_,_,_,_,_,_,_,_,_,_,_,_,_,_,_,_,I⟩,⟨ha,ea,za⟩,⟨hb,eb,zb⟩,K,_⟩:=hx
 obtain ⟨qa,qb,_,_,_,_,_,_,ma,mb,⟨_,_,_,_,_,_,_,_,_,_,_,_,_,_,_,_,_,J⟩,⟨ja,fa,ya⟩,⟨jb,fb,yb⟩,K',_⟩:=hy
 clear K K'
 obtain ⟨hA,dA,fA,gA,uA⟩:=A
 obtain rfl:hA=none:=r.hand
 have t1:(strValues la).length ≤ 1000:=svLen ea za
 have t2:(strValues lb).length ≤ 1000:=svLen eb zb
 have t3:(strValues ma).length ≤ 1000:=svLen fa ya
 have t4:(strValues mb).length ≤ 1000:=svLen fb yb
 refine b_ ?_;clear b_
 have Z1:SrcAt s.heap pa a.pre:=⟨la,ha,ea,t1⟩
 have Z2:SrcAt s.heap qa b.pre:=⟨ma,ja,fa,t3⟩
 have Z3:SrcAt s.heap pb a.bld:=⟨lb,hb,eb,t2⟩
 have Z4:SrcAt s.heap qb b.bld:=⟨mb,jb,fb,t4⟩
 apply enter (w:=w) [("self",.ref x),("other",.ref y)] [(12,.ref y),(11,.ref x)] X T
 walk_at "my enter"
 case hnm=>exact namesC nx_other (namesC nx_self (namesN))
 intro L h1 tk F N
 refine addLoc nx_self (by kernel_rfl!) ?_;intro n_self
 refine addLoc nx_other (by kernel_rfl!) ?_;intro n_other
 refine addGlo (w:=w) gk_Version (by kernel_rfl!) ?_;intro n_Version
 refine addBlt (w:=w) bk_isinstance (by kernel_rfl!) ?_;intro n_isinstance
 refine addBlt (w:=w) bk_NotImplemented (by kernel_rfl!) ?_;intro n_NotImplemented
 k_steps
 all_goals walk_at "my ors"
 all_goals (try dsimp only)
 all_goals (refine ret_end (by with_reducible assumption) ?_)
 all_goals first
  | exact eqE0 (by with_reducible assumption)
  | exact eqE1 (by with_reducible assumption) (by with_reducible assumption)
  | exact eqE2 (by with_reducible assumption) (by with_reducible assumption) (by with_reducible assumption)
  | exact eqE3 (by with_reducible assumption) (by with_reducible assumption) (by with_reducible assumption) (by with_reducible assumption)
  | exact eqE4 (by with_reducible assumption) (by with_reducible assumption) (by with_reducible assumption) (by with_reducible assumption)
theorem rs31e:True:=by
 k_with "e31"=>skip
 exact trivial
theorem enterGen {R:Result→Shared→Prop} {name qual:Str} {params:Arguments} {body:List Stmt} {scope:Scope} {dV kV doc pm cdv ct oc:Value} {an od:Option Addr} {osl:Array (Option Value)} {f:Addr} {args:Args} (binds:List (Str × Value)) (fl:List (Nat × Value))
  (X:(hd.heap_1 w.params).In s.heap) (T:Top p loose mean mg mb s.heap)
  (ho:(hd.heap_1 w.params).lookup f=some ⟨oc,od,.func (fnOf name qual params body scope dV kV doc pm an cdv ct),osl⟩) (hcd:codeIn (hd.heap_1 w.params) cdv qual=true) (hroom:A.depth < recursionLimit)
  (hbind:BindsTo s (fnOf name qual params body scope dV kV doc pm an cdv ct) args binds) (hloc:∀ y ∈ binds,scope.names.lookup y.1=some .local)
  (hco:scope.isCoroutine=false) (hgen:scope.isGenerator=true) (hk:scope.kind=.function) (hcell:∀ x ∈ scope.names,x.2 ≠ .cell) (hnm:NamesAre binds.reverse fl)
  (h:∀ L h₁ tk nm qn,h₁.Ns L (frm fl)→Grown s.heap h₁→s.heap.objs.size ≤ L→L < h₁.objs.size →
   R (.ok (.ret (.ref h₁.objs.size))) { s with heap:=h₁.push { cls:=.type "generator",data:=.fields #[.int s.gens.size 0,nm,qn] },toks:=tk,gens:=s.gens.push (.fresh (.func body (envOf qual scope L f cdv))) }) :
  codeAny (model prog w) A (.call (.ref f) args) R s:=by
 refine codeAny_call_generator (fd:=fnOf name qual params body scope dV kV doc pm an cdv ct) (body:=body) hroom (X _ _ ho) rfl hco hgen rfl (codeRec_of X hcd) (hbind _ _ _ _ ?_)
 refine wpAny_newFunctionEnv hcell hloc (fun h₀ hns₀ hsb₀=>⟨T.nolimit.fresh _ hsb₀,?_⟩) hk
 have hg:Grown s.heap h₀:=fun b o e=>hsb₀.extBut b o (Nat.ne_of_lt (Heap.lt_size e)) (Heap.get?_push_of_some _ e)
 rw [frm_binds hnm] at hns₀
 exact h s.heap.objs.size h₀ _ _ _ hns₀ hg (Nat.le_refl _) hns₀.lt
noncomputable def ValItem (vals:Array Value) (i:Nat) (v:Value) (_:Heap):Prop:=vals[i]?=some v
theorem yieldStep {A:Around} {L S i n N:Nat} {vals:Array Value} {g:Heap} {m:Str→Option Value} {c:Code} {env:Env} {e:Expr} {ypos pos:Pos} {rest:List Stmt} {K:Flow→Sem Fin} {H:Value→Sem Fin} {s₀ s:Shared}
  (hN:N=vals.size) (hi:i + (n + 1)=N) (hLS:L ≠ S) (hgS:g.get? S=none) (hn:s.heap.Ns L m) (hg:Grown g s.heap) (hs:Sn L L s₀ s)
  (hev:∀ s:Shared,s.heap.Ns L m→Grown g s.heap→wpAny (model prog w) (A.over c []) (eval e env) (fun v s'=>vals[i]?=some v∧∃ tk,s'={ s with toks:=tk }) (fun _ _=>False) s)
  (hrest:∀ s'':Shared,s''.heap.Ns L m→Grown g s''.heap→Seg (model prog w) A (gEnd (.ok (.ret .none)) L L) (gProto L L S N (ValItem vals)) n s'' c ((execs rest env).wrap K H id id) [] s'')
  (hco:env.scope.isCoroutine=false:=by rfl) (hint:interactive env=false:=by rfl) :
  Seg (model prog w) A (gEnd (.ok (.ret .none)) L L) (gProto L L S N (ValItem vals)) (n + 1) s₀ c ((execs (.Expr (.Yield (some e) ypos) pos::rest) env).wrap K H id id) [] s:=by
 refine seg_execs_cons (seg_Expr_Yield rfl rfl rfl (wpAny_mono (hev s hn hg) (fun v s' hv=>?_) fun _ _ x=>x.elim) hco hint)
 obtain ⟨hv,tk,rfl⟩:=hv
 intro kap hkap
 have lv:∀ b,s₀.heap.get? b ≠ none→s.heap.get? b ≠ none:=by
  intro b hb
  by_cases q:b=L
  ·subst q
   obtain ⟨o,_,_,ho,_⟩:=hn
   rw [ho];simp
  ·obtain ⟨h',tk,rfl,hk⟩:=hs
   cases e:s₀.heap.get? b with
   | none=>exact absurd e hb
   | some o=>show h'.get? b ≠ none;rw [hk b o q q e];simp
 refine ⟨?_,lv,?_,fun s'' hal=>hkap _ _ (hrest s'' (hn.at' fun o e=>hal _ o hLS e) fun b o e=>hal b o (fun q=>by rw [q,hgS] at e;cases e) (hg b o e))⟩
 ·obtain ⟨h',t,rfl,hk⟩:=hs
  exact ⟨h',tk,rfl,hk⟩
 ·show vals[N - 1 - (n + 1 - 1)]?=some v
  exact (show N - 1 - (n + 1 - 1)=i by rw [← hi];exact Nat.add_sub_cancel i n).symm ▸ hv
theorem yieldEnd {A:Around} {L S N:Nat} {vals:Array Value} {c:Code} {env:Env} {H:Value→Sem Fin} {s₀ s:Shared} (hs:Sn L L s₀ s) :
  Seg (model prog w) A (gEnd (.ok (.ret .none)) L L) (gProto L L S N (ValItem vals)) 0 s₀ c ((execs [] env).wrap (fun f=>.pure (.done (.ret (match f with | .ret v=>v | _=>.none)))) H id id) [] s :=
 seg_execs_nil (seg_end (.ok (.ret .none)) ⟨rfl,rfl,hs⟩)
structure VerSrc (w:World):Prop where
 it:findIn (hd.heap_1 w.params) (.ref 388) "__iter__"=some (some (.ref 313))
 fn:isFn (hd.heap_1 w.params) (.ref 313)=true
 ln:findIn (hd.heap_1 w.params) (.ref 388) "__len__"=some none
 lh:findIn (hd.heap_1 w.params) (.ref 388) "__length_hint__"=some none
theorem verSrc (w:World):VerSrc w:=⟨by k_is,by k_is,by k_is,by k_is⟩
theorem pyIterX {M:Model} {A:Around} {E:Value→Shared→Prop} {x f:Addr} {ox:Obj} {od:Option Obj} {Q:Value→Shared→Prop} (X:(hd.heap_1 w.params).In s.heap) (I:InstAt s.heap x ox 388 od) (hs:findIn (hd.heap_1 w.params) (.ref 388) "__iter__"=some (some (.ref f))) (hf:isFn (hd.heap_1 w.params) (.ref f)=true)
  (h:wpAny M A (call (.ref f) [.ref x]) (OwitIt M A Q E) E s):wpAny M A (pyIter (.ref x)) Q E s:=by
 have fin:wpAny M A (call (.ref f) [.ref x] >>= fun v=>pure (some v)) (fun r s'=>∃ v,r=some v∧OwitIt M A Q E v s') E s :=
  wpAny_bind (wpAny_mono h (fun v s' h'=>wpAny_pure ⟨v,rfl,h'⟩) fun _ _ z=>z)
 have one:∀ refuse:Sem Value,wpAny M A (callSpecialIfBoundUnlessNone? (.ref x) "__iter__" refuse) (fun r s'=>∃ v,r=some v∧OwitIt M A Q E v s') E s:=by
  intro refuse
  simp -iota only [callSpecialIfBoundUnlessNone?,bindSpecialIfBound?]
  refine wpAny_holding (wpAny_bind (wpAny_bind (wpAny_bind (I.type.here ((looks_findIn X hs).here ?_)))))
  refine wpAny_bind (wpAny_askSetting (wpAny_ite ?_))
  have fin2:wpAny M A (if (Value.ref f == Value.none)=true then (refuse >>= fun v=>pure (some v)) else (call (.ref f) [.ref x] >>= fun v=>pure (some v))) (fun r s'=>∃ v,r=some v∧OwitIt M A Q E v s') E s:=by
   rw [if_neg (show ¬ ((Value.ref f == Value.none)=true) from Bool.false_ne_true)]
   exact fin
  split
  ·exact wpAny_bind ((bind_fn X _ (beq_iff_eq.mp hf)).here (wpAny_pure (by exact fin2)))
  ·exact wpAny_tryCatch (wpAny_bind ((bind_fn X _ (beq_iff_eq.mp hf)).here (wpAny_pure (by exact fin2))))
 unfold pyIter
 refine wpAny_bind (wpAny_bind (I.type.here ((looks_findIn X hs).here ?_)))
 show wpAny M A (callSpecialIfBoundUnlessNone? (.ref x) "__iter__" _ >>= _) Q E s
 refine wpAny_bind (wpAny_mono (one _) (fun r s' hr=>?_) fun _ _ z=>z)
 obtain ⟨v,rfl,hv⟩:=hr
 refine wpAny_bind (wpAny_mono hv (fun r s₂ hr=>?_) fun _ _ z=>z)
 cases r with
 | none=>exact hr.elim
 | some g=>exact wpAny_pure hr
theorem addLocE {M:Model} {A:Around} {E:Value→Shared→Prop} {e:Expr} {name:Str} {scope:Scope} {L a:Addr} {cd:Value} {x:Str} {i:Nat} {Q:Value→Shared→Prop} (hx:nix x=some i) (hk:scope.names.lookup x=some .local) (h:Loc scope x i→wpAny M A (eval e (envOf name scope L a cd)) Q E s):wpAny M A (eval e (envOf name scope L a cd)) Q E s:=h ⟨hx,hk⟩
theorem rs32m0:True:=by
 k_with "@getAttr ref"=>(fail_if_success k_extra "e32");k_dflt ((apply getV;kpc_g;kpc_g;kpc_g;k_extra "@my attr";k_extra "@my field";kpc_g))
 exact trivial
theorem iterGen {R:Result→Shared→Prop} {x S:Addr} {ox:Obj} {n:Nat} {rest:List DictEntry} {k0 k1 k2 k3 k4:Int} {t0 t1 t2 t3 t4:Tok} {v0 v1 v2 v3 v4:Value} (X:(hd.heap_1 w.params).In s.heap) (T:Top p loose mean mg mb s.heap) (r:Rm A 3)
  (I:InstAt s.heap x ox 388 (some (dictOf (⟨k0,.str "major" t0,v0⟩::⟨k1,.str "minor" t1,v1⟩::⟨k2,.str "patch" t2,v2⟩::⟨k3,.str "prerelease" t3,v3⟩::⟨k4,.str "build" t4,v4⟩::rest) n)))
  (hh:handedIn v0=true∧handedIn v1=true∧handedIn v2=true∧handedIn v3=true∧handedIn v4=true) (base:Heap) (hb:Grown base s.heap) (Xb:(hd.heap_1 w.params).In base) (Tb:Top p loose mean mg mb base) (Ib:InstAt base x ox 388 (some (dictOf (⟨k0,.str "major" t0,v0⟩::⟨k1,.str "minor" t1,v1⟩::⟨k2,.str "patch" t2,v2⟩::⟨k3,.str "prerelease" t3,v3⟩::⟨k4,.str "build" t4,v4⟩::rest) n)))
  (hS:base.get? S=none) (hSs:s.heap.get? S ≠ none) (hbs:base.objs.size ≤ s.heap.objs.size)
  (h:∀ a L h' tk g',Grown s.heap h'→h'.get? L ≠ none→s.heap.get? L=none→s.heap.get? a=none→a ≠ L→GenOnlyQ s.gens.size (s.gens.push g') (s.gens.push g')→g'.bare=true →
   GenH prog w A (.ok (.ret .none)) a s.gens.size L L S 5 (ValItem #[v0,v1,v2,v3,v4]) 0 { s with heap:=h',toks:=tk,gens:=s.gens.push g' }→R (.ok (.ret (.ref a))) { s with heap:=h',toks:=tk,gens:=s.gens.push g' }) :
  codeAny (model prog w) A (.call (.ref 313) ⟨[.ref x],[]⟩) R s:=by
 apply enterGen (w:=w) [("self",.ref x)] [(11,.ref x)] X T
 walk_at "my enter"
 case hnm=>exact namesC nx_self namesN
 intro L h₁ tk nm qn hns hg hLs hLl
 refine byc fun b_=>?_
 obtain ⟨hd0,hd1,hd2,hd3,hd4⟩:=hh
 refine b_ ?_;clear b_
 have X:=Xb
 have T:=Tb
 have I:=Ib
 have k2:Grown h₁ (h₁.push { cls:=.type "generator",data:=.fields #[.int s.gens.size 0,nm,qn] }):=fun b o e=>Heap.get?_push_of_some _ e
 have lL:h₁.get? L ≠ none:=by obtain ⟨o,_,_,ho,_⟩:=hns;rw [ho];simp
 have nL:s.heap.get? L=none:=getNew hLs
 have hLS:L ≠ S:=fun q=>hSs (by rw [← q];exact nL)
 have lt:∀ {b:Addr},s.heap.get? b ≠ none→b < h₁.objs.size:=fun {b} hb=>Nat.lt_of_lt_of_le (getLt hb) (Nat.le_trans hLs (Nat.le_of_lt hLl))
 have na:s.heap.get? h₁.objs.size=none:=getNew (Nat.le_trans hLs (Nat.le_of_lt hLl))
 refine h h₁.objs.size L _ _ _ (hg.trans k2) (fun q=>?_) nL na (Nat.ne_of_gt hLl) (.inl rfl) rfl ⟨⟨_,_,_,Heap.get?_push_size _ rfl,rfl,rfl,rfl⟩,(T.nolimit.keeps hb).keeps (hg.trans k2),_,Array.getElem?_push_size ..,fun s'' hal=>⟨rfl,?_⟩⟩
 ·cases e:h₁.get? L with
  | none=>exact lL e
  | some o=>rw [k2 _ _ e] at q;cases q
 have hn0:s''.heap.Ns L (frm [(11,.ref x)]):=hns.at' fun o e=>hal _ o hLS (k2 _ _ e)
 have hg0:Grown base s''.heap:=fun b o e=>hal b o (fun q=>by rw [q,hS] at e;cases e) (k2 _ _ (hg _ _ (hb _ _ e)))
 refine seg_func ?_
 refine yieldStep (i:=0) (g:=base) rfl rfl hLS hS hn0 hg0 (Sn.refl _ _ _) ?_ ?_
 ·intro s2 hn2 hg2
  have F:Fr base L s2.heap (frm [(11,.ref x)]):=⟨hn2,hg2,Nat.le_trans hbs hLs⟩
  have N:News base L s2.heap []:=.nil
  refine addLocE nx_self (by kernel_rfl!) ?_
  intro n_self
  k_steps
 intro s1 hn hgx
 refine yieldStep (i:=1) (g:=base) rfl rfl hLS hS hn hgx (Sn.refl _ _ _) ?_ ?_
 ·intro s2 hn2 hg2
  have F:Fr base L s2.heap (frm [(11,.ref x)]):=⟨hn2,hg2,Nat.le_trans hbs hLs⟩
  have N:News base L s2.heap []:=.nil
  refine addLocE nx_self (by kernel_rfl!) ?_
  intro n_self
  k_steps
 intro s2 hn hgx
 refine yieldStep (i:=2) (g:=base) rfl rfl hLS hS hn hgx (Sn.refl _ _ _) ?_ ?_
 ·intro s2 hn2 hg2
  have F:Fr base L s2.heap (frm [(11,.ref x)]):=⟨hn2,hg2,Nat.le_trans hbs hLs⟩
  have N:News base L s2.heap []:=.nil
  refine addLocE nx_self (by kernel_rfl!) ?_
  intro n_self
  k_steps
 intro s3 hn hgx
 refine yieldStep (i:=3) (g:=base) rfl rfl hLS hS hn hgx (Sn.refl _ _ _) ?_ ?_
 ·intro s2 hn2 hg2
  have F:Fr base L s2.heap (frm [(11,.ref x)]):=⟨hn2,hg2,Nat.le_trans hbs hLs⟩
  have N:News base L s2.heap []:=.nil
  refine addLocE nx_self (by kernel_rfl!) ?_
  intro n_self
  k_steps
 intro s4 hn hgx
 refine yieldStep (i:=4) (g:=base) rfl rfl hLS hS hn hgx (Sn.refl _ _ _) ?_ ?_
 ·intro s2 hn2 hg2
  have F:Fr base L s2.heap (frm [(11,.ref x)]):=⟨hn2,hg2,Nat.le_trans hbs hLs⟩
  have N:News base L s2.heap []:=.nil
  refine addLocE nx_self (by kernel_rfl!) ?_
  intro n_self
  k_steps
 intro s9 hn hgx
 exact yieldEnd (Sn.refl _ _ _)
theorem rs32e:True:=by
 k_with "e32"=>skip
 exact trivial
section
variable {x:Addr} {ox:Obj} {n:Nat} {rest:List DictEntry} {k0 k1 k2 k3 k4:Int} {t0 t1 t2 t3 t4:Tok} {v0 v1 v2 v3 v4:Value} {E:Value→Shared→Prop}
theorem valItems {vals:Array Value} {q:Heap} {acc:Array Value} (h:acc.size=vals.size∧∀ j v,acc[j]?=some v→ValItem vals j v q):acc=vals:=by
 refine Array.ext h.1 fun i h1 h2=>?_
 have:=h.2 i acc[i] (Array.getElem?_eq_getElem h1)
 unfold ValItem at this
 rw [Array.getElem?_eq_getElem h2] at this
 exact (Option.some.inj this).symm
inductive VGone (s s':Shared):Prop
 | mk (h' tk g':_) (cj1:s'={ s with heap:=h',toks:=tk,gens:=g' }) (cj2:Grown s.heap h') (cj3:(AllBare s.gens→AllBare g')):VGone s s'
theorem collectV {Q:List Value→Shared→Prop} (hA:A.handled=none) (r:Rm A 4) (X:(hd.heap_1 w.params).In s.heap) (T:Top p loose mean mg mb s.heap)
  (I:InstAt s.heap x ox 388 (some (dictOf (⟨k0,.str "major" t0,v0⟩::⟨k1,.str "minor" t1,v1⟩::⟨k2,.str "patch" t2,v2⟩::⟨k3,.str "prerelease" t3,v3⟩::⟨k4,.str "build" t4,v4⟩::rest) n)))
  (hh:handedIn v0=true∧handedIn v1=true∧handedIn v2=true∧handedIn v3=true∧handedIn v4=true)
  (hQ:∀ s',VGone s s'→Q [v0,v1,v2,v3,v4] s'):wpAny (model prog w) A (collect (.ref x)) Q E s:=by
 have xl:x < s.heap.objs.size:=Heap.lt_size I.1
 have xS:s.heap.objs.size ≠ x:=Nat.ne_of_gt xl
 have V:=verSrc w
 unfold collect
 refine wpAny_bind (wpAny_runValue (codeAny_builtin PySem.F.entry_proto_collect ?_))
 rw [Around.under_plainId PySem.F.plain_proto_collect _]
 show wpAny _ A.in1 (newList [] >>= fun l=>again (.builtin "list.__iadd__" ⟨[l,.ref x],[]⟩)) _ _ s
 refine wpAny_bind (wpAny_newObj_type ?_)
 refine wpAny_pure ⟨plainId_quiet PySem.F.plain_list_iadd _,codeAny_builtin PySem.F.entry_list_iadd ?_⟩
 rw [Around.under_plainId PySem.F.plain_list_iadd _]
 obtain ⟨h₁,eh₁⟩:∃ h₁,h₁=s.heap.push { cls:=.type "list",data:=.seq ([]:List Value).toArray }:=⟨_,rfl⟩
 have k1':Grown s.heap h₁:=fun b o e=>by rw [eh₁];exact Heap.get?_push_of_some _ e
 have hS₁:h₁.get? s.heap.objs.size=some { cls:=.type "list",data:=.seq ([]:List Value).toArray }:=by rw [eh₁];exact Heap.get?_push_size _ rfl
 have sz1:s.heap.objs.size ≤ h₁.objs.size:=by rw [eh₁,Heap.size_push];exact Nat.le_succ _
 rw [← eh₁]
 have I₁:=instKeep I k1'
 show wpAny _ A.in1 (Builtin.List.listExtendWith (.ref s.heap.objs.size) (.ref x) (.ref s.heap.objs.size)) _ _ _
 unfold Builtin.List.listExtendWith
 refine wpAny_bind (I₁.type.here (s:={ s with heap:=h₁ }) ?_)
 have h1:Builtin.List.listSameRef (.ref s.heap.objs.size) (.ref x)=false:=by simp [Builtin.List.listSameRef,xS]
 have h2:(Value.ref 388 == Value.type "list")=false:=by decide
 have h3:(Value.ref 388 == Value.type "tuple")=false:=by decide
 simp -iota only [h1,h2,h3,Bool.or_false,Bool.false_eq_true,if_false]
 refine wpAny_bind (pyIterX (s:={ s with heap:=h₁ }) (X.keeps k1') I₁ V.it V.fn (wpAny_call ?_))
 refine iterGen (s:={ s with heap:=h₁ }) (S:=s.heap.objs.size) (X.keeps k1') (T.keeps k1') (r.in1 3 (by decide)) I₁ hh s.heap k1' X T I (getNew (Nat.le_refl _)) (by show h₁.get? _ ≠ none;rw [hS₁];simp) sz1 fun a L h' tk g' hk hL nL na haL _ hgb G=>?_
 show OwitIt _ _ _ _ _ _
 unfold OwitIt
 have hG:=G.1
 refine wpAny_specialOf hG.typeIs slot_gen_next.lookup ?_
 dsimp only
 refine wpAny_bind (wpAny_holding ?_)
 have I₂:=instKeep I₁ hk
 have X₂:(hd.heap_1 w.params).In h':=(X.keeps k1').keeps hk
 unfold Builtin.List.listLengthHint
 refine wpAny_bind (wpAny_bind (I₂.type.here (s:={ s with heap:=h',toks:=tk,gens:=s.gens.push g' }) ((looks_findIn X₂ V.ln).here ?_)))
 refine wpAny_bind (wpAny_bind (I₂.type.here (s:={ s with heap:=h',toks:=tk,gens:=s.gens.push g' }) ((looks_findIn X₂ V.lh).here ?_)))
 refine wpAny_pure ?_
 show wpAny _ A.in1 (rule "list.extend.makes-room" >>= fun _=>Builtin.List.listTouch (.ref s.heap.objs.size) >>= fun _ =>
  again (.builtin "list.extend.loop" ⟨[.ref s.heap.objs.size,.ref a,.ref s.heap.objs.size],[]⟩)) _ _ _
 refine wpAny_bind (wpAny_rule ?_)
 have hS₁':=hk _ _ hS₁
 refine wpAny_bind ?_
 show wpAny _ A.in1 (updateSeq s.heap.objs.size (·.push .none) >>= fun _=>updateSeq s.heap.objs.size (·.pop)) _ _ _
 refine wpAny_bind (wpAny_updateSeq hS₁' rfl ?_)
 have hS₂:=Heap.get?_update_self (Obj.mapSeq (·.push Value.none)) hS₁' rfl
 refine wpAny_updateSeq hS₂ rfl ?_
 have hS₃:=Heap.get?_update_self (Obj.mapSeq (·.pop)) hS₂ rfl
 have oth:∀ b o,b ≠ s.heap.objs.size→h'.get? b=some o→((h'.update s.heap.objs.size (Obj.mapSeq (·.push Value.none))).update s.heap.objs.size (Obj.mapSeq (·.pop))).get? b=some o :=
  fun b o hb e=>(Heap.get?_update_other _ _ (Ne.symm hb)).trans ((Heap.get?_update_other _ _ (Ne.symm hb)).trans e)
 obtain ⟨h₀,eh₀⟩:∃ h₀,h₀=(h'.update s.heap.objs.size (Obj.mapSeq (·.push Value.none))).update s.heap.objs.size (Obj.mapSeq (·.pop)):=⟨_,rfl⟩
 rw [← eh₀] at hS₃ oth
 rw [← eh₀]
 have aS:a ≠ s.heap.objs.size:=fun q=>by rw [q,hS₁] at na;cases na
 have LS:L ≠ s.heap.objs.size:=fun q=>by rw [q,hS₁] at nL;cases nL
 have cN:∃ o,s.heap.get? cStatics=some o:=by
  obtain ⟨_,⟨o,_,_,ho,_⟩,_⟩:=T.nolimit;exact ⟨o,ho⟩
 obtain ⟨oc,hoc⟩:=cN
 have cS:cStatics ≠ s.heap.objs.size:=Nat.ne_of_lt (Heap.lt_size hoc)
 have cL:cStatics ≠ L:=fun q=>by rw [← q,k1' _ _ hoc] at nL;cases nL
 have lL:h₀.get? L ≠ none:=by
  cases e:h'.get? L with
  | none=>exact absurd e hL
  | some o=>rw [oth _ _ LS e];simp
 have G':=GenH.frame G aS cS (h':=h₀) (tk:=tk) oth
 refine wpAny_pure ⟨plainId_quiet PySem.F.plain_extend_loop _,?_⟩
 refine extendH (.inr rfl) hA (r.dp 0 (by decide):A.depth + 0 < _) haL haL aS cL cL cS (Ne.symm LS) (Ne.symm LS) (by rw [sizeLine_eq];decide) (fun _ _ _ _ _ h=>h) h₀ lL lL (by rw [hS₃];simp) _ 5 0 _ _ _ rfl (Nat.zero_le _) G' hS₃ (fun b h=>h) ⟨rfl,fun j v e=>by simp at e⟩ fun s' acc' c' hm hS' hacc=>?_
 show wpAny _ A (load s.heap.objs.size >>= _) _ _ s'
 refine wpAny_bind (wpAny_load hS' ?_)
 have ea:=valItems (vals:=#[v0,v1,v2,v3,v4]) hacc
 subst ea
 refine wpAny_pure (hQ s' ?_)
 obtain ⟨h2,tk2,g2,rfl,hk2,hgq⟩:=hm
 refine ⟨h2,tk2,g2,rfl,fun b o e=>hk2 b o (fun q=>?_) (oth b o (Nat.ne_of_lt (Heap.lt_size e)) (hk _ _ (k1' _ _ e))),fun hab=>hgq.bare (hab.push hgb)⟩
 rcases q with q | q | q
 ·rw [q] at e;rw [k1' _ _ e] at nL;cases nL
 ·rw [q] at e;rw [k1' _ _ e] at nL;cases nL
 ·rw [q] at e;exact absurd (Heap.lt_size e) (Nat.lt_irrefl _)
theorem tyI {M:Model} {od:Option Obj} {C:Addr} {Q:Value→Shared→Prop} (I:InstAt s.heap x ox C od) (h:Q (.ref C) s):wpAny M A (typeOf (.ref x)) Q E s:=I.type.here h
theorem call_tupleV {Q:Value→Shared→Prop} (hA:A.handled=none) (r:Rm A 7) (X:(hd.heap_1 w.params).In s.heap) (T:Top p loose mean mg mb s.heap)
  (I:InstAt s.heap x ox 388 (some (dictOf (⟨k0,.str "major" t0,v0⟩::⟨k1,.str "minor" t1,v1⟩::⟨k2,.str "patch" t2,v2⟩::⟨k3,.str "prerelease" t3,v3⟩::⟨k4,.str "build" t4,v4⟩::rest) n)))
  (hh:handedIn v0=true∧handedIn v1=true∧handedIn v2=true∧handedIn v3=true∧handedIn v4=true)
  (hQ:∀ s',VGone s s'→Q (.ref s'.heap.objs.size) { s' with heap:=s'.heap.push { cls:=.type "tuple",data:=.seq #[v0,v1,v2,v3,v4] } }):wpAny (model prog w) A (call (.type "tuple") [.ref x]) Q E s:=by
 have h2:(Value.ref 388 == Value.type "tuple")=false:=by decide
 have r1:Rm A.in1 6:=r.in1 6 (by decide)
 have r2:Rm A.in1.in1 5:=r1.in1 5 (by decide)
 refine callType_codes (Q₁:=fun obj s₁=>s₁.TypeIs obj "tuple"∧Q obj s₁) PySem.F.called_tuple (PySem.F.typeCall_tuple_1 _) PySem.F.entry_object_init ?_ fun obj s₁ h₁=>?_
 ·refine codeAny_of_tree ?_
  refine (?_:wpAny _ A.in1.in1 (do checkBuiltinCall "tuple.__new__" ⟨[.type "tuple",.ref x],[]⟩;again (.builtin "tuple.__new__" ⟨[.type "tuple",.ref x],[]⟩)) _ _ s)
  refine wpAny_bind (wpAny_of_eq (PySem.F.newCall_tuple_1 _) (wpAny_pure ⟨plainId_quiet PySem.F.plain_tuple_new _,codeAny_builtin PySem.F.entry_tuple_new ?_⟩))
  rw [Around.under_plainId PySem.F.plain_tuple_new _]
  have hsub:=sub_tuple_self
  have hinit:=init_tuple_lookup
  have hmh:=madeHere_tuple
  wp_walk using tyI I,collectV (A:=A.in1.in1) hA (r2.le 4 (by decide)) X T I hh
  intro s' hv
  refine (?_:wpAny _ _ (Builtin.Tuple.tupleExact ([v0,v1,v2,v3,v4]:List Value).toArray >>= fun v=>ret v) _ _ _)
  unfold Builtin.Tuple.tupleExact
  refine wpAny_bind (wpAny_newObj_type ?_ (by show ([v0,v1,v2,v3,v4]:List Value).toArray.size ≤ sizeLine;exact le1000 (show (5:Nat) ≤ 1000 by decide)))
  exact wpAny_pure ⟨⟨_,Heap.get?_push_size _ rfl,rfl⟩,hQ s' hv⟩
 ·exact ⟨h₁.1,PySem.F.args_object_init_2 obj _,object_init_meets PySem.F.called_tuple.init.lookup PySem.F.called_tuple.made (by decide) prog w A.in1 _ s₁ ⟨h₁.1,rfl,h₁.2⟩⟩
end
inductive RetG (s:Shared) (Post:Value→Heap→Prop) (r:Result) (s':Shared):Prop
 | mk (v h' tk g':_) (cj1:r=.ok (.ret v)) (cj2:s'={ s with heap:=h',toks:=tk,gens:=g' }) (cj3:(∀ b o,s.heap.get? b=some o→h'.get? b=some o)) (cj4:AllBare g') (cj5:Post v h'):RetG s Post r s'
theorem retG_end {s:Shared} {L:Addr} {h':Heap} {m:Str→Option Value} {tk:Nat} {g':Array GenState} {v:Value} {Post:Value→Heap→Prop} (F:Fr s.heap L h' m) (ab:AllBare g') (h:Post v h') :
  RetG s Post (.ok (.ret v)) { s with heap:=h',toks:=tk,gens:=g' }:=⟨v,h',tk,g',rfl,rfl,F.keep,ab,h⟩
noncomputable abbrev VIs:Heap→Value→Ne (List Str)→Prop:=Ne.is (TupIs StrIs)
noncomputable def VerOf.row (a:VerOf):List (Ne (List Str)):=[.n a.n0,.n a.n1,.n a.n2,.o a.pre,.o a.bld]
noncomputable def VerOf.same (a b:VerOf):Bool:=a.n0 == b.n0 && (a.n1 == b.n1 && (a.n2 == b.n2 && (a.pre == b.pre && a.bld == b.bld)))
theorem row_eq (a b:VerOf):eqL (Ne.eqf (eqL fun x y=>x == y)) a.row b.row=a.same b:=by
 refine (?_:(a.n0 == b.n0 && (a.n1 == b.n1 && (a.n2 == b.n2 && (eqL _ a.pre b.pre && (eqL _ a.bld b.bld && true)))))=_)
 rw [eqL_str,eqL_str,Bool.and_true];rfl
theorem rows_ne {u v:Value} {a b:VerOf} (r:Rm A 4) (hx:TupIs VIs s.heap u a.row) (hy:TupIs VIs s.heap v b.row) :
  wpAny (model prog w) A (richCompare .NotEq u v) (Got s fun r _=>r=.bool (!a.same b)) (fun _ _=>False) s:=by
 rw [← row_eq]
 have r1:Rm A.in1 3:=r.in1 3 (by decide)
 exact tup_ne (kdNe (kdTup (op:=.NotEq) (A:=A.in1) (kdStr (.inr rfl)) r1.un fun _ h=>(h rfl).elim) (fun h=>by obtain ⟨_,_,_,_,e,_⟩:=h;cases e) fun _ h=>(h rfl).elim) hx hy ⟨trivial,trivial,trivial,ZipOk.all (fun _ _=>trivial) _ _,ZipOk.all (fun _ _=>trivial) _ _,trivial⟩ r.un
section
variable {Q:Value→Shared→Prop} {E:Value→Shared→Prop} {h₀:Heap} {L:Addr} {m:Str→Option Value} {news:List (Addr × Obj)}
theorem tupVF {x:Addr} {a:VerOf} (hA:A.handled=none) (F:Fr h₀ L s.heap m) (N:News h₀ L s.heap news) (X:(hd.heap_1 w.params).In h₀) (T:Top p loose mean mg mb h₀) (r:Rm A 7) (hx:Ver h₀ x a) (ab:AllBare s.gens)
  (h:∀ t o h' tk g',Fr h₀ L h' m→News h₀ L h' ((t,o)::news)→AllBare g'→(∀ h'',Grown h₀ h''→h''.get? t=some o→TupIs VIs h'' (.ref t) a.row)→Q (.ref t) { s with heap:=h',toks:=tk,gens:=g' }):wpAny (model prog w) A (call (.type "tuple") [.ref x]) Q E s:=by
 refine byc fun b_=>?_
 obtain ⟨pa,pb,_,_,_,_,_,_,la,lb,⟨_,_,_,_,_,_,_,_,_,_,_,_,_,_,_,_,_,I⟩,⟨ha,ea,za⟩,⟨hb,eb,zb⟩,_,_⟩:=hx
 refine b_ ?_;clear b_
 refine call_tupleV hA r (X.keeps F.keep) (T.keeps F.keep) (instKeep I F.keep) ⟨rfl,rfl,rfl,rfl,rfl⟩ fun s' hv=>?_
 refine byc fun b_=>?_
 obtain ⟨h',tk,g',rfl,hk,hab⟩:=hv
 refine b_ ?_;clear b_
 have F':=fr_on F hk
 exact h _ _ _ tk g' (F'.push _) ((news_on N hk).push F' _) (hab ab) fun h'' g0 e=>⟨_,_,_,_,rfl,e,rfl,rfl,.cons ⟨_,rfl⟩ (.cons ⟨_,rfl⟩ (.cons ⟨_,rfl⟩ (.cons (strT (g0 _ _ ha) ea) (.cons (strT (g0 _ _ hb) eb) .nil))))⟩
theorem rowsF {t u:Addr} {o o':Obj} {a b:VerOf} (F:Fr h₀ L s.heap m) (N:News h₀ L s.heap news) (r:Rm A 4) (ht:(t,o) ∈ news) (hu:(u,o') ∈ news) (ft:∀ h'',Grown h₀ h''→h''.get? t=some o→TupIs VIs h'' (.ref t) a.row) (fu:∀ h'',Grown h₀ h''→h''.get? u=some o'→TupIs VIs h'' (.ref u) b.row)
  (h:∀ h' tk,Fr h₀ L h' m→News h₀ L h' news→Q (.bool (!a.same b)) { s with heap:=h',toks:=tk }):wpAny (model prog w) A (richCompare .NotEq (.ref t) (.ref u)) Q E s:=by
 refine wpAny_mono (rows_ne r (ft _ F.keep (N _ ht).1) (fu _ F.keep (N _ hu).1)) (fun c s' g=>?_) fun _ _ x=>x.elim
 obtain ⟨h',tk,rfl,g,rfl⟩:=g
 exact h h' tk (fr_on F g) (news_on N g)
end
theorem rs34m0:True:=by
 k_with "@call type:tuple"=>(fail_if_success k_extra "e34");k_dflt (((try dsimp only);apply tupVF) <;> (first | kpc_g | exact rfl | k_extra "@my rmd" | k_extra "@my dg" | (intro _;intros;k_sweep)))
 k_with "@compareOp NotEq ref ref"=>(fail_if_success k_extra "e34");k_dflt (((try dsimp only);apply cmp_ofNotEq;apply rowsF;kpc_g;kpc_g;k_extra "@my rmd";k_mem;k_mem;kpc_g;kpc_g;(intro _;intros;k_sweep)))
 exact trivial
theorem ver_ne {x y:Addr} {a b:VerOf} (X:(hd.heap_1 w.params).In s.heap) (T:Top p loose mean mg mb s.heap) (hx:Ver s.heap x a) (hy:Ver s.heap y b) (ab:AllBare s.gens) (r:Rm A 9) :
  codeAny (model prog w) A (.call (.ref 357) ⟨[.ref x,.ref y],[]⟩) (RetG s fun v _=>v=.bool (!a.same b)) s:=by
 refine byc fun b_=>?_
 obtain ⟨_,_,_,_,_,_,_,_,_,_,⟨_,_,_,_,_,_,_,_,_,_,_,_,_,_,_,_,_,I⟩,_⟩:=id hx
 obtain ⟨_,_,_,_,_,_,_,_,_,_,⟨_,_,_,_,_,_,_,_,_,_,_,_,_,_,_,_,_,J⟩,_⟩:=id hy
 obtain ⟨hA,dA,fA,gA,uA⟩:=A
 obtain rfl:hA=none:=r.hand
 refine b_ ?_;clear b_
 apply enter (w:=w) [("self",.ref x),("other",.ref y)] [(12,.ref y),(11,.ref x)] X T
 walk_at "my enter"
 case hnm=>exact namesC nx_other (namesC nx_self (namesN))
 intro L h1 tk F N
 refine addLoc nx_self (by kernel_rfl!) ?_;intro n_self
 refine addLoc nx_other (by kernel_rfl!) ?_;intro n_other
 refine addGlo (w:=w) gk_Version (by kernel_rfl!) ?_;intro n_Version
 refine addBlt (w:=w) bk_isinstance (by kernel_rfl!) ?_;intro n_isinstance
 refine addBlt (w:=w) bk_NotImplemented (by kernel_rfl!) ?_;intro n_NotImplemented
 refine addBlt (w:=w) bk_tuple (by kernel_rfl!) ?_;intro n_tuple
 k_steps
 (try dsimp only)
 refine retG_end (by with_reducible assumption) (by with_reducible assumption) rfl
theorem rs34e:True:=by
 k_with "e34"=>skip
 exact trivial
theorem nf_388 (w:World):notFirst (hd.heap_1 w.params) 388 (.ref 388)=true:=by k_is
section
variable {Q:Value→Shared→Prop} {E:Value→Shared→Prop} {h₀:Heap} {L x y:Addr} {m:Str→Option Value} {news:List (Addr × Obj)} {a b:VerOf}
theorem Ver.inst {h:Heap} {x:Addr} {a:VerOf} (v:Ver h x a):∃ ox od,InstAt h x ox 388 (some od):=by
 refine byc fun b_=>?_
 obtain ⟨_,_,_,_,_,_,_,_,_,_,⟨_,_,_,_,_,_,_,_,_,_,_,_,_,_,_,_,_,I⟩,_⟩:=v
 refine b_ ?_;clear b_
 exact ⟨_,_,I⟩
theorem Ver.keep {h h':Heap} (g:Grown h h') {x:Addr} {a:VerOf} (v:Ver h x a):Ver h' x a:=by
 refine byc fun b_=>?_
 obtain ⟨pa,ba,c1,c2,k6,k7,t6,t7,la,lb,⟨_,_,_,_,_,_,_,_,_,_,_,_,_,_,_,_,_,I⟩,⟨ha,ea,za⟩,⟨hb,eb,zb⟩,K1,K2⟩:=v
 refine b_ ?_;clear b_
 exact ⟨pa,ba,c1,c2,k6,k7,t6,t7,la,lb,⟨_,_,_,_,_,_,_,_,_,_,_,_,_,_,_,_,_,instKeep I g⟩,⟨g _ _ ha,ea,za⟩,⟨g _ _ hb,eb,zb⟩,K1.keep g,K2.keep g⟩
theorem subR {α:Type} {l:List α}:∀ q ∈ l,q ∈ l:=fun _ h=>h
theorem consMem {e:Addr × Obj} {l r:List (Addr × Obj)} (h:∀ p ∈ l,p ∈ r):∀ p ∈ l,p ∈ e::r:=fun p hp=>List.mem_cons_of_mem _ (h p hp)
theorem Ver.here {q h:Heap} {nl:List (Addr × Obj)} (V:Ver q x a) (S:Sub q nl) (N:News h₀ L h news) (hm:∀ p ∈ nl,p ∈ news):Ver h x a:=V.keep ((S.le hm).grown N)
theorem rich388 {op:CmpOp} {f:Addr} (hu:A.units < cLine) (F:Fr h₀ L s.heap m) (X:(hd.heap_1 w.params).In h₀) (hx:Ver s.heap x a) (hy:Ver s.heap y b) (hs:findIn (hd.heap_1 w.params) (.ref 388) (cmpInfo op).2.1=some (some (.ref f))∧isFn (hd.heap_1 w.params) (.ref f)=true)
  (h:wpAny (model prog w) A (call (.ref f) [.ref x,.ref y]) (W.CmpBack Q) E s):wpAny (model prog w) A (richCompare op (.ref x) (.ref y)) Q E s:=by
 refine byc fun b_=>?_
 obtain ⟨_,_,I⟩:=hx.inst
 obtain ⟨_,_,J⟩:=hy.inst
 refine b_ ?_;clear b_
 exact cmp_K hu F X I J.type (nf_388 w) hs.1 hs.2 h
theorem fi_388_lt (w:World):findIn (hd.heap_1 w.params) (.ref 388) (cmpInfo .Lt).2.1=some (some (.ref 364))∧isFn (hd.heap_1 w.params) (.ref 364)=true:=⟨by k_is,by k_is⟩
theorem fi_388_le (w:World):findIn (hd.heap_1 w.params) (.ref 388) (cmpInfo .LtE).2.1=some (some (.ref 371))∧isFn (hd.heap_1 w.params) (.ref 371)=true:=⟨by k_is,by k_is⟩
theorem fi_388_gt (w:World):findIn (hd.heap_1 w.params) (.ref 388) (cmpInfo .Gt).2.1=some (some (.ref 378))∧isFn (hd.heap_1 w.params) (.ref 378)=true:=⟨by k_is,by k_is⟩
theorem fi_388_ge (w:World):findIn (hd.heap_1 w.params) (.ref 388) (cmpInfo .GtE).2.1=some (some (.ref 385))∧isFn (hd.heap_1 w.params) (.ref 385)=true:=⟨by k_is,by k_is⟩
theorem fi_388_eq (w:World):findIn (hd.heap_1 w.params) (.ref 388) (cmpInfo .Eq).2.1=some (some (.ref 350))∧isFn (hd.heap_1 w.params) (.ref 350)=true:=⟨by k_is,by k_is⟩
theorem fi_388_ne (w:World):findIn (hd.heap_1 w.params) (.ref 388) (cmpInfo .NotEq).2.1=some (some (.ref 357))∧isFn (hd.heap_1 w.params) (.ref 357)=true:=⟨by k_is,by k_is⟩
theorem v_lt (F:Fr h₀ L s.heap m) (N:News h₀ L s.heap news) (X:(hd.heap_1 w.params).In h₀) (T:Top p loose mean mg mb h₀) (r:Rm A 8) (hx:Ver s.heap x a) (hy:Ver s.heap y b)
  (h:∀ h' tk,Fr h₀ L h' m→News h₀ L h' news→Q (.bool (keyOp .Lt a.k4 b.k4)) { s with heap:=h',toks:=tk }):wpAny (model prog w) A (compareOp .Lt (.ref x) (.ref y)) Q E s:=by
 refine cmp_ofLt (rich388 r.un F X hx hy (fi_388_lt w) (useF F N (ver_lt (X.keeps F.keep) (T.keeps F.keep) hx hy r) fun v h' tk F' N' e=>?_))
 subst e
 exact h h' tk F' N'
theorem v_le (F:Fr h₀ L s.heap m) (N:News h₀ L s.heap news) (X:(hd.heap_1 w.params).In h₀) (T:Top p loose mean mg mb h₀) (r:Rm A 8) (hx:Ver s.heap x a) (hy:Ver s.heap y b)
  (h:∀ h' tk,Fr h₀ L h' m→News h₀ L h' news→Q (.bool (keyOp .LtE a.k4 b.k4)) { s with heap:=h',toks:=tk }):wpAny (model prog w) A (compareOp .LtE (.ref x) (.ref y)) Q E s:=by
 refine cmp_ofLtE (rich388 r.un F X hx hy (fi_388_le w) (useF F N (ver_le (X.keeps F.keep) (T.keeps F.keep) hx hy r) fun v h' tk F' N' e=>?_))
 subst e
 exact h h' tk F' N'
theorem v_gt (F:Fr h₀ L s.heap m) (N:News h₀ L s.heap news) (X:(hd.heap_1 w.params).In h₀) (T:Top p loose mean mg mb h₀) (r:Rm A 8) (hx:Ver s.heap x a) (hy:Ver s.heap y b)
  (h:∀ h' tk,Fr h₀ L h' m→News h₀ L h' news→Q (.bool (keyOp .Gt a.k4 b.k4)) { s with heap:=h',toks:=tk }):wpAny (model prog w) A (compareOp .Gt (.ref x) (.ref y)) Q E s:=by
 refine cmp_ofGt (rich388 r.un F X hx hy (fi_388_gt w) (useF F N (ver_gt (X.keeps F.keep) (T.keeps F.keep) hx hy r) fun v h' tk F' N' e=>?_))
 subst e
 exact h h' tk F' N'
theorem v_ge (F:Fr h₀ L s.heap m) (N:News h₀ L s.heap news) (X:(hd.heap_1 w.params).In h₀) (T:Top p loose mean mg mb h₀) (r:Rm A 8) (hx:Ver s.heap x a) (hy:Ver s.heap y b)
  (h:∀ h' tk,Fr h₀ L h' m→News h₀ L h' news→Q (.bool (keyOp .GtE a.k4 b.k4)) { s with heap:=h',toks:=tk }):wpAny (model prog w) A (compareOp .GtE (.ref x) (.ref y)) Q E s:=by
 refine cmp_ofGtE (rich388 r.un F X hx hy (fi_388_ge w) (useF F N (ver_ge (X.keeps F.keep) (T.keeps F.keep) hx hy r) fun v h' tk F' N' e=>?_))
 subst e
 exact h h' tk F' N'
theorem v_eq (F:Fr h₀ L s.heap m) (N:News h₀ L s.heap news) (X:(hd.heap_1 w.params).In h₀) (T:Top p loose mean mg mb h₀) (r:Rm A 8) (hx:Ver s.heap x a) (hy:Ver s.heap y b)
  (h:∀ h' tk,Fr h₀ L h' m→News h₀ L h' news→Q (.bool (a.same b)) { s with heap:=h',toks:=tk }):wpAny (model prog w) A (compareOp .Eq (.ref x) (.ref y)) Q E s:=by
 refine cmp_ofEq (rich388 r.un F X hx hy (fi_388_eq w) (useF F N (ver_eq (X.keeps F.keep) (T.keeps F.keep) hx hy r) fun v h' tk F' N' e=>?_))
 subst e
 exact h h' tk F' N'
theorem v_ne (F:Fr h₀ L s.heap m) (N:News h₀ L s.heap news) (X:(hd.heap_1 w.params).In h₀) (T:Top p loose mean mg mb h₀) (r:Rm A 9) (hx:Ver s.heap x a) (hy:Ver s.heap y b) (ab:AllBare s.gens)
  (h:∀ h' tk g',Fr h₀ L h' m→News h₀ L h' news→AllBare g'→Q (.bool (!a.same b)) { s with heap:=h',toks:=tk,gens:=g' }):wpAny (model prog w) A (compareOp .NotEq (.ref x) (.ref y)) Q E s:=by
 refine cmp_ofNotEq (rich388 r.un F X hx hy (fi_388_ne w) (wpAny_call (codeAny_mono (ver_ne (X.keeps F.keep) (T.keeps F.keep) hx hy ab r) fun rr s' hr=>?_)))
 refine byc fun b_=>?_
 obtain ⟨v,h',tk,g',rfl,rfl,hk,ab',rfl⟩:=hr
 refine b_ ?_;clear b_
 exact h h' tk g' (fr_on F hk) (news_on N hk) ab'
end
theorem rs35m0:True:=by
 k_with "@my tailmem"=>first | apply subR | (apply consMem;k_extra "@my tailmem")
 k_with "@my sub"=>first | kpc_g | (apply Sub.le;kpc_g;kpc_g)
 k_with "@my ver"=>first | (apply Ver.keep;apply Fr.keep;kpc_g;kpc_g) | (apply Ver.here;kpc_g;kpc_g;kpc_g;k_extra "@my tailmem") | (apply Ver.here;kpc_g;apply Sub.le;kpc_g;kpc_g;kpc_g;k_extra "@my tailmem")
 k_with "@compareOp Lt ref ref"=>k_dflt (((try dsimp only);apply v_lt) <;> (first | kpc_g | k_extra "@my rmd" | k_extra "@my ver" | (intro _;intros;k_sweep)))
 k_with "@compareOp LtE ref ref"=>k_dflt (((try dsimp only);apply v_le) <;> (first | kpc_g | k_extra "@my rmd" | k_extra "@my ver" | (intro _;intros;k_sweep)))
 k_with "@compareOp Gt ref ref"=>k_dflt (((try dsimp only);apply v_gt) <;> (first | kpc_g | k_extra "@my rmd" | k_extra "@my ver" | (intro _;intros;k_sweep)))
 k_with "@compareOp GtE ref ref"=>k_dflt (((try dsimp only);apply v_ge) <;> (first | kpc_g | k_extra "@my rmd" | k_extra "@my ver" | (intro _;intros;k_sweep)))
 k_with "@compareOp Eq ref ref"=>k_dflt (((try dsimp only);apply v_eq) <;> (first | kpc_g | k_extra "@my rmd" | k_extra "@my ver" | (intro _;intros;k_sweep)))
 k_with "@compareOp NotEq ref ref"=>k_dflt (((try dsimp only);apply v_ne) <;> (first | kpc_g | k_extra "@my rmd" | k_extra "@my ver" | k_extra "@my dg" | (intro _;intros;k_sweep)))
 exact trivial
noncomputable def VerOf.cmp (a b:VerOf):Value→Prop:=fun v=>if keyOp .Lt a.k4 b.k4 then ∃ t,v=.int (-1) t else if keyOp .Gt a.k4 b.k4 then ∃ t,v=.int 1 t else if a.same b then ∃ t,v=.int 0 t else v=.notImplemented
theorem cmp1 {a b:VerOf} {t:Tok} (h:keyOp .Lt a.k4 b.k4=true):a.cmp b (.int (-1) t):=by unfold VerOf.cmp;rw [if_pos h];exact ⟨_,rfl⟩
theorem cmp2 {a b:VerOf} {t:Tok} (h:keyOp .Lt a.k4 b.k4=false) (g:keyOp .Gt a.k4 b.k4=true):a.cmp b (.int 1 t):=by unfold VerOf.cmp;rw [if_neg (by rw [h];decide),if_pos g];exact ⟨_,rfl⟩
theorem cmp3 {a b:VerOf} {t:Tok} (h:keyOp .Lt a.k4 b.k4=false) (g:keyOp .Gt a.k4 b.k4=false) (e:a.same b=true):a.cmp b (.int 0 t):=by unfold VerOf.cmp;rw [if_neg (by rw [h];decide),if_neg (by rw [g];decide),if_pos e];exact ⟨_,rfl⟩
theorem cmp4 {a b:VerOf} (h:keyOp .Lt a.k4 b.k4=false) (g:keyOp .Gt a.k4 b.k4=false) (e:a.same b=false):a.cmp b .notImplemented:=by unfold VerOf.cmp;rw [if_neg (by rw [h];decide),if_neg (by rw [g];decide),if_neg (by rw [e];decide)]
theorem ver_cmp {x y:Addr} {a b:VerOf} (X:(hd.heap_1 w.params).In s.heap) (T:Top p loose mean mg mb s.heap) (hx:Ver s.heap x a) (hy:Ver s.heap y b) (r:Rm A 9) :
  codeAny (model prog w) A (.call (.ref 343) ⟨[.ref x,.ref y],[]⟩) (Ret s fun v _=>a.cmp b v) s:=by
 refine byc fun b_=>?_
 obtain ⟨_,_,I⟩:=hx.inst
 obtain ⟨_,_,J⟩:=hy.inst
 obtain ⟨hA,dA,fA,gA,uA⟩:=A
 obtain rfl:hA=none:=r.hand
 refine b_ ?_;clear b_
 apply enter (w:=w) [("self",.ref x),("other",.ref y)] [(12,.ref y),(11,.ref x)] X T
 walk_at "my enter"
 case hnm=>exact namesC nx_other (namesC nx_self (namesN))
 intro L h1 tk F N
 refine addLoc nx_self (by kernel_rfl!) ?_;intro n_self
 refine addLoc nx_other (by kernel_rfl!) ?_;intro n_other
 refine addGlo (w:=w) gk_Version (by kernel_rfl!) ?_;intro n_Version
 refine addBlt (w:=w) bk_isinstance (by kernel_rfl!) ?_;intro n_isinstance
 refine addBlt (w:=w) bk_NotImplemented (by kernel_rfl!) ?_;intro n_NotImplemented
 k_steps
 all_goals (try dsimp only)
 all_goals (refine ret_end (by with_reducible assumption) ?_)
 all_goals first
  | exact cmp1 (by with_reducible assumption)
  | exact cmp2 (by with_reducible assumption) (by with_reducible assumption)
  | exact cmp3 (by with_reducible assumption) (by with_reducible assumption) (by with_reducible assumption)
  | exact cmp4 (by with_reducible assumption) (by with_reducible assumption) (by with_reducible assumption)
section
variable {Q:Value→Shared→Prop} {E:Value→Shared→Prop} {h₀:Heap} {L:Addr} {m:Str→Option Value} {nl news:List (Addr × Obj)} {c:List (Addr × Obj)→List (Addr × Obj)} {ps:Array Value}
noncomputable abbrev TxV (text:Str) (a:VerOf):Prop:=Txv text a.n0 a.n1 a.n2 a.pre a.bld a.ks a.bs
theorem versionF {text:Str} {tt:Tok} {a:VerOf} (F:Fr h₀ L s.heap m) (N:News h₀ L s.heap news) (X:(hd.heap_1 w.params).In h₀) (T:Top p loose mean mg mb h₀) (V:TxV text a) (r:Rm A 8) (ht:(323,tabObj ps) ∈ news) (tr:TriplesOk ps.toList) (ab:AllBare s.gens) (nt:NoTab nl news c)
  (h:∀ x ox od h' tk g' ps' q nl',InstAt q x ox 388 (some od)→Ver q x a→Fr h₀ L h' m→News h₀ L h' ((323,tabObj ps')::c nl')→TriplesOk ps'.toList→AllBare g'→Sub q nl'→(∀ p ∈ nl,p ∈ nl')→NotT nl'→(∀ p ∈ nl',p ∈ nl∨s.heap.get? p.1=none)→Q (.ref x) { s with heap:=h',toks:=tk,gens:=g' }) :
  wpAny (model prog w) A (call (.ref 388) [.str text tt]) Q E s :=
 useT F N X T ht tr ab nt (fun t=>version_spec V t r) fun v h' tk g' ps' q nl' F' N' tr' ab' pk0 S le nT old=>by
  obtain ⟨x,e,hv⟩:=pk0
  refine byc fun b_=>?_
  subst e
  obtain ⟨ox,od,I⟩:=Ver.inst (a:=a) hv
  refine b_ ?_;clear b_
  exact h x ox od h' tk g' ps' q nl' I hv F' N' tr' ab' S le nT old
theorem InstAt.here' {q h:Heap} {x C:Addr} {ox:Obj} {od:Option Obj} (I:InstAt q x ox C od) (S:Sub q nl) (N:News h₀ L h news) (hm:∀ p ∈ nl,p ∈ news):InstAt h x ox C od:=instKeep I ((S.le hm).grown N)
theorem vMeth {x:Addr} {a:VerOf} {pl:Sem Bool} {Q:Value × List Value→Shared→Prop} (F:Fr h₀ L s.heap m) (X:(hd.heap_1 w.params).In h₀) (hx:Ver s.heap x a) (h:Q (.ref 343,[.ref x]) s):wpAny (model prog w) A (getMethod (.ref x) "_cmp" pl) Q E s:=by
 refine byc fun b_=>?_
 obtain ⟨_,_,_,_,_,_,_,_,_,_,⟨_,_,_,_,_,_,_,_,_,_,_,_,_,_,_,_,_,I⟩,_⟩:=hx
 refine b_ ?_;clear b_
 exact method_inst F X I (by k_is) (by k_is) (by k_is) (by k_get) h
theorem cmpF {x y:Addr} {a b:VerOf} (F:Fr h₀ L s.heap m) (N:News h₀ L s.heap news) (X:(hd.heap_1 w.params).In h₀) (T:Top p loose mean mg mb h₀) (hx:Ver s.heap x a) (hy:Ver s.heap y b) (r:Rm A 9)
  (h:∀ v h' tk,Fr h₀ L h' m→News h₀ L h' news→a.cmp b v→Q v { s with heap:=h',toks:=tk }):wpAny (model prog w) A (call (.ref 343) [.ref x,.ref y]) Q E s :=
 useF F N (ver_cmp (X.keeps F.keep) (T.keeps F.keep) hx hy r) fun v h' tk F' N' e=>h v h' tk F' N' e
end
theorem rs36m0:True:=by
 k_with "@my inst"=>(apply InstAt.here';kpc_g;k_extra "@my sub";kpc_g;k_extra "@my tailmem")
 k_with "@getMethod ref"=>k_dflt (((try dsimp only);apply vMeth;kpc_g;kpc_g;k_extra "@my ver"))
 k_with "@call ref"=>k_dflt (first | ((try dsimp only);apply versionF;kpc_g;kpc_g;kpc_g;kpc_g;kpc_g;k_extra "@my rmd";k_mem;kpc_g;k_extra "@my dg";k_extra "@my notab";(intro _;intros;k_sweep)) | ((try dsimp only);apply cmpF;kpc_g;kpc_g;kpc_g;kpc_g;k_extra "@my ver";k_extra "@my ver";k_extra "@my rmd";(intro _;intros;k_sweep)))
 exact trivial
theorem compare_spec {t1 t2:Str} {k1 k2:Tok} {a b:VerOf} {ps:Array Value} (V1:TxV t1 a) (V2:TxV t2 b) (t:TT w p loose mean mg mb s ps) (r:Rm A 11) :
  codeAny (model prog w) A (.call (.ref 399) ⟨[.str t1 k1,.str t2 k2],[]⟩) (RetT s fun v _=>a.cmp b v) s:=by
 obtain ⟨hA,dA,fA,gA,uA⟩:=A
 obtain rfl:hA=none:=r.hand
 have NW:=t.nw
 have X:=t.X
 have T:=t.T
 have tr:=t.tr
 have ab:=t.ab
 apply enterN NW (w:=w) [("v1",.str t1 k1),("v2",.str t2 k2)] [(35,.str t2 k2),(34,.str t1 k1)] X T
 walk_at "my enter"
 case hnm=>exact namesC nx_v2 (namesC nx_v1 (namesN))
 intro L h1 tk F N
 refine addLoc nx_v1 (by kernel_rfl!) ?_;intro n_v1
 refine addLoc nx_v2 (by kernel_rfl!) ?_;intro n_v2
 refine addGlo (w:=w) gk_Version (by kernel_rfl!) ?_;intro n_Version
 k_steps
 (try dsimp only)
 rename Fr _ _ _ _=>F
 rename News _ _ _ _=>N
 refine' retT_end F N ?ht9 ?tr9 ?ab9 (by with_reducible assumption)
 case ht9=>k_mem
 case tr9=>with_reducible assumption
 case ab9=>(try dsimp only);with_reducible assumption
section
section
open PySem.W.KPc
variable {M:Model} {A:Around} {E:Value→Shared→Prop} {s:Shared} {l:List Nat} {p:List Value} {r:List Nat}
 {f:Nat→List Value × Builtin.Str.Writer × List Nat→Sem (ForInStep (List Value × Builtin.Str.Writer × List Nat))} {Q:List Value × Builtin.Str.Writer × List Nat→Shared→Prop}
 {w:Builtin.Str.Writer} {T x y:PySem.Str} {N K:Nat} {o:Option Value}
theorem after_intB {c:Builtin.Str.Percent} {n:Int} {d:List Nat} (g:PySem.W.KPc.Good w T N) (h1:c.alt=false) (h2:c.type=100∨c.type=105∨c.type=117) (h3:c.prec=none) (hn:0 ≤ n) (hm:n < 10 ^ 18)
  (hd:d=(PySem.Str.ofString (toString ((n.natAbs:Nat):Int))).cps.toList) (ho:o=none) (h:∀ w',PySem.W.KPc.Good w' (T++PySem.Str.ofString (toString n)) (N + 18)→wpAny M A (forIn l (p,w',r) f) Q E s) :
  wpAny M A (forIn l (p,w.add ⟨(Builtin.Str.percentInt c (decide (n < 0)) d).toArray⟩ o,r) f) Q E s:=by
 have en:((n.natAbs:Nat):Int)=n:=Int.natAbs_of_nonneg hn
 rw [int_text c h1 h2 h3 hn,hd,en]
 exact after_str g (toString_length_le hn (by decide) hm) (obj_none ho) h
theorem after_intB0 {c:Builtin.Str.Percent} {n:Int} {d:List Nat} (g:PySem.W.KPc.Good w PySem.Str.empty N) (h1:c.alt=false) (h2:c.type=100∨c.type=105∨c.type=117) (h3:c.prec=none) (hn:0 ≤ n) (hm:n < 10 ^ 18)
  (hd:d=(PySem.Str.ofString (toString ((n.natAbs:Nat):Int))).cps.toList) (ho:o=none) (h:∀ w',PySem.W.KPc.Good w' (PySem.Str.ofString (toString n)) (N + 18)→wpAny M A (forIn l (p,w',r) f) Q E s) :
  wpAny M A (forIn l (p,w.add ⟨(Builtin.Str.percentInt c (decide (n < 0)) d).toArray⟩ o,r) f) Q E s :=
 after_intB g h1 h2 h3 hn hm hd ho fun w' g'=>h w' (by rw [empty_app] at g';exact g')
end
local macro_rules | `(tactic| kpc_piece)=>`(tactic| walk_at "my piece")
local macro_rules | `(tactic| kpt_piece)=>`(tactic| walk_at "my piece")
local macro_rules | `(tactic| kpt_len)=>`(tactic| with_reducible assumption)
theorem rs37m0:True:=by
 k_with "@my piece"=>(fail_if_success k_extra "e37");first | (apply after_intB0;kpc_g;exact rfl;k_extra "@my kind";exact rfl;kpc_g;kpc_g;exact rfl;k_extra "@my none";(intro _;intros)) | (apply after_intB;kpc_g;exact rfl;k_extra "@my kind";exact rfl;kpc_g;kpc_g;exact rfl;k_extra "@my none";(intro _;intros))
 k_with "@my kind"=>(fail_if_success k_extra "e37");first | (apply Or.inl;exact rfl) | (apply Or.inr;apply Or.inl;exact rfl) | (apply Or.inr;apply Or.inr;exact rfl)
 k_with "@my none"=>(fail_if_success k_extra "e37");first | exact rfl | apply ite_self
 exact trivial
theorem shownB {n:Int} (h0:0 ≤ n) (h1:n < 10 ^ 18):n.natAbs.log2 < 1920:=shown (N:=10 ^ 18) (by lia) h1 (by decide +kernel)
section
open PySem.W.KPc Builtin Builtin.Str
inductive Run (Tf:PySem.Str):Nat→List Nat→List Value→PySem.Str→Nat→Prop
 | nil {k:Nat} {T:PySem.Str} {N:Nat} (hN:N ≤ 16777216) (e:T=Tf):Run Tf k [] [] T N
 | d {k:Nat} {rest:List Nat} {vs:List Value} {T:PySem.Str} {N:Nat} {n:Int} {t:Tok} (hN:N ≤ 16777216) (h0:0 ≤ n) (h1:n < 10 ^ 18) (h:Run Tf k rest vs (T++PySem.Str.ofString (toString n)) (N + 18)):Run Tf (k + 1) (37::100::rest) (.int n t::vs) T N
 | s {k:Nat} {rest:List Nat} {vs:List Value} {T x:PySem.Str} {N K:Nat} {t:Tok} (hN:N ≤ 16777216) (hx:x.length ≤ K) (h:Run Tf k rest vs (T++x) (N + K)):Run Tf (k + 1) (37::115::rest) (.str x t::vs) T N
 | mid {k c:Nat} {rest:List Nat} {vs:List Value} {T x:PySem.Str} {N:Nat} (hN:N ≤ 16777216) (hc:(c != 37)=true) (hx:⟨[c].toArray⟩=x) (h:Run Tf k (37::rest) vs (T++x) (N + x.length)):Run Tf (k + 1) (c::37::rest) vs T N
 | last {k c:Nat} {vs:List Value} {T x:PySem.Str} {N:Nat} (hN:N ≤ 16777216) (hc:(c != 37)=true) (hx:⟨[c].toArray⟩=x) (h:Run Tf k [] vs (T++x) (N + x.length)):Run Tf (k + 1) [c] vs T N
theorem span_mid {c:Nat} {r:List Nat} (hc:(c != 37)=true):List.span (fun x=>x != 37) (c::37::r)=([c],37::r):=by simp [List.span,List.span.loop,hc]
theorem span_last {c:Nat} (hc:(c != 37)=true):List.span (fun x=>x != 37) [c]=([c],[]):=by simp [List.span,List.span.loop,hc]
theorem loop_run {M:Model} {A:Around} {E:Value→Shared→Prop} {s:Shared} {f:Nat→List Value × Builtin.Str.Writer × List Nat→Sem (ForInStep (List Value × Builtin.Str.Writer × List Nat))} {Q:List Value × Builtin.Str.Writer × List Nat→Shared→Prop} {Tf:PySem.Str}
  (td:∀ {i:Nat} {l:List Nat} {rest:List Nat} {vs:List Value} {T:PySem.Str} {w:Builtin.Str.Writer} {N:Nat} {n:Int} {t:Tok} {tk:Nat},0 ≤ n→n < 10 ^ 18→PySem.W.KPc.Good w T N→N ≤ 16777216→(∀ w' tk,PySem.W.KPc.Good w' (T++PySem.Str.ofString (toString n)) (N + 18)→wpAny M A (forIn l (vs,w',rest) f) Q E { s with toks:=tk })→wpAny M A (forIn (i::l) (.int n t::vs,w,37::100::rest) f) Q E { s with toks:=tk })
  (ts:∀ {i:Nat} {l:List Nat} {rest:List Nat} {vs:List Value} {T:PySem.Str} {w:Builtin.Str.Writer} {N:Nat} {K:Nat} {x:PySem.Str} {t:Tok} {tk:Nat},x.length ≤ K→PySem.W.KPc.Good w T N→N ≤ 16777216→(∀ w' tk,PySem.W.KPc.Good w' (T++x) (N + K)→wpAny M A (forIn l (vs,w',rest) f) Q E { s with toks:=tk })→wpAny M A (forIn (i::l) (.str x t::vs,w,37::115::rest) f) Q E { s with toks:=tk })
  (tm:∀ {i:Nat} {l:List Nat} {rest:List Nat} {vs:List Value} {T:PySem.Str} {w:Builtin.Str.Writer} {N:Nat} {c:Nat} {x:PySem.Str} {tk:Nat},(c != 37)=true→⟨[c].toArray⟩=x→PySem.W.KPc.Good w T N→N ≤ 16777216→(∀ w' tk,PySem.W.KPc.Good w' (T++x) (N + x.length)→wpAny M A (forIn l (vs,w',37::rest) f) Q E { s with toks:=tk })→wpAny M A (forIn (i::l) (vs,w,c::37::rest) f) Q E { s with toks:=tk })
  (tl:∀ {i:Nat} {l:List Nat} {vs:List Value} {T:PySem.Str} {w:Builtin.Str.Writer} {N:Nat} {c:Nat} {x:PySem.Str} {tk:Nat},(c != 37)=true→⟨[c].toArray⟩=x→PySem.W.KPc.Good w T N→N ≤ 16777216→(∀ w' tk,PySem.W.KPc.Good w' (T++x) (N + x.length)→wpAny M A (forIn l (vs,w',[]) f) Q E { s with toks:=tk })→wpAny M A (forIn (i::l) (vs,w,[c]) f) Q E { s with toks:=tk })
  (fin:∀ {l:List Nat} {w:Builtin.Str.Writer} {N:Nat} {tk:Nat},PySem.W.KPc.Good w Tf N→N ≤ 16777216→wpAny M A (forIn l ([],w,[]) f) Q E { s with toks:=tk }) {k:Nat} {r:List Nat} {vs:List Value} {T:PySem.Str} {N:Nat} (R:Run Tf k r vs T N) :
  ∀ (l:List Nat) (w:Builtin.Str.Writer) (tk:Nat),l.length=k→PySem.W.KPc.Good w T N→wpAny M A (forIn l (vs,w,r) f) Q E { s with toks:=tk }:=by
 induction R with
 | nil hN e=>exact fun l w tk _ g=>fin (e ▸ g) hN
 | d hN h0 h1 _ ih=>exact fun l w tk hl g=>match l,hl with | _::l,hl=>td h0 h1 g hN fun w' tk g'=>ih l w' tk (Nat.succ.inj hl) g'
 | s hN hx _ ih=>exact fun l w tk hl g=>match l,hl with | _::l,hl=>ts hx g hN fun w' tk g'=>ih l w' tk (Nat.succ.inj hl) g'
 | mid hN hc hx _ ih=>exact fun l w tk hl g=>match l,hl with | _::l,hl=>tm hc hx g hN fun w' tk g'=>ih l w' tk (Nat.succ.inj hl) g'
 | last hN hc hx _ ih=>exact fun l w tk hl g=>match l,hl with | _::l,hl=>tl hc hx g hN fun w' tk g'=>ih l w' tk (Nat.succ.inj hl) g'
theorem mod_fmt {prog:Program} {w:World} {A:Around} {E:Value→Shared→Prop} {s:Shared} {Q:Value→Shared→Prop} {h₀:Heap} {L b:Addr} {news:List (Addr × Obj)} {t:Tok} {its:Array Value} {k:Nat} {F T:PySem.Str} {codes:List Nat} (hX:F=⟨codes.toArray⟩) (N:News h₀ L s.heap news) (hb:(b,({ cls:=.type "tuple",data:=.seq its k }:PySem.Obj)) ∈ news)
  (R:Run T codes.length codes its.toList PySem.Str.empty 0) (hF:(1 == codes.length)=false) (h:∀ t' k,Q (.str T t') { s with toks:=k }):wpAny (model prog w) A (binaryOp .Mod (.str F t) (.ref b)) Q E s:=by
 refine' KPt.mod_tuple N hb hX ?m h
 case m =>
  apply KPt.meets_tup
  intro prog w_1 A s Q E H hq
  refine byc fun b_=>?_
  obtain ⟨o,g,c,n,dd⟩:=H
  refine b_ ?_;clear b_
  rw [KPt.entry_is_r]
  unfold Builtin.Str.percentFormat
  refine wpAny_bind (wpAny_isInstance (T:="tuple") ⟨o,g,c⟩ KPt.sub_tt ?_)
  refine wpAny_bind (KPt.asStr_ref g dd ?_)
  refine wpAny_bind (KPt.fills_ref ⟨o,g,c⟩ ?_)
  intro _
  kpc_if
  refine wpAny_bind (wpAny_seqItems g dd ?_)
  refine wpAny_bind (wpAny_pure ?_)
  refine wpAny_bind ?_
  rw [KPc.range_list]
  refine KPc.start ?_
  intro w0 G0
  refine loop_run (s:=s) ?d ?s ?mid ?last ?fin R _ _ s.toks (List.length_range'.trans List.size_toArray) G0
  case d =>
   intro i l rest vs T w N n t tk h0 h1 g hN hk
   have hs:=shownB h0 h1
   refine KPc.turn ?_
   refine wpAny_ite (KPc.ite_no (KPc.short_good g hN) ?_)
   repeat kpc_if
   refine wpAny_bind ?_
   refine wpAny_holding ?_
   repeat kpc_if
   kpt_conv
   refine wpAny_pure ?_
   refine wpAny_pure ?_
   exact after_intB g rfl (by kpc_kind) rfl h0 h1 rfl (by kpc_none) fun w' g'=>hk w' _ g'
  case s =>
   intro i l rest vs T w N K x t tk hx g hN hk
   refine KPc.turn ?_
   refine wpAny_ite (KPc.ite_no (KPc.short_good g hN) ?_)
   repeat kpc_if
   refine wpAny_bind ?_
   refine wpAny_holding ?_
   repeat kpc_if
   kpt_conv
   refine wpAny_pure ?_
   refine wpAny_pure ?_
   exact after_str g hx (by split <;> first | exact obj_some rfl | exact obj_none rfl) fun w' g'=>hk w' _ g'
  case mid =>
   intro i l rest vs T w N c x tk hc hx g hN hk
   refine KPc.turn ?_
   refine wpAny_ite (KPc.ite_no (KPc.short_good g hN) ?_)
   kpc_if
   rw [span_mid hc]
   kpc_if
   refine wpAny_pure ?_
   exact after_add g hx (obj_none (if_neg (fun e=>Bool.false_ne_true (hF.symm.trans e)))) fun w' g'=>hk w' _ g'
  case last =>
   intro i l vs T w N c x tk hc hx g hN hk
   refine KPc.turn ?_
   refine wpAny_ite (KPc.ite_no (KPc.short_good g hN) ?_)
   kpc_if
   rw [span_last hc]
   kpc_if
   refine wpAny_pure ?_
   exact after_add g hx (obj_none (if_neg (fun e=>Bool.false_ne_true (hF.symm.trans e)))) fun w' g'=>hk w' _ g'
  case fin =>
   intro l w N tk g hN
   have e:wpAny (model prog w_1) A (w.finish "str.__mod__") Q E { s with toks:=tk }:=KPc.finish_ok g hN rfl hq
   cases l with
   | nil =>
    refine wpAny_pure ?_
    kpc_if
    exact e
   | cons i l =>
    refine KPc.turn ?_
    refine wpAny_ite (KPc.ite_no (KPc.short_good g hN) ?_)
    kpc_if
    refine wpAny_pure ?_
    kpc_if
    exact e
end
section
variable {Q:Value→Shared→Prop} {E:Value→Shared→Prop} {h₀:Heap} {L b:Addr} {news:List (Addr × Obj)} {t u:Tok} {n:Int} {x y:PySem.Str} {k:Nat}
theorem mod_d (hn:0 ≤ n) (hm:n < 10 ^ 18) (h:∀ t' k,Q (.str (PySem.Str.ofString (toString n)) t') { s with toks:=k }):wpAny (model prog w) A (binaryOp .Mod (.str "%d" t) (.int n u)) Q E s:=by
 refine' KPc.mod_lit ?F (shownB hn hm) ?m h
 case F=>kpc_eq
 case m=>k_dflt kpc_run
theorem dot_eq:(⟨[46].toArray⟩:PySem.Str)=PySem.Str.ofString ".":=by decide +kernel
theorem dash_eq:(⟨[45].toArray⟩:PySem.Str)=PySem.Str.ofString "-":=by decide +kernel
theorem plus_eq:(⟨[43].toArray⟩:PySem.Str)=PySem.Str.ofString "+":=by decide +kernel
theorem len1 {x:PySem.Str} {c:Nat} (h:(⟨[c].toArray⟩:PySem.Str)=x) {N K:Nat} (hK:N + 1 ≤ K):N + x.length ≤ K:=by subst h;exact hK
theorem mod_sd {t1 t2:Tok} (N:News h₀ L s.heap news) (hb:(b,({ cls:=.type "tuple",data:=.seq #[.str x t1,.int n t2] k }:Obj)) ∈ news) (hn:0 ≤ n) (hm:n < 10 ^ 18) (hx:x.length ≤ 100000)
  (h:∀ t' k,Q (.str ((x++".")++PySem.Str.ofString (toString n)) t') { s with toks:=k }):wpAny (model prog w) A (binaryOp .Mod (.str "%s.%d" t) (.ref b)) Q E s :=
 mod_fmt (codes:=[37,115,46,37,100]) (by decide +kernel) N hb (.s (by decide) hx (.mid (by decide) rfl dot_eq (.d (by decide) hn hm (.nil (by decide) (by rw [KPc.empty_app]))))) rfl h
noncomputable def nums (a b c:Int):PySem.Str:=(((PySem.Str.ofString (toString a)++".")++PySem.Str.ofString (toString b))++".")++PySem.Str.ofString (toString c)
theorem mod_ddd {n0 n1 n2:Int} {t0 t1 t2:Tok} (N:News h₀ L s.heap news) (hb:(b,({ cls:=.type "tuple",data:=.seq #[.int n0 t0,.int n1 t1,.int n2 t2] k }:Obj)) ∈ news)
  (h0:0 ≤ n0) (g0:n0 < 10 ^ 18) (h1:0 ≤ n1) (g1:n1 < 10 ^ 18) (h2:0 ≤ n2) (g2:n2 < 10 ^ 18)
  (h:∀ t' k,Q (.str (nums n0 n1 n2) t') { s with toks:=k }):wpAny (model prog w) A (binaryOp .Mod (.str "%d.%d.%d" t) (.ref b)) Q E s :=
 mod_fmt (codes:=[37,100,46,37,100,46,37,100]) (by decide +kernel) N hb (.d (by decide) h0 g0 (.mid (by decide) rfl dot_eq (.d (by decide) h1 g1 (.mid (by decide) rfl dot_eq (.d (by decide) h2 g2 (.nil (by decide) (by rw [KPc.empty_app];rfl))))))) rfl h
theorem mod_dddm {n0 n1 n2:Int} {t0 t1 t2:Tok} (N:News h₀ L s.heap news) (hb:(b,({ cls:=.type "tuple",data:=.seq #[.int n0 t0,.int n1 t1,.int n2 t2] k }:Obj)) ∈ news)
  (h0:0 ≤ n0) (g0:n0 < 10 ^ 18) (h1:0 ≤ n1) (g1:n1 < 10 ^ 18) (h2:0 ≤ n2) (g2:n2 < 10 ^ 18)
  (h:∀ t' k,Q (.str (nums n0 n1 n2++"-") t') { s with toks:=k }):wpAny (model prog w) A (binaryOp .Mod (.str "%d.%d.%d-" t) (.ref b)) Q E s :=
 mod_fmt (codes:=[37,100,46,37,100,46,37,100,45]) (by decide +kernel) N hb (.d (by decide) h0 g0 (.mid (by decide) rfl dot_eq (.d (by decide) h1 g1 (.mid (by decide) rfl dot_eq (.d (by decide) h2 g2 (.last (by decide) rfl dash_eq (.nil (by decide) (by rw [KPc.empty_app];rfl)))))))) rfl h
end
end
theorem rs37e:True:=by
 k_with "e37"=>skip
 exact trivial
theorem lenApp (a b:Str):(a++b).length=a.length + b.length:=by
 refine (?_:(a++b).cps.size=a.cps.size + b.cps.size)
 simp [PySem.Str.cps_append]
theorem rs38m0:True:=by
 k_with "@my len"=>(fail_if_success k_extra "e38");((try simp only [lenApp]);omega)
 k_with "@binaryOp Mod str int"=>(fail_if_success k_extra "e38");k_dflt (apply mod_d <;> (first | kpc_g | (intro _;intros)))
 k_with "@binaryOp Mod str ref"=>(fail_if_success k_extra "e38");k_dflt (((try dsimp only);apply mod_sd;kpc_g;k_mem;kpc_g;kpc_g;k_extra "@my len";(intro _;intros)))
 exact trivial
noncomputable def behindSign (sign:Str) (l:List Str):Str:=if l.isEmpty then Str.empty else sign++Txt.join "." l
noncomputable def VerOf.text (a:VerOf):Str:=(nums a.n0 a.n1 a.n2++behindSign "-" a.pre)++behindSign "+" a.bld
theorem bs_t {sign:Str} {l:List Str} {ps:List (Str × Tok)} {e:Bool} (h:ps.map (·.1)=l) (he:(strValues ps).isEmpty=!e) (z:e=true):behindSign sign l=sign++Txt.join "." l:=by
 refine byc fun b_=>?_
 subst h z
 refine b_ ?_;clear b_
 unfold behindSign
 cases ps with
 | nil=>cases he
 | cons a r=>rfl
theorem bs_f {sign:Str} {l:List Str} {ps:List (Str × Tok)} {e:Bool} (h:ps.map (·.1)=l) (he:(strValues ps).isEmpty=!e) (z:e=false):behindSign sign l=Str.empty:=by
 rw [pre_nil h (by rw [he,z])];rfl
theorem strPost {x y:Str} {t:Tok} (h:x=y):∃ t',Value.str x t=.str y t':=⟨t,by rw [h]⟩
theorem joinT {Q:Value→Shared→Prop} {E:Value→Shared→Prop} {h₀:Heap} {L a:Addr} {m:Str→Option Value} {l:List (Str × Tok)} {ys:List Str} {x:Str} {t:Tok} (F:Fr h₀ L s.heap m) (ha:h₀.get? a=some (tupO (strValues l))) (e:l.map (·.1)=ys) (hok:(ys.map (·.length)).sum + ys.length * x.length ≤ 16777216)
  (h:∀ t' k,Q (.str (Txt.join x ys) t') { s with toks:=k }):wpAny (model prog w) A (call (.builtin "str.join") [.str x t,.ref a]) Q E s :=
 join_tuple (items:=(strValues l).toArray) ⟨_,F.keep _ _ ha,rfl,_,rfl⟩ (by subst e;exact strsAre_of_values l) hok h
theorem rs38m1:True:=by
 k_with "@call builtin:str.join"=>(fail_if_success k_extra "e38");k_dflt (((try dsimp only);apply joinT) <;> (first | kpc_g | (intro _;intros)))
 exact trivial
noncomputable def JoinV (h₀:Heap) (L:Addr) (i j:Nat) (self:Value) (K:Flow→Shared→Prop) (sB:Shared) (P:Str→Prop):Prop:=∀ l h' tk x t,l.lookup i=some (.str x t)→l.lookup j=some self→Fr h₀ L h' (frm l)→P x→At K .next { sB with heap:=h',toks:=tk }
theorem joinV {h₀:Heap} {L:Addr} {i j:Nat} {self:Value} {K:Flow→Shared→Prop} {sB:Shared} {P:Str→Prop} {G:Prop} (J:JoinV h₀ L i j self K sB P) (g:JoinV h₀ L i j self K sB P→G):G:=g J
structure Sgn (a:VerOf) (x:Str):Prop where
 e:x=nums a.n0 a.n1 a.n2++behindSign "-" a.pre
 z:x.length ≤ 10100
theorem nums_le56 {a b c:Int} (L0:(Str.ofString (toString a)).length ≤ 18) (L1:(Str.ofString (toString b)).length ≤ 18) (L2:(Str.ofString (toString c)).length ≤ 18):(nums a b c).length ≤ 56:=by
 have Ld:(Str.ofString ".").length=1:=by decide
 unfold nums;simp only [lenApp];lia
theorem frm_sh {k:Nat} {a b:Value} {l:List (Nat × Value)}:frm ((k,a)::(k,b)::l)=frm ((k,a)::l):=funext fun y=>by
 unfold frm
 cases nix y with
 | none=>rfl
 | some i =>
  refine (?_:List.lookup i ((k,a)::(k,b)::l)=List.lookup i ((k,a)::l))
  rw [List.lookup_cons,List.lookup_cons,List.lookup_cons]
  cases i == k <;> rfl
theorem sgn_t {a:VerOf} {NN:Str} (eN:NN=nums a.n0 a.n1 a.n2) (B0:NN.length ≤ 56) (J1:(Txt.join "." a.pre).length ≤ 10000) (h:behindSign "-" a.pre="-"++Txt.join "." a.pre):Sgn a (Str.empty++NN++"-"++Txt.join "." a.pre):=by
 have Lm:(Str.ofString "-").length=1:=by decide
 refine ⟨by rw [h,eN];simp only [PySem.Str.empty_append,PySem.Str.append_assoc],?_⟩
 simp only [PySem.Str.empty_append,lenApp]
 exact Nat.le_trans (Nat.add_le_add (Nat.add_le_add_right B0 _) J1) (by decide)
theorem sgn_f {a:VerOf} {NN:Str} (eN:NN=nums a.n0 a.n1 a.n2) (B0:NN.length ≤ 56) (h:behindSign "-" a.pre=Str.empty):Sgn a NN:=⟨by rw [h,PySem.Str.append_empty];exact eN,Nat.le_trans B0 (by decide)⟩
theorem fin_t {a:VerOf} {x:Str} (e:x=nums a.n0 a.n1 a.n2++behindSign "-" a.pre) (h:behindSign "+" a.bld="+"++Txt.join "." a.bld):Str.empty++x++"+"++Txt.join "." a.bld=a.text:=by
 unfold VerOf.text;rw [h,e];simp only [PySem.Str.empty_append,PySem.Str.append_assoc]
theorem fin_f {a:VerOf} {x:Str} (e:x=nums a.n0 a.n1 a.n2++behindSign "-" a.pre) (h:behindSign "+" a.bld=Str.empty):x=a.text:=by
 unfold VerOf.text;rw [h,e,PySem.Str.append_empty]
theorem rs38m2:True:=by
 k_with "@exec If BoolOp"=>(fail_if_success k_extra "e38");apply unhold
 exact trivial
set_option maxHeartbeats 1500000 in
theorem ver_str {x:Addr} {a:VerOf} (X:(hd.heap_1 w.params).In s.heap) (T:Top p loose mean mg mb s.heap) (hx:Ver s.heap x a) (r:Rm A 6) (b0:0 ≤ a.n0) (b1:0 ≤ a.n1) (b2:0 ≤ a.n2) (c0:a.n0 < 10 ^ 18) (c1:a.n1 < 10 ^ 18) (c2:a.n2 < 10 ^ 18)
  (j1:(a.pre.map (·.length)).sum + a.pre.length * (Str.ofString ".").length ≤ 16777216) (j2:(a.bld.map (·.length)).sum + a.bld.length * (Str.ofString ".").length ≤ 16777216) (J1:(Txt.join "." a.pre).length ≤ 10000) (J2:(Txt.join "." a.bld).length ≤ 10000) :
  codeAny (model prog w) A (.call (.ref 320) ⟨[.ref x],[]⟩) (Ret s fun v _=>∃ t,v=.str a.text t) s:=by
 refine byc fun b_=>?_
 obtain ⟨pa,pb,_,_,_,_,_,_,la,lb,⟨_,_,_,_,_,_,_,_,_,_,_,_,_,_,_,_,_,I⟩,⟨ha,ea,za⟩,⟨hb,eb,zb⟩,K,_⟩:=hx
 have t1:(strValues la).length ≤ 1000:=svLen ea za
 have t2:(strValues lb).length ≤ 1000:=svLen eb zb
 have L0:(Str.ofString (toString a.n0)).length ≤ 18:=toString_length_le b0 (by decide) c0
 have L1:(Str.ofString (toString a.n1)).length ≤ 18:=toString_length_le b1 (by decide) c1
 have L2:(Str.ofString (toString a.n2)).length ≤ 18:=toString_length_le b2 (by decide) c2
 have Ld:(Str.ofString ".").length=1:=by decide
 have Lm:(Str.ofString "-").length=1:=by decide
 obtain ⟨e1,he1⟩:∃ e1,(strValues la).isEmpty=!e1:=⟨!(strValues la).isEmpty,(Bool.not_not _).symm⟩
 obtain ⟨e3,he3⟩:∃ e3,(strValues lb).isEmpty=!e3:=⟨!(strValues lb).isEmpty,(Bool.not_not _).symm⟩
 obtain ⟨hA,dA,fA,gA,uA⟩:=A
 obtain rfl:hA=none:=r.hand
 refine b_ ?_;clear b_
 have B0:=nums_le56 L0 L1 L2
 refine retK fun R hS hR=>?_
 apply enter (w:=w) [("self",.ref x)] [(11,.ref x)] X T
 walk_at "my enter"
 case hnm=>exact namesC nx_self (namesN)
 intro L h1 tk F N
 refine addLoc nx_self (by kernel_rfl!) ?_;intro n_self
 refine addLoc nx_version (by kernel_rfl!) ?_;intro n_version
 k_steps
 rename Flow→Shared→Prop=>K
 rename NxN _ _ _ _ _ _ _ _=>hK
 refine joinV (h₀:=s.heap) (L:=L) (i:=23) (j:=11) (self:=.ref x) (K:=K) (sB:=s) (P:=Sgn a) ?_ fun hJ=>?_
 ·intro l h' tk x1 t l23 l11 F sg
  have N:News s.heap L h' []:=News.nil
  have z:=sg.z
  k_steps
  rename Flow→Shared→Prop=>K
  rename NxN _ _ _ _ _ _ _ _=>hK
  refine joinV (h₀:=s.heap) (L:=L) (i:=23) (j:=11) (self:=.ref x) (K:=K) (sB:=s) (P:=(·=a.text)) ?_ fun hJ=>?_
  ·clear F N
   intro l h' tk x2 t l23 l11 F e
   have N:News s.heap L h' []:=News.nil
   k_steps
   rename Fr _ _ _ _=>F
   exact hR _ _ _ F.keep ⟨_,by rw [e]⟩
  ·clear hK
   refine (wpAny_If ?_:wpAny _ _ _ _ _ _)
   k_steps
   ·rename Fr _ _ _ _=>F
    exact hJ _ _ _ _ _ (by exact rfl) (by exact l11) F (fin_t sg.e (bs_t eb he3 (by with_reducible assumption)))
   ·exact hJ _ _ _ _ _ l23 l11 F (fin_f sg.e (bs_f eb he3 (by with_reducible assumption)))
 ·clear hK
  rename Fr _ _ _ _=>F
  refine byc fun b_=>?_
  obtain ⟨NN,eN⟩:∃ NN,NN=nums a.n0 a.n1 a.n2:=⟨_,rfl⟩
  refine b_ ?_;clear b_
  rw [frm_sh,frm_sh] at F
  replace F:Fr s.heap L _ (frm [(23,.str (nums a.n0 a.n1 a.n2) _),(11,.ref x)]):=F
  rw [← eN] at F B0
  rename News _ _ _ _=>N
  replace N:=News.sub (n₁:=[]) N (fun _ h=>absurd h List.not_mem_nil)
  clear L0 L1 L2
  refine (wpAny_If ?_:wpAny _ _ _ _ _ _)
  k_steps
  ·rename Fr _ _ _ _=>F
   exact hJ _ _ _ _ _ rfl rfl F (sgn_t eN B0 J1 (bs_t ea he1 (by with_reducible assumption)))
  ·rename Fr _ _ _ _=>F
   exact hJ _ _ _ _ _ rfl rfl F (sgn_f eN B0 (bs_f ea he1 (by with_reducible assumption)))
theorem rs38e:True:=by
 k_with "e38"=>skip
 exact trivial
inductive PartsAt (h:Heap) (x:Addr) (n0 n1 n2:Int) (tl:List Str):Prop
 | mk (t0 t1 t2 l ls k k':_) (cj1:h.get? x=some { cls:=.type "tuple",data:=.seq #[.int n0 t0,.int n1 t1,.int n2 t2,.ref l] k }) (cj2:h.get? l=some (listOf (strValues ls).toArray k')) (cj3:ls.map (·.1)=tl):PartsAt h x n0 n1 n2 tl
section
variable {Q:Value→Shared→Prop} {E:Value→Shared→Prop} {h₀:Heap} {L a b:Addr} {m:Str→Option Value} {news:List (Addr × Obj)}
theorem subT {value slice:Expr} {l:List Value} {n k:Nat} {i:Int} {u:Tok} {x:Value} (F:Fr h₀ L s.heap m) (ha:h₀.get? a=some { cls:=.type "tuple",data:=.seq l.toArray n }) (hi:0 ≤ i∧i < 1000) (hj:seqIndex? i l.length=some k) (hx:l[k]?=some x) (h:Q x s)
  (hs:subscripted slice false (.ref a) (.int i u)=operate [.ref a,.int i u] (getItem (.ref a) (.int i u)):=by with_unfolding_all rfl) (hg:∀ r,letTemporaryGo value (.ref a) r=pure ():=by intro _;with_unfolding_all rfl) :
  wpAny (model prog w) A (subscriptTail value slice (.ref a) (.int i u)) Q E s :=
 item_tupleL ⟨_,F.keep _ _ ha,rfl,_,rfl⟩ (by lia) (by lia) hj hx h hs hg
theorem joinL {l:List (Str × Tok)} {ys:List Str} {x:Str} {t:Tok} {n:Nat} (F:Fr h₀ L s.heap m) (ha:h₀.get? a=some (listOf (strValues l).toArray n)) (e:l.map (·.1)=ys) (hok:(ys.map (·.length)).sum + ys.length * x.length ≤ 16777216)
  (h:∀ t' k,Q (.str (Txt.join x ys) t') { s with toks:=k }):wpAny (model prog w) A (call (.builtin "str.join") [.str x t,.ref a]) Q E s :=
 join_list (items:=(strValues l).toArray) ⟨_,F.keep _ _ ha,rfl,_,rfl⟩ (by subst e;exact strsAre_of_values l) hok h
theorem truthyL {Q:Bool→Shared→Prop} {vs:List Value} {n:Nat} {e:Bool} (F:Fr h₀ L s.heap m) (ha:h₀.get? a=some (listOf vs.toArray n)) (hl:vs.length ≤ 1000) (hb:vs.isEmpty=!e) (h:∀ tk,Q e { s with toks:=tk }):wpAny (model prog w) A (truthy (.ref a)) Q E s:=by
 refine wpAny_truthy_list (items:=vs.toArray) ⟨_,F.keep _ _ ha,rfl,_,rfl⟩ (by simp only [List.size_toArray];lia) ?_
 have e:(!vs.toArray.isEmpty)=e:=by cases vs <;> cases e <;> simp_all
 rw [e];exact h _
end
theorem rs39m0:True:=by
 k_with "@truthy ref"=>(fail_if_success k_extra "e39");k_dflt (apply truthyL <;> (first | kpc_g | intro _))
 k_with "@subscriptTail Name Constant ref int"=>(fail_if_success k_extra "e39");k_dflt ((apply subT;kpc_g;kpc_g;decide;exact rfl;exact rfl))
 k_with "@call builtin:str.join"=>(fail_if_success k_extra "e39");k_dflt (((try dsimp only);apply joinL) <;> (first | kpc_g | (intro _;intros)))
 k_with "@binaryOp Mod str ref"=>(fail_if_success k_extra "e39");k_dflt (((try dsimp only);apply mod_ddd;kpc_g;k_mem;kpc_g;kpc_g;kpc_g;kpc_g;kpc_g;kpc_g;(intro _;intros)))
 exact trivial
set_option maxHeartbeats 1000000 in
theorem law_text {x:Addr} {n0 n1 n2:Int} {tl:List Str} (X:(hd.heap_1 w.params).In s.heap) (T:Top p loose mean mg mb s.heap) (hx:PartsAt s.heap x n0 n1 n2 tl) (r:Rm A 4)
  (h0:0 ≤ n0) (g0:n0 < 10 ^ 18) (h1:0 ≤ n1) (g1:n1 < 10 ^ 18) (h2:0 ≤ n2) (g2:n2 < 10 ^ 18) (j1:(tl.map (·.length)).sum + tl.length * (Str.ofString ".").length ≤ 16777216) (J1:(Txt.join "." tl).length ≤ 10000) (hz:tl.length ≤ 1000) :
  codeAny (model prog w) A (.call (.ref 431) ⟨[.ref x],[]⟩) (Ret s fun v _=>∃ t,v=.str (nums n0 n1 n2++behindSign "-" tl) t) s:=by
 refine byc fun b_=>?_
 obtain ⟨t0,t1,t2,l,ls,k,k',hx,hl,el⟩:=hx
 have t9:(strValues ls).length ≤ 1000:=svLen el hz
 obtain ⟨e1,he1⟩:∃ e1,(strValues ls).isEmpty=!e1:=⟨!(strValues ls).isEmpty,(Bool.not_not _).symm⟩
 refine b_ ?_;clear b_
 have L0:(Str.ofString (toString n0)).length ≤ 18:=toString_length_le h0 (by decide) g0
 have L1:(Str.ofString (toString n1)).length ≤ 18:=toString_length_le h1 (by decide) g1
 have L2:(Str.ofString (toString n2)).length ≤ 18:=toString_length_le h2 (by decide) g2
 have Ln:(nums n0 n1 n2).length ≤ 60:=by
  unfold nums
  simp only [lenApp]
  have:(Str.ofString ".").length=1:=by decide
  lia
 refine byc fun b_=>?_
 obtain ⟨hA,dA,fA,gA,uA⟩:=A
 obtain rfl:hA=none:=r.hand
 refine b_ ?_;clear b_
 apply enter (w:=w) [("parts",.ref x)] [(41,.ref x)] X T
 walk_at "my enter"
 case hnm=>exact namesC nx_parts (namesN)
 intro L h1 tk F N
 refine addLoc nx_parts (by kernel_rfl!) ?_;intro n_parts
 refine addLoc nx_text (by kernel_rfl!) ?_;intro n_text
 k_steps
 all_goals (try dsimp only)
 all_goals (refine ret_end (by with_reducible assumption) (strPost ?_))
 ·rw [bs_t el he1 (by with_reducible assumption),PySem.Str.append_assoc]
 ·rw [bs_f el he1 (by with_reducible assumption),PySem.Str.append_empty]
theorem rs39e:True:=by
 k_with "e39"=>skip
 exact trivial
noncomputable def lawSigns:Str:="-0123456789ABCDEFGHIJKLMNOPQRSTUVWXYZabcdefghijklmnopqrstuvwxyz"
theorem gk_law_signs (w:World):∃ tk,nsIn (hd.heap_1 w.params) mainGlobals "_law_signs"=some (some (.str lawSigns tk))∧(("_law_signs":Str) == ("__debug__":Str))=false:=⟨_,by k_is,by kernel_rfl!⟩
theorem addGlo1 {M:Model} {E:Value→Shared→Prop} {name:Str} {scope:Scope} {L a:Addr} {cd v:Value} {x:Str} {body:List Stmt} {Q:Flow→Shared→Prop} (hg:nsIn (hd.heap_1 w.params) mainGlobals x=some (some v)∧(x == ("__debug__":Str))=false) (hk:scope.names.lookup x=some .globalImplicit)
  (h:Glo w scope x v→wpAny M A (execs body (envOf name scope L a cd)) Q E s):wpAny M A (execs body (envOf name scope L a cd)) Q E s:=h ⟨hg.1,hk,hg.2⟩
noncomputable def wordGo:Nat→Nat→Str→Str
 | 0,_,w=>w
 | n + 1,r,w=>if r=0 then w else wordGo n (r / 63) (w++Txt.item lawSigns ((r:Int).fmod 63))
theorem wordGo_c (n r:Nat) (w:Str):wordGo (n + 1) r w=if r=0 then w else wordGo n (r / 63) (w++Txt.item lawSigns ((r:Int).fmod 63)):=rfl
noncomputable def lawWord (rest:Int):Str:=if rest.fmod 2=1 then Str.ofString (toString (rest.fdiv 2)) else
 if Txt.isdigit (wordGo 8 (rest.fdiv 2).toNat (Str.ofString "")) then wordGo 8 (rest.fdiv 2).toNat (Str.ofString "")++"-" else wordGo 8 (rest.fdiv 2).toNat (Str.ofString "")
theorem fdiv63 (n:Nat):((n:Int).fdiv 63)=((n / 63:Nat):Int):=by rw [Int.fdiv_eq_ediv_of_nonneg _ (by decide)];rfl
theorem wordGo_end {f k:Nat} {wd:Str} (h:¬ (0:Int) < (k:Int)):wordGo f k wd=wd:=by
 have:k=0:=Nat.eq_zero_of_not_pos fun q=>h (Int.ofNat_lt.mpr q)
 refine byc fun b_=>?_
 subst this
 refine b_ ?_;clear b_
 cases f <;> rfl
theorem rs40m0:True:=by
 k_with "@exec While"=>(fail_if_success k_extra "e40");apply unhold
 exact trivial
inductive LwI (s:Shared) (L:Addr) (k0:Nat) (n:Nat) (s':Shared):Prop
 | mk (h:Heap) (tk k:Nat) (t t':Tok) (wd:Str) (f:Nat) (l:List (Nat × Value)) (e1:s'={ s with heap:=h,toks:=tk }) (e2:n=k) (e3:k < 63 ^ f) (e4:wd.length + f ≤ 8) (e5:wordGo f k wd=wordGo 8 k0 (Str.ofString "")) (F:Fr s.heap L h (frm l)) (l1:l.lookup 24=some (.int (k:Nat) t)) (l2:l.lookup 36=some (.str wd t')):LwI s L k0 n s'
theorem law_word {rest:Int} {t1:Tok} (X:(hd.heap_1 w.params).In s.heap) (T:Top p loose mean mg mb s.heap) (r:Rm A 3) (h0:1 ≤ rest) (h1:rest ≤ 1000000000000) :
  codeAny (model prog w) A (.call (.ref 419) ⟨[.int rest t1],[]⟩) (Ret s fun v _=>∃ t,v=.str (lawWord rest) t) s:=by
 refine byc fun b_=>?_
 obtain ⟨tg,hg⟩:=gk_law_signs w
 refine b_ ?_;clear b_
 have HR1:=h0
 have HR2:=h1
 apply enter (w:=w) [("rest",.int rest t1)] [(24,.int rest t1)] X T
 walk_at "my enter"
 case hnm=>exact namesC nx_rest (namesN)
 intro L h1 tk F N
 refine addLoc nx_rest (by kernel_rfl!) ?_;intro n_rest
 refine addLoc nx_word (by kernel_rfl!) ?_;intro n_word
 refine addBlt (w:=w) bk_str (by kernel_rfl!) ?_;intro n_str
 refine addGlo1 (w:=w) hg (by kernel_rfl!) ?_;intro n_signs
 k_steps
 case h.h.refine_2.refine_1.h.h.refine_2=>(refine ret_end (by with_reducible assumption) (strPost ?_);unfold lawWord;rw [if_pos (by with_reducible assumption)])
 obtain ⟨k0,hk0⟩:∃ k0:Nat,rest.fdiv 2=k0:=Int.eq_ofNat_of_zero_le (by rw [Int.fdiv_eq_ediv_of_nonneg _ (by decide)];exact Int.ediv_nonneg (Int.le_trans (by decide) HR1) (by decide))
 have hb:k0 < 63 ^ 8:=by rw [Int.fdiv_eq_ediv_of_nonneg _ (by decide)] at hk0;exact Int.ofNat_lt.mp (Int.lt_of_le_of_lt (hk0 ▸ Int.ediv_le_self 2 (Int.le_trans (by decide) HR1)) (Int.lt_of_le_of_lt HR2 (by decide)))
 rename Fr _ _ _ _=>F0
 rw [hk0] at F0
 refine (?_:wpAny _ _ _ _ _ _)
 refine while_ (LwI s L k0) k0 ?_ ?_
 ·exact ⟨_,_,k0,_,_,_,8,_,rfl,rfl,hb,by decide,rfl,F0,rfl,rfl⟩
 ·clear F0
  rintro n s' pk0
  refine byc fun b_=>?_
  obtain ⟨h,tk,k,t,t',wd,f,l,rfl,rfl,hkf,hwf,hW,F,hl1,hl2⟩:=pk0
  refine b_ ?_;clear b_
  have N:News s.heap L h []:=News.nil
  k_steps
  all_goals (try dsimp only)
  ·rename Fr _ _ _ _=>F2
   rw [fdiv63] at F2
   have n0:n ≠ 0:=fun e=>by rename 0 < _=>q;rw [e] at q;exact absurd q (by decide)
   cases f with
   | zero=>exact absurd hkf (Nat.not_lt.mpr (Nat.pos_of_ne_zero n0))
   | succ f =>
    refine ⟨n / 63,Nat.div_lt_self (Nat.pos_of_ne_zero n0) (by decide),_,_,n / 63,_,_,_,f,_,rfl,rfl,?_,?_,?_,F2,rfl,rfl⟩
    ·rw [Nat.pow_succ,Nat.mul_comm] at hkf;exact Nat.div_lt_of_lt_mul hkf
    ·rw [lenApp]
     refine (?_:wd.length + 1 + f ≤ 8)
     rw [Nat.add_assoc,Nat.add_comm 1];exact hwf
    ·rw [← hW,wordGo_c,if_neg n0]
  all_goals (rw [wordGo_end (by with_reducible assumption)] at hW)
  all_goals (refine ret_end (by with_reducible assumption) (strPost ?_))
  all_goals (unfold lawWord;rw [if_neg (by with_reducible assumption),hk0,Int.toNat_natCast,← hW])
  ·rw [if_pos (by with_reducible assumption)]
  ·rw [if_neg (by rw [‹Txt.isdigit wd=false›];decide)]
theorem rs40e:True:=by
 k_with "e40"=>skip
 exact trivial
noncomputable def Iters (prog:Program) (w:World) (A:Around) (ax:Addr) (lo:Obj) (n:Nat) (P:Nat→Value→Prop):Prop :=
 ∀ (s:Shared) (E:Value→Shared→Prop) (Q:Value→Shared→Prop),s.heap.get? ax=some lo →
  (∀ St h' tk,Walks prog w A s.heap.objs.size [s.heap.objs.size,ax] [s.heap.objs.size] n P St→(∀ i h,St i h→∃ o,h.get? s.heap.objs.size=some o)→St 0 h'→h'.objs.size=s.heap.objs.size + 1→Grown s.heap h' →
   Q (.ref s.heap.objs.size) { s with heap:=h',toks:=tk })→wpAny (model prog w) A (pyIter (.ref ax)) Q E s
theorem iters_list {ax:Addr} {vs:List Value} {k:Nat} (hh:A.handled=none):Iters prog w A ax (listOf vs.toArray k) vs.length (fun i v=>vs[i]?=some v):=by
 intro s E Q ho h
 have hl:s.heap.IsList ax vs.toArray:=⟨_,ho,rfl,_,rfl⟩
 have hlt:ax < s.heap.objs.size:=Heap.lt_size ho
 refine wpAny_pyIter_list hl ?_
 have W:Walks prog w A s.heap.objs.size [s.heap.objs.size,ax] [s.heap.objs.size] vs.length (fun i v=>vs[i]?=some v) (fun i h=>h.IsListIter s.heap.objs.size ax i∧h.IsList ax vs.toArray):=by
  simpa using Walks.list (prog:=prog) (w:=w) hh s.heap.objs.size ax (Nat.ne_of_lt hlt) vs.toArray
 refine h _ _ s.toks W (fun i h' st=>?_) ⟨⟨_,Heap.get?_push_size _ rfl,rfl,rfl⟩,hl.at fun o e=>Heap.get?_push_of_some _ e⟩ (Heap.size_push ..) (fun b o e=>Heap.get?_push_of_some _ e)
 refine byc fun b_=>?_
 obtain ⟨⟨o,ho,_⟩,_⟩:=st
 refine b_ ?_;clear b_
 exact ⟨o,ho⟩
noncomputable def NsObj (C:Addr) (o:Obj) (m:Str→Option Value):Prop:=∀ h:Heap,h.get? C=some o→h.Ns C m
inductive CompTurn (s:Shared) (h₀:Heap) (L:Addr) (m:Str→Option Value) (I C D:Addr) (oI oC:Obj) (out:List Value) (nD:Nat) (J:List (Addr × Obj)→Array GenState→Prop) (s':Shared):Prop
 | mk (h' tk' g' news':_) (cj1:s'={ s with heap:=h',toks:=tk',gens:=g' }) (cj2:Fr h₀ L h' m) (cj3:News h₀ L h' ((I,oI)::(C,oC)::(D,listOf out.toArray nD)::news')) (cj4:(∀ p ∈ news',p.1 ≠ I∧p.1 ≠ C∧p.1 ≠ D)) (cj5:J news' g'):CompTurn s h₀ L m I C D oI oC out nD J s'
inductive CLI (s:Shared) (h₀:Heap) (L I C D:Addr) (m:Str→Option Value) (n:Nat) (St:Nat→Heap→Prop) (J:Nat→List Value→List (Addr × Obj)→Array GenState→Prop) (k:Nat) (s':Shared):Prop
 | mk (i:Nat) (out:List Value) (news:List (Addr × Obj)) (g:Array GenState) (h:Heap) (tk nD:Nat) (m':Str→Option Value) (e1:k=n + 1 - i) (hi:i ≤ n) (e2:s'={ s with heap:=h,toks:=tk,gens:=g }) (hst:St i h) (hns:h.Ns C m') (F:Fr h₀ L h m) (N:News h₀ L h ((D,listOf out.toArray nD)::news))
  (sep:∀ p ∈ news,p.1 ≠ I∧p.1 ≠ C∧p.1 ≠ D) (hJ:J i out news g) (hl:out.length ≤ i):CLI s h₀ L I C D m n St J k s'
noncomputable abbrev compTests (ifs:List Expr) (cenv:Env):Sem Bool:=forIn ifs true fun c r=>if r=true then do let ok ← isTrue c cenv (eval c cenv);pure (ForInStep.yield ok) else pure (ForInStep.yield r)
section
variable {h₀:Heap} {L:Addr} {m:Str→Option Value} {R:Result→Shared→Prop}
theorem comp_loop {elt iter:Expr} {x:Str} {px:Pos} {ifs:List Expr} {scope:Scope} {pos:Pos} {cenv:Env} {I ax D:Addr} {n:Nat} {P:Nat→Value→Prop} {St:Nat→Heap→Prop} {lo:Obj} {news₀:List (Addr × Obj)}
  (W:Walks prog w A I [I,ax] [I] n P St) (hobj:∀ i h,St i h→∃ o,h.get? I=some o) (hn1:n ≤ 1000)
  (hx:cenv.kindOf x=some .local) (hp:(cenv.scope.kind == .class || (cenv.scope.kind == .module && cenv.locals != cenv.globals))=false)
  (dDC:D ≠ cenv.locals) (dDI:D ≠ I) (dDx:D ≠ ax) (dCI:cenv.locals ≠ I) (dCx:cenv.locals ≠ ax) (lI:L ≠ I) (lC:L ≠ cenv.locals) (lD:L ≠ D) (zI:h₀.get? I=none) (zC:h₀.get? cenv.locals=none) (zD:h₀.get? D=none)
  (J:Nat→List Value→List (Addr × Obj)→Array GenState→Prop)
  (hax:∀ i out news h g,J i out news g→Fr h₀ L h m→News h₀ L h news→h.get? ax=some lo)
  (turn:∀ i v out news g oI oC nD h tk mC,i < n→P i v→out.length ≤ i→J i out news g→Fr h₀ L h m→News h₀ L h ((I,oI)::(cenv.locals,oC)::(D,listOf out.toArray nD)::news)→(∀ p ∈ news,p.1 ≠ I∧p.1 ≠ cenv.locals∧p.1 ≠ D)→NsObj cenv.locals oC mC→mC x=some v →
   wpAny (model prog w) A (compTests ifs cenv) (fun ok s₃=>if ok=true then wpAny (model prog w) A (eval elt cenv) (fun y s₄=>CompTurn s h₀ L m I cenv.locals D oI oC out nD (J (i + 1) (out++[y])) s₄) (fun _ _=>False) s₃
    else CompTurn s h₀ L m I cenv.locals D oI oC out nD (J (i + 1) out) s₃) (fun _ _=>False) { s with heap:=h,toks:=tk,gens:=g })
  (fin:∀ out news g h tk nD m',J n out news g→out.length ≤ n→Fr h₀ L h m→News h₀ L h ((D,listOf out.toArray nD)::news)→(∀ p ∈ news,p.1 ≠ I∧p.1 ≠ cenv.locals∧p.1 ≠ D)→h.Ns cenv.locals m'→R (.ok .next) { s with heap:=h,toks:=tk,gens:=g })
  {m₀:Str→Option Value} {s₁:Shared} (hs:∃ h tk g nD,s₁={ s with heap:=h,toks:=tk,gens:=g }∧St 0 h∧h.Ns cenv.locals m₀∧Fr h₀ L h m∧News h₀ L h ((D,listOf #[] nD)::news₀)∧J 0 [] news₀ g) (hsep:∀ p ∈ news₀,p.1 ≠ I∧p.1 ≠ cenv.locals∧p.1 ≠ D) :
  codeAny (model prog w) A (.compLoop (.ListComp elt [⟨.Name x px,iter,ifs,0⟩] scope pos) 0 (.ref I) (.ref D) cenv) R s₁:=by
 refine codeAny_compLoop_tests (CLI s h₀ L I cenv.locals D m n St J) ?_ (n + 1) ?_
 ·rintro k s' pk0
  refine byc fun b_=>?_
  obtain ⟨i,out,news,g,h,tk,nD,m',rfl,hi,rfl,hst,hns,F,N,sep,hJ,hlen⟩:=pk0
  refine b_ ?_;clear b_
  by_cases hlt:i < n
  ·refine W.item i _ _ _ hlt hst fun v h₁ tk₁ hPv hst₁ hk₁=>?_
   have k₁:∀ b o,b ≠ I→h.get? b=some o→h₁.get? b=some o:=fun b o hb e=>hk₁ b o (fun q=>hb (List.mem_singleton.mp q)) e
   refine wpAny_assign_Name (wpAny_storeName_local hx (hns.at' fun o e=>k₁ _ o dCI e) (fun h₂ hn₂ hs₂=>?_) hp)
   have k₂:∀ b o,b ≠ cenv.locals→b ≠ I→h.get? b=some o→h₂.get? b=some o:=fun b o hbC hbI e=>hs₂.extBut b o hbC (k₁ b o hbI e)
   have hst₂:St (i + 1) h₂:=W.frame _ _ _ hst₁ fun b hb o e=>hs₂.extBut b o (fun q=>by
    rcases List.mem_cons.mp hb with r | r
    ·exact dCI (q.symm.trans r)
    ·exact dCx (q.symm.trans (List.mem_singleton.mp r))) e
   have F₂:Fr h₀ L h₂ m:=⟨F.ns.at' fun o e=>k₂ _ o lC lI e,fun b o e=>k₂ b o (fun q=>by rw [q,zC] at e;cases e) (fun q=>by rw [q,zI] at e;cases e) (F.keep b o e),F.above⟩
   refine byc fun b_=>?_
   obtain ⟨oI,hoI⟩:=hobj _ _ hst₂
   refine b_ ?_;clear b_
   obtain ⟨oC,hoC⟩:∃ oC,h₂.get? cenv.locals=some oC:=by obtain ⟨o,_,_,ho,_⟩:=hn₂;exact ⟨o,ho⟩
   have N₂:News h₀ L h₂ ((I,oI)::(cenv.locals,oC)::(D,listOf out.toArray nD)::news) :=
    List.forall_mem_cons.mpr ⟨⟨hoI,lI.symm,zI⟩,List.forall_mem_cons.mpr ⟨⟨hoC,lC.symm,zC⟩,List.forall_mem_cons.mpr ⟨⟨k₂ _ _ dDC dDI (N _ mH).1,(N _ mH).2⟩,fun p hp=>⟨k₂ _ _ (sep p hp).2.1 (sep p hp).1 (N p (mT hp)).1,(N p (mT hp)).2⟩⟩⟩⟩
   have hNO:NsObj cenv.locals oC (fun y=>if y=x then some v else m' y):=fun h' e=>hn₂.at' fun o e'=>by rw [hoC] at e';cases e';exact e
   have back:∀ {h₄:Heap} {news':List (Addr × Obj)} {od:Obj},News h₀ L h₄ ((I,oI)::(cenv.locals,oC)::(D,od)::news')→St (i + 1) h₄∨¬ (h₄.get? ax=some lo):=fun {h₄ news' od} N₄=>by
    by_cases q:h₄.get? ax=some lo
    ·left
     refine W.frame _ _ _ hst₂ fun b hb o e=>?_
     rcases List.mem_cons.mp hb with r | r
     ·rw [r] at e ⊢;rw [hoI] at e;cases e;exact (N₄ _ (List.mem_cons_self ..)).1
     ·have r':=List.mem_singleton.mp r
      have hl:=hax i out news h₂ g hJ F₂ fun p hp=>N₂ p (List.mem_cons_of_mem _ (List.mem_cons_of_mem _ (List.mem_cons_of_mem _ hp)))
      rw [r'] at e ⊢;rw [hl] at e;cases e;exact q
    ·exact .inr q
   refine wpAny_mono (turn i v out news g oI oC nD h₂ _ _ hlt hPv hlen hJ F₂ N₂ sep hNO (by simp)) (fun ok s₃ h₃=>?_) fun _ _ e=>e.elim
   cases ok with
   | false =>
    simp -iota only [Bool.false_eq_true,if_false] at h₃ ⊢
    refine byc fun b_=>?_
    obtain ⟨h₄,tk₄,g₄,news₄,rfl,F₄,N₄,sep₄,hJ₄⟩:=h₃
    refine b_ ?_;clear b_
    have hl:=hax (i + 1) out news₄ h₄ g₄ hJ₄ F₄ fun p hp=>N₄ p (List.mem_cons_of_mem _ (List.mem_cons_of_mem _ (List.mem_cons_of_mem _ hp)))
    refine ⟨n + 1 - (i + 1),Nat.sub_lt_sub_left (Nat.lt_succ_of_lt hlt) (Nat.lt_succ_self i),i + 1,out,news₄,g₄,h₄,tk₄,nD,_,rfl,hlt,rfl,?_,hNO h₄ (N₄ _ (mT mH)).1,F₄,(fun p hp=>N₄ p (mT (mT hp))),sep₄,hJ₄,Nat.le_succ_of_le hlen⟩
    exact (back N₄).resolve_right fun q=>q hl
   | true =>
    simp -iota only [if_true] at h₃ ⊢
    refine wpAny_mono h₃ (fun y s₄ h₄=>?_) fun _ _ e=>e.elim
    refine byc fun b_=>?_
    obtain ⟨h₄,tk₄,g₄,news₄,rfl,F₄,N₄,sep₄,hJ₄⟩:=h₄
    refine b_ ?_;clear b_
    have hl:=hax (i + 1) _ news₄ h₄ g₄ hJ₄ F₄ fun p hp=>N₄ p (List.mem_cons_of_mem _ (List.mem_cons_of_mem _ (List.mem_cons_of_mem _ hp)))
    have hst₄:St (i + 1) h₄:=(back N₄).resolve_right fun q=>q hl
    have hD₄:h₄.PlainList D out.toArray:=⟨nD,(N₄ _ (List.mem_cons_of_mem _ (List.mem_cons_of_mem _ (List.mem_cons_self ..)))).1⟩
    refine wpAny_list_append_plain (hsz:=by rw [List.size_toArray,sizeLine_eq];exact Nat.le_trans hlen (Nat.le_trans (Nat.le_of_lt hlt) (Nat.le_trans hn1 (by decide)))) hD₄ fun h₅ hl₅ hs₅=>?_
    refine byc fun b_=>?_
    obtain ⟨n5,hl₅⟩:=hl₅
    refine b_ ?_;clear b_
    have hst₅:St (i + 1) h₅:=W.frame _ _ _ hst₄ fun b hb o e=>hs₅.extBut b o (fun q=>by
     rcases List.mem_cons.mp hb with r | r
     ·exact dDI (q.symm.trans r)
     ·exact dDx (q.symm.trans (List.mem_singleton.mp r))) e
    have N₅:News h₀ L h₅ ((D,listOf (out++[y]).toArray n5)::news₄):=List.forall_mem_cons.mpr ⟨⟨by rw [hl₅];simp,lD.symm,zD⟩,fun p hp=>⟨hs₅.extBut _ _ (sep₄ p hp).2.2 (N₄ p (mT (mT (mT hp)))).1,(N₄ p (mT (mT (mT hp)))).2⟩⟩
    have F₅:Fr h₀ L h₅ m:=⟨F₄.ns.at' fun o e=>hs₅.extBut _ o lD e,fun b o e=>hs₅.extBut b o (fun q=>by rw [q,zD] at e;cases e) (F₄.keep b o e),F₄.above⟩
    have hns₅:h₅.Ns cenv.locals (fun y=>if y=x then some v else m' y):=(hNO h₄ (N₄ _ (List.mem_cons_of_mem _ (List.mem_cons_self ..))).1).at' fun o e=>hs₅.extBut _ o dDC.symm e
    exact ⟨n + 1 - (i + 1),Nat.sub_lt_sub_left (Nat.lt_succ_of_lt hlt) (Nat.lt_succ_self i),i + 1,out++[y],news₄,g₄,h₅,tk₄,n5,_,rfl,hlt,rfl,hst₅,hns₅,F₅,N₅,sep₄,hJ₄,by rw [List.length_append];exact Nat.succ_le_succ hlen⟩
  ·have hin:i=n:=Nat.le_antisymm hi (Nat.le_of_not_lt hlt)
   refine byc fun b_=>?_
   subst hin
   refine b_ ?_;clear b_
   refine W.done _ _ _ hst fun h₁ tk₁ hk₁=>?_
   have k₁:∀ b o,b ≠ I→h.get? b=some o→h₁.get? b=some o:=fun b o hb e=>hk₁ b o (fun q=>hb (List.mem_singleton.mp q)) e
   refine fin out news g h₁ tk₁ nD m' hJ hlen ⟨F.ns.at' fun o e=>k₁ _ o lI e,fun b o e=>k₁ b o (fun q=>by rw [q,zI] at e;cases e) (F.keep b o e),F.above⟩ (List.forall_mem_cons.mpr ⟨⟨k₁ _ _ dDI (N _ mH).1,(N _ mH).2⟩,fun p hp=>⟨k₁ _ _ (sep p hp).1 (N p (mT hp)).1,(N p (mT hp)).2⟩⟩) sep (hns.at' fun o e=>k₁ _ o dCI e)
 ·refine byc fun b_=>?_
  obtain ⟨h,tk,g,nD,rfl,hst,hns,F,N,hJ⟩:=hs
  refine b_ ?_;clear b_
  exact ⟨0,[],news₀,g,h,tk,nD,m₀,rfl,Nat.zero_le _,rfl,hst,hns,F,N,hsep,hJ,Nat.le_refl _⟩
end
section
variable {h₀:Heap} {L:Addr} {m:Str→Option Value} {E:Value→Shared→Prop} {env:Env}
theorem ne_sz {a b:Addr} {n k:Nat} (h:@LT.lt Nat instLTNat a n) (e:@Eq Nat b (n + k)):a ≠ b:=fun q=>by
 rw [q] at h
 exact Nat.lt_irrefl _ (Nat.lt_of_le_of_lt (Nat.le_trans (Nat.le_add_right n k) (Nat.le_of_eq e.symm)) h)
theorem ne_szz {a b:Addr} {n j k:Nat} (h:@Eq Nat a (n + j)) (e:@Eq Nat b (n + k)) (hjk:j ≠ k):a ≠ b:=fun q=>by
 rw [q] at h
 have:=h.symm.trans e
 lia
theorem le_sz {b:Addr} {n k:Nat} (e:@Eq Nat b (n + k)):@LE.le Nat instLENat n b:=Nat.le_trans (Nat.le_add_right n k) (Nat.le_of_eq e.symm)
noncomputable def CompNext (prog:Program) (w:World) (A:Around) (elt:Expr) (x:Str) (px:Pos) (iter:Expr) (ifs:List Expr) (scope:Scope) (pos:Pos) (env:Env) (cl:List (Str × Addr)) (use:Option (Value→Sem Unit)) (Q:Value→Shared→Prop) (E:Value→Shared→Prop) (xv:Value) (s₁:Shared):Prop :=
 wpAny (model prog w) A (pyIter xv) (fun it s₂=>wpAny (model prog w) A (newList []) (fun acc s₃ =>
   wpAny (model prog w) A (newFunctionEnv scope env.globals cl [] env.qual none .none (some env)) (fun cenv s₄ =>
    codeAny (model prog w) A (.compStart (.ListComp elt [⟨.Name x px,iter,ifs,0⟩] scope pos) 0 it acc { cenv with scope:=relabel scope env }) (compPost (model prog w) A E use Q acc cenv.locals) s₄) E s₃) E s₂) E s₁
theorem comp_ev {elt iter:Expr} {x:Str} {px:Pos} {ifs:List Expr} {scope:Scope} {cl:List (Str × Addr)} {pos:Pos} {Q:Value→Shared→Prop} (hs:∀ x,foldedSetIterable iter env x=pure x) (hclos:closureFor scope env=pure cl)
  (hkind:scope.kind=.function) (hnames:∀ x ∈ scope.names,x.2=.local→scope.names.lookup x.1=some .local)
  (h:wpAny (model prog w) A (eval iter env) (fun xv s₁=>Hold (CompNext prog w A elt x px iter ifs scope pos env cl none Q E xv s₁)) E s) :
  wpAny (model prog w) A (eval (.ListComp elt [⟨.Name x px,iter,ifs,0⟩] scope pos) env) Q E s:=by
 rw [eval_ListComp]
 exact wpAny_comprehension_free (use:=none) rfl hs hclos hkind hnames h
set_option tactic.hygienic true in
theorem comp_as {elt iter:Expr} {x y:Str} {px py:Pos} {ifs:List Expr} {scope:Scope} {cl:List (Str × Addr)} {pos spos:Pos} {Q:Flow→Shared→Prop}
  (hsw:swapsWith (.ListComp elt [⟨.Name x px,iter,ifs,0⟩] scope pos) (some (.Name y py)) spos.line env=pure true) (hs:∀ x,foldedSetIterable iter env x=pure x) (hclos:closureFor scope env=pure cl)
  (hkind:scope.kind=.function) (hnames:∀ x ∈ scope.names,x.2=.local→scope.names.lookup x.1=some .local)
  (h:wpAny (model prog w) A (eval iter env) (fun xv s₁=>Hold (CompNext prog w A elt x px iter ifs scope pos env cl (some (assign (.Name y py) env)) (fun _ s'=>Q .next s') E xv s₁)) E s) :
  wpAny (model prog w) A (exec (.Assign [.Name y py] (.ListComp elt [⟨.Name x px,iter,ifs,0⟩] scope pos) spos) env) Q E s:=by
 rw [exec_Assign_Name_used _ _ _ _ hsw]
 refine wpAny_bind (wpAny_standAt (wpAny_bind ?_))
 refine (?_:wpAny _ A (do let _ ← comprehension (.ListComp elt [⟨.Name x px,iter,ifs,0⟩] scope pos) scope env _ (newList []) false (eval iter env) (some (assign (.Name y py) env))) _ _ s)
 exact wpAny_bind (wpAny_mono (wpAny_comprehension_free (use:=some (assign (.Name y py) env)) (Q:=fun _ s'=>Q .next s') rfl hs hclos hkind hnames h) (fun _ s' hq=>wpAny_pure (wpAny_pure hq)) fun _ _ e=>e)
theorem comp_block {elt iter:Expr} {x:Str} {px:Pos} {ifs:List Expr} {scope:Scope} {cl:List (Str × Addr)} {pos:Pos} {use:Option (Value→Sem Unit)} {Q:Value→Shared→Prop} {ax:Addr} {n:Nat} {P:Nat→Value→Prop} {lo:Obj} {news₀:List (Addr × Obj)}
  (It:Iters prog w A ax lo n P) (hn1:n ≤ 1000) (hcell:∀ y ∈ scope.names,y.2 ≠ .cell) (hkind:scope.kind=.function) (hx:scope.names.lookup x=some .local)
  (F:Fr h₀ L s.heap m) (N:News h₀ L s.heap news₀) (J:Nat→List Value→List (Addr × Obj)→Array GenState→Prop) (h0:J 0 [] news₀ s.gens)
  (hax:∀ i out news h g,J i out news g→Fr h₀ L h m→News h₀ L h news→h.get? ax=some lo)
  (turn:∀ I C D i v out news g oI oC nD h tk mC,i < n→P i v→out.length ≤ i→J i out news g→Fr h₀ L h m→News h₀ L h ((I,oI)::(C,oC)::(D,listOf out.toArray nD)::news)→(∀ p ∈ news,p.1 ≠ I∧p.1 ≠ C∧p.1 ≠ D)→NsObj C oC mC→mC x=some v →
   wpAny (model prog w) A (compTests ifs (compEnvC scope cl C env)) (fun ok s₃=>if ok=true then wpAny (model prog w) A (eval elt (compEnvC scope cl C env)) (fun y s₄=>CompTurn s h₀ L m I C D oI oC out nD (J (i + 1) (out++[y])) s₄) (fun _ _=>False) s₃
    else CompTurn s h₀ L m I C D oI oC out nD (J (i + 1) out) s₃) (fun _ _=>False) { s with heap:=h,toks:=tk,gens:=g })
  (fin:∀ C D out news g h tk nD m',J n out news g→out.length ≤ n→Fr h₀ L h m→News h₀ L h ((D,listOf out.toArray nD)::news)→(∀ p ∈ news,p.1 ≠ C∧p.1 ≠ D)→D ≠ C→L ≠ C→h₀.get? C=none→h.Ns C m' →
   compPost (model prog w) A E use Q (.ref D) C (.ok .next) { s with heap:=h,toks:=tk,gens:=g }) :
  CompNext prog w A elt x px iter ifs scope pos env cl use Q E (.ref ax) s:=by
 unfold CompNext
 have hlo:=hax 0 [] news₀ s.heap s.gens h0 F N
 have axlt:=Heap.lt_size hlo
 refine It s E _ hlo fun St h₂ tk₂ W hobj hst hsz k2=>?_
 refine byc fun b_=>?_
 obtain ⟨I,eI⟩:∃ I,I=s.heap.objs.size:=⟨_,rfl⟩
 refine b_ ?_;clear b_
 rw [← eI] at W hobj ⊢
 refine wpAny_newObj_type (wpAny_newFunctionEnv hcell (by intro y hy;simp at hy) (fun h₃ hns₃ hsb₃=>?_) hkind)
 dsimp only at hns₃ hsb₃ ⊢
 refine byc fun b_=>?_
 obtain ⟨D,eD⟩:∃ D,D=h₂.objs.size:=⟨_,rfl⟩
 refine b_ ?_;clear b_
 generalize hH:h₂.push { cls:=.type "list",dict:=none,data:=.seq ([]:List Value).toArray }=H at hns₃ hsb₃ ⊢
 have hHs:H.objs.size=h₂.objs.size + 1:=by rw [← hH,Heap.size_push]
 refine byc fun b_=>?_
 obtain ⟨C,eC⟩:∃ C,C=H.objs.size:=⟨_,rfl⟩
 refine b_ ?_;clear b_
 rw [← eC] at hns₃ hsb₃ ⊢
 rw [← eD]
 have eI':@Eq Nat I (s.heap.objs.size + 0):=eI
 have eD':@Eq Nat D (s.heap.objs.size + 1):=eD.trans hsz
 have eC':@Eq Nat C (s.heap.objs.size + 2):=eC.trans (hHs.trans (by rw [hsz]))
 have h2C:@Eq Nat C (h₂.objs.size + 1):=eC.trans hHs
 have k3:Grown h₂ h₃:=fun b o e=>hsb₃.extBut b o (ne_sz (Heap.lt_size e) h2C) (Heap.get?_push_of_some _ (hH ▸ Heap.get?_push_of_some _ e))
 have kk:Grown s.heap h₃:=fun b o e=>k3 b o (k2 b o e)
 have nw:∀ {b:Nat},s.heap.objs.size ≤ b→h₀.get? b=none:=fun {b} hb=>by
  cases e:h₀.get? b with
  | none=>rfl
  | some o=>exact absurd (Heap.lt_size (F.keep b o e)) (Nat.not_lt.mpr hb)
 have Llt:@LT.lt Nat instLTNat L s.heap.objs.size:=F.ns.lt
 have old:∀ p ∈ news₀,@LT.lt Nat instLTNat p.1 s.heap.objs.size:=fun p hp=>Heap.lt_size (N p hp).1
 have dDC:D ≠ C:=ne_szz eD' eC' (by decide)
 have hDl:h₃.get? D=some (listOf #[] 0):=hsb₃.extBut D _ dDC (Heap.get?_push_of_some _ (by rw [← hH,eD];exact Heap.get?_push_size _ rfl))
 have st3:St 0 h₃:=W.frame _ _ _ hst fun b _ o e=>k3 b o e
 have loop:∀ s₃:Shared,s₃={ s with heap:=h₃,toks:=tk₂ + ([]:List (Str × Value)).length } →
   codeAny (model prog w) A (.compLoop (.ListComp elt [⟨.Name x px,iter,ifs,0⟩] scope pos) 0 (.ref I) (.ref D) (compEnvC scope cl C env)) (compPost (model prog w) A E use Q (.ref D) C) s₃:=by
  rintro s₃ rfl
  refine comp_loop (s:=s) (h₀:=h₀) (L:=L) (m:=m) (cenv:=compEnvC scope cl C env) (news₀:=news₀) (m₀:=fun y=>List.lookup y ([]:List (Str × Value)).reverse) W hobj hn1 (lookup_relabel_local hx) (by simp -iota [compEnvC,relabel,hkind])
   dDC (ne_szz eD' eI' (by decide)) (ne_sz axlt eD').symm (ne_szz eC' eI' (by decide)) (ne_sz axlt eC').symm (ne_sz Llt eI') (ne_sz Llt eC') (ne_sz Llt eD')
   (nw (le_sz eI')) (nw (le_sz eC')) (nw (le_sz eD')) J hax (turn I C D) ?_ ⟨h₃,_,s.gens,0,rfl,st3,hns₃,F.keeps kk,?_,h0⟩ (fun p hp=>?_)
  ·intro out news g h tk nD m' hJ hl F' N' sep hn'
   exact fin C D out news g h tk nD m' hJ hl F' N' (fun p hp=>(sep p hp).2) dDC (ne_sz Llt eC') (nw (le_sz eC')) hn'
  ·intro p hp
   rcases List.mem_cons.mp hp with rfl | hp
   ·exact ⟨hDl,(ne_sz Llt eD').symm,nw (le_sz eD')⟩
   ·exact ⟨kk _ _ (N p hp).1,(N p hp).2⟩
  ·exact ⟨ne_sz (old p hp) eI',ne_sz (old p hp) eC',ne_sz (old p hp) eD'⟩
 exact codeAny_compStart_list (loop _ rfl) (W.self 0 _ _ _ st3 (loop _ rfl))
theorem comp_eval {elt iter:Expr} {x:Str} {px:Pos} {ifs:List Expr} {scope:Scope} {cl:List (Str × Addr)} {pos:Pos} {Q:Value→Shared→Prop} {ax:Addr} {n:Nat} {P:Nat→Value→Prop} {lo:Obj} {news₀:List (Addr × Obj)}
  (It:Iters prog w A ax lo n P) (hn1:n ≤ 1000) (hcell:∀ y ∈ scope.names,y.2 ≠ .cell) (hkind:scope.kind=.function) (hx:scope.names.lookup x=some .local)
  (F:Fr h₀ L s.heap m) (N:News h₀ L s.heap news₀) (J:Nat→List Value→List (Addr × Obj)→Array GenState→Prop) (h0:J 0 [] news₀ s.gens)
  (hax:∀ i out news h g,J i out news g→Fr h₀ L h m→News h₀ L h news→h.get? ax=some lo)
  (turn:∀ I C D i v out news g oI oC nD h tk mC,i < n→P i v→out.length ≤ i→J i out news g→Fr h₀ L h m→News h₀ L h ((I,oI)::(C,oC)::(D,listOf out.toArray nD)::news)→(∀ p ∈ news,p.1 ≠ I∧p.1 ≠ C∧p.1 ≠ D)→NsObj C oC mC→mC x=some v →
   wpAny (model prog w) A (compTests ifs (compEnvC scope cl C env)) (fun ok s₃=>if ok=true then wpAny (model prog w) A (eval elt (compEnvC scope cl C env)) (fun y s₄=>CompTurn s h₀ L m I C D oI oC out nD (J (i + 1) (out++[y])) s₄) (fun _ _=>False) s₃
    else CompTurn s h₀ L m I C D oI oC out nD (J (i + 1) out) s₃) (fun _ _=>False) { s with heap:=h,toks:=tk,gens:=g })
  (fin:∀ D out news g h tk nD,J n out news g→out.length ≤ n→Fr h₀ L h m→News h₀ L h ((D,listOf out.toArray nD)::news)→(∀ p ∈ news,p.1 ≠ D)→Q (.ref D) { s with heap:=h,toks:=tk,gens:=g }) :
  CompNext prog w A elt x px iter ifs scope pos env cl none Q E (.ref ax) s:=by
 refine comp_block It hn1 hcell hkind hx F N J h0 hax turn ?_
 intro C D out news g h tk nD m' hJ hl F' N' sep dDC lC zC hn'
 refine ⟨m',hn',fun h' hs'=>fin D out news g h' tk nD hJ hl ⟨F'.ns.at' fun o e=>hs'.extBut _ o lC e,fun b o e=>hs'.extBut b o (fun q=>by rw [q,zC] at e;cases e) (F'.keep b o e),F'.above⟩ (fun p hp=>?_) (fun p hp=>(sep p hp).2)⟩
 have b:=N' p hp
 refine ⟨hs'.extBut _ _ ?_ b.1,b.2⟩
 rcases List.mem_cons.mp hp with rfl | hp
 ·exact dDC
 ·exact (sep p hp).1
theorem comp_assign {elt iter:Expr} {x y:Str} {px py:Pos} {ifs:List Expr} {scope:Scope} {cl:List (Str × Addr)} {pos:Pos} {Q:Shared→Prop} {ax:Addr} {n k:Nat} {P:Nat→Value→Prop} {lo:Obj} {news₀:List (Addr × Obj)} {l:List (Nat × Value)}
  (hL:env.locals=L) (hy:env.kindOf y=some .local) (hp:(env.scope.kind == .class || (env.scope.kind == .module && env.locals != env.globals))=false) (hk:nix y=some k)
  (It:Iters prog w A ax lo n P) (hn1:n ≤ 1000) (hcell:∀ y ∈ scope.names,y.2 ≠ .cell) (hkind:scope.kind=.function) (hx:scope.names.lookup x=some .local)
  (F:Fr h₀ L s.heap (frm l)) (N:News h₀ L s.heap news₀) (J:Nat→List Value→List (Addr × Obj)→Array GenState→Prop) (h0:J 0 [] news₀ s.gens)
  (hax:∀ i out news h g,J i out news g→Fr h₀ L h (frm l)→News h₀ L h news→h.get? ax=some lo)
  (turn:∀ I C D i v out news g oI oC nD h tk mC,i < n→P i v→out.length ≤ i→J i out news g→Fr h₀ L h (frm l)→News h₀ L h ((I,oI)::(C,oC)::(D,listOf out.toArray nD)::news)→(∀ p ∈ news,p.1 ≠ I∧p.1 ≠ C∧p.1 ≠ D)→NsObj C oC mC→mC x=some v →
   wpAny (model prog w) A (compTests ifs (compEnvC scope cl C env)) (fun ok s₃=>if ok=true then wpAny (model prog w) A (eval elt (compEnvC scope cl C env)) (fun y s₄=>CompTurn s h₀ L (frm l) I C D oI oC out nD (J (i + 1) (out++[y])) s₄) (fun _ _=>False) s₃
    else CompTurn s h₀ L (frm l) I C D oI oC out nD (J (i + 1) out) s₃) (fun _ _=>False) { s with heap:=h,toks:=tk,gens:=g })
  (fin:∀ D out news g h tk nD,J n out news g→out.length ≤ n→Fr h₀ L h (frm ((k,.ref D)::l))→News h₀ L h ((D,listOf out.toArray nD)::news)→(∀ p ∈ news,p.1 ≠ D)→Q { s with heap:=h,toks:=tk,gens:=g }) :
  CompNext prog w A elt x px iter ifs scope pos env cl (some (assign (.Name y py) env)) (fun _ s'=>Q s') E (.ref ax) s:=by
 refine byc fun b_=>?_
 subst hL
 refine b_ ?_;clear b_
 refine comp_block It hn1 hcell hkind hx F N J h0 hax turn ?_
 intro C D out news g h tk nD m' hJ hl F' N' sep dDC lC zC hn'
 have lD:D ≠ env.locals:=(N' _ (List.mem_cons_self ..)).2.1
 refine (?_:wpAny (model prog w) A (assign (.Name y py) env (.ref D)) _ _ _)
 refine wpAny_assign_Name (wpAny_storeName_local hy F'.ns (fun h₂ hn₂ hs₂=>?_) hp)
 refine ⟨m',hn'.sameBut hs₂ lC.symm,fun h' hs'=>fin D out news g h' _ nD hJ hl ⟨?_,fun b o e=>hs'.extBut b o (fun q=>by rw [q,zC] at e;cases e) (hs₂.extBut b o (fun q=>Nat.lt_irrefl _ (Nat.lt_of_lt_of_le (q ▸ Heap.lt_size e) F'.above)) (F'.keep b o e)),F'.above⟩ (fun p hp=>?_) (fun p hp=>(sep p hp).2)⟩
 ·rw [← frm_push hk];exact hn₂.at' fun o e=>hs'.extBut _ o lC e
 ·have b:=N' p hp
  refine ⟨hs'.extBut _ _ ?_ (hs₂.extBut _ _ b.2.1 b.1),b.2⟩
  rcases List.mem_cons.mp hp with rfl | hp
  ·exact dDC
  ·exact (sep p hp).1
inductive JN {σ:Type} (nw:List (Addr × Obj)) (g0:Array GenState) (oF:Nat→σ→List Value) (R:Nat→σ→Prop) (i:Nat) (out:List Value) (news:List (Addr × Obj)) (g:Array GenState):Prop
 | mk (z:σ) (e1:oF i z=out) (e2:nw=news) (e3:g0=g) (h:R i z):JN nw g0 oF R i out news g
theorem comp_evalN {elt iter:Expr} {x:Str} {px:Pos} {ifs:List Expr} {scope:Scope} {cl:List (Str × Addr)} {pos:Pos} {Q:Value→Shared→Prop} {ax:Addr} {n:Nat} {P:Nat→Value→Prop} {lo:Obj} {nw:List (Addr × Obj)} {σ:Type}
  (It:Iters prog w A ax lo n P) (hn1:n ≤ 1000) (hcell:∀ y ∈ scope.names,y.2 ≠ .cell) (hkind:scope.kind=.function) (hx:scope.names.lookup x=some .local)
  (F:Fr h₀ L s.heap m) (N:News h₀ L s.heap nw) (oF:Nat→σ→List Value) (R:Nat→σ→Prop) (z0:σ) (o0:oF 0 z0=[]) (h0:R 0 z0)
  (hax:∀ h,Fr h₀ L h m→News h₀ L h nw→h.get? ax=some lo)
  (turn:∀ I C D i v z oI oC nD h tk mC,i < n→P i v→R i z→Fr h₀ L h m→News h₀ L h ((I,oI)::(C,oC)::(D,listOf (oF i z).toArray nD)::nw)→(∀ p ∈ nw,p.1 ≠ I∧p.1 ≠ C∧p.1 ≠ D)→NsObj C oC mC→mC x=some v →
   wpAny (model prog w) A (compTests ifs (compEnvC scope cl C env)) (fun ok s₃=>if ok=true then wpAny (model prog w) A (eval elt (compEnvC scope cl C env)) (fun y s₄=>CompTurn s h₀ L m I C D oI oC (oF i z) nD (JN nw s.gens oF R (i + 1) (oF i z++[y])) s₄) (fun _ _=>False) s₃
    else CompTurn s h₀ L m I C D oI oC (oF i z) nD (JN nw s.gens oF R (i + 1) (oF i z)) s₃) (fun _ _=>False) { s with heap:=h,toks:=tk })
  (fin:∀ D z h tk nD,R n z→Fr h₀ L h m→News h₀ L h ((D,listOf (oF n z).toArray nD)::nw)→(∀ p ∈ nw,p.1 ≠ D)→Q (.ref D) { s with heap:=h,toks:=tk }) :
  CompNext prog w A elt x px iter ifs scope pos env cl none Q E (.ref ax) s:=by
 refine comp_eval It hn1 hcell hkind hx F N (JN nw s.gens oF R) ⟨z0,o0,rfl,rfl,h0⟩ (fun i out news h g J F' N'=>?_) (fun I C D i v out news g oI oC nD h tk mC hi hP _ J F' N' sep hNO hv=>?_) fun D out news g h tk nD J _ F' N' sep=>?_
 ·obtain ⟨z,_,rfl,_,_⟩:=J;exact hax h F' N'
 ·obtain ⟨z,rfl,rfl,rfl,hz⟩:=J;exact turn I C D i v z oI oC nD h tk mC hi hP hz F' N' sep hNO hv
 ·obtain ⟨z,rfl,rfl,rfl,hz⟩:=J;exact fin D z h tk nD hz F' N' sep
theorem comp_assignN {elt iter:Expr} {x y:Str} {px py:Pos} {ifs:List Expr} {scope:Scope} {cl:List (Str × Addr)} {pos:Pos} {Q:Shared→Prop} {ax:Addr} {n k:Nat} {P:Nat→Value→Prop} {lo:Obj} {nw:List (Addr × Obj)} {σ:Type} {l:List (Nat × Value)}
  (hL:env.locals=L) (hy:env.kindOf y=some .local) (hp:(env.scope.kind == .class || (env.scope.kind == .module && env.locals != env.globals))=false) (hk:nix y=some k)
  (It:Iters prog w A ax lo n P) (hn1:n ≤ 1000) (hcell:∀ y ∈ scope.names,y.2 ≠ .cell) (hkind:scope.kind=.function) (hx:scope.names.lookup x=some .local)
  (F:Fr h₀ L s.heap (frm l)) (N:News h₀ L s.heap nw) (oF:Nat→σ→List Value) (R:Nat→σ→Prop) (z0:σ) (o0:oF 0 z0=[]) (h0:R 0 z0)
  (hax:∀ h,Fr h₀ L h (frm l)→News h₀ L h nw→h.get? ax=some lo)
  (turn:∀ I C D i v z oI oC nD h tk mC,i < n→P i v→R i z→Fr h₀ L h (frm l)→News h₀ L h ((I,oI)::(C,oC)::(D,listOf (oF i z).toArray nD)::nw)→(∀ p ∈ nw,p.1 ≠ I∧p.1 ≠ C∧p.1 ≠ D)→NsObj C oC mC→mC x=some v →
   wpAny (model prog w) A (compTests ifs (compEnvC scope cl C env)) (fun ok s₃=>if ok=true then wpAny (model prog w) A (eval elt (compEnvC scope cl C env)) (fun y s₄=>CompTurn s h₀ L (frm l) I C D oI oC (oF i z) nD (JN nw s.gens oF R (i + 1) (oF i z++[y])) s₄) (fun _ _=>False) s₃
    else CompTurn s h₀ L (frm l) I C D oI oC (oF i z) nD (JN nw s.gens oF R (i + 1) (oF i z)) s₃) (fun _ _=>False) { s with heap:=h,toks:=tk })
  (fin:∀ D z h tk nD,R n z→Fr h₀ L h (frm ((k,.ref D)::l))→News h₀ L h ((D,listOf (oF n z).toArray nD)::nw)→(∀ p ∈ nw,p.1 ≠ D)→Q { s with heap:=h,toks:=tk }) :
  CompNext prog w A elt x px iter ifs scope pos env cl (some (assign (.Name y py) env)) (fun _ s'=>Q s') E (.ref ax) s:=by
 refine comp_assign hL hy hp hk It hn1 hcell hkind hx F N (JN nw s.gens oF R) ⟨z0,o0,rfl,rfl,h0⟩ (fun i out news h g J F' N'=>?_) (fun I C D i v out news g oI oC nD h tk mC hi hP _ J F' N' sep hNO hv=>?_) fun D out news g h tk nD J _ F' N' sep=>?_
 ·obtain ⟨z,_,rfl,_,_⟩:=J;exact hax h F' N'
 ·obtain ⟨z,rfl,rfl,rfl,hz⟩:=J;exact turn I C D i v z oI oC nD h tk mC hi hP hz F' N' sep hNO hv
 ·obtain ⟨z,rfl,rfl,rfl,hz⟩:=J;exact fin D z h tk nD hz F' N' sep
end
section
variable {M:Model} {E:Value→Shared→Prop} {cenv:Env} {C:Addr} {oC:Obj} {mC:Str→Option Value} {x:Str} {pos:Pos} {v:Value} {Q:Value→Shared→Prop}
theorem ldC (hN:NsObj cenv.locals oC mC) (hg:s.heap.get? cenv.locals=some oC) (hv:mC x=some v) (h:Q v s) (hk:cenv.scope.kind=.function:=by with_unfolding_all rfl) (hl:cenv.kindOf x=some .local:=by with_unfolding_all rfl) (hd:(x == ("__debug__":Str))=false:=by decide) :
  wpAny M A (eval (.Name x pos) cenv) Q E s:=wpAny_Name (wpAny_loadName_local hk hl (hN _ hg) hv h) hd
theorem no_tests {cenv:Env} {Q:Bool→Shared→Prop} {E:Value→Shared→Prop} (h:Q true s):wpAny M A (compTests [] cenv) Q E s:=wpAny_pure h
theorem one_test {cenv:Env} {c:Expr} {Q:Bool→Shared→Prop} {E:Value→Shared→Prop} (h:wpAny M A (isTrue c cenv (eval c cenv)) Q E s):wpAny M A (compTests [c] cenv) Q E s:=by
 unfold compTests
 rw [List.forIn_cons]
 refine wpAny_bind ?_
 simp -iota only [if_true]
 refine wpAny_bind (wpAny_mono h (fun ok s' hq=>wpAny_pure ?_) fun _ _ e=>e)
 refine (?_:wpAny M A (forIn [] ok _) _ _ _)
 rw [List.forIn_nil]
 exact wpAny_pure hq
end
theorem compTurn_end {h₀:Heap} {L:Addr} {m:Str→Option Value} {I C D:Addr} {oI oC:Obj} {out:List Value} {nD:Nat} {J:List (Addr × Obj)→Array GenState→Prop} {h':Heap} {tk':Nat} {g':Array GenState} {news':List (Addr × Obj)}
  (F:Fr h₀ L h' m) (N:News h₀ L h' ((I,oI)::(C,oC)::(D,listOf out.toArray nD)::news')) (sep:∀ p ∈ news',p.1 ≠ I∧p.1 ≠ C∧p.1 ≠ D) (hJ:J news' g'):CompTurn s h₀ L m I C D oI oC out nD J { s with heap:=h',toks:=tk',gens:=g' } :=
 ⟨h',tk',g',news',rfl,F,N,sep,hJ⟩
theorem ex_led {h₀ h:Heap} {L:Addr} {l:List (Addr × Obj)} (N:News h₀ L h l):∃ nw,nw=l∧News h₀ L h nw:=⟨_,rfl,N⟩
theorem take_snoc {α:Type} {l:List α} {i:Nat} {v:α} (h:l[i]?=some v):l.take i++[v]=l.take (i + 1):=by rw [List.take_add_one,h];rfl
theorem rs41m0:True:=by
 k_with "@exec Assign cons ListComp"=>k_dflt ((apply comp_as;(with_unfolding_all rfl);k_extra "@my ju";(with_unfolding_all rfl);(with_unfolding_all rfl);decide))
 k_with "@eval ListComp"=>k_dflt ((apply comp_ev;k_extra "@my ju";(with_unfolding_all rfl);(with_unfolding_all rfl);decide))
 k_with "@my ju"=>(intro _;(with_unfolding_all rfl))
 exact trivial
theorem tl412 (w:World):∃ n,(hd.heap_1 w.params).lookup 412=some (listOf #[.ref 400,.ref 401,.ref 402,.ref 403,.ref 404,.ref 405,.ref 406,.ref 407,.ref 408,.ref 409,.ref 410,.ref 411] n):=⟨_,by k_is⟩
noncomputable def lawTails:List (List Str):=[[],[],[],["0"],["1"],["a"],["a","0"],["10"],["A"],["a","b"],["-"],["2"]]
inductive TextsIn (K:Frag) (a:Addr) (tl:List Str):Prop
 | mk (ls n:_) (cj1:K.lookup a=some (listOf (strValues ls).toArray n)) (cj2:ls.map (·.1)=tl):TextsIn K a tl
theorem lt12 {P:Nat→Prop} {i:Nat} (hi:i < 12) (h:∀ k ∈ [0,1,2,3,4,5,6,7,8,9,10,11],P k):P i:=h i ((by decide:∀ i:Fin 12,i.val ∈ [0,1,2,3,4,5,6,7,8,9,10,11]) ⟨i,hi⟩)
theorem alC {α:Type} {p:α→Prop} {x:α} {l:List α} (h1:p x) (h2:∀ q ∈ l,p q):∀ q ∈ x::l,p q:=List.forall_mem_cons.mpr ⟨h1,h2⟩
theorem al0 {α:Type} {p:α→Prop}:∀ q ∈ ([]:List α),p q:=fun _ h=>absurd h List.not_mem_nil
theorem ltL {P:Nat→Prop} {i n:Nat} (hi:i < n) (h:∀ k ∈ List.range n,P k):P i:=h i (List.mem_range.mpr hi)
theorem tl_at (w:World) (i:Nat) (hi:i < 12):TextsIn (hd.heap_1 w.params) (400 + i) (lawTails.getD i []) :=
 lt12 (P:=fun i=>TextsIn (hd.heap_1 w.params) (400 + i) (lawTails.getD i [])) hi (alC ⟨[],_,by k_is,rfl⟩ (alC ⟨[],_,by k_is,rfl⟩ (alC ⟨[],_,by k_is,rfl⟩ (alC ⟨[(_,_)],_,by k_is,rfl⟩ (alC ⟨[(_,_)],_,by k_is,rfl⟩ (alC ⟨[(_,_)],_,by k_is,rfl⟩
  (alC ⟨[(_,_),(_,_)],_,by k_is,rfl⟩ (alC ⟨[(_,_)],_,by k_is,rfl⟩ (alC ⟨[(_,_)],_,by k_is,rfl⟩ (alC ⟨[(_,_),(_,_)],_,by k_is,rfl⟩ (alC ⟨[(_,_)],_,by k_is,rfl⟩ (alC ⟨[(_,_)],_,by k_is,rfl⟩ al0))))))))))))
theorem tailsItem {value slice:Expr} {k:Int} {u:Tok} {Q:Value→Shared→Prop} {E:Value→Shared→Prop} {h₀:Heap} {L:Addr} {m:Str→Option Value} (F:Fr h₀ L s.heap m) (X:(hd.heap_1 w.params).In h₀) (h0:0 ≤ k) (h1:k < 12)
  (h:∀ a ls n,h₀.get? a=some (listOf (strValues ls).toArray n)→ls.map (·.1)=lawTails.getD k.toNat []→Q (.ref a) s)
  (hs:subscripted slice false (.ref 412) (.int k u)=operate [.ref 412,.int k u] (getItem (.ref 412) (.int k u)):=by with_unfolding_all rfl):wpAny (model prog w) A (subscriptTail value slice (.ref 412) (.int k u)) Q E s:=by
 refine byc fun b_=>?_
 obtain ⟨n,hn⟩:=tl412 w
 have hl:s.heap.IsList 412 #[.ref 400,.ref 401,.ref 402,.ref 403,.ref 404,.ref 405,.ref 406,.ref 407,.ref 408,.ref 409,.ref 410,.ref 411]:=⟨_,F.keep _ _ (X _ _ hn),rfl,_,rfl⟩
 obtain ⟨i,rfl⟩:=Int.eq_ofNat_of_zero_le h0
 have hi:i < 12:=Int.ofNat_lt.mp h1
 obtain ⟨ls,n',e1,e2⟩:=tl_at w i hi
 refine b_ ?_;clear b_
 refine tail_any hl.typeIs slot_list_getitem.lookup (wpAny_getItem_list hl h0 (Int.lt_trans h1 (by decide)) (x:=.ref (400 + i)) ?_ (h _ ls n' (X _ _ e1) e2)) hs
 rw [Int.toNat_natCast]
 exact lt12 (P:=fun i=>(#[.ref 400,.ref 401,.ref 402,.ref 403,.ref 404,.ref 405,.ref 406,.ref 407,.ref 408,.ref 409,.ref 410,.ref 411]:Array Value)[i]?=some (.ref (400 + i))) hi (alC rfl (alC rfl (alC rfl (alC rfl (alC rfl (alC rfl (alC rfl (alC rfl (alC rfl (alC rfl (alC rfl (alC rfl al0))))))))))))
inductive LawTail (tl:List Str):Prop
 | mk (i:Nat) (rs:List Int) (cj1:i < 12) (cj2:tl=lawTails.getD i []++rs.map lawWord) (cj3:(∀ r ∈ rs,1 ≤ r∧r ≤ 1000000000000)) (cj4:tl.length ≤ 4):LawTail tl
theorem fm {a:Int} (h:0 ≤ a) (n:Int) (hn:0 < n):0 ≤ a.fmod n∧a.fmod n < n:=by
 rw [Int.fmod_eq_emod_of_nonneg _ (Int.le_of_lt hn)]
 exact ⟨Int.emod_nonneg _ (Int.ne_of_gt hn),Int.emod_lt_of_pos _ hn⟩
theorem fd {a:Int} (h:0 ≤ a) (n:Int) (hn:0 < n):0 ≤ a.fdiv n:=by
 rw [Int.fdiv_eq_ediv_of_nonneg _ (Int.le_of_lt hn)]
 exact Int.ediv_nonneg h (Int.le_of_lt hn)
structure Nums (B:Int) (o:Obj):Prop where
 ex:∃ a b c ta tb tc n,o.cls=.type "list"∧o.data=.seq #[.int a ta,.int b tb,.int c tc] n∧(0 ≤ a∧a ≤ B)∧(0 ≤ b∧b ≤ B)∧(0 ≤ c∧c ≤ B)
section
variable {Q:Value→Shared→Prop} {E:Value→Shared→Prop} {h₀:Heap} {L l:Addr} {m:Str→Option Value} {news:List (Addr × Obj)} {o:Obj} {B k:Int} {u:Tok}
theorem numRead {value slice:Expr} (N:News h₀ L s.heap news) (hm:(l,o) ∈ news) (ho:Nums B o) (hk:0 ≤ k∧k < 3) (h:∀ x t,0 ≤ x∧x ≤ B→Q (.int x t) s)
  (hs:subscripted slice false (.ref l) (.int k u)=operate [.ref l,.int k u] (getItem (.ref l) (.int k u)):=by with_unfolding_all rfl):wpAny (model prog w) A (subscriptTail value slice (.ref l) (.int k u)) Q E s:=by
 refine byc fun b_=>?_
 obtain ⟨a,b,c,ta,tb,tc,n,hc,hd,h1,h2,h3⟩:=ho
 have hl:s.heap.IsList l #[.int a ta,.int b tb,.int c tc]:=⟨_,(N _ hm).1,hc,_,hd⟩
 obtain ⟨i,rfl⟩:=Int.eq_ofNat_of_zero_le hk.1
 refine b_ ?_;clear b_
 have hi:i < 3:=Int.ofNat_lt.mp hk.2
 rcases (by lia:i=0∨i=1∨i=2) with rfl | rfl | rfl
 ·exact tail_any hl.typeIs slot_list_getitem.lookup (wpAny_getItem_list hl hk.1 (Int.lt_trans hk.2 (by decide)) (x:=.int a ta) rfl (h _ _ h1)) hs
 ·exact tail_any hl.typeIs slot_list_getitem.lookup (wpAny_getItem_list hl hk.1 (Int.lt_trans hk.2 (by decide)) (x:=.int b tb) rfl (h _ _ h2)) hs
 ·exact tail_any hl.typeIs slot_list_getitem.lookup (wpAny_getItem_list hl hk.1 (Int.lt_trans hk.2 (by decide)) (x:=.int c tc) rfl (h _ _ h3)) hs
theorem numSet {B' y:Int} {t:Tok} {Q:Unit→Shared→Prop} (F:Fr h₀ L s.heap m) (N:News h₀ L s.heap ((l,o)::news)) (sep:∀ p ∈ news,p.1 ≠ l) (ho:Nums B o) (hk:0 ≤ k∧k < 3) (hy:0 ≤ y∧y ≤ B') (hB:B ≤ B')
  (h:∀ o' h',Nums B' o'→Fr h₀ L h' m→News h₀ L h' ((l,o')::news)→Q () { s with heap:=h' }):wpAny (model prog w) A (setItem (.ref l) (.int k u) (.int y t)) Q E s:=by
 refine byc fun b_=>?_
 obtain ⟨a,b,c,ta,tb,tc,n,hc,hd,h1,h2,h3⟩:=ho
 have bb:=N _ (List.mem_cons_self ..)
 have hl:s.heap.IsList l #[.int a ta,.int b tb,.int c tc]:=⟨_,bb.1,hc,_,hd⟩
 obtain ⟨i,rfl⟩:=Int.eq_ofNat_of_zero_le hk.1
 refine b_ ?_;clear b_
 have hi:i < 3:=Int.ofNat_lt.mp hk.2
 refine wpAny_setItem_list hl hk.1 (Int.lt_trans hk.2 (by decide)) hk.2 fun h' hl' hs=>?_
 refine byc fun b_=>?_
 obtain ⟨o',ho',hc',n',hd'⟩:=hl'
 refine b_ ?_;clear b_
 refine h o' h' ?_ (F.change hs bb.2.1 bb.2.2) fun p hp=>?_
 ·rcases (by lia:i=0∨i=1∨i=2) with rfl | rfl | rfl
  ·exact ⟨y,b,c,t,tb,tc,n',hc',hd',hy,⟨h2.1,Int.le_trans h2.2 hB⟩,⟨h3.1,Int.le_trans h3.2 hB⟩⟩
  ·exact ⟨a,y,c,ta,t,tc,n',hc',hd',⟨h1.1,Int.le_trans h1.2 hB⟩,hy,⟨h3.1,Int.le_trans h3.2 hB⟩⟩
  ·exact ⟨a,b,y,ta,tb,t,n',hc',hd',⟨h1.1,Int.le_trans h1.2 hB⟩,⟨h2.1,Int.le_trans h2.2 hB⟩,hy⟩
 ·revert p;refine List.forall_mem_cons.mpr ⟨?_,fun p hp=>?_⟩
  ·exact ⟨ho',bb.2⟩
  ·exact ⟨(hs.2 _ (sep p hp)).trans (N p (List.mem_cons_of_mem _ hp)).1,(N p (List.mem_cons_of_mem _ hp)).2⟩
theorem numAdd {x B a c:Int} (hx:0 ≤ x∧x ≤ B) (ha:0 ≤ a) (hc:0 < c) (hc2:c ≤ 1000000000000000):0 ≤ x + a.fmod c∧x + a.fmod c ≤ B + 1000000000000000:=by
 have:=fm ha c hc
 exact ⟨Int.add_nonneg hx.1 this.1,Int.add_le_add hx.2 (Int.le_trans (Int.le_of_lt this.2) hc2)⟩
theorem newsSwap {h:Heap} {x y:Addr × Obj} (N:News h₀ L h [x,y]):News h₀ L h [y,x]:=fun p hp=>N p (memSub hp (subC (mT mH) (subC mH al0)))
theorem ex_obj2 {h:Heap} {x:Addr × Obj} {a:Addr} {o:Obj} {r:List (Addr × Obj)} (N:News h₀ L h (x::(a,o)::r)):∃ o',o'=o∧News h₀ L h (x::(a,o')::r):=⟨_,rfl,N⟩
theorem appN {D:Addr} {its:Array Value} {n:Nat} {v:Value} (F:Fr h₀ L s.heap m) (N:News h₀ L s.heap ((D,listOf its n)::news)) (sep:∀ p ∈ news,p.1 ≠ D) (hz:its.size ≤ 1000)
  (h:∀ h' n',Fr h₀ L h' m→News h₀ L h' ((D,listOf (its.push v) n')::news)→Q .none { s with heap:=h' }):wpAny (model prog w) A (call (.builtin "list.append") [.ref D,v]) Q E s:=by
 have b:=N _ (List.mem_cons_self ..)
 refine wpAny_list_append_plain (hsz:=by rw [sizeLine_eq];exact Nat.le_trans hz (by decide)) ⟨n,b.1⟩ fun h' hl hs=>?_
 refine byc fun b_=>?_
 obtain ⟨n',hl⟩:=hl
 refine b_ ?_;clear b_
 refine h h' n' (F.change hs b.2.1 b.2.2) fun p hp=>?_
 revert p;refine List.forall_mem_cons.mpr ⟨?_,fun p hp=>?_⟩
 ·exact ⟨hl,b.2⟩
 ·exact ⟨(hs.2 _ (sep p hp)).trans (N p (List.mem_cons_of_mem _ hp)).1,(N p (List.mem_cons_of_mem _ hp)).2⟩
end
theorem tails4 (i:Nat):(lawTails.getD i []).length ≤ 4:=(Nat.lt_or_ge i 12).elim (fun h=>(by decide:∀ j:Fin 12,(lawTails.getD j.val []).length ≤ 4) ⟨i,h⟩) fun h=>by rw [List.getD_eq_getElem?_getD,List.getElem?_eq_none h];exact Nat.zero_le _
theorem sv_size (ws:List (Str × Tok)):(strValues ws).toArray.size=ws.length:=by rw [List.size_toArray,strValues,List.length_map]
theorem sv_push {ws:List (Str × Tok)} {w:Str} {t:Tok}:(strValues ws).toArray.push (.str w t)=(strValues (ws++[(w,t)])).toArray:=by
 simp [strValues]
section
variable {Q:Value→Shared→Prop} {E:Value→Shared→Prop} {h₀:Heap} {L:Addr} {m:Str→Option Value} {news:List (Addr × Obj)}
theorem wordF {a:Int} {t1:Tok} (F:Fr h₀ L s.heap m) (N:News h₀ L s.heap news) (X:(hd.heap_1 w.params).In h₀) (T:Top p loose mean mg mb h₀) (r:Rm A 3) (ha:0 ≤ a)
  (h:∀ t h' tk,Fr h₀ L h' m→News h₀ L h' news→Q (.str (lawWord (a.fmod 1000000000000 + 1)) t) { s with heap:=h',toks:=tk }):wpAny (model prog w) A (call (.ref 419) [.int (a.fmod 1000000000000 + 1) t1]) Q E s:=by
 have b:=fm ha 1000000000000 (by decide)
 exact useF F N (law_word (X.keeps F.keep) (T.keeps F.keep) r (Int.lt_add_one_of_le b.1) b.2) fun v h' tk F' N' pk0=>by obtain ⟨t,e⟩:=pk0;subst e;exact h t h' tk F' N'
end
inductive PartsNew (v:Value) (q:Heap):Prop
 | mk (x n0 n1 n2 tl:_) (cj1:v=.ref x) (cj2:PartsAt q x n0 n1 n2 tl) (cj3:(0 ≤ n0∧n0 < 10 ^ 18)) (cj4:(0 ≤ n1∧n1 < 10 ^ 18)) (cj5:(0 ≤ n2∧n2 < 10 ^ 18)) (cj6:LawTail tl):PartsNew v q
theorem partsEnd {h h':Heap} {L D x:Addr} {news:List (Addr × Obj)} {n0 n1 n2 B:Int} {t0 t1 t2:Tok} {ls:List (Str × Tok)} {nD:Nat} (N:News h L h' news) (m1:(x,{ cls:=.type "tuple",data:=.seq #[.int n0 t0,.int n1 t1,.int n2 t2,.ref D] }) ∈ news) (m2:(D,W.listOf (strValues ls).toArray nD) ∈ news)
  (b0:0 ≤ n0∧n0 ≤ B) (b1:0 ≤ n1∧n1 ≤ B) (b2:0 ≤ n2∧n2 ≤ B) (hB:B < 10 ^ 18) (hl:LawTail (ls.map (·.1))):PartsNew (.ref x) (part h h') :=
 ⟨x,n0,n1,n2,_,rfl,⟨t0,t1,t2,D,ls,_,_,part_get (N _ m1).1 (N _ m1).2.2,part_get (N _ m2).1 (N _ m2).2.2,rfl⟩,⟨b0.1,Int.lt_of_le_of_lt b0.2 hB⟩,⟨b1.1,Int.lt_of_le_of_lt b1.2 hB⟩,⟨b2.1,Int.lt_of_le_of_lt b2.2 hB⟩,hl⟩
theorem rs42m0:True:=by
 k_with "@exec While"=>(fail_if_success k_extra "e42");apply unhold
 k_with "@my idx"=>(fail_if_success k_extra "e42");first | kpc_g | (apply fm;k_extra "@my idx0";decide) | decide
 k_with "@my idx0"=>(fail_if_success k_extra "e42");first | kpc_g | (apply Int.add_nonneg;kpc_g;decide)
 k_with "@subscriptTail"=>(fail_if_success k_extra "e42");k_dflt (first | (apply numRead;kpc_g;k_mem;kpc_g;k_extra "@my idx";intro _;intro _;intro _) | apply unhold)
 k_with "@my nn"=>(fail_if_success k_extra "e42");first | kpc_g | (apply fd;k_extra "@my nn";decide)
 k_with "@binaryOp Pow int int"=>(fail_if_success k_extra "e42");((with_reducible apply pow_int_small);decide;decide;decide)
 k_with "@setItem ref int"=>(fail_if_success k_extra "e42");(apply numSet;kpc_g;kpc_g;kpc_g;kpc_g;k_extra "@my idx";apply numAdd;kpc_g;k_extra "@my nn";decide;decide;apply Int.le_add_of_nonneg_right;decide;(intro _;intros;k_sweep))
 k_with "@call builtin:len"=>(fail_if_success k_extra "e42");k_dflt (apply lenN <;> (first | kpc_g | k_mem | (intro _;intros)))
 k_with "@call builtin:list.append"=>(fail_if_success k_extra "e42");(apply appN;kpc_g;apply newsSwap;kpc_g;apply_assumption;kpc_g;(intro _;intros;k_sweep))
 k_with "@call ref"=>(fail_if_success k_extra "e42");k_dflt (((try dsimp only);apply wordF) <;> (first | kpc_g | k_extra "@my rmd" | k_extra "@my nn" | (intro _;intros;k_sweep)))
 exact trivial
inductive LpI (s:Shared) (L ln D:Addr) (kd:Int) (n:Nat) (s':Shared):Prop
 | mk (h:Heap) (tk:Nat) (rr:Int) (t t':Tok) (ws:List (Str × Tok)) (nD:Nat) (on:Obj) (l:List (Nat × Value)) (rs:List Int) (e1:s'={ s with heap:=h,toks:=tk }) (e2:n=4 - ws.length) (z:0 ≤ rr) (hw:ws.length ≤ 4) (hrs:ws.map (·.1)=lawTails.getD kd.toNat []++rs.map lawWord) (hrb:∀ r ∈ rs,1 ≤ r∧r ≤ 1000000000000)
  (hO:Nums (2 + 1000000000000000 + 1000000000000000) on) (F:Fr s.heap L h (frm l)) (N:News s.heap L h [(ln,on),(D,W.listOf (strValues ws).toArray nD)]) (l1:l.lookup 24=some (.int rr t)) (l2:l.lookup 40=some (.ref D)) (l3:l.lookup 39=some (.ref ln)) (l4:l.lookup 38=some (.int kd t')):LpI s L ln D kd n s'
theorem law_parts {number:Int} {t1:Tok} (X:(hd.heap_1 w.params).In s.heap) (T:Top p loose mean mg mb s.heap) (r:Rm A 5) :
  codeAny (model prog w) A (.call (.ref 424) ⟨[.int number t1],[]⟩) (Ret s fun v h'=>PartsNew v (part s.heap h')) s:=by
 refine byc fun b_=>?_
 obtain ⟨hA,dA,fA,gA,uA⟩:=A
 obtain rfl:hA=none:=r.hand
 refine b_ ?_;clear b_
 refine retK fun R hS hR=>?_
 apply enter (w:=w) [("number",.int number t1)] [(37,.int number t1)] X T
 walk_at "my enter"
 case hnm=>exact namesC nx_number (namesN)
 intro L h1 tk F N
 refine addLoc nx_number (by kernel_rfl!) ?_;intro n_number
 refine addLoc nx_kind (by kernel_rfl!) ?_;intro n_kind
 refine addLoc nx_rest (by kernel_rfl!) ?_;intro n_rest
 refine addLoc nx_numbers (by kernel_rfl!) ?_;intro n_numbers
 refine addLoc nx_tail (by kernel_rfl!) ?_;intro n_tail
 refine addGlo (w:=w) gk_law_word (by kernel_rfl!) ?_;intro n_law_word
 refine addBlt (w:=w) bk_abs (by kernel_rfl!) ?_;intro n_abs
 refine addBlt (w:=w) bk_len (by kernel_rfl!) ?_;intro n_len
 k_steps
 rename Fr _ _ _ _=>F
 rename News _ _ _ _=>N
 obtain ⟨ln,F,N⟩:∃ ln,Fr s.heap L _ (frm ((24,_)::(39,.ref ln)::_))∧News s.heap L _ [(ln,_)]:=⟨_,F,N⟩
 refine byc fun b_=>?_
 obtain ⟨nn,hnn⟩:∃ nn,nn=(if number < 0 then -number else number):=⟨_,rfl⟩
 refine b_ ?_;clear b_
 rw [← hnn] at F N ⊢
 have z0:0 ≤ nn:=by
  rw [hnn]
  by_cases q:number < 0
  ·rw [if_pos q];exact Int.neg_nonneg_of_nonpos (Int.le_of_lt q)
  ·rw [if_neg q];exact Int.not_lt.mp q
 clear hnn
 refine byc fun b_=>?_
 obtain ⟨kd,ekd⟩:∃ kd,kd=nn.fmod 12:=⟨_,rfl⟩
 obtain ⟨rs,ers⟩:∃ rs,rs=nn.fdiv 12:=⟨_,rfl⟩
 refine b_ ?_;clear b_
 rw [← ekd,← ers] at F
 rw [← ers] at N
 rw [← ekd]
 have z1:=fm z0 12 (by decide)
 rw [← ekd] at z1
 have z2:=fd z0 12 (by decide)
 rw [← ers] at z2
 refine byc fun b_=>?_
 obtain ⟨na,ena⟩:∃ na,na=(rs.fdiv 9).fmod 3:=⟨_,rfl⟩
 obtain ⟨nb,enb⟩:∃ nb,nb=(rs.fdiv 3).fmod 3:=⟨_,rfl⟩
 obtain ⟨nc,enc⟩:∃ nc,nc=rs.fmod 3:=⟨_,rfl⟩
 obtain ⟨rt,ert⟩:∃ rt,rt=rs.fdiv 27:=⟨_,rfl⟩
 refine b_ ?_;clear b_
 rw [← ert] at F
 rw [← ena,← enb,← enc] at N
 have z3:=fm (fd z2 9 (by decide)) 3 (by decide)
 have z4:=fm (fd z2 3 (by decide)) 3 (by decide)
 have z5:=fm z2 3 (by decide)
 have z6:=fd z2 27 (by decide)
 rw [← ert] at z6
 rw [← ena] at z3
 rw [← enb] at z4
 rw [← enc] at z5
 clear ena enb enc ert ers ekd z0 z2
 show wpAny _ _ _ _ _ _
 refine tailsItem F X z1.1 z1.2 fun a ls n ha hls=>?_
 refine byc fun b_=>?_
 obtain ⟨nw,enw,N⟩:=ex_led N
 refine b_ ?_;clear b_
 show CompNext _ _ _ _ _ _ _ _ _ _ _ _ _ _ _ _ _
 refine' comp_assignN (L:=L) ?e1 ?e2 ?e3 nx_tail (iters_list (vs:=strValues ls) (k:=n) ?hh) ?n1 ?cell ?e4 ?e5 ?F ?N (fun i _=>(strValues ls).take i) (fun _ _=>True) () rfl trivial ?hax ?turn ?fin
 case e1=>rfl
 case e2=>rfl
 case e3=>rfl
 case e4=>rfl
 case e5=>rfl
 case hh=>rfl
 case F=>exact F
 case N=>exact N
 case n1 =>
  rw [strValues,List.length_map,← List.length_map (f:=(·.1)),hls]
  exact Nat.le_trans (tails4 _) (by decide)
 case cell=>decide
 case hax=>exact fun h F' _=>F'.keep _ _ ha
 case turn =>
  intro I C D i v _ oI oC nD h tk mC hi hP _ F' N' sep hNO hv
  refine no_tests ?_
  simp only [if_true]
  refine ldC (cenv:=compEnvC _ _ C _) hNO (News.get N' (List.mem_cons_of_mem _ (List.mem_cons_self ..))) hv ?_
  exact compTurn_end F' N' sep ⟨(),(take_snoc hP).symm,rfl,rfl,trivial⟩
 case fin =>
  intro D _ h tk nD _ F' N' sep
  refine byc fun b_=>?_
  subst enw
  refine b_ ?_;clear b_
  rw [List.take_length] at N'
  clear F N
  have sD:∀ p ∈ [(D,W.listOf (strValues ls).toArray nD)],p.1 ≠ ln:=fun p hp=>by rw [List.mem_singleton.mp hp];exact (sep _ (List.mem_cons_self ..)).symm
  refine byc fun b_=>?_
  obtain ⟨on,eon,N'⟩:=ex_obj2 N'
  refine b_ ?_;clear b_
  have hO:Nums 2 on:=⟨na,nb,nc,_,_,_,_,by rw [eon],by rw [eon],⟨z3.1,Int.le_of_lt_add_one z3.2⟩,⟨z4.1,Int.le_of_lt_add_one z4.2⟩,⟨z5.1,Int.le_of_lt_add_one z5.2⟩⟩
  have kd0:=z1.1
  have kd12:kd.toNat < 12:=(Int.toNat_lt z1.1).mpr z1.2
  clear eon sep
  have N':=newsSwap N'
  dsimp only
  by_cases hk3:kd < 3
  ·have hk0:0 ≤ kd∧kd < 3:=⟨z1.1,hk3⟩
   k_steps
   rename News _ _ _ _=>N
   refine hR _ _ _ (Fr.keep (by with_reducible assumption)) (partsEnd N (List.mem_cons_self ..) (List.mem_cons_of_mem _ (List.mem_cons_of_mem _ (List.mem_cons_self ..))) (by with_reducible assumption) (by with_reducible assumption) (by with_reducible assumption) (by decide) ⟨kd.toNat,[],kd12,?_,fun _ h=>(nomatch h),?_⟩)
   ·rw [hls];simp
   ·rw [hls];exact tails4 _
  ·have sL:∀ o:Obj,∀ p ∈ [(ln,o)],p.1 ≠ D:=fun o p hp=>by rw [List.mem_singleton.mp hp];exact (sD _ (List.mem_cons_self ..)).symm
   k_steps
   rename Fr _ _ _ _=>F2
   rename News _ _ _ _=>N2
   rename Nums _ _=>hB
   show wpAny _ _ _ _ _ _
   refine while_ (LpI s L ln D kd) (4 - ls.length) ?_ ?_
   ·exact ⟨_,_,_,_,_,ls,_,_,_,[],rfl,rfl,fd (fd z6 _ (by decide)) _ (by decide),by rw [← List.length_map (f:=(·.1)),hls];exact tails4 _,hls.trans (List.append_nil _).symm,al0,hB,F2,N2,rfl,rfl,rfl,rfl⟩
   ·clear F2 N2 hB hO sD ha
    rintro n' s' pk0
    refine byc fun b_=>?_
    obtain ⟨h,tk,rr,t,t',ws,nD',on',l,rs',rfl,rfl,z7,hw,hrs,hrb,hO,F,N,l1,l2,l3,l4⟩:=pk0
    refine b_ ?_;clear b_
    have sD:∀ p ∈ [(D,W.listOf (strValues ws).toArray nD')],p.1 ≠ ln:=fun p hp=>by rw [List.mem_singleton.mp hp];exact (sL on _ (List.mem_cons_self ..)).symm
    have hz:(strValues ws).toArray.size ≤ 1000:=by rw [sv_size];exact Nat.le_trans hw (by decide)
    k_steps
    ·rename Fr _ _ _ _=>F3
     rename News _ _ _ _=>N3
     rename _ < _=>h4
     rw [sv_size] at h4
     rw [sv_push] at N3
     have h4:=Int.ofNat_lt.mp h4
     exact ⟨4 - (ws.length + 1),Nat.sub_lt_sub_left h4 (Nat.lt_succ_self _),_,_,_,_,t',_,_,on',_,rs'++[rr.fmod 1000000000000 + 1],rfl,by rw [List.length_append];rfl,fd z7 _ (by decide),by rw [List.length_append];exact h4,
      by rw [List.map_append,List.map_append,hrs,List.append_assoc];rfl,fun r hr=>by
       rcases List.mem_append.mp hr with hr | hr
       ·exact hrb r hr
       ·rw [List.mem_singleton.mp hr];exact ⟨Int.lt_add_one_of_le (fm z7 1000000000000 (by decide)).1,(fm z7 1000000000000 (by decide)).2⟩,hO,F3,newsSwap N3,rfl,by exact l2,by exact l3,by exact l4⟩
    all_goals
     rename News _ _ _ _=>N3
     exact hR _ _ _ (Fr.keep (by with_reducible assumption)) (partsEnd N3 (List.mem_cons_self ..) (List.mem_cons_of_mem _ (List.mem_cons_of_mem _ (List.mem_cons_self ..))) (by with_reducible assumption) (by with_reducible assumption) (by with_reducible assumption) (by decide)
      ⟨kd.toNat,rs',kd12,hrs,hrb,by rw [List.length_map];exact hw⟩)
theorem rs42e:True:=by
 k_with "e42"=>skip
 exact trivial
section sorting
noncomputable def kasRun {α:Type} (ans:Nat→Nat→Bool):KasT α→α
 | .ret a=>a
 | .ask i j k=>kasRun ans (k (ans i j))
noncomputable def permB (n:Nat) (p:Array Nat):Bool:=p.toList.isPerm (List.range n)
theorem permB_perm {n:Nat} {p:Array Nat} (h:permB n p=true):p.toList.Perm (List.range n):=List.isPerm_iff.mp h
noncomputable def reachS (es:List (Nat × Nat)):Nat→List Nat→List Nat
 | 0,S=>S
 | k + 1,S=>reachS es k (S++es.filterMap fun e=>if S.contains e.1 && !S.contains e.2 then some e.2 else none)
noncomputable def chainB (es:List (Nat × Nat)):List Nat→Bool
 | x::y::r=>(reachS es 4 [x]).contains y && chainB es (y::r)
 | _=>true
noncomputable def chkB (n:Nat):List (Nat × Nat)→KasT (Array Nat)→Bool
 | es,.ret p=>permB n p && chainB es p.toList
 | es,.ask i j k=>Nat.blt i n && Nat.blt j n && chkB n ((i,j)::es) (k true) && chkB n ((j,i)::es) (k false)
theorem chk2:chkB 2 [] (kas_sort 2)=true:=by decide +kernel
theorem chk3:chkB 3 [] (kas_sort 3)=true:=by decide +kernel
theorem chk4:chkB 4 [] (kas_sort 4)=true:=by decide +kernel
theorem chk5:chkB 5 [] (kas_sort 5)=true:=by decide +kernel
structure Ord (α:Type) (lt:α→α→Bool):Prop where
 asymm:∀ a b,lt a b=true→lt b a=false
 trans:∀ a b c,lt b a=false→lt c b=false→lt c a=false
theorem Ord.refl {α:Type} {lt:α→α→Bool} (O:Ord α lt) (a:α):lt a a=false:=by
 cases h:lt a a
 ·rfl
 ·have:=O.asymm a a h
  rw [h] at this;cases this
set_option tactic.hygienic true in
theorem reachS_le {α:Type} {lt:α→α→Bool} (O:Ord α lt) {f:Nat→α} {es:List (Nat × Nat)} {x:Nat} (he:∀ e ∈ es,lt (f e.2) (f e.1)=false) (k:Nat):∀ (S:List Nat),(∀ y ∈ S,lt (f y) (f x)=false)→∀ y ∈ reachS es k S,lt (f y) (f x)=false:=by
 induction k with
 | zero=>exact fun _ h=>h
 | succ k ih =>
  refine fun S h=>ih _ fun y hy=>?_
  rcases List.mem_append.mp hy with hy | hy
  ·exact h y hy
  ·refine byc fun b_=>?_
   obtain ⟨e,hm,hs⟩:=List.mem_filterMap.mp hy
   refine b_ ?_;clear b_
   split at hs
   ·rename_i hc
    cases hs
    have h1:e.1 ∈ S:=by simp at hc;exact hc.1
    exact O.trans _ _ _ (h _ h1) (he e hm)
   ·cases hs
theorem chainB_sorted {α:Type} {lt:α→α→Bool} (O:Ord α lt) {f:Nat→α} {es:List (Nat × Nat)} (he:∀ e ∈ es,lt (f e.2) (f e.1)=false) (l:List Nat):chainB es l=true→l.Pairwise fun i j=>lt (f j) (f i)=false:=by
 induction l with
 | nil=>exact fun _=>.nil
 | cons x l ih=>cases l with
  | nil=>exact fun _=>List.pairwise_singleton ..
  | cons y r =>
   intro h
   have h:=Bool.and_eq_true_iff.mp h
   have ih:=ih h.2
   have hxy:lt (f y) (f x)=false:=reachS_le O he 4 [x] (fun z hz=>by rw [List.mem_singleton.mp hz];exact O.refl _) y (by simpa using h.1)
   exact List.pairwise_cons.mpr ⟨List.forall_mem_cons.mpr ⟨hxy,fun z hz=>O.trans _ _ _ hxy ((List.pairwise_cons.mp ih).1 z hz)⟩,ih⟩
theorem kas_good {α:Type} {lt:α→α→Bool} (O:Ord α lt) {n:Nat} (f:Nat→α) {cmp:Nat→Nat→(Bool→Shared→Prop)→Shared→Prop} {Inv:Shared→Prop} {Q:Array Nat→Shared→Prop}
  (hcmp:∀ i j C s,i < n→j < n→Inv s→(∀ s',Inv s'→C (lt (f i) (f j)) s')→cmp i j C s)
  (hQ:∀ p s,Inv s→permB n p=true→(p.toList.Pairwise fun i j=>lt (f j) (f i)=false)→Q p s)
  (t:KasT (Array Nat)):∀ (es:List (Nat × Nat)) (s:Shared),chkB n es t=true→(∀ e ∈ es,lt (f e.2) (f e.1)=false)→Inv s→t.kasWp cmp Q s:=by
 induction t with
 | ret p =>
  intro es s h he hI
  have h:=Bool.and_eq_true_iff.mp h
  exact hQ p s hI h.1 (chainB_sorted O he _ h.2)
 | ask i j k ih =>
  intro es s h he hI
  have h:=Bool.and_eq_true_iff.mp h
  have h':=Bool.and_eq_true_iff.mp h.1
  have h'':=Bool.and_eq_true_iff.mp h'.1
  refine hcmp i j _ s (Nat.blt_eq.mp h''.1) (Nat.blt_eq.mp h''.2) hI fun s' hI'=>?_
  cases hlt:lt (f i) (f j) with
  | true=>exact ih true ((i,j)::es) s' h'.2 (List.forall_mem_cons.mpr ⟨O.asymm _ _ hlt,he⟩) hI'
  | false=>exact ih false ((j,i)::es) s' h.2 (List.forall_mem_cons.mpr ⟨hlt,he⟩) hI'
end sorting
section
variable {Q:Value→Shared→Prop} {E:Value→Shared→Prop} {h₀:Heap} {L l:Addr} {m:Str→Option Value} {news:List (Addr × Obj)} {vs:List Value}
theorem list_sort_short {a:Addr} {n:Nat} {P:PySem.Fin→Shared→Prop} (ho:s.heap.get? a=some (seqObj "list" vs.toArray n)) (h2:vs.length < 2) (h:P (.done (.ret .none)) { s with heap:=sortedHeap s.heap a vs vs.toArray }):wpAny (model prog w) A (Builtin.«list.sort» ⟨[.ref a],[]⟩) P E s:=by
 rw [list_sort_plain]
 have ha:a < s.heap.objs.size:=Heap.lt_size ho
 have z:vs.toArray.size < 2:=by rw [List.size_toArray];exact h2
 have zl:vs.length ≤ sizeLine:=by rw [sizeLine_eq];lia
 refine wpAny_bind (listItems_at ho rfl (wpAny_bind (listUpdate_at ho rfl ?_ (by rw [List.size_toArray];exact zl) (Nat.zero_le _))))
 refine byc fun b_=>?_
 obtain ⟨e1,ho1⟩:∃ e1,(s.heap.update a (Obj.mapSeq fun _=>#[])).get? a=some (seqObj "list" #[] e1):=⟨_,get?_update_seq ho (fun _=>#[])⟩
 refine b_ ?_;clear b_
 refine wpAny_bind (seqEpoch_at ho1 rfl (wpAny_bind (wpAny_newTuple (wpAny_bind (wpAny_newList (wpAny_holding ?_) (Nat.zero_le _))) zl)))
 have ho6:(((s.heap.update a (Obj.mapSeq fun _=>#[])).push (seqObj "tuple" vs.toArray 0)).push (seqObj "list" #[] 0)).get? a=some (seqObj "list" #[] e1):=by
  rw [Heap.get?_push_ne _ _ _ (by rw [size_push',Heap.size_update];exact Nat.ne_of_lt (Nat.lt_succ_of_lt ha)),Heap.get?_push_ne _ _ _ (by rw [Heap.size_update];exact Nat.ne_of_lt ha)]
  exact ho1
 refine (?_:wpAny (model prog w) A _ P E { s with heap:=((s.heap.update a (Obj.mapSeq fun _=>#[])).push (seqObj "tuple" vs.toArray 0)).push (seqObj "list" #[] 0) })
 dsimp only
 rw [if_pos z,if_pos z]
 refine wpAny_bind (wpAny_pure ?_)
 rw [StateT.run_pure]
 refine wpAny_bind (wpAny_pure ?_)
 dsimp only
 have hmap:(vs.toArray.zip vs.toArray).map (·.2)=vs.toArray:=by
  apply Array.toList_inj.mp
  rw [Array.toList_map,Array.toList_zip]
  exact List.map_snd_zip (Nat.le_refl _)
 refine wpAny_bind (seqEpoch_at ho6 rfl (wpAny_bind (listUpdate_at ho6 rfl ?_ (Nat.zero_le _) (by
  refine (?_:((vs.toArray.zip vs.toArray).map (·.2)).size ≤ _)
  rw [hmap,List.size_toArray];exact Nat.le_succ_of_le zl))))
 simp only [bne_self_eq_false,Bool.false_eq_true,if_false]
 have e:sortedHeap s.heap a vs vs.toArray=sortedHeap s.heap a vs ((arrOf (SortSt.mk' general' (vs.toArray.zip vs.toArray) #[] 7 none)).map (·.2)):=by
  refine (?_:_=sortedHeap s.heap a vs ((vs.toArray.zip vs.toArray).map (·.2)))
  rw [hmap]
 rw [e] at h
 exact wpAny_pure h
theorem sorted_short (F:Fr h₀ L s.heap m) (N:News h₀ L s.heap news) (hl:s.heap.IsList l vs.toArray) (h2:vs.length < 2)
  (h:∀ D c h',Fr h₀ L h' m→News h₀ L h' ((D,listOf vs.toArray c)::news)→(∀ q ∈ news,q.1 ≠ D)→Q (.ref D) { s with heap:=h' }):wpAny (model prog w) A (call (.builtin "sorted") [.ref l]) Q E s:=by
 refine Calls.call_function_entry kind_sorted plain_sorted entry_sorted (args_sorted1 _) ?_
 unfold Builtin.«sorted»
 have zl:vs.length ≤ sizeLine:=by rw [sizeLine_eq];lia
 refine wpAny_bind (m:=checkCount "sorted" 1 1 _) (wpAny_pure (wpAny_bind (collect_list hl (wpAny_bind (wpAny_newList ?_ zl)) zl)))
 have hsz:((s.heap.push (seqObj "list" #[] 0)).update s.heap.objs.size (Obj.mapSeq (·++vs.toArray))).objs.size=s.heap.objs.size + 1:=by
  rw [Heap.size_update,size_push']
 refine byc fun b_=>?_
 obtain ⟨H,eH⟩:∃ H,H=((s.heap.push (seqObj "list" #[] 0)).update s.heap.objs.size (Obj.mapSeq (·++vs.toArray))).push (seqObj "list" vs.toArray 0):=⟨_,rfl⟩
 refine b_ ?_;clear b_
 have hoL:H.get? (s.heap.objs.size + 1)=some (seqObj "list" vs.toArray 0):=by rw [eH,← hsz];exact Heap.get?_push_size _ rfl
 have keep:Grown s.heap H:=fun b o q=>by
  have hlt:b < s.heap.objs.size:=Heap.lt_size q
  rw [eH,Heap.get?_push_ne _ _ _ (by rw [hsz];exact Nat.ne_of_lt (Nat.lt_succ_of_lt hlt)),Heap.get?_update_ne _ _ _ _ (Nat.ne_of_lt hlt),Heap.get?_push_ne _ _ _ (Nat.ne_of_lt hlt)]
  exact q
 refine (?_:wpAny _ _ _ _ _ { s with heap:=((s.heap.push (seqObj "list" #[] 0)).update s.heap.objs.size (Obj.mapSeq (·++vs.toArray))).push (seqObj "list" vs.toArray 0) })
 rw [hsz,← eH]
 refine wpAny_bind (wpAny_holding (wpAny_call_entry slot_list_sort ⟨_,hoL,rfl⟩ entry_list_sort (list_sort_short (s:={ s with heap:=H }) hoL h2 ⟨_,rfl,wpAny_pure ⟨_,rfl,?_⟩⟩) (args_list_sort _)))
 refine byc fun b_=>?_
 obtain ⟨c,hc⟩:=sortedHeap_at (vs:=vs) (out:=vs.toArray) hoL
 refine b_ ?_;clear b_
 have old:∀ {b:Addr} {o:Obj},s.heap.get? b=some o→(sortedHeap H (s.heap.objs.size + 1) vs vs.toArray).get? b=some o:=fun {b o} e=>by
  have hlt:b < s.heap.objs.size:=Heap.lt_size e
  exact (sortedHeap_old (Nat.ne_of_lt (Nat.lt_succ_of_lt hlt)) (Heap.lt_size (keep b o e))).trans (keep b o e)
 refine h _ c _ (fr_on F fun b o e=>old e) (fun p hp=>?_) fun q hq=>Nat.ne_of_lt (Nat.lt_succ_of_lt (Heap.lt_size (N q hq).1))
 revert p;refine List.forall_mem_cons.mpr ⟨?_,fun p hp=>?_⟩
 ·refine ⟨hc,Nat.ne_of_gt (Nat.lt_succ_of_lt F.ns.lt),?_⟩
  cases e:h₀.get? (s.heap.objs.size + 1) with
  | none=>rfl
  | some o=>exact absurd (Heap.lt_size (F.keep _ _ e)) (Nat.not_lt.mpr (Nat.le_succ _))
 ·exact ⟨old (N p hp).1,(N p hp).2⟩
theorem short_facts {r:Nat→Nat→Prop}:∀ vs:List Value,vs.length < 2→(List.range vs.length).map (fun i=>vs.getD i .none)=vs∧permB vs.length (List.toArray (List.range vs.length))=true∧(List.range vs.length).Pairwise r
 | [],_=>⟨rfl,rfl,.nil⟩
 | [_],_=>⟨rfl,rfl,List.pairwise_singleton ..⟩
 | _::_::_,h=>absurd h (by simp)
theorem sorted_rule {α:Type} {lt:α→α→Bool} (O:Ord α lt) (f:Nat→α) (κ:SortKind) (F:Fr h₀ L s.heap m) (N:News h₀ L s.heap news) (hl:s.heap.IsList l vs.toArray) (h5:vs.length ≤ 5)
  (hk:2 ≤ vs.length→∀ h tk Q,Fr h₀ L h m→News h₀ L h news→Q κ { s with heap:=h,toks:=tk }→wpAny (model prog w) A.in1.in1 (keyKind' vs.toArray) Q (fun _ _=>False) { s with heap:=h,toks:=tk })
  (hc:∀ h tk i j C,i < vs.length→j < vs.length→Fr h₀ L h m→News h₀ L h news→(∀ h' tk',Grown h h'→C (lt (f i) (f j)) { s with heap:=h',toks:=tk' }) →
   wpAny (model prog w) A.in1.in1 (keyLt' κ (vs.getD i .none) (vs.getD j .none)) C (fun _ _=>False) { s with heap:=h,toks:=tk })
  (h:∀ D c h' tk (p:Array Nat),permB vs.length p=true→(p.toList.Pairwise fun i j=>lt (f j) (f i)=false)→Fr h₀ L h' m→News h₀ L h' ((D,listOf (List.toArray (p.toList.map fun i=>vs.getD i .none)) c)::news)→(∀ q ∈ news,q.1 ≠ D)→Q (.ref D) { s with heap:=h',toks:=tk }) :
  wpAny (model prog w) A (call (.builtin "sorted") [.ref l]) Q E s:=by
 by_cases h2:vs.length < 2
 ·refine sorted_short F N hl h2 fun D c h' F' N' hD=>?_
  refine byc fun b_=>?_
  obtain ⟨e1,e2,e3⟩:=short_facts (r:=fun i j=>lt (f j) (f i)=false) vs h2
  refine b_ ?_;clear b_
  exact h D c h' s.toks (List.toArray (List.range vs.length)) e2 (by rw [List.toList_toArray];exact e3) F' (by rw [List.toList_toArray,e1];exact N') hD
 ·refine kat_sorted F N hl (by lia) (by lia) fun D e1 h' F' N' lD=>?_
  have N'':News h₀ L h' news:=fun p hp=>N' p (List.mem_cons_of_mem _ hp)
  refine hk (by lia) h' s.toks _ F' N'' ?_
  have chk:chkB vs.length [] (kas_sort vs.length)=true:=by
   have:vs.length=2∨vs.length=3∨vs.length=4∨vs.length=5:=by lia
   rcases this with e | e | e | e
   ·rw [e];exact chk2
   ·rw [e];exact chk3
   ·rw [e];exact chk4
   ·rw [e];exact chk5
  refine kas_good O f (Inv:=fun s'=>∃ h tk,s'={ s with heap:=h,toks:=tk }∧Fr h₀ L h m∧News h₀ L h ((D,seqObj "list" #[] e1)::news)) ?_ ?_ _ [] _ chk (fun _ he=>nomatch he) ⟨h',s.toks,rfl,F',N'⟩
  ·rintro i j C s' hi hj pk0 hC
   refine byc fun b_=>?_
   obtain ⟨h1,tk1,rfl,F1,N1⟩:=pk0
   refine b_ ?_;clear b_
   refine hc h1 tk1 i j C hi hj F1 (fun p hp=>N1 p (List.mem_cons_of_mem _ hp)) fun h2 tk2 g=>hC _ ⟨h2,tk2,rfl,fr_on F1 g,news_on N1 g⟩
  ·rintro p s' pk0 hp hs
   refine byc fun b_=>?_
   obtain ⟨h1,tk1,rfl,F1,N1⟩:=pk0
   refine b_ ?_;clear b_
   refine KasFin.intro F1 N1 (.head fun q hq=>Nat.ne_of_lt (lD q hq)) fun h2 c F2 N2=>?_
   exact h D c h2 tk1 p hp hs F2 N2 fun q hq=>Nat.ne_of_lt (lD q hq)
end
structure Tot (α:Type) (lt:α→α→Bool):Prop where
 irr:∀ a,lt a a=false
 tr:∀ a b c,lt a b=true→lt b c=true→lt a c=true
 tri:∀ a b,lt a b=false→lt b a=false→a=b
theorem Tot.ord {α:Type} {lt:α→α→Bool} (T:Tot α lt):Ord α lt where
 asymm:=fun a b h=>by
  cases h':lt b a
  ·rfl
  ·have:=T.tr _ _ _ h h'
   rw [T.irr] at this;cases this
 trans:=fun a b c h1 h2=>by
  cases h:lt c a
  ·rfl
  ·cases h3:lt a b
   ·have:=T.tri _ _ h3 h1
    refine byc fun b_=>?_
    subst this
    refine b_ ?_;clear b_
    rw [h2] at h;cases h
   ·have:=T.tr _ _ _ h h3
    rw [h2] at this;cases this
noncomputable def strLt (a b:Str):Bool:=decide (a.cps.toList < b.cps.toList)
theorem strTot:Tot Str strLt where
 irr:=fun a=>PyProof.Rows.strKind.irrefl a.cps.toList
 tr:=fun a b c=>PyProof.Rows.strKind.trans a.cps.toList b.cps.toList c.cps.toList
 tri:=fun a b h1 h2=>by
  have:=PyProof.Rows.strKind.total a.cps.toList b.cps.toList h1 h2
  cases a;cases b
  rw [Str.mk.injEq]
  exact Array.toList_inj.mp this
noncomputable def kdStrL:Kd prog w A s .Lt Str where
 is:=fun _ v a=>∃ t,v=.str a t
 eqf:=fun a b=>a == b
 ok:=fun _ _=>True
 opf:=strLt
 keep:=fun _ x=>x
 self:=fun ⟨_,e⟩ ⟨_,e'⟩=>by rw [e] at e';cases e';exact beq_self_eq_true _
 heq:=fun _ ⟨_,e⟩ ⟨_,e'⟩ _=>by subst e;subst e';exact str_eq
 hop:=fun _ _ {s' _ _ _ _} _ ⟨_,e⟩ ⟨_,e'⟩ _ _=>by
  subst e;subst e'
  show wpAny _ _ (compareOp .Lt _ _) _ _ s'
  exact lt_str (got_now rfl)
 nofl:=fun ⟨_,e⟩ e'=>by rw [e] at e';cases e'
section
variable {Q:Value→Shared→Prop} {E:Value→Shared→Prop} {h₀:Heap} {L l:Addr} {m:Str→Option Value} {news:List (Addr × Obj)} {vs:List Value}
theorem strAt {ls:List (Str × Tok)} {i:Nat} (h:i < ls.length):∃ t,(strValues ls).getD i .none=.str ((ls.map (·.1)).getD i Str.empty) t:=by
 refine ⟨ls[i].2,?_⟩
 simp [strValues,List.getD,h]
theorem sorted_strs {ls:List (Str × Tok)} (F:Fr h₀ L s.heap m) (N:News h₀ L s.heap news) (hl:s.heap.IsList l (strValues ls).toArray) (h5:ls.length ≤ 5)
  (h:∀ D c h' tk (p:Array Nat),permB ls.length p=true→(p.toList.Pairwise fun i j=>strLt ((ls.map (·.1)).getD j Str.empty) ((ls.map (·.1)).getD i Str.empty)=false)→Fr h₀ L h' m→News h₀ L h' ((D,listOf (List.toArray (p.toList.map fun i=>(strValues ls).getD i .none)) c)::news)→(∀ q ∈ news,q.1 ≠ D)→Q (.ref D) { s with heap:=h',toks:=tk }) :
  wpAny (model prog w) A (call (.builtin "sorted") [.ref l]) Q E s:=by
 have hz:(strValues ls).length=ls.length:=by rw [strValues,List.length_map]
 refine sorted_rule strTot.ord (fun i=>(ls.map (·.1)).getD i Str.empty) oneType' F N hl (by rw [hz];exact h5) ?_ ?_ ?_
 ·intro h2 h' tk Q' F' N' hq
  refine kas_kind (T:=.type "str") h2 (fun v hv=>?_) (by decide) (by decide) hq
  refine byc fun b_=>?_
  obtain ⟨p,hp,rfl⟩:=List.mem_map.mp hv
  refine b_ ?_;clear b_
  exact Looks.of_pure rfl
 ·intro h' tk i j C hi hj F' N' hC
  rw [hz] at hi hj
  refine byc fun b_=>?_
  obtain ⟨t,e1⟩:=strAt hi
  obtain ⟨u,e2⟩:=strAt hj
  refine b_ ?_;clear b_
  rw [e1,e2]
  exact kas_lt_str (hC h' tk (.refl _))
 ·intro D c h' tk p h1 h2 F' N' hD
  rw [hz] at h1
  exact h D c h' tk p h1 h2 F' N' hD
end
noncomputable def neLt {α:Type} (eqf opf:α→α→Bool) (a b:List (Ne α)):Bool:=lexB (Ne.eqf eqf) (Ne.opf .Lt opf) (sizesB .Lt a.length b.length) a b
theorem katLex_go {α:Type} (K:Kd prog w A s .Lt α) {fin:Bool} {C:Bool→Shared→Prop} {xs ys:List Value} {as bs:List α} (i:Nat) {s':Shared} (o:On s s') (hx:AllIs K.is s'.heap xs as) (hy:AllIs K.is s'.heap ys bs) (hok:ZipOk K.ok as bs) (hC:∀ s'',On s s''→C (lexB K.eqf K.opf fin as bs) s'') :
   KatLex prog w A true fin C (xs.zip ys) (i + 1) s':=by
 induction as generalizing xs ys bs i s' with
 | nil=>cases hx;cases hy <;> exact hC s' o
 | cons a as ih=>cases hx with
  | cons hx hxs=>cases hy with
   | nil=>exact hC s' o
   | cons hy hys =>
    rw [List.zip_cons_cons]
    refine kat_cons (wpAny_mono (eqBool_kd K o hx hy hok.1) (fun e s2 g=>?_) fun _ _ x=>x)
    have o2:=g.on
    have ee:=g.post
    refine byc fun b_=>?_
    subst ee
    refine b_ ?_;clear b_
    refine kat_go (fun h1=>kat_yes ?_) (fun h1=>kat_no ?_)
    ·refine ih (i + 1) (o.trans o2) (hxs.keep (K.keep o2.heap)) (hys.keep (K.keep o2.heap)) hok.2 fun s3 o3=>?_
     have:=hC s3 o3
     rw [lexB_c,h1] at this
     exact this
    ·have hf:(true && i + 1 == 0)=false:=rfl
     rw [hf]
     refine kat_one _ _ (wpAny_mono (show wpAny (model prog w) A (richCompare .Lt _ _) _ _ s2 from K.hop (by decide) (by decide) (o.trans o2) (K.keep o2.heap hx) (K.keep o2.heap hy) hok.1 h1) (fun r s3 g3=>?_) fun _ _ x=>x)
     have o3:=g3.on
     have e3:=g3.post
     refine byc fun b_=>?_
     subst e3
     refine b_ ?_;clear b_
     have:=hC s3 ((o.trans o2).trans o3)
     rw [lexB_c,h1] at this
     exact this
theorem tup_keyLt {α:Type} (K:Kd prog w A s .Lt α) (hni:∀ {h i t a},¬ K.is h (.int i t) a) {x y:Addr} {a b:Int} {as bs:List (Ne α)} {s':Shared} {C:Bool→Shared→Prop} (o:On s s') (hx:TupIs (Ne.is K.is) s'.heap (.ref x) (.n a::as)) (hy:TupIs (Ne.is K.is) s'.heap (.ref y) (.n b::bs)) (hok:ZipOk (Ne.ok K.ok) as bs)
  (hC:∀ s'',On s s''→C (neLt K.eqf K.opf (.n a::as) (.n b::bs)) s'') :
  wpAny (model prog w) A (keyLt' (tuples' true) (.ref x) (.ref y)) C (fun _ _=>False) s':=by
 have Kn:∃ Kn:Kd prog w A s .Lt (Ne α),Kn.is=Ne.is K.is∧Kn.eqf=Ne.eqf K.eqf∧Kn.opf=Ne.opf .Lt K.opf∧Kn.ok=Ne.ok K.ok:=⟨kdNe K hni (fun _ _=>.inl rfl),rfl,rfl,rfl,rfl⟩
 refine byc fun b_=>?_
 obtain ⟨Kn,e1,e2,e3,e4⟩:=Kn
 refine b_ ?_;clear b_
 rw [← e1] at hx hy
 rw [← e4] at hok
 unfold neLt at hC
 rw [← e2,← e3] at hC
 refine byc fun b_=>?_
 obtain ⟨x',ox,xs,nx,ex,hox,hcx,hdx,hix⟩:=hx
 obtain ⟨y',oy,ys,ny,ey,hoy,hcy,hdy,hiy⟩:=hy
 refine b_ ?_;clear b_
 cases ex;cases ey
 have hl:decide (xs.size < ys.size)=sizesB .Lt (.n a::as:List (Ne α)).length (.n b::bs:List (Ne α)).length:=by
  rw [← hix.length,← hiy.length,Array.length_toList,Array.length_toList];rfl
 refine kat_lt hox hdx hoy hdy ?_
 rw [hl]
 generalize sizesB .Lt (.n a::as:List (Ne α)).length (.n b::bs:List (Ne α)).length=fz at hC
 generalize hxl:xs.toList=xl at hix
 generalize hyl:ys.toList=yl at hiy
 cases hix with
 | @cons u _ xl _ h1 hxs =>
  cases hiy with
  | @cons v _ yl _ h2 hys =>
   have g1:=h1
   have g2:=h2
   rw [e1] at g1 g2
   refine byc fun b_=>?_
   obtain ⟨t1,rfl⟩:=g1
   obtain ⟨t2,rfl⟩:=g2
   refine b_ ?_;clear b_
   rw [List.zip_cons_cons]
   have ea:Kn.eqf (.n a) (.n b)=(a == b):=by rw [e2];rfl
   have eo:Kn.opf (.n a) (.n b)=decide (a < b):=by rw [e3];rfl
   refine kat_cons (PySem.wpAny_eqBool_int ?_)
   refine kat_go (fun h=>kat_yes ?_) (fun h=>kat_no ?_)
   ·refine katLex_go Kn 0 o hxs hys hok fun s3 o3=>?_
    have:=hC s3 o3
    rw [lexB_c,ea,h] at this
    exact this
   ·have:=hC s' o
    rw [lexB_c,ea,h,eo] at this
    exact oneLt_int this
section
variable {Q:Value→Shared→Prop} {E:Value→Shared→Prop} {h₀:Heap} {L l:Addr} {m:Str→Option Value} {news:List (Addr × Obj)} {vs:List Value}
noncomputable def HeadInt {α:Type} (as:List (List (Ne α))):Prop:=∀ a ∈ as,∃ n r,a=Ne.n n::r
theorem katTups_of {α:Type} {is:Heap→Value→α→Prop} {h:Heap} {vs:List Value} {as:List (List (Ne α))} (x:AllIs (TupIs (Ne.is is)) h vs as):HeadInt as→∃ fs,KatTups h vs fs∧fs.length=vs.length∧∀ f ∈ fs,∃ n t,f=.int n t:=by
 induction x with
 | nil=>exact fun _=>⟨[],.nil,rfl,fun _ hf=>nomatch hf⟩
 | cons hv _ ih =>
  intro hh
  refine byc fun b_=>?_
  obtain ⟨fs,h1,h2,h3⟩:=ih (fun a ha=>hh a (List.mem_cons_of_mem _ ha))
  obtain ⟨n,r,rfl⟩:=hh _ (List.mem_cons_self ..)
  obtain ⟨x,o,it,k,rfl,ho,hc,hd,hi⟩:=hv
  generalize hil:it.toList=il at hi
  cases hi with
  | @cons u _ il _ hu _ =>
   obtain ⟨t,rfl⟩:=hu
   exact b_ ⟨.int n t::fs,.cons ho hc hd (by rw [← Array.getElem?_toList,hil];rfl) h1,congrArg Nat.succ h2,List.forall_mem_cons.mpr ⟨⟨n,t,rfl⟩,h3⟩⟩
theorem allIs_at {α:Type} {is:Heap→Value→α→Prop} {h:Heap} {vs:List Value} {as:List α} (x:AllIs is h vs as):∀ {i:Nat},i < vs.length→∃ a,as[i]?=some a∧is h (vs.getD i .none) a:=by
 induction x with
 | nil=>exact fun hi=>absurd hi (Nat.not_lt_zero _)
 | cons hv _ ih=>intro i;cases i with
  | zero=>exact fun _=>⟨_,rfl,hv⟩
  | succ i=>exact fun hi=>ih (Nat.lt_of_succ_lt_succ hi)
theorem sorted_tups {α γ:Type} {as:List γ} (d:γ) (emb:γ→List (Ne α)) (lt:γ→γ→Bool) {is:Heap→Value→α→Prop} {eqf opf:α→α→Bool} {ok:α→α→Prop} (K:∀ s',Fr h₀ L s'.heap m→∃ K:Kd prog w A.in1.in1 s' .Lt α,K.is=is∧K.eqf=eqf∧K.opf=opf∧K.ok=ok)
  (hni:∀ {h i t a},¬ is h (.int i t) a) (O:Ord γ lt) (hlt:∀ a b,neLt eqf opf (emb a) (emb b)=lt a b) (F:Fr h₀ L s.heap m) (N:News h₀ L s.heap news) (hl:s.heap.IsList l vs.toArray) (h5:vs.length ≤ 5)
  (hv:∀ h,Fr h₀ L h m→News h₀ L h news→AllIs (TupIs (Ne.is is)) h vs (as.map emb)) (hh:HeadInt (as.map emb)) (hok:∀ a ∈ as,∀ b ∈ as,ZipOk (Ne.ok ok) (emb a).tail (emb b).tail)
  (h:∀ D c h' tk (p:Array Nat),permB vs.length p=true→(p.toList.Pairwise fun i j=>lt (as.getD j d) (as.getD i d)=false)→Fr h₀ L h' m→News h₀ L h' ((D,listOf (List.toArray (p.toList.map fun i=>vs.getD i .none)) c)::news)→(∀ q ∈ news,q.1 ≠ D)→Q (.ref D) { s with heap:=h',toks:=tk }) :
  wpAny (model prog w) A (call (.builtin "sorted") [.ref l]) Q E s:=by
 refine sorted_rule O (fun i=>as.getD i d) (tuples' true) F N hl h5 ?_ ?_ h
 ·intro h2 h' tk Q' F' N' hq
  refine byc fun b_=>?_
  obtain ⟨fs,g1,g2,g3⟩:=katTups_of (hv h' F' N') hh
  refine b_ ?_;clear b_
  refine kat_kind (T:=.type "int") g1 (by lia) (fun f hf=>?_) (by decide) hq
  refine byc fun b_=>?_
  obtain ⟨n,t,rfl⟩:=g3 f hf
  refine b_ ?_;clear b_
  exact Looks.of_pure rfl
 ·intro h' tk i j C hi hj F' N' hC
  have V:=hv h' F' N'
  refine byc fun b_=>?_
  obtain ⟨a',e1,i1⟩:=allIs_at V hi
  obtain ⟨b',e2,i2⟩:=allIs_at V hj
  rw [List.getElem?_map] at e1 e2
  obtain ⟨a,e3,rfl⟩:=Option.map_eq_some_iff.mp e1
  obtain ⟨b,e4,rfl⟩:=Option.map_eq_some_iff.mp e2
  refine b_ ?_;clear b_
  have ma:=List.mem_of_getElem? e3
  have mb:=List.mem_of_getElem? e4
  have z:=hok a ma b mb
  have ea:as.getD i d=a:=by rw [List.getD_eq_getElem?_getD,e3];rfl
  have eb:as.getD j d=b:=by rw [List.getD_eq_getElem?_getD,e4];rfl
  rw [ea,eb,← hlt] at hC
  refine byc fun b_=>?_
  obtain ⟨n,r,en⟩:=hh _ (List.mem_map_of_mem ma)
  obtain ⟨n',r',en'⟩:=hh _ (List.mem_map_of_mem mb)
  rw [en] at i1 hC z
  rw [en'] at i2 hC z
  obtain ⟨K,k1,k2,k3,k4⟩:=K { s with heap:=h',toks:=tk } F'
  obtain ⟨x,_,_,_,ex,_⟩:=id i1
  obtain ⟨y,_,_,_,ey,_⟩:=id i2
  refine b_ ?_;clear b_
  rw [ex] at i1 ⊢
  rw [ey] at i2 ⊢
  rw [← k1] at i1 i2
  rw [← k2,← k3] at hC
  rw [← k4] at z
  refine tup_keyLt K (fun q=>hni (by rw [k1] at q;exact q)) (.refl _) i1 i2 z fun s'' o=>?_
  refine byc fun b_=>?_
  obtain ⟨h'',tk'',rfl,g⟩:=o
  refine b_ ?_;clear b_
  exact hC h'' tk'' g
end
noncomputable def digLt (a b:Str):Bool:=if a.length == b.length then strLt a b else decide (a.length < b.length)
theorem digTot:Tot Str digLt where
 irr:=fun a=>by unfold digLt;rw [if_pos (beq_self_eq_true _)];exact strTot.irr a
 tr:=fun a b c h1 h2=>by
  unfold digLt at h1 h2 ⊢
  by_cases e1:a.length=b.length <;> by_cases e2:b.length=c.length
  ·rw [if_pos (by simpa using e1)] at h1
   rw [if_pos (by simpa using e2)] at h2
   rw [if_pos (by simpa using e1.trans e2)]
   exact strTot.tr _ _ _ h1 h2
  ·rw [if_neg (by simpa using e2)] at h2
   have h2:=of_decide_eq_true h2
   rw [if_neg (by simp;lia)]
   exact decide_eq_true (by lia)
  ·rw [if_neg (by simpa using e1)] at h1
   have h1:=of_decide_eq_true h1
   rw [if_neg (by simp;lia)]
   exact decide_eq_true (by lia)
  ·rw [if_neg (by simpa using e1)] at h1
   rw [if_neg (by simpa using e2)] at h2
   have h1:=of_decide_eq_true h1
   have h2:=of_decide_eq_true h2
   rw [if_neg (by simp;lia)]
   exact decide_eq_true (by lia)
 tri:=fun a b h1 h2=>by
  unfold digLt at h1 h2
  by_cases e:a.length=b.length
  ·rw [if_pos (by simpa using e)] at h1
   rw [if_pos (by simpa using e.symm)] at h2
   exact strTot.tri _ _ h1 h2
  ·rw [if_neg (by simpa using e)] at h1
   rw [if_neg (by simpa using fun q:b.length=a.length=>e q.symm)] at h2
   have h1:=of_decide_eq_false h1
   have h2:=of_decide_eq_false h2
   lia
theorem dig_neLt (a b:Str):neLt (fun a b=>a == b) strLt [.n (a.length:Int),.o a] [.n (b.length:Int),.o b]=digLt a b:=by
 unfold neLt digLt
 refine (?_:(if ((a.length:Int) == (b.length:Int))=true then (if (a == b)=true then sizesB .Lt 2 2 else strLt a b) else decide ((a.length:Int) < (b.length:Int)))=_)
 by_cases e:a.length=b.length
 ·have c1:((a.length:Int) == (b.length:Int))=true:=by simp [e]
  have c2:(a.length == b.length)=true:=by simp [e]
  simp only [c1,c2,if_true]
  by_cases h:a=b
  ·refine byc fun b_=>?_
   subst h
   refine b_ ?_;clear b_
   rw [if_pos (beq_self_eq_true _),strTot.irr];rfl
  ·rw [if_neg (by simpa using h)]
 ·have c1:((a.length:Int) == (b.length:Int))=false:=by simp;lia
  have c2:(a.length == b.length)=false:=by simpa using e
  simp only [c1,c2,Bool.false_eq_true,if_false]
  by_cases h:a.length < b.length
  ·rw [decide_eq_true h,decide_eq_true (by lia)]
  ·rw [decide_eq_false h,decide_eq_false (by lia)]
section
variable {E:Value→Shared→Prop}
inductive RawAt (h:Heap) (d:Addr) (es:Array DictEntry) (ep:Nat):Prop
 | mk (o:_) (cj1:h.get? d=some o) (cj2:o.ExactDict) (cj3:o.data=.dict es ep):RawAt h d es ep
theorem rawIter {d:Addr} {es:Array DictEntry} {ep:Nat} {Q:Value→Shared→Prop} (hd:(d == sysModules)=false) (hm:RawAt s.heap d es ep)
  (hQ:Q (.ref s.heap.objs.size) { s with heap:=s.heap.push { cls:=.type "dict_keyiterator",data:=.fields #[.ref d,.int 0 0,.int es.size 0,.int ep 0] } }):wpAny (model prog w) A (pyIter (.ref d)) Q E s:=by
 refine byc fun b_=>?_
 obtain ⟨o,ho,hc,hdat⟩:=hm
 refine b_ ?_;clear b_
 have hT:s.TypeIs (.ref d) "dict":=⟨o,ho,hc.1⟩
 refine wpAny_pyIter_slot hT PySem.F.slot_dict_iter (wpAny_call_entry PySem.F.slot_dict_iter hT PySem.F.entry_dict_iter ?_ (PySem.F.args_dict_iter_1 _))
 unfold Builtin.«dict.__iter__»
 refine wpAny_bind ?_
 unfold Builtin.Dict.dictSlotNone
 refine wpAny_bind (wpAny_notOrdered_dict hT ?_)
 refine (?_:wpAny _ _ (pure (Value.ref d)) _ _ s)
 refine wpAny_pure ?_
 refine (?_:wpAny _ _ (Builtin.Dict.showsAll d >>= _) _ _ s)
 unfold Builtin.Dict.showsAll
 rw [if_neg (by rw [hd];exact Bool.false_ne_true)]
 refine wpAny_bind (wpAny_pure (wpAny_bind (wpAny_dictEntries ho hdat (wpAny_bind (wpAny_dictEpoch ho hdat ?_)))))
 refine wpAny_bind (wpAny_newObj_type (wpAny_pure ⟨_,rfl,"dict_keyiterator",_,⟨_,Heap.get?_push_size _ rfl,rfl⟩,PySem.F.slot_dict_keyiterator_next.lookup,?_⟩))
 simpa [rawInt] using hQ
theorem rawItem {it d:Addr} {i ep n:Nat} {es:Array DictEntry} {e:DictEntry} {Q:Option Value→Shared→Prop} (hn:n=es.size) (hit:s.heap.IsKeyIter it d i n ep) (hm:RawAt s.heap d es ep) (hx:es[i]?=some e)
  (hQ:∀ h',h'.IsKeyIter it d (i + 1) n ep→Heap.SameBut it s.heap h'→Q (some e.key) { s with heap:=h' }):wpAny (model prog w) A (pyNext (.ref it)) Q E s:=by
 refine byc fun b_=>?_
 subst hn
 obtain ⟨o,ho,hc,hd⟩:=id hit
 obtain ⟨od,hod,hcd,hdd⟩:=id hm
 refine b_ ?_;clear b_
 unfold pyNext
 refine wpAny_bind (wpAny_attempt (wpAny_callSpecial?_slot (name:=Str.ofString "__next__") hit.typeIs PySem.F.slot_dict_keyiterator_next
  (wpAny_call_entry PySem.F.slot_dict_keyiterator_next hit.typeIs PySem.F.entry_dict_keyiterator_next ?_ (PySem.F.args_dict_keyiterator_next_1 _))))
 refine wpAny_bind (wpAny_pure (wpAny_bind (wpAny_bind ?_)))
 first | refine wpAny_bind (wpAny_typeNameOfWhole_keyiter hit.typeIs (wpAny_pure ?_)) | refine wpAny_bind (wpAny_typeNameOf_keyiter hit.typeIs (wpAny_pure ?_))
 refine wpAny_bind (wpAny_fieldsOf ho hd ?_)
 have hown:Builtin.Dict_items.ownsTuple "dict_keyiterator"=false:=by decide
 simp -iota only [hown,Bool.false_eq_true,if_false]
 refine (?_:wpAny _ _ (if (Value.ref d == Value.none)=true then _ else _) _ _ s)
 rw [if_neg (show ¬ ((Value.ref d == Value.none)=true) from Bool.false_ne_true)]
 refine wpAny_bind (wpAny_pure (wpAny_bind (wpAny_dictEntries hod hdd ?_)))
 rw [if_neg (by simp)]
 refine wpAny_bind (wpAny_pure (wpAny_bind (wpAny_dictEpoch hod hdd ?_)))
 rw [if_neg (by simp)]
 refine wpAny_pure ?_
 simp only [show ¬ ((i:Int) < 0) from by lia,if_false,Int.toNat_natCast,hx]
 refine wpAny_bind ?_
 first | refine wpAny_bind (wpAny_typeNameOfWhole_keyiter hit.typeIs (wpAny_pure ?_)) | refine wpAny_bind (wpAny_typeNameOf_keyiter hit.typeIs (wpAny_pure ?_))
 refine wpAny_bind (wpAny_isOneOf_keyiter hit.typeIs ?_)
 refine (?_:wpAny _ _ (setField (.ref it) 1 (rawInt ((i:Int) + 1)) >>= _) _ _ s)
 refine wpAny_bind (wpAny_setField ho hd (by simp) ?_)
 have hit':(s.heap.update it (Obj.mapFields (·.setIfInBounds 1 (rawInt ((i:Int) + 1))))).IsKeyIter it d (i + 1) es.size ep :=
  ⟨_,Heap.get?_update_self _ ho (Obj.isFreed_of_fields (Obj.data_mapFields hd _)),(Obj.cls_mapFields ..).trans hc,by rw [Obj.data_mapFields hd];simp -iota [rawInt]⟩
 refine wpAny_bind (wpAny_holding ?_)
 refine wpAny_bind (wpAny_isOneOf_keyiter (s:={ s with heap:=s.heap.update it (Obj.mapFields (·.setIfInBounds 1 (rawInt ((i:Int) + 1)))) }) hit'.typeIs ?_)
 refine (?_:wpAny _ _ (pure e.key) _ _ _)
 exact wpAny_pure (wpAny_pure ⟨_,rfl,wpAny_pure (hQ _ hit' (Heap.SameBut.update ..))⟩)
theorem rawEnd {it d:Addr} {i ep n:Nat} {es:Array DictEntry} {Q:Option Value→Shared→Prop} (hn:n=es.size) (hh:A.handled=none) (hit:s.heap.IsKeyIter it d i n ep) (hm:RawAt s.heap d es ep) (hx:es[i]?=none)
  (hQ:∀ h',Heap.ExtBut it s.heap h'→Q none { s with heap:=h' }):wpAny (model prog w) A (pyNext (.ref it)) Q E s:=by
 refine byc fun b_=>?_
 subst hn
 obtain ⟨o,ho,hc,hd⟩:=id hit
 obtain ⟨od,hod,hcd,hdd⟩:=id hm
 refine b_ ?_;clear b_
 unfold pyNext
 refine wpAny_bind (wpAny_attempt (wpAny_callSpecial?_slot (name:=Str.ofString "__next__") hit.typeIs PySem.F.slot_dict_keyiterator_next
  (wpAny_call_entry PySem.F.slot_dict_keyiterator_next hit.typeIs PySem.F.entry_dict_keyiterator_next ?_ (PySem.F.args_dict_keyiterator_next_1 _))))
 refine wpAny_bind (wpAny_pure (wpAny_bind (wpAny_bind ?_)))
 first | refine wpAny_bind (wpAny_typeNameOfWhole_keyiter hit.typeIs (wpAny_pure ?_)) | refine wpAny_bind (wpAny_typeNameOf_keyiter hit.typeIs (wpAny_pure ?_))
 refine wpAny_bind (wpAny_fieldsOf ho hd ?_)
 have hown:Builtin.Dict_items.ownsTuple "dict_keyiterator"=false:=by decide
 simp -iota only [hown,Bool.false_eq_true,if_false]
 refine (?_:wpAny _ _ (if (Value.ref d == Value.none)=true then _ else _) _ _ s)
 rw [if_neg (show ¬ ((Value.ref d == Value.none)=true) from Bool.false_ne_true)]
 refine wpAny_bind (wpAny_pure (wpAny_bind (wpAny_dictEntries hod hdd ?_)))
 rw [if_neg (by simp)]
 refine wpAny_bind (wpAny_pure (wpAny_bind (wpAny_dictEpoch hod hdd ?_)))
 rw [if_neg (by simp)]
 refine wpAny_pure ?_
 simp only [show ¬ ((i:Int) < 0) from by lia,if_false,Int.toNat_natCast,hx]
 refine wpAny_bind ?_
 first | refine wpAny_bind (wpAny_typeNameOfWhole_keyiter hit.typeIs (wpAny_pure ?_)) | refine wpAny_bind (wpAny_typeNameOf_keyiter hit.typeIs (wpAny_pure ?_))
 refine (?_:wpAny _ _ (setField (.ref it) 0 .none >>= _) _ _ s)
 refine wpAny_bind (wpAny_setField ho hd (by simp) ?_)
 refine (?_:wpAny _ _ (newExc (.type "StopIteration") [] >>= _) _ _ _)
 refine wpAny_bind ?_
 simp -iota only [newExc,newTuple]
 refine wpAny_bind (wpAny_newObj_type ?_ (by size_fits))
 refine wpAny_bind (m:=firstArgMember _ _) (wpAny_of_eq (a:=Value.none) (by first | rfl | (simp -iota only [firstArgMember];rfl)) ?_)
 refine wpAny_newObj_type ?_ (by size_fits)
 simp -iota only [raiseNew]
 refine wpAny_bind (wpAny_handled ?_)
 rw [show A.in1.handled=none from hh]
 refine wpAny_bind (wpAny_pure (wpAny_throw ?_))
 refine wpAny_bind (wpAny_isInstance (T:="StopIteration") (b:=true) ⟨_,Heap.get?_push_size _ rfl,rfl⟩ isSubtype_stop ?_)
 exact wpAny_pure (hQ _ (((Heap.SameBut.update ..).extBut.push _).push _))
end
theorem RawAt.at' {h h':Heap} {d:Addr} {es:Array DictEntry} {ep:Nat} (x:RawAt h d es ep) (e:∀ o,h.get? d=some o→h'.get? d=some o):RawAt h' d es ep:=let ⟨o,ho,r,q⟩:=x;⟨o,e _ ho,r,q⟩
theorem rawWalks (hh:A.handled=none) (I d:Addr) (hne:d ≠ I) (es:Array DictEntry) (ep:Nat) :
  Walks prog w A I [I,d] [I] es.size (fun i v=>∃ e,es[i]?=some e∧v=e.key) (fun i h=>h.IsKeyIter I d i es.size ep∧RawAt h d es ep) where
 sub:=fun b hb=>by simp at hb;simp -iota [hb]
 frame:=fun _ _ _ st hk=>⟨st.1.at fun o e=>hk I (by simp) o e,st.2.at' fun o e=>hk d (by simp) o e⟩
 item:=fun i s Q E hi st hQ=>by
  have hx:es[i]?=some es[i]:=Array.getElem?_eq_getElem hi
  refine rawItem rfl st.1 st.2 hx fun h' hit' hs'=>?_
  exact hQ _ h' s.toks ⟨_,hx,rfl⟩ ⟨hit',st.2.at' fun o e=>hs'.extBut d o hne e⟩ fun b o hb e=>hs'.extBut b o (fun h=>hb (by simp -iota [h])) e
 done:=fun s Q E st hQ=>rawEnd rfl hh st.1 st.2 (by simp) fun h' he'=>hQ h' s.toks fun b o hb e=>he' b o (fun h=>hb (by simp -iota [h])) e
 self:=fun _ _ _ _ st hQ=>wpAny_pyIter_keyiter st.1 hQ
theorem iters_dict {ax:Addr} {o:Obj} {es:Array DictEntry} {ep:Nat} (hh:A.handled=none) (hm:(ax == sysModules)=false) (hx:o.ExactDict) (hd:o.data=.dict es ep):Iters prog w A ax o es.size (fun i v=>∃ e,es[i]?=some e∧v=e.key):=by
 intro s E Q ho h
 have hr:RawAt s.heap ax es ep:=⟨o,ho,hx,hd⟩
 have hlt:ax < s.heap.objs.size:=Heap.lt_size ho
 refine rawIter hm hr ?_
 refine h _ _ s.toks (rawWalks hh s.heap.objs.size ax (Nat.ne_of_lt hlt) es ep) (fun i h' st=>?_) ⟨⟨_,Heap.get?_push_size _ rfl,rfl,rfl⟩,hr.at' fun o e=>Heap.get?_push_of_some _ e⟩ (Heap.size_push ..) (fun b o e=>Heap.get?_push_of_some _ e)
 refine byc fun b_=>?_
 obtain ⟨⟨o,ho,_⟩,_⟩:=st
 refine b_ ?_;clear b_
 exact ⟨o,ho⟩
noncomputable def TurnG (s:Shared) (h₀:Heap) (L I:Addr) (oI:Obj) (J:List (Nat × Value)→List (Addr × Obj)→Array GenState→Prop) (Q:Flow→Shared→Prop) (f:Flow) (s':Shared):Prop:=match f with
 | .ret v=>Q (.ret v) s'
 | .brk=>Q .next s'
 | _=>∃ h' tk' g' l' news',s'={ s with heap:=h',toks:=tk',gens:=g' }∧Fr h₀ L h' (frm l')∧News h₀ L h' ((I,oI)::news')∧(∀ p ∈ news',p.1 ≠ I)∧J l' news' g'
theorem turnG_end {h₀ h':Heap} {L I:Addr} {oI:Obj} {J:List (Nat × Value)→List (Addr × Obj)→Array GenState→Prop} {Q:Flow→Shared→Prop} {tk':Nat} {g':Array GenState} {l':List (Nat × Value)} {news':List (Addr × Obj)} (F:Fr h₀ L h' (frm l')) (N:News h₀ L h' ((I,oI)::news'))
  (sep:∀ p ∈ news',p.1 ≠ I) (hJ:J l' news' g'):TurnG s h₀ L I oI J Q .next { s with heap:=h',toks:=tk',gens:=g' }:=⟨h',tk',g',l',news',rfl,F,N,sep,hJ⟩
inductive FLI (s:Shared) (h₀:Heap) (L I:Addr) (n:Nat) (St:Nat→Heap→Prop) (J:Nat→List (Nat × Value)→List (Addr × Obj)→Array GenState→Prop) (k:Nat) (s':Shared):Prop
 | mk (i:Nat) (l:List (Nat × Value)) (news:List (Addr × Obj)) (g:Array GenState) (h:Heap) (tk:Nat) (e1:k=n + 1 - i) (hi:i ≤ n) (e2:s'={ s with heap:=h,toks:=tk,gens:=g }) (hst:St i h) (F:Fr h₀ L h (frm l)) (N:News h₀ L h news) (sep:∀ p ∈ news,p.1 ≠ I) (hJ:J i l news g):FLI s h₀ L I n St J k s'
section
variable {E:Value→Shared→Prop} {env:Env} {h₀:Heap} {body:List Stmt} {Q:Flow→Shared→Prop}
noncomputable def ForNext (prog:Program) (w:World) (A:Around) (x:Str) (px:Pos) (body:List Stmt) (env:Env) (Q:Flow→Shared→Prop) (E:Value→Shared→Prop) (xv:Value) (s₁:Shared):Prop :=
 wpAny (model prog w) A (pyIter xv) (fun it s₂=>codeAny (model prog w) A (.forLoop (.Name x px) it body [] env) (fun r s'=>match r with | .ok f=>Q f s' | .error e=>cameBackBy (model prog w) A env E e s') s₂) E s₁
theorem for_start {x:Str} {px pos:Pos} {iter:Expr} (hs:∀ x,foldedSetIterable iter env x=pure x) (h:wpAny (model prog w) A (eval iter env) (fun xv s₁=>Hold (ForNext prog w A x px body env Q E xv s₁)) E s) :
  wpAny (model prog w) A (exec (.For (.Name x px) iter body [] pos) env) Q E s:=wpAny_For h hs
theorem forG {x:Str} {px:Pos} {ax:Addr} {n k:Nat} {P:Nat→Value→Prop} {lo:Obj} {news₀:List (Addr × Obj)} {l₀:List (Nat × Value)} (It:Iters prog w A ax lo n P) (hLa:env.locals ≠ ax) (hx:env.kindOf x=some .local) (hp:(env.scope.kind == .class || (env.scope.kind == .module && env.locals != env.globals))=false) (hk:nix x=some k)
  (F:Fr h₀ env.locals s.heap (frm l₀)) (N:News h₀ env.locals s.heap news₀) (J:Nat→List (Nat × Value)→List (Addr × Obj)→Array GenState→Prop) (h0:J 0 l₀ news₀ s.gens)
  (hax:∀ i l l' news h g,J i l news g→Fr h₀ env.locals h (frm l')→News h₀ env.locals h news→h.get? ax=some lo)
  (turn:∀ I i v l news g oI h tk,i < n→P i v→J i l news g→Fr h₀ env.locals h (frm ((k,v)::l))→News h₀ env.locals h ((I,oI)::news)→(∀ p ∈ news,p.1 ≠ I) →
   wpAny (model prog w) A (execs body env) (TurnG s h₀ env.locals I oI (J (i + 1)) Q) (fun _ _=>False) { s with heap:=h,toks:=tk,gens:=g })
  (fin:∀ l news h tk g,J n l news g→Fr h₀ env.locals h (frm l)→News h₀ env.locals h news→Q .next { s with heap:=h,toks:=tk,gens:=g }) :
  ForNext prog w A x px body env Q E (.ref ax) s:=by
 unfold ForNext
 have hlo:=hax 0 l₀ l₀ news₀ s.heap s.gens h0 F N
 have axlt:@LT.lt Nat instLTNat ax s.heap.objs.size:=Heap.lt_size hlo
 have Llt:@LT.lt Nat instLTNat env.locals s.heap.objs.size:=F.ns.lt
 refine It s E _ hlo fun St h₂ tk₂ W hobj hst hsz k2=>?_
 refine byc fun b_=>?_
 obtain ⟨I,eI⟩:∃ I,I=s.heap.objs.size:=⟨_,rfl⟩
 refine b_ ?_;clear b_
 have eI':@Eq Nat I (s.heap.objs.size + 0):=eI
 rw [← eI] at W hobj ⊢
 have lI:env.locals ≠ I:=ne_sz Llt eI'
 have xI:ax ≠ I:=ne_sz axlt eI'
 have zI:h₀.get? I=none:=by
  cases e:h₀.get? I with
  | none=>rfl
  | some o=>exact absurd (Heap.lt_size (F.keep _ _ e)) (Nat.not_lt.mpr (le_sz eI'))
 refine codeAny_forLoop_any (FLI s h₀ env.locals I n St J)
  ?_ (n + 1) ⟨0,l₀,news₀,s.gens,h₂,tk₂,rfl,Nat.zero_le _,rfl,hst,F.keeps k2,N.grown k2,fun p hp=>ne_sz (Heap.lt_size (N p hp).1) eI',h0⟩
 rintro k' s' pk0
 refine byc fun b_=>?_
 obtain ⟨i,l,news,g,h,tk,rfl,hi,rfl,hst,F,N,sep,hJ⟩:=pk0
 refine b_ ?_;clear b_
 by_cases hlt:i < n
 ·refine W.item i _ _ _ hlt hst fun v h₁ tk₁ hPv hst₁ hk₁=>?_
  have k₁:∀ b o,b ≠ I→h.get? b=some o→h₁.get? b=some o:=fun b o hb e=>hk₁ b o (fun q=>hb (List.mem_singleton.mp q)) e
  refine wpAny_of_eq (rfl:letOwnedTupleGo (.Name x px) (.ref I) v=pure ()) ?_
  refine wpAny_assign_Name (wpAny_storeName_local hx (F.ns.at' fun o e=>k₁ _ o lI e) (fun h₂ hn₂ hs₂=>?_) hp)
  have k₂:∀ b o,b ≠ env.locals→b ≠ I→h.get? b=some o→h₂.get? b=some o:=fun b o hbL hbI e=>hs₂.extBut b o hbL (k₁ b o hbI e)
  have hst₂:St (i + 1) h₂:=W.frame _ _ _ hst₁ fun b hb o e=>hs₂.extBut b o (fun q=>by
   rcases List.mem_cons.mp hb with r | r
   ·exact lI (q.symm.trans r)
   ·exact hLa (q.symm.trans (List.mem_singleton.mp r))) e
  have F₂:Fr h₀ env.locals h₂ (frm ((k,v)::l)):=by
   refine ⟨?_,fun b o e=>k₂ b o (fun q=>Nat.lt_irrefl _ (Nat.lt_of_lt_of_le (q ▸ Heap.lt_size e) F.above)) (fun q=>by rw [q,zI] at e;cases e) (F.keep b o e),F.above⟩
   rw [← frm_push hk];exact hn₂
  refine byc fun b_=>?_
  obtain ⟨oI,hoI⟩:=hobj _ _ hst₂
  refine b_ ?_;clear b_
  have N₂:News h₀ env.locals h₂ ((I,oI)::news):=List.forall_mem_cons.mpr ⟨⟨hoI,lI.symm,zI⟩,fun p hp=>⟨k₂ _ _ (N p hp).2.1 (sep p hp) (N p hp).1,(N p hp).2⟩⟩
  have hl:=hax i l _ news h₂ g hJ F₂ fun p hp=>N₂ p (List.mem_cons_of_mem _ hp)
  refine wpAny_mono (turn I i v l news g oI h₂ _ hlt hPv hJ F₂ N₂ sep) (fun f s₃ h₃=>?_) fun _ _ e=>e.elim
  have nx:(∃ h' tk' g' l' news',s₃={ s with heap:=h',toks:=tk',gens:=g' }∧Fr h₀ env.locals h' (frm l')∧News h₀ env.locals h' ((I,oI)::news')∧(∀ p ∈ news',p.1 ≠ I)∧J (i + 1) l' news' g') →
    ∃ m,m < n + 1 - i∧FLI s h₀ env.locals I n St J m s₃:=by
   rintro pk0
   refine byc fun b_=>?_
   obtain ⟨h',tk',g',l',news',rfl,F',N',sep',hJ'⟩:=pk0
   refine b_ ?_;clear b_
   refine ⟨n + 1 - (i + 1),Nat.sub_lt_sub_left (Nat.lt_succ_of_lt hlt) (Nat.lt_succ_self i),i + 1,l',news',g',h',tk',rfl,hlt,rfl,?_,F',fun p hp=>N' p (List.mem_cons_of_mem _ hp),sep',hJ'⟩
   have hl':=hax (i + 1) l' _ news' h' g' hJ' F' fun p hp=>N' p (List.mem_cons_of_mem _ hp)
   refine W.frame _ _ _ hst₂ fun b hb o e=>?_
   rcases List.mem_cons.mp hb with r | r
   ·rw [r] at e ⊢;rw [hoI] at e;cases e;exact (N' _ (List.mem_cons_self ..)).1
   ·have r':=List.mem_singleton.mp r
    rw [r'] at e ⊢;rw [hl] at e;cases e;exact hl'
  cases f with
  | ret v=>exact h₃
  | brk=>exact h₃
  | next=>exact nx h₃
  | cont=>exact nx h₃
 ·have hin:i=n:=Nat.le_antisymm hi (Nat.le_of_not_lt hlt)
  refine byc fun b_=>?_
  subst hin
  refine b_ ?_;clear b_
  refine W.done _ _ _ hst fun h₁ tk₁ hk₁=>?_
  have k₁:∀ b o,b ≠ I→h.get? b=some o→h₁.get? b=some o:=fun b o hb e=>hk₁ b o (fun q=>hb (List.mem_singleton.mp q)) e
  refine wpAny_execs_nil ?_
  exact fin l news h₁ tk₁ g hJ ⟨F.ns.at' fun o e=>k₁ _ o lI e,fun b o e=>k₁ b o (fun q=>by rw [q,zI] at e;cases e) (F.keep b o e),F.above⟩ fun p hp=>⟨k₁ _ _ (sep p hp) (N p hp).1,(N p hp).2⟩
end
theorem rs45m0:True:=by
 k_with "@exec For Name Name cons nil"=>k_dflt ((apply for_start;intro _;(with_unfolding_all rfl)))
 k_with "@exec For Name Call cons nil"=>k_dflt ((apply for_start;intro _;(with_unfolding_all rfl)))
 exact trivial
inductive Fo where
 | nil
 | cons (n:Str) (c r:Fo)
noncomputable def Fo.get:Fo→Str→Option Fo
 | .nil,_=>none
 | .cons m c r,n=>if m=n then some c else r.get n
noncomputable def Fo.set:Fo→Str→Fo→Fo
 | .nil,n,x=>.cons n x .nil
 | .cons m c r,n,x=>if m=n then .cons m x r else .cons m c (r.set n x)
theorem Fo.get_c (m:Str) (c r:Fo) (n:Str):(Fo.cons m c r).get n=if m=n then some c else r.get n:=rfl
theorem Fo.set_c (m:Str) (c r:Fo) (n:Str) (x:Fo):(Fo.cons m c r).set n x=if m=n then .cons m x r else .cons m c (r.set n x):=rfl
noncomputable def Fo.plant:List Str→Fo→Fo
 | [],f=>f.set Str.empty .nil
 | n::p,f=>f.set n (Fo.plant p ((f.get n).getD .nil))
theorem Fo.plant_n (f:Fo):Fo.plant [] f=f.set Str.empty .nil:=rfl
theorem Fo.plant_c (n:Str) (p:List Str) (f:Fo):Fo.plant (n::p) f=f.set n (Fo.plant p ((f.get n).getD .nil)):=rfl
noncomputable def Fo.keys:Fo→List Str
 | .nil=>[]
 | .cons n _ r=>n::r.keys
theorem Fo.keys_c (n:Str) (c r:Fo):(Fo.cons n c r).keys=n::r.keys:=rfl
set_option genInjectivity false in
inductive AF where
 | nil
 | cons (n:Str) (a:Addr) (o:Obj) (c r:AF)
noncomputable def AF.nodes:AF→List (Addr × Obj)
 | .nil=>[]
 | .cons _ a o c r=>(a,o)::(c.nodes++r.nodes)
noncomputable def AF.kvs:AF→List (Str × Value)
 | .nil=>[]
 | .cons n a _ _ r=>(n,.ref a)::r.kvs
noncomputable def AF.erase:AF→Fo
 | .nil=>.nil
 | .cons n _ _ c r=>.cons n c.erase r.erase
theorem AF.nodes_c (n:Str) (a:Addr) (o:Obj) (c r:AF):(AF.cons n a o c r).nodes=(a,o)::(c.nodes++r.nodes):=rfl
theorem AF.kvs_c (n:Str) (a:Addr) (o:Obj) (c r:AF):(AF.cons n a o c r).kvs=(n,.ref a)::r.kvs:=rfl
theorem AF.erase_c (n:Str) (a:Addr) (o:Obj) (c r:AF):(AF.cons n a o c r).erase=.cons n c.erase r.erase:=rfl
noncomputable def AF.ok (prog:Program) (w:World):AF→Prop
 | .nil=>True
 | .cons _ a o c r=>(o.IsDictOf (PySem.strKind prog w) c.kvs∧(a == sysModules)=false)∧c.ok prog w∧r.ok prog w
noncomputable def AF.get:AF→Str→Option (Addr × Obj × AF)
 | .nil,_=>none
 | .cons m a o c r,n=>if m=n then some (a,o,c) else r.get n
noncomputable def AF.set:AF→Str→Addr→Obj→AF→AF
 | .nil,n,a,o,x=>.cons n a o x .nil
 | .cons m b q c r,n,a,o,x=>if m=n then .cons m a o x r else .cons m b q c (r.set n a o x)
noncomputable def AF.rest (n:Str):AF→List (Addr × Obj)
 | .nil=>[]
 | .cons m a o c r=>if m=n then r.nodes else (a,o)::(c.nodes++r.rest n)
theorem AF.get_c (m:Str) (a:Addr) (o:Obj) (c r:AF) (n:Str):(AF.cons m a o c r).get n=if m=n then some (a,o,c) else r.get n:=rfl
theorem AF.set_c (m:Str) (b:Addr) (q:Obj) (c r:AF) (n:Str) (a:Addr) (o:Obj) (x:AF):(AF.cons m b q c r).set n a o x=if m=n then .cons m a o x r else .cons m b q c (r.set n a o x):=rfl
theorem AF.rest_c (n m:Str) (a:Addr) (o:Obj) (c r:AF):AF.rest n (.cons m a o c r)=if m=n then r.nodes else (a,o)::(c.nodes++r.rest n):=rfl
theorem AF.get_erase (f:AF) (n:Str):f.erase.get n=(f.get n).map fun x=>x.2.2.erase:=by
 induction f with
 | nil=>rfl
 | cons m a o c r _ ih =>
  refine (?_:(if m=n then some c.erase else r.erase.get n)=Option.map _ (if m=n then some (a,o,c) else r.get n))
  by_cases h:m=n
  ·rw [if_pos h,if_pos h];rfl
  ·rw [if_neg h,if_neg h];exact ih
theorem AF.set_erase (n:Str) (a:Addr) (o:Obj) (x:AF) (f:AF):(f.set n a o x).erase=f.erase.set n x.erase:=by
 induction f with
 | nil=>rfl
 | cons m b q c r _ ih =>
  rw [AF.erase_c,Fo.set_c,AF.set_c]
  by_cases h:m=n
  ·rw [if_pos h,if_pos h];rfl
  ·rw [if_neg h,if_neg h,AF.erase_c,ih]
theorem AF.kvs_val (f:AF) (n:Str):valueAt f.kvs n=(f.get n).map fun x=>.ref x.1:=by
 induction f with
 | nil=>rfl
 | cons m a o c r _ ih =>
  rw [AF.kvs_c,AF.get_c,valueAt,List.find?_cons]
  by_cases h:m=n
  ·rw [if_pos h,decide_eq_true h];rfl
  ·rw [if_neg h,decide_eq_false h];exact ih
theorem any_key (f:AF) (n:Str):(f.kvs.any fun kv=>kv.1=n)=(f.get n).isSome:=by
 induction f with
 | nil=>rfl
 | cons m a o c r _ ih =>
  rw [AF.kvs_c,AF.get_c,List.any_cons,ih]
  by_cases h:m=n
  ·rw [if_pos h,decide_eq_true h];rfl
  ·rw [if_neg h,decide_eq_false h];rfl
theorem map_noKey (f:AF) (n:Str) (v:Value):n ∉ f.kvs.map (·.1)→f.kvs.map (fun kv=>if kv.1=n then (kv.1,v) else kv)=f.kvs:=by
 induction f with
 | nil=>exact fun _=>rfl
 | cons m a o c r _ ih =>
  intro h
  rw [AF.kvs_c,List.map_cons,List.mem_cons,not_or] at h
  rw [AF.kvs_c,List.map_cons,if_neg (fun q=>h.1 q.symm),ih h.2]
theorem AF.set_kvs_old (n:Str) (a:Addr) (o:Obj) (x:AF) (f:AF):(f.get n).isSome=true→(f.kvs.map (·.1)).Nodup→(f.set n a o x).kvs=f.kvs.map (fun kv=>if kv.1=n then (kv.1,.ref a) else kv):=by
 induction f with
 | nil=>exact fun h=>nomatch h
 | cons m b q c r _ ih =>
  intro h hn
  rw [AF.get_c] at h
  rw [AF.kvs_c,List.map_cons,List.nodup_cons] at hn
  rw [AF.set_c,AF.kvs_c,List.map_cons]
  by_cases e:m=n
  ·rw [if_pos e,if_pos e,AF.kvs_c,map_noKey r n _ (e ▸ hn.1)]
  ·rw [if_neg e] at h
   rw [if_neg e,if_neg e,AF.kvs_c,ih h hn.2]
theorem AF.set_kvs_new (n:Str) (a:Addr) (o:Obj) (x:AF) (f:AF):f.get n=none→(f.set n a o x).kvs=f.kvs++[(n,.ref a)]:=by
 induction f with
 | nil=>exact fun _=>rfl
 | cons m b q c r _ ih =>
  intro h
  rw [AF.get_c] at h
  rw [AF.set_c]
  by_cases e:m=n
  ·rw [if_pos e] at h;cases h
  ·rw [if_neg e] at h
   rw [if_neg e,AF.kvs_c,AF.kvs_c,ih h];rfl
theorem AF.stored (n:Str) (a:Addr) (o:Obj) (x f:AF) (hn:(f.kvs.map (·.1)).Nodup):stored f.kvs n (.ref a)=(f.set n a o x).kvs:=by
 unfold PySem.stored
 rw [any_key]
 cases h:f.get n with
 | none=>rw [AF.set_kvs_new n a o x f h];rfl
 | some y=>rw [AF.set_kvs_old n a o x f (by rw [h];rfl) hn];rfl
theorem AF.set_same (n:Str) (o:Obj) (x:AF) (f:AF) {b:Addr} {q:Obj} {c:AF}:f.get n=some (b,q,c)→(f.set n b o x).kvs=f.kvs:=by
 induction f with
 | nil=>exact fun h=>nomatch h
 | cons m b' q' c' r _ ih =>
  intro h
  rw [AF.get_c] at h
  rw [AF.set_c]
  by_cases e:m=n
  ·rw [if_pos e] at h
   rw [if_pos e,(Prod.mk.inj (Option.some.inj h)).1];rfl
  ·rw [if_neg e] at h
   rw [if_neg e,AF.kvs_c,AF.kvs_c,ih h]
theorem perm_mid {α:Type} {x y:α} {a b c:List α} {l:List α} (h:l.Perm (y::(b++c))):(x::(a++l)).Perm (y::(b++x::(a++c))):=by
 refine ((List.Perm.append_left _ h).cons _).trans ?_
 refine (List.perm_middle.cons _).trans ((List.Perm.swap ..).trans (List.Perm.cons _ ?_))
 refine (List.Perm.cons _ ?_).trans List.perm_middle.symm
 rw [← List.append_assoc,← List.append_assoc]
 exact List.Perm.append_right _ List.perm_append_comm
theorem AF.set_nodes (n:Str) (a:Addr) (o:Obj) (x:AF) (f:AF):(f.set n a o x).nodes.Perm ((a,o)::(x.nodes++f.rest n)):=by
 induction f with
 | nil=>exact .refl _
 | cons m b q c r _ ih =>
  rw [AF.set_c,AF.rest_c]
  by_cases e:m=n
  ·rw [if_pos e,if_pos e,AF.nodes_c]
  ·rw [if_neg e,if_neg e,AF.nodes_c]
   exact perm_mid ih
theorem AF.get_nodes (n:Str) (f:AF) {b:Addr} {q:Obj} {c:AF}:f.get n=some (b,q,c)→f.nodes.Perm ((b,q)::(c.nodes++f.rest n)):=by
 induction f with
 | nil=>exact fun h=>nomatch h
 | cons m b' q' c' r _ ih =>
  intro h
  rw [AF.get_c] at h
  rw [AF.rest_c,AF.nodes_c]
  by_cases e:m=n
  ·rw [if_pos e] at h
   cases h
   rw [if_pos e]
  ·rw [if_neg e] at h
   rw [if_neg e]
   exact perm_mid (ih h)
theorem AF.rest_sub (n:Str) (f:AF):(f.rest n).Sublist f.nodes:=by
 induction f with
 | nil=>exact List.Sublist.refl _
 | cons m a o c r _ ih =>
  rw [AF.rest_c,AF.nodes_c]
  by_cases e:m=n
  ·rw [if_pos e];exact (List.sublist_append_right _ _).cons _
  ·rw [if_neg e];exact (List.Sublist.append_left ih _).cons_cons _
theorem AF.rest_none (n:Str) (f:AF):f.get n=none→f.rest n=f.nodes:=by
 induction f with
 | nil=>exact fun _=>rfl
 | cons m a o c r _ ih =>
  intro h
  rw [AF.get_c] at h
  rw [AF.rest_c,AF.nodes_c]
  by_cases e:m=n
  ·rw [if_pos e] at h;cases h
  ·rw [if_neg e] at h
   rw [if_neg e,ih h]
theorem AF.set_ok {n:Str} {a:Addr} {o:Obj} {x:AF} (ho:o.IsDictOf (PySem.strKind prog w) x.kvs) (ha:(a == sysModules)=false) (hx:x.ok prog w) (f:AF):f.ok prog w→(f.set n a o x).ok prog w:=by
 induction f with
 | nil=>exact fun _=>⟨⟨ho,ha⟩,hx,trivial⟩
 | cons m b q c r _ ih =>
  intro h
  rw [AF.set_c]
  by_cases e:m=n
  ·rw [if_pos e];exact ⟨⟨ho,ha⟩,hx,h.2.2⟩
  ·rw [if_neg e];exact ⟨h.1,h.2.1,ih h.2.2⟩
theorem AF.get_ok {n:Str} (f:AF) {b:Addr} {q:Obj} {c:AF}:f.ok prog w→f.get n=some (b,q,c)→(q.IsDictOf (PySem.strKind prog w) c.kvs∧(b == sysModules)=false)∧c.ok prog w:=by
 induction f with
 | nil=>exact fun _ h=>nomatch h
 | cons m b' q' c' r _ ih =>
  intro ho h
  rw [AF.get_c] at h
  by_cases e:m=n
  ·rw [if_pos e] at h
   cases h
   exact ⟨ho.1,ho.2.1⟩
  ·rw [if_neg e] at h
   exact ih ho.2.2 h
noncomputable def upd (d:Addr) (o':Obj) (p:Addr × Obj):Addr × Obj:=if p.1=d then (d,o') else p
theorem upd_ne {d:Addr} {o':Obj} {p:Addr × Obj} {news:List (Addr × Obj)} (hp:p ∈ news) (h:p.1 ≠ d):p ∈ news.map (upd d o'):=List.mem_map.mpr ⟨p,hp,by unfold upd;rw [if_neg h]⟩
theorem upd_eq {d:Addr} {o o':Obj} {news:List (Addr × Obj)} (hp:(d,o) ∈ news):(d,o') ∈ news.map (upd d o'):=List.mem_map.mpr ⟨_,hp,by unfold upd;rw [if_pos rfl]⟩
theorem upd_adr {d:Addr} {o':Obj} {p:Addr × Obj} {news:List (Addr × Obj)} (h:p ∈ news.map (upd d o')):∃ q ∈ news,q.1=p.1:=by
 refine byc fun b_=>?_
 obtain ⟨q,hq,e⟩:=List.mem_map.mp h
 refine b_ ?_;clear b_
 refine ⟨q,hq,?_⟩
 rw [← e];unfold upd;split
 ·assumption
 ·rfl
section
variable {E:Value→Shared→Prop} {h₀:Heap} {L d:Addr} {m:Str→Option Value} {news:List (Addr × Obj)} {o:Obj}
set_option tactic.hygienic true in
theorem setN {K:Type} [DecidableEq K] {knd:KeyKind prog w K} {kvs:List (K × Value)} {k:K} {key v:Value} {Q:Unit→Shared→Prop} (F:Fr h₀ L s.heap m) (N:News h₀ L s.heap news) (hm:(d,o) ∈ news) (hd:o.IsDictOf knd kvs) (hkey:knd.is k key=true) (hsz:kvs.length ≤ 1000)
  (h:∀ h' o',Fr h₀ L h' m→News h₀ L h' (news.map (upd d o'))→o'.IsDictOf knd (stored kvs k v)→Q () { s with heap:=h',toks:=s.toks + 1 }):wpAny (model prog w) A (setItem (.ref d) key v) Q E s:=by
 have b:=N _ hm
 refine wpAny_setItem_pairs (hsz:=by rw [sizeLine_eq];lia) hkey (Heap.dictOf_iff.mpr ⟨o,b.1,hd⟩) fun h' hmm hs=>?_
 refine byc fun b_=>?_
 obtain ⟨o',ho',hd'⟩:=Heap.dictOf_iff.mp hmm
 refine b_ ?_;clear b_
 refine h h' o' (F.change hs b.2.1 b.2.2) (fun p hp=>?_) hd'
 refine byc fun b_=>?_
 obtain ⟨q,hq,e⟩:=List.mem_map.mp hp
 refine b_ ?_;clear b_
 unfold upd at e
 split at e
 ·subst e;exact ⟨ho',b.2⟩
 ·rename_i hne
  refine byc fun b_=>?_
  subst e
  refine b_ ?_;clear b_
  exact ⟨(hs.2 _ hne).trans (N _ hq).1,(N _ hq).2⟩
end
theorem AF.kvs_len (f:AF):f.kvs.length ≤ f.nodes.length:=by
 induction f with
 | nil=>exact Nat.le_refl _
 | cons _ a o c r _ ih =>
  rw [AF.kvs_c,AF.nodes_c,List.length_cons,List.length_cons,List.length_append]
  exact Nat.succ_le_succ (Nat.le_trans ih (Nat.le_add_left _ _))
theorem AF.set_kvs (n:Str) (a:Addr) (o o2:Obj) (x x2:AF) (f:AF):(f.set n a o x).kvs=(f.set n a o2 x2).kvs:=by
 induction f with
 | nil=>rfl
 | cons m b q c r _ ih =>
  rw [AF.set_c,AF.set_c]
  by_cases h:m=n
  ·rw [if_pos h,if_pos h];rfl
  ·rw [if_neg h,if_neg h,AF.kvs_c,AF.kvs_c,ih]
structure Stands (prog:Program) (w:World) (a:Addr) (o:Obj) (f:AF):Prop where
 d:o.IsDictOf (PySem.strKind prog w) f.kvs
 lo:(a == sysModules)=false
 ok:f.ok prog w
noncomputable abbrev adrs (a:Addr) (o:Obj) (f:AF):List Addr:=((a,o)::f.nodes).map (·.1)
theorem permA {α:Type} (a c:α) (X Y Z:List α):(a::(c::X++Y)++Z).Perm ((c::X)++(a::Y++Z)):=by
 have e1:a::(c::X++Y)++Z=a::((c::X)++(Y++Z)):=by simp
 rw [e1]
 exact List.perm_middle.symm
inductive PlE (prog:Program) (w:World) (A₀:Addr) (F₀:AF) (path:List Str) (a:Addr) (o':Obj) (f':AF) (rest:List (Addr × Obj)):Prop
 | mk (O':Obj) (F':AF) (h1:O'.IsDictOf (PySem.strKind prog w) F'.kvs) (h2:F'.ok prog w) (h3:F'.erase=Fo.plant path F₀.erase) (h4:((A₀,O')::F'.nodes).Perm ((a,o')::f'.nodes++rest)):PlE prog w A₀ F₀ path a o' f' rest
noncomputable def PlW (prog:Program) (w:World) (A₀:Addr) (F₀:AF) (path:List Str) (i:Nat) (a:Addr) (f:AF) (rest:List (Addr × Obj)):Prop :=
 ∀ (o':Obj) (f':AF),o'.IsDictOf (PySem.strKind prog w) f'.kvs→f'.ok prog w→f'.erase=Fo.plant (path.drop i) f.erase→PlE prog w A₀ F₀ path a o' f' rest
inductive Plant (prog:Program) (w:World) (s₀:Shared) (as:List Addr) (A₀:Addr) (F₀:AF) (path:List Str) (B i:Nat) (a:Addr) (news:List (Addr × Obj)):Prop
 | mk (o:Obj) (f:AF) (rest:List (Addr × Obj)) (st:Stands prog w a o f) (sub:∀ p ∈ (a,o)::f.nodes++rest,p ∈ news) (nd:(((a,o)::f.nodes++rest).map (·.1)).Nodup) (ln:((a,o)::f.nodes++rest).length ≤ B + i) (wand:PlW prog w A₀ F₀ path i a f rest)
  (fresh:∀ p ∈ news,p.1 ∈ as∨s₀.heap.get? p.1=none) (all:∀ b ∈ as,∃ q ∈ news,q.1=b):Plant prog w s₀ as A₀ F₀ path B i a news
theorem nodes_le {α:Type} {x:α} {l r:List α}:l.length ≤ (x::l++r).length:=by
 rw [List.cons_append,List.length_cons,List.length_append];exact Nat.le_succ_of_le (Nat.le_add_right _ _)
theorem Plant.old {s₀:Shared} {as:List Addr} {A₀:Addr} {F₀:AF} {path:List Str} {B i:Nat} {a:Addr} {news:List (Addr × Obj)} {o:Obj} {f:AF} {rest:List (Addr × Obj)} {name:Str} {c:Addr} {oc:Obj} {fc:AF} (hg:f.get name=some (c,oc,fc)) (hp:path.drop i=name::path.drop (i + 1))
  (st:Stands prog w a o f) (sub:∀ p ∈ (a,o)::f.nodes++rest,p ∈ news) (nd:(((a,o)::f.nodes++rest).map (·.1)).Nodup) (ln:((a,o)::f.nodes++rest).length ≤ B + i)
  (wand:PlW prog w A₀ F₀ path i a f rest)
  (fresh:∀ p ∈ news,p.1 ∈ as∨s₀.heap.get? p.1=none) (all:∀ b ∈ as,∃ q ∈ news,q.1=b):Plant prog w s₀ as A₀ F₀ path B (i + 1) c news:=by
 have pm:((a,o)::f.nodes++rest).Perm ((c,oc)::fc.nodes++((a,o)::f.rest name++rest)):=(List.Perm.append_right rest ((AF.get_nodes name f hg).cons _)).trans (permA _ _ _ _ _)
 refine byc fun b_=>?_
 obtain ⟨⟨dc,lc⟩,okc⟩:=AF.get_ok f st.ok hg
 refine b_ ?_;clear b_
 refine ⟨oc,fc,(a,o)::f.rest name++rest,⟨dc,lc,okc⟩,fun p hp=>sub p (pm.mem_iff.mpr hp),(pm.map _).nodup_iff.mp nd,by rw [← pm.length_eq];exact Nat.le_succ_of_le ln,fun o' f' ho hok he=>?_,fresh,all⟩
 have e:(f.erase.get name).getD .nil=fc.erase:=by rw [AF.get_erase,hg];rfl
 obtain ⟨O',F',h1,h2,h3,h4⟩:=wand o (f.set name c o' f') (by rw [AF.set_same name o' f' f hg];exact st.d) (AF.set_ok ho lc hok f st.ok) (by rw [AF.set_erase,hp,Fo.plant_c,e,he])
 exact ⟨O',F',h1,h2,h3,h4.trans ((List.Perm.append_right rest ((AF.set_nodes name c o' f' f).cons _)).trans (permA _ _ _ _ _))⟩
set_option tactic.hygienic true in
theorem Plant.new {s₀:Shared} {as:List Addr} {A₀:Addr} {F₀:AF} {path:List Str} {B i:Nat} {a D:Addr} {news:List (Addr × Obj)} {o o' oD:Obj} {f:AF} {rest:List (Addr × Obj)} {name:Str} (hg:f.get name=none) (hp:path.drop i=name::path.drop (i + 1))
  (st:Stands prog w a o f) (sub:∀ p ∈ (a,o)::f.nodes++rest,p ∈ news) (nd:(((a,o)::f.nodes++rest).map (·.1)).Nodup) (ln:((a,o)::f.nodes++rest).length ≤ B + i)
  (wand:PlW prog w A₀ F₀ path i a f rest)
  (fresh:∀ p ∈ news,p.1 ∈ as∨s₀.heap.get? p.1=none) (all:∀ b ∈ as,∃ q ∈ news,q.1=b) (hD:∀ p ∈ news,p.1 ≠ D) (zD:s₀.heap.get? D=none) (loD:(D == sysModules)=false) (dD:oD.IsDictOf (PySem.strKind prog w) []) (ho':o'.IsDictOf (PySem.strKind prog w) (stored f.kvs name (.ref D))) :
  Plant prog w s₀ as A₀ F₀ path B (i + 1) D (((D,oD)::news).map (upd a o')):=by
 have hk:stored f.kvs name (.ref D)=(f.set name D oD .nil).kvs:=AF.stored name D oD .nil f (by obtain ⟨_,_,_,_,_,_,hn⟩:=st.d;exact hn)
 rw [hk] at ho'
 have aD:a ≠ D:=hD _ (sub _ (List.mem_cons_self ..))
 have nd':(((a,o')::f.nodes++rest).map (·.1)).Nodup:=nd
 refine ⟨oD,.nil,(a,o')::f.nodes++rest,⟨dD,loD,trivial⟩,?_,?_,?_,fun o2 f' ho hok he=>?_,fun p hp=>?_,fun b hb=>?_⟩
 ·exact subC (upd_ne mH aD.symm) (subC (upd_eq (mT (sub _ mH))) fun p hp=>upd_ne (mT (sub p (mT hp))) fun q=>(List.nodup_cons.mp nd).1 (by rw [← q];exact List.mem_map.mpr ⟨p,hp,rfl⟩))
 ·refine List.nodup_cons.mpr ⟨fun hm=>?_,nd'⟩
  refine byc fun b_=>?_
  obtain ⟨p,hp,e⟩:=List.mem_map.mp hm
  refine b_ ?_;clear b_
  exact (List.forall_mem_cons (p:=fun q:Addr × Obj=>q.1 ≠ D)).mpr ⟨aD,fun q hq=>hD q (sub q (mT hq))⟩ p hp e
 ·exact Nat.succ_le_succ ln
 ·have e:(f.erase.get name).getD .nil=.nil:=by rw [AF.get_erase,hg];rfl
  obtain ⟨O',F',h1,h2,h3,h4⟩:=wand o' (f.set name D o2 f') (by rw [AF.set_kvs name D o2 oD f' .nil f];exact ho') (AF.set_ok ho loD hok f st.ok) (by rw [AF.set_erase,hp,Fo.plant_c,e,he];rfl)
  have h5:=(List.Perm.append_right rest ((AF.set_nodes name D o2 f' f).cons (a,o'))).trans (permA _ _ _ _ _)
  rw [AF.rest_none name f hg] at h5
  exact ⟨O',F',h1,h2,h3,h4.trans h5⟩
 ·refine byc fun b_=>?_
  obtain ⟨q,hq,e⟩:=upd_adr hp
  refine b_ ?_;clear b_
  rw [← e];exact (List.forall_mem_cons (p:=fun q:Addr × Obj=>q.1 ∈ as∨s₀.heap.get? q.1=none)).mpr ⟨.inr zD,fresh⟩ q hq
 ·refine byc fun b_=>?_
  obtain ⟨q,hq,e⟩:=all b hb
  refine b_ ?_;clear b_
  refine ⟨upd a o' q,List.mem_map.mpr ⟨q,List.mem_cons_of_mem _ hq,rfl⟩,?_⟩
  unfold upd;split
  ·rename_i h;exact h.symm.trans e
  ·exact e
theorem AF.get_set (n:Str) (a:Addr) (o:Obj) (x:AF) (f:AF):(f.set n a o x).get n=some (a,o,x):=by
 induction f with
 | nil=>exact if_pos rfl
 | cons m b q c r _ ih =>
  rw [AF.set_c]
  by_cases h:m=n
  ·rw [if_pos h];exact if_pos h
  ·rw [if_neg h];exact (if_neg h).trans ih
set_option maxHeartbeats 200000 in
theorem AF.val_stored {n:Str} {a:Addr} {f:AF} (hn:(f.kvs.map (·.1)).Nodup):valueAt (PySem.stored f.kvs n (.ref a)) n=some (.ref a):=by
 rw [AF.stored n a default .nil f hn,AF.kvs_val,AF.get_set];rfl
theorem allLt_ne {d:Addr} (l:List (Addr × Obj)):AllLt d l→∀ p ∈ l,p.1 ≠ d:=by
 induction l with
 | nil=>exact fun _ _ hq=>nomatch hq
 | cons p r ih=>exact fun h=>List.forall_mem_cons.mpr ⟨Nat.ne_of_lt h.1,ih h.2⟩
theorem new_none {h h':Heap} {L D:Addr} {as:List Addr} {news r:List (Addr × Obj)} {oD:Obj} (N:News (hideAll h as) L h' ((D,oD)::r)) (all:∀ b ∈ as,∃ q ∈ news,q.1=b) (hD:∀ p ∈ news,p.1 ≠ D):h.get? D=none:=by
 cases e:h.get? D with
 | none=>rfl
 | some o =>
  have:=(N _ (List.mem_cons_self ..)).2.2
  rw [hideAll_get _ e fun hm=>by obtain ⟨q,hq,e'⟩:=all D hm;exact hD q hq e'] at this
  cases this
inductive RetP (s:Shared) (as:List Addr) (Post:Heap→Prop) (r:Result) (s':Shared):Prop
 | mk (h' tk:_) (cj1:r=.ok (.ret .none)) (cj2:s'={ s with heap:=h',toks:=tk }) (cj3:(∀ b o,b ∉ as→s.heap.get? b=some o→h'.get? b=some o)) (cj4:Post h'):RetP s as Post r s'
inductive PlantPost (prog:Program) (w:World) (s:Shared) (a:Addr) (o:Obj) (f:AF) (path:List Str) (B:Nat) (h':Heap):Prop
 | mk (o':Obj) (f':AF) (cj1:Stands prog w a o' f') (cj2:f'.erase=Fo.plant path f.erase) (cj3:(adrs a o' f').Nodup) (cj4:((a,o')::f'.nodes).length ≤ B) (cj5:∀ p ∈ (a,o')::f'.nodes,h'.get? p.1=some p.2∧(p.1 ∈ adrs a o f∨s.heap.get? p.1=none)):PlantPost prog w s a o f path B h'
theorem notinS {Q:Value→Shared→Prop} {d:Addr} {o:Obj} {kvs:List (Str × Value)} {k:Str} {t:Tok} {b:Bool} (N:News h₀ L s.heap news) (hp:(d,o) ∈ news) (hd:o.IsDictOf (PySem.strKind prog w) kvs) (lo:(d == sysModules)=false) (hb:(valueAt kvs k).isSome=b) (h:Q (.bool (!b)) { s with toks:=s.toks + 1 }) :
  wpAny (model prog w) A (compareOp .NotIn (.str k t) (.ref d)) Q E s:=kdg_notin N hp hd lo (strKind_is _ _ _ _) b hb h
theorem rs47m0:True:=by
 k_with "@compareOp NotIn str ref"=>(fail_if_success k_extra "e47");k_dflt ((apply notinS;kpc_g;kpc_g;kpc_g;kpc_g;kpc_g))
 k_with "@eval Dict"=>(fail_if_success k_extra "e47");k_dflt ((apply newDict_K;kpc_g;kpc_g;apply Top.nolimit;kpc_g;intro _;intro _;intro _;intro _;intro _;intro _;intro _;intro _;intro _;intro _;intro _))
 k_with "@setItem ref str"=>(fail_if_success k_extra "e47");apply unhold
 k_with "@subscriptTail"=>(fail_if_success k_extra "e47");apply unhold
 exact trivial
set_option maxHeartbeats 800000 in
set_option tactic.hygienic true in
theorem plant_spec {a pa:Addr} {o:Obj} {f:AF} {ls:List (Str × Tok)} {n:Nat} (hA:A.handled=none) (X:(hd.heap_1 w.params).In (hideAll s.heap (adrs a o f))) (T:Top p loose mean mg mb (hideAll s.heap (adrs a o f))) (hdp:A.depth + 2 < recursionLimit)
  (st:Stands prog w a o f) (nd:(adrs a o f).Nodup) (hh:∀ p ∈ (a,o)::f.nodes,s.heap.get? p.1=some p.2) (hp:s.heap.get? pa=some (listOf (strValues ls).toArray n)) (hpa:pa ∉ adrs a o f) (hz:ls.length ≤ 5) (hB:((a,o)::f.nodes).length ≤ 900) :
  codeAny (model prog w) A (.call (.ref 438) ⟨[.ref a,.ref pa],[]⟩) (RetP s (adrs a o f) (PlantPost prog w s a o f (ls.map (·.1)) (((a,o)::f.nodes).length + ls.length + 1))) s:=by
 have NW:NewAbove (hideAll s.heap (adrs a o f)) s.heap ((a,o)::f.nodes):=⟨fun b o e=>of_hideAll _ e,Nat.le_of_eq (hideAll_size _ _),fun p hm=>⟨hh p hm,hideAll_none _ (List.mem_map.mpr ⟨p,hm,rfl⟩)⟩⟩
 have hp0:(hideAll s.heap (adrs a o f)).get? pa=some (listOf (strValues ls).toArray n):=hideAll_get _ hp hpa
 refine byc fun b_=>?_
 obtain ⟨hA',dA,fA,gA,uA⟩:=A
 obtain rfl:hA'=none:=hA
 refine b_ ?_;clear b_
 apply enterN NW (w:=w) [("tree",.ref a),("path",.ref pa)] [(43,.ref pa),(42,.ref a)] X T
 walk_at "my enter"
 case hnm=>exact namesC nx_path (namesC nx_tree (namesN))
 intro L h1 tk F N
 refine addLoc nx_tree (by kernel_rfl!) ?_;intro n_tree
 refine addLoc nx_path (by kernel_rfl!) ?_;intro n_path
 refine addLoc nx_name (by kernel_rfl!) ?_;intro n_name
 k_steps
 rename Fr _ _ _ _=>F
 rename News _ _ _ _=>N
 refine (?_:ForNext _ _ _ _ _ _ _ _ _ _ _)
 refine' forG (k:=44) (iters_list (vs:=strValues ls) (k:=n) ?hh) ?hLa ?hx ?hp' ?hk ?F ?N (fun i l news g=>g=s.gens∧∃ c,l.lookup 42=some (.ref c)∧Plant prog w s (adrs a o f) a f (ls.map (·.1)) ((a,o)::f.nodes).length i c news) ?h0 ?hax ?turn ?fin
 case hh=>rfl
 case hx=>rfl
 case hp'=>rfl
 case hk=>exact nx_name
 case F=>exact F
 case N=>exact N
 case hLa =>
  intro e
  have h1:=F.above
  have h2:=Heap.lt_size hp0
  have e':L=pa:=e
  rw [← e'] at h2
  exact absurd h1 (Nat.not_le.mpr h2)
 case h0 =>
  refine ⟨rfl,a,rfl,⟨o,f,[],st,fun p hp=>by simpa using hp,by simpa using nd,by simp,fun o' f' h1 h2 h3=>⟨o',f',h1,h2,h3,by simp⟩,fun p hm=>.inl (List.mem_map.mpr ⟨p,hm,rfl⟩),fun b hb=>by obtain ⟨p,hp,e⟩:=List.mem_map.mp hb;exact ⟨p,hp,e⟩⟩⟩
 case hax=>exact fun i l l' news h g _ F' _=>F'.keep _ _ hp0
 case turn =>
  rintro I i v l news g oI h tk hi hP pk0 F' N' sep
  refine byc fun b_=>?_
  obtain ⟨rfl,c,hl,oc,fc,rest,st',sub,nd',ln,wand,fresh,all⟩:=pk0
  refine b_ ?_;clear b_
  clear F N
  have hi':i < ls.length:=by rw [← List.length_map (f:=(·.1))];simpa [strValues] using hi
  obtain ⟨name,t,rfl,hd⟩:∃ name t,v=.str name t∧(ls.map (·.1)).drop i=name::(ls.map (·.1)).drop (i + 1):=by
   refine byc fun b_=>?_
   obtain ⟨t,e⟩:=strAt (ls:=ls) hi'
   refine b_ ?_;clear b_
   refine ⟨(ls.map (·.1)).getD i Str.empty,t,?_,?_⟩
   ·rw [← e,List.getD_eq_getElem?_getD,hP];rfl
   ·rw [List.drop_eq_getElem_cons (by rw [List.length_map];exact hi')]
    simp [List.getD,hi']
  have F:Fr (hideAll s.heap (adrs a o f)) L h (frm ((44,Value.str name t)::l)):=F'
  have N:News (hideAll s.heap (adrs a o f)) L h ((I,oI)::news):=N'
  clear F' N'
  have hd0:=st'.d
  have lo:=st'.lo
  have hm:(c,oc) ∈ (I,oI)::news:=List.mem_cons_of_mem _ (sub _ (List.mem_cons_self ..))
  have hsz:fc.kvs.length ≤ 1000:=Nat.le_trans (AF.kvs_len fc) (Nat.le_trans nodes_le (Nat.le_trans ln (Nat.le_trans (Nat.add_le_add hB (Nat.le_trans (Nat.le_of_lt hi') hz)) (by decide))))
  cases hg:fc.get name with
  | none =>
   have hb:(valueAt fc.kvs name).isSome=false:=by rw [AF.kvs_val,hg];rfl
   k_steps
   rename_i D _ oD F N loD dD _ _ _ l1
   have hD:∀ p ∈ news,p.1 ≠ D:=allLt_ne _ l1.2
   have hID:D ≠ I:=Nat.ne_of_gt l1.1
   have cI:c ≠ I:=sep _ (sub _ (List.mem_cons_self ..))
   have zD:=new_none N all hD
   refine (?_:wpAny _ _ _ _ _ _)
   refine setN F N (List.mem_cons_of_mem _ hm) hd0 (strKind_is _ _ _ _) hsz fun h2 o2 F2 N2 d2=>?_
   have hm2:(c,o2) ∈ ((D,oD)::(I,oI)::news).map (upd c o2):=upd_eq (List.mem_cons_of_mem _ hm)
   clear F
   dsimp only
   k_steps
   refine (?_:wpAny _ _ _ _ _ _)
   rename Fr _ _ _ _=>F3
   rename News _ _ _ _=>N3
   refine kda_item N3 hm2 d2 (strKind_is _ _ _ _) (AF.val_stored (by obtain ⟨_,_,_,_,_,_,hn⟩:=hd0;exact hn)) ?_
   k_steps
   rename Fr _ _ _ _=>F4
   rename News _ _ _ _=>N4
   refine turnG_end F4 (news':=((D,oD)::news).map (upd c o2)) (fun p hp=>N4 p (memSub hp (subC (upd_ne (mT mH) cI.symm) (subC mH fun p hp=>mT (mT hp))))) (fun p hp=>?_) ⟨rfl,D,rfl,Plant.new hg hd st' sub nd' ln wand fresh all hD zD loD dD d2⟩
   refine byc fun b_=>?_
   obtain ⟨q,hq,e⟩:=upd_adr hp
   refine b_ ?_;clear b_
   rw [← e];exact (List.forall_mem_cons (p:=fun q:Addr × Obj=>q.1 ≠ I)).mpr ⟨hID,sep⟩ q hq
  | some x =>
   refine byc fun b_=>?_
   obtain ⟨c',oc',fc'⟩:=x
   refine b_ ?_;clear b_
   have hb:(valueAt fc.kvs name).isSome=true:=by rw [AF.kvs_val,hg];rfl
   k_steps
   refine (?_:wpAny _ _ _ _ _ _)
   refine kda_item N hm hd0 (strKind_is _ _ _ _) (by rw [AF.kvs_val,hg];rfl) ?_
   k_steps
   rename Fr _ _ _ _=>F4
   rename News _ _ _ _=>N4
   exact turnG_end F4 N4 sep ⟨rfl,c',rfl,Plant.old hg hd st' sub nd' ln wand fresh all⟩
 case fin =>
  rintro l news h tk g pk0 F' N'
  refine byc fun b_=>?_
  obtain ⟨rfl,c,hl,oc,fc,rest,st',sub,nd',ln,wand,fresh,all⟩:=pk0
  refine b_ ?_;clear b_
  clear F N
  have F:Fr (hideAll s.heap (adrs a o f)) L h (frm l):=F'
  have N:News (hideAll s.heap (adrs a o f)) L h news:=N'
  clear F' N'
  dsimp only
  have ln':((c,oc)::fc.nodes++rest).length ≤ ((a,o)::f.nodes).length + ls.length:=by rw [strValues,List.length_map] at ln;exact ln
  have hsz:fc.kvs.length ≤ 1000:=Nat.le_trans (AF.kvs_len fc) (Nat.le_trans nodes_le (Nat.le_trans ln' (Nat.le_trans (Nat.add_le_add hB hz) (by decide))))
  have hd0:=st'.d
  have hm:(c,oc) ∈ news:=sub _ (List.mem_cons_self ..)
  k_steps
  rename_i D _ oD F N l1 loD dD _ _ _ _ _
  have hD:∀ p ∈ news,p.1 ≠ D:=fun p hp=>Nat.ne_of_lt (l1 p hp)
  have zD:=new_none N all hD
  refine (?_:wpAny _ _ _ _ _ _)
  refine setN F N (List.mem_cons_of_mem _ hm) hd0 (strKind_is _ _ _ _) hsz fun h2 o2 F2 N2 d2=>?_
  clear F
  dsimp only
  k_steps
  have lz:(strValues ls).length=(ls.map (·.1)).length:=by rw [strValues,List.length_map,List.length_map]
  have hk:stored fc.kvs Str.empty (.ref D)=(fc.set Str.empty D oD .nil).kvs:=AF.stored Str.empty D oD .nil fc (by obtain ⟨_,_,_,_,_,_,hn⟩:=hd0;exact hn)
  have d3:o2.IsDictOf (PySem.strKind prog w) (stored fc.kvs Str.empty (.ref D)):=d2
  rw [hk] at d3
  obtain ⟨O',F',h1',h2',h3',h4'⟩:=wand o2 (fc.set Str.empty D oD .nil) d3 (AF.set_ok (x:=.nil) dD loD (show AF.ok prog w .nil from trivial) fc st'.ok) (by rw [AF.set_erase,lz,List.drop_length];rfl)
  rename Fr _ _ _ _=>F4
  rename News _ _ _ _=>N4
  have pm:=h4'.trans (List.Perm.append_right rest ((AF.set_nodes Str.empty D oD .nil fc).cons (c,o2)))
  have nd2:(((c,o2)::((D,oD)::(AF.nil.nodes++fc.rest Str.empty))++rest).map (·.1)).Nodup:=by
   have sl:(((c,o2)::(fc.rest Str.empty++rest)).map (·.1)).Sublist (((c,oc)::fc.nodes++rest).map (·.1)):=by
    rw [List.map_cons,List.cons_append,List.map_cons,List.map_append,List.map_append]
    exact (List.Sublist.append_right ((AF.rest_sub Str.empty fc).map _) _).cons_cons _
   have n1:=nd'.sublist sl
   have e:((c,o2)::((D,oD)::(AF.nil.nodes++fc.rest Str.empty))++rest).map (·.1)=c::D::(fc.rest Str.empty++rest).map (·.1):=rfl
   rw [e]
   have e2:((c,o2)::(fc.rest Str.empty++rest)).map (·.1)=c::(fc.rest Str.empty++rest).map (·.1):=rfl
   rw [e2] at n1
   have n2:=List.nodup_cons.mp n1
   have dn:D ∉ (fc.rest Str.empty++rest).map (·.1):=fun hm'=>by
    refine byc fun b_=>?_
    obtain ⟨p,hp',e⟩:=List.mem_map.mp hm'
    refine b_ ?_;clear b_
    refine hD p (sub p (List.mem_cons_of_mem _ ?_)) e
    rcases List.mem_append.mp hp' with hp' | hp'
    ·exact List.mem_append_left _ ((AF.rest_sub Str.empty fc).subset hp')
    ·exact List.mem_append_right _ hp'
   refine List.nodup_cons.mpr ⟨fun hm'=>?_,List.nodup_cons.mpr ⟨dn,n2.2⟩⟩
   rcases List.mem_cons.mp hm' with e | hm'
   ·exact hD _ hm e
   ·exact n2.1 hm'
  refine ⟨_,_,rfl,rfl,fun b ob hb e=>F4.keep _ _ (hideAll_get _ e hb),O',F',⟨h1',st.lo,h2'⟩,h3',((pm.map _).nodup_iff).mpr nd2,?_,fun p hp'=>?_⟩
  ·rw [pm.length_eq]
   exact Nat.succ_le_succ (Nat.le_trans (Nat.succ_le_succ (List.Sublist.append_right (AF.rest_sub Str.empty fc) rest).length_le) ln')
  ·have hp2:=pm.mem_iff.mp hp'
   have hin:p ∈ ((D,oD)::news).map (upd c o2):=memSub hp2 (subC (upd_eq (mT hm)) (subC (upd_ne mH fun q=>hD _ hm q.symm) fun p hp2=>by
    have hp3:p ∈ fc.nodes++rest:=(List.Sublist.append_right (AF.rest_sub Str.empty fc) rest).subset hp2
    exact upd_ne (mT (sub p (mT hp3))) fun q=>(List.nodup_cons.mp nd').1 (by rw [← q];exact List.mem_map.mpr ⟨p,hp3,rfl⟩)))
   refine ⟨(N4 p hin).1,?_⟩
   refine byc fun b_=>?_
   obtain ⟨q,hq,e⟩:=upd_adr hin
   refine b_ ?_;clear b_
   rw [← e]
   exact (List.forall_mem_cons (p:=fun q:Addr × Obj=>q.1 ∈ adrs a o f∨s.heap.get? q.1=none)).mpr ⟨.inr zD,fresh⟩ q hq
theorem rs47e:True:=by
 k_with "e47"=>skip
 exact trivial
section
variable {E:Value→Shared→Prop} {h₀:Heap} {L:Addr} {m:Str→Option Value} {env:Env} {scope:Scope} {cl:List (Str × Addr)} {C:Addr} {oC:Obj} {mC:Str→Option Value} {x:Str} {pos:Pos} {v:Value} {Q:Value→Shared→Prop} {news:List (Addr × Obj)}
theorem ldCC {M:Model} (hN:NsObj C oC mC) (hg:s.heap.get? C=some oC) (hv:mC x=some v) (h:Q v s) (hk:(compEnvC scope cl C env).scope.kind=.function) (hl:(compEnvC scope cl C env).kindOf x=some .local) (hd:(x == ("__debug__":Str))=false) :
  wpAny M A (eval (.Name x pos) (compEnvC scope cl C env)) Q E s:=ldC (cenv:=compEnvC scope cl C env) hN hg hv h hk hl hd
theorem itemT {a:Addr} {value slice:Expr} {l:List Value} {k:Nat} {i:Int} {u:Tok} {y:Value} (ha:s.heap.IsTuple a l.toArray) (hi:0 ≤ i∧i < 1000) (hj:seqIndex? i l.length=some k) (hx:l[k]?=some y) (h:Q y s)
  (hs:subscripted slice false (.ref a) (.int i u)=operate [.ref a,.int i u] (getItem (.ref a) (.int i u)):=by with_unfolding_all rfl) (hg:∀ r,letTemporaryGo value (.ref a) r=pure ():=by intro _;with_unfolding_all rfl) :
  wpAny (model prog w) A (subscriptTail value slice (.ref a) (.int i u)) Q E s :=
 item_tupleL ha (by lia) (by lia) hj hx h hs hg
end
theorem rs48m0:True:=by
 k_with "@my cname"=>((try dsimp only);(with_reducible apply ldCC);kpc_g;k_extra "@my newsm";kpc_g;rotate_left;(with_unfolding_all rfl);(with_unfolding_all rfl);decide)
 k_with "@my newsm"=>(apply News.get;kpc_g;k_mem)
 k_with "@eval Name"=>k_dflt (k_extra "@my cname")
 exact trivial
noncomputable def nameLt (a b:Str):Bool:=if Txt.isdigit a then (if Txt.isdigit b then (if a.length == b.length then strLt a b else decide (a.length < b.length)) else true) else if Txt.isdigit b then false else strLt a b
noncomputable def Branches (names out:List Str):Prop:=out.Perm (names.filter fun n=>n != Str.empty)∧out.Pairwise fun a b=>nameLt b a=false
theorem rs48m1:True:=by
 k_with "@call builtin:sorted"=>(fail_if_success k_extra "e48");apply unhold
 k_with "@subscriptTail"=>(fail_if_success k_extra "e48");apply unhold
 k_with "@binaryOp Add ref ref"=>(fail_if_success k_extra "e48");apply unhold
 exact trivial
noncomputable def digEmb (n:Str):List (Ne Str):=[.n (n.length:Int),.o n]
theorem digs_emb (l:List Str):(l.filterMap fun n=>if Txt.isdigit n=true then some [Ne.n (n.length:Int),Ne.o n] else none)=(l.filter fun n=>Txt.isdigit n).map digEmb:=by
 induction l with
 | nil=>rfl
 | cons a l ih =>
  cases h:Txt.isdigit a
  ·simp [h,ih]
  ·simp [h,ih,digEmb]
theorem range_getD {α:Type} (d:α) (l:List α):(List.range l.length).map (fun i=>l.getD i d)=l:=by
 apply List.ext_getElem?
 intro i
 by_cases h:i < l.length
 ·rw [List.getElem?_map,List.getElem?_range h,List.getElem?_eq_getElem h]
  simp [List.getD,h]
 ·rw [List.getElem?_eq_none (by rw [List.length_map,List.length_range];lia),List.getElem?_eq_none (by lia)]
theorem perm_getD {α:Type} (d:α) {l:List α} {p:Array Nat} (h:permB l.length p=true):(p.toList.map fun i=>l.getD i d).Perm l:=by
 have:=(permB_perm h).map (fun i=>l.getD i d)
 rw [range_getD] at this
 exact this
theorem pairs_getD {α:Type} (d:α) {r:α→α→Prop} {l:List α} {p:Array Nat} (h:p.toList.Pairwise fun i j=>r (l.getD i d) (l.getD j d)):(p.toList.map fun i=>l.getD i d).Pairwise r:=List.pairwise_map.mpr h
theorem branches_of {names dn wn o1 o2:List Str} (ed:dn=names.filter fun n=>Txt.isdigit n) (ew:wn=names.filter fun n=>!Txt.isdigit n) (p1:o1.Perm dn) (p2:o2.Perm wn) (s1:o1.Pairwise fun a b=>digLt b a=false) (s2:o2.Pairwise fun a b=>strLt b a=false) :
  (o1++o2).Perm names∧(o1++o2).Pairwise fun a b=>nameLt b a=false:=by
 have d1:∀ a ∈ o1,Txt.isdigit a=true:=fun a ha=>by
  have:=p1.mem_iff.mp ha
  rw [ed] at this;exact (List.mem_filter.mp this).2
 have d2:∀ a ∈ o2,Txt.isdigit a=false:=fun a ha=>by
  have:=p2.mem_iff.mp ha
  rw [ew] at this;simpa using (List.mem_filter.mp this).2
 refine ⟨(p1.append p2).trans ?_,List.pairwise_append.mpr ⟨?_,?_,?_⟩⟩
 ·rw [ed,ew];exact List.filter_append_perm _ _
 ·refine List.Pairwise.imp_of_mem (fun {a b} ha hb h=>?_) s1
  unfold nameLt
  rw [if_pos (d1 b hb),if_pos (d1 a ha)]
  exact h
 ·refine List.Pairwise.imp_of_mem (fun {a b} ha hb h=>?_) s2
  unfold nameLt
  rw [if_neg (by rw [d2 b hb];decide),if_neg (by rw [d2 a ha];decide)]
  exact h
 ·intro a ha b hb
  unfold nameLt
  rw [if_neg (by rw [d2 b hb];decide),if_pos (d1 a ha)]
theorem allIs_strs {h:Heap} {vs:List Value} {as:List Str} (x:AllIs StrIs h vs as):∃ ls:List (Str × Tok),vs=strValues ls∧ls.map (·.1)=as:=by
 induction x with
 | nil=>exact ⟨[],rfl,rfl⟩
 | cons a _ ih =>
  refine byc fun b_=>?_
  obtain ⟨t,e⟩:=a
  obtain ⟨ls,e1,e2⟩:=ih
  exact b_ ⟨(_,t)::ls,by rw [e,e1];rfl,by rw [← e2];rfl⟩
theorem allIs_snoc {α:Type} {is:Heap→Value→α→Prop} {h:Heap} {v:Value} {a:α} {vs:List Value} {as:List α} (x:AllIs is h vs as) (y:is h v a):AllIs is h (vs++[v]) (as++[a]):=by
 induction x with
 | nil=>exact .cons y .nil
 | cons z _ ih=>exact .cons z ih
theorem sv_at {ls:List (Str × Tok)} {i:Nat} {v:Value} (h:(strValues ls)[i]?=some v):∃ name t,v=.str name t∧ls[i]?=some (name,t)∧(ls.map (·.1))[i]?=some name:=by
 rw [strValues,List.getElem?_map] at h
 cases e:ls[i]? with
 | none=>rw [e] at h;cases h
 | some p =>
  rw [e] at h
  cases h
  exact ⟨p.1,p.2,rfl,rfl,by rw [List.getElem?_map,e];rfl⟩
theorem filterMap_step {α β:Type} {f:α→Option β} {l:List α} {i:Nat} {a:α} (h:l[i]?=some a):(l.take (i + 1)).filterMap f=(l.take i).filterMap f++(f a).toList:=by
 rw [List.take_add_one,h,List.filterMap_append]
 cases e:f a <;> simp [e]
theorem strKey_at {es:Array DictEntry} {kvs:List (Str × Value)} {i:Nat} {e:DictEntry} (hk:PySem.KeysOf (PySem.strKind prog w) es) (hp:Pairs (PySem.strKind prog w) es.toList kvs) (he:es[i]?=some e):∃ name t,e.key=.str name t∧(kvs.map (·.1))[i]?=some name:=by
 have hi:i < kvs.length:=by
  have h1:=hp.length
  have h2:i < es.size:=by
   rcases Nat.lt_or_ge i es.size with h | h
   ·exact h
   ·rw [Array.getElem?_eq_none h] at he;cases he
  rw [Array.length_toList] at h1;lia
 have hx:kvs[i]?=some (kvs[i].1,kvs[i].2):=by simp [hi]
 have:=(hp.get? (e:=e) (by rw [Array.getElem?_toList];exact he) hx).1
 refine ⟨kvs[i].1,?_⟩
 cases hv:e.key with
 | str x t =>
  rw [hv] at this
  have e1:x=kvs[i].1:=by simpa [PySem.strKind,Value.isStrOf] using this
  exact ⟨t,by rw [← e1],by rw [List.getElem?_map,hx];rfl⟩
 | _=>rw [hv] at this;simp [PySem.strKind,Value.isStrOf] at this
set_option tactic.hygienic true in
theorem branch_spec {a:Addr} {kvs:List (Str × Value)} (hA:A.handled=none) (X:(hd.heap_1 w.params).In s.heap) (T:Top p loose mean mg mb s.heap) (r:Rm A 3) (ha:s.heap.DictOf (PySem.strKind prog w) a kvs) (lo:(a == sysModules)=false) (hz:kvs.length ≤ 6) (h5:((kvs.map (·.1)).filter fun n=>n != Str.empty).length ≤ 5) (hl:∀ n ∈ kvs.map (·.1),n.length ≤ 1000) :
  codeAny (model prog w) A (.call (.ref 443) ⟨[.ref a],[]⟩) (Ret s fun v h'=>∃ x ls n,v=.ref x∧s.heap.get? x=none∧h'.get? x=some (listOf (strValues ls).toArray n)∧Branches (kvs.map (·.1)) (ls.map (·.1))) s:=by
 refine byc fun b_=>?_
 obtain ⟨o,es,ep,ho,hx,hdt,hk,hpr,hnd⟩:=ha
 obtain ⟨hA',dA,fA,gA,uA⟩:=A
 obtain rfl:hA'=none:=hA
 refine b_ ?_;clear b_
 apply enter (w:=w) [("tree",.ref a)] [(42,.ref a)] X T
 walk_at "my enter"
 case hnm=>exact namesC nx_tree (namesN)
 intro L h1 tk F N
 refine addLoc nx_tree (by kernel_rfl!) ?_;intro n_tree
 refine addLoc nx_names (by kernel_rfl!) ?_;intro n_names
 refine addLoc nx_digits (by kernel_rfl!) ?_;intro n_digits
 refine addBlt (w:=w) bk_sorted (by kernel_rfl!) ?_;intro n_sorted
 k_steps
 rename Fr _ _ _ _=>F
 rename News _ _ _ _=>N
 show CompNext _ _ _ _ _ _ _ _ _ _ _ _ _ _ _ _ _
 refine' comp_assignN (L:=L) ?e1 ?e2 ?e3 nx_names (iters_dict ?hh lo hx hdt) ?n1 ?cell ?e4 ?e5 ?F ?N (fun _=>strValues) (fun i ls=>ls.map (·.1)=((kvs.map (·.1)).take i).filter fun n=>n != Str.empty) [] rfl rfl ?hax ?turn ?fin
 case e1=>rfl
 case e2=>rfl
 case e3=>rfl
 case e4=>rfl
 case e5=>rfl
 case hh=>rfl
 case F=>exact F
 case N=>exact N
 case cell=>decide
 case n1=>have:=hpr.length;rw [Array.length_toList] at this;lia
 case hax=>exact fun h F' _=>F'.keep _ _ ho
 case turn =>
  rintro I C D i v ls oI oC nD h tk mC hi ⟨e,hP,rfl⟩ hls F' N' sep hNO hv
  clear F N
  refine byc fun b_=>?_
  obtain ⟨name,t,ev,hn⟩:=strKey_at hk hpr hP
  refine b_ ?_;clear b_
  rw [ev] at hv
  refine one_test ?_
  k_steps
  all_goals (try dsimp only)
  ·rename _=true=>hne
   exact compTurn_end F' N' sep ⟨ls++[(name,t)],List.map_append,rfl,rfl,by rw [List.map_append,hls,List.take_add_one,hn,List.filter_append];simp only [Option.toList,List.filter_cons,List.filter_nil];rw [if_pos (show (name != Str.empty)=true from hne)];rfl⟩
  ·rename _=false=>hne
   exact compTurn_end F' N' sep ⟨ls,rfl,rfl,rfl,by rw [hls,List.take_add_one,hn,List.filter_append];simp only [Option.toList,List.filter_cons,List.filter_nil];rw [if_neg (by rw [show (name != Str.empty)=false from hne];decide),List.append_nil]⟩
 case fin =>
  intro D ls h tk nD hls F' N' sep
  clear F N
  have lk:es.size=(kvs.map (·.1)).length:=by rw [← Array.length_toList,hpr.length,List.length_map]
  rw [lk,List.take_length] at hls
  have l5:ls.length ≤ 5:=by rw [← List.length_map (f:=(·.1)),hls];exact h5
  clear sep
  k_steps
  rename Fr _ _ _ _=>F
  rename News _ _ _ _=>N
  show CompNext _ _ _ _ _ _ _ _ _ _ _ _ _ _ _ _ _
  refine' comp_assign (L:=L) ?e1 ?e2 ?e3 nx_digits (iters_list (vs:=strValues ls) (k:=nD) ?hh) ?n1 ?cell ?e4 ?e5 ?F ?N (fun i out news g=>g=s.gens∧(D,W.listOf (strValues ls).toArray nD) ∈ news∧(∀ h,News s.heap L h news→AllIs (TupIs (Ne.is StrIs)) h out (((ls.map (·.1)).take i).filterMap fun n=>if Txt.isdigit n then some [Ne.n (n.length:Int),Ne.o n] else none))) ?h0 ?hax ?turn ?fin
  case e1=>rfl
  case e2=>rfl
  case e3=>rfl
  case e4=>rfl
  case e5=>rfl
  case hh=>rfl
  case F=>exact F
  case N=>exact N
  case cell=>decide
  case n1=>rw [strValues,List.length_map];lia
  case h0=>exact ⟨rfl,List.mem_cons_self ..,fun _ _=>.nil⟩
  case hax=>exact fun i out news h g hJ _ N'=>(N' _ hJ.2.1).1
  case turn =>
   rintro I C D2 i v out news g oI oC nD2 h tk mC hi hP hlen ⟨rfl,hD,hall⟩ F' N' sep hNO hv
   clear F N
   have hi':i < ls.length:=by simpa [strValues] using hi
   refine byc fun b_=>?_
   obtain ⟨name,t,rfl,_,hn⟩:=sv_at hP
   refine b_ ?_;clear b_
   have hl1:name.length ≤ 1000:=hl name (by have:=List.mem_of_getElem? hn;rw [hls] at this;exact (List.mem_filter.mp this).1)
   refine one_test ?_
   k_steps
   ·rename_i dg D3 _ F3 N3 l3
    refine compTurn_end F3 (news':=(D3,{ cls:=.type "tuple",data:=.seq #[.int name.length (tk + 1),.str name t] })::news) (fun p hp=>N3 p ?_) (fun p hp=>?_) ⟨rfl,List.mem_cons_of_mem _ hD,fun h4 N4=>?_⟩
    ·exact memSub hp (by walk_at "my sub")
    ·revert p;exact List.forall_mem_cons.mpr ⟨⟨Nat.ne_of_gt l3.1,Nat.ne_of_gt l3.2.1,Nat.ne_of_gt l3.2.2.1⟩,sep⟩
    ·rw [filterMap_step hn,if_pos dg]
     exact allIs_snoc (hall h4 fun p hp=>N4 p (List.mem_cons_of_mem _ hp)) ⟨D3,_,_,_,rfl,(N4 _ (List.mem_cons_self ..)).1,rfl,rfl,.cons ⟨_,rfl⟩ (.cons ⟨_,rfl⟩ .nil)⟩
   ·rename_i dg
    refine compTurn_end F' N' sep ⟨rfl,hD,fun h4 N4=>?_⟩
    rw [filterMap_step hn,if_neg (by rw [dg];decide)]
    simpa using hall h4 N4
  case fin =>
   rintro D2 out news g h tk nD2 ⟨rfl,hD,hall⟩ hl2 F' N' sep
   clear F N
   have lk2:(strValues ls).length=(ls.map (·.1)).length:=by rw [strValues,List.length_map,List.length_map]
   rw [lk2,List.take_length,digs_emb] at hall
   refine byc fun b_=>?_
   obtain ⟨dn,edn⟩:∃ dn,dn=(ls.map (·.1)).filter fun n=>Txt.isdigit n:=⟨_,rfl⟩
   refine b_ ?_;clear b_
   rw [← edn] at hall
   have ldn:dn.length ≤ 5:=by rw [edn];exact Nat.le_trans (List.length_filter_le _ _) (by rw [List.length_map];exact l5)
   have lo':out.length=dn.length:=by have:=(hall h fun p hp=>N' p (List.mem_cons_of_mem _ hp)).length;rw [List.length_map] at this;exact this
   k_steps
   show wpAny _ _ _ _ _ _
   refine' sorted_tups (α:=Str) (γ:=Str) (vs:=out) (as:=dn) Str.empty digEmb digLt (is:=StrIs) (eqf:=fun a b=>a == b) (opf:=strLt) (ok:=fun _ _=>True) (fun s' _=>⟨kdStrL,rfl,rfl,rfl,rfl⟩) ?hni digTot.ord dig_neLt ?F ?N ?hl ?h5 ?hv ?hh ?hok ?fin
   case F=>exact F'
   case N=>exact N'
   case hl=>exact ⟨_,(N' _ (List.mem_cons_self ..)).1,rfl,_,rfl⟩
   case hni=>rintro h i t a ⟨t',e⟩;cases e
   case h5=>lia
   case hv=>exact fun h _ N=>hall h fun p hp=>N p (List.mem_cons_of_mem _ hp)
   case hh =>
    intro a ha
    refine byc fun b_=>?_
    obtain ⟨n,_,rfl⟩:=List.mem_map.mp ha
    refine b_ ?_;clear b_
    exact ⟨_,_,rfl⟩
   case hok=>exact fun a _ b _=>⟨trivial,trivial⟩
   case fin =>
    intro DS cS h3 tk3 p hp hsrt F3 N3 sepS
    clear F' N'
    have hp':permB dn.length p=true:=by rw [← lo'];exact hp
    have pr:∀ i ∈ p.toList,i < dn.length:=fun i hi=>List.mem_range.mp ((permB_perm hp').mem_iff.mp hi)
    have lp:p.toList.length=dn.length:=by rw [(permB_perm hp').length_eq,List.length_range]
    show CompNext _ _ _ _ _ _ _ _ _ _ _ _ _ _ _ _ _
    refine' comp_evalN (L:=L) (iters_list (vs:=p.toList.map fun i=>out.getD i .none) (k:=cS) ?hh) ?n1 ?cell ?e4 ?e5 ?F ?N (fun _=>strValues) (fun i l2=>l2.map (·.1)=(p.toList.map fun i=>dn.getD i Str.empty).take i) [] rfl rfl ?hax ?turn ?fin
    case hh=>rfl
    case e4=>rfl
    case e5=>rfl
    case cell=>decide
    case F=>exact F3
    case N=>exact N3
    case n1=>rw [List.length_map,lp];lia
    case hax=>exact fun h _ N'=>(N' _ mH).1
    case turn =>
     intro I C D4 i v l2 oI oC nD4 h tk mC hi hP hl2 F' N' sep hNO hv
     rw [List.length_map,lp] at hi
     obtain ⟨j,hj,ej⟩:∃ j,p.toList[i]?=some j∧v=out.getD j .none:=by
      rw [List.getElem?_map] at hP
      refine byc fun b_=>?_
      obtain ⟨j,h1,h2⟩:=Option.map_eq_some_iff.mp hP
      refine b_ ?_;clear b_
      exact ⟨j,h1,h2.symm⟩
     have hj2:=pr j (List.mem_of_getElem? hj)
     obtain ⟨al,ea,ta⟩:=allIs_at (hall h fun q hq=>N' q (List.mem_cons_of_mem _ (List.mem_cons_of_mem _ (List.mem_cons_of_mem _ (List.mem_cons_of_mem _ (List.mem_cons_of_mem _ hq)))))) (by rw [lo'];exact hj2)
     rw [← ej] at ta
     obtain ⟨nm,en,rfl⟩:∃ nm,dn[j]?=some nm∧al=digEmb nm:=by
      rw [List.getElem?_map] at ea
      refine byc fun b_=>?_
      obtain ⟨nm,h1,h2⟩:=Option.map_eq_some_iff.mp ea
      refine b_ ?_;clear b_
      exact ⟨nm,h1,h2.symm⟩
     refine byc fun b_=>?_
     obtain ⟨tp,ot,it,kt,rfl,hot,hct,hdt',hit⟩:=ta
     refine b_ ?_;clear b_
     have hit2:∃ u t,it=[u,Value.str nm t].toArray:=by
      have h9:=hit
      generalize hil:it.toList=il at h9
      cases h9 with
      | @cons u _ vs _ h1 h2 =>
       cases h2 with
       | @cons v2 _ vs2 _ h3 h4 =>
        cases h4
        refine byc fun b_=>?_
        obtain ⟨t,rfl⟩:=h3
        refine b_ ?_;clear b_
        exact ⟨u,t,by rw [← hil,Array.toArray_toList]⟩
     refine byc fun b_=>?_
     obtain ⟨u,t,rfl⟩:=hit2
     refine b_ ?_;clear b_
     clear F3 N3
     refine no_tests ?_
     rw [if_pos rfl]
     k_steps
     show wpAny _ _ _ _ _ _
     refine itemT (k:=1) ⟨ot,hot,hct,kt,hdt'⟩ (by decide) rfl rfl ?_
     have e9:(p.toList.map fun i=>dn.getD i Str.empty)[i]?=some nm:=by rw [List.getElem?_map,hj];simp [List.getD,en]
     exact compTurn_end F' N' sep ⟨l2++[(nm,t)],List.map_append,rfl,rfl,by rw [List.map_append,hl2,← take_snoc e9];rfl⟩
    case fin =>
     intro D4 l2 h tk nD4 hl2 F4 N4 sep4
     clear F3 N3
     have lq:(p.toList.map fun i=>out.getD i .none).length=(p.toList.map fun i=>dn.getD i Str.empty).length:=by rw [List.length_map,List.length_map]
     rw [lq,List.take_length] at hl2
     k_steps
     show CompNext _ _ _ _ _ _ _ _ _ _ _ _ _ _ _ _ _
     rename Fr _ _ _ _=>F5
     rename News _ _ _ _=>N5
     refine byc fun b_=>?_
     obtain ⟨nw,enw,N5⟩:=ex_led N5
     refine b_ ?_;clear b_
     have hDn:(D,W.listOf (strValues ls).toArray nD) ∈ nw:=by rw [enw];simp [hD]
     refine' comp_evalN (L:=L) (iters_list (vs:=strValues ls) (k:=nD) ?hh) ?n1 ?cell ?e4 ?e5 ?F ?N (fun _=>strValues) (fun i l3=>l3.map (·.1)=((ls.map (·.1)).take i).filter fun n=>!Txt.isdigit n) [] rfl rfl ?hax ?turn ?fin
     case hh=>rfl
     case e4=>rfl
     case e5=>rfl
     case cell=>decide
     case F=>exact F5
     case N=>exact N5
     case n1=>rw [strValues,List.length_map];lia
     case hax=>exact fun h _ N'=>(N' _ hDn).1
     case turn =>
      intro I C D6 i v l3 oI oC nD6 h tk mC hi hP hl3 F' N' sep hNO hv
      clear F5 N5
      refine byc fun b_=>?_
      obtain ⟨name,t,rfl,_,hn⟩:=sv_at hP
      refine b_ ?_;clear b_
      refine one_test ?_
      k_steps
      all_goals (try dsimp only)
      all_goals rename Txt.isdigit _=_=>hdg
      ·exact compTurn_end F' N' sep ⟨l3,rfl,rfl,rfl,by rw [hl3,List.take_add_one,hn,List.filter_append];simp [hdg]⟩
      ·exact compTurn_end F' N' sep ⟨l3++[(name,t)],List.map_append,rfl,rfl,by rw [List.map_append,hl3,List.take_add_one,hn,List.filter_append];simp [hdg]⟩
     case fin =>
      intro D6 l3 h tk nD6 hl3 F6 N6 sep6
      clear F5 N5
      k_steps
      show wpAny _ _ _ _ _ _
      rw [lk2,List.take_length] at hl3
      have l35:l3.length ≤ 5:=by rw [← List.length_map (f:=(·.1)),hl3];exact Nat.le_trans (List.length_filter_le _ _) (by rw [List.length_map];exact l5)
      have l25:l2.length ≤ 5:=by rw [← List.length_map (f:=(·.1)),hl2,List.length_map,lp];exact ldn
      refine sorted_strs F6 N6 ⟨_,(N6 _ (List.mem_cons_self ..)).1,rfl,_,rfl⟩ l35 fun D7 c7 h7 tk7 p7 hp7 hs7 F7 N7 sep7=>?_
      obtain ⟨l4,e4,m4⟩:∃ l4:List (Str × Tok),(p7.toList.map fun i=>(strValues l3).getD i .none)=strValues l4∧l4.map (·.1)=p7.toList.map fun i=>(l3.map (·.1)).getD i Str.empty:=by
       have:AllIs StrIs h7 (p7.toList.map fun i=>(strValues l3).getD i .none) (p7.toList.map fun i=>(l3.map (·.1)).getD i Str.empty):=by
        have hb:∀ i ∈ p7.toList,i < l3.length:=fun i hi=>List.mem_range.mp ((permB_perm hp7).mem_iff.mp hi)
        generalize p7.toList=il at hb
        induction il with
        | nil=>exact .nil
        | cons i il ih =>
         refine byc fun b_=>?_
         obtain ⟨t,e⟩:=strAt (hb i (List.mem_cons_self ..))
         refine b_ ?_;clear b_
         exact .cons ⟨t,e⟩ (ih fun j hj=>hb j (List.mem_cons_of_mem _ hj))
       refine byc fun b_=>?_
       obtain ⟨l4,e1,e2⟩:=allIs_strs this
       refine b_ ?_;clear b_
       exact ⟨l4,e1,e2⟩
      rw [e4] at N7
      clear F6 N6
      k_steps
      show wpAny _ _ _ _ _ _
      rename Fr _ _ _ _=>F8
      rename News _ _ _ _=>N8
      refine add_lists (vs:=strValues l2) (ws:=strValues l4) F8 N8 ⟨_,(N8 _ (List.mem_cons_of_mem _ (List.mem_cons_of_mem _ (by rw [enw];exact List.mem_cons_self ..)))).1,rfl,_,rfl⟩ ⟨_,(N8 _ (List.mem_cons_self ..)).1,rfl,_,rfl⟩ (fun h9 F9 N9=>?_) ?_
      ·have b:=N9 _ (List.mem_cons_self ..)
       k_steps
       refine ret_end F9 ⟨_,l2++l4,0,rfl,b.2.2,?_,?_⟩
       ·rw [b.1,show strValues (l2++l4)=strValues l2++strValues l4 from List.map_append]
       ·rw [List.map_append,hl2,m4]
        have hp7':permB (l3.map (·.1)).length p7=true:=by rw [List.length_map];exact hp7
        have B:=branches_of edn hl3 (perm_getD Str.empty hp') (perm_getD Str.empty hp7') (pairs_getD Str.empty (r:=fun a b=>digLt b a=false) hsrt) (pairs_getD Str.empty (r:=fun a b=>strLt b a=false) hs7)
        rw [hls] at B
        exact B
      ·have h1:(strValues l2).length=l2.length:=by rw [strValues,List.length_map]
       have h2:(strValues l4).length ≤ 5:=by rw [← e4,List.length_map,(permB_perm hp7).length_eq,List.length_range];exact l35
       rw [sizeLine_eq];lia
theorem rs48e:True:=by
 k_with "e48"=>skip
 exact trivial
inductive Each {α β:Type} (P:α→β→Prop):List α→List β→Prop
 | nil:Each P [] []
 | cons {a:α} {b:β} {as:List α} {bs:List β}:P a b→Each P as bs→Each P (a::as) (b::bs)
theorem Each.snoc {α β:Type} {P:α→β→Prop} {a:α} {b:β} {as:List α} {bs:List β} (x:Each P as bs) (y:P a b):Each P (as++[a]) (bs++[b]):=by
 induction x with
 | nil=>exact .cons y .nil
 | cons z _ ih=>exact .cons z ih
noncomputable def WalkR:Nat→Fo→Str→List Str→Prop
 | 0,_,_,_=>False
 | k + 1,f,head,res=>∃ out parts,Branches f.keys out∧res=parts.flatten ∧
   Each (fun n part=>∃ c sub,f.get n=some c∧WalkR k c (head++n++".") sub∧part=(if (c.get Str.empty).isSome then [head++n] else [])++sub) out parts
noncomputable def Fo.fine:Nat→Fo→Prop
 | 0,f=>f.keys.length ≤ 5∧∀ n ∈ f.keys,n=Str.empty
 | k + 1,f=>f.keys.length ≤ 5∧(∀ n ∈ f.keys,n.length ≤ 50)∧∀ n c,n ≠ Str.empty→f.get n=some c→c.fine k
noncomputable def walkLim:Nat→Nat
 | 0=>0
 | k + 1=>5 * (1 + walkLim k)
noncomputable def ChildAt (prog:Program) (w:World) (h:Heap):List (Str × Value)→Fo→Prop
 | [],.nil=>True
 | (n,v)::kv,.cons m c r=>n=m∧(∃ a kvs,v=.ref a∧(a == sysModules)=false∧h.DictOf (PySem.strKind prog w) a kvs∧ChildAt prog w h kvs c)∧ChildAt prog w h kv r
 | _,_=>False
noncomputable def TrAt (prog:Program) (w:World) (h:Heap) (a:Addr) (f:Fo):Prop:=(a == sysModules)=false∧∃ kvs,h.DictOf (PySem.strKind prog w) a kvs∧ChildAt prog w h kvs f
theorem ChildAt.keep {h h':Heap} (g:Grown h h'):∀ {f:Fo} {kvs:List (Str × Value)},ChildAt prog w h kvs f→ChildAt prog w h' kvs f:=by
 intro f
 induction f with
 | nil=>intro kvs x;cases kvs with
  | nil=>trivial
  | cons=>exact x
 | cons m c r ihc ihr=>intro kvs x;cases kvs with
  | nil=>exact x
  | cons p kv =>
   refine byc fun b_=>?_
   obtain ⟨e,⟨a,kvs,e2,lo,hd,hc⟩,hr⟩:=x
   exact b_ ⟨e,⟨a,kvs,e2,lo,hd.keep g,ihc hc⟩,ihr hr⟩
theorem TrAt.keep {h h':Heap} (g:Grown h h') {a:Addr} {f:Fo} (t:TrAt prog w h a f):TrAt prog w h' a f:=let ⟨lo,kvs,hd,hc⟩:=t;⟨lo,kvs,hd.keep g,hc.keep g⟩
theorem ChildAt.keys {h:Heap} {kvs:List (Str × Value)}:∀ {f:Fo},ChildAt prog w h kvs f→kvs.map (·.1)=f.keys:=by
 induction kvs with
 | nil=>intro f x;cases f with
  | nil=>rfl
  | cons=>exact x.elim
 | cons p kv ih=>intro f x;cases f with
  | nil=>exact x.elim
  | cons m c r=>rw [List.map_cons,ih x.2.2,Fo.keys_c,x.1]
theorem ChildAt.get {h:Heap} {n:Str} {c:Fo} {kvs:List (Str × Value)}:∀ {f:Fo},ChildAt prog w h kvs f→f.get n=some c→∃ a,valueAt kvs n=some (.ref a)∧TrAt prog w h a c:=by
 induction kvs with
 | nil=>intro f x;cases f with
  | nil=>exact fun hg=>nomatch hg
  | cons=>exact x.elim
 | cons p kv ih=>intro f x;cases f with
  | nil=>exact x.elim
  | cons m c' r =>
   intro hg
   rw [Fo.get_c] at hg
   rw [valueAt,List.find?_cons,x.1]
   by_cases q:m=n
   ·rw [if_pos q] at hg
    rw [decide_eq_true q]
    refine byc fun b_=>?_
    obtain ⟨a,kvs,e2,lo,hd,hc⟩:=x.2.1
    exact b_ ⟨a,congrArg some e2,lo,kvs,hd,Option.some.inj hg ▸ hc⟩
   ·rw [if_neg q] at hg
    rw [decide_eq_false q]
    exact ih x.2.2 hg
theorem ChildAt.some {h:Heap} (n:Str) {kvs:List (Str × Value)}:∀ {f:Fo},ChildAt prog w h kvs f→(valueAt kvs n).isSome=(f.get n).isSome:=by
 induction kvs with
 | nil=>intro f x;cases f with
  | nil=>rfl
  | cons=>exact x.elim
 | cons p kv ih=>intro f x;cases f with
  | nil=>exact x.elim
  | cons m c r =>
   rw [Fo.get_c,valueAt,List.find?_cons,x.1]
   by_cases q:m=n
   ·rw [if_pos q,decide_eq_true q];rfl
   ·rw [if_neg q,decide_eq_false q];exact ih x.2.2
theorem Fo.get_key {f:Fo} {n:Str}:n ∈ f.keys→∃ c,f.get n=some c:=by
 induction f with
 | nil=>exact fun h=>nomatch h
 | cons m c r _ ih =>
  intro h
  by_cases q:m=n
  ·exact ⟨c,if_pos q⟩
  ·rcases List.mem_cons.mp h with h | h
   ·exact absurd h.symm q
   ·exact (ih h).imp fun _ e=>(if_neg q).trans e
section
variable {Q:Value→Shared→Prop} {E:Value→Shared→Prop} {h₀:Heap} {L:Addr} {m:Str→Option Value} {news:List (Addr × Obj)}
theorem useO {f:Value} {args:List Value} {Post:Addr→Obj→Prop} (F:Fr h₀ L s.heap m) (N:News h₀ L s.heap news)
  (C:codeAny (model prog w) A (.call f ⟨args,[]⟩) (Ret s fun v h'=>∃ x o,v=.ref x∧s.heap.get? x=none∧h'.get? x=some o∧Post x o) s)
  (h:∀ x o h' tk,Fr h₀ L h' m→News h₀ L h' ((x,o)::news)→(∀ p ∈ news,p.1 ≠ x)→Post x o→Q (.ref x) { s with heap:=h',toks:=tk }):wpAny (model prog w) A (call f args) Q E s :=
 useF F N C fun v h' tk F' N' pk0=>by
  obtain ⟨x,o,e,hn,ho,hp⟩:=pk0
  refine byc fun b_=>?_
  subst e
  refine b_ ?_;clear b_
  exact h x o h' tk F' (News.cons F N' ho hn) (fun p hp q=>by rw [← q,(N p hp).1] at hn;cases hn) hp
end
inductive TextsO (P:List Str→Prop) (uu:Addr) (o:Obj):Prop
 | mk (ls n:_) (cj1:o=W.listOf (strValues ls).toArray n) (cj2:P (ls.map (·.1))):TextsO P uu o
theorem branch_O {a:Addr} {f:Fo} (hA:A.handled=none) (X:(hd.heap_1 w.params).In s.heap) (T:Top p loose mean mg mb s.heap) (r:Rm A 3) (ha:TrAt prog w s.heap a f) (h5:f.keys.length ≤ 5) (hl:∀ n ∈ f.keys,n.length ≤ 1000) :
  codeAny (model prog w) A (.call (.ref 443) ⟨[.ref a],[]⟩) (Ret s fun v h'=>∃ x o,v=.ref x∧s.heap.get? x=none∧h'.get? x=some o∧TextsO (Branches f.keys) x o) s:=by
 refine byc fun b_=>?_
 obtain ⟨lo,kvs,hd,hc⟩:=ha
 refine b_ ?_;clear b_
 have e:=hc.keys
 have z:kvs.length ≤ 5:=by rw [← List.length_map (f:=(·.1)),e];exact h5
 refine codeAny_mono (branch_spec hA X T r hd lo (by lia) (by rw [e];exact Nat.le_trans (List.length_filter_le _ _) h5) (by rw [e];exact hl)) fun rr s' hr=>?_
 refine byc fun b_=>?_
 obtain ⟨v,h',tk,e1,e2,k,x,ls,n,e3,h1,h2,h3⟩:=hr
 refine b_ ?_;clear b_
 exact ⟨v,h',tk,e1,e2,k,x,_,e3,h1,h2,ls,n,rfl,by rw [← e];exact h3⟩
theorem rs50m0:True:=by
 k_with "@call ref"=>(fail_if_success k_extra "e50");apply unhold
 k_with "@subscriptTail"=>(fail_if_success k_extra "e50");apply unhold
 k_with "@compareOp In str ref"=>(fail_if_success k_extra "e50");apply unhold
 k_with "@binaryOp Add ref ref"=>(fail_if_success k_extra "e50");apply unhold
 k_with "@call builtin:list.append"=>(fail_if_success k_extra "e50");apply unhold
 exact trivial
theorem item_h {E:Value→Shared→Prop} {d:Addr} {kvs:List (Str × Value)} {k:Str} {t:Tok} {v:Value} {value slice:Expr} {Q:Value→Shared→Prop} (hD:s.heap.DictOf (PySem.strKind prog w) d kvs) (hl:valueAt kvs k=some v) (h:Q v { s with toks:=s.toks + 1 })
  (hs:subscripted slice false (.ref d) (.str k t)=operate [.ref d,.str k t] (getItem (.ref d) (.str k t)):=by with_unfolding_all rfl) (hg:∀ r,letTemporaryGo value (.ref d) r=pure ():=by intro _;with_unfolding_all rfl) :
  wpAny (model prog w) A (subscriptTail value slice (.ref d) (.str k t)) Q E s :=
 subscriptTail_builtin hD.typeIs slot_dict_getitem.lookup (wpAny_getItem_of (strKind_is _ _ _ _) hD.mapOf hl h) hs hg
theorem in_h {E:Value→Shared→Prop} {d:Addr} {kvs:List (Str × Value)} {k:Str} {t:Tok} {b:Bool} {Q:Value→Shared→Prop} (hD:s.heap.DictOf (PySem.strKind prog w) d kvs) (lo:(d == sysModules)=false) (hb:(valueAt kvs k).isSome=b) (h:Q (.bool b) { s with toks:=s.toks + 1 }) :
  wpAny (model prog w) A (compareOp .In (.str k t) (.ref d)) Q E s:=wpAny_in_of (strKind_is _ _ _ _) lo hD.mapOf (by rw [hb];exact h)
theorem newsSw {h₀ h:Heap} {L:Addr} {x y:Addr × Obj} {r:List (Addr × Obj)} (N:News h₀ L h (x::y::r)):News h₀ L h (y::x::r):=fun p hp=>N p (memSub hp (subC (mT mH) (subC mH fun _ h=>mT (mT h))))
noncomputable def PartOf (Sub:Fo→Str→List Str→Prop) (f:Fo) (head n:Str) (part:List Str):Prop:=∃ c sub,f.get n=some c∧Sub c (head++n++".") sub∧part=(if (c.get Str.empty).isSome then [head++n] else [])++sub
inductive WkJ (g0:Array GenState) (a:Addr) (head:Str) (t:Tok) (Sub:Fo→Str→List Str→Prop) (f:Fo) (m:Nat) (Db:Addr) (lb:List (Str × Tok)) (nb:Nat) (i:Nat) (l:List (Nat × Value)) (news:List (Addr × Obj)) (g:Array GenState):Prop
 | mk (e1:g=g0) (l1:l.lookup 42=some (.ref a)) (l2:l.lookup 48=some (.str head t)) (D:Addr) (lf:List (Str × Tok)) (nf:Nat) (rest:List (Addr × Obj)) (parts:List (List Str)) (l3:l.lookup 49=some (.ref D)) (e2:news=(D,listOf (strValues lf).toArray nf)::rest) (sep:∀ q ∈ rest,q.1 ≠ D) (hD:(Db,listOf (strValues lb).toArray nb) ∈ rest)
  (hf:lf.map (·.1)=parts.flatten) (hE:Each (PartOf Sub f head) ((lb.map (·.1)).take i) parts) (hl:lf.length ≤ i * (1 + m)):WkJ g0 a head t Sub f m Db lb nb i l news g
set_option maxHeartbeats 800000 in
theorem walk_step {K:Nat} {f:Fo} {Sub:Fo→Str→List Str→Prop} {m:Nat} (h5:f.keys.length ≤ 5) (h50:∀ n ∈ f.keys,n.length ≤ 50) (hm:5 * (1 + m) ≤ 900)
  (IH:∀ n c,n ≠ Str.empty→f.get n=some c→∀ {A:Around} {s:Shared} {a:Addr} {head:Str} {t:Tok},A.handled=none→(hd.heap_1 w.params).In s.heap→Top p loose mean mg mb s.heap→Rm A (4 + K)→TrAt prog w s.heap a c→head.length + 60 * (K + 1) ≤ 1000 →
   codeAny (model prog w) A (.call (.ref 450) ⟨[.ref a,.str head t],[]⟩) (Ret s fun v h'=>∃ x o,v=.ref x∧s.heap.get? x=none∧h'.get? x=some o∧TextsO (fun res=>Sub c head res∧res.length ≤ m) x o) s)
  {A:Around} {s:Shared} {a:Addr} {head:Str} {t:Tok} (hA:A.handled=none) (X:(hd.heap_1 w.params).In s.heap) (T:Top p loose mean mg mb s.heap) (r:Rm A (5 + K)) (ta:TrAt prog w s.heap a f) (hl:head.length + 60 * (K + 2) ≤ 1000) :
  codeAny (model prog w) A (.call (.ref 450) ⟨[.ref a,.str head t],[]⟩) (Ret s fun v h'=>∃ x o,v=.ref x∧s.heap.get? x=none∧h'.get? x=some o∧TextsO (fun res=>(∃ out parts,Branches f.keys out∧res=parts.flatten∧Each (PartOf Sub f head) out parts∧res.length ≤ out.length * (1 + m))) x o) s:=by
 have ta0:=ta
 refine byc fun b_=>?_
 obtain ⟨lo,kvs,hd,hc⟩:=ta
 obtain ⟨hA',dA,fA,gA,uA⟩:=A
 obtain rfl:hA'=none:=hA
 refine b_ ?_;clear b_
 apply enter (w:=w) [("tree",.ref a),("head",.str head t)] [(48,.str head t),(42,.ref a)] X T
 walk_at "my enter"
 case hnm=>exact namesC nx_head (namesC nx_tree (namesN))
 intro L h1 tk F N
 refine addLoc nx_tree (by kernel_rfl!) ?_;intro n_tree
 refine addLoc nx_head (by kernel_rfl!) ?_;intro n_head
 refine addLoc nx_found (by kernel_rfl!) ?_;intro n_found
 refine addLoc nx_name (by kernel_rfl!) ?_;intro n_name
 refine addGlo (w:=w) gk_law_branches (by kernel_rfl!) ?_;intro n_law_branches
 refine addGlo (w:=w) gk_law_walk (by kernel_rfl!) ?_;intro n_law_walk
 k_steps
 rename Fr _ _ _ _=>F
 rename News _ _ _ _=>N
 show wpAny _ _ _ _ _ _
 refine useO F N (branch_O rfl (X.keeps F.keep) (T.keeps F.keep) ((r.le 4 (by lia)).deeper 3 (by decide)) (ta0.keep F.keep) h5 fun n hn=>Nat.le_trans (h50 n hn) (by lia)) fun Db ob h2 tk2 F2 N2 sep2 hob=>?_
 refine byc fun b_=>?_
 obtain ⟨lb,nb,rfl,B⟩:=hob
 refine b_ ?_;clear b_
 clear F N
 show ForNext _ _ _ _ _ _ _ _ _ _ _
 have bk:∀ n ∈ lb.map (·.1),n ∈ f.keys∧n ≠ Str.empty:=fun n hn=>by
  have:=List.mem_filter.mp (B.1.mem_iff.mp hn)
  exact ⟨this.1,by simpa using this.2⟩
 have lb5:lb.length ≤ 5:=by
  rw [← List.length_map (f:=(·.1)),B.1.length_eq]
  exact Nat.le_trans (List.length_filter_le _ _) h5
 refine' forG (k:=44) (iters_list (vs:=strValues lb) (k:=nb) ?hh) ?hLa ?hx ?hp' ?hk ?F ?N (WkJ s.gens a head t Sub f m Db lb nb) ?h0 ?hax ?turn ?fin
 case hh=>rfl
 case hx=>rfl
 case hp'=>rfl
 case hk=>exact nx_name
 case F=>exact F2
 case N=>exact newsSwap N2
 case hLa=>exact (N2 _ (List.mem_cons_self ..)).2.1.symm
 case h0=>exact ⟨rfl,rfl,rfl,_,[],0,_,[],rfl,rfl,fun q hq e=>by rw [List.mem_singleton.mp hq] at e;exact sep2 _ (List.mem_cons_self ..) e.symm,List.mem_cons_self ..,rfl,.nil,Nat.zero_le _⟩
 case hax =>
  rintro i l l' news h g ⟨_,_,_,D,lf,nf,rest,parts,_,rfl,_,hb,_⟩ F' N'
  exact (N' _ (List.mem_cons_of_mem _ hb)).1
 case turn =>
  rintro I i v l news g oI h tk hi hP pk0 F' N' sep
  refine byc fun b_=>?_
  obtain ⟨rfl,hl42,hl48,D,lf,nf,rest,parts,hl49,rfl,sepD,hDb,hfl,hE,hln⟩:=pk0
  clear F2 N2
  obtain ⟨name,tn,rfl,hmem,hn⟩:=sv_at hP
  have F:Fr s.heap L h (frm ((44,Value.str name tn)::l)):=F'
  have N:News s.heap L h ((I,oI)::(D,listOf (strValues lf).toArray nf)::rest):=N'
  clear F' N'
  have bk1:=bk name (List.mem_of_getElem? hn)
  obtain ⟨c,hcg⟩:=Fo.get_key bk1.1
  obtain ⟨ac,hva,tc⟩:=hc.get hcg
  refine b_ ?_;clear b_
  have nl:=h50 name bk1.1
  k_steps
  show wpAny _ _ _ _ _ _
  refine item_h (hd.keep F.keep) hva ?_
  refine byc fun b_=>?_
  obtain ⟨clo,ckvs,cd,cc⟩:=id tc
  obtain ⟨b,hb⟩:∃ b,(c.get Str.empty).isSome=b:=⟨_,rfl⟩
  refine b_ ?_;clear b_
  have hb':(valueAt ckvs Str.empty).isSome=b:=by rw [cc.some];exact hb
  dsimp only
  k_steps
  show wpAny _ _ _ _ _ _
  refine in_h (cd.keep F.keep) clo hb' ?_
  dsimp only
  have li:(i + 1) * (1 + m) ≤ 900:=Nat.le_trans (Nat.mul_le_mul_right _ (Nat.le_trans (Nat.succ_le_of_lt (List.length_map (as:=lb) .. ▸ hi)) lb5)) hm
  have li2:(i + 1) * (1 + m)=i * (1 + m) + (1 + m):=Nat.succ_mul ..
  have ll:∀ k,k ≤ 1 + m→lf.length + k ≤ 900:=fun k hk=>Nat.le_trans (Nat.add_le_add hln hk) (li2 ▸ li)
  rename Flow→Shared→Prop=>K1
  rename NxT _ _ _ _ _ _ _=>hK
  have hJ:∀ h4 tk4 (lf3:List (Str × Tok)) nf3 (lf2:List Str),Fr s.heap L h4 (frm ((44,Value.str name tn)::l))→News s.heap L h4 ((I,oI)::(D,listOf (strValues lf3).toArray nf3)::rest)→lf2=(if b then [head++name] else [])→lf3.map (·.1)=lf.map (·.1)++lf2→lf3.length ≤ lf.length + 1→At K1 .next { s with heap:=h4,toks:=tk4 }:=by
   clear N F
   intro h4 tk4 lf3 nf3 lf2 F N hlf2 hlf3 lz3
   refine hK _ ?_
   k_steps
   refine (?_:wpAny _ _ _ _ _ _)
   refine item_h (hd.keep F.keep) hva ?_
   dsimp only
   k_steps
   rename Fr _ _ _ _=>F6
   rename News _ _ _ _=>N6
   refine (?_:wpAny _ _ _ _ _ _)
   have hd2:(head++name++".").length + 60 * (K + 1) ≤ 1000:=by
    rw [lenApp,lenApp]
    exact Nat.le_trans (Nat.add_le_add_right (Nat.add_le_add_left (Nat.le_trans (Nat.succ_le_succ nl) (by decide:51 ≤ 60)) head.length) _) (Nat.le_trans (Nat.le_of_eq ((Nat.add_assoc ..).trans (congrArg (head.length + ·) (Nat.add_comm ..)))) hl)
   refine useO F6 N6 (IH name c bk1.2 hcg rfl (X.keeps F6.keep) (T.keeps F6.keep) ((r.le (4 + K + 1) (Nat.le_of_eq (Nat.add_right_comm 4 1 K).symm)).deeper (4 + K) (Nat.le_refl _)) (tc.keep F6.keep) hd2) fun Dr o6 h6 tk6 F7 N7 sep7 hob=>?_
   refine byc fun b_=>?_
   obtain ⟨lr,nr,rfl,hS,hlr⟩:=hob
   refine b_ ?_;clear b_
   clear F6 N6
   have lrl:lr.length ≤ m:=by rw [← List.length_map (f:=(·.1))];exact hlr
   have lfr:lf3.length + lr.length ≤ lf.length + (1 + m):=Nat.le_trans (Nat.add_le_add lz3 lrl) (Nat.le_of_eq (Nat.add_assoc ..))
   have lt7:∀ p ∈ (Dr,listOf (strValues lr).toArray nr)::(I,oI)::(D,listOf (strValues lf3).toArray nf3)::rest,p.1 ≠ h6.objs.size:=fun p hp=>Nat.ne_of_lt (Heap.lt_size (N7 p hp).1)
   refine add_lists F7 N7 ⟨_,(N7 _ (mT (mT mH))).1,rfl,_,rfl⟩ ⟨_,(N7 _ mH).1,rfl,_,rfl⟩ (fun h8 F8 N8=>?_) (by rw [strValues,strValues,List.length_map,List.length_map];exact Nat.le_trans lfr (Nat.le_trans (ll _ (Nat.le_refl _)) (by decide)))
   rw [show strValues lf3++strValues lr=strValues (lf3++lr) from List.map_append.symm] at N8
   clear F7 N7
   k_steps
   rename Fr _ _ _ _=>F9
   rename News _ _ _ _=>N9
   refine turnG_end F9 (news':=(h6.objs.size,listOf (strValues (lf3++lr)).toArray 0)::(Dr,listOf (strValues lr).toArray nr)::(D,listOf (strValues lf3).toArray nf3)::rest) (fun p hp=>N9 p (memSub hp (by walk_at "my sub"))) (List.forall_mem_cons.mpr ⟨(lt7 (I,oI) (mT mH)).symm,List.forall_mem_cons.mpr ⟨fun q=>sep7 _ mH q.symm,List.forall_mem_cons.mpr ⟨sep (D,listOf (strValues lf).toArray nf) mH,fun p hp=>sep _ (mT hp)⟩⟩⟩)
    ⟨rfl,hl42,hl48,h6.objs.size,lf3++lr,0,_,parts++[lf2++lr.map (·.1)],rfl,rfl,List.forall_mem_cons.mpr ⟨lt7 _ mH,fun q hq=>lt7 _ (mT (mT hq))⟩,mT (mT hDb),?_,?_,?_⟩
   ·rw [List.map_append,hlf3,List.flatten_append,hfl,List.flatten_cons,List.flatten_nil,List.append_nil,List.append_assoc]
   ·rw [← take_snoc hn]
    exact hE.snoc ⟨c,_,hcg,hS,by rw [hlf2,hb]⟩
   ·rw [List.length_append,li2];exact Nat.le_trans lfr (Nat.add_le_add_right hln _)
  clear hK
  cases b with
  | true =>
   k_steps
   refine (?_:wpAny _ _ _ _ _ _)
   rename Fr _ _ _ _=>F3
   rename News _ _ _ _=>N3
   refine appN F3 (newsSw N3) (List.forall_mem_cons.mpr ⟨(sep _ mH).symm,sepD⟩) (by rw [sv_size];exact Nat.le_trans (ll 0 (Nat.zero_le _)) (by decide)) fun h4 n4 F4 N4=>?_
   rw [sv_push] at N4
   k_steps
   exact hJ _ _ _ _ _ F4 (newsSw N4) rfl List.map_append (by rw [List.length_append];exact Nat.le_refl _)
  | false =>
   k_steps
   exact hJ _ _ _ _ _ F N rfl (List.append_nil _).symm (Nat.le_succ _)
 case fin =>
  rintro l news h tk g pk0 F' N'
  refine byc fun b_=>?_
  obtain ⟨rfl,hl42,hl48,D,lf,nf,rest,parts,hl49,rfl,sepD,hDb,hfl,hE,hln⟩:=pk0
  refine b_ ?_;clear b_
  clear F2 N2
  have F:Fr s.heap L h (frm l):=F'
  have N:News s.heap L h ((D,listOf (strValues lf).toArray nf)::rest):=N'
  clear F' N'
  dsimp only
  k_steps
  dsimp only
  have lbl:(strValues lb).length=(lb.map (·.1)).length:=by rw [strValues,List.length_map,List.length_map]
  rw [lbl] at hE hln
  rw [List.take_length] at hE
  refine ret_end F ⟨D,_,rfl,(N _ (List.mem_cons_self ..)).2.2,(N _ (List.mem_cons_self ..)).1,lf,nf,rfl,lb.map (·.1),parts,B,hfl,hE,by rw [List.length_map];exact hln⟩
theorem Fo.get_mem {f:Fo} {n:Str} {c:Fo}:f.get n=some c→n ∈ f.keys:=by
 induction f with
 | nil=>exact fun h=>nomatch h
 | cons m c r _ ih =>
  intro h
  by_cases q:m=n
  ·rw [← q];exact List.mem_cons_self ..
  ·exact List.mem_cons_of_mem _ (ih ((if_neg q).symm.trans h))
theorem fine_step {k:Nat} {f:Fo} (h:f.fine k):f.keys.length ≤ 5∧(∀ n ∈ f.keys,n.length ≤ 50):=by
 cases k with
 | zero=>exact ⟨h.1,fun n hn=>by rw [h.2 n hn];decide⟩
 | succ k=>exact ⟨h.1,h.2.1⟩
theorem walkLim_le {k:Nat} (h:k ≤ 3):5 * (1 + walkLim k) ≤ 900:=(by decide:∀ i:Fin 4,5 * (1 + walkLim i.val) ≤ 900) ⟨k,Nat.lt_succ_of_le h⟩
theorem walk_spec:∀ (k:Nat) {A:Around} {s:Shared} {a:Addr} {f:Fo} {head:Str} {t:Tok},k ≤ 4→f.fine k→A.handled=none→(hd.heap_1 w.params).In s.heap→Top p loose mean mg mb s.heap→Rm A (5 + k)→TrAt prog w s.heap a f→head.length + 60 * (k + 2) ≤ 1000 →
  codeAny (model prog w) A (.call (.ref 450) ⟨[.ref a,.str head t],[]⟩) (Ret s fun v h'=>∃ x o,v=.ref x∧s.heap.get? x=none∧h'.get? x=some o∧TextsO (fun res=>WalkR (k + 1) f head res∧res.length ≤ walkLim k) x o) s:=by
 intro k
 induction k with
 | zero =>
  intro A s a f head t hk fi hA X T r ta hl
  refine codeAny_mono (walk_step (K:=0) (Sub:=WalkR 0) (m:=0) (fine_step fi).1 (fine_step fi).2 (by decide) (fun n c hn hg=>absurd (fi.2 n (Fo.get_mem hg)) hn) hA X T r ta hl) fun rr s' hr=>?_
  refine byc fun b_=>?_
  obtain ⟨v,h',tk,e1,e2,kp,x,o,e3,h1,h2,ls,n,e4,out,parts,B,e5,hE,e6⟩:=hr
  refine b_ ?_;clear b_
  refine ⟨v,h',tk,e1,e2,kp,x,o,e3,h1,h2,ls,n,e4,⟨out,parts,B,e5,hE⟩,?_⟩
  have:out=[]:=by
   refine List.eq_nil_iff_forall_not_mem.mpr fun n hn=>?_
   have:=List.mem_filter.mp (B.1.mem_iff.mp hn)
   rw [fi.2 n this.1] at this
   exact absurd this.2 (by decide)
  rw [this] at e6
  exact e6
 | succ k ih =>
  intro A s a f head t hk fi hA X T r ta hl
  refine codeAny_mono (walk_step (K:=k + 1) (Sub:=WalkR (k + 1)) (m:=walkLim k) (fine_step fi).1 (fine_step fi).2 (walkLim_le (by lia)) (fun n c hn hg=>@fun A s a head t hA X T r ta hl=>ih (by lia) (fi.2.2 n c hn hg) hA X T (r.le _ (by lia)) ta (by lia)) hA X T r ta hl) fun rr s' hr=>?_
  refine byc fun b_=>?_
  obtain ⟨v,h',tk,e1,e2,kp,x,o,e3,h1,h2,ls,n,e4,out,parts,B,e5,hE,e6⟩:=hr
  refine b_ ?_;clear b_
  refine ⟨v,h',tk,e1,e2,kp,x,o,e3,h1,h2,ls,n,e4,⟨out,parts,B,e5,hE⟩,Nat.le_trans e6 (Nat.mul_le_mul_right _ ?_)⟩
  rw [B.1.length_eq]
  exact Nat.le_trans (List.length_filter_le _ _) fi.1
theorem rs50e:True:=by
 k_with "e50"=>skip
 exact trivial
noncomputable abbrev TK (prog:Program) (w:World):HeapKind prog w (List Int):=tupleKind (PySem.intKind prog w)
structure TDict (prog:Program) (w:World) (d:Addr) (o:Obj) (xs:List (List Int × Addr × Value)):Prop where
 lo:(d == sysModules)=false
 cl:o.ExactDict
 da:∃ es ep,o.data=.dict es ep∧es.toList=xs.map (entryOfKey (TK prog w))
 nd:(xs.map (·.1)).Nodup
section
variable {E:Value→Shared→Prop} {h₀ h:Heap} {L d a:Addr} {m:Str→Option Value} {news:List (Addr × Obj)} {o:Obj} {xs:List (List Int × Addr × Value)} {ks:List Int}
theorem TDict.at' (T:TDict prog w d o xs) (hd:h.get? d=some o) (hk:∀ x ∈ xs,IsTupleKey (PySem.intKind prog w) h x.1 x.2.1):h.DictOfH (TK prog w) d xs :=
 let ⟨es,ep,e1,e2⟩:=T.da
 ⟨o,es,ep,hd,T.cl,e1,e2,hk,T.nd⟩
theorem TDict.empty {o:Obj} (lo:(d == sysModules)=false) (hd:o.IsDictOf (PySem.strKind prog w) []):TDict prog w d o []:=by
 refine byc fun b_=>?_
 obtain ⟨es,ep,hc,hdat,_,hp,_⟩:=hd
 refine b_ ?_;clear b_
 exact ⟨lo,hc,⟨es,ep,hdat,List.length_eq_zero_iff.mp hp.length⟩,List.nodup_nil⟩
set_option tactic.hygienic true in
theorem setT {v:Value} {Q:Unit→Shared→Prop} (F:Fr h₀ L s.heap m) (N:News h₀ L s.heap news) (T:TDict prog w d o xs) (hm:(d,o) ∈ news) (hk:∀ x ∈ xs,IsTupleKey (PySem.intKind prog w) s.heap x.1 x.2.1) (ha:IsTupleKey (PySem.intKind prog w) s.heap ks a) (hu:A.units + 1 < cLine) (hsz:xs.length ≤ 1000)
  (h:∀ h' o',Fr h₀ L h' m→News h₀ L h' (news.map (upd d o'))→Heap.SameBut d s.heap h'→TDict prog w d o' (storedH xs ks a v)→Q () { s with heap:=h',toks:=s.toks + (ks.length + 1) }):wpAny (model prog w) A (setItem (.ref d) (.ref a) v) Q E s:=by
 have b:=N _ hm
 refine wpAny_setItem_heap (hsz:=by rw [sizeLine_eq];lia) (knd:=TK prog w) (tupleKind_room_in1 hu) ha (T.at' b.1 hk) fun h' hm' hs=>?_
 refine byc fun b_=>?_
 obtain ⟨o',es',ep',ho',hc',hd',he',_,hn'⟩:=hm'
 refine b_ ?_;clear b_
 refine h h' o' (F.change hs b.2.1 b.2.2) (fun p hp=>?_) hs ⟨T.lo,hc',⟨es',ep',hd',he'⟩,hn'⟩
 refine byc fun b_=>?_
 obtain ⟨q,hq,e⟩:=List.mem_map.mp hp
 refine b_ ?_;clear b_
 unfold upd at e
 split at e
 ·subst e;exact ⟨ho',b.2⟩
 ·rename_i hne
  refine byc fun b_=>?_
  subst e
  refine b_ ?_;clear b_
  exact ⟨(hs.2 _ hne).trans (N _ hq).1,(N _ hq).2⟩
theorem notinT {Q:Value→Shared→Prop} {b:Bool} (N:News h₀ L s.heap news) (T:TDict prog w d o xs) (hm:(d,o) ∈ news) (hk:∀ x ∈ xs,IsTupleKey (PySem.intKind prog w) s.heap x.1 x.2.1) (ha:IsTupleKey (PySem.intKind prog w) s.heap ks a) (hu:A.units + 1 < cLine)
  (hb:(atKey xs ks).isSome=b) (h:∀ k,Q (.bool (!b)) { s with toks:=k }):wpAny (model prog w) A (compareOp .NotIn (.ref a) (.ref d)) Q E s :=
 wpAny_notIn_heap (knd:=TK prog w) (tupleKind_room_in1 hu) ha T.lo (T.at' (N _ hm).1 hk) (by rw [hb];exact h _)
theorem itemTD {value slice:Expr} {Q:Value→Shared→Prop} {q:Addr × Value} (N:News h₀ L s.heap news) (T:TDict prog w d o xs) (hm:(d,o) ∈ news) (hk:∀ x ∈ xs,IsTupleKey (PySem.intKind prog w) s.heap x.1 x.2.1) (ha:IsTupleKey (PySem.intKind prog w) s.heap ks a) (hu:A.units + 1 < cLine)
  (hp:atKey xs ks=some q) (h:∀ k,Q q.2 { s with toks:=k })
  (hs:subscripted slice false (.ref d) (.ref a)=operate [.ref d,.ref a] (getItem (.ref d) (.ref a)):=by with_unfolding_all rfl) (hg:∀ r,letTemporaryGo value (.ref d) r=pure ():=by intro _;with_unfolding_all rfl) :
  wpAny (model prog w) A (subscriptTail value slice (.ref d) (.ref a)) Q E s :=
 have D:=T.at' (N _ hm).1 hk
 subscriptTail_builtin D.typeIs slot_dict_getitem.lookup (wpAny_getItem_heap (knd:=TK prog w) (tupleKind_room_in1 hu) ha D hp (h _)) hs hg
theorem sliceApplied_upto3 {sl:Addr} {u:Tok} {Q:Int × Int × Nat→Shared→Prop} (hs:s.heap.IsSliceOf sl .none (.int 3 u) .none) (h:Q ((0:Int),1,3) s) :
  wpAny (model prog w) A (Builtin.Slice.sliceApplied (.ref sl) (pure (4:Int))) Q E s:=by
 refine byc fun b_=>?_
 obtain ⟨os,hos,hcs,hds⟩:=id hs
 refine b_ ?_;clear b_
 unfold Builtin.Slice.sliceApplied Builtin.Slice.sliceFields
 refine wpAny_bind (wpAny_bind (wpAny_field hos hds (x:=.none) rfl (wpAny_bind (wpAny_field hos hds (x:=.int 3 u) rfl (wpAny_bind (wpAny_field hos hds (x:=.none) rfl (wpAny_pure ?_)))))))
 refine wpAny_bind (slicePart_none ?_)
 refine (?_:wpAny _ _ (if ((1:Int) == 0)=true then _ else _) _ _ s)
 rw [if_neg (by decide)]
 refine wpAny_bind (slicePart_none (wpAny_bind (slicePart_int (wpAny_bind (wpAny_pure ?_)))))
 exact wpAny_pure h
theorem getItem_tuple_upto3 {t sl:Addr} {x0 x1 x2 x3:Value} {u:Tok} {Q:Value→Shared→Prop} (ht:IsTup s.heap t #[x0,x1,x2,x3]) (hs:s.heap.IsSliceOf sl .none (.int 3 u) .none)
  (h:Q (.ref s.heap.objs.size) { s with heap:=s.heap.push { cls:=.type "tuple",data:=.seq #[x0,x1,x2] } }):wpAny (model prog w) A (getItem (.ref t) (.ref sl)) Q E s:=by
 refine byc fun b_=>?_
 obtain ⟨os,hos,hcs,hds⟩:=id hs
 refine b_ ?_;clear b_
 have hTs:s.TypeIs (.ref sl) "slice":=⟨os,hos,hcs⟩
 unfold getItem
 try with_reducible refine wpAny_holding ?_
 first | refine wpAny_bind (wpAny_pure ?_) | skip
 refine wpAny_bind (wpAny_sequenceKey ht.typeIs (by decide) ?_)
 refine wpAny_bind (wpAny_callSpecial?_slot (name:=Str.ofString "__getitem__") ht.typeIs slot_tuple_getitem
  (wpAny_call_entry slot_tuple_getitem ht.typeIs entry_tuple_getitem ?_ (args_tuple_getitem _ _)))
 refine (?_:wpAny _ _ (Builtin.Tuple.tupleItemsOf (.ref t) >>= _) _ _ s)
 refine wpAny_bind (tupleItemsOf_ ht ?_)
 refine wpAny_bind (wpAny_typeOf hTs ?_)
 rw [if_pos (by decide)]
 refine wpAny_bind (sliceApplied_upto3 hs ?_)
 refine (?_:wpAny _ _ (if ((0:Int) == 0 && (1:Int) == 1 && (3:Nat) == 4)=true then _ else _) _ _ s)
 rw [if_neg (by decide)]
 have hd:sizeOk (.seq #[x0,x1,x2]):=by show (3:Nat) ≤ sizeLine;rw [sizeLine_eq];lia
 first
  | exact wpAny_bind (m:=Builtin.Tuple.tupleExact _) (wpAny_newObj_type (wpAny_pure ⟨_,rfl,wpAny_pure h⟩) hd)
  | exact wpAny_bind (m:=Builtin.Tuple.tupleExact _) (wpAny_newObj_type (wpAny_bind (wpAny_pure (wpAny_pure ⟨_,rfl,wpAny_pure h⟩))) hd)
  | exact wpAny_bind (wpAny_bind (m:=Builtin.Tuple.tupleExact _) (wpAny_newObj_type (wpAny_pure (wpAny_pure ⟨_,rfl,wpAny_pure h⟩)) hd))
  | exact wpAny_bind (wpAny_bind (m:=Builtin.Tuple.tupleExact _) (wpAny_newObj_type (wpAny_pure ⟨_,rfl,wpAny_pure h⟩) hd))
theorem slice3 {value slice:Expr} {t:Addr} {x0 x1 x2 x3:Value} {u:Tok} {Q:Value→Shared→Prop}
  (F:Fr h₀ L s.heap m) (N:News h₀ L s.heap news) (ht:IsTup s.heap t #[x0,x1,x2,x3])
  (h:∀ h' b,Fr h₀ L h' m→News h₀ L h' ((b,{ cls:=.type "tuple",data:=.seq #[x0,x1,x2] })::news)→(∀ p ∈ news,p.1 ≠ b)→Q (.ref b) { s with heap:=h' })
  (hs:subscripted slice false (.ref t) (.ref s.heap.objs.size)=operate [.ref s.heap.objs.size,.ref t] (getItem (.ref t) (.ref s.heap.objs.size)):=by with_unfolding_all rfl)
  (hg:∀ r,letTemporaryGo value (.ref t) r=pure ():=by intro _;with_unfolding_all rfl) :
  wpAny (model prog w) A (subscriptTail value slice (.ref t) (.ref s.heap.objs.size)) Q E { s with heap:=s.heap.push { cls:=.type "slice",data:=.fields #[.none,.int 3 u,.none] } }:=by
 have ht':IsTup (s.heap.push { cls:=.type "slice",data:=.fields #[.none,.int 3 u,.none] }) t #[x0,x1,x2,x3]:=ht.keeps fun _ _ e=>Heap.get?_push_of_some _ e
 refine subscriptTail_ops (s:={ s with heap:=s.heap.push { cls:=.type "slice",data:=.fields #[.none,.int 3 u,.none] } }) ht'.typeIs slot_tuple_getitem.lookup
  (getItem_tuple_upto3 ht' (Heap.IsSliceOf.new ..) ?_) hs hg
 have N1:=News.push (F.push { cls:=.type "slice",data:=.fields #[.none,.int 3 u,.none] }) (N.grown fun _ _ e=>Heap.get?_push_of_some _ e) { cls:=.type "tuple",data:=.seq #[x0,x1,x2] }
 rw [Heap.size_push] at N1
 refine (?_:Q (.ref (s.heap.push _).objs.size) _)
 rw [Heap.size_push]
 refine h _ _ ((F.push _).push _) N1 fun p hp=>?_
 have:@LT.lt Nat instLTNat p.1 s.heap.objs.size:=Heap.lt_size (N p hp).1
 exact Nat.ne_of_lt (Nat.lt_succ_of_lt this)
end
set_option genInjectivity false in
structure Pt where
 n0:Int
 n1:Int
 n2:Int
 tl:List Str
noncomputable def Pt.ks (p:Pt):List Int:=[p.n0,p.n1,p.n2]
noncomputable def Pt.text (p:Pt):Str:=nums p.n0 p.n1 p.n2++behindSign "-" p.tl
set_option genInjectivity false in
structure Gr where
 ks:List Int
 f:Fo
 en:List Str
noncomputable def hasG (ks:List Int) (l:List Gr):List Gr:=if l.any fun g=>decide (g.ks=ks) then l else l++[⟨ks,.nil,[]⟩]
noncomputable def modG (ks:List Int) (f:Gr→Gr) (l:List Gr):List Gr:=l.map fun g=>if g.ks=ks then f g else g
noncomputable def growG (l:List Gr) (p:Pt):List Gr:=modG p.ks (fun g=>if p.tl.isEmpty then { g with en:=[p.text] } else { g with f:=Fo.plant p.tl g.f }) (hasG p.ks l)
set_option genInjectivity false in
structure Ent where
 ks:List Int
 ka:Addr
 ko:Obj
 ra:Addr
 ro:Obj
 f:AF
 la:Addr
 ls:List (Str × Tok)
 ln:Nat
noncomputable def Ent.tree (e:Ent):List (Addr × Obj):=(e.ra,e.ro)::e.f.nodes
noncomputable def Ent.two (e:Ent):List (Addr × Obj):=[(e.ka,e.ko),(e.la,listOf (strValues e.ls).toArray e.ln)]
noncomputable def Ent.led (e:Ent):List (Addr × Obj):=e.tree++e.two
noncomputable def Ent.gr (e:Ent):Gr:=⟨e.ks,e.f.erase,e.ls.map (·.1)⟩
noncomputable def Ent.t (e:Ent):List Int × Addr × Value:=(e.ks,e.ka,.ref e.ra)
noncomputable def Ent.e (e:Ent):List Int × Addr × Value:=(e.ks,e.ka,.ref e.la)
inductive KeyObj (ks:List Int) (o:Obj):Prop
 | mk (n0 n1 n2 t0 t1 t2 k:_) (cj1:ks=[n0,n1,n2]) (cj2:o={ cls:=.type "tuple",data:=.seq #[.int n0 t0,.int n1 t1,.int n2 t2] k }) (cj3:(0 ≤ n0∧n0 < 10 ^ 18)) (cj4:(0 ≤ n1∧n1 < 10 ^ 18)) (cj5:(0 ≤ n2∧n2 < 10 ^ 18)):KeyObj ks o
theorem KeyObj.tk {ks:List Int} {o:Obj} (h:KeyObj ks o):TupKeyObj (PySem.intKind prog w) ks o:=by
 refine byc fun b_=>?_
 obtain ⟨n0,n1,n2,t0,t1,t2,k,rfl,rfl,_⟩:=h
 refine b_ ?_;clear b_
 exact ⟨rfl,_,_,rfl,.cons (intKind_is ..) (.cons (intKind_is ..) (.cons (intKind_is ..) .nil))⟩
structure Ent.Ok (prog:Program) (w:World) (B:Nat) (e:Ent):Prop where
 key:KeyObj e.ks e.ko
 st:Stands prog w e.ra e.ro e.f
 sz:e.tree.length ≤ B
noncomputable def ledW (Dt:Addr) (ot:Obj) (De:Addr) (oe:Obj) (es:List Ent):List (Addr × Obj):=(Dt,ot)::(De,oe)::es.flatMap Ent.led
structure Wood (prog:Program) (w:World) (B:Nat) (Dt:Addr) (ot:Obj) (De:Addr) (oe:Obj) (es:List Ent):Prop where
 t:TDict prog w Dt ot (es.map Ent.t)
 e:TDict prog w De oe (es.map Ent.e)
 ok:∀ x ∈ es,x.Ok prog w B
 nd:((ledW Dt ot De oe es).map (·.1)).Nodup
theorem Ent.Ok.le {B C:Nat} {e:Ent} (h:e.Ok prog w B) (q:B ≤ C):e.Ok prog w C:=⟨h.key,h.st,Nat.le_trans h.sz q⟩
theorem atKey_ent (es:List Ent) (g:Ent→Value) (ks:List Int):atKey (es.map fun e=>(e.ks,e.ka,g e)) ks=(es.find? fun e=>decide (e.ks=ks)).map fun e=>(e.ka,g e):=by
 induction es with
 | nil=>rfl
 | cons e es ih =>
  unfold atKey at ih ⊢
  rw [List.map_cons,List.find?_cons,List.find?_cons]
  by_cases q:e.ks=ks
  ·simp [q]
  ·simp only [q,decide_false];exact ih
theorem atKey_t (es:List Ent) (ks:List Int):atKey (es.map Ent.t) ks=(es.find? fun e=>decide (e.ks=ks)).map fun e=>(e.ka,.ref e.ra):=atKey_ent es (fun e=>.ref e.ra) ks
theorem atKey_e (es:List Ent) (ks:List Int):atKey (es.map Ent.e) ks=(es.find? fun e=>decide (e.ks=ks)).map fun e=>(e.ka,.ref e.la):=atKey_ent es (fun e=>.ref e.la) ks
theorem Wood.keys {B:Nat} {Dt De:Addr} {ot oe:Obj} {es:List Ent} (W:Wood prog w B Dt ot De oe es):(es.map (·.ks)).Nodup:=by
 have:=W.t.nd
 rw [List.map_map] at this
 exact this
theorem ent_split {es:List Ent} {ks:List Int} {e:Ent} (nd:(es.map (·.ks)).Nodup) (h:es.find? (fun e=>decide (e.ks=ks))=some e):e.ks=ks∧∃ a b,es=a++e::b∧(∀ x ∈ a,x.ks ≠ ks)∧∀ x ∈ b,x.ks ≠ ks:=by
 refine byc fun b_=>?_
 obtain ⟨hk,a,b,rfl,ha⟩:=List.find?_eq_some_iff_append.mp h
 refine b_ ?_;clear b_
 have hk':e.ks=ks:=of_decide_eq_true hk
 refine ⟨hk',a,b,rfl,fun x hx=>by simpa using ha x hx,fun x hx q=>?_⟩
 rw [List.map_append,List.map_cons,List.nodup_append] at nd
 have:=(List.nodup_cons.mp nd.2.1).1
 exact this (List.mem_map.mpr ⟨x,hx,by rw [q,hk']⟩)
theorem put_split {a b:List Ent} {ks:List Int} {e e':Ent} {g:Ent→Value} {v:Value} (hk:e.ks=ks) (ha:∀ x ∈ a,x.ks ≠ ks) (hb:∀ x ∈ b,x.ks ≠ ks) (h1:e'.ks=e.ks) (h2:e'.ka=e.ka) (h3:g e'=v) (b':Addr) :
  storedH ((a++e::b).map fun e=>(e.ks,e.ka,g e)) ks b' v=(a++e'::b).map fun e=>(e.ks,e.ka,g e):=by
 have hn:∀ l:List Ent,(∀ x ∈ l,x.ks ≠ ks)→(l.map fun e=>(e.ks,e.ka,g e)).map (putAt ks v)=l.map fun e=>(e.ks,e.ka,g e):=fun l hl=>by
  rw [List.map_map]
  refine List.map_congr_left fun x hx=>?_
  simp [putAt,hl x hx]
 have hs:(atKey ((a++e::b).map fun e=>(e.ks,e.ka,g e)) ks).isSome=true:=by
  rw [atKey_ent]
  cases q:(a++e::b).find? fun e=>decide (e.ks=ks) with
  | some _=>rfl
  | none =>
   rw [List.find?_eq_none] at q
   exact absurd (decide_eq_true hk) (q e (List.mem_append_right _ (List.mem_cons_self ..)))
 unfold storedH
 rw [if_pos hs,List.map_append,List.map_append,hn a ha,List.map_cons,List.map_cons,hn b hb,List.map_append,List.map_cons]
 simp [putAt,hk,h1,h2,h3]
theorem mod_split {a b:List Ent} {ks:List Int} {e e':Ent} {f:Gr→Gr} (hk:e.ks=ks) (ha:∀ x ∈ a,x.ks ≠ ks) (hb:∀ x ∈ b,x.ks ≠ ks) (h:e'.gr=f e.gr):modG ks f ((a++e::b).map Ent.gr)=(a++e'::b).map Ent.gr:=by
 have hn:∀ l:List Ent,(∀ x ∈ l,x.ks ≠ ks)→(l.map Ent.gr).map (fun g=>if g.ks=ks then f g else g)=l.map Ent.gr:=fun l hl=>by
  rw [List.map_map]
  refine List.map_congr_left fun x hx=>?_
  refine (?_:(if x.ks=ks then _ else _)=_)
  rw [if_neg (hl x hx)]
 unfold modG
 rw [List.map_append,List.map_append,List.map_append,List.map_cons,List.map_cons,List.map_cons,hn a ha,hn b hb,h]
 rw [show (e.gr).ks=ks from hk,if_pos rfl]
theorem has_new {es:List Ent} {ks:List Int} {e:Ent} (h:es.find? (fun e=>decide (e.ks=ks))=none) (he:e.gr=⟨ks,.nil,[]⟩):hasG ks (es.map Ent.gr)=(es++[e]).map Ent.gr:=by
 have q:((es.map Ent.gr).any fun g=>decide (g.ks=ks))=false:=by
  rw [List.any_map,List.any_eq_false]
  exact fun x hx=>List.find?_eq_none.mp h x hx
 unfold hasG
 rw [q,List.map_append,List.map_cons,he]
 rfl
theorem has_old {es:List Ent} {ks:List Int} {e:Ent} (h:es.find? (fun e=>decide (e.ks=ks))=some e):hasG ks (es.map Ent.gr)=es.map Ent.gr:=by
 have q:((es.map Ent.gr).any fun g=>decide (g.ks=ks))=true:=by
  rw [List.any_map,List.any_eq_true]
  exact ⟨e,List.mem_of_find?_eq_some h,List.find?_some h⟩
 unfold hasG
 rw [if_pos q]
theorem regrow {h₀ h h':Heap} {L:Addr} {tr tr' O:List (Addr × Obj)} (N:News h₀ L h (tr++O)) (nd:((tr++O).map (·.1)).Nodup) (hL:h.get? L ≠ none) (kp:∀ b o,h₀.get? b=some o→h.get? b=some o)
  (keep:∀ b o,b ∉ tr.map (·.1)→h.get? b=some o→h'.get? b=some o) (nd':(tr'.map (·.1)).Nodup) (hp:∀ p ∈ tr',h'.get? p.1=some p.2∧(p.1 ∈ tr.map (·.1)∨h.get? p.1=none)) :
  News h₀ L h' (tr'++O)∧((tr'++O).map (·.1)).Nodup:=by
 rw [List.map_append,List.nodup_append] at nd
 refine byc fun b_=>?_
 obtain ⟨n1,n2,n3⟩:=nd
 refine b_ ?_;clear b_
 refine ⟨fun p hm=>?_,?_⟩
 ·rcases List.mem_append.mp hm with hm | hm
  ·refine byc fun b_=>?_
   obtain ⟨g,q⟩:=hp p hm
   refine b_ ?_;clear b_
   refine ⟨g,?_⟩
   rcases q with q | q
   ·refine byc fun b_=>?_
    obtain ⟨x,hx,e⟩:=List.mem_map.mp q
    refine b_ ?_;clear b_
    have:=N x (List.mem_append_left _ hx)
    rw [← e];exact this.2
   ·refine ⟨fun e=>hL (e ▸ q),?_⟩
    cases e:h₀.get? p.1 with
    | none=>rfl
    | some o=>rw [kp _ _ e] at q;cases q
  ·have b:=N p (List.mem_append_right _ hm)
   exact ⟨keep _ _ (fun q=>n3 _ q _ (List.mem_map.mpr ⟨p,hm,rfl⟩) rfl) b.1,b.2⟩
 ·rw [List.map_append,List.nodup_append]
  refine ⟨nd',n2,fun x hx y hy e=>?_⟩
  refine byc fun b_=>?_
  obtain ⟨p,hp1,rfl⟩:=List.mem_map.mp hx
  refine b_ ?_;clear b_
  rcases (hp p hp1).2 with q | q
  ·exact n3 _ q _ hy e
  ·refine byc fun b_=>?_
   obtain ⟨z,hz,ez⟩:=List.mem_map.mp hy
   refine b_ ?_;clear b_
   rw [e,← ez,(N z (List.mem_append_right _ hz)).1] at q
   cases q
section
variable {E:Value→Shared→Prop} {h₀:Heap} {L d a:Addr} {m:Str→Option Value} {news:List (Addr × Obj)} {o:Obj} {xs:List (List Int × Addr × Value)} {ks:List Int}
theorem useP {f:Value} {args:List Value} {as:List Addr} {Post:Heap→Prop} {Q:Value→Shared→Prop} (F:Fr h₀ L s.heap m) (hb:∀ b ∈ as,b ≠ L∧h₀.get? b=none) (C:codeAny (model prog w) A (.call f ⟨args,[]⟩) (RetP s as Post) s)
  (h:∀ h' tk,Fr h₀ L h' m→(∀ b o,b ∉ as→s.heap.get? b=some o→h'.get? b=some o)→Post h'→Q .none { s with heap:=h',toks:=tk }):wpAny (model prog w) A (call f args) Q E s:=by
 refine wpAny_call (codeAny_mono C fun r s' hr=>?_)
 refine byc fun b_=>?_
 obtain ⟨h',tk,rfl,rfl,hk,hp⟩:=hr
 refine b_ ?_;clear b_
 exact h h' tk ⟨F.ns.at' fun o e=>hk _ o (fun q=>(hb _ q).1 rfl) e,fun b o e=>hk b o (fun q=>by rw [(hb b q).2] at e;cases e) (F.keep b o e),F.above⟩ hk hp
theorem setT1 {v:Value} {Q:Unit→Shared→Prop} (F:Fr h₀ L s.heap m) (N:News h₀ L s.heap ((d,o)::news)) (T:TDict prog w d o xs) (sep:d ∉ news.map (·.1)) (hk:∀ x ∈ xs,IsTupleKey (PySem.intKind prog w) s.heap x.1 x.2.1) (ha:IsTupleKey (PySem.intKind prog w) s.heap ks a) (hu:A.units + 1 < cLine) (hsz:xs.length ≤ 1000)
  (h:∀ h' o' k,Fr h₀ L h' m→News h₀ L h' ((d,o')::news)→TDict prog w d o' (storedH xs ks a v)→Q () { s with heap:=h',toks:=k }):wpAny (model prog w) A (setItem (.ref d) (.ref a) v) Q E s :=
 setT F N T (List.mem_cons_self ..) hk ha hu hsz fun h' o' F' N' _ T'=>h h' o' _ F' (fun p hp=>N' p (by
  rcases List.mem_cons.mp hp with rfl | hp
  ·exact upd_eq (List.mem_cons_self ..)
  ·exact upd_ne (List.mem_cons_of_mem _ hp) fun q=>sep (q ▸ List.mem_map.mpr ⟨p,hp,rfl⟩))) T'
end
theorem keyT {h₀ h:Heap} {L:Addr} {es:List Ent} {news:List (Addr × Obj)} {B:Nat} {g:Ent→Value} (ok:∀ x ∈ es,x.Ok prog w B) (N:News h₀ L h news) (sub:∀ x ∈ es,(x.ka,x.ko) ∈ news):∀ x ∈ es.map (fun e=>(e.ks,e.ka,g e)),IsTupleKey (PySem.intKind prog w) h x.1 x.2.1:=by
 intro x hx
 refine byc fun b_=>?_
 obtain ⟨e,he,rfl⟩:=List.mem_map.mp hx
 refine b_ ?_;clear b_
 exact (ok e he).key.tk.key (N _ (sub e he)).1
theorem two_mem {Dt De:Addr} {ot oe:Obj} {es:List Ent} {x:Ent} {p:Addr × Obj} (hx:x ∈ es) (hp:p ∈ x.led):p ∈ ledW Dt ot De oe es:=List.mem_cons_of_mem _ (List.mem_cons_of_mem _ (List.mem_flatMap.mpr ⟨x,hx,hp⟩))
theorem wood_new {B:Nat} {Dt De:Addr} {ot oe o1 o2:Obj} {es:List Ent} {e:Ent} (Wd:Wood prog w B Dt ot De oe es) (t:TDict prog w Dt o1 ((es++[e]).map Ent.t)) (u:TDict prog w De o2 ((es++[e]).map Ent.e)) (ok:e.Ok prog w B) (nd:(e.led.map (·.1)).Nodup) (sep:∀ p ∈ ledW Dt ot De oe es,∀ q ∈ e.led,p.1 ≠ q.1):Wood prog w B Dt o1 De o2 (es++[e]):=by
 refine ⟨t,u,fun x hx=>?_,?_⟩
 ·rcases List.mem_append.mp hx with hx | hx
  ·exact Wd.ok x hx
  ·rw [List.mem_singleton.mp hx];exact ok
 ·have e1:(ledW Dt o1 De o2 (es++[e])).map (·.1)=(ledW Dt ot De oe es).map (·.1)++e.led.map (·.1):=by
   unfold ledW
   simp [List.flatMap_append]
  rw [e1,List.nodup_append]
  refine ⟨Wd.nd,nd,fun x hx y hy=>?_⟩
  refine byc fun b_=>?_
  obtain ⟨p,hp,rfl⟩:=List.mem_map.mp hx
  obtain ⟨q,hq,rfl⟩:=List.mem_map.mp hy
  refine b_ ?_;clear b_
  exact sep p hp q hq
theorem find_new {es:List Ent} {ks:List Int} {e:Ent} (h:es.find? (fun e=>decide (e.ks=ks))=none) (he:e.ks=ks):(es++[e]).find? (fun e=>decide (e.ks=ks))=some e:=by
 rw [List.find?_append,h]
 simp [he]
theorem stored_new {es:List Ent} {ks:List Int} {e:Ent} {g:Ent→Value} {v:Value} {b:Addr} (h:es.find? (fun e=>decide (e.ks=ks))=none) (h1:e.ks=ks) (h2:e.ka=b) (h3:g e=v):storedH (es.map fun e=>(e.ks,e.ka,g e)) ks b v=(es++[e]).map fun e=>(e.ks,e.ka,g e):=by
 rw [storedH_new (by rw [atKey_ent,h];rfl),List.map_append,List.map_cons,List.map_nil,h1,h2,h3]
theorem perm5 {α:Type} (i t d:α) (tr a r:List α):(tr++i::t::d::(a++r)).Perm (i::t::d::(a++(tr++r))):=by
 refine List.perm_middle.trans (List.Perm.cons _ (List.perm_middle.trans (List.Perm.cons _ (List.perm_middle.trans (List.Perm.cons _ ?_)))))
 rw [← List.append_assoc,← List.append_assoc]
 exact List.Perm.append_right _ List.perm_append_comm
theorem ledW_split (Dt:Addr) (ot:Obj) (De:Addr) (oe:Obj) (ea:List Ent) (e:Ent) (eb:List Ent):ledW Dt ot De oe (ea++e::eb)=(Dt,ot)::(De,oe)::(ea.flatMap Ent.led++(e.tree++(e.two++eb.flatMap Ent.led))):=by
 unfold ledW
 rw [List.flatMap_append,List.flatMap_cons,Ent.led,List.append_assoc]
theorem wood_plant {h₀ h h':Heap} {L I Dt De:Addr} {oI ot oe o':Obj} {ea eb:List Ent} {e:Ent} {f':AF} {B B':Nat} (Wd:Wood prog w B Dt ot De oe (ea++e::eb)) (N:News h₀ L h ((I,oI)::ledW Dt ot De oe (ea++e::eb))) (sepI:∀ p ∈ ledW Dt ot De oe (ea++e::eb),p.1 ≠ I)
  (hL:h.get? L ≠ none) (kp:∀ b o,h₀.get? b=some o→h.get? b=some o) (keep:∀ b o,b ∉ adrs e.ra e.ro e.f→h.get? b=some o→h'.get? b=some o) (st:Stands prog w e.ra o' f') (nd:(adrs e.ra o' f').Nodup) (sz:((e.ra,o')::f'.nodes).length ≤ B') (hB:B ≤ B')
  (hp:∀ p ∈ (e.ra,o')::f'.nodes,h'.get? p.1=some p.2∧(p.1 ∈ adrs e.ra e.ro e.f∨h.get? p.1=none)) :
  News h₀ L h' ((I,oI)::ledW Dt ot De oe (ea++{ e with ro:=o',f:=f' }::eb))∧(∀ p ∈ ledW Dt ot De oe (ea++{ e with ro:=o',f:=f' }::eb),p.1 ≠ I)∧Wood prog w B' Dt ot De oe (ea++{ e with ro:=o',f:=f' }::eb):=by
 have pm:∀ tr:List (Addr × Obj),(tr++(I,oI)::(Dt,ot)::(De,oe)::(ea.flatMap Ent.led++(e.two++eb.flatMap Ent.led))).Perm ((I,oI)::(Dt,ot)::(De,oe)::(ea.flatMap Ent.led++(tr++(e.two++eb.flatMap Ent.led)))):=fun tr=>perm5 _ _ _ _ _ _
 have nd0:(((I,oI)::ledW Dt ot De oe (ea++e::eb)).map (·.1)).Nodup:=by
  rw [List.map_cons,List.nodup_cons]
  refine ⟨fun hm=>?_,Wd.nd⟩
  refine byc fun b_=>?_
  obtain ⟨q,hq,e'⟩:=List.mem_map.mp hm
  refine b_ ?_;clear b_
  exact sepI q hq e'
 have N0:=N
 rw [ledW_split] at N0 nd0
 have R:=regrow (tr:=e.tree) (tr':=(e.ra,o')::f'.nodes) (O:=(I,oI)::(Dt,ot)::(De,oe)::(ea.flatMap Ent.led++(e.two++eb.flatMap Ent.led))) (fun p hp=>N0 p ((pm e.tree).mem_iff.mp hp)) ((((pm e.tree).map _).nodup_iff).mpr nd0) hL kp keep nd hp
 have nd1:=(((pm ((e.ra,o')::f'.nodes)).map (·.1)).nodup_iff).mp R.2
 have e1:(I,oI)::ledW Dt ot De oe (ea++{ e with ro:=o',f:=f' }::eb)=(I,oI)::(Dt,ot)::(De,oe)::(ea.flatMap Ent.led++((e.ra,o')::f'.nodes++(e.two++eb.flatMap Ent.led))):=by
  rw [ledW_split];rfl
 rw [← e1] at nd1
 have et:(ea++{ e with ro:=o',f:=f' }::eb).map Ent.t=(ea++e::eb).map Ent.t:=by rw [List.map_append,List.map_append];rfl
 have ee:(ea++{ e with ro:=o',f:=f' }::eb).map Ent.e=(ea++e::eb).map Ent.e:=by rw [List.map_append,List.map_append];rfl
 have nd2:=List.nodup_cons.mp nd1
 refine ⟨fun p hp=>R.1 p ((pm _).mem_iff.mpr (e1 ▸ hp)),fun p hp q=>nd2.1 (q ▸ List.mem_map.mpr ⟨p,hp,rfl⟩),⟨by rw [et];exact Wd.t,by rw [ee];exact Wd.e,fun x hx=>?_,nd2.2⟩⟩
 rcases List.mem_append.mp hx with hx | hx
 ·exact (Wd.ok x (List.mem_append_left _ hx)).le hB
 ·rcases List.mem_cons.mp hx with rfl | hx
  ·exact ⟨(Wd.ok e (List.mem_append_right _ (List.mem_cons_self ..))).key,st,sz⟩
  ·exact (Wd.ok x (List.mem_append_right _ (List.mem_cons_of_mem _ hx))).le hB
theorem wood_ends {Dt De l:Addr} {ot oe o':Obj} {ea eb:List Ent} {e:Ent} {B B':Nat} {ls:List (Str × Tok)} (Wd:Wood prog w B Dt ot De oe (ea++e::eb)) (sep:∀ p ∈ ledW Dt ot De oe (ea++e::eb),p.1 ≠ l) (hB:B ≤ B') (T:TDict prog w De o' ((ea++{ e with la:=l,ls:=ls,ln:=0 }::eb).map Ent.e)) :
  Wood prog w B' Dt ot De o' (ea++{ e with la:=l,ls:=ls,ln:=0 }::eb):=by
 have pm:∀ (x y z:Addr × Obj) (X Y Z:List (Addr × Obj)),(x::y::(X++(Y++(z::Z)))).Perm (z::(x::y::(X++(Y++Z)))):=fun x y z X Y Z=>by
  rw [← List.append_assoc,← List.append_assoc]
  refine ((List.perm_middle.cons _).cons _).trans ?_
  exact ((List.Perm.swap ..).cons _).trans (List.Perm.swap ..)
 have e1:(ledW Dt ot De oe (ea++e::eb)).Perm ((e.la,listOf (strValues e.ls).toArray e.ln)::((Dt,ot)::(De,oe)::(ea.flatMap Ent.led++((e.tree++[(e.ka,e.ko)])++eb.flatMap Ent.led)))):=by
  refine List.Perm.trans (List.Perm.of_eq ?_) (pm _ _ _ _ _ _)
  rw [ledW_split];simp [Ent.two]
 have e2:(ledW Dt ot De o' (ea++{ e with la:=l,ls:=ls,ln:=0 }::eb)).Perm ((l,listOf (strValues ls).toArray 0)::((Dt,ot)::(De,o')::(ea.flatMap Ent.led++((e.tree++[(e.ka,e.ko)])++eb.flatMap Ent.led)))):=by
  refine List.Perm.trans (List.Perm.of_eq ?_) (pm _ _ _ _ _ _)
  rw [ledW_split];simp [Ent.two,Ent.tree]
 have n1:=List.nodup_cons.mp (((e1.map (·.1)).nodup_iff).mp Wd.nd)
 have et:(ea++{ e with la:=l,ls:=ls,ln:=0 }::eb).map Ent.t=(ea++e::eb).map Ent.t:=by rw [List.map_append,List.map_append];rfl
 refine ⟨by rw [et];exact Wd.t,T,fun x hx=>?_,((e2.map (·.1)).nodup_iff).mpr (List.nodup_cons.mpr ⟨fun hm=>?_,n1.2⟩)⟩
 ·rcases List.mem_append.mp hx with hx | hx
  ·exact (Wd.ok x (List.mem_append_left _ hx)).le hB
  ·rcases List.mem_cons.mp hx with rfl | hx
   ·have k:=Wd.ok e (List.mem_append_right _ (List.mem_cons_self ..))
    exact ⟨k.key,k.st,Nat.le_trans k.sz hB⟩
   ·exact (Wd.ok x (List.mem_append_right _ (List.mem_cons_of_mem _ hx))).le hB
 ·have hm':l ∈ ((Dt,ot)::(De,oe)::(ea.flatMap Ent.led++((e.tree++[(e.ka,e.ko)])++eb.flatMap Ent.led))).map (·.1):=hm
  refine byc fun b_=>?_
  obtain ⟨q,hq,e'⟩:=List.mem_map.mp hm'
  refine b_ ?_;clear b_
  exact sep q (e1.mem_iff.mpr (List.mem_cons_of_mem _ hq)) e'
set_option tactic.hygienic true in
theorem growG_from {Q0 Q:Gr→Prop} {l:List Gr} {p:Pt} (hl:∀ g ∈ l,Q0 g) (h0:Q0 ⟨p.ks,.nil,[]⟩) (up:∀ g,Q0 g→Q g) (hs:∀ g,Q0 g→g.ks=p.ks→Q (if p.tl.isEmpty then { g with en:=[p.text] } else { g with f:=Fo.plant p.tl g.f })):∀ g ∈ growG l p,Q g:=by
 intro g hg
 refine byc fun b_=>?_
 obtain ⟨x,hx,rfl⟩:=List.mem_map.mp hg
 refine b_ ?_;clear b_
 have hx':Q0 x:=by
  unfold hasG at hx
  split at hx
  ·exact hl x hx
  ·rcases List.mem_append.mp hx with hx | hx
   ·exact hl x hx
   ·rw [List.mem_singleton.mp hx];exact h0
 refine (?_:Q (if x.ks=p.ks then _ else x))
 split
 ·rename_i e;exact hs x hx' e
 ·exact up x hx'
noncomputable def Fo.fin (n:Nat):Nat→Fo→Prop
 | 0,f=>f.keys.length ≤ n∧∀ m ∈ f.keys,m=Str.empty
 | k + 1,f=>f.keys.length ≤ n∧(∀ m ∈ f.keys,m.length ≤ 50)∧∀ m c,m ≠ Str.empty→f.get m=some c→c.fin n k
theorem Fo.fin_fine {n:Nat} (h:n ≤ 5) {k:Nat}:∀ {f:Fo},f.fin n k→f.fine k:=by
 induction k with
 | zero=>exact fun q=>⟨Nat.le_trans q.1 h,q.2⟩
 | succ k ih=>exact fun q=>⟨Nat.le_trans q.1 h,q.2.1,fun m c h1 h2=>ih (q.2.2 m c h1 h2)⟩
theorem Fo.fin_le {n n':Nat} (h:n ≤ n') {k:Nat}:∀ {f:Fo},f.fin n k→f.fin n' k:=by
 induction k with
 | zero=>exact fun q=>⟨Nat.le_trans q.1 h,q.2⟩
 | succ k ih=>exact fun q=>⟨Nat.le_trans q.1 h,q.2.1,fun m c h1 h2=>ih (q.2.2 m c h1 h2)⟩
theorem Fo.fin_nil (n k:Nat):Fo.nil.fin n k:=by
 cases k with
 | zero=>exact ⟨Nat.zero_le _,(fun _ h=>nomatch h)⟩
 | succ k=>exact ⟨Nat.zero_le _,(fun _ h=>nomatch h),(fun _ _ _ h=>nomatch h)⟩
theorem Fo.set_len (m:Str) (x:Fo) (f:Fo):(f.set m x).keys.length ≤ f.keys.length + 1:=by
 induction f with
 | nil=>exact Nat.le_refl _
 | cons a c r _ ih =>
  rw [Fo.set_c]
  by_cases h:a=m
  ·rw [if_pos h];exact Nat.le_succ _
  ·rw [if_neg h];exact Nat.succ_le_succ ih
theorem Fo.set_keys (m:Str) (x:Fo) (f:Fo) (a:Str):a ∈ (f.set m x).keys→a=m∨a ∈ f.keys:=by
 induction f with
 | nil=>exact fun h=>.inl (List.mem_singleton.mp h)
 | cons b c r _ ih =>
  intro h
  rw [Fo.set_c] at h
  by_cases e:b=m
  ·rw [if_pos e] at h;exact .inr h
  ·rw [if_neg e] at h
   exact (List.mem_cons.mp h).elim (fun q=>.inr (q ▸ List.mem_cons_self ..)) fun q=>(ih q).imp id fun z=>List.mem_cons_of_mem _ z
theorem Fo.get_set (m:Str) (x:Fo) (a:Str) (f:Fo):(f.set m x).get a=if a=m then some x else f.get a:=by
 induction f with
 | nil =>
  refine (?_:(if m=a then some x else none)=if a=m then some x else none)
  by_cases e:m=a
  ·rw [if_pos e,if_pos e.symm]
  ·rw [if_neg e,if_neg (Ne.symm e)]
 | cons b c r _ ih =>
  rw [Fo.set_c]
  by_cases e:b=m
  ·rw [if_pos e,Fo.get_c,Fo.get_c,e]
   by_cases q:m=a
   ·rw [if_pos q,if_pos q.symm]
   ·rw [if_neg q,if_neg (Ne.symm q),if_neg q]
  ·rw [if_neg e,Fo.get_c,Fo.get_c,ih]
   by_cases q:b=a
   ·rw [if_pos q,if_pos q,if_neg (fun z=>e (q.trans z))]
   ·rw [if_neg q,if_neg q]
theorem Fo.plant_fin {n k:Nat} {f:Fo} {path:List Str} (q:f.fin n k) (hp:path.length ≤ k) (hw:∀ x ∈ path,x ≠ Str.empty∧x.length ≤ 50):(Fo.plant path f).fin (n + 1) k:=by
 induction path generalizing k f with
 | nil=>cases k with
  | zero=>exact ⟨Nat.le_trans (Fo.set_len ..) (Nat.succ_le_succ q.1),fun m hm=>(Fo.set_keys _ _ _ _ hm).elim id (q.2 m)⟩
  | succ k=>exact ⟨Nat.le_trans (Fo.set_len ..) (Nat.succ_le_succ q.1),fun m hm=>(Fo.set_keys _ _ _ _ hm).elim (fun e=>by rw [e];decide) (q.2.1 m),fun m c h1 h2=>by
    rw [Fo.plant_n,Fo.get_set,if_neg h1] at h2
    exact Fo.fin_le (Nat.le_succ _) (q.2.2 m c h1 h2)⟩
 | cons x path ih=>cases k with
  | zero=>exact absurd hp (Nat.not_succ_le_zero _)
  | succ k =>
   have wx:=hw x (List.mem_cons_self ..)
   refine ⟨Nat.le_trans (Fo.set_len ..) (Nat.succ_le_succ q.1),fun m hm=>(Fo.set_keys _ _ _ _ hm).elim (fun e=>by rw [e];exact wx.2) (q.2.1 m),fun m c h1 h2=>?_⟩
   rw [Fo.plant_c,Fo.get_set] at h2
   by_cases e:m=x
   ·rw [if_pos e] at h2
    cases h2
    refine ih ?_ (Nat.le_of_succ_le_succ hp) fun y hy=>hw y (List.mem_cons_of_mem _ hy)
    cases g:f.get x with
    | none=>exact Fo.fin_nil _ _
    | some d=>exact q.2.2 x d wx.1 g
   ·rw [if_neg e] at h2
    exact Fo.fin_le (Nat.le_succ _) (q.2.2 m c h1 h2)
structure PtOk (p:Pt):Prop where
 b0:0 ≤ p.n0∧p.n0 < 10 ^ 18
 b1:0 ≤ p.n1∧p.n1 < 10 ^ 18
 b2:0 ≤ p.n2∧p.n2 < 10 ^ 18
 tl4:p.tl.length ≤ 4
 tlw:∀ x ∈ p.tl,x ≠ Str.empty∧x.length ≤ 50
noncomputable def groups (pts:List Pt):List Gr:=pts.foldl growG []
theorem groups_fin (pts:List Pt) (ok:∀ p ∈ pts,PtOk p):∀ g ∈ groups pts,g.f.fin pts.length 4∧g.en.length ≤ 1:=by
 have key:∀ (l:List Pt),(∀ p ∈ l,PtOk p)→∀ (n:Nat) (gs:List Gr),(∀ g ∈ gs,g.f.fin n 4∧g.en.length ≤ 1)→∀ g ∈ l.foldl growG gs,g.f.fin (n + l.length) 4∧g.en.length ≤ 1:=by
  intro l
  induction l with
  | nil=>exact fun _ n gs h=>h
  | cons p l ih =>
   intro hok n gs h
   rw [List.foldl_cons,List.length_cons,show n + (l.length + 1)=(n + 1) + l.length by lia]
   have pk:=hok p (List.mem_cons_self ..)
   refine ih (fun q hq=>hok q (List.mem_cons_of_mem _ hq)) (n + 1) _ (growG_from h ⟨Fo.fin_nil _ _,Nat.zero_le _⟩ (fun g hg=>⟨Fo.fin_le (Nat.le_succ _) hg.1,hg.2⟩) fun g hg _=>?_)
   split
   ·exact ⟨Fo.fin_le (Nat.le_succ _) hg.1,Nat.le_refl _⟩
   ·exact ⟨Fo.plant_fin hg.1 pk.tl4 pk.tlw,hg.2⟩
 have:=key pts ok 0 [] (fun _ h=>nomatch h)
 rw [Nat.zero_add] at this
 exact this
theorem child_at {h:Heap} {f:AF}:f.ok prog w→(∀ p ∈ f.nodes,h.get? p.1=some p.2)→ChildAt prog w h f.kvs f.erase:=by
 induction f with
 | nil=>exact fun _ _=>trivial
 | cons n a o c r ihc ihr=>exact fun k hn=>⟨rfl,⟨a,c.kvs,rfl,k.1.2,Heap.dictOf_iff.mpr ⟨o,hn (a,o) (List.mem_cons_self ..),k.1.1⟩,ihc k.2.1 fun p hp=>hn p (List.mem_cons_of_mem _ (List.mem_append_left _ hp))⟩,ihr k.2.2 fun p hp=>hn p (List.mem_cons_of_mem _ (List.mem_append_right _ hp))⟩
theorem tree_at {h:Heap} {a:Addr} {o:Obj} {f:AF} (st:Stands prog w a o f) (hn:∀ p ∈ (a,o)::f.nodes,h.get? p.1=some p.2):TrAt prog w h a f.erase :=
 ⟨st.lo,f.kvs,Heap.dictOf_iff.mpr ⟨o,hn (a,o) (List.mem_cons_self ..),st.d⟩,child_at st.ok fun p hp=>hn p (List.mem_cons_of_mem _ hp)⟩
noncomputable def triLt (a b:List Int):Bool:=if a.getD 0 0 == b.getD 0 0 then (if a.getD 1 0 == b.getD 1 0 then decide (a.getD 2 0 < b.getD 2 0) else decide (a.getD 1 0 < b.getD 1 0)) else decide (a.getD 0 0 < b.getD 0 0)
noncomputable def triEmb (a:List Int):List (Ne Str):=[.n (a.getD 0 0),.n (a.getD 1 0),.n (a.getD 2 0)]
theorem lxF {α:Type} {f:α→Int} {lt:α→α→Bool} {a b:α}:(if f a == f b then lt a b else decide (f a < f b))=false↔f b < f a∨(f a=f b∧lt a b=false):=by
 by_cases e:f a=f b
 ·rw [if_pos (beq_iff_eq.mpr e)]
  exact ⟨fun h=>.inr ⟨e,h⟩,fun h=>h.elim (fun h=>absurd e.symm (Int.ne_of_lt h)) (·.2)⟩
 ·rw [if_neg (fun h=>e (beq_iff_eq.mp h)),decide_eq_false_iff_not,Int.not_lt]
  exact ⟨fun h=>.inl (Int.lt_iff_le_and_ne.mpr ⟨h,Ne.symm e⟩),fun h=>h.elim Int.le_of_lt fun h=>absurd h.1 e⟩
theorem lxOrd {α:Type} {f:α→Int} {lt:α→α→Bool} (O:Ord α lt):Ord α (fun a b=>if f a == f b then lt a b else decide (f a < f b)) where
 asymm:=fun a b h=>by
  refine lxF.mpr ?_
  by_cases e:f a=f b
  ·exact .inr ⟨e.symm,O.asymm _ _ ((if_pos (beq_iff_eq.mpr e)).symm.trans h)⟩
  ·exact .inl (of_decide_eq_true ((if_neg (fun h=>e (beq_iff_eq.mp h))).symm.trans h))
 trans:=fun a b c h1 h2=>by
  refine lxF.mpr ?_
  rcases lxF.mp h1 with h1 | h1 <;> rcases lxF.mp h2 with h2 | h2
  ·exact .inl (Int.lt_trans h1 h2)
  ·rw [h2.1];exact .inl h1
  ·rw [← h1.1];exact .inl h2
  ·exact .inr ⟨h2.1.trans h1.1,O.trans _ _ _ h1.2 h2.2⟩
theorem triOrd:Ord (List Int) triLt:=lxOrd (f:=fun l:List Int=>l.getD 0 0) (lxOrd (f:=fun l:List Int=>l.getD 1 0) (lt:=fun a b=>decide (a.getD 2 0 < b.getD 2 0)) ⟨fun _ _ h=>decide_eq_false (Int.not_lt.mpr (Int.le_of_lt (of_decide_eq_true h))),fun _ _ _ h1 h2=>decide_eq_false (Int.not_lt.mpr (Int.le_trans (Int.not_lt.mp (of_decide_eq_false h1)) (Int.not_lt.mp (of_decide_eq_false h2))))⟩)
theorem lx_tri {α:Type} {f:α→Int} {lt:α→α→Bool} {a b:α} (h1:(if f a == f b then lt a b else decide (f a < f b))=false) (h2:(if f b == f a then lt b a else decide (f b < f a))=false):f a=f b∧lt a b=false∧lt b a=false:=by
 rcases lxF.mp h1 with h1 | h1 <;> rcases lxF.mp h2 with h2 | h2
 ·exact absurd h1 (Int.lt_asymm h2)
 ·exact absurd h2.1 (Int.ne_of_lt h1)
 ·exact absurd h1.1 (Int.ne_of_lt h2)
 ·exact ⟨h1.1,h1.2,h2.2⟩
set_option tactic.hygienic true in
theorem tri_neLt (a b:List Int):neLt (fun a b:Str=>a == b) strLt (triEmb a) (triEmb b)=triLt a b:=by
 unfold triLt
 refine (?_:(if (a.getD 0 0 == b.getD 0 0)=true then (if (a.getD 1 0 == b.getD 1 0)=true then (if (a.getD 2 0 == b.getD 2 0)=true then sizesB .Lt 3 3 else decide (a.getD 2 0 < b.getD 2 0)) else decide (a.getD 1 0 < b.getD 1 0)) else decide (a.getD 0 0 < b.getD 0 0))=_)
 have:(if (a.getD 2 0 == b.getD 2 0)=true then sizesB .Lt 3 3 else decide (a.getD 2 0 < b.getD 2 0))=decide (a.getD 2 0 < b.getD 2 0):=by
  split
  ·rename_i e
   have e':a.getD 2 0=b.getD 2 0:=by simpa using e
   rw [e']
   refine (?_:false=_)
   simp
  ·rfl
 rw [this]
theorem key_tups {h:Heap} {B:Nat} {es:List Ent}:(∀ e ∈ es,e.Ok prog w B)→(∀ e ∈ es,h.get? e.ka=some e.ko)→AllIs (TupIs (Ne.is StrIs)) h (es.map fun e=>Value.ref e.ka) ((es.map (·.ks)).map triEmb):=by
 induction es with
 | nil=>exact fun _ _=>.nil
 | cons e es ih =>
  intro ok hg
  refine .cons ?_ (ih (fun x hx=>ok x (List.mem_cons_of_mem _ hx)) fun x hx=>hg x (List.mem_cons_of_mem _ hx))
  refine byc fun b_=>?_
  obtain ⟨n0,n1,n2,t0,t1,t2,k,e1,e2,_⟩:=(ok e (List.mem_cons_self ..)).key
  refine b_ ?_;clear b_
  have g:=hg e (List.mem_cons_self ..)
  rw [e2] at g
  refine (?_:TupIs (Ne.is StrIs) h (.ref e.ka) (triEmb e.ks))
  rw [e1]
  exact ⟨e.ka,_,_,_,rfl,g,rfl,rfl,.cons ⟨_,rfl⟩ (.cons ⟨_,rfl⟩ (.cons ⟨_,rfl⟩ .nil))⟩
theorem nums_len {n0 n1 n2:Int} (b0:0 ≤ n0∧n0 < 10 ^ 18) (b1:0 ≤ n1∧n1 < 10 ^ 18) (b2:0 ≤ n2∧n2 < 10 ^ 18):(nums n0 n1 n2).length ≤ 60:=by
 have L0:(Str.ofString (toString n0)).length ≤ 18:=toString_length_le b0.1 (by decide) b0.2
 have L1:(Str.ofString (toString n1)).length ≤ 18:=toString_length_le b1.1 (by decide) b1.2
 have L2:(Str.ofString (toString n2)).length ≤ 18:=toString_length_le b2.1 (by decide) b2.2
 unfold nums
 simp only [lenApp]
 have:(Str.ofString ".").length=1:=by decide
 lia
theorem rs53m0:True:=by
 k_with "@call ref"=>(fail_if_success k_extra "e53");apply unhold
 k_with "@subscriptTail"=>(fail_if_success k_extra "e53");apply unhold
 k_with "@compareOp NotIn ref ref"=>(fail_if_success k_extra "e53");apply unhold
 k_with "@setItem ref ref"=>(fail_if_success k_extra "e53");apply unhold
 k_with "@call builtin:sorted"=>(fail_if_success k_extra "e53");apply unhold
 k_with "@binaryOp Add ref ref"=>(fail_if_success k_extra "e53");apply unhold
 k_with "@binaryOp Mod str ref"=>(fail_if_success k_extra "e53");apply unhold
 k_with "@exec If"=>(fail_if_success k_extra "e53");apply unhold
 k_with "@eval Dict"=>(fail_if_success k_extra "e53");k_dflt ((apply newDict_K;kpc_g;kpc_g;apply Top.nolimit;kpc_g;intro _;intro _;intro _;intro _;intro _;intro _;intro _;intro _;intro _;intro _;intro _))
 exact trivial
inductive PtAt (h:Heap) (v:Value) (p:Pt):Prop
 | mk (x:_) (cj1:v=.ref x) (cj2:PartsAt h x p.n0 p.n1 p.n2 p.tl):PtAt h v p
theorem Each.get {α β:Type} {P:α→β→Prop} {as:List α} {bs:List β} (x:Each P as bs):∀ {i:Nat} {a:α},as[i]?=some a→∃ b,bs[i]?=some b∧P a b:=by
 induction x with
 | nil=>exact fun h=>nomatch h
 | cons p _ ih=>intro i a h;cases i with
  | zero=>exact ⟨_,rfl,Option.some.inj h ▸ p⟩
  | succ i=>exact ih (i:=i) h
theorem Each.len {α β:Type} {P:α→β→Prop} {as:List α} {bs:List β} (x:Each P as bs):as.length=bs.length:=by
 induction x with
 | nil=>rfl
 | cons _ _ ih=>exact congrArg Nat.succ ih
inductive GroupP (gs:List Gr) (ks:List Int) (part:List Str):Prop
 | mk (g:_) (cj1:g ∈ gs) (n0 n1 n2 sub:_) (cj2:g.ks=ks) (cj3:ks=[n0,n1,n2]) (cj4:WalkR 5 g.f (nums n0 n1 n2++"-") sub) (cj5:part=sub++g.en):GroupP gs ks part
inductive OrdR (pts:List Pt) (res:List Str):Prop
 | mk (out parts:_) (cj1:List.Perm out ((groups pts).map (·.ks))) (cj2:(out.Pairwise fun a b=>triLt b a=false)) (cj3:Each (GroupP (groups pts)) out parts) (cj4:res=parts.flatten):OrdR pts res
theorem nmap {a:Addr} {l:List (Addr × Obj)} (h:∀ q ∈ l,q.1 ≠ a):a ∉ l.map (·.1):=fun m=>(List.mem_map.mp m).elim fun q e=>h q e.1 e.2
theorem mapN {a:Addr} {l:List (Addr × Obj)} (h:a ∉ l.map (·.1)):∀ q ∈ l,q.1 ≠ a:=fun q hq e=>h (List.mem_map.mpr ⟨q,hq,e⟩)
theorem alA {α:Type} {p:α→Prop} {l m:List α} (h1:∀ q ∈ l,p q) (h2:∀ q ∈ m,p q):∀ q ∈ l++m,p q:=List.forall_mem_append.mpr ⟨h1,h2⟩
theorem led_new (es:List Ent) (e:Ent):(es++[e]).flatMap Ent.led=es.flatMap Ent.led++e.led:=by rw [List.flatMap_append,List.flatMap_singleton]
theorem led_split (ea:List Ent) (e:Ent) (eb:List Ent):(ea++e::eb).flatMap Ent.led=ea.flatMap Ent.led++(e.tree++(e.two++eb.flatMap Ent.led)):=by rw [List.flatMap_append,List.flatMap_cons,Ent.led,List.append_assoc]
inductive Mid (prog:Program) (w:World) (s:Shared) (L:Addr) (l:List (Nat × Value)) (b:Addr) (tup:Obj) (I:Addr) (oI:Obj) (Dt De:Addr) (i:Nat) (ks:List Int) (gs:List Gr) (f:Flow) (s':Shared):Prop
 | mk (e0:f=.next) (h3:Heap) (tk3:Nat) (ot2 oe2:Obj) (es2:List Ent) (e:Ent) (e1:s'={ s with heap:=h3,toks:=tk3 }) (F:Fr s.heap L h3 (frm l)) (N:News s.heap L h3 ((b,tup)::(I,oI)::ledW Dt ot2 De oe2 es2))
  (W:Wood prog w (1 + 6 * i) Dt ot2 De oe2 es2) (hg:es2.map Ent.gr=hasG ks gs) (hl:es2.length ≤ i + 1) (hf:es2.find? (fun e=>decide (e.ks=ks))=some e) (bT:b ≠ Dt) (bE:b ≠ De) (bY:∀ y ∈ es2,b ∉ y.tree.map (·.1)) (sep:∀ p ∈ ledW Dt ot2 De oe2 es2,p.1 ≠ I):Mid prog w s L l b tup I oI Dt De i ks gs f s'
inductive OrdJ (prog:Program) (w:World) (g0:Array GenState) (Dt De:Addr) (pts:List Pt) (i:Nat) (l:List (Nat × Value)) (news:List (Addr × Obj)) (g:Array GenState):Prop
 | mk (e1:g=g0) (l1:l.lookup 51=some (.ref Dt)) (l2:l.lookup 52=some (.ref De)) (ot oe:Obj) (es:List Ent) (e2:news=ledW Dt ot De oe es) (W:Wood prog w (1 + 6 * i) Dt ot De oe es) (e3:es.map Ent.gr=(pts.take i).foldl growG []) (e4:es.length ≤ i):OrdJ prog w g0 Dt De pts i l news g
inductive OrdK (g0:Array GenState) (Dt:Addr) (ot:Obj) (De:Addr) (oe:Obj) (es:List Ent) (pts:List Pt) (DS:Addr) (oS:Obj) (out:List (List Int)) (i:Nat) (l:List (Nat × Value)) (news:List (Addr × Obj)) (g:Array GenState):Prop
 | mk (e1:g=g0) (l1:l.lookup 51=some (.ref Dt)) (l2:l.lookup 52=some (.ref De)) (D:Addr) (lf:List (Str × Tok)) (nf:Nat) (parts:List (List Str)) (l3:l.lookup 49=some (.ref D)) (hD:(D,listOf (strValues lf).toArray nf) ∈ news) (hW:∀ q ∈ ledW Dt ot De oe es,q ∈ news) (hS:(DS,oS) ∈ news)
  (hf:lf.map (·.1)=parts.flatten) (hE:Each (GroupP (groups pts)) (out.take i) parts) (hl:lf.length ≤ i * 800):OrdK g0 Dt ot De oe es pts DS oS out i l news g
set_option maxHeartbeats 1600000 in
set_option tactic.hygienic true in
theorem order_spec {pa:Addr} {vs:List Value} {pts:List Pt} {n:Nat} (hA:A.handled=none) (X:(hd.heap_1 w.params).In s.heap) (T:Top p loose mean mg mb s.heap) (r:Rm A 12) (hp:s.heap.get? pa=some (listOf vs.toArray n)) (hv:Each (PtAt s.heap) vs pts) (hz:vs.length ≤ 5) (ok:∀ p ∈ pts,PtOk p) :
  codeAny (model prog w) A (.call (.ref 455) ⟨[.ref pa],[]⟩) (Ret s fun v h'=>∃ x o,v=.ref x∧s.heap.get? x=none∧h'.get? x=some o∧TextsO (fun res=>OrdR pts res∧res.length ≤ 4000) x o) s:=by
 refine byc fun b_=>?_
 obtain ⟨hA',dA,fA,gA,uA⟩:=A
 obtain rfl:hA'=none:=hA
 refine b_ ?_;clear b_
 refine retK fun R hS hR=>?_
 apply enter (w:=w) [("pool",.ref pa)] [(50,.ref pa)] X T
 walk_at "my enter"
 case hnm=>exact namesC nx_pool (namesN)
 intro L h1 tk F N
 refine addLoc nx_pool (by kernel_rfl!) ?_;intro n_pool
 refine addLoc nx_trees (by kernel_rfl!) ?_;intro n_trees
 refine addLoc nx_ends (by kernel_rfl!) ?_;intro n_ends
 refine addLoc nx_parts (by kernel_rfl!) ?_;intro n_parts
 refine addLoc nx_triple (by kernel_rfl!) ?_;intro n_triple
 refine addLoc nx_found (by kernel_rfl!) ?_;intro n_found
 refine addGlo (w:=w) gk_law_plant (by kernel_rfl!) ?_;intro n_law_plant
 refine addGlo (w:=w) gk_law_text (by kernel_rfl!) ?_;intro n_law_text
 refine addGlo (w:=w) gk_law_walk (by kernel_rfl!) ?_;intro n_law_walk
 refine addBlt (w:=w) bk_sorted (by kernel_rfl!) ?_;intro n_sorted
 k_steps
 rename_i Dt _ ot loT isT _ _ _ _ _ _ _ _ _ De _ oe loE isE _ _ _ lte _ _ F N _ _ _
 show ForNext _ _ _ _ _ _ _ _ _ _ _
 refine' forG (k:=41) (iters_list (vs:=vs) (k:=n) ?hh) ?hLa ?hx ?hp' ?hk ?F ?N (OrdJ prog w s.gens Dt De pts) ?h0 ?hax ?turn ?fin
 case hh=>rfl
 case hx=>rfl
 case hp'=>rfl
 case hk=>exact nx_parts
 case F=>exact F
 case N=>exact newsSwap N
 case hLa =>
  intro e
  have h1:=F.above
  have h2:=Heap.lt_size hp
  have e':L=pa:=e
  rw [← e'] at h2
  exact absurd h1 (Nat.not_le.mpr h2)
 case h0 =>
  exact ⟨rfl,rfl,rfl,ot,oe,[],rfl,⟨TDict.empty loT isT,TDict.empty loE isE,(fun x hx=>nomatch hx),by simpa [ledW] using Nat.ne_of_lt lte⟩,rfl,Nat.le_refl _⟩
 case hax=>exact fun i l l' news h g _ F' _=>F'.keep _ _ hp
 case turn =>
  rintro I i v l news g oI h tk hi hP pk0 F' N' sep
  refine byc fun b_=>?_
  obtain ⟨rfl,hl51,hl52,ot',oe',es,rfl,Wd,hgr,hes⟩:=pk0
  clear F N
  obtain ⟨pt,hpt,x,rfl,hpa⟩:=hv.get hP
  have F:Fr s.heap L h (frm ((41,.ref x)::l)):=F'
  have N:News s.heap L h ((I,oI)::ledW Dt ot' De oe' es):=N'
  clear F' N'
  have ptok:=ok pt (List.mem_of_getElem? hpt)
  obtain ⟨t0,t1,t2,pl,pls,k1,k2,hx,hpl,epl⟩:=id hpa
  refine b_ ?_;clear b_
  k_steps
  show wpAny _ _ _ _ _ _
  refine slice3 F N ⟨_,F.keep _ _ hx,rfl,_,rfl⟩ fun h2 b F2 N2 sep2=>?_
  clear F N
  try dsimp only
  k_steps
  rename Fr _ _ _ _=>F
  rename News _ _ _ _=>N
  show wpAny _ _ _ _ _ _
  refine byc fun b_=>?_
  obtain ⟨tup,etup⟩:∃ tup:Obj,tup={ cls:=.type "tuple",data:=.seq #[.int pt.n0 t0,.int pt.n1 t1,.int pt.n2 t2] }:=⟨_,rfl⟩
  refine b_ ?_;clear b_
  rw [← etup] at N
  have hpts:pts.take (i + 1)=pts.take i++[pt]:=(take_snoc hpt).symm
  have tko:KeyObj pt.ks tup:=⟨pt.n0,pt.n1,pt.n2,t0,t1,t2,0,rfl,etup,ptok.b0,ptok.b1,ptok.b2⟩
  have ksk:∀ h',h'.get? b=some tup→IsTupleKey (PySem.intKind prog w) h' pt.ks b:=fun h' e=>by rw [etup] at e;exact ⟨_,_,_,e,rfl,rfl,.cons (intKind_is ..) (.cons (intKind_is ..) (.cons (intKind_is ..) .nil))⟩
  have sepb:∀ p ∈ (I,oI)::ledW Dt ot' De oe' es,p.1 ≠ b:=sep2
  have ndT:Dt ∉ ((De,oe')::es.flatMap Ent.led).map (·.1):=(List.nodup_cons.mp Wd.nd).1
  have ndE:De ∉ (es.flatMap Ent.led).map (·.1):=(List.nodup_cons.mp (List.nodup_cons.mp Wd.nd).2).1
  have memT:(Dt,ot') ∈ ledW Dt ot' De oe' es:=List.mem_cons_self ..
  have memE:(De,oe') ∈ ledW Dt ot' De oe' es:=List.mem_cons_of_mem _ (List.mem_cons_self ..)
  have room:uA + 3 + 1 < cLine:=Nat.lt_of_le_of_lt (Nat.add_le_add_left (by decide:4 ≤ 8 * 12) uA) r.2.1
  have i5:i < 5:=Nat.lt_of_lt_of_le hi hz
  have es1:es.length ≤ 1000:=Nat.le_trans hes (Nat.le_trans (Nat.le_of_lt i5) (by decide))
  have subK:∀ y ∈ es,(y.ka,y.ko) ∈ ledW Dt ot' De oe' es:=fun y hy=>two_mem hy (List.mem_append_right _ (List.mem_cons_self ..))
  refine wpAny_mono (Q:=Mid prog w s L ((53,.ref b)::(41,.ref x)::l) b tup I oI Dt De i pt.ks (es.map Ent.gr)) ?_ (fun f s' hm=>?_) (fun _ _ e=>e)
  ·cases hfd:es.find? fun e=>decide (e.ks=pt.ks) with
   | none =>
    have hb:(atKey (es.map Ent.t) pt.ks).isSome=false:=by rw [atKey_t,hfd];rfl
    refine wpAny_If ?_
    k_steps
    show wpAny _ _ _ _ _ _
    refine notinT N Wd.t (List.mem_cons_of_mem _ (List.mem_cons_of_mem _ (List.mem_cons_self ..))) (keyT Wd.ok N fun y hy=>List.mem_cons_of_mem _ (List.mem_cons_of_mem _ (subK y hy))) (ksk _ (N _ (List.mem_cons_self ..)).1) room hb fun k3=>?_
    try dsimp only
    k_steps
    rename_i Dn _ oD F3 N3 loD isD _ _ _ ltD
    have sepD:∀ p ∈ (b,tup)::(I,oI)::ledW Dt ot' De oe' es,p.1 ≠ Dn:=allLt_ne _ ltD
    show wpAny _ _ _ _ _ _
    refine setT1 (news:=(Dn,oD)::(b,tup)::(I,oI)::(De,oe')::es.flatMap Ent.led) F3 (News.sub N3 (by walk_at "my sub")) Wd.t (nmap (alC (sepD _ (mT (mT memT))).symm (alC (sepb _ (mT memT)).symm (alC (sep _ memT).symm (mapN ndT))))) (keyT Wd.ok N3 fun y hy=>List.mem_cons_of_mem _ (List.mem_cons_of_mem _ (List.mem_cons_of_mem _ (subK y hy)))) (ksk _ (N3 _ (List.mem_cons_of_mem _ (List.mem_cons_self ..))).1) room (by rw [List.length_map];exact es1) fun h4 o4 k4 F4 N4 T4=>?_
    clear F3 N3
    try dsimp only
    k_steps
    rename_i Le _ F5 N5 ltL
    have sepL:∀ p ∈ (Dt,o4)::(Dn,oD)::(b,tup)::(I,oI)::(De,oe')::es.flatMap Ent.led,p.1 ≠ Le:=allLt_ne _ ltL
    show wpAny _ _ _ _ _ _
    refine setT1 (news:=(Le,listOf #[] 0)::(Dt,o4)::(Dn,oD)::(b,tup)::(I,oI)::es.flatMap Ent.led) F5 (News.sub N5 (by walk_at "my sub")) Wd.e (nmap (alC (sepL (De,oe') (by walk_at "my mem")).symm (alC (fun e=>ndT (List.mem_map.mpr ⟨(De,oe'),mH,e.symm⟩)) (alC (sepD _ (mT (mT memE))).symm (alC (sepb _ (mT memE)).symm (alC (sep _ memE).symm (mapN ndE))))))) (keyT Wd.ok N5 fun y hy=>mT (mT (mT (mT (mT (mT (List.mem_flatMap.mpr ⟨y,hy,mR mH⟩))))))) (ksk _ (N5 (b,tup) (mT (mT (mT mH)))).1) room (by rw [List.length_map];exact es1) fun h6 o6 k6 F6 N6 T6=>?_
    clear F5 N5
    try dsimp only
    k_steps
    refine byc fun b_=>?_
    obtain ⟨en,een⟩:∃ en:Ent,en=⟨pt.ks,b,tup,Dn,oD,.nil,Le,[],0⟩:=⟨_,rfl⟩
    refine b_ ?_;clear b_
    have T4':TDict prog w Dt o4 ((es++[en]).map Ent.t):=by
     rw [show storedH (es.map Ent.t) pt.ks b (.ref Dn)=(es++[en]).map Ent.t from stored_new (g:=fun e=>.ref e.ra) hfd (by rw [een]) (by rw [een]) (by rw [een])] at T4
     exact T4
    have T6':TDict prog w De o6 ((es++[en]).map Ent.e):=by
     rw [show storedH (es.map Ent.e) pt.ks b (.ref Le)=(es++[en]).map Ent.e from stored_new (g:=fun e=>.ref e.la) hfd (by rw [een]) (by rw [een]) (by rw [een])] at T6
     exact T6
    have lde:en.led=[(Dn,oD),(b,tup),(Le,listOf #[] 0)]:=by rw [een];rfl
    have bD:b ≠ Dn:=sepD (b,tup) (List.mem_cons_self ..)
    have DL:Dn ≠ Le:=sepL (Dn,oD) (mT mH)
    have bL:b ≠ Le:=sepL (b,tup) (mT (mT mH))
    have oW:∀ p ∈ ledW Dt ot' De oe' es,p.1 ≠ Dn∧p.1 ≠ b∧p.1 ≠ Le:=fun p hp=>⟨sepD p (mT (mT hp)),sepb p (mT hp),alC (p:=fun q=>q.1 ≠ Le) (sepL (Dt,o4) mH) (alC (sepL (De,oe') (mT (mT (mT (mT mH))))) fun p hp=>sepL p (mT (mT (mT (mT (mT hp)))))) p hp⟩
    have eled:ledW Dt o4 De o6 (es++[en])=(Dt,o4)::(De,o6)::(es.flatMap Ent.led++[(Dn,oD),(b,tup),(Le,listOf #[] 0)]):=by rw [ledW,led_new,lde]
    refine ⟨rfl,_,_,o4,o6,es++[en],en,rfl,F6,News.sub N6 (by rw [eled];walk_at "my sub"),wood_new Wd T4' T6' ⟨by rw [een];exact tko,by rw [een];exact ⟨isD,loD,trivial⟩,by rw [een];exact Nat.le_add_right _ _⟩ (by rw [lde];simp [bD.symm,DL,bL]) (fun p hp=>?_),(has_new hfd (by rw [een];rfl)).symm,by rw [List.length_append];exact Nat.succ_le_succ hes,find_new hfd (by rw [een]),(sepb _ (mT memT)).symm,(sepb _ (mT memE)).symm,(fun y hy=>nmap fun q hq e=>?_),?_⟩
    ·have:=oW p hp
     rw [lde]
     exact alC this.1 (alC this.2.1 (alC this.2.2 fun _ h=>absurd h List.not_mem_nil))
    ·rcases List.mem_append.mp hy with hy | hy
     ·exact (oW q (two_mem hy (mL hq))).2.1 e
     ·rw [List.mem_singleton.mp hy,een] at hq
      rw [List.mem_singleton.mp hq] at e
      exact bD e.symm
    ·rw [eled]
     exact alC (sep (Dt,ot') memT) (alC (sep (De,oe') memE) (alA (fun p hp=>sep p (mT (mT hp))) (alC (fun q=>sepD (I,oI) (mT mH) q.symm) (alC (fun q=>sepb (I,oI) mH q.symm) (alC (fun q=>sepL (I,oI) (mT (mT (mT mH))) q.symm) fun _ h=>absurd h List.not_mem_nil)))))
   | some e =>
    have hb:(atKey (es.map Ent.t) pt.ks).isSome=true:=by rw [atKey_t,hfd];rfl
    refine wpAny_If ?_
    k_steps
    show wpAny _ _ _ _ _ _
    refine notinT N Wd.t (List.mem_cons_of_mem _ (List.mem_cons_of_mem _ (List.mem_cons_self ..))) (keyT Wd.ok N fun y hy=>List.mem_cons_of_mem _ (List.mem_cons_of_mem _ (subK y hy))) (ksk _ (N _ (List.mem_cons_self ..)).1) room hb fun k3=>?_
    try dsimp only
    k_steps
    exact ⟨rfl,_,_,ot',oe',es,e,rfl,F,N,Wd,(has_old hfd).symm,Nat.le_succ_of_le hes,hfd,(sepb _ (mT memT)).symm,(sepb _ (mT memE)).symm,(fun y hy=>nmap fun q hq=>sepb q (mT (two_mem hy (mL hq)))),sep⟩
  ·refine byc fun b_=>?_
   obtain ⟨rfl,h3,tk3,ot2,oe2,es2,e,rfl,F3,N3,W3,hg3,hl3,hf3,bT,bE,bY,sep3⟩:=hm
   clear F N Wd sep sep2 sepb
   obtain ⟨hek,ea,eb,rfl,hea,heb⟩:=ent_split W3.keys hf3
   have subK3:∀ y ∈ ea++e::eb,(y.ka,y.ko) ∈ ledW Dt ot2 De oe2 (ea++e::eb):=fun y hy=>two_mem hy (List.mem_append_right _ (List.mem_cons_self ..))
   have tl5:(strValues pls).length ≤ 1000:=svLen epl (Nat.le_trans ptok.tl4 (by decide))
   obtain ⟨bt,hbt⟩:∃ bt,(strValues pls).isEmpty=!bt:=⟨!(strValues pls).isEmpty,(Bool.not_not _).symm⟩
   refine b_ ?_;clear b_
   try dsimp only
   k_steps
   show wpAny _ _ _ _ _ _
   refine wpAny_If ?_
   k_steps
   show wpAny _ _ _ _ _ _
   refine subT (l:=[_,_,_,_]) F3 hx (by decide) rfl rfl ?_
   try dsimp only
   k_steps
   refine truthyL F3 hpl tl5 hbt fun tk4=>?_
   have room1:dA + 1 + 2 < recursionLimit:=Nat.lt_of_le_of_lt (Nat.add_le_add_left (by decide:3 ≤ 12) dA) r.1
   have i6:1 + 6 * i ≤ 1 + 6 * (i + 1):=Nat.add_le_add_left (Nat.mul_le_mul_left 6 (Nat.le_succ i)) 1
   have hee:e ∈ ea++e::eb:=List.mem_append_right _ (List.mem_cons_self ..)
   have eok:=W3.ok e hee
   have memT3:(Dt,ot2) ∈ ledW Dt ot2 De oe2 (ea++e::eb):=List.mem_cons_self ..
   have memE3:(De,oe2) ∈ ledW Dt ot2 De oe2 (ea++e::eb):=List.mem_cons_of_mem _ (List.mem_cons_self ..)
   have grow:∀ e':Ent,e'.gr=(if pt.tl.isEmpty then { e.gr with en:=[pt.text] } else { e.gr with f:=Fo.plant pt.tl e.gr.f })→(ea++e'::eb).map Ent.gr=(pts.take (i + 1)).foldl growG []:=fun e' he=>by
    rw [hpts,List.foldl_append,← hgr]
    show _=modG _ _ _
    rw [← hg3]
    exact (mod_split hek hea heb he).symm
   have len3:∀ e':Ent,(ea++e'::eb).length ≤ i + 1:=fun e'=>by rw [List.length_append,List.length_cons] at hl3 ⊢;exact hl3
   cases bt with
   | true =>
    have hne:pt.tl.isEmpty=false:=by
     rw [← epl]
     cases pls with
     | nil=>exact absurd hbt (by decide)
     | cons _ _=>rfl
    k_steps
    show wpAny _ _ _ _ _ _
    refine itemTD N3 W3.t (List.mem_cons_of_mem _ (List.mem_cons_of_mem _ memT3)) (keyT W3.ok N3 fun y hy=>List.mem_cons_of_mem _ (List.mem_cons_of_mem _ (subK3 y hy))) (ksk _ (N3 _ (List.mem_cons_self ..)).1) room (by rw [atKey_t,hf3];rfl) fun k5=>?_
    try dsimp only
    k_steps
    show wpAny _ _ _ _ _ _
    refine subT (l:=[_,_,_,_]) F3 hx (by decide) rfl rfl ?_
    try dsimp only
    k_steps
    show wpAny _ _ _ _ _ _
    have inN:∀ p ∈ e.tree,p ∈ (b,tup)::(I,oI)::ledW Dt ot2 De oe2 (ea++e::eb):=fun p hp=>List.mem_cons_of_mem _ (List.mem_cons_of_mem _ (two_mem hee (List.mem_append_left _ hp)))
    have as0:∀ c ∈ adrs e.ra e.ro e.f,c ≠ L∧s.heap.get? c=none:=fun c hc=>by
     refine byc fun b_=>?_
     obtain ⟨q,hq,rfl⟩:=List.mem_map.mp hc
     refine b_ ?_;clear b_
     exact (N3 q (inN q hq)).2
    have kpH:∀ c oc,s.heap.get? c=some oc→(hideAll h3 (adrs e.ra e.ro e.f)).get? c=some oc:=fun c oc hc=>hideAll_get _ (F3.keep _ _ hc) fun hm=>by rw [(as0 c hm).2] at hc;cases hc
    refine useP F3 as0 (plant_spec (ls:=pls) (n:=k2) rfl (X.keeps kpH) (T.keeps kpH) room1 eok.st ?_ (fun p hp=>(N3 p (inN p hp)).1) (F3.keep _ _ hpl) (fun hm=>by rw [(as0 _ hm).2] at hpl;cases hpl) (by rw [← List.length_map (f:=(·.1)),epl];exact Nat.le_succ_of_le ptok.tl4) (Nat.le_trans eok.sz (Nat.le_trans (Nat.add_le_add_left (Nat.mul_le_mul_left 6 (Nat.le_of_lt i5)) 1) (by decide)))) fun h7 tk7 F7 keep7 post7=>?_
    ·have:=W3.nd
     rw [ledW_split] at this
     refine this.sublist ?_
     rw [List.map_cons,List.map_cons,List.map_append,List.map_append]
     exact (((List.sublist_append_left _ _).trans (List.sublist_append_right _ _)).cons _).cons _
    refine byc fun b_=>?_
    obtain ⟨o',f',st',er',nd',ln',hp'⟩:=post7
    refine b_ ?_;clear b_
    have pl5:pls.length ≤ 4:=by rw [← List.length_map (f:=(·.1)),epl];exact ptok.tl4
    have nsz:((e.ra,o')::f'.nodes).length ≤ 1 + 6 * (i + 1):=Nat.le_trans ln' (Nat.le_trans (Nat.succ_le_succ (Nat.add_le_add eok.sz pl5)) (Nat.add_le_add_left (by decide:5 ≤ 6) (1 + 6 * i)))
    obtain ⟨N8,sep8,W8⟩:=wood_plant W3 (News.sub N3 fun p hp=>mT hp) sep3 (fun q=>by obtain ⟨_,_,_,e9,_⟩:=F3.ns;rw [q] at e9;cases e9) F3.keep keep7 st' nd' nsz i6 hp'
    clear N3
    try dsimp only
    k_steps
    rename Fr _ _ _ _=>F9
    refine turnG_end F9 N8 sep8 ⟨rfl,hl51,hl52,ot2,oe2,_,rfl,W8,grow _ ?_,len3 _⟩
    rw [if_neg (by rw [hne];decide)]
    show Gr.mk _ _ _=Gr.mk _ _ _
    rw [er',epl]
    rfl
   | false =>
    have hnil:pls=[]:=by cases pls with
     | nil=>rfl
     | cons _ _=>exact absurd hbt (by simp [strValues])
    have htl:pt.tl=[]:=by rw [← epl,hnil];rfl
    k_steps
    show wpAny _ _ _ _ _ _
    refine useF F3 N3 (law_text (X.keeps F3.keep) (T.keeps F3.keep) (tl:=pt.tl) ⟨t0,t1,t2,pl,pls,k1,k2,F3.keep _ _ hx,F3.keep _ _ hpl,epl⟩ (r.deeper 4 (by decide)) ptok.b0.1 ptok.b0.2 ptok.b1.1 ptok.b1.2 ptok.b2.1 ptok.b2.2 (by rw [htl];decide) (by rw [htl];decide) (by rw [htl];decide)) fun v h7 tk7 F7 N7 hv7=>?_
    refine byc fun b_=>?_
    obtain ⟨tt,rfl⟩:=hv7
    refine b_ ?_;clear b_
    clear F3 N3
    try dsimp only
    k_steps
    rename_i Ln _ F8 N8 ltL
    have sepL:∀ p ∈ (b,tup)::(I,oI)::ledW Dt ot2 De oe2 (ea++e::eb),p.1 ≠ Ln:=allLt_ne _ ltL
    have ndT:Dt ≠ De:=fun q=>(List.nodup_cons.mp W3.nd).1 (q ▸ List.mem_cons_self ..)
    have ndE:De ∉ ((ea++e::eb).flatMap Ent.led).map (·.1):=(List.nodup_cons.mp (List.nodup_cons.mp W3.nd).2).1
    show wpAny _ _ _ _ _ _
    refine setT1 (news:=(Ln,listOf (strValues [(pt.text,tt)]).toArray 0)::(b,tup)::(I,oI)::(Dt,ot2)::(ea++e::eb).flatMap Ent.led) F8 (News.sub N8 (by walk_at "my sub")) W3.e (nmap (alC (sepL _ (mT (mT memE3))).symm (alC bE (alC (sep3 _ memE3).symm (alC ndT (mapN ndE)))))) (keyT W3.ok N8 fun y hy=>List.mem_cons_of_mem _ (List.mem_cons_of_mem _ (List.mem_cons_of_mem _ (subK3 y hy)))) (ksk _ (N8 (b,tup) (mT mH)).1) room (by rw [List.length_map];exact Nat.le_trans hl3 (Nat.le_trans i5 (by decide))) fun h6 o6 k6 F6 N6 T6=>?_
    clear F8 N8
    try dsimp only
    k_steps
    rename Fr _ _ _ _=>F9
    rename News _ _ _ _=>N9
    rw [show storedH ((ea++e::eb).map Ent.e) pt.ks b (.ref Ln)=(ea++{ e with la:=Ln,ls:=[(pt.text,tt)],ln:=0 }::eb).map Ent.e from put_split (e':={ e with la:=Ln,ls:=[(pt.text,tt)],ln:=0 }) (g:=fun e=>.ref e.la) hek hea heb rfl rfl rfl b] at T6
    have W8:=wood_ends (B':=1 + 6 * (i + 1)) W3 (fun p hp=>sepL p (mT (mT hp))) i6 T6
    have lI:Ln ≠ I:=fun q=>sepL (I,oI) (List.mem_cons_of_mem _ (List.mem_cons_self ..)) q.symm
    have eled:ledW Dt ot2 De o6 (ea++{ e with la:=Ln,ls:=[(pt.text,tt)],ln:=0 }::eb)=(Dt,ot2)::(De,o6)::(ea.flatMap Ent.led++(e.tree++([(e.ka,e.ko),(Ln,listOf (strValues [(pt.text,tt)]).toArray 0)]++eb.flatMap Ent.led))):=by rw [ledW,led_split];rfl
    have sA:∀ q ∈ ea.flatMap Ent.led,q ∈ (ea++e::eb).flatMap Ent.led:=by rw [led_split];exact fun _ h=>mL h
    have sT:∀ q ∈ e.tree,q ∈ (ea++e::eb).flatMap Ent.led:=by rw [led_split];exact fun _ h=>mR (mL h)
    have sK:(e.ka,e.ko) ∈ (ea++e::eb).flatMap Ent.led:=by rw [led_split];exact mR (mR (mL mH))
    have sB:∀ q ∈ eb.flatMap Ent.led,q ∈ (ea++e::eb).flatMap Ent.led:=by rw [led_split];exact fun _ h=>mR (mR (mR h))
    refine turnG_end F9 (news':=ledW Dt ot2 De o6 (ea++{ e with la:=Ln,ls:=[(pt.text,tt)],ln:=0 }::eb)) (News.sub N9 ?_) ?_ ⟨rfl,hl51,hl52,ot2,o6,_,rfl,W8,grow _ ?_,len3 _⟩
    ·rw [eled]
     have up:∀ q ∈ (ea++e::eb).flatMap Ent.led,q ∈ (De,o6)::(Ln,listOf (strValues [(pt.text,tt)]).toArray 0)::(b,tup)::(I,oI)::(Dt,ot2)::(ea++e::eb).flatMap Ent.led:=fun q h=>mT (mT (mT (mT (mT h))))
     exact subC (mT (mT (mT mH))) (subC (mT (mT (mT (mT mH)))) (subC mH (subA (fun q h=>up q (sA q h)) (subA (fun q h=>up q (sT q h)) (subC (up _ sK) (subC (mT mH) fun q h=>up q (sB q h)))))))
    ·rw [eled]
     have ne:∀ q ∈ (ea++e::eb).flatMap Ent.led,q.1 ≠ I:=fun q h=>sep3 q (mT (mT h))
     exact alC (sep3 _ memT3) (alC (sep3 (De,oe2) memE3) (alA (fun q h=>ne q (sA q h)) (alA (fun q h=>ne q (sT q h)) (alC (ne _ sK) (alC lI fun q h=>ne q (sB q h))))))
    ·rw [if_pos (by rw [htl];rfl)]
     rfl
 case fin =>
  rintro l news h tk g pk0 F' N'
  refine byc fun b_=>?_
  obtain ⟨rfl,hl51,hl52,ot2,oe2,es,rfl,Wd,hgr,hes⟩:=pk0
  clear F N
  have F:Fr s.heap L h (frm l):=F'
  have N:News s.heap L h (ledW Dt ot2 De oe2 es):=N'
  clear F' N'
  rw [hv.len,List.take_length] at hgr
  have hgr':es.map Ent.gr=groups pts:=hgr
  have es5:es.length ≤ 5:=Nat.le_trans hes hz
  have memT:(Dt,ot2) ∈ ledW Dt ot2 De oe2 es:=List.mem_cons_self ..
  have memE:(De,oe2) ∈ ledW Dt ot2 De oe2 es:=List.mem_cons_of_mem _ (List.mem_cons_self ..)
  obtain ⟨tes,tep,tda,tdl⟩:=Wd.t.da
  refine b_ ?_;clear b_
  have tsz:tes.size=es.length:=by rw [← Array.length_toList,tdl,List.length_map,List.length_map]
  try dsimp only
  k_steps
  rename Fr _ _ _ _=>F
  rename News _ _ _ _=>N
  show CompNext _ _ _ _ _ _ _ _ _ _ _ _ _ _ _ _ _
  refine byc fun b_=>?_
  obtain ⟨nw,enw,N⟩:=ex_led N
  refine b_ ?_;clear b_
  have memW:∀ p ∈ ledW Dt ot2 De oe2 es,p ∈ nw:=fun p hp=>by rw [enw];exact List.mem_cons_of_mem _ hp
  refine' comp_evalN (L:=L) (iters_dict ?hh Wd.t.lo Wd.t.cl tda) ?n1 ?cell ?e4 ?e5 ?F ?N (fun i _=>(es.map fun e=>Value.ref e.ka).take i) (fun _ _=>True) () rfl trivial ?hax ?turn ?fin
  case hh=>rfl
  case e4=>rfl
  case e5=>rfl
  case cell=>decide
  case F=>exact F
  case N=>exact N
  case n1=>rw [tsz];exact Nat.le_trans es5 (by decide)
  case hax=>exact fun h _ N'=>(N' _ (memW _ memT)).1
  case turn =>
   rintro I C D i v _ oI oC nD h tk mC hi ⟨en,hP,rfl⟩ _ F' N' sep hNO hv
   clear F N
   have ev:(es.map fun e=>Value.ref e.ka)[i]?=some en.key:=by
    rw [entry_at tdl i,List.getElem?_map] at hP
    rw [List.getElem?_map]
    cases q:es[i]? with
    | none=>rw [q] at hP;cases hP
    | some x=>rw [q] at hP;cases hP;rfl
   refine no_tests ?_
   rw [if_pos rfl]
   k_steps
   exact compTurn_end F' N' sep ⟨(),(take_snoc ev).symm,rfl,rfl,trivial⟩
  case fin =>
   intro D2 _ h3 tk3 nD2 _ F3 N3 sep3
   clear F N
   rw [tsz,List.take_of_length_le (by rw [List.length_map];exact Nat.le_refl _)] at N3
   k_steps
   show wpAny _ _ _ _ _ _
   refine' sorted_tups (α:=Str) (γ:=List Int) (vs:=es.map fun e=>Value.ref e.ka) (as:=es.map (·.ks)) [] triEmb triLt (is:=StrIs) (eqf:=fun a b=>a == b) (opf:=strLt) (ok:=fun _ _=>True) (fun s' _=>⟨kdStrL,rfl,rfl,rfl,rfl⟩) ?zni triOrd tri_neLt ?F ?N ?zl ?z5 ?zv ?zh ?zok ?fin
   case F=>exact F3
   case N=>exact N3
   case zl=>exact ⟨_,(N3 _ (List.mem_cons_self ..)).1,rfl,_,rfl⟩
   case zni=>rintro h i t a ⟨t',e⟩;cases e
   case z5=>rw [List.length_map];exact es5
   case zv=>exact fun h _ N'=>key_tups Wd.ok fun e he=>(N' _ (List.mem_cons_of_mem _ (memW _ (two_mem he (List.mem_append_right _ (List.mem_cons_self ..)))))).1
   case zh =>
    intro a ha
    refine byc fun b_=>?_
    obtain ⟨n,_,rfl⟩:=List.mem_map.mp ha
    refine b_ ?_;clear b_
    exact ⟨_,_,rfl⟩
   case zok=>exact fun a _ b _=>⟨trivial,trivial,trivial⟩
   case fin =>
    intro DS cS h4 tk4 p hp hsrt F4 N4 sepS
    clear F3 N3
    rw [List.length_map] at hp
    show ForNext _ _ _ _ _ _ _ _ _ _ _
    have pl5:p.toList.length ≤ 5:=by rw [(permB_perm hp).length_eq,List.length_range];exact es5
    have pr:∀ i ∈ p.toList,i < es.length:=fun i hi=>List.mem_range.mp ((permB_perm hp).mem_iff.mp hi)
    have hout:(p.toList.map fun i=>(es.map (·.ks)).getD i []).Perm (es.map (·.ks)):=perm_getD [] (by rw [List.length_map];exact hp)
    refine' forG (k:=53) (iters_list (vs:=p.toList.map fun i=>(es.map fun e=>Value.ref e.ka).getD i .none) (k:=cS) ?wh) ?wL ?wx ?wp ?wk ?F ?N (OrdK s.gens Dt ot2 De oe2 es pts DS (listOf (List.toArray (p.toList.map fun i=>(es.map fun e=>Value.ref e.ka).getD i .none)) cS) (p.toList.map fun i=>(es.map (·.ks)).getD i [])) ?h0 ?hax ?turn ?fin
    case wh=>rfl
    case wx=>rfl
    case wp=>rfl
    case wk=>exact nx_triple
    case F=>exact F4
    case N=>exact N4
    case wL=>exact (N4 _ (List.mem_cons_self ..)).2.1.symm
    case h0=>exact ⟨rfl,hl51,hl52,_,[],0,[],rfl,by rw [enw];exact List.mem_cons_of_mem _ (List.mem_cons_of_mem _ (List.mem_cons_self ..)),fun q hq=>List.mem_cons_of_mem _ (List.mem_cons_of_mem _ (memW q hq)),List.mem_cons_self ..,rfl,.nil,Nat.zero_le _⟩
    case hax=>rintro i l l' news h g ⟨_,_,_,D,lf,nf,parts,_,_,_,hDS,_⟩ F' N';exact (N' _ hDS).1
    case turn =>
     rintro I i v l news g oI h tk hi hP pk0 F' N' sep
     refine byc fun b_=>?_
     obtain ⟨rfl,hl51,hl52,D,lf,nf,parts,hl49,hDm,hWm,hDS,hfl,hE,hln⟩:=pk0
     clear F4 N4
     obtain ⟨j,e,hj,he,rfl⟩:∃ j e,p.toList[i]?=some j∧es[j]?=some e∧v=.ref e.ka:=by
      rw [List.getElem?_map] at hP
      refine byc fun b_=>?_
      obtain ⟨j,h1,h2⟩:=Option.map_eq_some_iff.mp hP
      refine b_ ?_;clear b_
      have hj:=pr j (List.mem_of_getElem? h1)
      refine ⟨j,es[j],h1,List.getElem?_eq_getElem hj,?_⟩
      rw [← h2]
      simp [List.getD,hj]
     have F:Fr s.heap L h (frm ((53,.ref e.ka)::l)):=F'
     have N:News s.heap L h ((I,oI)::news):=N'
     clear F' N'
     have hi5:i < 5:=by rw [List.length_map] at hi;exact Nat.lt_of_lt_of_le hi pl5
     have hee:=List.mem_of_getElem? he
     have eok:=Wd.ok e hee
     have hkn:(p.toList.map fun i=>(es.map (·.ks)).getD i [])[i]?=some e.ks:=by rw [List.getElem?_map,hj];simp [List.getD,he]
     have hfd:es.find? (fun x=>decide (x.ks=e.ks))=some e:=by
      cases q:es.find? (fun x=>decide (x.ks=e.ks)) with
      | none=>exact absurd (decide_eq_true rfl) (List.find?_eq_none.mp q e hee)
      | some x =>
       refine byc fun b_=>?_
       obtain ⟨hk,a,b,hes',ha,hb⟩:=ent_split Wd.keys q
       refine b_ ?_;clear b_
       rw [hes'] at hee
       rcases List.mem_append.mp hee with h | h
       ·exact absurd rfl (ha e h)
       ·rcases List.mem_cons.mp h with h | h
        ·rw [h]
        ·exact absurd rfl (hb e h)
     have egr:e.gr ∈ groups pts:=by rw [← hgr'];exact List.mem_map.mpr ⟨e,hee,rfl⟩
     have gfin:=groups_fin pts ok e.gr egr
     obtain ⟨n0,n1,n2,t0,t1,t2,kk,eks,eko,b0,b1,b2⟩:=id eok.key
     refine b_ ?_;clear b_
     have room:uA + 3 + 1 < cLine:=Nat.lt_of_le_of_lt (Nat.add_le_add_left (by decide:4 ≤ 8 * 12) uA) r.2.1
     have subK:∀ y ∈ es,(y.ka,y.ko) ∈ (I,oI)::news:=fun y hy=>List.mem_cons_of_mem _ (hWm _ (two_mem hy (List.mem_append_right _ (List.mem_cons_self ..))))
     have inT:∀ q ∈ (e.ra,e.ro)::e.f.nodes,q ∈ (I,oI)::news:=fun q hq=>List.mem_cons_of_mem _ (hWm _ (two_mem hee (List.mem_append_left _ hq)))
     have inL:(e.la,listOf (strValues e.ls).toArray e.ln) ∈ (I,oI)::news:=List.mem_cons_of_mem _ (hWm _ (two_mem hee (List.mem_append_right _ (List.mem_cons_of_mem _ (List.mem_cons_self ..)))))
     k_steps
     show wpAny _ _ _ _ _ _
     refine itemTD N Wd.t (List.mem_cons_of_mem _ (hWm _ memT)) (keyT Wd.ok N subK) (eok.key.tk.key (N _ (subK e hee)).1) room (by rw [atKey_t,hfd];rfl) fun k5=>?_
     try dsimp only
     k_steps
     show wpAny _ _ _ _ _ _
     refine mod_dddm (k:=kk) (t0:=t0) (t1:=t1) (t2:=t2) N (by rw [← eko];exact subK e hee) b0.1 b0.2 b1.1 b1.2 b2.1 b2.2 fun t' k6=>?_
     try dsimp only
     k_steps
     show wpAny _ _ _ _ _ _
     have hlen:(nums n0 n1 n2++Str.ofString "-").length + 60 * (4 + 2) ≤ 1000:=by
      rw [lenApp];exact Nat.le_trans (Nat.add_le_add_right (Nat.add_le_add_right (nums_len b0 b1 b2) _) _) (by decide)
     refine useO F N (walk_spec 4 (Nat.le_refl _) (Fo.fin_fine (by rw [← hv.len];exact hz) gfin.1) rfl (X.keeps F.keep) (T.keeps F.keep) (r.deeper 9 (by decide)) (tree_at (f:=e.f) eok.st fun q hq=>(N q (inT q hq)).1) hlen) fun Dr o6 h6 tk6 F6 N6 sep6 hob=>?_
     refine byc fun b_=>?_
     obtain ⟨lr,nr,rfl,hS,hlr⟩:=hob
     refine b_ ?_;clear b_
     clear F N
     have lrl:lr.length ≤ 780:=by rw [← List.length_map (f:=(·.1))];exact hlr
     have el1:e.ls.length ≤ 1:=by rw [← List.length_map (f:=(·.1))];exact gfin.2
     have l2:lf.length + lr.length + e.ls.length ≤ i * 800 + 800:=Nat.le_trans (Nat.add_le_add (Nat.add_le_add hln lrl) el1) (Nat.add_le_add_left (by decide:780 + 1 ≤ 800) (i * 800))
     have l3:lf.length + lr.length + e.ls.length ≤ 16777216:=Nat.le_trans l2 (Nat.le_trans (Nat.add_le_add_right (Nat.mul_le_mul_right _ (Nat.le_of_lt hi5)) _) (by decide))
     refine add_lists F6 N6 ⟨_,(N6 (D,_) (List.mem_cons_of_mem _ (List.mem_cons_of_mem _ hDm))).1,rfl,_,rfl⟩ ⟨_,(N6 _ (List.mem_cons_self ..)).1,rfl,_,rfl⟩ (fun h8 F8 N8=>?_) (by rw [sizeLine_eq,strValues,strValues,List.length_map,List.length_map];exact Nat.le_trans (Nat.le_add_right _ _) l3)
     rw [show strValues lf++strValues lr=strValues (lf++lr) from List.map_append.symm] at N8
     clear F6 N6
     try dsimp only
     k_steps
     show wpAny _ _ _ _ _ _
     have big:∀ q ∈ (I,oI)::news,q ∈ (h6.objs.size,listOf (strValues (lf++lr)).toArray 0)::(Dr,listOf (strValues lr).toArray nr)::(I,oI)::news:=fun q hq=>List.mem_cons_of_mem _ (List.mem_cons_of_mem _ hq)
     refine itemTD N8 Wd.e (big _ (List.mem_cons_of_mem _ (hWm _ memE))) (keyT Wd.ok N8 fun y hy=>big _ (subK y hy)) (eok.key.tk.key (N8 _ (big _ (subK e hee))).1) room (by rw [atKey_e,hfd];rfl) fun k7=>?_
     try dsimp only
     k_steps
     show wpAny _ _ _ _ _ _
     refine add_lists F8 N8 ⟨_,(N8 (h6.objs.size,_) (List.mem_cons_self ..)).1,rfl,_,rfl⟩ ⟨_,(N8 _ (big _ inL)).1,rfl,_,rfl⟩ (fun h9 F9 N9=>?_) (by rw [sizeLine_eq,strValues,strValues,List.length_map,List.length_map,List.length_append];exact l3)
     rw [show strValues (lf++lr)++strValues e.ls=strValues (lf++lr++e.ls) from List.map_append.symm] at N9
     have sepN:h8.objs.size ≠ I:=fun q=>by
      have:=Heap.lt_size (N8 (I,oI) (big _ (List.mem_cons_self ..))).1
      rw [← q] at this
      exact Nat.lt_irrefl _ this
     clear F8 N8
     try dsimp only
     k_steps
     rename Fr _ _ _ _=>F10
     rename News _ _ _ _=>N10
     refine turnG_end F10 (news':=(h8.objs.size,listOf (strValues (lf++lr++e.ls)).toArray 0)::news) (News.sub N10 (subC (mT (big _ mH)) (subC mH fun q hq=>mT (big _ (mT hq))))) (alC sepN sep) ⟨rfl,hl51,hl52,_,lf++lr++e.ls,0,parts++[lr.map (·.1)++e.ls.map (·.1)],rfl,List.mem_cons_self ..,fun q hq=>List.mem_cons_of_mem _ (hWm q hq),List.mem_cons_of_mem _ hDS,?_,?_,?_⟩
     ·rw [List.map_append,List.map_append,hfl,List.flatten_append,List.flatten_cons,List.flatten_nil,List.append_nil,List.append_assoc]
     ·rw [← take_snoc hkn]
      exact hE.snoc ⟨e.gr,egr,n0,n1,n2,lr.map (·.1),rfl,eks,hS,rfl⟩
     ·rw [List.length_append,List.length_append,Nat.succ_mul];exact l2
    case fin =>
     rintro l news h tk g pk0 F' N'
     refine byc fun b_=>?_
     obtain ⟨rfl,hl51,hl52,D,lf,nf,parts,hl49,hDm,hWm,hDS,hfl,hE,hln⟩:=pk0
     refine b_ ?_;clear b_
     clear F4 N4
     have F:Fr s.heap L h (frm l):=F'
     clear F'
     try dsimp only
     k_steps
     try dsimp only
     have lz:(p.toList.map fun i=>(es.map fun e=>Value.ref e.ka).getD i .none).length=(p.toList.map fun i=>(es.map (·.ks)).getD i []).length:=by rw [List.length_map,List.length_map]
     have l5:(p.toList.map fun i=>(es.map fun e=>Value.ref e.ka).getD i .none).length ≤ 5:=by
      rw [List.length_map];exact pl5
     have lm:lf.length ≤ 5 * 800:=Nat.le_trans hln (Nat.mul_le_mul_right _ l5)
     rw [lz,List.take_length] at hE
     have hgk:(groups pts).map (·.ks)=es.map (·.ks):=by rw [← hgr',List.map_map];rfl
     exact hR _ _ _ (Fr.keep F) ⟨D,_,rfl,(N' _ hDm).2.2,(N' _ hDm).1,lf,nf,rfl,⟨_,parts,by rw [hgk];exact hout,pairs_getD [] hsrt,hE,hfl⟩,by rw [List.length_map];exact lm⟩
theorem rs53e:True:=by
 k_with "e53"=>skip
 exact trivial
structure Cel (sc:Scope) (cl:List (Str × Addr)) (x:Str) (c:Addr):Prop where
 kd:sc.names.lookup x=some .cell
 at_:cl.lookup x=some c
 nd:(x == ("__debug__":Str))=false
section
variable {M:Model} {E:Value→Shared→Prop} {name:Str} {scope:Scope} {L a c:Addr} {cd v:Value} {h₀:Heap} {l:List (Nat × Value)} {x:Str} {i:Nat} {pos:Pos} {cl:List (Str × Addr)} {news:List (Addr × Obj)} {o:Obj} {m:Str→Option Value}
theorem ldLX {Q:Value→Shared→Prop} (F:Fr h₀ L s.heap (frm l)) (n:Loc scope x i) (hv:l.lookup i=some v) (h:Q v s) (hk:scope.kind=.function):wpAny M A (eval (.Name x pos) (envX name scope L a cd cl)) Q E s :=
 nameX_L F (frm_look n.ix hv) h hk n.kd (nd_of_nix n.ix)
theorem ldGX {Q:Value→Shared→Prop} (F:Fr h₀ L s.heap m) (X:(hd.heap_1 w.params).In h₀) (T:Top p loose mean mg mb h₀) (n:Glo w scope x v) (h:Q v s) (hk:scope.kind=.function):wpAny M A (eval (.Name x pos) (envX name scope L a cd cl)) Q E s :=
 nameX_K F X (topRead_of T) n.gl h hk n.kd n.nd
theorem ldBX {Q:Value→Shared→Prop} (F:Fr h₀ L s.heap m) (X:(hd.heap_1 w.params).In h₀) (T:Top p loose mean mg mb h₀) (n:Blt w scope x v) (h:Q v s) (hk:scope.kind=.function):wpAny M A (eval (.Name x pos) (envX name scope L a cd cl)) Q E s :=
 nameX_B F X (topRead_of T) n.gl n.bo n.nn h hk n.kd n.nd
theorem ldCX {Q:Value→Shared→Prop} (N:News h₀ L s.heap news) (n:Cel scope cl x c) (hm:(c,o) ∈ news) (hd:o.data=.cell (some v)) (h:Q v s) (hk:scope.kind=.function):wpAny M A (eval (.Name x pos) (envX name scope L a cd cl)) Q E s :=
 nameX_C N n.at_ hm hd h hk n.kd n.nd
theorem stLX {Q:Unit→Shared→Prop} (F:Fr h₀ L s.heap (frm l)) (N:News h₀ L s.heap news) (n:Loc scope x i) (hk:scope.kind=.function)
  (h:∀ h' tk,Fr h₀ L h' (frm ((i,v)::l))→News h₀ L h' news→Q () { s with heap:=h',toks:=tk }):wpAny M A (storeName (envX name scope L a cd cl) x v) Q E s :=
 storeX_L F N (fun h' F' N'=>h h' _ (by rw [← frm_push n.ix];exact F') N') hk n.kd
set_option tactic.hygienic true in
theorem stCX {Q:Unit→Shared→Prop} {v₀:Option Value} (F:Fr h₀ L s.heap m) (N:News h₀ L s.heap news) (n:Cel scope cl x c) (hm:(c,o) ∈ news) (hd:o.data=.cell v₀) (hk:scope.kind=.function)
  (h:∀ h' o',Fr h₀ L h' m→News h₀ L h' (news.map (upd c o'))→o'.data=.cell (some v)→Q () { s with heap:=h' }):wpAny M A (storeName (envX name scope L a cd cl) x v) Q E s:=by
 have b:=N _ hm
 refine wpAny_storeName_cell hk n.kd n.at_ ⟨o,b.1,hd⟩ fun h' hv hs=>?_
 obtain ⟨o',ho',hd'⟩:=hv
 refine h h' o' (F.change hs b.2.1 b.2.2) (fun p hp=>?_) hd'
 obtain ⟨q,hq,e⟩:=List.mem_map.mp hp
 unfold upd at e
 split at e
 ·subst e;exact ⟨ho',b.2⟩
 ·rename_i hne
  subst e
  exact ⟨(hs.2 _ hne).trans (N _ hq).1,(N _ hq).2⟩
theorem addLocX {body:List Stmt} {Q:Flow→Shared→Prop} (hx:nix x=some i) (hk:scope.names.lookup x=some .local) (h:Loc scope x i→wpAny M A (execs body (envX name scope L a cd cl)) Q E s):wpAny M A (execs body (envX name scope L a cd cl)) Q E s:=h ⟨hx,hk⟩
theorem addCelX {body:List Stmt} {Q:Flow→Shared→Prop} (hk:scope.names.lookup x=some .cell) (hc:cl.lookup x=some c) (hd:(x == ("__debug__":Str))=false) (h:Cel scope cl x c→wpAny M A (execs body (envX name scope L a cd cl)) Q E s):wpAny M A (execs body (envX name scope L a cd cl)) Q E s:=h ⟨hk,hc,hd⟩
theorem addGloX {body:List Stmt} {Q:Flow→Shared→Prop} (hg:∀ w:World,nsIn (hd.heap_1 w.params) mainGlobals x=some (some v)∧(x == ("__debug__":Str))=false) (hk:scope.names.lookup x=some .globalImplicit) (h:Glo w scope x v→wpAny M A (execs body (envX name scope L a cd cl)) Q E s):wpAny M A (execs body (envX name scope L a cd cl)) Q E s:=h ⟨(hg w).1,hk,(hg w).2⟩
theorem addBltX {body:List Stmt} {Q:Flow→Shared→Prop} (hg:∀ w:World,nsIn (hd.heap_1 w.params) mainGlobals x=some none∧bootBuiltins x=some v∧x ≠ "__name__"∧(x == ("__debug__":Str))=false) (hk:scope.names.lookup x=some .globalImplicit) (h:Blt w scope x v→wpAny M A (execs body (envX name scope L a cd cl)) Q E s):wpAny M A (execs body (envX name scope L a cd cl)) Q E s :=
 h ⟨(hg w).1,(hg w).2.1,(hg w).2.2.1,hk,(hg w).2.2.2⟩
end
theorem cell_ne {L i j:Nat} {a b:Addr} (ea:a=L + 1 + i) (eb:b=L + 1 + j) (h:i ≠ j):a ≠ b:=fun q=>h (by rw [ea,eb] at q;exact Nat.add_left_cancel q)
theorem rs54m0:True:=by
 k_with "@my cellmem"=>first | kpc_g | (apply mT;k_extra "@my cellmem")
 k_with "@my namex"=>first | ((try dsimp only);apply ldLX;kpc_g;kpc_g;k_extra "@my look";rotate_left;kernel_rfl!) | ((try dsimp only);apply ldCX;kpc_g;kpc_g;k_extra "@my cellmem";kpc_g;rotate_left;kernel_rfl!) | ((try dsimp only);apply ldBX;kpc_g;kpc_g;kpc_g;kpc_g;rotate_left;kernel_rfl!) | ((try dsimp only);apply ldGX;kpc_g;kpc_g;kpc_g;kpc_g;rotate_left;kernel_rfl!)
 exact trivial
theorem enterC {R:Result→Shared→Prop} {name qual:Str} {params:Arguments} {body:List Stmt} {scope:Scope} {dV kV doc pm cdv ct oc:Value} {an od:Option Addr} {osl:Array (Option Value)} {f:Addr} {args:Args} {h₀:Heap} {news:List (Addr × Obj)} (NW:NewAbove h₀ s.heap news) (binds:List (Str × Value)) (fl:List (Nat × Value))
  (X:(hd.heap_1 w.params).In h₀) (T:Top p loose mean mg mb h₀)
  (ho:(hd.heap_1 w.params).lookup f=some ⟨oc,od,.func (fnOf name qual params body scope dV kV doc pm an cdv ct),osl⟩) (hcd:codeIn (hd.heap_1 w.params) cdv qual=true) (hroom:A.depth < recursionLimit)
  (hbind:BindsTo s (fnOf name qual params body scope dV kV doc pm an cdv ct) args binds) (hloc:∀ y ∈ binds,scope.names.lookup y.1=some .local)
  (hco:scope.isCoroutine=false) (hgen:scope.isGenerator=false) (hk:scope.kind=.function) (hnm:NamesAre binds.reverse fl)
  (h:∀ L h₁ tk,Fr h₀ L h₁ (frm fl)→News h₀ L h₁ news→(∀ n c,(cellsFrom (L + 1) scope.names []).lookup n=some c→∃ o,h₁.get? c=some o∧o.data=.cell none∧c ≠ L∧h₀.get? c=none∧∀ q ∈ news,q.1 ≠ c) →
   wpAny (model prog w) (A.deeper (envX qual scope L f cdv (cellsFrom (L + 1) scope.names []))) (execs body (envX qual scope L f cdv (cellsFrom (L + 1) scope.names [])))
    (fun fl s'=>R (.ok (.ret (match fl with | .ret v=>v | _=>.none))) s') (fun _ _=>False)
    { s with heap:=h₁,toks:=tk }):codeAny (model prog w) A (.call (.ref f) args) R s:=by
 have XS:=X.keeps NW.keep
 have lim:=(T.keeps NW.keep).nolimit
 refine codeAny_call_function hroom (XS _ _ ho) rfl hco hgen rfl (codeRec_of XS hcd) (hbind _ _ _ _ ?_)
 refine wpAny_newFunctionEnv_cells hk (fun y hy=>.inl (hloc y hy)) fun env' he s' x=>?_
 subst he
 refine ⟨lim.keeps x.toInCall.keep,codeAny_func ?_⟩
 obtain ⟨h₁,tk,rfl,_⟩:=x.done
 have hk₁:=x.toInCall.keep
 have ns:=x.toInCall.ns
 have bl:∀ (l:List (Str × Value)) (m:Str→Option Value),(∀ y ∈ l,scope.names.lookup y.1=some .local)→bindL (fun y=>scope.names.lookup y) l m=fun y=>(l.reverse.lookup y).or (m y):=by
  intro l
  induction l with
  | nil=>exact fun m _=>funext fun y=>rfl
  | cons b l ih =>
   intro m hl
   rw [bindL,if_pos (hl b (List.mem_cons_self ..)),ih _ fun y hy=>hl y (List.mem_cons_of_mem _ hy)]
   funext y
   rw [List.reverse_cons,List.lookup_append,Option.or_assoc]
   congr 1
   rw [List.lookup_cons]
   by_cases q:y=b.1
   ·rw [if_pos q,beq_iff_eq.mpr q];rfl
   ·rw [if_neg q,beq_eq_false_iff_ne.mpr q];rfl
 have bc:∀ (l:List (Str × Value)) (m:Str→Option Value),(∀ y ∈ l,scope.names.lookup y.1=some .local)→bindC (fun y=>scope.names.lookup y) l m=m:=by
  intro l
  induction l with
  | nil=>exact fun m _=>rfl
  | cons b l ih =>
   intro m hl
   rw [bindC,if_pos (hl b (List.mem_cons_self ..)),ih _ fun y hy=>hl y (List.mem_cons_of_mem _ hy)]
 have ns2:h₁.Ns s.heap.objs.size (frm fl):=by
  have e:=bl binds (fun _=>none) hloc
  have e2:(fun y=>(binds.reverse.lookup y).or none)=frm fl:=by rw [← frm_binds hnm];funext y;simp
  have ns':h₁.Ns s.heap.objs.size (bindL (fun y=>scope.names.lookup y) binds fun _=>none):=ns
  rw [e,e2] at ns'
  exact ns'
 refine wpAny_mono (h s.heap.objs.size h₁ tk ⟨ns2,fun b o e=>hk₁ _ _ (NW.keep _ _ e),NW.size⟩ (fun q hq=>⟨hk₁ _ _ (NW.news q hq).1,Nat.ne_of_lt (Heap.lt_size (NW.news q hq).1),(NW.news q hq).2⟩) fun n c hc=>?_) (fun _ _ x=>x) fun _ _ x=>x.elim
 obtain ⟨o,e1,e2⟩:=x.cell n c hc
 have ab:s.heap.objs.size < c:=x.above n c (mem_of_lookup hc)
 refine ⟨o,e1,?_,Nat.ne_of_gt ab,Heap.get?_none_of_le (Nat.le_trans NW.size (Nat.le_of_lt ab)),fun q hq=>Nat.ne_of_lt (Nat.lt_trans (Heap.lt_size (NW.news q hq).1) ab)⟩
 have e:=bc binds (fun _=>none) hloc
 have e3:o.data=.cell ((bindC (fun y=>scope.names.lookup y) binds fun _=>none) n):=e2
 rw [e] at e3
 exact e3
theorem setCl {M:Model} {E:Value→Shared→Prop} {name:Str} {scope:Scope} {L a:Addr} {cd:Value} {cl cl':List (Str × Addr)} {body:List Stmt} {Q:Flow→Shared→Prop} (e:cl=cl') (h:wpAny M (A.deeper (envX name scope L a cd cl')) (execs body (envX name scope L a cd cl')) Q E s) :
  wpAny M (A.deeper (envX name scope L a cd cl)) (execs body (envX name scope L a cd cl)) Q E s:=e ▸ h
noncomputable def dec (n:Nat):List Nat:=(Nat.toDigits 10 n).map Char.toNat
theorem dec_cps (n:Nat):(Str.ofString (toString (n:Int))).cps.toList=dec n:=by
 have e:toString (n:Int)=Nat.repr n:=rfl
 have h:=signs_ofString (toString (n:Int))
 rw [e,Nat.toList_repr] at h
 rw [e]
 exact h
theorem digitChar_nat {d:Nat} (h:d < 10):(Nat.digitChar d).toNat=48 + d:=(by decide +kernel:∀ i:Fin 10,(Nat.digitChar i.val).toNat=48 + i.val) ⟨d,h⟩
theorem dec_lt {n:Nat} (h:n < 10):dec n=[48 + n]:=by
 unfold dec
 rw [Nat.toDigits_of_lt_base h,List.map_cons,List.map_nil,digitChar_nat h]
theorem dec_ge {n:Nat} (h:10 ≤ n):dec n=dec (n / 10)++[48 + n % 10]:=by
 unfold dec
 rw [Nat.toDigits_of_base_le (by decide) h,List.map_append,List.map_cons,List.map_nil,digitChar_nat (Nat.mod_lt _ (by decide))]
theorem dec_ne (n:Nat):dec n ≠ []:=by
 unfold dec
 simp [Nat.toDigits_ne_nil]
noncomputable def Dg (l:List Nat):Prop:=∀ c ∈ l,48 ≤ c∧c ≤ 57
noncomputable def dval:List Nat→Nat
 | []=>0
 | c::r=>(c - 48) * 10 ^ r.length + dval r
theorem dval_c (c:Nat) (r:List Nat):dval (c::r)=(c - 48) * 10 ^ r.length + dval r:=rfl
theorem dval_snoc (l:List Nat) (c:Nat):dval (l++[c])=10 * dval l + (c - 48):=by
 induction l with
 | nil=>exact (Nat.mul_one (c - 48)).trans (Nat.zero_add _).symm
 | cons a l ih =>
  rw [List.cons_append,dval_c,ih,dval_c,List.length_append,List.length_singleton,Nat.pow_succ]
  rw [Nat.mul_add,← Nat.add_assoc]
  congr 2
  rw [Nat.mul_comm (10 ^ l.length) 10,← Nat.mul_assoc,Nat.mul_comm (a - 48) 10,Nat.mul_assoc]
theorem dec_facts (n:Nat):Dg (dec n)∧dval (dec n)=n∧(n ≠ 0→∃ c r,dec n=c::r∧49 ≤ c):=by
 induction n using Nat.strongRecOn with
 | _ n ih =>
  by_cases h:n < 10
  ·rw [dec_lt h]
   refine ⟨fun c hc=>?_,(Nat.mul_one _).trans (Nat.add_sub_cancel_left ..),fun h0=>⟨48 + n,[],rfl,by lia⟩⟩
   rw [List.mem_singleton.mp hc];lia
  ·have h10:10 ≤ n:=Nat.le_of_not_lt h
   refine byc fun b_=>?_
   obtain ⟨a,b,c⟩:=ih (n / 10) (Nat.div_lt_self (by lia) (by decide))
   refine b_ ?_;clear b_
   rw [dec_ge h10]
   refine ⟨fun x hx=>?_,?_,fun _=>?_⟩
   ·rcases List.mem_append.mp hx with hx | hx
    ·exact a x hx
    ·rw [List.mem_singleton.mp hx]
     have:=Nat.mod_lt n (show 0 < 10 by decide)
     lia
   ·rw [dval_snoc,b];lia
   ·refine byc fun b_=>?_
    obtain ⟨x,r,e,hx⟩:=c (by lia)
    refine b_ ?_;clear b_
    exact ⟨x,r++[48 + n % 10],by rw [e];rfl,hx⟩
theorem dval_lt {l:List Nat} (h:Dg l):dval l < 10 ^ l.length:=by
 induction l with
 | nil=>exact Nat.one_pos
 | cons c r ih =>
  have h1:=ih fun x hx=>h x (List.mem_cons_of_mem _ hx)
  have h2:=(h c (List.mem_cons_self ..)).2
  rw [dval_c,List.length_cons,Nat.pow_succ]
  have:(c - 48) * 10 ^ r.length ≤ 9 * 10 ^ r.length:=Nat.mul_le_mul_right _ (by lia)
  lia
theorem dval_ge {c:Nat} {r:List Nat} (h:49 ≤ c):10 ^ r.length ≤ dval (c::r):=by
 rw [dval_c]
 have:1 * 10 ^ r.length ≤ (c - 48) * 10 ^ r.length:=Nat.mul_le_mul_right _ (by lia)
 lia
theorem dval_lex {a:List Nat}:∀ {b:List Nat},Dg a→Dg b→a.length=b.length→(a < b↔dval a < dval b):=by
 induction a with
 | nil=>intro b _ _ h;cases b with
  | nil=>exact ⟨(fun h=>nomatch h),(fun h=>absurd h (Nat.lt_irrefl _))⟩
  | cons=>exact nomatch h
 | cons c a ih=>intro b ha hb h;cases b with
  | nil=>exact nomatch h
  | cons d b =>
   have hl:a.length=b.length:=Nat.succ.inj h
   have ha':Dg a:=fun x hx=>ha x (List.mem_cons_of_mem _ hx)
   have hb':Dg b:=fun x hx=>hb x (List.mem_cons_of_mem _ hx)
   have ih:=ih ha' hb' hl
   have la:=dval_lt ha'
   have lb:=dval_lt hb'
   have c1:=(ha c (List.mem_cons_self ..)).1
   have d1:=(hb d (List.mem_cons_self ..)).1
   rw [List.cons_lt_cons_iff,ih,dval_c,dval_c,hl]
   rw [hl] at la
   clear ih ha hb ha' hb' h hl
   generalize dval a=u at *
   generalize dval b=v at *
   generalize 10 ^ b.length=T at *
   rcases Nat.lt_trichotomy c d with q | q | q
   ·refine ⟨fun _=>?_,fun _=>.inl q⟩
    have:(c - 48 + 1) * T ≤ (d - 48) * T:=Nat.mul_le_mul_right _ (by lia)
    rw [Nat.add_mul] at this
    lia
   ·rw [q]
    exact ⟨fun h=>h.elim (fun h=>absurd h (Nat.lt_irrefl _)) fun h=>Nat.add_lt_add_left h.2 _,fun h=>.inr ⟨rfl,Nat.lt_of_add_lt_add_left h⟩⟩
   ·refine ⟨fun h=>?_,fun h=>?_⟩
    ·exact h.elim (fun h=>absurd h (Nat.lt_asymm q)) fun h=>absurd h.1 (Nat.ne_of_gt q)
    ·have:(d - 48 + 1) * T ≤ (c - 48) * T:=Nat.mul_le_mul_right _ (by lia)
     rw [Nat.add_mul] at this
     lia
noncomputable def Plain (l:List Nat):Prop:=Dg l∧(∃ c r,l=c::r∧(49 ≤ c∨r=[]))
theorem dec_plain (n:Nat):Plain (dec n):=by
 refine ⟨(dec_facts n).1,?_⟩
 by_cases h:n=0
 ·subst h;exact ⟨48,[],rfl,.inr rfl⟩
 ·refine byc fun b_=>?_
  obtain ⟨c,r,e,hc⟩:=(dec_facts n).2.2 h
  refine b_ ?_;clear b_
  exact ⟨c,r,e,.inl hc⟩
theorem plain_len {a b:List Nat} (ha:Plain a) (hb:Plain b) (h:a.length < b.length):dval a < dval b:=by
 refine byc fun b_=>?_
 obtain ⟨da,c,r,rfl,hc⟩:=ha
 obtain ⟨db,d,t,rfl,hd⟩:=hb
 refine b_ ?_;clear b_
 rcases hd with hd | rfl
 ·have h1:=dval_lt da
  have h2:=dval_ge (r:=t) hd
  have:10 ^ (c::r).length ≤ 10 ^ t.length:=Nat.pow_le_pow_right (by decide) (by rw [List.length_cons] at h ⊢;rw [List.length_cons] at h;lia)
  lia
 ·rw [List.length_cons,List.length_cons] at h
  exact absurd h (by simp)
theorem plain_lt {a b:List Nat} (ha:Plain a) (hb:Plain b):((a.length == b.length)=true∧a < b∨(a.length == b.length)=false∧a.length < b.length)↔dval a < dval b:=by
 rcases Nat.lt_trichotomy a.length b.length with h | h | h
 ·have:=plain_len ha hb h
  have e:(a.length == b.length)=false:=by simp;lia
  simp [e,h,this]
 ·have:=dval_lex ha.1 hb.1 h
  have e:(a.length == b.length)=true:=by simp [h]
  simp [e,this]
 ·have:=plain_len hb ha h
  have e:(a.length == b.length)=false:=by simp;lia
  simp [e];lia
theorem plain_inj {a b:List Nat} (ha:Plain a) (hb:Plain b) (h:dval a=dval b):a=b:=by
 rcases Nat.lt_trichotomy a.length b.length with q | q | q
 ·have:=plain_len ha hb q;lia
 ·have h1:=dval_lex ha.1 hb.1 q
  have h2:=dval_lex hb.1 ha.1 q.symm
  have n1:¬ a < b:=fun x=>by have:=h1.mp x;lia
  have n2:¬ b < a:=fun x=>by have:=h2.mp x;lia
  exact List.le_antisymm (List.not_lt.mp n2) (List.not_lt.mp n1)
 ·have:=plain_len hb ha q;lia
theorem isDigit_iff {c:Nat} (h:c < 128):Unicode.isDigit c=true↔48 ≤ c∧c ≤ 57:=by
 have:∀ c:Fin 128,Unicode.isDigit c.val=(decide (48 ≤ c.val) && decide (c.val ≤ 57)):=by decide +kernel
 rw [this ⟨c,h⟩]
 simp
theorem isdigit_iff {x:Str} (h:∀ c ∈ x.cps.toList,c < 128):Txt.isdigit x=true↔x.cps.toList ≠ []∧Dg x.cps.toList:=by
 unfold Txt.isdigit
 rw [Bool.and_eq_true,← Array.all_toList,List.all_eq_true]
 constructor
 ·rintro ⟨a,b⟩
  refine ⟨fun e=>?_,fun c hc=>(isDigit_iff (h c hc)).mp (b c hc)⟩
  have:x.length=x.cps.toList.length:=by rw [Array.length_toList];rfl
  rw [e] at this
  rw [this] at a
  simp at a
 ·rintro ⟨a,b⟩
  refine ⟨?_,fun c hc=>(isDigit_iff (h c hc)).mpr (b c hc)⟩
  have:x.length=x.cps.toList.length:=by rw [Array.length_toList];rfl
  rw [this]
  cases q:x.cps.toList with
  | nil=>exact absurd q a
  | cons _ _=>simp
noncomputable def WSign (c:Nat):Prop:=c=45∨(48 ≤ c∧c ≤ 57)∨(65 ≤ c∧c ≤ 90)∨(97 ≤ c∧c ≤ 122)
structure Word (x:Str):Prop where
 ne:x.cps.toList ≠ []
 le:x.length ≤ 50
 sg:∀ c ∈ x.cps.toList,WSign c
 pl:Txt.isdigit x=true→Plain x.cps.toList
theorem WSign.lt {c:Nat} (h:WSign c):c < 128:=h.elim (· ▸ by decide) fun h=>h.elim (fun h=>Nat.lt_of_le_of_lt h.2 (by decide)) fun h=>h.elim (fun h=>Nat.lt_of_le_of_lt h.2 (by decide)) fun h=>Nat.lt_of_le_of_lt h.2 (by decide)
theorem Word.asc {x:Str} (h:Word x):∀ c ∈ x.cps.toList,c < 128:=fun c hc=>(h.sg c hc).lt
theorem dec_word {n:Int} (h0:0 ≤ n) (h1:n < 10 ^ 18):Word (Str.ofString (toString n)):=by
 obtain ⟨k,rfl⟩:=Int.eq_ofNat_of_zero_le h0
 have e:=dec_cps k
 refine ⟨by rw [e];exact dec_ne k,Nat.le_trans (toString_length_le h0 (by decide) h1) (by decide),fun c hc=>?_,fun _=>by rw [e];exact dec_plain k⟩
 rw [e] at hc
 exact .inr (.inl ((dec_facts k).1 c hc))
theorem signs_w:∀ i:Nat,i < 63→∃ c,(Txt.item lawSigns (i:Int)).cps.toList=[c]∧WSign c:=by
 intro i hi
 have d:∀ c:Nat,Decidable (WSign c):=fun c=>by unfold WSign;exact inferInstance
 have h1:∀ i:Fin 63,(Txt.item lawSigns ((i.val:Nat):Int)).cps.toList=[((Txt.item lawSigns ((i.val:Nat):Int)).cps.toList).headD 0]:=by decide +kernel
 have h2:∀ i:Fin 63,@decide (WSign (((Txt.item lawSigns ((i.val:Nat):Int)).cps.toList).headD 0)) (by unfold WSign;exact inferInstance)=true:=by decide +kernel
 exact ⟨_,h1 ⟨i,hi⟩,@of_decide_eq_true _ (_) (h2 ⟨i,hi⟩)⟩
theorem wordGo_facts (f:Nat):∀ (r:Nat) (w:Str),(∀ c ∈ w.cps.toList,WSign c)→(∀ c ∈ (wordGo f r w).cps.toList,WSign c)∧(wordGo f r w).length ≤ w.length + f∧w.length ≤ (wordGo f r w).length∧(r ≠ 0→0 < f→w.length < (wordGo f r w).length):=by
 induction f with
 | zero=>exact fun _ w h=>⟨h,Nat.le_refl _,Nat.le_refl _,fun _ q=>absurd q (Nat.lt_irrefl _)⟩
 | succ f ih =>
  intro r w h
  rw [wordGo_c]
  by_cases q:r=0
  ·rw [if_pos q];exact ⟨h,Nat.le_add_right _ _,Nat.le_refl _,fun z=>absurd q z⟩
  ·rw [if_neg q]
   have em:((r:Int).fmod 63)=((r % 63:Nat):Int):=by rw [Int.fmod_eq_emod_of_nonneg _ (by decide)];rfl
   refine byc fun b_=>?_
   obtain ⟨c,e,hc⟩:=signs_w (r % 63) (Nat.mod_lt _ (by decide))
   rw [← em] at e
   have l1:(Txt.item lawSigns ((r:Int).fmod 63)).length=1:=by
    refine (?_:(Txt.item lawSigns ((r:Int).fmod 63)).cps.size=1)
    rw [← Array.length_toList,e];rfl
   obtain ⟨a1,a2,a3,_⟩:=ih (r / 63) (w++Txt.item lawSigns ((r:Int).fmod 63)) (by
    rw [cps_toList_append,e]
    exact List.forall_mem_append.mpr ⟨h,List.forall_mem_singleton.mpr hc⟩)
   rw [lenApp,l1] at a2 a3
   exact b_ ⟨a1,Nat.add_right_comm _ 1 f ▸ a2,Nat.le_of_succ_le a3,fun _ _=>a3⟩
theorem len_cps (x:Str):x.cps.toList.length=x.length:=Array.length_toList
set_option tactic.hygienic true in
theorem word_word {r:Int} (h0:1 ≤ r) (h1:r ≤ 1000000000000):Word (lawWord r):=by
 unfold lawWord
 split
 ·exact dec_word (by rw [Int.fdiv_eq_ediv_of_nonneg _ (by decide)];lia) (by rw [Int.fdiv_eq_ediv_of_nonneg _ (by decide)];lia)
 ·rename_i hodd
  have hk:(r.fdiv 2).toNat ≠ 0:=by
   rw [Int.fdiv_eq_ediv_of_nonneg _ (by decide)]
   rw [Int.fmod_eq_emod_of_nonneg _ (by decide)] at hodd
   lia
  have e0:∀ c ∈ (Str.ofString "").cps.toList,WSign c:=by
   have e:(Str.ofString "").cps.toList=[]:=by decide
   rw [e];exact fun c hc=>nomatch hc
  refine byc fun b_=>?_
  obtain ⟨a1,a2,a3,a4⟩:=wordGo_facts 8 (r.fdiv 2).toNat (Str.ofString "") e0
  refine b_ ?_;clear b_
  have a5:=a4 hk (by decide)
  have l0:(Str.ofString "").length=0:=rfl
  rw [l0] at a2 a5
  generalize wordGo 8 (r.fdiv 2).toNat (Str.ofString "")=x at a1 a2 a5
  have xn:x.cps.toList ≠ []:=fun e=>by rw [← len_cps,e] at a5;exact absurd a5 (by decide)
  split
  ·rename_i hd
   have dn:(Str.ofString "-").cps.toList=[45]:=by decide
   have ln:(Str.ofString "-").length=1:=by decide
   have sg:∀ c ∈ (x++Str.ofString "-").cps.toList,WSign c:=fun c hc=>by
    rw [cps_toList_append,dn] at hc
    rcases List.mem_append.mp hc with hc | hc
    ·exact a1 c hc
    ·rw [List.mem_singleton.mp hc];exact .inl rfl
   refine ⟨fun e=>?_,by rw [lenApp,ln];lia,sg,fun hd2=>?_⟩
   ·rw [cps_toList_append,dn] at e;simp at e
   ·have:=((isdigit_iff fun c hc=>(sg c hc).lt).mp hd2).2 45 (by rw [cps_toList_append,dn];simp)
    lia
  ·rename_i hd
   exact ⟨xn,by lia,a1,fun h=>absurd h hd⟩
theorem tails_word:∀ i:Nat,i < 12→∀ x ∈ lawTails.getD i [],Word x:=by
 intro i hi x hx
 have key:∀ i:Fin 12,∀ x ∈ lawTails.getD i.val [],x.cps.toList ≠ []∧x.length ≤ 50∧(∀ c ∈ x.cps.toList,c=45∨(48 ≤ c∧c ≤ 57)∨(65 ≤ c∧c ≤ 90)∨(97 ≤ c∧c ≤ 122))∧(x.cps.toList=[48]∨49 ≤ x.cps.toList.headD 0∨x.cps.toList=[45]):=by decide +kernel
 refine byc fun b_=>?_
 obtain ⟨a,b,sg,d⟩:=key ⟨i,hi⟩ x hx
 refine b_ ?_;clear b_
 have sg:∀ c ∈ x.cps.toList,WSign c:=sg
 refine ⟨a,b,sg,fun hd=>?_⟩
 have dg:=((isdigit_iff fun c hc=>(sg c hc).lt).mp hd).2
 rcases d with d | d | d
 ·exact ⟨dg,48,[],d,.inr rfl⟩
 ·cases q:x.cps.toList with
  | nil=>exact absurd q a
  | cons y r=>rw [q] at d dg;exact ⟨dg,y,r,rfl,.inl d⟩
 ·exact absurd (dg 45 (by rw [d];exact .head _)).1 (by decide)
theorem lawTail_words {tl:List Str} (h:LawTail tl):tl.length ≤ 4∧∀ x ∈ tl,Word x:=by
 obtain ⟨i,rs,hi,rfl,hr,hl⟩:=h
 refine ⟨hl,fun x hx=>?_⟩
 rcases List.mem_append.mp hx with hx | hx
 ·exact tails_word i hi x hx
 ·obtain ⟨r,hr',rfl⟩:=List.mem_map.mp hx
  exact word_word (hr r hr').1 (hr r hr').2
theorem Word.nonempty {x:Str} (h:Word x):x ≠ Str.empty:=fun e=>h.ne (by rw [e];rfl)
structure PtW (p:Pt):Prop where
 b0:0 ≤ p.n0∧p.n0 < 10 ^ 18
 b1:0 ≤ p.n1∧p.n1 < 10 ^ 18
 b2:0 ≤ p.n2∧p.n2 < 10 ^ 18
 tl4:p.tl.length ≤ 4
 w:∀ x ∈ p.tl,Word x
theorem PtW.ok {p:Pt} (h:PtW p):PtOk p:=⟨h.b0,h.b1,h.b2,h.tl4,fun x hx=>⟨(h.w x hx).nonempty,(h.w x hx).le⟩⟩
theorem str_ext {x y:Str} (h:x.cps.toList=y.cps.toList):x=y:=by
 cases x;cases y
 rw [Str.mk.injEq]
 exact Array.toList_inj.mp h
theorem strEq {x y:Str} (h:(x == y)=true):x=y:=by simpa using h
theorem slice_mid {x:Str} {a b c:List Nat} (h:x.cps.toList=a++(b++c)) {i j:Int} (hi:i=a.length) (hj:j=a.length + b.length):Txt.slice x (some i) (some j)=⟨b.toArray⟩:=by
 have hl:x.length=a.length + (b.length + c.length):=by rw [← len_cps,h,List.length_append,List.length_append]
 rw [strEq (slice_closesL (x:=x) (i:=i) (j:=j) (by lia) (by lia) (by lia)),h]
 have e1:i.toNat=a.length:=by lia
 have e2:(j - i).toNat=b.length:=by lia
 rw [e1,e2,List.drop_left,List.take_left]
theorem slice_top {x:Str} {b c:List Nat} (h:x.cps.toList=b++c) {j:Int} (hj:j=b.length):Txt.slice x none (some j)=⟨b.toArray⟩:=by
 have hl:x.length=b.length + c.length:=by rw [← len_cps,h,List.length_append]
 rw [strEq (slice_closes_toL (x:=x) (j:=j) (by lia) (by lia)),h]
 have e2:(j - 0).toNat=b.length:=by lia
 rw [e2]
 refine (?_:Str.mk ((List.drop 0 (b++c)).take b.length).toArray=_)
 rw [List.drop_zero,List.take_left]
theorem item_at {x:Str} {a:List Nat} {c:Nat} {r:List Nat} (h:x.cps.toList=a++c::r):Txt.item x (a.length:Int)=⟨#[c]⟩:=by
 have hl:x.length=a.length + (r.length + 1):=by rw [← len_cps,h,List.length_append,List.length_cons]
 unfold Txt.item Txt.charAt
 have e:x.cps[a.length]?=some c:=by
  rw [← Array.getElem?_toList,h,List.getElem?_append_right (Nat.le_refl _),Nat.sub_self];rfl
 have e2:seqIndex? (a.length:Int) x.length=some a.length:=by
  unfold seqIndex?
  simp
  lia
 rw [e2]
 refine (?_:Str.mk #[(x.cps[a.length]?).getD 0]=_)
 rw [e];rfl
theorem span_run (x signs:Str) (b:List Nat):∀ (a c:List Nat),x.cps.toList=a++(b++c)→(∀ y ∈ b,y ∈ signs.cps.toList)→(∀ y r,c=y::r→y ∉ signs.cps.toList)→spanS x signs (b.length + c.length) a.length=a.length + b.length:=by
 induction b with
 | nil =>
  intro a c h _ hc
  cases c with
  | nil=>rfl
  | cons y r =>
   rw [List.length_nil,Nat.zero_add,List.length_cons,spanS_c,item_at (a:=a) (c:=y) (r:=r) h]
   have:=PySem.StrLaws.found_one signs y
   rw [decide_eq_false (hc y r rfl)] at this
   exact if_pos (by simpa using this)
 | cons y b ih =>
  intro a c h hb hc
  rw [List.length_cons,Nat.add_right_comm,spanS_c,item_at (a:=a) (c:=y) (r:=b++c) h]
  have:=PySem.StrLaws.found_one signs y
  rw [decide_eq_true (hb y (List.mem_cons_self ..))] at this
  rw [if_neg (by simpa using this)]
  have ih:=ih (a++[y]) c (h.trans (List.append_cons ..)) (fun z hz=>hb z (List.mem_cons_of_mem _ hz)) hc
  rw [List.length_append,List.length_singleton] at ih
  exact ih.trans ((Nat.add_assoc ..).trans (congrArg _ (Nat.add_comm ..)))
theorem behind_run {x signs:Str} {a b c:List Nat} (h:x.cps.toList=a++(b++c)) (hb:∀ y ∈ b,y ∈ signs.cps.toList) (hc:∀ y r,c=y::r→y ∉ signs.cps.toList) {i:Int} (hi:i=a.length):behindI x signs i=a.length + b.length:=by
 have hl:x.length=a.length + (b.length + c.length):=by rw [← len_cps,h,List.length_append,List.length_append]
 have e:i.toNat=a.length:=by lia
 unfold behindI behindS
 rw [e,show x.length - a.length=b.length + c.length by lia,span_run x signs b a c h hb hc]
 simp
noncomputable def jn (c:Nat):List (List Nat)→List Nat
 | []=>[]
 | [x]=>x
 | x::y::r=>x++c::jn c (y::r)
theorem join_cps (c:Nat) (l:List Str):(Str.join ⟨#[c]⟩ l).cps.toList=jn c (l.map fun x=>x.cps.toList):=by
 induction l with
 | nil=>rfl
 | cons x l ih=>cases l with
  | nil=>rfl
  | cons y r =>
   rw [join_cons_cons,cps_toList_append,cps_toList_append,ih]
   exact List.append_assoc ..
theorem cut_at {c:Nat} {r t:List Nat} {a:List Nat}:∀ {b:List Nat},c ∉ a→c ∉ b→a++c::r=b++c::t→a=b∧r=t:=by
 induction a with
 | nil=>intro b _ hb h;cases b with
  | nil=>exact ⟨rfl,(List.cons.inj h).2⟩
  | cons x b=>exact absurd ((List.cons.inj h).1 ▸ List.mem_cons_self ..) hb
 | cons x a ih=>intro b ha hb h;cases b with
  | nil=>exact absurd ((List.cons.inj h).1 ▸ List.mem_cons_self ..) ha
  | cons y b =>
   have g:=List.cons.inj h
   have e:=ih (fun q=>ha (List.mem_cons_of_mem _ q)) (fun q=>hb (List.mem_cons_of_mem _ q)) g.2
   exact ⟨by rw [g.1,e.1],e.2⟩
theorem jn_inj {c:Nat} {l:List (List Nat)}:∀ {m:List (List Nat)},l ≠ []→m ≠ []→(∀ x ∈ l,c ∉ x)→(∀ x ∈ m,c ∉ x)→jn c l=jn c m→l=m:=by
 induction l with
 | nil=>exact fun h=>absurd rfl h
 | cons x l ih=>intro m _ hm hx hy h;cases m with
  | nil=>exact absurd rfl hm
  | cons y m =>
   have mid:∀ (a:List Nat) (b:List (List Nat)),c ∈ a++c::jn c b:=fun a b=>List.mem_append_right _ (List.mem_cons_self ..)
   have hx0:=hx x (List.mem_cons_self ..)
   have hy0:=hy y (List.mem_cons_self ..)
   cases l with
   | nil=>cases m with
    | nil=>exact congrArg (fun x=>[x]) h
    | cons z r=>exact absurd ((show x=y++c::jn c (z::r) from h) ▸ mid ..) hx0
   | cons z r=>cases m with
    | nil=>exact absurd ((show x++c::jn c (z::r)=y from h) ▸ mid ..) hy0
    | cons u t =>
     have e:=cut_at hx0 hy0 (show x++c::jn c (z::r)=y++c::jn c (u::t) from h)
     rw [e.1,ih (m:=u::t) (fun h=>nomatch h) (fun h=>nomatch h) (fun a ha=>hx a (List.mem_cons_of_mem _ ha)) (fun a ha=>hy a (List.mem_cons_of_mem _ ha)) e.2]
theorem map_cps_inj {l:List Str}:∀ {m:List Str},(l.map fun x=>x.cps.toList)=(m.map fun x=>x.cps.toList)→l=m:=by
 induction l with
 | nil=>intro m h;cases m with
  | nil=>rfl
  | cons=>exact nomatch h
 | cons x l ih=>intro m h;cases m with
  | nil=>exact nomatch h
  | cons y m=>rw [str_ext (List.cons.inj h).1,ih (List.cons.inj h).2]
theorem split_join {c:Nat} {l:List Str} (hn:l ≠ []) (hf:∀ x ∈ l,c ∉ x.cps.toList):Txt.split (Str.join ⟨#[c]⟩ l) ⟨#[c]⟩=l:=by
 have h1:=PySem.StrLaws.join_split (Str.join ⟨#[c]⟩ l) ⟨#[c]⟩
 have h2:=PySem.StrLaws.split_free (Str.join ⟨#[c]⟩ l) c
 have h3:=split_pos (Str.join ⟨#[c]⟩ l) ⟨#[c]⟩
 generalize Txt.split (Str.join ⟨#[c]⟩ l) ⟨#[c]⟩=m at h1 h2 h3
 have mn:m ≠ []:=fun e=>by rw [e] at h3;exact absurd h3 (by decide)
 have e:=congrArg (fun x:Str=>x.cps.toList) h1
 rw [join_cps,join_cps] at e
 refine map_cps_inj (jn_inj (by simpa using mn) (by simpa using hn) (fun x hx=>?_) (fun x hx=>?_) e)
 ·obtain ⟨y,hy,rfl⟩:=List.mem_map.mp hx;exact h2 y hy
 ·obtain ⟨y,hy,rfl⟩:=List.mem_map.mp hx;exact hf y hy
theorem txt_join (l:List Str):Txt.join "." l=Str.join ⟨#[46]⟩ l:=by
 have:(Str.ofString ".")=⟨#[46]⟩:=by decide
 rw [this]
 exact strEq (join_plain_closes _ _)
theorem Word.dot {x:Str} (h:Word x):46 ∉ x.cps.toList:=fun q=>by have:=h.sg 46 q;unfold WSign at this;lia
theorem split_words {tl:List Str} (hn:tl ≠ []) (hw:∀ x ∈ tl,Word x):Txt.split (Txt.join "." tl) "."=tl:=by
 have e:(Str.ofString ".")=⟨#[46]⟩:=by decide
 rw [txt_join,e]
 exact split_join hn fun x hx=>(hw x hx).dot
theorem digits_val (l:List Nat):PySem.NumText.digitsVal l=dval l:=by
 have key:∀ (l:List Nat),PySem.NumText.digitsVal l.reverse=dval l.reverse:=by
  intro l
  induction l with
  | nil=>rfl
  | cons c l ih =>
   rw [List.reverse_cons,dval_snoc,← ih]
   unfold PySem.NumText.digitsVal
   rw [List.foldl_append]
   refine (?_:_ * 10 + _=_)
   rw [Nat.mul_comm]
 have:=key l.reverse
 rw [List.reverse_reverse] at this
 exact this
theorem digits_text {x:Str} (hp:Plain x.cps.toList) (hl:x.length ≤ 640):PySem.intText? x=some ((dval x.cps.toList:Nat):Int):=by
 rw [← digits_val]
 exact PySem.intText_digits hp.1 (by obtain ⟨_,c,r,e,_⟩:=hp;rw [e];simp) (by lia)
theorem slice_sub {x:Str} {l u:Option Int}:∀ c ∈ (Txt.slice x l u).cps.toList,c ∈ x.cps.toList:=by
 intro c hc
 unfold Txt.slice at hc
 split at hc
 ·exact hc
 ·simp only [List.mem_filterMap] at hc
  refine byc fun b_=>?_
  obtain ⟨i,_,h⟩:=hc
  refine b_ ?_;clear b_
  rw [← Array.getElem?_toList] at h
  exact List.mem_of_getElem? h
theorem no_newline {x:Str} (h:10 ∉ x.cps.toList) {l u:Option Int}:(Txt.slice x l u == "\n")=false:=by
 cases q:(Txt.slice x l u == "\n") with
 | false=>rfl
 | true =>
  have e:=strEq q
  have:10 ∈ (Txt.slice x l u).cps.toList:=by rw [e];decide
  exact absurd (slice_sub 10 this) h
set_option tactic.hygienic true in
theorem slice_one {x:Str} {a b:List Nat} (h:x.cps.toList=a++b) {i j:Int} (hi:i=a.length) (hj:j=a.length + 1):Txt.slice x (some i) (some j)=⟨(b.take 1).toArray⟩:=by
 cases b with
 | nil =>
  have hl:x.length=a.length:=by rw [← len_cps,h];simp
  have e:PySem.Builtin.Str.strSliceIndices (some i) (some j) 1 x.length=[]:=by
   unfold PySem.Builtin.Str.strSliceIndices sliceRange
   simp only [show (1:Int) > 0 by decide,if_true]
   rw [List.map_eq_nil_iff,List.range_eq_nil]
   (repeat' split) <;> (try simp only [Int.ediv_one]) <;> lia
  unfold Txt.slice
  rw [e]
  split
  ·rename_i q
   have:x.length=0:=(by simpa using q.symm:(0:Nat)=x.length).symm
   refine str_ext ?_
   have z:x.cps.toList=[]:=List.length_eq_zero_iff.mp (by rw [len_cps];exact this)
   rw [z];rfl
  ·rfl
 | cons c r=>exact slice_mid (b:=[c]) (c:=r) (by rw [h];rfl) hi hj
theorem dg_mem {c:Nat}:c ∈ (Str.ofString "0123456789").cps.toList↔48 ≤ c∧c ≤ 57:=by
 have e:(Str.ofString "0123456789").cps.toList=[48,49,50,51,52,53,54,55,56,57]:=by decide +kernel
 rw [e]
 exact ⟨(by decide:∀ c ∈ [48,49,50,51,52,53,54,55,56,57],48 ≤ c∧c ≤ 57) c,fun h=>(by decide:∀ c:Fin 58,48 ≤ c.val→c.val ∈ [48,49,50,51,52,53,54,55,56,57]) ⟨c,Nat.lt_succ_of_le h.2⟩ h.1⟩
theorem sg_mem {c:Nat} (h:WSign c∨c=46):c ∈ (Str.ofString "0123456789abcdefghijklmnopqrstuvwxyzABCDEFGHIJKLMNOPQRSTUVWXYZ.-").cps.toList:=by
 have key:∀ c:Fin 128,((c.val=45∨(48 ≤ c.val∧c.val ≤ 57)∨(65 ≤ c.val∧c.val ≤ 90)∨(97 ≤ c.val∧c.val ≤ 122))∨c.val=46)→c.val ∈ (Str.ofString "0123456789abcdefghijklmnopqrstuvwxyzABCDEFGHIJKLMNOPQRSTUVWXYZ.-").cps.toList:=by decide +kernel
 exact key ⟨c,h.elim (·.lt) fun e=>e ▸ by decide⟩ h
theorem plus_not:43 ∉ (Str.ofString "0123456789abcdefghijklmnopqrstuvwxyzABCDEFGHIJKLMNOPQRSTUVWXYZ.-").cps.toList:=by decide +kernel
theorem good_plain {l:List Nat} (hp:Plain l) (hl:l.length ≤ 640):Good false ⟨l.toArray⟩∧PySem.intText? ⟨l.toArray⟩=some ((dval l:Nat):Int)∧(Str.mk l.toArray).length ≤ 640:=by
 have le:(Str.mk l.toArray).length=l.length:=rfl
 refine ⟨⟨?_,hl,fun _ h0 _=>?_⟩,digits_text (x:=⟨l.toArray⟩) hp hl,hl⟩
 ·refine byc fun b_=>?_
  obtain ⟨_,c,r,e,_⟩:=hp
  refine b_ ?_;clear b_
  rw [le,e];simp;lia
 ·refine byc fun b_=>?_
  obtain ⟨_,c,r,e,h⟩:=hp
  subst e
  refine b_ ?_;clear b_
  have h1:Txt.item (Str.mk (c::r).toArray) 0=⟨#[c]⟩:=item_at (x:=⟨(c::r).toArray⟩) (a:=[]) (r:=r) rfl
  rw [h1] at h0
  have h2:=strEq h0
  have h3:c=48:=by
   have e2:(Str.ofString "0")=⟨#[48]⟩:=by decide
   rw [e2] at h2
   injection h2 with h2
   simpa using congrArg Array.toList h2
  rcases h with h | h
  ·lia
  ·rw [h3,h];decide
theorem good_word {x:Str} (h:Word x):Good false x:=by
 refine ⟨fun e=>h.ne ?_,Nat.le_trans h.le (by decide),fun _ h0 hd=>?_⟩
 ·exact List.length_eq_zero_iff.mp (by rw [len_cps];lia)
 ·have hp:=h.pl hd
  have:=(good_plain hp (by rw [len_cps];exact Nat.le_trans h.le (by decide))).1
  have e:(Str.mk x.cps.toList.toArray)=x:=by cases x;simp
  rw [e] at this
  exact this.ok rfl h0 hd
theorem id_word {x:Str} (h:Word x):∃ k,IdOf x k:=by
 have hl:x.length ≤ 640:=Nat.le_trans h.le (by decide)
 cases q:Txt.isdigit x with
 | true=>exact ⟨_,.num q (digits_text (h.pl q) hl) hl⟩
 | false=>exact ⟨_,.al q h.asc hl⟩
theorem ids_words {l:List Str}:(∀ x ∈ l,Word x)→∃ ks,IdsOf l ks:=by
 induction l with
 | nil=>exact fun _=>⟨[],.nil⟩
 | cons x l ih=>exact fun h=>(id_word (h x (List.mem_cons_self ..))).elim fun k hk=>(ih fun y hy=>h y (List.mem_cons_of_mem _ hy)).elim fun ks hks=>⟨k::ks,.cons hk hks⟩
inductive Bd:Str→List Str→List Idn→Prop
 | none:Bd Str.empty [] []
 | some {b:Str} {B:List Nat} {bld:List Str} {bs:List Idn} (e:b.cps.toList=43::B) (ne:B ≠ []) (sg:∀ c ∈ B,WSign c∨c=46) (le:B.length ≤ 10) (sp:Txt.split ⟨B.toArray⟩ "."=bld) (g:∀ v ∈ bld,Good true v) (l:bld.length ≤ 10) (i:IdsOf bld bs):Bd b bld bs
theorem nums_cps (a b c:Nat):(nums (a:Int) (b:Int) (c:Int)).cps.toList=dec a++(46::(dec b++(46::dec c))):=by
 have e:(Str.ofString ".").cps.toList=[46]:=by decide
 unfold nums
 rw [cps_toList_append,cps_toList_append,cps_toList_append,cps_toList_append,dec_cps,dec_cps,dec_cps,e]
 simp
theorem jn_sg {l:List Str} (h:∀ x ∈ l,Word x):∀ c ∈ (Txt.join "." l).cps.toList,WSign c∨c=46:=by
 rw [txt_join,join_cps]
 induction l with
 | nil=>exact fun c hc=>nomatch hc
 | cons x l ih =>
  cases l with
  | nil=>exact fun c hc=>.inl ((h x (List.mem_cons_self ..)).sg c hc)
  | cons y r =>
   intro c hc
   have hc':c ∈ x.cps.toList++46::jn 46 ((y::r).map fun x=>x.cps.toList):=hc
   rcases List.mem_append.mp hc' with q | q
   ·exact .inl ((h x (List.mem_cons_self ..)).sg c q)
   ·rcases List.mem_cons.mp q with q | q
    ·exact .inr q
    ·exact ih (fun z hz=>h z (List.mem_cons_of_mem _ hz)) c q
theorem jn_ne {l:List Str} (hn:l ≠ []) (h:∀ x ∈ l,Word x):(Txt.join "." l).cps.toList ≠ []:=by
 rw [txt_join,join_cps]
 cases l with
 | nil=>exact absurd rfl hn
 | cons x l =>
  cases l with
  | nil=>exact (h x (List.mem_cons_self ..)).ne
  | cons y r =>
   refine (?_:x.cps.toList++46::_ ≠ [])
   simp
theorem jn_len:∀ {l:List Str},(∀ x ∈ l,Word x)→(Txt.join "." l).length ≤ 51 * l.length:=by
 intro l h
 rw [txt_join,← len_cps,join_cps]
 induction l with
 | nil=>exact Nat.zero_le _
 | cons x l ih =>
  have hx:=(h x (List.mem_cons_self ..)).le
  rw [← len_cps] at hx
  cases l with
  | nil =>
   refine (?_:x.cps.toList.length ≤ 51 * 1)
   lia
  | cons y r =>
   have:=ih fun z hz=>h z (List.mem_cons_of_mem _ hz)
   refine (?_:(x.cps.toList++46::jn 46 ((y::r).map fun x=>x.cps.toList)).length ≤ _)
   rw [List.length_append,List.length_cons,List.length_cons]
   lia
theorem mk_cps (x:Str):(⟨x.cps.toList.toArray⟩:Str)=x:=by cases x;simp
inductive Pc (sg:Nat) (X:List Nat) (n:Nat) (tl:List Str):Prop
 | mk (d:Bool) (J:List Nat) (e:X=if d=true then sg::J else []) (ne:d=true→J ≠ []) (s:∀ c ∈ J,WSign c∨c=46) (l:J.length ≤ n) (sp:d=true→Txt.split ⟨J.toArray⟩ "."=tl) (z:d=false→tl=[]):Pc sg X n tl
theorem pc_tl {tl:List Str} (hw:∀ x ∈ tl,Word x) (t4:tl.length ≤ 4):Pc 45 (behindSign "-" tl).cps.toList 204 tl:=by
 have minc:(Str.ofString "-").cps.toList=[45]:=by decide
 cases tl with
 | nil=>exact ⟨false,[],rfl,(fun q=>nomatch q),(fun c hc=>nomatch hc),Nat.zero_le _,(fun q=>nomatch q),fun _=>rfl⟩
 | cons y r =>
  refine ⟨true,(Txt.join "." (y::r)).cps.toList,?_,fun _=>jn_ne (by simp) hw,jn_sg hw,?_,fun _=>?_,(fun q=>nomatch q)⟩
  ·refine (?_:(Str.ofString "-"++Txt.join "." (y::r)).cps.toList=_)
   rw [cps_toList_append,minc];rfl
  ·rw [len_cps]
   exact Nat.le_trans (jn_len hw) (Nat.mul_le_mul_left 51 t4)
  ·rw [mk_cps];exact split_words (by simp) hw
theorem Bd.pc {b:Str} {bld:List Str} {bs:List Idn} (hb:Bd b bld bs):Pc 43 b.cps.toList 10 bld:=by
 cases hb with
 | none=>exact ⟨false,[],rfl,(fun q=>nomatch q),(fun c hc=>nomatch hc),Nat.zero_le _,(fun q=>nomatch q),(fun _=>rfl)⟩
 | some e ne sg le sp g l i=>exact ⟨true,_,e,fun _=>ne,sg,le,fun _=>sp,(fun q=>nomatch q)⟩
theorem Bd.g {b:Str} {bld:List Str} {bs:List Idn} (hb:Bd b bld bs):(∀ v ∈ bld,Good true v)∧bld.length ≤ 10∧IdsOf bld bs:=by
 cases hb with
 | none=>exact ⟨(fun v hv=>nomatch hv),Nat.zero_le _,IdsOf.nil⟩
 | some e ne sg le sp g l i=>exact ⟨g,l,i⟩
theorem ne_text {J:List Nat} (h:J ≠ []):(Str.mk J.toArray == Str.ofString "")=false:=by
 cases z:(Str.mk J.toArray == Str.ofString "") with
 | false=>rfl
 | true=>exact absurd (congrArg (fun s:Str=>s.cps.toList) (strEq z)) h
set_option tactic.hygienic true in
theorem txv_of {p:Pt} (h:PtW p) {b:Str} {bld:List Str} {bs ks:List Idn} (hb:Bd b bld bs) (hk:IdsOf p.tl ks):Txv (p.text++b) p.n0 p.n1 p.n2 p.tl bld ks bs:=by
 obtain ⟨n0,n1,n2,tl⟩:=p
 obtain ⟨⟨b0,c0⟩,⟨b1,c1⟩,⟨b2,c2⟩,t4,hw⟩:=h
 dsimp only at b0 c0 b1 c1 b2 c2 t4 hw hk ⊢
 obtain ⟨k0,rfl⟩:=Int.eq_ofNat_of_zero_le b0
 obtain ⟨k1,rfl⟩:=Int.eq_ofNat_of_zero_le b1
 obtain ⟨k2,rfl⟩:=Int.eq_ofNat_of_zero_le b2
 have l0:(dec k0).length ≤ 18:=by rw [← dec_cps,len_cps];exact toString_length_le b0 (by decide) c0
 have l1:(dec k1).length ≤ 18:=by rw [← dec_cps,len_cps];exact toString_length_le b1 (by decide) c1
 have l2:(dec k2).length ≤ 18:=by rw [← dec_cps,len_cps];exact toString_length_le b2 (by decide) c2
 have p0:=dec_plain k0
 have p1:=dec_plain k1
 have p2:=dec_plain k2
 have m0:dec k0 ≠ []:=dec_ne k0
 have m1:dec k1 ≠ []:=dec_ne k1
 have m2:dec k2 ≠ []:=dec_ne k2
 have v0:=(dec_facts k0).2.1
 have v1:=(dec_facts k1).2.1
 have v2:=(dec_facts k2).2.1
 have dotc:(Str.ofString ".").cps.toList=[46]:=by decide
 obtain ⟨P,hP⟩:∃ P,P=(behindSign "-" tl).cps.toList:=⟨_,rfl⟩
 obtain ⟨B,hB⟩:∃ B,B=b.cps.toList:=⟨_,rfl⟩
 have hx:(Pt.text ⟨(k0:Int),(k1:Int),(k2:Int),tl⟩++b).cps.toList=dec k0++(46::(dec k1++(46::(dec k2++(P++B))))):=by
  unfold Pt.text
  rw [cps_toList_append,cps_toList_append,nums_cps,← hP,← hB]
  simp
 generalize Pt.text ⟨(k0:Int),(k1:Int),(k2:Int),tl⟩++b=x at hx
 generalize dec k0=D0 at *
 generalize dec k1=D1 at *
 generalize dec k2=D2 at *
 obtain ⟨d1,J,eP,hJ,sJ,lJ,spJ,zJ⟩:Pc 45 P 204 tl:=hP ▸ pc_tl hw t4
 obtain ⟨d2,B',eB,hB',sB,lB,spB,zB⟩:Pc 43 B 10 bld:=hB ▸ hb.pc
 have gB:=hb.g.1
 have nB:=hb.g.2.1
 have iB:=hb.g.2.2
 obtain ⟨A2,hA2⟩:∃ A2,A2=D0++(46::(D1++(46::D2))):=⟨_,rfl⟩
 have lA:A2.length=D0.length + 1 + D1.length + 1 + D2.length:=by rw [hA2];simp;lia
 have hx2:x.cps.toList=A2++(P++B):=by rw [hx,hA2];simp
 have lx:x.length=A2.length + (P.length + B.length):=by rw [← len_cps,hx2,List.length_append,List.length_append]
 have lP:P.length ≤ 205:=by rw [eP];split <;> simp;lia
 have lBB:B.length ≤ 11:=by rw [eB];split <;> simp;lia
 have nz0:0 < D0.length:=List.length_pos_iff.mpr m0
 have nz1:0 < D1.length:=List.length_pos_iff.mpr m1
 have nz2:0 < D2.length:=List.length_pos_iff.mpr m2
 have pb:∀ y r,P++B=y::r→y=45∨y=43:=fun y r h=>by
  rw [eP,eB] at h
  cases d1 <;> cases d2 <;> simp at h
  ·exact .inr h.1.symm
  ·exact .inl h.1.symm
  ·exact .inl h.1.symm
 obtain ⟨e2,he2⟩:∃ e2:Int,e2=A2.length:=⟨_,rfl⟩
 obtain ⟨e3,he3⟩:∃ e3,behindI x "0123456789abcdefghijklmnopqrstuvwxyzABCDEFGHIJKLMNOPQRSTUVWXYZ.-" (e2 + 1)=e3:=⟨_,rfl⟩
 obtain ⟨f3,hf3⟩:∃ f3,f3=if d1=true then e3 else e2:=⟨_,rfl⟩
 obtain ⟨e4,he4⟩:∃ e4,behindI x "0123456789abcdefghijklmnopqrstuvwxyzABCDEFGHIJKLMNOPQRSTUVWXYZ.-" (f3 + 1)=e4:=⟨_,rfl⟩
 have b43:∀ y r,B=y::r→y=43:=fun y r h=>by rw [eB] at h;cases d2 <;> simp at h;exact h.1.symm
 have v3:d1=true→e3=A2.length + 1 + J.length:=fun q=>by
  rw [if_pos q] at eP
  rw [← he3,behind_run (a:=A2++[45]) (b:=J) (c:=B) (by rw [hx2,eP];simp) (fun y hy=>sg_mem (sJ y hy)) (fun y r h=>by rw [b43 y r h];exact plus_not) (by rw [he2];simp)]
  simp
 have vf:f3=(A2++P).length:=by
  rw [hf3]
  split
  ·rename_i q
   rw [v3 q,eP,if_pos q];simp;lia
  ·rename_i q
   rw [eP,if_neg q,he2];simp
 have hx3:x.cps.toList=(A2++P)++B:=by rw [hx2];simp
 have v4:d2=true→e4=(A2++P).length + 1 + B'.length:=fun q=>by
  rw [if_pos q] at eB
  rw [← he4,behind_run (a:=A2++P++[43]) (b:=B') (c:=[]) (by rw [hx3,eB];simp) (fun y hy=>sg_mem (sB y hy)) (fun y r h=>nomatch h) (by rw [vf];simp;lia)]
  simp;lia
 have no10:10 ∉ x.cps.toList:=fun hm=>by
  rw [hx] at hm
  have dg:∀ D,Plain D→10 ∉ D:=fun D hD q=>by have:=hD.1 10 q;lia
  simp only [List.mem_append,List.mem_cons] at hm
  rcases hm with h | h | h | h | h | h | h
  ·exact dg _ p0 h
  ·cases h
  ·exact dg _ p1 h
  ·cases h
  ·exact dg _ p2 h
  ·rw [eP] at h
   split at h
   ·rcases List.mem_cons.mp h with h | h
    ·cases h
    ·have:=sJ 10 h;unfold WSign at this;lia
   ·cases h
  ·rw [eB] at h
   split at h
   ·rcases List.mem_cons.mp h with h | h
    ·cases h
    ·have:=sB 10 h;unfold WSign at this;lia
   ·cases h
 have t46:∀ (a b:List Nat) (i j:Int),x.cps.toList=a++46::b→i=a.length→j=a.length + 1→(Txt.slice x (some i) (some j) == ".")=true:=fun a b i j e ei ej=>by
  rw [slice_one e ei ej]
  show (Str.mk #[46] == Str.ofString ".")=true
  decide
 have x1:x.cps.toList=D0++46::(D1++(46::(D2++(P++B)))):=hx
 have x2:x.cps.toList=(D0++46::D1)++46::(D2++(P++B)):=by rw [hx];simp
 have C:Cut x D0.length (D0.length + 1 + D1.length) e2 e3 f3 e4 d1 d2:=by
  refine ⟨no_newline no10,?_,?_,by lia,t46 _ _ _ _ x1 rfl (by lia),?_,?_,by lia,t46 _ _ _ _ x2 (by simp;lia) (by simp;lia),?_,?_,by lia,?_,he3,fun q=>?_,hf3,?_,he4,fun q=>?_,?_⟩
  ·rw [behind_run (a:=[]) (b:=D0) (c:=46::(D1++(46::(D2++(P++B))))) hx (fun y hy=>dg_mem.mpr (p0.1 y hy)) (fun y r h=>by cases h;exact fun q=>by have:=dg_mem.mp q;lia) (i:=0) rfl]
   simp
  ·simp;lia
  ·rw [behind_run (a:=D0++[46]) (b:=D1) (c:=46::(D2++(P++B))) (by rw [hx];simp) (fun y hy=>dg_mem.mpr (p1.1 y hy)) (fun y r h=>by cases h;exact fun q=>by have:=dg_mem.mp q;lia) (by simp)]
   simp
  ·simp;lia
  ·rw [behind_run (a:=D0++46::(D1++[46])) (b:=D2) (c:=P++B) (by rw [hx];simp) (fun y hy=>dg_mem.mpr (p2.1 y hy)) (fun y r h=>by intro q;have:=dg_mem.mp q;have:=pb y r h;lia) (by simp;lia)]
   rw [he2,lA];simp;lia
  ·rw [he2,lA];simp;lia
  ·rw [slice_one (a:=A2) (b:=P++B) hx2 he2 (by lia),eP,eB]
   cases d1 <;> cases d2 <;> rfl
  ·have:=List.length_pos_iff.mpr (hJ q)
   rw [v3 q];lia
  ·rw [slice_one (a:=A2++P) (b:=B) hx3 vf (by lia),eB]
   cases d2 <;> rfl
  ·have:=List.length_pos_iff.mpr (hB' q)
   rw [v4 q];lia
  ·rw [lx]
   split
   ·rename_i q
    rw [v4 q,eB,if_pos q];simp;lia
   ·rename_i q
    rw [vf,eB,if_neg q];simp
 have lx3:x.length ≤ 300:=by lia
 have g0:=good_plain p0 (by lia)
 have g1:=good_plain p1 (by lia)
 have g2:=good_plain p2 (by lia)
 rw [v0] at g0
 rw [v1] at g1
 rw [v2] at g2
 have sl:=fun l u=>Nat.le_trans (Txt.slice_le x l u) (Nat.le_trans lx3 (by decide:300 ≤ 640))
 have mJ:d1=true→Txt.slice x (some (e2 + 1)) (some e3)=⟨J.toArray⟩:=fun q=>slice_mid (a:=A2++[45]) (b:=J) (c:=B) (by rw [hx2,eP,if_pos q];simp) (by rw [he2];simp) (by rw [v3 q];simp)
 have mB:d2=true→Txt.slice x (some (f3 + 1)) (some e4)=⟨B'.toArray⟩:=fun q=>slice_mid (a:=A2++P++[43]) (b:=B') (c:=[]) (by rw [hx3,eB,if_pos q];simp) (by rw [vf];simp;lia) (by rw [v4 q];simp;lia)
 refine ⟨⟨_,_,_,_,_,_,d1,d2,C,?_,?_,?_,⟨fun q=>?_,sl _ _,fun q=>?_,zJ⟩,⟨fun q=>?_,sl _ _,fun q=>?_,zB⟩⟩,by lia,by lia,fun v hv=>good_word (hw v hv),gB,by lia,by lia,hk,iB⟩
 ·rw [slice_top hx rfl];exact g0
 ·rw [slice_mid (a:=D0++[46]) (b:=D1) (c:=46::(D2++(P++B))) (by rw [hx];simp) (by simp) (by simp)];exact g1
 ·rw [slice_mid (a:=D0++46::(D1++[46])) (b:=D2) (c:=P++B) (by rw [hx];simp) (by simp;lia) (by rw [he2,lA];simp;lia)];exact g2
 ·rw [mJ q];exact spJ q
 ·rw [mJ q];exact ne_text (hJ q)
 ·rw [mB q];exact spB q
 ·rw [mB q];exact ne_text (hB' q)
noncomputable def Fo.has:Fo→List Str→Prop
 | f,[]=>(f.get Str.empty).isSome=true
 | f,n::p=>n ≠ Str.empty∧∃ c,f.get n=some c∧c.has p
theorem Fo.has_n (f:Fo):f.has []=((f.get Str.empty).isSome=true):=rfl
noncomputable def pathLt:List Str→List Str→Bool
 | [],[]=>false
 | [],_::_=>true
 | _::_,[]=>false
 | a::p,b::q=>if a=b then pathLt p q else nameLt a b
theorem pathLt_c (a:Str) (p:List Str) (b:Str) (q:List Str):pathLt (a::p) (b::q)=if a=b then pathLt p q else nameLt a b:=rfl
theorem name_tri {a b:Str} (h1:nameLt a b=false) (h2:nameLt b a=false):a=b:=by
 unfold nameLt at h1 h2
 by_cases da:Txt.isdigit a=true <;> by_cases db:Txt.isdigit b=true
 ·rw [if_pos da,if_pos db] at h1
  rw [if_pos db,if_pos da] at h2
  exact digTot.tri a b h1 h2
 ·rw [if_pos da,if_neg db] at h1
  cases h1
 ·rw [if_pos db,if_neg da] at h2
  cases h2
 ·rw [if_neg da,if_neg db] at h1
  rw [if_neg db,if_neg da] at h2
  exact strTot.tri a b h1 h2
noncomputable def Fo.nd:Fo→Prop
 | .nil=>True
 | .cons n c r=>n ∉ r.keys∧c.nd∧r.nd
theorem Fo.nd_keys {f:Fo}:f.nd→f.keys.Nodup:=by
 induction f with
 | nil=>exact fun _=>List.nodup_nil
 | cons _ _ _ _ ih=>exact fun h=>List.nodup_cons.mpr ⟨h.1,ih h.2.2⟩
theorem Fo.nd_get {f:Fo} {n:Str} {c:Fo}:f.nd→f.get n=some c→c.nd:=by
 induction f with
 | nil=>exact fun _ h=>nomatch h
 | cons m x r _ ih =>
  intro h hg
  by_cases e:m=n
  ·exact Option.some.inj ((if_pos e).symm.trans hg) ▸ h.2.1
  ·exact ih h.2.2 ((if_neg e).symm.trans hg)
theorem Fo.nd_set {m:Str} {x:Fo} (hx:x.nd) {f:Fo}:f.nd→(f.set m x).nd:=by
 induction f with
 | nil=>exact fun _=>⟨(fun h=>absurd h List.not_mem_nil),hx,trivial⟩
 | cons a c r _ ih =>
  intro h
  rw [Fo.set_c]
  by_cases e:a=m
  ·rw [if_pos e];exact ⟨e ▸ h.1,hx,h.2.2⟩
  ·rw [if_neg e]
   exact ⟨fun q=>(Fo.set_keys m x r a q).elim (fun z=>e z) h.1,h.2.1,ih h.2.2⟩
theorem Fo.nd_plant {path:List Str}:∀ {f:Fo},f.nd→(Fo.plant path f).nd:=by
 induction path with
 | nil=>exact fun h=>Fo.nd_set (x:=.nil) trivial h
 | cons n p ih =>
  intro f h
  refine Fo.nd_set (ih ?_) h
  cases g:f.get n with
  | none=>exact trivial
  | some c=>exact Fo.nd_get h g
theorem Fo.has_nil (p:List Str):¬ Fo.nil.has p:=by
 cases p with
 | nil=>exact fun h=>nomatch h
 | cons n p=>exact fun pk0=>by obtain ⟨_,c,h,_⟩:=pk0;exact nomatch h
theorem Fo.has_plant {path:List Str}:(∀ x ∈ path,x ≠ Str.empty)→∀ (f:Fo) (p:List Str),(Fo.plant path f).has p↔p=path∨f.has p:=by
 induction path with
 | nil=>intro _ f p;cases p with
  | nil =>
   rw [Fo.plant_n,Fo.has_n,Fo.get_set,if_pos rfl]
   exact ⟨fun _=>.inl rfl,fun _=>rfl⟩
  | cons n p =>
   have g:n ≠ Str.empty→(Fo.plant [] f).get n=f.get n:=fun h1=>by rw [Fo.plant_n,Fo.get_set,if_neg h1]
   exact ⟨fun h=>.inr ⟨h.1,h.2.imp fun c q=>⟨(g h.1).symm.trans q.1,q.2⟩⟩,fun h=>h.elim (fun h=>nomatch h) fun h=>⟨h.1,h.2.imp fun c q=>⟨(g h.1).trans q.1,q.2⟩⟩⟩
 | cons x path ih=>intro hw f p;have hx:=hw x (List.mem_cons_self ..);cases p with
  | nil =>
   rw [Fo.plant_c,Fo.has_n,Fo.get_set,if_neg (Ne.symm hx)]
   exact ⟨.inr,fun h=>h.elim (fun h=>nomatch h) id⟩
  | cons n p =>
   have ih:=ih fun y hy=>hw y (List.mem_cons_of_mem _ hy)
   by_cases e:n=x
   ·rw [e]
    have g:(Fo.plant (x::path) f).get x=some _:=(Fo.get_set ..).trans (if_pos rfl)
    refine ⟨fun h=>?_,fun h=>⟨hx,_,g,(ih _ p).mpr ?_⟩⟩
    ·refine byc fun b_=>?_
     obtain ⟨h1,c,h2,h3⟩:=h
     rw [← Option.some.inj (g.symm.trans h2)] at h3
     rcases (ih _ p).mp h3 with q | q
     ·exact b_ (.inl (by rw [q]))
     ·cases g:f.get x with
      | none=>rw [g] at q;exact Fo.has_nil p q
      | some d=>rw [g] at q;exact b_ (.inr ⟨h1,d,g,q⟩)
    ·refine h.imp (fun h=>(List.cons.inj h).2) fun h=>?_
     exact h.2.elim fun c q=>by rw [q.1];exact q.2
   ·have g:(Fo.plant (x::path) f).get n=f.get n:=(Fo.get_set ..).trans (if_neg e)
    exact ⟨fun h=>.inr ⟨h.1,h.2.imp fun c q=>⟨g.symm.trans q.1,q.2⟩⟩,fun h=>h.elim (fun h=>absurd (List.cons.inj h).1 e) fun h=>⟨h.1,h.2.imp fun c q=>⟨g.trans q.1,q.2⟩⟩⟩
theorem join_cons (n:Str) {q:List Str} (hq:q ≠ []):Txt.join "." (n::q)=n++"."++Txt.join "." q:=by
 rw [txt_join,txt_join]
 have e:(Str.ofString ".")=⟨#[46]⟩:=by decide
 cases q with
 | nil=>exact absurd rfl hq
 | cons y r=>rw [e];exact join_cons_cons _ _ _ _
theorem join_single (n:Str):Txt.join "." [n]=n:=by rw [txt_join];rfl
theorem pathLt_same (n:Str) (p q:List Str):pathLt (n::p) (n::q)=pathLt p q:=by rw [pathLt_c,if_pos rfl]
theorem pathLt_ne {n m:Str} (h:n ≠ m) (p q:List Str):pathLt (n::p) (m::q)=nameLt n m:=by rw [pathLt_c,if_neg h]
set_option tactic.hygienic true in
theorem walk_parts {Sub:Fo→Str→List Str→Prop} {f:Fo} {head:Str} (IH:∀ n c h res,f.get n=some c→Sub c h res→∃ L:List (List Str),res=L.map (fun p=>h++Txt.join "." p)∧(∀ p,p ∈ L↔p ≠ []∧c.has p)∧L.Pairwise fun a b=>pathLt a b=true)  {out:List Str} {parts:List (List Str)} (hE:Each (PartOf Sub f head) out parts) (nd:out.Nodup) (pw:out.Pairwise fun a b=>nameLt b a=false) :
   ∃ L:List (List Str),parts.flatten=L.map (fun p=>head++Txt.join "." p)∧(∀ p,p ∈ L↔∃ n q,p=n::q∧n ∈ out∧∃ c,f.get n=some c∧c.has q)∧L.Pairwise fun a b=>pathLt a b=true:=by
 induction out generalizing parts with
 | nil=>cases hE;exact ⟨[],rfl,fun p=>⟨(fun h=>nomatch h),(fun ⟨_,_,_,h,_⟩=>nomatch h)⟩,List.Pairwise.nil⟩
 | cons n out ih=>cases hE with
  | cons hp hE =>
    refine byc fun b_=>?_
    obtain ⟨c,sub,hg,hS,rfl⟩:=hp
    obtain ⟨Lc,e1,m1,s1⟩:=IH n c _ _ hg hS
    obtain ⟨hn,nd'⟩:=List.nodup_cons.mp nd
    obtain ⟨pn,pw'⟩:=List.pairwise_cons.mp pw
    obtain ⟨L',e2,m2,s2⟩:=ih hE nd' pw'
    obtain ⟨Ln,hLn⟩:∃ Ln,Ln=(if (c.get Str.empty).isSome then [[n]] else [])++Lc.map (n::·):=⟨_,rfl⟩
    refine b_ ?_;clear b_
    have mL:∀ p,p ∈ Ln↔∃ q,p=n::q∧c.has q:=fun p=>by
     rw [hLn,List.mem_append]
     constructor
     ·rintro (h | h)
      ·split at h
       ·rename_i q
        exact ⟨[],by rw [List.mem_singleton.mp h],q⟩
       ·cases h
      ·refine byc fun b_=>?_
       obtain ⟨q,hq,rfl⟩:=List.mem_map.mp h
       refine b_ ?_;clear b_
       exact ⟨q,rfl,((m1 q).mp hq).2⟩
     ·rintro ⟨q,rfl,hq⟩
      cases q with
      | nil =>
       left
       rw [if_pos (show (c.get Str.empty).isSome=true from hq)];exact List.mem_cons_self ..
      | cons y r=>exact .inr (List.mem_map.mpr ⟨_,(m1 _).mpr ⟨by simp,hq⟩,rfl⟩)
    have sL:Ln.Pairwise fun a b=>pathLt a b=true:=by
     rw [hLn,List.pairwise_append]
     refine ⟨by split <;> simp,List.pairwise_map.mpr (s1.imp fun {a b} h=>by rw [pathLt_same];exact h),fun a ha b hb=>?_⟩
     split at ha
     ·rw [List.mem_singleton.mp ha]
      refine byc fun b_=>?_
      obtain ⟨q,hq,rfl⟩:=List.mem_map.mp hb
      refine b_ ?_;clear b_
      rw [pathLt_same]
      have:=((m1 q).mp hq).1
      cases q with
      | nil=>exact absurd rfl this
      | cons _ _=>rfl
     ·cases ha
    refine ⟨Ln++L',?_,fun p=>?_,List.pairwise_append.mpr ⟨sL,s2,fun a ha b hb=>?_⟩⟩
    ·rw [List.flatten_cons,e2,List.map_append,hLn,List.map_append,e1]
     congr 1
     congr 1
     ·split
      ·rw [List.map_cons,List.map_nil,join_single]
      ·rfl
     ·rw [List.map_map]
      refine List.map_congr_left fun q hq=>?_
      have:=((m1 q).mp hq).1
      show _=head++Txt.join "." (n::q)
      rw [join_cons n this]
      simp [PySem.Str.append_assoc]
    ·rw [List.mem_append,mL,m2]
     constructor
     ·rintro (⟨q,rfl,hq⟩ | ⟨m,q,rfl,hm,hc⟩)
      ·exact ⟨n,q,rfl,List.mem_cons_self ..,c,hg,hq⟩
      ·exact ⟨m,q,rfl,List.mem_cons_of_mem _ hm,hc⟩
     ·rintro ⟨m,q,rfl,hm,d,hd,hq⟩
      rcases List.mem_cons.mp hm with rfl | hm
      ·rw [hg] at hd
       cases hd
       exact .inl ⟨q,rfl,hq⟩
      ·exact .inr ⟨m,q,rfl,hm,d,hd,hq⟩
    ·refine byc fun b_=>?_
     obtain ⟨q,rfl,_⟩:=(mL a).mp ha
     obtain ⟨m,q',rfl,hm,_⟩:=(m2 b).mp hb
     refine b_ ?_;clear b_
     have hne:n ≠ m:=fun e=>hn (e ▸ hm)
     rw [pathLt_ne hne]
     cases z:nameLt n m with
     | true=>rfl
     | false=>exact absurd (name_tri z (pn m hm)) hne
theorem walk_paths (k:Nat) {f:Fo} {head:Str} {res:List Str} (nd:f.nd) (h:WalkR k f head res):∃ L:List (List Str),res=L.map (fun p=>head++Txt.join "." p)∧(∀ p,p ∈ L↔p ≠ []∧f.has p)∧L.Pairwise fun a b=>pathLt a b=true:=by
 induction k generalizing f head res with
 | zero=>exact h.elim
 | succ k ih =>
  refine byc fun b_=>?_
  obtain ⟨out,parts,⟨pm,pw⟩,e,hE⟩:=h
  refine b_ ?_;clear b_
  have mo:∀ n,n ∈ out↔n ∈ f.keys∧n ≠ Str.empty:=fun n=>by
   rw [pm.mem_iff,List.mem_filter];simp
  have no:out.Nodup:=pm.nodup_iff.mpr ((Fo.nd_keys nd).sublist List.filter_sublist)
  refine byc fun b_=>?_
  obtain ⟨L,h1,h2,h3⟩:=walk_parts (Sub:=WalkR k) (fun n c h r hg hS=>ih (Fo.nd_get nd hg) hS) hE no pw
  refine b_ ?_;clear b_
  refine ⟨L,e.trans h1,fun p=>?_,h3⟩
  rw [h2]
  constructor
  ·rintro pk0
   refine byc fun b_=>?_
   obtain ⟨n,q,rfl,hn,c,hc,hq⟩:=pk0
   refine b_ ?_;clear b_
   exact ⟨by simp,((mo n).mp hn).2,c,hc,hq⟩
  ·rintro ⟨hp,hh⟩
   cases p with
   | nil=>exact absurd rfl hp
   | cons n q =>
    refine byc fun b_=>?_
    obtain ⟨h1,c,hc,hq⟩:=hh
    refine b_ ?_;clear b_
    exact ⟨n,q,rfl,(mo n).mpr ⟨Fo.get_mem hc,h1⟩,c,hc,hq⟩
structure GrOk (done:List Pt) (gs:List Gr):Prop where
 nd:(gs.map (·.ks)).Nodup
 ks:∀ k,k ∈ gs.map (·.ks)↔∃ p ∈ done,p.ks=k
 fd:∀ g ∈ gs,g.f.nd
 has:∀ g ∈ gs,∀ path,g.f.has path↔∃ p ∈ done,p.ks=g.ks∧p.tl ≠ []∧p.tl=path
 en:∀ g ∈ gs,∀ t,t ∈ g.en↔∃ p ∈ done,p.ks=g.ks∧p.tl=[]∧t=p.text
 e1:∀ g ∈ gs,g.en.length ≤ 1
theorem pt_text_nil {p q:Pt} (hk:p.ks=q.ks) (hp:p.tl=[]) (hq:q.tl=[]):p.text=q.text:=by
 refine byc fun b_=>?_
 obtain ⟨a,b,c,t⟩:=p
 obtain ⟨a',b',c',t'⟩:=q
 refine b_ ?_;clear b_
 unfold Pt.ks at hk
 dsimp only at hp hq hk
 refine byc fun b_=>?_
 subst hp hq
 refine b_ ?_;clear b_
 injection hk with h1 h2
 injection h2 with h2 h3
 injection h3 with h3 _
 refine byc fun b_=>?_
 subst h1 h2 h3
 refine b_ ?_;clear b_
 rfl
theorem mod_keys {ks:List Int} {f:Gr→Gr} (hf:∀ g,(f g).ks=g.ks) (l:List Gr):(modG ks f l).map (·.ks)=l.map (·.ks):=by
 unfold modG
 rw [List.map_map]
 refine List.map_congr_left fun g _=>?_
 refine (?_:(if g.ks=ks then f g else g).ks=g.ks)
 split
 ·exact hf g
 ·rfl
set_option tactic.hygienic true in
theorem has_keys (ks:List Int) (l:List Gr) (h:(l.map (·.ks)).Nodup):((hasG ks l).map (·.ks)).Nodup∧∀ k,k ∈ (hasG ks l).map (·.ks)↔k ∈ l.map (·.ks)∨k=ks:=by
 unfold hasG
 split
 ·rename_i q
  refine byc fun b_=>?_
  obtain ⟨g,hg,e⟩:=List.any_eq_true.mp q
  refine b_ ?_;clear b_
  have e':g.ks=ks:=of_decide_eq_true e
  exact ⟨h,fun k=>⟨.inl,fun z=>z.elim id fun z=>by rw [z,← e'];exact List.mem_map.mpr ⟨g,hg,rfl⟩⟩⟩
 ·rename_i q
  rw [List.map_append,List.nodup_append]
  refine ⟨⟨h,by simp,fun a ha b hb e=>?_⟩,fun k=>by simp⟩
  have hb':b=ks:=by simpa using hb
  refine byc fun b_=>?_
  obtain ⟨g,hg,e2⟩:=List.mem_map.mp ha
  refine b_ ?_;clear b_
  exact q (List.any_eq_true.mpr ⟨g,hg,decide_eq_true (by rw [e2,e,hb'])⟩)
set_option tactic.hygienic true in
theorem grOk_step {done:List Pt} {gs:List Gr} {p:Pt} (I:GrOk done gs) (hw:∀ x ∈ p.tl,x ≠ Str.empty):GrOk (done++[p]) (growG gs p):=by
 refine byc fun b_=>?_
 obtain ⟨F,hF⟩:∃ F:Gr→Gr,F=fun g=>if p.tl.isEmpty then { g with en:=[p.text] } else { g with f:=Fo.plant p.tl g.f }:=⟨_,rfl⟩
 refine b_ ?_;clear b_
 have fk:∀ g,(F g).ks=g.ks:=fun g=>by rw [hF];dsimp only;split <;> rfl
 have eg:growG gs p=modG p.ks F (hasG p.ks gs):=by rw [hF];rfl
 have hk:=has_keys p.ks gs I.nd
 -- the groups before the change
 have old:∀ g ∈ hasG p.ks gs,(g ∈ gs∨(g=⟨p.ks,.nil,[]⟩∧∀ q ∈ done,q.ks ≠ p.ks)):=fun g hg=>by
  unfold hasG at hg
  split at hg
  ·exact .inl hg
  ·rename_i q
   rcases List.mem_append.mp hg with hg | hg
   ·exact .inl hg
   ·refine .inr ⟨List.mem_singleton.mp hg,fun z hz e=>?_⟩
    refine byc fun b_=>?_
    obtain ⟨g',hg',e'⟩:=List.mem_map.mp ((I.ks p.ks).mpr ⟨z,hz,e⟩)
    refine b_ ?_;clear b_
    exact q (List.any_eq_true.mpr ⟨g',hg',decide_eq_true e'⟩)
 have nd0:∀ g ∈ hasG p.ks gs,g.f.nd:=fun g hg=>(old g hg).elim (I.fd g) fun h=>by rw [h.1];exact trivial
 have has0:∀ g ∈ hasG p.ks gs,∀ path,g.f.has path↔∃ q ∈ done,q.ks=g.ks∧q.tl ≠ []∧q.tl=path:=fun g hg path=>(old g hg).elim (fun h=>I.has g h path) fun h=>by
  rw [h.1]
  exact ⟨fun z=>absurd z (Fo.has_nil path),fun pk0=>by obtain ⟨q,hq,e,_⟩:=pk0;exact absurd e (h.2 q hq)⟩
 have en0:∀ g ∈ hasG p.ks gs,∀ t,t ∈ g.en↔∃ q ∈ done,q.ks=g.ks∧q.tl=[]∧t=q.text:=fun g hg t=>(old g hg).elim (fun h=>I.en g h t) fun h=>by
  rw [h.1]
  exact ⟨(fun z=>nomatch z),fun pk1=>by obtain ⟨q,hq,e,_⟩:=pk1;exact absurd e (h.2 q hq)⟩
 have e10:∀ g ∈ hasG p.ks gs,g.en.length ≤ 1:=fun g hg=>(old g hg).elim (I.e1 g) fun h=>by rw [h.1];exact Nat.zero_le _
 have mem:∀ g ∈ growG gs p,∃ g0 ∈ hasG p.ks gs,(g0.ks=p.ks∧g=F g0)∨(g0.ks ≠ p.ks∧g=g0):=fun g hg=>by
  rw [eg] at hg
  refine byc fun b_=>?_
  obtain ⟨g0,h0,rfl⟩:=List.mem_map.mp hg
  refine b_ ?_;clear b_
  refine ⟨g0,h0,?_⟩
  by_cases q:g0.ks=p.ks
  ·exact .inl ⟨q,by rw [if_pos q]⟩
  ·exact .inr ⟨q,by rw [if_neg q]⟩
 have sn:∀ {P:Pt→Prop},(∃ q ∈ done++[p],P q)↔(∃ q ∈ done,P q)∨P p:=fun {P}=>by simp [or_and_right,exists_or]
 refine ⟨by rw [eg,mod_keys fk];exact hk.1,fun k=>?_,fun g hg=>?_,fun g hg path=>?_,fun g hg t=>?_,fun g hg=>?_⟩
 ·rw [eg,mod_keys fk,hk.2,I.ks,sn]
  exact or_congr Iff.rfl ⟨Eq.symm,Eq.symm⟩
 ·obtain ⟨g0,h0,⟨_,rfl⟩ | ⟨_,rfl⟩⟩:=mem g hg
  ·rw [hF];dsimp only
   split
   ·exact nd0 g0 h0
   ·exact Fo.nd_plant (nd0 g0 h0)
  ·exact nd0 g h0
 ·rw [sn]
  obtain ⟨g0,h0,⟨q,rfl⟩ | ⟨q,rfl⟩⟩:=mem g hg
  ·rw [fk,← has0 g0 h0]
   rw [hF];dsimp only
   split
   ·rename_i z
    have z':p.tl=[]:=by simpa using z
    exact ⟨.inl,fun h=>h.elim id fun h=>absurd z' h.2.1⟩
   ·rename_i z
    have z':p.tl ≠ []:=by simpa using z
    refine (?_:(Fo.plant p.tl g0.f).has path↔_)
    rw [Fo.has_plant hw]
    exact ⟨fun h=>h.elim (fun h=>.inr ⟨q.symm,z',h.symm⟩) .inl,fun h=>h.elim .inr fun h=>.inl h.2.2.symm⟩
  ·rw [has0 g h0]
   exact ⟨.inl,fun h=>h.elim id fun h=>absurd h.1.symm q⟩
 ·rw [sn]
  obtain ⟨g0,h0,⟨q,rfl⟩ | ⟨q,rfl⟩⟩:=mem g hg
  ·rw [fk]
   have e0:=en0 g0 h0 t
   rw [hF];dsimp only
   split
   ·rename_i z
    have z':p.tl=[]:=by simpa using z
    refine (?_:t ∈ [p.text]↔_)
    rw [List.mem_singleton]
    constructor
    ·exact fun h=>.inr ⟨q.symm,z',h⟩
    ·rintro (⟨r,hr,hk',hr',rfl⟩ | h)
     ·exact pt_text_nil (hk'.trans q) hr' z'
     ·exact h.2.2
   ·rename_i z
    have z':p.tl ≠ []:=by simpa using z
    refine (?_:t ∈ g0.en↔_)
    rw [e0]
    exact ⟨.inl,fun h=>h.elim id fun h=>absurd h.2.1 z'⟩
  ·rw [en0 g h0]
   exact ⟨.inl,fun h=>h.elim id fun h=>absurd h.1.symm q⟩
 ·obtain ⟨g0,h0,⟨_,rfl⟩ | ⟨_,rfl⟩⟩:=mem g hg
  ·rw [hF];dsimp only
   split
   ·exact Nat.le_refl _
   ·exact e10 g0 h0
  ·exact e10 g h0
theorem groups_ok (pts:List Pt) (hw:∀ p ∈ pts,∀ x ∈ p.tl,x ≠ Str.empty):GrOk pts (groups pts):=by
 have key:∀ (l done:List Pt) (gs:List Gr),GrOk done gs→(∀ p ∈ l,∀ x ∈ p.tl,x ≠ Str.empty)→GrOk (done++l) (l.foldl growG gs):=by
  intro l
  induction l with
  | nil=>intro done gs h _;rw [List.append_nil];exact h
  | cons p l ih =>
   intro done gs h hw
   rw [List.foldl_cons,show done++p::l=(done++[p])++l by simp]
   exact ih _ _ (grOk_step h (hw p (List.mem_cons_self ..))) fun q hq=>hw q (List.mem_cons_of_mem _ hq)
 have:=key pts [] [] ⟨List.nodup_nil,fun k=>by simp,(fun _ h=>nomatch h),(fun _ h=>nomatch h),(fun _ h=>nomatch h),(fun _ h=>nomatch h)⟩ hw
 rw [List.nil_append] at this
 exact this
noncomputable def tailLt:List Str→List Str→Bool
 | [],_=>false
 | _::_,[]=>true
 | a::p,b::q=>pathLt (a::p) (b::q)
noncomputable def ptLt (a b:Pt):Bool:=if a.ks=b.ks then tailLt a.tl b.tl else triLt a.ks b.ks
theorem pt_ext {p q:Pt} (h1:p.ks=q.ks) (h2:p.tl=q.tl):p=q:=by
 obtain ⟨a,b,c,t⟩:=p
 obtain ⟨a',b',c',t'⟩:=q
 unfold Pt.ks at h1
 injection h1 with h1 h3
 injection h3 with h3 h4
 injection h4 with h4 _
 dsimp only at h2 h1 h3 h4
 subst h1 h3 h4 h2
 rfl
theorem tri_tri {a b:List Int} (ha:∃ x y z,a=[x,y,z]) (hb:∃ x y z,b=[x,y,z]) (h1:triLt a b=false) (h2:triLt b a=false):a=b:=by
 have e1:=lx_tri (f:=fun l:List Int=>l.getD 0 0) (lt:=fun a b:List Int=>if a.getD 1 0 == b.getD 1 0 then decide (a.getD 2 0 < b.getD 2 0) else decide (a.getD 1 0 < b.getD 1 0)) h1 h2
 have e2:=lx_tri (f:=fun l:List Int=>l.getD 1 0) (lt:=fun a b:List Int=>decide (a.getD 2 0 < b.getD 2 0)) e1.2.1 e1.2.2
 have e3:a.getD 2 0=b.getD 2 0:=Int.le_antisymm (Int.not_lt.mp (of_decide_eq_false e2.2.2)) (Int.not_lt.mp (of_decide_eq_false e2.2.1))
 obtain ⟨x,y,z,rfl⟩:=ha
 obtain ⟨x',y',z',rfl⟩:=hb
 exact congr (congrArg List.cons e1.1) (congr (congrArg List.cons e2.1) (congrArg (fun z=>[z]) e3))
set_option tactic.hygienic true in
theorem part_rows {pts:List Pt} {k:List Int} {part:List Str} (G:GrOk pts (groups pts)) (h:GroupP (groups pts) k part):∃ L:List Pt,part=L.map Pt.text∧(∀ p,p ∈ L↔p ∈ pts∧p.ks=k)∧L.Pairwise (fun a b=>ptLt a b=true)∧∃ x y z,k=[x,y,z]:=by
 refine byc fun b_=>?_
 obtain ⟨g,hg,n0,n1,n2,sub,e1,e2,hW,rfl⟩:=h
 obtain ⟨Lp,e3,m3,s3⟩:=walk_paths 5 (G.fd g hg) hW
 obtain ⟨E,hE⟩:∃ E:List Pt,E=if g.en=[] then [] else [⟨n0,n1,n2,[]⟩]:=⟨_,rfl⟩
 refine b_ ?_;clear b_
 have hks:∀ t:List Str,(Pt.mk n0 n1 n2 t).ks=k:=fun t=>e2.symm
 have mem:∀ p:Pt,p.ks=k→p=⟨n0,n1,n2,p.tl⟩:=fun p hp=>pt_ext (by rw [hp,hks]) rfl
 have enE:g.en=E.map Pt.text:=by
  rw [hE]
  split
  ·rename_i q;rw [q];rfl
  ·rename_i q
   cases z:g.en with
   | nil=>exact absurd z q
   | cons t r =>
    have hl:=G.e1 g hg
    rw [z] at hl
    have hr:r=[]:=by cases r with
     | nil=>rfl
     | cons _ _=>exact absurd hl (by simp)
    obtain ⟨p,hp,hpk,hpt,rfl⟩:=(G.en g hg t).mp (by rw [z];exact List.mem_cons_self ..)
    rw [hr,mem p (hpk.trans e1),hpt];rfl
 have mE:∀ p,p ∈ E↔p ∈ pts∧p.ks=k∧p.tl=[]:=fun p=>by
  rw [hE]
  split
  ·rename_i q
   refine ⟨(fun h=>nomatch h),fun ⟨a,b,c⟩=>?_⟩
   have:=(G.en g hg p.text).mpr ⟨p,a,b.trans e1.symm,c,rfl⟩
   rw [q] at this;cases this
  ·rename_i q
   rw [List.mem_singleton]
   constructor
   ·rintro rfl
    obtain ⟨t,r,z⟩:∃ t r,g.en=t::r:=by cases z:g.en with
     | nil=>exact absurd z q
     | cons t r=>exact ⟨t,r,rfl⟩
    obtain ⟨p,hp,hpk,hpt,_⟩:=(G.en g hg t).mp (by rw [z];exact List.mem_cons_self ..)
    have:=mem p (hpk.trans e1)
    rw [hpt] at this
    rw [← this]
    exact ⟨hp,hpk.trans e1,hpt⟩
   ·rintro ⟨a,b,c⟩
    have:=mem p b
    rw [c] at this;exact this
 refine ⟨Lp.map (fun t=>⟨n0,n1,n2,t⟩)++E,?_,fun p=>?_,?_,⟨n0,n1,n2,e2⟩⟩
 ·rw [List.map_append,← enE,e3,List.map_map]
  congr 1
  refine List.map_congr_left fun t ht=>?_
  have hn:=((m3 t).mp ht).1
  show _=nums n0 n1 n2++behindSign "-" t
  unfold behindSign
  rw [if_neg (by simpa using hn),PySem.Str.append_assoc]
 ·rw [List.mem_append,mE]
  constructor
  ·rintro (h | h)
   ·refine byc fun b_=>?_
    obtain ⟨t,ht,rfl⟩:=List.mem_map.mp h
    obtain ⟨p,hp,hpk,hpt,rfl⟩:=(G.has g hg t).mp ((m3 t).mp ht).2
    refine b_ ?_;clear b_
    have:=mem p (hpk.trans e1)
    rw [← this]
    exact ⟨hp,hpk.trans e1⟩
   ·exact ⟨h.1,h.2.1⟩
  ·rintro ⟨hp,hk⟩
   by_cases q:p.tl=[]
   ·exact .inr ⟨hp,hk,q⟩
   ·refine .inl (List.mem_map.mpr ⟨p.tl,(m3 _).mpr ⟨q,(G.has g hg _).mpr ⟨p,hp,hk.trans e1.symm,q,rfl⟩⟩,(mem p hk).symm⟩)
 ·rw [List.pairwise_append]
  refine ⟨List.pairwise_map.mpr (s3.imp_of_mem fun {a b} ha hb h=>?_),?_,fun a ha b hb=>?_⟩
  ·unfold ptLt
   rw [if_pos (by rw [hks,hks])]
   have h1:=((m3 a).mp ha).1
   have h2:=((m3 b).mp hb).1
   cases a with
   | nil=>exact absurd rfl h1
   | cons _ _ =>
    cases b with
    | nil=>exact absurd rfl h2
    | cons _ _=>exact h
  ·rw [hE];split <;> simp
  ·refine byc fun b_=>?_
   obtain ⟨t,ht,rfl⟩:=List.mem_map.mp ha
   obtain ⟨_,hbk,hbt⟩:=(mE b).mp hb
   refine b_ ?_;clear b_
   unfold ptLt
   rw [if_pos (by rw [hks,hbk]),hbt]
   have h1:=((m3 t).mp ht).1
   cases t with
   | nil=>exact absurd rfl h1
   | cons _ _=>rfl
theorem each_rows {pts:List Pt} (G:GrOk pts (groups pts)) {out:List (List Int)} {parts:List (List Str)} (hE:Each (GroupP (groups pts)) out parts) (nd:out.Nodup) (pw:out.Pairwise fun a b=>triLt b a=false) :
  ∃ L:List Pt,parts.flatten=L.map Pt.text∧(∀ p,p ∈ L↔p ∈ pts∧p.ks ∈ out)∧L.Pairwise (fun a b=>ptLt a b=true)∧∀ k ∈ out,∃ x y z,k=[x,y,z]:=by
 induction out generalizing parts with
 | nil=>cases hE;exact ⟨[],rfl,fun p=>by simp,List.Pairwise.nil,fun _ h=>nomatch h⟩
 | cons k out ih=>cases hE with
  | cons hp hE =>
    refine byc fun b_=>?_
    obtain ⟨L1,e1,m1,s1,t1⟩:=part_rows G hp
    obtain ⟨hn,nd'⟩:=List.nodup_cons.mp nd
    obtain ⟨pn,pw'⟩:=List.pairwise_cons.mp pw
    obtain ⟨L2,e2,m2,s2,t2⟩:=ih hE nd' pw'
    refine b_ ?_;clear b_
    refine ⟨L1++L2,by rw [List.flatten_cons,e1,e2,List.map_append],fun p=>?_,List.pairwise_append.mpr ⟨s1,s2,fun a ha b hb=>?_⟩,fun c hc=>?_⟩
    ·rw [List.mem_append,m1,m2,List.mem_cons]
     constructor
     ·rintro (⟨h1,h2⟩ | ⟨h1,h2⟩)
      ·exact ⟨h1,.inl h2⟩
      ·exact ⟨h1,.inr h2⟩
     ·rintro ⟨h1,h2 | h2⟩
      ·exact .inl ⟨h1,h2⟩
      ·exact .inr ⟨h1,h2⟩
    ·have ka:=((m1 a).mp ha).2
     have kb:=((m2 b).mp hb).2
     have hne:a.ks ≠ b.ks:=fun e=>hn (by rw [← ka,e];exact kb)
     unfold ptLt
     rw [if_neg hne]
     cases z:triLt a.ks b.ks with
     | true=>rfl
     | false =>
      refine absurd (tri_tri ?_ (t2 _ kb) z ?_) hne
      ·rw [ka];exact t1
      ·rw [ka];exact pn _ kb
    ·revert c;refine List.forall_mem_cons.mpr ⟨?_,fun c hc=>?_⟩
     ·exact t1
     ·exact t2 c hc
theorem ord_rows {pts:List Pt} {res:List Str} (hw:∀ p ∈ pts,PtW p) (h:OrdR pts res):∃ L:List Pt,res=L.map Pt.text∧(∀ p,p ∈ L↔p ∈ pts)∧L.Pairwise fun a b=>ptLt a b=true:=by
 have G:=groups_ok pts fun p hp x hx=>((hw p hp).w x hx).nonempty
 refine byc fun b_=>?_
 obtain ⟨out,parts,pm,pw,hE,rfl⟩:=h
 obtain ⟨L,h1,h2,h3,_⟩:=each_rows G hE (pm.nodup_iff.mpr G.nd) pw
 refine b_ ?_;clear b_
 refine ⟨L,h1,fun p=>?_,h3⟩
 rw [h2,pm.mem_iff]
 exact ⟨fun h=>h.1,fun h=>⟨h,(G.ks _).mpr ⟨p,h,rfl⟩⟩⟩
theorem bs_cps {tl:List Str} (hw:∀ x ∈ tl,Word x):((behindSign "-" tl).cps.toList=[]∧tl=[])∨((behindSign "-" tl).cps.toList=45::jn 46 (tl.map fun x=>x.cps.toList)∧tl ≠ []):=by
 cases tl with
 | nil=>exact .inl ⟨rfl,rfl⟩
 | cons y r =>
  refine .inr ⟨?_,by simp⟩
  refine (?_:(Str.ofString "-"++Txt.join "." (y::r)).cps.toList=_)
  have minc:(Str.ofString "-").cps.toList=[45]:=by decide
  rw [cps_toList_append,minc,txt_join,join_cps];rfl
theorem cut_end {a b P Q:List Nat} (ha:45 ∉ a) (hb:45 ∉ b) (hP:P=[]∨∃ r,P=45::r) (hQ:Q=[]∨∃ r,Q=45::r) (h:a++P=b++Q):a=b∧P=Q:=by
 rcases hP with rfl | ⟨r,rfl⟩
 ·rcases hQ with rfl | ⟨t,rfl⟩
  ·simp at h;exact ⟨h,rfl⟩
  ·rw [List.append_nil] at h
   exact absurd (by rw [h];simp) ha
 ·rcases hQ with rfl | ⟨t,rfl⟩
  ·rw [List.append_nil] at h
   exact absurd (by rw [← h];simp) hb
  ·obtain ⟨e1,e2⟩:=cut_at ha hb h
   exact ⟨e1,by rw [e2]⟩
theorem text_inj {p q:Pt} (hp:PtW p) (hq:PtW q) (h:p.text=q.text):p=q:=by
 refine byc fun b_=>?_
 obtain ⟨a0,a1,a2,t⟩:=p
 obtain ⟨b0,b1,b2,u⟩:=q
 obtain ⟨⟨x0,_⟩,⟨x1,_⟩,⟨x2,_⟩,_,hw⟩:=hp
 obtain ⟨⟨y0,_⟩,⟨y1,_⟩,⟨y2,_⟩,_,hv⟩:=hq
 dsimp only at x0 x1 x2 y0 y1 y2 hw hv
 obtain ⟨k0,rfl⟩:=Int.eq_ofNat_of_zero_le x0
 obtain ⟨k1,rfl⟩:=Int.eq_ofNat_of_zero_le x1
 obtain ⟨k2,rfl⟩:=Int.eq_ofNat_of_zero_le x2
 obtain ⟨j0,rfl⟩:=Int.eq_ofNat_of_zero_le y0
 obtain ⟨j1,rfl⟩:=Int.eq_ofNat_of_zero_le y1
 obtain ⟨j2,rfl⟩:=Int.eq_ofNat_of_zero_le y2
 refine b_ ?_;clear b_
 have e:=congrArg (fun s:Str=>s.cps.toList) h
 unfold Pt.text at e
 dsimp only at e
 rw [cps_toList_append,cps_toList_append,nums_cps,nums_cps] at e
 have nd:∀ (c:Nat),(c < 48)→∀ k,c ∉ dec k:=fun c hc k hm=>by have:=(dec_facts k).1 c hm;lia
 simp only [List.append_assoc,List.cons_append] at e
 refine byc fun b_=>?_
 obtain ⟨e0,e⟩:=cut_at (nd 46 (by decide) _) (nd 46 (by decide) _) e
 obtain ⟨e1,e⟩:=cut_at (nd 46 (by decide) _) (nd 46 (by decide) _) e
 have cw:=bs_cps hw
 have cv:=bs_cps hv
 obtain ⟨e2,e⟩:=cut_end (nd 45 (by decide) _) (nd 45 (by decide) _) (cw.imp (·.1) fun z=>⟨_,z.1⟩) (cv.imp (·.1) fun z=>⟨_,z.1⟩) e
 refine b_ ?_;clear b_
 have di:∀ {a b:Nat},dec a=dec b→a=b:=fun {a b} z=>by rw [← (dec_facts a).2.1,← (dec_facts b).2.1,z]
 have et:t=u:=by
  rcases cw with ⟨z1,z2⟩ | ⟨z1,z2⟩
  ·rcases cv with ⟨w1,w2⟩ | ⟨w1,w2⟩
   ·rw [z2,w2]
   ·rw [z1,w1] at e;cases e
  ·rcases cv with ⟨w1,w2⟩ | ⟨w1,w2⟩
   ·rw [z1,w1] at e;cases e
   ·rw [z1,w1] at e
    injection e with _ e
    refine map_cps_inj (jn_inj (by simpa using z2) (by simpa using w2) (fun x hx=>?_) (fun x hx=>?_) e)
    ·obtain ⟨y,hy,rfl⟩:=List.mem_map.mp hx;exact (hw y hy).dot
    ·obtain ⟨y,hy,rfl⟩:=List.mem_map.mp hx;exact (hv y hy).dot
 rw [di e0,di e1,di e2,et]
theorem name_asy {a b:Str} (h:nameLt a b=true):nameLt b a=false:=by
 unfold nameLt at h ⊢
 by_cases da:Txt.isdigit a=true <;> by_cases db:Txt.isdigit b=true
 ·rw [if_pos da,if_pos db] at h
  rw [if_pos db,if_pos da]
  exact digTot.ord.asymm a b h
 ·rw [if_neg db,if_pos da]
 ·rw [if_neg da,if_pos db] at h;cases h
 ·rw [if_neg da,if_neg db] at h
  rw [if_neg db,if_neg da]
  exact strTot.ord.asymm a b h
theorem path_asy {p:List Str}:∀ {q:List Str},pathLt p q=true→pathLt q p=false:=by
 induction p with
 | nil=>intro q h;cases q with
  | nil=>exact nomatch h
  | cons=>rfl
 | cons a p ih=>intro q h;cases q with
  | nil=>exact nomatch h
  | cons b q =>
   rw [pathLt_c] at h ⊢
   by_cases e:a=b
   ·rw [if_pos e] at h
    rw [if_pos e.symm];exact ih h
   ·rw [if_neg e] at h
    rw [if_neg (Ne.symm e)];exact name_asy h
theorem tail_asy {p q:List Str} (h:tailLt p q=true):tailLt q p=false:=by
 cases p with
 | nil=>cases h
 | cons a p =>
  cases q with
  | nil=>rfl
  | cons b q=>exact path_asy h
theorem pt_asy {p q:Pt} (h:ptLt p q=true):ptLt q p=false:=by
 unfold ptLt at h ⊢
 by_cases e:p.ks=q.ks
 ·rw [if_pos e] at h
  rw [if_pos e.symm];exact tail_asy h
 ·rw [if_neg e] at h
  rw [if_neg (Ne.symm e)];exact triOrd.asymm _ _ h
theorem place_lt {L:List Pt} (s:L.Pairwise fun a b=>ptLt a b=true) {i j:Nat} {p q:Pt} (hi:L[i]?=some p) (hj:L[j]?=some q):(i < j↔ptLt p q=true)∧(i=j↔p=q):=by
 have key:∀ {i j:Nat} {p q:Pt},L[i]?=some p→L[j]?=some q→i < j→ptLt p q=true:=fun {i j p q} hi hj h=>by
  refine byc fun b_=>?_
  obtain ⟨li,rfl⟩:=List.getElem?_eq_some_iff.mp hi
  obtain ⟨lj,rfl⟩:=List.getElem?_eq_some_iff.mp hj
  refine b_ ?_;clear b_
  exact List.pairwise_iff_getElem.mp s i j li lj h
 have irr:∀ p,ptLt p p=false:=fun p=>by
  cases h:ptLt p p with
  | false=>rfl
  | true=>rw [pt_asy h] at h;cases h
 rcases Nat.lt_trichotomy i j with h | h | h
 ·have:=key hi hj h
  refine ⟨⟨fun _=>this,fun _=>h⟩,⟨fun e=>by lia,fun e=>?_⟩⟩
  rw [e,irr] at this;cases this
 ·refine byc fun b_=>?_
  subst h
  refine b_ ?_;clear b_
  rw [hi] at hj
  cases hj
  exact ⟨⟨fun h=>absurd h (Nat.lt_irrefl _),fun h=>by rw [irr] at h;cases h⟩,⟨fun _=>rfl,fun _=>rfl⟩⟩
 ·have:=key hj hi h
  refine ⟨⟨fun h'=>by lia,fun h'=>?_⟩,⟨fun e=>by lia,fun e=>?_⟩⟩
  ·rw [pt_asy h'] at this;cases this
  ·rw [e,irr] at this;cases this
theorem id_num {x y:Str} {a b:Idn} (hx:Word x) (hy:Word y) (ha:IdOf x a) (hb:IdOf y b) (dx:Txt.isdigit x=true) (dy:Txt.isdigit y=true):Idn.blt a b=nameLt x y∧Idn.beq a b=(x == y):=by
 have px:=hx.pl dx
 have py:=hy.pl dy
 have ix:=digits_text px (Nat.le_trans hx.le (by decide))
 have iy:=digits_text py (Nat.le_trans hy.le (by decide))
 cases ha with
 | al d _ _=>rw [dx] at d;cases d
 | num _ i _ =>
  cases hb with
  | al d _ _=>rw [dy] at d;cases d
  | num _ j _ =>
   rw [ix] at i;cases i
   rw [iy] at j;cases j
   have key:=plain_lt px py
   refine ⟨?_,?_⟩
   ·unfold nameLt
    rw [if_pos dx,if_pos dy]
    refine (?_:decide (((dval x.cps.toList:Nat):Int) < ((dval y.cps.toList:Nat):Int))=digLt x y)
    unfold digLt strLt
    rw [← len_cps,← len_cps]
    by_cases e:x.cps.toList.length=y.cps.toList.length
    ·have c:(x.cps.toList.length == y.cps.toList.length)=true:=beq_iff_eq.mpr e
     simp only [c,if_true,true_and,Bool.true_eq_false,false_and,or_false] at key ⊢
     exact decide_eq_decide.mpr ((Int.ofNat_lt).trans key.symm)
    ·have c:(x.cps.toList.length == y.cps.toList.length)=false:=beq_eq_false_iff_ne.mpr e
     simp only [c,Bool.false_eq_true,if_false,false_and,false_or,true_and] at key ⊢
     exact decide_eq_decide.mpr ((Int.ofNat_lt).trans key.symm)
   ·refine (?_:((((dval x.cps.toList:Nat):Int)) == ((dval y.cps.toList:Nat):Int))=(x == y))
    rw [Bool.eq_iff_iff,beq_iff_eq,beq_iff_eq]
    exact ⟨fun h=>str_ext (plain_inj px py (Int.ofNat.inj h)),fun h=>by rw [h]⟩
theorem u8 {c:Nat} (h:c < 128):c.toUInt8.toNat=c:=Nat.mod_eq_of_lt (Nat.lt_of_lt_of_le h (by decide))
theorem order_lt {a:List Nat}:∀ {b:List Nat},(∀ c ∈ a,c < 128)→(∀ c ∈ b,c < 128)→((Builtin.Bytes.order (a.map Nat.toUInt8) (b.map Nat.toUInt8) == .lt)=decide (a < b))∧((a.map Nat.toUInt8 == b.map Nat.toUInt8)=decide (a=b)):=by
 induction a with
 | nil=>intro b;cases b <;> simp [Builtin.Bytes.order]
 | cons c a ih=>intro b ha hb;cases b with
  | nil=>simp [Builtin.Bytes.order]
  | cons d b =>
   have i:=ih (fun x hx=>ha x (List.mem_cons_of_mem _ hx)) (fun x hx=>hb x (List.mem_cons_of_mem _ hx))
   have e1:=u8 (ha c (List.mem_cons_self ..))
   have e2:=u8 (hb d (List.mem_cons_self ..))
   have lt:(c.toUInt8 < d.toUInt8)↔c < d:=by rw [UInt8.lt_iff_toNat_lt,e1,e2]
   have gt:(c.toUInt8 > d.toUInt8)↔d < c:=by rw [GT.gt,UInt8.lt_iff_toNat_lt,e1,e2]
   rw [List.map_cons,List.map_cons,Builtin.Bytes.order]
   refine ⟨?_,?_⟩
   ·rcases Nat.lt_trichotomy c d with q | q | q
    ·rw [if_pos (lt.mpr q)]
     exact (decide_eq_true (List.cons_lt_cons_iff.mpr (.inl q))).symm
    ·rw [if_neg (fun h=>Nat.ne_of_lt (lt.mp h) q),if_neg (fun h=>Nat.ne_of_gt (gt.mp h) q),i.1,q]
     exact decide_eq_decide.mpr ⟨fun h=>List.cons_lt_cons_iff.mpr (.inr ⟨rfl,h⟩),fun h=>(List.cons_lt_cons_iff.mp h).elim (fun h=>absurd h (Nat.lt_irrefl _)) (·.2)⟩
    ·rw [if_neg (fun h=>Nat.lt_asymm (lt.mp h) q),if_pos (gt.mpr q)]
     exact (decide_eq_false fun h=>(List.cons_lt_cons_iff.mp h).elim (Nat.lt_asymm q) fun h=>Nat.ne_of_gt q h.1).symm
   ·rw [Bool.eq_iff_iff,beq_iff_eq,decide_eq_true_eq,List.cons.injEq,List.cons.injEq]
    have:=i.2
    rw [Bool.eq_iff_iff,beq_iff_eq,decide_eq_true_eq] at this
    rw [this]
    exact ⟨fun h=>⟨by rw [← e1,← e2,h.1],h.2⟩,fun h=>⟨congrArg _ h.1,h.2⟩⟩
theorem id_name {x y:Str} {a b:Idn} (hx:Word x) (hy:Word y) (ha:IdOf x a) (hb:IdOf y b):Idn.blt a b=nameLt x y∧Idn.beq a b=(x == y):=by
 by_cases dx:Txt.isdigit x=true
 ·by_cases dy:Txt.isdigit y=true
  ·exact id_num hx hy ha hb dx dy
  ·cases ha with
   | al d _ _=>exact absurd dx (by rw [d];decide)
   | num _ _ _ =>
    cases hb with
    | num d _ _=>exact absurd d dy
    | al _ _ _ =>
     refine ⟨by unfold nameLt;rw [if_pos dx,if_neg dy];rfl,?_⟩
     show false=(x == y)
     symm
     exact beq_eq_false_iff_ne.mpr fun e=>dy (e ▸ dx)
 ·cases ha with
  | num d _ _=>exact absurd d dx
  | al _ _ _ =>
   by_cases dy:Txt.isdigit y=true
   ·cases hb with
    | al d _ _=>exact absurd dy (by rw [d];decide)
    | num _ _ _ =>
     refine ⟨by unfold nameLt;rw [if_neg dx,if_pos dy];rfl,?_⟩
     show false=(x == y)
     symm
     exact beq_eq_false_iff_ne.mpr fun e=>dx (e ▸ dy)
   ·cases hb with
    | num d _ _=>exact absurd d dy
    | al _ _ _ =>
     obtain ⟨k1,k2⟩:=order_lt hx.asc hy.asc
     refine ⟨?_,?_⟩
     ·unfold nameLt
      rw [if_neg dx,if_neg dy]
      show (Builtin.Bytes.order (encB x).toList (encB y).toList == .lt)=strLt x y
      rw [encB_list,encB_list,k1];rfl
     ·show ((encB x).toList == (encB y).toList)=(x == y)
      rw [encB_list,encB_list,k2]
      rw [Bool.eq_iff_iff,decide_eq_true_eq,beq_iff_eq]
      exact ⟨str_ext,fun h=>by rw [h]⟩
theorem ids_lt {p:List Str} {ks:List Idn} {fin:Bool} (x:IdsOf p ks):∀ {q:List Str} {js:List Idn},(∀ x ∈ p,Word x)→(∀ x ∈ q,Word x)→IdsOf q js→fin=decide (p.length < q.length)→lexB Idn.beq (Idn.opf .Lt) fin ks js=pathLt p q:=by
 induction x with
 | nil=>intro q js _ _ y hf;cases y with
  | nil=>exact hf
  | cons=>exact hf.trans (decide_eq_true (Nat.succ_pos _))
 | @cons v k vs ks a _ ih=>intro q js hp hq y hf;cases y with
  | nil=>exact hf.trans (decide_eq_false (Nat.not_lt_zero _))
  | @cons u j us js b t =>
   have h:=id_name (hp v (List.mem_cons_self ..)) (hq u (List.mem_cons_self ..)) a b
   rw [lexB_c,pathLt_c,h.2,ih (fun z hz=>hp z (List.mem_cons_of_mem _ hz)) (fun z hz=>hq z (List.mem_cons_of_mem _ hz)) t (hf.trans (decide_eq_decide.mpr Nat.succ_lt_succ_iff))]
   by_cases e:v=u
   ·rw [if_pos e,if_pos (beq_iff_eq.mpr e)]
   ·rw [if_neg e,if_neg (fun h=>e (beq_iff_eq.mp h))]
    exact h.1
theorem tail_key {p q:List Str} {ks js:List Idn} (hp:∀ x ∈ p,Word x) (hq:∀ x ∈ q,Word x) (a:IdsOf p ks) (b:IdsOf q js):idsOp .Lt (keyIds ks) (keyIds js)=tailLt p q:=by
 cases a with
 | nil =>
  cases b with
  | nil=>rfl
  | cons u t=>cases u <;> rfl
 | cons v r =>
  cases b with
  | nil=>cases v <;> rfl
  | cons u t=>exact ids_lt (.cons v r) hp hq (.cons u t) (by rw [(IdsOf.cons v r).length,(IdsOf.cons u t).length];rfl)
theorem ids_eq {p:List Str} {ks:List Idn} (x:IdsOf p ks):∀ {q:List Str} {js:List Idn},(∀ x ∈ p,Word x)→(∀ x ∈ q,Word x)→IdsOf q js→(eqL Idn.beq ks js=true↔p=q):=by
 induction x with
 | nil=>intro q js _ _ y;cases y with
  | nil=>exact ⟨fun _=>rfl,fun _=>rfl⟩
  | cons=>exact ⟨(fun h=>nomatch h),fun h=>nomatch h⟩
 | @cons v k vs ks a _ ih=>intro q js hp hq y;cases y with
  | nil=>exact ⟨(fun h=>nomatch h),fun h=>nomatch h⟩
  | @cons u j us js b t =>
   rw [eqL_c,Bool.and_eq_true,ih (fun z hz=>hp z (List.mem_cons_of_mem _ hz)) (fun z hz=>hq z (List.mem_cons_of_mem _ hz)) t,(id_name (hp v (List.mem_cons_self ..)) (hq u (List.mem_cons_self ..)) a b).2,beq_iff_eq,List.cons.injEq]
theorem Idn.ble_eq (i j:Idn):i.ble j=(i.blt j || i.beq j):=by cases i <;> cases j <;> rfl
theorem Idn.bgt_eq (i j:Idn):i.bgt j=!i.ble j:=by cases i <;> cases j <;> first | rfl | exact (Bool.not_or ..).symm
theorem Idn.bge_eq (i j:Idn):i.bge j=!i.blt j:=by cases i <;> cases j <;> rfl
theorem lex_not {α:Type} {eqf o1 o2:α→α→Bool} (h:∀ a b,o2 a b=!o1 a b) {f1 f2:Bool} (hf:f2=!f1) (as:List α):∀ bs:List α,lexB eqf o2 f2 as bs=!lexB eqf o1 f1 as bs:=by
 induction as with
 | nil=>intro bs;cases bs <;> exact hf
 | cons a as ih=>intro bs;cases bs with
  | nil=>exact hf
  | cons b bs =>
   rw [lexB_c,lexB_c]
   by_cases e:eqf a b=true
   ·rw [if_pos e,if_pos e];exact ih bs
   ·rw [if_neg e,if_neg e];exact h a b
theorem lex_le {α:Type} {eqf o1 o2:α→α→Bool} (h:∀ a b,eqf a b=false→o2 a b=o1 a b) {f1 f2:Bool} (as:List α):∀ bs:List α,(as.length ≠ bs.length→f2=f1)→eqL eqf as bs=false→lexB eqf o2 f2 as bs=lexB eqf o1 f1 as bs:=by
 induction as with
 | nil=>intro bs hf he;cases bs with
  | nil=>exact nomatch he
  | cons=>exact hf fun q=>nomatch q
 | cons a as ih=>intro bs hf he;cases bs with
  | nil=>exact hf fun q=>nomatch q
  | cons b bs =>
   rw [lexB_c,lexB_c]
   rw [eqL_c] at he
   by_cases e:eqf a b=true
   ·rw [if_pos e,if_pos e]
    rw [e,Bool.true_and] at he
    exact ih bs (fun q=>hf fun z=>q (Nat.succ.inj z)) he
   ·rw [if_neg e,if_neg e];exact h a b (Bool.eq_false_iff.mpr e)
theorem sizes_not1 (m n:Nat):sizesB .GtE m n=!sizesB .Lt m n:=by
 refine (?_:decide (m ≥ n)=!decide (m < n))
 rw [← decide_not];exact decide_eq_decide.mpr (by lia)
theorem sizes_not2 (m n:Nat):sizesB .Gt m n=!sizesB .LtE m n:=by
 refine (?_:decide (m > n)=!decide (m ≤ n))
 rw [← decide_not];exact decide_eq_decide.mpr (by lia)
theorem ids_ge (a b:List Idn):idsOp .GtE a b=!idsOp .Lt a b:=lex_not (fun i j=>Idn.bge_eq i j) (sizes_not1 _ _) a b
theorem ids_gt (a b:List Idn):idsOp .Gt a b=!idsOp .LtE a b:=lex_not (fun i j=>Idn.bgt_eq i j) (sizes_not2 _ _) a b
theorem ids_le {a b:List Idn} (h:eqL Idn.beq a b=false):idsOp .LtE a b=idsOp .Lt a b:=lex_le (fun i j e=>by show i.ble j=i.blt j;rw [Idn.ble_eq,e,Bool.or_false]) a b (fun q=>by
 refine (?_:decide (a.length ≤ b.length)=decide (a.length < b.length))
 exact decide_eq_decide.mpr (by lia)) h
theorem k4_op (op:CmpOp) (a b:VerOf):keyOp op a.k4 b.k4=if (a.n0 == b.n0)=true then (if (a.n1 == b.n1)=true then (if (a.n2 == b.n2)=true then (if eqL Idn.beq (keyIds a.ks) (keyIds b.ks)=true then sizesB op 4 4 else idsOp op (keyIds a.ks) (keyIds b.ks)) else intOp op a.n2 b.n2) else intOp op a.n1 b.n1) else intOp op a.n0 b.n0:=rfl
theorem k4_ge (a b:VerOf):keyOp .GtE a.k4 b.k4=!keyOp .Lt a.k4 b.k4:=by
 have i1:∀ x y:Int,intOp .GtE x y=!intOp .Lt x y:=fun x y=>by
  refine (?_:decide (x ≥ y)=!decide (x < y))
  rw [← decide_not];exact decide_eq_decide.mpr (by lia)
 rw [k4_op,k4_op,ids_ge,i1,i1,i1,sizes_not1]
 repeat' split
 all_goals rfl
theorem k4_gt (a b:VerOf):keyOp .Gt a.k4 b.k4=!keyOp .LtE a.k4 b.k4:=by
 have i1:∀ x y:Int,intOp .Gt x y=!intOp .LtE x y:=fun x y=>by
  refine (?_:decide (x > y)=!decide (x ≤ y))
  rw [← decide_not];exact decide_eq_decide.mpr (by lia)
 rw [k4_op,k4_op,ids_gt,i1,i1,i1,sizes_not2]
 repeat' split
 all_goals rfl
noncomputable def lawBuild (j:Nat):Str:=(["","+b","+7","+b.7"]:List Str).getD j ""
noncomputable def lawBld (j:Nat):List Str:=([[],["b"],["7"],["b","7"]]:List (List Str)).getD j []
noncomputable def lawBs (j:Nat):List Idn:=([[],[.al #[98]],[.num 7],[.al #[98],.num 7]]:List (List Idn)).getD j []
structure VP (v:VerOf) (p:Pt) (j:Nat):Prop where
 n0:v.n0=p.n0
 n1:v.n1=p.n1
 n2:v.n2=p.n2
 pre:v.pre=p.tl
 bld:v.bld=lawBld j
 ks:IdsOf p.tl v.ks
 bs:v.bs=lawBs j
 lt:j < 4
theorem bd_of {j:Nat} (h:j < 4):Bd (lawBuild j) (lawBld j) (lawBs j):=by
 have gb:Good true "b":=⟨by decide,by decide,by decide⟩
 have g7:Good true "7":=⟨by decide,by decide,by decide⟩
 have ib:IdOf "b" (.al #[98]):=by
  have e:encB "b"=#[98]:=by decide +kernel
  rw [← e];exact .al (by decide +kernel) (by decide +kernel) (by decide)
 have i7:IdOf "7" (.num 7):=.num (by decide +kernel) (by decide +kernel) (by decide)
 refine ltL (P:=fun j=>Bd (lawBuild j) (lawBld j) (lawBs j)) h (alC ?_ (alC ?_ (alC ?_ (alC ?_ al0))))
 ·exact .none
 ·exact .some (B:=[98]) (by decide +kernel) (by decide) (fun c hc=>by rw [List.mem_singleton.mp hc];exact .inl (.inr (.inr (.inr (by decide))))) (by decide) (by decide +kernel) (fun v hv=>by rw [List.mem_singleton.mp hv];exact gb) (by decide) (.cons ib .nil)
 ·exact .some (B:=[55]) (by decide +kernel) (by decide) (fun c hc=>by rw [List.mem_singleton.mp hc];exact .inl (.inr (.inl (by decide)))) (by decide) (by decide +kernel) (fun v hv=>by rw [List.mem_singleton.mp hv];exact g7) (by decide) (.cons i7 .nil)
 ·exact .some (B:=[98,46,55]) (by decide +kernel) (by decide) (fun c hc=>by
   simp only [List.mem_cons,List.not_mem_nil,or_false] at hc
   rcases hc with rfl | rfl | rfl
   ·exact .inl (.inr (.inr (.inr (by decide))))
   ·exact .inr rfl
   ·exact .inl (.inr (.inl (by decide)))) (by decide) (by decide +kernel) (fun v hv=>by
   have hv':v="b"∨v="7":=by
    rcases List.mem_cons.mp hv with e | hv
    ·exact .inl e
    ·exact .inr (List.mem_singleton.mp hv)
   rcases hv' with rfl | rfl
   ·exact gb
   ·exact g7) (by decide) (.cons ib (.cons i7 .nil))
theorem vp_exists {p:Pt} (hp:PtW p) {j:Nat} (hj:j < 4):∃ v,VP v p j∧TxV (p.text++lawBuild j) v:=by
 refine byc fun b_=>?_
 obtain ⟨ks,hk⟩:=ids_words hp.w
 refine b_ ?_;clear b_
 exact ⟨⟨p.n0,p.n1,p.n2,p.tl,lawBld j,ks,lawBs j⟩,⟨rfl,rfl,rfl,rfl,rfl,hk,rfl,hj⟩,txv_of hp (bd_of hj) hk⟩
theorem key_eq {p q:List Str} {ks js:List Idn} (hp:∀ x ∈ p,Word x) (hq:∀ x ∈ q,Word x) (a:IdsOf p ks) (b:IdsOf q js):eqL Idn.beq (keyIds ks) (keyIds js)=true↔p=q:=by
 cases a with
 | nil =>
  cases b with
  | nil=>exact ⟨fun _=>rfl,fun _=>rfl⟩
  | cons u t=>exact ⟨fun h=>by (cases u <;> cases h),fun h=>(nomatch h)⟩
 | cons v r =>
  cases b with
  | nil=>exact ⟨fun h=>by (cases v <;> cases h),fun h=>(nomatch h)⟩
  | cons u t=>exact ids_eq (.cons v r) hp hq (.cons u t)
theorem tri_k (p q:Pt):triLt p.ks q.ks=if (p.n0 == q.n0)=true then (if (p.n1 == q.n1)=true then decide (p.n2 < q.n2) else decide (p.n1 < q.n1)) else decide (p.n0 < q.n0):=rfl
theorem k4_lt {a b:VerOf} {p q:Pt} {j k:Nat} (hp:PtW p) (hq:PtW q) (ha:VP a p j) (hb:VP b q k):keyOp .Lt a.k4 b.k4=ptLt p q:=by
 have ke:=key_eq hp.w hq.w ha.ks hb.ks
 have kt:=tail_key hp.w hq.w ha.ks hb.ks
 rw [k4_op,ha.n0,ha.n1,ha.n2,hb.n0,hb.n1,hb.n2,kt]
 unfold ptLt
 rw [tri_k]
 by_cases e0:p.n0=q.n0
 ·have c0:(p.n0 == q.n0)=true:=by simpa using e0
  by_cases e1:p.n1=q.n1
  ·have c1:(p.n1 == q.n1)=true:=by simpa using e1
   by_cases e2:p.n2=q.n2
   ·have c2:(p.n2 == q.n2)=true:=by simpa using e2
    have ck:p.ks=q.ks:=by unfold Pt.ks;rw [e0,e1,e2]
    simp only [c0,c1,c2,ck,if_true]
    by_cases et:p.tl=q.tl
    ·rw [if_pos (ke.mpr et),et]
     cases z:tailLt q.tl q.tl with
     | false=>rfl
     | true=>have:=tail_asy z;rw [z] at this;cases this
    ·rw [if_neg fun h=>et (ke.mp h)]
   ·have c2:(p.n2 == q.n2)=false:=by simpa using e2
    have ck:¬ p.ks=q.ks:=fun h=>e2 (by unfold Pt.ks at h;injection h with _ h;injection h with _ h;injection h)
    simp only [c0,c1,c2,ck,if_true,if_false,Bool.false_eq_true]
    rfl
  ·have c1:(p.n1 == q.n1)=false:=by simpa using e1
   have ck:¬ p.ks=q.ks:=fun h=>e1 (by unfold Pt.ks at h;injection h with _ h;injection h)
   simp only [c0,c1,ck,if_true,if_false,Bool.false_eq_true]
   rfl
 ·have c0:(p.n0 == q.n0)=false:=by simpa using e0
  have ck:¬ p.ks=q.ks:=fun h=>e0 (by unfold Pt.ks at h;injection h)
  simp only [c0,ck,if_false,Bool.false_eq_true]
  rfl
set_option tactic.hygienic true in
theorem k4_le {a b:VerOf} {p q:Pt} {j k:Nat} (hp:PtW p) (hq:PtW q) (ha:VP a p j) (hb:VP b q k):keyOp .LtE a.k4 b.k4=true↔ptLt p q=true∨p=q:=by
 have ke:=key_eq hp.w hq.w ha.ks hb.ks
 by_cases e:p=q
 ·refine ⟨fun _=>.inr e,fun _=>?_⟩
  refine byc fun b_=>?_
  subst e
  refine b_ ?_;clear b_
  rw [k4_op,ha.n0,ha.n1,ha.n2,hb.n0,hb.n1,hb.n2,if_pos (beq_self_eq_true _),if_pos (beq_self_eq_true _),if_pos (beq_self_eq_true _),if_pos (ke.mpr rfl)]
  rfl
 ·rw [or_iff_left e,← k4_lt hp hq ha hb]
  suffices z:keyOp .LtE a.k4 b.k4=keyOp .Lt a.k4 b.k4 by rw [z]
  rw [k4_op,k4_op,ha.n0,ha.n1,ha.n2,hb.n0,hb.n1,hb.n2]
  have iq:∀ {x y:Int},¬ ((x == y)=true)→intOp .LtE x y=intOp .Lt x y:=fun {x y} h=>by
   refine (?_:decide (x ≤ y)=decide (x < y))
   have:x ≠ y:=by simpa using h
   exact decide_eq_decide.mpr (by lia)
  split
  ·split
   ·split
    ·rename_i h0 h1 h2
     have et:¬ p.tl=q.tl:=fun et=>e (pt_ext (by unfold Pt.ks;rw [show p.n0=q.n0 by simpa using h0,show p.n1=q.n1 by simpa using h1,show p.n2=q.n2 by simpa using h2]) et)
     have h3:¬ eqL Idn.beq (keyIds a.ks) (keyIds b.ks)=true:=fun h=>et (ke.mp h)
     rw [if_neg h3,if_neg h3]
     exact ids_le (by simpa using h3)
    ·rename_i h;exact iq h
   ·rename_i h;exact iq h
  ·rename_i h;exact iq h
noncomputable def lexL {α:Type} (eqf lt:α→α→Bool):List α→List α→Bool
 | [],[]=>false
 | [],_::_=>true
 | _::_,[]=>false
 | a::as,b::bs=>if eqf a b=true then lexL eqf lt as bs else lt a b
theorem lexL_c {α:Type} (eqf lt:α→α→Bool) (a:α) (as:List α) (b:α) (bs:List α):lexL eqf lt (a::as) (b::bs)=if eqf a b=true then lexL eqf lt as bs else lt a b:=rfl
theorem lexB_lexL {α:Type} {eqf lt:α→α→Bool} {f:Bool} (as:List α):∀ (bs:List α),f=decide (as.length < bs.length)→lexB eqf lt f as bs=lexL eqf lt as bs:=by
 induction as with
 | nil=>intro bs hf;cases bs with
  | nil=>exact hf
  | cons=>exact hf.trans (decide_eq_true (Nat.succ_pos _))
 | cons a as ih=>intro bs hf;cases bs with
  | nil=>exact hf.trans (decide_eq_false (Nat.not_lt_zero _))
  | cons b bs=>rw [lexB_c,lexL_c,ih bs (hf.trans (decide_eq_decide.mpr Nat.succ_lt_succ_iff))]
theorem lexL_irr {α:Type} {eqf lt:α→α→Bool} (he:∀ a b,eqf a b=true↔a=b) (a:List α):lexL eqf lt a a=false:=by
 induction a with
 | nil=>rfl
 | cons a as ih=>exact (if_pos ((he a a).mpr rfl)).trans ih
theorem lexL_cons {α:Type} {eqf lt:α→α→Bool} (he:∀ a b,eqf a b=true↔a=b) {a b:α} {as bs:List α}:lexL eqf lt (a::as) (b::bs)=true↔(a=b∧lexL eqf lt as bs=true)∨(a ≠ b∧lt a b=true):=by
 rw [lexL_c]
 by_cases e:a=b
 ·rw [if_pos ((he a b).mpr e)];exact ⟨fun h=>.inl ⟨e,h⟩,fun h=>h.elim (·.2) fun h=>absurd e h.1⟩
 ·rw [if_neg fun h=>e ((he a b).mp h)];exact ⟨fun h=>.inr ⟨e,h⟩,fun h=>h.elim (fun h=>absurd h.1 e) (·.2)⟩
theorem lexL_tr {α:Type} {eqf lt:α→α→Bool} (T:Tot α lt) (he:∀ a b,eqf a b=true↔a=b) (a:List α):∀ b c:List α,lexL eqf lt a b=true→lexL eqf lt b c=true→lexL eqf lt a c=true:=by
 induction a with
 | nil=>intro b c h1 h2;cases b with
  | nil=>exact nomatch h1
  | cons=>cases c with
   | nil=>exact nomatch h2
   | cons=>rfl
 | cons a as ih=>intro b c h1 h2;cases b with
  | nil=>exact nomatch h1
  | cons b bs=>cases c with
   | nil=>exact nomatch h2
   | cons c cs =>
    refine (lexL_cons he).mpr ?_
    rcases (lexL_cons he).mp h1 with h1 | h1 <;> rcases (lexL_cons he).mp h2 with h2 | h2
    ·exact .inl ⟨h1.1.trans h2.1,ih _ _ h1.2 h2.2⟩
    ·rw [h1.1];exact .inr h2
    ·rw [← h2.1];exact .inr h1
    ·have h3:=T.tr _ _ _ h1.2 h2.2
     exact .inr ⟨(fun e=>by rw [e,T.irr] at h3;cases h3),h3⟩
theorem lexL_tri {α:Type} {eqf lt:α→α→Bool} (T:Tot α lt) (he:∀ a b,eqf a b=true↔a=b) (a:List α):∀ b:List α,lexL eqf lt a b=false→lexL eqf lt b a=false→a=b:=by
 induction a with
 | nil=>intro b h1 _;cases b with
  | nil=>rfl
  | cons=>exact nomatch h1
 | cons a as ih=>intro b h1 h2;cases b with
  | nil=>exact nomatch h2
  | cons b bs =>
   rw [lexL_c] at h1 h2
   by_cases e:a=b
   ·rw [if_pos ((he _ _).mpr e)] at h1
    rw [if_pos ((he _ _).mpr e.symm)] at h2
    rw [e,ih bs h1 h2]
   ·rw [if_neg fun h=>e ((he _ _).mp h)] at h1
    rw [if_neg fun h=>e ((he _ _).mp h).symm] at h2
    exact absurd (T.tri _ _ h1 h2) e
theorem lexTot {α:Type} {eqf lt:α→α→Bool} (T:Tot α lt) (he:∀ a b,eqf a b=true↔a=b):Tot (List α) (lexL eqf lt):=⟨lexL_irr he,lexL_tr T he,lexL_tri T he⟩
theorem eqL_iff {α:Type} {eqf:α→α→Bool} (he:∀ a b,eqf a b=true↔a=b) (a:List α):∀ b:List α,eqL eqf a b=true↔a=b:=by
 induction a with
 | nil=>intro b;cases b with
  | nil=>exact ⟨fun _=>rfl,fun _=>rfl⟩
  | cons=>exact ⟨(fun h=>nomatch h),fun h=>nomatch h⟩
 | cons a as ih=>intro b;cases b with
  | nil=>exact ⟨(fun h=>nomatch h),fun h=>nomatch h⟩
  | cons b bs=>rw [eqL_c,Bool.and_eq_true,he,ih bs,List.cons.injEq]
theorem order_lexL (a:List UInt8):∀ b:List UInt8,(Builtin.Bytes.order a b == .lt)=lexL (fun x y=>x == y) (fun x y=>decide (x < y)) a b:=by
 induction a with
 | nil=>intro b;cases b <;> rfl
 | cons a as ih=>intro b;cases b with
  | nil=>rfl
  | cons b bs =>
   rw [Builtin.Bytes.order,lexL_c]
   rcases Nat.lt_trichotomy a.toNat b.toNat with h | h | h
   ·have n:¬ (a == b)=true:=fun q=>Nat.ne_of_lt h (congrArg UInt8.toNat (beq_iff_eq.mp q))
    rw [if_pos (UInt8.lt_iff_toNat_lt.mpr h),if_neg n,decide_eq_true (UInt8.lt_iff_toNat_lt.mpr h)];rfl
   ·rw [if_neg (fun q=>Nat.ne_of_lt (UInt8.lt_iff_toNat_lt.mp q) h),if_neg (fun q:b < a=>Nat.ne_of_gt (UInt8.lt_iff_toNat_lt.mp q) h),if_pos (beq_iff_eq.mpr (UInt8.toNat_inj.mp h))]
    exact ih bs
   ·have n:¬ (a == b)=true:=fun q=>Nat.ne_of_gt h (congrArg UInt8.toNat (beq_iff_eq.mp q))
    have l:¬ a < b:=fun q=>Nat.lt_asymm h (UInt8.lt_iff_toNat_lt.mp q)
    rw [if_neg l,if_pos (show a > b from UInt8.lt_iff_toNat_lt.mpr h),if_neg n,decide_eq_false l];rfl
theorem byteTot:Tot UInt8 (fun x y=>decide (x < y)) where
 irr:=fun a=>decide_eq_false (UInt8.lt_irrefl a)
 tr:=fun a b c h1 h2=>decide_eq_true (UInt8.lt_trans (of_decide_eq_true h1) (of_decide_eq_true h2))
 tri:=fun a b h1 h2=>by
  have h1:=of_decide_eq_false h1
  have h2:=of_decide_eq_false h2
  rw [UInt8.lt_iff_toNat_lt] at h1 h2
  exact UInt8.toNat_inj.mp (by lia)
theorem bytesTot:Tot (List UInt8) (lexL (fun x y=>x == y) (fun x y=>decide (x < y))):=lexTot byteTot fun a b=>beq_iff_eq
theorem idn_eq (a b:Idn):Idn.beq a b=true↔a=b:=by
 cases a with
 | mx=>cases b with
  | mx=>exact ⟨(fun _=>rfl),(fun _=>rfl)⟩
  | num b=>exact ⟨(fun h=>nomatch h),(fun h=>nomatch h)⟩
  | al b=>exact ⟨(fun h=>nomatch h),(fun h=>nomatch h)⟩
 | num a=>cases b with
  | mx=>exact ⟨(fun h=>nomatch h),(fun h=>nomatch h)⟩
  | num b=>exact (beq_iff_eq (a:=a) (b:=b)).trans ⟨congrArg _,Idn.num.inj⟩
  | al b=>exact ⟨(fun h=>nomatch h),(fun h=>nomatch h)⟩
 | al a=>cases b with
  | mx=>exact ⟨(fun h=>nomatch h),(fun h=>nomatch h)⟩
  | num b=>exact ⟨(fun h=>nomatch h),(fun h=>nomatch h)⟩
  | al b=>exact ((beq_iff_eq (a:=a.toList) (b:=b.toList)).trans Array.toList_inj).trans ⟨congrArg _,Idn.al.inj⟩
theorem idnTot:Tot Idn Idn.blt where
 irr:=fun a=>by
  cases a with
  | mx=>rfl
  | num n=>exact decide_eq_false (Int.lt_irrefl n)
  | al b=>show (Builtin.Bytes.order b.toList b.toList == .lt)=false;rw [order_lexL];exact bytesTot.irr _
 tr:=fun a b c h1 h2=>by
  cases a <;> cases b <;> cases c <;> first | rfl | (exact absurd (show false=true from h1) (by decide)) | (exact absurd (show false=true from h2) (by decide)) | skip
  ·have h1:=of_decide_eq_true (show decide _=true from h1)
   have h2:=of_decide_eq_true (show decide _=true from h2)
   exact decide_eq_true (Int.lt_trans h1 h2)
  ·have h1:(Builtin.Bytes.order _ _ == .lt)=true:=h1
   have h2:(Builtin.Bytes.order _ _ == .lt)=true:=h2
   refine (?_:(Builtin.Bytes.order _ _ == .lt)=true)
   rw [order_lexL] at h1 h2 ⊢
   exact bytesTot.tr _ _ _ h1 h2
 tri:=fun a b h1 h2=>by
  cases a <;> cases b <;> first | rfl | (exact absurd (show true=false from h1) (by decide)) | (exact absurd (show true=false from h2) (by decide)) | skip
  ·have h1:=of_decide_eq_false (show decide _=false from h1)
   have h2:=of_decide_eq_false (show decide _=false from h2)
   rw [show (_:Int)=_ from Int.le_antisymm (Int.not_lt.mp h2) (Int.not_lt.mp h1)]
  ·have h1:(Builtin.Bytes.order _ _ == .lt)=false:=h1
   have h2:(Builtin.Bytes.order _ _ == .lt)=false:=h2
   rw [order_lexL] at h1 h2
   rw [Array.toList_inj.mp (bytesTot.tri _ _ h1 h2)]
theorem idsTot:Tot (List Idn) (lexL Idn.beq Idn.blt):=lexTot idnTot idn_eq
theorem idsOp_lt (a b:List Idn):idsOp .Lt a b=lexL Idn.beq Idn.blt a b:=lexB_lexL a b rfl
noncomputable def nLt:Ne (List Idn)→Ne (List Idn)→Bool
 | .n a,.n b=>decide (a < b)
 | .n _,.o _=>true
 | .o _,.n _=>false
 | .o a,.o b=>lexL Idn.beq Idn.blt a b
theorem n_eq (a b:Ne (List Idn)):Ne.eqf (eqL Idn.beq) a b=true↔a=b:=by
 cases a with
 | n a=>cases b with
  | n b=>exact (beq_iff_eq (a:=a) (b:=b)).trans ⟨congrArg _,Ne.n.inj⟩
  | o b=>exact ⟨(fun h=>nomatch h),(fun h=>nomatch h)⟩
 | o a=>cases b with
  | n b=>exact ⟨(fun h=>nomatch h),(fun h=>nomatch h)⟩
  | o b=>exact (eqL_iff idn_eq a b).trans ⟨congrArg _,Ne.o.inj⟩
theorem nTot:Tot (Ne (List Idn)) nLt where
 irr:=fun a=>by
  cases a with
  | n i=>exact decide_eq_false (Int.lt_irrefl i)
  | o l=>exact idsTot.irr l
 tr:=fun a b c h1 h2=>by
  cases a <;> cases b <;> cases c <;> first | rfl | (exact absurd (show false=true from h1) (by decide)) | (exact absurd (show false=true from h2) (by decide)) | skip
  ·have h1:=of_decide_eq_true (show decide _=true from h1)
   have h2:=of_decide_eq_true (show decide _=true from h2)
   exact decide_eq_true (Int.lt_trans h1 h2)
  ·exact idsTot.tr _ _ _ h1 h2
 tri:=fun a b h1 h2=>by
  cases a <;> cases b <;> first | (exact absurd (show true=false from h1) (by decide)) | (exact absurd (show true=false from h2) (by decide)) | skip
  ·have h1:=of_decide_eq_false (show decide _=false from h1)
   have h2:=of_decide_eq_false (show decide _=false from h2)
   rw [show (_:Int)=_ from Int.le_antisymm (Int.not_lt.mp h2) (Int.not_lt.mp h1)]
  ·rw [idsTot.tri _ _ h1 h2]
noncomputable def verLt (a b:VerOf):Bool:=lexL (Ne.eqf (eqL Idn.beq)) nLt a.k5 b.k5
theorem keyTot:Tot (List (Ne (List Idn))) (lexL (Ne.eqf (eqL Idn.beq)) nLt):=lexTot nTot n_eq
theorem verOrd:Ord VerOf verLt:=⟨fun a b=>keyTot.ord.asymm a.k5 b.k5,fun a b c=>keyTot.ord.trans a.k5 b.k5 c.k5⟩
theorem verLt_if (a b:VerOf):verLt a b=if (a.n0 == b.n0)=true then (if (a.n1 == b.n1)=true then (if (a.n2 == b.n2)=true then (if eqL Idn.beq (keyIds a.ks) (keyIds b.ks)=true then (if eqL Idn.beq a.bs b.bs=true then false else lexL Idn.beq Idn.blt a.bs b.bs) else lexL Idn.beq Idn.blt (keyIds a.ks) (keyIds b.ks)) else decide (a.n2 < b.n2)) else decide (a.n1 < b.n1)) else decide (a.n0 < b.n0):=rfl
theorem k5_if (a b:VerOf):neLt (eqL Idn.beq) (idsOp .Lt) a.k5 b.k5=if (a.n0 == b.n0)=true then (if (a.n1 == b.n1)=true then (if (a.n2 == b.n2)=true then (if eqL Idn.beq (keyIds a.ks) (keyIds b.ks)=true then (if eqL Idn.beq a.bs b.bs=true then false else idsOp .Lt a.bs b.bs) else idsOp .Lt (keyIds a.ks) (keyIds b.ks)) else decide (a.n2 < b.n2)) else decide (a.n1 < b.n1)) else decide (a.n0 < b.n0):=rfl
theorem k5_lt (a b:VerOf):neLt (eqL Idn.beq) (idsOp .Lt) a.k5 b.k5=verLt a b:=by rw [k5_if,verLt_if,idsOp_lt,idsOp_lt]
set_option tactic.hygienic true in
theorem k4_k5 {a b:VerOf} (h:keyOp .Lt a.k4 b.k4=true):verLt a b=true:=by
 rw [k4_op,idsOp_lt] at h
 rw [verLt_if]
 split at h
 ·rename_i e0
  rw [if_pos e0]
  split at h
  ·rename_i e1
   rw [if_pos e1]
   split at h
   ·rename_i e2
    rw [if_pos e2]
    split at h
    ·cases h
    ·rename_i e3
     rw [if_neg e3];exact h
   ·rename_i e2
    rw [if_neg e2];exact h
  ·rename_i e1
   rw [if_neg e1];exact h
 ·rename_i e0
  rw [if_neg e0];exact h
theorem build_inj {j k:Nat} (hj:j < 4) (hk:k < 4):(lawBs j=lawBs k→j=k)∧(lawBld j=lawBld k→j=k):=by
 have key:∀ j k:Fin 4,(lawBs j.val=lawBs k.val→j=k)∧(lawBld j.val=lawBld k.val→j=k):=by decide +kernel
 have:=key ⟨j,hj⟩ ⟨k,hk⟩
 exact ⟨fun h=>Fin.mk.inj (this.1 h),fun h=>Fin.mk.inj (this.2 h)⟩
theorem k5_inj {a b:VerOf} {p q:Pt} {j k:Nat} (hp:PtW p) (hq:PtW q) (ha:VP a p j) (hb:VP b q k) (h:a.k5=b.k5):p=q∧j=k:=by
 unfold VerOf.k5 at h
 injection h with h0 h
 injection h with h1 h
 injection h with h2 h
 injection h with h3 h
 injection h with h4 _
 injection h0 with h0
 injection h1 with h1
 injection h2 with h2
 injection h3 with h3
 injection h4 with h4
 rw [ha.n0,hb.n0] at h0
 rw [ha.n1,hb.n1] at h1
 rw [ha.n2,hb.n2] at h2
 rw [ha.bs,hb.bs] at h4
 have e:=(key_eq hp.w hq.w ha.ks hb.ks).mp (by rw [h3];exact (eqL_iff idn_eq _ _).mpr rfl)
 exact ⟨pt_ext (by unfold Pt.ks;rw [h0,h1,h2]) e,(build_inj ha.lt hb.lt).1 h4⟩
theorem text_of {v:VerOf} {p:Pt} {j:Nat} (h:VP v p j):v.text=p.text++lawBuild j:=by
 have key:∀ j:Fin 4,behindSign "+" (lawBld j.val)=lawBuild j.val:=by decide +kernel
 unfold VerOf.text Pt.text
 rw [h.n0,h.n1,h.n2,h.pre,h.bld,key ⟨j,h.lt⟩]
theorem pt_plus {p:Pt} (h:PtW p):43 ∉ p.text.cps.toList:=by
 refine byc fun b_=>?_
 obtain ⟨n0,n1,n2,tl⟩:=p
 obtain ⟨⟨b0,_⟩,⟨b1,_⟩,⟨b2,_⟩,_,hw⟩:=h
 dsimp only at b0 b1 b2 hw
 obtain ⟨k0,rfl⟩:=Int.eq_ofNat_of_zero_le b0
 obtain ⟨k1,rfl⟩:=Int.eq_ofNat_of_zero_le b1
 obtain ⟨k2,rfl⟩:=Int.eq_ofNat_of_zero_le b2
 refine b_ ?_;clear b_
 have nd:∀ k,43 ∉ dec k:=fun k hm=>by have:=(dec_facts k).1 43 hm;lia
 unfold Pt.text
 (try dsimp only)
 rw [cps_toList_append,nums_cps]
 intro hm
 simp only [List.mem_append,List.mem_cons] at hm
 rcases hm with (h | h | h | h | h) | h
 ·exact nd _ h
 ·cases h
 ·exact nd _ h
 ·cases h
 ·exact nd _ h
 ·rcases bs_cps hw with ⟨e,_⟩ | ⟨e,hn⟩
  ·rw [e] at h;cases h
  ·rw [e] at h
   rcases List.mem_cons.mp h with h | h
   ·cases h
   ·have:=jn_sg hw 43 (by rw [txt_join,join_cps];exact h)
    unfold WSign at this;lia
theorem build_cps {j:Nat} (h:j < 4):(j=0∧(lawBuild j).cps.toList=[])∨∃ r,(lawBuild j).cps.toList=43::r∧43 ∉ r:=by
 have key:∀ j:Fin 4,(j.val=0∧(lawBuild j.val).cps.toList=[])∨((lawBuild j.val).cps.toList=43::(lawBuild j.val).cps.toList.tail∧43 ∉ (lawBuild j.val).cps.toList.tail):=by decide +kernel
 rcases key ⟨j,h⟩ with h | h
 ·exact .inl h
 ·exact .inr ⟨_,h⟩
theorem cut_endc {c:Nat} {a b P Q:List Nat} (ha:c ∉ a) (hb:c ∉ b) (hP:P=[]∨∃ r,P=c::r) (hQ:Q=[]∨∃ r,Q=c::r) (h:a++P=b++Q):a=b∧P=Q:=by
 rcases hP with rfl | ⟨r,rfl⟩
 ·rcases hQ with rfl | ⟨t,rfl⟩
  ·simp at h;exact ⟨h,rfl⟩
  ·rw [List.append_nil] at h
   exact absurd (by rw [h];simp) ha
 ·rcases hQ with rfl | ⟨t,rfl⟩
  ·rw [List.append_nil] at h
   exact absurd (by rw [← h];simp) hb
  ·refine byc fun b_=>?_
   obtain ⟨e1,e2⟩:=cut_at ha hb h
   refine b_ ?_;clear b_
   exact ⟨e1,by rw [e2]⟩
theorem texts_eq {p q:Pt} {j k:Nat} (hp:PtW p) (hq:PtW q) (hj:j < 4) (hk:k < 4):p.text++lawBuild j=q.text++lawBuild k↔p=q∧j=k:=by
 constructor
 ·intro h
  have e:=congrArg (fun s:Str=>s.cps.toList) h
  (try dsimp only at e)
  rw [cps_toList_append,cps_toList_append] at e
  refine byc fun b_=>?_
  obtain ⟨e1,e2⟩:=cut_endc (pt_plus hp) (pt_plus hq) ((build_cps hj).imp (·.2) fun pk0=>by obtain ⟨r,e,_⟩:=pk0;exact ⟨r,e⟩) ((build_cps hk).imp (·.2) fun pk1=>by obtain ⟨r,e,_⟩:=pk1;exact ⟨r,e⟩) e
  refine b_ ?_;clear b_
  refine ⟨text_inj hp hq (str_ext e1),?_⟩
  have key:∀ j k:Fin 4,lawBuild j.val=lawBuild k.val→j=k:=by decide +kernel
  exact Fin.mk.inj (key ⟨j,hj⟩ ⟨k,hk⟩ (str_ext e2))
 ·rintro ⟨rfl,rfl⟩;rfl
theorem same_vp {a b:VerOf} {p q:Pt} {j k:Nat} (hp:PtW p) (hq:PtW q) (ha:VP a p j) (hb:VP b q k):a.same b=(p.text++lawBuild j == q.text++lawBuild k):=by
 rw [Bool.eq_iff_iff,beq_iff_eq,texts_eq hp hq ha.lt hb.lt]
 unfold VerOf.same
 rw [ha.n0,ha.n1,ha.n2,ha.pre,ha.bld,hb.n0,hb.n1,hb.n2,hb.pre,hb.bld]
 simp only [Bool.and_eq_true,beq_iff_eq]
 constructor
 ·rintro pk0
  refine byc fun b_=>?_
  obtain ⟨h0,h1,h2,h3,h4⟩:=pk0
  refine b_ ?_;clear b_
  exact ⟨pt_ext (by unfold Pt.ks;rw [h0,h1,h2]) h3,(build_inj ha.lt hb.lt).2 h4⟩
 ·rintro ⟨rfl,rfl⟩;exact ⟨rfl,rfl,rfl,rfl,rfl⟩
theorem split_plus {p:Pt} {j:Nat} (hp:PtW p) (hj:j < 4):∃ r,Txt.split (p.text++lawBuild j) "+"=p.text::r:=by
 have e:(Str.ofString "+")=⟨#[43]⟩:=by decide
 rw [e]
 rcases build_cps hj with ⟨_,h⟩ | ⟨r,h,hr⟩
 ·have e2:p.text++lawBuild j=Str.join ⟨#[43]⟩ [p.text]:=str_ext (by rw [cps_toList_append,h,List.append_nil];rfl)
  rw [e2]
  exact ⟨[],split_join (by simp) fun x hx=>by rw [List.mem_singleton.mp hx];exact pt_plus hp⟩
 ·have e2:p.text++lawBuild j=Str.join ⟨#[43]⟩ [p.text,⟨r.toArray⟩]:=str_ext (by rw [cps_toList_append,h,join_cps];rfl)
  rw [e2]
  exact ⟨[⟨r.toArray⟩],split_join (by simp) fun x hx=>by
   rcases List.mem_cons.mp hx with rfl | hx
   ·exact pt_plus hp
   ·rw [List.mem_singleton.mp hx];exact hr⟩
structure Spot (L:List Pt) (v:VerOf) (i:Nat) (t:Str):Prop where
 ex:∃ p j,PtW p∧VP v p j∧L[i]?=some p∧t=p.text++lawBuild j
section
variable {L:List Pt} {a b:VerOf} {i m:Nat} {t u:Str}
theorem spot_facts (s:L.Pairwise fun a b=>ptLt a b=true) (ha:Spot L a i t) (hb:Spot L b m u) :
  keyOp .Lt a.k4 b.k4=decide ((i:Int) < m)∧keyOp .LtE a.k4 b.k4=decide ((i:Int) ≤ m)∧keyOp .Gt a.k4 b.k4=decide ((i:Int) > m)∧keyOp .GtE a.k4 b.k4=decide ((i:Int) ≥ m)∧a.same b=(t == u)∧(t=u→i=m):=by
 refine byc fun b_=>?_
 obtain ⟨p,j,hp,va,hi,rfl⟩:=ha
 obtain ⟨q,k,hq,vb,hm,rfl⟩:=hb
 obtain ⟨e1,e2⟩:=place_lt s hi hm
 refine b_ ?_;clear b_
 have l1:keyOp .Lt a.k4 b.k4=decide ((i:Int) < m):=by
  rw [k4_lt hp hq va vb,Bool.eq_iff_iff,decide_eq_true_eq,← e1];lia
 have l2:keyOp .LtE a.k4 b.k4=decide ((i:Int) ≤ m):=by
  rw [Bool.eq_iff_iff,k4_le hp hq va vb,decide_eq_true_eq,← e1,← e2];lia
 refine ⟨l1,l2,?_,?_,same_vp hp hq va vb,fun e=>e2.mpr ((texts_eq hp hq va.lt vb.lt).mp e).1⟩
 ·rw [k4_gt,l2,← decide_not];exact decide_eq_decide.mpr (by lia)
 ·rw [k4_ge,l1,← decide_not];exact decide_eq_decide.mpr (by lia)
theorem spot_cmp (s:L.Pairwise fun a b=>ptLt a b=true) (ha:Spot L a i t) (hb:Spot L b m u) (h:i ≠ m∨t=u) {v:Value} (hc:a.cmp b v):∃ k,v=.int (if i=m then 0 else if i > m then 1 else -1) k:=by
 refine byc fun b_=>?_
 obtain ⟨f1,f2,f3,f4,f5,f6⟩:=spot_facts s ha hb
 refine b_ ?_;clear b_
 unfold VerOf.cmp at hc
 rw [f1,f3,f5] at hc
 by_cases e:i=m
 ·have et:t=u:=h.resolve_left fun h=>h e
  rw [if_neg (by simp;lia),if_neg (by simp;lia),if_pos (by simpa using et)] at hc
  rw [if_pos e];exact hc
 ·rw [if_neg e]
  by_cases g:i < m
  ·rw [if_pos (by simp;lia)] at hc
   rw [if_neg (by lia)];exact hc
  ·rw [if_neg (by simp;lia),if_pos (by simp;lia)] at hc
   rw [if_pos (by lia)];exact hc
end
theorem perm_sorted_eq {α:Type} {r:α→α→Prop} (anti:∀ a b,r a b→r b a→a=b) {l:List α}:∀ {m:List α},l.Perm m→l.Pairwise r→m.Pairwise r→l=m:=by
 induction l with
 | nil=>exact fun h _ _=>List.Perm.nil_eq h
 | cons a l ih=>intro m h hl hm;cases m with
  | nil=>exact absurd h.symm.nil_eq (by simp)
  | cons b m =>
   have hl:=List.pairwise_cons.mp hl
   have hm:=List.pairwise_cons.mp hm
   have e:a=b:=by
    rcases List.mem_cons.mp (h.mem_iff.mp (List.mem_cons_self ..)) with e | ha
    ·exact e
    ·rcases List.mem_cons.mp (h.mem_iff.mpr (List.mem_cons_self ..)) with e | hb
     ·exact e.symm
     ·exact anti _ _ (hl.1 _ hb) (hm.1 _ ha)
   rw [e] at h ⊢
   rw [ih ((List.perm_cons b).mp h) hl.2 hm.2]
theorem map_map_eq {α β γ:Type} {f:α→β} {g:α→γ} {l:List α}:∀ {m:List α},l.map f=m.map f→(∀ a ∈ l,∀ b ∈ m,f a=f b→g a=g b)→l.map g=m.map g:=by
 induction l with
 | nil=>intro m h _;cases m with
  | nil=>rfl
  | cons=>exact nomatch h
 | cons a l ih=>intro m h hg;cases m with
  | nil=>exact nomatch h
  | cons b m =>
   have h:=List.cons.inj h
   rw [List.map_cons,List.map_cons,hg a (List.mem_cons_self ..) b (List.mem_cons_self ..) h.1,ih h.2 fun x hx y hy=>hg x (List.mem_cons_of_mem _ hx) y (List.mem_cons_of_mem _ hy)]
theorem rows_eq {L:List Pt} {vers R1 R2:List VerOf} (hs:∀ v ∈ vers,∃ i t,Spot L v i t) (h1:R1.Perm vers) (h2:R2.Perm vers) (s1:R1.Pairwise fun a b=>verLt b a=false) (s2:R2.Pairwise fun a b=>verLt b a=false):R1.map VerOf.text=R2.map VerOf.text:=by
 have e:R1.map VerOf.k5=R2.map VerOf.k5:=by
  refine perm_sorted_eq (r:=fun a b=>lexL (Ne.eqf (eqL Idn.beq)) nLt b a=false) (fun a b q1 q2=>keyTot.tri a b q2 q1) ((h1.trans h2.symm).map _) ?_ ?_
  ·exact List.pairwise_map.mpr s1
  ·exact List.pairwise_map.mpr s2
 refine map_map_eq e fun a ha b hb q=>?_
 refine byc fun b_=>?_
 obtain ⟨i,t,p,j,hp,va,_,_⟩:=hs a (h1.mem_iff.mp ha)
 obtain ⟨m,u,p',k,hq,vb,_,_⟩:=hs b (h2.mem_iff.mp hb)
 obtain ⟨e1,e2⟩:=k5_inj hp hq va vb q
 refine b_ ?_;clear b_
 rw [text_of va,text_of vb,e1,e2]
theorem Each.ofR {α β:Type} {P:α→β→Prop} {as:List α} {bs:List β} (x:Each P as bs):∀ {b:β},b ∈ bs→∃ a,a ∈ as∧P a b:=by
 induction x with
 | nil=>exact fun h=>nomatch h
 | cons p _ ih=>exact fun h=>(List.mem_cons.mp h).elim (fun e=>⟨_,List.mem_cons_self ..,e ▸ p⟩) fun h=>(ih h).imp fun _ q=>⟨List.mem_cons_of_mem _ q.1,q.2⟩
theorem rise_le {L:List Pt} (s:L.Pairwise fun a b=>ptLt a b=true) {R:List VerOf} {is:List Nat} (h:R.Pairwise (fun a b=>verLt b a=false)) (x:Each (fun v i=>∃ t,Spot L v i t) R is):is.Pairwise (· ≤ ·):=by
 induction x with
 | nil=>exact .nil
 | @cons a i R is ha hE ih =>
  have h:=List.pairwise_cons.mp h
  refine List.pairwise_cons.mpr ⟨fun m hm=>Nat.le_of_not_lt fun g=>?_,ih h.2⟩
  obtain ⟨b,hb,u,hu⟩:=hE.ofR hm
  obtain ⟨t,ht⟩:=ha
  have f:=(spot_facts s hu ht).1
  rw [decide_eq_true (Int.ofNat_lt.mpr g)] at f
  exact Bool.noConfusion ((h.1 b hb).symm.trans (k4_k5 f))
noncomputable abbrev rngO (a b:Int) (t u v:Tok):Obj:={ cls:=.type "range",data:=.fields #[.int a t,.int b u,.int 1 v] }
theorem iters_range {ax:Addr} {a b:Int} {n:Nat} {t u v:Tok} (hh:A.handled=none) (ha:0 ≤ a∧a ≤ 1000) (hb:b=a + n) (hn:n ≤ 1000):Iters prog w A ax (rngO a b t u v) n (fun i x=>∃ t,x=.int (a + (i:Int) * 1) t):=by
 intro s E Q ho h
 have hlt:ax < s.heap.objs.size:=Heap.lt_size ho
 have hs:Builtin.Range.rangeSize a b 1=(n:Int):=by rw [rangeSize_one];split <;> lia
 refine wpAny_pyIter_range ho (small_one (by lia) (by lia) (by lia) (by lia)) ?_
 rw [hs]
 refine h (fun i h=>IsRangeIter h s.heap.objs.size (a + (i:Nat) * 1) ((n:Int) - (i:Nat)) 1) _ s.toks ((Walks.range hh s.heap.objs.size a 1 n).mono_fp ?_) (fun i h' st=>⟨_,st⟩) ?_ (Heap.size_push ..) (fun b o e=>Heap.get?_push_of_some _ e)
 ·intro b hb;rw [List.mem_singleton.mp hb];exact List.mem_cons_self ..
 ·refine (?_:Heap.get? _ _=_)
  rw [Heap.get?_push_size _ rfl]
  simp
theorem rng_z {i:Nat} {z:Int} (e:z=0 + (i:Int) * 1):z=i:=e.trans ((Int.zero_add _).trans (Int.mul_one _))
theorem rng_i {i:Nat} {z:Int} (e:z=0 + (i:Int) * 1):0 ≤ z∧z.toNat=i:=by rw [rng_z e];exact ⟨Int.natCast_nonneg i,rfl⟩
theorem rng_lt {i:Nat} {z:Int} (e:z=0 + (i:Int) * 1) (h:i < 5):z < 5:=by rw [rng_z e];exact Int.ofNat_lt.mpr h
theorem lt3 {x:Int} (h:0 ≤ x∧x < 3):x=0∨x=1∨x=2:=(Int.eq_ofNat_of_zero_le h.1).elim fun n e=>by
 rw [e] at h ⊢
 exact (by decide:∀ n:Fin 3,(n.val:Int)=0∨(n.val:Int)=1∨(n.val:Int)=2) ⟨n,Int.ofNat_lt.mp h.2⟩
section
variable {E:Value→Shared→Prop} {h₀:Heap} {L:Addr} {m:Str→Option Value} {news rest:List (Addr × Obj)} {Q:Value→Shared→Prop} {ps:Array Value}
theorem usePart {f:Value} {args:List Value} {Post:Value→Heap→Prop} (F:Fr h₀ L s.heap m) (N:News h₀ L s.heap news) (C:codeAny (model prog w) A (.call f ⟨args,[]⟩) (Ret s fun v h'=>Post v (part s.heap h')) s)
  (h:∀ v h' tk,Fr h₀ L h' m→News h₀ L h' (ents (part s.heap h')++news)→Post v (part s.heap h')→(∀ p ∈ ents (part s.heap h'),s.heap.get? p.1=none)→Q v { s with heap:=h',toks:=tk }):wpAny (model prog w) A (call f args) Q E s:=by
 refine use C fun v h' tk k hp=>h v h' tk (fr_on F k) (fun p hp=>?_) hp fun p hp=>(part_of (mem_ents.mp hp)).2
 exact news_ents F (news_on N k) (fun b o e=>by rw [F.keep b o e];simp) p (List.mem_append.mpr ((List.mem_append.mp hp).symm))
theorem useT2 {f:Value} {args:List Value} {kw:List (Str × Value)} {Post:Value→Heap→Prop} (F:Fr h₀ L s.heap m) (N:News h₀ L s.heap ((323,tabObj ps)::rest)) (X:(hd.heap_1 w.params).In h₀) (T:Top p loose mean mg mb h₀) (tr:TriplesOk ps.toList) (ab:AllBare s.gens) (nt:NotT rest)
  (C:TT w p loose mean mg mb s ps→codeAny (model prog w) A (.call f ⟨args,kw⟩) (RetT s Post) s)
  (h:∀ v h' tk g' ps',Fr h₀ L h' m→News h₀ L h' ((323,tabObj ps')::(ents (part s.heap h')++rest))→TriplesOk ps'.toList→AllBare g'→Post v (part s.heap h')→(∀ p ∈ ents (part s.heap h'),s.heap.get? p.1=none)→Q v { s with heap:=h',toks:=tk,gens:=g' }):wpAny (model prog w) A (call f args kw) Q E s:=by
 have ht:(323,tabObj ps) ∈ (323,tabObj ps)::rest:=List.mem_cons_self ..
 refine wpAny_call (codeAny_mono (C (tt_of F N X T ht tr ab)) fun r s' hr=>?_)
 refine byc fun b_=>?_
 obtain ⟨v,h',tk,g',ps',rfl,rfl,hk,e,tr',ab',hp⟩:=hr
 refine b_ ?_;clear b_
 have n0:News h₀ L h' rest:=fun p hp=>⟨hk _ _ (nt p hp) (N p (List.mem_cons_of_mem _ hp)).1,(N p (List.mem_cons_of_mem _ hp)).2⟩
 have n1:News h₀ L h' (rest++ents (part s.heap h')):=news_ents F n0 fun b o e=>by rw [F.keep b o e];simp
 refine h v h' tk g' ps' (fr_tab F N ht hk) (fun p hp=>?_) tr' ab' hp fun p hp=>(part_of (mem_ents.mp hp)).2
 rcases List.mem_cons.mp hp with rfl | hp
 ·exact ⟨e,(N _ ht).2⟩
 ·exact n1 p (List.mem_append.mpr ((List.mem_append.mp hp).symm))
theorem index_strs {l:Addr} {ls:List (Str × Tok)} {k:Str} {t:Tok} {j:Nat} (hl:s.heap.IsList l (strValues ls).toArray) (hz:ls.length ≤ 10000) (hj:(ls.map (·.1))[j]?=some k) (hno:∀ m,m < j→(ls.map (·.1))[m]? ≠ some k) (h:∀ u tk,Q (.int (j:Nat) u) { s with toks:=tk }) :
  wpAny (model prog w) A (call (.builtin "list.index") [.ref l,.str k t]) Q E s:=by
 refine byc fun b_=>?_
 obtain ⟨⟨cls,dd,data,sl⟩,ho,hc,n,hd⟩:=id hl
 refine b_ ?_;clear b_
 simp only at hc hd
 refine byc fun b_=>?_
 subst hc hd
 refine b_ ?_;clear b_
 have hjl:j < ls.length:=by
  have:=(List.getElem?_eq_some_iff.mp hj).1
  rwa [List.length_map] at this
 have at_:∀ (i:Nat) (hi:i < (strValues ls).toArray.size),isStrOf k ((strValues ls).toArray[i])=(((ls.map (·.1))[i]?) == some k):=fun i hi=>by
  have hi':i < ls.length:=by rw [List.size_toArray,strValues,List.length_map] at hi;exact hi
  have e1:(strValues ls).toArray[i]=.str (ls[i]).1 (ls[i]).2:=by simp [strValues]
  have e2:(ls.map (·.1))[i]?=some (ls[i]).1:=by simp [hi']
  rw [e1,e2]
  show ((ls[i]).1 == k)=(some (ls[i]).1 == some k)
  rfl
 refine call_meets PySem.F.slot_list_index ⟨_,ho,rfl⟩ PySem.F.entry_list_index (PySem.F.args_list_index_2 _ _)
  (SeqAt.list_indexAt l (strValues ls).toArray n dd sl (.str k t) (isStrOf k) j (by rw [List.size_toArray,strValues,List.length_map];exact hjl) (by lia) ?_ ?_) ⟨ho,fun y hy=>?_,h _ _⟩
 ·rw [at_,hj];simp
 ·intro i hi hlt
  rw [at_]
  exact beq_eq_false_iff_ne.mpr (hno i hlt)
 ·have hy':y ∈ strValues ls:=by simpa using hy
  unfold strValues at hy'
  refine byc fun b_=>?_
  obtain ⟨x,hx,rfl⟩:=List.mem_map.mp hy'
  refine b_ ?_;clear b_
  exact (eqGives_str _ _ _ _).at _ _
end
noncomputable def somePar:Params:={ strHash:=fun _=>0,shareClass:=fun a=>a,mergeTok:=id,idOf:=fun a=>a,idOfShared:=fun _ _=>0,followText:=fun _=>false,idOfImm:=fun _=>0 }
noncomputable def lawBody:List Stmt:=match (hd.heap_1 somePar).lookup 460 with
 | some ⟨_,_,.func fd,_⟩=>(match fd.body with | .stmts b=>b | _=>[])
 | _=>[]
noncomputable def lawScope:Scope:=match (hd.heap_1 somePar).lookup 460 with
 | some ⟨_,_,.func fd,_⟩=>fd.scope
 | _=>{ kind:=.function,names:=[],isGenerator:=false,isCoroutine:=false }
noncomputable def lawStmt (k:Nat):Stmt:=match lawBody.drop k with
 | st::_=>st
 | []=>.Pass ⟨0,0,0,0⟩
noncomputable abbrev lawEnv (L cn cp cb cw cv:Addr):Env:=envX "law" lawScope L 460 (.ref 459) [("versions",cv),("walk",cw),("builds",cb),("pool",cp),("numbers",cn)]
theorem lawBody_len:lawBody.length=13:=by kernel_rfl!
theorem lawScope_kind:lawScope.kind=.function:=by kernel_rfl!
theorem ll_places:Loc lawScope "places" 57:=⟨nx_places,by kernel_rfl!⟩
theorem ll_texts:Loc lawScope "texts" 58:=⟨nx_texts,by kernel_rfl!⟩
theorem ll_a:Loc lawScope "a" 60:=⟨nx_a,by kernel_rfl!⟩
theorem ll_b:Loc lawScope "b" 61:=⟨nx_b,by kernel_rfl!⟩
theorem ll_one:Loc lawScope "one" 62:=⟨nx_one,by kernel_rfl!⟩
theorem ll_two:Loc lawScope "two" 63:=⟨nx_two,by kernel_rfl!⟩
theorem ll_told:Loc lawScope "told" 64:=⟨nx_told,by kernel_rfl!⟩
theorem ll_here:Loc lawScope "here" 65:=⟨nx_here,by kernel_rfl!⟩
theorem ll_there:Loc lawScope "there" 66:=⟨nx_there,by kernel_rfl!⟩
theorem ll_due:Loc lawScope "due" 67:=⟨nx_due,by kernel_rfl!⟩
theorem ll_row:Loc lawScope "row" 68:=⟨nx_row,by kernel_rfl!⟩
theorem ll_back:Loc lawScope "back" 69:=⟨nx_back,by kernel_rfl!⟩
theorem ll_rise:Loc lawScope "rise" 70:=⟨nx_rise,by kernel_rfl!⟩
theorem lg_order (w:World):Glo w lawScope "_law_order" (.ref 455):=⟨(gk_law_order w).1,by kernel_rfl!,(gk_law_order w).2⟩
theorem lg_compare (w:World):Glo w lawScope "compare" (.ref 399):=⟨(gk_compare w).1,by kernel_rfl!,(gk_compare w).2⟩
theorem lb_range (w:World):Blt w lawScope "range" (.type "range"):=⟨(bk_range w).1,(bk_range w).2.1,(bk_range w).2.2.1,by kernel_rfl!,(bk_range w).2.2.2⟩
theorem lb_sorted (w:World):Blt w lawScope "sorted" (.builtin "sorted"):=⟨(bk_sorted w).1,(bk_sorted w).2.1,(bk_sorted w).2.2.1,by kernel_rfl!,(bk_sorted w).2.2.2⟩
theorem lc_numbers {L cn cp cb cw cv:Addr}:Cel lawScope [("versions",cv),("walk",cw),("builds",cb),("pool",cp),("numbers",cn)] "numbers" cn:=⟨by kernel_rfl!,rfl,by decide⟩
theorem lc_pool {cn cp cb cw cv:Addr}:Cel lawScope [("versions",cv),("walk",cw),("builds",cb),("pool",cp),("numbers",cn)] "pool" cp:=⟨by kernel_rfl!,rfl,by decide⟩
theorem lc_builds {cn cp cb cw cv:Addr}:Cel lawScope [("versions",cv),("walk",cw),("builds",cb),("pool",cp),("numbers",cn)] "builds" cb:=⟨by kernel_rfl!,rfl,by decide⟩
theorem lc_walk {cn cp cb cw cv:Addr}:Cel lawScope [("versions",cv),("walk",cw),("builds",cb),("pool",cp),("numbers",cn)] "walk" cw:=⟨by kernel_rfl!,rfl,by decide⟩
theorem lc_versions {cn cp cb cw cv:Addr}:Cel lawScope [("versions",cv),("walk",cw),("builds",cb),("pool",cp),("numbers",cn)] "versions" cv:=⟨by kernel_rfl!,rfl,by decide⟩
theorem rs77m0:True:=by
 k_with "@my namex"=>first | ((try dsimp only);apply ldLX;kpc_g;kpc_g;k_extra "@my look";rotate_left;exact lawScope_kind ..) | ((try dsimp only);apply ldCX;kpc_g;kpc_g;k_extra "@my cellmem";kpc_g;rotate_left;exact lawScope_kind ..) | ((try dsimp only);apply ldBX;kpc_g;kpc_g;kpc_g;kpc_g;rotate_left;exact lawScope_kind ..) | ((try dsimp only);apply ldGX;kpc_g;kpc_g;kpc_g;kpc_g;rotate_left;exact lawScope_kind ..)
 k_with "@eval Name"=>k_dflt (first | k_extra "@my cname" | k_extra "@my namex")
 k_with "@call ref"=>apply unhold
 k_with "@subscriptTail"=>apply unhold
 k_with "@storeName"=>apply unhold
 k_with "@my glo"=>first | exact gk_law_order .. | exact gk_compare ..
 exact trivial
inductive PtIn (nl:List (Addr × Obj)) (v:Value) (p:Pt):Prop
 | mk (x t0 t1 t2 l ls k k':_) (cj1:v=.ref x) (cj2:(x,({ cls:=.type "tuple",data:=.seq #[.int p.n0 t0,.int p.n1 t1,.int p.n2 t2,.ref l] k }:Obj)) ∈ nl) (cj3:(l,listOf (strValues ls).toArray k') ∈ nl) (cj4:ls.map (·.1)=p.tl):PtIn nl v p
theorem PtIn.le {a b:List (Addr × Obj)} (h:∀ q ∈ a,q ∈ b) {v:Value} {p:Pt} (x:PtIn a v p):PtIn b v p:=by
 refine byc fun b_=>?_
 obtain ⟨x,t0,t1,t2,l,ls,k,k',e,m1,m2,et⟩:=x
 refine b_ ?_;clear b_
 exact ⟨x,t0,t1,t2,l,ls,k,k',e,h _ m1,h _ m2,et⟩
theorem Each.imp {α β:Type} {P Q:α→β→Prop} (h:∀ a b,P a b→Q a b) {as:List α} {bs:List β} (x:Each P as bs):Each Q as bs:=by
 induction x with
 | nil=>exact .nil
 | cons x _ ih=>exact .cons (h _ _ x) ih
theorem PartsNew.pt {v:Value} {q:Heap} (h:PartsNew v q):∃ p,PtIn (ents q) v p∧PtW p:=by
 refine byc fun b_=>?_
 obtain ⟨x,n0,n1,n2,tl,rfl,⟨t0,t1,t2,l,ls,k,k',e1,e2,e3⟩,b0,b1,b2,hl⟩:=h
 obtain ⟨h4,hw⟩:=lawTail_words hl
 refine b_ ?_;clear b_
 exact ⟨⟨n0,n1,n2,tl⟩,⟨x,t0,t1,t2,l,ls,k,k',rfl,mem_ents.mpr e1,mem_ents.mpr e2,e3⟩,⟨b0,b1,b2,h4,hw⟩⟩
theorem upd_rest {c:Addr} {o':Obj} {l:List (Addr × Obj)} (h:∀ p ∈ l,p.1 ≠ c):l.map (upd c o')=l:=by
 induction l with
 | nil=>rfl
 | cons p l ih =>
  have h:=List.forall_mem_cons.mp h
  rw [List.map_cons,ih h.2,upd,if_neg h.1]
theorem upd_head {c:Addr} {o o':Obj} {l:List (Addr × Obj)} (h:∀ p ∈ l,p.1 ≠ c):((c,o)::l).map (upd c o')=(c,o')::l:=by
 rw [List.map_cons,upd_rest h]
 unfold upd
 rw [if_pos rfl]
theorem upd_second {c D:Addr} {o o' oD:Obj} {l:List (Addr × Obj)} (hD:D ≠ c) (h:∀ p ∈ l,p.1 ≠ c):((D,oD)::(c,o)::l).map (upd c o')=(D,oD)::(c,o')::l:=by
 rw [List.map_cons,upd_head h]
 unfold upd
 rw [if_neg hD]
theorem fresh_ne {h₀ h:Heap} {L:Addr} {nl:List (Addr × Obj)} (N:News h₀ L h nl) {p q:Addr × Obj} (hp:p ∈ nl) (hq:h.get? q.1=none):q.1 ≠ p.1:=fun e=>by
 rw [e,(N p hp).1] at hq;cases hq
noncomputable def Apart (a b:List (Addr × Obj)):Prop:=∀ p ∈ a,∀ q ∈ b,p.1 ≠ q.1
theorem Apart.nil {b:List (Addr × Obj)}:Apart [] b:=fun _ h=>nomatch h
theorem apart_of {h₀ h:Heap} {L:Addr} {nl e:List (Addr × Obj)} (N:News h₀ L h nl) (hf:∀ p ∈ e,h.get? p.1=none):Apart e nl:=fun _ hp _ hq=>fresh_ne N hq (hf _ hp)
theorem Apart.sub {a b c:List (Addr × Obj)} (h:Apart a b) (hc:∀ q ∈ c,q ∈ b):Apart a c:=fun p hp q hq=>h p hp q (hc q hq)
theorem Apart.app {a a' b:List (Addr × Obj)} (h:Apart a b) (h':Apart a' b):Apart (a++a') b:=fun p hp q hq=>(List.mem_append.mp hp).elim (fun x=>h p x q hq) fun x=>h' p x q hq
theorem mem_turn {α:Type} {E new rest:List α} {a b c d q:α} (h:q ∈ a::b::c::d::((E++new)++rest)):q ∈ E++(a::b::c::d::(new++rest)):=by
 exact memSub h (by walk_at "my sub")
inductive PoJ (g0:Array GenState) (cp:Addr) (o:Obj) (rest:List (Addr × Obj)) (i:Nat) (out:List Value) (news:List (Addr × Obj)) (g:Array GenState):Prop
 | mk (e1:g=g0) (new:List (Addr × Obj)) (pts:List Pt) (e2:news=(cp,o)::(new++rest)) (ap:Apart new ((cp,o)::rest)) (hE:Each (PtIn new) out pts) (hl:pts.length=i) (hw:∀ p ∈ pts,PtW p):PoJ g0 cp o rest i out news g
set_option maxHeartbeats 1000000 in
theorem st_pool {h₀:Heap} {L cn cp cb cw cv Dn:Addr} {o on:Obj} {rest:List (Addr × Obj)} {l:List (Nat × Value)} {vn:List Value} {nn:List Int} {kn:Nat} {Q:Flow→Shared→Prop}
  (X:(hd.heap_1 w.params).In h₀) (T:Top p loose mean mg mb h₀) (r:Rm A 19) (hA:A.handled=none)
  (F:Fr h₀ L s.heap (frm l)) (N:News h₀ L s.heap ((cp,o)::rest)) (sep:∀ p ∈ rest,p.1 ≠ cp) (ho:o.data=.cell none)
  (mn:(cn,on) ∈ rest) (dn:on.data=.cell (some (.ref Dn))) (mD:(Dn,listOf vn.toArray kn) ∈ rest) (hK:IntsAre vn nn) (n5:nn.length=5)
  (h:∀ h' tk o' D k new vp pts,Fr h₀ L h' (frm l)→News h₀ L h' ((cp,o')::(new++rest))→o'.data=.cell (some (.ref D))→(D,listOf (List.toArray vp) k) ∈ new→Each (PtIn new) vp pts→pts.length=5→(∀ p ∈ pts,PtW p)→Apart new ((cp,o)::rest)→Q .next { s with heap:=h',toks:=tk }) :
  wpAny (model prog w) A (exec (lawStmt 1) (lawEnv L cn cp cb cw cv)) Q (fun _ _=>False) s:=by
 have n_pool:=lc_pool (cn:=cn) (cp:=cp) (cb:=cb) (cw:=cw) (cv:=cv)
 have n_numbers:=lc_numbers (L:=L) (cn:=cn) (cp:=cp) (cb:=cb) (cw:=cw) (cv:=cv)
 have v5:vn.length=5:=by rw [hK.length,n5]
 have mn':(cn,on) ∈ (cp,o)::rest:=List.mem_cons_of_mem _ mn
 conv in lawStmt _=>whnf
 k_steps
 refine (?_:CompNext _ _ _ _ _ _ _ _ _ _ _ _ _ _ _ _ _)
 refine' comp_eval (iters_list (vs:=vn) (k:=kn) hA) ?n1 ?cell ?hk ?hx F N (PoJ s.gens cp o rest) ?h0 ?hax ?turn ?fin
 case n1=>lia
 case cell=>decide
 case hk=>rfl
 case hx=>rfl
 case h0=>exact ⟨rfl,[],[],rfl,.nil,.nil,rfl,fun _ h=>(nomatch h)⟩
 case hax =>
  rintro i out news h g pk0 F' N'
  refine byc fun b_=>?_
  obtain ⟨_,new,pts,rfl,_⟩:=pk0
  refine b_ ?_;clear b_
  exact (N' _ (List.mem_cons_of_mem _ (List.mem_append_right _ mD))).1
 case turn =>
  rintro I C D i v out news g oI oC nD h1 tk mC hi hP hlen pk0 F' N' sep' hNO hv
  refine byc fun b_=>?_
  obtain ⟨rfl,new,pts,rfl,hnew,hE,hpl,hpw⟩:=pk0
  refine byc fun b_=>?_
  obtain ⟨n,t,rfl,_⟩:=hK.at i v hP
  refine b_ ?_;clear b_
  refine b_ ?_;clear b_
  refine no_tests ?_
  simp only [if_true]
  k_steps
  refine (?_:wpAny _ _ _ _ _ _)
  refine usePart F' N' (law_parts (X.keeps F'.keep) (T.keeps F'.keep) (r.le 5 (by decide))) fun v2 h2 tk2 F2 N2 hp2 fr2=>?_
  refine byc fun b_=>?_
  obtain ⟨pt,hpi,hpw'⟩:=hp2.pt
  refine b_ ?_;clear b_
  have ap:=apart_of N' fr2
  refine compTurn_end F2 (news':=(cp,o)::((ents (part h1 h2)++new)++rest)) (fun q hq=>N2 q (mem_turn hq)) (fun q hq=>?_) ⟨rfl,_,pts++[pt],rfl,?_,?_,?_,?_⟩
  ·revert q;refine List.forall_mem_cons.mpr ⟨?_,fun q hq=>?_⟩
   ·exact sep' _ (List.mem_cons_self ..)
   ·rcases List.mem_append.mp hq with hq | hq
    ·rcases List.mem_append.mp hq with hq | hq
     ·exact ⟨ap q hq (I,oI) (by simp),ap q hq (C,oC) (by simp),ap q hq (D,_) (List.mem_cons_of_mem _ (List.mem_cons_of_mem _ (List.mem_cons_self ..)))⟩
     ·exact sep' _ (List.mem_cons_of_mem _ (List.mem_append_left _ hq))
    ·exact sep' _ (List.mem_cons_of_mem _ (List.mem_append_right _ hq))
  ·refine (ap.sub fun q hq=>?_).app hnew
   refine List.mem_cons_of_mem _ (List.mem_cons_of_mem _ (List.mem_cons_of_mem _ ?_))
   revert q;refine List.forall_mem_cons.mpr ⟨?_,fun q hq=>?_⟩
   ·exact List.mem_cons_self ..
   ·exact List.mem_cons_of_mem _ (List.mem_append_right _ hq)
  ·exact (hE.imp fun a b x=>x.le fun q hq=>List.mem_append_right _ hq).snoc (hpi.le fun q hq=>List.mem_append_left _ hq)
  ·rw [List.length_append,hpl];rfl
  ·intro x hx
   rcases List.mem_append.mp hx with hx | hx
   ·exact hpw x hx
   ·rw [List.mem_singleton.mp hx];exact hpw'
 case fin =>
  rintro D out news g h1 tk nD pk0 hl F' N' sep'
  refine byc fun b_=>?_
  obtain ⟨rfl,new,pts,rfl,hnew,hE,hpl,hpw⟩:=pk0
  refine b_ ?_;clear b_
  refine stCX F' N' n_pool (List.mem_cons_of_mem _ (List.mem_cons_self ..)) ho rfl fun h2 o' F2 N2 d2=>?_
  rw [upd_second (fun e=>sep' _ (List.mem_cons_self ..) e.symm) fun q hq=>(List.mem_append.mp hq).elim (fun x=>hnew q x _ (List.mem_cons_self ..)) fun x=>sep q x] at N2
  refine h h2 tk o' D nD ((D,_)::new) out pts F2 (fun q hq=>N2 q ?_) d2 (List.mem_cons_self ..) (hE.imp fun a b x=>x.le fun q hq=>List.mem_cons_of_mem _ hq) (by rw [hpl,v5]) hpw fun q hq=>?_
  ·exact memSub hq (by walk_at "my sub")
  ·revert q;refine List.forall_mem_cons.mpr ⟨?_,fun q hq=>?_⟩
   ·exact fun q' hq' e=>sep' q' (memSub hq' (by walk_at "my sub")) e.symm
   ·exact hnew q hq
section
variable {E:Value→Shared→Prop} {h₀:Heap} {L:Addr} {m:Str→Option Value} {news:List (Addr × Obj)} {Q:Value→Shared→Prop}
theorem ldKC {M:Model} {scope:Scope} {cl:List (Str × Addr)} {x:Str} {c C:Addr} {o:Obj} {v:Value} {pos:Pos} {env:Env} (N:News h₀ L s.heap news) (hc:(compEnvC scope cl C env).cells.lookup x=some c) (hm:(c,o) ∈ news) (hd:o.data=.cell (some v)) (h:Q v s)
  (hk:(compEnvC scope cl C env).scope.kind=.function) (hl:(compEnvC scope cl C env).kindOf x=some .cell) (hb:(x == ("__debug__":Str))=false):wpAny M A (eval (.Name x pos) (compEnvC scope cl C env)) Q E s :=
 wpAny_Name (wpAny_loadName_cell hk hl hc ⟨o,N.get hm,hd⟩ h) hb
theorem rangeF1 {n:Int} {t:Tok} (F:Fr h₀ L s.heap m) (N:News h₀ L s.heap news) (h:∀ R t0 t1 h' tk,Fr h₀ L h' m→News h₀ L h' ((R,rngO 0 n t0 t t1)::news)→(∀ q ∈ news,q.1 ≠ R)→Q (.ref R) { s with heap:=h',toks:=tk }) :
  wpAny (model prog w) A (call (.type "range") [.int n t]) Q E s :=
 call_range_1 (h _ _ _ _ _ (F.push _) (N.push F _) fun q hq=>Nat.ne_of_lt (Heap.lt_size (N q hq).1))
theorem rangeF2 {a b:Int} {t u:Tok} (F:Fr h₀ L s.heap m) (N:News h₀ L s.heap news) (h:∀ R t1 h' tk,Fr h₀ L h' m→News h₀ L h' ((R,rngO a b t u t1)::news)→(∀ q ∈ news,q.1 ≠ R)→Q (.ref R) { s with heap:=h',toks:=tk }) :
  wpAny (model prog w) A (call (.type "range") [.int a t,.int b u]) Q E s :=
 call_range_2 (h _ _ _ _ (F.push _) (N.push F _) fun q hq=>Nat.ne_of_lt (Heap.lt_size (N q hq).1))
theorem itemL {a:Addr} {value slice:Expr} {l:List Value} {n:Nat} {i:Int} {u:Tok} {y:Value} (N:News h₀ L s.heap news) (hm:(a,listOf l.toArray n) ∈ news) (h0:0 ≤ i) (h1:i < 1000) (hx:l[i.toNat]?=some y) (h:Q y s)
  (hs:subscripted slice false (.ref a) (.int i u)=operate [.ref a,.int i u] (getItem (.ref a) (.int i u)):=by with_unfolding_all rfl):wpAny (model prog w) A (subscriptTail value slice (.ref a) (.int i u)) Q E s:=by
 have hl:s.heap.IsList a l.toArray:=⟨_,(N _ hm).1,rfl,_,rfl⟩
 exact tail_any hl.typeIs slot_list_getitem.lookup (wpAny_getItem_list hl h0 (by lia) (by simpa using hx) h) hs
end
theorem rs79m0:True:=by
 k_with "@my cname"=>((try dsimp only);apply ldKC;kpc_g;exact rfl;k_extra "@my cellmem";kpc_g;rotate_left;(with_unfolding_all rfl);kernel_rfl!;decide)
 k_with "@call type:range"=>apply unhold
 exact trivial
set_option maxHeartbeats 1000000 in
theorem st_builds {h₀:Heap} {L cn cp cb cw cv Dn:Addr} {o on:Obj} {rest:List (Addr × Obj)} {l:List (Nat × Value)} {vn:List Value} {nn:List Int} {kn:Nat} {Q:Flow→Shared→Prop}
  (X:(hd.heap_1 w.params).In h₀) (T:Top p loose mean mg mb h₀) (r:Rm A 19) (hA:A.handled=none)
  (F:Fr h₀ L s.heap (frm l)) (N:News h₀ L s.heap ((cb,o)::rest)) (sep:∀ p ∈ rest,p.1 ≠ cb) (ho:o.data=.cell none)
  (mn:(cn,on) ∈ rest) (dn:on.data=.cell (some (.ref Dn))) (mD:(Dn,listOf vn.toArray kn) ∈ rest) (hK:IntsAre vn nn) (n5:nn.length=5)
  (h:∀ h' tk o' D k new (lb:List (Str × Tok)) (js:List Nat),Fr h₀ L h' (frm l)→News h₀ L h' ((cb,o')::(new++rest))→o'.data=.cell (some (.ref D))→(D,listOf (strValues lb).toArray k) ∈ new→lb.map (·.1)=js.map lawBuild→js.length=5→(∀ j ∈ js,j < 4)→Apart new ((cb,o)::rest)→Q .next { s with heap:=h',toks:=tk }) :
  wpAny (model prog w) A (exec (lawStmt 2) (lawEnv L cn cp cb cw cv)) Q (fun _ _=>False) s:=by
 have n_range:=lb_range w
 have n_builds:=lc_builds (cn:=cn) (cp:=cp) (cb:=cb) (cw:=cw) (cv:=cv)
 have v5:vn.length=5:=by rw [hK.length,n5]
 conv in lawStmt _=>whnf
 k_steps
 refine (?_:wpAny _ _ _ _ _ _)
 refine rangeF1 F N fun R t0 t1 h1 tk1 F1 N1 sR=>?_
 dsimp only
 k_steps
 refine (?_:CompNext _ _ _ _ _ _ _ _ _ _ _ _ _ _ _ _ _)
 refine byc fun b_=>?_
 obtain ⟨tz,N1'⟩:∃ tz,News h₀ L h1 ((R,rngO 0 5 t0 tz t1)::(cb,o)::rest):=⟨_,N1⟩
 refine b_ ?_;clear b_
 have mn':(cn,on) ∈ (R,rngO 0 5 t0 tz t1)::(cb,o)::rest:=List.mem_cons_of_mem _ (List.mem_cons_of_mem _ mn)
 refine' comp_evalN (iters_range (a:=0) (b:=5) (n:=5) (t:=t0) (u:=tz) (v:=t1) hA (by decide) rfl (by decide)) ?n1 ?cell ?hk ?hx F1 N1' (fun _ (z:List (Str × Tok) × List Nat)=>strValues z.1) (fun i z=>z.1.map (·.1)=z.2.map lawBuild∧z.2.length=i∧∀ j ∈ z.2,j < 4) ([],[]) rfl ⟨rfl,rfl,fun _ h=>(nomatch h)⟩ ?hax ?turn ?fin
 case n1=>decide
 case cell=>decide
 case hk=>rfl
 case hx=>rfl
 case hax=>exact fun h _ N'=>(N' _ mH).1
 case turn =>
  rintro I C D i v ⟨ws,js⟩ oI oC nD h2 tk mC hi hP ⟨hw,hj,hj4⟩ F' N' sep' hNO hv
  refine byc fun b_=>?_
  obtain ⟨t,rfl⟩:=hP
  obtain ⟨n,hn⟩:∃ n,nn[i]?=some n:=⟨nn[i]'(by rw [n5];exact hi),List.getElem?_eq_getElem _⟩
  obtain ⟨tn,hvn⟩:=hK.get i n hn
  obtain ⟨z,ez⟩:∃ z:Int,z=0 + (i:Int) * 1:=⟨_,rfl⟩
  refine b_ ?_;clear b_
  rw [← ez] at hv
  have z0:0 ≤ z:=(rng_i ez).1
  have ezn:z.toNat=i:=(rng_i ez).2
  refine no_tests ?_
  simp only [if_true]
  k_steps
  refine (?_:wpAny _ _ _ _ _ _)
  refine itemL N' (l:=vn) (n:=kn) (List.mem_cons_of_mem _ (List.mem_cons_of_mem _ (List.mem_cons_of_mem _ (List.mem_cons_of_mem _ (List.mem_cons_of_mem _ mD))))) z0 (Int.lt_trans (rng_lt ez hi) (by decide)) (by rw [ezn];exact hvn) ?_
  k_steps
  ·refine (?_:wpAny _ _ _ _ _ _)
   rename News _ _ _ _=>N3
   rename Fr _ _ _ _=>F3
   refine kba_turn (value':=PySem.Expr.Name (PySem.Str.ofString "_") ⟨0,0,0,0⟩) (fun _=>rfl) ?_
   have fin:∀ (x:Str) (u:Tok) (j:Nat),j < 4→x=lawBuild j→∀ tk',CompTurn { s with heap:=h1,toks:=tk1 } h₀ L (frm l) I C D oI oC (strValues ws) nD (JN ((R,rngO 0 5 t0 tz t1)::(cb,o)::rest) s.gens (fun _ (z:List (Str × Tok) × List Nat)=>strValues z.1) (fun i z=>z.1.map (·.1)=z.2.map lawBuild∧z.2.length=i∧∀ j ∈ z.2,j < 4) (i + 1) (strValues ws++[.str x u])) { s with heap:=_,toks:=tk' }:=fun x u j j4 e tk' =>
    compTurn_end F3 (fun q hq=>N3 q (List.mem_cons_of_mem _ hq)) sep' ⟨(ws++[(x,u)],js++[j]),List.map_append,rfl,rfl,by rw [List.map_append,List.map_append,hw,e];rfl,by rw [List.length_append,hj];rfl,fun y hy=>(List.mem_append.mp hy).elim (hj4 y) fun hy=>by rw [List.mem_singleton.mp hy];exact j4⟩
   have hm:z.fmod 3=0∨z.fmod 3=1∨z.fmod 3=2:=lt3 (fm z0 3 (by decide))
   rcases hm with e | e | e
   ·rw [e]
    exact itemL N3 (List.mem_cons_self ..) (by decide) (by decide) rfl (fin _ _ 1 (by decide) rfl _)
   ·rw [e]
    exact itemL N3 (List.mem_cons_self ..) (by decide) (by decide) rfl (fin _ _ 2 (by decide) rfl _)
   ·rw [e]
    exact itemL N3 (List.mem_cons_self ..) (by decide) (by decide) rfl (fin _ _ 3 (by decide) rfl _)
  ·exact compTurn_end F' N' sep' ⟨(ws++[(_,_)],js++[0]),List.map_append,rfl,rfl,by rw [List.map_append,List.map_append,hw];rfl,by rw [List.length_append,hj];rfl,fun y hy=>(List.mem_append.mp hy).elim (hj4 y) fun hy=>by rw [List.mem_singleton.mp hy];decide⟩
 case fin =>
  rintro D ⟨ws,js⟩ h2 tk nD ⟨hw,hj,hj4⟩ F' N' sep'
  have cD:D ≠ cb:=fun e=>sep' (cb,o) (List.mem_cons_of_mem _ (List.mem_cons_self ..)) e.symm
  have cR:R ≠ cb:=fun e=>sR (cb,o) (List.mem_cons_self ..) e.symm
  refine stCX (news:=(D,listOf (strValues ws).toArray nD)::(cb,o)::rest) F' (fun q hq=>N' q (memSub hq (by walk_at "my sub"))) n_builds (List.mem_cons_of_mem _ (List.mem_cons_self ..)) ho rfl fun h3 o' F2 N2 d2=>?_
  rw [upd_second cD sep] at N2
  refine h h3 tk o' D nD [(D,_)] ws js F2 (fun q hq=>N2 q ?_) d2 (List.mem_cons_self ..) hw hj hj4 fun q hq=>?_
  ·exact memSub hq (by walk_at "my sub")
  ·rw [List.mem_singleton.mp hq]
   intro q' hq' e
   exact sep' q' (List.mem_cons_of_mem _ hq') e.symm
theorem st_walk {h₀:Heap} {L cn cp cb cw cv Dp:Addr} {o op:Obj} {rest:List (Addr × Obj)} {l:List (Nat × Value)} {vp:List Value} {pts:List Pt} {kp:Nat} {Q:Flow→Shared→Prop}
  (X:(hd.heap_1 w.params).In h₀) (T:Top p loose mean mg mb h₀) (r:Rm A 19) (hA:A.handled=none)
  (F:Fr h₀ L s.heap (frm l)) (N:News h₀ L s.heap ((cw,o)::rest)) (sep:∀ p ∈ rest,p.1 ≠ cw) (ho:o.data=.cell none)
  (mp:(cp,op) ∈ rest) (dp:op.data=.cell (some (.ref Dp))) (mD:(Dp,listOf vp.toArray kp) ∈ rest) (hE:Each (PtIn rest) vp pts) (n5:pts.length=5) (hw:∀ p ∈ pts,PtW p)
  (h:∀ h' tk o' D k (lw:List (Str × Tok)) (Lp:List Pt),Fr h₀ L h' (frm l)→News h₀ L h' ((cw,o')::(D,listOf (strValues lw).toArray k)::rest)→o'.data=.cell (some (.ref D))→lw.map (·.1)=Lp.map Pt.text→(∀ p,p ∈ Lp↔p ∈ pts)→(Lp.Pairwise fun a b=>ptLt a b=true)→lw.length ≤ 4000→(∀ q ∈ (cw,o)::rest,q.1 ≠ D)→Q .next { s with heap:=h',toks:=tk }) :
  wpAny (model prog w) A (exec (lawStmt 3) (lawEnv L cn cp cb cw cv)) Q (fun _ _=>False) s:=by
 have n_order:=lg_order w
 have n_walk:=lc_walk (cn:=cn) (cp:=cp) (cb:=cb) (cw:=cw) (cv:=cv)
 have n_pool:=lc_pool (cn:=cn) (cp:=cp) (cb:=cb) (cw:=cw) (cv:=cv)
 have mp':(cp,op) ∈ (cw,o)::rest:=List.mem_cons_of_mem _ mp
 have ok:∀ {v:Value} {p:Pt},PtIn rest v p→PtAt s.heap v p:=fun {v p} pk0=>by obtain ⟨x,t0,t1,t2,l,ls,k,k',e,m1,m2,et⟩:=pk0;exact 
  ⟨x,e,t0,t1,t2,l,ls,k,k',(N _ (List.mem_cons_of_mem _ m1)).1,(N _ (List.mem_cons_of_mem _ m2)).1,et⟩
 conv in lawStmt _=>whnf
 k_steps
 refine (?_:wpAny _ _ _ _ _ _)
 refine useO F N (order_spec hA (X.keeps F.keep) (T.keeps F.keep) (r.le 12 (by decide)) (N _ (List.mem_cons_of_mem _ mD)).1 (hE.imp fun _ _ x=>ok x) (by rw [hE.len,n5];decide) fun p hp=>(hw p hp).ok) fun D ob h2 tk2 F2 N2 sep2 hob=>?_
 refine byc fun b_=>?_
 obtain ⟨lw,kw,rfl,hO,hl⟩:=hob
 obtain ⟨Lp,e,hm,hs⟩:=ord_rows hw hO
 refine b_ ?_;clear b_
 k_steps
 refine (?_:wpAny _ _ _ _ _ _)
 refine stCX F2 N2 n_walk (List.mem_cons_of_mem _ (List.mem_cons_self ..)) ho rfl fun h3 o' F3 N3 d3=>?_
 rw [upd_second (fun e=>sep2 (cw,o) (List.mem_cons_self ..) e.symm) sep] at N3
 refine h h3 tk2 o' D kw lw Lp F3 (fun q hq=>N3 q ?_) d3 e hm hs (by rw [← List.length_map (f:=(·.1))];exact hl) sep2
 simp only [List.mem_cons] at hq ⊢
 grind
theorem place_exists {Lp:List Pt} {p:Pt} (h:p ∈ Lp) (hw:∀ q ∈ Lp,PtW q) (hp:PtW p):∃ j:Nat,Lp[j]?=some p∧∀ m:Nat,m < j→(Lp.map Pt.text)[m]? ≠ some p.text:=by
 induction Lp with
 | nil=>cases h
 | cons a l ih =>
  by_cases e:a=p
  ·exact ⟨0,by rw [e];rfl,fun m hm=>absurd hm (Nat.not_lt_zero _)⟩
  ·rcases List.mem_cons.mp h with rfl | h
   ·exact absurd rfl e
   ·refine byc fun b_=>?_
    obtain ⟨j,h1,h2⟩:=ih h fun q hq=>hw q (List.mem_cons_of_mem _ hq)
    refine b_ ?_;clear b_
    refine ⟨j + 1,h1,fun m hm=>?_⟩
    cases m with
    | zero =>
     intro q
     simp only [List.map_cons,List.getElem?_cons_zero,Option.some.injEq] at q
     exact e (text_inj (hw a (List.mem_cons_self ..)) hp q)
    | succ m =>
     rw [List.map_cons,List.getElem?_cons_succ]
     exact h2 m (Nat.lt_of_succ_lt_succ hm)
theorem pt_bounds {p:Pt} (h:PtW p):(p.tl.map (·.length)).sum + p.tl.length * (Str.ofString ".").length ≤ 16777216∧(Txt.join "." p.tl).length ≤ 10000∧p.tl.length ≤ 1000:=by
 have h1:∀ l:List Str,(∀ x ∈ l,x.length ≤ 50)→(l.map (·.length)).sum ≤ 50 * l.length:=by
  intro l
  induction l with
  | nil=>intro _;exact Nat.zero_le _
  | cons x l ih =>
   intro hl
   have:=ih fun y hy=>hl y (List.mem_cons_of_mem _ hy)
   have:=hl x (List.mem_cons_self ..)
   rw [List.map_cons,List.sum_cons,List.length_cons];lia
 have h2:=h1 p.tl fun x hx=>(h.w x hx).le
 have h3:=jn_len h.w
 have h4:=h.tl4
 have h5:(Str.ofString ".").length=1:=by decide
 rw [h5]
 exact ⟨by lia,by lia,by lia⟩
section
variable {E:Value→Shared→Prop} {h₀:Heap} {L:Addr} {m:Str→Option Value} {news:List (Addr × Obj)} {Q:Value→Shared→Prop}
theorem PtIn.at' {h:Heap} {nl:List (Addr × Obj)} {v:Value} {p:Pt} (N:News h₀ L h nl) (x:PtIn nl v p):∃ a,v=.ref a∧PartsAt h a p.n0 p.n1 p.n2 p.tl:=by
 refine byc fun b_=>?_
 obtain ⟨x,t0,t1,t2,l,ls,k,k',e,m1,m2,et⟩:=x
 refine b_ ?_;clear b_
 exact ⟨x,e,t0,t1,t2,l,ls,k,k',(N _ m1).1,(N _ m2).1,et⟩
theorem textF {v:Value} {pt:Pt} (F:Fr h₀ L s.heap m) (N:News h₀ L s.heap news) (X:(hd.heap_1 w.params).In h₀) (T:Top p loose mean mg mb h₀) (r:Rm A 4) (hv:PtIn news v pt) (hw:PtW pt)
  (h:∀ t h' tk,Fr h₀ L h' m→News h₀ L h' news→Q (.str pt.text t) { s with heap:=h',toks:=tk }):wpAny (model prog w) A (call (.ref 431) [v]) Q E s:=by
 refine byc fun b_=>?_
 obtain ⟨a,rfl,ha⟩:=hv.at' N
 obtain ⟨b1,b2,b3⟩:=pt_bounds hw
 refine b_ ?_;clear b_
 exact useF F N (law_text (X.keeps F.keep) (T.keeps F.keep) ha r hw.b0.1 hw.b0.2 hw.b1.1 hw.b1.2 hw.b2.1 hw.b2.2 b1 b2 b3) fun v h' tk F' N' ⟨t,e⟩=>by subst e;exact h t h' tk F' N'
end
theorem rs81m0:True:=by
 k_with "@getMethod ref"=>apply unhold
 exact trivial
set_option maxHeartbeats 1000000 in
theorem st_places {h₀:Heap} {L cn cp cb cw cv Dp Dw:Addr} {op ow:Obj} {rest:List (Addr × Obj)} {l:List (Nat × Value)} {vp:List Value} {pts:List Pt} {kp kw:Nat} {lw:List (Str × Tok)} {Lp:List Pt} {Q:Flow→Shared→Prop}
  (X:(hd.heap_1 w.params).In h₀) (T:Top p loose mean mg mb h₀) (r:Rm A 19) (hA:A.handled=none)
  (F:Fr h₀ L s.heap (frm l)) (N:News h₀ L s.heap rest)
  (mp:(cp,op) ∈ rest) (dp:op.data=.cell (some (.ref Dp))) (mD:(Dp,listOf vp.toArray kp) ∈ rest) (hE:Each (PtIn rest) vp pts) (n5:pts.length=5) (hw:∀ p ∈ pts,PtW p)
  (mw:(cw,ow) ∈ rest) (dw:ow.data=.cell (some (.ref Dw))) (mW:(Dw,listOf (strValues lw).toArray kw) ∈ rest) (hl:lw.map (·.1)=Lp.map Pt.text) (hm:∀ p,p ∈ Lp↔p ∈ pts) (hz:lw.length ≤ 4000)
  (h:∀ h' tk D k vi (is:List Nat),Fr h₀ L h' (frm ((57,.ref D)::l))→News h₀ L h' ((D,listOf (List.toArray vi) k)::rest)→IntsAre vi (is.map fun i:Nat=>(i:Int))→Each (fun (i:Nat) p=>Lp[i]?=some p) is pts→(∀ q ∈ rest,q.1 ≠ D)→Q .next { s with heap:=h',toks:=tk }) :
  wpAny (model prog w) A (exec (lawStmt 4) (lawEnv L cn cp cb cw cv)) Q (fun _ _=>False) s:=by
 have n_places:=ll_places
 have n_walk:=lc_walk (cn:=cn) (cp:=cp) (cb:=cb) (cw:=cw) (cv:=cv)
 have n_pool:=lc_pool (cn:=cn) (cp:=cp) (cb:=cb) (cw:=cw) (cv:=cv)
 have v5:vp.length=5:=by rw [hE.len,n5]
 conv in lawStmt _=>whnf
 k_steps
 refine (?_:CompNext _ _ _ _ _ _ _ _ _ _ _ _ _ _ _ _ _)
 refine' comp_assignN (L:=L) ?e1 ?e2 ?e3 nx_places (iters_list (vs:=vp) (k:=kp) hA) ?n1 ?cell ?e4 ?e5 F N (fun _ (z:List Value × List Nat)=>z.1) (fun i z=>IntsAre z.1 (z.2.map fun i:Nat=>(i:Int))∧Each (fun (i:Nat) p=>Lp[i]?=some p) z.2 (pts.take i)) ([],[]) rfl ⟨.nil,.nil⟩ ?hax ?turn ?fin
 case e1=>rfl
 case e2=>kernel_rfl!
 case e3=>kernel_rfl!
 case e4=>rfl
 case e5=>rfl
 case n1=>lia
 case cell=>decide
 case hax=>exact fun h _ N'=>(N' _ mD).1
 case turn =>
  rintro I C D i v ⟨out,is⟩ oI oC nD h1 tk mC hi hP ⟨hI,hEi⟩ F' N' sep' hNO hv
  refine byc fun b_=>?_
  obtain ⟨pt,hpt,hin⟩:=hE.get hP
  have wpt:=hw pt (List.mem_of_getElem? hpt)
  obtain ⟨j,hj,hno⟩:=place_exists ((hm pt).mpr (List.mem_of_getElem? hpt)) (fun q hq=>hw q ((hm q).mp hq)) wpt
  refine b_ ?_;clear b_
  refine no_tests ?_
  simp only [if_true]
  k_steps
  refine (?_:wpAny _ _ _ _ _ _)
  refine kf_method N' (List.mem_cons_of_mem _ (List.mem_cons_of_mem _ (List.mem_cons_of_mem _ mW))) PySem.F.slot_list_index PySem.F.type_list_index ?_
  k_steps
  refine (?_:wpAny _ _ _ _ _ _)
  refine textF F' N' X T (r.le 4 (by decide)) (hin.le fun q hq=>List.mem_cons_of_mem _ (List.mem_cons_of_mem _ (List.mem_cons_of_mem _ hq))) wpt fun t h2 tk2 F2 N2=>?_
  k_steps
  refine index_strs (j:=j) ⟨_,(N2 (Dw,listOf (strValues lw).toArray kw) (List.mem_cons_of_mem _ (List.mem_cons_of_mem _ (List.mem_cons_of_mem _ mW)))).1,rfl,_,rfl⟩ (by lia) (by rw [hl,List.getElem?_map,hj];rfl) (by rw [hl];exact hno) fun u tk3=>?_
  refine (?_:CompTurn _ _ _ _ _ _ _ _ _ _ _ _ _)
  refine compTurn_end F2 N2 sep' ⟨(out++[_],is++[j]),rfl,rfl,rfl,?_,?_⟩
  ·rw [List.map_append];exact hI.append (.cons _ _ .nil)
  ·rw [← take_snoc hpt];exact hEi.snoc hj
 case fin =>
  rintro D ⟨out,is⟩ h1 tk nD ⟨hI,hEi⟩ F' N' sep'
  rw [List.take_of_length_le (by lia)] at hEi
  exact h h1 tk D nD out is F' N' hI hEi sep'
noncomputable def TxtOf (x:Str) (pj:Pt × Nat):Prop:=x=pj.1.text++lawBuild pj.2
theorem build_len {j:Nat} (h:j < 4):(lawBuild j).length ≤ 10:=by
 have key:∀ j:Fin 4,(lawBuild j.val).length ≤ 10:=by decide +kernel
 exact key ⟨j,h⟩
theorem text_len {p:Pt} (h:PtW p):p.text.length ≤ 600:=by
 have h1:=nums_len h.b0 h.b1 h.b2
 have h3:=jn_len h.w
 have h4:=h.tl4
 have h5:(Str.ofString "-").length=1:=by decide
 unfold Pt.text behindSign
 rw [lenApp]
 split
 ·have:Str.empty.length=0:=rfl
  lia
 ·rw [lenApp];lia
set_option maxHeartbeats 1000000 in
theorem st_texts {h₀:Heap} {L cn cp cb cw cv Dp Db:Addr} {op ob:Obj} {rest:List (Addr × Obj)} {l:List (Nat × Value)} {vp:List Value} {pts:List Pt} {kp kb:Nat} {lb:List (Str × Tok)} {js:List Nat} {Q:Flow→Shared→Prop}
  (X:(hd.heap_1 w.params).In h₀) (T:Top p loose mean mg mb h₀) (r:Rm A 19) (hA:A.handled=none)
  (F:Fr h₀ L s.heap (frm l)) (N:News h₀ L s.heap rest)
  (mp:(cp,op) ∈ rest) (dp:op.data=.cell (some (.ref Dp))) (mD:(Dp,listOf vp.toArray kp) ∈ rest) (hE:Each (PtIn rest) vp pts) (n5:pts.length=5) (hw:∀ p ∈ pts,PtW p)
  (mb':(cb,ob) ∈ rest) (db:ob.data=.cell (some (.ref Db))) (mB:(Db,listOf (strValues lb).toArray kb) ∈ rest) (hl:lb.map (·.1)=js.map lawBuild) (hj5:js.length=5) (hj4:∀ j ∈ js,j < 4)
  (h:∀ h' tk D k (lt:List (Str × Tok)),Fr h₀ L h' (frm ((58,.ref D)::l))→News h₀ L h' ((D,listOf (strValues lt).toArray k)::rest)→Each TxtOf (lt.map (·.1)) (pts.zip js)→(∀ q ∈ rest,q.1 ≠ D)→Q .next { s with heap:=h',toks:=tk }) :
  wpAny (model prog w) A (exec (lawStmt 5) (lawEnv L cn cp cb cw cv)) Q (fun _ _=>False) s:=by
 have n_texts:=ll_texts
 have n_range:=lb_range w
 have v5:vp.length=5:=by rw [hE.len,n5]
 have b5:lb.length=5:=by rw [← List.length_map (f:=(·.1)),hl,List.length_map,hj5]
 conv in lawStmt _=>whnf
 k_steps
 refine (?_:wpAny _ _ _ _ _ _)
 refine rangeF1 F N fun R t0 t1 h1 tk1 F1 N1 sR=>?_
 k_steps
 refine (?_:CompNext _ _ _ _ _ _ _ _ _ _ _ _ _ _ _ _ _)
 refine byc fun b_=>?_
 obtain ⟨tz,N1'⟩:∃ tz,News h₀ L h1 ((R,rngO 0 5 t0 tz t1)::rest):=⟨_,N1⟩
 refine b_ ?_;clear b_
 refine' comp_assignN (L:=L) ?e1 ?e2 ?e3 nx_texts (iters_range (a:=0) (b:=5) (n:=5) (t:=t0) (u:=tz) (v:=t1) hA (by decide) rfl (by decide)) ?n1 ?cell ?e4 ?e5 F1 N1' (fun _=>strValues) (fun i lt=>Each TxtOf (lt.map (·.1)) ((pts.zip js).take i)) [] rfl .nil ?hax ?turn ?fin
 case e1=>rfl
 case e2=>kernel_rfl!
 case e3=>kernel_rfl!
 case e4=>rfl
 case e5=>rfl
 case n1=>decide
 case cell=>decide
 case hax=>exact fun h _ N'=>(N' _ mH).1
 case turn =>
  intro I C D i v lt oI oC nD h2 tk mC hi hP hEt F' N' sep' hNO hv
  refine byc fun b_=>?_
  obtain ⟨t,rfl⟩:=hP
  obtain ⟨z,ez⟩:∃ z:Int,z=0 + (i:Int) * 1:=⟨_,rfl⟩
  rw [← ez] at hv
  have z0:0 ≤ z:=(rng_i ez).1
  have ezn:z.toNat=i:=(rng_i ez).2
  obtain ⟨vpt,hvp⟩:∃ x,vp[i]?=some x:=⟨vp[i]'(by rw [v5];exact hi),List.getElem?_eq_getElem _⟩
  obtain ⟨pt,hpt,hin⟩:=hE.get hvp
  have wpt:=hw pt (List.mem_of_getElem? hpt)
  obtain ⟨j,hj⟩:∃ x,js[i]?=some x:=⟨js[i]'(by rw [hj5];exact hi),List.getElem?_eq_getElem _⟩
  refine b_ ?_;clear b_
  have j4:=hj4 j (List.mem_of_getElem? hj)
  have hbi:∃ u,(strValues lb)[i]?=some (.str (lawBuild j) u):=by
   have e:(lb.map (·.1))[i]?=some (lawBuild j):=by rw [hl,List.getElem?_map,hj];rfl
   rw [List.getElem?_map] at e
   refine byc fun b_=>?_
   obtain ⟨q,hq,e2⟩:=Option.map_eq_some_iff.mp e
   refine b_ ?_;clear b_
   exact ⟨q.2,by rw [strValues,List.getElem?_map,hq,← e2];rfl⟩
  refine byc fun b_=>?_
  obtain ⟨u,hbi⟩:=hbi
  refine b_ ?_;clear b_
  have mp':(cp,op) ∈ (R,rngO 0 5 t0 tz t1)::rest:=List.mem_cons_of_mem _ mp
  have mb2:(cb,ob) ∈ (R,rngO 0 5 t0 tz t1)::rest:=List.mem_cons_of_mem _ mb'
  have big:∀ q ∈ rest,q ∈ (I,oI)::(C,oC)::(D,listOf (strValues lt).toArray nD)::(R,rngO 0 5 t0 tz t1)::rest:=fun q hq=>List.mem_cons_of_mem _ (List.mem_cons_of_mem _ (List.mem_cons_of_mem _ (List.mem_cons_of_mem _ hq)))
  have tl:=text_len wpt
  have bl:=build_len j4
  refine no_tests ?_
  simp only [if_true]
  k_steps
  refine (?_:wpAny _ _ _ _ _ _)
  refine itemL N' (big _ mD) z0 (by lia) (by rw [ezn];exact hvp) ?_
  k_steps
  refine (?_:wpAny _ _ _ _ _ _)
  refine textF F' N' X T (r.le 4 (by decide)) (hin.le big) wpt fun t2 h3 tk2 F2 N2=>?_
  k_steps
  refine (?_:wpAny _ _ _ _ _ _)
  refine itemL N2 (big _ mB) z0 (by lia) (by rw [ezn];exact hbi) ?_
  k_steps
  refine compTurn_end F2 N2 sep' ⟨lt++[(_,_)],List.map_append,rfl,rfl,?_⟩
  have hz:(pts.zip js)[i]?=some (pt,j):=List.getElem?_zip_eq_some.mpr ⟨hpt,hj⟩
  rw [List.map_append,← take_snoc hz]
  exact hEt.snoc rfl
 case fin =>
  intro D lt h2 tk nD hEt F' N' sep'
  rw [List.take_of_length_le (by rw [List.length_zip];lia)] at hEt
  refine h h2 tk D nD lt F' (fun q hq=>N' q ?_) hEt fun q hq=>sep' q (List.mem_cons_of_mem _ hq)
  exact memSub hq (by walk_at "my sub")
inductive VerLd (nl:List (Addr × Obj)) (v:Value) (a:VerOf):Prop
 | mk (q x:_) (cj1:v=.ref x) (cj2:Ver q x a) (cj3:Sub q nl):VerLd nl v a
theorem VerLd.le {a b:List (Addr × Obj)} (h:∀ q ∈ a,q ∈ b) {v:Value} {x:VerOf} (y:VerLd a v x):VerLd b v x:=by
 refine byc fun b_=>?_
 obtain ⟨q,x,e,hv,hs⟩:=y
 refine b_ ?_;clear b_
 exact ⟨q,x,e,hv,hs.le h⟩
noncomputable def VPj (v:VerOf) (pj:Pt × Nat):Prop:=VP v pj.1 pj.2
theorem mem_turnT {α:Type} {E new rest:List α} {a b c t d q:α} (h:q ∈ a::b::c::t::d::((E++new)++rest)):q ∈ t::(E++(a::b::c::d::(new++rest))):=by
 exact memSub h (by walk_at "my sub")
inductive VrJ (cv:Addr) (o:Obj) (rest:List (Addr × Obj)) (ps:Array Value) (pjs:List (Pt × Nat)) (i:Nat) (out:List Value) (news:List (Addr × Obj)) (g:Array GenState):Prop
 | mk (ab:AllBare g) (ps':Array Value) (new:List (Addr × Obj)) (vers:List VerOf) (e:news=(323,tabObj ps')::(cv,o)::(new++rest)) (tr:TriplesOk ps'.toList) (ap:Apart new ((323,tabObj ps)::(cv,o)::rest)) (hV:Each (VerLd new) out vers) (hP:Each VPj vers (pjs.take i)):VrJ cv o rest ps pjs i out news g
set_option maxHeartbeats 1000000 in
theorem st_versions {h₀:Heap} {L cn cp cb cw cv Dt:Addr} {o:Obj} {rest:List (Addr × Obj)} {l:List (Nat × Value)} {pjs:List (Pt × Nat)} {kt:Nat} {lt:List (Str × Tok)} {ps:Array Value} {Q:Flow→Shared→Prop}
  (X:(hd.heap_1 w.params).In h₀) (T:Top p loose mean mg mb h₀) (r:Rm A 19) (hA:A.handled=none)
  (F:Fr h₀ L s.heap (frm l)) (N:News h₀ L s.heap ((323,tabObj ps)::(cv,o)::rest)) (sep:∀ p ∈ rest,p.1 ≠ cv) (nt:NotT ((cv,o)::rest)) (ho:o.data=.cell none) (tr:TriplesOk ps.toList) (ab:AllBare s.gens)
  (h58:l.lookup 58=some (.ref Dt)) (mD:(Dt,listOf (strValues lt).toArray kt) ∈ rest) (hE:Each TxtOf (lt.map (·.1)) pjs) (n5:pjs.length=5) (hw:∀ x ∈ pjs,PtW x.1∧x.2 < 4)
  (h:∀ h' tk g' ps' o' D k new vv vers,Fr h₀ L h' (frm l)→News h₀ L h' ((323,tabObj ps')::(cv,o')::(new++rest))→TriplesOk ps'.toList→AllBare g'→o'.data=.cell (some (.ref D))→(D,listOf (List.toArray vv) k) ∈ new→Each (VerLd new) vv vers→Each VPj vers pjs→Apart new ((323,tabObj ps)::(cv,o)::rest)→Q .next { s with heap:=h',toks:=tk,gens:=g' }) :
  wpAny (model prog w) A (exec (lawStmt 6) (lawEnv L cn cp cb cw cv)) Q (fun _ _=>False) s:=by
 have n_texts:=ll_texts
 have n_versions:=lc_versions (cn:=cn) (cp:=cp) (cb:=cb) (cw:=cw) (cv:=cv)
 have t5:(strValues lt).length=5:=by rw [strValues,List.length_map,← List.length_map (f:=(·.1)),hE.len,n5]
 conv in lawStmt _=>whnf
 k_steps
 show CompNext _ _ _ _ _ _ _ _ _ _ _ _ _ _ _ _ _
 refine' comp_eval (iters_list (vs:=strValues lt) (k:=kt) hA) ?n1 ?cell ?hk ?hx F N (VrJ cv o rest ps pjs) ?h0 ?hax ?turn ?fin
 case n1=>lia
 case cell=>decide
 case hk=>rfl
 case hx=>rfl
 case h0=>exact ⟨ab,ps,[],[],rfl,tr,.nil,.nil,.nil⟩
 case hax =>
  rintro i out news h g ⟨_,ps',new,vers,rfl,_⟩ F' N'
  exact (N' _ (List.mem_cons_of_mem _ (List.mem_cons_of_mem _ (List.mem_append_right _ mD)))).1
 case turn =>
  rintro I C D i v out news g oI oC nD h1 tk mC hi hP hlen pk0 F' N' sep' hNO hv
  refine byc fun b_=>?_
  obtain ⟨ab1,ps1,new,vers,rfl,tr1,hnew,hEv,hVP⟩:=pk0
  refine b_ ?_;clear b_
  obtain ⟨⟨x,t⟩,hx,rfl⟩:∃ q:Str × Tok,lt[i]?=some q∧v=.str q.1 q.2:=by
   rw [strValues,List.getElem?_map] at hP
   refine byc fun b_=>?_
   obtain ⟨q,hq,e⟩:=Option.map_eq_some_iff.mp hP
   refine b_ ?_;clear b_
   exact ⟨q,hq,e.symm⟩
  obtain ⟨⟨pt,j⟩,hpj,ex⟩:=hE.get (i:=i) (a:=x) (by rw [List.getElem?_map,hx];rfl)
  refine byc fun b_=>?_
  obtain ⟨wpt,j4⟩:=hw _ (List.mem_of_getElem? hpj)
  have ex:x=pt.text++lawBuild j:=ex
  subst ex
  obtain ⟨a,va,hV⟩:=vp_exists wpt j4
  refine b_ ?_;clear b_
  have nt':NotT ((I,oI)::(C,oC)::(D,listOf out.toArray nD)::(cv,o)::(new++rest)):=by
   have s3:=sep' (323,tabObj ps1) (List.mem_cons_self ..)
   intro q hq
   revert q;refine List.forall_mem_cons.mpr ⟨?_,fun q hq=>?_⟩
   ·exact s3.1.symm
   ·revert q;refine List.forall_mem_cons.mpr ⟨?_,fun q hq=>?_⟩
    ·exact s3.2.1.symm
    ·revert q;refine List.forall_mem_cons.mpr ⟨?_,fun q hq=>?_⟩
     ·exact s3.2.2.symm
     ·revert q;refine List.forall_mem_cons.mpr ⟨?_,fun q hq=>?_⟩
      ·exact nt _ (List.mem_cons_self ..)
      ·rcases List.mem_append.mp hq with hq | hq
       ·exact hnew q hq (323,tabObj ps) (List.mem_cons_self ..)
       ·exact nt q (List.mem_cons_of_mem _ hq)
  have NT:News h₀ L h1 ((323,tabObj ps1)::(I,oI)::(C,oC)::(D,listOf out.toArray nD)::(cv,o)::(new++rest)):=fun q hq=>N' q (by
   exact memSub hq (by walk_at "my sub"))
  refine no_tests ?_
  simp only [if_true]
  k_steps
  show wpAny _ _ _ _ _ _
  refine useT2 F' NT X T tr1 ab1 nt' (fun t=>version_spec hV t (r.le 8 (by decide))) fun v2 h2 tk2 g2 ps2 F2 N2 tr2 ab2 hv2 fr2=>?_
  refine byc fun b_=>?_
  obtain ⟨xa,rfl,hva⟩:=hv2
  refine b_ ?_;clear b_
  have ap:=apart_of NT fr2
  refine compTurn_end F2 (news':=(323,tabObj ps2)::(cv,o)::((ents (part h1 h2)++new)++rest)) (fun q hq=>N2 q (mem_turnT hq)) (fun q hq=>?_) ⟨ab2,ps2,ents (part h1 h2)++new,vers++[a],rfl,tr2,?_,?_,?_⟩
  ·revert q;refine List.forall_mem_cons.mpr ⟨?_,fun q hq=>?_⟩
   ·exact sep' (323,tabObj ps1) (List.mem_cons_self ..)
   ·revert q;refine List.forall_mem_cons.mpr ⟨?_,fun q hq=>?_⟩
    ·exact sep' _ (List.mem_cons_of_mem _ (List.mem_cons_self ..))
    ·rcases List.mem_append.mp hq with hq | hq
     ·rcases List.mem_append.mp hq with hq | hq
      ·exact ⟨ap q hq (I,oI) (by simp),ap q hq (C,oC) (by simp),ap q hq (D,_) (List.mem_cons_of_mem _ (List.mem_cons_of_mem _ (List.mem_cons_of_mem _ (List.mem_cons_self ..))))⟩
      ·exact sep' _ (List.mem_cons_of_mem _ (List.mem_cons_of_mem _ (List.mem_append_left _ hq)))
     ·exact sep' _ (List.mem_cons_of_mem _ (List.mem_cons_of_mem _ (List.mem_append_right _ hq)))
  ·refine Apart.app (fun q hq q' hq'=>?_) hnew
   revert q';refine List.forall_mem_cons.mpr ⟨?_,fun q' hq'=>?_⟩
   ·exact ap q hq (323,tabObj ps1) (List.mem_cons_self ..)
   ·refine ap q hq q' (List.mem_cons_of_mem _ (List.mem_cons_of_mem _ (List.mem_cons_of_mem _ (List.mem_cons_of_mem _ ?_))))
    revert q';refine List.forall_mem_cons.mpr ⟨?_,fun q' hq'=>?_⟩
    ·exact List.mem_cons_self ..
    ·exact List.mem_cons_of_mem _ (List.mem_append_right _ hq')
  ·exact (hEv.imp fun a b x=>x.le fun q hq=>List.mem_append_right _ hq).snoc ⟨_,xa,rfl,hva,fun b o e=>List.mem_append_left _ (mem_ents.mpr e)⟩
  ·rw [← take_snoc hpj]
   exact hVP.snoc va
 case fin =>
  rintro D out news g h1 tk nD pk0 hl' F' N' sep'
  refine byc fun b_=>?_
  obtain ⟨ab1,ps1,new,vers,rfl,tr1,hnew,hEv,hVP⟩:=pk0
  refine b_ ?_;clear b_
  rw [List.take_of_length_le (by lia)] at hVP
  have cD:D ≠ cv:=fun e=>sep' (cv,o) (List.mem_cons_of_mem _ (List.mem_cons_self ..)) e.symm
  have sp:∀ q ∈ (323,tabObj ps1)::(new++rest),q.1 ≠ cv:=fun q hq=>by
   revert q;refine List.forall_mem_cons.mpr ⟨?_,fun q hq=>?_⟩
   ·exact (nt (cv,o) (List.mem_cons_self ..)).symm
   ·exact (List.mem_append.mp hq).elim (fun x=>hnew q x (cv,o) (List.mem_cons_of_mem _ (List.mem_cons_self ..))) fun x=>sep q x
  refine stCX (news:=(D,listOf out.toArray nD)::(cv,o)::(323,tabObj ps1)::(new++rest)) F' (fun q hq=>N' q (by
   exact memSub hq (by walk_at "my sub"))) n_versions (List.mem_cons_of_mem _ (List.mem_cons_self ..)) ho rfl fun h2 o' F2 N2 d2=>?_
  rw [upd_second cD sp] at N2
  refine h h2 tk g ps1 o' D nD ((D,_)::new) out vers F2 (fun q hq=>N2 q ?_) tr1 ab1 d2 (List.mem_cons_self ..) (hEv.imp fun a b x=>x.le fun q hq=>List.mem_cons_of_mem _ hq) hVP fun q hq=>?_
  ·exact memSub hq (by walk_at "my sub")
  ·revert q;refine List.forall_mem_cons.mpr ⟨?_,fun q hq=>?_⟩
   ·exact List.forall_mem_cons.mpr ⟨fun e=>sep' (323,tabObj ps1) mH e.symm,List.forall_mem_cons.mpr ⟨cD,fun q' hq' e=>sep' q' (mT (mT (mR hq'))) e.symm⟩⟩
   ·exact hnew q hq
theorem look_top {i:Nat} {v:Value} {l:List (Nat × Value)}:((i,v)::l).lookup i=some v:=by rw [List.lookup_cons,beq_self_eq_true]
theorem look_skip {i k:Nat} {v x:Value} {l:List (Nat × Value)} (n:(i == k)=false) (h:l.lookup i=some v):((k,x)::l).lookup i=some v:=by
 rw [List.lookup_cons,n];exact h
theorem rs84m0:True:=by
 k_with "@my rmd"=>(apply Rm.le;kpc_g;decide)
 k_with "@my look"=>first | kpc_g | (with_reducible apply look_top) | ((with_reducible apply look_skip);exact rfl;k_extra "@my look")
 k_with "@storeName"=>((try dsimp only);apply stLX) <;> (first | kpc_g | exact lawScope_kind .. | (intro _;intros;k_sweep))
 k_with "@my item"=>first | kpc_g | omega
 k_with "@subscriptTail"=>k_dflt (((try dsimp only);apply itemL;kpc_g;k_extra "@my cellmem";k_extra "@my item";k_extra "@my item";kpc_g))
 k_with "@subscriptTail Name Name ref int"=>k_dflt (((try dsimp only);apply itemL;kpc_g;k_extra "@my cellmem";k_extra "@my item";k_extra "@my item";kpc_g))
 exact trivial
section
variable {Q:Value→Shared→Prop} {E:Value→Shared→Prop} {h₀:Heap} {L a b:Addr} {m:Str→Option Value} {news:List (Addr × Obj)}
theorem ne_bools {b1 b2 b3 b4 b5 b6:Bool} {n k:Nat} (N:News h₀ L s.heap news) (ma:(a,listOf #[.bool b1,.bool b2,.bool b3,.bool b4,.bool b5,.bool b6] n) ∈ news) (mb':(b,listOf #[.bool b1,.bool b2,.bool b3,.bool b4,.bool b5,.bool b6] k) ∈ news) (hu:A.units + 64 < cLine) (h:Q (.bool false) s) :
  wpAny (model prog w) A (compareOp .NotEq (.ref a) (.ref b)) Q E s:=by
 have rd:ReadsAll s.heap [.bool b1,.bool b2,.bool b3,.bool b4,.bool b5,.bool b6] [.bool b1,.bool b2,.bool b3,.bool b4,.bool b5,.bool b6] ([]++([]++([]++([]++([]++([]++[])))))) :=
  .cons (.bool _) (.cons (.bool _) (.cons (.bool _) (.cons (.bool _) (.cons (.bool _) (.cons (.bool _) .nil)))))
 refine ne_dataH (reads_list_at (News.get N ma) rfl rfl rd) (reads_list_at (News.get N mb') rfl rfl rd) rfl rfl hu ?_
 have e:PyData.eqv (.list [.bool b1,.bool b2,.bool b3,.bool b4,.bool b5,.bool b6]) (.list [.bool b1,.bool b2,.bool b3,.bool b4,.bool b5,.bool b6])=true:=by
  simp [PyData.eqv,PyData.eqvAll]
 rw [e];exact h
end
theorem rs84m1:True:=by
 k_with "@compareOp NotEq ref ref"=>(fail_if_success k_extra "e84");k_dflt (first | ((try dsimp only);apply v_ne;kpc_g;kpc_g;kpc_g;kpc_g;k_extra "@my rmd";k_extra "@my ver";k_extra "@my ver";k_extra "@my dg";(intro _;intros;k_sweep)) | apply unhold)
 k_with "@exec If BoolOp"=>(fail_if_success k_extra "e84");apply unhold
 k_with "@exec Assign cons IfExp"=>(fail_if_success k_extra "e84");apply unhold
 exact trivial
theorem mem_tab {α:Type} {E rest:List α} {a q:α} (h:q ∈ a::rest):q ∈ a::(E++rest):=by
 rcases List.mem_cons.mp h with rfl | h
 ·exact List.mem_cons_self ..
 ·exact List.mem_cons_of_mem _ (List.mem_append_right _ h)
noncomputable def lawInner:List Stmt:=match lawStmt 7 with
 | .For _ _ [.For _ _ b _ _] _ _=>b
 | _=>[]
inductive CondP (P:Prop) (c:Shared) (b:Bool) (s':Shared):Prop
 | mk (tk:Nat) (e:s'={ c with toks:=tk }) (h:b=true→P):CondP P c b s'
inductive DueP (n:Int) (c:Shared) (v:Value) (s':Shared):Prop
 | mk (t:Tok) (tk:Nat) (e:s'={ c with toks:=tk }) (h:v=.int n t):DueP n c v s'
theorem due0 {a b:Nat} (h:(a:Int)=b):(0:Int)=if a=b then 0 else if a > b then 1 else -1:=(if_pos (Int.ofNat_inj.mp h)).symm
theorem due1 {a b:Nat} (h:(a:Int) ≠ b) (g:(b:Int) < a):(1:Int)=if a=b then 0 else if a > b then 1 else -1:=by
 rw [if_neg fun e=>h (congrArg Nat.cast e),if_pos (Int.ofNat_lt.mp g)]
theorem due2 {a b:Nat} (h:(a:Int) ≠ b) (g:¬ (b:Int) < a):(-1:Int)=if a=b then 0 else if a > b then 1 else -1:=by
 rw [if_neg fun e=>h (congrArg Nat.cast e),if_neg fun e=>g (Int.ofNat_lt.mpr e)]
set_option maxHeartbeats 2000000 in
set_option tactic.hygienic true in
theorem st_turn {h₀:Heap} {L cn cp cb cw cv Dv Dl Dt xa xb:Addr} {ov:Obj} {rest:List (Addr × Obj)} {l:List (Nat × Value)} {vv vi:List Value} {lt:List (Str × Tok)} {kv kl kt pa pb:Nat} {ps:Array Value} {za zb:Int} {ta tb ua ub wa wb:Tok} {sa sb:Str} {VA VB:VerOf} {qa qb:Heap} {Lp:List Pt} {Q:Flow→Shared→Prop}
  (X:(hd.heap_1 w.params).In h₀) (T:Top p loose mean mg mb h₀) (r:Rm A 19) (hA:A.handled=none)
  (F:Fr h₀ L s.heap (frm l)) (N:News h₀ L s.heap ((323,tabObj ps)::rest)) (nt:NotT rest) (tr:TriplesOk ps.toList) (ab:AllBare s.gens)
  (h60:l.lookup 60=some (.int za ta)) (h61:l.lookup 61=some (.int zb tb)) (h57:l.lookup 57=some (.ref Dl)) (h58:l.lookup 58=some (.ref Dt))
  (a0:0 ≤ za) (a1:za < 5) (b0:0 ≤ zb) (b1:zb < 5)
  (mv:(cv,ov) ∈ rest) (dv:ov.data=.cell (some (.ref Dv))) (mD:(Dv,listOf vv.toArray kv) ∈ rest) (hva:vv[za.toNat]?=some (.ref xa)) (hvb:vv[zb.toNat]?=some (.ref xb))
  (vA:Ver qa xa VA) (vB:Ver qb xb VB) (sA:Sub qa rest) (sB:Sub qb rest)
  (yL:(Dl,listOf vi.toArray kl) ∈ rest) (hia:vi[za.toNat]?=some (.int (pa:Nat) ua)) (hib:vi[zb.toNat]?=some (.int (pb:Nat) ub))
  (yT:(Dt,listOf (strValues lt).toArray kt) ∈ rest) (hta:(strValues lt)[za.toNat]?=some (.str sa wa)) (htb:(strValues lt)[zb.toNat]?=some (.str sb wb))
  (hs:Lp.Pairwise fun a b=>ptLt a b=true) (pA:Spot Lp VA pa sa) (pB:Spot Lp VB pb sb) (xA:TxV sa VA) (xB:TxV sb VB)
  (h:∀ h' tk g' ps' l',Fr h₀ L h' (frm l')→News h₀ L h' ((323,tabObj ps')::rest)→TriplesOk ps'.toList→AllBare g'→l'.lookup 60=some (.int za ta)→l'.lookup 57=some (.ref Dl)→l'.lookup 58=some (.ref Dt)→Q .next { s with heap:=h',toks:=tk,gens:=g' }) :
  wpAny (model prog w) A (execs lawInner (lawEnv L cn cp cb cw cv)) Q (fun _ _=>False) s:=by
 have n_a:=ll_a
 have n_b:=ll_b
 have n_one:=ll_one
 have n_two:=ll_two
 have n_told:=ll_told
 have n_here:=ll_here
 have n_there:=ll_there
 have n_due:=ll_due
 have n_places:=ll_places
 have n_texts:=ll_texts
 have n_compare:=lg_compare w
 have n_versions:=lc_versions (cn:=cn) (cp:=cp) (cb:=cb) (cw:=cw) (cv:=cv)
 refine byc fun b_=>?_
 obtain ⟨hA',dA,fA,gA,uA⟩:=A
 obtain rfl:hA'=none:=hA
 refine b_ ?_;clear b_
 conv in lawInner=>whnf
 k_steps
 rename_i g2 ab2 Dto _ _ _ _ _ _ _ _ _ _ _ _ _ _ _ _ _ _ Dd _ _ hh kk F2 N2 _ _ _
 show CompNext _ _ _ _ _ _ _ _ _ _ _ _ _ _ _ _ _
 refine byc fun b_=>?_
 obtain ⟨f1,f2,f3,f4,f5,f6⟩:=spot_facts hs pA pB
 rw [f1,f2,f3,f4,f5] at N2
 obtain ⟨x1,e1⟩:∃ x,x=decide ((pa:Int) < pb):=⟨_,rfl⟩
 obtain ⟨x2,e2⟩:∃ x,x=decide ((pa:Int) ≤ pb):=⟨_,rfl⟩
 obtain ⟨x3,e3⟩:∃ x,x=decide ((pb:Int) < pa):=⟨_,rfl⟩
 obtain ⟨x4,e4⟩:∃ x,x=decide ((pb:Int) ≤ pa):=⟨_,rfl⟩
 obtain ⟨x5,e5⟩:∃ x,x=(sa == sb):=⟨_,rfl⟩
 obtain ⟨x6,e6⟩:∃ x,x=(sa != sb):=⟨_,rfl⟩
 obtain ⟨nw,enw,N2⟩:=ex_led N2
 refine b_ ?_;clear b_
 have mo:(Dto,listOf #[.bool x1,.bool x2,.bool x3,.bool x4,.bool x5,.bool x6] 0) ∈ nw:=by
  rw [enw,e1,e2,e3,e4,e5,e6]
  exact List.mem_cons_of_mem _ (List.mem_cons_of_mem _ (List.mem_cons_self ..))
 have md:(Dd,listOf #[.bool x1,.bool x2,.bool x3,.bool x4,.bool x5,.bool x6] 0) ∈ nw:=by
  rw [enw,e1,e2,e3,e4,e5,e6]
  exact List.mem_cons_self ..
 have mr:∀ q ∈ (323,tabObj ps)::rest,q ∈ nw:=fun q hq=>by
  rw [enw]
  exact List.mem_cons_of_mem _ (List.mem_cons_of_mem _ (List.mem_cons_of_mem _ (List.mem_cons_of_mem _ hq)))
 clear enw
 refine' comp_eval (iters_list (vs:=[.bool x1,.bool x2,.bool x3,.bool x4,.bool x5,.bool x6]) (k:=0) rfl) ?n1 ?cell ?hk ?hx F2 N2 (fun i out news g=>AllBare g∧news=nw∧out=([.bool x1,.bool x2,.bool x3,.bool x4,.bool x5,.bool x6]:List Value).take i) ?h0 ?hax ?turn ?fin
 case n1=>show 6 ≤ 1000;decide
 case cell=>decide
 case hk=>rfl
 case hx=>rfl
 case h0=>exact ⟨ab2,rfl,rfl⟩
 case hax=>rintro i out news h g ⟨_,rfl,_⟩ F' N';exact (N' _ mo).1
 case turn =>
  rintro I C D i v out news g oI oC nD h1 tk mC hi hP hlen ⟨ab1,rfl,rfl⟩ F' N' sep' hNO hv
  obtain ⟨x,rfl⟩:∃ x,v=.bool x:=by
   have hm:=List.mem_of_getElem? hP
   simp only [List.mem_cons,List.not_mem_nil,or_false] at hm
   rcases hm with e | e | e | e | e | e <;> exact ⟨_,e⟩
  refine no_tests ?_
  simp only [if_true]
  k_steps
  refine compTurn_end F' N' sep' ⟨ab1,rfl,?_⟩
  rw [← take_snoc hP]
  cases x <;> rfl
 case fin =>
  rintro D out news g h1 tk nD ⟨ab1,rfl,rfl⟩ hl' F' N' sep'
  have N3:News h₀ L h1 ((D,listOf #[.bool x1,.bool x2,.bool x3,.bool x4,.bool x5,.bool x6] nD)::news):=N'
  clear N'
  have u64:uA + 64 < cLine:=by have:uA + 8 * 19 < cLine:=r.2.1;lia
  have mL':=mr _ (List.mem_cons_of_mem _ yL)
  have mT':=mr _ (List.mem_cons_of_mem _ yT)
  k_steps
  show wpAny _ _ _ _ _ _
  refine ne_bools N3 (List.mem_cons_self ..) (List.mem_cons_of_mem _ md) u64 ?_
  k_steps
  show wpAny _ _ _ _ _ _
  refine wpAny_If (wpAny_mono (?c:wpAny _ _ _ (CondP (pa ≠ pb∨sa=sb) ⟨h1,g,s.drawn,0,s.os⟩) _ _) (fun c s' hc=>?b) fun _ _ x=>x)
  case c =>
   k_steps
   ·exact ⟨_,rfl,fun _=>.inl fun e=>absurd (congrArg Nat.cast e) (by with_reducible assumption:(pa:Int) ≠ pb)⟩
   ·exact ⟨_,rfl,fun _=>.inr (beq_iff_eq.mp (by with_reducible assumption))⟩
   ·exact ⟨_,rfl,(fun h=>nomatch h)⟩
   ·exact ⟨_,rfl,(fun h=>nomatch h)⟩
  case b =>
   refine byc fun b_=>?_
   obtain ⟨tk1,ec,hP⟩:=hc
   subst ec
   refine b_ ?_;clear b_
   cases c with
   | false =>
    k_steps
    exact h _ _ _ ps _ F' (fun q hq=>N3 q (List.mem_cons_of_mem _ (mr q hq))) tr ab1 (by walk_at "my look") (by walk_at "my look") (by walk_at "my look")
   | true =>
    have hP:=hP rfl
    k_steps
    show wpAny _ _ _ _ _ _
    refine wpAny_Assign_Name (wpAny_mono (?due1:wpAny _ _ _ (DueP (if pa=pb then 0 else if pa > pb then 1 else -1) ⟨h1,g,s.drawn,0,s.os⟩) _ _) (fun v s' hv=>?due2) fun _ _ x=>x)
    case due1 =>
     k_steps
     ·exact ⟨_,_,rfl,congrArg (Value.int · _) (due0 (by with_reducible assumption))⟩
     ·exact ⟨_,_,rfl,congrArg (Value.int · _) (due1 (by with_reducible assumption) (by with_reducible assumption))⟩
     ·exact ⟨_,_,rfl,congrArg (Value.int · _) (due2 (by with_reducible assumption) (by with_reducible assumption))⟩
    case due2 =>
     refine byc fun b_=>?_
     obtain ⟨td,tk2,ed,ev⟩:=hv
     subst ed;subst ev
     obtain ⟨d,hd⟩:∃ d:Int,d=(if pa=pb then 0 else if pa > pb then 1 else -1):=⟨_,rfl⟩
     refine b_ ?_;clear b_
     rw [← hd]
     k_steps
     rename Fr _ _ _ _=>F4
     rename News _ _ _ _=>N4
     show wpAny _ _ _ _ _ _
     refine useT2 F4 (fun q hq=>N4 q (List.mem_cons_of_mem _ (mr q hq))) X T tr ab1 nt (fun t=>compare_spec xA xB t (r.le 11 (by decide))) fun v h2 tk2 g2 ps2 F3 N5 tr3 ab3 hv3 fr3=>?_
     refine byc fun b_=>?_
     obtain ⟨k,rfl⟩:=spot_cmp hs pA pB hP hv3
     refine b_ ?_;clear b_
     rw [← hd]
     k_steps
     ·exact absurd rfl (by with_reducible assumption:d ≠ d)
     ·exact h _ _ _ ps2 _ F3 (fun q hq=>N5 q (mem_tab hq)) tr3 ab3 (by walk_at "my look") (by walk_at "my look") (by walk_at "my look")
theorem rs84e:True:=by
 k_with "e84"=>skip
 exact trivial
theorem vp_txv {V:VerOf} {q:Pt} {j:Nat} (hp:PtW q) (h:VP V q j):TxV (q.text++lawBuild j) V:=by
 refine (?_:Txv _ V.n0 V.n1 V.n2 V.pre V.bld V.ks V.bs)
 rw [h.n0,h.n1,h.n2,h.pre,h.bld,h.bs]
 exact txv_of hp (bd_of h.lt) h.ks
structure Five (rest:List (Addr × Obj)) (Lp:List Pt) (vv vi:List Value) (lt:List (Str × Tok)) (vers:List VerOf) (is:List Nat) (pjs:List (Pt × Nat)):Prop where
 vd:Each (VerLd rest) vv vers
 vp:Each VPj vers pjs
 n5:pjs.length=5
 ok:∀ x ∈ pjs,PtW x.1∧x.2 < 4
 iv:IntsAre vi (is.map fun i:Nat=>(i:Int))
 ip:Each (fun (i:Nat) (x:Pt × Nat)=>Lp[i]?=some x.1) is pjs
 tx:Each TxtOf (lt.map (·.1)) pjs
 srt:Lp.Pairwise fun a b=>ptLt a b=true
theorem Each.back {α β:Type} {P:α→β→Prop} {as:List α} {bs:List β} (x:Each P as bs):∀ {i:Nat} {b:β},bs[i]?=some b→∃ a,as[i]?=some a∧P a b:=by
 induction x with
 | nil=>exact fun h=>nomatch h
 | cons p _ ih=>intro i b h;cases i with
  | zero=>exact ⟨_,rfl,Option.some.inj h ▸ p⟩
  | succ i=>exact ih (i:=i) h
inductive FiveAt (rest:List (Addr × Obj)) (Lp:List Pt) (vv vi:List Value) (lt:List (Str × Tok)) (vers:List VerOf) (is:List Nat) (i:Nat):Prop
 | mk (x:Addr) (q:Heap) (V:VerOf) (pa:Nat) (ua:Tok) (sa:Str) (wa:Tok) (h1:vv[i]?=some (.ref x)) (h2:Ver q x V) (h3:Sub q rest) (h4:vi[i]?=some (.int (pa:Nat) ua)) (h5:(strValues lt)[i]?=some (.str sa wa)) (h6:Spot Lp V pa sa) (h7:TxV sa V) (h8:vers[i]?=some V) (h9:is[i]?=some pa) (h10:(lt.map (·.1))[i]?=some sa):FiveAt rest Lp vv vi lt vers is i
theorem Five.at' {rest:List (Addr × Obj)} {Lp:List Pt} {vv vi:List Value} {lt:List (Str × Tok)} {vers:List VerOf} {is:List Nat} {pjs:List (Pt × Nat)} (f:Five rest Lp vv vi lt vers is pjs) {i:Nat} (hi:i < 5):FiveAt rest Lp vv vi lt vers is i:=by
 have hl:i < pjs.length:=by rw [f.n5];exact hi
 refine byc fun b_=>?_
 obtain ⟨pj,hpj⟩:∃ pj,pjs[i]?=some pj:=⟨pjs[i],List.getElem?_eq_getElem hl⟩
 obtain ⟨V,hV,hvp⟩:=f.vp.back hpj
 obtain ⟨v,hv,q,x,rfl,hver,hsub⟩:=f.vd.back hV
 obtain ⟨pa,hpa,hL⟩:=f.ip.back hpj
 obtain ⟨sa,hsa,htx⟩:=f.tx.back hpj
 obtain ⟨w1,w2⟩:=f.ok pj (List.mem_of_getElem? hpj)
 refine b_ ?_;clear b_
 obtain ⟨ua,hua⟩:=f.iv.get i (pa:Int) (by rw [List.getElem?_map,hpa];rfl)
 have hsa':=hsa
 rw [List.getElem?_map] at hsa
 refine byc fun b_=>?_
 obtain ⟨y,hy,e⟩:=Option.map_eq_some_iff.mp hsa
 refine b_ ?_;clear b_
 have ht:sa=pj.1.text++lawBuild pj.2:=htx
 refine ⟨x,q,V,pa,ua,sa,y.2,hv,hver,hsub,hua,by rw [strValues,List.getElem?_map,hy,← e];rfl,⟨pj.1,pj.2,w1,hvp,hL,ht⟩,by rw [ht];exact vp_txv w1 hvp,hV,hpa,hsa'⟩
inductive LoJ (nF:Array Value→List (Addr × Obj)) (X:List (Nat × Value)→Prop) (Dl Dt:Addr) (i:Nat) (l:List (Nat × Value)) (news:List (Addr × Obj)) (g:Array GenState):Prop
 | mk (ab:AllBare g) (ps:Array Value) (e:news=nF ps) (tr:TriplesOk ps.toList) (x:X l) (l1:l.lookup 57=some (.ref Dl)) (l2:l.lookup 58=some (.ref Dt)):LoJ nF X Dl Dt i l news g
set_option maxHeartbeats 2000000 in
theorem st_loops {h₀:Heap} {L cn cp cb cw cv Dv Dl Dt:Addr} {ov:Obj} {rest:List (Addr × Obj)} {l:List (Nat × Value)} {vv vi:List Value} {lt:List (Str × Tok)} {kv kl kt:Nat} {ps:Array Value} {Lp:List Pt} {vers:List VerOf} {is:List Nat} {pjs:List (Pt × Nat)} {Q:Flow→Shared→Prop}
  (X:(hd.heap_1 w.params).In h₀) (T:Top p loose mean mg mb h₀) (r:Rm A 19) (hA:A.handled=none)
  (F:Fr h₀ L s.heap (frm l)) (N:News h₀ L s.heap ((323,tabObj ps)::rest)) (nt:NotT rest) (tr:TriplesOk ps.toList) (ab:AllBare s.gens)
  (h57:l.lookup 57=some (.ref Dl)) (h58:l.lookup 58=some (.ref Dt))
  (mv:(cv,ov) ∈ rest) (dv:ov.data=.cell (some (.ref Dv))) (mD:(Dv,listOf vv.toArray kv) ∈ rest) (yL:(Dl,listOf vi.toArray kl) ∈ rest) (yT:(Dt,listOf (strValues lt).toArray kt) ∈ rest) (f5:Five rest Lp vv vi lt vers is pjs)
  (h:∀ h' tk g' ps' l',Fr h₀ L h' (frm l')→News h₀ L h' ((323,tabObj ps')::rest)→TriplesOk ps'.toList→AllBare g'→l'.lookup 57=some (.ref Dl)→l'.lookup 58=some (.ref Dt)→Q .next { s with heap:=h',toks:=tk,gens:=g' }) :
  wpAny (model prog w) A (exec (lawStmt 7) (lawEnv L cn cp cb cw cv)) Q (fun _ _=>False) s:=by
 have n_a:=ll_a
 have n_range:=lb_range w
 conv in lawStmt _=>whnf
 k_steps
 refine (?_:wpAny _ _ _ _ _ _)
 refine rangeF1 F N fun R t0 t1 h1 tk1 F1 N1 sR=>?_
 k_steps
 refine (?_:ForNext _ _ _ _ _ _ _ _ _ _ _)
 refine byc fun b_=>?_
 obtain ⟨tz,N1'⟩:∃ tz,News h₀ L h1 ((R,rngO 0 5 t0 tz t1)::(323,tabObj ps)::rest):=⟨_,N1⟩
 refine b_ ?_;clear b_
 refine' forG (k:=60) (iters_range (a:=0) (b:=5) (n:=5) (t:=t0) (u:=tz) (v:=t1) hA (by decide) rfl (by decide)) ?hLa ?hx ?hpk ?yk F1 N1' (LoJ (fun ps=>(R,rngO 0 5 t0 tz t1)::(323,tabObj ps)::rest) (fun _=>True) Dl Dt) ?h0 ?hax ?turn ?fin
 case hLa=>exact (N1' _ (List.mem_cons_self ..)).2.1.symm
 case hx=>exact ll_a.kd
 case hpk=>kernel_rfl!
 case yk=>exact nx_a
 case h0=>exact ⟨ab,ps,rfl,tr,trivial,h57,h58⟩
 case hax=>rintro i l l' news h g ⟨_,ps',rfl,_⟩ F' N';exact (N' _ (List.mem_cons_self ..)).1
 case fin =>
  rintro l1 news h2 tk g pk0 F' N'
  refine byc fun b_=>?_
  obtain ⟨ab1,ps1,rfl,tr1,_,k57,k58⟩:=pk0
  refine b_ ?_;clear b_
  exact h h2 tk g ps1 l1 F' (fun q hq=>N' q (List.mem_cons_of_mem _ hq)) tr1 ab1 k57 k58
 case turn =>
  rintro I i v l1 news g oI h2 tk hi hP pk0 F' N' sepI
  refine byc fun b_=>?_
  obtain ⟨ab1,ps1,rfl,tr1,_,k57,k58⟩:=pk0
  refine byc fun b_=>?_
  obtain ⟨t,rfl⟩:=hP
  obtain ⟨za,ea⟩:∃ z:Int,z=0 + (i:Int) * 1:=⟨_,rfl⟩
  refine b_ ?_;clear b_
  refine b_ ?_;clear b_
  rw [← ea] at F'
  have a0:0 ≤ za:=(rng_i ea).1
  have ean:za.toNat=i:=(rng_i ea).2
  have ai:=rng_z ea
  have F2:Fr h₀ L h2 (frm ((60,.int za t)::l1)):=F'
  have N2:News h₀ L h2 ((I,oI)::(R,rngO 0 5 t0 tz t1)::(323,tabObj ps1)::rest):=N'
  clear F' N' F1 N1 N1' F N
  k_steps
  refine (?_:wpAny _ _ _ _ _ _)
  refine rangeF2 F2 N2 fun R2 t2 h3 tk3 F3 N3 sR2=>?_
  refine byc fun b_=>?_
  obtain ⟨ty,N3⟩:∃ ty,News h₀ L h3 ((R2,rngO za 5 t ty t2)::(I,oI)::(R,rngO 0 5 t0 tz t1)::(323,tabObj ps1)::rest):=⟨_,N3⟩
  refine b_ ?_;clear b_
  k_steps
  refine (?_:ForNext _ _ _ _ _ _ _ _ _ _ _)
  refine' forG (k:=61) (iters_range (a:=za) (b:=5) (n:=5 - i) (t:=t) (u:=ty) (v:=t2) hA ⟨a0,ai ▸ Int.ofNat_le.mpr (Nat.le_trans (Nat.le_of_lt hi) (by decide))⟩ (by rw [ai,← Int.natCast_add,Nat.add_sub_cancel' (Nat.le_of_lt hi)];rfl) (Nat.le_trans (Nat.sub_le ..) (by decide))) ?hLa2 ?hx2 ?hpk2 ?yk2 F3 N3 (LoJ (fun ps=>(R2,rngO za 5 t ty t2)::(I,oI)::(R,rngO 0 5 t0 tz t1)::(323,tabObj ps)::rest) (fun l=>l.lookup 60=some (.int za t)) Dl Dt) ?h02 ?hax2 ?turn2 ?fin2
  case hLa2=>exact (N3 _ (List.mem_cons_self ..)).2.1.symm
  case hx2=>exact ll_b.kd
  case hpk2=>kernel_rfl!
  case yk2=>exact nx_b
  case h02=>exact ⟨ab1,ps1,rfl,tr1,look_top,look_skip rfl k57,look_skip rfl k58⟩
  case hax2=>rintro i l l' news h g ⟨_,ps',rfl,_⟩ F' N';exact (N' _ (List.mem_cons_self ..)).1
  case fin2 =>
   rintro l2 news h4 tk4 g4 pk0 F' N'
   refine byc fun b_=>?_
   obtain ⟨ab4,ps4,rfl,tr4,_,k57',k58'⟩:=pk0
   refine b_ ?_;clear b_
   k_steps
   refine (?_:TurnG _ _ _ _ _ _ _ _ _)
   refine turnG_end F' (news':=(R,rngO 0 5 t0 tz t1)::(323,tabObj ps4)::rest) (fun q hq=>N' q (List.mem_cons_of_mem _ hq)) (fun q hq=>?_) ⟨ab4,ps4,rfl,tr4,trivial,k57',k58'⟩
   revert q;refine List.forall_mem_cons.mpr ⟨?_,fun q hq=>?_⟩
   ·exact sepI _ (List.mem_cons_self ..)
   ·revert q;refine List.forall_mem_cons.mpr ⟨?_,fun q hq=>?_⟩
    ·exact sepI (323,tabObj ps1) (List.mem_cons_of_mem _ (List.mem_cons_self ..))
    ·exact sepI q (List.mem_cons_of_mem _ (List.mem_cons_of_mem _ hq))
  case turn2 =>
   rintro I2 i2 v l2 news g4 oI2 h4 tk4 hi2 hP pk0 F' N' sepI2
   refine byc fun b_=>?_
   obtain ⟨ab4,ps4,rfl,tr4,k60,k57',k58'⟩:=pk0
   refine byc fun b_=>?_
   obtain ⟨tb,rfl⟩:=hP
   obtain ⟨zb,eb⟩:∃ z:Int,z=za + (i2:Int) * 1:=⟨_,rfl⟩
   rw [← eb] at F'
   have bi:zb=((i + i2:Nat):Int):=by rw [eb,ai,Int.mul_one,Int.natCast_add]
   have b0:0 ≤ zb:=bi ▸ Int.natCast_nonneg _
   have b5n:i + i2 < 5:=Nat.add_lt_of_lt_sub' hi2
   have b5:zb.toNat < 5:=by rw [bi,Int.toNat_natCast];exact b5n
   have a5:za < 5:=ai ▸ Int.ofNat_lt.mpr hi
   have F4:Fr h₀ L h4 (frm ((61,.int zb tb)::l2)):=F'
   have n1:R ≠ 323:=fun e=>sR (323,tabObj ps) (List.mem_cons_self ..) e.symm
   have n2:I ≠ 323:=fun e=>sepI (323,tabObj ps1) (List.mem_cons_of_mem _ (List.mem_cons_self ..)) e.symm
   have n3:R2 ≠ 323:=fun e=>sR2 (323,tabObj ps1) (List.mem_cons_of_mem _ (List.mem_cons_of_mem _ (List.mem_cons_self ..))) e.symm
   have n4:I2 ≠ 323:=fun e=>sepI2 (323,tabObj ps4) (List.mem_cons_of_mem _ (List.mem_cons_of_mem _ (List.mem_cons_of_mem _ (List.mem_cons_self ..)))) e.symm
   obtain ⟨xa,qa,VA,pa,ua,sa,wa,hva,vA,sA,hia,hta,pA,xA,_⟩:=f5.at' (i:=za.toNat) (by rw [ean];exact hi)
   obtain ⟨xb,qb,VB,pb,ub,sb,wb,hvb,vB,sB,hib,htb,pB,xB,_⟩:=f5.at' (i:=zb.toNat) b5
   refine b_ ?_;clear b_
   refine b_ ?_;clear b_
   have big:∀ q ∈ rest,q ∈ (I2,oI2)::(R2,rngO za 5 t ty t2)::(I,oI)::(R,rngO 0 5 t0 tz t1)::rest:=fun q hq=>List.mem_cons_of_mem _ (List.mem_cons_of_mem _ (List.mem_cons_of_mem _ (List.mem_cons_of_mem _ hq)))
   refine st_turn (rest:=(I2,oI2)::(R2,rngO za 5 t ty t2)::(I,oI)::(R,rngO 0 5 t0 tz t1)::rest) X T r hA F4 (fun q hq=>N' q ?_) ?_ tr4 ab4 (look_skip rfl k60) look_top (look_skip rfl k57') (look_skip rfl k58') a0 a5 b0 (bi ▸ Int.ofNat_lt.mpr b5n) (big _ mv) dv (big _ mD) hva hvb vA vB (sA.le big) (sB.le big) (big _ yL) hia hib (big _ yT) hta htb f5.srt pA pB xA xB fun h5 tk5 g5 ps5 l5 F5 N5 tr5 ab5 z60 z57 z58=>?_
   ·exact memSub hq (by walk_at "my sub")
   ·intro q hq
    revert q;refine List.forall_mem_cons.mpr ⟨?_,fun q hq=>?_⟩
    ·exact n4
    ·revert q;refine List.forall_mem_cons.mpr ⟨?_,fun q hq=>?_⟩
     ·exact n3
     ·revert q;refine List.forall_mem_cons.mpr ⟨?_,fun q hq=>?_⟩
      ·exact n2
      ·revert q;refine List.forall_mem_cons.mpr ⟨?_,fun q hq=>?_⟩
       ·exact n1
       ·exact nt q hq
   ·refine (?_:TurnG _ _ _ _ _ _ _ _ _)
    refine turnG_end F5 (news':=(R2,rngO za 5 t ty t2)::(I,oI)::(R,rngO 0 5 t0 tz t1)::(323,tabObj ps5)::rest) (fun q hq=>N5 q ?_) (fun q hq=>?_) ⟨ab5,ps5,rfl,tr5,z60,z57,z58⟩
    ·exact memSub hq (by walk_at "my sub")
    ·revert q;refine List.forall_mem_cons.mpr ⟨?_,fun q hq=>?_⟩
     ·exact sepI2 _ (List.mem_cons_self ..)
     ·revert q;refine List.forall_mem_cons.mpr ⟨?_,fun q hq=>?_⟩
      ·exact sepI2 _ (List.mem_cons_of_mem _ (List.mem_cons_self ..))
      ·revert q;refine List.forall_mem_cons.mpr ⟨?_,fun q hq=>?_⟩
       ·exact sepI2 _ (List.mem_cons_of_mem _ (List.mem_cons_of_mem _ (List.mem_cons_self ..)))
       ·revert q;refine List.forall_mem_cons.mpr ⟨?_,fun q hq=>?_⟩
        ·exact n4.symm
        ·exact sepI2 q (List.mem_cons_of_mem _ (List.mem_cons_of_mem _ (List.mem_cons_of_mem _ (List.mem_cons_of_mem _ hq))))
section
variable {Q:Value→Shared→Prop} {h₀:Heap} {L l:Addr} {m:Str→Option Value} {news:List (Addr × Obj)} {vs:List Value} {α γ:Type}
inductive SortAt (s:Shared) (h₀:Heap) (L:Addr) (m:Str→Option Value) (pre:List (Addr × Obj)) (s':Shared):Prop
 | mk (h tk:_) (cj1:s'={ s with heap:=h,toks:=tk }) (cj2:Fr h₀ L h m) (cj3:News h₀ L h pre):SortAt s h₀ L m pre s'
theorem allIs_keys {is:Heap→Value→α→Prop} {emb:γ→List (Ne α)} {KV:Value→γ→Prop} {h:Heap} (hK:∀ k a,KV k a→TupIs (Ne.is is) h k (emb a)) {ks:List Value} {as:List γ} (x:Each KV ks as):AllIs (TupIs (Ne.is is)) h ks (as.map emb):=by
 induction x with
 | nil=>exact .nil
 | cons x _ ih=>exact .cons (hK _ _ x) ih
theorem katKeys_go {f:Value} {kS D:Addr} {e1:Nat} {as:List γ} {KV:Value→γ→Prop} {Fin:List Value→Nat→Shared→Prop} (l5:vs.length ≤ 5) (hlen:as.length=vs.length) (kD:D ≠ kS) (kN:∀ q ∈ news,q.1 ≠ kS)
  (hkey:∀ (i:Nat) v a,vs[i]?=some v→as[i]?=some a→∀ s',SortAt s h₀ L m news s'→codeAny (model prog w) A (.call f ⟨[v],[]⟩) (Ret s' fun k _=>KV k a) s')
  (hF:∀ ks e s',Each KV ks as→SortAt s h₀ L m ((kS,seqObj "list" (List.toArray ks) e)::(D,seqObj "list" #[] e1)::news) s'→Fin ks e s') (r:List Value) :
  ∀ (ks:List Value) (e:Nat) (s':Shared),r=vs.drop ks.length→Each KV ks (as.take ks.length)→SortAt s h₀ L m ((kS,seqObj "list" (List.toArray ks) e)::(D,seqObj "list" #[] e1)::news) s'→KatKeys prog w A h₀ L m kS f Fin r ks e s':=by
 induction r with
 | nil =>
  intro ks e s' hr hE hS
  have h1:vs.length ≤ ks.length:=List.drop_eq_nil_iff.mp hr.symm
  rw [List.take_of_length_le (hlen ▸ h1)] at hE
  exact KatKeys.nil (hF ks e s' hE hS)
 | cons v r ih =>
  intro ks e s' hr hE hS
  have hlt:ks.length < vs.length:=by
   rcases Nat.lt_or_ge ks.length vs.length with h | h
   ·exact h
   ·rw [List.drop_eq_nil_iff.mpr h] at hr;cases hr
  rw [List.drop_eq_getElem_cons hlt] at hr
  have hr:=List.cons.inj hr
  have hv:vs[ks.length]?=some v:=by rw [List.getElem?_eq_getElem hlt,hr.1]
  refine byc fun b_=>?_
  obtain ⟨a,ha⟩:∃ a,as[ks.length]?=some a:=⟨as[ks.length]'(hlen ▸ hlt),List.getElem?_eq_getElem _⟩
  obtain ⟨h1,tk1,rfl,F1,N1⟩:=hS
  refine b_ ?_;clear b_
  refine KatKeys.cons (wpAny_call (codeAny_mono (hkey _ v a hv ha _ ⟨h1,tk1,rfl,F1,fun p hp=>N1 p (List.mem_cons_of_mem _ (List.mem_cons_of_mem _ hp))⟩) fun rr s2 hr2=>?_))
  refine byc fun b_=>?_
  obtain ⟨k,h2,tk2,rfl,rfl,g2,hKV⟩:=hr2
  refine b_ ?_;clear b_
  refine KatBack.intro (fr_on F1 g2) (news_on N1 g2) (.head (List.forall_mem_cons.mpr ⟨kD,kN⟩)) fun h3 c F3 N3=>?_
  have e:(ks++[k]).length=ks.length + 1:=List.length_append ..
  refine ih (ks++[k]) c _ (e ▸ hr.2) ?_ ⟨h3,tk2,rfl,F3,N3⟩
  rw [e,← take_snoc ha]
  exact hE.snoc hKV
theorem sortedK {as:List γ} (d:γ) (emb:γ→List (Ne α)) (lt:γ→γ→Bool) {f:Value} {is:Heap→Value→α→Prop} {eqf opf:α→α→Bool} {ok:α→α→Prop} (KV:Value→γ→Prop)
  (K:∀ s',Fr h₀ L s'.heap m→∃ K:Kd prog w A.in1.in1 s' .Lt α,K.is=is∧K.eqf=eqf∧K.opf=opf∧K.ok=ok)
  (hni:∀ {h i t a},¬ is h (.int i t) a) (O:Ord γ lt) (hlt:∀ a b,neLt eqf opf (emb a) (emb b)=lt a b) (F:Fr h₀ L s.heap m) (N:News h₀ L s.heap news) (hl:s.heap.IsList l vs.toArray) (h2:2 ≤ vs.length) (h5:vs.length ≤ 5) (hlen:as.length=vs.length)
  (hKV:∀ k a h,KV k a→Fr h₀ L h m→News h₀ L h news→TupIs (Ne.is is) h k (emb a)) (hh:∀ a,∃ n r,emb a=Ne.n n::r) (hok:∀ a b,ZipOk (Ne.ok ok) (emb a).tail (emb b).tail)
  (ha1:argsOk "sorted" ⟨[.ref l],[("key",f)]⟩) (ha2:∀ x,argsOk "list.sort" ⟨[.ref x],[("key",f)]⟩) (ht:∀ x,Builtin.«list.sort» ⟨[.ref x],[("key",f)]⟩=ksk_tree x f false)
  (hkey:∀ (i:Nat) v a,vs[i]?=some v→as[i]?=some a→∀ s',SortAt s h₀ L m news s'→codeAny (model prog w) A.in1.in1 (.call f ⟨[v],[]⟩) (Ret s' fun k _=>KV k a) s')
  (h:∀ D c h' tk (p:Array Nat),permB vs.length p=true→(p.toList.Pairwise fun i j=>lt (as.getD j d) (as.getD i d)=false)→Fr h₀ L h' m→News h₀ L h' ((D,listOf (List.toArray (p.toList.map fun i=>vs.getD i .none)) c)::news)→(∀ q ∈ news,q.1 ≠ D)→Q (.ref D) { s with heap:=h',toks:=tk }) :
  wpAny (model prog w) A (call (.builtin "sorted") [.ref l] [("key",f)]) Q (fun _ _=>False) s:=by
 refine kat_sortedK F N hl h2 (by lia) ha1 ha2 ht fun D kS e1 h' F' N' lD lN=>?_
 have kD:D ≠ kS:=Nat.ne_of_lt lD
 have kN:∀ q ∈ news,q.1 ≠ kS:=fun q hq=>Nat.ne_of_lt (Nat.lt_trans (lN q hq) lD)
 have dN:∀ q ∈ news,q.1 ≠ D:=fun q hq=>Nat.ne_of_lt (lN q hq)
 refine katKeys_go (s:=s) (as:=as) (KV:=KV) h5 hlen kD kN hkey (fun ks e s' hE hS=>?_) vs [] 0 _ rfl .nil ⟨h',s.toks,rfl,F',N'⟩
 have lk:ks.length=vs.length:=by rw [hE.len,hlen]
 have HI:HeadInt (as.map emb):=fun a ha=>by
  refine byc fun b_=>?_
  obtain ⟨b,_,rfl⟩:=List.mem_map.mp ha
  refine b_ ?_;clear b_
  exact hh b
 have tl:∀ {x y:Addr × Obj} {h:Heap},News h₀ L h (x::y::news)→News h₀ L h news:=fun n p hp=>n p (List.mem_cons_of_mem _ (List.mem_cons_of_mem _ hp))
 refine byc fun b_=>?_
 obtain ⟨h1,tk1,rfl,F1,N1⟩:=hS
 obtain ⟨fs,g1,g2,g3⟩:=katTups_of (allIs_keys (fun k a hk=>hKV k a h1 hk F1 (tl N1)) hE) HI
 refine b_ ?_;clear b_
 refine kat_kind (T:=.type "int") g1 (by lia) (fun f hf=>?_) (by decide) ?_
 ·refine byc fun b_=>?_
  obtain ⟨n,t,rfl⟩:=g3 f hf
  refine b_ ?_;clear b_
  exact Looks.of_pure rfl
 have e0:katRev false ks=ks:=rfl
 have e0':katRev false vs=vs:=rfl
 rw [e0,e0']
 have chk:chkB vs.length [] (kas_sort vs.length)=true:=by
  have:vs.length=2∨vs.length=3∨vs.length=4∨vs.length=5:=by lia
  rcases this with e | e | e | e
  ·rw [e];exact chk2
  ·rw [e];exact chk3
  ·rw [e];exact chk4
  ·rw [e];exact chk5
 refine kas_good O (fun i=>as.getD i d) (Inv:=SortAt s h₀ L m ((kS,seqObj "list" (List.toArray ks) e)::(D,seqObj "list" #[] e1)::news)) ?_ ?_ _ [] _ chk (fun _ he=>nomatch he) ⟨h1,tk1,rfl,F1,N1⟩
 ·rintro i j C s' hi hj ⟨h3,tk3,rfl,F3,N3⟩ hC
  have V:=allIs_keys (fun k a hk=>hKV k a h3 hk F3 (tl N3)) hE
  refine byc fun b_=>?_
  obtain ⟨a',q1,i1⟩:=allIs_at V (by lia:i < ks.length)
  obtain ⟨b',q2,i2⟩:=allIs_at V (by lia:j < ks.length)
  rw [List.getElem?_map] at q1 q2
  obtain ⟨a,q3,rfl⟩:=Option.map_eq_some_iff.mp q1
  obtain ⟨b,q4,rfl⟩:=Option.map_eq_some_iff.mp q2
  refine b_ ?_;clear b_
  have ea:as.getD i d=a:=by rw [List.getD_eq_getElem?_getD,q3];rfl
  have eb:as.getD j d=b:=by rw [List.getD_eq_getElem?_getD,q4];rfl
  rw [ea,eb,← hlt] at hC
  have z:=hok a b
  refine byc fun b_=>?_
  obtain ⟨n,r,en⟩:=hh a
  obtain ⟨n',r',en'⟩:=hh b
  rw [en] at i1 hC z
  rw [en'] at i2 hC z
  obtain ⟨K,k1,k2,k3,k4⟩:=K { s with heap:=h3,toks:=tk3 } F3
  refine b_ ?_;clear b_
  show wpAny (model prog w) A.in1.in1 (keyLt' (tuples' true) (ks.getD i .none) (ks.getD j .none)) C (fun _ _=>False) _
  refine byc fun b_=>?_
  obtain ⟨x,_,_,_,ex,_⟩:=id i1
  obtain ⟨y,_,_,_,ey,_⟩:=id i2
  refine b_ ?_;clear b_
  rw [ex] at i1 ⊢
  rw [ey] at i2 ⊢
  rw [← k1] at i1 i2
  rw [← k2,← k3] at hC
  rw [← k4] at z
  refine tup_keyLt K (fun q=>hni (by rw [k1] at q;exact q)) (.refl _) i1 i2 z fun s'' o=>?_
  refine byc fun b_=>?_
  obtain ⟨h'',tk'',rfl,g⟩:=o
  refine b_ ?_;clear b_
  exact hC _ ⟨h'',tk'',rfl,fr_on F3 g,news_on N3 g⟩
 ·rintro p s' ⟨h3,tk3,rfl,F3,N3⟩ hp hs
  refine KatFin.intro F3 N3 (.head fun q hq=>?_) fun h4 c F4 N4=>?_
  ·revert q;refine List.forall_mem_cons.mpr ⟨?_,fun q hq=>?_⟩
   ·exact kD
   ·exact kN q hq
  refine KasFin.intro (news:=(D,seqObj "list" #[] e1)::(kS,seqObj "list" #[] c)::news) F4 (newsSw N4) (.head fun q hq=>?_) fun h5' c' F5 N5=>?_
  ·revert q;refine List.forall_mem_cons.mpr ⟨?_,fun q hq=>?_⟩
   ·exact kD.symm
   ·exact dN q hq
  refine h D c' h5' tk3 p hp hs F5 (fun q hq=>N5 q ?_) dN
  revert q;refine List.forall_mem_cons.mpr ⟨?_,fun q hq=>?_⟩
  ·exact List.mem_cons_self ..
  ·exact List.mem_cons_of_mem _ (List.mem_cons_of_mem _ hq)
end
theorem ver_precQ {q:Heap} {x:Addr} {a:VerOf} (X:(hd.heap_1 w.params).In s.heap) (T:Top p loose mean mg mb s.heap) (hx:Ver q x a) (g:Grown q s.heap) (r:Rm A 2) :
  codeAny (model prog w) A (.call (.ref 335) ⟨[.ref x],[]⟩) (Ret s fun v _=>KeyIs q v a.k5) s:=by
 refine byc fun b_=>?_
 obtain ⟨pa,pb,_,_,_,_,_,_,la,lb,⟨_,_,_,_,_,_,_,_,_,_,_,_,_,_,_,_,_,I0⟩,_,_,_,K⟩:=hx
 refine b_ ?_;clear b_
 have I:=instKeep I0 g
 clear I0
 apply enter (w:=w) [("self",.ref x)] [(11,.ref x)] X T
 walk_at "my enter"
 case hnm=>exact namesC nx_self (namesN)
 intro L h1 tk F N
 refine addLoc nx_self (by kernel_rfl!) ?_;intro n_self
 k_steps
 (try dsimp only)
 rename Fr _ _ _ _=>F
 exact ret_end F K
theorem rs87m0:True:=by
 k_with "@eval Name"=>(fail_if_success k_extra "e87");apply unhold
 k_with "@getAttr ref"=>(fail_if_success k_extra "e87");apply unhold
 exact trivial
theorem lam_call {q:Heap} {f x c':Addr} {a:VerOf} {name qual:Str} {params:Arguments} {scope:Scope} {p1 p2:Pos} {pm ctv:Value} (X:(hd.heap_1 w.params).In s.heap) (T:Top p loose mean mg mb s.heap) (r:Rm A 5)
  (ho:s.heap.get? f=some (kla_obj name qual params (.Attribute (.Name "that" p1) "precedence_key" p2) scope [] pm c' ctv)) (hcd:s.heap.CodeRec (.ref c') qual)
  (hb:bindArgs (kla_fn name qual params (.Attribute (.Name "that" p1) "precedence_key" p2) scope [] pm (.ref c') ctv) ⟨[.ref x],[]⟩=pure [((Str.ofString "that"),Value.ref x)])
  (hk:scope.kind=.function) (hl:scope.names.lookup (Str.ofString "that")=some .local) (hcell:∀ x ∈ scope.names,x.2 ≠ .cell) (hco:scope.isCoroutine=false) (hgen:scope.isGenerator=false)
  (hx:Ver q x a) (g:Grown q s.heap) :
  codeAny (model prog w) A (.call (.ref f) ⟨[.ref x],[]⟩) (Ret s fun k _=>KeyIs q k a.k5) s:=by
 refine kla_callFunE r.here ho rfl hco hgen rfl hcd ?_
 rw [hb]
 refine wpAny_pure (wpAny_newFunctionEnv hcell (fun y hy=>by rw [List.mem_singleton.mp hy];exact hl) (fun h₁ hns hsb=>⟨(T.nolimit).fresh _ hsb,?_⟩) hk)
 show codeAny _ _ (.expr _ (envX qual scope s.heap.objs.size f (.ref c') [])) _ _
 have hk₁:Grown s.heap h₁:=fun b o e=>hsb.extBut b o (Nat.ne_of_lt (Heap.lt_size e)) (Heap.get?_push_of_some _ e)
 have F:Fr s.heap s.heap.objs.size h₁ (frm [(72,.ref x)]):=by
  refine ⟨?_,hk₁,Nat.le_refl _⟩
  rw [← frm_binds (bl:=[((Str.ofString "that"),Value.ref x)]) (namesC nx_that namesN)]
  exact hns
 refine kla_codeExpr ?_
 have n_that:Loc scope "that" 72:=⟨nx_that,hl⟩
 k_steps
 show wpAny _ _ _ _ _ _
 refine ldLX F n_that look_top ?_ hk
 k_steps
 show wpAny _ _ _ _ _ _
 refine byc fun b_=>?_
 obtain ⟨ox,od,I⟩:=(hx.keep (Grown.trans g hk₁)).inst
 refine b_ ?_;clear b_
 refine get_prop (p:=336) (fget:=335) F X I (by k_is) (by k_is) (by k_is) (by k_is) (by k_is) (by k_is) ?_
 refine codeAny_mono (ver_precQ (X.keeps hk₁) (T.keeps hk₁) hx (Grown.trans g hk₁) ((r.deeper 4 (by decide)).in1 2 (by decide))) fun rr s2 hr=>?_
 refine byc fun b_=>?_
 obtain ⟨k,h2,tk2,rfl,rfl,g2,hK⟩:=hr
 obtain ⟨c,_,_,_,rfl,_⟩:=id hK
 refine b_ ?_;clear b_
 exact handed_on rfl ⟨_,h2,tk2,rfl,rfl,fun b o e=>g2 b o (hk₁ b o e),hK⟩
theorem rs87e:True:=by
 k_with "e87"=>skip
 exact trivial
noncomputable def noVer:VerOf:=⟨0,0,0,[],[],[],[]⟩
section
variable {Q:Value→Shared→Prop} {h₀:Heap} {L l:Addr} {m:Str→Option Value} {news rest:List (Addr × Obj)} {vs:List Value} {vers:List VerOf}
theorem sort_versions {f c':Addr} {name qual:Str} {params:Arguments} {scope:Scope} {p1 p2:Pos} {pm ctv:Value} {oc:Obj} {cvs:Array Value} {ct:Tok} (X:(hd.heap_1 w.params).In h₀) (T:Top p loose mean mg mb h₀) (r:Rm A 19) (F:Fr h₀ L s.heap m) (N:News h₀ L s.heap news) (hr:∀ q ∈ rest,q ∈ news)
  (hf:(f,kla_obj name qual params (.Attribute (.Name "that" p1) "precedence_key" p2) scope [] pm c' ctv) ∈ news) (hc:(c',oc) ∈ news) (hd:oc.data=.fields cvs) (hv:cvs[1]?=some (.str qual ct))
  (hb:∀ x,bindArgs (kla_fn name qual params (.Attribute (.Name "that" p1) "precedence_key" p2) scope [] pm (.ref c') ctv) ⟨[.ref x],[]⟩=pure [((Str.ofString "that"),Value.ref x)])
  (hk:scope.kind=.function) (hlk:scope.names.lookup (Str.ofString "that")=some .local) (hcell:∀ x ∈ scope.names,x.2 ≠ .cell) (hco:scope.isCoroutine=false) (hgen:scope.isGenerator=false)
  (hl:s.heap.IsList l vs.toArray) (hE:Each (VerLd rest) vs vers) (n5:vers.length=5)
  (h:∀ D c h' tk (p:Array Nat),permB 5 p=true→(p.toList.Pairwise fun i j=>verLt (vers.getD j noVer) (vers.getD i noVer)=false)→Fr h₀ L h' m→News h₀ L h' ((D,listOf (List.toArray (p.toList.map fun i=>vs.getD i .none)) c)::news)→(∀ q ∈ news,q.1 ≠ D)→Q (.ref D) { s with heap:=h',toks:=tk }) :
  wpAny (model prog w) A (call (.builtin "sorted") [.ref l] [("key",.ref f)]) Q (fun _ _=>False) s:=by
 have v5:vs.length=5:=by rw [hE.len,n5]
 have r1:Rm A.in1 18:=r.in1 18 (by decide)
 have r2:Rm A.in1.in1 17:=r1.in1 17 (by decide)
 have r3:Rm A.in1.in1.in1 16:=r2.in1 16 (by decide)
 refine sortedK (as:=vers) noVer VerOf.k5 verLt (is:=TupIs IdIs) (eqf:=eqL Idn.beq) (opf:=idsOp .Lt) (ok:=ZipOk fun _ _=>True) (fun k a=>∃ q,Sub q rest∧KeyIs q k a.k5)
  (fun s' F'=>⟨kdTup (A:=A.in1.in1) (kdId (A:=A.in1.in1.in1) (X.keeps F'.keep) (T.keeps F'.keep) (r3.le 3 (by decide)) fun _ _=>.inl rfl) r2.un fun _ _=>.inl rfl,rfl,rfl,rfl,rfl⟩)
  (fun h=>by obtain ⟨_,_,_,_,e,_⟩:=h;cases e) verOrd k5_lt F N hl (by lia) (by lia) (by lia) (fun k a h1 hk F1 N1=>?_) (fun a=>⟨a.n0,_,rfl⟩) (fun a b=>(ok55 a b).2) (ksk_s1 _ _) (fun x=>ksk_l1 _ _) (fun x=>ksk_t1 _ _) (fun i v a hvi hai s' hS=>?_) (fun D c h' tk p hp hs=>?_)
 ·refine byc fun b_=>?_
  obtain ⟨q,hs,hk⟩:=hk
  refine b_ ?_;clear b_
  exact KeyIs.keep ((hs.le hr).grown N1) hk
 ·refine byc fun b_=>?_
  obtain ⟨h1,tk1,rfl,F1,N1⟩:=hS
  obtain ⟨a',ha',q,x,rfl,hver,hsub⟩:=hE.get hvi
  refine b_ ?_;clear b_
  rw [hai] at ha'
  cases ha'
  refine codeAny_mono (lam_call (X.keeps F1.keep) (T.keeps F1.keep) (r2.le 5 (by decide)) (N1 _ hf).1 ⟨c',oc,cvs,ct,rfl,(N1 _ hc).1,hd,hv⟩ (hb x) hk hlk hcell hco hgen hver ((hsub.le hr).grown N1)) fun rr s2 hr2=>?_
  refine byc fun b_=>?_
  obtain ⟨k,h2,tk2,rfl,rfl,g2,hK⟩:=hr2
  refine b_ ?_;clear b_
  exact ⟨k,h2,tk2,rfl,rfl,g2,q,hsub,hK⟩
 ·rw [v5] at hp
  exact h D c h' tk p hp hs
theorem st_388 (w:World):findIn (hd.heap_1 w.params) (.ref 388) "__str__"=some (some (.ref 320))∧isFn (hd.heap_1 w.params) (.ref 320)=true:=⟨by k_is,by k_is⟩
theorem bld_bounds {j:Nat} (h:j < 4):((lawBld j).map (·.length)).sum + (lawBld j).length * (Str.ofString ".").length ≤ 16777216∧(Txt.join "." (lawBld j)).length ≤ 10000:=by
 have key:∀ j:Fin 4,((lawBld j.val).map (·.length)).sum + (lawBld j.val).length * (Str.ofString ".").length ≤ 16777216∧(Txt.join "." (lawBld j.val)).length ≤ 10000:=by decide +kernel
 exact key ⟨j,h⟩
theorem strF {E:Value→Shared→Prop} {x:Addr} {a:VerOf} {pt:Pt} {j:Nat} (F:Fr h₀ L s.heap m) (N:News h₀ L s.heap news) (X:(hd.heap_1 w.params).In h₀) (T:Top p loose mean mg mb h₀) (r:Rm A 19) (hx:Ver s.heap x a) (va:VP a pt j) (hw:PtW pt)
  (h:∀ t h' tk,Fr h₀ L h' m→News h₀ L h' news→Q (.str a.text t) { s with heap:=h',toks:=tk }):wpAny (model prog w) A (call (.type "str") [.ref x]) Q E s:=by
 have r1:Rm A.in1 18:=r.in1 18 (by decide)
 have r2:Rm A.in1.in1 17:=r1.in1 17 (by decide)
 refine byc fun b_=>?_
 obtain ⟨ox,od,I⟩:=hx.inst
 obtain ⟨b1,b2,_⟩:=pt_bounds hw
 obtain ⟨b3,b4⟩:=bld_bounds va.lt
 refine b_ ?_;clear b_
 refine kso_call r2.un (X.keeps F.keep) I (st_388 w).1 (st_388 w).2 ?_
 refine useF F N (ver_str (X.keeps F.keep) (T.keeps F.keep) hx (r2.le 6 (by decide)) (by rw [va.n0];exact hw.b0.1) (by rw [va.n1];exact hw.b1.1) (by rw [va.n2];exact hw.b2.1) (by rw [va.n0];exact hw.b0.2) (by rw [va.n1];exact hw.b1.2) (by rw [va.n2];exact hw.b2.2) (by rw [va.pre];exact b1) (by rw [va.bld];exact b3) (by rw [va.pre];exact b2) (by rw [va.bld];exact b4)) fun v h' tk F' N' ⟨t,e⟩=>?_
 refine byc fun b_=>?_
 subst e
 refine b_ ?_;clear b_
 exact h t h' tk F' N'
end
theorem rs89m0:True:=by
 k_with "@call builtin:sorted"=>apply unhold
 k_with "@call type:str"=>apply unhold
 exact trivial
theorem Each.mem {α β:Type} {P:α→β→Prop} {as:List α} {bs:List β} (x:Each P as bs):∀ {a:α},a ∈ as→∃ b ∈ bs,P a b:=by
 induction x with
 | nil=>exact fun h=>nomatch h
 | cons p _ ih=>exact fun h=>(List.mem_cons.mp h).elim (fun e=>⟨_,List.mem_cons_self ..,e ▸ p⟩) fun h=>(ih h).imp fun _ q=>⟨List.mem_cons_of_mem _ q.1,q.2⟩
noncomputable abbrev rowOf (vers:List VerOf) (p:Array Nat):List VerOf:=p.toList.map fun i=>vers.getD i noVer
theorem row_ver {vers:List VerOf} {vs:List Value} {p:Array Nat} {nl:List (Addr × Obj)} (hp:permB 5 p=true) (hE:Each (VerLd nl) vs vers) (n5:vers.length=5) {i:Nat} {v:Value} (h:(p.toList.map fun i=>vs.getD i .none)[i]?=some v) :
  ∃ a x q,(rowOf vers p)[i]?=some a∧a ∈ vers∧v=.ref x∧Ver q x a∧Sub q nl:=by
 rw [List.getElem?_map] at h
 refine byc fun b_=>?_
 obtain ⟨j,hj,e⟩:=Option.map_eq_some_iff.mp h
 refine b_ ?_;clear b_
 have hj5:j < 5:=List.mem_range.mp ((permB_perm hp).mem_iff.mp (List.mem_of_getElem? hj))
 have hjv:j < vs.length:=by rw [hE.len,n5];exact hj5
 refine byc fun b_=>?_
 obtain ⟨a,ha,q,x,ex,hver,hsub⟩:=hE.get (i:=j) (a:=vs[j]) (List.getElem?_eq_getElem hjv)
 refine b_ ?_;clear b_
 refine ⟨a,x,q,?_,List.mem_of_getElem? ha,?_,hver,hsub⟩
 ·rw [List.getElem?_map,hj]
  show some (vers.getD j noVer)=some a
  rw [List.getD_eq_getElem?_getD,ha];rfl
 ·rw [← e,← ex]
  simp [List.getD,hjv]
set_option maxHeartbeats 1000000 in
theorem st_row {h₀:Heap} {L cn cp cb cw cv Dv:Addr} {ov:Obj} {rest:List (Addr × Obj)} {l:List (Nat × Value)} {vv:List Value} {kv:Nat} {vers:List VerOf} {pjs:List (Pt × Nat)} {Q:Flow→Shared→Prop}
  (X:(hd.heap_1 w.params).In h₀) (T:Top p loose mean mg mb h₀) (r:Rm A 19) (hA:A.handled=none)
  (F:Fr h₀ L s.heap (frm l)) (N:News h₀ L s.heap ((457,tabObj #[])::rest)) (sep:∀ p ∈ rest,p.1 ≠ 457)
  (mv:(cv,ov) ∈ rest) (dv:ov.data=.cell (some (.ref Dv))) (mD:(Dv,listOf vv.toArray kv) ∈ rest) (hE:Each (VerLd rest) vv vers) (hV:Each VPj vers pjs) (n5:pjs.length=5) (hw:∀ x ∈ pjs,PtW x.1∧x.2 < 4)
  (h:∀ h' tk D k (lr:List (Str × Tok)) (p:Array Nat) (t2:Array Value),Fr h₀ L h' (frm ((68,.ref D)::l))→News h₀ L h' ((457,tabObj t2)::(D,listOf (strValues lr).toArray k)::rest)→(∃ c0 c',t2=#[rawInt 419,rawInt c0,.ref c'])→permB 5 p=true→(p.toList.Pairwise fun i j=>verLt (vers.getD j noVer) (vers.getD i noVer)=false)→lr.map (·.1)=(rowOf vers p).map VerOf.text→(∀ q ∈ rest,q.1 ≠ D)→D ≠ 457→Q .next { s with heap:=h',toks:=tk }) :
  wpAny (model prog w) A (exec (lawStmt 8) (lawEnv L cn cp cb cw cv)) Q (fun _ _=>False) s:=by
 have n_sorted:=lb_sorted w
 have n_versions:=lc_versions (cn:=cn) (cp:=cp) (cb:=cb) (cw:=cw) (cv:=cv)
 have mv':(cv,ov) ∈ (457,tabObj #[])::rest:=List.mem_cons_of_mem _ mv
 have ve5:vers.length=5:=by rw [hV.len,n5]
 conv in lawStmt _=>whnf
 k_steps
 refine kla_eval rfl ?_
 refine kla_nest (P:=457) (ps:=#[]) F N T (codeHd_of_K X (by kernel_rfl)) rfl (.head sep) trivial rfl (by with_unfolding_all rfl) fun f c' oc cvs ct ctv h1 tk1 F1 N1 hd1 hv1 lt1 lt2=>?_
 k_steps
 refine (?_:wpAny _ _ (call (.builtin "sorted") [.ref Dv] [("key",.ref f)]) _ _ _)
 refine sort_versions X T r F1 N1 (rest:=rest) (fun q hq=>List.mem_cons_of_mem _ (List.mem_cons_of_mem _ (List.mem_cons_of_mem _ hq))) (List.mem_cons_self ..) (List.mem_cons_of_mem _ (List.mem_cons_self ..)) hd1 hv1 (fun x=>rfl) rfl rfl (by decide) rfl rfl ⟨_,(N1 (Dv,listOf vv.toArray kv) (List.mem_cons_of_mem _ (List.mem_cons_of_mem _ (List.mem_cons_of_mem _ mD)))).1,rfl,_,rfl⟩ hE ve5 fun D1 k1 h2 tk2 pp hpp hps F2 N2 sD=>?_
 k_steps
 refine (?_:CompNext _ _ _ _ _ _ _ _ _ _ _ _ _ _ _ _ _)
 obtain ⟨t2,ht2,N3⟩:∃ t2:Array Value,(∃ c0 c',t2=#[rawInt 419,rawInt c0,.ref c'])∧News h₀ L h2 ((D1,listOf (List.toArray (pp.toList.map fun i=>vv.getD i .none)) k1)::(457,tabObj t2)::rest):=by
  refine ⟨#[]++#[rawInt 419,rawInt 54,.ref c'],⟨54,c',rfl⟩,fun q hq=>?_⟩
  revert q;refine List.forall_mem_cons.mpr ⟨?_,fun q hq=>?_⟩
  ·exact N2 _ (List.mem_cons_self ..)
  ·revert q;refine List.forall_mem_cons.mpr ⟨?_,fun q hq=>?_⟩
   ·exact N2 (457,_) (List.mem_cons_of_mem _ (List.mem_cons_of_mem _ (List.mem_cons_of_mem _ (List.mem_cons_self ..))))
   ·exact N2 q (List.mem_cons_of_mem _ (List.mem_cons_of_mem _ (List.mem_cons_of_mem _ (List.mem_cons_of_mem _ hq))))
 have lp:pp.toList.length=5:=(permB_perm hpp).length_eq.trans (by simp)
 refine' comp_assignN (L:=L) ?e1 ?e2 ?e3 nx_row (iters_list (vs:=pp.toList.map fun i=>vv.getD i .none) (k:=k1) hA) ?n1 ?cell ?e4 ?e5 F2 N3 (fun _=>strValues) (fun i lr=>lr.map (·.1)=((rowOf vers pp).take i).map VerOf.text) [] rfl rfl ?hax ?turn ?fin
 case e1=>rfl
 case e2=>exact ll_row.kd
 case e3=>kernel_rfl!
 case e4=>rfl
 case e5=>rfl
 case n1=>rw [List.length_map,lp];decide
 case cell=>decide
 case hax=>exact fun h _ N'=>(N' _ mH).1
 case turn =>
  intro I C D i v lr oI oC nD h3 tk hi' hi hP hlr F' N' sep' hNO hv
  refine byc fun b_=>?_
  obtain ⟨a,x,q,ha,hmem,rfl,hver,hsub⟩:=row_ver hpp hE ve5 hP
  obtain ⟨pj,hpj,va⟩:=hV.mem hmem
  refine b_ ?_;clear b_
  refine no_tests ?_
  simp only [if_true]
  k_steps
  refine (?_:wpAny _ _ _ _ _ _)
  refine strF F' N' X T r (hver.keep ((hsub.le fun q hq=>List.mem_cons_of_mem _ (List.mem_cons_of_mem _ (List.mem_cons_of_mem _ (List.mem_cons_of_mem _ (List.mem_cons_of_mem _ hq))))).grown N')) va (hw pj hpj).1 fun t h4 tk4 F4 N4=>?_
  refine compTurn_end F4 N4 sep' ⟨lr++[(_,_)],List.map_append,rfl,rfl,?_⟩
  rw [List.map_append,hlr,← take_snoc ha,List.map_append];rfl
 case fin =>
  intro D lr h3 tk nD hlr F' N' sep'
  rw [List.take_of_length_le (by rw [List.length_map,List.length_map];exact Nat.le_refl _)] at hlr
  refine h h3 tk D nD lr pp t2 F' (fun q hq=>N' q ?_) ht2 hpp hps hlr (fun q hq=>sep' q (List.mem_cons_of_mem _ (List.mem_cons_of_mem _ hq))) (sep' (457,tabObj t2) (List.mem_cons_of_mem _ (List.mem_cons_self ..))).symm
  exact memSub hq (by walk_at "my sub")
theorem Each.reverse {α β:Type} {P:α→β→Prop} {as:List α} {bs:List β} (x:Each P as bs):Each P as.reverse bs.reverse:=by
 induction x with
 | nil=>exact .nil
 | cons p _ ih=>rw [List.reverse_cons,List.reverse_cons];exact ih.snoc p
theorem tab_out {h₀ h:Heap} {L:Addr} {x y z u:Addr × Obj} {t:Array Value} {rest:List (Addr × Obj)} (N:News h₀ L h (x::y::z::(457,tabObj t)::u::rest)):∃ t3:Array Value,News h₀ L h (x::(457,tabObj t3)::rest):=by
 exact ⟨t,List.forall_mem_cons.mpr ⟨N _ (List.mem_cons_self ..),List.forall_mem_cons.mpr ⟨N (457,tabObj t) (List.mem_cons_of_mem _ (List.mem_cons_of_mem _ (List.mem_cons_of_mem _ (List.mem_cons_self ..)))),fun q hq=>N q (List.mem_cons_of_mem _ (List.mem_cons_of_mem _ (List.mem_cons_of_mem _ (List.mem_cons_of_mem _ (List.mem_cons_of_mem _ hq)))))⟩⟩⟩
theorem back4 {i:Nat} (h:i < 5):(0 ≤ 0 + (i:Int) * 1∧0 + (i:Int) * 1 < 5∧0 ≤ 4 - (0 + (i:Int) * 1))∧(4 - (0 + (i:Int) * 1)).toNat=4 - i:=(by decide:∀ i:Fin 5,(0 ≤ 0 + (i.val:Int) * 1∧0 + (i.val:Int) * 1 < 5∧0 ≤ 4 - (0 + (i.val:Int) * 1))∧(4 - (0 + (i.val:Int) * 1)).toNat=4 - i.val) ⟨i,h⟩
set_option maxHeartbeats 1000000 in
theorem st_back {h₀:Heap} {L cn cp cb cw cv Dv:Addr} {ov:Obj} {rest:List (Addr × Obj)} {l:List (Nat × Value)} {vv:List Value} {kv:Nat} {vers:List VerOf} {pjs:List (Pt × Nat)} {t2:Array Value} {Q:Flow→Shared→Prop}
  (X:(hd.heap_1 w.params).In h₀) (T:Top p loose mean mg mb h₀) (r:Rm A 19) (hA:A.handled=none)
  (F:Fr h₀ L s.heap (frm l)) (N:News h₀ L s.heap ((457,tabObj t2)::rest)) (sep:∀ p ∈ rest,p.1 ≠ 457) (ht2:∃ c0 c',t2=#[rawInt 419,rawInt c0,.ref c'])
  (mv:(cv,ov) ∈ rest) (dv:ov.data=.cell (some (.ref Dv))) (mD:(Dv,listOf vv.toArray kv) ∈ rest) (hE:Each (VerLd rest) vv vers) (hV:Each VPj vers pjs) (n5:pjs.length=5) (hw:∀ x ∈ pjs,PtW x.1∧x.2 < 4)
  (h:∀ h' tk D k (lr:List (Str × Tok)) (p:Array Nat) (t3:Array Value),Fr h₀ L h' (frm ((69,.ref D)::l))→News h₀ L h' ((D,listOf (strValues lr).toArray k)::(457,tabObj t3)::rest)→permB 5 p=true→(p.toList.Pairwise fun i j=>verLt (vers.reverse.getD j noVer) (vers.reverse.getD i noVer)=false)→lr.map (·.1)=(rowOf vers.reverse p).map VerOf.text→(∀ q ∈ rest,q.1 ≠ D)→Q .next { s with heap:=h',toks:=tk }) :
  wpAny (model prog w) A (exec (lawStmt 9) (lawEnv L cn cp cb cw cv)) Q (fun _ _=>False) s:=by
 have n_sorted:=lb_sorted w
 have n_range:=lb_range w
 have n_versions:=lc_versions (cn:=cn) (cp:=cp) (cb:=cb) (cw:=cw) (cv:=cv)
 have ve5:vers.length=5:=by rw [hV.len,n5]
 have v5:vv.length=5:=by rw [hE.len,ve5]
 have vr5:vers.reverse.length=5:=by rw [List.length_reverse,ve5]
 conv in lawStmt _=>whnf
 k_steps
 refine (?_:wpAny _ _ _ _ _ _)
 refine rangeF1 F N fun R t0 t1 h1 tk1 F1 N1 sR=>?_
 k_steps
 refine (?_:CompNext _ _ _ _ _ _ _ _ _ _ _ _ _ _ _ _ _)
 refine byc fun b_=>?_
 obtain ⟨tz,N1'⟩:∃ tz,News h₀ L h1 ((R,rngO 0 5 t0 tz t1)::(457,tabObj t2)::rest):=⟨_,N1⟩
 refine b_ ?_;clear b_
 have mv':(cv,ov) ∈ (R,rngO 0 5 t0 tz t1)::(457,tabObj t2)::rest:=List.mem_cons_of_mem _ (List.mem_cons_of_mem _ mv)
 have mD':(Dv,listOf vv.toArray kv) ∈ (R,rngO 0 5 t0 tz t1)::(457,tabObj t2)::rest:=List.mem_cons_of_mem _ (List.mem_cons_of_mem _ mD)
 refine' comp_evalN (iters_range (a:=0) (b:=5) (n:=5) (t:=t0) (u:=tz) (v:=t1) hA (by decide) rfl (by decide)) ?n1 ?cell ?hk ?hx F1 N1' (fun i _=>vv.reverse.take i) (fun _ _=>True) () rfl trivial ?hax ?turn ?fin
 case n1=>decide
 case cell=>decide
 case hk=>rfl
 case hx=>rfl
 case hax=>exact fun h _ N'=>(N' _ mH).1
 case turn =>
  intro I C D i v _ oI oC nD h2 tk mC hi hP _ F' N' sep' hNO hv
  refine byc fun b_=>?_
  obtain ⟨t,rfl⟩:=hP
  have bi:=back4 hi
  obtain ⟨z,ez⟩:∃ z:Int,z=0 + (i:Int) * 1:=⟨_,rfl⟩
  rw [← ez] at hv bi
  have z0:0 ≤ z:=bi.1.1
  have z5:z < 5:=bi.1.2.1
  have z4:0 ≤ 4 - z:=bi.1.2.2
  have ezn:=bi.2
  have il:i < vv.length:=v5 ▸ hi
  obtain ⟨y,hy⟩:∃ y,vv[(4 - z).toNat]?=some y:=⟨vv[(4 - z).toNat]'(by rw [ezn,v5];exact Nat.lt_of_le_of_lt (Nat.sub_le ..) (by decide)),List.getElem?_eq_getElem _⟩
  refine b_ ?_;clear b_
  refine no_tests ?_
  simp only [if_true]
  k_steps
  refine compTurn_end F' N' sep' ⟨(),(take_snoc ?_).symm,rfl,rfl,trivial⟩
  rw [List.getElem?_reverse il,← hy,ezn,v5]
 case fin =>
 intro Db _ h2 tk2 nD _ F0 N0 sepb
 rw [List.take_of_length_le (by rw [List.length_reverse,v5];exact Nat.le_refl _)] at N0
 have N00:News h₀ L h2 ((457,tabObj t2)::(Db,listOf (List.toArray vv.reverse) nD)::rest):=List.forall_mem_cons.mpr ⟨N0 (457,tabObj t2) (List.mem_cons_of_mem _ (List.mem_cons_of_mem _ (List.mem_cons_self ..))),List.forall_mem_cons.mpr ⟨N0 _ (List.mem_cons_self ..),fun q hq=>N0 q (List.mem_cons_of_mem _ (List.mem_cons_of_mem _ (List.mem_cons_of_mem _ hq)))⟩⟩
 have dB:Db ≠ 457:=(sepb (457,tabObj t2) (List.mem_cons_of_mem _ (List.mem_cons_self ..))).symm
 refine byc fun b_=>?_
 obtain ⟨c0,cq,rfl⟩:=ht2
 refine b_ ?_;clear b_
 k_steps
 refine kla_eval rfl ?_
 refine kla_nest (P:=457) (ps:=#[rawInt 419,rawInt c0,.ref cq]) F0 N00 T (codeHd_of_K X (by kernel_rfl)) rfl (.head fun q hq=>(List.mem_cons.mp hq).elim (fun e=>by rw [e];exact dB) fun hq=>sep q hq) trivial rfl (by with_unfolding_all rfl) fun f c' oc cvs ct ctv h1 tk1 F1 N1 hd1 hv1 lt1 lt2=>?_
 k_steps
 refine (?_:wpAny _ _ (call (.builtin "sorted") [.ref Db] [("key",.ref f)]) _ _ _)
 refine sort_versions X T r F1 N1 (rest:=rest) (fun q hq=>List.mem_cons_of_mem _ (List.mem_cons_of_mem _ (List.mem_cons_of_mem _ (List.mem_cons_of_mem _ hq)))) (List.mem_cons_self ..) (List.mem_cons_of_mem _ (List.mem_cons_self ..)) hd1 hv1 (fun x=>rfl) rfl rfl (by decide) rfl rfl ⟨_,(N1 (Db,listOf (List.toArray vv.reverse) nD) (List.mem_cons_of_mem _ (List.mem_cons_of_mem _ (List.mem_cons_of_mem _ (List.mem_cons_self ..))))).1,rfl,_,rfl⟩ hE.reverse vr5 fun D1 k1 h2 tk2 pp hpp hps F2 N2 sD=>?_
 k_steps
 refine (?_:CompNext _ _ _ _ _ _ _ _ _ _ _ _ _ _ _ _ _)
 refine byc fun b_=>?_
 obtain ⟨t3,N3⟩:=tab_out N2
 refine b_ ?_;clear b_
 have lp:pp.toList.length=5:=(permB_perm hpp).length_eq.trans (by simp)
 refine' comp_assignN (L:=L) ?e1 ?e2 ?e3 nx_back (iters_list (vs:=pp.toList.map fun i=>vv.reverse.getD i .none) (k:=k1) hA) ?n1 ?cell ?e4 ?e5 F2 N3 (fun _=>strValues) (fun i lr=>lr.map (·.1)=((rowOf vers.reverse pp).take i).map VerOf.text) [] rfl rfl ?hax ?turn ?fin
 case e1=>rfl
 case e2=>exact ll_back.kd
 case e3=>kernel_rfl!
 case e4=>rfl
 case e5=>rfl
 case n1=>rw [List.length_map,lp];decide
 case cell=>decide
 case hax=>exact fun h _ N'=>(N' _ mH).1
 case turn =>
  intro I C D i v lr oI oC nD' h3 tk hi' hi hP hlr F' N' sep' hNO hv
  refine byc fun b_=>?_
  obtain ⟨a,x,q,ha,hmem,rfl,hver,hsub⟩:=row_ver hpp hE.reverse vr5 hP
  obtain ⟨pj,hpj,va⟩:=hV.mem (List.mem_reverse.mp hmem)
  refine b_ ?_;clear b_
  refine no_tests ?_
  simp only [if_true]
  k_steps
  refine (?_:wpAny _ _ _ _ _ _)
  refine strF F' N' X T r (hver.keep ((hsub.le fun q hq=>List.mem_cons_of_mem _ (List.mem_cons_of_mem _ (List.mem_cons_of_mem _ (List.mem_cons_of_mem _ (List.mem_cons_of_mem _ hq))))).grown N')) va (hw pj hpj).1 fun t h4 tk4 F4 N4=>?_
  refine compTurn_end F4 N4 sep' ⟨lr++[(_,_)],List.map_append,rfl,rfl,?_⟩
  rw [List.map_append,hlr,← take_snoc ha,List.map_append];rfl
 case fin =>
  intro D lr h3 tk nD' hlr F' N' sep'
  rw [List.take_of_length_le (by rw [List.length_map,List.length_map];exact Nat.le_refl _)] at hlr
  refine h h3 tk D nD' lr pp t3 F' (List.forall_mem_cons.mpr ⟨N' _ (List.mem_cons_self ..),fun q hq=>N' q (List.mem_cons_of_mem _ (List.mem_cons_of_mem _ hq))⟩) hpp hps hlr (fun q hq=>sep' q (List.mem_cons_of_mem _ (List.mem_cons_of_mem _ hq)))
theorem canStrs (xs:List Str):(∀ x ∈ xs,PyData.strOk x=true)→PyData.canLayAll0 (xs.map PyData.str)=true:=by
 induction xs with
 | nil=>exact fun _=>rfl
 | cons x r ih =>
  intro h
  have h:=List.forall_mem_cons.mp h
  simp [PyData.canLayAll0,PyData.canLay0,h.1,ih h.2]
theorem depthStrs (xs:List Str):PyData.depthAll (xs.map PyData.str)=0:=by
 induction xs with
 | nil=>rfl
 | cons _ r ih=>simp [PyData.depthAll,PyData.depth,ih]
theorem readStrs (h:Heap) (ls:List (Str × Tok)):ReadsAll h (strValues ls) ((ls.map (·.1)).map PyData.str) []:=by
 induction ls with
 | nil=>exact .nil
 | cons p r ih=>exact ReadsAll.cons (as:=[]) (.str p.1 p.2) ih
theorem ne_strs {Q:Value→Shared→Prop} {E:Value→Shared→Prop} {h₀:Heap} {L a b:Addr} {news:List (Addr × Obj)} {xs ys:List (Str × Tok)} {n k:Nat} (N:News h₀ L s.heap news) (ma:(a,listOf (strValues xs).toArray n) ∈ news) (mb':(b,listOf (strValues ys).toArray k) ∈ news) (e:xs.map (·.1)=ys.map (·.1)) (ok:∀ x ∈ ys.map (·.1),PyData.strOk x=true) (hu:A.units + 64 < cLine) (h:Q (.bool false) s) :
  wpAny (model prog w) A (compareOp .NotEq (.ref a) (.ref b)) Q E s:=by
 have sh:SeqAt.shaped (.list ((ys.map (·.1)).map PyData.str))=true:=by
  have h1:=canStrs _ ok
  have h2:=depthStrs (ys.map (·.1))
  simp only [SeqAt.shaped,PyData.canLay0,PyData.depth,h1,h2];rfl
 refine ne_dataH (reads_list_at (News.get N ma) rfl rfl (readStrs _ xs)) (reads_list_at (News.get N mb') rfl rfl (readStrs _ ys)) (by rw [e];exact sh) sh hu ?_
 rw [e]
 have:PyData.eqv (.list ((ys.map (·.1)).map PyData.str)) (.list ((ys.map (·.1)).map PyData.str))=true:=by
  rw [PyData.eqv];exact SeqAt.eqvAll_refl _ (canStrs _ ok)
 rw [this];exact h
theorem strs_getD {p:Array Nat} {ls:List (Str × Tok)} (h:∀ i ∈ p.toList,i < ls.length):(p.toList.map fun i=>(strValues ls).getD i .none)=strValues (p.toList.map fun i=>ls.getD i (Str.empty,0)):=by
 simp only [strValues,List.map_map]
 refine List.map_congr_left fun i hi=>?_
 have:=h i hi
 simp [List.getD,this]
theorem strs_fst {p:Array Nat} {ls:List (Str × Tok)} (h:∀ i ∈ p.toList,i < ls.length):(p.toList.map fun i=>ls.getD i (Str.empty,0)).map (·.1)=p.toList.map fun i=>(ls.map (·.1)).getD i Str.empty:=by
 rw [List.map_map]
 refine List.map_congr_left fun i hi=>?_
 have:=h i hi
 simp [List.getD,this]
theorem perm_lt {n:Nat} {p:Array Nat} (hp:permB n p=true):∀ i ∈ p.toList,i < n:=fun i hi=>List.mem_range.mp ((permB_perm hp).mem_iff.mp hi)
theorem sorts_same {a b:List Str} {p q:Array Nat} (h:a.Perm b) (hp:permB a.length p=true) (hq:permB b.length q=true) (sp:p.toList.Pairwise fun i j=>strLt (a.getD j Str.empty) (a.getD i Str.empty)=false) (sq:q.toList.Pairwise fun i j=>strLt (b.getD j Str.empty) (b.getD i Str.empty)=false) :
  (p.toList.map fun i=>a.getD i Str.empty)=q.toList.map fun i=>b.getD i Str.empty :=
 perm_sorted_eq (r:=fun x y=>strLt y x=false) (fun x y h1 h2=>strTot.tri x y h2 h1) (((perm_getD Str.empty hp).trans h).trans (perm_getD Str.empty hq).symm) (List.pairwise_map.mpr sp) (List.pairwise_map.mpr sq)
theorem rs91m0:True:=by
 k_with "@compareOp NotEq ref ref"=>apply unhold
 k_with "@compareOp Eq ref ref"=>apply unhold
 exact trivial
set_option maxHeartbeats 1000000 in
theorem st_if {h₀:Heap} {L cn cp cb cw cv Dr Dk Dt:Addr} {rest:List (Addr × Obj)} {l:List (Nat × Value)} {lr lk lt:List (Str × Tok)} {kr kk kt:Nat} {Q:Flow→Shared→Prop}
  (X:(hd.heap_1 w.params).In h₀) (T:Top p loose mean mg mb h₀) (r:Rm A 19) (hA:A.handled=none)
  (F:Fr h₀ L s.heap (frm l)) (N:News h₀ L s.heap rest)
  (h68:l.lookup 68=some (.ref Dr)) (h69:l.lookup 69=some (.ref Dk)) (h58:l.lookup 58=some (.ref Dt))
  (mR:(Dr,listOf (strValues lr).toArray kr) ∈ rest) (mK:(Dk,listOf (strValues lk).toArray kk) ∈ rest) (yT:(Dt,listOf (strValues lt).toArray kt) ∈ rest)
  (ok:∀ x ∈ lr.map (·.1),PyData.strOk x=true) (l5:lr.length=5) (hrk:lr.map (·.1)=lk.map (·.1)) (hrt:(lr.map (·.1)).Perm (lt.map (·.1)))
  (h:∀ h' tk,Fr h₀ L h' (frm l)→News h₀ L h' rest→Q .next { s with heap:=h',toks:=tk }) :
  wpAny (model prog w) A (exec (lawStmt 10) (lawEnv L cn cp cb cw cv)) Q (fun _ _=>False) s:=by
 have n_row:=ll_row
 have n_back:=ll_back
 have n_texts:=ll_texts
 have n_sorted:=lb_sorted w
 refine byc fun b_=>?_
 obtain ⟨hA',dA,fA,gA,uA⟩:=A
 obtain rfl:hA'=none:=hA
 refine b_ ?_;clear b_
 conv in lawStmt _=>whnf
 have u64:uA + 64 < cLine:=by have:uA + 8 * 19 < cLine:=r.2.1;lia
 have t5:lt.length=5:=by rw [← List.length_map (f:=(·.1)),← hrt.length_eq,List.length_map,l5]
 k_steps
 refine (?_:wpAny _ _ _ _ _ _)
 refine ne_strs N mR mK hrk (by rw [← hrk];exact ok) u64 ?_
 k_steps
 refine (?_:wpAny _ _ _ _ _ _)
 refine sorted_strs F N ⟨_,(N _ mR).1,rfl,_,rfl⟩ (by lia) fun D1 c1 h1 tk1 p1 hp1 hs1 F1 N1 sD1=>?_
 rw [strs_getD (perm_lt hp1)] at N1
 k_steps
 refine (?_:wpAny _ _ _ _ _ _)
 refine sorted_strs F1 N1 ⟨_,(N1 _ (List.mem_cons_of_mem _ yT)).1,rfl,_,rfl⟩ (by lia) fun D2 c2 h2 tk2 p2 hp2 hs2 F2 N2 sD2=>?_
 rw [strs_getD (perm_lt hp2)] at N2
 have e:=sorts_same hrt (by rw [List.length_map];exact hp1) (by rw [List.length_map];exact hp2) hs1 hs2
 rw [← strs_fst (perm_lt hp1),← strs_fst (perm_lt hp2)] at e
 k_steps
 refine (?_:wpAny _ _ _ _ _ _)
 refine ne_strs N2 (List.mem_cons_of_mem _ (List.mem_cons_self ..)) (List.mem_cons_self ..) e (fun x hx=>?_) u64 ?_
 ·rw [← e,strs_fst (perm_lt hp1)] at hx
  exact ok x ((perm_getD Str.empty (by rw [List.length_map];exact hp1)).mem_iff.mp hx)
 k_steps
 exact h _ _ F2 fun q hq=>N2 q (List.mem_cons_of_mem _ (List.mem_cons_of_mem _ hq))
inductive RowT (Lp:List Pt) (x:Str) (i:Nat):Prop
 | mk (pt j:_) (cj1:PtW pt) (cj2:j < 4) (cj3:x=pt.text++lawBuild j) (cj4:Lp[i]?=some pt):RowT Lp x i
theorem rs92m0:True:=by
 k_with "@subscriptTail"=>apply unhold
 exact trivial
set_option maxHeartbeats 1000000 in
theorem st_rise {h₀:Heap} {L cn cp cb cw cv Dr Dw:Addr} {ow:Obj} {rest:List (Addr × Obj)} {l:List (Nat × Value)} {lr lw:List (Str × Tok)} {kr kw:Nat} {Lp:List Pt} {is:List Nat} {Q:Flow→Shared→Prop}
  (X:(hd.heap_1 w.params).In h₀) (T:Top p loose mean mg mb h₀) (r:Rm A 19) (hA:A.handled=none)
  (F:Fr h₀ L s.heap (frm l)) (N:News h₀ L s.heap rest)
  (h68:l.lookup 68=some (.ref Dr)) (mR:(Dr,listOf (strValues lr).toArray kr) ∈ rest) (hE:Each (RowT Lp) (lr.map (·.1)) is) (l5:lr.length=5)
  (mw:(cw,ow) ∈ rest) (dw:ow.data=.cell (some (.ref Dw))) (mW:(Dw,listOf (strValues lw).toArray kw) ∈ rest) (hl:lw.map (·.1)=Lp.map Pt.text) (hz:lw.length ≤ 4000) (hw:∀ q ∈ Lp,PtW q)
  (hs:Lp.Pairwise fun a b=>ptLt a b=true)
  (h:∀ h' tk D k vi,Fr h₀ L h' (frm ((70,.ref D)::l))→News h₀ L h' ((D,listOf (List.toArray vi) k)::rest)→IntsAre vi (is.map fun i:Nat=>(i:Int))→Q .next { s with heap:=h',toks:=tk }) :
  wpAny (model prog w) A (exec (lawStmt 11) (lawEnv L cn cp cb cw cv)) Q (fun _ _=>False) s:=by
 have n_row:=ll_row
 have n_walk:=lc_walk (cn:=cn) (cp:=cp) (cb:=cb) (cw:=cw) (cv:=cv)
 have z5:(strValues lr).length=5:=by rw [strValues,List.length_map,l5]
 conv in lawStmt _=>whnf
 k_steps
 refine (?_:CompNext _ _ _ _ _ _ _ _ _ _ _ _ _ _ _ _ _)
 refine' comp_assignN (L:=L) ?e1 ?e2 ?e3 nx_rise (iters_list (vs:=strValues lr) (k:=kr) hA) ?n1 ?cell ?e4 ?e5 F N (fun _ out=>out) (fun i out=>IntsAre out ((is.take i).map fun i:Nat=>(i:Int))) [] rfl .nil ?hax ?turn ?fin
 case e1=>rfl
 case e2=>exact ll_rise.kd
 case e3=>kernel_rfl!
 case e4=>rfl
 case e5=>rfl
 case n1=>lia
 case cell=>decide
 case hax=>exact fun h _ N'=>(N' _ mR).1
 case turn =>
  intro I C D i v out oI oC nD h1 tk mC hi hP hI F' N' sep' hNO hv
  obtain ⟨⟨x,t⟩,hx,rfl⟩:∃ q:Str × Tok,lr[i]?=some q∧v=.str q.1 q.2:=by
   rw [strValues,List.getElem?_map] at hP
   refine byc fun b_=>?_
   obtain ⟨q,hq,e⟩:=Option.map_eq_some_iff.mp hP
   refine b_ ?_;clear b_
   exact ⟨q,hq,e.symm⟩
  obtain ⟨j,hj,pt,jb,wpt,j4,ex,hL⟩:=hE.get (i:=i) (a:=x) (by rw [List.getElem?_map,hx];rfl)
  refine byc fun b_=>?_
  subst ex
  obtain ⟨sr,esr⟩:=split_plus wpt j4
  refine b_ ?_;clear b_
  refine no_tests ?_
  simp only [if_true]
  k_steps
  refine (?_:wpAny _ _ _ _ _ _)
  refine kf_method N' (List.mem_cons_of_mem _ (List.mem_cons_of_mem _ (List.mem_cons_of_mem _ mW))) PySem.F.slot_list_index PySem.F.type_list_index ?_
  k_steps
  have tl:=text_len wpt
  have bl:=build_len j4
  refine splitF F' N' esr (by rw [lenApp];lia) (by decide) fun Ds ls h2 tk2 els F2 N2=>?_
  obtain ⟨u,hu⟩:∃ u,(strValues ls)[0]?=some (.str pt.text u):=by
   cases ls with
   | nil=>cases els
   | cons y ys=>exact ⟨y.2,by rw [← (List.cons.inj els).1];rfl⟩
  k_steps
  refine (?_:wpAny _ _ _ _ _ _)
  refine itemL N2 (List.mem_cons_self ..) (by decide) (by decide) hu ?_
  k_steps
  refine byc fun b_=>?_
  obtain ⟨j2,hj2,hno⟩:=place_exists (List.mem_of_getElem? hL) hw wpt
  have ej:j2=j:=(place_lt hs hj2 hL).2.mpr rfl
  subst ej
  refine b_ ?_;clear b_
  refine index_strs (j:=j2) ⟨_,(N2 (Dw,listOf (strValues lw).toArray kw) (List.mem_cons_of_mem _ (List.mem_cons_of_mem _ (List.mem_cons_of_mem _ (List.mem_cons_of_mem _ mW))))).1,rfl,_,rfl⟩ (by lia) (by rw [hl,List.getElem?_map,hj2];rfl) (by rw [hl];exact hno) fun u tk3=>?_
  refine (?_:CompTurn _ _ _ _ _ _ _ _ _ _ _ _ _)
  refine compTurn_end F2 (fun q hq=>N2 q (List.mem_cons_of_mem _ hq)) sep' ⟨out++[_],rfl,rfl,rfl,?_⟩
  rw [← take_snoc hj,List.map_append]
  exact hI.append (.cons _ _ .nil)
 case fin =>
  intro D out h1 tk nD hI F' N' sep'
  rw [List.take_of_length_le (by rw [← hE.len,strValues,List.length_map,List.length_map];exact Nat.le_refl _)] at hI
  exact h h1 tk D nD out F' N' hI
noncomputable def intLt (a b:Int):Bool:=decide (a < b)
theorem intTot:Tot Int intLt where
 irr:=fun a=>decide_eq_false (Int.lt_irrefl a)
 tr:=fun a b c h1 h2=>decide_eq_true (Int.lt_trans (of_decide_eq_true h1) (of_decide_eq_true h2))
 tri:=fun a b h1 h2=>by
  have h1:=of_decide_eq_false h1
  have h2:=of_decide_eq_false h2
  lia
theorem intsAt {vs:List Value} {ns:List Int} (x:IntsAre vs ns):∀ {i:Nat},i < vs.length→∃ t,vs.getD i .none=.int (ns.getD i 0) t:=by
 induction x with
 | nil=>exact fun h=>absurd h (Nat.not_lt_zero _)
 | cons n t _ ih=>intro i h;cases i with
  | zero=>exact ⟨t,rfl⟩
  | succ i=>exact ih (Nat.lt_of_succ_lt_succ h)
theorem ints_perm {vs:List Value} {ns:List Int} (hi:IntsAre vs ns) {l:List Nat}:(∀ i ∈ l,i < vs.length)→IntsAre (l.map fun i=>vs.getD i .none) (l.map fun i=>ns.getD i 0):=by
 induction l with
 | nil=>exact fun _=>.nil
 | cons i l ih =>
  intro h
  have h:=List.forall_mem_cons.mp h
  refine byc fun b_=>?_
  obtain ⟨t,e⟩:=intsAt hi h.1
  refine b_ ?_;clear b_
  rw [List.map_cons,List.map_cons,e]
  exact .cons _ _ (ih h.2)
theorem sorted_ints {Q:Value→Shared→Prop} {h₀:Heap} {L l:Addr} {m:Str→Option Value} {news:List (Addr × Obj)} {vs:List Value} {ns:List Int} (F:Fr h₀ L s.heap m) (N:News h₀ L s.heap news) (hl:s.heap.IsList l vs.toArray) (h5:vs.length ≤ 5) (hi:IntsAre vs ns)
  (h:∀ D c h' tk (p:Array Nat),permB vs.length p=true→(p.toList.Pairwise fun i j=>intLt (ns.getD j 0) (ns.getD i 0)=false)→Fr h₀ L h' m→News h₀ L h' ((D,listOf (List.toArray (p.toList.map fun i=>vs.getD i .none)) c)::news)→(∀ q ∈ news,q.1 ≠ D)→Q (.ref D) { s with heap:=h',toks:=tk }) :
  wpAny (model prog w) A (call (.builtin "sorted") [.ref l]) Q (fun _ _=>False) s:=by
 refine sorted_rule intTot.ord (fun i=>ns.getD i 0) oneType' F N hl h5 ?_ ?_ h
 ·intro h2 h' tk Q' F' N' hq
  refine kas_kind (T:=.type "int") h2 (fun v hv=>?_) (by decide) (by decide) hq
  refine byc fun b_=>?_
  obtain ⟨n,t,rfl⟩:=hi.all v hv
  refine b_ ?_;clear b_
  exact Looks.of_pure rfl
 ·intro h' tk i j C hi' hj' F' N' hC
  refine byc fun b_=>?_
  obtain ⟨t,e1⟩:=intsAt hi hi'
  obtain ⟨u,e2⟩:=intsAt hi hj'
  refine b_ ?_;clear b_
  rw [e1,e2]
  exact kat_lt_int (hC h' tk (.refl _))
set_option maxHeartbeats 1000000 in
theorem st_ret {h₀:Heap} {L cn cp cb cw cv Di:Addr} {rest:List (Addr × Obj)} {l:List (Nat × Value)} {vi:List Value} {ki:Nat} {is:List Nat} {Q:Flow→Shared→Prop}
  (X:(hd.heap_1 w.params).In h₀) (T:Top p loose mean mg mb h₀) (r:Rm A 19) (hA:A.handled=none)
  (F:Fr h₀ L s.heap (frm l)) (N:News h₀ L s.heap rest)
  (h70:l.lookup 70=some (.ref Di)) (mI:(Di,listOf vi.toArray ki) ∈ rest) (hi:IntsAre vi (is.map fun i:Nat=>(i:Int))) (n5:is.length=5) (hs:is.Pairwise (· ≤ ·))
  (h:∀ h' tk,Fr h₀ L h' (frm l)→News h₀ L h' rest→Q (.ret (.bool true)) { s with heap:=h',toks:=tk }) :
  wpAny (model prog w) A (exec (lawStmt 12) (lawEnv L cn cp cb cw cv)) Q (fun _ _=>False) s:=by
 have n_rise:=ll_rise
 have n_sorted:=lb_sorted w
 refine byc fun b_=>?_
 obtain ⟨hA',dA,fA,gA,uA⟩:=A
 obtain rfl:hA'=none:=hA
 refine b_ ?_;clear b_
 have u64:uA + 64 < cLine:=by have:uA + 8 * 19 < cLine:=r.2.1;lia
 have v5:vi.length=5:=by rw [hi.length,List.length_map,n5]
 conv in lawStmt _=>whnf
 k_steps
 refine (?_:wpAny _ _ _ _ _ _)
 refine sorted_ints F N ⟨_,(N _ mI).1,rfl,_,rfl⟩ (by lia) hi fun D1 c1 h1 tk1 pp hp hps F1 N1 sD=>?_
 have lt:∀ i ∈ pp.toList,i < vi.length:=perm_lt hp
 have hi2:=ints_perm hi lt
 have e:(pp.toList.map fun i=>(is.map fun i:Nat=>(i:Int)).getD i 0)=is.map fun i:Nat=>(i:Int):=by
  refine perm_sorted_eq (r:=fun a b=>intLt b a=false) (fun a b h1 h2=>intTot.tri a b h2 h1) (perm_getD 0 (by rw [← hi.length];exact hp)) (List.pairwise_map.mpr hps) (List.pairwise_map.mpr (hs.imp fun hab=>?_))
  exact decide_eq_false (by lia)
 rw [e] at hi2
 k_steps
 refine (?_:wpAny _ _ _ _ _ _)
 refine ke_eq_ints ⟨_,(N1 _ (List.mem_cons_of_mem _ mI)).1,rfl,_,rfl⟩ ⟨_,(N1 _ (List.mem_cons_self ..)).1,rfl,_,rfl⟩ hi hi2 u64 ?_
 rw [decide_eq_true rfl]
 k_steps
 exact h _ _ F1 fun q hq=>N1 q (List.mem_cons_of_mem _ hq)
theorem ll_script:Loc lawScope "script" 54:=⟨nx_script,by kernel_rfl!⟩
theorem lb_len (w:World):Blt w lawScope "len" (.builtin "len"):=⟨(bk_len w).1,(bk_len w).2.1,(bk_len w).2.2.1,by kernel_rfl!,(bk_len w).2.2.2⟩
theorem rs94m0:True:=by
 k_with "@binaryOp Add ref ref"=>(fail_if_success k_extra "e94");apply unhold
 k_with "@storeName"=>(fail_if_success k_extra "e94");apply unhold
 exact trivial
theorem min5 (n:Nat):min 5 n + (5 - n)=5:=(Nat.le_total 5 n).elim (fun h=>by rw [Nat.min_eq_left h,Nat.sub_eq_zero_of_le h]) fun h=>by rw [Nat.min_eq_right h,Nat.add_sub_cancel' h]
set_option maxHeartbeats 1000000 in
set_option tactic.hygienic true in
theorem st_numbers {h₀:Heap} {L cn cp cb cw cv pl:Addr} {o:Obj} {rest:List (Addr × Obj)} {l:List (Nat × Value)} {vs:List Value} {ns:List Int} {Q:Flow→Shared→Prop}
  (X:(hd.heap_1 w.params).In h₀) (T:Top p loose mean mg mb h₀) (r:Rm A 19) (hA:A.handled=none)
  (F:Fr h₀ L s.heap (frm l)) (N:News h₀ L s.heap ((cn,o)::rest)) (sep:∀ p ∈ rest,p.1 ≠ cn) (ho:o.data=.cell none)
  (h54:l.lookup 54=some (.ref pl)) (lp:h₀.IsList pl vs.toArray) (hi:IntsAre vs ns) (hz:vs.length ≤ 63)
  (h:∀ h' tk o' D k vn nn,Fr h₀ L h' (frm l)→News h₀ L h' ((cn,o')::(D,listOf (List.toArray vn) k)::rest)→o'.data=.cell (some (.ref D))→IntsAre vn nn→nn.length=5→(∀ q ∈ (cn,o)::rest,q.1 ≠ D)→Q .next { s with heap:=h',toks:=tk }) :
  wpAny (model prog w) A (exec (lawStmt 0) (lawEnv L cn cp cb cw cv)) Q (fun _ _=>False) s:=by
 have n_script:=ll_script
 have n_len:=lb_len w
 have n_numbers:=lc_numbers (L:=L) (cn:=cn) (cp:=cp) (cb:=cb) (cw:=cw) (cv:=cv)
 have lenF:vs.length=ns.length:=hi.length
 refine byc fun b_=>?_
 obtain ⟨hA',dA,fA,gA,uA⟩:=A
 obtain rfl:hA'=none:=hA
 refine b_ ?_;clear b_
 conv in lawStmt _=>whnf
 k_steps
 rename_i Ds ws _ hI hC hL ltD _ _ _ _ _ _ _ _ _ _ l2 _ F2 N2 lt2
 refine (?_:wpAny _ _ _ _ _ _)
 refine kba_turn (value':=PySem.Expr.Name (PySem.Str.ofString "_") ⟨0,0,0,0⟩) (fun _=>rfl) ?_
 refine slice_list F2 N2 ⟨_,(N2 _ (List.mem_cons_self ..)).1,rfl,_,rfl⟩ (.int _ _) .none (fun h3 F3 N3=>?_)
 clear F2 N2
 k_steps
 refine (?_:wpAny _ _ _ _ _ _)
 obtain ⟨its2,N3,hJ⟩:∃ its2:Array Value,News h₀ L h3 ((_,listOf its2 _)::_)∧IntsAre its2.toList ([5,-9,300,6,21].drop (ns.length:Int).toNat) :=
  ⟨_,N3,slice_ints_fromW (.cons _ _ (.cons _ _ (.cons _ _ (.cons _ _ (.cons _ _ .nil))))) (Int.natCast_nonneg _)⟩
 have l5:([5,-9,300,6,21]:List Int).length=5:=rfl
 refine add_arrays_ints (its:=ws.toArray) (its2:=its2) F3 N3 ⟨_,(N3 (Ds,_) (List.mem_cons_of_mem _ (List.mem_cons_of_mem _ (List.mem_cons_self ..)))).1,rfl,_,rfl⟩ ⟨_,(N3 _ (List.mem_cons_self ..)).1,rfl,_,rfl⟩ hI hJ (fun h4 F4 N4 hK=>?_) (by rw [List.length_take,List.length_drop,l5,Int.toNat_natCast,min5];decide)
 have cN:∀ q ∈ (cn,o)::rest,q.1 ≠ h3.objs.size:=fun q hq=>Nat.ne_of_lt (Heap.lt_size (N3 q (List.mem_cons_of_mem _ (List.mem_cons_of_mem _ (List.mem_cons_of_mem _ hq)))).1)
 refine byc fun b_=>?_
 obtain ⟨D1,eD1⟩:∃ D1,D1=h3.objs.size:=⟨_,rfl⟩
 refine b_ ?_;clear b_
 rw [← eD1] at N4 cN ⊢
 generalize (ws.toArray.toList++its2.toList)=vn at N4 hK
 generalize hnn:(List.take 5 ns++List.drop (ns.length:Int).toNat [5,-9,300,6,21])=nn at hK
 have nn5:nn.length=5:=by
  rw [← hnn,List.length_append,List.length_take,List.length_drop,l5,Int.toNat_natCast]
  exact min5 _
 k_steps
 refine (?_:wpAny _ _ _ _ _ _)
 have N5:News h₀ L h4 ((D1,listOf (List.toArray vn) 0)::(cn,o)::rest):=List.forall_mem_cons.mpr ⟨N4 _ (List.mem_cons_self ..),fun q hq=>N4 q (List.mem_cons_of_mem _ (List.mem_cons_of_mem _ (List.mem_cons_of_mem _ (List.mem_cons_of_mem _ hq))))⟩
 refine stCX F4 N5 n_numbers (List.mem_cons_of_mem _ (List.mem_cons_self ..)) ho rfl fun h5 o' F6 N6 d6=>?_
 rw [upd_second (fun e=>cN (cn,o) (List.mem_cons_self ..) e.symm) sep] at N6
 exact h h5 _ o' D1 0 vn nn F6 (List.forall_mem_cons.mpr ⟨N6 _ (List.mem_cons_of_mem _ (List.mem_cons_self ..)),List.forall_mem_cons.mpr ⟨N6 _ (List.mem_cons_self ..),fun q hq=>N6 q (List.mem_cons_of_mem _ (List.mem_cons_of_mem _ hq))⟩⟩) d6 hK nn5 cN
theorem rs94e:True:=by
 k_with "e94"=>skip
 exact trivial
theorem Each.of_map {α β γ:Type} {P:α→β→Prop} {f:γ→α} {g:γ→β} {l:List γ}:(∀ i ∈ l,P (f i) (g i))→Each P (l.map f) (l.map g):=by
 induction l with
 | nil=>exact fun _=>.nil
 | cons i l ih=>exact fun h=>.cons (List.forall_mem_cons.mp h).1 (ih (List.forall_mem_cons.mp h).2)
theorem text_cps {p:Pt} (h:PtW p):∀ c ∈ p.text.cps.toList,c < 128:=by
 refine byc fun b_=>?_
 obtain ⟨n0,n1,n2,tl⟩:=p
 obtain ⟨⟨b0,_⟩,⟨b1,_⟩,⟨b2,_⟩,_,hw⟩:=h
 dsimp only at b0 b1 b2 hw
 obtain ⟨k0,rfl⟩:=Int.eq_ofNat_of_zero_le b0
 obtain ⟨k1,rfl⟩:=Int.eq_ofNat_of_zero_le b1
 obtain ⟨k2,rfl⟩:=Int.eq_ofNat_of_zero_le b2
 refine b_ ?_;clear b_
 have nd:∀ k c,c ∈ dec k→c < 128:=fun k c hm=>by have:=(dec_facts k).1 c hm;lia
 unfold Pt.text
 (try dsimp only)
 rw [cps_toList_append,nums_cps]
 intro c hm
 simp only [List.mem_append,List.mem_cons] at hm
 rcases hm with (h | h | h | h | h) | h
 ·exact nd _ c h
 ·lia
 ·exact nd _ c h
 ·lia
 ·exact nd _ c h
 ·rcases bs_cps hw with ⟨e,_⟩ | ⟨e,hn⟩
  ·rw [e] at h;cases h
  ·rw [e] at h
   rcases List.mem_cons.mp h with h | h
   ·lia
   ·have:=jn_sg hw c (by rw [txt_join,join_cps];exact h)
    unfold WSign at this;lia
theorem text_ok {p:Pt} {j:Nat} (h:PtW p) (hj:j < 4):PyData.strOk (p.text++lawBuild j)=true:=by
 have key:∀ j:Fin 4,∀ c ∈ (lawBuild j.val).cps.toList,c < 128:=by decide +kernel
 unfold PyData.strOk
 rw [← Array.all_toList,List.all_eq_true]
 intro c hc
 rw [cps_toList_append] at hc
 have:c < 128:=(List.mem_append.mp hc).elim (text_cps h c) (key ⟨j,hj⟩ c)
 exact decide_eq_true (by lia)
theorem vers_texts {vers:List VerOf} {pjs:List (Pt × Nat)} (x:Each VPj vers pjs):∀ {ts:List Str},Each TxtOf ts pjs→vers.map VerOf.text=ts:=by
 induction x with
 | nil=>intro ts y;cases y;rfl
 | cons a _ ih=>intro ts y;cases y with
  | cons b t=>exact congr (congrArg List.cons ((text_of a).trans (Eq.symm b))) (ih t)
section
variable {rest:List (Addr × Obj)} {Lp:List Pt} {vv vi:List Value} {lt:List (Str × Tok)} {vers:List VerOf} {is:List Nat} {pjs:List (Pt × Nat)}
theorem Five.v5 (f:Five rest Lp vv vi lt vers is pjs):vers.length=5:=by rw [f.vp.len,f.n5]
theorem Five.spot (f:Five rest Lp vv vi lt vers is pjs):∀ v ∈ vers,∃ i t,Spot Lp v i t:=fun v hv=>by
 refine byc fun b_=>?_
 obtain ⟨i,hi,rfl⟩:=List.getElem_of_mem hv
 refine b_ ?_;clear b_
 obtain ⟨_,_,V,pa,_,sa,_,_,_,_,_,_,hs,_,e,_⟩:=f.at' (i:=i) (by rw [← f.v5];exact hi)
 rw [List.getElem?_eq_getElem hi] at e
 cases e
 exact ⟨pa,sa,hs⟩
theorem Five.rowSpot (f:Five rest Lp vv vi lt vers is pjs) {p:Array Nat} (hp:permB 5 p=true):Each (fun v i=>∃ t,Spot Lp v i t) (rowOf vers p) (p.toList.map fun i=>is.getD i 0):=by
 refine Each.of_map fun i hi=>?_
 refine byc fun b_=>?_
 obtain ⟨_,_,V,pa,_,sa,_,_,_,_,_,_,hs,_,e1,e2,_⟩:=f.at' (perm_lt hp i hi)
 refine b_ ?_;clear b_
 rw [List.getD_eq_getElem?_getD,e1,List.getD_eq_getElem?_getD,e2]
 exact ⟨sa,hs⟩
theorem Five.rowT (f:Five rest Lp vv vi lt vers is pjs) {p:Array Nat} (hp:permB 5 p=true):Each (RowT Lp) ((rowOf vers p).map VerOf.text) (p.toList.map fun i=>is.getD i 0):=by
 rw [rowOf,List.map_map]
 refine Each.of_map fun i hi=>?_
 refine byc fun b_=>?_
 obtain ⟨_,_,V,pa,_,sa,_,_,_,_,_,_,⟨pt,j,hw,hv,hL,_⟩,_,e1,e2,_⟩:=f.at' (perm_lt hp i hi)
 refine b_ ?_;clear b_
 refine (?_:RowT Lp (vers.getD i noVer).text _)
 rw [List.getD_eq_getElem?_getD,e1,List.getD_eq_getElem?_getD,e2]
 exact ⟨pt,j,hw,hv.lt,text_of hv,hL⟩
theorem Five.rowPerm (f:Five rest Lp vv vi lt vers is pjs) {p:Array Nat} (hp:permB 5 p=true):(rowOf vers p).Perm vers:=perm_getD noVer (by rw [f.v5];exact hp)
theorem Five.rowTexts (f:Five rest Lp vv vi lt vers is pjs) {p:Array Nat} (hp:permB 5 p=true):((rowOf vers p).map VerOf.text).Perm (lt.map (·.1)):=by
 rw [← vers_texts f.vp f.tx]
 exact (f.rowPerm hp).map _
theorem Five.textsOk (f:Five rest Lp vv vi lt vers is pjs) {p:Array Nat} (hp:permB 5 p=true):∀ x ∈ (rowOf vers p).map VerOf.text,PyData.strOk x=true:=fun x hx=>by
 refine byc fun b_=>?_
 obtain ⟨v,hv,rfl⟩:=List.mem_map.mp hx
 obtain ⟨i,t,pt,j,hw,va,_,_⟩:=f.spot v ((f.rowPerm hp).mem_iff.mp hv)
 refine b_ ?_;clear b_
 rw [text_of va]
 exact text_ok hw va.lt
theorem Five.rows (f:Five rest Lp vv vi lt vers is pjs) {p q:Array Nat} (hp:permB 5 p=true) (hq:permB 5 q=true) (sp:p.toList.Pairwise fun i j=>verLt (vers.getD j noVer) (vers.getD i noVer)=false) (sq:q.toList.Pairwise fun i j=>verLt (vers.reverse.getD j noVer) (vers.reverse.getD i noVer)=false) :
  (rowOf vers p).map VerOf.text=(rowOf vers.reverse q).map VerOf.text :=
 rows_eq f.spot (f.rowPerm hp) ((perm_getD noVer (by rw [List.length_reverse,f.v5];exact hq)).trans (List.reverse_perm _)) (List.pairwise_map.mpr sp) (List.pairwise_map.mpr sq)
theorem Five.rises (f:Five rest Lp vv vi lt vers is pjs) {p:Array Nat} (hp:permB 5 p=true) (sp:p.toList.Pairwise fun i j=>verLt (vers.getD j noVer) (vers.getD i noVer)=false):(p.toList.map fun i=>is.getD i 0).Pairwise (· ≤ ·) :=
 rise_le f.srt (List.pairwise_map.mpr sp) (f.rowSpot hp)
end
theorem sp_mem {α:Type} {x:α} {new sp base:List α} {q:α} (h:q ∈ sp++(x::(new++base))):q ∈ x::(new++(sp++base)):=by
 exact memSub h (by walk_at "my sub")
theorem apart_next {c:Addr} {o o':Obj} {sp base new:List (Addr × Obj)} (ap:Apart base ((c,o)::sp)) (dis:∀ q ∈ sp,c ≠ q.1) (an:Apart new ((c,o)::(sp++base))):Apart ((c,o')::(new++base)) sp:=by
 intro p hp q hq
 revert p;refine List.forall_mem_cons.mpr ⟨?_,fun p hp=>?_⟩
 ·exact dis q hq
 ·rcases List.mem_append.mp hp with hp | hp
  ·exact an p hp q (List.mem_cons_of_mem _ (List.mem_append_left _ hq))
  ·exact ap p hp q (List.mem_cons_of_mem _ hq)
theorem sp_sep {c:Addr} {o:Obj} {sp base:List (Addr × Obj)} (ap:Apart base ((c,o)::sp)) (dis:∀ q ∈ sp,c ≠ q.1):∀ p ∈ sp++base,p.1 ≠ c:=fun p hp=>(List.mem_append.mp hp).elim (fun h=>(dis p h).symm) fun h=>ap p h (c,o) (List.mem_cons_self ..)
theorem apart_one {x:Addr × Obj} {nl:List (Addr × Obj)} (h:∀ q ∈ nl,q.1 ≠ x.1):Apart [x] nl:=fun p hp q hq=>by rw [List.mem_singleton.mp hp];exact (h q hq).symm
theorem each_zip {α β γ:Type} {P:α→β→Prop} {as:List α} {bs:List β} (x:Each P as bs):∀ {cs:List γ},bs.length=cs.length→Each (fun a (x:β × γ)=>P a x.1) as (bs.zip cs):=by
 induction x with
 | nil=>exact fun _=>.nil
 | cons p _ ih=>intro cs h;cases cs with
  | nil=>exact nomatch h
  | cons c cs=>exact .cons p (ih (Nat.succ.inj h))
theorem lawBody_eq:lawBody=[lawStmt 0,lawStmt 1,lawStmt 2,lawStmt 3,lawStmt 4,lawStmt 5,lawStmt 6,lawStmt 7,lawStmt 8,lawStmt 9,lawStmt 10,lawStmt 11,lawStmt 12]:=by kernel_rfl!
inductive LawPost (s:Shared) (r:Result) (s':Shared):Prop
 | mk (h' tk g' ps' t2:_) (cj1:r=.ok (.ret (.bool true))) (cj2:s'={ s with heap:=h',toks:=tk,gens:=g' }) (cj3:(∀ b o,b ≠ 323→b ≠ 457→s.heap.get? b=some o→h'.get? b=some o)) (cj4:h'.get? 323=some (tabObj ps')) (cj5:h'.get? 457=some (tabObj t2)) (cj6:AllBare g'):LawPost s r s'
set_option maxHeartbeats 2000000 in
theorem law_spec {pl:Addr} {vs:List Value} {ns:List Int} (X:(hd.heap_1 w.params).In (hideAll s.heap [323,457])) (T:Top p loose mean mg mb (hideAll s.heap [323,457])) (r:Rm A 20) (t3:s.heap.get? 323=some (tabObj #[])) (t4:s.heap.get? 457=some (tabObj #[])) (ab:AllBare s.gens)
  (hp:s.heap.IsList pl vs.toArray) (hi:IntsAre vs ns) (hz:vs.length ≤ 63) :
  codeAny (model prog w) A (.call (.ref 460) ⟨[.ref pl],[]⟩) (LawPost s) s:=by
 have NW:NewAbove (hideAll s.heap [323,457]) s.heap [(323,tabObj #[]),(457,tabObj #[])]:=by
  refine ⟨fun b o e=>of_hideAll _ e,Nat.le_of_eq (hideAll_size _ _),fun p hm=>?_⟩
  revert p;refine List.forall_mem_cons.mpr ⟨?_,fun p hm=>?_⟩
  ·exact ⟨t3,hideAll_none _ (List.mem_cons_self ..)⟩
  ·rw [List.mem_singleton.mp hm];exact ⟨t4,hideAll_none _ (List.mem_cons_of_mem _ (List.mem_cons_self ..))⟩
 have lp:(hideAll s.heap [323,457]).IsList pl vs.toArray:=by
  refine byc fun b_=>?_
  obtain ⟨o,e1,e2,k,e3⟩:=id hp
  refine b_ ?_;clear b_
  refine ⟨o,hideAll_get _ e1 fun hm=>?_,e2,k,e3⟩
  rcases List.mem_cons.mp hm with rfl | hm
  ·rw [t3] at e1;cases e1;cases e2
  ·rw [List.mem_singleton.mp hm,t4] at e1;cases e1;cases e2
 refine byc fun b_=>?_
 obtain ⟨hA',dA,fA,gA,uA⟩:=A
 obtain rfl:hA'=none:=r.hand
 refine b_ ?_;clear b_
 apply enterC NW (w:=w) [("script",.ref pl)] [(54,.ref pl)] X T
 walk_at "my enterC"
 case hnm=>exact namesC nx_script (namesN)
 intro L h1 tk F N hcl
 refine byc fun b_=>?_
 obtain ⟨c_numbers,e_numbers,o_numbers,g_numbers,d_numbers,l_numbers,z_numbers,s_numbers⟩:∃ c,c=L + 1 + 0∧_:=⟨_,rfl,hcl "numbers" (L + 1 + 0) (by rfl)⟩
 obtain ⟨c_pool,e_pool,o_pool,g_pool,d_pool,l_pool,z_pool,s_pool⟩:∃ c,c=L + 1 + 1∧_:=⟨_,rfl,hcl "pool" (L + 1 + 1) (by rfl)⟩
 obtain ⟨c_builds,e_builds,o_builds,g_builds,d_builds,l_builds,z_builds,s_builds⟩:∃ c,c=L + 1 + 2∧_:=⟨_,rfl,hcl "builds" (L + 1 + 2) (by rfl)⟩
 obtain ⟨c_walk,e_walk,o_walk,g_walk,d_walk,l_walk,z_walk,s_walk⟩:∃ c,c=L + 1 + 3∧_:=⟨_,rfl,hcl "walk" (L + 1 + 3) (by rfl)⟩
 obtain ⟨c_versions,e_versions,o_versions,g_versions,d_versions,l_versions,z_versions,s_versions⟩:∃ c,c=L + 1 + 4∧_:=⟨_,rfl,hcl "versions" (L + 1 + 4) (by rfl)⟩
 refine b_ ?_;clear b_
 refine setCl (cl':=[("versions",c_versions),("walk",c_walk),("builds",c_builds),("pool",c_pool),("numbers",c_numbers)]) (by subst e_numbers;subst e_pool;subst e_builds;subst e_walk;subst e_versions;rfl) ?_
 rw [← e_numbers] at g_numbers l_numbers z_numbers s_numbers
 rw [← e_pool] at g_pool l_pool z_pool s_pool
 rw [← e_builds] at g_builds l_builds z_builds s_builds
 rw [← e_walk] at g_walk l_walk z_walk s_walk
 rw [← e_versions] at g_versions l_versions z_versions s_versions
 clear hcl
 refine addLocX nx_script (by kernel_rfl!) ?_;intro n_script
 refine addLocX nx_places (by kernel_rfl!) ?_;intro n_places
 refine addLocX nx_texts (by kernel_rfl!) ?_;intro n_texts
 refine addLocX nx_a (by kernel_rfl!) ?_;intro n_a
 refine addLocX nx_b (by kernel_rfl!) ?_;intro n_b
 refine addLocX nx_one (by kernel_rfl!) ?_;intro n_one
 refine addLocX nx_two (by kernel_rfl!) ?_;intro n_two
 refine addLocX nx_told (by kernel_rfl!) ?_;intro n_told
 refine addLocX nx_here (by kernel_rfl!) ?_;intro n_here
 refine addLocX nx_there (by kernel_rfl!) ?_;intro n_there
 refine addLocX nx_due (by kernel_rfl!) ?_;intro n_due
 refine addLocX nx_row (by kernel_rfl!) ?_;intro n_row
 refine addLocX nx_back (by kernel_rfl!) ?_;intro n_back
 refine addLocX nx_rise (by kernel_rfl!) ?_;intro n_rise
 refine addCelX (x:="numbers") (c:=c_numbers) (by kernel_rfl!) (by rfl) (by decide) ?_;intro n_numbers
 refine addCelX (x:="pool") (c:=c_pool) (by kernel_rfl!) (by rfl) (by decide) ?_;intro n_pool
 refine addCelX (x:="builds") (c:=c_builds) (by kernel_rfl!) (by rfl) (by decide) ?_;intro n_builds
 refine addCelX (x:="walk") (c:=c_walk) (by kernel_rfl!) (by rfl) (by decide) ?_;intro n_walk
 refine addCelX (x:="versions") (c:=c_versions) (by kernel_rfl!) (by rfl) (by decide) ?_;intro n_versions
 refine addGloX (w:=w) gk_law_order (by kernel_rfl!) ?_;intro n_law_order
 refine addGloX (w:=w) gk_compare (by kernel_rfl!) ?_;intro n_compare
 refine addBltX (w:=w) bk_len (by kernel_rfl!) ?_;intro n_len
 refine addBltX (w:=w) bk_range (by kernel_rfl!) ?_;intro n_range
 refine addBltX (w:=w) bk_sorted (by kernel_rfl!) ?_;intro n_sorted
 have N0:News (hideAll s.heap [323,457]) L h1 [(c_numbers,o_numbers),(c_pool,o_pool),(c_builds,o_builds),(c_walk,o_walk),(c_versions,o_versions),(323,tabObj #[]),(457,tabObj #[])]:=by
  intro q hq
  simp only [List.mem_cons,List.not_mem_nil,or_false] at hq
  rcases hq with rfl | rfl | rfl | rfl | rfl | rfl | rfl
  ·exact ⟨g_numbers,l_numbers,z_numbers⟩
  ·exact ⟨g_pool,l_pool,z_pool⟩
  ·exact ⟨g_builds,l_builds,z_builds⟩
  ·exact ⟨g_walk,l_walk,z_walk⟩
  ·exact ⟨g_versions,l_versions,z_versions⟩
  ·exact N _ (List.mem_cons_self ..)
  ·exact N _ (List.mem_cons_of_mem _ (List.mem_cons_self ..))
 have dis:([(c_numbers,o_numbers),(c_pool,o_pool),(c_builds,o_builds),(c_walk,o_walk),(c_versions,o_versions),(323,tabObj #[]),(457,tabObj #[])]:List (Addr × Obj)).Pairwise fun p q=>p.1 ≠ q.1:=by
  simp only [List.pairwise_cons,List.mem_cons,List.not_mem_nil,or_false,forall_eq_or_imp,forall_eq,false_implies,implies_true,List.Pairwise.nil,and_true]
  exact ⟨⟨cell_ne e_numbers e_pool (by decide),cell_ne e_numbers e_builds (by decide),cell_ne e_numbers e_walk (by decide),cell_ne e_numbers e_versions (by decide),(s_numbers _ (List.mem_cons_self ..)).symm,(s_numbers _ (List.mem_cons_of_mem _ (List.mem_cons_self ..))).symm⟩,⟨cell_ne e_pool e_builds (by decide),cell_ne e_pool e_walk (by decide),cell_ne e_pool e_versions (by decide),(s_pool _ (List.mem_cons_self ..)).symm,(s_pool _ (List.mem_cons_of_mem _ (List.mem_cons_self ..))).symm⟩,⟨cell_ne e_builds e_walk (by decide),cell_ne e_builds e_versions (by decide),(s_builds _ (List.mem_cons_self ..)).symm,(s_builds _ (List.mem_cons_of_mem _ (List.mem_cons_self ..))).symm⟩,⟨cell_ne e_walk e_versions (by decide),(s_walk _ (List.mem_cons_self ..)).symm,(s_walk _ (List.mem_cons_of_mem _ (List.mem_cons_self ..))).symm⟩,⟨(s_versions _ (List.mem_cons_self ..)).symm,(s_versions _ (List.mem_cons_of_mem _ (List.mem_cons_self ..))).symm⟩,by decide⟩
 refine byc fun b_=>?_
 obtain ⟨q1,dis⟩:=List.pairwise_cons.mp dis
 obtain ⟨q2,dis⟩:=List.pairwise_cons.mp dis
 obtain ⟨q3,dis⟩:=List.pairwise_cons.mp dis
 obtain ⟨q4,dis⟩:=List.pairwise_cons.mp dis
 obtain ⟨q5,dis⟩:=List.pairwise_cons.mp dis
 obtain ⟨q6,dis⟩:=List.pairwise_cons.mp dis
 refine b_ ?_;clear b_
 clear dis
 refine (?_:wpAny (model prog w) (Around.deeper _ (lawEnv L c_numbers c_pool c_builds c_walk c_versions)) (execs lawBody (lawEnv L c_numbers c_pool c_builds c_walk c_versions)) _ _ _)
 have r':=r.deeper (e:=lawEnv L c_numbers c_pool c_builds c_walk c_versions) 19 (by decide)
 rw [lawBody_eq]
 generalize (Around.deeper _ (lawEnv L c_numbers c_pool c_builds c_walk c_versions))=A2 at r' ⊢
 refine wpAny_execs_cons (st_numbers X T r' r'.hand F N0 (fun p hp=>(q1 p hp).symm) d_numbers look_top lp hi hz fun h2 tk2 on Dn kn vn nn F2 N2 dn hK n5 sDn=>?_)
 refine (?_:wpAny _ _ _ _ _ _)
 have ap1:Apart [(c_numbers,on),(Dn,listOf (List.toArray vn) kn)] [(c_pool,o_pool),(c_builds,o_builds),(c_walk,o_walk),(c_versions,o_versions),(323,tabObj #[]),(457,tabObj #[])]:=fun p hp q hq=>by
  revert p;refine List.forall_mem_cons.mpr ⟨?_,fun p hp=>?_⟩
  ·exact q1 q hq
  ·rw [List.mem_singleton.mp hp];exact (sDn q (List.mem_cons_of_mem _ hq)).symm
 refine byc fun b_=>?_
 obtain ⟨B1,eB1⟩:∃ B1,B1=[(c_numbers,on),(Dn,listOf (List.toArray vn) kn)]:=⟨_,rfl⟩
 refine b_ ?_;clear b_
 have mn1:(c_numbers,on) ∈ B1:=by rw [eB1];exact List.mem_cons_self ..
 have mD1:(Dn,listOf (List.toArray vn) kn) ∈ B1:=by rw [eB1];exact List.mem_cons_of_mem _ (List.mem_cons_self ..)
 rw [← eB1] at ap1
 have N2':News (hideAll s.heap [323,457]) L h2 ((c_pool,o_pool)::([(c_builds,o_builds),(c_walk,o_walk),(c_versions,o_versions),(323,tabObj #[]),(457,tabObj #[])]++B1)):=fun q hq=>N2 q (by
  rw [eB1] at hq
  exact memSub hq (by walk_at "my sub"))
 clear N2 N0 N
 refine wpAny_execs_cons (st_pool X T r' r'.hand F2 N2' (sp_sep ap1 q2) d_pool (List.mem_append_right _ mn1) dn (List.mem_append_right _ mD1) hK n5 fun h3 tk3 op Dp kp newP vp pts F3 N3 dp mDp hE np5 hwp apP=>?_)
 refine (?_:wpAny _ _ _ _ _ _)
 have N3':News (hideAll s.heap [323,457]) L h3 ([(c_builds,o_builds),(c_walk,o_walk),(c_versions,o_versions),(323,tabObj #[]),(457,tabObj #[])]++((c_pool,op)::(newP++B1))):=fun q hq=>N3 q (sp_mem hq)
 have ap2:=apart_next (o':=op) ap1 q2 apP
 refine byc fun b_=>?_
 obtain ⟨B2,eB2⟩:∃ B2,B2=(c_pool,op)::(newP++B1):=⟨_,rfl⟩
 refine b_ ?_;clear b_
 have mp2:(c_pool,op) ∈ B2:=by rw [eB2];exact List.mem_cons_self ..
 have nw2:∀ q ∈ newP,q ∈ B2:=fun q hq=>by rw [eB2];exact List.mem_cons_of_mem _ (List.mem_append_left _ hq)
 have le2:∀ q ∈ B1,q ∈ B2:=fun q hq=>by rw [eB2];exact List.mem_cons_of_mem _ (List.mem_append_right _ hq)
 have mDp2:=nw2 _ mDp
 have hE2:Each (PtIn B2) vp pts:=hE.imp fun _ _ x=>x.le nw2
 rw [← eB2] at ap2 N3'
 clear N3 apP hE mDp nw2 eB2 F2 N2'
 refine wpAny_execs_cons (st_builds X T r' r'.hand F3 N3' (sp_sep ap2 q3) d_builds (List.mem_append_right _ (le2 _ mn1)) dn (List.mem_append_right _ (le2 _ mD1)) hK n5 fun h4 tk4 ob Db kb newB lb js F4 N4 db mDb hlb nj5 hj4 apB=>?_)
 refine (?_:wpAny _ _ _ _ _ _)
 have N4':News (hideAll s.heap [323,457]) L h4 ([(c_walk,o_walk),(c_versions,o_versions),(323,tabObj #[]),(457,tabObj #[])]++((c_builds,ob)::(newB++B2))):=fun q hq=>N4 q (sp_mem hq)
 have ap3:=apart_next (o':=ob) ap2 q3 apB
 refine byc fun b_=>?_
 obtain ⟨B3,eB3⟩:∃ B3,B3=(c_builds,ob)::(newB++B2):=⟨_,rfl⟩
 refine b_ ?_;clear b_
 have mb3:(c_builds,ob) ∈ B3:=by rw [eB3];exact List.mem_cons_self ..
 have mDb3:(Db,listOf (strValues lb).toArray kb) ∈ B3:=by rw [eB3];exact List.mem_cons_of_mem _ (List.mem_append_left _ mDb)
 have le3:∀ q ∈ B2,q ∈ B3:=fun q hq=>by rw [eB3];exact List.mem_cons_of_mem _ (List.mem_append_right _ hq)
 rw [← eB3] at ap3 N4'
 clear N4 apB mDb eB3 F3 N3'
 have mp3:=le3 _ mp2
 have mDp3:=le3 _ mDp2
 have hE3:Each (PtIn B3) vp pts:=hE2.imp fun _ _ x=>x.le le3
 refine wpAny_execs_cons (st_walk X T r' r'.hand F4 N4' (sp_sep ap3 q4) d_walk (List.mem_append_right _ mp3) dp (List.mem_append_right _ mDp3) (hE3.imp fun _ _ x=>x.le fun q hq=>List.mem_append_right _ hq) np5 hwp fun h5 tk5 ow Dw kw lw Lp F5 N5 dw hlw hmw hsw zw sDw=>?_)
 refine (?_:wpAny _ _ _ _ _ _)
 have N5':News (hideAll s.heap [323,457]) L h5 ([(c_versions,o_versions),(323,tabObj #[]),(457,tabObj #[])]++((c_walk,ow)::([(Dw,listOf (strValues lw).toArray kw)]++B3))):=fun q hq=>N5 q (sp_mem hq)
 have ap4:=apart_next (o':=ow) (new:=[(Dw,listOf (strValues lw).toArray kw)]) ap3 q4 (apart_one sDw)
 refine byc fun b_=>?_
 obtain ⟨B4,eB4⟩:∃ B4,B4=(c_walk,ow)::([(Dw,listOf (strValues lw).toArray kw)]++B3):=⟨_,rfl⟩
 refine b_ ?_;clear b_
 have mw4:(c_walk,ow) ∈ B4:=by rw [eB4];exact List.mem_cons_self ..
 have mDw4:(Dw,listOf (strValues lw).toArray kw) ∈ B4:=by rw [eB4];exact List.mem_cons_of_mem _ (List.mem_cons_self ..)
 have le4:∀ q ∈ B3,q ∈ B4:=fun q hq=>by rw [eB4];exact List.mem_cons_of_mem _ (List.mem_cons_of_mem _ hq)
 rw [← eB4] at ap4 N5'
 clear N5 sDw eB4 F4 N4'
 have mp4:=le4 _ mp3
 have mDp4:=le4 _ mDp3
 have hE4:Each (PtIn B4) vp pts:=hE3.imp fun _ _ x=>x.le le4
 refine wpAny_execs_cons (st_places X T r' r'.hand F5 N5' (List.mem_append_right _ mp4) dp (List.mem_append_right _ mDp4) (hE4.imp fun _ _ x=>x.le fun q hq=>List.mem_append_right _ hq) np5 hwp (List.mem_append_right _ mw4) dw (List.mem_append_right _ mDw4) hlw hmw zw fun h6 tk6 Dl kl vi is F6 N6 hiv hip sDl=>?_)
 refine (?_:wpAny _ _ _ _ _ _)
 refine wpAny_execs_cons (st_texts X T r' r'.hand F6 N6 (List.mem_cons_of_mem _ (List.mem_append_right _ mp4)) dp (List.mem_cons_of_mem _ (List.mem_append_right _ mDp4)) (hE4.imp fun _ _ x=>x.le fun q hq=>List.mem_cons_of_mem _ (List.mem_append_right _ hq)) np5 hwp (List.mem_cons_of_mem _ (List.mem_append_right _ (le4 _ mb3))) db (List.mem_cons_of_mem _ (List.mem_append_right _ (le4 _ mDb3))) hlb nj5 hj4 fun h7 tk7 Dt kt lt F7 N7 htx sDt=>?_)
 refine (?_:wpAny _ _ _ _ _ _)
 refine byc fun b_=>?_
 obtain ⟨B6,eB6⟩:∃ B6,B6=(Dt,listOf (strValues lt).toArray kt)::(Dl,listOf (List.toArray vi) kl)::B4:=⟨_,rfl⟩
 refine b_ ?_;clear b_
 have ap6:Apart B6 [(c_versions,o_versions),(323,tabObj #[]),(457,tabObj #[])]:=fun p hp q hq=>by
  rw [eB6] at hp
  revert p;refine List.forall_mem_cons.mpr ⟨?_,fun p hp=>?_⟩
  ·exact (sDt q (List.mem_cons_of_mem _ (List.mem_append_left _ hq))).symm
  ·revert p;refine List.forall_mem_cons.mpr ⟨?_,fun p hp=>?_⟩
   ·exact (sDl q (List.mem_append_left _ hq)).symm
   ·exact ap4 p hp q hq
 have mDt6:(Dt,listOf (strValues lt).toArray kt) ∈ B6:=by rw [eB6];exact List.mem_cons_self ..
 have mDl6:(Dl,listOf (List.toArray vi) kl) ∈ B6:=by rw [eB6];exact List.mem_cons_of_mem _ (List.mem_cons_self ..)
 have le6:∀ q ∈ B4,q ∈ B6:=fun q hq=>by rw [eB6];exact List.mem_cons_of_mem _ (List.mem_cons_of_mem _ hq)
 have N7':News (hideAll s.heap [323,457]) L h7 ((323,tabObj #[])::(c_versions,o_versions)::(457,tabObj #[])::B6):=fun q hq=>N7 q (by
  rw [eB6] at hq
  exact memSub hq (by walk_at "my sub"))
 clear N7 N6 N5' sDl sDt eB6 F6 F5
 have nz5:(pts.zip js).length=5:=by rw [List.length_zip,np5,nj5];rfl
 have hzw:∀ x ∈ pts.zip js,PtW x.1∧x.2 < 4:=fun x hx=>⟨hwp _ (List.of_mem_zip hx).1,hj4 _ (List.of_mem_zip hx).2⟩
 have nt6:NotT ((c_versions,o_versions)::(457,tabObj #[])::B6):=fun q hq=>by
  revert q;refine List.forall_mem_cons.mpr ⟨?_,fun q hq=>?_⟩
  ·exact q5 (323,tabObj #[]) (List.mem_cons_self ..)
  ·revert q;refine List.forall_mem_cons.mpr ⟨?_,fun q hq=>?_⟩
   ·exact (q6 (457,tabObj #[]) (List.mem_cons_self ..)).symm
   ·exact ap6 q hq (323,tabObj #[]) (List.mem_cons_of_mem _ (List.mem_cons_self ..))
 refine wpAny_execs_cons (st_versions X T r' r'.hand F7 N7' (fun p hp=>?_) nt6 d_versions trivial ab look_top (List.mem_cons_of_mem _ mDt6) htx nz5 hzw fun h8 tk8 g8 ps8 ov Dv kv newV vv vers F8 N8 tr8 ab8 dv mDv hVd hVP apV=>?_)
 ·revert p;refine List.forall_mem_cons.mpr ⟨?_,fun p hp=>?_⟩
  ·exact (q5 (457,tabObj #[]) (List.mem_cons_of_mem _ (List.mem_cons_self ..))).symm
  ·exact ap6 p hp (c_versions,o_versions) (List.mem_cons_self ..)
 refine (?_:wpAny _ _ _ _ _ _)
 refine byc fun b_=>?_
 obtain ⟨B7,eB7⟩:∃ B7,B7=(c_versions,ov)::(newV++B6):=⟨_,rfl⟩
 refine b_ ?_;clear b_
 have ap7:Apart B7 [(323,tabObj #[]),(457,tabObj #[])]:=fun p hp q hq=>by
  rw [eB7] at hp
  revert p;refine List.forall_mem_cons.mpr ⟨?_,fun p hp=>?_⟩
  ·exact q5 q hq
  ·rcases List.mem_append.mp hp with hp | hp
   ·refine apV p hp q ?_
    revert q;refine List.forall_mem_cons.mpr ⟨?_,fun q hq=>?_⟩
    ·exact List.mem_cons_self ..
    ·rw [List.mem_singleton.mp hq];exact List.mem_cons_of_mem _ (List.mem_cons_of_mem _ (List.mem_cons_self ..))
   ·exact ap6 p hp q (List.mem_cons_of_mem _ hq)
 have mv7:(c_versions,ov) ∈ B7:=by rw [eB7];exact List.mem_cons_self ..
 have nw7:∀ q ∈ newV,q ∈ B7:=fun q hq=>by rw [eB7];exact List.mem_cons_of_mem _ (List.mem_append_left _ hq)
 have le7:∀ q ∈ B6,q ∈ B7:=fun q hq=>by rw [eB7];exact List.mem_cons_of_mem _ (List.mem_append_right _ hq)
 have N8':News (hideAll s.heap [323,457]) L h8 ((323,tabObj ps8)::(457,tabObj #[])::B7):=fun q hq=>N8 q (by
  rw [eB7] at hq
  exact memSub hq (by walk_at "my sub"))
 have mDv7:=nw7 _ mDv
 have hVd7:Each (VerLd B7) vv vers:=hVd.imp fun _ _ x=>x.le nw7
 have mDl7:=le7 _ mDl6
 have mDt7:=le7 _ mDt6
 have mw7:=le7 _ (le6 _ mw4)
 have mDw7:=le7 _ (le6 _ mDw4)
 clear N8 N7' apV mDv hVd nw7 eB7 F7
 have hwl:∀ q ∈ Lp,PtW q:=fun q hq=>hwp q ((hmw q).mp hq)
 have hip5:Each (fun (i:Nat) (x:Pt × Nat)=>Lp[i]?=some x.1) is (pts.zip js):=each_zip hip (by rw [np5,nj5])
 have f7:Five B7 Lp vv vi lt vers is (pts.zip js):=⟨hVd7,hVP,nz5,hzw,hiv,hip5,htx,hsw⟩
 have f8:Five ((457,tabObj #[])::B7) Lp vv vi lt vers is (pts.zip js):=⟨hVd7.imp fun _ _ x=>x.le fun q hq=>List.mem_cons_of_mem _ hq,hVP,nz5,hzw,hiv,hip5,htx,hsw⟩
 refine wpAny_execs_cons (st_loops X T r' r'.hand F8 N8' (fun q hq=>?_) tr8 ab8 (look_skip rfl look_top) look_top (List.mem_cons_of_mem _ mv7) dv (List.mem_cons_of_mem _ mDv7) (List.mem_cons_of_mem _ mDl7) (List.mem_cons_of_mem _ mDt7) f8 fun h9 tk9 g9 ps9 l9 F9 N9 tr9 ab9 k57 k58=>?_)
 ·revert q;refine List.forall_mem_cons.mpr ⟨?_,fun q hq=>?_⟩
  ·exact (q6 (457,tabObj #[]) (List.mem_cons_self ..)).symm
  ·exact ap7 q hq (323,tabObj #[]) (List.mem_cons_self ..)
 refine (?_:wpAny _ _ _ _ _ _)
 have s457:∀ p ∈ B7,p.1 ≠ 457:=fun p hp=>ap7 p hp (457,tabObj #[]) (List.mem_cons_of_mem _ (List.mem_cons_self ..))
 have n32:(323:Addr) ≠ 457:=by decide
 have up0:∀ q ∈ B7,q ∈ (323,tabObj ps9)::B7:=fun q hq=>List.mem_cons_of_mem _ hq
 refine wpAny_execs_cons (st_row (rest:=(323,tabObj ps9)::B7) X T r' r'.hand F9 (fun q hq=>N9 q (by
  exact memSub hq (by walk_at "my sub"))) (fun p hp=>?_) (up0 _ mv7) dv (up0 _ mDv7) (hVd7.imp fun _ _ x=>x.le up0) hVP nz5 hzw fun h10 tk10 Dr kr lr p1 t2 F10 N10 ht2 hp1 hs1 hlr sDr nDr=>?_)
 ·revert p;refine List.forall_mem_cons.mpr ⟨?_,fun p hp=>?_⟩
  ·exact n32
  ·exact s457 p hp
 refine (?_:wpAny _ _ _ _ _ _)
 have up:∀ q ∈ B7,q ∈ (Dr,listOf (strValues lr).toArray kr)::(323,tabObj ps9)::B7:=fun q hq=>List.mem_cons_of_mem _ (List.mem_cons_of_mem _ hq)
 refine wpAny_execs_cons (st_back X T r' r'.hand F10 N10 (fun p hp=>?_) ht2 (up _ mv7) dv (up _ mDv7) (hVd7.imp fun _ _ x=>x.le up) hVP nz5 hzw fun h11 tk11 Dk kk lk p2 t3' F11 N11 hp2 hs2 hlk sDk=>?_)
 ·revert p;refine List.forall_mem_cons.mpr ⟨?_,fun p hp=>?_⟩
  ·exact nDr
  ·revert p;refine List.forall_mem_cons.mpr ⟨?_,fun p hp=>?_⟩
   ·exact n32
   ·exact s457 p hp
 refine (?_:wpAny _ _ _ _ _ _)
 have up2:∀ q ∈ B7,q ∈ (Dk,listOf (strValues lk).toArray kk)::(457,tabObj t3')::(Dr,listOf (strValues lr).toArray kr)::(323,tabObj ps9)::B7:=fun q hq=>List.mem_cons_of_mem _ (List.mem_cons_of_mem _ (List.mem_cons_of_mem _ (List.mem_cons_of_mem _ hq)))
 have l5:lr.length=5:=by rw [← List.length_map (f:=(·.1)),hlr,List.length_map,List.length_map];exact (permB_perm hp1).length_eq.trans (by simp)
 have mR2:(Dr,listOf (strValues lr).toArray kr) ∈ (Dk,listOf (strValues lk).toArray kk)::(457,tabObj t3')::(Dr,listOf (strValues lr).toArray kr)::(323,tabObj ps9)::B7:=List.mem_cons_of_mem _ (List.mem_cons_of_mem _ (List.mem_cons_self ..))
 refine wpAny_execs_cons (st_if X T r' r'.hand F11 N11 (look_skip rfl look_top) look_top (look_skip rfl (look_skip rfl k58)) mR2 (List.mem_cons_self ..) (up2 _ mDt7) (by rw [hlr];exact f7.textsOk hp1) l5 (by rw [hlr,hlk];exact f7.rows hp1 hp2 hs1 hs2) (by rw [hlr];exact f7.rowTexts hp1) fun h12 tk12 F12 N12=>?_)
 refine (?_:wpAny _ _ _ _ _ _)
 refine wpAny_execs_cons (st_rise X T r' r'.hand F12 N12 (look_skip rfl look_top) mR2 (by rw [hlr];exact f7.rowT hp1) l5 (up2 _ mw7) dw (up2 _ mDw7) hlw zw hwl hsw fun h13 tk13 Di ki vr F13 N13 hri=>?_)
 refine (?_:wpAny _ _ _ _ _ _)
 refine wpAny_execs_cons (st_ret X T r' r'.hand F13 N13 look_top (List.mem_cons_self ..) hri (by rw [List.length_map];exact (permB_perm hp1).length_eq.trans (by simp)) (f7.rises hp1 hs1) fun h14 tk14 F14 N14=>?_)
 refine ⟨h14,tk14,g9,ps9,t3',rfl,rfl,fun b o n1 n2 e=>F14.keep b o (hideAll_get _ e fun hm=>?_),(N14 (323,tabObj ps9) (List.mem_cons_of_mem _ (List.mem_cons_of_mem _ (List.mem_cons_of_mem _ (List.mem_cons_of_mem _ (List.mem_cons_self ..)))))).1,(N14 (457,tabObj t3') (List.mem_cons_of_mem _ (List.mem_cons_of_mem _ (List.mem_cons_self ..)))).1,ab9⟩
 rcases List.mem_cons.mp hm with rfl | hm
 ·exact n1 rfl
 ·exact n2 (List.mem_singleton.mp hm)
theorem law_old {h h':Heap} {c1 P1 c2 P2:Addr} {ps t2:Array Value} (hT:TabsAt [(c1,P1),(c2,P2)] h) (k:∀ b o,b ≠ P1→b ≠ P2→h.get? b=some o→h'.get? b=some o) (e1:h'.get? P1=some (tabObj ps)) (e2:h'.get? P2=some (tabObj t2)):OldK h h':=by
 refine byc fun b_=>?_
 obtain ⟨⟨C1,g1⟩,hT⟩:=List.forall_mem_cons.mp hT
 obtain ⟨⟨C2,g2⟩,_⟩:=List.forall_mem_cons.mp hT
 refine b_ ?_;clear b_
 dsimp only at C1 g1 C2 g2
 have i1:=(C1.tab g1).isCodeTable
 have i2:=(C2.tab g2).isCodeTable
 refine ⟨fun b o e=>?_,fun b o e=>?_⟩
 ·by_cases n1:b=P1
  ·refine byc fun b_=>?_
   subst n1
   refine b_ ?_;clear b_
   rw [g1] at e;cases e
   exact .inr (.inl ⟨i1,rfl,#[],ps,rfl,by rw [e1,Array.empty_append]⟩)
  ·by_cases n2:b=P2
   ·refine byc fun b_=>?_
    subst n2
    refine b_ ?_;clear b_
    rw [g2] at e;cases e
    exact .inr (.inl ⟨i2,rfl,#[],t2,rfl,by rw [e2,Array.empty_append]⟩)
   ·exact .inl (k b o n1 n2 e)
 ·by_cases n1:b=P1
  ·exact ⟨_,n1 ▸ e1⟩
  ·by_cases n2:b=P2
   ·exact ⟨_,n2 ▸ e2⟩
   ·exact ⟨o,k b o n1 n2 e⟩
theorem gk_law (w:World):nsIn (hd.heap_1 w.params) mainGlobals "law"=some (some (.ref 460)):=by k_is
theorem rm_caller:Rm callerA 20:=by
 refine ⟨by decide,by decide,rfl⟩
theorem law_top {w:World} {s₁:Shared} {fa pl:Addr} {vs:List Value} {ns:List Int} {c:ClaimW} {cl:Str→Option Addr} {mean':ExcName→Option Value} {args:List WData} (KX:(hd.heap_1 w.params).In s₁.heap) (hT8:∀ P:Addr,P ∈ [323,457]→s₁.heap.get? P=some (tabObj #[])) (T:Top p loose mean mg mb s₁.heap) (hmg:mg "law"=some (.ref fa)) (hg:s₁.gens=#[])
  (hL:s₁.heap.IsList pl vs.toArray) (hI:IntsAre vs ns) (hc:¬ (63:Int) < ns.length) (hr:∀ cls,c.raises args cls=false) (hp:c.post args (.bool true) args=true) :
  wpAny (model prog w) callerA (call (.ref fa) [.ref pl]) (fun v s'=>GoodWG c cl mean' args s₁ (.ok (.ret v)) s') (fun e s'=>GoodWG c cl mean' args s₁ (.error e) s') s₁:=by
 have hT:TabsAt [(327,323),(459,457)] s₁.heap:=List.forall_mem_cons.mpr ⟨⟨codeHd_of_K KX (by kernel_rfl),hT8 323 (by simp)⟩,List.forall_mem_cons.mpr ⟨⟨codeHd_of_K KX (by kernel_rfl),hT8 457 (by simp)⟩,fun _ h=>nomatch h⟩⟩
 have X':=ghost_K hT KX (by kernel_rfl)
 have T':=ghost_top hT T
 have e:=mg_of KX T.g (gk_law w)
 rw [hmg] at e
 cases e
 refine wpAny_call (codeAny_mono (law_spec X' T' rm_caller (hT8 323 (by simp)) (hT8 457 (by simp)) (AllBare.of_eq hg) hL hI (by rw [hI.length];lia)) fun r s' hr'=>?_)
 refine byc fun b_=>?_
 obtain ⟨h',tk,g',ps',t2,rfl,rfl,k,e1,e2,ab⟩:=hr'
 refine b_ ?_;clear b_
 exact ⟨.inl ⟨.bool true,.bool true,[],rfl,hr,.bool true,hp,fun _=>⟨List.nodup_nil,fun _ h=>nomatch h⟩⟩,law_old hT k e1 e2,rfl,ab⟩
noncomputable def keyList:List Addr:=(hd.heap_1 somePar).map (·.1)
theorem keys (P:Params):keyList=(hd.heap_1 P).map (·.1):=by kernel_rfl
noncomputable def goT (f:SharedT→Thread→Option (SharedT × Thread)) (ok:Thread→Bool):Nat→SharedT→Thread→Option SharedT
 | 0,_,_=>none
 | n + 1,s,t=>match through t with
  | true=>some s
  | false=>match ok t with
   | false=>none
   | true=>match f s t with
    | some (s',t')=>goT f ok n s' t'
    | none=>none
theorem goT_c (f:SharedT→Thread→Option (SharedT × Thread)) (ok:Thread→Bool) (n:Nat) (s:SharedT) (t:Thread):goT f ok (n + 1) s t=(match through t with
  | true=>some s
  | false=>match ok t with
   | false=>none
   | true=>match f s t with
    | some (s',t')=>goT f ok n s' t'
    | none=>none):=rfl
theorem goT_run {tb:String→Option Builtin} {p:Program} {w:World} {m:Nat} {ann:Option Value}:∀ {n:Nat} {s s':SharedT} {t:Thread},goT (stepT (denote tb) p w) (stepOk m ann) n s t=some s'→topRun tb p w m ann n s.abs t=some s'.abs:=by
 intro n
 induction n with
 | zero=>exact fun h=>nomatch h
 | succ n ih =>
  intro s s' t h
  rw [goT_c] at h
  unfold topRun
  cases ht:through t with
  | true=>rw [ht] at h;cases h;rfl
  | false =>
   rw [ht] at h
   cases hk:stepOk m ann t with
   | false=>rw [hk] at h;cases h
   | true =>
    rw [hk] at h
    cases hs:stepT (denote tb) p w s t with
    | none=>rw [hs] at h;cases h
    | some r=>rw [hs] at h;rw [stepT_spec hs];exact ih h
theorem runLeft {p q:Program} {loose:List Str} {Xt:Shared→Bool} {α:Type} {Yf:Shared→α} {Ya:World→α} {N:Nat} {H:Params→Heap} {d:Drawn} {k m:Nat} {ann:Option Value} {S:World→OsState→Shared}
  (open_:∀ w:World,(fencedOpening treeTable p w N).map (fun s=>(s.heap,s.gens,s.drawn,s.toks))=some (H w.params,#[],d,k))
  (size:∀ w:World,(H w.params).isNs mainGlobals=true∧(H w.params).objs.size=m∧(H w.params).nsMap mainGlobals "__annotations__"=ann)
  (run:∀ w os,topRun treeTable p w m ann N ⟨H w.params,#[],d,k,os⟩ (topStub p)=some (S w os))
  (looks:∀ w os,(staticsOk (importedModules p.main.body) (H w.params) (S w os).heap && namesBound p (S w os).heap && gensDone (S w os) && laidKept (H w.params) (S w os).heap,
   openSeen q loose (importedModules p.main.body) Xt true (S w os),Yf (S w os))=(true,openGood q loose,Ya w)):LeftO p q loose Xt Yf Ya N:=fun w=>by
 obtain ⟨⟨h,gs,d',k',os⟩,e,e'⟩:=Option.map_eq_some_iff.mp (open_ w)
 obtain ⟨rfl,rfl,rfl,rfl⟩:h=H w.params∧gs=#[]∧d'=d∧k'=k:=by simpa using e'
 obtain ⟨z1,z2,z3⟩:=size w
 have l:=looks w os
 have t:topFrom treeTable p w N ⟨H w.params,#[],d',k',os⟩=some (S w os):=by
  unfold topFrom
  dsimp only
  rw [z1,z2,z3,run]
  dsimp only [Option.bind]
  have c:=congrArg Prod.fst l
  dsimp only at c
  rw [c]
  rfl
 unfold openEnds
 rw [e]
 refine Eq.trans (congrArg (Option.map (fun s=>(openSeen q loose (importedModules p.main.body) Xt true s,Yf s))) t) ?_
 exact congrArg some (congrArg Prod.snd l)
noncomputable def bootT (P:Params):BT:=(boot_heap P).objs.toList.zipIdx.foldl (fun t x=>t.ins x.2 x.1) .nil
noncomputable def S0T (w:World) (os:OsState):SharedT:=⟨bootT w.params,11,(boot_heap w.params).life,#[],boot_drawn,boot_toks,os⟩
theorem S0T_abs (w:World) (os:OsState):(S0T w os).abs=⟨boot_heap w.params,#[],boot_drawn,boot_toks,os⟩:=by kernel_rfl
noncomputable abbrev hP:Program:=PySem.Challenge.rw_aj0027_01.row.toRowW.prog
noncomputable abbrev hR:Program:=(PySem.W.Fast.tw2368527892694137696 PySem.Challenge.rw_aj0027_01).toRowW.prog
theorem hP_eq:hP=hR:=congrArg (fun f=>(f PySem.Challenge.rw_aj0027_01).toRowW.prog) PySem.W.Fast.te2368527892694137696
noncomputable def runT (w:World) (os:OsState):Option SharedT :=
 goT (PySem.W.Fast.tw10156331382660048174 (PySem.W.Fast.tw11892475500146522536 PySem.W.Fast.tw14364793385576792824) hR w) (PySem.W.Fast.tw6613529449190102663 11 (some (.ref 6))) 6660 (S0T w os) (topStub hR)
theorem runT_some (w:World) (os:OsState):(runT w os).isSome=true:=by kernel_rfl
noncomputable def topS (w:World) (os:OsState):Shared:=((runT w os).getD (S0T w os)).abs
theorem runTop (w:World) (os:OsState):topRun treeTable hP w 11 (some (.ref 6)) 6660 ⟨boot_heap w.params,#[],boot_drawn,boot_toks,os⟩ (topStub hP)=some (topS w os):=by
 rw [← S0T_abs]
 refine goT_run (s':=(runT w os).getD (S0T w os)) ?_
 have e:=runT_some w os
 have h:goT (stepT (denote treeTable) hP w) (stepOk 11 (some (.ref 6))) 6660 (S0T w os) (topStub hP)=runT w os:=by
  unfold runT
  rw [hP_eq,PySem.W.Fast.te10156331382660048174,PySem.W.Fast.te11892475500146522536,PySem.W.Fast.te14364793385576792824,PySem.W.Fast.te6613529449190102663]
 rw [h]
 cases hr:runT w os with
 | none=>rw [hr] at e;cases e
 | some x=>rfl
noncomputable def hq:Program:=view hP [0,1,2,3,4,5,6,7,8,9,10,12,13,14,16,17,18,19,20,21,22,23]
noncomputable abbrev hL:List Str:=["Version","_law_tails"]
noncomputable abbrev hH:Hook:=kmHook hd.heap_1 keyList keys [323,457]
noncomputable abbrev hX:Shared→Bool:=fun s=>xlAt hq [] s && recOk (RowW.records PySem.Challenge.rw_aj0027_01.row.toRowW) s
theorem looksA (w:World) (os:OsState):(staticsOk (PySem.W.Fast.tw5923862056798008813 hR.main.body) (boot_heap w.params) (topS w os).heap && namesBound hR (topS w os).heap && gensDone (topS w os) && laidKept (boot_heap w.params) (topS w os).heap)=true:=by kernel_rfl
theorem looksB (w:World) (os:OsState):PySem.W.Fast.tw4187177175401517315 hq hL (PySem.W.Fast.tw5923862056798008813 hR.main.body) hX true (topS w os)=openGood hq hL:=by kernel_rfl
theorem looksC (w:World) (os:OsState):hH.obs (topS w os)=hH.val w:=by kernel_rfl
theorem looks (w:World) (os:OsState):(staticsOk (PySem.W.Fast.tw5923862056798008813 hR.main.body) (boot_heap w.params) (topS w os).heap && namesBound hR (topS w os).heap && gensDone (topS w os) && laidKept (boot_heap w.params) (topS w os).heap,
   PySem.W.Fast.tw4187177175401517315 hq hL (PySem.W.Fast.tw5923862056798008813 hR.main.body) hX true (topS w os),hH.obs (topS w os))=(true,openGood hq hL,hH.val w):=Prod.ext (looksA w os) (Prod.ext (looksB w os) (looksC w os))
theorem hleft:LeftO hP hq hL hX hH.obs hH.val 6660 :=
 runLeft (boot_open (by kernel_rfl) rfl fun _=>by kernel_rfl) (fun w=>⟨by kernel_rfl,by kernel_rfl,by kernel_rfl⟩) runTop fun w os=>by
  have l:=looks w os
  rw [← hP_eq,← PySem.W.Fast.te5923862056798008813,← PySem.W.Fast.te4187177175401517315] at l
  exact l
theorem fin.tw17722175906037209756:True:=trivial
theorem fin.tw10596311210929488660:True:=trivial
set_option Elab.async true
set_option maxHeartbeats 8000000 in
set_option tactic.hygienic true in
theorem fin:PySem.Challenge.rw_aj0027_01.Holds:=by
 w_on;o_law
 refine holds_open (q:=hq) (loose:=hL) (Xt:=hX) (XP:=XL hq []) (Yf:=hH.obs) (Ya:=hH.val) (YP:=hH.says) (N:=6660) hleft hH.of hH.keeps (fun s e=>xl_of s (Bool.and_eq_true_iff.mp e).1) XL.keeps (by rfl) (by rfl) (by rfl) (fun s e=>recFacts_of (Bool.and_eq_true_iff.mp e).2) (by rfl) (by first | assumption | decide +kernel) (by decide +kernel) ⟨rfl,rfl,rfl,rfl,rfl,by decide +kernel⟩ ?hw ?hc
 case hw=>w_witness2
 k_fill
 intro w s₀ s₁ mg mb G Y fa o pm cd doc dV kV ho hd hcd hD hmg hg args vals as hpre hlay hrd hwl hlo
 have KX:=km_in_of Y
 km_tabs Y
 clear hcd hd hD ho
 refine Ground.open G ?_
 intro T B D TE TW
 clear B D TE TW
 wrow_args hpre hlay hrd hwl hlo
 rename_i ns _ _ _ _ _ _ _ pl vs _ hL _ _ _ hI _ hcond _
 exact law_top KX hT8 T hmg hg hL hI hcond (fun _=>rfl) (by kernel_rfl!)
end Mine
theorem PySem.Challenge.cw_aj0027_01_holds : PySem.Challenge.rw_aj0027_01.Holds :=
  Mine.fin
