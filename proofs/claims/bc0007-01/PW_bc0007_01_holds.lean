import PyProof.Rows.All
import PyProof.P3Eq
import PyProof.RangeFor
import PyProof.GenObj
import PyProof.ListNew
import PyProof.ListIndexNeg
import PyProof.WalkInts
import PyProof.Rows.StrKeys3
import PyProof.Rows.RuleB_small
import PyProof.SliceMore
import PyProof.Rows.SortStr
import KE.KLam
import KE.KDictSum
import KE.KDictOf
import KE.KTurns
import KE.KPairTest
import KE.KSortTup
import Open.Tops
import Wide.FinOn
import OpenK.AllK
import Wide.All
import Lean
import PySem.Challenge.RW_bc0007_01
section
open PySem PySem.W PySem.W.X PyProof.Rows
set_option Elab.async false
set_option compiler.extract_closed false
set_option bootstrap.genMatcherCode false
set_option linter.unusedVariables false
namespace Mine
def q0:PySem.Pos:=⟨0,0,0,0⟩
def slk:PySem.Stmt:=.Expr (.Constant (.int 0) 0 q0) q0
def dk:PySem.Expr:=.Name "__doc__" q0
def Fo(s:Stmt):PySem.Expr:=@Stmt.casesOn (fun V=>PySem.Expr) s (fun V V V V V V V V V V=>dk) (fun V V V V V V V V V V=>dk) (fun V V V V V V V V V V V=>dk) (fun V V=>dk) (fun V V=>dk) (fun V v V=>v) (fun V V V V V V V=>dk) (fun V V V V=>dk) (fun V V V V V=>dk) (fun V V V V V=>dk) (fun V V V V V=>dk) (fun V V V V=>dk) (fun V V V V=>dk) (fun V V V=>dk) (fun V V V=>dk) (fun V V V=>dk) (fun V V V=>dk) (fun V V V V V=>dk) (fun V V V V V=>dk) (fun V V V=>dk) (fun V V=>dk) (fun V V V V=>dk) (fun V V=>dk) (fun V V=>dk) (fun V V=>dk) (fun V=>dk) (fun V=>dk) (fun V=>dk)
def Jm(e:PySem.Expr):List PySem.Expr:=@PySem.Expr.casesOn (fun V=>List PySem.Expr) e (fun V V V=>[]) (fun V V V=>[]) (fun V V V V=>[]) (fun V V V=>[]) (fun V V V V=>[]) (fun V V V V=>[]) (fun V vs V=>vs) (fun V V V=>[]) (fun V V V V=>[]) (fun V V V V=>[]) (fun V V V V V=>[]) (fun V V V V=>[]) (fun V V=>[]) (fun V V=>[]) (fun V V=>[]) (fun V V V V=>[]) (fun V V V V=>[]) (fun V V V V=>[]) (fun V V=>[]) (fun V V V=>[]) (fun V V V=>[]) (fun V V V=>[]) (fun V V=>[]) (fun V V=>[]) (fun V V=>[]) (fun V V V=>[]) (fun V V V V=>[])
def dictKs(e:PySem.Expr):List (Option PySem.Expr):=@PySem.Expr.casesOn (fun V=>List (Option PySem.Expr)) e (fun V V V=>[]) (fun V V V=>[]) (fun V V V V=>[]) (fun V V V=>[]) (fun V V V V=>[]) (fun V V V V=>[]) (fun ks V V=>ks) (fun V V V=>[]) (fun V V V V=>[]) (fun V V V V=>[]) (fun V V V V V=>[]) (fun V V V V=>[]) (fun V V=>[]) (fun V V=>[]) (fun V V=>[]) (fun V V V V=>[]) (fun V V V V=>[]) (fun V V V V=>[]) (fun V V=>[]) (fun V V V=>[]) (fun V V V=>[]) (fun V V V=>[]) (fun V V=>[]) (fun V V=>[]) (fun V V=>[]) (fun V V V=>[]) (fun V V V V=>[])
def split6(vs:List PySem.Expr)(ts:List PySem.Expr)(dp pos:PySem.Pos):List PySem.Stmt:=
 .Assign [dk] (.Dict [] [] dp) pos::((vs.mapIdx fun i v=>(if i==17 then [.Expr (.Dict [] [] dp) pos]else [])++(if i==0 then []else [slk])++[.Expr v pos,slk]).flatten++[.Assign ts dk pos,.Assign [dk] (.Constant .none 0 q0) pos])
def st7z(v:PySem.Expr)(c:PySem.Expr):PySem.Stmt:=.Assign [.Name "DEFAULT_VALUES" ⟨10,0,10,14⟩] (.Dict (dictKs v) (c::(Jm v).tail) ⟨10,17,10,189⟩) ⟨10,0,10,189⟩
def st26z:PySem.Stmt:=.Assign [.Name "_smpte_framerate_encode" ⟨192,0,192,23⟩] (.Dict [some (.Constant (.int 24) 0 ⟨192,27,192,29⟩),some (.Constant (.int 25) 0 ⟨192,34,192,36⟩),some (.Constant (.str "") 0 ⟨192,41,192,48⟩),some (.Constant (.int 30) 0 ⟨192,53,192,55⟩)] [.Constant (.int 0) 0 ⟨192,31,192,32⟩,.Constant (.int 1) 0 ⟨192,38,192,39⟩,.Constant (.int 2) 0 ⟨192,50,192,51⟩,.Constant (.int 3) 0 ⟨192,57,192,58⟩] ⟨192,26,192,59⟩) ⟨192,0,192,59⟩
def b6(l:List Stmt):List Stmt:=l.take 6++(((l.drop 6).take 1).flatMap (fun s=>split6 (Jm (Fo s)) [.Name "SPEC_BY_TYPE" ⟨9,0,9,12⟩] ⟨9,15,9,2717⟩ ⟨9,0,9,2717⟩)++(((l.drop 7).take 1).map (fun s=>st7z (Fo s) (.Constant .none 0 ⟨10,0,10,189⟩))++((l.drop 8).take 18++(st26z::l.drop 27))))
def p6:Program:={PySem.Challenge.pw_bc0007_01 with main:={PySem.Challenge.pw_bc0007_01.main with body:=b6 PySem.Challenge.pw_bc0007_01.main.body}}
namespace z
noncomputable def q:PySem.Str:=PySem.Str.ofString "jq"
theorem e:q=q:=rfl
name_quick tw7187069885945717533 for q by e
name_quick tw6030020810570853019 for q by e
name_quick tw15582007772561703370 for q by e
name_quick tw9930593172426662258 for q by e
name_quick tw10804858281383190999 for q by e
name_quick tw15393905701258580789 for q by e
name_quick tw5873641567501510919 for q by e
name_quick tw17480744083901674662 for q by e
name_quick tw12612540855616358204 for q by e
name_quick tw17332882751912055885 for q by e
name_quick tw17903287900629495410 for q by e
name_quick tw4995584045885301717 for q by e
name_quick tw1604598314404684809 for q by e
name_quick tw9932129776171043692 for q by e
name_quick tw1478785803461231593 for q by e
name_quick tw17067598509354625035 for q by e
name_quick tw7470140811233246936 for q by e
name_quick tw768855596026560873 for q by e
name_quick tw7629583589841128019 for q by e
name_quick tw3660732882348739299 for q by e
name_quick tw2927506597424945284 for q by e
name_quick tw10721118966124921698 for q by e
name_quick tw17847783766456447411 for q by e
name_quick tw13964358884961679434 for q by e
name_quick tw15621533279611373130 for q by e
name_quick tw14997073452124434785 for q by e
name_quick tw9568602765033301418 for q by e
name_quick tw6207839106375241572 for q by e
name_quick tw16359606192369875765 for q by e
name_quick tw16024718300346155263 for q by e
name_quick tw6801138761666216383 for q by e
name_quick tw9510294091866397878 for q by e
name_quick tw13551563090909151694 for q by e
name_quick tw1969720325157905900 for q by e
name_quick tw14409113016879332110 for q by e
name_quick tw8328497118999229511 for q by e
name_quick tw2769146145798756052 for q by e
name_quick tw16741023681784424388 for q by e
name_quick tw9206054310239050947 for q by e
name_quick tw10648332648485311597 for q by e
name_quick tw4063607212226655566 for q by e
name_quick tw8394849624490668924 for q by e
name_quick tw12914675783963928706 for q by e
name_quick tw3574614742954234380 for q by e
name_quick tw11386559620719832995 for q by e
name_quick tw2462133866222556671 for q by e
name_quick tw10543544064017319859 for q by e
name_quick tw15226209877940697362 for q by e
name_quick tw4153540970347031786 for q by e
name_quick tw8792304732479626646 for q by e
name_quick tw929379138654275551 for q by e
name_quick tw9189398842850902915 for q by e
name_quick tw199151043520817380 for q by e
name_quick tw3287933752382969982 for q by e
name_quick tw6975801087053065366 for q by e
name_quick tw17068718983885879123 for q by e
name_quick tw12178970856648692693 for q by e
name_quick tw2343344864509755350 for q by e
name_quick tw11478187680860929003 for q by e
name_quick tw4649943305007808826 for q by e
name_quick tw3072794756415584245 for q by e
name_quick tw11205117260404830457 for q by e
name_quick tw17985266579297005298 for q by e
name_quick tw2866767244782720496 for q by e
name_quick tw11419214701926964053 for q by e
name_quick tw6882208019638944850 for q by e
name_quick tw1795932756921707688 for q by e
name_quick tw16416517096350165436 for q by e
name_quick tw7693500279303906064 for q by e
name_quick tw7574362073764771475 for q by e
name_quick tw9230525740769765549 for q by e
name_quick tw5761880406763853988 for q by e
name_quick tw15122381042553358938 for q by e
name_quick tw10879981980744796546 for q by e
name_quick tw6388301481906989930 for q by e
name_quick tw14781138241107157333 for q by e
name_quick tw12588855675714776640 for q by e
name_quick tw16783694695660823400 for q by e
name_quick tw13306518664950208306 for q by e
name_quick tw11263597483148277749 for q by e
name_quick tw13672384303294722823 for q by e
name_quick tw8687702231257749977 for q by e
name_quick tw15097159418041198790 for q by e
name_quick tw16502628362567700956 for q by e
name_quick tw4663065660513306781 for q by e
name_quick tw15584908161201786326 for q by e
name_quick tw288782878423497744 for q by e
name_quick tw12646872472185584399 for q by e
name_quick tw15127673092992421898 for q by e
name_quick tw1121888918802731823 for q by e
name_quick tw8079256380779617340 for q by e
name_quick tw12607730652752704055 for q by e
name_quick tw11890283364926988014 for q by e
name_quick tw16410599411409614144 for q by e
name_quick tw16661229305352535897 for q by e
name_quick tw7674534494850742818 for q by e
name_quick tw2425192032293891482 for q by e
name_quick tw15391421464531420954 for q by e
name_quick tw11328724217527700908 for q by e
name_quick tw15255155003184255226 for q by e
name_quick tw12437746361297115899 for q by e
name_quick tw6099874048497674618 for q by e
name_quick tw11095349670850324564 for q by e
name_quick tw4612144690947214008 for q by e
name_quick tw7985166114671345557 for q by e
name_quick tw13968905434220134164 for q by e
name_quick tw13300826217895039190 for q by e
name_quick tw1439941853958974481 for q by e
name_quick tw3925196907284783953 for q by e
name_quick tw15105265314161262797 for q by e
name_quick tw16778648790678029183 for q by e
name_quick tw12969254053944841877 for q by e
name_quick tw1002734497167135229 for q by e
name_quick tw14748995129544159576 for q by e
name_quick tw13567721997154014190 for q by e
name_quick tw18133899981693159390 for q by e
name_quick tw1093304221426707690 for q by e
name_quick tw13661274906618417567 for q by e
name_quick tw13597603316197769160 for q by e
name_quick tw14375708381002403219 for q by e
name_quick tw2553927051238336992 for q by e
name_quick tw18239883187307478004 for q by e
name_quick tw12786716302463928363 for q by e
name_quick tw9986276025818944045 for q by e
name_quick tw3574237778127438151 for q by e
name_quick tw8254031913098158701 for q by e
name_quick tw5272723662771256274 for q by e
name_quick tw18301035014635698411 for q by e
name_quick tw12266738404956747668 for q by e
name_quick tw2555274865013090256 for q by e
name_quick tw1368048846012453839 for q by e
name_quick tw8433317111629394359 for q by e
name_quick tw8112166654094013141 for q by e
name_quick tw524596800054791092 for q by e
name_quick tw12094713766852423266 for q by e
name_quick tw1794436251301337059 for q by e
name_quick tw2456741988342485476 for q by e
name_quick tw10619127862801532402 for q by e
name_quick tw7955576416463489000 for q by e
name_quick tw1277243226017480883 for q by e
name_quick tw17198465803480236997 for q by e
name_quick tw4540553673276090300 for q by e
name_quick tw8186629044907282081 for q by e
name_quick tw14253146130570921794 for q by e
name_quick tw16036102006233822771 for q by e
name_quick tw11922434915322545183 for q by e
name_quick tw12254709806468710866 for q by e
name_quick tw15223395213960529076 for q by e
name_quick tw3667867619236490716 for q by e
name_quick tw6781106278355541921 for q by e
name_quick tw9099358298559450527 for q by e
name_quick tw7588597805595559243 for q by e
name_quick tw5655565204303548807 for q by e
name_quick tw4902931277487796668 for q by e
name_quick tw5226102311166523006 for q by e
name_quick tw9356443777738273045 for q by e
name_quick tw14018459626529830466 for q by e
name_quick tw16418189787946162365 for q by e
name_quick tw5460207633820611227 for q by e
name_quick tw11174449372882777028 for q by e
name_quick tw5691063950218085813 for q by e
name_quick tw5453581906281750403 for q by e
name_quick tw7215116347146980547 for q by e
name_quick tw3952094610598549475 for q by e
name_quick tw7453491780275366517 for q by e
name_quick tw17384071994551674297 for q by e
name_quick tw2074788609127805611 for q by e
name_quick tw505663180602742797 for q by e
name_quick tw6045814167811064745 for q by e
name_quick tw15514059339251276961 for q by e
name_quick tw17983554881598075929 for q by e
name_quick tw14994875907667025 for q by e
name_quick tw6396061732221941721 for q by e
name_quick tw12710169436589417761 for q by e
name_quick tw12728197807167918384 for q by e
name_quick tw14063555562034555394 for q by e
name_quick tw5394970881257691609 for q by e
name_quick tw4560359667647330553 for q by e
name_quick tw3926903878150685298 for q by e
name_quick tw5138555058589913785 for q by e
name_quick tw10402067128062905382 for q by e
name_quick tw4383007330961890818 for q by e
name_quick tw15784642537298149188 for q by e
name_quick tw11913408826912525837 for q by e
name_quick tw13889817741764219543 for q by e
name_quick tw13121246887047476594 for q by e
name_quick tw11514751229009117756 for q by e
name_quick tw1501920387085922160 for q by e
name_quick tw10914587940839392248 for q by e
name_quick tw8768270455698560976 for q by e
name_quick tw1777444148750491895 for q by e
name_quick tw13080180270585849441 for q by e
name_quick tw18220327929114709194 for q by e
name_quick tw8917439347067691935 for q by e
name_quick tw10083005584020034327 for q by e
name_quick tw8288893486789690846 for q by e
name_quick tw12520492010919068384 for q by e
name_quick tw10324387970731368047 for q by e
name_quick tw973410414789668790 for q by e
name_quick tw9896327830798624301 for q by e
name_quick tw15784372061762601710 for q by e
name_quick tw8491035105701171393 for q by e
name_quick tw14523416907766528645 for q by e
name_quick tw7930054633273077520 for q by e
name_quick tw357764657011760835 for q by e
name_quick tw17241068434978077643 for q by e
name_quick tw18268665437769836202 for q by e
name_quick tw960596732733856870 for q by e
name_quick tw79955812767144738 for q by e
name_quick tw16345093129402654384 for q by e
name_quick tw8766604436392332878 for q by e
name_quick tw17506455811593608438 for q by e
name_quick tw3003144862707258773 for q by e
name_quick tw17748454359056430784 for q by e
name_quick tw254375245273778320 for q by e
name_quick tw7640981251743061441 for q by e
name_quick tw1145304564985752133 for q by e
name_quick tw15164119571134639676 for q by e
name_quick tw14959600788030255553 for q by e
name_quick tw5412900784586806354 for q by e
name_quick tw16321079513679120183 for q by e
name_quick tw2192725198505202362 for q by e
name_quick tw6156774926499891556 for q by e
name_quick tw8427178976090451608 for q by e
name_quick tw12858232497137336078 for q by e
name_quick tw5592205816411731102 for q by e
name_quick tw17733542546255124019 for q by e
name_quick tw7344902406065488553 for q by e
name_quick tw2685714540585201430 for q by e
name_quick tw13912564582014255676 for q by e
name_quick tw11583982498374684119 for q by e
name_quick tw17638041522753517860 for q by e
name_quick tw13530740917175284553 for q by e
name_quick tw4660780996790298518 for q by e
name_quick tw14456702467585486916 for q by e
name_quick tw5086809885248576665 for q by e
name_quick tw11594453685193654813 for q by e
name_quick tw11625207526740378148 for q by e
name_quick tw16973330894864594153 for q by e
name_quick tw1916735031431570231 for q by e
name_quick tw7356703884008710707 for q by e
name_quick tw7281243662199098731 for q by e
name_quick tw9112758682737368489 for q by e
name_quick tw10208531403738060702 for q by e
name_quick tw10268058051032435931 for q by e
name_quick tw15668265645881829034 for q by e
name_quick tw8376243433942661718 for q by e
name_quick tw13786063729744461424 for q by e
name_quick tw11622199375684977452 for q by e
name_quick tw15407635279693479306 for q by e
name_quick tw12505890324868119541 for q by e
name_quick tw464106804668567786 for q by e
name_quick tw3594567437300857125 for q by e
name_quick tw15966721343667094568 for q by e
name_quick tw11976702813864797131 for q by e
name_quick tw877819124737693345 for q by e
name_quick tw8981019368684952407 for q by e
name_quick tw3313221313116598781 for q by e
name_quick tw918587891630240615 for q by e
name_quick tw16163551688552364341 for q by e
name_quick tw12552270821391268001 for q by e
name_quick tw7776594191959663263 for q by e
name_quick tw16846372077247124170 for q by e
name_quick tw6065387488531763934 for q by e
name_quick tw17122993234629704912 for q by e
name_quick tw9585004717699004029 for q by e
name_quick tw1521179991382293496 for q by e
name_quick tw11001003311436644797 for q by e
name_quick tw6685710626481721425 for q by e
name_quick tw9825074576544063310 for q by e
name_quick tw13224996881878351301 for q by e
name_quick tw4914016002569578836 for q by e
name_quick tw6122809835781077454 for q by e
name_quick tw4739532203498987195 for q by e
name_quick tw4797394283973790487 for q by e
name_quick tw2973599862478124694 for q by e
name_quick tw12440882382819559686 for q by e
name_quick tw1927558200678042520 for q by e
name_quick tw17759906235403747146 for q by e
name_quick tw2199618986851977646 for q by e
name_quick tw13508607768296101073 for q by e
name_quick tw11532687846932054764 for q by e
name_quick tw14764612781924795168 for q by e
name_quick tw10661576282728084165 for q by e
name_quick tw6576870124428123271 for q by e
name_quick tw14353346774442503962 for q by e
name_quick tw13158696669202238645 for q by e
name_quick tw18380605788596610526 for q by e
name_quick tw9624580261948181974 for q by e
name_quick tw7746447010662125450 for q by e
name_quick tw8606737307967018344 for q by e
name_quick tw8883881946138399776 for q by e
name_quick tw12630489063402511346 for q by e
name_quick tw7023415904590066049 for q by e
name_quick tw8953205757416522816 for q by e
name_quick tw9911098413670200970 for q by e
name_quick tw2160783435682018013 for q by e
name_quick tw6269295218540860617 for q by e
name_quick tw8757109334904755716 for q by e
name_quick tw4913163209892765174 for q by e
name_quick tw15066125939662194476 for q by e
name_quick tw8488964559435811807 for q by e
name_quick tw2327529435961815462 for q by e
name_quick tw3033087895161873210 for q by e
name_quick tw1601882260438902405 for q by e
name_quick tw88047743671778995 for q by e
name_quick tw10731767201414060686 for q by e
name_quick tw12214279130490748971 for q by e
name_quick tw14633761546063911368 for q by e
name_quick tw5352334893061135448 for q by e
name_quick tw10618053182015255520 for q by e
name_quick tw15076522570872023510 for q by e
name_quick tw13801281973935558463 for q by e
name_quick tw1546096003476262023 for q by e
name_quick tw9562146965221066330 for q by e
name_quick tw7987303959342522500 for q by e
name_quick tw3041329613839411086 for q by e
name_quick tw5974430492676330201 for q by e
name_quick tw8427995890705525645 for q by e
name_quick tw2913164531232285476 for q by e
name_quick tw15715148775190923713 for q by e
name_quick tw10080555020518951461 for q by e
name_quick tw3939542803307319228 for q by e
name_quick tw11115675423149699867 for q by e
name_quick tw6232392786455292269 for q by e
name_quick tw7389071380691437210 for q by e
name_quick tw5506651991494388984 for q by e
name_quick tw985057767302062710 for q by e
name_quick tw18100750653706894780 for q by e
name_quick tw12949558630792020812 for q by e
name_quick tw7351289030517151918 for q by e
name_quick tw7507755880776033153 for q by e
name_quick tw14452959778599631707 for q by e
name_quick tw17103526285661059109 for q by e
name_quick tw10236738559158542348 for q by e
name_quick tw5678314304651770448 for q by e
name_quick tw17448945816022665453 for q by e
name_quick tw4101526644432847968 for q by e
name_quick tw2222111933532064012 for q by e
name_quick tw737031482454013478 for q by e
name_quick tw1519358942767966892 for q by e
name_quick tw1869550676894507330 for q by e
name_quick tw6255502600829347985 for q by e
name_quick tw1238329513648155613 for q by e
name_quick tw3947075020169911494 for q by e
name_quick tw9873405551234329871 for q by e
name_quick tw5363586943777566675 for q by e
name_quick tw2635886284253325603 for q by e
name_quick tw5184137614159200547 for q by e
name_quick tw7245125024675971893 for q by e
name_quick tw4464112643195865733 for q by e
name_quick tw3978223366520730404 for q by e
name_quick tw15963973293145971414 for q by e
name_quick tw10604563172188833219 for q by e
name_quick tw6105242380831982926 for q by e
name_quick tw3229766446086462526 for q by e
name_quick tw6002593832888063149 for q by e
name_quick tw1754990657091227032 for q by e
name_quick tw4213745216851622052 for q by e
name_quick tw4540326383137487639 for q by e
name_quick tw13963536192935964312 for q by e
name_quick tw17096858224432886203 for q by e
name_quick tw4687711019523951209 for q by e
name_quick tw10772869557615107743 for q by e
name_quick tw3558697154612077648 for q by e
name_quick tw2454787378853950764 for q by e
name_quick tw11708687820077028059 for q by e
name_quick tw11522101074270116877 for q by e
name_quick tw6511933124525458241 for q by e
name_quick tw9192443872764903258 for q by e
name_quick tw5952029290588061454 for q by e
name_quick tw2894181132056039729 for q by e
name_quick tw9827204879167888212 for q by e
name_quick tw7465265630523176519 for q by e
name_quick tw11968966072483098751 for q by e
name_quick tw5844877030284754386 for q by e
name_quick tw5005091161178740894 for q by e
name_quick tw15585910149348701660 for q by e
name_quick tw13214119610076642752 for q by e
name_quick tw540893066160290538 for q by e
name_quick tw11506538535945168170 for q by e
name_quick tw15987204467127671426 for q by e
name_quick tw17082423417533969563 for q by e
name_quick tw15644881639881023475 for q by e
name_quick tw16027525327981478279 for q by e
name_quick tw6692129598455614353 for q by e
name_quick tw8454066066653406718 for q by e
name_quick tw8207609411572401424 for q by e
name_quick tw11930472054420624178 for q by e
name_quick tw4032603742092091823 for q by e
name_quick tw3980613922637173195 for q by e
name_quick tw13383150768084248737 for q by e
name_quick tw17064892145342542439 for q by e
name_quick tw9182669642425673473 for q by e
name_quick tw4184405960009249195 for q by e
name_quick tw10779489194009921479 for q by e
name_quick tw13385102446854595123 for q by e
name_quick tw8565177525885275505 for q by e
name_quick tw16483848806026997275 for q by e
name_quick tw18062336457190893403 for q by e
name_quick tw420062554993296829 for q by e
name_quick tw5245739225423484568 for q by e
name_quick tw5468083185243179970 for q by e
name_quick tw6915506692466394994 for q by e
name_quick tw9027906561063776735 for q by e
name_quick tw11624786298322802033 for q by e
name_quick tw13653772318442622799 for q by e
name_quick tw10972055559988379493 for q by e
name_quick tw1803199018154626557 for q by e
name_quick tw2452087603261398931 for q by e
name_quick tw9721133668085049700 for q by e
name_quick tw8970960798332327276 for q by e
name_quick tw14460105336082614094 for q by e
name_quick tw2595384160037540723 for q by e
name_quick tw8224134803189966139 for q by e
name_quick tw16576204171266070686 for q by e
name_quick tw16084912600317340120 for q by e
name_quick tw12485604454292365362 for q by e
name_quick tw5200920838866079877 for q by e
name_quick tw3237084476277783015 for q by e
name_quick tw17932807204261347825 for q by e
name_quick tw8627726617404912144 for q by e
name_quick tw14563128318149905284 for q by e
name_quick tw14528893518355384350 for q by e
name_quick tw15338992568703068463 for q by e
name_quick tw5388091565355261266 for q by e
name_quick tw15871117359577697933 for q by e
name_quick tw16249906962104018047 for q by e
name_quick tw3941167766518914493 for q by e
name_quick tw2976996821687493298 for q by e
name_quick tw1101796908685994196 for q by e
name_quick tw10386897729843209728 for q by e
name_quick tw3440119705215034264 for q by e
name_quick tw5595707047886208081 for q by e
name_quick tw12937375908948494425 for q by e
name_quick tw5964951042363742540 for q by e
name_quick tw5846979082197199989 for q by e
name_quick tw3942693751575209985 for q by e
name_quick tw6160404699888835055 for q by e
name_quick tw8659123564730823183 for q by e
name_quick tw8157136099775942952 for q by e
name_quick tw3158919676332110096 for q by e
name_quick tw3727953519291227348 for q by e
name_quick tw1982253478702444938 for q by e
name_quick tw12372413620466274764 for q by e
name_quick tw10758856000187606888 for q by e
name_quick tw14009516744528762912 for q by e
name_quick tw9263664821625895473 for q by e
name_quick tw9184216106577044951 for q by e
name_quick tw3296324846274218850 for q by e
name_quick tw16687461797148117740 for q by e
name_quick tw11200028099910464175 for q by e
name_quick tw10310078315811611389 for q by e
name_quick tw4370080275811060984 for q by e
name_quick tw10324591315346282275 for q by e
name_quick tw12341997603958538972 for q by e
name_quick tw9413837521531462749 for q by e
name_quick tw11796527806075189630 for q by e
name_quick tw17437043277545648026 for q by e
name_quick tw14266128581231966165 for q by e
name_quick tw16912664691712432154 for q by e
name_quick tw9885385546046217662 for q by e
name_quick tw16217977606571411347 for q by e
name_quick tw13201942065981354477 for q by e
name_quick tw12061987965703984148 for q by e
name_quick tw1599144815090111673 for q by e
name_quick tw3354480163478835061 for q by e
name_quick tw10228612316678101203 for q by e
name_quick tw7210841366160068222 for q by e
name_quick tw10257439994234339549 for q by e
name_quick tw6011797193262947817 for q by e
name_quick tw16368156600193349133 for q by e
name_quick tw9798851843019433904 for q by e
name_quick tw6804665640517400221 for q by e
name_quick tw5571704776667642256 for q by e
name_quick tw4682714441209907334 for q by e
name_quick tw8263550653402615916 for q by e
name_quick tw9614243582179146573 for q by e
name_quick tw5690529767019488919 for q by e
name_quick tw7476813055884329580 for q by e
name_quick tw9492957341214824582 for q by e
name_quick tw12204445829752794217 for q by e
name_quick tw13826121739368552404 for q by e
name_quick tw11995519426782466627 for q by e
name_quick tw17282208865680151687 for q by e
name_quick tw2350784986992786545 for q by e
name_quick tw1268947559318763888 for q by e
name_quick tw5215681992324669445 for q by e
name_quick tw8410687049478814024 for q by e
name_quick tw7165491800456667544 for q by e
name_quick tw12631240035871206941 for q by e
name_quick tw11007138191337698029 for q by e
name_quick tw5809140576121311465 for q by e
name_quick tw9814679065882026591 for q by e
name_quick tw14533697696912626905 for q by e
name_quick tw1728342287408569435 for q by e
name_quick tw16210367240630386069 for q by e
name_quick tw13393695565839434415 for q by e
name_quick tw16908489647883555847 for q by e
name_quick tw5703013595751022003 for q by e
name_quick tw10478756563587468338 for q by e
name_quick tw1301943549563813606 for q by e
name_quick tw1105389562502034188 for q by e
name_quick tw14739610414305108315 for q by e
name_quick tw17671507583564724400 for q by e
name_quick tw16420491195470197201 for q by e
name_quick tw12089398184361025742 for q by e
name_quick tw3615784137852334103 for q by e
name_quick tw3641182190754119064 for q by e
name_quick tw8246386727494535180 for q by e
name_quick tw18265266441984897300 for q by e
name_quick tw9518911877264215009 for q by e
name_quick tw1661657313766610041 for q by e
name_quick tw15812496640556076186 for q by e
name_quick tw18284946927504903343 for q by e
name_quick tw14360389060805085215 for q by e
name_quick tw9831077316173752164 for q by e
name_quick tw338970430339040926 for q by e
name_quick tw16668939505163216988 for q by e
name_quick tw12861703573980198449 for q by e
name_quick tw1415026531501459646 for q by e
name_quick tw9945120471731344789 for q by e
name_quick tw5998591442963862228 for q by e
name_quick tw17641419115714180676 for q by e
name_quick tw17945130643297375782 for q by e
name_quick tw14412322653394846009 for q by e
name_quick tw3011772351972052422 for q by e
name_quick tw3060386029088195937 for q by e
name_quick tw4965389431999420733 for q by e
name_quick tw12750324265056393910 for q by e
name_quick tw14700189428942035285 for q by e
name_quick tw10639763521155025280 for q by e
name_quick tw5824513330633664408 for q by e
name_quick tw12801829059561314241 for q by e
name_quick tw15848483692239038267 for q by e
name_quick tw1207379713678432715 for q by e
name_quick tw17766974932974311351 for q by e
name_quick tw15383249266619562298 for q by e
name_quick tw11069703746308548533 for q by e
name_quick tw5541612990452007728 for q by e
name_quick tw13353494516578413109 for q by e
name_quick tw2775124812841609351 for q by e
name_quick tw10470494396586593007 for q by e
name_quick tw10050022242304591611 for q by e
name_quick tw7751898244992763552 for q by e
name_quick tw11550571243297009923 for q by e
name_quick tw8007509724985965390 for q by e
name_quick tw2451798909093995006 for q by e
name_quick tw5866001572696342011 for q by e
name_quick tw2344616913971735064 for q by e
name_quick tw11875998192459778120 for q by e
name_quick tw831332356793793389 for q by e
name_quick tw15821105996171322560 for q by e
name_quick tw15644005201134959899 for q by e
name_quick tw12102960997239245848 for q by e
name_quick tw8787734703103356558 for q by e
name_quick tw541540150799941136 for q by e
name_quick tw6126855754686547609 for q by e
name_quick tw4660499954703991673 for q by e
name_quick tw4835021742051576909 for q by e
name_quick tw14207732691719261889 for q by e
name_quick tw1126695300031091164 for q by e
name_quick tw8350094872297828131 for q by e
name_quick tw6154892801174502037 for q by e
name_quick tw17449460583653694901 for q by e
name_quick tw13978878314997713440 for q by e
name_quick tw2374172241006620549 for q by e
name_quick tw17136808929949225290 for q by e
name_quick tw13567737453598877772 for q by e
name_quick tw6901720429583622328 for q by e
name_quick tw9500409538488216789 for q by e
name_quick tw1221262474883177641 for q by e
name_quick tw12281059595229635288 for q by e
name_quick tw7725977276728682870 for q by e
name_quick tw7324731441332551130 for q by e
name_quick tw12966494507117862327 for q by e
name_quick tw11347330913775153885 for q by e
name_quick tw10021759700355978170 for q by e
name_quick tw5350204978574999934 for q by e
name_quick tw12984229822556870394 for q by e
name_quick tw15602534069494426595 for q by e
name_quick tw14807834093891402664 for q by e
name_quick tw17107878456669152668 for q by e
name_quick tw6382724096528254035 for q by e
name_quick tw2527162478555532253 for q by e
name_quick tw5548682812290170259 for q by e
name_quick tw3465005659268352377 for q by e
name_quick tw10426788135095271814 for q by e
name_quick tw6233718567489469195 for q by e
name_quick tw7909513020173703219 for q by e
name_quick tw11729740440265728408 for q by e
name_quick tw7943279289928344795 for q by e
name_quick tw1138100002629552200 for q by e
name_quick tw5874054877369802175 for q by e
name_quick tw721568226786230461 for q by e
name_quick tw7233174045726706771 for q by e
name_quick tw12443324095831143198 for q by e
name_quick tw13112740323134442529 for q by e
name_quick tw16263587955616906196 for q by e
name_quick tw4464210375325306037 for q by e
name_quick tw3796842531178748722 for q by e
name_quick tw11021572336350263423 for q by e
name_quick tw6821417542165803519 for q by e
name_quick tw12455438630463738000 for q by e
name_quick tw10497147947973606986 for q by e
name_quick tw15039209312564504983 for q by e
name_quick tw16233474729415721654 for q by e
name_quick tw10847934024609669609 for q by e
name_quick tw15761294203501052764 for q by e
name_quick tw8588505554539140267 for q by e
name_quick tw932471001206654014 for q by e
name_quick tw14110348044347110252 for q by e
name_quick tw1691101052317977439 for q by e
name_quick tw3094101920183444871 for q by e
name_quick tw12992815683459000881 for q by e
name_quick tw3128078692206959230 for q by e
name_quick tw6394407138824197410 for q by e
name_quick tw1419371976240142428 for q by e
name_quick tw5940870738135103898 for q by e
name_quick tw7479203295387946421 for q by e
name_quick tw17121843677883223972 for q by e
name_quick tw2027980770221015835 for q by e
name_quick tw7704552882365396330 for q by e
name_quick tw13622158921831192011 for q by e
name_quick tw11793070016371727533 for q by e
name_quick tw1837020141536816805 for q by e
name_quick tw557000031591609876 for q by e
name_quick tw17243179241075442889 for q by e
name_quick tw10630805693328121003 for q by e
name_quick tw11384331365831483035 for q by e
name_quick tw18338117512861559043 for q by e
name_quick tw12008450927566989098 for q by e
name_quick tw16527470249055169885 for q by e
name_quick tw17416687167571718886 for q by e
name_quick tw510701066683704718 for q by e
name_quick tw3465631349093988890 for q by e
name_quick tw6994214982120668261 for q by e
name_quick tw4118574213698800377 for q by e
name_quick tw8796329410926803668 for q by e
name_quick tw9764442787412577190 for q by e
name_quick tw7667059173292857389 for q by e
name_quick tw15345352915473721449 for q by e
name_quick tw14842285470235696885 for q by e
name_quick tw459509631683465424 for q by e
name_quick tw7934373981037972034 for q by e
name_quick tw4749619723608717805 for q by e
name_quick tw14018562910016871401 for q by e
name_quick tw17246465664295943980 for q by e
name_quick tw1582386956657180910 for q by e
name_quick tw9964337799905484713 for q by e
name_quick tw1305882552215387332 for q by e
name_quick tw11166986066617345022 for q by e
name_quick tw2540110870046433693 for q by e
name_quick tw1807806085228363802 for q by e
name_quick tw5095381404389756409 for q by e
name_quick tw17986433643109205398 for q by e
name_quick tw14236173336811385044 for q by e
name_quick tw6003487940892645036 for q by e
name_quick tw421743777508481879 for q by e
name_quick tw13458438539664744491 for q by e
name_quick tw2240231558963086639 for q by e
name_quick tw8479218279157121867 for q by e
name_quick tw6137638896773154611 for q by e
name_quick tw11456725752979310528 for q by e
name_quick tw2534410624850292147 for q by e
name_quick tw9402527106298801873 for q by e
name_quick tw4163227284974995326 for q by e
name_quick tw13071298127153649081 for q by e
name_quick tw17015893910470769273 for q by e
name_quick tw11448422347995485471 for q by e
name_quick tw41841580144439253 for q by e
name_quick tw3211543666885684188 for q by e
name_quick tw16409170297196470818 for q by e
name_quick tw1680176609057248548 for q by e
name_quick tw10723283826917582130 for q by e
name_quick tw5516016317195397633 for q by e
name_quick tw2064891427106604570 for q by e
name_quick tw2123267009996206594 for q by e
name_quick tw4182245848241229150 for q by e
name_quick tw6349902787037134282 for q by e
name_quick tw4824421898282960388 for q by e
name_quick tw1696714270175573742 for q by e
name_quick tw2820442544519220307 for q by e
name_quick tw17213561862933391795 for q by e
name_quick tw12009646728368584920 for q by e
name_quick tw8031130633867594359 for q by e
name_quick tw194934303202139474 for q by e
name_quick tw14043303154751210824 for q by e
name_quick tw17603335797173897127 for q by e
name_quick tw6016022032034467407 for q by e
name_quick tw4338880378700709929 for q by e
name_quick tw16541287218117584036 for q by e
name_quick tw10852120348191908005 for q by e
name_quick tw15614739360719164821 for q by e
name_quick tw47338834356268354 for q by e
name_quick tw12195231870389621602 for q by e
name_quick tw12526283198777878308 for q by e
name_quick tw4926880297273814750 for q by e
name_quick tw11895287044925715592 for q by e
name_quick tw12663456510907224394 for q by e
name_quick tw2243910828258977725 for q by e
name_quick tw12329991012759353903 for q by e
name_quick tw16727964325465722634 for q by e
name_quick tw2641523458369281548 for q by e
name_quick tw11486707895863337366 for q by e
name_quick tw2749366798215440185 for q by e
name_quick tw16916679405765046493 for q by e
name_quick tw12637842124909736613 for q by e
name_quick tw16625211238840901087 for q by e
name_quick tw16520804066976851931 for q by e
name_quick tw15472524269914998552 for q by e
name_quick tw8968012033227082016 for q by e
name_quick tw929597704172133766 for q by e
name_quick tw15555338363503867029 for q by e
name_quick tw14474226864363454933 for q by e
name_quick tw10101732701363613645 for q by e
name_quick tw4757129798421162123 for q by e
name_quick tw8724210457918963721 for q by e
name_quick tw10357497720595210445 for q by e
end z
set_option maxRecDepth 100000 in
set_option maxHeartbeats 0 in
open_shared t6 for p6 leaving 0
end Mine
end
section
open PySem PySem.W PySem.W.X PyProof.Rows
set_option Elab.async false
set_option compiler.extract_closed false
set_option bootstrap.genMatcherCode false
set_option genInjectivity false
set_option genSizeOf false
set_option maxRecDepth 100000
set_option maxHeartbeats 0
set_option linter.unusedVariables false
namespace Mine.Internal
noncomputable def kd(P:Params)(x:String)(t:Tok)(v:Value):DictEntry:=⟨PyData.keyHash P (Str.ofString x),.str (Str.ofString x) t,v⟩
noncomputable def jk(es:Array DictEntry)(n:Nat):Obj:={cls:=.type "dict",data:=.dict es n}
noncomputable def obj22(P:Params):Obj:=jk #[kd P "note_off" 205 (.ref 23),kd P "note_on" 228 (.ref 26),kd P "polytouch" 251 (.ref 29),kd P "control_change" 274 (.ref 32),kd P "program_change" 297 (.ref 35),kd P "aftertouch" 318 (.ref 38),kd P "pitchwheel" 339 (.ref 41),kd P "sysex" 360 (.ref 44),kd P "quarter_frame" 378 (.ref 47),kd P "songpos" 399 (.ref 50),kd P "song_select" 418 (.ref 53),kd P "tune_request" 437 (.ref 56),kd P "clock" 454 (.ref 59),kd P "start" 471 (.ref 62),kd P "continue" 488 (.ref 65),kd P "stop" 505 (.ref 68),kd P "active_sensing" 522 (.ref 71),kd P "reset" 539 (.ref 75)] 18
noncomputable def obj74(P:Params):Obj:=jk #[kd P "reset" 539 (.ref 75)] 1
noncomputable def obj78(P:Params):Obj:=jk #[kd P "channel" 557 (.int 0 558),kd P "control" 559 (.int 0 560),kd P "data" 561 (.ref 79),kd P "frame_type" 562 (.int 0 563),kd P "frame_value" 564 (.int 0 565),kd P "note" 566 (.int 0 567),kd P "pitch" 568 (.int 0 569),kd P "pos" 570 (.int 0 571),kd P "program" 572 (.int 0 573),kd P "song" 574 (.int 0 575),kd P "value" 576 (.int 0 577),kd P "velocity" 578 (.int 64 579),kd P "time" 580 (.int 0 581)] 13
noncomputable def tz(T:Params->BT)(P:Params):BT:=(((T P).set 22 fun V=>obj22 P).set 74 fun V=>obj74 P).set 78 fun V=>obj78 P
noncomputable def stT(T:Params->BT)(P:Params)(o:Obj)(n k:Nat)(os:OsState):SharedT:=⟨(tz T P).set 365 fun V=>o,n,{},#[],{},k,os⟩
noncomputable abbrev lF:List Frame:=[topFrame ⟨0,0,0,0⟩]
noncomputable def thT(sts:List Stmt)(b:List Stmt)(p:Pos):Thread:=piecesOf sts t6.env_1 (.body b t6.env_1) p lF
noncomputable def SG(f:Nat)(T:Params->BT)(n k:Nat)(sts:List Stmt)(q:Pos)(o:Obj)(w:World)(p:Program)(b:List Stmt)(os:OsState):=segRunT treeTable p w 11 (some (.ref 6)) 1 f (stT T w.params o n k os) (thT sts b q)
noncomputable def SE(T:Params->BT)(n k:Nat)(q:Pos)(o:Obj)(w:World)(p:Program)(b:List Stmt)(os:OsState):Option (Flow×SharedT×Code×Pos):=some (.next,stT T w.params o n k os,.body b t6.env_1,q)
theorem cP{α:Type}{l r l' r':Obj->World->Program->List Stmt->OsState->α}(a:l=l')(b:r=r')(h:∀ o w p b os,l' o w p b os=r' o w p b os):l=r:=
 a.trans ((funext fun o=>funext fun w=>funext fun p=>funext fun b=>funext fun os=>h o w p b os).trans b.symm)
noncomputable abbrev eO:String:="special-get-raises"
theorem uq{α:Type}{l r l' r':Obj->World->Program->List Stmt->OsState->α}(a:l=l')(b:r=r')(h:∀(v:Bool) (o:Obj) (w:World) (p:Program) (b:List Stmt) (os:OsState),l' o (w.withFollow eO v) p b os=r' o (w.withFollow eO v) p b os):l=r:=
 cP a b fun o w p b os=>by
  obtain⟨v,hv⟩:∃ v,w.withFollow eO v=w:=⟨_,World.withFollow_self w eO⟩
  rw[←hv];exact h v o w p b os
theorem cD{f n k n' k' N:Nat}{T T':Params->BT}{sts rest:List Stmt}{q q':Pos}(e:SG f T n k sts q=SE T' n' k' q'){o:Obj}{w:World}{p:Program}{b:List Stmt}{os:OsState}{r:Shared}
 (z:topRun treeTable p w 11 (some (.ref 6)) N (stT T' w.params o n' k' os).abs (restOf rest t6.env_1 (.body b t6.env_1) q' lF)=some r):
 topRun treeTable p w 11 (some (.ref 6)) (f+N) (stT T w.params o n k os).abs (restOf (sts++rest) t6.env_1 (.body b t6.env_1) q lF)=some r:=
 piece_app (segRun_of (congrFun (congrFun (congrFun (congrFun (congrFun e o) w) p) b) os)) z
noncomputable def dDx(e:PySem.Expr):Option PySem.Expr:=@PySem.Expr.casesOn (fun V=>Option PySem.Expr) e (fun V V V=>none) (fun V V V=>none) (fun V V V V=>none) (fun V V V=>none) (fun V V V V=>none) (fun V V V V=>none) (fun ks vs p=>if ks.isEmpty then none else some (.Dict ks vs p)) (fun V V V=>none) (fun V V V V=>none) (fun V V V V=>none) (fun V V V V V=>none) (fun V V V V=>none) (fun V V=>none) (fun V V=>none) (fun V V=>none) (fun V V V V=>none) (fun V V V V=>none) (fun V V V V=>none) (fun V V=>none) (fun V V V=>none) (fun V V V=>none) (fun V V V=>none) (fun V V=>none) (fun V V=>none) (fun V V=>none) (fun V V V=>none) (fun V V V V=>none)
noncomputable def dOfx(s:Stmt):Option PySem.Expr:=@Stmt.casesOn (fun V=>Option PySem.Expr) s (fun V V V V V V V V V V=>none) (fun V V V V V V V V V V=>none) (fun V V V V V V V V V V V=>none) (fun V V=>none) (fun V V=>none) (fun V V V=>none) (fun V V V V V V V=>none) (fun V V V V=>none) (fun V V V V V=>none) (fun V V V V V=>none) (fun V V V V V=>none) (fun V V V V=>none) (fun V V V V=>none) (fun V V V=>none) (fun V V V=>none) (fun V V V=>none) (fun V V V=>none) (fun V V V V V=>none) (fun V V V V V=>none) (fun V V V=>none) (fun V V=>none) (fun V V V V=>none) (fun V V=>none) (fun V V=>none) (fun e V=>dDx e) (fun V=>none) (fun V=>none) (fun V=>none)
noncomputable def st6:Stmt:=.Assign [.Name (Str.ofString "SPEC_BY_TYPE") ⟨9,0,9,12⟩] (.Dict [some (.Constant (.str (Str.ofString "note_off")) 0 ⟨9,16,9,26⟩),some (.Constant (.str (Str.ofString "note_on")) 0 ⟨9,199,9,208⟩),some (.Constant (.str (Str.ofString "polytouch")) 0 ⟨9,380,9,391⟩),some (.Constant (.str (Str.ofString "control_change")) 0 ⟨9,559,9,575⟩),some (.Constant (.str (Str.ofString "program_change")) 0 ⟨9,754,9,770⟩),some (.Constant (.str (Str.ofString "aftertouch")) 0 ⟨9,931,9,943⟩),some (.Constant (.str (Str.ofString "pitchwheel")) 0 ⟨9,1096,9,1108⟩),some (.Constant (.str (Str.ofString "sysex")) 0 ⟨9,1261,9,1268⟩),some (.Constant (.str (Str.ofString "quarter_frame")) 0 ⟨9,1396,9,1411⟩),some (.Constant (.str (Str.ofString "songpos")) 0 ⟨9,1585,9,1594⟩),some (.Constant (.str (Str.ofString "song_select")) 0 ⟨9,1719,9,1732⟩),some (.Constant (.str (Str.ofString "tune_request")) 0 ⟨9,1863,9,1877⟩),some (.Constant (.str (Str.ofString "clock")) 0 ⟨9,1994,9,2001⟩),some (.Constant (.str (Str.ofString "start")) 0 ⟨9,2111,9,2118⟩),some (.Constant (.str (Str.ofString "continue")) 0 ⟨9,2228,9,2238⟩),some (.Constant (.str (Str.ofString "stop")) 0 ⟨9,2351,9,2357⟩),some (.Constant (.str (Str.ofString "active_sensing")) 0 ⟨9,2466,9,2482⟩),some (.Constant (.str (Str.ofString "reset")) 0 ⟨9,2601,9,2608⟩)] ([t6.sts_4.drop 7,t6.sts_27,t6.sts_42,t6.sts_57,t6.sts_72].flatMap fun l=>l.filterMap dOfx) ⟨9,15,9,2717⟩) ⟨9,0,9,2717⟩
noncomputable def st7:Stmt:=st7z (Fo (t6.sts_86.headD slk)) (.Constant (.int 0) 0 ⟨10,29,10,30⟩)
noncomputable def grA:List Stmt:=t6.sts_4.take 6++[st6]
noncomputable def grB:List Stmt:=st7::t6.sts_86.drop 1
noncomputable def gl0:=SG 2400 t6.tree_4 15 187 grA ⟨0,0,0,0⟩
theorem glr0:gl0=gl0:=rfl
name_quick mqa0 for gl0 by glr0
theorem ge0:SG 2400 t6.tree_4 15 187 grA ⟨0,0,0,0⟩=SE t6.tree_82 78 557 ⟨9,0,9,12⟩:=uq PySem.W.Fast.mqa0_eq rfl fun v o w p b os=>by cases v<;>kernel_rfl
noncomputable def gl1:=SG 420 t6.tree_82 78 557 grB ⟨9,0,9,12⟩
theorem glr1:gl1=gl1:=rfl
name_quick mqa1 for gl1 by glr1
theorem ge1:SG 420 t6.tree_82 78 557 grB ⟨9,0,9,12⟩=SE t6.tree_131 122 645 ⟨40,0,42,29⟩:=uq PySem.W.Fast.mqa1_eq rfl fun v o w p b os=>by cases v<;>kernel_rfl
noncomputable def gl2:=SG 188 t6.tree_131 122 645 t6.sts_135 ⟨40,0,42,29⟩
theorem glr2:gl2=gl2:=rfl
name_quick mqa2 for gl2 by glr2
theorem ge2:SG 188 t6.tree_131 122 645 t6.sts_135 ⟨40,0,42,29⟩=SE t6.tree_178 164 693 ⟨90,0,90,8⟩:=cP PySem.W.Fast.mqa2_eq rfl fun o w p b os=>by kernel_rfl
noncomputable def gl3:=SG 826 t6.tree_178 164 693 t6.sts_180 ⟨90,0,90,8⟩
theorem glr3:gl3=gl3:=rfl
name_quick mqa3 for gl3 by glr3
theorem ge3:SG 826 t6.tree_178 164 693 t6.sts_180 ⟨90,0,90,8⟩=SE t6.tree_272 255 804 ⟨91,0,131,42⟩:=cP PySem.W.Fast.mqa3_eq rfl fun o w p b os=>by kernel_rfl
noncomputable def gl4:=SG 801 t6.tree_272 255 804 t6.sts_337 ⟨91,0,131,42⟩
theorem glr4:gl4=gl4:=rfl
name_quick mqa4 for gl4 by glr4
theorem ge4:SG 801 t6.tree_272 255 804 t6.sts_337 ⟨91,0,131,42⟩=SE t6.tree_417 333 916 ⟨132,0,189,16⟩:=cP PySem.W.Fast.mqa4_eq rfl fun o w p b os=>by kernel_rfl
noncomputable def gl5:=SG 10 t6.tree_417 333 916 t6.sts_469 ⟨132,0,189,16⟩
theorem glr5:gl5=gl5:=rfl
name_quick mqa5 for gl5 by glr5
theorem ge5:SG 10 t6.tree_417 333 916 t6.sts_469 ⟨132,0,189,16⟩=SE t6.tree_469 333 918 ⟨190,0,190,8⟩:=cP PySem.W.Fast.mqa5_eq rfl fun o w p b os=>by kernel_rfl
noncomputable def gl6:=SG 706 t6.tree_469 333 918 t6.sts_472 ⟨190,0,190,8⟩
theorem glr6:gl6=gl6:=rfl
name_quick mqa6 for gl6 by glr6
theorem ge6:SG 706 t6.tree_469 333 918 t6.sts_472 ⟨190,0,190,8⟩=SE t6.tree_504 365 1053 ⟨191,0,191,21⟩:=uq PySem.W.Fast.mqa6_eq rfl fun v o w p b os=>by cases v<;>kernel_rfl
noncomputable def gl7:=SG 384 t6.tree_524 380 1082 t6.sts_528 ⟨198,0,200,53⟩
theorem glr7:gl7=gl7:=rfl
name_quick mqa7 for gl7 by glr7
theorem ge7:SG 384 t6.tree_524 380 1082 t6.sts_528 ⟨198,0,200,53⟩=SE t6.tree_585 436 1152 ⟨201,0,219,12⟩:=cP PySem.W.Fast.mqa7_eq rfl fun o w p b os=>by kernel_rfl
noncomputable def gl8:=SG 357 t6.tree_585 436 1152 t6.sts_587 ⟨201,0,219,12⟩
theorem glr8:gl8=gl8:=rfl
name_quick mqa8 for gl8 by glr8
theorem ge8:SG 357 t6.tree_585 436 1152 t6.sts_587 ⟨201,0,219,12⟩=SE t6.tree_624 471 1202 ⟨220,0,233,34⟩:=cP PySem.W.Fast.mqa8_eq rfl fun o w p b os=>by kernel_rfl
noncomputable def gl9:=SG 357 t6.tree_624 471 1202 t6.sts_626 ⟨220,0,233,34⟩
theorem glr9:gl9=gl9:=rfl
name_quick mqa9 for gl9 by glr9
theorem ge9:SG 357 t6.tree_624 471 1202 t6.sts_626 ⟨220,0,233,34⟩=SE t6.tree_663 506 1252 ⟨234,0,247,24⟩:=cP PySem.W.Fast.mqa9_eq rfl fun o w p b os=>by kernel_rfl
noncomputable def gl10:=SG 247 t6.tree_663 506 1252 t6.sts_665 ⟨234,0,247,24⟩
theorem glr10:gl10=gl10:=rfl
name_quick mqa10 for gl10 by glr10
theorem ge10:SG 247 t6.tree_663 506 1252 t6.sts_665 ⟨234,0,247,24⟩=SE t6.tree_679 518 1272 ⟨248,0,250,22⟩:=cP PySem.W.Fast.mqa10_eq rfl fun o w p b os=>by kernel_rfl
noncomputable def gl11:=SG 338 t6.tree_679 518 1272 t6.sts_681 ⟨248,0,250,22⟩
theorem glr11:gl11=gl11:=rfl
name_quick mqa11 for gl11 by glr11
theorem ge11:SG 338 t6.tree_679 518 1272 t6.sts_681 ⟨248,0,250,22⟩=SE t6.tree_711 546 1313 ⟨251,0,261,17⟩:=cP PySem.W.Fast.mqa11_eq rfl fun o w p b os=>by kernel_rfl
noncomputable def gl12:=SG 261 t6.tree_711 546 1313 t6.sts_713 ⟨251,0,261,17⟩
theorem glr12:gl12=gl12:=rfl
name_quick mqa12 for gl12 by glr12
theorem ge12:SG 261 t6.tree_711 546 1313 t6.sts_713 ⟨251,0,261,17⟩=SE t6.tree_727 558 1333 ⟨262,0,264,28⟩:=cP PySem.W.Fast.mqa12_eq rfl fun o w p b os=>by kernel_rfl
noncomputable def gl13:=SG 247 t6.tree_727 558 1333 t6.sts_729 ⟨262,0,264,28⟩
theorem glr13:gl13=gl13:=rfl
name_quick mqa13 for gl13 by glr13
theorem ge13:SG 247 t6.tree_727 558 1333 t6.sts_729 ⟨262,0,264,28⟩=SE t6.tree_743 570 1353 ⟨265,0,267,19⟩:=cP PySem.W.Fast.mqa13_eq rfl fun o w p b os=>by kernel_rfl
noncomputable def gl14:=SG 247 t6.tree_743 570 1353 t6.sts_745 ⟨265,0,267,19⟩
theorem glr14:gl14=gl14:=rfl
name_quick mqa14 for gl14 by glr14
theorem ge14:SG 247 t6.tree_743 570 1353 t6.sts_745 ⟨265,0,267,19⟩=SE t6.tree_759 582 1373 ⟨268,0,270,19⟩:=cP PySem.W.Fast.mqa14_eq rfl fun o w p b os=>by kernel_rfl
noncomputable def gl15:=SG 247 t6.tree_759 582 1373 t6.sts_761 ⟨268,0,270,19⟩
theorem glr15:gl15=gl15:=rfl
name_quick mqa15 for gl15 by glr15
theorem ge15:SG 247 t6.tree_759 582 1373 t6.sts_761 ⟨268,0,270,19⟩=SE t6.tree_775 594 1393 ⟨271,0,273,23⟩:=cP PySem.W.Fast.mqa15_eq rfl fun o w p b os=>by kernel_rfl
noncomputable def gl16:=SG 261 t6.tree_775 594 1393 t6.sts_777 ⟨271,0,273,23⟩
theorem glr16:gl16=gl16:=rfl
name_quick mqa16 for gl16 by glr16
theorem ge16:SG 261 t6.tree_775 594 1393 t6.sts_777 ⟨271,0,273,23⟩=SE t6.tree_791 606 1413 ⟨274,0,276,24⟩:=cP PySem.W.Fast.mqa16_eq rfl fun o w p b os=>by kernel_rfl
noncomputable def gl17:=SG 357 t6.tree_791 606 1413 t6.sts_793 ⟨274,0,276,24⟩
theorem glr17:gl17=gl17:=rfl
name_quick mqa17 for gl17 by glr17
theorem ge17:SG 357 t6.tree_791 606 1413 t6.sts_793 ⟨274,0,276,24⟩=SE t6.tree_830 641 1463 ⟨277,0,290,32⟩:=cP PySem.W.Fast.mqa17_eq rfl fun o w p b os=>by kernel_rfl
noncomputable def gl18:=SG 357 t6.tree_830 641 1463 t6.sts_832 ⟨277,0,290,32⟩
theorem glr18:gl18=gl18:=rfl
name_quick mqa18 for gl18 by glr18
theorem ge18:SG 357 t6.tree_830 641 1463 t6.sts_832 ⟨277,0,290,32⟩=SE t6.tree_869 676 1513 ⟨291,0,304,32⟩:=cP PySem.W.Fast.mqa18_eq rfl fun o w p b os=>by kernel_rfl
noncomputable def gl19:=SG 322 t6.tree_869 676 1513 t6.sts_871 ⟨291,0,304,32⟩
theorem glr19:gl19=gl19:=rfl
name_quick mqa19 for gl19 by glr19
theorem ge19:SG 322 t6.tree_869 676 1513 t6.sts_871 ⟨291,0,304,32⟩=SE t6.tree_901 704 1552 ⟨305,0,315,17⟩:=cP PySem.W.Fast.mqa19_eq rfl fun o w p b os=>by kernel_rfl
noncomputable def gl20:=SG 357 t6.tree_901 704 1552 t6.sts_903 ⟨305,0,315,17⟩
theorem glr20:gl20=gl20:=rfl
name_quick mqa20 for gl20 by glr20
theorem ge20:SG 357 t6.tree_901 704 1552 t6.sts_903 ⟨305,0,315,17⟩=SE t6.tree_940 739 1602 ⟨316,0,329,37⟩:=cP PySem.W.Fast.mqa20_eq rfl fun o w p b os=>by kernel_rfl
noncomputable def gl21:=SG 367 t6.tree_940 739 1602 t6.sts_942 ⟨316,0,329,37⟩
theorem glr21:gl21=gl21:=rfl
name_quick mqa21 for gl21 by glr21
theorem ge21:SG 367 t6.tree_940 739 1602 t6.sts_942 ⟨316,0,329,37⟩=SE t6.tree_979 774 1662 ⟨330,0,353,35⟩:=cP PySem.W.Fast.mqa21_eq rfl fun o w p b os=>by kernel_rfl
noncomputable def gl22:=SG 363 t6.tree_979 774 1662 t6.sts_981 ⟨330,0,353,35⟩
theorem glr22:gl22=gl22:=rfl
name_quick mqa22 for gl22 by glr22
theorem ge22:SG 363 t6.tree_979 774 1662 t6.sts_981 ⟨330,0,353,35⟩=SE t6.tree_1018 809 1718 ⟨354,0,372,36⟩:=cP PySem.W.Fast.mqa22_eq rfl fun o w p b os=>by kernel_rfl
noncomputable def gl23:=SG 357 t6.tree_1018 809 1718 t6.sts_1020 ⟨354,0,372,36⟩
theorem glr23:gl23=gl23:=rfl
name_quick mqa23 for gl23 by glr23
theorem ge23:SG 357 t6.tree_1018 809 1718 t6.sts_1020 ⟨354,0,372,36⟩=SE t6.tree_1057 844 1768 ⟨373,0,387,54⟩:=cP PySem.W.Fast.mqa23_eq rfl fun o w p b os=>by kernel_rfl
noncomputable def gl24:=SG 383 t6.tree_1057 844 1768 t6.sts_1059 ⟨373,0,387,54⟩
theorem glr24:gl24=gl24:=rfl
name_quick mqa24 for gl24 by glr24
theorem ge24:SG 383 t6.tree_1057 844 1768 t6.sts_1059 ⟨373,0,387,54⟩=SE t6.tree_1104 887 1822 ⟨401,0,405,25⟩:=cP PySem.W.Fast.mqa24_eq rfl fun o w p b os=>by kernel_rfl
noncomputable def gl25:=SG 589 t6.tree_1104 887 1822 t6.sts_1106 ⟨401,0,405,25⟩
theorem glr25:gl25=gl25:=rfl
name_quick mqa25 for gl25 by glr25
theorem ge25:SG 589 t6.tree_1104 887 1822 t6.sts_1106 ⟨401,0,405,25⟩=SE t6.tree_1173 952 1917 ⟨406,0,461,17⟩:=cP PySem.W.Fast.mqa25_eq rfl fun o w p b os=>by kernel_rfl
noncomputable def gl26:=SG 236 t6.tree_1173 952 1917 t6.sts_1175 ⟨406,0,461,17⟩
theorem glr26:gl26=gl26:=rfl
name_quick mqa26 for gl26 by glr26
theorem ge26:SG 236 t6.tree_1173 952 1917 t6.sts_1175 ⟨406,0,461,17⟩=SE t6.tree_1225 1001 1984 ⟨504,0,538,76⟩:=cP PySem.W.Fast.mqa26_eq rfl fun o w p b os=>by kernel_rfl
noncomputable def mJ:Stmt:=
 .Assign [.Name (Str.ofString "_smpte_framerate_encode") ⟨192,0,192,23⟩]
  (.Dict [some (.Constant (.int 24) 0 ⟨192,27,192,29⟩),some (.Constant (.int 25) 0 ⟨192,34,192,36⟩),some (.Constant (.str (Str.ofString "29.97")) 0 ⟨192,41,192,48⟩),some (.Constant (.int 30) 0 ⟨192,53,192,55⟩)]
   [.Constant (.int 0) 0 ⟨192,31,192,32⟩,.Constant (.int 1) 0 ⟨192,38,192,39⟩,.Constant (.int 2) 0 ⟨192,50,192,51⟩,.Constant (.int 3) 0 ⟨192,57,192,58⟩] ⟨192,26,192,59⟩) ⟨192,0,192,59⟩
noncomputable def bw(p:Program)(w:World)(m:Nat)(s:SharedT)(t:Thread)(r:Flow×SharedT×Code×Pos):Prop:=∃ n,n≤m∧segRun treeTable p w 11 (some (.ref 6)) 1 n s.abs t=some (r.1,r.2.1.abs,r.2.2.1,r.2.2.2)
section
variable{p:Program}{w:World}{m:Nat}{s s':SharedT}{t t':Thread}{r:Flow×SharedT×Code×Pos}{α β:Type}{c:Code}{q q':Pos}{B:List Frame}{K:α->Sem Fin}{H:Value->Sem Fin}{gd:Bool->Bool}{lv:List Value->List Value}
theorem bw.go{n:Nat}(h:segGoT treeTable p w 11 (some (.ref 6)) 1 n s t=some (s',t'))(k:bw p w m s' t' r):bw p w (n+m) s t r:=by
 obtain⟨n',le,e⟩:=k
 exact⟨n+n',Nat.add_le_add_left le n,seg_go (segGo_of h) e⟩
theorem bw.last{n:Nat}(h:segRunT treeTable p w 11 (some (.ref 6)) 1 n s t=some r):bw p w n s t r:=⟨n,Nat.le_refl n,by
 obtain⟨f,s',c,q⟩:=r
 exact segRun_of h⟩
theorem H8{K:β->Sem Fin}(x:Sem α)(f:α->Sem β):(x>>= f).wrap K H gd lv=x.wrap (fun a=>(f a).wrap K H gd lv) H gd lv:=by
 rw[Sem.bind_eq_wrap',Sem.wrap_wrap];rfl
theorem bw.bind{K:β->Sem Fin}{x:Sem α}{f:α->Sem β}(h:bw p w m s ⟨x.wrap (fun a=>(f a).wrap K H gd lv) H gd lv,c,q,B⟩ r):bw p w m s ⟨(x>>= f).wrap K H gd lv,c,q,B⟩ r:=by
 rw[H8];exact h
theorem bw.keep{x:Sem α}{vs:List Value}(h:bw p w m s ⟨x.wrap K H gd (fun l=>lv (vs++l)),c,q,B⟩ r):bw p w m s ⟨(x.keep vs).wrap K H gd lv,c,q,B⟩ r:=by
 rw[Sem.keep_eq_wrap,Sem.wrap_wrap];exact h
theorem bw.at{pos:Pos}{m:Nat}{x:Unit->Sem α}(h:bw p w m s ⟨(x ()).wrap K H gd lv,c,pos,B⟩ r):bw p w (1+m) s ⟨(Sem.at pos x).wrap K H gd lv,c,q,B⟩ r:=by
 refine bw.go (n:=1) (s':=s) ?_ h
 obtain⟨T,n,life,gens,drawn,toks,os⟩:=s
 cases B with
 |nil=>rfl
 |cons b B=>cases B<;>rfl
end
theorem Ms(k1 v1 k2 v2 k3 v3 k4 v4:Sem Value):dictDisplay [(some k1,v1),(some k2,v2),(some k3,v3),(some k4,v4)]=
 ((subDict [(k1,v1),(k2,v2),(k3,v3),(k4,v4)]>>= fun a=>Sem.pure (some a))>>= fun r=>match r with|some d=>Sem.pure (.ref d)|none=>newDict):=by
 rfl
noncomputable def wG(d:Addr)(l:List (Value×Value)):Sem Unit:=do for (k,v)in l do dictSet d k v
theorem sub4(k1 v1 k2 v2 k3 v3 k4 v4:Sem Value):subDict [(k1,v1),(k2,v2),(k3,v3),(k4,v4)]=(Sem.alloc {cls:=.type "dict",data:=.dict #[]} Sem.pure>>= fun d=>(evalPairs [(k1,v1),(k2,v2),(k3,v3),(k4,v4)]>>= fun vs=>holding (vs.flatMap fun x=>match x with|(k,v)=>[k,v]) (wG d vs)).keep [.ref d]>>= fun V=>Sem.pure d):=by
 rfl
theorem mQ(d:Addr)(k v:Value)(l:List (Value×Value)):wG d ((k,v)::l)=(dictSet d k v>>= fun V=>wG d l):=by
 simp only[wG,List.forIn_cons,bind_assoc,pure_bind]
theorem M7(d:Addr):wG d []=Sem.pure ():=rfl
theorem Dj(d:Addr)(x:Str)(t:Tok)(z:Int)(t':Tok):dictSet d (.str x t) (.int z t')=(pyHash (.str x t)>>= fun h=>dictSetHashed d (.str x t) h (.int z t')):=rfl
noncomputable def st0(o:Obj)(w:World)(os:OsState):SharedT:=stT t6.tree_504 w.params o 365 1053 os
noncomputable abbrev cd1(b:List Stmt):Code:=.body b t6.env_1
noncomputable abbrev ps1:Pos:=⟨191,0,191,21⟩
noncomputable abbrev psD:Pos:=⟨192,26,192,59⟩
noncomputable def dv(v:Sem Value):Sem Value:=v>>= fun x=>standAt psD>>= fun V=>pure x
noncomputable def lG(c:Const)(q:Pos):Sem Value:=eval (.Constant c 0 q) t6.env_1
noncomputable def prs:List (Sem Value×Sem Value):=
 [(lG (.int 24) ⟨192,27,192,29⟩,dv (lG (.int 0) ⟨192,31,192,32⟩)),(lG (.int 25) ⟨192,34,192,36⟩,dv (lG (.int 1) ⟨192,38,192,39⟩)),
  (lG (.str (Str.ofString "29.97")) ⟨192,41,192,48⟩,dv (lG (.int 2) ⟨192,50,192,51⟩)),(lG (.int 30) ⟨192,53,192,55⟩,dv (lG (.int 3) ⟨192,57,192,58⟩))]
noncomputable def mD(w:World)(o:Obj)(k:Nat)(os:OsState):SharedT:=⟨(tz t6.tree_504 w.params).ins 365 o,366,{},#[],{},k,os⟩
noncomputable def lvD:List Value->List Value:=fun l=>id ([Value.ref 365]++l)
noncomputable def Aw:Value:=.str (Str.ofString "29.97") 1057
noncomputable def e24:DictEntry:=⟨24,.int 24 1053,.int 0 1054⟩
noncomputable def e25:DictEntry:=⟨25,.int 25 1055,.int 1 1056⟩
noncomputable def e30:DictEntry:=⟨30,.int 30 1059,.int 3 1060⟩
noncomputable def eOdd(h:Int):DictEntry:=⟨h,Aw,.int 2 1058⟩
noncomputable def pvs:List (Value×Value):=[(.int 24 1053,.int 0 1054),(.int 25 1055,.int 1 1056),(Aw,.int 2 1058),(.int 30 1059,.int 3 1060)]
noncomputable def lZ(h:Int):Obj:=jk #[e24,e25,eOdd h,e30] 4
noncomputable def kZ(P:Params):Int:=reduceHash (P.strHash (Str.ofString "29.97").cps)
section
variable{p:Program}{w:World}{b:List Stmt}{os:OsState}{H:Value->Sem Fin}
noncomputable abbrev goL{α:Type}(p:Program)(w:World)(b:List Stmt)(H:Value->Sem Fin)(n:Nat)(s:SharedT)(x:Sem α)(lv:List Value->List Value)(K:α->Sem Fin)(s':SharedT)(a:α):Prop:=
 segGoT treeTable p w 11 (some (.ref 6)) 1 n s ⟨x.wrap K H id lv,cd1 b,psD,lF⟩=some (s',⟨K a,cd1 b,psD,lF⟩)
theorem Kv{o o':Obj}{K:Addr->Sem Fin}:goL p w b H 1 (st0 o' w os) (Sem.alloc o Sem.pure) id K (mD w o 1053 os) 365:=by kernel_rfl
theorem Ku{K:List (Value×Value)->Sem Fin}:goL p w b H 12 (mD w (jk #[] 0) 1053 os) (evalPairs prs) lvD K (mD w (jk #[] 0) 1061 os) pvs:=by kernel_rfl
theorem lf_24(v:Bool){K:Unit->Sem Fin}:goL p (w.withFollow eO v) b H 10 (mD (w.withFollow eO v) (jk #[] 0) 1061 os) (dictSet 365 (.int 24 1053) (.int 0 1054)) lvD K (mD (w.withFollow eO v) (jk #[e24] 1) 1062 os) ():=by
 cases v<;>kernel_rfl
theorem lf_25(v:Bool){K:Unit->Sem Fin}:goL p (w.withFollow eO v) b H 10 (mD (w.withFollow eO v) (jk #[e24] 1) 1062 os) (dictSet 365 (.int 25 1055) (.int 1 1056)) lvD K (mD (w.withFollow eO v) (jk #[e24,e25] 2) 1063 os) ():=by
 cases v<;>kernel_rfl
theorem lf_hash(v:Bool){K:Int->Sem Fin}:goL p (w.withFollow eO v) b H 7 (mD (w.withFollow eO v) (jk #[e24,e25] 2) 1063 os) (pyHash Aw) lvD K (mD (w.withFollow eO v) (jk #[e24,e25] 2) 1064 os) (kZ (w.withFollow eO v).params):=by
 cases v<;>kernel_rfl
noncomputable def pL(p:Program)(w:World)(b:List Stmt)(os:OsState)(h:Int)(v:Bool)(H:Value->Sem Fin)(K:Unit->Sem Fin)(n:Nat):=segGoT treeTable p (w.withFollow eO v) 11 (some (.ref 6)) 1 n (mD (w.withFollow eO v) (jk #[e24,e25] 2) 1064 os) ⟨(dictSetHashed 365 Aw h (.int 2 1058)).wrap K H id lvD,cd1 b,psD,lF⟩
noncomputable def pR(p:Program)(w:World)(b:List Stmt)(os:OsState)(h:Int)(v:Bool)(H:Value->Sem Fin)(K:Unit->Sem Fin):Option (SharedT×Thread):=some (mD (w.withFollow eO v) (jk #[e24,e25,eOdd h] 3) 1064 os,⟨K (),cd1 b,psD,lF⟩)
noncomputable def pL2(p:Program)(w:World)(b:List Stmt)(os:OsState)(h:Int)(v:Bool)(H:Value->Sem Fin)(K:Unit->Sem Fin)(n:Nat):=segGoT treeTable p (w.withFollow eO v) 11 (some (.ref 6)) 1 n (mD (w.withFollow eO v) (jk #[e24,e25,eOdd h] 3) 1064 os) ⟨(dictSet 365 (.int 30 1059) (.int 3 1060)).wrap K H id lvD,cd1 b,psD,lF⟩
noncomputable def pR2(p:Program)(w:World)(b:List Stmt)(os:OsState)(h:Int)(v:Bool)(H:Value->Sem Fin)(K:Unit->Sem Fin):Option (SharedT×Thread):=some (mD (w.withFollow eO v) (lZ h) 1065 os,⟨K (),cd1 b,psD,lF⟩)
noncomputable def Put(p:Program)(w:World)(b:List Stmt)(os:OsState)(h:Int):Prop:=∀(v:Bool) (H:Value->Sem Fin) (K:Unit->Sem Fin),∃ n,n≤19∧pL p w b os h v H K n=pR p w b os h v H K
noncomputable def Put2(p:Program)(w:World)(b:List Stmt)(os:OsState)(h:Int):Prop:=∀(v:Bool) (H:Value->Sem Fin) (K:Unit->Sem Fin),∃ n,n≤24∧pL2 p w b os h v H K n=pR2 p w b os h v H K
theorem pu{h:Int}(n:Nat)(e:Nat.ble n 19=true)(t:∀ H K,pL p w b os h true H K n=pR p w b os h true H K)(f:∀ H K,pL p w b os h false H K n=pR p w b os h false H K):Put p w b os h:=fun v H K=>⟨n,Nat.le_of_ble_eq_true e,by cases v;exact f H K;exact t H K⟩
theorem dX{h:Int}(n:Nat)(e:Nat.ble n 24=true)(t:∀ H K,pL2 p w b os h true H K n=pR2 p w b os h true H K)(f:∀ H K,pL2 p w b os h false H K n=pR2 p w b os h false H K):Put2 p w b os h:=fun v H K=>⟨n,Nat.le_of_ble_eq_true e,by cases v;exact f H K;exact t H K⟩
theorem put_all:∀ h:Int,Put p w b os h
 |.negSucc m=>pu 5 rfl (fun V V=>by kernel_rfl) (fun V V=>by kernel_rfl)
 |.ofNat 0=>pu 5 rfl (fun V V=>by kernel_rfl) (fun V V=>by kernel_rfl)
 |.ofNat 1=>pu 5 rfl (fun V V=>by kernel_rfl) (fun V V=>by kernel_rfl)
 |.ofNat 2=>pu 5 rfl (fun V V=>by kernel_rfl) (fun V V=>by kernel_rfl)
 |.ofNat 3=>pu 5 rfl (fun V V=>by kernel_rfl) (fun V V=>by kernel_rfl)
 |.ofNat 4=>pu 5 rfl (fun V V=>by kernel_rfl) (fun V V=>by kernel_rfl)
 |.ofNat 5=>pu 5 rfl (fun V V=>by kernel_rfl) (fun V V=>by kernel_rfl)
 |.ofNat 6=>pu 5 rfl (fun V V=>by kernel_rfl) (fun V V=>by kernel_rfl)
 |.ofNat 7=>pu 5 rfl (fun V V=>by kernel_rfl) (fun V V=>by kernel_rfl)
 |.ofNat 8=>pu 5 rfl (fun V V=>by kernel_rfl) (fun V V=>by kernel_rfl)
 |.ofNat 9=>pu 5 rfl (fun V V=>by kernel_rfl) (fun V V=>by kernel_rfl)
 |.ofNat 10=>pu 5 rfl (fun V V=>by kernel_rfl) (fun V V=>by kernel_rfl)
 |.ofNat 11=>pu 5 rfl (fun V V=>by kernel_rfl) (fun V V=>by kernel_rfl)
 |.ofNat 12=>pu 5 rfl (fun V V=>by kernel_rfl) (fun V V=>by kernel_rfl)
 |.ofNat 13=>pu 5 rfl (fun V V=>by kernel_rfl) (fun V V=>by kernel_rfl)
 |.ofNat 14=>pu 5 rfl (fun V V=>by kernel_rfl) (fun V V=>by kernel_rfl)
 |.ofNat 15=>pu 5 rfl (fun V V=>by kernel_rfl) (fun V V=>by kernel_rfl)
 |.ofNat 16=>pu 5 rfl (fun V V=>by kernel_rfl) (fun V V=>by kernel_rfl)
 |.ofNat 17=>pu 5 rfl (fun V V=>by kernel_rfl) (fun V V=>by kernel_rfl)
 |.ofNat 18=>pu 5 rfl (fun V V=>by kernel_rfl) (fun V V=>by kernel_rfl)
 |.ofNat 19=>pu 5 rfl (fun V V=>by kernel_rfl) (fun V V=>by kernel_rfl)
 |.ofNat 20=>pu 5 rfl (fun V V=>by kernel_rfl) (fun V V=>by kernel_rfl)
 |.ofNat 21=>pu 5 rfl (fun V V=>by kernel_rfl) (fun V V=>by kernel_rfl)
 |.ofNat 22=>pu 5 rfl (fun V V=>by kernel_rfl) (fun V V=>by kernel_rfl)
 |.ofNat 23=>pu 5 rfl (fun V V=>by kernel_rfl) (fun V V=>by kernel_rfl)
 |.ofNat 24=>pu 19 rfl (fun V V=>by kernel_rfl) (fun V V=>by kernel_rfl)
 |.ofNat 25=>pu 19 rfl (fun V V=>by kernel_rfl) (fun V V=>by kernel_rfl)
 |.ofNat 26=>pu 5 rfl (fun V V=>by kernel_rfl) (fun V V=>by kernel_rfl)
 |.ofNat 27=>pu 5 rfl (fun V V=>by kernel_rfl) (fun V V=>by kernel_rfl)
 |.ofNat 28=>pu 5 rfl (fun V V=>by kernel_rfl) (fun V V=>by kernel_rfl)
 |.ofNat 29=>pu 5 rfl (fun V V=>by kernel_rfl) (fun V V=>by kernel_rfl)
 |.ofNat 30=>pu 5 rfl (fun V V=>by kernel_rfl) (fun V V=>by kernel_rfl)
 |.ofNat (m+31)=>pu 5 rfl (fun V V=>by kernel_rfl) (fun V V=>by kernel_rfl)
theorem K6:∀ h:Int,Put2 p w b os h
 |.negSucc m=>dX 10 rfl (fun V V=>by kernel_rfl) (fun V V=>by kernel_rfl)
 |.ofNat 0=>dX 10 rfl (fun V V=>by kernel_rfl) (fun V V=>by kernel_rfl)
 |.ofNat 1=>dX 10 rfl (fun V V=>by kernel_rfl) (fun V V=>by kernel_rfl)
 |.ofNat 2=>dX 10 rfl (fun V V=>by kernel_rfl) (fun V V=>by kernel_rfl)
 |.ofNat 3=>dX 10 rfl (fun V V=>by kernel_rfl) (fun V V=>by kernel_rfl)
 |.ofNat 4=>dX 10 rfl (fun V V=>by kernel_rfl) (fun V V=>by kernel_rfl)
 |.ofNat 5=>dX 10 rfl (fun V V=>by kernel_rfl) (fun V V=>by kernel_rfl)
 |.ofNat 6=>dX 10 rfl (fun V V=>by kernel_rfl) (fun V V=>by kernel_rfl)
 |.ofNat 7=>dX 10 rfl (fun V V=>by kernel_rfl) (fun V V=>by kernel_rfl)
 |.ofNat 8=>dX 10 rfl (fun V V=>by kernel_rfl) (fun V V=>by kernel_rfl)
 |.ofNat 9=>dX 10 rfl (fun V V=>by kernel_rfl) (fun V V=>by kernel_rfl)
 |.ofNat 10=>dX 10 rfl (fun V V=>by kernel_rfl) (fun V V=>by kernel_rfl)
 |.ofNat 11=>dX 10 rfl (fun V V=>by kernel_rfl) (fun V V=>by kernel_rfl)
 |.ofNat 12=>dX 10 rfl (fun V V=>by kernel_rfl) (fun V V=>by kernel_rfl)
 |.ofNat 13=>dX 10 rfl (fun V V=>by kernel_rfl) (fun V V=>by kernel_rfl)
 |.ofNat 14=>dX 10 rfl (fun V V=>by kernel_rfl) (fun V V=>by kernel_rfl)
 |.ofNat 15=>dX 10 rfl (fun V V=>by kernel_rfl) (fun V V=>by kernel_rfl)
 |.ofNat 16=>dX 10 rfl (fun V V=>by kernel_rfl) (fun V V=>by kernel_rfl)
 |.ofNat 17=>dX 10 rfl (fun V V=>by kernel_rfl) (fun V V=>by kernel_rfl)
 |.ofNat 18=>dX 10 rfl (fun V V=>by kernel_rfl) (fun V V=>by kernel_rfl)
 |.ofNat 19=>dX 10 rfl (fun V V=>by kernel_rfl) (fun V V=>by kernel_rfl)
 |.ofNat 20=>dX 10 rfl (fun V V=>by kernel_rfl) (fun V V=>by kernel_rfl)
 |.ofNat 21=>dX 10 rfl (fun V V=>by kernel_rfl) (fun V V=>by kernel_rfl)
 |.ofNat 22=>dX 10 rfl (fun V V=>by kernel_rfl) (fun V V=>by kernel_rfl)
 |.ofNat 23=>dX 10 rfl (fun V V=>by kernel_rfl) (fun V V=>by kernel_rfl)
 |.ofNat 24=>dX 10 rfl (fun V V=>by kernel_rfl) (fun V V=>by kernel_rfl)
 |.ofNat 25=>dX 10 rfl (fun V V=>by kernel_rfl) (fun V V=>by kernel_rfl)
 |.ofNat 26=>dX 10 rfl (fun V V=>by kernel_rfl) (fun V V=>by kernel_rfl)
 |.ofNat 27=>dX 10 rfl (fun V V=>by kernel_rfl) (fun V V=>by kernel_rfl)
 |.ofNat 28=>dX 10 rfl (fun V V=>by kernel_rfl) (fun V V=>by kernel_rfl)
 |.ofNat 29=>dX 10 rfl (fun V V=>by kernel_rfl) (fun V V=>by kernel_rfl)
 |.ofNat 30=>dX 24 rfl (fun V V=>by kernel_rfl) (fun V V=>by kernel_rfl)
 |.ofNat (m+31)=>dX 10 rfl (fun V V=>by kernel_rfl) (fun V V=>by kernel_rfl)
end
noncomputable def wC:List Stmt:=t6.sts_508.drop 1
noncomputable def Dy:List (Value->Sem Unit):=(assignEach [.Name (Str.ofString "_smpte_framerate_encode") ⟨192,0,192,23⟩] t6.env_1).map (·.2)
noncomputable def yJ:Flow->Sem Fin:=fun f=>match f with|.next=>(execs wC t6.env_1).wrap doneF deadEnd id id|f=>doneF f
noncomputable def hfl(o:Obj)(w:World)(p:Program)(b:List Stmt)(os:OsState):=segRunT treeTable p w 11 (some (.ref 6)) 1 150 (mD w o 1065 os) ⟨(assignStores t6.env_1 (.ref 365) none Dy).wrap yJ deadEnd id id,cd1 b,psD,lF⟩
noncomputable def hfr(o:Obj)(w:World)(p:Program)(b:List Stmt)(os:OsState):Option (Flow×SharedT×Code×Pos):=some (.next,stT t6.tree_524 w.params o 380 1082 os,.body b t6.env_1,⟨198,0,200,53⟩)
theorem hfll:hfl=hfl:=rfl
name_quick mqfa for hfl by hfll
theorem hfq(v:Bool)(o:Obj)(w:World)(p:Program)(b:List Stmt)(os:OsState):PySem.W.Fast.mqfa o (w.withFollow eO v) p b os=hfr o (w.withFollow eO v) p b os:=by cases v<;>kernel_rfl
theorem hfe(v:Bool)(o:Obj)(w:World)(p:Program)(b:List Stmt)(os:OsState):hfl o (w.withFollow eO v) p b os=hfr o (w.withFollow eO v) p b os:=by
 rw[PySem.W.Fast.mqfa_eq];exact hfq v o w p b os
theorem bw.mono{p:Program}{w:World}{m m':Nat}{s:SharedT}{t:Thread}{r:Flow×SharedT×Code×Pos}(l:m≤m')(h:bw p w m s t r):bw p w m' s t r:=by
 obtain⟨n,a,b⟩:=h;exact⟨n,Nat.le_trans a l,b⟩
theorem bw.goE{p:Program}{w:World}{m k:Nat}{s s':SharedT}{t t':Thread}{r:Flow×SharedT×Code×Pos}(h:∃ n,n≤k∧segGoT treeTable p w 11 (some (.ref 6)) 1 n s t=some (s',t'))(j:bw p w m s' t' r):bw p w (k+m) s t r:=by
 obtain⟨n,a,b⟩:=h
 exact(bw.go b j).mono (Nat.add_le_add_right a m)
theorem HN(v:Bool)(o:Obj)(p:Program)(w:World)(b:List Stmt)(os:OsState):
 bw p (w.withFollow eO v) 250 (st0 o (w.withFollow eO v) os) (thT (mJ::wC) b ps1) (.next,stT t6.tree_524 (w.withFollow eO v).params (lZ (kZ (w.withFollow eO v).params)) 380 1082 os,.body b t6.env_1,⟨198,0,200,53⟩):=by
 generalize hW:w.withFollow eO v=w' at *
 have e1:(execs (mJ::wC) t6.env_1).wrap doneF deadEnd id id=(exec mJ t6.env_1).wrap yJ deadEnd id id:=execs_cons_wrap ..
 have e2:thT (mJ::wC) b ps1=⟨(exec mJ t6.env_1).wrap yJ deadEnd id id,cd1 b,ps1,lF⟩:=by
  show(⟨(execs (mJ::wC) t6.env_1).wrap doneF deadEnd id id,cd1 b,ps1,lF⟩:Thread)=_
  rw[e1]
 rw[e2]
 refine bw.mono (m:=1+(1+(1+(12+(10+(10+(7+(19+(24+150))))))))) (by decide) ?_
 unfold mJ
 rw[arm_exec_Assign]
 refine bw.bind (bw.at ?_)
 refine bw.bind ?_
 show bw _ _ _ _ ⟨(Sem.pure false).wrap _ _ _ _,_,_,_⟩ _
 show bw _ _ _ _ ⟨(eval _ _>>= _).wrap _ _ _ _,_,_,_⟩ _
 refine bw.bind ?_
 rw[arm_eval_Dict]
 refine bw.bind (bw.at ?_)
 show bw _ _ _ _ ⟨(dictDisplay [(some (lG (.int 24) ⟨192,27,192,29⟩),dv (lG (.int 0) ⟨192,31,192,32⟩)),(some (lG (.int 25) ⟨192,34,192,36⟩),dv (lG (.int 1) ⟨192,38,192,39⟩)),
  (some (lG (.str (Str.ofString "29.97")) ⟨192,41,192,48⟩),dv (lG (.int 2) ⟨192,50,192,51⟩)),(some (lG (.int 30) ⟨192,53,192,55⟩),dv (lG (.int 3) ⟨192,57,192,58⟩))]).wrap _ _ _ _,_,_,_⟩ _
 rw[Ms,sub4]
 refine bw.bind (bw.bind (bw.bind ?_))
 refine bw.go Kv ?_
 refine bw.bind (bw.keep (bw.bind ?_))
 refine bw.go Ku ?_
 show bw _ _ _ _ ⟨(wG 365 pvs).wrap _ _ _ _,_,_,_⟩ _
 unfold pvs
 rw[mQ]
 subst hW
 refine bw.bind (bw.go (lf_24 v) ?_)
 rw[mQ]
 refine bw.bind (bw.go (lf_25 v) ?_)
 rw[mQ,Aw,Dj]
 refine bw.bind (bw.bind (bw.go (lf_hash v) ?_))
 generalize kZ (w.withFollow eO v).params=h
 refine bw.goE (put_all h v _ _) ?_
 rw[mQ]
 refine bw.bind (bw.goE (K6 h v _ _) ?_)
 rw[M7]
 show bw _ _ _ _ ⟨(assignStores t6.env_1 (.ref 365) none Dy).wrap yJ deadEnd id id,cd1 b,psD,lF⟩ _
 exact bw.last (hfe v _ _ _ _ _)
noncomputable abbrev pw:Program:=PySem.Challenge.pw_bc0007_01
noncomputable abbrev bE:List Stmt:=behindTheImports PySem.Challenge.pw_bc0007_01
noncomputable abbrev ps0:Pos:=⟨0,0,0,0⟩
noncomputable def heap0(P:Params):Heap:=absHeap (t6.tree_4 P) 15 {}
noncomputable def hbl(w:World)(os:OsState):=topGo treeTable PySem.Challenge.pw_bc0007_01 w 11 (some (.ref 6)) 12 ⟨boot_heap w.params,#[],boot_drawn,boot_toks,os⟩ (topStub PySem.Challenge.pw_bc0007_01)
noncomputable def hbr(w:World)(os:OsState):Option (Shared×Thread):=some (⟨heap0 w.params,#[],{},187,os⟩,⟨denote treeTable (.body bE t6.env_1),.body bE t6.env_1,ps0,lF⟩)
theorem hbll:hbl=hbl:=rfl
theorem hbrr:hbr=hbr:=rfl
name_quick mqba for hbl by hbll
name_quick mqbb for hbr by hbrr
theorem hbq(w:World)(os:OsState):PySem.W.Fast.mqba w os=PySem.W.Fast.mqbb w os:=by kernel_rfl
theorem hbe(w:World)(os:OsState):hbl w os=hbr w os:=by rw[PySem.W.Fast.mqba_eq,PySem.W.Fast.mqbb_eq];exact hbq w os
noncomputable def hkl(w:World)(os:OsState):=segRun treeTable PySem.Challenge.pw_bc0007_01 w 11 (some (.ref 6)) 1 1 ⟨heap0 w.params,#[],{},187,os⟩ (blockOf bE t6.env_1 (.body bE t6.env_1) ps0 lF)
noncomputable def hkr(w:World)(os:OsState):Option (Flow×Shared×Code×Pos):=some (.next,SharedT.abs ⟨t6.tree_4 w.params,15,{},#[],{},187,os⟩,.body bE t6.env_1,ps0)
theorem hkll:hkl=hkl:=rfl
name_quick mqka for hkl by hkll
theorem hkq(w:World)(os:OsState):PySem.W.Fast.mqka w os=hkr w os:=by kernel_rfl
theorem hke(w:World)(os:OsState):hkl w os=hkr w os:=by rw[PySem.W.Fast.mqka_eq];exact hkq w os
theorem body_is:bE=grA++(grB++(t6.sts_135++(t6.sts_180++(t6.sts_337++(t6.sts_469++(t6.sts_472++((mJ::wC)++(t6.sts_528++(t6.sts_587++(t6.sts_626++(t6.sts_665++(t6.sts_681++(t6.sts_713++(t6.sts_729++(t6.sts_745++(t6.sts_761++(t6.sts_777++(t6.sts_793++(t6.sts_832++(t6.sts_871++(t6.sts_903++(t6.sts_942++(t6.sts_981++(t6.sts_1020++(t6.sts_1059++(t6.sts_1106++(t6.sts_1175++([])))))))))))))))))))))))))))):=by kernel_rfl
theorem Jz(p:Program)(w:World)(s:Shared)(c:Code)(q:Pos):topRun treeTable p w 11 (some (.ref 6)) 2 s ⟨doneF .next,c,q,lF⟩=some s:=rfl
noncomputable abbrev endS(w:World)(os:OsState):Shared:=(stT t6.tree_1225 w.params (lZ (kZ w.params)) 1001 1984 os).abs
theorem ge_seg{n:Nat}{l r:Obj->World->Program->List Stmt->OsState->Option (Flow×SharedT×Code×Pos)}(e:l=r)(o:Obj)(w:World)(p:Program)(b:List Stmt)(os:OsState):l o w p b os=r o w p b os:=by rw[e]
theorem Hj{p:Program}{w:World}{m M:Nat}{s r:Shared}{t:Thread}(_u:Nat)(h:m≤M)(e:topRun treeTable p w 11 (some (.ref 6)) m s t=some r):topRun treeTable p w 11 (some (.ref 6)) M s t=some r:=by
 have:=topRun_mono (M - m) _ _ _ _ e
 rwa [Nat.add_sub_cancel' h]at this
theorem jq(w:World)(os:OsState):topRun treeTable PySem.Challenge.pw_bc0007_01 w 11 (some (.ref 6)) 20000 ⟨boot_heap w.params,#[],boot_drawn,boot_toks,os⟩ (topStub PySem.Challenge.pw_bc0007_01)=some (endS w os):=by
 obtain⟨v,hv⟩:∃ v,w.withFollow eO v=w:=⟨_,World.withFollow_self w eO⟩
 have z0:=Jz PySem.Challenge.pw_bc0007_01 w (endS w os) (.body bE t6.env_1) ⟨504,0,538,76⟩
 have z:=piece_nil (env:=t6.env_1) z0
 have z:=cD ge26 z
 have z:=cD ge25 z
 have z:=cD ge24 z
 have z:=cD ge23 z
 have z:=cD ge22 z
 have z:=cD ge21 z
 have z:=cD ge20 z
 have z:=cD ge19 z
 have z:=cD ge18 z
 have z:=cD ge17 z
 have z:=cD ge16 z
 have z:=cD ge15 z
 have z:=cD ge14 z
 have z:=cD ge13 z
 have z:=cD ge12 z
 have z:=cD ge11 z
 have z:=cD ge10 z
 have z:=cD ge9 z
 have z:=cD ge8 z
 have z:=cD ge7 z
 obtain⟨n,hn,hs⟩:=HN v (lZ (kZ w.params)) PySem.Challenge.pw_bc0007_01 w bE os
 rw[hv]at hs
 have z:=piece_app hs z
 have z:=cD ge6 z
 have z:=cD ge5 z
 have z:=cD ge4 z
 have z:=cD ge3 z
 have z:=cD ge2 z
 have z:=cD ge1 z
 have z:=cD ge0 z
 rw[←body_is]at z
 have z:=piece_block (hke w os) z
 have z:=go_top (hbe w os) z
 refine Hj 0 ?_ z
 omega
noncomputable def qL:Program:={PySem.Challenge.pw_bc0007_01 with main:={PySem.Challenge.pw_bc0007_01.main with body:=PySem.Challenge.pw_bc0007_01.main.body.drop 58}}
noncomputable def lsL:List Str:=PySem.Challenge.pw_bc0007_01.boundNames.filter fun n=>n !="law"
noncomputable def mdL:List Str:=[]
noncomputable def eS(o:Obj)(w:World)(os:OsState):Shared:=⟨absHeap ((tz t6.tree_1225 w.params).set 365 (fun V=>o)) 1001 {},#[],{},1984,os⟩
theorem eS_is(w:World)(os:OsState):endS w os=eS (lZ (kZ w.params)) w os:=rfl
theorem md_is:importedModules PySem.Challenge.pw_bc0007_01.main.body=mdL:=by kernel_rfl
noncomputable def hla(o:Obj)(w:World)(os:OsState):Bool:=staticsOk (importedModules PySem.Challenge.pw_bc0007_01.main.body) (boot_heap w.params) (eS o w os).heap&&namesBound PySem.Challenge.pw_bc0007_01 (eS o w os).heap&&gensDone (eS o w os)&&laidKept (boot_heap w.params) (eS o w os).heap
theorem hlaa:hla=hla:=rfl
name_quick mqla for hla by hlaa
theorem hlaq(o:Obj)(w:World)(os:OsState):PySem.W.Fast.mqla o w os=true:=by kernel_rfl
noncomputable def hlb(o:Obj)(w:World)(os:OsState):=openSeen qL lsL (importedModules PySem.Challenge.pw_bc0007_01.main.body) (fun V=>true) true (eS o w os)
noncomputable def hlc(o:Obj)(w:World)(os:OsState):=openGood qL lsL
theorem hlbb:hlb=hlb:=rfl
theorem hlcc:hlc=hlc:=rfl
name_quick mqlb for hlb by hlbb
name_quick mqlc for hlc by hlcc
theorem hlbq(o:Obj)(w:World)(os:OsState):PySem.W.Fast.mqlb o w os=PySem.W.Fast.mqlc o w os:=by kernel_rfl
end Mine.Internal
end
open PySem PySem.W PyProof.Rows
set_option Elab.async false
set_option genInjectivity false
set_option genSizeOf false
set_option compiler.extract_closed false
set_option bootstrap.genMatcherCode false
set_option linter.unusedVariables false
set_option linter.unusedSimpArgs false
set_option maxRecDepth 100000
set_option maxHeartbeats 4000000
namespace Mine.Internal
theorem gG{G:Prop}(h:∀ P:Prop,(G->P)->P):G:=h G id
inductive T where
 |v (i:Nat)|k (n:Nat)|a (x y:T)|s (x y:T)|m (x y:T)|M (x y:T)|c (n:Nat) (x:T)|t (x:T)|g (x:T)|u (x:T)
mutual
noncomputable def T.n(a:List Nat)(b:List Int):T->Nat
 |.v i=>a.getD i 0|.k n=>n|.a x y=>x.n a b+y.n a b|.s x y=>x.n a b - y.n a b|.m x y=>min (x.n a b) (y.n a b)|.M x y=>max (x.n a b) (y.n a b)|.c n x=>n *x.n a b
 |.t x=>(x.z a b).toNat|.g _=>0|.u _=>0
noncomputable def T.z(a:List Nat)(b:List Int):T->Int
 |.v i=>b.getD i 0|.k n=>n|.a x y=>x.z a b+y.z a b|.s x y=>x.z a b - y.z a b|.m x y=>min (x.z a b) (y.z a b)|.M x y=>max (x.z a b) (y.z a b)|.c n x=>n *x.z a b
 |.t _=>0|.g x=> - x.z a b|.u x=>(x.n a b:Int)
end
inductive Fm where
 |l (x y:T)|L (x y:T)|e (x y:T)|lz (x y:T)|Lz (x y:T)|ez (x y:T)|n (f:Fm)|a (f g:Fm)|o (f g:Fm)|i (f g:Fm)
noncomputable def Fm.S(a:List Nat)(b:List Int):Fm->Prop
 |.l x y=>x.n a b≤y.n a b|.L x y=>x.n a b<y.n a b|.e x y=>x.n a b=y.n a b
 |.lz x y=>x.z a b≤y.z a b|.Lz x y=>x.z a b<y.z a b|.ez x y=>x.z a b=y.z a b
 |.n f=>¬f.S a b|.a f g=>f.S a b∧g.S a b|.o f g=>f.S a b∨g.S a b|.i f g=>f.S a b->g.S a b
noncomputable abbrev Ln:=List Int
noncomputable def bU:Ln->(Nat->Int)->Int
 |[],_=>0
 |c::l,f=>c *f 0+bU l fun k=>f (k+1)
noncomputable def nW:Ln->Ln->Ln
 |[],l=>l
 |l,[]=>l
 |c::l,d::r=>(c+d)::nW l r
noncomputable def lmu(n:Int):Ln->Ln
 |[]=>[]
 |c::l=>(n *c)::lmu n l
noncomputable def lun(z:Int):Nat->Ln
 |0=>[z]
 |i+1=>0::lun z i
noncomputable def fD(l r:Ln):Ln:=nW l (lmu (-1) r)
theorem jL:∀(l r:Ln) f,bU (nW l r) f=bU l f+bU r f:=fun l=>by
 induction l with
 |nil=>exact fun r f=>(Int.zero_add _).symm
 |cons c l ih=>
  intro r
  cases r with
  |nil=>exact fun f=>(Int.add_zero _).symm
  |cons d r=>
   intro f
   show(c+d) *f 0+bU (nW l r) _=(c *f 0+bU l _)+(d *f 0+bU r _)
   rw[ih,Int.add_mul,Int.add_assoc,Int.add_assoc,Int.add_left_comm (d *f 0)]
theorem lQ(n:Int):∀(l:Ln) f,bU (lmu n l) f=n *bU l f:=fun l=>by
 induction l with
 |nil=>exact fun f=>(Int.mul_zero _).symm
 |cons c l ih=>
  intro f
  show n *c *f 0+bU (lmu n l) _=n *(c *f 0+bU l _)
  rw[ih,Int.mul_add,Int.mul_assoc]
theorem Ey(z:Int):∀(i:Nat) f,bU (lun z i) f=z *f i:=fun i=>by
 induction i with
 |zero=>exact fun f=>Int.add_zero _
 |succ i ih=>
  intro f
  show 0 *f 0+bU (lun z i) _=_
  rw[ih,Int.zero_mul,Int.zero_add]
theorem iw(l r:Ln)(f):bU (fD l r) f=bU l f - bU r f:=by rw[fD,jL,lQ,Int.neg_mul,Int.one_mul];rfl
noncomputable def fZ(a:List Nat)(b:List Int)(k:Nat):Int:=if k=0 then 1 else if k % 2=1 then(a.getD (k / 2) 0:Nat)else b.getD (k / 2 - 1) 0
noncomputable abbrev Al:=List (List Ln×Ln)
noncomputable def qw(p q:Al)(f:List Ln->Ln->Ln->Al):Al:=p.flatMap fun x=>q.flatMap fun y=>f (x.1++y.1) x.2 y.2
noncomputable def sal:Bool->Al->Al->Al
 |true,p,q=>qw p q fun c l r=>[(c,fD l r)]
 |false,p,q=>qw p q fun c l r=>[(fD l r::c,fD l r),(fD r l::c,[])]
noncomputable def T.al(z:Bool):T->Al
 |.v i=>[([],lun 1 (bif z then i+i+2 else i+i+1))]
 |.k n=>[([],[(n:Int)])]
 |.a x y=>qw (x.al z) (y.al z) fun c l r=>[(c,nW l r)]
 |.s x y=>sal z (x.al z) (y.al z)
 |.m x y=>qw (x.al z) (y.al z) fun c l r=>[(fD r l::c,l),(fD l r::c,r)]
 |.M x y=>qw (x.al z) (y.al z) fun c l r=>[(fD r l::c,r),(fD l r::c,l)]
 |.c n x=>(x.al z).map fun p=>(p.1,lmu n p.2)
 |.t x=>bif z then [([],[])]else(x.al true).flatMap fun p=>[(p.2::p.1,p.2),(lmu (-1) p.2::p.1,[])]
 |.g x=>bif z then(x.al true).map fun p=>(p.1,lmu (-1) p.2)else [([],[])]
 |.u x=>bif z then x.al false else [([],[])]
noncomputable def At(E:Nat->Int)(p:Al)(w:Int):Prop:=∃ x∈p,(∀ l∈x.1,0≤bU l E)∧bU x.2 E=w
theorem At.dbl{E:Nat->Int}{p q:Al}{v w r:Int}{f:List Ln->Ln->Ln->Al}(h1:At E p v)(h2:At E q w)(h:∀ c l l',(∀ x∈c,0≤bU x E)->bU l E=v->bU l' E=w->At E (f c l l') r):At E (qw p q f) r:=by
 obtain⟨x,hx,cx,ex⟩:=h1
 obtain⟨y,hy,cy,ey⟩:=h2
 obtain⟨z,hz,cz,ez⟩:=h (x.1++y.1) x.2 y.2 (fun l hl=>(List.mem_append.mp hl).elim (cx l) (cy l)) ex ey
 exact⟨z,List.mem_flatMap.mpr ⟨x,hx,List.mem_flatMap.mpr ⟨y,hy,hz⟩⟩,cz,ez⟩
theorem At.one{E:Nat->Int}{c:List Ln}{l:Ln}{w:Int}{r:Al}(h:∀ x∈c,0≤bU x E)(e:bU l E=w):At E ((c,l)::r) w:=⟨_,.head _,h,e⟩
theorem At.next{E:Nat->Int}{p:List Ln×Ln}{w:Int}{r:Al}:At E r w->At E (p::r) w:=fun⟨x,hx,h⟩=>⟨x,.tail _ hx,h⟩
theorem all_cons{E:Nat->Int}{c:List Ln}{l:Ln}(e:0≤bU l E)(h:∀ x∈c,0≤bU x E):∀ x∈l::c,0≤bU x E:=fun x hx=>(List.mem_cons.mp hx).elim (fun q=>q▸e) (h x)
theorem At.pick{E:Nat->Int}{c:List Ln}{l r l1 l2:Ln}{w:Int}(h:∀ x∈c,0≤bU x E)(k:(bU r E≤bU l E->bU l1 E=w)∧(bU l E≤bU r E->bU l2 E=w)):At E [(fD l r::c,l1),(fD r l::c,l2)] w:=by
 rcases Int.le_total (bU r E) (bU l E)with q|q
 · exact .one (all_cons (by rw[iw];exact Int.sub_nonneg_of_le q) h) (k.1 q)
 · exact .next (.one (all_cons (by rw[iw];exact Int.sub_nonneg_of_le q) h) (k.2 q))
section
variable(a:List Nat)(b:List Int)
theorem yU(n:Int):bU [n] (fZ a b)=n:=by show n *1+0=n;rw[Int.mul_one,Int.add_zero]
theorem plc_n(i:Nat):fZ a b (i+i+1)=(a.getD i 0:Nat):=by
 rw[fZ,if_neg (Nat.succ_ne_zero _),if_pos (by omega),show(i+i+1)/ 2=i by omega]
theorem plc_z(i:Nat):fZ a b (i+i+2)=b.getD i 0:=by
 rw[fZ,if_neg (Nat.succ_ne_zero _),if_neg (by omega),show(i+i+2)/ 2 - 1=i by omega]
theorem At.zero:At (fZ a b) [([],[])] 0:=.one (fun V h=>nomatch h) rfl
theorem T.ok(x:T):At (fZ a b) (x.al false) (x.n a b:Nat)∧At (fZ a b) (x.al true) (x.z a b):=by
 induction x with
 |v i=>exact⟨.one (fun V h=>nomatch h) ((Ey 1 _ _).trans ((Int.one_mul _).trans (plc_n a b i))),.one (fun V h=>nomatch h) ((Ey 1 _ _).trans ((Int.one_mul _).trans (plc_z a b i)))⟩
 |k n=>exact⟨.one (fun V h=>nomatch h) (yU a b _),.one (fun V h=>nomatch h) (yU a b _)⟩
 |a x y hx hy=>exact⟨hx.1.dbl hy.1 fun c l r h e1 e2=>.one h (by rw[jL,e1,e2];exact(Int.natCast_add _ _).symm),hx.2.dbl hy.2 fun c l r h e1 e2=>.one h (by rw[jL,e1,e2];rfl)⟩
 |s x y hx hy=>
  refine⟨?_,?_⟩
  · show At _ (qw (x.al false) (y.al false) fun c l r=>[(fD l r::c,fD l r),(fD r l::c,[])]) _
    refine hx.1.dbl hy.1 fun c l r h e1 e2=>.pick h ⟨fun q=>?_,fun q=>?_⟩<;>rw[e1,e2]at q
    · rw[iw,e1,e2];exact(Int.ofNat_sub (Int.ofNat_le.mp q)).symm
    · show(0:Int)=((x.n a b - y.n a b:Nat):Int)
      rw[Nat.sub_eq_zero_of_le (Int.ofNat_le.mp q)];rfl
  · show At _ (qw (x.al true) (y.al true) fun c l r=>[(c,fD l r)]) _
    exact hx.2.dbl hy.2 fun c l r h e1 e2=>.one h (by rw[iw,e1,e2];rfl)
 |m x y hx hy=>
  refine⟨hx.1.dbl hy.1 fun c l r h e1 e2=>.pick h ⟨fun q=>?_,fun q=>?_⟩,hx.2.dbl hy.2 fun c l r h e1 e2=>.pick h ⟨fun q=>?_,fun q=>?_⟩⟩
  · rw[e1,e2]at q;rw[e1];exact congrArg Nat.cast (Nat.min_eq_left (Int.ofNat_le.mp q)).symm
  · rw[e1,e2]at q;rw[e2];exact congrArg Nat.cast (Nat.min_eq_right (Int.ofNat_le.mp q)).symm
  · rw[e1,e2]at q;rw[e1];exact(Int.min_eq_left q).symm
  · rw[e1,e2]at q;rw[e2];exact(Int.min_eq_right q).symm
 |M x y hx hy=>
  refine⟨hx.1.dbl hy.1 fun c l r h e1 e2=>.pick h ⟨fun q=>?_,fun q=>?_⟩,hx.2.dbl hy.2 fun c l r h e1 e2=>.pick h ⟨fun q=>?_,fun q=>?_⟩⟩
  · rw[e1,e2]at q;rw[e2];exact congrArg Nat.cast (Nat.max_eq_right (Int.ofNat_le.mp q)).symm
  · rw[e1,e2]at q;rw[e1];exact congrArg Nat.cast (Nat.max_eq_left (Int.ofNat_le.mp q)).symm
  · rw[e1,e2]at q;rw[e2];exact(Int.max_eq_right q).symm
  · rw[e1,e2]at q;rw[e1];exact(Int.max_eq_left q).symm
 |c n x hx=>
  obtain⟨⟨p,hp,h,e⟩,⟨p',hp',h',e'⟩⟩:=hx
  exact⟨⟨_,List.mem_map.mpr ⟨p,hp,rfl⟩,h,by rw[lQ,e];exact(Int.natCast_mul _ _).symm⟩,⟨_,List.mem_map.mpr ⟨p',hp',rfl⟩,h',by rw[lQ,e'];rfl⟩⟩
 |t x hx=>
  obtain⟨p,hp,h,e⟩:=hx.2
  refine⟨?_,At.zero a b⟩
  rcases Int.le_total 0 (bU p.2 (fZ a b))with q|q
  · exact⟨(p.2::p.1,p.2),List.mem_flatMap.mpr ⟨p,hp,.head _⟩,all_cons q h,by rw[e]at q;rw[e];exact(Int.toNat_of_nonneg q).symm⟩
  · refine⟨(lmu (-1) p.2::p.1,[]),List.mem_flatMap.mpr ⟨p,hp,.tail _ (.head _)⟩,all_cons (by rw[lQ,Int.neg_mul,Int.one_mul];exact Int.neg_nonneg_of_nonpos q) h,?_⟩
    rw[e]at q
    show(0:Int)=(((x.z a b).toNat:Nat):Int)
    rw[Int.toNat_of_nonpos q];rfl
 |g x hx=>
  obtain⟨p,hp,h,e⟩:=hx.2
  exact⟨At.zero a b,⟨_,List.mem_map.mpr ⟨p,hp,rfl⟩,h,by rw[lQ,e,Int.neg_mul,Int.one_mul];rfl⟩⟩
 |u x hx=>exact⟨At.zero a b,hx.1⟩
end
noncomputable abbrev Df:=List (List Ln)
noncomputable def pair(p q:Al)(f:Ln->Ln->List Ln):Df:=p.flatMap fun x=>q.map fun y=>f x.2 y.2++(x.1++y.1)
noncomputable def dle(p q:Al):Bool->Df|true=>pair p q fun l r=>[fD r l]|false=>pair p q fun l r=>[nW (fD l r) [-1]]
noncomputable def dlt(p q:Al):Bool->Df|true=>pair p q fun l r=>[nW (fD r l) [-1]]|false=>pair p q fun l r=>[fD l r]
noncomputable def deq(p q:Al):Bool->Df|true=>pair p q fun l r=>[fD r l,fD l r]|false=>(pair p q fun l r=>[nW (fD l r) [-1]])++pair p q fun l r=>[nW (fD r l) [-1]]
noncomputable def prod(p q:Df):Df:=p.flatMap fun x=>q.map fun y=>x++y
noncomputable def Fm.df:Fm->Bool->Df
 |.l x y,b=>dle (x.al false) (y.al false) b|.L x y,b=>dlt (x.al false) (y.al false) b|.e x y,b=>deq (x.al false) (y.al false) b
 |.lz x y,b=>dle (x.al true) (y.al true) b|.Lz x y,b=>dlt (x.al true) (y.al true) b|.ez x y,b=>deq (x.al true) (y.al true) b
 |.n f,b=>f.df !b
 |.a f g,b=>bif b then prod (f.df true) (g.df true)else f.df false++g.df false
 |.o f g,b=>bif b then f.df true++g.df true else prod (f.df false) (g.df false)
 |.i f g,b=>bif b then f.df false++g.df true else prod (f.df true) (g.df false)
noncomputable def Dt(E:Nat->Int)(d:Df):Prop:=∃ c∈d,∀ l∈c,0≤bU l E
theorem Dt.pair{E:Nat->Int}{p q:Al}{v w:Int}{f:Ln->Ln->List Ln}(h1:At E p v)(h2:At E q w)(h:∀ l r,bU l E=v->bU r E=w->∀ x∈f l r,0≤bU x E):Dt E (pair p q f):=by
 obtain⟨x,hx,cx,ex⟩:=h1
 obtain⟨y,hy,cy,ey⟩:=h2
 exact⟨_,List.mem_flatMap.mpr ⟨x,hx,List.mem_map.mpr ⟨y,hy,rfl⟩⟩,fun l hl=>(List.mem_append.mp hl).elim (h _ _ ex ey l) fun hl=>(List.mem_append.mp hl).elim (cx l) (cy l)⟩
theorem Dt.l{E:Nat->Int}{d e:Df}:Dt E d->Dt E (d++e):=fun⟨c,h,k⟩=>⟨c,List.mem_append_left _ h,k⟩
theorem Dt.r{E:Nat->Int}{d e:Df}:Dt E e->Dt E (d++e):=fun⟨c,h,k⟩=>⟨c,List.mem_append_right _ h,k⟩
theorem Dt.prod{E:Nat->Int}{d e:Df}:Dt E d->Dt E e->Dt E (prod d e):=fun⟨c,h,k⟩ ⟨c',h',k'⟩=>⟨c++c',List.mem_flatMap.mpr ⟨c,h,List.mem_map.mpr ⟨c',h',rfl⟩⟩,fun l hl=>(List.mem_append.mp hl).elim (k l) (k' l)⟩
theorem nR{E:Nat->Int}{l:Ln}(h:0≤bU l E):∀ x∈[l],0≤bU x E:=fun x hx=>List.mem_singleton.mp hx▸h
theorem sub1{x y:Int}(h:0≤x - 1 - y):0≤x - y+ -1:=by rw[show x - y+ -1=x - 1 - y from by omega];exact h
section
variable{a:List Nat}{b:List Int}{p q:Al}{v w:Int}(h1:At (fZ a b) p v)(h2:At (fZ a b) q w)
include h1 h2
theorem dA(h:v≤w):Dt (fZ a b) (pair p q fun l r=>[fD r l]):=.pair h1 h2 fun l r e1 e2=>nR (by rw[iw,e1,e2];exact Int.sub_nonneg_of_le h)
theorem dB(h:w<v):Dt (fZ a b) (pair p q fun l r=>[nW (fD l r) [-1]]):=.pair h1 h2 fun l r e1 e2=>nR (by rw[jL,iw,yU,e1,e2];exact sub1 (Int.sub_nonneg_of_le (Int.le_sub_one_of_lt h)))
theorem dC(h:v<w):Dt (fZ a b) (pair p q fun l r=>[nW (fD r l) [-1]]):=.pair h1 h2 fun l r e1 e2=>nR (by rw[jL,iw,yU,e1,e2];exact sub1 (Int.sub_nonneg_of_le (Int.le_sub_one_of_lt h)))
theorem dD(h:w≤v):Dt (fZ a b) (pair p q fun l r=>[fD l r]):=.pair h1 h2 fun l r e1 e2=>nR (by rw[iw,e1,e2];exact Int.sub_nonneg_of_le h)
theorem vH:(v≤w->Dt (fZ a b) (dle p q true))∧(w<v->Dt (fZ a b) (dle p q false)):=⟨dA h1 h2,dB h1 h2⟩
theorem vq:(v<w->Dt (fZ a b) (dlt p q true))∧(w≤v->Dt (fZ a b) (dlt p q false)):=⟨dC h1 h2,dD h1 h2⟩
theorem vI:(v=w->Dt (fZ a b) (deq p q true))∧(v≠w->Dt (fZ a b) (deq p q false)):=by
 refine⟨fun h=>?_,fun h=>?_⟩
 · show Dt _ (pair p q fun l r=>[fD r l,fD l r])
   exact .pair h1 h2 fun l r e1 e2=>all_cons (by rw[iw,e1,e2];exact Int.sub_nonneg_of_le (Int.le_of_eq h)) (nR (by rw[iw,e1,e2];exact Int.sub_nonneg_of_le (Int.le_of_eq h.symm)))
 · exact(Int.lt_or_gt_of_ne h).elim (fun h=>Dt.r (dC h1 h2 h)) fun h=>Dt.l (dB h1 h2 h)
end
theorem Fm.ok(a:List Nat)(b:List Int)(f:Fm):(f.S a b->Dt (fZ a b) (f.df true))∧(¬f.S a b->Dt (fZ a b) (f.df false)):=by
 induction f with
 |l x y=>exact⟨fun h=>(vH (x.ok a b).1 (y.ok a b).1).1 (Int.ofNat_le.mpr h),fun h=>(vH (x.ok a b).1 (y.ok a b).1).2 (Int.ofNat_lt.mpr (Nat.lt_of_not_le h))⟩
 |L x y=>exact⟨fun h=>(vq (x.ok a b).1 (y.ok a b).1).1 (Int.ofNat_lt.mpr h),fun h=>(vq (x.ok a b).1 (y.ok a b).1).2 (Int.ofNat_le.mpr (Nat.le_of_not_lt h))⟩
 |e x y=>exact⟨fun h=>(vI (x.ok a b).1 (y.ok a b).1).1 (congrArg Nat.cast h),fun h=>(vI (x.ok a b).1 (y.ok a b).1).2 fun q=>h (Int.ofNat_inj.mp q)⟩
 |lz x y=>exact⟨fun h=>(vH (x.ok a b).2 (y.ok a b).2).1 h,fun h=>(vH (x.ok a b).2 (y.ok a b).2).2 (Int.lt_of_not_ge h)⟩
 |Lz x y=>exact⟨fun h=>(vq (x.ok a b).2 (y.ok a b).2).1 h,fun h=>(vq (x.ok a b).2 (y.ok a b).2).2 (Int.not_lt.mp h)⟩
 |ez x y=>exact⟨fun h=>(vI (x.ok a b).2 (y.ok a b).2).1 h,fun h=>(vI (x.ok a b).2 (y.ok a b).2).2 h⟩
 |n f hf=>exact⟨hf.2,fun h=>hf.1 (Classical.byContradiction h)⟩
 |a f g hf hg=>exact⟨fun h=>(hf.1 h.1).prod (hg.1 h.2),fun h=>(Classical.em (f.S a b)).elim (fun q=>Dt.r (hg.2 fun z=>h ⟨q,z⟩)) fun q=>Dt.l (hf.2 q)⟩
 |o f g hf hg=>exact⟨fun h=>h.elim (fun q=>Dt.l (hf.1 q)) fun q=>Dt.r (hg.1 q),fun h=>(hf.2 fun q=>h (.inl q)).prod (hg.2 fun q=>h (.inr q))⟩
 |i f g hf hg=>exact⟨fun h=>(Classical.em (f.S a b)).elim (fun q=>Dt.r (hg.1 (h q))) fun q=>Dt.l (hf.2 q),fun h=>(Classical.em (f.S a b)).elim (fun q=>(hf.1 q).prod (hg.2 fun z=>h fun V=>z)) fun q=>absurd (fun z=>absurd z q) h⟩
noncomputable def vQ:List Ln->List Nat->Ln
 |[],_=>[]
 |l::c,[]=>nW l (vQ c [])
 |l::c,n::r=>nW (lmu n l) (vQ c r)
theorem sumL_ok{E:Nat->Int}(c:List Ln)(r:List Nat)(h:∀ l∈c,0≤bU l E):0≤bU (vQ c r) E:=by
 induction c generalizing r with
 |nil=>exact Int.le_refl 0
 |cons l c ih=>
  have ih:=fun r=>ih r fun x hx=>h x (.tail _ hx)
  have h:=h l (.head _)
  cases r with
  |nil=>exact(jL ..).symm▸Int.add_nonneg h (ih [])
  |cons n r=>exact(jL ..).symm▸Int.add_nonneg ((lQ ..).symm▸Int.mul_nonneg (Int.natCast_nonneg n) h) (ih r)
noncomputable def low:Bool->Ln->Bool
 |_,[]=>true
 |o,c::l=>(if o then Int.decEq c 0 |>.decide else decide (c≤0))&&low (!o) l
theorem Ib:∀(l:Ln) (o:Bool) (f:Nat->Int),(∀ k,(k % 2=if o then 1 else 0)->0≤f k)->low o l=true->bU l f≤0
 |[],_,_,_,_=>Int.le_refl _
 |c::l,o,f,hf,h=>by
  simp only[low,Bool.and_eq_true]at h
  have ih:=Ib l (!o) (fun k=>f (k+1)) (fun k hk=>hf (k+1) (by cases o<;>simp at hk⊢ <;>omega)) h.2
  simp only[bU]
  cases o with
  |true=>
   have:c=0:=by simpa using h.1
   subst this;omega
  |false=>
   have h1:c≤0:=by simpa using h.1
   have h2:=hf 0 (by rfl)
   have:=Int.mul_nonneg (Int.neg_nonneg_of_nonpos h1) h2
   have e: -c *f 0= -(c *f 0):=Int.neg_mul _ _
   omega
noncomputable def neg:Ln->Bool
 |[]=>false
 |c::l=>decide (c<0)&&low false l
noncomputable def qX:Df->List (List Nat)->Bool
 |[],_=>true
 |c::d,[]=>neg (vQ c [])&&qX d []
 |c::d,r::s=>neg (vQ c r)&&qX d s
theorem neg_ok{a:List Nat}{b:List Int}{l:Ln}(h:neg l=true)(k:0≤bU l (fZ a b)):False:=by
 cases l with
 |nil=>cases h
 |cons c l=>
  simp only[neg,Bool.and_eq_true,decide_eq_true_eq]at h
  have:=Ib l false (fun k=>fZ a b (k+1)) (fun k hk=>by
   have hk:k % 2=0:=hk
   rw[fZ,if_neg (by omega),if_pos (by omega)];exact Int.natCast_nonneg _) h.2
  have e:fZ a b 0=1:=rfl
  simp only[bU,e]at k
  omega
theorem Fb{a:List Nat}{b:List Int}:∀(d:Df) (s:List (List Nat)),qX d s=true->¬Dt (fZ a b) d
 |[],_,_,⟨_,h,_⟩=>nomatch h
 |c::d,s,h,⟨x,hx,k⟩=>by
  have key:∃ r s',neg (vQ c r)=true∧qX d s'=true:=by
   cases s with
   |nil=>exact⟨[],[],by simpa[qX]using h⟩
   |cons r s=>exact⟨r,s,by simpa[qX]using h⟩
  obtain⟨r,s',h1,h2⟩:=key
  rcases List.mem_cons.mp hx with rfl|hx
  · exact neg_ok h1 (sumL_ok _ r k)
  · exact Fb d s' h2 ⟨x,hx,k⟩
theorem arith(a:List Nat)(b:List Int)(f:Fm)(s:List (List Nat))(h:qX (f.df false) s=true):f.S a b:=Classical.byContradiction fun n=>Fb _ s h ((f.ok a b).2 n)
noncomputable def hyp:List Fm->Fm->Fm
 |[],g=>g
 |h::l,g=>.i h (hyp l g)
theorem K(a:List Nat)(b:List Int)(l:List Fm)(g:Fm)(s:List (List Nat))(h:qX ((hyp l g).df false) s=true):(hyp l g).S a b:=arith a b _ s h
section
variable{a b c d p q r s t u v w:Nat}{x y z X Y Z:Int}
noncomputable abbrev A:T:=.v 0
noncomputable abbrev B:T:=.v 1
noncomputable abbrev C:T:=.v 2
noncomputable abbrev D:T:=.v 3
noncomputable abbrev E:T:=.v 4
noncomputable abbrev F:T:=.v 5
noncomputable abbrev G:T:=.v 6
noncomputable abbrev H:T:=.v 7
noncomputable abbrev I:T:=.v 8
noncomputable abbrev J:T:=.v 9
noncomputable abbrev M:T:=.v 10
noncomputable abbrev N:T:=.v 11
theorem o0:¬(a<b)->(a - b)=0->a=b:=K [a,b] [] [.n (.L A B),.e (.s A B) (.k 0)] (.e A B) [[0,1,0,0],[1,0,0,0],[0,0,0],[1,0,0,0]] rfl
theorem o1:a=b->c<a->c<b:=K [a,b,c] [] [.e A B,.L C A] (.L C B) [[1,0]] rfl
theorem o2:a=b->c=b->a=c:=K [a,b,c] [] [.e A B,.e C B] (.e A C) [[1,0,0],[0,1,1,0]] rfl
theorem o3:a≤900->b≤(a+1)->b≤(16777216+1):=K [a,b] [] [.l A (.k 900),.l B (.a A (.k 1))] (.l B (.a (.k 16777216) (.k 1))) [] rfl
theorem o4:a≤b->c=b->a≤(b+1):=K [a,b,c] [] [.l A B,.e C B] (.l A (.a B (.k 1))) [] rfl
theorem o5:a<b->(b - (a+1))<(b - a):=K [a,b] [] [.L A B] (.L (.s B (.a A (.k 1))) (.s B A)) [[0,1,0,0],[1,0,0],[1,1,0,0],[1,0,0]] rfl
theorem o6:a=b->c<b->(b - (c+1))<(b - c):=K [a,b,c] [] [.e A B,.L C B] (.L (.s B (.a C (.k 1))) (.s B C)) [[0,0,0,1,0,0],[0,0,1,0,0],[0,0,1,1,0,0],[0,0,1,0,0]] rfl
theorem o7:a=b->a≤c->b≤c:=K [a,b,c] [] [.e A B,.l A C] (.l B C) [[0]] rfl
theorem o8:a=b->a≤c->a≤d->(c - a)=(d - a)->c=d:=K [a,b,c,d] [] [.e A B,.l A C,.l A D,.e (.s C A) (.s D A)] (.e C D) [[0,0,0,0,1,0,0,0],[0,0,0,0,0,1,0,0],[0,0,0,1,1,0,0,0],[0,0,1,0,0,0,0],[0,0,0,1,0,0,1,0],[0,0,1,0,0,1,0,0],[0,0,0,1,0,0,1,0],[0,0,1,0,0,0,0]] rfl
theorem o9:a=b->c<a->b≤c->c=d:=K [a,b,c,d] [] [.e A B,.L C A,.l B C] (.e C D) [[1,0,1,1,0],[1,0,1,1,0]] rfl
theorem o10:a≤(a+b):=K [a,b] [] [] (.l A (.a A B)) [] rfl
theorem o11:a≤b->c=a->c=d->d≤b:=K [a,b,c,d] [] [.l A B,.e C A,.e C D] (.l D B) [[1,1,0,0]] rfl
theorem o12:a<b->(b - a)=((b - (a+1))+1):=K [a,b] [] [.L A B] (.e (.s B A) (.a (.s B (.a A (.k 1))) (.k 1))) [[0,1,0,0],[0,1,0],[],[0,1,0,0],[0,1,0,0],[1,1,0,0],[1,0,1,0],[1,0,1,0]] rfl
theorem o13:(a+b)≤c->b=d->p<d->(a+(min p b))≤c:=K [a,b,c,d,p] [] [.l (.a A B) C,.e B D,.L E D] (.l (.a A (.m E B)) C) [[1,0,0,0],[1,0,0,0,1,0]] rfl
theorem o14:¬(a=(a+1)):=K [a] [] [] (.n (.e A (.a A (.k 1)))) [[0]] rfl
theorem o15:a≤b->a=c->b=16777216->((a:Nat):Int)<((2:Int)^63):=by omega
theorem o21:(a - b)=0->a≤b:=K [a,b] [] [.e (.s A B) (.k 0)] (.l A B) [[1,0,0]] rfl
theorem o22:a≤b->(b - a)=(c+1)->a<b:=K [a,b,c] [] [.l A B,.e (.s B A) (.a C (.k 1))] (.L A B) [[0,0,1,0],[0,0,1,0,0]] rfl
theorem o23:(a+1)≤b->(b - (a+1))<b:=K [a,b] [] [.l (.a A (.k 1)) B] (.L (.s B (.a A (.k 1))) B) [[0,1,0],[1,1,0]] rfl
theorem o24:(a+1)≤b->((b - (a+1))+1)=(b - a):=K [a,b] [] [.l (.a A (.k 1)) B] (.e (.a (.s B (.a A (.k 1))) (.k 1)) (.s B A)) [[0,1,0,0],[1,0,0],[1,1,0,0],[1,0,0],[0,1,0,0],[],[0,1,1,0],[0,1,0,0]] rfl
theorem o25:a=(b+(((0+1)+1)+1))->b<a:=K [a,b] [] [.e A (.a B (.a (.a (.a (.k 0) (.k 1)) (.k 1)) (.k 1)))] (.L B A) [[0]] rfl
theorem o26:a=(b+(((0+1)+1)+1))->(b+1)<a:=K [a,b] [] [.e A (.a B (.a (.a (.a (.k 0) (.k 1)) (.k 1)) (.k 1)))] (.L (.a B (.k 1)) A) [[0]] rfl
theorem o27:a≤(a+2):=K [a] [] [] (.l A (.a A (.k 2))) [] rfl
theorem o28:a≤(a+1):=K [a] [] [] (.l A (.a A (.k 1))) [] rfl
theorem o29:(a+b)≤c->(a+1)≤(c+1):=K [a,b,c] [] [.l (.a A B) C] (.l (.a A (.k 1)) (.a C (.k 1))) [] rfl
theorem o30:(a+b)≤c->a≤c:=K [a,b,c] [] [.l (.a A B) C] (.l A C) [] rfl
theorem o31:(a+(b+1))≤c->((a+1)+b)≤c:=K [a,b,c] [] [.l (.a A (.a B (.k 1))) C] (.l (.a (.a A (.k 1)) B) C) [] rfl
theorem o32:(a+b)<c->a≤c:=K [a,b,c] [] [.L (.a A B) C] (.l A C) [] rfl
theorem o33:(a+b)<c->(a+1)≤(c+1):=K [a,b,c] [] [.L (.a A B) C] (.l (.a A (.k 1)) (.a C (.k 1))) [] rfl
theorem o34:(a+b)<c->a≤(c+1):=K [a,b,c] [] [.L (.a A B) C] (.l A (.a C (.k 1))) [] rfl
theorem o35:(a+b)<c->(a+1)≤c:=K [a,b,c] [] [.L (.a A B) C] (.l (.a A (.k 1)) C) [] rfl
theorem o36:(0:Int)≤x->x<(1000:Int)->x<(0:Int)->((0:Int) - x)<(1000:Int):=K [] [x] [.lz (.k 0) A,.Lz A (.k 1000),.Lz A (.k 0)] (.Lz (.s (.k 0) A) (.k 1000)) [[1,0,1,0]] rfl
theorem o37:(0:Int)≤x->x<(1000:Int)->x<(1000:Int):=K [] [x] [.lz (.k 0) A,.Lz A (.k 1000)] (.Lz A (.k 1000)) [[0]] rfl
theorem o38:((0:Int)≤x)∧(x<(16:Int))->((0:Int)≤x)∧(x≤(15:Int)):=K [] [x] [.a (.lz (.k 0) A) (.Lz A (.k 16))] (.a (.lz (.k 0) A) (.lz A (.k 15))) [[1,0],[0]] rfl
theorem o39:((0:Int)≤x)∧(x<(128:Int))->((0:Int)≤x)∧(x≤(127:Int)):=K [] [x] [.a (.lz (.k 0) A) (.Lz A (.k 128))] (.a (.lz (.k 0) A) (.lz A (.k 127))) [[1,0],[0]] rfl
theorem o40:¬(x≤y)->y≤x:=K [] [x,y] [.n (.lz A B)] (.lz B A) [] rfl
theorem o41:a<b->x≤y->(x<y)∨((x=y)∧(a<b)):=K [a,b] [x,y] [.L A B,.lz A B] (.o (.Lz A B) (.a (.ez A B) (.L A B))) [[0,1,0],[0,0]] rfl
theorem o42:x≤y->a<b->(y<z)∨((y=z)∧(c<b))->(x<z)∨((x=z)∧(a<b)):=K [a,b,c] [x,y,z] [.lz A B,.L A B,.o (.Lz B C) (.a (.ez B C) (.L C B))] (.o (.Lz A C) (.a (.ez A C) (.L A B))) [[1,0,1,1,0],[0,0,0],[],[1,0,1,0,0,0],[0,0,0,0,0],[0,1,0,0,0,0]] rfl
theorem o43:¬(x≤y)->(y<x)∨((y=x)∧(a<b)):=K [a,b] [x,y] [.n (.lz A B)] (.o (.Lz B A) (.a (.ez B A) (.L A B))) [[1,1,0],[1,1,0],[1,1,0]] rfl
theorem o44:(x<y)∨((x=y)∧(a<b))->(y<x)∨((y=x)∧(b<a))->b=a:=K [a,b] [x,y] [.o (.Lz A B) (.a (.ez A B) (.L A B)),.o (.Lz B A) (.a (.ez B A) (.L B A))] (.e B A) [[1,1,0],[1,1,0],[0,0,0],[1,1,0,0,0],[1,0,0,1,0],[0,0,1,0],[0,0,1,0,0,1,0],[0,0,1,0,0,1,0]] rfl
theorem o45:a<b->a<(b+1):=K [a,b] [] [.L A B] (.L A (.a B (.k 1))) [] rfl
theorem o46:a<(b+1)->b≤a->a=b:=K [a,b] [] [.L A (.a B (.k 1)),.l B A] (.e A B) [[1,0],[0]] rfl
theorem o47:(a+1)≤b->a≤b:=K [a,b] [] [.l (.a A (.k 1)) B] (.l A B) [] rfl
theorem o48:a<(a+1):=K [a] [] [] (.L A (.a A (.k 1))) [] rfl
theorem o49:a<b->(c≤a)∧(a<b)->(((c+b) - 1) - a)<b:=K [a,b,c] [] [.L A B,.a (.l C A) (.L A B)] (.L (.s (.s (.a C B) (.k 1)) A) B) [[0,1,0,1,0,0],[1,0,0,1,0,0]] rfl
theorem o50:a≤b->¬((c≤b)∧(b<a)):=K [a,b,c] [] [.l A B] (.n (.a (.l C B) (.L B A))) [[1,0]] rfl
theorem o51:a<b->b<c->a<c:=K [a,b,c] [] [.L A B,.L B C] (.L A C) [] rfl
theorem o52:a<b->b<c->(((0+c) - 1) - a)<c:=K [a,b,c] [] [.L A B,.L B C] (.L (.s (.s (.a (.k 0) C) (.k 1)) A) C) [[0,0,1,0,0]] rfl
theorem o53:a<b->b<c->(((0+c) - 1) - b)<(((0+c) - 1) - a):=K [a,b,c] [] [.L A B,.L B C] (.L (.s (.s (.a (.k 0) C) (.k 1)) B) (.s (.s (.a (.k 0) C) (.k 1)) A)) [[1,0,1,0,0,0,0],[1,1,0,0,0,1,0],[1,0,1,0,0,0],[1,1,0,0,0,0],[1,1,1,0,0,0,0],[1,1,0,0,0,1,0],[1,1,0,0,0,0],[1,1,0,0,0,0],[1,0,0,1,0,0,0],[],[1,0,1,0,0,0,0],[1,0,1,0,0,0,0],[1,1,1,0,0,0,0],[1,1,0,0,0,1,0],[1,1,0,0,1,0,0],[1,1,0,0,1,0,0]] rfl
theorem o54:a=b->c<b->(b - 1)<b:=K [a,b,c] [] [.e A B,.L C B] (.L (.s B (.k 1)) B) [[0,0,0,1,0],[0,0,1,1,0]] rfl
theorem o55:(x<y)∨((x=y)∧(a<b))->x≤y:=K [a,b] [x,y] [.o (.Lz A B) (.a (.ez A B) (.L A B))] (.lz A B) [[],[1,0,0]] rfl
theorem o56:a<b->c=b->d<b->(b - 1)≤a->a=(b - 1):=K [a,b,c,d] [] [.L A B,.e C B,.L D B,.l (.s B (.k 1)) A] (.e A (.s B (.k 1))) [[1,0,0,0,0,0,1,0],[1,0,0,0,0,0],[0,0,0,0,1,0,1,0],[0,0,0,0,0,0,1,0],[1,0,0,0,0,0,1,0],[1,0,0,0,0,1,1,0],[0,0,0,0,0,1,1,0]] rfl
theorem o57:a=b->c<b->x≤y->z≤x->(z<y)∨((z=y)∧(c<b)):=K [a,b,c] [x,y,z] [.e A B,.L C B,.lz A B,.lz C A] (.o (.Lz C B) (.a (.ez C B) (.L C B))) [[0,0,0,1,1,0],[0,0,0,0,0]] rfl
theorem o58:(a+0)=b->a<b->x<y:=K [a,b] [x,y] [.e (.a A (.k 0)) B,.L A B] (.Lz A B) [[0,1,1,0]] rfl
theorem o59:(a+0)=b->a≤b:=K [a,b] [] [.e (.a A (.k 0)) B] (.l A B) [[1,0]] rfl
theorem o60:(a+(b+1))=c->a≤c:=K [a,b,c] [] [.e (.a A (.a B (.k 1))) C] (.l A C) [[1,0]] rfl
theorem o61:¬(x<y)->y≤x:=K [] [x,y] [.n (.Lz A B)] (.lz B A) [] rfl
theorem o62:(a+(b+1))=c->a<c:=K [a,b,c] [] [.e (.a A (.a B (.k 1))) C] (.L A C) [[1,0]] rfl
theorem o63:(a+(b+1))=c->1≤a->1≤(a+1):=K [a,b,c] [] [.e (.a A (.a B (.k 1))) C,.l (.k 1) A] (.l (.k 1) (.a A (.k 1))) [] rfl
theorem o64:(a+(b+1))=c->((a+1)+b)=c:=K [a,b,c] [] [.e (.a A (.a B (.k 1))) C] (.e (.a (.a A (.k 1)) B) C) [[1,0],[0]] rfl
theorem o65:(a+(b+1))=c->(a+1)≤d->a≤d:=K [a,b,c,d] [] [.e (.a A (.a B (.k 1))) C,.l (.a A (.k 1)) D] (.l A D) [] rfl
theorem o66:a<b->(c - (d+1))≤a->(c - (d+1))≤b:=K [a,b,c,d] [] [.L A B,.l (.s C (.a D (.k 1))) A] (.l (.s C (.a D (.k 1))) B) [[1,1,0,1,0],[0,0,0,1,0],[0,0,1,1,0],[0,0,0,1,0]] rfl
theorem o67:a<b->b<c->(c - (d+1))≤a->((((c - (d+1))+c) - 1) - b)<c:=by omega
theorem o68:a<b->(b - (c+1))≤((((b - (c+1))+b) - 1) - a):=by omega
theorem o69:a<b->b<c->(c - (d+1))≤a->((((c - (d+1))+c) - 1) - a)<c:=by omega
theorem o70:a<b->b<c->(c - (d+1))≤((((c - (d+1))+c) - 1) - a):=by omega
theorem o71:a≤b->c<d->d<a->(a - (p+1))≤c->((((a - (p+1))+a) - 1) - d)<b:=by omega
theorem o72:a≤b->c<d->d<a->(a - (p+1))≤c->((((a - (p+1))+a) - 1) - c)<b:=by omega
theorem o73:a<b->b<c->((((c - (d+1))+c) - 1) - b)<((((c - (d+1))+c) - 1) - a):=by omega
theorem o74:¬((a - (b+1))≤c)->¬(((a - (b+1))≤c)∧(c<a)):=K [a,b,c] [] [.n (.l (.s A (.a B (.k 1))) C)] (.n (.a (.l (.s A (.a B (.k 1))) C) (.L C A))) [[1,0,1,0,0],[1,0,0,1,0],[1,0,0,0,0],[1,0,0,0,0]] rfl
theorem o75:¬((a - (b+1))≤c)->c<(a - (b+1)):=K [a,b,c] [] [.n (.l (.s A (.a B (.k 1))) C)] (.L C (.s A (.a B (.k 1)))) [[1,0,1,0],[1,0,0],[1,0,0,0],[1,0,0,0]] rfl
theorem o76:a<b->¬((b - (c+1))≤d)->((b - (c+1))≤a)∧(a<b)->((((b - (c+1))+b) - 1) - a)<b:=by omega
theorem o77:a<b->¬((b - (c+1))≤d)->d<((((b - (c+1))+b) - 1) - a):=K [a,b,c,d] [] [.L A B,.n (.l (.s B (.a C (.k 1))) D)] (.L D (.s (.s (.a (.s B (.a C (.k 1))) B) (.k 1)) A)) [[2,2,0,2,0,0,0],[1,1,0,0,1,0,0],[1,1,0,1,0,1,0],[0,2,0,0,0,1,0],[0,1,0,0,0,0],[0,1,0,0,0,0],[0,1,0,0,0,0],[0,1,0,0,0,0],[0,1,0,0,0,0,0],[0,1,0,0,0,0,0],[0,1,0,0,0,0,0],[0,1,0,0,0,0,0],[0,1,0,0,0,0,0],[0,1,0,0,0,0,0],[0,1,0,0,0,0,0],[0,1,0,0,0,0,0]] rfl
theorem o78:a<b->b<c->a<(c - (0+1)):=K [a,b,c] [] [.L A B,.L B C] (.L A (.s C (.a (.k 0) (.k 1)))) [[1,1,1,0]] rfl
theorem o79:1≤a->((a+1) - (0+1))≤b->b<(a+1)->b=((a+1) - 1):=K [a,b] [] [.l (.k 1) A,.l (.s (.a A (.k 1)) (.a (.k 0) (.k 1))) B,.L B (.a A (.k 1))] (.e B (.s (.a A (.k 1)) (.k 1))) [[0,0,0,1,1,0],[1,0,0,0,0],[0,1,0,0,1,0],[0,0,0,0,1,0],[0,0,0,1,1,0],[1,0,1,0,0,0],[1,0,1,0,0,0]] rfl
theorem o80:1≤a->((a+1) - (0+1))≤b->a≤b:=K [a,b] [] [.l (.k 1) A,.l (.s (.a A (.k 1)) (.a (.k 0) (.k 1))) B] (.l A B) [[0,1,0],[1,0,1,0]] rfl
theorem o81:1≤a->(0+1)≤(a+1):=K [a] [] [.l (.k 1) A] (.l (.a (.k 0) (.k 1)) (.a A (.k 1))) [] rfl
theorem o82:a<b->b<(c+1)->c≤b->a<c:=K [a,b,c] [] [.L A B,.L B (.a C (.k 1)),.l C B] (.L A C) [[1,1,0]] rfl
theorem o83:a<b->(b - 1)<b:=K [a,b] [] [.L A B] (.L (.s B (.k 1)) B) [[0,1,0],[1,1,0]] rfl
theorem o84:a<b->(b - 1)≤a->a=(b - 1):=K [a,b] [] [.L A B,.l (.s B (.k 1)) A] (.e A (.s B (.k 1))) [[1,0,0,1,0],[1,0,0],[0,1,0,1,0],[],[1,0,0,1,0],[1,0,1,1,0],[0,0,1,1,0],[0,0,0,1,0]] rfl
theorem o85:(a+(b+1))=c->a<c->a≤c:=K [a,b,c] [] [.e (.a A (.a B (.k 1))) C,.L A C] (.l A C) [] rfl
theorem o86:(a+(b+1))=c->(d+1)≤a->0<d->1≤a:=K [a,b,c,d] [] [.e (.a A (.a B (.k 1))) C,.l (.a D (.k 1)) A,.L (.k 0) D] (.l (.k 1) A) [] rfl
theorem o87:¬(((a - (b+1))≤a)∧(a<a)):=K [a,b] [] [] (.n (.a (.l (.s A (.a B (.k 1))) A) (.L A A))) [[0,0],[0,0]] rfl
theorem o88:x<y->y≤z->x<z:=K [] [x,y,z] [.Lz A B,.lz B C] (.Lz A C) [] rfl
theorem o89:(a+(b+1))=c->d<a->((a - (p+1))≤d)∧(d<a)->((((a - (p+1))+a) - 1) - d)<a:=by omega
theorem o90:¬(0<a)->a=0:=K [a] [] [.n (.L (.k 0) A)] (.e A (.k 0)) [] rfl
theorem o91:(a+(b+1))=c->(0+1)≤a->1≤a:=K [a,b,c] [] [.e (.a A (.a B (.k 1))) C,.l (.a (.k 0) (.k 1)) A] (.l (.k 1) A) [] rfl
theorem o92:(a+(b+1))=c->(d+1)≤a->((a+1) - ((d+1)+1))=(a - (d+1)):=K [a,b,c,d] [] [.e (.a A (.a B (.k 1))) C,.l (.a D (.k 1)) A] (.e (.s (.a A (.k 1)) (.a (.a D (.k 1)) (.k 1))) (.s A (.a D (.k 1)))) [[0,0,0,1,0,0],[0,0,0,1,0],[],[0,0,0,1,0,0],[0,0,0,1,0,0],[],[0,0,0,1,1,0],[0,0,0,1,0,0]] rfl
theorem o93:((a+1) - ((b+1)+1))=(a - (b+1))->((a+1) - ((b+1)+1))≤c->(a - (b+1))≤c:=by omega
theorem o94:(a+(b+1))=c->(d+1)≤a->((d+1)+1)≤(a+1):=K [a,b,c,d] [] [.e (.a A (.a B (.k 1))) C,.l (.a D (.k 1)) A] (.l (.a (.a D (.k 1)) (.k 1)) (.a A (.k 1))) [] rfl
theorem o95:(a+(b+1))=c->((a+1) - 1)=a:=K [a,b,c] [] [.e (.a A (.a B (.k 1))) C] (.e (.s (.a A (.k 1)) (.k 1)) A) [[0,0,1,0],[],[0,0,1,0]] rfl
theorem o96:¬(x<y)->¬(y<x)->z=y->z=x:=K [] [x,y,z] [.n (.Lz A B),.n (.Lz B A),.ez C B] (.ez C A) [[1,0,1,0],[0,1,0]] rfl
theorem o97:(a+(b+1))=c->d<(a+1)->a≤d->d=a:=K [a,b,c,d] [] [.e (.a A (.a B (.k 1))) C,.L D (.a A (.k 1)),.l A D] (.e D A) [[0,0,1,0],[0,0,0]] rfl
theorem o98:((a+1) - ((b+1)+1))=(a - (b+1))->c<((a+1) - ((b+1)+1))->c<(a - (b+1)):=by omega
theorem o99:(a+(b+1))=c->d<p->p<(a+1)->a≤p->(a - 1)<a:=K [a,b,c,d,p] [] [.e (.a A (.a B (.k 1))) C,.L D E,.L E (.a A (.k 1)),.l A E] (.L (.s A (.k 1)) A) [[0,0,0,0,0,1,0],[0,0,1,1,0,1,0]] rfl
theorem o100:(a+(b+1))=c->(d+1)≤a->((a+1) - ((d+1)+1))=(a - (d+1))->p<q->q<(a+1)->p<((a+1) - ((d+1)+1))->a≤q->p<(a - 1):=by omega
theorem o101:(a+(b+1))=c->a<c->d<p->p<(a+1)->a≤p->(a - 1)<c:=K [a,b,c,d,p] [] [.e (.a A (.a B (.k 1))) C,.L A C,.L D E,.L E (.a A (.k 1)),.l A E] (.L (.s A (.k 1)) C) [[0,0,1,0,0,0,1,0],[0,0,1,0,0,0,1,0]] rfl
theorem o102:(a+(b+1))=c->(d+1)≤a->p<q->q<(a+1)->a≤q->(a - (d+1))≤(a - 1):=K [a,b,c,d,p,q] [] [.e (.a A (.a B (.k 1))) C,.l (.a D (.k 1)) A,.L E F,.L F (.a A (.k 1)),.l A F] (.l (.s A (.a D (.k 1))) (.s A (.k 1))) [[0,0,0,0,0,0,1,0,0],[0,0,0,0,0,0,1,0],[0,0,0,0,0,0,1,0],[0,0,0,0,0,0,1,0,0]] rfl
theorem o103:(a+(b+1))=c->(d+1)≤a->p<q->q<(a+1)->a≤q->(a - (d+1))≤a:=K [a,b,c,d,p,q] [] [.e (.a A (.a B (.k 1))) C,.l (.a D (.k 1)) A,.L E F,.L F (.a A (.k 1)),.l A F] (.l (.s A (.a D (.k 1))) A) [[0,0,0,0,0,0,1,0],[0,0,0,0,0,0,1,0]] rfl
theorem o104:(a+(b+1))=c->d<p->p<(a+1)->a≤p->q=a->d<a:=K [a,b,c,d,p,q] [] [.e (.a A (.a B (.k 1))) C,.L D E,.L E (.a A (.k 1)),.l A E,.e F A] (.L D A) [[0,0,1,1,0,0,0]] rfl
theorem o105:(a+(b+1))=c->¬(x<y)->¬(y<x)->d<(a+1)->a≤d->(y<z)∨((y=z)∧((a - 1)<p))->q=a->p<a->(x<z)∨((x=z)∧(a<p)):=K [a,b,c,d,p,q] [x,y,z] [.e (.a A (.a B (.k 1))) C,.n (.Lz A B),.n (.Lz B A),.L D (.a A (.k 1)),.l A D,.o (.Lz B C) (.a (.ez B C) (.L (.s A (.k 1)) E)),.e F A,.L E A] (.o (.Lz A C) (.a (.ez A C) (.L A E))) [[0,0,0,1,0,0,1,0,0,0,1,0],[0,0,0,0,0,0,0,0,0,0],[0,0,0,1,0,0,1,0,0,0,1,0],[0,0,0,1,0,0,1,0,0,0,0,0,0,0],[0,0,0,0,0,0,0,0,1,0,0,0,1,0,0],[0,0,0,0,0,0,0,0,1,0,0,0,1,0,0],[0,0,0,1,0,0,1,0,0,0,0,0,0,0],[],[0,0,0,0,0,0,0,0,1,1,0,0,1,0,0]] rfl
theorem o106:a≤b->(a+(b - a))=b:=K [a,b] [] [.l A B] (.e (.a A (.s B A)) B) [[0,1,0],[1,1,0],[0,1,0],[0]] rfl
theorem o107:1≤a->a≤b->1≤b:=K [a,b] [] [.l (.k 1) A,.l A B] (.l (.k 1) B) [] rfl
theorem o108:a<b->((a+1)+(b - (a+1)))=b:=K [a,b] [] [.L A B] (.e (.a (.a A (.k 1)) (.s B (.a A (.k 1)))) B) [[0,1,0],[1,1,0],[0,1,0],[0]] rfl
theorem o109:1≤a->(a+1)≤b->1≤b:=K [a,b] [] [.l (.k 1) A,.l (.a A (.k 1)) B] (.l (.k 1) B) [] rfl
theorem o110:a<0->b<0:=K [a,b] [] [.L A (.k 0)] (.L B (.k 0)) [[1,0]] rfl
theorem o111:1≤a->0<a:=K [a] [] [.l (.k 1) A] (.L (.k 0) A) [] rfl
theorem o112:1≤a->(1+(a - 1))=a:=K [a] [] [.l (.k 1) A] (.e (.a (.k 1) (.s A (.k 1))) A) [[0,1,0],[1,1,0],[0,1,0],[0]] rfl
theorem o113:a≤b->¬(a=b)->a<b:=K [a,b] [] [.l A B,.n (.e A B)] (.L A B) [[1,1,0],[0]] rfl
theorem o114:1<a->(a - 1)<a:=K [a] [] [.L (.k 1) A] (.L (.s A (.k 1)) A) [[0,1,0]] rfl
theorem o115:1<a->b<a->(a - 1)≤b->b=(a - 1):=K [a,b] [] [.L (.k 1) A,.L B A,.l (.s A (.k 1)) B] (.e B (.s A (.k 1))) [[0,1,0,0,1,0],[1,0,0,0,0],[0,0,1,0,1,0],[0,0,0,0,1,0],[0,1,0,0,1,0],[1,0,0,1,0,0],[1,0,0,1,0,0]] rfl
theorem o116:¬(x<y)->x≤z->z≤y->z=y:=K [] [x,y,z] [.n (.Lz A B),.lz A C,.lz C B] (.ez C B) [[0,0],[1,1,0]] rfl
theorem o117:a<b->b<c->(((0+c) - 1) - b)<c:=K [a,b,c] [] [.L A B,.L B C] (.L (.s (.s (.a (.k 0) C) (.k 1)) B) C) [[0,0,1,0,0],[0,0,1,0],[],[0,1,1,0,0]] rfl
theorem o118:1≤a->b≤a->(((0+b) - 1) - c)<a:=K [a,b,c] [] [.l (.k 1) A,.l B A] (.L (.s (.s (.a (.k 0) B) (.k 1)) C) A) [[0,1,1,0,0],[1,0,1,0,0],[1,0,1,0,0],[1,0,1,0,0]] rfl
theorem o119:a≤b->c<d->d<a->(((0+a) - 1) - d)<b:=K [a,b,c,d] [] [.l A B,.L C D,.L D A] (.L (.s (.s (.a (.k 0) A) (.k 1)) D) B) [[1,0,0,1,0,0],[1,0,0,1,0],[],[1,0,1,1,0,0]] rfl
theorem o120:a<b->(((0+b) - 1) - a)<b:=K [a,b] [] [.L A B] (.L (.s (.s (.a (.k 0) B) (.k 1)) A) B) [[0,1,0,0],[],[1,1,0,0],[1,1,0,0]] rfl
theorem o121:¬((0≤a)∧(a<a)):=K [a] [] [] (.n (.a (.l (.k 0) A) (.L A A))) [[0]] rfl
theorem o122:1≤a->¬(1<a)->a=1:=K [a] [] [.l (.k 1) A,.n (.L (.k 1) A)] (.e A (.k 1)) [[0],[1,0]] rfl
theorem o123:1≤a->¬(1=a)->1<a:=K [a] [] [.l (.k 1) A,.n (.e (.k 1) A)] (.L (.k 1) A) [[1,1,0],[0]] rfl
theorem o124:a<1->a=(1 - 1):=K [a] [] [.L A (.k 1)] (.e A (.s (.k 1) (.k 1))) [] rfl
theorem o125:(a - b)≤0->b≤a->b=a:=K [a,b] [] [.l (.s A B) (.k 0),.l B A] (.e B A) [[],[1,0,0],[0,0],[0,1,0]] rfl
theorem o126:a≤b->b≤a->a=b:=K [a,b] [] [.l A B,.l B A] (.e A B) [[1,0],[0]] rfl
theorem o127:a≤b->¬(a≤c)->((c+a)/ 2)≤b:=by omega
theorem o128:¬(a≤b)->b≤((b+a)/ 2):=by omega
theorem o129:(a - b)≤(c+1)->¬(a≤b)->(((b+a)/ 2) - b)≤c:=by omega
theorem o130:((a+b)/ 2)≤c->c≤((a+b)/ 2)->c=((a+b)/ 2):=by omega
theorem o131:¬(a≤b)->(((b+a)/ 2)+1)≤a:=by omega
theorem o132:(a - b)≤(c+1)->¬(a≤b)->(a - (((b+a)/ 2)+1))≤c:=by omega
theorem o133:¬(x<y)->z≤y->z≤x:=K [] [x,y,z] [.n (.Lz A B),.lz C B] (.lz C A) [] rfl
theorem o134:a≤b->¬(a≤c)->((c+a)/ 2)<b:=by omega
theorem o135:a<(((b+c)/ 2)+1)->((b+c)/ 2)≤a->a=((b+c)/ 2):=by omega
theorem o136:(a+0)=b->a=b:=K [a,b] [] [.e (.a A (.k 0)) B] (.e A B) [[1,0],[0]] rfl
theorem o137:(a+(b+1))=c->a≤d->d<a->x<y:=K [a,b,c,d] [x,y] [.e (.a A (.a B (.k 1))) C,.l A D,.L D A] (.Lz A B) [[0,0,1,1,0]] rfl
theorem o138:a<0->x≤y:=K [a] [x,y] [.L A (.k 0)] (.lz A B) [[1,0]] rfl
theorem o139:(a+(b+1))=c->(a - 0)≤a:=K [a,b,c] [] [.e (.a A (.a B (.k 1))) C] (.l (.s A (.k 0)) A) [[0,0,1,0]] rfl
theorem o140:(a+(b+1))=c->d=p->p≤a->q=a->(a - p)≤a:=K [a,b,c,d,p,q] [] [.e (.a A (.a B (.k 1))) C,.e D E,.l E A,.e F A] (.l (.s A E) A) [[0,0,0,0,0,0,0,1,0]] rfl
theorem o141:(a+(b+1))=c->d=p->p≤a->q=a->(a - (a - p))=p:=K [a,b,c,d,p,q] [] [.e (.a A (.a B (.k 1))) C,.e D E,.l E A,.e F A] (.e (.s A (.s A E)) E) [[0,0,0,0,0,0,0,1,0,0],[0,0,0,0,0,0,0,1,0,0],[0,0,0,0,0,0,0,1,0],[],[0,0,0,0,0,0,0,1,0,0],[0,0,0,0,0,0,0,1,1,0],[0,0,0,0,1,0,0,1,0,0],[0,0,0,0,1,0,0,1,1,0]] rfl
theorem o142:(a+(b+1))=c->d=a->p<a->p<(a+1):=K [a,b,c,d,p] [] [.e (.a A (.a B (.k 1))) C,.e D A,.L E A] (.L E (.a A (.k 1))) [] rfl
theorem o143:(a+(b+1))=c->d=p->q=a->(a - (a - p))=p->r<(a+1)->(p<r)∧(r≤a)->(r - 1)<a:=by omega
theorem o144:(a+(b+1))=c->d≤a->p=a->(a - (a - d))=d->q<(a+1)->¬(q=d)->¬((d<q)∧(q≤a))->q<a:=by omega
theorem o145:(a+(b+1))=c->d=a->(a+1)≤p->¬((q<p)∧(p≤a)):=K [a,b,c,d,p,q] [] [.e (.a A (.a B (.k 1))) C,.e D A,.l (.a A (.k 1)) E] (.n (.a (.L F E) (.l E A))) [[0,0,0,0,1,0]] rfl
theorem o146:(a+(b+1))=c->d≤a->p=a->(a - (a - d))=d->(a+1)≤q->¬(q=d):=by omega
theorem o147:(a+(b+1))=c->d=a->(a+1)≤p->a≤p:=K [a,b,c,d,p] [] [.e (.a A (.a B (.k 1))) C,.e D A,.l (.a A (.k 1)) E] (.l A E) [] rfl
theorem o148:(a+(b+1))=c->d=a->(a - (a - p))=p->q<r->r<(a+1)->q=p->(p<r)∧(r≤a):=by omega
theorem o149:(a - (a - b))=b->c<d->c=b->¬(d=b):=K [a,b,c,d] [] [.e (.s A (.s A B)) B,.L C D,.e C B] (.n (.e D B)) [[0,0,0,0,1,0,1,1,0],[0,0,0,0,1,0,1,1,0],[0,0,0,0,1,0,1,1,0],[0,0,0,0,1,0,1,1,0]] rfl
theorem o150:(a+(b+1))=c->d=p->q=a->(a - (a - p))=p->r<s->s<(a+1)->r=p->(s - 1)<a:=by omega
theorem o151:a=b->(c - (c - b))=b->d<p->d=b->b≤(p - 1):=by omega
theorem o152:(a+(b+1))=c->d=a->(a - (a - p))=p->q<r->r<(a+1)->(p<q)∧(q≤a)->(p<r)∧(r≤a):=by omega
theorem o153:(a - (a - b))=b->c<d->(b<c)∧(c≤a)->¬(d=b):=by omega
theorem o154:(a+(b+1))=c->d=a->p<q->q<(a+1)->(q - 1)<a:=K [a,b,c,d,p,q] [] [.e (.a A (.a B (.k 1))) C,.e D A,.L E F,.L F (.a A (.k 1))] (.L (.s F (.k 1)) A) [[0,0,0,0,0,1,1,0],[0,0,0,0,1,1,1,0]] rfl
theorem o155:a=b->(c - (c - b))=b->d<p->(b<d)∧(d≤c)->(d - 1)<(p - 1):=by omega
theorem o156:(a - (a - b))=b->c<d->d=b->c<b:=K [a,b,c,d] [] [.e (.s A (.s A B)) B,.L C D,.e D B] (.L C B) [[0,0,0,0,1,1,0],[0,0,0,0,1,1,0],[0,0,0,0,1,1,0],[0,0,0,0,1,1,0]] rfl
theorem o157:(a+(b+1))=c->d=a->p<q->q<(a+1)->p<a:=K [a,b,c,d,p,q] [] [.e (.a A (.a B (.k 1))) C,.e D A,.L E F,.L F (.a A (.k 1))] (.L E A) [] rfl
theorem o158:(a+(b+1))=c->d=a->x≤y->p<a->(x<y)∨((x=y)∧(p<a)):=K [a,b,c,d,p] [x,y] [.e (.a A (.a B (.k 1))) C,.e D A,.lz A B,.L E A] (.o (.Lz A B) (.a (.ez A B) (.L E A))) [[0,0,0,0,1,0,0],[0,0,0,0,0,0]] rfl
theorem o159:(a+(b+1))=c->d=a->(a - (a - p))=p->q<r->r<(a+1)->¬(q=p)->¬((p<q)∧(q≤a))->¬(r=p)->(p<r)∧(r≤a)->q<(r - 1):=by omega
theorem o160:1≤a->(max a 1)=a:=K [a] [] [.l (.k 1) A] (.e (.M A (.k 1)) A) [[1,1,0],[0,1,0],[0],[0,1,0]] rfl
theorem o161:(max a 1)=a->a<b->(a+(b - a))=b:=K [a,b] [] [.e (.M A (.k 1)) A,.L A B] (.e (.a A (.s B A)) B) [[0,0,0,0,1,0],[],[0,0,0,0,1,0],[0,0,0,1,0],[0,0,0,0,1,0],[0,0,0,1,1,0],[0,0,0,0,1,0],[0,0,0,1,0]] rfl
theorem o162:a≤b->(max a 1)=a->¬(a<b)->a=b:=K [a,b] [] [.l A B,.e (.M A (.k 1)) A,.n (.L A B)] (.e A B) [[1,0,0,0,0],[0,0,0,0],[1,0,0,0,0],[0,0,0,0]] rfl
theorem o163:a<b->b=c->a<c:=K [a,b,c] [] [.L A B,.e B C] (.L A C) [[1,1,0]] rfl
theorem o164:a=b->c=b->d<b->d<a:=K [a,b,c,d] [] [.e A B,.e C B,.L D B] (.L D A) [[0,1,0,0]] rfl
theorem o165:a=b->b<64->c=a->c≤16777216:=K [a,b,c] [] [.e A B,.L B (.k 64),.e C A] (.l C (.k 16777216)) [[1,0,1,1,0]] rfl
theorem o166:a=b->b<64->c=a->b≤(16777216+1):=K [a,b,c] [] [.e A B,.L B (.k 64),.e C A] (.l B (.a (.k 16777216) (.k 1))) [] rfl
theorem o167:a=b->b<64->c=a->2≤b->2≤c:=K [a,b,c] [] [.e A B,.L B (.k 64),.e C A,.l (.k 2) B] (.l (.k 2) C) [[0,1,0,0]] rfl
theorem o168:a=b->b<64->c=a->2≤b->1≤b:=K [a,b,c] [] [.e A B,.L B (.k 64),.e C A,.l (.k 2) B] (.l (.k 1) B) [[0,0,0,0,0]] rfl
theorem o169:a=b->c=a->c=b:=K [a,b,c] [] [.e A B,.e C A] (.e C B) [[1,0,1,0],[0,1,0]] rfl
theorem o170:a=b->b<64->c=a->2≤b->d=b->0<b:=K [a,b,c,d] [] [.e A B,.L B (.k 64),.e C A,.l (.k 2) B,.e D B] (.L (.k 0) B) [[0,0,0,0,0,1,0,0]] rfl
theorem o171:a=b->c=a->d=b->p<b->p<a:=K [a,b,c,d,p] [] [.e A B,.e C A,.e D B,.L E B] (.L E A) [[0,1,0,0,0,0]] rfl
theorem o172:a<64->(b+(c+1))=a->d=b->d<64:=K [a,b,c,d] [] [.L A (.k 64),.e (.a B (.a C (.k 1))) A,.e D B] (.L D (.k 64)) [[1,1,0,1,0]] rfl
theorem o173:a=b->b<64->b≤16777216:=K [a,b] [] [.e A B,.L B (.k 64)] (.l B (.k 16777216)) [] rfl
theorem o174:a<64->(a+1)≤(16777216+1):=K [a] [] [.L A (.k 64)] (.l (.a A (.k 1)) (.a (.k 16777216) (.k 1))) [] rfl
theorem o175:a<64->a≤16777216:=K [a] [] [.L A (.k 64)] (.l A (.k 16777216)) [] rfl
theorem o176:a≤(b+1)->a≤((b+1)+1):=K [a,b] [] [.l A (.a B (.k 1))] (.l A (.a (.a B (.k 1)) (.k 1))) [] rfl
theorem o177:a≤(b+1)->(a+1)≤((b+1)+1):=K [a,b] [] [.l A (.a B (.k 1))] (.l (.a A (.k 1)) (.a (.a B (.k 1)) (.k 1))) [] rfl
theorem o178:a≤(((a+2)+2)+1):=K [a] [] [] (.l A (.a (.a (.a A (.k 2)) (.k 2)) (.k 1))) [] rfl
theorem o179:a≤((a+2)+1):=K [a] [] [] (.l A (.a (.a A (.k 2)) (.k 1))) [] rfl
theorem o180:a=b->c=d->a<d->¬(c=a):=K [a,b,c,d] [] [.e A B,.e C D,.L A D] (.n (.e C A)) [[0,0,0,1,1,1,0]] rfl
theorem o181:(a+1)<(a+2):=K [a] [] [] (.L (.a A (.k 1)) (.a A (.k 2))) [] rfl
theorem o182:a<(a+2):=K [a] [] [] (.L A (.a A (.k 2))) [] rfl
theorem o183:(a+1)<((a+2)+1):=K [a] [] [] (.L (.a A (.k 1)) (.a (.a A (.k 2)) (.k 1))) [] rfl
theorem o184:a<((a+2)+1):=K [a] [] [] (.L A (.a (.a A (.k 2)) (.k 1))) [] rfl
theorem o185:a<1000->b≤(a+1)->b<16777216:=K [a,b] [] [.L A (.k 1000),.l B (.a A (.k 1))] (.L B (.k 16777216)) [] rfl
theorem o186:a=(b+2)->c=(a+2)->(b+1)<c:=K [a,b,c] [] [.e A (.a B (.k 2)),.e C (.a A (.k 2))] (.L (.a B (.k 1)) C) [[0,1,0]] rfl
theorem o187:(a+2)=a->a<(a+2):=K [a] [] [.e (.a A (.k 2)) A] (.L A (.a A (.k 2))) [] rfl
theorem o188:(a+2)=(a+1)->(a+1)<(a+2):=K [a] [] [.e (.a A (.k 2)) (.a A (.k 1))] (.L (.a A (.k 1)) (.a A (.k 2))) [] rfl
theorem o189:a≤((a+2)+2):=K [a] [] [] (.l A (.a (.a A (.k 2)) (.k 2))) [] rfl
theorem o190:a<64->(b+c)≤a->(b+c)<16777216:=K [a,b,c] [] [.L A (.k 64),.l (.a B C) A] (.L (.a B C) (.k 16777216)) [] rfl
theorem o191:a<64->a<1000:=K [a] [] [.L A (.k 64)] (.L A (.k 1000)) [] rfl
theorem o192:a≤16777216->(a+1)≤(16777216+1):=K [a] [] [.l A (.k 16777216)] (.l (.a A (.k 1)) (.a (.k 16777216) (.k 1))) [] rfl
theorem o193:a<64->a=b->a≤16777216:=K [a,b] [] [.L A (.k 64),.e A B] (.l A (.k 16777216)) [] rfl
theorem o194:a<64->a=b->c=a->a≤16777216:=K [a,b,c] [] [.L A (.k 64),.e A B,.e C A] (.l A (.k 16777216)) [] rfl
theorem o195:(((((0+1)+1)+1)+1)+1)<64:=K [] [] [] (.L (.a (.a (.a (.a (.a (.k 0) (.k 1)) (.k 1)) (.k 1)) (.k 1)) (.k 1)) (.k 64)) [] rfl
theorem o196:((((0+1)+1)+1)+1)<64:=K [] [] [] (.L (.a (.a (.a (.a (.k 0) (.k 1)) (.k 1)) (.k 1)) (.k 1)) (.k 64)) [] rfl
theorem o197:(((0+1)+1)+1)<64:=K [] [] [] (.L (.a (.a (.a (.k 0) (.k 1)) (.k 1)) (.k 1)) (.k 64)) [] rfl
theorem o198:((0+1)+1)<64:=K [] [] [] (.L (.a (.a (.k 0) (.k 1)) (.k 1)) (.k 64)) [] rfl
theorem o199:(((((0+1)+1)+1)+1)+1)≤16777216:=K [] [] [] (.l (.a (.a (.a (.a (.a (.k 0) (.k 1)) (.k 1)) (.k 1)) (.k 1)) (.k 1)) (.k 16777216)) [] rfl
theorem o200:((((0+1)+1)+1)+1)≤16777216:=K [] [] [] (.l (.a (.a (.a (.a (.k 0) (.k 1)) (.k 1)) (.k 1)) (.k 1)) (.k 16777216)) [] rfl
theorem o201:(((0+1)+1)+1)≤16777216:=K [] [] [] (.l (.a (.a (.a (.k 0) (.k 1)) (.k 1)) (.k 1)) (.k 16777216)) [] rfl
theorem o202:((0+1)+1)≤16777216:=K [] [] [] (.l (.a (.a (.k 0) (.k 1)) (.k 1)) (.k 16777216)) [] rfl
theorem kY:2≤16777216:=K [] [] [] (.l (.k 2) (.k 16777216)) [] rfl
theorem o204:(0:Int)≤x->x=((Int.toNat x:Nat):Int):=K [] [x] [.lz (.k 0) A] (.ez A (.u (.t A))) [[0,1,0],[0],[0,1,0],[1,1,0]] rfl
theorem o205:a≤16777216->((a:Nat):Int)<((2:Int)^63):=by omega
theorem o206:x<y->x≤y:=K [] [x,y] [.Lz A B] (.lz A B) [] rfl
theorem o207:¬(x<y)->x≤y->x=y:=K [] [x,y] [.n (.Lz A B),.lz A B] (.ez A B) [[0],[1,0]] rfl
theorem o208:a=(b+(0+1))->(-((b+(0+1):Nat):Int))≤(-(1:Int)):=K [a,b] [] [.e A (.a B (.a (.k 0) (.k 1)))] (.lz (.g (.u (.a B (.a (.k 0) (.k 1))))) (.g (.k 1))) [] rfl
theorem o209:a=(b+(0+1))->(Int.toNat ((-(1:Int))+((b+(0+1):Nat):Int)))=b:=K [a,b] [] [.e A (.a B (.a (.k 0) (.k 1)))] (.e (.t (.a (.g (.k 1)) (.u (.a B (.a (.k 0) (.k 1)))))) B) [[0,0,1,0],[],[0,0,1,0]] rfl
theorem o210:a<1000->((a:Nat):Int)<((2:Int)^62):=by omega
theorem o211:a<1000->(-((2:Int)^62))≤((a:Nat):Int):=by omega
theorem o212:(((a:Nat):Int) - (0:Int))=((a:Nat):Int):=K [a] [] [] (.ez (.s (.u A) (.k 0)) (.u A)) [] rfl
theorem o213:a<1000->¬((0:Int)<((a:Nat):Int))->(0:Int)=((a:Nat):Int):=K [a] [] [.L A (.k 1000),.n (.Lz (.k 0) (.u A))] (.ez (.k 0) (.u A)) [[0,0],[0]] rfl
theorem o214:x=((a:Nat):Int)->b<a->(0:Int)<(((a:Nat):Int) - ((b:Nat):Int)):=K [a,b] [x] [.ez A (.u A),.L B A] (.Lz (.k 0) (.s (.u A) (.u B))) [] rfl
theorem o215:(((a:Nat):Int)+(1:Int))=((a+1:Nat):Int):=K [a] [] [] (.ez (.a (.u A) (.k 1)) (.u (.a A (.k 1)))) [] rfl
theorem o216:((((a:Nat):Int) - ((b:Nat):Int)) - (1:Int))=(((a:Nat):Int) - ((b+1:Nat):Int)):=K [a,b] [] [] (.ez (.s (.s (.u A) (.u B)) (.k 1)) (.s (.u A) (.u (.a B (.k 1))))) [] rfl
theorem o217:x=((a:Nat):Int)->b<a->(a - (b+1))<(a - b):=K [a,b] [x] [.ez A (.u A),.L B A] (.L (.s A (.a B (.k 1))) (.s A B)) [[0,0,0,1,0,0],[0,0,1,0,0],[0,0,1,1,0,0],[0,0,1,0,0]] rfl
theorem o218:x=((a:Nat):Int)->b≤a->a≤b->b=a:=K [a,b] [x] [.ez A (.u A),.l B A,.l A B] (.e B A) [[0,0,1,0],[0,0,0]] rfl
theorem o219:(((a:Nat):Int) - ((a:Nat):Int))≤(0:Int):=K [a] [] [] (.lz (.s (.u A) (.u A)) (.k 0)) [] rfl
theorem o220:a≤b->¬(a<b)->a=b:=K [a,b] [] [.l A B,.n (.L A B)] (.e A B) [[1,0],[0]] rfl
theorem o221:a=b->b≤10->b≤16777216:=K [a,b] [] [.e A B,.l B (.k 10)] (.l B (.k 16777216)) [] rfl
theorem o222:a≤(((a+2)+1)+1):=K [a] [] [] (.l A (.a (.a (.a A (.k 2)) (.k 1)) (.k 1))) [] rfl
theorem o223:a<1000->b≤(a+1)->(0+b)≤16777216:=K [a,b] [] [.L A (.k 1000),.l B (.a A (.k 1))] (.l (.a (.k 0) B) (.k 16777216)) [] rfl
theorem o225:a<100->((a:Nat):Int)<((2:Int)^63):=by omega
theorem o226:a<100->(-((2:Int)^63))≤((a:Nat):Int):=by omega
theorem o227:0<100:=K [] [] [] (.L (.k 0) (.k 100)) [] rfl
theorem o228:(a+10)<b->c≤4->(a+c)<b:=K [a,b,c] [] [.L (.a A (.k 10)) B,.l C (.k 4)] (.L (.a A C) B) [] rfl
theorem o229:a<55296->a<1114112:=K [a] [] [.L A (.k 55296)] (.L A (.k 1114112)) [] rfl
theorem o230:a≤1000->((a:Nat):Int)≤(1000000:Int):=K [a] [] [.l A (.k 1000)] (.lz (.u A) (.k 1000000)) [] rfl
theorem o231:a≤1000->(0:Int)≤((a:Nat):Int):=K [a] [] [.l A (.k 1000)] (.lz (.k 0) (.u A)) [[0]] rfl
theorem o232:a<b->b<1000->((a:Nat):Int)<((2:Int)^63):=by omega
theorem o233:0≤300:=K [] [] [] (.l (.k 0) (.k 300)) [] rfl
theorem o234:a<100->((a / 30)+1)≤300:=by omega
theorem o235:0≤64:=K [] [] [] (.l (.k 0) (.k 64)) [] rfl
theorem o237:a<60->(a+1)≤64:=K [a] [] [.L A (.k 60)] (.l (.a A (.k 1)) (.k 64)) [] rfl
theorem o238:((min 20 a)+(((((((((((((((((((((0+1)+1)+1)+1)+1)+1)+1)+1)+1)+1)+1)+1)+1)+1)+1)+1)+1)+1)+1)+1) - (min 20 a)))=20:=by omega
theorem o239:((0:Int)≤x)∧(x<(3:Int))->(2≤(Int.toNat ((2:Int)+x)))∧((Int.toNat ((2:Int)+x))≤4):=K [] [x] [.a (.lz (.k 0) A) (.Lz A (.k 3))] (.a (.l (.k 2) (.t (.a (.k 2) A))) (.l (.t (.a (.k 2) A)) (.k 4))) [[1,0,1,0],[1,0,0],[0,1,1,0],[0,0,1,0]] rfl
theorem o240:((0:Int)≤x)∧(x<(2:Int))->(1≤(Int.toNat ((1:Int)+x)))∧((Int.toNat ((1:Int)+x))≤2):=K [] [x] [.a (.lz (.k 0) A) (.Lz A (.k 2))] (.a (.l (.k 1) (.t (.a (.k 1) A))) (.l (.t (.a (.k 1) A)) (.k 2))) [[1,0,1,0],[1,0,0],[0,1,1,0],[0,0,1,0]] rfl
theorem tU:a=20->a<1000:=K [a] [] [.e A (.k 20)] (.L A (.k 1000)) [[1,0]] rfl
theorem o242:(((4:Int)+((4:Int) *((a:Nat):Int)))+((2:Int) *((b:Nat):Int)))=(((4+(4 *a))+(2 *b):Nat):Int):=K [a,b] [] [] (.ez (.a (.a (.k 4) (.c 4 (.u A))) (.c 2 (.u B))) (.u (.a (.a (.k 4) (.c 4 A)) (.c 2 B)))) [] rfl
theorem o243:((((4+(4 *a))+(2 *b):Nat):Int)+(1:Int))=((((4+(4 *a))+(2 *b))+1:Nat):Int):=K [a,b] [] [] (.ez (.a (.u (.a (.a (.k 4) (.c 4 A)) (.c 2 B))) (.k 1)) (.u (.a (.a (.a (.k 4) (.c 4 A)) (.c 2 B)) (.k 1)))) [] rfl
theorem o244:a=20->b<4->c<2->((4+(4 *b))+(2 *c))<a:=K [a,b,c] [] [.e A (.k 20),.L B (.k 4),.L C (.k 2)] (.L (.a (.a (.k 4) (.c 4 B)) (.c 2 C)) A) [[0,1,4,2]] rfl
theorem o245:a=20->((4+(4 *b))+(2 *c))<a->(((4+(4 *b))+(2 *c))+1)<a:=by omega
theorem o246:a<2->a≤16777216:=K [a] [] [.L A (.k 2)] (.l A (.k 16777216)) [] rfl
theorem o247:a<1000->a≤16777216:=K [a] [] [.L A (.k 1000)] (.l A (.k 16777216)) [] rfl
theorem o248:a<4->a≤1000:=K [a] [] [.L A (.k 4)] (.l A (.k 1000)) [] rfl
theorem o249:a=20->2<a:=K [a] [] [.e A (.k 20)] (.L (.k 2) A) [[0]] rfl
theorem o250:a<4->(a=0)∨((a=1)∨((a=2)∨(a=3))):=K [a] [] [.L A (.k 4)] (.o (.e A (.k 0)) (.o (.e A (.k 1)) (.o (.e A (.k 2)) (.e A (.k 3))))) [[1,0,0,0],[0,0,0],[0,0,1,1,0],[0,0,1,1,0],[0,1,1,0,0],[0,1,1,0,0],[],[0,1,1,0,0],[0,1,1,0,0],[],[],[0,1,1,0,0],[],[0,1,0,1,0],[],[0,1,0,0,0]] rfl
theorem o251:(1≤a)∧(a≤2)->a≤16777216:=K [a] [] [.a (.l (.k 1) A) (.l A (.k 2))] (.l A (.k 16777216)) [[0]] rfl
theorem o252:(1≤a)∧(a≤2)->((0:Int)≤x)∧(x<(4:Int))->(a - (Int.toNat x))≤2:=K [a] [x] [.a (.l (.k 1) A) (.l A (.k 2)),.a (.lz (.k 0) A) (.Lz A (.k 4))] (.l (.s A (.t A)) (.k 2)) [[0,1,1,0,1,0,0],[0,0,0,0,1,0,0],[0,1,0,0,1,0,0],[0,0,0,0,1,0,0]] rfl
theorem o253:a=20->1<a:=K [a] [] [.e A (.k 20)] (.L (.k 1) A) [[0]] rfl
theorem o254:(1≤a)∧(a≤2)->((0:Int)≤x)∧(x<(4:Int))->x<(3:Int)->(a - (Int.toNat x))<1000:=K [a] [x] [.a (.l (.k 1) A) (.l A (.k 2)),.a (.lz (.k 0) A) (.Lz A (.k 4)),.Lz A (.k 3)] (.L (.s A (.t A)) (.k 1000)) [[0,1,1,0,0,1,0,0],[0,0,0,0,0,1,0,0],[0,1,0,0,0,1,0,0],[0,0,0,0,0,1,0,0]] rfl
theorem o255:(1≤a)∧(a≤2)->b≤2->((min (Int.toNat x) a)+b)≤16777216:=K [a,b] [x] [.a (.l (.k 1) A) (.l A (.k 2)),.l B (.k 2)] (.l (.a (.m (.t A) A) B) (.k 16777216)) [[0,1,1,1,1,0],[0,1,1,1,0,0],[0,0,1,1,0,0],[1,0,0,0,1,0]] rfl
theorem Ae:1≤16777216:=K [] [] [] (.l (.k 1) (.k 16777216)) [] rfl
theorem o257:(1≤a)∧(a≤2)->((min (Int.toNat x) a)+(0+1))≤16777216:=K [a] [x] [.a (.l (.k 1) A) (.l A (.k 2))] (.l (.a (.m (.t A) A) (.a (.k 0) (.k 1))) (.k 16777216)) [[0,1,1,1,0],[0,1,1,0,0],[0,0,1,0,0],[1,0,0,1,0]] rfl
theorem o258:(1≤a)∧(a≤2)->((0:Int)≤x)∧(x<(4:Int))->x<(3:Int)->(((min (Int.toNat x) a)+(0+1))+(a - (Int.toNat x)))≤16777216:=by omega
theorem o259:((0:Int)≤x)∧(x<(2:Int))->((Int.toNat ((1:Int)+x):Nat):Int)=((1:Int)+x):=K [] [x] [.a (.lz (.k 0) A) (.Lz A (.k 2))] (.ez (.u (.t (.a (.k 1) A))) (.a (.k 1) A)) [[0,0,1,0],[1,0,1,0],[0,0,1,0],[1,0,0]] rfl
theorem o260:(1≤a)∧(a≤2)->b<a->b<2:=K [a,b] [] [.a (.l (.k 1) A) (.l A (.k 2)),.L B A] (.L B (.k 2)) [[0]] rfl
theorem o261:(1≤a)∧(a≤2)->a<1000:=K [a] [] [.a (.l (.k 1) A) (.l A (.k 2))] (.L A (.k 1000)) [[0]] rfl
theorem o262:a<4->a≤16777216:=K [a] [] [.L A (.k 4)] (.l A (.k 16777216)) [] rfl
theorem o263:2≤a->(0:Int)<(((a:Nat):Int) - (1:Int)):=K [a] [] [.l (.k 2) A] (.Lz (.k 0) (.s (.u A) (.k 1))) [] rfl
theorem o264:((0:Int)≤x)∧(x<(((a:Nat):Int) - (1:Int)))->(((Int.toNat x)+1)<a)∧(((Int.toNat x:Nat):Int)=x):=K [a] [x] [.a (.lz (.k 0) A) (.Lz A (.s (.u A) (.k 1)))] (.a (.L (.a (.t A) (.k 1)) A) (.ez (.u (.t A)) A)) [[0,1,1,0],[1,1,1,0],[0,0,1,0],[1,0,1,0],[0,0,1,0],[0,0]] rfl
theorem o265:((0:Int)≤x)∧(x<(128:Int))->x≤(127:Int):=K [] [x] [.a (.lz (.k 0) A) (.Lz A (.k 128))] (.lz A (.k 127)) [[0]] rfl
theorem o266:((0:Int)≤x)∧(x<(16:Int))->x≤(15:Int):=K [] [x] [.a (.lz (.k 0) A) (.Lz A (.k 16))] (.lz A (.k 15)) [[0]] rfl
theorem o267:(1≤a)∧(a≤2)->x<(3:Int)->(((min (Int.toNat x) a)+(0+1))+(a - (Int.toNat x)))≤3:=K [a] [x] [.a (.l (.k 1) A) (.l A (.k 2)),.Lz A (.k 3)] (.l (.a (.a (.m (.t A) A) (.a (.k 0) (.k 1))) (.s A (.t A))) (.k 3)) [[0,1,0,1,0,0,0,0],[0,0,1,1,0,0,0,0],[0,1,0,1,0,0,0],[1,0,0,0,0,0,1,0],[0,0,1,1,2,0,0,0],[0,1,0,1,0,0,0,0],[1,0,0,0,1,0,0],[1,0,0,0,0,0,1,0],[0,1,0,1,0,0,0],[0,0,0,1,0,0,0,0],[0,1,0,1,0,0,0,0],[0,0,0,1,0,0,0,0],[1,0,0,0,1,0,0,0],[1,0,0,0,1,0,0,0],[1,0,0,0,1,0,0,0],[1,0,0,0,1,0,0,0]] rfl
theorem o268:(1≤a)∧(a≤2)->a≤3:=K [a] [] [.a (.l (.k 1) A) (.l A (.k 2))] (.l A (.k 3)) [[0]] rfl
theorem o269:(1≤a)∧(a≤2)->x<(3:Int)->((min (Int.toNat x) a)+(a - (Int.toNat x)))≤2:=by omega
theorem o270:(1≤a)∧(a≤2)->a≤2:=K [a] [] [.a (.l (.k 1) A) (.l A (.k 2))] (.l A (.k 2)) [[0]] rfl
theorem o271:a≤b->c≤(b *d)->(a+c)≤((b *d)+b):=by omega
theorem o272:(2≤a)∧(a≤4)->b≤(3 *a)->b≤(12+0):=K [a,b] [] [.a (.l (.k 2) A) (.l A (.k 4)),.l B (.c 3 A)] (.l B (.a (.k 12) (.k 0))) [[0,3]] rfl
theorem o273:(2≤a)∧(a≤4)->b≤(2 *a)->b≤8:=K [a,b] [] [.a (.l (.k 2) A) (.l A (.k 4)),.l B (.c 2 A)] (.l B (.k 8)) [[0,2]] rfl
theorem o274:(a+1)<b->(c+a)=b->2≤c:=K [a,b,c] [] [.L (.a A (.k 1)) B,.e (.a C A) B] (.l (.k 2) C) [[1,0]] rfl
theorem o275:((a+1)<b)∧(((a:Nat):Int)=x)->(b+c)=d->(p+c)=d->(a+1)<p:=K [a,b,c,d,p] [x] [.a (.L (.a A (.k 1)) B) (.ez (.u A) A),.e (.a B C) D,.e (.a E C) D] (.L (.a A (.k 1)) E) [[1,0,0,1,0,0]] rfl
theorem o276:((a+1)<b)∧(((a:Nat):Int)=x)->a<b:=K [a,b] [x] [.a (.L (.a A (.k 1)) B) (.ez (.u A) A)] (.L A B) [] rfl
theorem o277:((a+1)<b)∧(((a:Nat):Int)=x)->(a+1)<b:=K [a,b] [x] [.a (.L (.a A (.k 1)) B) (.ez (.u A) A)] (.L (.a A (.k 1)) B) [] rfl
theorem o278:((a+1)<b)∧(((a:Nat):Int)=x)->(a+1)<c->a<c:=K [a,b,c] [x] [.a (.L (.a A (.k 1)) B) (.ez (.u A) A),.L (.a A (.k 1)) C] (.L A C) [[0,0,0]] rfl
theorem o279:((a+1)<b)∧(((a:Nat):Int)=x)->(a+1)<c->(a+1)<c:=K [a,b,c] [x] [.a (.L (.a A (.k 1)) B) (.ez (.u A) A),.L (.a A (.k 1)) C] (.L (.a A (.k 1)) C) [[0,0,0]] rfl
theorem o280:((a+1)<b)∧(((a:Nat):Int)=x)->(b+c)=d->((((min a b)+(0+1))+(b - (a+2)))+(c+1))=d:=K [a,b,c,d] [x] [.a (.L (.a A (.k 1)) B) (.ez (.u A) A),.e (.a B C) D] (.e (.a (.a (.a (.m A B) (.a (.k 0) (.k 1))) (.s B (.a A (.k 2)))) (.a C (.k 1))) D) [[0,0,0,1,0,1,0,0],[1,0,0,1,0,1,0,0],[1,0,0,0,0,0,1,0],[1,0,0,0,0,0,1,0],[0,0,0,0,1,1,0,0],[0,0,0,0,1,1,0],[1,0,0,0,0,0,1,0],[1,0,0,0,0,0,1,0]] rfl
theorem o281:((a+1)<b)∧(((a:Nat):Int)=x)->(c+d)=p->(b+d)=p->((((min a c)+(0+1))+(c - (a+2)))+(d+1))=p:=K [a,b,c,d,p] [x] [.a (.L (.a A (.k 1)) B) (.ez (.u A) A),.e (.a C D) E,.e (.a B D) E] (.e (.a (.a (.a (.m A C) (.a (.k 0) (.k 1))) (.s C (.a A (.k 2)))) (.a D (.k 1))) E) [[0,0,0,1,0,0,0,1,0,0],[1,0,0,0,0,1,0,1,0,0],[0,0,0,0,0,0,0,0],[1,0,0,0,1,1,0,0,1,0],[0,0,0,0,1,0,0,1,0,0],[0,0,0,0,1,0,0,1,0],[0,0,0,0,0,0,0,0],[0,0,0,0,1,0,0,1,0,0]] rfl
theorem o282:a≤(12+b)->c≤((d+p)+1)->a=(q+(d+(p+r)))->((q+(c+0))+r)≤(12+(b+1)):=K [a,b,c,d,p,q,r] [] [.l A (.a (.k 12) B),.l C (.a (.a D E) (.k 1)),.e A (.a F (.a D (.a E G)))] (.l (.a (.a F (.a C (.k 0))) G) (.a (.k 12) (.a B (.k 1)))) [[1,1,0]] rfl
theorem o283:a≤8->b=(c+d)->a=(p+(c+(d+q)))->((p+(b+0))+q)≤8:=K [a,b,c,d,p,q] [] [.l A (.k 8),.e B (.a C D),.e A (.a E (.a C (.a D F)))] (.l (.a (.a E (.a B (.k 0))) F) (.k 8)) [[1,1,0,0]] rfl
theorem o284:(a+b)<60->(a+b)<1000:=K [a,b] [] [.L (.a A B) (.k 60)] (.L (.a A B) (.k 1000)) [] rfl
theorem o285:(a+b)<60->(a+b)≤16777216:=K [a,b] [] [.L (.a A B) (.k 60)] (.l (.a A B) (.k 16777216)) [] rfl
theorem o286:(a+b)<60->b<1000:=K [a,b] [] [.L (.a A B) (.k 60)] (.L B (.k 1000)) [] rfl
theorem o287:(a+b)<60->(a+b)<64:=K [a,b] [] [.L (.a A B) (.k 60)] (.L (.a A B) (.k 64)) [] rfl
theorem o288:(a+b)≤(c+(a+(b+d))):=K [a,b,c,d] [] [] (.l (.a A B) (.a C (.a A (.a B D)))) [] rfl
theorem o289:(a+1)<b->(2≤b)∧(b≤4)->a<4:=K [a,b] [] [.L (.a A (.k 1)) B,.a (.l (.k 2) B) (.l B (.k 4))] (.L A (.k 4)) [[1,0]] rfl
theorem o290:(a+1)<b->(c+a)=b->(d+a)=b->2≤c:=K [a,b,c,d] [] [.L (.a A (.k 1)) B,.e (.a C A) B,.e (.a D A) B] (.l (.k 2) C) [[1,0,1,0,0]] rfl
theorem o291:(a+b)=c->(d+b)=c->(p+1)<a->((p:Nat):Int)=x->(p+1)<d:=K [a,b,c,d,p] [x] [.e (.a A B) C,.e (.a D B) C,.L (.a E (.k 1)) A,.ez (.u E) A] (.L (.a E (.k 1)) D) [[1,0,0,1,1,0,0]] rfl
theorem o292:(((a:Nat):Int)+(2:Int))=((a+2:Nat):Int):=K [a] [] [] (.ez (.a (.u A) (.k 2)) (.u (.a A (.k 2)))) [] rfl
theorem o293:(a+1)<b->(c+a)=b->(d+a)=b->¬((((c:Nat):Int) - (1:Int))=(0:Int)):=K [a,b,c,d] [] [.L (.a A (.k 1)) B,.e (.a C A) B,.e (.a D A) B] (.n (.ez (.s (.u C) (.k 1)) (.k 0))) [[1,0,1,0,0,1,0]] rfl
theorem o294:a=20->3<a:=K [a] [] [.e A (.k 20)] (.L (.k 3) A) [[0]] rfl
theorem o295:(2≤a)∧(a≤4)->b<4->(c+b)=a->(d+b)=a->((c:Nat):Int)=((p:Nat):Int)->c≤16777216:=K [a,b,c,d,p] [] [.a (.l (.k 2) A) (.l A (.k 4)),.L B (.k 4),.e (.a C B) A,.e (.a D B) A,.ez (.u C) (.u E)] (.l C (.k 16777216)) [[0,1,0,1,0,0,0,0,0]] rfl
theorem o296:(2≤a)∧(a≤4)->b<4->(c+b)=a->(d+b)=a->d<1000:=K [a,b,c,d] [] [.a (.l (.k 2) A) (.l A (.k 4)),.L B (.k 4),.e (.a C B) A,.e (.a D B) A] (.L D (.k 1000)) [[0,1,0,0,0,1,0]] rfl
theorem o297:(a+b)=c->(d+b)=c->(p+1)<a->((p:Nat):Int)=x->p<d:=K [a,b,c,d,p] [x] [.e (.a A B) C,.e (.a D B) C,.L (.a E (.k 1)) A,.ez (.u E) A] (.L E D) [[1,0,0,1,1,0,0]] rfl
theorem o298:(a+b)≤c->c≤8->(a+b)<60:=K [a,b,c] [] [.l (.a A B) C,.l C (.k 8)] (.L (.a A B) (.k 60)) [] rfl
theorem o299:a<4->(b+c)≤d->d≤(12+a)->(b+c)<60:=K [a,b,c,d] [] [.L A (.k 4),.l (.a B C) D,.l D (.a (.k 12) A)] (.L (.a B C) (.k 60)) [] rfl
theorem o300:(a+b)=c->(d+b)=c->(p+1)<a->((p:Nat):Int)=x->p<a:=K [a,b,c,d,p] [x] [.e (.a A B) C,.e (.a D B) C,.L (.a E (.k 1)) A,.ez (.u E) A] (.L E A) [] rfl
theorem o301:(2≤a)∧(a≤4)->b<4->(c+b)=a->(d+b)=a->c<1000:=K [a,b,c,d] [] [.a (.l (.k 2) A) (.l A (.k 4)),.L B (.k 4),.e (.a C B) A,.e (.a D B) A] (.L C (.k 1000)) [[0,1,0,1,0,0,0]] rfl
theorem o302:3≤16777216:=K [] [] [] (.l (.k 3) (.k 16777216)) [] rfl
theorem o303:(2≤a)∧(a≤4)->b<4->(c+b)=a->(d+b)=a->c≤16777216:=K [a,b,c,d] [] [.a (.l (.k 2) A) (.l A (.k 4)),.L B (.k 4),.e (.a C B) A,.e (.a D B) A] (.l C (.k 16777216)) [[0,1,0,1,0,0,0]] rfl
theorem o304:(2≤a)∧(a≤4)->b<4->(c+b)=a->(d+b)=a->((min (Int.toNat ((p:Nat):Int)) c)+(0+1))≤16777216:=K [a,b,c,d,p] [] [.a (.l (.k 2) A) (.l A (.k 4)),.L B (.k 4),.e (.a C B) A,.e (.a D B) A] (.l (.a (.m (.t (.u E)) C) (.a (.k 0) (.k 1))) (.k 16777216)) [[0,1,0,1,0,0,0,1,1,0],[0,1,0,1,0,0,0,1,0,0],[0,0,0,0,0,0,0,1,0,0]] rfl
theorem o305:(2≤a)∧(a≤4)->b<4->(c+b)=a->(d+b)=a->(p+1)<c->((p:Nat):Int)=x->(((min (Int.toNat ((p:Nat):Int)) c)+(0+1))+(c - (Int.toNat ((p+2:Nat):Int))))≤16777216:=K [a,b,c,d,p] [x] [.a (.l (.k 2) A) (.l A (.k 4)),.L B (.k 4),.e (.a C B) A,.e (.a D B) A,.L (.a E (.k 1)) C,.ez (.u E) A] (.l (.a (.a (.m (.t (.u E)) C) (.a (.k 0) (.k 1))) (.s C (.t (.u (.a E (.k 2)))))) (.k 16777216)) [[0,1,0,1,0,0,0,0,0,0,1,0,0,0,0],[0,1,0,1,0,0,0,1,0,0,1,0,0,0,0],[0,0,0,0,0,0,0,0,0,0,0,0,0,0],[0,0,0,0,0,0,0,0,0,0,1,0,0,0],[0,0,0,0,0,0,0,1,0,0,0,1,0,0,0],[0,0,0,0,0,0,0,1,0,0,0,1,0,0,0],[0,0,0,0,0,0,0,0,0,0,0,0,0,0],[],[0,1,0,1,0,0,0,0,0,0,1,0,0,0],[0,0,0,0,0,0,0,0,0,0,1,0,0,0,0],[0,1,0,1,0,0,0,0,0,0,1,0,0,0,0],[0,0,0,0,0,0,0,0,0,0,1,0,0,0,0],[0,0,0,0,0,0,0,0,0,0,1,2,0,0],[],[0,0,0,0,0,0,0,0,0,0,0,0,0,0]] rfl
theorem o306:(2≤a)∧(a≤4)->b<4->(c+b)=a->(d+b)=a->d≤16777216:=K [a,b,c,d] [] [.a (.l (.k 2) A) (.l A (.k 4)),.L B (.k 4),.e (.a C B) A,.e (.a D B) A] (.l D (.k 16777216)) [[0,1,0,0,0,1,0]] rfl
theorem o307:(2≤a)∧(a≤4)->b<4->(c+b)=a->(d+b)=a->((min (Int.toNat ((p:Nat):Int)) d)+(0+1))≤16777216:=K [a,b,c,d,p] [] [.a (.l (.k 2) A) (.l A (.k 4)),.L B (.k 4),.e (.a C B) A,.e (.a D B) A] (.l (.a (.m (.t (.u E)) D) (.a (.k 0) (.k 1))) (.k 16777216)) [[0,1,0,0,0,1,0,1,1,0],[0,1,0,0,0,1,0,1,0,0],[0,0,0,0,0,0,0,1,0,0]] rfl
theorem o308:(2≤a)∧(a≤4)->b<4->(c+b)=a->(d+b)=a->(p+1)<c->((p:Nat):Int)=x->(((min (Int.toNat ((p:Nat):Int)) d)+(0+1))+(d - (Int.toNat ((p+2:Nat):Int))))≤16777216:=K [a,b,c,d,p] [x] [.a (.l (.k 2) A) (.l A (.k 4)),.L B (.k 4),.e (.a C B) A,.e (.a D B) A,.L (.a E (.k 1)) C,.ez (.u E) A] (.l (.a (.a (.m (.t (.u E)) D) (.a (.k 0) (.k 1))) (.s D (.t (.u (.a E (.k 2)))))) (.k 16777216)) [[0,1,0,0,0,1,0,0,0,0,1,0,0,0,0],[0,1,0,1,0,0,0,1,0,0,1,0,0,0,0],[0,0,0,0,0,0,0,0,0,0,0,0,0,0],[0,0,0,0,0,0,0,0,0,0,1,0,0,0],[0,0,0,0,0,0,0,0,0,0,0,1,0,1,0],[0,0,0,1,0,0,1,1,0,0,0,1,0,0,0],[0,0,0,0,0,0,0,0,0,0,0,0,0,0],[0,0,0,0,0,0,0,0,0,0,0,0,0,0],[0,1,0,0,0,1,0,0,0,0,1,0,0,0],[0,0,0,0,0,0,0,0,0,0,1,0,0,0,0],[0,1,0,0,0,1,0,0,0,0,1,0,0,0,0],[0,0,0,0,0,0,0,0,0,0,1,0,0,0,0],[0,0,0,0,0,0,0,0,0,0,1,2,0,0],[0,0,0,0,0,0,0,0,0,0,1,1,0,0,0],[0,0,0,0,0,0,0,0,0,0,0,0,0,0],[0,0,0,0,0,0,0,0,0,0,0,0,0,0]] rfl
theorem o309:((a+1:Nat):Int)=(((a:Nat):Int)+(1:Int)):=K [a] [] [] (.ez (.u (.a A (.k 1))) (.a (.u A) (.k 1))) [] rfl
theorem o310:a=1->a<1000:=K [a] [] [.e A (.k 1)] (.L A (.k 1000)) [[1,0]] rfl
theorem o311:a=1->0<a:=K [a] [] [.e A (.k 1)] (.L (.k 0) A) [[0]] rfl
theorem o312:a<100->b<a->(min b a)≤16777216:=K [a,b] [] [.L A (.k 100),.L B A] (.l (.m B A) (.k 16777216)) [[1,1,1,0]] rfl
theorem o313:1<100:=K [] [] [] (.L (.k 1) (.k 100)) [] rfl
theorem o314:a<100->(a+(0+1))≤16777216:=K [a] [] [.L A (.k 100)] (.l (.a A (.a (.k 0) (.k 1))) (.k 16777216)) [] rfl
theorem o315:a≤63->a≤16777216:=K [a] [] [.l A (.k 63)] (.l A (.k 16777216)) [] rfl
theorem o316:a≤63->(min (Int.toNat (20:Int)) a)≤16777216:=K [a] [] [.l A (.k 63)] (.l (.m (.t (.k 20)) A) (.k 16777216)) [] rfl
theorem o317:a≤63->((min (Int.toNat (20:Int)) a)+(((((((((((((((((((((0+1)+1)+1)+1)+1)+1)+1)+1)+1)+1)+1)+1)+1)+1)+1)+1)+1)+1)+1)+1) - (Int.toNat ((min (Int.toNat (20:Int)) a:Nat):Int))))≤16777216:=by omega
theorem o318:((((((((((((((((((((0+1)+1)+1)+1)+1)+1)+1)+1)+1)+1)+1)+1)+1)+1)+1)+1)+1)+1)+1)+1)≤16777216:=by omega
theorem o319:(2≤a)∧(a≤4)->b<a->b<4:=K [a,b] [] [.a (.l (.k 2) A) (.l A (.k 4)),.L B A] (.L B (.k 4)) [[0]] rfl
theorem o320:(2≤a)∧(a≤4)->a<1000:=K [a] [] [.a (.l (.k 2) A) (.l A (.k 4))] (.L A (.k 1000)) [[0]] rfl
theorem o321:((0:Int)≤x)∧(x<(3:Int))->((Int.toNat ((2:Int)+x):Nat):Int)=((2:Int)+x):=K [] [x] [.a (.lz (.k 0) A) (.Lz A (.k 3))] (.ez (.u (.t (.a (.k 2) A))) (.a (.k 2) A)) [[0,0,1,0],[1,0,1,0],[0,0,1,0],[1,0,0]] rfl
theorem o322:a=20->0<a:=K [a] [] [.e A (.k 20)] (.L (.k 0) A) [[0]] rfl
theorem o323:(2≤a)∧(a≤4)->b<(a - 1)->(b+1)<a:=K [a,b] [] [.a (.l (.k 2) A) (.l A (.k 4)),.L B (.s A (.k 1))] (.L (.a B (.k 1)) A) [[0,0,1,0],[0,0,1,0,0]] rfl
theorem o324:(2≤a)∧(a≤4)->b<(a - 1)->b<a:=K [a,b] [] [.a (.l (.k 2) A) (.l A (.k 4)),.L B (.s A (.k 1))] (.L B A) [[0,0,1,0],[0,0,1,0,0]] rfl
theorem o325:(2≤a)∧(a≤4)->b≤(a - 1)->b<a:=K [a,b] [] [.a (.l (.k 2) A) (.l A (.k 4)),.l B (.s A (.k 1))] (.L B A) [[0,0,1,0],[1,0,0,1,0]] rfl
theorem o326:(2≤a)∧(a≤4)->b≤(a - 1)->(c+b)=a->(1:Int)<((c:Nat):Int)->b<(a - 1):=K [a,b,c] [] [.a (.l (.k 2) A) (.l A (.k 4)),.l B (.s A (.k 1)),.e (.a C B) A,.Lz (.k 1) (.u C)] (.L B (.s A (.k 1))) [[0,0,0,0,1,0,1,1,0],[1,0,0,0,0,0,0,0],[0,0,0,0,1,0,1,1,0],[1,0,0,1,0,0,0,0,0]] rfl
theorem o327:(2≤a)∧(a≤4)->(b+c)=a->c<(a - 1)->(1:Int)<((b:Nat):Int):=K [a,b,c] [] [.a (.l (.k 2) A) (.l A (.k 4)),.e (.a B C) A,.L C (.s A (.k 1))] (.Lz (.k 1) (.u B)) [[0,0,0,1,1,0],[0,0,0,0,1,0,0]] rfl
theorem o328:(2≤a)∧(a≤4)->(b+c)=a->b≤16777216:=K [a,b,c] [] [.a (.l (.k 2) A) (.l A (.k 4)),.e (.a B C) A] (.l B (.k 16777216)) [[0,1,1,0]] rfl
theorem o329:(2≤a)∧(a≤4)->(a - 1)<a:=K [a] [] [.a (.l (.k 2) A) (.l A (.k 4))] (.L (.s A (.k 1)) A) [[0,0,1,0],[1,0,1,0]] rfl
theorem o330:(2≤a)∧(a≤4)->(b+(a - 1))=a->(c+(a - 1))=a->b=1:=by omega
theorem o331:(a+(b - 1))=b->(c+(b - 1))=b->a=1->c=1:=by omega
theorem o332:(a+(b - 1))=b->(c+(b - 1))=b->a=1->0<a:=by omega
theorem o333:(a+(b - 1))=b->(c+(b - 1))=b->a=1->0<c:=by omega
theorem o334:a≤b->a≤(c+b):=K [a,b,c] [] [.l A B] (.l A (.a C B)) [] rfl
theorem o335:a≤8->b≤a->b<100:=K [a,b] [] [.l A (.k 8),.l B A] (.L B (.k 100)) [] rfl
theorem o336:(2≤a)∧(a≤4)->(b+(a - 1))=a->(c+(a - 1))=a->b=1->d≤(12+(a - 1))->p≤d->p<100:=K [a,b,c,d,p] [] [.a (.l (.k 2) A) (.l A (.k 4)),.e (.a B (.s A (.k 1))) A,.e (.a C (.s A (.k 1))) A,.e B (.k 1),.l D (.a (.k 12) (.s A (.k 1))),.l E D] (.L E (.k 100)) [[0,1,0,0,0,0,0,0,0,0,1,0],[0,0,0,0,0,0,0,0,0,0,1,0],[1,0,0,0,0,0,0,1,0,0,0,0,0,0],[],[1,0,0,0,1,0,0,0,0,0,0,0,0,0]] rfl
theorem o337:((x+y)+z)=((x+z)+y):=K [] [x,y,z] [] (.ez (.a (.a A B) C) (.a (.a A C) B)) [] rfl
theorem o338:(((x+y)+z)+X)=((x+y)+(z+X)):=K [] [x,y,z,X] [] (.ez (.a (.a (.a A B) C) D) (.a (.a A B) (.a C D))) [] rfl
theorem o339:(x+(y+z))=((x+y)+z):=K [] [x,y,z] [] (.ez (.a A (.a B C)) (.a (.a A B) C)) [] rfl
theorem o340:(x+y)=((x+(0:Int))+y):=K [] [x,y] [] (.ez (.a A B) (.a (.a A (.k 0)) B)) [] rfl
theorem o341:(((x+(0:Int))+y)+z)=((x+(0:Int))+(y+z)):=K [] [x,y,z] [] (.ez (.a (.a (.a A (.k 0)) B) C) (.a (.a A (.k 0)) (.a B C))) [] rfl
theorem o342:((x+y)+(0:Int))=((x+(0:Int))+y):=K [] [x,y] [] (.ez (.a (.a A B) (.k 0)) (.a (.a A (.k 0)) B)) [] rfl
theorem o343:((x+(y+z))+(0:Int))=((x+y)+z):=K [] [x,y,z] [] (.ez (.a (.a A (.a B C)) (.k 0)) (.a (.a A B) C)) [] rfl
theorem o344:((x+y)+z)=(x+(y+z)):=K [] [x,y,z] [] (.ez (.a (.a A B) C) (.a A (.a B C))) [] rfl
theorem o345:(x+((0:Int)+y))=((0:Int)+(x+y)):=K [] [x,y] [] (.ez (.a A (.a (.k 0) B)) (.a (.k 0) (.a A B))) [] rfl
theorem o346:((x+y)+((0:Int)+z))=(x+(y+z)):=K [] [x,y,z] [] (.ez (.a (.a A B) (.a (.k 0) C)) (.a A (.a B C))) [] rfl
theorem o347:(0:Int)≤x->(0:Int)≤y->(0:Int)≤(x+y):=K [] [x,y] [.lz (.k 0) A,.lz (.k 0) B] (.lz (.k 0) (.a A B)) [] rfl
theorem o348:(x+(y - x))=y:=K [] [x,y] [] (.ez (.a A (.s B A)) B) [] rfl
theorem o349:((x - y)+(z - x))=(z - y):=K [] [x,y,z] [] (.ez (.a (.s A B) (.s C A)) (.s C B)) [] rfl
theorem o350:x≤y->(0:Int)≤(y - x):=K [] [x,y] [.lz A B] (.lz (.k 0) (.s B A)) [] rfl
theorem o351:x≤y->z≤x->z≤y:=K [] [x,y,z] [.lz A B,.lz C A] (.lz C B) [] rfl
theorem o352:(0:Int)≤x->(0:Int)≤y->(z≤(z+x))∧((z+x)≤(z+(x+y))):=K [] [x,y,z] [.lz (.k 0) A,.lz (.k 0) B] (.a (.lz C (.a C A)) (.lz (.a C A) (.a C (.a A B)))) [[1,0],[0]] rfl
theorem o353:(0:Int)≤x->((y+x)≤z)∧(z≤((y+x)+X))->(y≤z)∧(z≤(y+(x+X))):=K [] [x,y,z,X] [.lz (.k 0) A,.a (.lz (.a B A) C) (.lz C (.a (.a B A) D))] (.a (.lz B C) (.lz C (.a B (.a A D)))) [[1,1,0],[0,0]] rfl
theorem o354:x=((y+z)+X)->x=(y+(z+X)):=K [] [x,y,z,X] [.ez A (.a (.a B C) D)] (.ez A (.a B (.a C D))) [[1,0],[0]] rfl
theorem o355:(0:Int)≤x->(0:Int)≤y->(0:Int)≤(max x y):=K [] [x,y] [.lz (.k 0) A,.lz (.k 0) B] (.lz (.k 0) (.M A B)) [[0,1,1,0],[1,0,1,0]] rfl
theorem o356:((0:Int)≤x)∧(x≤((0:Int)+y))->x≤(max y z):=K [] [x,y,z] [.a (.lz (.k 0) A) (.lz A (.a (.k 0) B))] (.lz A (.M B C)) [[0],[0,1,1,0]] rfl
theorem o357:((0:Int)≤x)∧(x≤((0:Int)+y))->x≤(max z y):=K [] [x,y,z] [.a (.lz (.k 0) A) (.lz A (.a (.k 0) B))] (.lz A (.M C B)) [[0,1,1,0],[0]] rfl
theorem o358:x=((0:Int)+y)->x≤z->y≤z:=K [] [x,y,z] [.ez A (.a (.k 0) B),.lz A C] (.lz B C) [[0]] rfl
theorem o359:x≤(max y z)->y≤x->z≤x->x=(max y z):=K [] [x,y,z] [.lz A (.M B C),.lz B A,.lz C A] (.ez A (.M B C)) [[1,0,0,0,1,0],[1,0,0,0],[0,0,0,1,1,0],[],[1,0,0,0],[1,0,0,0,1,0],[],[0,0,1,0,1,0]] rfl
theorem o360:(x+(y+(0:Int)))=(x+y):=K [] [x,y] [] (.ez (.a A (.a B (.k 0))) (.a A B)) [] rfl
theorem o361:a≤b->(min a b)=a:=K [a,b] [] [.l A B] (.e (.m A B) A) [[0,1,0],[0],[0,1,0],[1,1,0]] rfl
theorem o362:¬(a≤b)->b≤a:=K [a,b] [] [.n (.l A B)] (.l B A) [] rfl
theorem o363:a=b->¬(c≤b)->a≤c:=K [a,b,c] [] [.e A B,.n (.l C B)] (.l A C) [[1,0]] rfl
theorem o364:(x+y)=z->((x+(X+(0:Int)))+y)=(z+X):=K [] [x,y,z,X] [.ez (.a A B) C] (.ez (.a (.a A (.a D (.k 0))) B) (.a C D)) [[1,0],[0]] rfl
theorem o365:¬(a<b)->¬(a=b)->¬((a - b)<1):=K [a,b] [] [.n (.L A B),.n (.e A B)] (.n (.L (.s A B) (.k 1))) [[0,1,1,0],[0,1,0],[],[1,1,0,0]] rfl
theorem o366:((a - b) - 1)=(a - (b+1)):=by omega
theorem o367:(a+b)=c->(d+b)=c->(p+(b+1))=c->(q+(b+1))=c->p=q:=K [a,b,c,d,p,q] [] [.e (.a A B) C,.e (.a D B) C,.e (.a E (.a B (.k 1))) C,.e (.a F (.a B (.k 1))) C] (.e E F) [[0,0,0,0,1,0,0],[0,0,0,0,0,1,1,0]] rfl
theorem o368:(a+b)=c->(d+b)=c->(p+1)<a->(q+(b+1))=c->(r+(b+1))=c->(min p a)=p:=K [a,b,c,d,p,q,r] [] [.e (.a A B) C,.e (.a D B) C,.L (.a E (.k 1)) A,.e (.a F (.a B (.k 1))) C,.e (.a G (.a B (.k 1))) C] (.e (.m E A) E) [[0,0,0,0,0,0,0,0,0,1,0],[0,0,0,0,1,0,0,0,0,0],[0,0,0,0,0,0,0,0,0,1,0],[0,0,0,0,1,0,0,0,0,1,0]] rfl
theorem o369:(a+b)=c->(d+b)=c->(p+1)<a->(q+(b+1))=c->(r+(b+1))=c->s=p->(min p d)=p:=K [a,b,c,d,p,q,r,s] [] [.e (.a A B) C,.e (.a D B) C,.L (.a E (.k 1)) A,.e (.a F (.a B (.k 1))) C,.e (.a G (.a B (.k 1))) C,.e H E] (.e (.m E D) E) [[0,0,0,0,0,0,0,0,0,0,0,1,0],[0,0,0,0,0,0,0,0,0,0,0],[0,0,0,0,0,0,0,0,0,0,0,1,0],[1,0,0,1,1,0,0,0,0,0,0,1,0]] rfl
theorem o370:(a+b)=c->(d+b)=c->(p+(b+1))=c->(q+(b+1))=c->r<p->r<a:=K [a,b,c,d,p,q,r] [] [.e (.a A B) C,.e (.a D B) C,.e (.a E (.a B (.k 1))) C,.e (.a F (.a B (.k 1))) C,.L G E] (.L G A) [[0,1,0,0,1,0,0,0]] rfl
theorem o371:(a+b)=c->(d+b)=c->(p+1)<a->(q+(b+1))=c->(r+(b+1))=c->s=p->t=p->p<a:=K [a,b,c,d,p,q,r,s,t] [] [.e (.a A B) C,.e (.a D B) C,.L (.a E (.k 1)) A,.e (.a F (.a B (.k 1))) C,.e (.a G (.a B (.k 1))) C,.e H E,.e I E] (.L E A) [] rfl
theorem o372:(a+b)=c->(d+b)=c->(p+(b+1))=c->(q+(b+1))=c->r<p->((r+1)+(b+1))≤c:=K [a,b,c,d,p,q,r] [] [.e (.a A B) C,.e (.a D B) C,.e (.a E (.a B (.k 1))) C,.e (.a F (.a B (.k 1))) C,.L G E] (.l (.a (.a G (.k 1)) (.a B (.k 1))) C) [[0,0,0,0,1,0,0,0]] rfl
theorem o373:(a+b)=c->(d+b)=c->(p+(b+1))=c->(q+(b+1))=c->r<p->s=t->u=t->¬(r<t)->¬(r=t)->((t+2)+(r - (t+1)))<a:=K [a,b,c,d,p,q,r,s,t,u] [] [.e (.a A B) C,.e (.a D B) C,.e (.a E (.a B (.k 1))) C,.e (.a F (.a B (.k 1))) C,.L G E,.e H I,.e J I,.n (.L G I),.n (.e G I)] (.L (.a (.a I (.k 2)) (.s G (.a I (.k 1)))) A) [[0,1,0,0,1,0,0,0,1,0,0,0,0,0,0,1,0],[0,1,0,0,1,0,0,0,1,0,0,0,0,0,1,1,0],[0,1,0,0,1,0,0,0,1,0,0,0,0,0,0,1,0],[0,0,0,0,0,0,0,0,0,0,0,0,0,1,1,0,0]] rfl
theorem o374:(2≤a)∧(a≤4)->a=((a - 2)+2):=K [a] [] [.a (.l (.k 2) A) (.l A (.k 4))] (.e A (.a (.s A (.k 2)) (.k 2))) [[0,0,1,0],[0,0],[0,0,1,0],[1,0,1,0]] rfl
theorem o375:(2≤a)∧(a≤4)->a=(b+2)->(a - 1)=(b+1):=K [a,b] [] [.a (.l (.k 2) A) (.l A (.k 4)),.e A (.a B (.k 2))] (.e (.s A (.k 1)) (.a B (.k 1))) [[0,0,1,0,1,0],[0,0,0,0,1,0],[0,0,0,1,1,0],[1,0,0,0,0]] rfl
theorem o376:a=(b+2)->b<a:=K [a,b] [] [.e A (.a B (.k 2))] (.L B A) [[0]] rfl
theorem o377:a=(b+2)->(c+b)=a->c=2:=K [a,b,c] [] [.e A (.a B (.k 2)),.e (.a C B) A] (.e C (.k 2)) [[1,0,1,0],[0,1,0]] rfl
theorem o378:2≤2:=K [] [] [] (.l (.k 2) (.k 2)) [] rfl
theorem o379:(a+1)<2->a=0:=K [a] [] [.L (.a A (.k 1)) (.k 2)] (.e A (.k 0)) [] rfl
theorem o380:a=(b+2)->(c+b)=a->1<c:=K [a,b,c] [] [.e A (.a B (.k 2)),.e (.a C B) A] (.L (.k 1) C) [[0,1,0]] rfl
theorem o381:a=(b+2)->(c+b)=a->0<c:=K [a,b,c] [] [.e A (.a B (.k 2)),.e (.a C B) A] (.L (.k 0) C) [[0,1,0]] rfl
theorem o382:¬(((63:Nat):Int)<((a:Nat):Int))->a≤63:=K [a] [] [.n (.Lz (.u (.k 63)) (.u A))] (.l A (.k 63)) [] rfl
end
theorem jx{d b L:Nat}(h:d+b<L):d<L:=Nat.lt_of_le_of_lt (Nat.le_add_right d b) h
theorem iY{d a b L:Nat}(h:d+b<L)(e:Nat.ble a b=true):d+a<L:=Nat.lt_of_le_of_lt (Nat.add_le_add_left (Nat.le_of_ble_eq_true e) d) h
theorem lu{d a b c L:Nat}(h:d+b<L)(e:Nat.ble (a+c) b=true):d+a+c<L:=Nat.add_assoc d a c▸iY h e
theorem x02{p0 p1:Prop}{G:Prop}(h:p0∧p1)(k:p0->p1->G):G:=by obtain⟨h0,h1⟩:=h;exact k h0 h1
theorem x03{p0 p1 p2:Prop}{G:Prop}(h:p0∧p1∧p2)(k:p0->p1->p2->G):G:=by obtain⟨h0,h1,h2⟩:=h;exact k h0 h1 h2
theorem x04{p0 p1 p2 p3:Prop}{G:Prop}(h:p0∧p1∧p2∧p3)(k:p0->p1->p2->p3->G):G:=by obtain⟨h0,h1,h2,h3⟩:=h;exact k h0 h1 h2 h3
theorem x05{p0 p1 p2 p3 p4:Prop}{G:Prop}(h:p0∧p1∧p2∧p3∧p4)(k:p0->p1->p2->p3->p4->G):G:=by obtain⟨h0,h1,h2,h3,h4⟩:=h;exact k h0 h1 h2 h3 h4
theorem x06{p0 p1 p2 p3 p4 p5:Prop}{G:Prop}(h:p0∧p1∧p2∧p3∧p4∧p5)(k:p0->p1->p2->p3->p4->p5->G):G:=by obtain⟨h0,h1,h2,h3,h4,h5⟩:=h;exact k h0 h1 h2 h3 h4 h5
theorem x12{A0:Sort _}{p0 p1:A0->Prop}{G:Prop}(h:∃ a0,p0 a0∧p1 a0)(k:∀ a0,p0 a0->p1 a0->G):G:=by obtain⟨a0,h0,h1⟩:=h;exact k a0 h0 h1
theorem x22{A0 A1:Sort _}{p0 p1:A0->A1->Prop}{G:Prop}(h:∃ a0 a1,p0 a0 a1∧p1 a0 a1)(k:∀ a0 a1,p0 a0 a1->p1 a0 a1->G):G:=by obtain⟨a0,a1,h0,h1⟩:=h;exact k a0 a1 h0 h1
theorem x23{A0 A1:Sort _}{p0 p1 p2:A0->A1->Prop}{G:Prop}(h:∃ a0 a1,p0 a0 a1∧p1 a0 a1∧p2 a0 a1)(k:∀ a0 a1,p0 a0 a1->p1 a0 a1->p2 a0 a1->G):G:=by obtain⟨a0,a1,h0,h1,h2⟩:=h;exact k a0 a1 h0 h1 h2
theorem x24{A0 A1:Sort _}{p0 p1 p2 p3:A0->A1->Prop}{G:Prop}(h:∃ a0 a1,p0 a0 a1∧p1 a0 a1∧p2 a0 a1∧p3 a0 a1)(k:∀ a0 a1,p0 a0 a1->p1 a0 a1->p2 a0 a1->p3 a0 a1->G):G:=by obtain⟨a0,a1,h0,h1,h2,h3⟩:=h;exact k a0 a1 h0 h1 h2 h3
theorem x45{A0 A1 A2 A3:Sort _}{p0 p1 p2 p3 p4:A0->A1->A2->A3->Prop}{G:Prop}(h:∃ a0 a1 a2 a3,p0 a0 a1 a2 a3∧p1 a0 a1 a2 a3∧p2 a0 a1 a2 a3∧p3 a0 a1 a2 a3∧p4 a0 a1 a2 a3)(k:∀ a0 a1 a2 a3,p0 a0 a1 a2 a3->p1 a0 a1 a2 a3->p2 a0 a1 a2 a3->p3 a0 a1 a2 a3->p4 a0 a1 a2 a3->G):G:=by obtain⟨a0,a1,a2,a3,h0,h1,h2,h3,h4⟩:=h;exact k a0 a1 a2 a3 h0 h1 h2 h3 h4
theorem lR{α:Type}{M:Model}{A:Around}{t:Sem α}{Q:α->Shared->Prop}{E:Value->Shared->Prop}{s:Shared}(h:∀ Q':α->Shared->Prop,(∀ x s',Q x s'->Q' x s')->wpAny M A t Q' E s):wpAny M A t Q E s:=h Q fun V V x=>x
theorem cY{α:Type}{M:Model}{A:Around}{s:Shared}{t:Sem α}{Q:α->Shared->Prop}{E:Value->Shared->Prop}(h:wpAny M A t Q (fun V V=>False) s):wpAny M A t Q E s:=wpAny_mono h (fun V V x=>x) fun V V x=>x.elim
section
open PySem.W.X
set_option maxRecDepth 100000 in
noncomputable def KK(P:Params):Frag:=[
 (330,t6.o_415 P),
 (329,t6.o_414 P),
 (949,t6.o_1171 P),
 (948,t6.o_1170 P),
 (250,t6.o_1108 P),
 (249,t6.o_267 P),
 (3,t6.o_1175 P),
 (0,PySem.W.boot_o_0 P),
 (503,t6.o_763 P),
 (502,t6.o_660 P),
 (701,t6.o_899 P),
 (700,t6.o_898 P),
 (431,t6.o_1061 P),
 (430,t6.o_580 P),
 (186,t6.o_204 P),
 (178,t6.o_196 P),
 (86,t6.o_96 P),
 (93,t6.o_103 P),
 (100,t6.o_110 P),
 (142,t6.o_157 P),
 (149,t6.o_164 P),
 (156,t6.o_171 P),
 (163,t6.o_178 P),
 (177,t6.o_195 P),
 (185,t6.o_203 P),
 (214,t6.o_232 P),
 (269,t6.o_354 P),
 (285,t6.o_370 P),
 (379,t6.o_524 P),
 (421,t6.o_571 P),
 (428,t6.o_578 P),
 (500,t6.o_658 P),
 (879,t6.o_1097 P),
 (886,t6.o_1104 P),
 (901,t6.o_1123 P),
 (908,t6.o_1130 P),
 (922,t6.o_1144 P),
 (929,t6.o_1151 P),
 (959,t6.o_1184 P),
 (967,t6.o_1192 P),
 (975,t6.o_1200 P),
 (983,t6.o_1208 P),
 (990,t6.o_1215 P),
 (995,t6.o_1220 P),
 (1000,t6.o_1225 P),
 (22,obj22 P),
 (78,obj78 P),
 (26,t6.o_18 P),
 (27,t6.o_19 P),
 (28,t6.o_20 P),
 (32,t6.o_27 P),
 (33,t6.o_28 P),
 (34,t6.o_29 P),
 (35,t6.o_30 P),
 (36,t6.o_31 P),
 (37,t6.o_32 P),
 (85,t6.o_95 P),
 (92,t6.o_102 P),
 (99,t6.o_109 P),
 (141,t6.o_156 P),
 (148,t6.o_163 P),
 (155,t6.o_170 P),
 (162,t6.o_177 P),
 (176,t6.o_194 P),
 (184,t6.o_202 P),
 (213,t6.o_231 P),
 (268,t6.o_353 P),
 (262,t6.o_347 P),
 (284,t6.o_369 P),
 (278,t6.o_363 P),
 (378,t6.o_523 P),
 (420,t6.o_570 P),
 (427,t6.o_577 P),
 (499,t6.o_657 P),
 (878,t6.o_1096 P),
 (885,t6.o_1103 P),
 (900,t6.o_1122 P),
 (894,t6.o_1116 P),
 (907,t6.o_1129 P),
 (921,t6.o_1143 P),
 (928,t6.o_1150 P),
 (958,t6.o_1183 P),
 (952,t6.o_1177 P),
 (966,t6.o_1191 P),
 (960,t6.o_1185 P),
 (974,t6.o_1199 P),
 (968,t6.o_1193 P),
 (982,t6.o_1207 P),
 (976,t6.o_1201 P),
 (989,t6.o_1214 P),
 (994,t6.o_1219 P),
 (999,t6.o_1224 P),
 (468,t6.o_622 P),
 (467,t6.o_621 P),
 (515,t6.o_677 P),
 (514,t6.o_676 P),
 (543,t6.o_779 P),
 (542,t6.o_708 P),
 (555,t6.o_725 P),
 (554,t6.o_724 P),
 (567,t6.o_741 P),
 (566,t6.o_740 P),
 (579,t6.o_757 P),
 (578,t6.o_756 P),
 (591,t6.o_773 P),
 (590,t6.o_772 P),
 (603,t6.o_789 P),
 (602,t6.o_788 P),
 (638,t6.o_828 P),
 (637,t6.o_827 P),
 (673,t6.o_867 P),
 (672,t6.o_866 P),
 (736,t6.o_938 P),
 (735,t6.o_937 P),
 (771,t6.o_977 P),
 (770,t6.o_976 P),
 (806,t6.o_1016 P),
 (805,t6.o_1015 P),
 (841,t6.o_1055 P),
 (840,t6.o_1054 P),
 (870,t6.o_1088 P),
 (869,t6.o_1087 P),
 (478,t6.o_636 P),
 (479,t6.o_637 P),
 (683,t6.o_881 P),
 (684,t6.o_882 P)]
noncomputable def fd86(P:Params):FuncData:=match(t6.o_96 P).data with|.func fd=>fd|_=>default
noncomputable def fd93(P:Params):FuncData:=match(t6.o_103 P).data with|.func fd=>fd|_=>default
noncomputable def fd100(P:Params):FuncData:=match(t6.o_110 P).data with|.func fd=>fd|_=>default
noncomputable def fd142(P:Params):FuncData:=match(t6.o_157 P).data with|.func fd=>fd|_=>default
noncomputable def fd149(P:Params):FuncData:=match(t6.o_164 P).data with|.func fd=>fd|_=>default
noncomputable def fd156(P:Params):FuncData:=match(t6.o_171 P).data with|.func fd=>fd|_=>default
noncomputable def fd163(P:Params):FuncData:=match(t6.o_178 P).data with|.func fd=>fd|_=>default
noncomputable def fd177(P:Params):FuncData:=match(t6.o_195 P).data with|.func fd=>fd|_=>default
noncomputable def fd185(P:Params):FuncData:=match(t6.o_203 P).data with|.func fd=>fd|_=>default
noncomputable def fd214(P:Params):FuncData:=match(t6.o_232 P).data with|.func fd=>fd|_=>default
noncomputable def pY(P:Params):FuncData:=match(t6.o_354 P).data with|.func fd=>fd|_=>default
noncomputable def fd285(P:Params):FuncData:=match(t6.o_370 P).data with|.func fd=>fd|_=>default
noncomputable def fd379(P:Params):FuncData:=match(t6.o_524 P).data with|.func fd=>fd|_=>default
noncomputable def fd421(P:Params):FuncData:=match(t6.o_571 P).data with|.func fd=>fd|_=>default
noncomputable def fd500(P:Params):FuncData:=match(t6.o_658 P).data with|.func fd=>fd|_=>default
noncomputable def fd879(P:Params):FuncData:=match(t6.o_1097 P).data with|.func fd=>fd|_=>default
noncomputable def fd886(P:Params):FuncData:=match(t6.o_1104 P).data with|.func fd=>fd|_=>default
noncomputable def vo(P:Params):FuncData:=match(t6.o_1123 P).data with|.func fd=>fd|_=>default
noncomputable def fd908(P:Params):FuncData:=match(t6.o_1130 P).data with|.func fd=>fd|_=>default
noncomputable def fd922(P:Params):FuncData:=match(t6.o_1144 P).data with|.func fd=>fd|_=>default
noncomputable def fd929(P:Params):FuncData:=match(t6.o_1151 P).data with|.func fd=>fd|_=>default
noncomputable def iz(P:Params):FuncData:=match(t6.o_1184 P).data with|.func fd=>fd|_=>default
noncomputable def g8(P:Params):FuncData:=match(t6.o_1192 P).data with|.func fd=>fd|_=>default
noncomputable def cQ(P:Params):FuncData:=match(t6.o_1200 P).data with|.func fd=>fd|_=>default
noncomputable def mV(P:Params):FuncData:=match(t6.o_1208 P).data with|.func fd=>fd|_=>default
noncomputable def fd990(P:Params):FuncData:=match(t6.o_1215 P).data with|.func fd=>fd|_=>default
noncomputable def mU(P:Params):FuncData:=match(t6.o_1220 P).data with|.func fd=>fd|_=>default
noncomputable def qQ(P:Params):FuncData:=match(t6.o_1225 P).data with|.func fd=>fd|_=>default
end
inductive AV where
 |none|bool (b:Bool)|int (i:Int)|str (s:Str)|ref (n:Nat)|glob (v:Value)
inductive AO where
 |dict (kvs:List (Str×AV))
 |list (xs:List AV)
 |tup (xs:List AV)
 |inst (C:Addr) (d:Nat)
 |pin (P:Obj->Prop)
noncomputable abbrev ao:=List (Str×AV)
noncomputable def VR(α:List Addr):AV->Value->Prop
 |.none,v=>v=.none
 |.bool b,v=>v=.bool b
 |.int i,v=>∃ t,v=.int i t
 |.str x,v=>∃ t,v=.str x t
 |.ref n,v=>∃ a,α[n]? =some a∧v=.ref a
 |.glob g,v=>v=g
inductive bM(α:List Addr):List AV->List Value->Prop
 |nil:bM α [] []
 |cons {x v xs vs}:VR α x v->bM α xs vs->bM α (x::xs) (v::vs)
inductive aW(α:List Addr):List (Str×AV)->List (Str×Value)->Prop
 |nil:aW α [] []
 |cons {k x v xs vs}:VR α x v->aW α xs vs->aW α ((k,x)::xs) ((k,v)::vs)
noncomputable def aG(α α':List Addr):Prop:=∃ β,α'=α++β
theorem aG.refl(α:List Addr):aG α α:=⟨[],by simp⟩
theorem aG.trans{α β γ:List Addr}:aG α β->aG β γ->aG α γ
 |⟨x,e⟩,⟨y,f⟩=>⟨x++y,by rw[f,e,List.append_assoc]⟩
theorem aG.snoc(α:List Addr)(a:Addr):aG α (α++[a]):=⟨[a],rfl⟩
theorem aG.get{α α':List Addr}(h:aG α α'){n:Nat}{a:Addr}(e:α[n]? =some a):α'[n]? =some a:=by
 obtain⟨β,rfl⟩:=h
 have:n<α.length:=(List.getElem?_eq_some_iff.mp e).1
 rw[List.getElem?_append_left this];exact e
theorem VR.mono{α α':List Addr}(h:aG α α'):∀{x:AV} {v:Value},VR α x v->VR α' x v
 |.none,_,e|.bool _,_,e|.int _,_,e|.str _,_,e|.glob _,_,e=>e
 |.ref _,_,⟨a,e,q⟩=>⟨a,h.get e,q⟩
theorem bM.mono{α α':List Addr}(h:aG α α'){xs:List AV}{vs:List Value}(x:bM α xs vs):bM α' xs vs:=by
 induction x with
 |nil=>exact .nil
 |cons r _ ih=>exact .cons (r.mono h) ih
theorem aW.mono{α α':List Addr}(h:aG α α'){xs:List (Str×AV)}{vs:List (Str×Value)}(x:aW α xs vs):aW α' xs vs:=by
 induction x with
 |nil=>exact .nil
 |cons r _ ih=>exact .cons (r.mono h) ih
section
variable(prog:Program)(w:World)
noncomputable def OR(α:List Addr)(h:Heap)(a:Addr):AO->Prop
 |.dict kvs=>∃ ps,h.DictOf (strKind prog w) a ps∧aW α kvs ps
 |.list xs=>∃ vs,h.PlainList a vs.toArray∧bM α xs vs
 |.tup xs=>∃ vs,IsTup h a vs.toArray∧bM α xs vs
 |.inst C d=>∃ ad,α[d]? =some ad∧h.get? a=some ⟨.ref C,some ad,.plain,#[]⟩
 |.pin P=>∃ o,h.get? a=some o∧P o
variable{prog w}
theorem OR.mono{α α':List Addr}(hE:aG α α'){h:Heap}{a:Addr}{o:AO}:OR prog w α h a o->OR prog w α' h a o:=
 @AO.casesOn (fun o=>OR prog w α h a o->OR prog w α' h a o) o (fun V=>Exists.imp fun V h=>⟨h.1,h.2.mono hE⟩) (fun V=>Exists.imp fun V h=>⟨h.1,h.2.mono hE⟩) (fun V=>Exists.imp fun V h=>⟨h.1,h.2.mono hE⟩)
  (fun V V=>Exists.imp fun V h=>⟨hE.get h.1,h.2⟩) (fun V h=>h)
theorem OR.congr{α:List Addr}{h h':Heap}{a:Addr}(e:h'.get? a=h.get? a){o:AO}:OR prog w α h a o->OR prog w α h' a o:=
 @AO.casesOn (fun o=>OR prog w α h a o->OR prog w α h' a o) o (fun V=>Exists.imp fun V h=>⟨h.1.imp fun V=>Exists.imp fun V=>Exists.imp fun V h=>⟨e.trans h.1,h.2⟩,h.2⟩) (fun V=>Exists.imp fun V h=>⟨h.1.imp fun V=>e.trans,h.2⟩)
  (fun V=>Exists.imp fun V h=>⟨h.1.imp fun V h=>⟨e.trans h.1,h.2⟩,h.2⟩) (fun V V=>Exists.imp fun V h=>⟨h.1,e.trans h.2⟩) (fun V=>Exists.imp fun V h=>⟨e.trans h.1,h.2⟩)
theorem OR.get{α:List Addr}{h:Heap}{a:Addr}{o:AO}:OR prog w α h a o->∃ x,h.get? a=some x:=
 @AO.casesOn (fun o=>OR prog w α h a o->∃ x,h.get? a=some x) o (fun V h=>h.elim fun V h=>h.1.elim fun V h=>h.elim fun V h=>h.elim fun V h=>⟨_,h.1⟩) (fun V h=>h.elim fun V h=>h.1.elim fun V h=>⟨_,h⟩)
  (fun V h=>h.elim fun V h=>h.1.elim fun V h=>⟨_,h.1⟩) (fun V V h=>h.elim fun V h=>⟨_,h.2⟩) (fun V=>Exists.imp fun V=>And.left)
end
noncomputable def LR(α:List Addr)(ρ:ao)(m:Str->Option Value):Prop:=
 ∀ x,match ρ.lookup x with
  |some av=>∃ v,m x=some v∧VR α av v
  |none=>m x=none
theorem LR.mono{α α':List Addr}(h:aG α α'){ρ:ao}{m:Str->Option Value}(x:LR α ρ m):LR α' ρ m:=fun y=>by
 have q:=x y
 cases e:ρ.lookup y with
 |none=>rw[e]at q;exact q
 |some av=>
  rw[e]at q
  obtain⟨v,e',r⟩:=q
  exact⟨v,e',r.mono h⟩
inductive FE where
 |loc (ρ:ao)
 |raw (P:Obj->Prop)
noncomputable def FE.rel(α:List Addr)(h:Heap)(a:Addr):FE->Prop
 |.loc ρ=>∃ m,h.Ns a m∧LR α ρ m
 |.raw P=>∃ o,h.get? a=some o∧P o
theorem FE.rel.congr{α α':List Addr}{h h':Heap}{a:Addr}(E:aG α α')(e:h'.get? a=h.get? a){f:FE}:f.rel α h a->f.rel α' h' a:=
 @FE.casesOn (fun f=>f.rel α h a->f.rel α' h' a) f (fun V=>Exists.imp fun V h=>⟨h.1.imp fun V=>Exists.imp fun V=>Exists.imp fun V h=>⟨e.trans h.1,h.2⟩,h.2.mono E⟩) (fun V=>Exists.imp fun V h=>⟨e.trans h.1,h.2⟩)
theorem FE.rel.get{α:List Addr}{h:Heap}{a:Addr}{f:FE}:f.rel α h a->∃ x,h.get? a=some x:=
 @FE.casesOn (fun f=>f.rel α h a->∃ x,h.get? a=some x) f (fun V h=>h.elim fun V h=>h.1.elim fun V h=>h.elim fun V h=>h.elim fun V h=>⟨_,h.1⟩) (fun V=>Exists.imp fun V=>And.left)
noncomputable def lw(s:Shared):Bool:=leftWithCleanup s.gens
structure Cx where
 prog:Program
 w:World
 base:Heap
 n0:Nat
 gens:Array GenState
 drawn:Bool
 os:OsState
structure aC(C:Cx)(α:List Addr)(H:List AO)(fr:List (Addr×FE))(s:Shared):Prop where
 keep:∀ b o,C.base.get? b=some o->s.heap.get? b=some o
 size:True
 len:α.length=H.length
 obj:∀(n:Nat) (a:Addr) (o:AO),α[n]? =some a->H[n]? =some o->OR C.prog C.w α s.heap a o
 fresh:∀(n:Nat) (a:Addr),C.n0≤n->α[n]? =some a->C.base.get? a=none
 inj:∀(i j:Nat) (a:Addr),C.n0≤i->α[i]? =some a->α[j]? =some a->i=j
 frs:∀ p∈fr,C.base.get? p.1=none∧p.2.rel α s.heap p.1∧∀(n:Nat) (a:Addr),α[n]? =some a->a≠p.1
 jm:(fr.map (·.1)).Nodup
 gP:∃ o,C.base.get? sysModules=some o
 sys:∀(n:Nat) (a:Addr),α[n]? =some a->sysModules<a
 gens:∀(i:Nat) (x:GenState),C.gens[i]? =some x->s.gens[i]? =some x
 drawn:lw s=C.drawn
 os:s.os=C.os
section
variable{C:Cx}{α:List Addr}{H:List AO}{fr:List (Addr×FE)}{s:Shared}
theorem aC.lt(R:aC C α H fr s){n:Nat}{a:Addr}(e:α[n]? =some a):a<s.heap.objs.size:=by
 have hn:n<α.length:=(List.getElem?_eq_some_iff.mp e).1
 have:n<H.length:=R.len▸hn
 obtain⟨x,hx⟩:=(R.obj n a H[n] e (List.getElem?_eq_getElem this)).get
 exact Heap.lt_size hx
theorem aC.frLt(R:aC C α H fr s){p:Addr×FE}(hp:p∈fr):p.1<s.heap.objs.size:=by
 obtain⟨V,hm,V⟩:=R.frs p hp
 obtain⟨x,hx⟩:=hm.get
 exact Heap.lt_size hx
theorem aC.noSys(R:aC C α H fr s){n:Nat}{a:Addr}(e:α[n]? =some a):(a==sysModules)=false:=by
 have h:=R.sys n a e
 have:a≠sysModules:=Nat.ne_of_gt h
 simpa using this
theorem nT{h:Heap}{a b:Addr}{x:Obj}(e:h.get? b=some x)(n:h.get? a=none):b≠a:=fun z=>by rw[z,n]at e;cases e
theorem aC.outN(R:aC C α H fr s){b:Addr}(h:s.heap.get? b=none):C.base.get? b=none:=by
 cases e:C.base.get? b with
 |none=>rfl
 |some o=>rw[R.keep b o e]at h;cases h
theorem aC.out(R:aC C α H fr s){b:Addr}(h:s.heap.objs.size≤b):C.base.get? b=none:=by
 cases e:C.base.get? b with
 |none=>rfl
 |some o=>exact absurd (Heap.lt_size (R.keep b o e)) (Nat.not_lt.mpr h)
theorem aC.sysLt(R:aC C α H fr s):sysModules<s.heap.objs.size:=by
 obtain⟨o,e⟩:=R.gP
 exact Heap.lt_size (R.keep _ _ e)
theorem aC.getAt(R:aC C α H fr s){n:Nat}{a:Addr}(e:α[n]? =some a):∃ x,s.heap.get? a=some x:=by
 have hn:n<α.length:=(List.getElem?_eq_some_iff.mp e).1
 have:n<H.length:=R.len▸hn
 exact(R.obj n a H[n] e (List.getElem?_eq_getElem this)).get
theorem aC.toks(R:aC C α H fr s)(t:Nat):aC C α H fr {s with toks:=t}:={R with}
theorem aC.alloc(R:aC C α H fr s){ob:Obj}{o:AO}(hf:ob.isFreed=false)(hn:C.n0≤H.length)
 (ho:∀ h' α',h'.get? s.heap.objs.size=some ob->aG α α'->α'[H.length]? =some s.heap.objs.size->OR C.prog C.w α' h' s.heap.objs.size o):
 aC C (α++[s.heap.objs.size]) (H++[o]) fr {s with heap:=s.heap.push ob}:=by
 have hE:=aG.snoc α s.heap.objs.size
 have hl:α.length=H.length:=R.len
 have old:∀ b,b≠s.heap.objs.size->∀ x,s.heap.get? b=some x->(s.heap.push ob).get? b=some x:=fun b V x e=>Heap.get?_push_of_some ob e
 have key:∀(n:Nat) (a:Addr),(α++[s.heap.objs.size])[n]? =some a->(n<α.length∧α[n]? =some a)∨(n=α.length∧a=s.heap.objs.size):=by
  intro n a e
  by_cases h1:n<α.length
  · left;rw[List.getElem?_append_left h1]at e;exact⟨h1,e⟩
  · right
    rw[List.getElem?_append_right (Nat.le_of_not_lt h1)]at e
    have:n - α.length=0:=by
     cases q:n - α.length with
     |zero=>rfl
     |succ k=>rw[q]at e;simp at e
    rw[this]at e;simp at e
    exact⟨by exact o0 h1 this,e.symm⟩
 refine⟨fun b x e=>Heap.get?_push_of_some ob (R.keep b x e),trivial,by simp[hl],?_,?_,?_,?_,R.jm,R.gP,?_,R.gens,R.drawn,R.os⟩
 · intro n a x e ex
   rcases key n a e with⟨h1,e1⟩|⟨rfl,rfl⟩
   · rw[List.getElem?_append_left (by exact o1 hl h1)]at ex
     have r:=R.obj n a x e1 ex
     obtain⟨y,hy⟩:=r.get
     exact(r.congr ((Heap.get?_push_of_some ob hy).trans hy.symm)).mono hE
   · rw[hl,List.getElem?_append_right (Nat.le_refl _)]at ex
     simp at ex
     subst ex
     exact ho _ _ (Heap.get?_push_size _ hf) hE (by rw[←hl];simp)
 · intro n a h0 e
   rcases key n a e with⟨V,e1⟩|⟨V,rfl⟩
   · exact R.fresh n a h0 e1
   · exact R.out (Nat.le_refl _)
 · intro i j a h0 e1 e2
   rcases key i a e1 with⟨V,f1⟩|⟨g1,rfl⟩
   · rcases key j a e2 with⟨V,f2⟩|⟨V,rfl⟩
     · exact R.inj i j a h0 f1 f2
     · exact absurd (R.lt f1) (Nat.lt_irrefl _)
   · rcases key j _ e2 with⟨V,f2⟩|⟨g2,V⟩
     · exact absurd (R.lt f2) (Nat.lt_irrefl _)
     · exact o2 g1 g2
 · intro p hp
   obtain⟨h1,h2,h4⟩:=R.frs p hp
   obtain⟨y,hy⟩:=h2.get
   refine⟨h1,h2.congr hE ((Heap.get?_push_of_some ob hy).trans hy.symm),fun n a e=>?_⟩
   rcases key n a e with⟨V,e1⟩|⟨V,rfl⟩
   · exact h4 n a e1
   · exact Nat.ne_of_gt (R.frLt hp)
 · intro n a e
   rcases key n a e with⟨V,e1⟩|⟨V,rfl⟩
   · exact R.sys n a e1
   · exact R.sysLt
theorem aC.Cz(R:aC C α H fr s){h':Heap}{b:Addr}{o:AO}(hk:∀ c x,s.heap.get? c=some x->h'.get? c=some x)(hb:s.heap.objs.size≤b)(hlt:b<h'.objs.size)(hn:C.n0≤H.length)
 (ho:∀ α',aG α α'->α'[H.length]? =some b->OR C.prog C.w α' h' b o):
 aC C (α++[b]) (H++[o]) fr {s with heap:=h'}:=by
 have hE:=aG.snoc α b
 have hl:α.length=H.length:=R.len
 have hz:s.heap.objs.size≤h'.objs.size:=Nat.le_of_lt (Nat.lt_of_le_of_lt hb hlt)
 have key:∀(n:Nat) (a:Addr),(α++[b])[n]? =some a->(n<α.length∧α[n]? =some a)∨(n=α.length∧a=b):=by
  intro n a e
  by_cases h1:n<α.length
  · left;rw[List.getElem?_append_left h1]at e;exact⟨h1,e⟩
  · right
    rw[List.getElem?_append_right (Nat.le_of_not_lt h1)]at e
    have:n - α.length=0:=by
     cases q:n - α.length with
     |zero=>rfl
     |succ k=>rw[q]at e;simp at e
    rw[this]at e;simp at e
    exact⟨by exact o0 h1 this,e.symm⟩
 refine⟨fun c x e=>hk c x (R.keep c x e),trivial,by simp[hl],?_,?_,?_,?_,R.jm,R.gP,?_,R.gens,R.drawn,R.os⟩
 · intro n a x e ex
   rcases key n a e with⟨h1,e1⟩|⟨rfl,rfl⟩
   · rw[List.getElem?_append_left (by exact o1 hl h1)]at ex
     have r:=R.obj n a x e1 ex
     obtain⟨y,hy⟩:=r.get
     exact(r.congr ((hk _ _ hy).trans hy.symm)).mono hE
   · rw[hl,List.getElem?_append_right (Nat.le_refl _)]at ex
     simp at ex
     subst ex
     exact ho _ hE (by rw[←hl];simp)
 · intro n a h0 e
   rcases key n a e with⟨V,e1⟩|⟨V,rfl⟩
   · exact R.fresh n a h0 e1
   · exact R.out hb
 · intro i j a h0 e1 e2
   rcases key i a e1 with⟨V,f1⟩|⟨g1,rfl⟩
   · rcases key j a e2 with⟨V,f2⟩|⟨V,rfl⟩
     · exact R.inj i j a h0 f1 f2
     · exact absurd (R.lt f1) (Nat.not_lt.mpr hb)
   · rcases key j _ e2 with⟨V,f2⟩|⟨g2,V⟩
     · exact absurd (R.lt f2) (Nat.not_lt.mpr hb)
     · exact o2 g1 g2
 · intro p hp
   obtain⟨h1,h2,h4⟩:=R.frs p hp
   obtain⟨y,hy⟩:=h2.get
   refine⟨h1,h2.congr hE ((hk _ _ hy).trans hy.symm),fun n a e=>?_⟩
   rcases key n a e with⟨V,e1⟩|⟨V,rfl⟩
   · exact h4 n a e1
   · exact Nat.ne_of_gt (Nat.lt_of_lt_of_le (R.frLt hp) hb)
 · intro n a e
   rcases key n a e with⟨V,e1⟩|⟨V,rfl⟩
   · exact R.sys n a e1
   · exact Nat.lt_of_lt_of_le R.sysLt hb
theorem aC.keeps(R:aC C α H fr s){s':Shared}(hk:∀ c x,s.heap.get? c=some x->s'.heap.get? c=some x)(hz:True)
 (hg:∀(i:Nat) (x:GenState),s.gens[i]? =some x->s'.gens[i]? =some x) (hd:lw s'=lw s) (ho:s'.os=s.os):aC C α H fr s':=
 ⟨fun c x e=>hk c x (R.keep c x e),trivial,R.len,fun n a x e ex=>by
  have r:=R.obj n a x e ex
  obtain⟨y,hy⟩:=r.get
  exact r.congr ((hk _ _ hy).trans hy.symm),R.fresh,R.inj,fun p hp=>by
  obtain⟨h1,h2,h4⟩:=R.frs p hp
  obtain⟨y,hy⟩:=h2.get
  exact⟨h1,h2.congr (aG.refl _) ((hk _ _ hy).trans hy.symm),h4⟩,R.jm,R.gP,R.sys,fun i x e=>hg i x (R.gens i x e),hd.trans R.drawn,ho.trans R.os⟩
theorem aC.update(R:aC C α H fr s){h':Heap}{n:Nat}{a:Addr}{o:AO}(hn:C.n0≤n)(e:α[n]? =some a)(hs:Heap.SameBut a s.heap h')(ho:OR C.prog C.w α h' a o):
 aC C α (H.set n o) fr {s with heap:=h'}:=by
 have hb:=R.fresh n a hn e
 refine⟨fun b x ex=>(hs.2 b (nT ex hb)).trans (R.keep b x ex),trivial,by simp[R.len],?_,R.fresh,R.inj,?_,R.jm,R.gP,R.sys,R.gens,R.drawn,R.os⟩
 · intro i b x e1 e2
   by_cases q:i=n
   · subst q
     rw[e]at e1
     cases e1
     have hl:i<H.length:=by
      have:=(List.getElem?_eq_some_iff.mp e).1
      rw[R.len]at this;exact this
     rw[List.getElem?_set_self hl]at e2
     cases e2
     exact ho
   · rw[List.getElem?_set_ne (Ne.symm q)]at e2
     have:b≠a:=fun z=>q (by subst z;exact(R.inj n i b hn e e1).symm)
     exact(R.obj i b x e1 e2).congr (hs.2 b this)
 · intro p hp
   obtain⟨h1,h2,h4⟩:=R.frs p hp
   exact⟨h1,h2.congr (aG.refl _) (hs.2 _ (Ne.symm (h4 n a e))),h4⟩
theorem aC.turn{L:Addr}{f f':FE}(R:aC C α H ((L,f)::fr) s){h':Heap}(hs:Heap.SameBut L s.heap h')(hm:f'.rel α h' L):
 aC C α H ((L,f')::fr) {s with heap:=h'}:=by
 obtain⟨hb,V,hd⟩:=R.frs (L,f) (.head _)
 have nd:=R.jm
 simp only[List.map_cons,List.nodup_cons]at nd
 refine⟨fun b x ex=>(hs.2 b (nT ex hb)).trans (R.keep b x ex),trivial,R.len,?_,R.fresh,R.inj,?_,by simpa using nd,R.gP,R.sys,R.gens,R.drawn,R.os⟩
 · intro i b x e1 e2
   exact(R.obj i b x e1 e2).congr (hs.2 b (hd i b e1))
 · intro p hp
   rcases List.mem_cons.mp hp with rfl|hp
   · exact⟨hb,hm,hd⟩
   · obtain⟨h1,h2,h4⟩:=R.frs p (.tail _ hp)
     exact⟨h1,h2.congr (aG.refl _) (hs.2 _ (fun z=>nd.1 (by rw[←z];exact List.mem_map_of_mem hp))),h4⟩
theorem aC.turnE{it:Addr}{f f':FE}(R:aC C α H ((it,f)::fr) s){h':Heap}(hs:∀ b o,b≠it->s.heap.get? b=some o->h'.get? b=some o)(hm:f'.rel α h' it):
 aC C α H ((it,f')::fr) {s with heap:=h'}:=by
 obtain⟨hb,V,hd⟩:=R.frs (it,f) (.head _)
 have nd:=R.jm
 simp only[List.map_cons,List.nodup_cons]at nd
 refine⟨fun b x ex=>hs b x (nT ex hb) (R.keep b x ex),trivial,R.len,?_,R.fresh,R.inj,?_,by simpa using nd,R.gP,R.sys,R.gens,R.drawn,R.os⟩
 · intro i b x e1 e2
   have r:=R.obj i b x e1 e2
   obtain⟨y,hy⟩:=r.get
   exact r.congr ((hs _ _ (hd i b e1) hy).trans hy.symm)
 · intro p hp
   rcases List.mem_cons.mp hp with rfl|hp
   · exact⟨hb,hm,hd⟩
   · obtain⟨h1,h2,h4⟩:=R.frs p (.tail _ hp)
     obtain⟨y,hy⟩:=h2.get
     exact⟨h1,h2.congr (aG.refl _) ((hs _ _ (fun z=>nd.1 (by rw[←z];exact List.mem_map_of_mem hp)) hy).trans hy.symm),h4⟩
theorem aC.say(R:aC C α H fr s){n:Nat}{o:AO}(h:∀ a,α[n]? =some a->OR C.prog C.w α s.heap a o):aC C α (H.set n o) fr s:=by
 refine⟨R.keep,R.size,by simp[R.len],?_,R.fresh,R.inj,R.frs,R.jm,R.gP,R.sys,R.gens,R.drawn,R.os⟩
 intro i b x e1 e2
 by_cases q:i=n
 · subst q
   have hl:i<H.length:=by
    have:=(List.getElem?_eq_some_iff.mp e1).1
    rw[R.len]at this;exact this
   rw[List.getElem?_set_self hl]at e2
   cases e2
   exact h b e1
 · rw[List.getElem?_set_ne (Ne.symm q)]at e2
   exact R.obj i b x e1 e2
theorem aC.store{L:Addr}{ρ:ao}(R:aC C α H ((L,.loc ρ)::fr) s){h':Heap}{m':Str->Option Value}{ρ':ao}(hs:Heap.SameBut L s.heap h')(hm:h'.Ns L m')(hl:LR α ρ' m'):
 aC C α H ((L,.loc ρ')::fr) {s with heap:=h'}:=R.turn hs ⟨m',hm,hl⟩
theorem aC.swap{p q:Addr×FE}(R:aC C α H (p::q::fr) s):aC C α H (q::p::fr) s:=
 {R with
  frs:=fun x hx=>R.frs x (by
   rcases List.mem_cons.mp hx with rfl|hx
   · exact .tail _ (.head _)
   · rcases List.mem_cons.mp hx with rfl|hx
     · exact .head _
     · exact .tail _ (.tail _ hx))
  jm:=by
   have nd:=R.jm
   simp only[List.map_cons,List.nodup_cons,List.mem_cons,not_or]at nd⊢
   exact⟨⟨fun e=>nd.1.1 e.symm,nd.2.1⟩,nd.1.2,nd.2.2⟩}
theorem aC.beside(R:aC C α H fr s){h':Heap}{f:FE}{b:Addr}{t:Nat}(hm:f.rel α h' b)(hb:s.heap.objs.size≤b)(hk:∀ b o,s.heap.get? b=some o->h'.get? b=some o):
 aC C α H ((b,f)::fr) {s with heap:=h',toks:=t}:=by
 have same:∀ b x,s.heap.get? b=some x->h'.get? b=s.heap.get? b:=fun b x e=>(hk b x e).trans e.symm
 have hz:s.heap.objs.size≤h'.objs.size:=by obtain⟨y,hy⟩:=hm.get;exact Nat.le_of_lt (Nat.lt_of_le_of_lt hb (Heap.lt_size hy))
 refine⟨fun b x ex=>hk b x (R.keep b x ex),trivial,R.len,?_,R.fresh,R.inj,?_,?_,R.gP,R.sys,R.gens,R.drawn,R.os⟩
 · intro i b x e1 e2
   have r:=R.obj i b x e1 e2
   obtain⟨y,hy⟩:=r.get
   exact r.congr (same b y hy)
 · intro p hp
   rcases List.mem_cons.mp hp with rfl|hp
   · exact⟨R.out hb,hm,fun n a e=>Nat.ne_of_lt (Nat.lt_of_lt_of_le (R.lt e) hb)⟩
   · obtain⟨h1,h2,h4⟩:=R.frs p hp
     obtain⟨y,hy⟩:=h2.get
     exact⟨h1,h2.congr (aG.refl _) (same _ _ hy),h4⟩
 · simp only[List.map_cons,List.nodup_cons]
   refine⟨fun hp=>?_,R.jm⟩
   obtain⟨p,hp,e⟩:=List.mem_map.mp hp
   exact absurd (R.frLt hp) (by rw[e];exact Nat.not_lt.mpr hb)
theorem aC.enter(R:aC C α H fr s){h':Heap}{m:Str->Option Value}{ρ:ao}{t:Nat}(hm:h'.Ns s.heap.objs.size m)(hl:LR α ρ m)(hk:∀ b o,s.heap.get? b=some o->h'.get? b=some o)(hz:s.heap.objs.size≤h'.objs.size):
 aC C α H ((s.heap.objs.size,.loc ρ)::fr) {s with heap:=h',toks:=t}:=R.beside (f:=.loc ρ) ⟨m,hm,hl⟩ (Nat.le_refl _) hk
theorem aC.leave(R:aC C α H (p::fr) s):aC C α H fr s:=
 {R with frs:=fun q hq=>R.frs q (.tail _ hq),jm:=by have:=R.jm;simp only[List.map_cons,List.nodup_cons]at this;exact this.2}
end
noncomputable abbrev Ar(d u:Nat):Around:=⟨none,d,none,none,u⟩
noncomputable abbrev bf:Value->Shared->Prop:=fun V V=>False
noncomputable abbrev Wp{α:Type}(C:Cx)(d u:Nat)(t:Sem α)(Q:α->Shared->Prop)(s:Shared):Prop:=wpAny (model C.prog C.w) (Ar d u) t Q bf s
structure JF{ι β:Type}(C:Cx)(d u:Nat)(H:List AO)(fr:List (Addr×FE))(i:List Addr->ι->Prop)(t:ι->Sem β)(r:List Addr->β->Prop)(H':List AO):Prop where
 run:∀ α s x,aC C α H fr s->i α x->∀ Q:β->Shared->Prop,(∀ α' s' y,aG α α'->aC C α' H' fr s'->r α' y->Q y s')->Wp C d u (t x) Q s
noncomputable def Vr(v:AV)(α:List Addr)(x:Value):Prop:=VR α v x
noncomputable def Vs(vs:List AV)(α:List Addr)(xs:List Value):Prop:=bM α vs xs
noncomputable def Br(b:Bool)(α:List Addr)(x:Bool):Prop:=x=b
noncomputable def Pr(a b:AV)(α:List Addr)(x:Value×Value):Prop:=VR α a x.1∧VR α b x.2
noncomputable def Ur(α:List Addr)(x:Unit):Prop:=True
noncomputable abbrev Ev(C:Cx)(d u:Nat)(H:List AO)(fr:List (Addr×FE))(t:Sem Value)(v:AV)(H':List AO):Prop:=JF C d u H fr Ur (fun V=>t) (Vr v) H'
noncomputable abbrev Et(C:Cx)(d u:Nat)(H:List AO)(fr:List (Addr×FE))(t:Sem Bool)(b:Bool)(H':List AO):Prop:=JF C d u H fr Ur (fun V=>t) (Br b) H'
noncomputable abbrev El(C:Cx)(d u:Nat)(H:List AO)(fr:List (Addr×FE))(t:Sem (List Value))(vs:List AV)(H':List AO):Prop:=JF C d u H fr Ur (fun V=>t) (Vs vs) H'
noncomputable abbrev Ev1(C:Cx)(d u:Nat)(H:List AO)(fr:List (Addr×FE))(t:Value->Sem Value)(a v:AV)(H':List AO):Prop:=JF C d u H fr (Vr a) t (Vr v) H'
noncomputable abbrev Et1(C:Cx)(d u:Nat)(H:List AO)(fr:List (Addr×FE))(t:Value->Sem Bool)(a:AV)(b:Bool)(H':List AO):Prop:=JF C d u H fr (Vr a) t (Br b) H'
noncomputable abbrev fG(C:Cx)(d u:Nat)(H:List AO)(fr:List (Addr×FE))(t:Value->Value->Sem Value)(a b v:AV)(H':List AO):Prop:=JF C d u H fr (Pr a b) (fun x=>t x.1 x.2) (Vr v) H'
inductive FA where
 |next|brk|cont|ret (v:AV)
noncomputable def FA.go:FA->Bool
 |.next=>true
 |_=>false
noncomputable def FR(α:List Addr):FA->Flow->Prop
 |.next,f=>f=.next
 |.brk,f=>f=.brk
 |.cont,f=>f=.cont
 |.ret v,f=>∃ x,f=.ret x∧VR α v x
structure Ex(C:Cx)(d u:Nat)(H:List AO)(L:Addr)(ρ:ao)(fr:List (Addr×FE))(t:Sem Flow)(f:FA)(H':List AO)(ρ':ao):Prop where
 run:∀ α s,aC C α H ((L,.loc ρ)::fr) s->∀ Q:Flow->Shared->Prop,(∀ α' s' x,aG α α'->aC C α' H' ((L,.loc ρ')::fr) s'->FR α' f x->Q x s')->Wp C d u t Q s
noncomputable def bQ:Value->AV
 |.none=>.none
 |.bool b=>.bool b
 |.int i _=>.int i
 |.str x _=>.str x
 |v=>.glob v
theorem VR.of(α:List Addr)(v:Value):VR α (bQ v) v:=by
 cases v<;>first|rfl|exact⟨_,rfl⟩
section
variable{C:Cx}{d u:Nat}{α:List Addr}{H H1 H2 H3:List AO}{fr:List (Addr×FE)}{fd:FuncData}{fa L:Addr}{ρ:ao}{env:Env}{pos:Pos}
theorem JF.then{ι β:Type}{i:List Addr->ι->Prop}{t:ι->Sem β}{r:List Addr->β->Prop}(h:JF C d u H fr i t r H1){s:Shared}{x:ι}(R:aC C α H fr s)(hi:i α x){Q:β->Shared->Prop}
 (k:∀ α1 sE y,aG α α1->aC C α1 H1 fr sE->r α1 y->Q y sE):Wp C d u (t x) Q s:=h.run α s x R hi Q k
theorem JF.go{β:Type}{t:Sem β}{r:List Addr->β->Prop}(h:JF C d u H fr Ur (fun V=>t) r H1){s:Shared}(R:aC C α H fr s){Q:β->Shared->Prop}
 (k:∀ α1 sE y,aG α α1->aC C α1 H1 fr sE->r α1 y->Q y sE):Wp C d u t Q s:=h.run α s () R trivial Q k
theorem Ev.int{i:Int}{k:Nat}:Ev C d u H fr (eval (.Constant (.int i) k pos) env) (.int i) H:=
 .mk fun α V V R V V hQ=>wpAny_Constant_int (hQ α _ _ (aG.refl α) (R.toks _) ⟨_,rfl⟩)
theorem Ev.str{x:Str}{k:Nat}:Ev C d u H fr (eval (.Constant (.str x) k pos) env) (.str x) H:=
 .mk fun α V V R V V hQ=>Calls.Constant_str (hQ α _ _ (aG.refl α) (R.toks _) ⟨_,rfl⟩)
theorem Ev.none{k:Nat}:Ev C d u H fr (eval (.Constant .none k pos) env) .none H:=
 .mk fun α V V R V V hQ=>wpAny_pure (hQ α _ _ (aG.refl α) R rfl)
theorem Ev.l{x:Str}{v:AV}(hk:fd.scope.kind=.function)(hx:fd.scope.names.lookup x=some .local)(hρ:ρ.lookup x=some v)(hd:(x==("__debug__":Str))=false):
 Ev C d u H ((L,.loc ρ)::fr) (eval (.Name x pos) (callEnv fd L fa)) v H:=.mk fun α s V R V Q hQ=>by
 refine gG fun P_ k_=>?_
 obtain⟨V,⟨m,hm,hl⟩,V⟩:=R.frs (L,.loc ρ) (.head _)
 refine k_ ?_
 have q:=hl x
 rw[hρ]at q
 obtain⟨y,e,r⟩:=q
 exact wpAny_Name (wpAny_loadName_local (env:=callEnv fd L fa) hk hx hm e (hQ α _ _ (aG.refl α) R r)) hd
theorem pF{h:Heap}{a:Addr}{c:Value}{dd:Option Addr}{es:Array DictEntry}{n:Nat}{sl:Array (Option Value)}(e:h.get? a=some ⟨c,dd,.dict es n,sl⟩)(hk:StrKeys es):h.Ns a (nsFind es):=
 ⟨_,es,n,e,rfl,hk,fun V=>rfl⟩
theorem Ev.global{K:Frag}{x:Str}{v:Value}{c:Value}{dd:Option Addr}{es:Array DictEntry}{n:Nat}{sl:Array (Option Value)}(hK:K.In C.base)(hk:fd.scope.kind=.function)(hx:fd.scope.names.lookup x=some .globalImplicit)
 (hg:K.lookup fd.globals=some ⟨c,dd,.dict es n,sl⟩) (hs:StrKeys es) (hv:nsFind es x=some v) (hd:(x==("__debug__":Str))=false):
 Ev C d u H fr (eval (.Name x pos) (callEnv fd L fa)) (bQ v) H:=.mk fun α s V R V Q hQ=>
 Calls.Name_function_global (env:=callEnv fd L fa) hk hx (Calls.loadGlobal_global (pF (R.keep _ _ (hK _ _ hg)) hs) hv (hQ α _ _ (aG.refl α) R (VR.of α v))) hd
theorem Ev.builtin{K:Frag}{x:Str}{v:Value}{c:Value}{dd:Option Addr}{es:Array DictEntry}{n:Nat}{sl:Array (Option Value)}{c':Value}{dd':Option Addr}{es':Array DictEntry}{n':Nat}{sl':Array (Option Value)}
 (hK:K.In C.base) (hk:fd.scope.kind=.function) (hx:fd.scope.names.lookup x=some .globalImplicit)
 (hg:K.lookup fd.globals=some ⟨c,dd,.dict es n,sl⟩) (hs:StrKeys es) (hv:nsFind es x=Option.none) (hb:K.lookup fd.builtins=some ⟨c',dd',.dict es' n',sl'⟩) (hs':StrKeys es') (hv':nsFind es' x=some v) (hd:(x==("__debug__":Str))=false):
 Ev C d u H fr (eval (.Name x pos) (callEnv fd L fa)) (bQ v) H:=.mk fun α s V R V Q hQ=>
 Calls.Name_function_global (env:=callEnv fd L fa) hk hx (Calls.loadGlobal_builtin (pF (R.keep _ _ (hK _ _ hg)) hs) hv (pF (R.keep _ _ (hK _ _ hb)) hs') hv' (hQ α _ _ (aG.refl α) R (VR.of α v))) hd
theorem Ev.b{l r:Expr}{op:Operator}{a b v:AV}
 (h1:Ev C d u H fr (eval l env) a H1) (h2:Ev C d u H1 fr (eval r env) b H2)
 (h3:fG C d u H2 fr (binaryOp op) a b v H3):Ev C d u H fr (eval (.BinOp l op r pos) env) v H3:=.mk fun α s V R V Q hQ=>
 wpAny_BinOp (h1.go R fun α1 sE x EY R1 rA=>h2.go R1 fun α2 sG y Ec R2 rB=>
  h3.then (x:=(x,y)) R2 ⟨VR.mono Ec rA,rB⟩ fun α3 sI z E3 R3 rC=>hQ α3 sI z ((EY.trans Ec).trans E3) R3 rC)
end
section
variable{C:Cx}{d u:Nat}{α:List Addr}{H H1 H2 H3:List AO}{fr:List (Addr×FE)}{fd:FuncData}{fa L:Addr}{ρ ρ1 ρ2:ao}{env:Env}{pos:Pos}{f:FA}
theorem Ex.go{t:Sem Flow}(h:Ex C d u H L ρ fr t f H1 ρ1){s:Shared}(R:aC C α H ((L,.loc ρ)::fr) s){Q:Flow->Shared->Prop}
 (k:∀ α1 sE y,aG α α1->aC C α1 H1 ((L,.loc ρ1)::fr) sE->FR α1 f y->Q y sE):Wp C d u t Q s:=h.run α s R Q k
theorem Ex.nil:Ex C d u H L ρ fr (execs [] env) .next H ρ:=.mk fun α s R Q hQ=>wpAny_execs_nil (hQ α s _ (aG.refl α) R rfl)
theorem Ex.cons{st:Stmt}{rest:List Stmt}(h1:Ex C d u H L ρ fr (exec st env) .next H1 ρ1)
 (h2:Ex C d u H1 L ρ1 fr (execs rest env) f H2 ρ2):Ex C d u H L ρ fr (execs (st::rest) env) f H2 ρ2:=.mk fun α s R Q hQ=>
 wpAny_execs_cons (h1.go R fun α1 sE x EY R1 rA=>by
  cases rA
  exact h2.go R1 fun α2 sG y Ec R2 rB=>hQ α2 sG y (EY.trans Ec) R2 rB)
theorem Ex.stop{st:Stmt}{rest:List Stmt}(h1:Ex C d u H L ρ fr (exec st env) f H1 ρ1)(hf:f.go=false):Ex C d u H L ρ fr (execs (st::rest) env) f H1 ρ1:=.mk fun α s R Q hQ=>
 wpAny_execs_cons (h1.go R fun α1 sE x EY R1 rA=>by
  cases f with
  |next=>cases hf
  |brk=>cases rA;exact hQ α1 sE _ EY R1 rfl
  |cont=>cases rA;exact hQ α1 sE _ EY R1 rfl
  |ret v=>obtain⟨y,rfl,r⟩:=rA;exact hQ α1 sE _ EY R1 ⟨y,rfl,r⟩)
noncomputable def put(x:Str)(v:AV)(ρ:ao):ao:=@List.rec (Str×AV) (fun V=>ao) [(x,v)] (fun p r i=>if p.1=x then(x,v)::r else p::i) ρ
theorem put0{x:Str}{v:AV}:put x v []=[(x,v)]:=rfl
theorem put1{x:Str}{v:AV}{p:Str×AV}{r:ao}:put x v (p::r)=if p.1=x then(x,v)::r else p::put x v r:=rfl
theorem iT(x:Str)(v:AV):∀(ρ:ao) (y:Str),(put x v ρ).lookup y=if y=x then some v else ρ.lookup y
 |[],y=>by
  rw[put0]
  by_cases h:y=x
  · subst h;simp[List.lookup]
  · have:(y==x)=false:=by simpa using h
    simp[List.lookup,this,h]
 |p::r,y=>by
  obtain⟨k,z⟩:=p
  rw[put1]
  by_cases h:k=x
  · subst h
    by_cases q:y=k
    · subst q;simp[List.lookup]
    · have:(y==k)=false:=by simpa using q
      simp[List.lookup,this,q]
  · simp only[h,if_false]
    by_cases q:y=k
    · subst q
      have h':¬y=x:=h
      simp[List.lookup,h']
    · have:(y==k)=false:=by simpa using q
      simp only[List.lookup,this]
      exact iT x v r y
theorem LR.put{ρ:ao}{m:Str->Option Value}(hl:LR α ρ m){x:Str}{v:AV}{y:Value}(r:VR α v y):LR α (put x v ρ) (fun z=>if z=x then some y else m z):=fun z=>by
 rw[iT]
 by_cases h:z=x
 · simp only[h,if_true];exact⟨y,rfl,r⟩
 · simp only[h,if_false];exact hl z
theorem aC.stores{s:Shared}(R:aC C α H ((L,.loc ρ)::fr) s){x:Str}{v:AV}{y:Value}(r:VR α v y)(hx:fd.scope.names.lookup x=some .local)(hk:fd.scope.kind=.function){Q:Unit->Shared->Prop}
 (h:∀ s',aC C α H ((L,.loc (Internal.put x v ρ))::fr) s'->Q () s'):Wp C d u (storeName (callEnv fd L fa) x y) Q s:=by
 refine gG fun P_ k_=>?_
 obtain⟨V,⟨m,hm,hl⟩,V⟩:=R.frs (L,.loc ρ) (.head _)
 refine k_ ?_
 refine wpAny_storeName_local (env:=callEnv fd L fa) hx hm (fun h' hn hsb=>?_) (by show((fd.scope.kind== .class||(fd.scope.kind== .module&&_))=false);rw[hk];rfl)
 exact h _ ((R.store hsb hn (hl.put r)).toks _)
theorem Ex.assign{x:Str}{p:Pos}{value:Expr}{v:AV}(hx:fd.scope.names.lookup x=some .local)(hk:fd.scope.kind=.function)
 (h:Ev C d u H ((L,.loc ρ)::fr) (eval value (callEnv fd L fa)) v H1) (hs:swapsWith value (some (.Name x p)) pos.line (callEnv fd L fa)=pure false):
 Ex C d u H L ρ fr (exec (.Assign [.Name x p] value pos) (callEnv fd L fa)) .next H1 (put x v ρ):=.mk fun α s R Q hQ=>
 wpAny_Assign_Name (h.go R fun α1 sE y EY R1 rA=>R1.stores rA hx hk fun sG R2=>hQ α1 _ _ EY R2 rfl) hs
theorem Ex.ret{e:Expr}{v:AV}(h:Ev C d u H ((L,.loc ρ)::fr) (eval e env) v H1):Ex C d u H L ρ fr (exec (.Return (some e) pos) env) (.ret v) H1 ρ:=.mk fun α s R Q hQ=>
 wpAny_Return_some (h.go R fun α1 sE y EY R1 rA=>hQ α1 sE _ EY R1 ⟨y,rfl,rA⟩)
theorem Ex.if{test:Expr}{body orelse:List Stmt}{b:Bool}(h1:Et C d u H ((L,.loc ρ)::fr) (isTrue test env (eval test env)) b H1)
 (h2:Ex C d u H1 L ρ fr (execs (match b with|true=>body|false=>orelse) env) f H2 ρ2):Ex C d u H L ρ fr (exec (.If test body orelse pos) env) f H2 ρ2:=.mk fun α s R Q hQ=>
 wpAny_If (h1.go R fun α1 sE y EY R1 e=>by
  have e:y=b:=e
  subst e
  cases y
  · exact h2.go R1 fun α2 sG y Ec R2 rB=>hQ α2 sG y (EY.trans Ec) R2 rB
  · exact h2.go R1 fun α2 sG y Ec R2 rB=>hQ α2 sG y (EY.trans Ec) R2 rB)
end
section
variable{C:Cx}{d u:Nat}{α:List Addr}{H H1 H2 H3:List AO}{fr:List (Addr×FE)}{env:Env}{pos:Pos}
theorem E2.add{a b:Int}:fG C d u H fr (binaryOp .Add) (.int a) (.int b) (.int (a+b)) H:=.mk fun α1 s ⟨x,y⟩ R ⟨⟨t,hx⟩,⟨k,hy⟩⟩ Q hQ=>by
 dsimp only at hx hy;subst hx hy;exact add_int (hQ α1 _ _ (aG.refl _) (R.toks _) ⟨_,rfl⟩)
theorem E2.iadd{a b:Int}:fG C d u H fr (inplaceOp .Add) (.int a) (.int b) (.int (a+b)) H:=.mk fun α1 s ⟨x,y⟩ R ⟨⟨t,hx⟩,⟨k,hy⟩⟩ Q hQ=>by
 dsimp only at hx hy;subst hx hy;exact iadd_int (hQ α1 _ _ (aG.refl _) (R.toks _) ⟨_,rfl⟩)
theorem E2.sub{a b:Int}:fG C d u H fr (binaryOp .Sub) (.int a) (.int b) (.int (a - b)) H:=.mk fun α1 s ⟨x,y⟩ R ⟨⟨t,hx⟩,⟨k,hy⟩⟩ Q hQ=>by
 dsimp only at hx hy;subst hx hy;exact sub_int (hQ α1 _ _ (aG.refl _) (R.toks _) ⟨_,rfl⟩)
theorem E2.mod{a b:Int}(hb:b≠0):fG C d u H fr (binaryOp .Mod) (.int a) (.int b) (.int (a.fmod b)) H:=.mk fun α1 s ⟨x,y⟩ R ⟨⟨t,hx⟩,⟨k,hy⟩⟩ Q hQ=>by
 dsimp only at hx hy;subst hx hy;exact mod_int' hb (hQ α1 _ _ (aG.refl _) (R.toks _) ⟨_,rfl⟩)
theorem E2.div{a b:Int}(hb:b≠0)(hp:Builtin.divisionGoesByPylong a b=false):fG C d u H fr (binaryOp .FloorDiv) (.int a) (.int b) (.int (a.fdiv b)) H:=.mk fun α1 s ⟨x,y⟩ R ⟨⟨t,hx⟩,⟨k,hy⟩⟩ Q hQ=>by
 dsimp only at hx hy;subst hx hy;exact floordiv_int hb (hQ α1 _ _ (aG.refl _) (R.toks _) ⟨_,rfl⟩) (Or.inl hp)
theorem E2.eqI{a b:Int}:fG C d u H fr (compareOp .Eq) (.int a) (.int b) (.bool (a==b)) H:=.mk fun α1 s ⟨x,y⟩ R ⟨⟨t,hx⟩,⟨k,hy⟩⟩ Q hQ=>by
 dsimp only at hx hy;subst hx hy;exact eq_int (hQ α1 _ _ (aG.refl _) R rfl)
theorem E2.leI{a b:Int}:fG C d u H fr (compareOp .LtE) (.int a) (.int b) (.bool (decide (a≤b))) H:=.mk fun α1 s ⟨x,y⟩ R ⟨⟨t,hx⟩,⟨k,hy⟩⟩ Q hQ=>by
 dsimp only at hx hy;subst hx hy;exact le_int (hQ α1 _ _ (aG.refl _) R rfl)
theorem E2.eqS{a b:Str}:fG C d u H fr (compareOp .Eq) (.str a) (.str b) (.bool (a==b)) H:=.mk fun α1 s ⟨x,y⟩ R ⟨⟨t,hx⟩,⟨k,hy⟩⟩ Q hQ=>by
 dsimp only at hx hy;subst hx hy;exact eq_str (hQ α1 _ _ (aG.refl _) R rfl)
theorem T1.bool{b:Bool}:Et1 C d u H fr truthy (.bool b) b H:=.mk fun α1 s x R hx Q hQ=>by
 cases hx;exact wpAny_truthy_bool (hQ α1 _ _ (aG.refl _) R rfl)
theorem T1.int{a:Int}:Et1 C d u H fr truthy (.int a) (a !=0) H:=.mk fun α1 s x R ⟨t,hx⟩ Q hQ=>by
 subst hx;exact truthy_int (hQ α1 _ _ (aG.refl _) R rfl)
theorem Et.compare{l r:Expr}{op:CmpOp}{jq:Sem Value}{a b:AV}{v:Bool}
 (h1:Ev C d u H fr (eval l env) a H1) (h2:Ev C d u H1 fr (eval r env) b H2)
 (h3:fG C d u H2 fr (compareOp op) a b (.bool v) H3) (hb:behindInMarks op r=false):Et C d u H fr (isTrue (.Compare l [op] [r] pos) env jq) v H3:=.mk fun α s V R V Q hQ=>
 wpAny_isTrue_Compare1 (hm:=hb) (h1.go R fun α1 sE x EY R1 rA=>h2.go R1 fun α2 sG y Ec R2 rB=>
  h3.then (x:=(x,y)) R2 ⟨VR.mono Ec rA,rB⟩ fun α3 sI z E3 R3 rC=>by
   cases rC
   exact wpAny_truthy_bool (hQ α3 sI _ ((EY.trans Ec).trans E3) R3 rfl))
theorem Et.not{x:Expr}{jq:Sem Value}{b:Bool}(h:Et C d u H fr (isTrue x env (eval x env)) b H1):Et C d u H fr (isTrue (.UnaryOp .Not x pos) env jq) (!b) H1:=.mk fun α s V R V Q hQ=>
 isTrue_not (h.go R fun α1 sE y EY R1 e=>by cases e;exact hQ α1 sE _ EY R1 rfl)
theorem Et.andF{x:Expr}{rest:List Expr}{jq:Sem Value}(h:Et C d u H fr (isTrue x env (eval x env)) false H1):Et C d u H fr (isTrue (.BoolOp .And (x::rest) pos) env jq) false H1:=.mk fun α s V R V Q hQ=>
 isTrue_and (h.go R fun α1 sE y EY R1 e=>by cases e;exact hQ α1 sE _ EY R1 rfl)
theorem Et.plain{e:Expr}{v:AV}{b:Bool}(h:Ev C d u H fr (eval e env) v H1)(h2:Et1 C d u H1 fr truthy v b H2)
 (he:isTrue e env (eval e env)=(do let v←eval e env;standAt e.pos;holding [v] (truthy v))):Et C d u H fr (isTrue e env (eval e env)) b H2:=.mk fun α s V R V Q hQ=>
 isTrue_plain (h.go R fun α1 sE x EY R1 rA=>h2.then R1 rA fun α2 sG y Ec R2 e=>hQ α2 sG y (EY.trans Ec) R2 e) he
end
theorem fQ{k:Str}{v:Value}(h:Value.isStrOf k v=true):∃ t,v=.str k t:=Value.isStrOf_shape h
theorem Gx{prog:Program}{w:World}{es:List DictEntry}{ps:List (Str×Value)}(P:Pairs (strKind prog w) es ps)(x:Str):
 (∃ e,es.find? (·.key.isStr x)=some e∧ps.lookup x=some e.val)∨(es.find? (·.key.isStr x)=none∧ps.lookup x=none):=by
 induction P with
 |nil=>exact .inr ⟨rfl,rfl⟩
 | @cons e kv es ps hk hv _ ih=>
  obtain⟨k,v⟩:=kv
  obtain⟨t,ht⟩:=fQ (k:=k) hk
  have hd:e.key.isStr x=(k==x):=by rw[ht];rfl
  by_cases q:k=x
  · subst q
    left
    refine⟨e,?_,?_⟩
    · rw[List.find?_cons,hd];simp
    · simp[List.lookup];exact hv.symm
  · have h1:(k==x)=false:=by simpa using q
    have h2:(x==k)=false:=by simpa using fun z=>q z.symm
    rw[List.find?_cons,hd,h1]
    simp only[List.lookup,h2]
    exact ih
theorem sS{prog:Program}{w:World}{es:List DictEntry}{ps:List (Str×Value)}(P:Pairs (strKind prog w) es ps):es.any (·.refKey)=false:=by
 induction P with
 |nil=>rfl
 | @cons e kv es ps hk hv _ ih=>
  obtain⟨t,ht⟩:=fQ (k:=kv.1) hk
  rw[List.any_cons,ih,Bool.or_false]
  unfold DictEntry.refKey
  rw[ht]
theorem m5{prog:Program}{w:World}{o:Obj}{es:Array DictEntry}{ep:Nat}{ps:List (Str×Value)}(hd:o.data=.dict es ep)(P:Pairs (strKind prog w) es.toList ps)(x:Str):lookIn x o=some (ps.lookup x):=by
 unfold lookIn
 rw[hd]
 dsimp only
 rcases Gx P x with⟨e,h1,h2⟩|⟨h1,h2⟩
 · rw[h1,h2]
 · rw[h1,h2,sS P];rfl
theorem aW.look{α:List Addr}{kvs:List (Str×AV)}{ps:List (Str×Value)}(h:aW α kvs ps)(x:Str):(∃ a v,kvs.lookup x=some a∧ps.lookup x=some v∧VR α a v)∨(kvs.lookup x=none∧ps.lookup x=none):=by
 induction h with
 |nil=>exact .inr ⟨rfl,rfl⟩
 | @cons k a v xs vs r _ ih=>
  by_cases q:x=k
  · subst q;exact .inl ⟨a,v,by simp[List.lookup],by simp[List.lookup],r⟩
  · have:(x==k)=false:=by simpa using q
    simp only[List.lookup,this];exact ih
noncomputable def Rt(Q:Value->Shared->Prop):Result->Shared->Prop:=fun r s'=>match r with|.ok (.ret v)=>Q v s'|.ok _=>False|.error _=>False
structure JC(C:Cx)(d u:Nat)(H:List AO)(fr:List (Addr×FE))(f:AV)(as:List AV)(kw:List (Str×AV))(v:AV)(H':List AO):Prop where
 run:∀ α s x (args:Args),aC C α H fr s->VR α f x->bM α as args.pos->aW α kw args.kw->∀ Q:Value->Shared->Prop,(∀ α' s' y,aG α α'->aC C α' H' fr s'->VR α' v y->Q y s')->
  codeAny (model C.prog C.w) (Ar d u) (.call x args) (Rt Q) s
structure JB(C:Cx)(H:List AO)(fr:List (Addr×FE))(fd:FuncData)(as:List AV)(kw:List (Str×AV))(ρ0:ao)(H':List AO):Prop where
 run:∀ α s (args:Args),aC C α H fr s->bM α as args.pos->aW α kw args.kw->∀(A:Around) (E:Value->Shared->Prop) (Q:List (Str×Value)->Shared->Prop),
  (∀ α' s' binds,aG α α'->aC C α' H' fr s'->(∀ x∈binds,fd.scope.names.lookup x.1=some .local)->LR α' ρ0 (fun x=>binds.reverse.lookup x)->Q binds s')->wpAny (model C.prog C.w) A (bindArgs fd args) Q E s
section
variable{C:Cx}{d u:Nat}{α:List Addr}{H H1 H2 H3:List AO}{fr:List (Addr×FE)}{fd:FuncData}{fa L:Addr}{ρ:ao}{env:Env}{pos:Pos}{K:Frag}
theorem rtC{Q:Value->Shared->Prop}{R:Result->Shared->Prop}(h:∀ v s,Q v s->R (.ok (.ret v)) s)(r:Result)(s:Shared)(x:Rt Q r s):R r s:=by
 cases r with
 |error e=>exact x.elim
 |ok f=>cases f with
  |ret v=>exact h v s x
  |_=>exact x.elim
theorem rt_mono{Q Q':Value->Shared->Prop}(h:∀ v s,Q v s->Q' v s):∀ r s,Rt Q r s->Rt Q' r s:=rtC h
theorem JC.call{f:AV}{as:List AV}{kw:List (Str×AV)}{v:AV}{H':List AO}(h:JC C d u H fr f as kw v H'){s:Shared}{x:Value}{xs:List Value}{ks:List (Str×Value)}
 (R:aC C α H fr s) (hf:VR α f x) (ha:bM α as xs) (hk:aW α kw ks) {Q:Value->Shared->Prop} (hQ:∀ α' s' y,aG α α'->aC C α' H' fr s'->VR α' v y->Q y s'):Wp C d u (PySem.call x xs ks) Q s:=
 wpAny_call (codeAny_mono (h.run α s x ⟨xs,ks⟩ R hf ha hk Q hQ) (rtC fun V V x=>x))
theorem aC.kh{s:Shared}(R:aC C α H fr s){n k:Nat}{Cc:Addr}{kvs:List (Str×AV)}{x:Addr}(h1:H[n]? =some (.inst Cc k))(h2:H[k]? =some (.dict kvs))(e:α[n]? =some x):
 ∃ ad od es ep ps,InstAt s.heap x ⟨.ref Cc,some ad,.plain,#[]⟩ Cc (some od)∧α[k]? =some ad∧s.heap.get? ad=some od∧od.ExactDict∧od.data=.dict es ep∧Pairs (strKind C.prog C.w) es.toList ps∧aW α kvs ps:=by
 refine gG fun P_ k_=>?_
 obtain⟨ad,ha,hx⟩:=R.obj n x _ e h1
 obtain⟨ps,⟨od,es,ep,h3,h4,h5,h6,h7,h8⟩,h9⟩:=R.obj k ad _ ha h2
 refine k_ ?_
 exact⟨ad,od,es,ep,ps,⟨hx,rfl,rfl,h3⟩,ha,h3,h4,h5,h7,h9⟩
theorem aC.aZ{s:Shared}(R:aC C α H fr s)(hK:K.In C.base):K.In s.heap:=fun a o e=>R.keep a o (hK a o e)
noncomputable def iu:AV->Bool
 |.glob v=>handedIn v
 |_=>true
theorem xK{a:AV}{v:Value}(h:VR α a v)(q:iu a=true):handedIn v=true:=by
 cases a with
 |none=>cases h;rfl
 |bool b=>cases h;rfl
 |int i=>obtain⟨t,rfl⟩:=h;rfl
 |str x=>obtain⟨t,rfl⟩:=h;rfl
 |ref n=>obtain⟨t,V,rfl⟩:=h;rfl
 |glob g=>cases h;exact q
theorem E1.own(hK:K.In C.base){n k:Nat}{Cc:Addr}{kvs:List (Str×AV)}{name:Str}{v:AV}{attr:Option Value}{ex:Bool}(h1:H[n]? =some (.inst Cc k))(h2:H[k]? =some (.dict kvs))
 (hv:kvs.lookup name=some v) (hg:plainGet K Cc name=true) (hh:hasDictIn K Cc=true) (ha:findIn K (.ref Cc) name=some attr) (hn:noGet K attr=true) (q:iu v=true):
 Ev1 C d u H fr (fun x=>getAttr x name ex) (.ref n) v H:=.mk fun α1 s x R ⟨a,e,hx⟩ Q hQ=>by
 subst hx
 refine gG fun P_ k_=>?_
 obtain⟨ad,od,es,ep,ps,I,V,V,V,hd,P,KR⟩:=R.kh h1 h2 e
 refine k_ ?_
 rcases KR.look name with⟨b,y,l1,l2,r⟩|⟨l1,V⟩
 · rw[hv]at l1
   cases l1
   have fo:findObj K Cc (some od) name=some (.value y):=findObj_own hh ha hn (by rw[m5 hd P,l2])
   exact get_value (R.aZ hK) I (plainGet_of hg).1 fo (xK r q) (hQ α1 _ _ (aG.refl _) (R.toks _) r)
 · rw[hv]at l1;cases l1
theorem E1.cls(hK:K.In C.base){n k:Nat}{Cc:Addr}{kvs:List (Str×AV)}{name:Str}{a:Value}{ex:Bool}(h1:H[n]? =some (.inst Cc k))(h2:H[k]? =some (.dict kvs))
 (hv:kvs.lookup name=none) (hg:plainGet K Cc name=true) (hh:hasDictIn K Cc=true) (ha:findIn K (.ref Cc) name=some (some a)) (hn:specialIn K a "__get__"=some none) (q:handedIn a=true) (hc:copiedNames.contains name=false):
 Ev1 C d u H fr (fun x=>getAttr x name ex) (.ref n) (bQ a) H:=.mk fun α1 s x R ⟨b,e,hx⟩ Q hQ=>by
 subst hx
 refine gG fun P_ k_=>?_
 obtain⟨ad,od,es,ep,ps,I,V,V,V,hd,P,KR⟩:=R.kh h1 h2 e
 refine k_ ?_
 rcases KR.look name with⟨b,y,l1,l2,r⟩|⟨V,l2⟩
 · rw[hv]at l1;cases l1
 · have fo:findObj K Cc (some od) name=some (.value a):=findObj_cls hh ha hn q hc (by rw[m5 hd P,l2])
   exact get_value (R.aZ hK) I (plainGet_of hg).1 fo q (hQ α1 _ _ (aG.refl _) (R.toks _) (VR.of _ _))
theorem E1.prop(hK:K.In C.base){n k:Nat}{Cc p fget:Addr}{rest:List Value}{kvs:List (Str×AV)}{name:Str}{v:AV}{ex:Bool}{H':List AO}(h1:H[n]? =some (.inst Cc k))(h2:H[k]? =some (.dict kvs))
 (hg:plainGet K Cc name=true) (hh:hasDictIn K Cc=true) (ha:findIn K (.ref Cc) name=some (some (.ref p))) (hn:specialIn K (.ref p) "__get__"=some (some (.builtin "property.__get__"))) (ht:takesIn K (.ref p)=some true)
 (hp:recIn K p "property"=some (.ref fget::rest)) (h:JC C d (u+1) H fr (.glob (.ref fget)) [.ref n] [] v H') (q:iu v=true):
 Ev1 C d u H fr (fun x=>getAttr x name ex) (.ref n) v H':=.mk fun α1 s x R ⟨b,e,hx⟩ Q hQ=>by
 subst hx
 refine gG fun P_ k_=>?_
 obtain⟨ad,od,es,ep,ps,I,V,V,V,hd,P,KR⟩:=R.kh h1 h2 e
 refine k_ ?_
 refine get_bind (R.aZ hK) I (plainGet_of hg).1 (findObj_data (by obtain⟨cd,hc,V⟩:=any_some hh;rw[hc];rfl) ha hn ht) (plainGet_of hg).2 (wpAny_call (prop_get (s:={s with toks:=s.toks+1}) (R.aZ hK) hp ?_))
 refine codeAny_mono (h.run α1 _ _ ⟨[.ref b],[]⟩ (R.toks _) rfl (.cons ⟨b,e,rfl⟩ .nil) .nil (fun x s'=>Wp C d u (handedOut x) Q s') fun α2 sG y Ec R2 rB=>?_) (rtC fun V V x=>x)
 exact handed_on (xK rB q) (hQ α2 sG y Ec R2 rB)
theorem Ev.attr{o:Expr}{attr:Str}{a v:AV}(h1:Ev C d u H fr (eval o env) a H1)(h2:Ev1 C d u H1 fr (fun o=>getAttr o attr true) a v H2)
 (he:eval (.Attribute o attr pos) env=(do
  let x←eval o env
  standAt pos.atName
  let r←holding [x] (getAttr x attr true)
  letTemporaryGo o x r
  pure r)):Ev C d u H fr (eval (.Attribute o attr pos) env) v H2:=.mk fun α s V R V Q hQ=>
 Attribute_any_ (h1.go R fun α1 sE y EY R1 rA=>h2.then R1 rA fun α2 sG z Ec R2 rB=>hQ α2 sG z (EY.trans Ec) R2 rB) he
theorem JC.def(hK:K.In C.base){a:Addr}{c:Value}{dd:Option Addr}{sl:Array (Option Value)}{body:List Stmt}{as:List AV}{kw:List (Str×AV)}{ρ0:ao}{f:FA}{v:AV}
 (hroom:d<recursionLimit) (hl:K.lookup a=some ⟨c,dd,.func fd,sl⟩) (hlim:C.base.NoLimit) (hcd:C.base.CodeRec fd.code fd.qualname) (hbody:fd.body=.stmts body)
 (hcell:∀ x∈fd.scope.names,x.2≠ .cell)
 (hbind:JB C H fr fd as kw ρ0 H1)
 (h:∀ L,∃ ρ',Ex C (d+1) (u+3) H1 L ρ0 fr (execs body (callEnv fd L a)) f H2 ρ') (hv:(match f with|.ret v=>v|_=>.none)=v)
 (hco:fd.scope.isCoroutine=false) (hgen:fd.scope.isGenerator=false) (hk:fd.scope.kind=.function):JC C d u H fr (.glob (.ref a)) as kw v H2:=.mk fun α s x args R hx ha hkw Q hQ=>by
 cases hx
 have kp:=R.keep
 refine gG fun P_ k_=>?_
 obtain⟨cc,oc,vs,tq,g1,g2,g3,g4⟩:=id hcd
 refine k_ ?_
 refine codeAny_call_function hroom (kp _ _ (hK _ _ hl)) rfl hco hgen hbody (by first|exact⟨cc,oc,vs,tq,g1,kp _ _ g2,g3,g4⟩|exact hcd.keeps kp) (hbind.run α s args R ha hkw _ _ _ fun α1 sE binds EY R1 hloc hlA=>?_)
 refine wpAny_newFunctionEnv hcell hloc (fun h₀ hns0 hsb0=>⟨(hlim.keeps R1.keep).fresh _ hsb0,codeAny_func ?_⟩) hk
 obtain⟨ρ',hx⟩:=h sE.heap.objs.size
 have hz:sE.heap.objs.size≤h₀.objs.size:=Nat.le_of_lt hns0.lt
 have R2:=R1.enter (t:=sE.toks+binds.length) hns0 hlA (fun b o e=>hsb0.extBut b o (Nat.ne_of_lt (Heap.lt_size e)) (Heap.get?_push_of_some _ e)) hz
 refine wpAny_mono (hx.run _ _ R2 (fun f s'=>Rt Q (.ok (.ret (match f with|.ret v=>v|_=>.none))) s') fun α' s' y E' R' r'=>?_) (fun V V z=>z) fun V V z=>z.elim
 have EE:=EY.trans E'
 cases f with
 |next=>cases r';subst hv;exact hQ α' s' _ EE R'.leave rfl
 |brk=>cases r';subst hv;exact hQ α' s' _ EE R'.leave rfl
 |cont=>cases r';subst hv;exact hQ α' s' _ EE R'.leave rfl
 |ret z=>obtain⟨y,rfl,r⟩:=r';subst hv;exact hQ α' s' _ EE R'.leave r
theorem LR.uQ:∀{ρ:ao} {bs:List (Str×Value)},aW α ρ bs->(ρ.map (·.1)).Nodup->LR α ρ (fun x=>bs.reverse.lookup x):=by
 intro ρ bs h
 have key:∀{bs:List (Str×Value)} {k:Str} {v:Value} (x:Str),((k,v)::bs).reverse.lookup x=((bs.reverse.lookup x).or (if x=k then some v else none)):=by
  intro bs k v x
  rw[List.reverse_cons,List.lookup_append]
  congr 1
  by_cases h:x=k
  · subst h;simp[List.lookup]
  · have:(x==k)=false:=by simpa using h
    simp[List.lookup,this,h]
 induction h with
 |nil=>intro V x;rfl
 | @cons k a v xs vs r hr ih=>
  intro hn x
  simp only[List.map_cons,List.nodup_cons]at hn
  have q:=ih hn.2 x
  dsimp only
  rw[key]
  by_cases hx:x=k
  · subst hx
    have hno:xs.lookup x=none:=by
     cases e:xs.lookup x with
     |none=>rfl
     |some z=>
      exfalso
      refine hn.1 ?_
      clear q ih hr key hn r
      induction xs with
      |nil=>simp[List.lookup]at e
      |cons p r' ih'=>
       obtain⟨k',z'⟩:=p
       by_cases hq:x=k'
       · subst hq;simp
       · have:(x==k')=false:=by simpa using hq
         simp only[List.lookup,this]at e
         simp only[List.map_cons,List.mem_cons]
         exact .inr (ih' e)
    rw[hno]at q
    have q:vs.reverse.lookup x=none:=q
    rw[q]
    simp[List.lookup]
    exact r
  · have:(x==k)=false:=by simpa using hx
    simp only[List.lookup,this,hx,if_false,Option.or_none]
    exact q
theorem JB.of(hK:K.In C.base){as:List AV}{kw:List (Str×AV)}{ρ0:ao}(hn:(ρ0.map (·.1)).Nodup)
 (h:∀ α xs ks,bM α as xs->aW α kw ks->∃ binds,(∀ S,peek K S (bindArgs fd ⟨xs,ks⟩)=some binds)∧(∀ x∈binds,fd.scope.names.lookup x.1=some .local)∧aW α ρ0 binds):JB C H fr fd as kw ρ0 H:=.mk fun α s args R ha hk A E Q hQ=>by
 obtain⟨binds,h1,h2,h3⟩:=h α args.pos args.kw ha hk
 exact(Looks.of_peek (R.aZ hK) (h1 _)).here (hQ α s binds (aG.refl _) R h2 (LR.uQ h3 hn))
end
structure JV(C:Cx)(d u:Nat)(H:List AO)(fr:List (Addr×FE))(f:AV)(as:List AV)(kw:List (Str×AV))(v:AV)(H':List AO):Prop where
 run:∀ α s x xs ks,aC C α H fr s->VR α f x->bM α as xs->aW α kw ks->∀ Q:Value->Shared->Prop,(∀ α' s' y,aG α α'->aC C α' H' fr s'->VR α' v y->Q y s')->Wp C d u (PySem.call x xs ks) Q s
section
variable{C:Cx}{d u:Nat}{α:List Addr}{H H1 H2 H3:List AO}{fr:List (Addr×FE)}{fd:FuncData}{fa L:Addr}{ρ:ao}{env:Env}{pos:Pos}{K:Frag}
theorem JC.v{f:AV}{as:List AV}{kw:List (Str×AV)}{v:AV}(h:JC C d u H fr f as kw v H1):JV C d u H fr f as kw v H1:=.mk fun α s x xs ks R hf ha hk Q hQ=>h.call R hf ha hk hQ
theorem Sp.nil:El C d u H fr (spliced []) [] H:=.mk fun α s V R V Q hQ=>Calls.spliced_nil (hQ α s _ (aG.refl _) R .nil)
theorem Sp.cons{t:Sem Value}{rest:List (Bool×Sem Value)}{a:AV}{as:List AV}(h:Ev C d u H fr t a H1)(h2:El C d u H1 fr (spliced rest) as H2):El C d u H fr (spliced ((false,t)::rest)) (a::as) H2:=.mk fun α s V R V Q hQ=>by
 rw[spliced]
 refine wpAny_bind (h.go R fun α1 sE x EY R1 rA=>?_)
 refine wpAny_bind (wpAny_pure ?_)
 exact wpAny_bind (wpAny_holding (h2.go R1 fun α2 sG y Ec R2 rB=>wpAny_pure (hQ α2 sG _ (EY.trans Ec) R2 (.cons (VR.mono Ec rA) rB))))
theorem Ea.nil:El C d u H fr (evalAll []) [] H:=.mk fun α s V R V Q hQ=>wpAny_evalAll_nil (hQ α s _ (aG.refl _) R .nil)
theorem Ea.cons{t:Sem Value}{rest:List (Sem Value)}{a:AV}{as:List AV}(h:Ev C d u H fr t a H1)(h2:El C d u H1 fr (evalAll rest) as H2):El C d u H fr (evalAll (t::rest)) (a::as) H2:=.mk fun α s V R V Q hQ=>
 wpAny_evalAll_cons (h.go R fun α1 sE x EY R1 rA=>h2.go R1 fun α2 sG y Ec R2 rB=>hQ α2 sG _ (EY.trans Ec) R2 (.cons (VR.mono Ec rA) rB))
theorem Ev.stood{t:Sem Value}{a:AV}(h:Ev C d u H fr t a H1):Ev C d u H fr (do let v←t;standAt pos;pure v) a H1:=.mk fun α s V R V Q hQ=>
 wpAny_bind (h.go R fun α1 sE x EY R1 rA=>wpAny_bind (wpAny_standAt (wpAny_pure (hQ α1 sE _ EY R1 rA))))
theorem c7{M:Model}{A:Around}{E:Value->Shared->Prop}{s:Shared}{f:Value}{args:List (Bool×Sem Value)}{keywords:List (Option Str×Sem Value)}{Q:Args->Shared->Prop}
 (hst:args.any (·.1)=false) (hall:keywords.all (·.1.isSome)=true)
 (h:wpAny M A (spliced args) (fun vs sE=>wpAny M A (evalAll (keywords.map (·.2))) (fun ks sG=>Q ⟨vs,(keywords.filterMap (·.1)).zip ks⟩ sG) E sE) E s):
 wpAny M A (evalArgs f true args keywords) Q E s:=by
 cases args with
 |nil=>
  unfold evalArgs
  show wpAny M A (spliced []>>= _) Q E s
  refine wpAny_bind (wpAny_mono h (fun vs sE h₁=>wpAny_bind (wpAny_pure ?_)) fun V V x=>x)
  refine wpAny_holding ?_
  simp only[hall,if_true]
  refine wpAny_bind (wpAny_mono h₁ (fun ks sG h₂=>wpAny_bind (wpAny_pure (wpAny_pure h₂))) fun V V x=>x)
 |cons x rest=>
  obtain⟨b,t⟩:=x
  have:b=false:=by
   cases b with
   |false=>rfl
   |true=>simp at hst
  subst this
  exact evalArgs_kw hall h
noncomputable def cu(K:Frag)(v:Value):Bool:=keepIn K v||(match v with|.ref _=>false|_=>true)
theorem lO{M:Model}{f:Value}(hk:cu K f=true)(h:Heap)(X:K.In h):∃ k,(k=Keeper.frame∨k=Keeper.machine∨k=Keeper.boundFrame)∧Looks M h (keeperOf f) k:=by
 unfold cu at hk
 rcases(Bool.or_eq_true_iff.mp hk)with q|q
 · exact keeps_K q h X
 · cases f with
   |ref a=>cases q
   |_=>exact⟨.machine,.inr (.inl rfl),Looks.of_pure rfl⟩
noncomputable def Fs(f:AV)(first:List AV)(α:List Addr)(p:Value×List Value):Prop:=VR α f p.1∧bM α first p.2
theorem bM.append{as bs:List AV}{xs ys:List Value}(h:bM α as xs)(h2:bM α bs ys):bM α (as++bs) (xs++ys):=by
 induction h with
 |nil=>exact h2
 |cons r _ ih=>exact .cons r ih
theorem aW.zip:∀(ns:List Str) {as:List AV} {xs:List Value},bM α as xs->aW α (ns.zip as) (ns.zip xs)
 |[],_,_,_=>.nil
 |_::_,_,_,.nil=>.nil
 |_::ns,_,_,.cons r h=>.cons r (aW.zip ns h)
theorem Fs.call{f:AV}{fv:Value}{first:List AV}{args:List (Bool×Sem Value)}{keywords:List (Option Str×Sem Value)}{as ks:List AV}{ns:List Str}{v:AV}(hK:K.In C.base)(hf:f=.glob fv)(hk:cu K fv=true)
 (ha:El C d u H fr (spliced args) as H1) (hkw:El C d u H1 fr (evalAll (keywords.map (·.2))) ks H2) (hn:keywords.filterMap (·.1)=ns)
 (h:JV C d u H2 fr (.glob fv) (first++as) (ns.zip ks) v H3) (hst:args.any (·.1)=false) (hall:keywords.all (·.1.isSome)=true) (hnone:keywords.any (·.1.isNone)=false):
 JF C d u H fr (Fs f first) (fun p=>callWith pos p.1 p.2 args keywords) (Vr v) H3:=.mk fun α s p R hp Q hQ=>by
 obtain⟨x,fs⟩:=p
 obtain⟨h1,h2⟩:=hp
 subst hf
 cases h1
 refine callWith_of (P:=K.In) (by rw[hst,hnone];rfl) (lO hk) (c7 hst hall (ha.go R fun α1 sE vs EY R1 rA=>hkw.go R1 fun α2 sG kvs Ec R2 rB=>⟨R2.aZ hK,?_⟩))
 rw[hn]
 exact h.run α2 sG _ _ _ R2 rfl (bM.append (h2.mono (EY.trans Ec)) (bM.mono Ec rA)) (aW.zip ns rB) Q fun α3 sI y E3 R3 rC=>hQ α3 sI y ((EY.trans Ec).trans E3) R3 rC
theorem Ev.callName{id:Str}{p:Pos}{args:List Expr}{kws:List Keyword}{f v:AV}(h1:Ev C d u H fr (eval (.Name id p) env) f H1)
 (h2:JF C d u H1 fr (Fs f []) (fun p=>callWith pos p.1 p.2 (backTo pos (starEach args env)) (backToKw pos (keywordEach kws env))) (Vr v) H2):Ev C d u H fr (eval (.Call (.Name id p) args kws pos) env) v H2:=.mk fun α s V R V Q hQ=>
 wpAny_Call_Name_kw (h1.go R fun α1 sE x EY R1 rA=>h2.then (x:=(x,[])) R1 ⟨rA,.nil⟩ fun α2 sG y Ec R2 rB=>hQ α2 sG y (EY.trans Ec) R2 rB)
theorem Ev.Ck{o:Expr}{name:Str}{apos:Pos}{args:List Expr}{kws:List Keyword}{pl:Sem Bool}{a f v:AV}{first:List AV}(h1:Ev C d u H fr (eval o env) a H1)
 (hm:JF C d u H1 fr (Vr a) (fun ov=>getMethod ov name pl) (Fs f first) H2)
 (h2:JF C d u H2 fr (Fs f first) (fun p=>callWith pos p.1 p.2 (backTo pos (starEach args env)) (backToKw pos (keywordEach kws env))) (Vr v) H3)
 (he:eval (.Call (.Attribute o name apos) args kws pos) env=(do
  let ov←eval o env
  standAt apos.atName
  let(f,first)←holding [ov] (getMethod ov name pl)
  callWith pos f first (backTo pos (starEach args env)) (backToKw pos (keywordEach kws env)))):Ev C d u H fr (eval (.Call (.Attribute o name apos) args kws pos) env) v H3:=.mk fun α s V R V Q hQ=>
 methodCall_KW (pl:=pl) (he:=he) (h1.go R fun α1 sE x EY R1 rA=>hm.then R1 rA fun α2 sG p Ec R2 rB=>h2.then R2 rB fun α3 sI y E3 R3 rC=>hQ α3 sI y ((EY.trans Ec).trans E3) R3 rC)
theorem Gm.fn(hK:K.In C.base){n k:Nat}{Cc f:Addr}{kvs:List (Str×AV)}{name:Str}{pl:Sem Bool}(h1:H[n]? =some (.inst Cc k))(h2:H[k]? =some (.dict kvs))(hv:kvs.lookup name=none)
 (hga:findIn K (.ref Cc) "__getattribute__"=some (some (.builtin "object.__getattribute__"))) (hk:findIn K (.ref Cc) "__getattr__"=some none)
 (hf:findIn K (.ref Cc) name=some (some (.ref f))) (ht:typeIn K (.ref f)=some (.type "function")):
 JF C d u H fr (Vr (.ref n)) (fun ov=>getMethod ov name pl) (Fs (.glob (.ref f)) [.ref n]) H:=.mk fun α s x R ⟨b,e,hx⟩ Q hQ=>by
 subst hx
 refine gG fun P_ k_=>?_
 obtain⟨ad,od,es,ep,ps,I,V,V,V,hd,P,KR⟩:=R.kh h1 h2 e
 refine k_ ?_
 rcases KR.look name with⟨b,y,l1,l2,r⟩|⟨V,l2⟩
 · rw[hv]at l1;cases l1
 · exact method_fn (R.aZ hK) I hga hk hf ht (by show(lookIn name od).map _=_;rw[m5 hd P,l2];rfl) (hQ α s _ (aG.refl _) R ⟨rfl,.cons ⟨b,e,rfl⟩ .nil⟩)
theorem Gm.dict{n:Nat}{kvs:List (Str×AV)}{name:Str}{id:String}{pl:Sem Bool}(h1:H[n]? =some (.dict kvs))(slot:Slot "dict" name id)(hty:typeOf (.builtin id)=pure (.type "method_descriptor")):
 JF C d u H fr (Vr (.ref n)) (fun ov=>getMethod ov name pl) (Fs (.glob (.builtin id)) [.ref n]) H:=.mk fun α s x R ⟨b,e,hx⟩ Q hQ=>by
 subst hx
 obtain⟨ps,hD,hk⟩:=R.obj n b _ e h1
 exact getMethod_builtin hD.typeIs PySem.F.plainAttrs_dict slot hty hD.mapOf.noDict (hQ α s _ (aG.refl _) R ⟨rfl,.cons ⟨b,e,rfl⟩ .nil⟩)
end
theorem gn:∀(ps:List (Str×Value)) (x:Str),valueAt ps x=ps.lookup x
 |[],_=>rfl
 |(k,v)::r,x=>by
  unfold valueAt
  by_cases h:k=x
  · subst h;simp[List.lookup]
  · have:(x==k)=false:=by simpa using fun z=>h z.symm
    simp only[List.lookup,this]
    rw[←gn r x]
    simp[valueAt,List.find?_cons,h]
noncomputable def f9(kvs:List (Str×AV))(k:Str)(v:AV):List (Str×AV):=
 if kvs.any (fun kv=>kv.1=k)then kvs.map (fun kv=>if kv.1=k then(kv.1,v)else kv)else kvs++[(k,v)]
noncomputable def gY(kvs more:List (Str×AV)):List (Str×AV):=more.foldl (fun acc kv=>f9 acc kv.1 kv.2) kvs
noncomputable def jN(kvs:List (Str×AV))(k:Str):List (Str×AV):=kvs.filter fun kv=>decide (kv.1≠k)
theorem aW.keys{α:List Addr}{kvs:List (Str×AV)}{ps:List (Str×Value)}(h:aW α kvs ps):kvs.map (·.1)=ps.map (·.1):=by
 induction h with
 |nil=>rfl
 |cons _ _ ih=>simp[ih]
theorem aW.length{α:List Addr}{kvs:List (Str×AV)}{ps:List (Str×Value)}(h:aW α kvs ps):kvs.length=ps.length:=by
 induction h with
 |nil=>rfl
 |cons _ _ ih=>simp[ih]
theorem aW.any{α:List Addr}{kvs:List (Str×AV)}{ps:List (Str×Value)}(h:aW α kvs ps)(k:Str):kvs.any (fun kv=>decide (kv.1=k))=ps.any (fun kv=>decide (kv.1=k)):=by
 induction h with
 |nil=>rfl
 |cons _ _ ih=>simp[ih]
theorem aW.append{α:List Addr}{a b:List (Str×AV)}{xs ys:List (Str×Value)}(h:aW α a xs)(h2:aW α b ys):aW α (a++b) (xs++ys):=by
 induction h with
 |nil=>exact h2
 |cons r _ ih=>exact .cons r ih
theorem aW.store{α:List Addr}{kvs:List (Str×AV)}{ps:List (Str×Value)}(h:aW α kvs ps){k:Str}{a:AV}{v:Value}(r:VR α a v):aW α (f9 kvs k a) (stored ps k v):=by
 unfold f9 stored
 rw[h.any k]
 split
 · rename_i q0
   clear q0
   induction h with
   |nil=>exact .nil
   | @cons k' a' v' xs vs r' _ ih=>
    simp only[List.map_cons]
    by_cases q:k'=k
    · subst q;simp only[if_true];exact .cons r ih
    · simp only[q,if_false];exact .cons r' ih
 · exact h.append (.cons r .nil)
theorem aW.merge{α:List Addr}{more:List (Str×AV)}{qs:List (Str×Value)}(h2:aW α more qs):∀{kvs:List (Str×AV)} {ps:List (Str×Value)},aW α kvs ps->aW α (gY kvs more) (merged ps qs):=by
 induction h2 with
 |nil=>intro kvs ps h;exact h
 |cons r _ ih=>intro kvs ps h;exact ih (h.store r)
theorem aW.without{α:List Addr}{kvs:List (Str×AV)}{ps:List (Str×Value)}(h:aW α kvs ps)(k:Str):aW α (jN kvs k) (PySem.without ps k):=by
 unfold jN PySem.without
 induction h with
 |nil=>exact .nil
 | @cons k' a' v' xs vs r' _ ih=>
  simp only[List.filter_cons]
  by_cases q:k'=k
  · subst q;simp only[ne_eq,not_true_eq_false,decide_false,Bool.false_eq_true,if_false];exact ih
  · simp only[ne_eq,q,not_false_eq_true,decide_true,if_true];exact .cons r' ih
noncomputable def JS(C:Cx)(d u:Nat)(H:List AO)(fr:List (Addr×FE))(value slice:Expr)(a b v:AV)(H':List AO):Prop:=fG C d u H fr (fun x y=>subscriptTail value slice x y) a b v H'
section
variable{C:Cx}{d u:Nat}{α:List Addr}{H H1 H2 H3:List AO}{fr:List (Addr×FE)}{fd:FuncData}{fa L:Addr}{ρ:ao}{env:Env}{pos:Pos}{K:Frag}
theorem Ev.sub{value slice:Expr}{a b v:AV}(h1:Ev C d u H fr (eval value env) a H1)(h2:Ev C d u H1 fr (eval slice env) b H2)(h3:JS C d u H2 fr value slice a b v H3):
 Ev C d u H fr (eval (.Subscript value slice pos) env) v H3:=.mk fun α s V R V Q hQ=>
 Subscript_ (h1.go R fun α1 sE x EY R1 rA=>h2.go R1 fun α2 sG y Ec R2 rB=>JF.then h3 (x:=(x,y)) R2 ⟨VR.mono Ec rA,rB⟩ fun α3 sI z E3 R3 rC=>hQ α3 sI z ((EY.trans Ec).trans E3) R3 rC)
theorem aC.dictAt{s:Shared}(R:aC C α H fr s){n:Nat}{a:Addr}{kvs:List (Str×AV)}(h1:H[n]? =some (.dict kvs))(e:α[n]? =some a):∃ ps,s.heap.DictOf (strKind C.prog C.w) a ps∧aW α kvs ps:=R.obj n a _ e h1
theorem aW.at{kvs:List (Str×AV)}{ps:List (Str×Value)}(h:aW α kvs ps){x:Str}{v:AV}(e:kvs.lookup x=some v):∃ y,valueAt ps x=some y∧VR α v y:=by
 rcases h.look x with⟨a,y,l1,l2,r⟩|⟨l1,V⟩
 · rw[e]at l1;cases l1;exact⟨y,by rw[gn,l2],r⟩
 · rw[e]at l1;cases l1
theorem aW.at_none{kvs:List (Str×AV)}{ps:List (Str×Value)}(h:aW α kvs ps){x:Str}(e:kvs.lookup x=none):valueAt ps x=none:=by
 rcases h.look x with⟨a,y,l1,l2,r⟩|⟨V,l2⟩
 · rw[e]at l1;cases l1
 · rw[gn,l2]
theorem aW.at_isSome{kvs:List (Str×AV)}{ps:List (Str×Value)}(h:aW α kvs ps)(x:Str):(valueAt ps x).isSome=(kvs.lookup x).isSome:=by
 rcases h.look x with⟨a,y,l1,l2,r⟩|⟨l1,l2⟩
 · rw[gn,l1,l2];rfl
 · rw[gn,l1,l2];rfl
theorem JS.dict{value slice:Expr}{n:Nat}{kvs:List (Str×AV)}{x:Str}{v:AV}(h1:H[n]? =some (.dict kvs))(hv:kvs.lookup x=some v)
 (hs:∀ o i,subscripted slice false o i=operate [o,i] (getItem o i)):JS C d u H fr value slice (.ref n) (.str x) v H:=.mk fun α s ⟨o,i⟩ R ⟨⟨a,e,ho⟩,⟨t,hi⟩⟩ Q hQ=>by
 dsimp only at ho hi;subst ho hi
 refine gG fun P_ k_=>?_
 obtain⟨ps,hD,hk⟩:=R.dictAt h1 e
 obtain⟨y,e1,r⟩:=hk.at hv
 refine k_ ?_
 exact tail_any hD.mapOf.typeIs slot_dict_getitem.lookup (wpAny_getItem_of (strKind_is C.prog C.w x t) hD.mapOf e1 (hQ α _ _ (aG.refl _) (R.toks _) r)) (hs _ _)
theorem JS.top{value slice:Expr}{a:Addr}{es:Array DictEntry}{n:Nat}{x:Str}{v:Value}(hK:K.In C.base)(hl:K.lookup a=some ⟨.type "dict",none,.dict es n,#[]⟩)(hk:KeysLit C.w.params es.toList)(e:nsIn K a x=some (some v))
 (hs:∀ o i,subscripted slice false o i=operate [o,i] (getItem o i)):JS C d u H fr value slice (.glob (.ref a)) (.str x) (bQ v) H:=.mk fun α s ⟨o,i⟩ R ⟨ho,⟨t,hi⟩⟩ Q hQ=>by
 dsimp only at ho hi;subst hi;cases ho
 have hm:=mapOf_K (prog:=C.prog) (R.aZ hK) hl hk
 exact tail_any hm.typeIs slot_dict_getitem.lookup (wpAny_getItem_of (strKind_is C.prog C.w x t) hm (find_K hl e) (hQ α _ _ (aG.refl _) (R.toks _) (VR.of _ _))) (hs _ _)
theorem E2.inDict{n:Nat}{kvs:List (Str×AV)}{x:Str}{b:Bool}(h1:H[n]? =some (.dict kvs))(hb:(kvs.lookup x).isSome=b):fG C d u H fr (compareOp .In) (.str x) (.ref n) (.bool b) H:=.mk fun α s ⟨i,o⟩ R ⟨⟨t,hi⟩,⟨a,e,ho⟩⟩ Q hQ=>by
 dsimp only at ho hi;subst ho hi
 obtain⟨ps,hD,hk⟩:=R.dictAt h1 e
 exact wpAny_in_of (strKind_is C.prog C.w x t) (R.noSys e) hD.mapOf (hQ α _ _ (aG.refl _) (R.toks _) (by show Value.bool _=_;rw[hk.at_isSome,hb]))
theorem E2.inTop{a:Addr}{es:Array DictEntry}{n:Nat}{x:Str}{r:Option Value}(hK:K.In C.base)(hl:K.lookup a=some ⟨.type "dict",none,.dict es n,#[]⟩)(hk:KeysLit C.w.params es.toList)(e:nsIn K a x=some r)(lo:(a==sysModules)=false):
 fG C d u H fr (compareOp .In) (.str x) (.glob (.ref a)) (.bool r.isSome) H:=.mk fun α s ⟨i,o⟩ R ⟨⟨t,hi⟩,ho⟩ Q hQ=>by
 dsimp only at hi;subst hi;cases ho
 exact wpAny_in_of (strKind_is C.prog C.w x t) lo (mapOf_K (prog:=C.prog) (R.aZ hK) hl hk) (by rw[find_K hl e];exact hQ α _ _ (aG.refl _) (R.toks _) rfl)
theorem JV.dcopy{n:Nat}{kvs:List (Str×AV)}(h1:H[n]? =some (.dict kvs))(hz:kvs.length≤sizeLine)(hn:C.n0≤H.length):JV C d u H fr (.glob (.builtin "dict.copy")) [.ref n] [] (.ref H.length) (H++[.dict kvs]):=.mk fun α s x xs ks R hx ha hk Q hQ=>by
 cases hx;cases hk
 obtain _|⟨⟨a,e,rfl⟩,_|_⟩:=ha
 obtain⟨ps,hD,hk⟩:=R.dictAt h1 e
 refine call_meetsIn PySem.F.slot_dict_copy hD.mapOf.typeIs PySem.F.entry_dict_copy (PySem.F.args_dict_copy_1 _) (meets_dict_copy (strKind C.prog C.w) a (R.noSys e)) ⟨ps,hD,by rw[←hk.length];exact hz,fun h' hD' hD2 hkp=>?_⟩
 have R':=R.Cz (o:=.dict kvs) (h':=h') (b:=s.heap.objs.size) hkp (Nat.le_refl _) (by obtain⟨o,es,ep,q,V⟩:=hD';exact Heap.lt_size q) hn (fun α' E V=>⟨ps,hD',hk.mono E⟩)
 exact hQ _ _ _ (aG.snoc _ _) R' ⟨_,by rw[←R.len];simp,rfl⟩
end
theorem rT{kv:Str×Value}{ps:List (Str×Value)}{k:Str}{v:Value}(h:kv.1≠k):stored (kv::ps) k v=kv::stored ps k v:=by
 unfold stored
 simp only[List.any_cons,h,decide_false,Bool.false_or,List.map_cons,if_false]
 split<;>rfl
theorem rR{kv:Str×Value}{ps:List (Str×Value)}{v:Value}(h:kv.1∉ps.map (·.1)):stored (kv::ps) kv.1 v=(kv.1,v)::ps:=by
 unfold stored
 simp only[List.any_cons,decide_true,Bool.true_or,if_true,List.map_cons]
 rw[map_store_of_not_mem ps kv.1 v h]
section
variable{prog:Program}{w:World}
theorem HF{es:List DictEntry}{ps:List (Str×Value)}(P:Pairs (strKind prog w) es ps)(hn:(ps.map (·.1)).Nodup){k:Str}{hsh:Int}{key v:Value}(hk:Value.isStrOf k key=true):
 Pairs (strKind prog w) (putL k hsh key v es) (stored ps k v):=by
 induction P with
 |nil=>exact .cons hk rfl .nil
 | @cons e kv es ps h1 h2 P ih=>
  simp only[List.map_cons,List.nodup_cons]at hn
  obtain⟨t,ht⟩:=fQ (k:=kv.1) h1
  have hd:e.key.isStr k=(kv.1==k):=by rw[ht];rfl
  by_cases q:kv.1=k
  · subst q
    rw[rR hn.1]
    unfold putL
    rw[hd]
    simp only[beq_self_eq_true,if_true]
    exact .cons h1 rfl P
  · rw[rT q]
    unfold putL
    rw[hd]
    simp only[beq_eq_false_iff_ne.mpr q,Bool.false_eq_true,if_false]
    exact .cons h1 h2 (ih hn.2)
theorem KD{es:List DictEntry}{k:Str}{key v:Value}(hk:Value.isStrOf k key=true)(h:∀ e∈es,∃ x,Value.isStrOf x e.key=true∧e.hash=hashStr w x):
 ∀ e∈putL k (hashStr w k) key v es,∃ x,Value.isStrOf x e.key=true∧e.hash=hashStr w x:=by
 induction es with
 |nil=>intro e he;obtain rfl:=List.mem_singleton.mp he;exact⟨k,hk,rfl⟩
 |cons a r ih=>
  intro e he
  unfold putL at he
  split at he
  · rcases List.mem_cons.mp he with rfl|he
    · obtain⟨x,h1,h2⟩:=h a (.head _);exact⟨x,h1,h2⟩
    · exact h e (.tail _ he)
  · rcases List.mem_cons.mp he with rfl|he
    · exact h _ (.head _)
    · exact ih (fun e q=>h e (.tail _ q)) e he
theorem zx{ps:List (Str×Value)}(hn:(ps.map (·.1)).Nodup)(k:Str)(v:Value):((stored ps k v).map (·.1)).Nodup:=by
 induction ps with
 |nil=>simp[stored]
 |cons kv ps ih=>
  simp only[List.map_cons,List.nodup_cons]at hn
  by_cases q:kv.1=k
  · subst q;rw[rR hn.1];simpa using hn
  · rw[rT q]
    simp only[List.map_cons,List.nodup_cons]
    refine⟨fun hm=>?_,ih hn.2⟩
    unfold stored at hm
    split at hm
    · rw[keys_map_store]at hm;exact hn.1 hm
    · rw[List.map_append]at hm
      rcases List.mem_append.mp hm with h|h
      · exact hn.1 h
      · simp at h;exact q h
theorem GD{h:Heap}{d:Addr}{ps:List (Str×Value)}(D:h.DictOf (strKind prog w) d ps)(k:Str)(t:Tok)(v:Value):
 ∃ es n,h.get? d=some (dictOf es n)∧aRefKeyMayBeTheName k es.toArray=false∧(h.update d (Obj.putName k (PyData.keyHash w.params k) (.str k t) v)).DictOf (strKind prog w) d (stored ps k v)∧∃ es' n',(h.update d (Obj.putName k (PyData.keyHash w.params k) (.str k t) v)).get? d=some (dictOf es' n')∧es'.length=(stored ps k v).length:=by
 refine gG fun P_ k_=>?_
 obtain⟨o,es,ep,ho,⟨c1,c2,c3⟩,hd,hk,hp,hn⟩:=D
 obtain⟨oc,od,oda,osl⟩:=o
 refine k_ ?_
 dsimp only at c1 c2 c3 hd
 subst c1 c2 c3 hd
 obtain⟨l⟩:=es
 have e:=putName_dict k (PyData.keyHash w.params k) (.str k t) v l ep
 have P':=HF (prog:=prog) (w:=w) hp hn (k:=k) (hsh:=PyData.keyHash w.params k) (key:=.str k t) (v:=v) (strKind_is prog w k t)
 have G:(h.update d (Obj.putName k (PyData.keyHash w.params k) (.str k t) v)).get? d=some (dictOf (putL k (PyData.keyHash w.params k) (.str k t) v l) (putN k l ep)):=by
  rw[Heap.get?_update_self _ ho (by rw[e];rfl)];exact congrArg some e
 refine⟨l,ep,ho,?_,⟨_,_,_,G,⟨rfl,rfl,rfl⟩,rfl,?_,P',zx hn k v⟩,_,_,G,P'.length⟩
 · rw[aRefKeyMayBeTheName_at, ←Array.any_toList, ←Array.any_toList]
   show(!l.any (·.key.isStr k)&&l.any (·.refKey))=false
   rw[sS hp,Bool.and_false]
 · intro x hx
   have hx:=List.mem_toArray.mp hx
   exact KD (w:=w) (k:=k) (key:=.str k t) (strKind_is prog w k t) (fun e he=>hk e (List.mem_toArray.mpr he)) x hx
theorem tV{A:Around}{E:Value->Shared->Prop}{s:Shared}{d:Addr}{ps:List (Str×Value)}{k:Str}{v:Value}{Q:Unit->Shared->Prop}(D:s.heap.DictOf (strKind prog w) d ps)
 (h:∀ h',Heap.SameBut d s.heap h'->h'.DictOf (strKind prog w) d (stored ps k v)->(∃ es' n',h'.get? d=some (dictOf es' n')∧es'.length=(stored ps k v).length)->Q () {s with heap:=h',toks:=s.toks+1}):wpAny (model prog w) A (nsSet d k v) Q E s:=by
 refine gG fun P_ k_=>?_
 obtain⟨es,n,e1,e2,e3,e4⟩:=GD D k s.toks v
 refine k_ ?_
 unfold nsSet
 refine wpAny_bind (wpAny_bind (wpAny_askSetting (wpAny_pure (wpAny_bind (wpAny_mkText (wpAny_bind (wpAny_loadPart e1 ?_)))))))
 dsimp only
 rw[e2]
 exact wpAny_updatePart e1 (h _ (Heap.SameBut.update ..) e3 e4)
end
section
variable{C:Cx}{d u:Nat}{α:List Addr}{H H1 H2 H3:List AO}{fr:List (Addr×FE)}{fd:FuncData}{fa L:Addr}{ρ:ao}{env:Env}{pos:Pos}{K:Frag}
noncomputable def JU{ι:Type}(C:Cx)(d u:Nat)(H:List AO)(fr:List (Addr×FE))(i:List Addr->ι->Prop)(t:ι->Sem Unit)(H':List AO):Prop:=JF C d u H fr i t Ur H'
theorem yx(kvs:List (Str×AV))(k:Str)(a:AV):(f9 kvs k a).length≤kvs.length+1:=by
 unfold f9;split<;>simp
theorem U2.own(hK:K.In C.base){n k:Nat}{Cc:Addr}{kvs:List (Str×AV)}{name:Str}{a:AV}(h1:H[n]? =some (.inst Cc k))(h2:H[k]? =some (.dict kvs))(hn:C.n0≤k)(hz:kvs.length≤900)
 (hs:findIn K (.ref Cc) "__setattr__"=some (some (.builtin "object.__setattr__"))) (hp:plainOver K Cc=true) (ht:takerIn K Cc name=some none) (hh:(clsIn K Cc).any (·.hasDict)=true):
 JU C d u H fr (Pr (.ref n) a) (fun x=>setAttr x.1 name x.2) (H.set k (.dict (f9 kvs name a))):=.mk fun α s ⟨o,v⟩ R ⟨⟨x,e,ho⟩,hv⟩ Q hQ=>by
 dsimp only at ho hv;subst ho
 refine gG fun P_ k_=>?_
 obtain⟨ad,od,es,ep,ps,I,e2,h3,h4,h5,P,KR⟩:=R.kh h1 h2 e
 obtain⟨ps',D,KR'⟩:=R.dictAt h2 e2
 refine k_ ?_
 have X:=R.aZ hK
 refine set_plain X I hs (osa_open (s:={s with toks:=s.toks+1}) X I hp ht fun b=>?_)
 obtain⟨cd,hc,hd'⟩:=any_some hh
 refine wpAny_bind (wpAny_pure (wpAny_bind (wpAny_bind (wpAny_loadPart I.at_ (wpAny_bind (Looks.here (s:={s with toks:=s.toks+1}) (looks_clsIn X hc) ?_))))))
 rw[hd']
 refine wpAny_pure (a:=some ad) (wpAny_bind (wpAny_pure (wpAny_bind ?_)))
 refine tV (s:={s with toks:=s.toks+1}) D fun h' hsb D' hg=>?_
 obtain⟨es',n',g1,g2⟩:=hg
 have KS:=KR'.store (k:=name) hv
 refine wpAny_bind (wpAny_lookBehind g1 (pastItsLine_dict (by
  have:=yx kvs name a
  rw[List.size_toArray,sizeLine_eq,g2, ←KS.length];exact o3 hz this)) ?_)
 refine wpAny_pure ?_
 have R':=(R.update (h':=h') (o:=.dict (f9 kvs name a)) hn e2 hsb ⟨_,D',KS⟩).toks (s.toks+1+1)
 exact hQ _ _ _ (aG.refl _) R' trivial
end
noncomputable def pC{α:Type}(K:Frag)(S:Setting):Sem α->Option (Obj×(Addr->Sem α)):=
 @Sem.rec α (fun V=>Option (Obj×(Addr->Sem α))) (fun V=>none) (fun V=>none) (fun V=>none) (fun V=>none) (fun V V i=>i ()) (fun V V V=>none) (fun a V V i=>(K.lookup a).bind i) (fun V V V V V=>none) (fun o k V=>some (o,k))
  (fun V V V=>none) (fun V V i=>i ()) (fun V V V=>none) (fun V V=>none) (fun V i=>i S) (fun V V V V=>none) (fun V V V V=>none) (fun V V V V V V=>none) (fun V V V=>none) (fun V V V=>none) (fun V V V=>none)
  (fun V V V V V=>none) (fun V V V V V=>none) (fun V V=>none) (fun V V V=>none) (fun V V=>none) (fun V V V V V V=>none)
noncomputable def PW{α:Type}(K:Frag)(M:Model)(A:Around)(E:Value->Shared->Prop)(Q:α->Shared->Prop)(s:Shared)(o:Obj)(t:Sem α):Prop:=
 ∀ g,pC K ⟨M.prog,M.w.params⟩ t=some (o,g)->wpAny M A (g s.heap.objs.size) Q E {s with heap:=s.heap.push o}->wpAny M A t Q E s
section
variable{α:Type}{K:Frag}{M:Model}{A:Around}{E:Value->Shared->Prop}{Q:α->Shared->Prop}{s:Shared}{o:Obj}
theorem PW.no{t:Sem α}(h:pC K ⟨M.prog,M.w.params⟩ t=none):PW K M A E Q s o t:=fun g e=>nomatch h.symm.trans e
theorem PW.ld(X:K.In s.heap){a:Addr}{c:Option Value}{k:Obj->Sem α}(ih:∀ x,PW K M A E Q s o (k x)):PW K M A E Q s o (.load a c k):=fun g e q Γ p hΓ=>by
 have e:(K.lookup a).bind (fun x=>pC K ⟨M.prog,M.w.params⟩ (k x))=some (o,g):=e
 cases ho:K.lookup a with
 |some ob=>rw[ho]at e;exact⟨ob,X _ _ ho,ih ob g e q Γ p hΓ⟩
 |none=>rw[ho]at e;cases e
theorem PW.al{ob:Obj}{k:Addr->Sem α}:PW K M A E Q s o (.alloc ob k):=fun g e q=>by
 have e:some (ob,k)=some (o,g):=e
 obtain⟨e1,e2⟩:=Prod.mk.inj (Option.some.inj e)
 subst e1
 subst e2
 show wpAny M A (alloc ob>>= k) Q E s
 exact wpAny_bind (wpAny_alloc q)
theorem CP(X:K.In s.heap):∀(t:Sem α),PW K M A E Q s o t:=
 @Sem.rec α (PW K M A E Q s o) (fun V=>.no rfl) (fun V=>.no rfl) (fun V=>.no rfl) (fun V=>.no rfl) (fun V V i g e q Γ p h=>i () g e q Γ p h) (fun V V V=>.no rfl) (fun a V V i=>.ld X i) (fun V V V V V=>.no rfl) (fun o k V=>.al)
  (fun V V V=>.no rfl) (fun V V i g e q Γ p h=>i () g e q Γ p h) (fun V V V=>.no rfl) (fun V V=>.no rfl) (fun V i g e q Γ p h=>i _ g e q Γ p h) (fun V V V V=>.no rfl) (fun V V V V=>.no rfl) (fun V V V V V V=>.no rfl) (fun V V V=>.no rfl) (fun V V V=>.no rfl) (fun V V V=>.no rfl)
  (fun V V V V V=>.no rfl) (fun V V V V V=>.no rfl) (fun V V=>.no rfl) (fun V V V=>.no rfl) (fun V V=>.no rfl) (fun V V V V V V=>.no rfl)
end
theorem Ew{prog:Program}{w:World}{A:Around}{E:Value->Shared->Prop}{D:Addr}{Q:PUnit->Shared->Prop}:∀(ex:List (Str×Value)) (s:Shared) (ps:List (Str×Value)),s.heap.DictOf (strKind prog w) D ps->
 (∀ h',Heap.SameBut D s.heap h'->h'.DictOf (strKind prog w) D (merged ps ex)->Q ⟨⟩ {s with heap:=h',toks:=s.toks+ex.length})->
 wpAny (model prog w) A (forIn ex PUnit.unit fun x V=>(nsSet D x.1 x.2>>= fun V=>pure (ForInStep.yield PUnit.unit))) Q E s
 |[],s,ps,hD,h=>by
  rw[List.forIn_nil]
  exact wpAny_pure (h s.heap (Heap.SameBut.refl _ _) hD)
 |x::r,s,ps,hD,h=>by
  rw[List.forIn_cons]
  refine wpAny_bind (wpAny_bind (tV hD fun h' hsb hD' V=>wpAny_pure ?_))
  show wpAny (model prog w) A (forIn r PUnit.unit fun x V=>(nsSet D x.1 x.2>>= fun V=>pure (ForInStep.yield PUnit.unit))) Q E {s with heap:=h',toks:=s.toks+1}
  refine Ew r {s with heap:=h',toks:=s.toks+1} _ hD' fun h'' hsb' hD''=>?_
  have t1:s.toks+1+r.length=s.toks+(r.length+1):=by omega
  show Q ⟨⟩ {s with heap:=h'',toks:=s.toks+1+r.length}
  rw[t1]
  exact h h'' (hsb.trans hsb') hD''
section
variable{C:Cx}{d u:Nat}{α:List Addr}{H H1 H2 H3:List AO}{fr:List (Addr×FE)}{fd:FuncData}{fa L:Addr}{ρ:ao}{env:Env}{pos:Pos}{K:Frag}
theorem JC.cls(hK:K.In C.base){Cc fI:Addr}{as:List AV}{kw:List (Str×AV)}{H':List AO}(hm:makesIn K Cc=true)(hi:findIn K (.ref Cc) "__init__"=some (some (.ref fI)))(hf:typeIn K (.ref fI)=some (.type "function"))(hn0:C.n0≤H.length)
 (h:JC C (d+1) (u+1) (H++[.dict []]++[.inst Cc H.length]) fr (.glob (.ref fI)) (.ref (H.length+1)::as) kw .none H'):JC C d u H fr (.glob (.ref Cc)) as kw (.ref (H.length+1)) H':=.mk fun α s x args R hx ha hk Q hQ=>by
 cases hx
 obtain⟨rest,kw'⟩:=args
 have X:=R.aZ hK
 have hl:=R.len
 have R1:=R.alloc (ob:=emptyDict) (o:=.dict []) rfl hn0 fun h' α' e E q=>⟨[],⟨_,#[],0,e,⟨rfl,rfl,rfl⟩,rfl,fun V he=>by simp at he,Pairs.nil,List.nodup_nil⟩,.nil⟩
 have R2:=R1.alloc (ob:=instObj Cc s.heap.objs.size) (o:=.inst Cc H.length) rfl (by simp;exact o4 hn0 hl) fun h' α' e E q=>⟨s.heap.objs.size,E.get (by rw[←hl];simp),e⟩
 have Ec:aG α (α++[s.heap.objs.size]++[(s.heap.push emptyDict).objs.size]):=(aG.snoc _ _).trans (aG.snoc _ _)
 have sz:(s.heap.push emptyDict).objs.size=s.heap.objs.size+1:=Heap.size_push ..
 dsimp only at R2
 rw[sz]at R2 Ec
 refine gG fun P_ k_=>?_
 obtain⟨hh,g,dd,t,os⟩:=s
 refine k_ ?_
 have self:VR (α++[hh.objs.size]++[hh.objs.size+1]) (.ref (H.length+1)) (.ref (hh.objs.size+1)):=⟨_,by rw[←hl];simp,rfl⟩
 refine make_core (makes_of X hm) (looks_findIn X hi) (fun self=>bind_fn X self hf) (.inl rfl) ?_
 exact codeAny_mono (h.run _ _ _ ⟨.ref (hh.objs.size+1)::rest,kw'⟩ R2 rfl (.cons self (ha.mono Ec)) (hk.mono Ec) (fun v s'=>v=.none∧Q (.ref (hh.objs.size+1)) s') fun α3 sI y E3 R3 rC=>⟨rC,hQ _ _ _ (Ec.trans E3) R3 (self.mono E3)⟩) (rtC fun V V x=>x)
theorem JC.cls0(hK:K.In C.base){Cc:Addr}(hm:makesIn K Cc=true)(hi:findIn K (.ref Cc) "__init__"=some (some (.builtin "object.__init__")))(hn0:C.n0≤H.length):
 JC C d u H fr (.glob (.ref Cc)) [] [] (.ref (H.length+1)) (H++[.dict []]++[.inst Cc H.length]):=.mk fun α s x args R hx ha hk Q hQ=>by
 cases hx
 obtain⟨rest,kw'⟩:=args
 cases ha
 cases hk
 have X:=R.aZ hK
 have hl:=R.len
 have R1:=R.alloc (ob:=emptyDict) (o:=.dict []) rfl hn0 fun h' α' e E q=>⟨[],⟨_,#[],0,e,⟨rfl,rfl,rfl⟩,rfl,fun V he=>by simp at he,Pairs.nil,List.nodup_nil⟩,.nil⟩
 have R2:=R1.alloc (ob:=instObj Cc s.heap.objs.size) (o:=.inst Cc H.length) rfl (by simp;exact o4 hn0 hl) fun h' α' e E q=>⟨s.heap.objs.size,E.get (by rw[←hl];simp),e⟩
 have Ec:aG α (α++[s.heap.objs.size]++[(s.heap.push emptyDict).objs.size]):=(aG.snoc _ _).trans (aG.snoc _ _)
 have sz:(s.heap.push emptyDict).objs.size=s.heap.objs.size+1:=Heap.size_push ..
 dsimp only at R2
 rw[sz]at R2 Ec
 refine gG fun P_ k_=>?_
 obtain⟨hh,g,dd,t,os⟩:=s
 refine k_ ?_
 have self:VR (α++[hh.objs.size]++[hh.objs.size+1]) (.ref (H.length+1)) (.ref (hh.objs.size+1)):=⟨_,by rw[←hl];simp,rfl⟩
 have Y:=makes_of (M:=model C.prog C.w) X hm
 refine make_core Y (looks_findIn X hi) (fun self=>Looks.of_pure (oi_bind self)) (.inr ⟨rfl,rfl⟩) ?_
 have hx:((hh.push emptyDict).push (instObj Cc hh.objs.size)).get? (hh.objs.size+1)=some (instObj Cc hh.objs.size):=by rw[←sz];exact Heap.get?_push_size _ rfl
 have t1:Looks (model C.prog C.w) ((hh.push emptyDict).push (instObj Cc hh.objs.size)) (typeOf (.ref (hh.objs.size+1))) (.ref Cc):=(Looks.ld hx).andThen .now
 have t2:Looks (model C.prog C.w) ((hh.push emptyDict).push (instObj Cc hh.objs.size)) (isInstance (.ref (hh.objs.size+1)) (.type "object")) true:=t1.andThen (Y.top.keeps fun b o e=>Heap.get?_push_of_some _ (Heap.get?_push_of_some _ e))
 refine codeAny_call_builtin oi_plain entry_oi (@check_slot (model C.prog C.w) _ _ _ "object.__init__" "object" "__init__" (.ref (hh.objs.size+1)) [] [] _ oi_kind oi_split t2 (oi_args (.ref (hh.objs.size+1))) ?_)
 rw[oi_run]
 exact wpAny_pure (And.intro rfl (hQ _ _ _ Ec R2 self))
end
noncomputable def fY(C:Cx)(d u:Nat)(Inv:List AO->Prop)(L:Addr)(x:Str)(fr:List (Addr×FE))(body:Sem Flow):List AV->List AO->ao->FA->List AO->ao->Prop
 |[],H,ρ,f,H',ρ'=>Inv H∧f=.next∧H'=H∧ρ'=ρ
 |v::r,H,ρ,f,H',ρ'=>Inv H∧((∃ H1 ρ1,(∀ it P,Ex C d u H L (put x v ρ) ((it,.raw P)::fr) body .next H1 ρ1)∧fY C d u Inv L x fr body r H1 ρ1 f H' ρ')∨
  ((∃ w,f=.ret w)∧∀ it P,Ex C d u H L (put x v ρ) ((it,.raw P)::fr) body f H' ρ'))
section
variable{C:Cx}{d u:Nat}{α:List Addr}{H H1 H2 H3:List AO}{fr:List (Addr×FE)}{fd:FuncData}{fa L:Addr}{ρ ρ':ao}{env:Env}{pos:Pos}{K:Frag}{f:FA}{Inv:List AO->Prop}{x:Str}{body:List Stmt}{H':List AO}
theorem fY.nil(h:Inv H){b:Sem Flow}:fY C d u Inv L x fr b [] H ρ .next H ρ:=⟨h,rfl,rfl,rfl⟩
theorem fY.cons{v:AV}{r:List AV}{ρ1:ao}{b:Sem Flow}(h:Inv H)(h1:∀ it P,Ex C d u H L (put x v ρ) ((it,.raw P)::fr) b .next H1 ρ1)(h2:fY C d u Inv L x fr b r H1 ρ1 f H' ρ'):fY C d u Inv L x fr b (v::r) H ρ f H' ρ':=⟨h,.inl ⟨H1,ρ1,h1,h2⟩⟩
theorem fY.stop{v w:AV}{r:List AV}{b:Sem Flow}(h:Inv H)(h1:∀ it P,Ex C d u H L (put x v ρ) ((it,.raw P)::fr) b (.ret w) H' ρ'):fY C d u Inv L x fr b (v::r) H ρ (.ret w) H' ρ':=⟨h,.inr ⟨⟨w,rfl⟩,h1⟩⟩
theorem fY.inv{vs:List AV}{b:Sem Flow}(h:fY C d u Inv L x fr b vs H ρ f H' ρ'):Inv H:=by cases vs<;>exact h.1
theorem tZ{px:Pos}{it:Addr}{α0:List Addr}{items:List AV}{P:Nat->Obj->Prop}{s:Shared}{R:Result->Shared->Prop}(hk:fd.scope.kind=.function)(hx:fd.scope.names.lookup x=some .local)
 (item:∀ i v,items[i]? =some v->∀ α s H ρ,aG α0 α->Inv H->aC C α H ((it,.raw (P i))::(L,.loc ρ)::fr) s->∀ Q:Option Value->Shared->Prop,(∀ s' y,aC C α H ((it,.raw (P (i+1)))::(L,.loc ρ)::fr) s'->VR α v y->Q (some y) s')->Wp C d u (pyNext (.ref it)) Q s)
 (fin:∀ α s H ρ,aG α0 α->Inv H->aC C α H ((it,.raw (P items.length))::(L,.loc ρ)::fr) s->∀ Q:Option Value->Shared->Prop,(∀ s',aC C α H ((L,.loc ρ)::fr) s'->Q none s')->Wp C d u (pyNext (.ref it)) Q s)
 (hb:fY C d u Inv L x fr (execs body (callEnv fd L fa)) items H ρ f H' ρ') (hE:aG α0 α) (R0:aC C α H ((it,.raw (P 0))::(L,.loc ρ)::fr) s)
 (hR:∀ α' s' y,aG α α'->aC C α' H' ((L,.loc ρ')::fr) s'->FR α' f y->R (.ok y) s'):
 codeAny (model C.prog C.w) (Ar d u) (.forLoop (.Name x px) (.ref it) body [] (callEnv fd L fa)) R s:=by
 refine codeAny_forLoop (fun n s=>∃ i α1 H1 ρ1,n=items.length - i∧i≤items.length∧aG α α1∧aC C α1 H1 ((it,.raw (P i))::(L,.loc ρ1)::fr) s∧fY C d u Inv L x fr (execs body (callEnv fd L fa)) (items.drop i) H1 ρ1 f H' ρ') ?_ (items.length - 0)
  ⟨0,α,H,ρ,rfl,Nat.zero_le _,aG.refl _,R0,by simpa using hb⟩
 refine fun n sE hI=>x45 hI fun i α1 H1 ρ1 en hi EY R1 hb1=>?_
 subst en
 refine lR fun G hG=>?_
 cases hv:items[i]? with
 |none=>
  have hi':i=items.length:=Nat.le_antisymm hi (by simpa using hv)
  subst hi'
  rw[List.drop_length]at hb1
  refine x04 hb1 fun hI e1 e2 e3=>?_
  subst e1 e2 e3
  exact cY (fin α1 sE _ _ (hE.trans EY) hI R1 _ fun sG R2=>hG _ _ (wpAny_execs_nil (hR α1 sG _ EY R2 rfl)))
 |some v=>
  have hlt:i<items.length:=(List.getElem?_eq_some_iff.mp hv).1
  have hd:items.drop i=v::items.drop (i+1):=by
   rw[List.drop_eq_getElem_cons hlt];congr 1;exact(List.getElem?_eq_some_iff.mp hv).2
  rw[hd]at hb1
  refine x02 hb1 fun hI hb1=>?_
  refine cY (item i v hv α1 sE H1 ρ1 (hE.trans EY) hI R1 _ fun sG y R2 rB=>hG _ _ (lR fun G2 hGB=>?_))
  refine cY (wpAny_assign_Name (aC.stores (fd:=fd) (fa:=fa) R2.swap rB hx hk fun sI R3=>hGB _ _ ?_))
  rcases hb1 with⟨H2,ρ2,hex,hrest⟩|⟨⟨w,rfl⟩,hex⟩
  · refine cY ((hex it (P (i+1))).go R3 fun α4 s4 y' E4 R4 r4=>?_)
    rw[show y'=.next from r4]
    exact⟨items.length - (i+1),by exact o5 hlt,i+1,α4,H2,ρ2,rfl,hlt,EY.trans E4,R4.swap,hrest⟩
  · refine cY ((hex it (P (i+1))).go R3 fun α4 s4 y' E4 R4 r4=>?_)
    refine x12 r4 fun z hz r=>?_
    rw[hz]
    exact hR α4 s4 _ (EY.trans E4) R4.swap.leave ⟨z,rfl,r⟩
end
section
variable{C:Cx}{d u:Nat}{α:List Addr}{H H1 H2 H3:List AO}{fr:List (Addr×FE)}{fd:FuncData}{fa L:Addr}{ρ ρ':ao}{env:Env}{pos:Pos}{K:Frag}{f:FA}{Inv:List AO->Prop}{x:Str}{body:List Stmt}{H':List AO}
theorem aC.drop{it:Addr}{e:FE}{s:Shared}(R:aC C α H ((it,e)::(L,.loc ρ)::fr) s){h':Heap}{t:Nat}(hs:Heap.ExtBut it s.heap h'):aC C α H ((L,.loc ρ)::fr) {s with heap:=h',toks:=t}:=by
 obtain⟨hb,V,hd⟩:=R.frs (it,e) (.head _)
 have nd:=R.jm
 simp only[List.map_cons,List.nodup_cons,List.mem_cons,not_or]at nd
 have ne:∀ p∈((L,.loc ρ)::fr:List (Addr×FE)),p.1≠it:=fun p hp z=>by
  rcases List.mem_cons.mp hp with rfl|hp
  · exact nd.1.1 z.symm
  · exact nd.1.2 (by rw[←z];exact List.mem_map_of_mem hp)
 have hrel:∀ p∈((L,.loc ρ)::fr:List (Addr×FE)),p.2.rel α h' p.1:=fun p hp=>by
  obtain⟨V,h2,V⟩:=R.frs p (.tail _ hp)
  obtain⟨y,hy⟩:=h2.get
  exact h2.congr (aG.refl _) ((hs _ _ (ne p hp) hy).trans hy.symm)
 refine⟨fun b x ex=>hs b x (nT ex hb) (R.keep b x ex),trivial,R.len,?_,R.fresh,R.inj,?_,by simpa using nd.2,R.gP,R.sys,R.gens,R.drawn,R.os⟩
 · intro i b x e1 e2
   have r:=R.obj i b x e1 e2
   obtain⟨y,hy⟩:=r.get
   exact r.congr ((hs _ _ (hd i b e1) hy).trans hy.symm)
 · intro p hp
   obtain⟨h1,V,h4⟩:=R.frs p (.tail _ hp)
   exact⟨h1,hrel p hp,h4⟩
noncomputable def zj(t:Addr)(i:Nat)(o:Obj):Prop:=o.cls=.type "tuple_iterator"∧o.data=.fields #[.ref t,.int i 0]
noncomputable def cL(t:Addr)(i:Nat)(o:Obj):Prop:=o.cls=.type "list_iterator"∧o.data=.fields #[.ref t,.int i 0]
theorem Ex.forTup{px:Pos}{iter:Expr}{a:Addr}{l:List Value}{n:Nat}{dd:Option Addr}{sl:Array (Option Value)}(hK:K.In C.base)(hk:fd.scope.kind=.function)(hx:fd.scope.names.lookup x=some .local)
 (h:Ev C d u H ((L,.loc ρ)::fr) (eval iter (callEnv fd L fa)) (.glob (.ref a)) H1) (hl:K.lookup a=some ⟨.type "tuple",dd,.seq l.toArray n,sl⟩)
 (hb:fY C d u (fun V=>True) L x fr (execs body (callEnv fd L fa)) (l.map bQ) H1 ρ f H' ρ') (hs:∀ x,foldedSetIterable iter (callEnv fd L fa) x=pure x):
 Ex C d u H L ρ fr (exec (.For (.Name x px) iter body [] pos) (callEnv fd L fa)) f H' ρ':=.mk fun α s R Q hQ=>by
 refine wpAny_For (h.go R fun α1 sE y EY R1 rA=>?_) hs
 cases rA
 have T:∀{s:Shared},K.In s.heap->s.heap.IsTuple a l.toArray:=fun X=>⟨_,X _ _ hl,rfl,n,rfl⟩
 refine wpAny_pyIter_tuple (T (R1.aZ hK)) ?_
 have R2:=R1.beside (h':=sE.heap.push {cls:=.type "tuple_iterator",data:=.fields #[.ref a,.int 0 0]}) (f:=.raw (zj a 0)) (b:=sE.heap.objs.size) (t:=sE.toks) ⟨_,Heap.get?_push_size _ rfl,rfl,rfl⟩ (Nat.le_refl _) fun b o e=>Heap.get?_push_of_some _ e
 refine tZ (P:=zj a) (α0:=α1) hk hx (fun i v hv α s H ρ V V R Q hQ=>?_) (fun α s H ρ V V R Q hQ=>?_) hb (aG.refl _) R2 fun α3 sI y E3 R3 rC=>hQ α3 sI y (EY.trans E3) R3 rC
 · refine gG fun P_ k_=>?_
   obtain⟨V,⟨o,ho,hc,hd⟩,V⟩:=R.frs _ (.head _)
   refine k_ ?_
   rw[List.getElem?_map]at hv
   obtain⟨y,hy,rfl⟩:=Option.map_eq_some_iff.mp hv
   refine wpAny_pyNext_tuple_item ⟨o,ho,hc,hd⟩ (T (R.aZ hK)) (x:=y) (by simpa using hy) fun h' ⟨o',g1,g2,g3⟩ hsb=>hQ _ _ (R.turn (f':=.raw (zj a (i+1))) hsb ⟨o',g1,g2,g3⟩) (VR.of _ _)
 · refine gG fun P_ k_=>?_
   obtain⟨V,⟨o,ho,hc,hd⟩,V⟩:=R.frs _ (.head _)
   refine k_ ?_
   exact wpAny_pyNext_tuple_end rfl ⟨o,ho,hc,hd⟩ (T (R.aZ hK)) (by simp) fun h' he=>hQ _ (R.drop (t:=s.toks) he)
theorem bM.len{as:List AV}{xs:List Value}(h:bM α as xs):as.length=xs.length:=by
 induction h with
 |nil=>rfl
 |cons _ _ ih=>simp[ih]
theorem bM.nth{as:List AV}{xs:List Value}(h:bM α as xs):∀{i:Nat} {a:AV},as[i]? =some a->∃ y,xs[i]? =some y∧VR α a y:=by
 induction h with
 |nil=>intro i a e;simp at e
 |cons r _ ih=>
  intro i a e
  cases i with
  |zero=>simp at e;subst e;exact⟨_,rfl,r⟩
  |succ i=>simp at e;simpa using ih e
theorem Ex.rJ{px:Pos}{iter:Expr}{n:Nat}{vs:List AV}(hk:fd.scope.kind=.function)(hx:fd.scope.names.lookup x=some .local)
 (h:Ev C d u H ((L,.loc ρ)::fr) (eval iter (callEnv fd L fa)) (.ref n) H1)
 (hb:fY C d u (fun H=>H[n]? =some (.list vs)) L x fr (execs body (callEnv fd L fa)) vs H1 ρ f H' ρ') (hs:∀ x,foldedSetIterable iter (callEnv fd L fa) x=pure x):
 Ex C d u H L ρ fr (exec (.For (.Name x px) iter body [] pos) (callEnv fd L fa)) f H' ρ':=.mk fun α s R Q hQ=>by
 refine wpAny_For (h.go R fun α1 sE y EY R1 rA=>?_) hs
 refine gG fun P_ k_=>?_
 obtain⟨a,e,rfl⟩:=rA
 obtain⟨xs,hL,hv⟩:=R1.obj n a _ e hb.inv
 refine k_ ?_
 refine wpAny_pyIter_list hL.isList ?_
 have R2:=R1.beside (h':=sE.heap.push {cls:=.type "list_iterator",data:=.fields #[.ref a,.int 0 0]}) (f:=.raw (cL a 0)) (b:=sE.heap.objs.size) (t:=sE.toks) ⟨_,Heap.get?_push_size _ rfl,rfl,rfl⟩ (Nat.le_refl _) fun b o e=>Heap.get?_push_of_some _ e
 refine tZ (P:=cL a) (α0:=α1) hk hx (fun i v hv α s H ρ E hI R Q hQ=>?_) (fun α s H ρ E hI R Q hQ=>?_) hb (aG.refl _) R2 fun α3 sI y E3 R3 rC=>hQ α3 sI y (EY.trans E3) R3 rC
 · refine gG fun P_ k_=>?_
   obtain⟨V,⟨o,ho,hc,hd⟩,V⟩:=R.frs _ (.head _)
   obtain⟨xs,hL,hvs⟩:=R.obj n a _ (E.get e) hI
   obtain⟨y,hy,r⟩:=hvs.nth hv
   refine k_ ?_
   refine wpAny_pyNext_list_item ⟨o,ho,hc,hd⟩ hL.isList (x:=y) (by simpa using hy) fun h' ⟨o',g1,g2,g3⟩ hsb=>hQ _ _ (R.turn (f':=.raw (cL a (i+1))) hsb ⟨o',g1,g2,g3⟩) r
 · refine gG fun P_ k_=>?_
   obtain⟨V,⟨o,ho,hc,hd⟩,V⟩:=R.frs _ (.head _)
   obtain⟨xs,hL,hvs⟩:=R.obj n a _ (E.get e) hI
   refine k_ ?_
   exact wpAny_pyNext_list_end rfl ⟨o,ho,hc,hd⟩ hL.isList (by simp[hvs.len]) fun h' he=>hQ _ (R.drop (t:=s.toks) he)
end
section
variable{C:Cx}{d u:Nat}{α:List Addr}{H H1 H2 H3:List AO}{fr:List (Addr×FE)}{fd:FuncData}{fa L:Addr}{ρ ρ':ao}{env:Env}{pos:Pos}{K:Frag}{f:FA}
theorem aC.ne{s:Shared}(R:aC C α H fr s){i j:Nat}{a b:Addr}(hn:C.n0≤i)(hij:i≠j)(e1:α[i]? =some a)(e2:α[j]? =some b):a≠b:=fun z=>hij (R.inj i j a hn e1 (z▸e2))
theorem JV.dupdate{n m:Nat}{kvs more kvs':List (Str×AV)}(h1:H[n]? =some (.dict kvs))(h2:H[m]? =some (.dict more))(hn:C.n0≤n)(hnm:n≠m)(hz:kvs.length+more.length≤sizeLine)(he:gY kvs more=kvs'):
 JV C d u H fr (.glob (.builtin "dict.update")) [.ref n,.ref m] [] .none (H.set n (.dict kvs')):=.mk fun α s x xs ks R hx ha hk Q hQ=>by
 cases hx;cases hk
 obtain _|⟨⟨a,e,rfl⟩,_|⟨⟨b,e',rfl⟩,_|_⟩⟩:=ha
 refine gG fun P_ k_=>?_
 obtain⟨ps,hD,hk⟩:=R.dictAt h1 e
 obtain⟨qs,hD',hk'⟩:=R.dictAt h2 e'
 refine k_ ?_
 refine call_meetsIn PySem.F.slot_dict_update hD.typeIs PySem.F.entry_dict_update (PySem.F.args_dict_update_2 _ _) (meets_dict_update (strKind C.prog C.w) a b (R.ne hn hnm e e') (R.noSys e'))
  ⟨ps,qs,hD,hD',by rw[←hk.length, ←hk'.length];exact hz,fun h' g1 g2 g3=>?_⟩
 exact hQ α _ _ (aG.refl _) (R.update (h':=h') (o:=.dict kvs') hn e g3 ⟨_,g1,by rw[←he];exact hk'.merge hk⟩) rfl
theorem sX(x:Str)(t:Tok):(keyPart (.str x t)).isSome=true:=rfl
theorem JV.dpop{n:Nat}{kvs:List (Str×AV)}{x:Str}{v dflt:AV}(h1:H[n]? =some (.dict kvs))(hn:C.n0≤n)(hz:kvs.length≤sizeLine)(hv:kvs.lookup x=some v):
 JV C d u H fr (.glob (.builtin "dict.pop")) [.ref n,.str x,dflt] [] v (H.set n (.dict (jN kvs x))):=.mk fun α s f xs ks R hx ha hk Q hQ=>by
 cases hx;cases hk
 obtain _|⟨⟨a,e,rfl⟩,_|⟨⟨t,rfl⟩,_|⟨r,_|_⟩⟩⟩:=ha
 refine gG fun P_ k_=>?_
 obtain⟨ps,hD,hk⟩:=R.dictAt h1 e
 obtain⟨y,e1,r1⟩:=hk.at hv
 refine k_ ?_
 refine call_meetsIn PySem.F.slot_dict_pop hD.typeIs PySem.F.entry_dict_pop (PySem.F.args_dict_pop_3 _ _ _) (meets_dict_pop_there (knd:=strKind C.prog C.w) (d:=a) (k:=x) (strKind_is C.prog C.w x t) [_] (.inr ⟨_,rfl⟩) (sX x t))
  ⟨ps,y,hD,by rw[←hk.length];exact hz,e1,fun h' g1 g2=>?_⟩
 exact hQ α _ _ (aG.refl _) ((R.update (h':=h') (o:=.dict (jN kvs x)) hn e g2 ⟨_,g1,hk.without x⟩).toks _) r1
theorem JV.Mr{n:Nat}{kvs:List (Str×AV)}{x:Str}{dflt:AV}(h1:H[n]? =some (.dict kvs))(hv:kvs.lookup x=none):
 JV C d u H fr (.glob (.builtin "dict.pop")) [.ref n,.str x,dflt] [] dflt H:=.mk fun α s f xs ks R hx ha hk Q hQ=>by
 cases hx;cases hk
 obtain _|⟨⟨a,e,rfl⟩,_|⟨⟨t,rfl⟩,_|⟨r,_|_⟩⟩⟩:=ha
 obtain⟨ps,hD,hk⟩:=R.dictAt h1 e
 refine call_meetsIn PySem.F.slot_dict_pop hD.typeIs PySem.F.entry_dict_pop (PySem.F.args_dict_pop_3 _ _ _) (meets_dict_pop_default (knd:=strKind C.prog C.w) (d:=a) (k:=x) (strKind_is C.prog C.w x t) (R.noSys e) (sX x t) _)
  ⟨ps,hD,hk.at_none hv,?_⟩
 exact hQ α _ _ (aG.refl _) (R.toks _) r
theorem JV.dgetTop{a:Addr}{es:Array DictEntry}{n:Nat}{x:Str}{r:Option Value}(hK:K.In C.base)(hl:K.lookup a=some ⟨.type "dict",none,.dict es n,#[]⟩)(hk:KeysLit C.w.params es.toList)(e:nsIn K a x=some r)(lo:(a==sysModules)=false):
 JV C d u H fr (.glob (.builtin "dict.get")) [.glob (.ref a),.str x] [] (bQ (r.getD .none)) H:=.mk fun α s f xs ks R hx ha hkw Q hQ=>by
 cases hx;cases hkw
 obtain _|⟨ra,_|⟨⟨t,rfl⟩,_|_⟩⟩:=ha
 cases ra
 have hm:=mapOf_K (prog:=C.prog) (R.aZ hK) hl hk
 refine call_meetsIn PySem.F.slot_dict_get hm.typeIs PySem.F.entry_dict_get (PySem.F.args_dict_get_2 _ _) (meets_dict_get (strKind C.prog C.w) a (strKind_is C.prog C.w x t) lo) ⟨_,hm,?_⟩
 rw[find_K hl e]
 exact hQ α _ _ (aG.refl _) (R.toks _) (VR.of _ _)
theorem Gm.dictTop{a:Addr}{es:Array DictEntry}{n:Nat}{name:Str}{id:String}{pl:Sem Bool}(hK:K.In C.base)(hl:K.lookup a=some ⟨.type "dict",none,.dict es n,#[]⟩)(slot:Slot "dict" name id)(hty:typeOf (.builtin id)=pure (.type "method_descriptor")):
 JF C d u H fr (Vr (.glob (.ref a))) (fun ov=>getMethod ov name pl) (Fs (.glob (.builtin id)) [.glob (.ref a)]) H:=.mk fun α s x R hx Q hQ=>by
 cases hx
 exact getMethod_builtin ⟨_,R.aZ hK _ _ hl,rfl⟩ PySem.F.plainAttrs_dict slot hty (fun b e=>by cases e;exact⟨_,R.aZ hK _ _ hl,rfl⟩) (hQ α s _ (aG.refl _) R ⟨rfl,.cons rfl .nil⟩)
theorem Ex.expr{e:Expr}{v:AV}(h:Ev C d u H ((L,.loc ρ)::fr) (eval e env) v H1)(hv:(match v with|.ref _=>false|.glob (.ref _)=>false|_=>true)=true)(hi:interactive env=false)(hs:swapsWith e none pos.line env=pure false):
 Ex C d u H L ρ fr (exec (.Expr e pos) env) .next H1 ρ:=.mk fun α s R Q hQ=>
 wpAny_Expr (h.go R fun α1 sE y EY R1 rA=>by
  have key:∀ a,y≠ .ref a:=fun a z=>by
   subst z
   cases v with
   |ref n=>cases hv
   |glob g=>cases rA;cases hv
   |none=>cases rA
   |bool b=>cases rA
   |int i=>obtain⟨t,q⟩:=rA;cases q
   |str x=>obtain⟨t,q⟩:=rA;cases q
  have:=hQ α1 sE .next EY R1 rfl
  cases y with
  |ref a=>exact absurd rfl (key a)
  |_=>exact this) hi hs
theorem U3.setDict{n:Nat}{kvs:List (Str×AV)}{x:Str}{v:AV}(h1:H[n]? =some (.dict kvs))(hn:C.n0≤n)(hz:kvs.length≤sizeLine):∀ α s o i y,aC C α H fr s->VR α (.ref n) o->VR α (.str x) i->VR α v y->∀ Q:Unit->Shared->Prop,
 (∀ α' s',aG α α'->aC C α' (H.set n (.dict (f9 kvs x v))) fr s'->Q () s')->Wp C d u (setItem o i y) Q s:=fun α s o i y R ho hi hy Q hQ=>by
 refine gG fun P_ k_=>?_
 obtain⟨a,e,rfl⟩:=ho
 obtain⟨t,rfl⟩:=hi
 obtain⟨ps,hD,hk⟩:=R.dictAt h1 e
 refine k_ ?_
 exact wpAny_setItem_pairs (strKind_is C.prog C.w x t) hD (fun h' g1 g2=>hQ α _ (aG.refl _) ((R.update (h':=h') (o:=.dict (f9 kvs x v)) hn e g2 ⟨_,g1,hk.store hy⟩).toks _)) (by rw[←hk.length];exact hz)
theorem Ex.setSub{o i value:Expr}{p:Pos}{n:Nat}{kvs:List (Str×AV)}{x:Str}{v:AV}(h1:Ev C d u H ((L,.loc ρ)::fr) (eval value env) v H1)(h2:Ev C d u H1 ((L,.loc ρ)::fr) (eval o env) (.ref n) H2)
 (h3:Ev C d u H2 ((L,.loc ρ)::fr) (eval i env) (.str x) H3) (hd:H3[n]? =some (.dict kvs)) (hn:C.n0≤n) (hz:kvs.length≤sizeLine) (hs:swapsWith value (some (.Subscript o i p)) pos.line env=pure false):
 Ex C d u H L ρ fr (exec (.Assign [.Subscript o i p] value pos) env) .next (H3.set n (.dict (f9 kvs x v))) ρ:=.mk fun α s R Q hQ=>
 wpAny_Assign_Subscript (h1.go R fun α1 sE y EY R1 rA=>h2.go R1 fun α2 sG o' Ec R2 rB=>h3.go R2 fun α3 sI i' E3 R3 rC=>
  U3.setDict hd hn hz α3 sI o' i' y R3 (VR.mono E3 rB) rC (VR.mono (Ec.trans E3) rA) _ fun α4 s4 E4 R4=>hQ α4 s4 _ (((EY.trans Ec).trans E3).trans E4) R4 rfl) hs
theorem Ex.setAttr{o value:Expr}{attr:Str}{p:Pos}{a v:AV}(h1:Ev C d u H ((L,.loc ρ)::fr) (eval value env) v H1)(h2:Ev C d u H1 ((L,.loc ρ)::fr) (eval o env) a H2)
 (h3:JU C d u H2 ((L,.loc ρ)::fr) (Pr a v) (fun x=>PySem.setAttr x.1 attr x.2) H3) (hs:swapsWith value (some (.Attribute o attr p)) pos.line env=pure false):
 Ex C d u H L ρ fr (exec (.Assign [.Attribute o attr p] value pos) env) .next H3 ρ:=.mk fun α s R Q hQ=>
 plainObj_wpAny_Assign_Attribute (h1.go R fun α1 sE y EY R1 rA=>h2.go R1 fun α2 sG o' Ec R2 rB=>JF.then h3 (x:=(o',y)) R2 ⟨rB,VR.mono Ec rA⟩ fun α3 sI z E3 R3 V=>hQ α3 sI _ ((EY.trans Ec).trans E3) R3 rfl) hs
theorem Ev.dict0(hn:C.n0≤H.length):Ev C d u H fr (eval (.Dict [] [] pos) env) (.ref H.length) (H++[.dict []]):=.mk fun α s V R V Q hQ=>
 wpAny_Dict_empty (hQ _ _ _ (aG.snoc _ _) (R.alloc (ob:={cls:=.type "dict",data:=.dict #[]}) (o:=.dict []) rfl hn fun h' α' e E q=>⟨[],⟨_,#[],0,e,⟨rfl,rfl,rfl⟩,rfl,fun V he=>by simp at he,Pairs.nil,List.nodup_nil⟩,.nil⟩) ⟨_,by rw[←R.len];simp,rfl⟩)
end
noncomputable abbrev KC(C:Cx):Frag:=Internal.KK C.w.params
structure Bs(C:Cx):Prop where
 aZ:(KC C).In C.base
 lim:C.base.NoLimit
noncomputable def lV(es:Array DictEntry):Bool:=es.toList.all fun e=>match e.key with|.str .. =>true|_=>false
theorem gQ{es:Array DictEntry}(h:lV es=true):StrKeys es:=fun e he=>by
 have:=List.all_eq_true.mp h e (Array.mem_toList_iff.mpr he)
 revert this
 cases e.key<;>intro this<;>first|exact⟨_,_,rfl⟩|cases this
noncomputable def VAll(α:List Addr):List AV->(List Value->Prop)->Prop
 |[],P=>P []
 |a::as,P=>∀ v,VR α a v->VAll α as fun vs=>P (v::vs)
noncomputable def KAll(α:List Addr):List (Str×AV)->(List (Str×Value)->Prop)->Prop
 |[],P=>P []
 |a::as,P=>∀ v,VR α a.2 v->KAll α as fun vs=>P ((a.1,v)::vs)
theorem VAll.get{α:List Addr}{as:List AV}{P:List Value->Prop}(h:VAll α as P){xs:List Value}(r:bM α as xs):P xs:=by
 induction r generalizing P with
 |nil=>exact h
 |cons a _ ih=>exact ih (h _ a)
theorem KAll.get{α:List Addr}{as:List (Str×AV)}{P:List (Str×Value)->Prop}(h:KAll α as P){xs:List (Str×Value)}(r:aW α as xs):P xs:=by
 induction r generalizing P with
 |nil=>exact h
 |cons a _ ih=>exact ih (h _ a)
structure BD(C:Cx)(fd:FuncData)(α:List Addr)(ρ0:ao)(xs:List Value)(ks:List (Str×Value)):Prop where
 out:∃ binds,(∀ S,peek (KC C) S (bindArgs fd ⟨xs,ks⟩)=some binds)∧(∀ x∈binds,fd.scope.names.lookup x.1=some .local)∧aW α ρ0 binds
theorem BD.mk'{C:Cx}{fd:FuncData}{α:List Addr}{ρ0:ao}{xs:List Value}{ks binds:List (Str×Value)}(a:∀ S,peek (KC C) S (bindArgs fd ⟨xs,ks⟩)=some binds)(b:(binds.all fun x=>fd.scope.names.lookup x.1==some .local)=true)(c:aW α ρ0 binds):BD C fd α ρ0 xs ks:=
 ⟨binds,a,fun x hx=>beq_iff_eq.mp (List.all_eq_true.mp b x hx),c⟩
section
variable{C:Cx}{d u:Nat}{α:List Addr}{H H1 H2 H3:List AO}{fr:List (Addr×FE)}{fd:FuncData}{fa L:Addr}{ρ ρ':ao}{env:Env}{pos:Pos}{f:FA}
theorem Ex.last{st:Stmt}(h:Ex C d u H L ρ fr (exec st env) f H1 ρ'):Ex C d u H L ρ fr (execs [st] env) f H1 ρ':=by
 cases f with
 |next=>exact Ex.cons h Ex.nil
 |_=>exact Ex.stop h rfl
theorem AT{o:Expr}{attr:Str}{a v:AV}(h1:Ev C d u H fr (eval o env) a H1)(h2:Ev1 C d u H1 fr (fun o=>getAttr o attr true) a v H2)
 (he:eval (.Attribute o attr pos) env=(do
  let x←eval o env
  standAt pos.atName
  let r←holding [x] (getAttr x attr true)
  letTemporaryGo o x r
  pure r)):Ev C d u H fr (eval (.Attribute o attr pos) env) v H2:=Ev.attr h1 h2 he
theorem DF{a:Addr}{c:Value}{dd:Option Addr}{sl:Array (Option Value)}{body:List Stmt}{as:List AV}{kw:List (Str×AV)}{ρ0:ao}{f:FA}{v:AV}(hB:Bs C)
 (hl:(KC C).lookup a=some ⟨c,dd,.func fd,sl⟩) (hbody:fd.body=.stmts body) (hroom:d<recursionLimit) (hcd:codeIn (KC C) fd.code fd.qualname=true)
 (hcell:fd.scope.names.all (fun x=>x.2 != .cell)=true)
 (hbind:JB C H fr fd as kw ρ0 H1)
 (h:∀ L,∃ ρ',Ex C (d+1) (u+3) H1 L ρ0 fr (execs body (callEnv fd L a)) f H2 ρ') (hv:(match f with|.ret v=>v|_=>.none)=v)
 (hco:fd.scope.isCoroutine=false) (hgen:fd.scope.isGenerator=false) (hk:fd.scope.kind=.function):JC C d u H fr (.glob (.ref a)) as kw v H2:=
 JC.def hB.aZ hroom hl hB.lim (codeRec_of hB.aZ hcd) hbody (fun x hx=>by have:=List.all_eq_true.mp hcell x hx;simpa using this) hbind h hv hco hgen hk
theorem CF{f:AV}{fv:Value}{first:List AV}{args:List (Bool×Sem Value)}{keywords:List (Option Str×Sem Value)}{as ks:List AV}{ns:List Str}{v:AV}(hB:Bs C)(hf:f=.glob fv)(hk:cu (KC C) fv=true)
 (ha:El C d u H fr (spliced args) as H1) (hkw:El C d u H1 fr (evalAll (keywords.map (·.2))) ks H2) (hn:keywords.filterMap (·.1)=ns)
 (h:JV C d u H2 fr (.glob fv) (first++as) (ns.zip ks) v H3) (hst:args.any (·.1)=false) (hall:keywords.all (·.1.isSome)=true) (hnone:keywords.any (·.1.isNone)=false):
 JF C d u H fr (Fs f first) (fun p=>callWith pos p.1 p.2 args keywords) (Vr v) H3:=Fs.call hB.aZ hf hk ha hkw hn h hst hall hnone
noncomputable def uU:List Str->Bool
 |[]=>true
 |x::r=>r.all (fun y=> !(x==y))&&uU r
theorem tW:∀{l:List Str},uU l=true->l.Nodup
 |[],_=>List.nodup_nil
 |x::r,e=>by
  obtain⟨e1,e2⟩:=Bool.and_eq_true_iff.mp (show(r.all (fun y=> !(x==y))&&uU r)=true from e)
  refine List.nodup_cons.mpr ⟨fun hx=>?_,tW e2⟩
  have z:(!(x==x))=true:=List.all_eq_true.mp e1 x hx
  rw[beq_self_eq_true]at z
  exact absurd z (by decide)
end
inductive PVs(α:List Addr):List (Str×AV)->List (Value×Value)->Prop
 |nil:PVs α [] []
 |cons {k a t v kvs vs}:VR α a v->PVs α kvs vs->PVs α ((k,a)::kvs) ((.str k t,v)::vs)
theorem PVs.carries{α:List Addr}{kvs:List (Str×AV)}{vs:List (Value×Value)}(prog:Program)(w:World)(h:PVs α kvs vs):∃ ps,Carries (strKind prog w) vs ps∧aW α kvs ps:=by
 induction h with
 |nil=>exact⟨[],trivial,.nil⟩
 | @cons k a t v kvs vs r _ ih=>
  obtain⟨ps,h1,h2⟩:=ih
  exact⟨(k,v)::ps,⟨strKind_is prog w k t,rfl,h1⟩,.cons r h2⟩
noncomputable def Pp(kvs:List (Str×AV))(α:List Addr)(vs:List (Value×Value)):Prop:=PVs α kvs vs
section
variable{C:Cx}{d u:Nat}{α:List Addr}{H H1 H2 H3 H4:List AO}{fr:List (Addr×FE)}{fd:FuncData}{fa L:Addr}{ρ ρ':ao}{env:Env}{pos:Pos}{f:FA}
theorem Ep.nil:JF C d u H fr Ur (fun V=>evalPairs (pairTrees [] [] env pos)) (Pp []) H:=.mk fun α s V R V Q hQ=>pairTrees_nil_walk (hQ α s _ (aG.refl _) R .nil)
theorem Ep.cons{k v:Expr}{ks:List (Option Expr)}{vs:List Expr}{x:Str}{a:AV}{kvs:List (Str×AV)}(h1:Ev C d u H fr (eval k env) (.str x) H1)(h2:Ev C d u H1 fr (eval v env) a H2)
 (h3:JF C d u H2 fr Ur (fun V=>evalPairs (pairTrees ks vs env pos)) (Pp kvs) H3):JF C d u H fr Ur (fun V=>evalPairs (pairTrees (some k::ks) (v::vs) env pos)) (Pp ((x,a)::kvs)) H3:=.mk fun α s V R V Q hQ=>
 pairTrees_cons_walk (h1.go R fun α1 sE y EY R1 rA=>h2.go R1 fun α2 sG z Ec R2 rB=>h3.go R2 fun α3 sI l E3 R3 rC=>by
  obtain⟨t,rfl⟩:=rA
  exact hQ α3 sI _ ((EY.trans Ec).trans E3) R3 (.cons (VR.mono E3 rB) rC))
theorem Ev.dictN{keys:List (Option Expr)}{values:List Expr}{kvs kvs':List (Str×AV)}(hn:C.n0≤H.length)
 (h:JF C d u (H++[.dict []]) fr Ur (fun V=>evalPairs (pairTrees keys values env pos)) (Pp kvs) H1) (hm:gY [] kvs=kvs') (hd:H1[H.length]? =some (.dict []))
 (hall:keys.all (·.isSome)=true) (hl:keys.length=values.length) (h0:keys≠ []) (hlen:keys.length≤15):
 Ev C d u H fr (eval (.Dict keys values pos) env) (.ref H.length) (H1.set H.length (.dict kvs')):=.mk fun α s V R V Q hQ=>by
 have R1:=R.alloc (ob:={cls:=.type "dict",data:=.dict #[]}) (o:=.dict []) rfl hn fun h' α' e E q=>⟨[],⟨_,#[],0,e,⟨rfl,rfl,rfl⟩,rfl,fun V he=>by simp at he,Pairs.nil,List.nodup_nil⟩,.nil⟩
 have eE:(α++[s.heap.objs.size])[H.length]? =some s.heap.objs.size:=by rw[←R.len];simp
 refine wpAny_Dict_walk (knd:=strKind C.prog C.w) hall hl h0 hlen (h.go R1 fun α2 sG vs Ec R2 rB=>?_)
 refine gG fun P_ k_=>?_
 obtain⟨ps,c1,c2⟩:=PVs.carries C.prog C.w rB
 obtain⟨ps0,D0,k0⟩:=R2.dictAt hd (Ec.get eE)
 refine k_ ?_
 cases k0
 refine⟨ps,c1,D0,fun h' g1 g2=>?_⟩
 have R3:=(R2.update (h':=h') (o:=.dict kvs') hn (Ec.get eE) g2 ⟨_,g1,by rw[←hm];exact aW.merge c2 .nil⟩).toks (sG.toks+vs.length)
 exact hQ _ _ _ ((aG.snoc _ _).trans Ec) R3 ⟨_,Ec.get eE,rfl⟩
theorem Et.chain2{l rA rB:Expr}{op1 op2:CmpOp}{jq:Sem Value}{a b c:AV}{vB:Bool}{H5:List AO}(h1:Ev C d u H fr (eval l env) a H1)(h2:Ev C d u H1 fr (eval rA env) b H2)(h3:fG C d u H2 fr (compareOp op1) a b (.bool true) H3)
 (h4:Ev C d u H3 fr (eval rB env) c H4) (h5:fG C d u H4 fr (compareOp op2) b c (.bool vB) H5) (hm:lastMarks [op1,op2] [rA,rB]=false):Et C d u H fr (isTrue (.Compare l [op1,op2] [rA,rB] pos) env jq) vB H5:=.mk fun α s V R V Q hQ=>
 isTrue_chain (hm:=hm) (h1.go R fun α1 sE x EY R1 rA=>test_link (h2.go R1 fun α2 sG y Ec R2 rB=>h3.then (x:=(x,y)) R2 ⟨VR.mono Ec rA,rB⟩ fun α3 sI z E3 R3 rC=>by
  cases rC
  refine wpAny_truthy_bool ?_
  simp only[if_true]
  exact test_last (h4.go R3 fun α4 s4 z E4 R4 r4=>h5.then (x:=(y,z)) R4 ⟨VR.mono (E3.trans E4) rB,r4⟩ fun α5 s5 q E5 R5 r5=>by
   cases r5
   exact wpAny_truthy_bool (hQ α5 s5 _ ((((EY.trans Ec).trans E3).trans E4).trans E5) R5 rfl))))
theorem J5{α:List Addr}{a:AV}{b:Bool}{x:Value}(h:(match a with|.none=>some true|.bool _=>some false|.int _=>some false|.str _=>some false|.ref _=>some false|.glob (.ref _)=>some false|_=>none)=some b)(hx:VR α a x):plainIs x .none=true∧(x==Value.none)=b:=by
 cases a with
 |none=>cases hx;cases h;exact⟨rfl,rfl⟩
 |bool c=>cases hx;cases h;exact⟨rfl,rfl⟩
 |int i=>obtain⟨t,rfl⟩:=hx;cases h;exact⟨rfl,rfl⟩
 |str x=>obtain⟨t,rfl⟩:=hx;cases h;exact⟨rfl,rfl⟩
 |ref n=>obtain⟨t,V,rfl⟩:=hx;cases h;exact⟨rfl,rfl⟩
 |glob g=>
  cases hx
  cases x with
  |ref r=>cases h;exact⟨rfl,rfl⟩
  |_=>cases h
theorem E2.isNone{a:AV}{b:Bool}(h:(match a with|.none=>some true|.bool _=>some false|.int _=>some false|.str _=>some false|.ref _=>some false|.glob (.ref _)=>some false|_=>none)=some b):
 fG C d u H fr (compareOp .Is) a .none (.bool b) H:=.mk fun α1 s ⟨x,y⟩ R ⟨hx,hy⟩ Q hQ=>by
 dsimp only at hx hy
 cases hy
 have fin:∀ x:Value,plainIs x .none=true->((x==Value.none)=b)->Wp C d u (compareOp .Is x .none) Q s:=fun x h1 h2=>wpAny_is_plain h1 (by rw[h2];exact hQ α1 _ _ (aG.refl _) R rfl)
 refine(?_:plainIs x .none=true∧(x==Value.none)=b).elim (fin x)
 exact J5 h hx
theorem JV.isInt{i:Int}:JV C d u H fr (.glob (.builtin "isinstance")) [.int i,.glob (.type "int")] [] (.bool true) H:=.mk fun α s f xs ks R hx ha hk Q hQ=>by
 cases hx;cases hk
 obtain _|⟨⟨t,rfl⟩,_|⟨r,_|_⟩⟩:=ha
 cases r
 exact PySem.IsiPair.int_int (hQ α _ _ (aG.refl _) R rfl)
theorem JV.isStr{i:Str}:JV C d u H fr (.glob (.builtin "isinstance")) [.str i,.glob (.type "str")] [] (.bool true) H:=.mk fun α s f xs ks R hx ha hk Q hQ=>by
 cases hx;cases hk
 obtain _|⟨⟨t,rfl⟩,_|⟨r,_|_⟩⟩:=ha
 cases r
 exact PySem.IsiPair.str_str (hQ α _ _ (aG.refl _) R rfl)
theorem BZ(A:Around)(s:Shared)(x y:Str)(t v:Tok):PySem.SeqAt.EqAt A s (.str y v) (.str x t) (y==x):=fun prog w E Q hq=>wpAny_eqBool_str hq
noncomputable def d7(x:Str):Value->Bool
 |.str y _=>y==x
 |_=>false
theorem wR{A:Around}{s:Shared}{l:List Value}{x:Str}{t:Tok}(hl:(l.all fun v=>match v with|.str .. =>true|_=>false)=true):∀ y,y∈l.toArray->PySem.SeqAt.EqAt A s y (.str x t) (d7 x y):=fun y hy=>by
 have:=List.all_eq_true.mp hl y (List.mem_toArray.mp hy)
 cases y with
 |str z v=>exact BZ A s x z t v
 |_=>cases this
theorem E2.inTopTup{a:Addr}{l:List Value}{n:Nat}{dd:Option Addr}{sl:Array (Option Value)}{x:Str}{b:Bool}(hB:Bs C)(hl:(KC C).lookup a=some ⟨.type "tuple",dd,.seq l.toArray n,sl⟩)(hb:l.any (d7 x)=b)(hs:(l.all fun v=>match v with|.str .. =>true|_=>false)=true):
 fG C d u H fr (compareOp .In) (.str x) (.glob (.ref a)) (.bool b) H:=.mk fun α s ⟨i,o⟩ R ⟨⟨t,hi⟩,ho⟩ Q hQ=>by
 dsimp only at hi ho;subst hi;cases ho
 exact PySem.SeqAt.in_tupleAt (d7 x) ⟨_,R.aZ hB.aZ _ _ hl,rfl,n,rfl⟩ (wR hs) (by rw[List.any_toArray,hb];exact hQ α _ _ (aG.refl _) R rfl)
theorem E2.CW{a:Addr}{l:List Value}{n:Nat}{dd:Option Addr}{sl:Array (Option Value)}{x:Str}{b:Bool}(hB:Bs C)(hl:(KC C).lookup a=some ⟨.type "tuple",dd,.seq l.toArray n,sl⟩)(hb:(!l.any (d7 x))=b)(hs:(l.all fun v=>match v with|.str .. =>true|_=>false)=true):
 fG C d u H fr (compareOp .NotIn) (.str x) (.glob (.ref a)) (.bool b) H:=.mk fun α s ⟨i,o⟩ R ⟨⟨t,hi⟩,ho⟩ Q hQ=>by
 dsimp only at hi ho;subst hi;cases ho
 exact PySem.SeqAt.notIn_tupleAt (d7 x) ⟨_,R.aZ hB.aZ _ _ hl,rfl,n,rfl⟩ (wR hs) (by rw[List.any_toArray,hb];exact hQ α _ _ (aG.refl _) R rfl)
theorem Ev.tuple{elts:List Expr}{k:Nat}{vs:List AV}(h:El C d u H fr (spliced (backTo pos (starEach elts env))) vs H1)(hn:C.n0≤H1.length)(hz:vs.length≤sizeLine):
 Ev C d u H fr (eval (.Tuple elts k pos) env) (.ref H1.length) (H1++[.tup vs]):=.mk fun α s V R V Q hQ=>
 wpAny_Tuple (h.go R fun α1 sE xs EY R1 rA=>⟨by rw[←bM.len rA];exact hz,hQ _ _ _ (EY.trans (aG.snoc _ _)) (R1.alloc (ob:={cls:=.type "tuple",data:=.seq xs.toArray}) (o:=.tup vs) rfl hn fun h' α' e E q=>⟨xs,⟨_,e,rfl,0,rfl⟩,bM.mono E rA⟩) ⟨_,by rw[←R1.len];simp,rfl⟩⟩)
theorem Ev.list{elts:List Expr}{vs:List AV}(h:El C d u H fr (spliced (backTo pos (starEach elts env))) vs H1)(hn:C.n0≤H1.length)(hz:vs.length≤sizeLine):
 Ev C d u H fr (eval (.List elts pos) env) (.ref H1.length) (H1++[.list vs]):=.mk fun α s V R V Q hQ=>
 wpAny_List (h.go R fun α1 sE xs EY R1 rA=>⟨by rw[←bM.len rA];exact hz,hQ _ _ _ (EY.trans (aG.snoc _ _)) (R1.alloc (ob:={cls:=.type "list",data:=.seq xs.toArray}) (o:=.list vs) rfl hn fun h' α' e E q=>⟨xs,⟨0,e⟩,bM.mono E rA⟩) ⟨_,by rw[←R1.len];simp,rfl⟩⟩)
noncomputable def mX:AV->Option Str
 |.str x=>some x
 |_=>none
noncomputable def mz(x:Str):AV->Bool
 |.str y=>y==x
 |_=>false
theorem avIs_of{v:AV}{y:Value}(r:VR α v y)(h:(mX v).isSome=true)(x:Str):d7 x y=mz x v∧∃ z t,y=.str z t:=by
 cases v with
 |str z=>obtain⟨t,rfl⟩:=r;exact⟨rfl,z,t,rfl⟩
 |_=>cases h
theorem bM.d7{vs:List AV}{ys:List Value}(h:bM α vs ys)(hs:vs.all (fun v=>(mX v).isSome)=true)(x:Str):ys.any (Internal.d7 x)=vs.any (mz x)∧∀ y∈ys,∃ z t,y=.str z t:=by
 induction h with
 |nil=>exact⟨rfl,fun V h=>nomatch h⟩
 | @cons v y vs ys r _ ih=>
  refine gG fun P_ k_=>?_
  obtain⟨h1,h2⟩:=Bool.and_eq_true_iff.mp (show((mX v).isSome&&vs.all fun v=>(mX v).isSome)=true from hs)
  obtain⟨i1,i2⟩:=ih h2
  obtain⟨j1,z,t,j2⟩:=avIs_of r h1 x
  refine k_ ?_
  refine⟨by simp only[List.any_cons,i1,j1],fun q hq=>?_⟩
  rcases List.mem_cons.mp hq with rfl|hq
  · exact⟨z,t,j2⟩
  · exact i2 q hq
theorem oU{A:Around}{s:Shared}{l:List Value}{x:Str}{t:Tok}(hl:∀ y∈l,∃ z t,y=.str z t):∀ y,y∈l.toArray->PySem.SeqAt.EqAt A s y (.str x t) (d7 x y):=fun y hy=>by
 obtain⟨z,v,rfl⟩:=hl y (List.mem_toArray.mp hy)
 exact BZ A s x z t v
theorem E2.inTup{n:Nat}{vs:List AV}{x:Str}{b:Bool}(h1:H[n]? =some (.tup vs))(hb:vs.any (mz x)=b)(hs:vs.all (fun v=>(mX v).isSome)=true):
 fG C d u H fr (compareOp .In) (.str x) (.ref n) (.bool b) H:=.mk fun α s ⟨i,o⟩ R ⟨⟨t,hi⟩,⟨a,e,ho⟩⟩ Q hQ=>by
 dsimp only at hi ho;subst hi ho
 refine gG fun P_ k_=>?_
 obtain⟨ys,⟨o,g1,g2,m,g3⟩,hv⟩:=R.obj n a _ e h1
 obtain⟨j1,j2⟩:=hv.d7 hs x
 refine k_ ?_
 exact PySem.SeqAt.in_tupleAt (d7 x) ⟨o,g1,g2,m,g3⟩ (oU j2) (by rw[List.any_toArray,j1,hb];exact hQ α _ _ (aG.refl _) R rfl)
theorem E2.inList{n:Nat}{vs:List AV}{x:Str}{b:Bool}(h1:H[n]? =some (.list vs))(hb:vs.any (mz x)=b)(hs:vs.all (fun v=>(mX v).isSome)=true):
 fG C d u H fr (compareOp .In) (.str x) (.ref n) (.bool b) H:=.mk fun α s ⟨i,o⟩ R ⟨⟨t,hi⟩,⟨a,e,ho⟩⟩ Q hQ=>by
 dsimp only at hi ho;subst hi ho
 obtain⟨ys,g,hv⟩:=R.obj n a _ e h1
 obtain⟨j1,j2⟩:=hv.d7 hs x
 exact PySem.SeqAt.in_listAt (d7 x) g.isList (oU j2) (by rw[List.any_toArray,j1,hb];exact hQ α _ _ (aG.refl _) R rfl)
theorem E2.HX{n:Nat}{vs:List AV}{x:Str}{b:Bool}(h1:H[n]? =some (.list vs))(hb:(!vs.any (mz x))=b)(hs:vs.all (fun v=>(mX v).isSome)=true):
 fG C d u H fr (compareOp .NotIn) (.str x) (.ref n) (.bool b) H:=.mk fun α s ⟨i,o⟩ R ⟨⟨t,hi⟩,⟨a,e,ho⟩⟩ Q hQ=>by
 dsimp only at hi ho;subst hi ho
 obtain⟨ys,g,hv⟩:=R.obj n a _ e h1
 obtain⟨j1,j2⟩:=hv.d7 hs x
 exact PySem.SeqAt.notIn_listAt (d7 x) g.isList (oU j2) (by rw[List.any_toArray,j1,hb];exact hQ α _ _ (aG.refl _) R rfl)
end
noncomputable def iZ(C:Cx)(d u:Nat)(n:Nat)(Pd:Obj->Prop)(L:Addr)(xk xv:Str)(fr:List (Addr×FE))(body:Sem Flow):List (Str×AV)->List AO->ao->List AO->ao->Prop
 |[],H,ρ,H',ρ'=>H[n]? =some (.pin Pd)∧H'=H∧ρ'=ρ
 |(k,v)::r,H,ρ,H',ρ'=>H[n]? =some (.pin Pd)∧(∃ H1 ρ1,(∀ it P,Ex C d u H L (put xv v (put xk (.str k) ρ)) ((it,.raw P)::fr) body .next H1 ρ1)∧iZ C d u n Pd L xk xv fr body r H1 ρ1 H' ρ')
section
variable{C:Cx}{d u:Nat}{α:List Addr}{H H1 H2 H3:List AO}{fr:List (Addr×FE)}{fd:FuncData}{fa L:Addr}{ρ ρ' ρ1:ao}{env:Env}{pos:Pos}{f:FA}{n:Nat}{Pd:Obj->Prop}{xk xv:Str}{H':List AO}{body:List Stmt}
theorem iZ.nil{b:Sem Flow}(h:H[n]? =some (.pin Pd)):iZ C d u n Pd L xk xv fr b [] H ρ H ρ:=⟨h,rfl,rfl⟩
theorem iZ.cons{k:Str}{v:AV}{r:List (Str×AV)}{b:Sem Flow}(h1:∀ it P,Ex C d u H L (put xv v (put xk (.str k) ρ)) ((it,.raw P)::fr) b .next H1 ρ1)(h2:iZ C d u n Pd L xk xv fr b r H1 ρ1 H' ρ')(h:H[n]? =some (.pin Pd)):iZ C d u n Pd L xk xv fr b ((k,v)::r) H ρ H' ρ':=⟨h,H1,ρ1,h1,h2⟩
theorem iZ.inv{vs:List (Str×AV)}{b:Sem Flow}(h:iZ C d u n Pd L xk xv fr b vs H ρ H' ρ'):H[n]? =some (.pin Pd):=by cases vs<;>exact h.1
theorem iZ.fin{b:Sem Flow}:∀{vs:List (Str×AV)} {H:List AO} {ρ:ao},iZ C d u n Pd L xk xv fr b vs H ρ H' ρ'->H'[n]? =some (.pin Pd)
 |[],_,_,h=>h.2.1▸h.1
 |(_,_)::_,_,_,h=>h.2.elim fun V h=>h.elim fun V h=>h.2.fin
noncomputable def nY(a:Addr)(i n ep:Nat)(o:Obj):Prop:=∃ ok ov,o={cls:=.type "dict_itemiterator",dict:=none,data:=.fields #[.none,.bool false,.ref a,.int i 0,.int n 0,.int ep 0,ok,ov],slots:=#[]}
noncomputable def rK(prog:Program)(w:World)(ps:List (Str×Value))(ep:Nat)(o:Obj):Prop:=∃ es,o.ExactDict∧o.data=.dict es ep∧KeysOf (strKind prog w) es∧Pairs (strKind prog w) es.toList ps∧(ps.map (·.1)).Nodup
theorem aW.nth{α:List Addr}{as:List (Str×AV)}{xs:List (Str×Value)}(h:aW α as xs):∀{i:Nat} {k:Str} {v:Value},xs[i]? =some (k,v)->∃ a,as[i]? =some (k,a)∧VR α a v:=by
 induction h with
 |nil=>intro i k v e;simp at e
 |cons r _ ih=>
  intro i k v e
  cases i with
  |zero=>simp at e;obtain⟨rfl,rfl⟩:=e;exact⟨_,rfl,r⟩
  |succ i=>simp at e;simpa using ih e
theorem J3{pk pv pt:Pos}{x1:Nat}{it a:Addr}{kvs:List (Str×AV)}{ps:List (Str×Value)}{ep:Nat}{s:Shared}{R:Result->Shared->Prop}{α0:List Addr}(hk:fd.scope.kind=.function)(hxk:fd.scope.names.lookup xk=some .local)(hxv:fd.scope.names.lookup xv=some .local)
 (ha:α0[n]? =some a) (hps:aW α0 kvs ps) (hPd:Pd=rK C.prog C.w ps ep)
 (hb:iZ C d u n Pd L xk xv fr (execs body (callEnv fd L fa)) kvs H ρ H' ρ') (hE:aG α0 α) (R0:aC C α H ((it,.raw (nY a 0 ps.length ep))::(L,.loc ρ)::fr) s)
 (hR:∀ α' s',aG α α'->aC C α' H' ((L,.loc ρ')::fr) s'->R (.ok .next) s'):
 codeAny (model C.prog C.w) (Ar d u) (.forLoop (.Tuple [.Name xk pk,.Name xv pv] x1 pt) (.ref it) body [] (callEnv fd L fa)) R s:=by
 refine codeAny_forLoop_any (fun m s=>∃ i α1 H1 ρ1,m=ps.length - i∧i≤ps.length∧aG α α1∧aC C α1 H1 ((it,.raw (nY a i ps.length ep))::(L,.loc ρ1)::fr) s∧iZ C d u n Pd L xk xv fr (execs body (callEnv fd L fa)) (kvs.drop i) H1 ρ1 H' ρ') ?_ (ps.length - 0)
  ⟨0,α,H,ρ,rfl,Nat.zero_le _,aG.refl _,R0,by simpa using hb⟩
 refine fun m sE hI=>x45 hI fun i α1 H1 ρ1 em hi EY R1 hb1=>?_
 subst em
 refine lR fun G hG=>?_
 have hlen:=hps.length
 have hD:sE.heap.DictAt (strKind C.prog C.w) a ps ep:=by
  obtain⟨o,g1,g2⟩:=R1.obj n a _ ((hE.trans EY).get ha) hb1.inv
  rw[hPd]at g2
  refine gG fun P_ k_=>?_
  obtain⟨es,g2,g3,g4,g5,g6⟩:=g2
  refine k_ ?_
  exact⟨o,es,g1,g2,g3,g4,g5,g6⟩
 refine gG fun P_ k_=>?_
 obtain⟨V,⟨oi,hoi,ok,ov,rfl⟩,V⟩:=R1.frs _ (.head _)
 refine k_ ?_
 cases hv:ps[i]? with
 |none=>
  have hi':i=kvs.length:=by rw[hlen];exact Nat.le_antisymm hi (by simpa using hv)
  subst hi'
  rw[List.drop_length]at hb1
  refine x03 hb1 fun V e1 e2=>?_
  subst e1 e2
  exact wpAny_pyNext_items_end rfl hoi hD hv fun h' he=>hG _ _ (wpAny_execs_nil (hR α1 _ EY (R1.drop (t:=sE.toks) he)))
 |some kv=>
  obtain⟨k,y⟩:=kv
  have hlt:i<ps.length:=(List.getElem?_eq_some_iff.mp hv).1
  obtain⟨v,hv',rv⟩:=hps.nth hv
  have hd:kvs.drop i=(k,v)::kvs.drop (i+1):=by
   have hlt':i<kvs.length:=hlen▸hlt
   rw[List.drop_eq_getElem_cons hlt'];congr 1;exact(List.getElem?_eq_some_iff.mp hv').2
  rw[hd]at hb1
  refine gG fun P_ k_=>?_
  obtain⟨hI,H2,ρ2,hex,hrest⟩:=hb1
  refine k_ ?_
  refine wpAny_pyNext_items_item hoi hD hv fun key h₁ hkey heo htA hzA hk1=>hG _ _ (lR fun G1 hGA=>?_)
  have hit:it<sE.heap.objs.size:=Heap.lt_size hoi
  have R2:=R1.turnE (f':=.raw fun o=>h₁.get? it=some o) hk1 ⟨_,heo,heo⟩
  refine wpAny_letOwnedTupleGo_items heo fun h₂ heA hsA=>hGA _ _ (lR fun G2 hGB=>?_)
  have R3:=R2.turn (f':=.raw (nY a (i+1) ps.length ep)) hsA ⟨_,heA,_,_,rfl⟩
  have htB:h₂.IsTuple sE.heap.objs.size #[key,y]:=⟨_,(hsA.2 _ (Nat.ne_of_gt hit)).trans htA,rfl,_,rfl⟩
  refine wpAny_assign_Tuple (s:={sE with heap:=h₂}) rfl htB rfl rfl fun h₃ hx3=>?_
  have R4:=(R3.keeps (s':={sE with heap:=h₃}) (fun c x e=>hx3 c x (Nat.ne_of_lt (Heap.lt_size e)) e) trivial (fun V V e=>e) rfl rfl).swap
  obtain⟨tk,rfl⟩:=fQ (k:=k) hkey
  show wpAny _ _ (do holding [y] (assign (.Name xk pk) (callEnv fd L fa) (.str k tk));do holding [] (assign (.Name xv pv) (callEnv fd L fa) y);pure ()) _ _ _
  refine wpAny_mono (Q:=fun V s5=>aC C α1 H1 ((L,.loc (put xv v (put xk (.str k) ρ1)))::(it,.raw (nY a (i+1) ps.length ep))::fr) s5) (E:=bf) ?_ (fun V s5 R5=>?_) fun V V z=>z.elim
  · refine wpAny_bind (wpAny_holding (wpAny_assign_Name (aC.stores (fd:=fd) (fa:=fa) R4 (v:=.str k) ⟨_,rfl⟩ hxk hk fun s5 R5=>?_)))
    exact wpAny_bind (wpAny_holding (wpAny_assign_Name (aC.stores (fd:=fd) (fa:=fa) R5 (VR.mono (hE.trans EY) rv) hxv hk fun s6 R6=>wpAny_pure R6)))
  · refine hGB _ _ (cY ((hex it _).go R5 fun α4 s4 y' E4 R4 r4=>?_))
    rw[show y'=.next from r4]
    exact⟨ps.length - (i+1),by exact o6 hlen hlt,i+1,α4,H2,ρ2,rfl,hlt,EY.trans E4,R4.swap,hrest⟩
theorem Ex.M6{pk pv pt apos cpos:Pos}{x1:Nat}{o:Expr}{kvs:List (Str×AV)}{pl:Sem Bool}{H'':List AO}{H2:(Obj->Prop)->List AO}(hk:fd.scope.kind=.function)(hxk:fd.scope.names.lookup xk=some .local)(hxv:fd.scope.names.lookup xv=some .local)
 (ho:Ev C d u H ((L,.loc ρ)::fr) (eval o (callEnv fd L fa)) (.ref n) H1) (hd:H1[n]? =some (.dict kvs))
 (hb:∀ Pd,iZ C d u n Pd L xk xv fr (execs body (callEnv fd L fa)) kvs (H1.set n (.pin Pd)) ρ (H2 Pd) ρ') (hH:∀ Pd,(H2 Pd).set n (.dict kvs)=H'')
 (he:eval (.Call (.Attribute o "items" apos) [] [] cpos) (callEnv fd L fa)=(do
  let ov←eval o (callEnv fd L fa)
  standAt apos.atName
  let(f,first)←holding [ov] (getMethod ov "items" pl)
  callWith cpos f first (backTo cpos (starEach [] (callEnv fd L fa))) (backToKw cpos (keywordEach [] (callEnv fd L fa)))))
 (hs:∀ x,foldedSetIterable (.Call (.Attribute o "items" apos) [] [] cpos) (callEnv fd L fa) x=pure x):
 Ex C d u H L ρ fr (exec (.For (.Tuple [.Name xk pk,.Name xv pv] x1 pt) (.Call (.Attribute o "items" apos) [] [] cpos) body [] pos) (callEnv fd L fa)) .next H'' ρ':=.mk fun α s R Q hQ=>by
 refine wpAny_For (methodCall_KW (he:=he) (ho.go R fun α1 sE y EY R1 rA=>(Gm.dict hd PySem.F.slot_dict_items PySem.F.type_dict_items).then R1 rA fun α2 sG p Ec R2 rB=>?_)) hs
 obtain⟨fv,first⟩:=p
 obtain⟨rf,ra⟩:=rB
 dsimp only at rf ra
 cases rf
 obtain _|⟨⟨a,e,rfl⟩,_|_⟩:=ra
 obtain⟨ps,hD,hkv⟩:=R2.dictAt hd e
 obtain⟨ep,hAt⟩:=hD.dictAt
 refine callWith_of (P:=fun V=>True) rfl (fun h V=>⟨.machine,.inr (.inl rfl),Looks.of_pure rfl⟩) (c7 rfl rfl (Calls.spliced_nil (wpAny_evalAll_nil ⟨trivial,?_⟩)))
 refine call_meetsIn PySem.F.slot_dict_items hD.typeIs PySem.F.entry_dict_items (PySem.F.args_dict_items_1 _) (meets_dict_items (strKind C.prog C.w) a (R2.noSys e)) ⟨⟨ps,hD⟩,?_⟩
 have Rv:=R2.keeps (s':={sG with heap:=sG.heap.push {cls:=.type "dict_items",data:=.fields #[.ref a]}}) (fun c x e=>Heap.get?_push_of_some _ e) trivial (fun V V e=>e) rfl rfl
 refine wpAny_pyIter_items (knd:=strKind C.prog C.w) (d:=a) (kvs:=ps) (ep:=ep) (s:={sG with heap:=sG.heap.push {cls:=.type "dict_items",data:=.fields #[.ref a]}}) ⟨_,Heap.get?_push_size _ rfl,rfl,rfl⟩ (hAt.push _) ?_
 have R3:=Rv.beside (h':=(sG.heap.push {cls:=.type "dict_items",data:=.fields #[.ref a]}).push {cls:=.type "dict_itemiterator",data:=.fields #[.none,.bool false,.ref a,.int 0 0,.int ps.length 0,.int ep 0,.none,.none]})
  (f:=.raw (nY a 0 ps.length ep)) (b:=(sG.heap.push {cls:=.type "dict_items",data:=.fields #[.ref a]}).objs.size) (t:=sG.toks) ⟨_,Heap.get?_push_size _ rfl,_,_,rfl⟩ (Nat.le_refl _) fun b o e=>Heap.get?_push_of_some _ e
 have R4:=R3.say (n:=n) (o:=.pin (rK C.prog C.w ps ep)) fun b hb=>by
  rw[e]at hb
  cases hb
  obtain⟨o,es,g1,g2⟩:=hAt
  exact⟨o,Heap.get?_push_of_some _ (Heap.get?_push_of_some _ g1),es,g2⟩
 refine J3 hk hxk hxv e hkv rfl (hb _) (aG.refl _) R4 fun α5 s5 E5 R5=>?_
 have hI:(H2 (rK C.prog C.w ps ep))[n]? =some (.pin (rK C.prog C.w ps ep)):=(hb _).fin
 have R6:=R5.say (n:=n) (o:=.dict kvs) fun b hb=>by
  refine gG fun P_ k_=>?_
  obtain⟨o,g1,es,g2,g3,g4,g5,g6⟩:=R5.obj n b _ hb hI
  refine k_ ?_
  exact⟨ps,⟨o,es,ep,g1,g2,g3,g4,g5,g6⟩,hkv.mono E5⟩
 rw[hH]at R6
 exact hQ α5 s5 _ ((EY.trans Ec).trans E5) R6 rfl
end
section
variable{C:Cx}{d u:Nat}{α:List Addr}{H H1 H2 H3:List AO}{fr:List (Addr×FE)}{fd:FuncData}{fa L:Addr}{ρ ρ':ao}{env:Env}{pos:Pos}{f:FA}
theorem E2.leT{a b:Int}(h:a≤b):fG C d u H fr (compareOp .LtE) (.int a) (.int b) (.bool true) H:=by have:=E2.leI (C:=C) (d:=d) (u:=u) (H:=H) (fr:=fr) (a:=a) (b:=b);rwa [decide_eq_true h]at this
theorem E2.eqT{a b:Int}(h:a=b):fG C d u H fr (compareOp .Eq) (.int a) (.int b) (.bool true) H:=by have:=E2.eqI (C:=C) (d:=d) (u:=u) (H:=H) (fr:=fr) (a:=a) (b:=b);rwa [beq_iff_eq.mpr h]at this
theorem E2.eqF{a b:Int}(h:a≠b):fG C d u H fr (compareOp .Eq) (.int a) (.int b) (.bool false) H:=by have:=E2.eqI (C:=C) (d:=d) (u:=u) (H:=H) (fr:=fr) (a:=a) (b:=b);rwa [beq_eq_false_iff_ne.mpr h]at this
theorem Ex.ifT{test:Expr}{body orelse:List Stmt}(h1:Et C d u H ((L,.loc ρ)::fr) (isTrue test env (eval test env)) true H1)
 (h2:Ex C d u H1 L ρ fr (execs body env) f H2 ρ'):Ex C d u H L ρ fr (exec (.If test body orelse pos) env) f H2 ρ':=Ex.if (b:=true) h1 h2
theorem Ex.ifF{test:Expr}{body orelse:List Stmt}(h1:Et C d u H ((L,.loc ρ)::fr) (isTrue test env (eval test env)) false H1)
 (h2:Ex C d u H1 L ρ fr (execs orelse env) f H2 ρ'):Ex C d u H L ρ fr (exec (.If test body orelse pos) env) f H2 ρ':=Ex.if (b:=false) h1 h2
theorem Sp.q7{pos:Pos}:El C d u H fr (spliced (backTo pos (starEach [] env))) [] H:=Sp.nil
theorem Sp.back{pos:Pos}{e:Expr}{rest:List Expr}{a:AV}{as:List AV}(h:Ev C d u H fr (eval e env) a H1)(h2:El C d u H1 fr (spliced (backTo pos (starEach rest env))) as H2)
 (he:starEach (e::rest) env=(false,eval e env)::starEach rest env):El C d u H fr (spliced (backTo pos (starEach (e::rest) env))) (a::as) H2:=by
 rw[he]
 exact Sp.cons h h2
theorem Ek.q7{pos:Pos}:El C d u H fr (evalAll ((backToKw pos (keywordEach [] env)).map (·.2))) [] H:=Ea.nil
theorem Ek.back{pos:Pos}{name:Option Str}{value:Expr}{p:Pos}{rest:List Keyword}{a:AV}{as:List AV}(h:Ev C d u H fr (eval value env) a H1)(h2:El C d u H1 fr (evalAll ((backToKw pos (keywordEach rest env)).map (·.2))) as H2):
 El C d u H fr (evalAll ((backToKw pos (keywordEach (⟨name,value,p⟩::rest) env)).map (·.2))) (a::as) H2:=Ea.cons (Ev.stood h) h2
end
noncomputable def AV.bd(n:Nat):AV->Bool
 |.ref k=>decide (k<n)
 |_=>true
noncomputable def AO.bd(n:Nat):AO->Bool
 |.dict kvs=>kvs.all fun p=>p.2.bd n
 |.list xs=>xs.all (·.bd n)
 |.tup xs=>xs.all (·.bd n)
 |.inst _ d=>decide (d<n)
 |.pin _=>true
theorem VR.shrink{α α':List Addr}(E:aG α α'){x:AV}{v:Value}(h:VR α' x v)(b:x.bd α.length=true):VR α x v:=by
 cases x with
 |ref n=>
  obtain⟨a,e,q⟩:=h
  obtain⟨β,rfl⟩:=E
  refine⟨a,?_,q⟩
  rw[List.getElem?_append_left (of_decide_eq_true b)]at e
  exact e
 |none=>exact h
 |bool b=>exact h
 |int i=>exact h
 |str x=>exact h
 |glob g=>exact h
theorem bM.shrink{α α':List Addr}(E:aG α α'){xs:List AV}{vs:List Value}(h:bM α' xs vs)(b:xs.all (·.bd α.length)=true):bM α xs vs:=by
 induction h with
 |nil=>exact .nil
 |cons r _ ih=>
  rw[List.all_cons,Bool.and_eq_true]at b
  exact .cons (r.shrink E b.1) (ih b.2)
theorem aW.shrink{α α':List Addr}(E:aG α α'){xs:List (Str×AV)}{vs:List (Str×Value)}(h:aW α' xs vs)(b:xs.all (fun p=>p.2.bd α.length)=true):aW α xs vs:=by
 induction h with
 |nil=>exact .nil
 |cons r _ ih=>
  rw[List.all_cons,Bool.and_eq_true]at b
  exact .cons (r.shrink E b.1) (ih b.2)
section
variable{prog:Program}{w:World}
theorem OR.shrink{α α':List Addr}(E:aG α α'){h:Heap}{a:Addr}{o:AO}:OR prog w α' h a o->o.bd α.length=true->OR prog w α h a o:=
 @AO.casesOn (fun o=>OR prog w α' h a o->o.bd α.length=true->OR prog w α h a o) o (fun V h b=>h.imp fun V h=>⟨h.1,h.2.shrink E b⟩) (fun V h b=>h.imp fun V h=>⟨h.1,h.2.shrink E b⟩) (fun V h b=>h.imp fun V h=>⟨h.1,h.2.shrink E b⟩)
  (fun V V h b=>h.imp fun V h=>⟨by obtain⟨β,rfl⟩:=E;exact(List.getElem?_append_left (of_decide_eq_true b)).symm.trans h.1,h.2⟩) (fun V h V=>h)
end
section
variable{C:Cx}{α α':List Addr}{H G:List AO}{fr:List (Addr×FE)}{s s':Shared}
theorem aC.adopt(R:aC C α H fr s):∀(as:List Addr) (os:List AO),as.length=os.length->(∀ a∈as,C.base.get? a=none∧sysModules<a)->as.Nodup->(∀ a∈as,∀(n:Nat) (b:Addr),α[n]? =some b->b≠a)->(∀ a∈as,∀ p∈fr,a≠p.1)->
 (∀(n:Nat) (a:Addr) (o:AO),as[n]? =some a->os[n]? =some o->OR C.prog C.w (α++as) s.heap a o)->aC C (α++as) (H++os) fr s:=fun as os hl hf hn hd hp ho=>by
 have hL:=R.len
 have E:aG α (α++as):=⟨as,rfl⟩
 have key:∀(n:Nat) (a:Addr),(α++as)[n]? =some a->(n<α.length∧α[n]? =some a)∨(α.length≤n∧as[n - α.length]? =some a):=by
  intro n a e
  by_cases h1:n<α.length
  · left;rw[List.getElem?_append_left h1]at e;exact⟨h1,e⟩
  · right;rw[List.getElem?_append_right (Nat.le_of_not_lt h1)]at e;exact⟨Nat.le_of_not_lt h1,e⟩
 refine⟨R.keep,R.size,by simp[hL,hl],?_,?_,?_,?_,R.jm,R.gP,?_,R.gens,R.drawn,R.os⟩
 · intro n a x e ex
   rcases key n a e with⟨h1,e1⟩|⟨h1,e1⟩
   · rw[List.getElem?_append_left (by exact o1 hL h1)]at ex
     exact(R.obj n a x e1 ex).mono E
   · rw[List.getElem?_append_right (by exact o7 hL h1), ←hL]at ex
     exact ho _ _ _ e1 ex
 · intro n a h0 e
   rcases key n a e with⟨V,e1⟩|⟨V,e1⟩
   · exact R.fresh n a h0 e1
   · exact(hf a (List.mem_of_getElem? e1)).1
 · intro i j a h0 e1 e2
   rcases key i a e1 with⟨V,f1⟩|⟨g1,f1⟩
   · rcases key j a e2 with⟨V,f2⟩|⟨V,f2⟩
     · exact R.inj i j a h0 f1 f2
     · exact absurd rfl (hd a (List.mem_of_getElem? f2) i a f1)
   · rcases key j a e2 with⟨V,f2⟩|⟨g2,f2⟩
     · exact absurd rfl (hd a (List.mem_of_getElem? f1) j a f2)
     · have:=(List.getElem?_inj (List.getElem?_eq_some_iff.mp f1).1 hn).mp (f1.trans f2.symm)
       exact o8 hL g1 g2 this
 · intro p hq
   obtain⟨h1,h2,h4⟩:=R.frs p hq
   refine⟨h1,h2.congr E rfl,fun n a e=>?_⟩
   rcases key n a e with⟨V,e1⟩|⟨V,e1⟩
   · exact h4 n a e1
   · exact hp a (List.mem_of_getElem? e1) p hq
 · intro n a e
   rcases key n a e with⟨V,e1⟩|⟨V,e1⟩
   · exact R.sys n a e1
   · exact(hf a (List.mem_of_getElem? e1)).2
end
noncomputable def AV.fC(js:List Nat)(b:Nat):AV->AV
 |.ref j=>.ref (b+js.idxOf j)
 |v=>v
noncomputable def AO.fC(js:List Nat)(b:Nat):AO->AO
 |.dict kvs=>.dict (kvs.map fun p=>(p.1,p.2.fC js b))
 |.list xs=>.list (xs.map (·.fC js b))
 |.tup xs=>.tup (xs.map (·.fC js b))
 |.inst C d=>.inst C (b+js.idxOf d)
 |.pin P=>.pin P
noncomputable def mL(j:Nat)(l:List Nat):Bool:=@List.rec Nat (fun V=>Bool) false (fun k r i=>(k==j)||i) l
noncomputable def AV.inB(js:List Nat):AV->Bool
 |.ref j=>mL j js
 |_=>true
noncomputable def AO.inB(js:List Nat):AO->Bool
 |.dict kvs=>kvs.all fun p=>p.2.inB js
 |.list xs=>xs.all (·.inB js)
 |.tup xs=>xs.all (·.inB js)
 |.inst _ d=>mL d js
 |.pin _=>false
noncomputable def pG(l:List Nat):Bool:=@List.rec Nat (fun V=>Bool) true (fun j r i=> !(mL j r)&&i) l
theorem jX{j:Nat}:∀{js:List Nat},mL j js=true↔j∈js
 |[]=>⟨fun h=>(nomatch h),fun h=>(nomatch h)⟩
 |k::r=>by
  show((k==j)||mL j r)=true↔_
  rw[Bool.or_eq_true,jX,List.mem_cons,beq_iff_eq]
  exact⟨fun h=>h.imp_left Eq.symm,fun h=>h.imp_left Eq.symm⟩
theorem sO:∀{js:List Nat},pG js=true->js.Nodup
 |[],_=>List.nodup_nil
 |j::r,h=>by
  have h:(!(mL j r)&&pG r)=true:=h
  rw[Bool.and_eq_true,Bool.not_eq_true']at h
  refine List.nodup_cons.mpr ⟨fun hm=>?_,sO h.2⟩
  rw[jX.mpr hm]at h
  cases h.1
noncomputable def qb(α1 α':List Addr)(js:List Nat)(b:Nat):Prop:=∀ j∈js,∀ a,α1[j]? =some a->α'[b+js.idxOf j]? =some a
theorem VR.fC{α1 α':List Addr}{js:List Nat}{b:Nat}(M:qb α1 α' js b){x:AV}{v:Value}(h:VR α1 x v)(q:x.inB js=true):VR α' (x.fC js b) v:=by
 cases x with
 |ref n=>obtain⟨a,e,r⟩:=h;exact⟨a,M n (jX.mp q) a e,r⟩
 |none=>exact h
 |bool b=>exact h
 |int i=>exact h
 |str x=>exact h
 |glob g=>exact h
theorem bM.fC{α1 α':List Addr}{js:List Nat}{b:Nat}(M:qb α1 α' js b){xs:List AV}{vs:List Value}(h:bM α1 xs vs)(q:xs.all (·.inB js)=true):bM α' (xs.map (·.fC js b)) vs:=by
 induction h with
 |nil=>exact .nil
 |cons r _ ih=>
  rw[List.all_cons,Bool.and_eq_true]at q
  exact .cons (r.fC M q.1) (ih q.2)
theorem aW.fC{α1 α':List Addr}{js:List Nat}{b:Nat}(M:qb α1 α' js b){xs:List (Str×AV)}{vs:List (Str×Value)}(h:aW α1 xs vs)(q:xs.all (fun p=>p.2.inB js)=true):aW α' (xs.map fun p=>(p.1,p.2.fC js b)) vs:=by
 induction h with
 |nil=>exact .nil
 |cons r _ ih=>
  rw[List.all_cons,Bool.and_eq_true]at q
  exact .cons (r.fC M q.1) (ih q.2)
theorem OR.fC{prog:Program}{w:World}{α1 α':List Addr}{js:List Nat}{b:Nat}(M:qb α1 α' js b){h:Heap}{a:Addr}{o:AO}(r:OR prog w α1 h a o)(q:o.inB js=true):OR prog w α' h a (o.fC js b):=by
 cases o with
 |dict kvs=>obtain⟨ps,h1,h2⟩:=r;exact⟨ps,h1,h2.fC M q⟩
 |list xs=>obtain⟨ps,h1,h2⟩:=r;exact⟨ps,h1,h2.fC M q⟩
 |tup xs=>obtain⟨ps,h1,h2⟩:=r;exact⟨ps,h1,h2.fC M q⟩
 |inst C d=>
  obtain⟨ad,h1,h2⟩:=r
  have q:mL d js=true:=q
  exact⟨ad,M d (jX.mp q) ad h1,h2⟩
 |pin P=>cases q
noncomputable def AV.jF(es:List Nat):AV->AV
 |.ref j=>.ref (es.getD j 0)
 |v=>v
noncomputable def AO.jF(es:List Nat):AO->AO
 |.dict kvs=>.dict (kvs.map fun p=>(p.1,p.2.jF es))
 |.list xs=>.list (xs.map (·.jF es))
 |.tup xs=>.tup (xs.map (·.jF es))
 |.inst C d=>.inst C (es.getD d 0)
 |.pin P=>.pin P
theorem VR.gK{α α0:List Addr}{es:List Nat}(M:∀ j,j<es.length->α0[j]? =α[es.getD j 0]?){x:AV}{v:Value}(h:VR α (x.jF es) v)(q:x.bd es.length=true):VR α0 x v:=by
 cases x with
 |ref n=>obtain⟨a,e,r⟩:=h;exact⟨a,(M n (of_decide_eq_true q)).trans e,r⟩
 |none=>exact h
 |bool b=>exact h
 |int i=>exact h
 |str x=>exact h
 |glob g=>exact h
theorem bM.gK{α α0:List Addr}{es:List Nat}(M:∀ j,j<es.length->α0[j]? =α[es.getD j 0]?):∀{xs:List AV} {vs:List Value},bM α (xs.map (·.jF es)) vs->xs.all (·.bd es.length)=true->bM α0 xs vs
 |[],_,.nil,_=>.nil
 |_::_,_,.cons r h,q=>by
  rw[List.all_cons,Bool.and_eq_true]at q
  exact .cons (VR.gK M r q.1) (bM.gK M h q.2)
theorem aW.gK{α α0:List Addr}{es:List Nat}(M:∀ j,j<es.length->α0[j]? =α[es.getD j 0]?):∀{xs:List (Str×AV)} {vs:List (Str×Value)},aW α (xs.map fun p=>(p.1,p.2.jF es)) vs->xs.all (fun p=>p.2.bd es.length)=true->aW α0 xs vs
 |[],_,.nil,_=>.nil
 |(_,_)::_,_,.cons r h,q=>by
  rw[List.all_cons,Bool.and_eq_true]at q
  exact .cons (VR.gK M r q.1) (aW.gK M h q.2)
theorem OR.gK{prog:Program}{w:World}{α α0:List Addr}{es:List Nat}(M:∀ j,j<es.length->α0[j]? =α[es.getD j 0]?){h:Heap}{a:Addr}{o:AO}:OR prog w α h a (o.jF es)->o.bd es.length=true->OR prog w α0 h a o:=
 @AO.casesOn (fun o=>OR prog w α h a (o.jF es)->o.bd es.length=true->OR prog w α0 h a o) o (fun V h q=>h.imp fun V h=>⟨h.1,aW.gK M h.2 q⟩) (fun V h q=>h.imp fun V h=>⟨h.1,bM.gK M h.2 q⟩) (fun V h q=>h.imp fun V h=>⟨h.1,bM.gK M h.2 q⟩)
  (fun V V h q=>h.imp fun V h=>⟨(M _ (of_decide_eq_true q)).trans h.1,h.2⟩) (fun V h V=>h)
noncomputable def Cx.at(C:Cx)(s:Shared)(n:Nat):Cx:={C with base:=s.heap,n0:=n,gens:=s.gens}
section
variable{C:Cx}{α α1:List Addr}{H H₀ H1:List AO}{fr:List (Addr×FE)}{s sE:Shared}
theorem aC.small(R:aC C α H fr s){es:List Nat}(he:es.map (fun j=>H[j]?)=H₀.map fun(o:AO)=>some (o.jF es))(hb:H₀.all (·.bd H₀.length)=true):
 ∃ α0,aC (C.at s H₀.length) α0 H₀ [] s∧(∀ j,j<es.length->α0[j]? =α[es.getD j 0]?)∧es.length=H₀.length:=by
 have hl:es.length=H₀.length:=by simpa using congrArg List.length he
 have hj:∀(i:Nat) (o:AO),H₀[i]? =some o->∃ j a,es[i]? =some j∧H[j]? =some (o.jF es)∧α[j]? =some a:=by
  intro i o e
  have h1:=congrArg (fun l=>l[i]?) he
  simp only[List.getElem?_map,e,Option.map_some]at h1
  cases q:es[i]? with
  |none=>rw[q]at h1;simp at h1
  |some j=>
   rw[q]at h1
   simp only[Option.map_some,Option.some.injEq]at h1
   have:j<α.length:=by rw[R.len];exact(List.getElem?_eq_some_iff.mp h1).1
   exact⟨j,α[j],rfl,h1,List.getElem?_eq_getElem this⟩
 have mono:∀ j,j<es.length->(es.map fun j=>α.getD j 0)[j]? =α[es.getD j 0]?:=by
  intro j h
  refine gG fun P_ k_=>?_
  obtain⟨k,a,h1,V,h3⟩:=hj j H₀[j] (List.getElem?_eq_getElem (hl▸h))
  refine k_ ?_
  rw[List.getElem?_map,h1,Option.map_some,List.getD_eq_getElem?_getD,List.getD_eq_getElem?_getD,h1,Option.getD_some,h3,Option.getD_some]
 refine⟨es.map fun j=>α.getD j 0,⟨fun b o e=>e,trivial,by simp[hl],fun n a o e1 e2=>?_,fun n a h e=>?_,fun i j a h e1 e2=>?_,fun p hp=>by simp at hp,List.nodup_nil,⟨_,R.keep _ _ R.gP.choose_spec⟩,fun n a e=>?_,fun i x e=>e,R.drawn,R.os⟩,mono,hl⟩
 · have hn:n<es.length:=hl▸(List.getElem?_eq_some_iff.mp e2).1
   refine gG fun P_ k_=>?_
   obtain⟨k,b,h1,h2,h3⟩:=hj n o e2
   refine k_ ?_
   rw[mono n hn,List.getD_eq_getElem?_getD,h1,Option.getD_some,h3]at e1
   cases e1
   have hm:=List.all_eq_true.mp hb o (List.mem_of_getElem? e2)
   rw[←hl]at hm
   exact OR.gK mono (R.obj k a _ h3 h2) hm
 · have:n<es.length:=by have:=(List.getElem?_eq_some_iff.mp e).1;simpa using this
   have h:H₀.length≤n:=h
   omega
 · have:i<es.length:=by have:=(List.getElem?_eq_some_iff.mp e1).1;simpa using this
   have h:H₀.length≤i:=h
   exact o9 hl this h
 · have hn:n<es.length:=by have:=(List.getElem?_eq_some_iff.mp e).1;simpa using this
   rw[mono n hn]at e
   exact R.sys _ a e
theorem aC.back(R:aC C α H fr s){n:Nat}(R1:aC (C.at s n) α1 H1 [] sE):aC C α H fr sE:=
 R.keeps R1.keep trivial R1.gens (R1.drawn.trans R.drawn.symm) (R1.os.trans R.os.symm)
noncomputable def FT(n0:Nat)(H1:List AO)(js:List Nat):Bool:=pG js&&js.all fun j=>Nat.ble n0 j&&match H1[j]? with|some o=>o.inB js|none=>false
noncomputable def qJ(H1:List AO)(js:List Nat)(b:Nat):List AO:=js.map fun j=>match H1[j]? with|some o=>o.fC js b|none=>.tup []
theorem sJ{β γ:Type}{f:β->γ}:∀{l:List β},(∀ a∈l,∀ b∈l,f a=f b->a=b)->l.Nodup->(l.map f).Nodup
 |[],_,_=>List.nodup_nil
 |a::l,h,hn=>by
  rw[List.nodup_cons]at hn
  rw[List.map_cons,List.nodup_cons]
  refine⟨fun hm=>?_,sJ (fun x hx y hy=>h x (.tail _ hx) y (.tail _ hy)) hn.2⟩
  obtain⟨b,hb,e⟩:=List.mem_map.mp hm
  have:=h b (.tail _ hb) a (.head _) e
  subst this
  exact hn.1 hb
theorem aC.pick(R:aC C α H fr s){n:Nat}(R1:aC (C.at s n) α1 H1 [] sE){js:List Nat}(hp:FT n H1 js=true):
 ∃ as,aC C (α++as) (H++qJ H1 js H.length) fr sE∧qb α1 (α++as) js H.length:=by
 have hp':pG js=true∧(js.all fun j=>Nat.ble n j&&match H1[j]? with|some o=>o.inB js|none=>false)=true:=Bool.and_eq_true_iff.mp hp
 have nd:=sO hp'.1
 have key:∀ j∈js,n≤j∧∃ o a,H1[j]? =some o∧o.inB js=true∧α1[j]? =some a:=by
  intro j hj
  obtain⟨h1,h2⟩:=Bool.and_eq_true_iff.mp (List.all_eq_true.mp hp'.2 j hj)
  cases e:H1[j]? with
  |none=>rw[e]at h2;cases h2
  |some o=>
   rw[e]at h2
   have:j<α1.length:=by rw[R1.len];exact(List.getElem?_eq_some_iff.mp e).1
   exact⟨Nat.le_of_ble_eq_true h1,o,α1[j],rfl,h2,List.getElem?_eq_getElem this⟩
 have look:∀ j∈js,α1[j]? =some (α1.getD j 0):=by
  intro j hj
  refine gG fun P_ k_=>?_
  obtain⟨V,V,a,V,V,e⟩:=key j hj
  refine k_ ?_
  rw[List.getD_eq_getElem?_getD,e,Option.getD_some]
 have M:qb α1 (α++js.map fun j=>α1.getD j 0) js H.length:=by
  intro j hj a e
  have h1:js.idxOf j<js.length:=List.idxOf_lt_length_of_mem hj
  rw[List.getElem?_append_right (by rw[R.len];exact o10),R.len,Nat.add_sub_cancel_left,List.getElem?_map,List.getElem?_eq_getElem h1]
  simp only[List.getElem_idxOf,Option.map_some]
  rw[List.getD_eq_getElem?_getD,e,Option.getD_some]
 refine⟨js.map fun j=>α1.getD j 0,aC.adopt (R.back R1) _ _ (by simp[qJ]) (fun a ha=>?_) ?_ (fun a ha n' b e=>?_) (fun a ha p hpp=>?_) (fun i a o e1 e2=>?_),M⟩
 · obtain⟨j,hj,rfl⟩:=List.mem_map.mp ha
   exact⟨R.outN (R1.fresh j _ (key j hj).1 (look j hj)),R1.sys j _ (look j hj)⟩
 · refine sJ (fun i hi k hk e=>?_) nd
   exact R1.inj i k _ (key i hi).1 (look i hi) (by rw[e];exact look k hk)
 · obtain⟨j,hj,rfl⟩:=List.mem_map.mp ha
   have:=R1.fresh j _ (key j hj).1 (look j hj)
   obtain⟨x,hx⟩:=R.getAt e
   exact nT hx this
 · obtain⟨j,hj,rfl⟩:=List.mem_map.mp ha
   have:=R1.fresh j _ (key j hj).1 (look j hj)
   obtain⟨V,g2,V⟩:=R.frs p hpp
   obtain⟨x,hx⟩:=g2.get
   exact(nT hx this).symm
 · rw[List.getElem?_map]at e1
   cases q:js[i]? with
   |none=>rw[q]at e1;simp at e1
   |some j=>
    have hj:j∈js:=List.mem_of_getElem? q
    refine gG fun P_ k_=>?_
    obtain⟨V,ob,b,h1,h2,h3⟩:=key j hj
    refine k_ ?_
    rw[q]at e1
    simp only[Option.map_some,Option.some.injEq]at e1
    rw[List.getD_eq_getElem?_getD,h3,Option.getD_some]at e1
    subst e1
    unfold qJ at e2
    rw[List.getElem?_map,q]at e2
    simp only[Option.map_some,Option.some.injEq,h1]at e2
    subst e2
    exact OR.fC M (R1.obj j b ob h3 h1) h2
end
noncomputable def notRef:AV->Bool
 |.ref _=>false
 |_=>true
section
variable{C:Cx}{d u:Nat}{α:List Addr}{H H₀ H1 G:List AO}{fr:List (Addr×FE)}{f:AV}{as:List AV}{kw:List (Str×AV)}{v:AV}
theorem Bs.at(hB:Bs C){s:Shared}(R:aC C α H fr s)(n:Nat):Bs (C.at s n):=⟨R.aZ hB.aZ,hB.lim.keeps R.keep⟩
theorem JC.frame{es js:List Nat}(hB:Bs C)(hf:notRef f=true)
 (h:∀ C0:Cx,C0.w=C.w->Bs C0->C0.n0=H₀.length->JC C0 d u H₀ [] f as kw v H1)
 (he:es.map (fun j=>H[j]?)=H₀.map fun(o:AO)=>some (o.jF es)) (hb:H₀.all (·.bd H₀.length)=true) (ha:as.all (·.bd H₀.length)=true) (hk:kw.all (fun p=>p.2.bd H₀.length)=true)
 (hp:FT H₀.length H1 js=true) (hv:v.inB js=true):
 JC C d u H fr f (as.map (·.jF es)) (kw.map fun p=>(p.1,p.2.jF es)) (v.fC js H.length) (H++qJ H1 js H.length):=.mk fun α s x args R hx hva hkw Q hQ=>by
 obtain⟨α0,R0,M,hl⟩:=R.small he hb
 refine(h (C.at s H₀.length) rfl (hB.at R _) rfl).run α0 s x args R0 (by
  cases f with
  |ref n=>cases hf
  |_=>exact hx) (bM.gK M hva (by rw[hl];exact ha)) (aW.gK M hkw (by rw[hl];exact hk)) Q fun α1 sE y E R1 r=>?_
 obtain⟨as',R2,MF⟩:=R.pick R1 hp
 exact hQ _ sE y ⟨as',rfl⟩ R2 (r.fC MF hv)
theorem JC.cast{v':AV}{H':List AO}(h:JC C d u H fr f as kw v H1)(ev:v=v')(eH:H1=H'):JC C d u H fr f as kw v' H':=by subst ev;subst eH;exact h
end
theorem HW{es:Array DictEntry}{x:Str}:nsFind es x=(es.toList.find? (·.key.isStr x)).map (·.val):=by
 unfold nsFind findBy
 simp
noncomputable def isDictB:Option Obj->Bool
 |some ⟨_,_,.dict es _,_⟩=>lV es
 |_=>false
theorem Ez{o:Option Obj}(h:isDictB o=true):∃ c dd es n sl,o=some ⟨c,dd,.dict es n,sl⟩∧lV es=true:=by
 cases o with
 |none=>cases h
 |some o=>
  obtain⟨c,dd,data,sl⟩:=o
  cases data with
  |dict es n=>exact⟨_,_,_,_,_,rfl,h⟩
  |_=>cases h
theorem rI(P:Params):∃ c dd es n sl,(KK P).lookup 3=some ⟨c,dd,.dict es n,sl⟩∧lV es=true:=Ez (by kernel_rfl)
theorem glob0(P:Params):∃ c dd es n sl,(KK P).lookup 0=some ⟨c,dd,.dict es n,sl⟩∧lV es=true:=Ez (by kernel_rfl)
theorem gH{K:Frag}{a:Addr}{c:Value}{dd:Option Addr}{es:Array DictEntry}{n:Nat}{sl:Array (Option Value)}{x:Str}{r:Option Value}(h:K.lookup a=some ⟨c,dd,.dict es n,sl⟩)(e:nsIn K a x=some r):nsFind es x=r:=by
 unfold nsIn at e
 rw[h]at e
 dsimp only at e
 rw[HW]
 split at e
 · rename_i y hy;cases e;rw[hy];rfl
 · rename_i hy
   split at e
   · cases e
   · cases e;rw[hy];rfl
structure BK(C:Cx)(fd:FuncData)(α:List Addr)(n:Nat)(kvs:List (Str×AV))(ρ0:ao)(xs:List Value)(ks:List (Str×Value)):Prop where
 out:∃(bs:Addr->List (Str×Value)) (ex:List (Str×Value)) (g:Addr->Sem (List (Str×Value))),(∀ S,pC (KC C) S (bindArgs fd ⟨xs,ks⟩)=some (dictOf [] 0,g))∧
  (∀ D,g D=(forIn ex PUnit.unit (fun x V=>(nsSet D x.1 x.2>>= fun V=>pure (ForInStep.yield PUnit.unit)))>>= fun V=>pure (bs D)))∧
  aW α kvs ex∧(∀ α' D,aG α α'->VR α' (.ref n) (.ref D)->aW α' ρ0 (bs D))∧∀ D,((bs D).all fun x=>fd.scope.names.lookup x.1==some .local)=true
theorem BK.mk'{C:Cx}{fd:FuncData}{α:List Addr}{n:Nat}{kvs:List (Str×AV)}{ρ0:ao}{xs:List Value}{ks ex:List (Str×Value)}{bs:Addr->List (Str×Value)}{g:Addr->Sem (List (Str×Value))}(a:∀ S,pC (KC C) S (bindArgs fd ⟨xs,ks⟩)=some (dictOf [] 0,g))
 (b:∀ D,g D=(forIn ex PUnit.unit (fun x V=>(nsSet D x.1 x.2>>= fun V=>pure (ForInStep.yield PUnit.unit)))>>= fun V=>pure (bs D))) (c:aW α kvs ex) (d:∀ α' D,aG α α'->VR α' (.ref n) (.ref D)->aW α' ρ0 (bs D)) (e:∀ D,((bs D).all fun x=>fd.scope.names.lookup x.1==some .local)=true):BK C fd α n kvs ρ0 xs ks:=⟨bs,ex,g,a,b,c,d,e⟩
section
variable{C:Cx}{d u:Nat}{α:List Addr}{H H1 H2 H3:List AO}{fr:List (Addr×FE)}{fd:FuncData}{fa L:Addr}{ρ ρ':ao}{env:Env}{pos:Pos}{f:FA}
theorem GN{x:Str}{v:Value}(hB:Bs C)(hv:nsIn (KC C) 3 x=some (some v))(hx:fd.scope.names.lookup x=some .globalImplicit)(hg:fd.globals=3)(hk:fd.scope.kind=.function)(hd:(x==("__debug__":Str))=false):
 Ev C d u H fr (eval (.Name x pos) (callEnv fd L fa)) (bQ v) H:=by
 refine gG fun P_ k_=>?_
 obtain⟨c,dd,es,n,sl,h1,h2⟩:=rI C.w.params
 refine k_ ?_
 exact Ev.global hB.aZ hk hx (by rw[hg];exact h1) (gQ h2) (gH h1 hv) hd
theorem BN{x:Str}{v:Value}(hB:Bs C)(hv:nsIn (KC C) 3 x=some none)(hb:nsIn (KC C) 0 x=some (some v))(hx:fd.scope.names.lookup x=some .globalImplicit)(hg:fd.globals=3)(hg':fd.builtins=0)(hk:fd.scope.kind=.function)(hd:(x==("__debug__":Str))=false):
 Ev C d u H fr (eval (.Name x pos) (callEnv fd L fa)) (bQ v) H:=by
 refine gG fun P_ k_=>?_
 obtain⟨c,dd,es,n,sl,h1,h2⟩:=rI C.w.params
 obtain⟨c',dd',es',n',sl',h1',h2'⟩:=glob0 C.w.params
 refine k_ ?_
 exact Ev.builtin hB.aZ hk hx (by rw[hg];exact h1) (gQ h2) (gH h1 hv) (by rw[hg'];exact h1') (gQ h2') (gH h1' hb) hd
structure OwnF(C:Cx)(Cc:Addr)(name:Str):Prop where
 g:plainGet (KC C) Cc name=true
 h:hasDictIn (KC C) Cc=true
 a:findIn (KC C) (.ref Cc) name=some none
theorem AO1{n k:Nat}{Cc:Addr}{kvs:List (Str×AV)}{name:Str}{v:AV}{ex:Bool}(hB:Bs C)(F:OwnF C Cc name)(h1:H[n]? =some (.inst Cc k))(h2:H[k]? =some (.dict kvs))
 (hv:kvs.lookup name=some v) (q:iu v=true):Ev1 C d u H fr (fun x=>getAttr x name ex) (.ref n) v H:=E1.own hB.aZ h1 h2 hv F.g F.h F.a rfl q
structure ClsF(C:Cx)(Cc:Addr)(name:Str)(at_:Value):Prop where
 g:plainGet (KC C) Cc name=true
 h:hasDictIn (KC C) Cc=true
 a:findIn (KC C) (.ref Cc) name=some (some at_)
 n:specialIn (KC C) at_ "__get__"=some none
 q:handedIn at_=true
 c:copiedNames.contains name=false
theorem AC1{n k:Nat}{Cc:Addr}{kvs:List (Str×AV)}{name:Str}{a:Value}{ex:Bool}(hB:Bs C)(F:ClsF C Cc name a)(h1:H[n]? =some (.inst Cc k))(h2:H[k]? =some (.dict kvs))
 (hv:kvs.lookup name=none):Ev1 C d u H fr (fun x=>getAttr x name ex) (.ref n) (bQ a) H:=E1.cls hB.aZ h1 h2 hv F.g F.h F.a F.n F.q F.c
structure jW(C:Cx)(Cc:Addr)(name:Str)(fget:Addr):Prop where
 g:plainGet (KC C) Cc name=true
 h:hasDictIn (KC C) Cc=true
 a:∃ p rest,findIn (KC C) (.ref Cc) name=some (some (.ref p))∧specialIn (KC C) (.ref p) "__get__"=some (some (.builtin "property.__get__"))∧takesIn (KC C) (.ref p)=some true∧recIn (KC C) p "property"=some (.ref fget::rest)
theorem AP1{n k:Nat}{Cc fget:Addr}{kvs:List (Str×AV)}{name:Str}{v:AV}{ex:Bool}{H':List AO}(hB:Bs C)(F:jW C Cc name fget)(h1:H[n]? =some (.inst Cc k))(h2:H[k]? =some (.dict kvs))
 (h:JC C d (u+1) H fr (.glob (.ref fget)) [.ref n] [] v H') (q:iu v=true):Ev1 C d u H fr (fun x=>getAttr x name ex) (.ref n) v H':=by
 refine gG fun P_ k_=>?_
 obtain⟨p,rest,a1,a2,a3,a4⟩:=F.a
 refine k_ ?_
 exact E1.prop hB.aZ h1 h2 F.g F.h a1 a2 a3 a4 h q
structure FnF(C:Cx)(Cc:Addr)(name:Str)(f:Addr):Prop where
 g:plainGet (KC C) Cc name=true
 a:findIn (KC C) (.ref Cc) name=some (some (.ref f))
 t:typeIn (KC C) (.ref f)=some (.type "function")
theorem AF1{n k:Nat}{Cc f:Addr}{kvs:List (Str×AV)}{name:Str}{pl:Sem Bool}(hB:Bs C)(F:FnF C Cc name f)(h1:H[n]? =some (.inst Cc k))(h2:H[k]? =some (.dict kvs))(hv:kvs.lookup name=none):
 JF C d u H fr (Vr (.ref n)) (fun ov=>getMethod ov name pl) (Fs (.glob (.ref f)) [.ref n]) H:=by
 have g:=F.g
 exact Gm.fn hB.aZ h1 h2 hv (plainGet_of g).1 (plainGet_of g).2 F.a F.t
structure SetF(C:Cx)(Cc:Addr)(name:Str):Prop where
 s:findIn (KC C) (.ref Cc) "__setattr__"=some (some (.builtin "object.__setattr__"))
 p:plainOver (KC C) Cc=true
 t:takerIn (KC C) Cc name=some none
 h:(clsIn (KC C) Cc).any (·.hasDict)=true
theorem AS1{n k:Nat}{Cc:Addr}{kvs:List (Str×AV)}{name:Str}{a:AV}(hB:Bs C)(F:SetF C Cc name)(h1:H[n]? =some (.inst Cc k))(h2:H[k]? =some (.dict kvs))(hn:C.n0≤k)(hz:kvs.length≤900):
 JU C d u H fr (Pr (.ref n) a) (fun x=>setAttr x.1 name x.2) (H.set k (.dict (f9 kvs name a))):=U2.own hB.aZ h1 h2 hn hz F.s F.p F.t F.h
theorem GR{x:Str}{a:Addr}(hB:Bs C)(hv:nsIn (KC C) 3 x=some (some (.ref a)))(hx:fd.scope.names.lookup x=some .globalImplicit)(hg:fd.globals=3)(hk:fd.scope.kind=.function)(hd:(x==("__debug__":Str))=false):
 Ev C d u H fr (eval (.Name x pos) (callEnv fd L fa)) (.glob (.ref a)) H:=GN hB hv hx hg hk hd
structure d8(P:Params)(a:Addr)(fd:FuncData):Prop where
 l:∃ c dd sl,(KK P).lookup a=some ⟨c,dd,.func fd,sl⟩
 cd:codeIn (KK P) fd.code fd.qualname=true
 co:fd.scope.isCoroutine=false
 k:fd.scope.kind=.function
 cell:fd.scope.names.all (fun x=>x.2 != .cell)=true
theorem DFn{a:Addr}{body:List Stmt}{as:List AV}{kw:List (Str×AV)}{ρ0:ao}{f:FA}{v:AV}(hB:Bs C)(F:d8 C.w.params a fd)
 (hbody:fd.body=.stmts body) (hroom:d<recursionLimit)
 (hbind:JB C H fr fd as kw ρ0 H1)
 (h:∀ L,∃ ρ',Ex C (d+1) (u+3) H1 L ρ0 fr (execs body (callEnv fd L a)) f H2 ρ') (hv:(match f with|.ret v=>v|_=>.none)=v)
 (hgen:fd.scope.isGenerator=false):JC C d u H fr (.glob (.ref a)) as kw v H2:=by
 obtain⟨c,dd,sl,hl⟩:=F.l
 exact DF hB hl hbody hroom F.cd F.cell hbind h hv F.co hgen F.k
structure gW(P:Params)(a:Addr):Prop where
 l:∃ es n,(KK P).lookup a=some ⟨.type "dict",none,.dict es n,#[]⟩∧KeysLit P es.toList
 lo:(a==sysModules)=false
theorem JS.tp{value slice:Expr}{a:Addr}{x:Str}{v:Value}(hB:Bs C)(T:gW C.w.params a)(e:nsIn (KC C) a x=some (some v))
 (hs:∀ o i,subscripted slice false o i=operate [o,i] (getItem o i)):JS C d u H fr value slice (.glob (.ref a)) (.str x) (bQ v) H:=by
 obtain⟨es,n,h1,h2⟩:=T.l
 exact JS.top hB.aZ h1 h2 e hs
theorem E2.inTp{a:Addr}{x:Str}{r:Option Value}{b:Bool}(hB:Bs C)(T:gW C.w.params a)(e:nsIn (KC C) a x=some r)(hb:r.isSome=b):fG C d u H fr (compareOp .In) (.str x) (.glob (.ref a)) (.bool b) H:=by
 subst hb
 obtain⟨es,n,h1,h2⟩:=T.l
 exact E2.inTop hB.aZ h1 h2 e T.lo
theorem JV.getTp{a:Addr}{x:Str}{r:Option Value}(hB:Bs C)(T:gW C.w.params a)(e:nsIn (KC C) a x=some r):JV C d u H fr (.glob (.builtin "dict.get")) [.glob (.ref a),.str x] [] (bQ (r.getD .none)) H:=by
 obtain⟨es,n,h1,h2⟩:=T.l
 exact JV.dgetTop hB.aZ h1 h2 e T.lo
theorem Gm.tp{a:Addr}{name:Str}{id:String}{pl:Sem Bool}(hB:Bs C)(T:gW C.w.params a)(slot:Slot "dict" name id)(hty:typeOf (.builtin id)=pure (.type "method_descriptor")):
 JF C d u H fr (Vr (.glob (.ref a))) (fun ov=>getMethod ov name pl) (Fs (.glob (.builtin id)) [.glob (.ref a)]) H:=by
 obtain⟨es,n,h1,h2⟩:=T.l
 exact Gm.dictTop hB.aZ h1 slot hty
structure jO(P:Params)(ty:String)(a:Addr)(l:List Value):Prop where
 o:∃ dd n sl,(KK P).lookup a=some ⟨.type ty,dd,.seq l.toArray n,sl⟩
 s:(l.all fun v=>match v with|.str .. =>true|_=>false)=true
theorem E2.notInTt{a:Addr}{l:List Value}{x:Str}{b:Bool}(hB:Bs C)(T:jO C.w.params "tuple" a l)(hb:(!l.any (d7 x))=b):fG C d u H fr (compareOp .NotIn) (.str x) (.glob (.ref a)) (.bool b) H:=by
 obtain⟨dd,n,sl,h⟩:=T.o
 exact E2.CW hB h hb T.s
theorem Ex.forTt{x:Str}{px:Pos}{iter:Expr}{a:Addr}{l:List Value}{oN:List AV}{body:List Stmt}{H':List AO}(hB:Bs C)(hk:fd.scope.kind=.function)(hx:fd.scope.names.lookup x=some .local)
 (h:Ev C d u H ((L,.loc ρ)::fr) (eval iter (callEnv fd L fa)) (.glob (.ref a)) H1) (T:jO C.w.params "tuple" a l) (hm:l.map bQ=oN)
 (hb:fY C d u (fun V=>True) L x fr (execs body (callEnv fd L fa)) oN H1 ρ f H' ρ') (hs:∀ x,foldedSetIterable iter (callEnv fd L fa) x=pure x):
 Ex C d u H L ρ fr (exec (.For (.Name x px) iter body [] pos) (callEnv fd L fa)) f H' ρ':=by
 subst hm
 obtain⟨dd,n,sl,ht⟩:=T.o
 exact Ex.forTup hB.aZ hk hx h ht hb hs
theorem uY{k m:Nat}(h:C.n0=k)(e:Nat.ble k m=true):C.n0≤m:=by rw[h];exact Nat.le_of_ble_eq_true e
theorem E2.notInTp{a:Addr}{x:Str}{r:Option Value}{b:Bool}(hB:Bs C)(T:gW C.w.params a)(e:nsIn (KC C) a x=some r)(hb:(!r.isSome)=b):fG C d u H fr (compareOp .NotIn) (.str x) (.glob (.ref a)) (.bool b) H:=by
 subst hb
 obtain⟨es,n,h1,h2⟩:=T.l
 exact .mk fun α s ⟨i,o⟩ R ⟨⟨t,hi⟩,ho⟩ Q hQ=>by
  dsimp only at hi;subst hi;cases ho
  exact wpAny_notIn_of (strKind_is C.prog C.w x t) T.lo (mapOf_K (prog:=C.prog) (R.aZ hB.aZ) h1 h2) (by rw[find_K h1 e];exact hQ α _ _ (aG.refl _) (R.toks _) rfl)
theorem Ex.exprN{e:Expr}(h:Ev C d u H ((L,.loc ρ)::fr) (eval e env) .none H1)(hi:interactive env=false)(hs:swapsWith e none pos.line env=pure false):
 Ex C d u H L ρ fr (exec (.Expr e pos) env) .next H1 ρ:=Ex.expr h rfl hi hs
end
noncomputable abbrev aR:Str:=⟨#[102,105,101,108,100,115]⟩
noncomputable abbrev au:Str:=⟨#[116,105,109,101]⟩
noncomputable abbrev aP:Str:=⟨#[116,121,112,101]⟩
noncomputable abbrev j5:Str:=⟨#[107,105,110,100]⟩
noncomputable abbrev j4:Str:=⟨#[116,101,120,116]⟩
noncomputable abbrev bG:Str:=⟨#[101,110,100,95,111,102,95,116,114,97,99,107]⟩
noncomputable abbrev j6:Str:=⟨#[99,111,112,121]⟩
noncomputable abbrev nP:Str:=⟨#[100,105,99,116]⟩
noncomputable abbrev bI:Str:=⟨#[99,104,97,110,110,101,108]⟩
noncomputable abbrev lW:Str:=⟨#[110,111,116,101]⟩
noncomputable abbrev iQ:Str:=⟨#[118,101,108,111,99,105,116,121]⟩
noncomputable abbrev iC:Str:=⟨#[99,111,110,116,114,111,108]⟩
noncomputable abbrev fK:Str:=⟨#[118,97,108,117,101]⟩
noncomputable abbrev iB:Str:=⟨#[112,114,111,103,114,97,109]⟩
noncomputable abbrev aj:Str:=⟨#[115,107,105,112,95,99,104,101,99,107,115]⟩
noncomputable abbrev uJ:Str:=⟨#[110,97,109,101]⟩
noncomputable abbrev qG:Str:=⟨#[110,111,116,101,95,111,110]⟩
noncomputable abbrev jd:Str:=⟨#[99,111,110,116,114,111,108,95,99,104,97,110,103,101]⟩
noncomputable abbrev jc:Str:=⟨#[112,114,111,103,114,97,109,95,99,104,97,110,103,101]⟩
noncomputable abbrev oX:Str:=⟨#[108,101,110,103,116,104]⟩
noncomputable abbrev aq:Str:=⟨#[109,115,103]⟩
theorem qm(P:Params):nsIn (KK P) 3 ⟨#[77,101,116,97,77,101,115,115,97,103,101]⟩=some (some (.ref 949)):=by kernel_rfl
theorem yt(P:Params):nsIn (KK P) 3 ⟨#[95,116,111,95,97,98,115,116,105,109,101]⟩=some (some (.ref 959)):=by kernel_rfl
theorem yr(P:Params):nsIn (KK P) 3 ⟨#[95,116,111,95,114,101,108,116,105,109,101]⟩=some (some (.ref 967)):=by kernel_rfl
theorem kj(P:Params):nsIn (KK P) 3 ⟨#[102,105,120,95,101,110,100,95,111,102,95,116,114,97,99,107]⟩=some (some (.ref 975)):=by kernel_rfl
theorem wF(P:Params):nsIn (KK P) 3 ⟨#[109,101,114,103,101,95,116,114,97,99,107,115]⟩=some (some (.ref 983)):=by kernel_rfl
theorem Bu(P:Params):nsIn (KK P) 3 ⟨#[95,108,97,119,95,101,118,101,110,116]⟩=some (some (.ref 990)):=by kernel_rfl
theorem tD(P:Params):nsIn (KK P) 3 ⟨#[95,108,97,119,95,98,97,114,101]⟩=some (some (.ref 995)):=by kernel_rfl
theorem b3_list(P:Params):nsIn (KK P) 3 ⟨#[108,105,115,116]⟩=some none:=by kernel_rfl
theorem b0_list(P:Params):nsIn (KK P) 0 ⟨#[108,105,115,116]⟩=some (some (.type "list")):=by kernel_rfl
theorem xW(P:Params):nsIn (KK P) 3 ⟨#[115,111,114,116,101,100]⟩=some none:=by kernel_rfl
theorem xX(P:Params):nsIn (KK P) 0 ⟨#[115,111,114,116,101,100]⟩=some (some (.builtin "sorted")):=by kernel_rfl
theorem Cr(P:Params):nsIn (KK P) 3 ⟨#[108,101,110]⟩=some none:=by kernel_rfl
theorem Cv(P:Params):nsIn (KK P) 0 ⟨#[108,101,110]⟩=some (some (.builtin "len")):=by kernel_rfl
theorem b3_max(P:Params):nsIn (KK P) 3 ⟨#[109,97,120]⟩=some none:=by kernel_rfl
theorem b0_max(P:Params):nsIn (KK P) 0 ⟨#[109,97,120]⟩=some (some (.builtin "max")):=by kernel_rfl
theorem Cq(P:Params):nsIn (KK P) 3 ⟨#[114,97,110,103,101]⟩=some none:=by kernel_rfl
theorem Cu(P:Params):nsIn (KK P) 0 ⟨#[114,97,110,103,101]⟩=some (some (.type "range")):=by kernel_rfl
theorem uN(P:Params):plainGet (KK P) 330 ⟨#[]⟩=true:=by kernel_rfl
theorem Jc(P:Params):hasDictIn (KK P) 330=true:=by kernel_rfl
theorem mk_330(P:Params):makesIn (KK P) 330=true:=by kernel_rfl
theorem uM(P:Params):plainGet (KK P) 949 ⟨#[]⟩=true:=by kernel_rfl
theorem Jb(P:Params):hasDictIn (KK P) 949=true:=by kernel_rfl
theorem mk_949(P:Params):makesIn (KK P) 949=true:=by kernel_rfl
theorem Ij(P:Params):cu (KK P) (.ref 949)=true:=by kernel_rfl
theorem su(C:Cx):jW C 330 au 185:=⟨uN _,Jc _,_,_,by rfl,by rfl,by rfl,by rfl⟩
theorem rZ(C:Cx):jW C 330 aP 177:=⟨uN _,Jc _,_,_,by rfl,by rfl,by rfl,by rfl⟩
theorem Dh(C:Cx):FnF C 330 nP 214:=⟨uN _,by kernel_rfl,by kernel_rfl⟩
theorem Di(C:Cx):FnF C 330 j6 285:=⟨uN _,by kernel_rfl,by kernel_rfl⟩
theorem yp(C:Cx):SetF C 330 aR:=⟨by kernel_rfl,by kernel_rfl,by kernel_rfl,by kernel_rfl⟩
theorem rY(C:Cx):jW C 949 au 185:=⟨uM _,Jb _,_,_,by rfl,by rfl,by rfl,by rfl⟩
theorem rW(C:Cx):jW C 949 aP 177:=⟨uM _,Jb _,_,_,by rfl,by rfl,by rfl,by rfl⟩
theorem Dd(C:Cx):FnF C 949 nP 214:=⟨uM _,by kernel_rfl,by kernel_rfl⟩
theorem Dg(C:Cx):FnF C 949 j6 908:=⟨uM _,by kernel_rfl,by kernel_rfl⟩
theorem yj(C:Cx):SetF C 949 aR:=⟨by kernel_rfl,by kernel_rfl,by kernel_rfl,by kernel_rfl⟩
theorem in_330(P:Params):findIn (KK P) (.ref 330) "__init__"=some (some (.ref 269)):=by kernel_rfl
theorem in_949(P:Params):findIn (KK P) (.ref 949) "__init__"=some (some (.ref 901)):=by kernel_rfl
theorem ty_269(P:Params):typeIn (KK P) (.ref 269)=some (.type "function"):=by kernel_rfl
theorem ty_901(P:Params):typeIn (KK P) (.ref 901)=some (.type "function"):=by kernel_rfl
theorem fu_86(P:Params):d8 P 86 (fd86 P):=⟨⟨_,_,_,by rfl⟩,by kernel_rfl,by kernel_rfl,by kernel_rfl,by kernel_rfl⟩
theorem fu_93(P:Params):d8 P 93 (fd93 P):=⟨⟨_,_,_,by rfl⟩,by kernel_rfl,by kernel_rfl,by kernel_rfl,by kernel_rfl⟩
theorem fu_100(P:Params):d8 P 100 (fd100 P):=⟨⟨_,_,_,by rfl⟩,by kernel_rfl,by kernel_rfl,by kernel_rfl,by kernel_rfl⟩
theorem fu_142(P:Params):d8 P 142 (fd142 P):=⟨⟨_,_,_,by rfl⟩,by kernel_rfl,by kernel_rfl,by kernel_rfl,by kernel_rfl⟩
theorem fu_149(P:Params):d8 P 149 (fd149 P):=⟨⟨_,_,_,by rfl⟩,by kernel_rfl,by kernel_rfl,by kernel_rfl,by kernel_rfl⟩
theorem fu_156(P:Params):d8 P 156 (fd156 P):=⟨⟨_,_,_,by rfl⟩,by kernel_rfl,by kernel_rfl,by kernel_rfl,by kernel_rfl⟩
theorem fu_163(P:Params):d8 P 163 (fd163 P):=⟨⟨_,_,_,by rfl⟩,by kernel_rfl,by kernel_rfl,by kernel_rfl,by kernel_rfl⟩
theorem fu_177(P:Params):d8 P 177 (fd177 P):=⟨⟨_,_,_,by rfl⟩,by kernel_rfl,by kernel_rfl,by kernel_rfl,by kernel_rfl⟩
theorem fu_185(P:Params):d8 P 185 (fd185 P):=⟨⟨_,_,_,by rfl⟩,by kernel_rfl,by kernel_rfl,by kernel_rfl,by kernel_rfl⟩
theorem fu_214(P:Params):d8 P 214 (fd214 P):=⟨⟨_,_,_,by rfl⟩,by kernel_rfl,by kernel_rfl,by kernel_rfl,by kernel_rfl⟩
theorem kp_214(P:Params):cu (KK P) (.ref 214)=true:=by kernel_rfl
theorem oF(P:Params):d8 P 269 (pY P):=⟨⟨_,_,_,by rfl⟩,by kernel_rfl,by kernel_rfl,by kernel_rfl,by kernel_rfl⟩
theorem fu_285(P:Params):d8 P 285 (fd285 P):=⟨⟨_,_,_,by rfl⟩,by kernel_rfl,by kernel_rfl,by kernel_rfl,by kernel_rfl⟩
theorem kp_285(P:Params):cu (KK P) (.ref 285)=true:=by kernel_rfl
theorem fu_379(P:Params):d8 P 379 (fd379 P):=⟨⟨_,_,_,by rfl⟩,by kernel_rfl,by kernel_rfl,by kernel_rfl,by kernel_rfl⟩
theorem fu_421(P:Params):d8 P 421 (fd421 P):=⟨⟨_,_,_,by rfl⟩,by kernel_rfl,by kernel_rfl,by kernel_rfl,by kernel_rfl⟩
theorem fu_500(P:Params):d8 P 500 (fd500 P):=⟨⟨_,_,_,by rfl⟩,by kernel_rfl,by kernel_rfl,by kernel_rfl,by kernel_rfl⟩
theorem fu_879(P:Params):d8 P 879 (fd879 P):=⟨⟨_,_,_,by rfl⟩,by kernel_rfl,by kernel_rfl,by kernel_rfl,by kernel_rfl⟩
theorem fu_886(P:Params):d8 P 886 (fd886 P):=⟨⟨_,_,_,by rfl⟩,by kernel_rfl,by kernel_rfl,by kernel_rfl,by kernel_rfl⟩
theorem vh(P:Params):d8 P 901 (vo P):=⟨⟨_,_,_,by rfl⟩,by kernel_rfl,by kernel_rfl,by kernel_rfl,by kernel_rfl⟩
theorem fu_908(P:Params):d8 P 908 (fd908 P):=⟨⟨_,_,_,by rfl⟩,by kernel_rfl,by kernel_rfl,by kernel_rfl,by kernel_rfl⟩
theorem fu_922(P:Params):d8 P 922 (fd922 P):=⟨⟨_,_,_,by rfl⟩,by kernel_rfl,by kernel_rfl,by kernel_rfl,by kernel_rfl⟩
theorem fu_929(P:Params):d8 P 929 (fd929 P):=⟨⟨_,_,_,by rfl⟩,by kernel_rfl,by kernel_rfl,by kernel_rfl,by kernel_rfl⟩
theorem fu_959(P:Params):d8 P 959 (iz P):=⟨⟨_,_,_,by rfl⟩,by kernel_rfl,by kernel_rfl,by kernel_rfl,by kernel_rfl⟩
theorem kp_959(P:Params):cu (KK P) (.ref 959)=true:=by kernel_rfl
theorem fu_967(P:Params):d8 P 967 (g8 P):=⟨⟨_,_,_,by rfl⟩,by kernel_rfl,by kernel_rfl,by kernel_rfl,by kernel_rfl⟩
theorem kp_967(P:Params):cu (KK P) (.ref 967)=true:=by kernel_rfl
theorem Jf(P:Params):d8 P 975 (cQ P):=⟨⟨_,_,_,by rfl⟩,by kernel_rfl,by kernel_rfl,by kernel_rfl,by kernel_rfl⟩
theorem Ii(P:Params):cu (KK P) (.ref 975)=true:=by kernel_rfl
theorem fu_983(P:Params):d8 P 983 (mV P):=⟨⟨_,_,_,by rfl⟩,by kernel_rfl,by kernel_rfl,by kernel_rfl,by kernel_rfl⟩
theorem kp_983(P:Params):cu (KK P) (.ref 983)=true:=by kernel_rfl
theorem fu_990(P:Params):d8 P 990 (fd990 P):=⟨⟨_,_,_,by rfl⟩,by kernel_rfl,by kernel_rfl,by kernel_rfl,by kernel_rfl⟩
theorem kp_990(P:Params):cu (KK P) (.ref 990)=true:=by kernel_rfl
theorem Ih(P:Params):cu (KK P) (.ref 995)=true:=by kernel_rfl
theorem td_22(P:Params):gW P 22:=⟨⟨_,_,by rfl,by repeat (first|exact trivial|refine⟨⟨_,_,by rfl,by rfl⟩,?_⟩)⟩,by kernel_rfl⟩
theorem td_26(P:Params):gW P 26:=⟨⟨_,_,by rfl,by repeat (first|exact trivial|refine⟨⟨_,_,by rfl,by rfl⟩,?_⟩)⟩,by kernel_rfl⟩
theorem td_32(P:Params):gW P 32:=⟨⟨_,_,by rfl,by repeat (first|exact trivial|refine⟨⟨_,_,by rfl,by rfl⟩,?_⟩)⟩,by kernel_rfl⟩
theorem td_35(P:Params):gW P 35:=⟨⟨_,_,by rfl,by repeat (first|exact trivial|refine⟨⟨_,_,by rfl,by rfl⟩,?_⟩)⟩,by kernel_rfl⟩
theorem td_78(P:Params):gW P 78:=⟨⟨_,_,by rfl,by repeat (first|exact trivial|refine⟨⟨_,_,by rfl,by rfl⟩,?_⟩)⟩,by kernel_rfl⟩
section
variable{prog:Program}{w:World}{A:Around}{E:Value->Shared->Prop}{s:Shared}
theorem Jg{M:Model}{α β:Type}(f:α->β->Sem (ForInStep β))(I:List α->β->Shared->Prop)(Q:β->Shared->Prop)
 (turn:∀ x rest b s,I (x::rest) b s->wpAny M A (f x b) (fun r s'=>match r with|.yield b'=>I rest b' s'|.done b'=>Q b' s') E s)
 (fin:∀ b s,I [] b s->Q b s) (xs:Array α) (b:β) (h:I xs.toList b s):wpAny M A (forIn xs b f) Q E s:=by
 rw[←Array.forIn_toList]
 exact wpAny_forIn_list f I Q turn fin _ b h
theorem Bx{d:Addr}{kvs:List (Str×Value)}{k:Str}{key:Value}{Q:Option Nat->Shared->Prop}(hkey:(strKind prog w).is k key=true)(hm:s.heap.DictOf (strKind prog w) d kvs)(hno:k∉kvs.map (·.1))
 (hQ:Q none s):wpAny (model prog w) A (dictFind d key ((strKind prog w).hash k)) Q E s:=by
 refine gG fun P_ k_=>?_
 obtain⟨o,es,ep,ho,hc,hd,hk,hp,hn⟩:=hm
 refine k_ ?_
 refine wpAny_dictFind_of hkey ho hd hk ?_
 have hidx:(es.findIdx? fun e=>(strKind prog w).is k e.key)=none:=by
  have:(es.findIdx? fun e=>(strKind prog w).is k e.key)=kvs.findIdx? fun kv=>decide (kv.1=k):=by
   rw[←hp.findIdx k];obtain⟨l⟩:=es;simp
  rw[this,List.findIdx?_eq_none_iff]
  intro x hx
  exact decide_eq_false fun e=>hno (List.mem_map.mpr ⟨x,hx,e⟩)
 rw[hidx]
 exact hQ
theorem put_new{d:Addr}{kvs:List (Str×Value)}{k:Str}{key v:Value}{Q:Unit->Shared->Prop}(hkey:(strKind prog w).is k key=true)(hm:s.heap.DictOf (strKind prog w) d kvs)(hno:k∉kvs.map (·.1))
 (hsz:kvs.length≤sizeLine)
 (hQ:∀ h',h'.DictOf (strKind prog w) d (kvs++[(k,v)])->Heap.SameBut d s.heap h'->Q () {s with heap:=h'}):
 wpAny (model prog w) A (dictPut d ((strKind prog w).hash k) key v) Q E s:=by
 unfold dictPut
 refine wpAny_bind (Bx hkey hm hno ?_)
 refine gG fun P_ k_=>?_
 obtain⟨o,es,ep,ho,hc,hd,hk,hp,hn⟩:=hm
 refine k_ ?_
 have hes:es.size≤sizeLine:=by
  have e1:=hp.length
  have e2:es.toList.length=es.size:=by simp
  exact o11 hsz e1 e2
 refine wpAny_updateDictKeys (hz:=hes) ho hd (hQ _ ⟨_,_,ep+1,Heap.get?_update_self _ ho (Obj.isFreed_of_dict (Obj.data_mapDictKeys hd _)),
  hc.mapDictKeys _,Obj.data_mapDictKeys hd _,hk.push hkey _,?_,?_⟩ (Heap.SameBut.update ..))
 · have:=hp.append hkey ((strKind prog w).hash k) v
   obtain⟨l⟩:=es
   simpa using this
 · rw[List.map_append,List.nodup_append]
   refine⟨hn,by simp,?_⟩
   intro a ha b hb
   simp only[List.map_cons,List.map_nil,List.mem_singleton]at hb
   subst hb
   exact fun e=>hno (e▸ha)
theorem wpIte2{M:Model}{β γ:Type}{c:Prop}[Decidable c]{x:Sem γ}{y:γ->Sem PUnit}{k:Sem β}{Q:β->Shared->Prop}(h:wpAny M A x (fun g s'=>wpAny M A (y g) (fun V s''=>s=s'') E s') E s)(hk:wpAny M A k Q E s):wpAny M A (if c then x>>= fun g=>y g>>= fun V=>k else k) Q E s:=by
 split
 · exact wpAny_bind (wpAny_mono h (fun g s' h'=>wpAny_bind (wpAny_mono h' (fun V V e=>e▸hk) fun V V z=>z)) fun V V z=>z)
 · exact hk
theorem wpT{M:Model}{β:Type}{c:Prop}[Decidable c]{x y:Sem β}{Q:β->Shared->Prop}(hc:c)(h:wpAny M A x Q E s):wpAny M A (if c then x else y) Q E s:=by rw[if_pos hc];exact h
theorem wpN{M:Model}{β:Type}{c:Prop}[Decidable c]{x y:Sem β}{Q:β->Shared->Prop}(hc:¬c)(h:wpAny M A y Q E s):wpAny M A (if c then x else y) Q E s:=by rw[if_neg hc];exact h
theorem tY{d a:Addr}{kvs more:List (Str×Value)}{Q:Unit->Shared->Prop}(hda:d≠a)(haS:(a==sysModules)=false)(hd:s.heap.DictOf (strKind prog w) d kvs)(ha:s.heap.DictOf (strKind prog w) a more)
 (hn:((kvs++more).map (·.1)).Nodup) (hsz:kvs.length+more.length≤sizeLine)
 (hQ:∀ h',h'.DictOf (strKind prog w) d (kvs++more)->Heap.SameBut d s.heap h'->Q () {s with heap:=h'}):
 wpAny (model prog w) A (mergeMapping d (.ref a) true) Q E s:=by
 refine gG fun P_ k_=>?_
 obtain⟨oo,eso,epo,hoo,hco,hdo',hko,hpo,hno⟩:=id ha
 obtain⟨od,esd,epd,hod,hcd,hdd,hkd,hpd,hnd⟩:=id hd
 refine k_ ?_
 have hlen:more.length=eso.size:=by rw[←hpo.length];simp
 unfold mergeMapping
 refine wpAny_bind (wpAny_isInstance ha.typeIs isSubtype_dict_dict (wpT rfl ?_))
 refine wpAny_bind (wpAny_specialOf ha.typeIs F.slot_dict_iter.lookup (wpAny_bind (wpAny_pure ?_)))
 rw[beq_self_eq_true]
 refine wpN (c:=(a==sysModules)=true) (by rw[haS];exact Bool.false_ne_true) ?_
 refine wpAny_bind (wpAny_dictEntries hod hdd ?_)
 refine wpIte2 (wpAny_dictEntries hoo hdo' ?_) ?_
 · refine Jg _ (fun rest V s'=>s=s'∧∀ e∈rest,e∈eso.toList) _ (fun x rest b s' ⟨e',hin⟩=>?_) (fun b s' h=>h.1) _ _ ⟨rfl,fun e h=>h⟩
   subst e'
   obtain⟨k,hkey,V⟩:=hko x (Array.mem_toList_iff.mp (hin x (.head _)))
   obtain⟨t,ht⟩:=fQ (k:=k) hkey
   rw[ht]
   exact wpAny_pure ⟨rfl,fun e h=>hin e (.tail _ h)⟩
 · refine wpAny_bind (wpAny_dictEntries hoo hdo' ?_)
   refine wpAny_bind (wpAny_dictEpoch hoo hdo' ?_)
   refine wpAny_bind ?_
   refine wpAny_forIn_list _ (fun rest V s'=>∃ h' i,s'={s with heap:=h'}∧rest=List.range' i (eso.size - i)∧i≤eso.size∧h'.DictOf (strKind prog w) d (kvs++more.take i)∧h'.get? a=some oo∧Heap.SameBut d s.heap h') _ ?_ ?_ _ _
    ⟨s.heap,0,rfl,by rw[List.range_eq_range'];simp,Nat.zero_le _,by simpa using hd,hoo,Heap.SameBut.refl _ _⟩
   · rintro x rest b s' ⟨h',i,rfl,hr,hi,hd',hoo',hs'⟩
     have hlt:i<eso.size:=by
      rcases Nat.lt_or_ge i eso.size with h|h
      · exact h
      · rw[Nat.sub_eq_zero_of_le h]at hr;simp at hr
     obtain⟨rfl,hrest⟩:x=i∧rest=List.range' (i+1) (eso.size - (i+1)):=by
      have e:eso.size - i=(eso.size - (i+1))+1:=by exact o12 hlt
      rw[e,List.range'_succ]at hr
      injection hr with h1 h2
      exact⟨h1,h2⟩
     refine wpAny_bind (wpAny_dictEntries hoo' hdo' ?_)
     rw[Array.getElem?_eq_getElem hlt]
     have hxm:x<more.length:=by rw[hlen];exact hlt
     refine gG fun P_ k_=>?_
     obtain⟨kv,hkv⟩:∃ kv,more[x]? =some kv:=⟨more[x]'hxm,List.getElem?_eq_getElem _⟩
     obtain⟨k,v⟩:=kv
     obtain⟨hkey,hval⟩:=hpo.get? (e:=eso[x]) (by simp[hlt]) hkv
     obtain⟨k',hkey',hhash⟩:=hko eso[x] (Array.getElem_mem hlt)
     refine k_ ?_
     obtain rfl:k'=k:=(strKind prog w).inj _ _ _ hkey' hkey
     have hfresh:k'∉(kvs++more.take x).map (·.1):=by
      have e:more=more.take x++(k',v)::more.drop (x+1):=by
       have h1:more[x]'hxm=(k',v):=(List.getElem?_eq_some_iff.mp hkv).2
       rw[←h1, ←List.drop_eq_getElem_cons hxm,List.take_append_drop]
      rw[e, ←List.append_assoc,List.map_append,List.nodup_append]at hn
      exact fun hm=>hn.2.2 _ hm k' (by simp) rfl
     dsimp only
     rw[hhash,hval]
     refine wpAny_bind (wpAny_holding (wpT rfl (wpAny_bind (Bx hkey hd' hfresh (wpN Bool.false_ne_true ?_)))))
     refine put_new hkey hd' hfresh (by rw[List.length_append,List.length_take];exact o13 hsz hlen hlt) fun h'' hd'' hs''=>?_
     have hoo'':h''.get? a=some oo:=(hs''.2 a (Ne.symm hda)).trans hoo'
     refine wpAny_bind (wpAny_dictEpoch hoo'' hdo' ?_)
     rw[if_neg (by simp)]
     refine wpAny_pure ⟨h'',x+1,rfl,hrest,hlt,?_,hoo'',hs'.trans hs''⟩
     have:more.take (x+1)=more.take x++[(k',v)]:=by
      rw[List.take_succ,hkv];rfl
     rw[this, ←List.append_assoc]
     exact hd''
   · rintro b s' ⟨h',i,rfl,hr,hi,hd',hoo',hs'⟩
     have hin:i=eso.size:=by
      rcases Nat.lt_or_ge i eso.size with h|h
      · have e:eso.size - i=(eso.size - (i+1))+1:=by exact o12 h
        rw[e,List.range'_succ]at hr;exact nomatch hr
      · exact Nat.le_antisymm hi h
     refine wpAny_pure (hQ h' ?_ hs')
     rw[hin, ←hlen,List.take_length]at hd';exact hd'
theorem sW{f:Value}{d:Addr}{ps:List (Str×Value)}{Q:List (Str×Value)->Shared->Prop}(hd:s.heap.DictOf (strKind prog w) d ps)(hQ:Q ps s):wpAny (model prog w) A (keywordsIn f d) Q E s:=by
 refine gG fun P_ k_=>?_
 obtain⟨od,esd,epd,hod,hcd,hdd,hkd,hpd,hnd⟩:=id hd
 refine k_ ?_
 unfold keywordsIn
 refine wpAny_bind (wpAny_dictEntries hod hdd (wpAny_bind ?_))
 refine Jg _ (fun rest b s'=>s=s'∧∃ rp,Pairs (strKind prog w) rest rp∧b++rp=ps) _ ?_ ?_ _ _ ⟨rfl,ps,hpd,rfl⟩
 · rintro x rest b s' ⟨rfl,rp,hP,hb⟩
   cases hP with
   | @cons _ kv _ ps' h1 h2 h3=>
    obtain⟨t,ht⟩:=fQ (k:=kv.1) h1
    rw[ht]
    refine wpAny_pure ⟨rfl,ps',h3,?_⟩
    rw[←hb,List.append_assoc]
    show b++([(kv.1,x.val)]++ps')=_
    rw[h2];rfl
 · rintro b s' ⟨rfl,rp,hP,hb⟩
   cases hP
   rw[List.append_nil]at hb
   subst hb
   exact wpAny_pure hQ
theorem jf{α:Type}{M:Model}{m:Sem α}{k:Value->Sem Unit}{Q:α->Shared->Prop}(h:wpAny M A m Q (fun V V=>False) s):wpAny M A (m.onRaise k) Q (fun V V=>False) s:=
 wpAny_onRaise (wpAny_mono h (fun V V x=>x) fun V V x=>x.elim)
theorem qx{α:Type}{M:Model}{m:Sem α}{k:Value->Sem α}{Q:α->Shared->Prop}(h:wpAny M A m Q (fun V V=>False) s):wpAny M A (tryCatch m k) Q (fun V V=>False) s:=
 wpAny_tryCatch (wpAny_mono h (fun V V x=>x) fun V V x=>x.elim)
noncomputable def cN:Obj:={cls:=.type "dict",data:=.dict #[]}
theorem qU(h:Heap):(h.push cN).DictOf (strKind prog w) h.objs.size []:=Heap.DictOf.new h
theorem merged1{f:Value}{t:Sem Value}{Q:Addr->Shared->Prop}
 (h:wpAny (model prog w) A t (fun v sE=>∃(a:Addr) (more:List (Str×Value)),v=.ref a∧s.heap.objs.size≠a∧(a==sysModules)=false∧sE.heap.DictOf (strKind prog w) a more∧sE.heap.DictOf (strKind prog w) s.heap.objs.size []∧more.length≤sizeLine∧
  ∀ h',h'.DictOf (strKind prog w) s.heap.objs.size more->Heap.SameBut s.heap.objs.size sE.heap h'->Q s.heap.objs.size {sE with heap:=h'}) (fun V V=>False) {s with heap:=s.heap.push cN}):wpAny (model prog w) A (mergedKeywords f [(none,t)]) Q (fun V V=>False) s:=by
 unfold mergedKeywords
 refine wpAny_bind (wpAny_alloc (wpAny_bind (wpAny_holding ?_)))
 dsimp only
 refine wpAny_bind ?_
 rw[List.forIn_cons]
 refine wpAny_bind (wpAny_bind (wpAny_pure (wpAny_bind (wpAny_mono h (fun v sE hv=>?_) fun V V x=>x))))
 refine gG fun P_ k_=>?_
 obtain⟨a,more,rfl,h1,h2,h3,h4,h5,h6⟩:=hv
 refine k_ ?_
 have hnd:(more.map (·.1)).Nodup:=by obtain⟨V,V,V,V,V,V,V,V,n⟩:=h3;exact n
 refine wpAny_bind (jf (wpAny_holding (qx (jf (tY h1 h2 h4 h3 (by simpa using hnd) (by simpa using h5) fun h' g1 g2=>?_)))))
 exact wpAny_pure (wpAny_pure (wpAny_pure (wpAny_pure (h6 h' (by simpa using g1) g2))))
theorem merged2{f:Value}{n:Str}{tB tC:Sem Value}{Q:Addr->Shared->Prop}(vA:Value)
 (h1:∀(Q:Value->Shared->Prop) s',(∀ b o,s.heap.get? b=some o->s'.heap.get? b=some o)->Q vA s'->wpAny (model prog w) A tB Q (fun V V=>False) s')
 {a:Addr} {more:List (Str×Value)} (h2:∀(Q:Value->Shared->Prop) s',(∀ b o,s.heap.get? b=some o->s'.heap.get? b=some o)->Q (.ref a) s'->wpAny (model prog w) A tC Q (fun V V=>False) s')
 (haS:(a==sysModules)=false) (ha:s.heap.DictOf (strKind prog w) a more) (hnd:(((n,vA)::more).map (·.1)).Nodup) (hz:more.length<sizeLine)
 (hQ:∀ h' t,(∀ b o,s.heap.get? b=some o->h'.get? b=some o)->s.heap.objs.size≤h'.objs.size->h'.DictOf (strKind prog w) s.heap.objs.size ((n,vA)::more)->Q s.heap.objs.size {s with heap:=h',toks:=t}):
 wpAny (model prog w) A (mergedKeywords f [(some n,tB),(none,tC)]) Q (fun V V=>False) s:=by
 unfold mergedKeywords
 refine wpAny_bind (wpAny_alloc (wpAny_bind (wpAny_holding ?_)))
 dsimp only
 refine wpAny_bind ?_
 rw[List.forIn_cons]
 refine wpAny_bind (wpAny_pure ?_)
 dsimp only
 rw[List.forIn_cons]
 have k0:∀ b o,s.heap.get? b=some o->(s.heap.push cN).get? b=some o:=fun b o e=>Heap.get?_push_of_some _ e
 have z0:(s.heap.push cN).objs.size=s.heap.objs.size+1:=Heap.size_push ..
 refine wpAny_bind (wpAny_bind ?_)
 rw[if_neg (by simp)]
 refine wpAny_bind (wpAny_evalAll_cons (h1 _ {s with heap:=s.heap.push cN} k0 (wpAny_evalAll_nil ?_)))
 refine wpAny_bind (wpAny_alloc (wpAny_bind ?_))
 show wpAny _ _ (forIn [((n,tB),vA)] PUnit.unit _) _ _ _
 rw[List.forIn_cons]
 have z1:((s.heap.push cN).push cN).objs.size=s.heap.objs.size+1+1:=by rw[Heap.size_push,z0]
 have dsub:((s.heap.push cN).push cN).DictOf (strKind prog w) (s.heap.objs.size+1) []:=z0▸qU (s.heap.push cN)
 have k1:∀ b o,(s.heap.push cN).get? b=some o->((s.heap.push cN).push cN).get? b=some o:=fun b o e=>Heap.get?_push_of_some _ e
 have dd:((s.heap.push cN).push cN).DictOf (strKind prog w) s.heap.objs.size []:=by
  refine gG fun P_ k_=>?_
  obtain⟨o,es,ep,g,r⟩:=qU (prog:=prog) (w:=w) s.heap
  refine k_ ?_
  exact⟨o,es,ep,k1 _ _ g,r⟩
 have hne:s.heap.objs.size≠s.heap.objs.size+1:=by exact o14
 dsimp only
 show wpAny _ _ ((nsSet (s.heap.push cN).objs.size n vA>>= _)>>= _) _ _ _
 rw[z0]
 refine wpAny_bind (wpAny_bind (tV (s:={s with heap:=(s.heap.push cN).push cN}) dsub fun h₂ hsA dG V=>wpAny_pure ?_))
 dsimp only
 rw[List.forIn_nil]
 refine wpAny_pure ?_
 have st:stored ([]:List (Str×Value)) n vA=[(n,vA)]:=rfl
 rw[st]at dG
 have ddA:h₂.DictOf (strKind prog w) s.heap.objs.size []:=by
  refine gG fun P_ k_=>?_
  obtain⟨o,es,ep,g,r⟩:=dd
  refine k_ ?_
  exact⟨o,es,ep,(hsA.2 _ hne).trans g,r⟩
 have sysN:(s.heap.objs.size+1==sysModules)=false:=by
  have:a<s.heap.objs.size:=by obtain⟨o,V,V,g,V⟩:=ha;exact Heap.lt_size g
  have:s.heap.objs.size+1≠sysModules:=fun e=>by
   have e:s.heap.objs.size=0:=Nat.succ.inj e
   rw[e]at this
   exact Nat.not_lt_zero _ this
  simpa using this
 refine jf (wpAny_holding (qx (jf (tY (s:={s with heap:=h₂,toks:=s.toks+1}) hne sysN ddA dG (by simp) (by rw[sizeLine_eq];simp) fun h₃ dH hs3=>?_))))
 have k3:∀ b o,s.heap.get? b=some o->h₃.get? b=some o:=fun b o e=>by
  have hb:=Heap.lt_size e
  rw[hs3.2 b (Nat.ne_of_lt hb),hsA.2 b (Nat.ne_of_lt (Nat.lt_succ_of_lt hb))]
  exact k1 _ _ (k0 _ _ e)
 have z3:h₃.objs.size=s.heap.objs.size+1+1:=by rw[hs3.1];show h₂.objs.size=_;rw[hsA.1,z1]
 dsimp only
 refine wpAny_bind (h2 _ _ k3 ?_)
 have ha3:h₃.DictOf (strKind prog w) a more:=by
  refine gG fun P_ k_=>?_
  obtain⟨o,es,ep,g,r⟩:=ha
  refine k_ ?_
  exact⟨o,es,ep,k3 _ _ g,r⟩
 have had:s.heap.objs.size≠a:=by obtain⟨o,V,V,g,V⟩:=ha;exact(Nat.ne_of_lt (Heap.lt_size g)).symm
 refine wpAny_bind (jf (wpAny_holding (qx (jf (tY (s:={s with heap:=h₃,toks:=s.toks+1}) had haS dH ha3 (by simpa using hnd) (by simp;omega) fun h₄ d4 hs4=>?_)))))
 refine wpAny_pure ?_
 dsimp only
 rw[List.forIn_nil]
 refine wpAny_pure (wpAny_pure (wpAny_pure (hQ h₄ _ (fun b o e=>?_) ?_ (by simpa using d4))))
 · have hb:=Heap.lt_size e
   rw[hs4.2 b (Nat.ne_of_lt hb)]
   exact k3 _ _ e
 · rw[hs4.1];show _≤h₃.objs.size;omega
theorem xQ{f:Value}{keywords:List (Option Str×Sem Value)}{Q:Args->Shared->Prop}(hall:keywords.all (·.1.isSome)=false)
 (h:wpAny (model prog w) A (mergedKeywords f keywords) (fun d sE=>wpAny (model prog w) A (keywordsIn f d) (fun kw sG=>Q ⟨[],kw⟩ sG) E sE) E s):wpAny (model prog w) A (evalArgs f true [] keywords) Q E s:=by
 unfold evalArgs
 show wpAny _ _ (spliced []>>= _) Q E s
 refine wpAny_bind (Calls.spliced_nil (wpAny_bind (wpAny_pure (wpAny_holding ?_))))
 simp only[hall,Bool.false_eq_true,if_false]
 refine wpAny_bind (wpAny_mono h (fun d sE h₁=>wpAny_bind (wpAny_pure (wpAny_bind (wpAny_holding (wpAny_mono h₁ (fun kw sG h₂=>wpAny_pure h₂) fun V V x=>x))))) fun V V x=>x)
theorem xV{M:Model}{pos:Pos}{f:Value}{first:List Value}{P:Heap->Prop}{args:List (Bool×Sem Value)}{keywords:List (Option Str×Sem Value)}{Q:Value->Shared->Prop}(hs:(args.any (·.1)||keywords.any (·.1.isNone))=true)
 (hk:∀ h,P h->∃ k,(k=Keeper.frame∨k=Keeper.machine∨k=Keeper.boundFrame)∧Looks M h (keeperOf f) k)
 (h:wpAny M A (evalArgs f true args keywords) (fun a sE=>P sE.heap∧wpAny M A (call f (first++a.pos) a.kw) Q E sE) E s):wpAny M A (callWith pos f first args keywords) Q E s:=by
 unfold callWith
 refine wpAny_bind (wpAny_holding (wpAny_mono h (fun a sE h₁=>wpAny_bind (wpAny_standAt ?_)) fun V V x=>x))
 obtain⟨k,hk',L⟩:=hk _ h₁.1
 rw[hs]
 refine wpAny_bind (L.here ?_)
 have tail:∀{t:Sem Value},wpAny M A t Q E sE->wpAny M A (t>>= fun r=>holding [r] point>>= fun V=>pure r) Q E sE:=
  fun ht=>wpAny_bind (wpAny_mono ht (fun r sG hr=>wpAny_bind (wpAny_holding (wpAny_point (wpAny_pure hr)))) fun V V x=>x)
 have marked (mk:Value):wpAny M A (callMarked mk f (first++a.pos) a.kw) Q E sE:=by unfold callMarked;exact Calls.wpAny_keep h₁.2
 rcases hk' with rfl|rfl|rfl<;>first|exact tail (marked _)|exact tail (wpAny_operate' h₁.2)
end
section
variable{C:Cx}{d u:Nat}{α:List Addr}{H H1 H2 H3:List AO}{fr:List (Addr×FE)}{fd:FuncData}{fa L:Addr}{ρ ρ':ao}{env:Env}{pos:Pos}{f:AV}
theorem wj{s:Shared}(R:aC C α H ((L,.loc ρ)::fr) s){x:Str}{v:AV}{p:Pos}(hk:fd.scope.kind=.function)(hx:fd.scope.names.lookup x=some .local)(hρ:ρ.lookup x=some v)(hd:(x==("__debug__":Str))=false):
 ∃ y,VR α v y∧∀(A:Around) (E:Value->Shared->Prop) (Q:Value->Shared->Prop) s',(∀ b o,s.heap.get? b=some o->s'.heap.get? b=some o)->Q y s'->wpAny (model C.prog C.w) A (eval (.Name x p) (callEnv fd L fa)) Q E s':=by
 refine gG fun P_ k_=>?_
 obtain⟨V,⟨m,hm,hl⟩,V⟩:=R.frs (L,.loc ρ) (.head _)
 refine k_ ?_
 have q:=hl x
 rw[hρ]at q
 obtain⟨y,e,r⟩:=q
 refine⟨y,r,fun A E Q s' hk' hQ=>?_⟩
 have hm':s'.heap.Ns L m:=by
  refine gG fun P_ k_=>?_
  obtain⟨o,es,n,g,z⟩:=hm
  refine k_ ?_
  exact⟨o,es,n,hk' _ _ g,z⟩
 exact wpAny_Name (wpAny_loadName_local (env:=callEnv fd L fa) hk hx hm' e hQ) hd
theorem CS1{x:Str}{px kp:Pos}{fv:Value}{m:Nat}{kvs:List (Str×AV)}{v:AV}(hB:Bs C)(hf:f=.glob fv)(hkp:cu (KC C) fv=true)(hk:fd.scope.kind=.function)(hx:fd.scope.names.lookup x=some .local)(hρ:ρ.lookup x=some (.ref m))(hd:(x==("__debug__":Str))=false)
 (hm:H[m]? =some (.dict kvs)) (hz:kvs.length≤sizeLine) (h:JV C d u H ((L,.loc ρ)::fr) (.glob fv) [] kvs v H2):
 JF C d u H ((L,.loc ρ)::fr) (Fs f []) (fun p=>callWith pos p.1 p.2 (backTo pos (starEach [] (callEnv fd L fa))) (backToKw pos (keywordEach [⟨none,.Name x px,kp⟩] (callEnv fd L fa)))) (Vr v) H2:=.mk fun α s p R hp Q hQ=>by
 obtain⟨fv',fs⟩:=p
 obtain⟨h1,h2⟩:=hp
 subst hf
 cases h1
 cases h2
 refine gG fun P_ k_=>?_
 obtain⟨y,⟨a,e,rfl⟩,look⟩:=wj (fd:=fd) (fa:=fa) (p:=px) R hk hx hρ hd
 obtain⟨ps,hD,hkv⟩:=R.dictAt hm e
 refine k_ ?_
 have k0:∀ b o,s.heap.get? b=some o->(s.heap.push cN).get? b=some o:=fun b o g=>Heap.get?_push_of_some _ g
 have hD1:(s.heap.push cN).DictOf (strKind C.prog C.w) a ps:=by
  refine gG fun P_ k_=>?_
  obtain⟨o,es,ep,g,z⟩:=hD
  refine k_ ?_
  exact⟨o,es,ep,k0 _ _ g,z⟩
 refine xV (P:=(KC C).In) rfl (lO hkp) (xQ rfl (merged1 ?_))
 refine wpAny_bind (look _ _ _ {s with heap:=s.heap.push cN} k0 (wpAny_bind (wpAny_standAt (wpAny_pure ⟨a,ps,rfl,(Nat.ne_of_lt (R.lt e)).symm,R.noSys e,hD1,qU _,by rw[←hkv.length];exact hz,fun h' g1 g2=>?_⟩))))
 have R':=R.keeps (s':={s with heap:=h'}) (fun c o g=>(g2.2 c (Nat.ne_of_lt (Heap.lt_size g))).trans (k0 _ _ g)) trivial (fun V V g=>g) rfl rfl
 refine sW g1 ⟨R'.aZ hB.aZ,?_⟩
 exact h.run α _ _ _ _ R' rfl .nil hkv Q hQ
theorem CS2{n xG x:Str}{px1 px kp1 kp:Pos}{fv:Value}{m:Nat}{kvs:List (Str×AV)}{v aA:AV}(hB:Bs C)(hf:f=.glob fv)(hkp:cu (KC C) fv=true)(hk:fd.scope.kind=.function)(hx1:fd.scope.names.lookup xG=some .local)(hρ1:ρ.lookup xG=some aA)(hd1:(xG==("__debug__":Str))=false)
 (hx:fd.scope.names.lookup x=some .local) (hρ:ρ.lookup x=some (.ref m)) (hd:(x==("__debug__":Str))=false)
 (hm:H[m]? =some (.dict kvs)) (hz:kvs.length<sizeLine) (hno:kvs.all (fun p=> !(p.1==n))=true) (h:JV C d u H ((L,.loc ρ)::fr) (.glob fv) [] ((n,aA)::kvs) v H2):
 JF C d u H ((L,.loc ρ)::fr) (Fs f []) (fun p=>callWith pos p.1 p.2 (backTo pos (starEach [] (callEnv fd L fa))) (backToKw pos (keywordEach [⟨some n,.Name xG px1,kp1⟩,⟨none,.Name x px,kp⟩] (callEnv fd L fa)))) (Vr v) H2:=.mk fun α s p R hp Q hQ=>by
 obtain⟨fv',fs⟩:=p
 obtain⟨h1,h2⟩:=hp
 subst hf
 cases h1
 cases h2
 refine gG fun P_ k_=>?_
 obtain⟨y,⟨a,e,rfl⟩,look⟩:=wj (fd:=fd) (fa:=fa) (p:=px) R hk hx hρ hd
 obtain⟨yC,rA,look1⟩:=wj (fd:=fd) (fa:=fa) (p:=px1) R hk hx1 hρ1 hd1
 obtain⟨ps,hD,hkv⟩:=R.dictAt hm e
 refine k_ ?_
 have hnd:(ps.map (·.1)).Nodup:=by obtain⟨V,V,V,V,V,V,V,V,n⟩:=hD;exact n
 refine xV (P:=(KC C).In) rfl (lO hkp) (xQ rfl (merged2 yC (fun Q' s' k' q'=>wpAny_bind (look1 _ _ _ s' k' (wpAny_bind (wpAny_standAt (wpAny_pure q'))))) (fun Q' s' k' q'=>wpAny_bind (look _ _ _ s' k' (wpAny_bind (wpAny_standAt (wpAny_pure q'))))) (R.noSys e) hD ?_ (by rw[←hkv.length];exact hz) fun h' t g1 g2 g3=>?_))
 · simp only[List.map_cons,List.nodup_cons]
   refine⟨fun hm'=>?_,hnd⟩
   rw[←hkv.keys]at hm'
   obtain⟨p,hp,e'⟩:=List.mem_map.mp hm'
   have:=List.all_eq_true.mp hno p hp
   rw[e']at this
   simp at this
 have R':=R.keeps (s':={s with heap:=h',toks:=t}) g1 trivial (fun V V g=>g) rfl rfl
 refine sW g3 ⟨R'.aZ hB.aZ,?_⟩
 exact h.run α _ _ _ _ R' rfl .nil (.cons rA hkv) Q hQ
theorem T1.dict{n:Nat}{kvs:List (Str×AV)}{b:Bool}(h1:H[n]? =some (.dict kvs))(hz:kvs.length≤sizeLine)(hb:(!kvs.isEmpty)=b):Et1 C d u H fr truthy (.ref n) b H:=.mk fun α s x R ⟨a,e,hx⟩ Q hQ=>by
 subst hx
 obtain⟨ps,hD,hk⟩:=R.dictAt h1 e
 have hl:=hk.length
 refine wpAny_truthy_dict (R.noSys e) hD (by rw[←hl];have:=sizeLine_eq;exact o15 hz hl this) (hQ α _ _ (aG.refl _) (R.toks _) ?_)
 rw[←hb]
 show(!ps.isEmpty)=(!kvs.isEmpty)
 cases hk<;>rfl
end
section
variable{C:Cx}{α:List Addr}{H:List AO}{fr fr' es es':List (Addr×FE)}{s:Shared}
theorem aC.perm(R:aC C α H fr s)(hp:fr.Perm fr'):aC C α H fr' s:=
 {R with
  frs:=fun p h=>R.frs p (hp.mem_iff.mpr h)
  jm:=(hp.map (·.1)).nodup_iff.mp R.jm}
theorem aC.Jy(R:aC C α H (es++fr) s){h':Heap}(hk:∀ b o,b∉es.map (·.1)->s.heap.get? b=some o->h'.get? b=some o)(ha:es'.map (·.1)=es.map (·.1))(hz:s.heap.objs.size≤h'.objs.size)
 (hm:∀ p∈es',p.2.rel α h' p.1) {t:Nat}:aC C α H (es'++fr) {s with heap:=h',toks:=t}:=by
 have nd:=R.jm
 rw[List.map_append]at nd
 have nd':=List.nodup_append.mp nd
 have old:∀ p∈es,C.base.get? p.1=none∧∀(n:Nat) (a:Addr),α[n]? =some a->a≠p.1:=fun p hp=>by
  obtain⟨h1,V,h3⟩:=R.frs p (List.mem_append.mpr (.inl hp))
  exact⟨h1,h3⟩
 have look:∀ b∈es.map (·.1),C.base.get? b=none∧∀(n:Nat) (a:Addr),α[n]? =some a->a≠b:=fun b hb=>by
  obtain⟨p,hp,rfl⟩:=List.mem_map.mp hb
  exact old p hp
 refine⟨fun b x ex=>hk b x (fun hb=>?_) (R.keep b x ex),trivial,R.len,fun n a x e1 e2=>?_,R.fresh,R.inj,fun p hp=>?_,by rw[List.map_append,ha];exact nd,R.gP,R.sys,R.gens,R.drawn,R.os⟩
 · rw[(look b hb).1]at ex;cases ex
 · have r:=R.obj n a x e1 e2
   obtain⟨y,hy⟩:=r.get
   exact r.congr ((hk a y (fun hb=>(look a hb).2 n a e1 rfl) hy).trans hy.symm)
 · rcases List.mem_append.mp hp with hp|hp
   · obtain⟨h1,h2⟩:=look p.1 (by rw[←ha];exact List.mem_map_of_mem hp)
     exact⟨h1,hm p hp,h2⟩
   · obtain⟨h1,h2,h4⟩:=R.frs p (List.mem_append.mpr (.inr hp))
     obtain⟨y,hy⟩:=h2.get
     exact⟨h1,h2.congr (aG.refl _) ((hk _ _ (fun hb=>nd'.2.2 _ hb _ (List.mem_map_of_mem hp) rfl) hy).trans hy.symm),h4⟩
theorem aC.Mq(R:aC C α H (es++fr) s){h':Heap}(hk:∀ b o,b∉es.map (·.1)->s.heap.get? b=some o->h'.get? b=some o){t:Nat}(hz:True):aC C α H fr {s with heap:=h',toks:=t}:=by
 have nd:=R.jm
 rw[List.map_append]at nd
 have nd':=List.nodup_append.mp nd
 have look:∀ b∈es.map (·.1),C.base.get? b=none∧∀(n:Nat) (a:Addr),α[n]? =some a->a≠b:=fun b hb=>by
  refine gG fun P_ k_=>?_
  obtain⟨p,hp,rfl⟩:=List.mem_map.mp hb
  obtain⟨h1,V,h3⟩:=R.frs p (List.mem_append.mpr (.inl hp))
  refine k_ ?_
  exact⟨h1,h3⟩
 refine⟨fun b x ex=>hk b x (fun hb=>?_) (R.keep b x ex),trivial,R.len,fun n a x e1 e2=>?_,R.fresh,R.inj,fun p hp=>?_,nd'.2.1,R.gP,R.sys,R.gens,R.drawn,R.os⟩
 · rw[(look b hb).1]at ex;cases ex
 · have r:=R.obj n a x e1 e2
   obtain⟨y,hy⟩:=r.get
   exact r.congr ((hk a y (fun hb=>(look a hb).2 n a e1 rfl) hy).trans hy.symm)
 · obtain⟨h1,h2,h4⟩:=R.frs p (List.mem_append.mpr (.inr hp))
   obtain⟨y,hy⟩:=h2.get
   exact⟨h1,h2.congr (aG.refl _) ((hk _ _ (fun hb=>nd'.2.2 _ hb _ (List.mem_map_of_mem hp) rfl) hy).trans hy.symm),h4⟩
theorem aC.keepsB(R:aC C α H fr s){s':Shared}(hk:∀ c x,s.heap.get? c=some x->s'.heap.get? c=some x)(hz:True)
 (hg:∀(i:Nat) (x:GenState),s.gens[i]? =some x->s'.gens[i]? =some x) (hd:lw s'=lw s) (ho:s'.os=s.os):aC C α H fr s':=
 ⟨fun c x e=>hk c x (R.keep c x e),trivial,R.len,fun n a x e ex=>by
  have r:=R.obj n a x e ex
  obtain⟨y,hy⟩:=r.get
  exact r.congr ((hk _ _ hy).trans hy.symm),R.fresh,R.inj,fun p hp=>by
  obtain⟨h1,h2,h4⟩:=R.frs p hp
  obtain⟨y,hy⟩:=h2.get
  exact⟨h1,h2.congr (aG.refl _) ((hk _ _ hy).trans hy.symm),h4⟩,R.jm,R.gP,R.sys,fun i x e=>hg i x (R.gens i x e),hd.trans R.drawn,ho.trans R.os⟩
theorem aC.GJ(R:aC C α H fr s){h':Heap}(hk:∀ b o,s.heap.get? b=some o->h'.get? b=some o)(hn:(es.map (·.1)).Nodup)(hb:∀ p∈es,s.heap.objs.size≤p.1)(hz:s.heap.objs.size≤h'.objs.size)
 (hm:∀ p∈es,p.2.rel α h' p.1) {t:Nat}:aC C α H (es++fr) {s with heap:=h',toks:=t}:=by
 refine⟨fun b x ex=>hk b x (R.keep b x ex),trivial,R.len,fun n a x e1 e2=>?_,R.fresh,R.inj,fun p hp=>?_,?_,R.gP,R.sys,R.gens,R.drawn,R.os⟩
 · have r:=R.obj n a x e1 e2
   obtain⟨y,hy⟩:=r.get
   exact r.congr ((hk _ _ hy).trans hy.symm)
 · rcases List.mem_append.mp hp with hp|hp
   · exact⟨R.out (hb p hp),hm p hp,fun n a e=>Nat.ne_of_lt (Nat.lt_of_lt_of_le (R.lt e) (hb p hp))⟩
   · obtain⟨h1,h2,h4⟩:=R.frs p hp
     obtain⟨y,hy⟩:=h2.get
     exact⟨h1,h2.congr (aG.refl _) ((hk _ _ hy).trans hy.symm),h4⟩
 · rw[List.map_append,List.nodup_append]
   refine⟨hn,R.jm,fun a h1 b h2 e=>?_⟩
   refine gG fun P_ k_=>?_
   obtain⟨p,hp,rfl⟩:=List.mem_map.mp h1
   obtain⟨q,hq,rfl⟩:=List.mem_map.mp h2
   refine k_ ?_
   exact absurd (R.frLt hq) (by rw[←e];exact Nat.not_lt.mpr (hb p hp))
end
section
variable{C:Cx}{d u:Nat}{α:List Addr}{H H1 H2 H3:List AO}{fr:List (Addr×FE)}{fd:FuncData}{fa L:Addr}{ρ ρ' ρ1:ao}{env:Env}{pos:Pos}{f:FA}{n:Nat}{xk xv:Str}{H':List AO}{body:List Stmt}
theorem JV.dictOf{n:Nat}{kvs:List (Str×AV)}(h1:H[n]? =some (.dict kvs))(hz:kvs.length≤sizeLine)(hn:C.n0≤H.length):JV C d u H fr (.glob (.type "dict")) [.ref n] [] (.ref H.length) (H++[.dict kvs]):=.mk fun α s x xs ks R hx ha hk Q hQ=>by
 cases hx;cases hk
 obtain _|⟨⟨a,e,rfl⟩,_|_⟩:=ha
 obtain⟨ps,hD,hk⟩:=R.dictAt h1 e
 refine kt_call_dict (knd:=strKind C.prog C.w) (R.noSys e) hD (by rw[←hk.length];exact hz) fun h' hD' hs=>?_
 have kp:∀ c x,s.heap.get? c=some x->h'.get? c=some x:=fun c x e=>(hs.2 c (Nat.ne_of_lt (Heap.lt_size e))).trans (Heap.get?_push_of_some _ e)
 have R':=R.Cz (o:=.dict kvs) (h':=h') (b:=s.heap.objs.size) kp (Nat.le_refl _) (by obtain⟨o,es,ep,q,V⟩:=hD';exact Heap.lt_size q) hn (fun α' E V=>⟨ps,hD',hk.mono E⟩)
 exact hQ _ _ _ (aG.snoc _ _) R' ⟨_,by rw[←R.len];simp,rfl⟩
theorem Ju{A:Around}{E:Value->Shared->Prop}{s:Shared}{prog:Program}{w:World}{l b:Addr}{vs ws:List Value}{Q:Value->Shared->Prop}(hl:s.heap.IsList l vs.toArray)(hb:s.heap.IsList b ws.toArray)
 (hsz:vs.length+ws.length≤sizeLine) (h:Q (.ref s.heap.objs.size) {s with heap:=s.heap.push {cls:=.type "list",data:=.seq (vs++ws).toArray}}):wpAny (model prog w) A (binaryOp .Add (.ref l) (.ref b)) Q E s:=by
 refine gG fun P_ k_=>?_
 obtain⟨⟨cls,dd,data,sl⟩,ho,hc,n,hd⟩:=id hl
 obtain⟨⟨cls2,dd2,data2,sl2⟩,ho2,hc2,n2,hd2⟩:=id hb
 refine k_ ?_
 simp only at hc hd hc2 hd2
 subst hc hd hc2 hd2
 have e:vs.toArray++ws.toArray=(vs++ws).toArray:=by simp
 refine concat_meets ⟨_,ho,rfl⟩ ⟨_,ho2,rfl⟩ noFill_list_add seq_list_add PySem.F.slot_list_add PySem.F.entry_list_add (PySem.F.args_list_add_2 _ _) (list_addW l b vs.toArray ws.toArray n n2 dd dd2 sl sl2 (by simpa using hsz)) ⟨ho,ho2,?_⟩
 rw[e]
 exact h
theorem bM.of_map(α:List Addr):∀(l:List Value),bM α (l.map bQ) l
 |[]=>.nil
 |v::r=>.cons (VR.of α v) (bM.of_map α r)
theorem E2.addTO{a:Addr}{l:List Value}{oN ys:List AV}{m:Nat}(hB:Bs C)(T:jO C.w.params "list" a l)(hm:l.map bQ=oN)(h2:H[m]? =some (.list ys))(hn:C.n0≤H.length)(hz:oN.length+ys.length≤sizeLine):
 fG C d u H fr (binaryOp .Add) (.glob (.ref a)) (.ref m) (.ref H.length) (H++[.list (oN++ys)]):=.mk fun α s ⟨x,y⟩ R ⟨hx,⟨b,e,hy⟩⟩ Q hQ=>by
 dsimp only at hx hy;subst hy;cases hx
 refine gG fun P_ k_=>?_
 obtain⟨dd,n,sl,ht⟩:=T.o
 obtain⟨ws,⟨n2,g⟩,hv⟩:=R.obj m b _ e h2
 refine k_ ?_
 have hl:s.heap.IsList a l.toArray:=⟨_,R.aZ hB.aZ _ _ ht,rfl,n,rfl⟩
 have hb:s.heap.IsList b ws.toArray:=⟨_,g,rfl,n2,rfl⟩
 have el:l.length=oN.length:=by rw[←hm];simp
 refine Ju hl hb (by rw[el, ←hv.len];exact hz) ?_
 exact hQ _ _ _ (aG.snoc _ _) (R.alloc (o:=.list (oN++ys)) rfl hn fun h' α' e E q=>⟨l++ws,⟨0,e⟩,bM.append (hm▸bM.of_map α' l) (hv.mono E)⟩) ⟨_,by rw[←R.len];simp,rfl⟩
noncomputable def Av(a:Addr)(i n ep:Nat)(o:Obj):Prop:=o.cls=.type "dict_keyiterator"∧o.data=.fields #[.ref a,.int i 0,.int n 0,.int ep 0]
theorem Ex.forKeys{x:Str}{px:Pos}{iter:Expr}{kvs:List (Str×AV)}{H'':List AO}{H2:(Obj->Prop)->List AO}(hk:fd.scope.kind=.function)(hx:fd.scope.names.lookup x=some .local)
 (h:Ev C d u H ((L,.loc ρ)::fr) (eval iter (callEnv fd L fa)) (.ref n) H1) (hd:H1[n]? =some (.dict kvs))
 (hb:∀ Pd,fY C d u (fun H=>H[n]? =some (.pin Pd)) L x fr (execs body (callEnv fd L fa)) (kvs.map fun p=>.str p.1) (H1.set n (.pin Pd)) ρ .next (H2 Pd) ρ') (hI:∀ Pd,(H2 Pd)[n]? =some (.pin Pd)) (hH:∀ Pd,(H2 Pd).set n (.dict kvs)=H'')
 (hs:∀ x,foldedSetIterable iter (callEnv fd L fa) x=pure x):
 Ex C d u H L ρ fr (exec (.For (.Name x px) iter body [] pos) (callEnv fd L fa)) .next H'' ρ':=.mk fun α s R Q hQ=>by
 refine wpAny_For (h.go R fun α1 sE y EY R1 rA=>?_) hs
 refine gG fun P_ k_=>?_
 obtain⟨a,e,rfl⟩:=rA
 obtain⟨ps,hD,hkv⟩:=R1.dictAt hd e
 obtain⟨ep,hAt⟩:=hD.dictAt
 refine k_ ?_
 have hlen:=hkv.length
 refine wpAny_pyIter_dict (knd:=strKind C.prog C.w) (R1.noSys e) hAt ?_
 have R2:=R1.beside (h':=sE.heap.push {cls:=.type "dict_keyiterator",data:=.fields #[.ref a,.int 0 0,.int ps.length 0,.int ep 0]}) (f:=.raw (Av a 0 ps.length ep)) (b:=sE.heap.objs.size) (t:=sE.toks) ⟨_,Heap.get?_push_size _ rfl,rfl,rfl⟩ (Nat.le_refl _) fun b o e=>Heap.get?_push_of_some _ e
 have R3:=R2.say (n:=n) (o:=.pin (rK C.prog C.w ps ep)) fun b hb=>by
  rw[e]at hb
  cases hb
  obtain⟨o,es,g1,g2⟩:=hAt
  exact⟨o,Heap.get?_push_of_some _ g1,es,g2⟩
 have at_:∀{α:List Addr} {s:Shared} {H:List AO} {fr:List (Addr×FE)},aG α1 α->H[n]? =some (.pin (rK C.prog C.w ps ep))->aC C α H fr s->s.heap.DictAt (strKind C.prog C.w) a ps ep:=fun E hI R=>by
  refine gG fun P_ k_=>?_
  obtain⟨o,g1,g2⟩:=R.obj n a _ (E.get e) hI
  obtain⟨es,g2,g3,g4,g5,g6⟩:=g2
  refine k_ ?_
  exact⟨o,es,g1,g2,g3,g4,g5,g6⟩
 refine tZ (P:=fun i=>Av a i ps.length ep) (α0:=α1) hk hx (fun i v hv α s H ρ E hI R Q hQ=>?_) (fun α s H ρ E hI R Q hQ=>?_) (hb _) (aG.refl _) R3 fun α3 sI y E3 R3 rC=>?_
 · refine gG fun P_ k_=>?_
   obtain⟨V,⟨o,ho,hc,hdt⟩,V⟩:=R.frs _ (.head _)
   refine k_ ?_
   rw[List.getElem?_map]at hv
   obtain⟨kv,hkv',rfl⟩:=Option.map_eq_some_iff.mp hv
   obtain⟨k,z⟩:=kv
   have hlt:i<ps.length:=hlen▸(List.getElem?_eq_some_iff.mp hkv').1
   have hkk:ps[i]? =some (k,ps[i].2):=by
    have h1:(kvs.map (·.1))[i]? =some k:=by rw[List.getElem?_map,hkv'];rfl
    rw[hkv.keys,List.getElem?_map,List.getElem?_eq_getElem hlt]at h1
    simp only[Option.map_some,Option.some.injEq]at h1
    rw[List.getElem?_eq_getElem hlt, ←h1]
   refine wpAny_pyNext_dict_item (knd:=strKind C.prog C.w) ⟨o,ho,hc,hdt⟩ (at_ E hI R) hkk fun key h' hkey ⟨o',g1,g2,g3⟩ hsb=>hQ _ _ (R.turn (f':=.raw (Av a (i+1) ps.length ep)) hsb ⟨o',g1,g2,g3⟩) ?_
   obtain⟨tk,rfl⟩:=fQ (k:=k) hkey
   exact⟨tk,rfl⟩
 · refine gG fun P_ k_=>?_
   obtain⟨V,⟨o,ho,hc,hdt⟩,V⟩:=R.frs _ (.head _)
   refine k_ ?_
   have hl:(kvs.map fun p=>(AV.str p.1)).length=ps.length:=by simp[hlen]
   rw[hl]at hdt
   exact wpAny_pyNext_dict_end (knd:=strKind C.prog C.w) rfl ⟨o,ho,hc,hdt⟩ (at_ E hI R) (by simp) fun h' he=>hQ _ (R.drop (t:=s.toks) he)
 · have R6:=R3.say (n:=n) (o:=.dict kvs) fun b hb=>by
    rw[(E3.get e)]at hb
    cases hb
    exact⟨ps,(at_ E3 (hI _) R3).dictOf,hkv.mono E3⟩
   rw[hH]at R6
   cases rC
   exact hQ α3 sI _ (EY.trans E3) R6 rfl
end
noncomputable def lq(C:Cx)(d u:Nat)(L:Addr)(xk xv:Str)(fr:List (Addr×FE))(body:Sem Flow):List (AV×AV)->List AO->ao->List AO->ao->Prop
 |[],H,ρ,H',ρ'=>H'=H∧ρ'=ρ
 |(a,b)::r,H,ρ,H',ρ'=>∃ H1 ρ1,(∀ ex:List (Addr×FE),Ex C d u H L (put xv b (put xk a ρ)) (ex++fr) body .next H1 ρ1)∧lq C d u L xk xv fr body r H1 ρ1 H' ρ'
section
variable{C:Cx}{d u:Nat}{α:List Addr}{H H1 H2 H3:List AO}{fr:List (Addr×FE)}{fd:FuncData}{fa L:Addr}{ρ ρ' ρ1:ao}{env:Env}{pos:Pos}{f:FA}{n:Nat}{xk xv:Str}{H':List AO}{body:List Stmt}
theorem lq.nil{b:Sem Flow}:lq C d u L xk xv fr b [] H ρ H ρ:=⟨rfl,rfl⟩
theorem lq.cons{a b:AV}{r:List (AV×AV)}{t:Sem Flow}(h1:∀ ex:List (Addr×FE),Ex C d u H L (put xv b (put xk a ρ)) (ex++fr) t .next H1 ρ1)(h2:lq C d u L xk xv fr t r H1 ρ1 H' ρ'):lq C d u L xk xv fr t ((a,b)::r) H ρ H' ρ':=⟨H1,ρ1,h1,h2⟩
theorem zmem{α:Type}{z t u i j b:α}(h:b∈[z,u,i,j]):b∈[z,t,u,i,j]:=by
 rcases List.mem_cons.mp h with rfl|h
 · exact .head _
 · exact .tail _ (.tail _ h)
theorem all5{α:Type}{P:α->Prop}{a b c d e:α}(h1:P a)(h2:P b)(h3:P c)(h4:P d)(h5:P e):∀ p∈[a,b,c,d,e],P p:=by
 intro p hp
 simp only[List.mem_cons,List.not_mem_nil,or_false]at hp
 rcases hp with rfl|rfl|rfl|rfl|rfl<;>assumption
theorem nod5{α:Type}{a b c d e:α}(h1:a≠b∧a≠c∧a≠d∧a≠e)(h2:b≠c∧b≠d∧b≠e)(h3:c≠d∧c≠e)(h4:d≠e): [a,b,c,d,e].Nodup:=by
 simp only[List.nodup_cons,List.mem_cons,List.not_mem_nil,or_false,not_or,List.nodup_nil,not_false_eq_true,and_true]
 exact⟨h1,h2,h3,h4⟩
noncomputable def zipP(TI TO:Addr)(f0:Value)(o:Obj):Prop:=o={cls:=.type "zip",dict:=none,data:=.fields #[f0,.bool false,.bool false,.ref TI,.ref TO],slots:=#[]}
noncomputable def yF(a b:Value)(o:Obj):Prop:=o={cls:=.type "tuple",data:=.seq #[a,b]}
noncomputable def mZ(z TI TO i1 i2 l1 l2:Addr)(f0:Value)(i:Nat):List (Addr×FE):=
 [(z,.raw (zipP TI TO f0)),(TI,.raw (yF (.ref i1) (.ref i2))),(TO,.raw fun o=>∃ a b,yF a b o),(i1,.raw (cL l1 i)),(i2,.raw (cL l2 i))]
theorem yW{h:Heap}{z TI TO i1 i2 l1 l2:Addr}{f0:Value}{i:Nat}(hz:IsZip h z TI TO f0)(hTI:IsPair h TI (.ref i1) (.ref i2))(hTO:∃ a b,IsPair h TO a b)(h1:h.IsListIter i1 l1 i)(h2:h.IsListIter i2 l2 i):
 ∀ p∈mZ z TI TO i1 i2 l1 l2 f0 i,p.2.rel α h p.1:=by
 obtain⟨a,b,hTO⟩:=hTO
 obtain⟨o1,q1,q2,q3⟩:=h1
 obtain⟨o2,r1,r2,r3⟩:=h2
 exact all5 ⟨_,hz,rfl⟩ ⟨_,hTI,rfl⟩ ⟨_,hTO,a,b,rfl⟩ ⟨_,q1,q2,q3⟩ ⟨_,r1,r2,r3⟩
theorem zipE_st{s:Shared}{z TI TO i1 i2 l1 l2:Addr}{f0:Value}{i:Nat}(R:aC C α H (mZ z TI TO i1 i2 l1 l2 f0 i++fr) s):
 IsZip s.heap z TI TO f0∧IsPair s.heap TI (.ref i1) (.ref i2)∧(∃ a b,IsPair s.heap TO a b)∧s.heap.IsListIter i1 l1 i∧s.heap.IsListIter i2 l2 i:=by
 refine gG fun P_ k_=>?_
 obtain⟨V,⟨o1,a1,b1⟩,V⟩:=R.frs (z,.raw (zipP TI TO f0)) (.head _)
 obtain⟨V,⟨o2,a2,b2⟩,V⟩:=R.frs (TI,.raw (yF (.ref i1) (.ref i2))) (.tail _ (.head _))
 obtain⟨V,⟨o3,a3,x,y,b3⟩,V⟩:=R.frs (TO,.raw fun o=>∃ a b,yF a b o) (.tail _ (.tail _ (.head _)))
 obtain⟨V,⟨o4,a4,b4⟩,V⟩:=R.frs (i1,.raw (cL l1 i)) (.tail _ (.tail _ (.tail _ (.head _))))
 obtain⟨V,⟨o5,a5,b5⟩,V⟩:=R.frs (i2,.raw (cL l2 i)) (.tail _ (.tail _ (.tail _ (.tail _ (.head _)))))
 refine k_ ?_
 cases b1;cases b2;cases b3
 exact⟨a1,a2,⟨_,_,a3⟩,⟨o4,a4,b4⟩,⟨o5,a5,b5⟩⟩
noncomputable def dh(xs ys:List Value):List (AV×AV):=(xs.zip ys).map fun p=>(bQ p.1,bQ p.2)
theorem Fg(xs ys:List Value):(dh xs ys).length=min xs.length ys.length:=(List.length_map _).trans List.length_zip
theorem Fi(xs ys:List Value)(i:Nat){x y:Value}(h1:xs[i]? =some x)(h2:ys[i]? =some y):(dh xs ys)[i]? =some (bQ x,bQ y):=by
 rw[dh,List.getElem?_map,List.getElem?_zip_eq_some (z:=(x,y)) |>.mpr ⟨h1,h2⟩];rfl
theorem Ex.forZip{pk pv pt:Pos}{x1:Nat}{iter:Expr}{a1 a2:Addr}{l1 l2:List Value}{prs:List (AV×AV)}(hB:Bs C)(hk:fd.scope.kind=.function)(hxk:fd.scope.names.lookup xk=some .local)(hxv:fd.scope.names.lookup xv=some .local)
 (h:∀ α s,aC C α H ((L,.loc ρ)::fr) s->∀ Q:Value->Shared->Prop,(∀ α' s',aG α α'->aC C α' H1 ((L,.loc ρ)::fr) s'->Wp C d u (PySem.call (.type "zip") [.ref a1,.ref a2]) Q s')->Wp C d u (eval iter (callEnv fd L fa)) Q s)
 (T1:jO C.w.params "list" a1 l1) (T2:jO C.w.params "list" a2 l2) (hz:dh l1 l2=prs)
 (hb:lq C d u L xk xv fr (execs body (callEnv fd L fa)) prs H1 ρ H' ρ') (hs:∀ x,foldedSetIterable iter (callEnv fd L fa) x=pure x):
 Ex C d u H L ρ fr (exec (.For (.Tuple [.Name xk pk,.Name xv pv] x1 pt) iter body [] pos) (callEnv fd L fa)) .next H' ρ':=.mk fun α s R Q hQ=>by
 subst hz
 refine gG fun P_ k_=>?_
 obtain⟨dd1,n1,sl1,ht1⟩:=T1.o
 obtain⟨dd2,n2,sl2,ht2⟩:=T2.o
 refine k_ ?_
 have L1:∀{s:Shared},(KC C).In s.heap->s.heap.IsList a1 l1.toArray:=fun X=>⟨_,X _ _ ht1,rfl,n1,rfl⟩
 have L2:∀{s:Shared},(KC C).In s.heap->s.heap.IsList a2 l2.toArray:=fun X=>⟨_,X _ _ ht2,rfl,n2,rfl⟩
 refine wpAny_For (h α s R _ fun α1 sE EY R1=>?_) hs
 have hl1:=L1 (R1.aZ hB.aZ)
 have hl2:=L2 (R1.aZ hB.aZ)
 have hlt1:a1<sE.heap.objs.size:=by obtain⟨o,g,V⟩:=hl1;exact Heap.lt_size g
 have hlt2:a2<sE.heap.objs.size:=by obtain⟨o,g,V⟩:=hl2;exact Heap.lt_size g
 refine call_zip_2 hl1 hl2 fun h' hz hTI hTO hi1 hi2 hsz hkp=>?_
 have D:ZipApart (sE.heap.objs.size+4) (sE.heap.objs.size+2) (sE.heap.objs.size+3) sE.heap.objs.size (sE.heap.objs.size+1) a1 a2:=ktu_apart _ _ _ hlt1 hlt2
 refine wpAny_pyIter_zip hz ?_
 have R2:aC C α1 H1 (mZ (sE.heap.objs.size+4) (sE.heap.objs.size+2) (sE.heap.objs.size+3) sE.heap.objs.size (sE.heap.objs.size+1) a1 a2 .none 0++(L,.loc ρ)::fr) {sE with heap:=h'}:=
  R1.GJ (es:=mZ (sE.heap.objs.size+4) (sE.heap.objs.size+2) (sE.heap.objs.size+3) sE.heap.objs.size (sE.heap.objs.size+1) a1 a2 .none 0) (t:=sE.toks) hkp (nod5 ⟨D.TIz.symm,D.TOz.symm,D.i1z.symm,D.i2z.symm⟩ ⟨D.TITO,D.TIi1,D.TIi2⟩ ⟨D.TOi1,D.TOi2⟩ D.i12) (all5 (Nat.le_add_right _ _) (Nat.le_add_right _ _) (Nat.le_add_right _ _) (Nat.le_refl _) (Nat.le_add_right _ _)) (by rw[hsz];exact Nat.le_add_right _ _) (yW hz hTI ⟨_,_,hTO⟩ hi1 hi2)
 generalize sE.heap.objs.size+4=z at R2 D
 generalize sE.heap.objs.size+2=TI at R2 D
 generalize sE.heap.objs.size+3=TO at R2 D
 generalize sE.heap.objs.size+1=i2 at R2 D
 generalize sE.heap.objs.size=i1 at R2 D
 have W:=WalksT.zip2 (prog:=C.prog) (w:=C.w) (A:=Ar d u) rfl z TI TO i1 i2 a1 a2 D l1.toArray l2.toArray
 have hn:min l1.toArray.size l2.toArray.size=(dh l1 l2).length:=by rw[Fg];simp
 refine codeAny_forLoop_any (fun m s=>∃ i α2 H2 ρ2,m=(dh l1 l2).length - i∧i≤(dh l1 l2).length∧aG α1 α2∧aC C α2 H2 (mZ z TI TO i1 i2 a1 a2 .none i++(L,.loc ρ2)::fr) s∧lq C d u L xk xv fr (execs body (callEnv fd L fa)) ((dh l1 l2).drop i) H2 ρ2 H' ρ') ?_ ((dh l1 l2).length - 0)
  ⟨0,α1,H1,ρ,rfl,Nat.zero_le _,aG.refl _,R2,by simpa using hb⟩
 refine fun m sG hI=>x45 hI fun i α2 H2 ρ2 em hi Ec R2 hb2=>?_
 subst em
 refine lR fun G hG=>?_
 refine x05 (zipE_st R2) fun st1 st2 st3 st4 st5=>?_
 have hl1:=L1 (R2.aZ hB.aZ)
 have hl2:=L2 (R2.aZ hB.aZ)
 rcases Nat.lt_or_ge i (dh l1 l2).length with hlt|hge
 · refine W.item i sG _ _ (by rw[hn];exact hlt) ⟨st1,st2,st3,st4,st5,hl1,hl2⟩ fun T vals h₃ tk hPt hT hIT hMid hk3=>?_
   refine x23 hPt fun x y hx hy ev=>?_
   subst ev
   have hx:l1[i]? =some x:=by simpa using hx
   have hy:l2[i]? =some y:=by simpa using hy
   have hd:(dh l1 l2).drop i=(bQ x,bQ y)::(dh l1 l2).drop (i+1):=by
    rw[List.drop_eq_getElem_cons hlt];congr 1;exact(List.getElem?_eq_some_iff.mp (Fi l1 l2 i hx hy)).2
   rw[hd]at hb2
   refine x22 hb2 fun H3 ρ3 hex hrest=>?_
   have hTn:=W.apart i T h₃ hMid
   refine hG _ _ (lR fun G1 hGA=>W.go _ _ _ i T {sG with heap:=h₃,toks:=tk} _ _ hMid fun h₄ hSt hk4=>?_)
   refine x06 hSt fun q1 q2 q3 q4 q5 V=>?_
   have kk:∀ b o,b∉(mZ z TI TO i1 i2 a1 a2 .none i).map (·.1)->sG.heap.get? b=some o->h₄.get? b=some o:=fun b o hb e=>by
    have hb':b∉ [z,TO,i1,i2]:=fun hm=>hb (zmem hm)
    exact hk4 b o hb' (hk3 b o hb' e)
   have hIT4:h₄.IsTuple T #[x,y]:=by
    obtain⟨o,g1,g2⟩:=hIT
    exact⟨o,hk4 T o hTn g1,g2⟩
   have zz:sG.heap.objs.size≤h₄.objs.size:=by
    obtain⟨o,g,V⟩:=hIT4
    exact Nat.le_of_lt (Nat.lt_of_le_of_lt hT (Heap.lt_size g))
   have R3:aC C α2 H2 (mZ z TI TO i1 i2 a1 a2 .none (i+1)++(L,.loc ρ2)::fr) {sG with heap:=h₄,toks:=tk}:=R2.Jy (es':=mZ z TI TO i1 i2 a1 a2 .none (i+1)) kk rfl zz (yW q1 q2 q3 q4 q5)
   refine hGA _ _ (lR fun G2 hGB=>?_)
   refine wpAny_assign_Tuple (s:={sG with heap:=h₄,toks:=tk}) rfl hIT4 rfl rfl fun h₅ hx5=>?_
   have R4:=(R3.keepsB (s':={sG with heap:=h₅,toks:=tk}) (fun c o e=>hx5 c o (Nat.ne_of_lt (Heap.lt_size e)) e) trivial (fun V V e=>e) rfl rfl).perm (fr':=(L,.loc ρ2)::(mZ z TI TO i1 i2 a1 a2 .none (i+1)++fr)) List.perm_middle
   show wpAny _ _ (do holding [y] (PySem.assign (.Name xk pk) (callEnv fd L fa) x);do holding [] (PySem.assign (.Name xv pv) (callEnv fd L fa) y);pure ()) _ _ _
   refine wpAny_mono (Q:=fun V s5=>aC C α2 H2 ((L,.loc (put xv (bQ y) (put xk (bQ x) ρ2)))::(mZ z TI TO i1 i2 a1 a2 .none (i+1)++fr)) s5) (E:=bf) ?_ (fun V s5 R5=>?_) fun V V z=>z.elim
   · refine wpAny_bind (wpAny_holding (wpAny_assign_Name (aC.stores (fd:=fd) (fa:=fa) R4 (VR.of _ x) hxk hk fun s5 R5=>?_)))
     exact wpAny_bind (wpAny_holding (wpAny_assign_Name (aC.stores (fd:=fd) (fa:=fa) R5 (VR.of _ y) hxv hk fun s6 R6=>wpAny_pure R6)))
   · refine hGB _ _ (wpAny_mono ((hex _).go R5 fun α4 s4 y' E4 R4 r4=>?_) (fun V V x=>x) fun V V z=>z.elim)
     rw[show y'=.next from r4]
     exact⟨(dh l1 l2).length - (i+1),by exact o5 hlt,i+1,α4,H3,ρ3,rfl,hlt,Ec.trans E4,R4.perm List.perm_middle.symm,hrest⟩
 · have hi':i=(dh l1 l2).length:=Nat.le_antisymm hi hge
   subst hi'
   rw[List.drop_length]at hb2
   obtain⟨rfl,rfl⟩:=hb2
   refine W.done sG _ _ (by rw[hn];exact⟨st1,st2,st3,st4,st5,hl1,hl2⟩) fun h₃ tk hk3=>hG _ _ (wpAny_execs_nil ?_)
   refine hQ α2 _ _ (EY.trans Ec) (R2.Mq (t:=tk) (fun b o hb e=>hk3 b o (fun hm=>hb (zmem hm)) e) trivial) rfl
end
section
variable{C:Cx}{d u:Nat}{α:List Addr}{H H1 H2 H3:List AO}{fr:List (Addr×FE)}{fd:FuncData}{fa L:Addr}{ρ ρ' ρ1:ao}{env:Env}{pos:Pos}{f:FA}{n:Nat}{xk xv:Str}{H':List AO}{body:List Stmt}
theorem Ex.forZ{pk pv pt np cpos:Pos}{x1:Nat}{id:Str}{args:List Expr}{a1 a2:Addr}{l1 l2:List Value}{prs:List (AV×AV)}(hB:Bs C)(hk:fd.scope.kind=.function)(hxk:fd.scope.names.lookup xk=some .local)(hxv:fd.scope.names.lookup xv=some .local)
 (hn:Ev C d u H ((L,.loc ρ)::fr) (eval (.Name id np) (callEnv fd L fa)) (.glob (.type "zip")) H) (ha:El C d u H ((L,.loc ρ)::fr) (spliced (backTo cpos (starEach args (callEnv fd L fa)))) [.glob (.ref a1),.glob (.ref a2)] H1)
 (T1:jO C.w.params "list" a1 l1) (T2:jO C.w.params "list" a2 l2) (hz:dh l1 l2=prs)
 (hb:lq C d u L xk xv fr (execs body (callEnv fd L fa)) prs H1 ρ H' ρ') (hst:(backTo cpos (starEach args (callEnv fd L fa))).any (·.1)=false)
 (hs:∀ x,foldedSetIterable (.Call (.Name id np) args [] cpos) (callEnv fd L fa) x=pure x):
 Ex C d u H L ρ fr (exec (.For (.Tuple [.Name xk pk,.Name xv pv] x1 pt) (.Call (.Name id np) args [] cpos) body [] pos) (callEnv fd L fa)) .next H' ρ':=
 Ex.forZip hB hk hxk hxv (fun α s R Q k=>wpAny_Call_Name_kw (hn.go R fun α1 sE x EY R1 rA=>by
  cases rA
  refine callWith_of (P:=fun V=>True) (by rw[hst];rfl) (fun h V=>⟨.machine,.inr (.inl rfl),Looks.of_pure rfl⟩) (c7 hst rfl (ha.go R1 fun α2 sG vs Ec R2 rB=>wpAny_evalAll_nil ⟨trivial,?_⟩))
  obtain _|⟨q1,_|⟨q2,_|_⟩⟩:=rB
  cases q1;cases q2
  exact k α2 sG (EY.trans Ec) R2)) T1 T2 hz hb hs
theorem Ex.nf{t:Sem Flow}{Hn:List AO}{ρn:ao}(hH:H=Hn)(hρ:ρ=ρn)(h:Ex C d u Hn L ρn fr t f H' ρ'):Ex C d u H L ρ fr t f H' ρ':=by subst hH;subst hρ;exact h
theorem Ex.forL{x:Str}{px:Pos}{iter:Expr}{n:Nat}{vs:List AV}(hk:fd.scope.kind=.function)(hx:fd.scope.names.lookup x=some .local)
 (h:Ev C d u H ((L,.loc ρ)::fr) (eval iter (callEnv fd L fa)) (.ref n) H1) (hl:H1[n]? =some (.list vs))
 (hb:fY C d u (fun H=>H[n]? =some (.list vs)) L x fr (execs body (callEnv fd L fa)) vs H1 ρ f H' ρ') (hs:∀ x,foldedSetIterable iter (callEnv fd L fa) x=pure x):
 Ex C d u H L ρ fr (exec (.For (.Name x px) iter body [] pos) (callEnv fd L fa)) f H' ρ':=Ex.rJ hk hx h hb hs
end
section
variable{C:Cx}{d u:Nat}{α:List Addr}{H H1 H2 H3:List AO}{fr:List (Addr×FE)}
theorem JV.strInt{a:Int}(h0:0≤a)(h1:a<1000):JV C d u H fr (.glob (.type "str")) [.int a] [] (.str (toString a)) H:=.mk fun α s f xs ks R hx ha hk Q hQ=>by
 cases hx;cases hk
 obtain _|⟨⟨t,rfl⟩,_|_⟩:=ha
 exact str_of_int_fit (N:=1000) (by split<;>(first|exact o36 h0 h1 (by assumption)|exact o37 h0 h1)) (by decide) fun V=>hQ α _ _ (aG.refl _) (R.toks _) ⟨_,rfl⟩
theorem Gw{a b:Int}(hb:0<b):0≤a.fmod b∧a.fmod b<b:=⟨Int.fmod_nonneg_of_pos a hb,Int.fmod_lt_of_pos a hb⟩
theorem fm16(a:Int):0≤a.fmod 16∧a.fmod 16≤15:=by have:=Gw (a:=a) (b:=16) (by decide);exact o38 this
theorem yR(a:Int):0≤a.fmod 128∧a.fmod 128≤127:=by have:=Gw (a:=a) (b:=128) (by decide);exact o39 this
theorem Jh(a:Int):0≤a.fmod 1000∧a.fmod 1000<1000:=Gw (by decide)
end
inductive HO where
 |o (x:AO)
 |held
noncomputable def sub:(Nat->Obj->Prop)->List HO->List AO
 |_,[]=>[]
 |η,.o x::r=>x::sub (fun n=>η (n+1)) r
 |η,.held::r=>.pin (η 0)::sub (fun n=>η (n+1)) r
noncomputable def oJ(η:Nat->Obj->Prop)(n:Nat)(P:Obj->Prop):Nat->Obj->Prop:=fun i=>bif i==n then P else η i
theorem BX(η:Nat->Obj->Prop)(n:Nat)(P:Obj->Prop):(fun i=>oJ η (n+1) P (i+1))=oJ (fun i=>η (i+1)) n P:=funext fun i=>by
 show(bif (i+1==n+1)then P else η (i+1))=bif i==n then P else η (i+1)
 cases e:i==n with
 |true=>rw[beq_iff_eq.mp e,beq_self_eq_true]
 |false=>rw[beq_eq_false_iff_ne.mpr fun z=>beq_eq_false_iff_ne.mp e (Nat.succ.inj z)]
theorem BW(η:Nat->Obj->Prop)(P:Obj->Prop):(fun i=>oJ η 0 P (i+1))=fun i=>η (i+1):=funext fun i=>by
 show(bif (i+1==0)then P else η (i+1))=_
 rw[beq_eq_false_iff_ne.mpr (Nat.succ_ne_zero i)];rfl
theorem iK(H:List HO):∀ η,(sub η H).length=H.length:=by
 induction H with
 |nil=>exact fun V=>rfl
 |cons x r ih=>intro η;cases x<;>exact congrArg (·+1) (ih _)
theorem bk{H:List HO}{x:AO}:∀{n:Nat} {η:Nat->Obj->Prop},H[n]? =some (.o x)->(sub η H)[n]? =some x:=by
 induction H with
 |nil=>intro n η h;cases h
 |cons y r ih=>
  intro n η h
  cases n with
  |zero=>
   have h:y=.o x:=Option.some.inj h
   subst h;rfl
  |succ n=>
   have h:r[n]? =some (.o x):=h
   cases y<;>exact ih h
theorem ig(x:AO)(H:List HO):∀ η,sub η (H++[.o x])=sub η H++[x]:=by
 induction H with
 |nil=>exact fun V=>rfl
 |cons y r ih=>intro η;cases y<;>exact congrArg (_::·) (ih _)
theorem nJ(x:AO)(H:List HO):∀(n:Nat) η,sub η (H.set n (.o x))=(sub η H).set n x:=by
 induction H with
 |nil=>exact fun V V=>rfl
 |cons y r ih=>
  intro n η
  cases n with
  |zero=>cases y<;>rfl
  |succ n=>cases y<;>exact congrArg (_::·) (ih _ _)
theorem zq(P:Obj->Prop)(H:List HO):∀(n:Nat) η,sub (oJ η n P) (H.set n .held)=(sub η H).set n (.pin P):=by
 induction H with
 |nil=>exact fun V V=>rfl
 |cons y r ih=>
  intro n η
  cases n with
  |zero=>
   have e:=BW η P
   cases y<;>exact congrArg (.pin P::·) (congrArg (fun η=>sub η r) e)
  |succ n=>
   have e:sub (fun i=>oJ η (n+1) P (i+1)) (r.set n .held)=(sub (fun i=>η (i+1)) r).set n (.pin P):=by rw[BX];exact ih _ _
   cases y with
   |o x=>exact congrArg (x::·) e
   |held=>exact congrArg (.pin (η 0)::·) e
theorem LQ(H:List HO):∀{n:Nat} {η:Nat->Obj->Prop},H[n]? =some .held->(sub η H)[n]? =some (.pin (η n)):=by
 induction H with
 |nil=>intro n η h;cases h
 |cons y r ih=>
  intro n η h
  cases n with
  |zero=>
   have h:y=.held:=Option.some.inj h
   subst h;rfl
  |succ n=>
   have h:r[n]? =some .held:=h
   cases y<;>exact ih h
theorem ur(η:Nat->Obj->Prop)(n:Nat)(P:Obj->Prop):oJ η n P n=P:=by
 show(bif n==n then P else η n)=P
 rw[beq_self_eq_true];rfl
theorem zu(P:Obj->Prop)(x:AO)(H:List HO):∀(n:Nat) η,(sub (oJ η n P) H).set n x=sub η (H.set n (.o x)):=by
 induction H with
 |nil=>exact fun V V=>rfl
 |cons y r ih=>
  intro n η
  cases n with
  |zero=>
   have e:=BW η P
   cases y<;>exact congrArg (x::·) (congrArg (fun η=>sub η r) e)
  |succ n=>
   have e:(sub (fun i=>oJ η (n+1) P (i+1)) r).set n x=sub (fun i=>η (i+1)) (r.set n (.o x)):=by rw[BX];exact ih _ _
   cases y with
   |o x=>exact congrArg (x::·) e
   |held=>exact congrArg (.pin (η 0)::·) e
noncomputable abbrev s_pop:Str:=⟨#[112,111,112]⟩
noncomputable abbrev JW:Str:=⟨#[117,112,100,97,116,101]⟩
noncomputable abbrev vV:Str:=⟨#[105,116,101,109,115]⟩
noncomputable abbrev s_get:Str:=⟨#[103,101,116]⟩
structure Rk where
 ev:FuncData->ao->List HO->Expr->(AV->List HO->Prop)->Prop
 tt:FuncData->ao->List HO->Expr->(Bool->List HO->Prop)->Prop
 ex:FuncData->ao->List HO->Stmt->(FA->List HO->ao->Prop)->Prop
 ca:Addr->List AV->ao->List HO->(AV->List HO->Prop)->Prop
noncomputable def xE{α:Type}(e:Expr)(nm:Str->Pos->α)(cst:Const->Nat->Pos->α)(bin:Expr->Operator->Expr->Pos->α)(att:Expr->Str->Pos->α)(sub:Expr->Expr->Pos->α)(dct:List (Option Expr)->List Expr->Pos->α)(tup:List Expr->Nat->Pos->α)(lst:List Expr->Pos->α)(cal:Expr->List Expr->List Keyword->Pos->α)(una:UnaryOp->Expr->Pos->α)(boo:BoolOp->List Expr->Pos->α)(cmp:Expr->List CmpOp->List Expr->Pos->α)(o:α):α:=
 @Expr.casesOn (fun V=>α) e boo (fun V V V=>o) bin una (fun V V V V=>o) (fun V V V V=>o) dct (fun V V V=>o) (fun V V V V=>o) (fun V V V V=>o) (fun V V V V V=>o) (fun V V V V=>o) (fun V V=>o) (fun V V=>o) (fun V V=>o) cmp cal (fun V V V V=>o) (fun V V=>o) cst att sub (fun V V=>o) nm lst tup (fun V V V V=>o)
theorem oR{e:Expr}{nm:Str->Pos->Prop}{cst:Const->Nat->Pos->Prop}{bin:Expr->Operator->Expr->Pos->Prop}{att:Expr->Str->Pos->Prop}{sub:Expr->Expr->Pos->Prop}{dct:List (Option Expr)->List Expr->Pos->Prop}{tup:List Expr->Nat->Pos->Prop}{lst:List Expr->Pos->Prop}{cal:Expr->List Expr->List Keyword->Pos->Prop}{una:UnaryOp->Expr->Pos->Prop}{boo:BoolOp->List Expr->Pos->Prop}{cmp:Expr->List CmpOp->List Expr->Pos->Prop}
 {M:Expr->Prop} (h:xE e nm cst bin att sub dct tup lst cal una boo cmp False) (a1:∀ x p,nm x p->M (.Name x p)) (a2:∀ x n p,cst x n p->M (.Constant x n p)) (a3:∀ l o r p,bin l o r p->M (.BinOp l o r p)) (a4:∀ x o p,att x o p->M (.Attribute x o p)) (a5:∀ x o p,sub x o p->M (.Subscript x o p)) (a6:∀ x o p,dct x o p->M (.Dict x o p)) (a7:∀ x o p,tup x o p->M (.Tuple x o p)) (a8:∀ x p,lst x p->M (.List x p)) (a9:∀ f x o p,cal f x o p->M (.Call f x o p)) (a10:∀ x o p,una x o p->M (.UnaryOp x o p)) (a11:∀ x o p,boo x o p->M (.BoolOp x o p)) (a12:∀ f x o p,cmp f x o p->M (.Compare f x o p)):M e:=
 @Expr.casesOn (fun e=>xE e nm cst bin att sub dct tup lst cal una boo cmp False->M e) e a11 (fun V V V=>False.elim) a3 a10 (fun V V V V=>False.elim) (fun V V V V=>False.elim) a6 (fun V V V=>False.elim) (fun V V V V=>False.elim) (fun V V V V=>False.elim) (fun V V V V V=>False.elim) (fun V V V V=>False.elim) (fun V V=>False.elim) (fun V V=>False.elim) (fun V V=>False.elim) a12 a9 (fun V V V V=>False.elim) (fun V V=>False.elim) a2 a4 a5 (fun V V=>False.elim) a1 a8 a7 (fun V V V V=>False.elim) h
noncomputable def tX(e:Expr):Option (Str×Pos):=xE e (fun x p=>some (x,p)) (fun V V V=>none) (fun V V V V=>none) (fun V V V=>none) (fun V V V=>none) (fun V V V=>none) (fun V V V=>none) (fun V V=>none) (fun V V V V=>none) (fun V V V=>none) (fun V V V=>none) (fun V V V V=>none) none
noncomputable def ok(b:Bool)(p:Prop):Prop:=bif b then p else False
noncomputable def on{α:Type}(o:Option α)(k:α->Prop):Prop:=@Option.casesOn α (fun V=>Prop) o False k
noncomputable def AV.nr(a:AV):Option Nat:=@AV.casesOn (fun V=>Option Nat) a .none (fun V=>.none) (fun V=>.none) (fun V=>.none) .some (fun V=>.none)
noncomputable def AV.ni(a:AV):Option Int:=@AV.casesOn (fun V=>Option Int) a .none (fun V=>.none) .some (fun V=>.none) (fun V=>.none) (fun V=>.none)
noncomputable def AV.ng(a:AV):Option Value:=@AV.casesOn (fun V=>Option Value) a .none (fun V=>.none) (fun V=>.none) (fun V=>.none) (fun V=>.none) .some
noncomputable def AV.nb(a:AV):Option Bool:=@AV.casesOn (fun V=>Option Bool) a .none .some (fun V=>.none) (fun V=>.none) (fun V=>.none) (fun V=>.none)
noncomputable def AV.ns(a:AV):Option Str:=@AV.casesOn (fun V=>Option Str) a .none (fun V=>.none) (fun V=>.none) .some (fun V=>.none) (fun V=>.none)
noncomputable def vE{α:Type}(v:Value)(t b:String->α)(r:Addr->α)(s:α)(o:α):α:=@Value.casesOn (fun V=>α) v o o o (fun V=>o) (fun V V=>o) (fun V V=>o) (fun V V=>s) (fun V V=>o) t b r
noncomputable def vRef(v:Value):Option Addr:=vE v (fun V=>none) (fun V=>none) some none none
noncomputable def rm(v:Value):Option String:=vE v some (fun V=>none) (fun V=>none) none none
noncomputable def vBi(v:Value):Option String:=vE v (fun V=>none) some (fun V=>none) none none
noncomputable def hE{α:Type}(h:Option HO)(d:ao->α)(l t:List AV->α)(i:Addr->Nat->α)(o:α):α:=@Option.casesOn HO (fun V=>α) h o fun h=>@HO.casesOn (fun V=>α) h (fun x=>@AO.casesOn (fun V=>α) x d l t i (fun V=>o)) o
noncomputable def dictAt(H:List HO)(n:Nat):Option ao:=hE H[n]? some (fun V=>none) (fun V=>none) (fun V V=>none) none
noncomputable def m6(H:List HO)(n:Nat):Option (List AV):=hE H[n]? (fun V=>none) some (fun V=>none) (fun V V=>none) none
noncomputable def Fq(H:List HO)(n:Nat):Option (List AV):=hE H[n]? (fun V=>none) (fun V=>none) some (fun V V=>none) none
noncomputable def kh(H:List HO)(n:Nat):Option (Addr×Nat):=hE H[n]? (fun V=>none) (fun V=>none) (fun V=>none) (fun c d=>some (c,d)) none
noncomputable def FA.re(f:FA):Option AV:=@FA.casesOn (fun V=>Option AV) f .none .none .none .some
noncomputable def jQ(a:AV):Option Addr:=a.ng.bind vRef
noncomputable def ono{α:Type}(l:List α)(k:α->Prop):Prop:=@List.casesOn α (fun V=>Prop) l False fun a r=>ok r.isEmpty (k a)
noncomputable def onc{α:Type}(l:List α)(k:α->List α->Prop):Prop:=@List.casesOn α (fun V=>Prop) l False k
noncomputable def onw{α:Type}(l:List α)(k:α->α->Prop):Prop:=onc l fun a r=>ono r (k a)
noncomputable def dZ(fd:FuncData)(x:Str)(n:Nat):Bool:=(fd.scope.names.lookup x).any (fun k=>k.ctorIdx==n)&& !(x==("__debug__":Str))
noncomputable def rz(vs:List AV):Bool:=vs.all (fun v=>(mX v).isSome)
noncomputable def Bg(a:Addr):Bool:=a==22||(a==26||(a==32||(a==35||a==78)))
noncomputable def uO(H:List HO)(n:Nat)(k:Addr->Nat->ao->Prop):Prop:=on (kh H n) fun p=>on (dictAt H p.2) fun kvs=>k p.1 p.2 kvs
noncomputable def Bp(fd:FuncData)(ρ:ao)(x:Str)(k:AV->Prop):Prop:=ok (dZ fd x 0) (on (ρ.lookup x) k)
noncomputable def Hy(l m:List AV):Bool:=l.length==m.length&&(l.zip m).all fun p=>p.1.nr.any fun a=>p.2.nr.any fun b=>a==b
noncomputable def nZ(n:Nat)(H:List HO):Bool:=H[n]?.any fun h=>h.ctorIdx==1
noncomputable def pP(n:Nat)(vs:List AV)(H:List HO):Bool:=(m6 H n).any fun ws=>Hy ws vs
inductive nG where
 |p (i:Nat)|k (i:Nat)|c (v:Value)|d
noncomputable def nG.ev{α:Type}(p k:Nat->α)(c:Value->α)(d:α)(s:nG):α:=@nG.casesOn (fun V=>α) s p k c d
noncomputable abbrev KE:Type:=(Addr×FuncData×Nat)×List Str×List (Str×nG)×List Nat
section
variable(P:Params)(N0:Nat)(zk:Int)(mj:List (Addr×FuncData×List Str))(jB:List KE)
noncomputable def seqD(o:Obj):Option (List Value):=match o.data with
 |.seq arr _=>some arr.toList
 |_=>none
noncomputable def rH(ty:String)(a:Addr)(k:List Value->Prop):Prop:=on ((KK P).lookup a) fun o=>on (rm o.cls) fun t=>on (seqD o) fun l=>ok (t==ty) (ok (l.all fun v=>match v with|.str .. =>true|_=>false) (k l))
noncomputable def Iv(x:Str)(k:AV->Prop):Prop:=on (nsIn (KK P) 3 x) fun r=>bif r.isSome then on r (fun v=>k (bQ v))else on (nsIn (KK P) 0 x) fun r=>on r fun v=>k (bQ v)
noncomputable def Ax(fd:FuncData)(ρ:ao)(x:Str)(k:AV->Prop):Prop:=bif dZ fd x 0 then on (ρ.lookup x) k else ok (dZ fd x 4) (Iv P x k)
noncomputable def yK(t:Addr)(x:Str)(k:Option Value->Prop):Prop:=ok (Bg t) (on (nsIn (KK P) t x) k)
noncomputable def ivMod(a b:AV)(k:AV->Prop):Prop:=on a.ni fun x=>on b.ni fun y=>ok (decide (y≠0)) (k (.int (x.fmod y)))
noncomputable def ivDiv(a b:AV)(k:AV->Prop):Prop:=on a.ni fun x=>on b.ni fun y=>ok (decide (y≠0)) (ok (Nat.blt y.natAbs.log2 9000) (k (.int (x.fdiv y))))
noncomputable def ivAdd(a b:AV)(H:List HO)(k:AV->List HO->Prop):Prop:=on (jQ a) fun t=>on b.nr fun m=>rH P "list" t fun l=>on (m6 H m) fun ys=>ok (Nat.ble N0 H.length) (ok (Nat.ble ((l.map bQ).length+ys.length) 900) (k (.ref H.length) (H++[.o (.list (l.map bQ++ys))])))
noncomputable def ivBin(op:Operator)(a b:AV)(H:List HO)(k:AV->List HO->Prop):Prop:=bif op== .Mod then ivMod a b (fun v=>k v H)else bif op== .FloorDiv then ivDiv a b (fun v=>k v H)else ok (op== .Add) (ivAdd P N0 a b H k)
noncomputable def isNn(a:AV):Option Bool:=@AV.casesOn (fun V=>Option Bool) a (some true) (fun V=>some false) (fun V=>some false) (fun V=>some false) (fun V=>some false) fun v=>vE v (fun V=>none) (fun V=>none) (fun V=>some false) none none
noncomputable def cEqI(a b:AV)(k:Bool->Prop):Prop:=on a.ni fun x=>on b.ni fun y=>bif y==zk then x=y∧k true else x≠y∧k false
noncomputable def cEqS(a b:AV)(k:Bool->Prop):Prop:=on a.ns fun x=>on b.ns fun y=>k (x==y)
noncomputable def cLe(a b:AV)(k:Bool->Prop):Prop:=on a.ni fun x=>on b.ni fun y=>x≤y∧k true
noncomputable def cInR(x:Str)(n:Nat)(H:List HO)(k:Bool->Prop):Prop:=bif (dictAt H n).isSome then on (dictAt H n) fun kvs=>k (kvs.lookup x).isSome else bif (Fq H n).isSome then on (Fq H n) fun vs=>ok (rz vs) (k (vs.any (mz x)))else on (m6 H n) fun vs=>ok (rz vs) (k (vs.any (mz x)))
noncomputable def cIn(a b:AV)(H:List HO)(k:Bool->Prop):Prop:=on a.ns fun x=>bif b.nr.isSome then on b.nr fun n=>cInR x n H k else on (jQ b) fun t=>yK P t x fun r=>k r.isSome
noncomputable def cNiT(x:Str)(t:Addr)(k:Bool->Prop):Prop:=bif Bg t then on (nsIn (KK P) t x) (fun r=>k (!r.isSome))else rH P "tuple" t fun l=>k (!l.any (d7 x))
noncomputable def cNi(a b:AV)(H:List HO)(k:Bool->Prop):Prop:=on a.ns fun x=>bif b.nr.isSome then on b.nr (fun n=>on (m6 H n) fun vs=>ok (rz vs) (k (!vs.any (mz x))))else on (jQ b) fun t=>cNiT P x t k
noncomputable def v9(op:CmpOp)(a b:AV)(H:List HO)(k:Bool->Prop):Prop:=
 @CmpOp.casesOn (fun V=>Prop) op (bif a.ni.isSome then cEqI zk a b k else cEqS a b k) False False (cLe a b k) False False (ok (b.ctorIdx==0) (on (isNn a) k)) False (cIn P a b H k) (cNi P a b H k)
noncomputable def ivSub(a b:AV)(H:List HO)(k:AV->Prop):Prop:=on b.ns fun x=>bif a.nr.isSome then on a.nr (fun n=>on (dictAt H n) fun kvs=>on (kvs.lookup x) k)else on (jQ a) fun t=>yK P t x fun r=>on r fun v=>k (bQ v)
noncomputable def wz(c:Addr):Bool:=c==330||c==949
noncomputable def ivCAt(c:Addr)(kvs:ao)(attr:Str)(k:AV->Prop):Prop:=ok (plainGet (KK P) c attr) (ok (hasDictIn (KK P) c) (on (findIn (KK P) (.ref c) attr) fun q=>
 bif q.isSome then on q (fun at_=>on (specialIn (KK P) at_ "__get__") fun g=>ok g.isNone (ok (kvs.lookup attr).isNone (ok (handedIn at_) (ok (!copiedNames.contains attr) (k (bQ at_))))))
 else on (kvs.lookup attr) fun v=>ok (iu v) (k v)))
noncomputable def J0(r:Rk)(a:AV)(attr:Str)(H:List HO)(k:AV->List HO->Prop):Prop:=on a.nr fun n=>uO H n fun c d kvs=>
 bif wz c&&attr==aP then r.ca 177 [.ref n] [] H (fun v H'=>ok (iu v) (k v H'))
 else bif wz c&&attr==au then r.ca 185 [.ref n] [] H (fun v H'=>ok (iu v) (k v H'))
 else ivCAt P c kvs attr fun v=>k v H
noncomputable def ivMeO(H:List HO)(n:Nat)(name:Str)(k:Value->Prop):Prop:=uO H n fun c d kvs=>ok (kvs.lookup name).isNone (ok (plainGet (KK P) c name) (on (findIn (KK P) (.ref c) name) fun q=>on q fun v=>on (vRef v) fun f=>on (typeIn (KK P) (.ref f)) fun ty=>on (rm ty) fun s=>ok (s=="function") (k (.ref f))))
noncomputable def ivMeD(name:Str)(k:Value->Prop):Prop:=bif name==JW then k (.builtin "dict.update")else bif name==j6 then k (.builtin "dict.copy")else ok (name==s_pop) (k (.builtin "dict.pop"))
noncomputable def Ir(a:AV)(name:Str)(H:List HO)(k:Value->Prop):Prop:=
 bif a.nr.isSome then on a.nr (fun n=>bif (dictAt H n).isSome then ivMeD name k else ivMeO P H n name k)
 else on (jQ a) fun t=>ok (Bg t) (ok (name==s_get) (k (.builtin "dict.get")))
noncomputable def Ay(as:List AV)(H:List HO)(k:AV->List HO->Prop):Prop:=ono as fun v=>on v.nr fun n=>on (dictAt H n) fun a=>ok (Nat.ble a.length 900) (ok (Nat.ble N0 H.length) (k (.ref H.length) (H++[.o (.dict a)])))
noncomputable def Io(n:Nat)(z v:AV)(H:List HO)(k:AV->List HO->Prop):Prop:=on z.ns fun x=>on (dictAt H n) fun kvs=>bif (kvs.lookup x).isSome then on (kvs.lookup x) (fun w=>ok (Nat.ble N0 n) (ok (Nat.ble kvs.length 900) (k w (H.set n (.o (.dict (jN kvs x)))))))else k v H
noncomputable def ivPop(as:List AV)(H:List HO)(k:AV->List HO->Prop):Prop:=onc as fun v r=>on v.nr fun n=>onw r fun z v=>Io N0 n z v H k
noncomputable def ivUpd(as:List AV)(H:List HO)(k:AV->List HO->Prop):Prop:=onw as fun v z=>on v.nr fun n=>on z.nr fun m=>on (dictAt H n) fun a=>on (dictAt H m) fun b=>ok (Nat.ble N0 n) (ok (!(n==m)) (ok (Nat.ble (a.length+b.length) 900) (k .none (H.set n (.o (.dict (gY a b)))))))
noncomputable def ivGet(as:List AV)(k:AV->Prop):Prop:=onw as fun v z=>on (jQ v) fun t=>on z.ns fun x=>yK P t x fun r=>k (bQ (r.getD .none))
noncomputable def ivIsi(as:List AV)(k:AV->Prop):Prop:=onw as fun v z=>on z.ng fun g=>on (rm g) fun t=>bif v.ni.isSome then ok (t=="int") (k (.bool true))else ok v.ns.isSome (ok (t=="str") (k (.bool true)))
noncomputable def ivStr(as:List AV)(k:AV->Prop):Prop:=ono as fun v=>on v.ni fun a=>0≤a∧a<1000∧k (.str (toString a))
noncomputable def ivBi(s:String)(as:List AV)(H:List HO)(k:AV->List HO->Prop):Prop:=bif s=="dict.pop"then ivPop N0 as H k else bif s=="dict.update"then ivUpd N0 as H k else bif s=="dict.copy"then Ay N0 as H k else bif s=="dict.get"then ivGet P as (fun v=>k v H)else ok (s=="isinstance") (ivIsi as fun v=>k v H)
noncomputable def ivTy(s:String)(as:List AV)(H:List HO)(k:AV->List HO->Prop):Prop:=bif s=="dict"then Ay N0 as H k else ok (s=="str") (ivStr as fun v=>k v H)
noncomputable def vd(r:Rk)(f:Value)(as:List AV)(kw:ao)(H:List HO)(k:AV->List HO->Prop):Prop:=vE f (fun s=>ok kw.isEmpty (ivTy N0 s as H k)) (fun s=>ok kw.isEmpty (ivBi P N0 s as H k)) (fun a=>r.ca a as kw H k) False False
noncomputable def yM(r:Rk)(fd:FuncData)(ρ:ao)(es:List Expr):List HO->(List AV->List HO->Prop)->Prop:=
 es.foldr (fun e K H k=>ok (!(e.ctorIdx==22)) (r.ev fd ρ H e fun a H1=>K H1 fun as H2=>k (a::as) H2)) fun H k=>k [] H
noncomputable def ivEks(r:Rk)(fd:FuncData)(ρ:ao)(es:List Keyword):List HO->(List AV->List HO->Prop)->Prop:=
 es.foldr (fun e K H k=>r.ev fd ρ H e.value fun a H1=>K H1 fun as H2=>k (a::as) H2) fun H k=>k [] H
noncomputable def Ej(r:Rk)(fd:FuncData)(ρ:ao)(ps:List (Option Expr×Expr)):List HO->(ao->List HO->Prop)->Prop:=
 ps.foldr (fun p K H k=>on p.1 fun e=>r.ev fd ρ H e fun a H1=>on a.ns fun x=>r.ev fd ρ H1 p.2 fun b H2=>K H2 fun kvs H3=>k ((x,b)::kvs) H3) fun H k=>k [] H
noncomputable def ivS1(r:Rk)(fd:FuncData)(ρ:ao)(H:List HO)(f:Value)(w:Keyword)(k:AV->List HO->Prop):Prop:=ok w.arg.isNone (on (tX w.value) fun x=>Bp fd ρ x.1 fun a=>on a.nr fun m=>on (dictAt H m) fun kvs=>ok (Nat.ble kvs.length 900) (vd P N0 r f [] kvs H k))
noncomputable def ivS2(r:Rk)(fd:FuncData)(ρ:ao)(H:List HO)(f:Value)(v w:Keyword)(k:AV->List HO->Prop):Prop:=on v.arg fun n=>ok w.arg.isNone (on (tX v.value) fun y=>on (tX w.value) fun x=>Bp fd ρ y.1 fun b=>Bp fd ρ x.1 fun a=>on a.nr fun m=>on (dictAt H m) fun kvs=>ok (Nat.ble kvs.length 900) (ok (kvs.all (fun p=> !(p.1==n))) (vd P N0 r f [] ((n,b)::kvs) H k)))
noncomputable def ivCw(r:Rk)(fd:FuncData)(ρ:ao)(H:List HO)(f:Value)(first:List AV)(args:List Expr)(kws:List Keyword)(k:AV->List HO->Prop):Prop:=ok (cu (KK P) f) (
 bif kws.all (·.arg.isSome)then yM r fd ρ args H (fun as H1=>ivEks r fd ρ kws H1 fun ks H2=>vd P N0 r f (first++as) ((kws.filterMap (·.arg)).zip ks) H2 k)
 else ok first.isEmpty (ok args.isEmpty (bif kws.length==1 then ono kws (fun w=>ivS1 P N0 r fd ρ H f w k)else onw kws fun v w=>ivS2 P N0 r fd ρ H f v w k)))
noncomputable def ivCst(c:Const):Option AV:=@Const.casesOn (fun V=>Option AV) c (some .none) (fun V=>none) (fun i=>some (.int i)) (fun V=>none) (fun V V=>none) (fun x=>some (.str x)) (fun V=>none) none
noncomputable def ivDct(r:Rk)(fd:FuncData)(ρ:ao)(H:List HO)(ks:List (Option Expr))(vs:List Expr)(k:AV->List HO->Prop):Prop:=ok (Nat.ble N0 H.length) (
 bif ks.isEmpty then ok vs.isEmpty (k (.ref H.length) (H++[.o (.dict [])]))
 else ok (ks.all (·.isSome)) (ok (ks.length==vs.length) (ok (Nat.ble ks.length 15) (Ej r fd ρ (ks.zip vs) (H++[.o (.dict [])]) fun kvs H1=>on (dictAt H1 H.length) fun l=>ok l.isEmpty (k (.ref H.length) (H1.set H.length (.o (.dict (gY [] kvs)))))))))
noncomputable def qN(o:Expr)(ap p:Pos):Bool:=(o.ctorIdx==23||o.ctorIdx==20)&&ap.endLine==p.line
noncomputable def Gj(as:List Expr)(ks:List Keyword):Bool:=as.all (fun e=> !(e.ctorIdx==22))&&(ks.all (·.arg.isSome)&&Nat.blt (as.length+ks.length+1) 30)
noncomputable def ivCal(r:Rk)(fd:FuncData)(ρ:ao)(H:List HO)(f:Expr)(as:List Expr)(ks:List Keyword)(p:Pos)(k:AV->List HO->Prop):Prop:=
 xE f (fun id q=>r.ev fd ρ H (.Name id q) fun v H1=>on v.ng fun g=>ivCw P N0 r fd ρ H1 g [] as ks k) (fun V V V=>False) (fun V V V V=>False) (fun o name ap=>ok (qN o ap p) (ok (Gj as ks) (r.ev fd ρ H o fun a H1=>Ir P a name H1 fun g=>ivCw P N0 r fd ρ H1 g [a] as ks k))) (fun V V V=>False) (fun V V V=>False) (fun V V V=>False) (fun V V=>False) (fun V V V V=>False) (fun V V V=>False) (fun V V V=>False) (fun V V V V=>False) False
noncomputable def Il(r:Rk)(fd:FuncData)(ρ:ao)(H:List HO)(es:List Expr)(m:List AV->AO)(k:AV->List HO->Prop):Prop:=yM r fd ρ es H fun vs H1=>ok (Nat.ble N0 H1.length) (ok (Nat.ble vs.length 900) (k (.ref H1.length) (H1++[.o (m vs)])))
noncomputable def ivEv(r:Rk)(fd:FuncData)(ρ:ao)(H:List HO)(e:Expr)(k:AV->List HO->Prop):Prop:=
 xE e (fun x V=>Ax P fd ρ x fun v=>k v H) (fun c V V=>on (ivCst c) fun v=>k v H) (fun l op q V=>r.ev fd ρ H l fun a H1=>r.ev fd ρ H1 q fun b H2=>ivBin P N0 op a b H2 k)
  (fun o attr V=>ok (o.ctorIdx==23) (r.ev fd ρ H o fun a H1=>J0 P r a attr H1 k)) (fun v s V=>ok (s.ctorIdx==23||s.ctorIdx==19) (r.ev fd ρ H v fun a H1=>r.ev fd ρ H1 s fun b H2=>ivSub P a b H2 fun v=>k v H2))
  (fun ks vs V=>ivDct N0 r fd ρ H ks vs k) (fun es V V=>Il N0 r fd ρ H es .tup k) (fun es V=>Il N0 r fd ρ H es .list k) (fun f as ks p=>ivCal P N0 r fd ρ H f as ks p k) (fun V V V=>False) (fun V V V=>False) (fun V V V V=>False) False
noncomputable def Eh(v:AV)(H:List HO)(k:Bool->Prop):Prop:=bif v.nb.isSome then on v.nb k else on v.nr fun n=>on (dictAt H n) fun kvs=>ok (Nat.ble kvs.length 900) (k (!kvs.isEmpty))
noncomputable def ivC1(r:Rk)(fd:FuncData)(ρ:ao)(H:List HO)(l:Expr)(op:CmpOp)(q:Expr)(k:Bool->List HO->Prop):Prop:=ok (!behindInMarks op q) (r.ev fd ρ H l fun a H1=>r.ev fd ρ H1 q fun b H2=>v9 P zk op a b H2 fun t=>k t H2)
noncomputable def ivC2(r:Rk)(fd:FuncData)(ρ:ao)(H:List HO)(l:Expr)(oA oE:CmpOp)(qC qD:Expr)(k:Bool->List HO->Prop):Prop:=ok (!lastMarks [oA,oE] [qC,qD]) (r.ev fd ρ H l fun a H1=>r.ev fd ρ H1 qC fun b H2=>v9 P zk oA a b H2 fun t=>ok t (r.ev fd ρ H2 qD fun c H3=>v9 P zk oE b c H3 fun t'=>k t' H3))
noncomputable def ivPl(r:Rk)(fd:FuncData)(ρ:ao)(H:List HO)(e:Expr)(k:Bool->List HO->Prop):Prop:=r.ev fd ρ H e fun v H1=>Eh v H1 fun b=>k b H1
noncomputable def ivTt(r:Rk)(fd:FuncData)(ρ:ao)(H:List HO)(e:Expr)(k:Bool->List HO->Prop):Prop:=
 xE e (fun x p=>ivPl r fd ρ H (.Name x p) k) (fun V V V=>False) (fun V V V V=>False) (fun V V V=>False) (fun V V V=>False) (fun V V V=>False) (fun V V V=>False) (fun V V=>False) (fun f as ks p=>ivPl r fd ρ H (.Call f as ks p) k)
  (fun op x V=>ok (op== .Not) (r.tt fd ρ H x fun b H1=>k (!b) H1)) (fun op vs V=>ok (op== .And) (onc vs fun x V=>r.tt fd ρ H x fun b H1=>ok (!b) (k false H1)))
  (fun l ops cs V=>bif ops.length==1 then ono ops (fun op=>ono cs fun q=>ivC1 P zk r fd ρ H l op q k)else onw ops fun oA oE=>onw cs fun qC qD=>ivC2 P zk r fd ρ H l oA oE qC qD k) False
noncomputable def yL(r:Rk)(fd:FuncData)(ss:List Stmt):ao->List HO->(FA->List HO->ao->Prop)->Prop:=
 ss.foldr (fun s K ρ H k=>r.ex fd ρ H s fun f H1 ρ1=>bif f.go then K ρ1 H1 k else k f H1 ρ1) fun ρ H k=>k .next H ρ
noncomputable def pN(r:Rk)(fd:FuncData)(body:List Stmt)(inv:List HO->Bool)(gs:List (ao->ao)):List HO->ao->(FA->List HO->ao->Prop)->Prop:=
 gs.foldr (fun g K H ρ k=>ok (inv H) (yL r fd body (g ρ) H fun f H1 ρ1=>bif f.go then K H1 ρ1 k else on f.re fun v=>k (.ret v) H1 ρ1)) fun H ρ k=>ok (inv H) (k .next H ρ)
noncomputable def ivAsg(r:Rk)(fd:FuncData)(ρ:ao)(H:List HO)(t value:Expr)(k:FA->List HO->ao->Prop):Prop:=
 xE t (fun x V=>ok (dZ fd x 0) (r.ev fd ρ H value fun v H1=>k .next H1 (put x v ρ))) (fun V V V=>False) (fun V V V V=>False)
  (fun o attr V=>r.ev fd ρ H value fun v H1=>r.ev fd ρ H1 o fun a H2=>on a.nr fun n=>uO H2 n fun c d kvs=>ok (wz c) (ok (attr==aR) (ok (Nat.ble N0 d) (ok (Nat.ble kvs.length 900) (k .next (H2.set d (.o (.dict (f9 kvs attr v)))) ρ)))))
  (fun o i V=>r.ev fd ρ H value fun v H1=>r.ev fd ρ H1 o fun a H2=>r.ev fd ρ H2 i fun b H3=>on a.nr fun n=>on b.ns fun x=>on (dictAt H3 n) fun kvs=>ok (Nat.ble N0 n) (ok (Nat.ble kvs.length 900) (k .next (H3.set n (.o (.dict (f9 kvs x v)))) ρ)))
  (fun V V V=>False) (fun V V V=>False) (fun V V=>False) (fun V V V V=>False) (fun V V V=>False) (fun V V V=>False) (fun V V V V=>False) False
noncomputable def IV(r:Rk)(fd:FuncData)(ρ:ao)(H:List HO)(x:Str)(it:Expr)(body:List Stmt)(k:FA->List HO->ao->Prop):Prop:=r.ev fd ρ H it fun v H1=>
 bif v.nr.isSome then on v.nr (fun n=>bif (dictAt H1 n).isSome then on (dictAt H1 n) (fun kvs=>pN r fd body (nZ n) ((kvs.map fun p=>.str p.1).map (put x)) (H1.set n .held) ρ (fun f H2 ρ2=>ok f.go (k .next (H2.set n (.o (.dict kvs))) ρ2)))
  else on (m6 H1 n) fun vs=>pN r fd body (pP n vs) (vs.map (put x)) H1 ρ k)
 else on (jQ v) fun a=>rH P "tuple" a fun l=>pN r fd body (fun V=>true) ((l.map bQ).map (put x)) H1 ρ k
noncomputable def ivIt(r:Rk)(fd:FuncData)(ρ:ao)(H:List HO)(xk dI:Str)(o:Expr)(body:List Stmt)(k:List HO->ao->Prop):Prop:=r.ev fd ρ H o fun a H1=>on a.nr fun n=>on (dictAt H1 n) fun kvs=>pN r fd body (nZ n) (kvs.map fun p ρ=>put dI p.2 (put xk (.str p.1) ρ)) (H1.set n .held) ρ (fun f H2 ρ2=>ok f.go (k (H2.set n (.o (.dict kvs))) ρ2))
noncomputable def ivZip(r:Rk)(fd:FuncData)(ρ:ao)(H:List HO)(xk dI:Str)(id:Str)(args:List Expr)(body:List Stmt)(k:List HO->ao->Prop):Prop:=Ax P fd ρ id fun v=>on v.ng fun g=>on (rm g) fun s=>ok (s=="zip") (yM r fd ρ args H fun as H1=>onw as fun a b=>on (jQ a) fun aA=>on (jQ b) fun aB=>rH P "list" aA fun lA=>rH P "list" aB fun lB=>pN r fd body (fun V=>true) ((dh lA lB).map fun p ρ=>put dI p.2 (put xk p.1 ρ)) H1 ρ (fun f H2 ρ2=>ok f.go (k H2 ρ2)))
noncomputable def Iz(r:Rk)(fd:FuncData)(ρ:ao)(H:List HO)(xk dI:Str)(f:Expr)(args:List Expr)(p:Pos)(body:List Stmt)(k:List HO->ao->Prop):Prop:=
 xE f (fun id V=>ivZip P r fd ρ H xk dI id args body k) (fun V V V=>False) (fun V V V V=>False) (fun o name ap=>ok args.isEmpty (ok (qN o ap p) (ok (name==vV) (ivIt r fd ρ H xk dI o body k)))) (fun V V V=>False) (fun V V V=>False) (fun V V V=>False) (fun V V=>False) (fun V V V V=>False) (fun V V V=>False) (fun V V V=>False) (fun V V V V=>False) False
noncomputable def onCal(e:Expr)(k:Expr->List Expr->Pos->Prop):Prop:=xE e (fun V V=>False) (fun V V V=>False) (fun V V V V=>False) (fun V V V=>False) (fun V V V=>False) (fun V V V=>False) (fun V V V=>False) (fun V V=>False) (fun f as ks p=>ok ks.isEmpty (k f as p)) (fun V V V=>False) (fun V V V=>False) (fun V V V V=>False) False
noncomputable def ivFor(r:Rk)(fd:FuncData)(ρ:ao)(H:List HO)(t it:Expr)(body:List Stmt)(k:FA->List HO->ao->Prop):Prop:=
 xE t (fun x V=>ok (dZ fd x 0) (ok (!(it.ctorIdx==7)) (IV P r fd ρ H x it body k))) (fun V V V=>False) (fun V V V V=>False) (fun V V V=>False) (fun V V V=>False) (fun V V V=>False)
  (fun es V V=>onw es fun a b=>on (tX a) fun xk=>on (tX b) fun dI=>ok (dZ fd xk.1 0) (ok (dZ fd dI.1 0) (onCal it fun f args p=>Iz P r fd ρ H xk.1 dI.1 f args p body (k .next))))
  (fun V V=>False) (fun V V V V=>False) (fun V V V=>False) (fun V V V=>False) (fun V V V V=>False) False
noncomputable def jA(e:Expr):Bool:= !(e.ctorIdx==8)&&(!(e.ctorIdx==9)&& !(e.ctorIdx==10))
noncomputable def ivEx(r:Rk)(fd:FuncData)(ρ:ao)(H:List HO)(s:Stmt)(k:FA->List HO->ao->Prop):Prop:=@Stmt.casesOn (fun V=>Prop) s (fun V V V V V V V V V V=>False) (fun V V V V V V V V V V=>False) (fun V V V V V V V V V V V=>False) (fun e V=>on e fun e=>r.ev fd ρ H e fun v H1=>k (.ret v) H1 ρ) (fun V V=>False) (fun ts value V=>ono ts fun t=>ok (jA value) (ivAsg N0 r fd ρ H t value k)) (fun V V V V V V V=>False) (fun V V V V=>False) (fun V V V V V=>False) (fun t it body orelse V=>ok orelse.isEmpty (ivFor P r fd ρ H t it body k)) (fun V V V V V=>False) (fun V V V V=>False) (fun test body orelse V=>r.tt fd ρ H test fun b H1=>yL r fd (bif b then body else orelse) ρ H1 k) (fun V V V=>False) (fun V V V=>False) (fun V V V=>False) (fun V V V=>False) (fun V V V V V=>False) (fun V V V V V=>False) (fun V V V=>False) (fun V V=>False) (fun V V V V=>False) (fun V V=>False) (fun V V=>False) (fun e V=>ok (jA e) (r.ev fd ρ H e fun v H1=>ok (v.ctorIdx==0) (k .next H1 ρ))) (fun V=>False) (fun V=>False) (fun V=>False)
noncomputable def mW(fd:FuncData):Option (List Stmt):=@FuncBody.casesOn (fun V=>Option (List Stmt)) fd.body some (fun V=>none)
noncomputable def Ba(r:Rk)(fd:FuncData)(ρ:ao)(H:List HO)(k:AV->List HO->Prop):Prop:=on (mW fd) fun b=>yL r fd b ρ H fun f H1 V=>bif f.go then k .none H1 else on f.re fun v=>k v H1
noncomputable def Gi(r:Rk)(a fI:Addr)(as:List AV)(kw:ao)(H:List HO)(k:AV->List HO->Prop):Prop:=ok (Nat.ble N0 H.length) (r.ca fI (.ref (H.length+1)::as) kw (H++[.o (.dict [])]++[.o (.inst a H.length)]) fun v H1=>ok (v.ctorIdx==0) (k (.ref (H.length+1)) H1))
noncomputable def ivCl0(a:Addr)(as:List AV)(kw:ao)(H:List HO)(k:AV->List HO->Prop):Prop:=ok as.isEmpty (ok kw.isEmpty (ok (Nat.ble N0 H.length) (ok (makesIn (KK P) a) (on (findIn (KK P) (.ref a) "__init__") fun q=>on q fun v=>on (vBi v) fun s=>ok (s=="object.__init__") (k (.ref (H.length+1)) (H++[.o (.dict [])]++[.o (.inst a H.length)]))))))
noncomputable def keAt(a:Addr)(as:List AV)(kw:ao):Option KE:=jB.find? fun e=>e.1.1==a&&(e.1.2.2==as.length&&e.2.1==kw.map (·.1))
noncomputable def yD(as:List AV)(kw:ao)(n:Nat):nG->AV:=nG.ev (as.getD · .none) ((kw.map (·.2)).getD · .none) bQ (.ref n)
noncomputable def ivCa(r:Rk)(a:Addr)(as:List AV)(kw:ao)(H:List HO)(k:AV->List HO->Prop):Prop:=
 bif (mj.lookup a).isSome then on (mj.lookup a) (fun p=>ok (as.length==p.2.length) (ok kw.isEmpty (Ba r p.1 (p.2.zip as) H k)))
 else bif (keAt jB a as kw).isSome then on (keAt jB a as kw) (fun e=>ok (Nat.ble N0 H.length) (Ba r e.1.2.1 (e.2.2.1.map fun p=>(p.1,yD as kw H.length p.2)) (H++[.o (.dict (gY [] (e.2.2.2.map fun i=>kw.getD i (aP,.none))))]) k))
 else bif a==330 then Gi N0 r 330 269 as kw H k else bif a==949 then Gi N0 r 949 901 as kw H k else ivCl0 P N0 a as kw H k
noncomputable def step(r:Rk):Rk:=⟨ivEv P N0 r,ivTt P zk r,ivEx P N0 r,ivCa P N0 mj jB r⟩
noncomputable def iv(n:Nat):Rk:=Nat.rec ⟨fun V V V V V=>False,fun V V V V V=>False,fun V V V V V=>False,fun V V V V V=>False⟩ (fun V r=>step P N0 zk mj jB r) n
end
noncomputable abbrev nU:Str:=⟨#[97,114,103,115]⟩
noncomputable abbrev n_attrs:Str:=⟨#[97,116,116,114,115]⟩
noncomputable abbrev n_draw:Str:=⟨#[100,114,97,119]⟩
noncomputable abbrev pH:Str:=⟨#[107,119,97,114,103,115]⟩
noncomputable abbrev I6:Str:=⟨#[109,115,103,100,105,99,116]⟩
noncomputable abbrev Kh:Str:=⟨#[110,117,109,98,101,114]⟩
noncomputable abbrev n8:Str:=⟨#[111,118,101,114,114,105,100,101,115]⟩
noncomputable abbrev cT:Str:=⟨#[115,101,108,102]⟩
noncomputable abbrev n_ticks:Str:=⟨#[116,105,99,107,115]⟩
noncomputable abbrev w6:Str:=⟨#[116,121,112,101,95]⟩
noncomputable def mj(P:Params):List (Addr×FuncData×List Str):=[(86,fd86 P,[w6,n8]),(93,fd93 P,[w6]),(100,fd100 P,[bI]),(142,fd142 P,[fK]),(149,fd149 P,[au]),(156,fd156 P,[uJ,fK]),(163,fd163 P,[I6]),(177,fd177 P,[cT]),(185,fd185 P,[cT]),(214,fd214 P,[cT]),(379,fd379 P,[fK]),(421,fd421 P,[cT]),(500,fd500 P,[cT,uJ,fK]),(879,fd879 P,[]),(886,fd886 P,[w6]),(922,fd922 P,[cT,n_attrs]),(929,fd929 P,[cT,uJ,fK]),(990,fd990 P,[n_draw,Kh,n_ticks])]
noncomputable def jB(P:Params):List KE:=[
 ((269,pY P,2),[bI,lW,au],[(cT,.p 0),(j5,.p 1),(aj,.c (.bool false)),(nU,.d)],[0,1,2]),
 ((269,pY P,2),[iC,fK,au],[(cT,.p 0),(j5,.p 1),(aj,.c (.bool false)),(nU,.d)],[0,1,2]),
 ((269,pY P,2),[iB,au],[(cT,.p 0),(j5,.p 1),(aj,.c (.bool false)),(nU,.d)],[0,1]),
 ((269,pY P,1),[aj,aP,au,bI,lW,iQ],[(cT,.p 0),(j5,.c .none),(aj,.k 0),(nU,.d)],[1,2,3,4,5]),
 ((269,pY P,1),[aj,aP,au,bI,iC,fK],[(cT,.p 0),(j5,.c .none),(aj,.k 0),(nU,.d)],[1,2,3,4,5]),
 ((269,pY P,1),[aj,aP,au,bI,iB],[(cT,.p 0),(j5,.c .none),(aj,.k 0),(nU,.d)],[1,2,3,4]),
 ((901,vo P,2),[j4,au],[(cT,.p 0),(j5,.p 1),(aj,.c (.bool false)),(pH,.d)],[0,1]),
 ((901,vo P,2),[au],[(cT,.p 0),(j5,.p 1),(aj,.c (.bool false)),(pH,.d)],[0]),
 ((901,vo P,1),[aP,j4,au,aj],[(cT,.p 0),(j5,.c .none),(aj,.k 3),(pH,.d)],[0,1,2]),
 ((901,vo P,1),[aP,au,aj],[(cT,.p 0),(j5,.c .none),(aj,.k 2),(pH,.d)],[0,1]),
 ((285,fd285 P,1),[aj,au],[(cT,.p 0),(aj,.k 0),(n8,.d)],[1]),
 ((908,fd908 P,1),[aj,au],[(cT,.p 0),(n8,.d)],[0,1])]
structure iJ(fd:FuncData):Prop where
 k:fd.scope.kind=.function
 g:fd.globals=3
 b:fd.builtins=0
structure Ct where
 fa:Addr
 L:Addr
 fr:List (Addr×FE)
 d:Nat
 u:Nat
 η:Nat->Obj->Prop
noncomputable abbrev Ct.F(c:Ct)(ρ:ao):List (Addr×FE):=(c.L,.loc ρ)::c.fr
noncomputable abbrev Ct.E(c:Ct)(fd:FuncData):Env:=callEnv fd c.L c.fa
section
variable{G:Prop}{α:Type}
theorem aN{o:Option α}{k:α->Prop}(h:on o k)(g:∀ x,o=some x->k x->G):G:=by
 cases o with
 |none=>exact h.elim
 |some x=>exact g x rfl h
theorem aO{b:Bool}{p:Prop}(h:ok b p)(g:b=true->p->G):G:=by
 cases b with
 |false=>exact h.elim
 |true=>exact g rfl h
theorem bN{b:Bool}{p q:Prop}(h:bif b then p else q)(g:b=true->p->G)(g':b=false->q->G):G:=by
 cases b with
 |false=>exact g' rfl h
 |true=>exact g rfl h
theorem oncG{l:List α}{k:α->List α->Prop}(h:onc l k)(g:∀ a r,l=a::r->k a r->G):G:=by
 cases l with
 |nil=>exact h.elim
 |cons a r=>exact g a r rfl h
theorem tR{l:List α}{k:α->Prop}(h:ono l k)(g:∀ a,l=[a]->k a->G):G:=by
 cases l with
 |nil=>exact h.elim
 |cons a r=>cases r with
  |nil=>exact g a rfl h
  |cons b q=>exact h.elim
theorem pD{l:List α}{k:α->α->Prop}(h:onw l k)(g:∀ a b,l=[a,b]->k a b->G):G:=
 oncG h fun a r e h=>tR h fun b e' h=>g a b (e'▸e) h
theorem nS{x:α}(h:none=some x):G:=nomatch h
theorem dO[BEq α][LawfulBEq α]{a b:α}(h:(a==b)=true):a=b:=eq_of_beq h
theorem ntE{b:Bool}(h:(!b)=true):b=false:=(Bool.not_eq_true' b).mp h
theorem wu{o:Option α}(h:o.isNone=true):o=none:=Option.isNone_iff_eq_none.mp h
theorem jj{l:List α}(h:l.isEmpty=true):l=[]:=List.isEmpty_iff.mp h
end
theorem iD{a:AV}{n:Nat}:a.nr=some n->a=.ref n:=@AV.casesOn (fun a=>a.nr=some n->a=.ref n) a nS (fun V=>nS) (fun V=>nS) (fun V=>nS) (fun V h=>congrArg _ (Option.some.inj h)) (fun V=>nS)
theorem qg{a:AV}{n:Int}:a.ni=some n->a=.int n:=@AV.casesOn (fun a=>a.ni=some n->a=.int n) a nS (fun V=>nS) (fun V h=>congrArg _ (Option.some.inj h)) (fun V=>nS) (fun V=>nS) (fun V=>nS)
theorem ngE{a:AV}{n:Value}:a.ng=some n->a=.glob n:=@AV.casesOn (fun a=>a.ng=some n->a=.glob n) a nS (fun V=>nS) (fun V=>nS) (fun V=>nS) (fun V=>nS) (fun V h=>congrArg _ (Option.some.inj h))
theorem nbE{a:AV}{n:Bool}:a.nb=some n->a=.bool n:=@AV.casesOn (fun a=>a.nb=some n->a=.bool n) a nS (fun V h=>congrArg _ (Option.some.inj h)) (fun V=>nS) (fun V=>nS) (fun V=>nS) (fun V=>nS)
theorem mK{a:AV}{n:Str}:a.ns=some n->a=.str n:=@AV.casesOn (fun a=>a.ns=some n->a=.str n) a nS (fun V=>nS) (fun V=>nS) (fun V h=>congrArg _ (Option.some.inj h)) (fun V=>nS) (fun V=>nS)
theorem nnE{a:AV}:(a.ctorIdx==0)=true->a=.none:=@AV.casesOn (fun a=>(a.ctorIdx==0)=true->a=.none) a (fun V=>rfl) (fun V h=>nomatch h) (fun V h=>nomatch h) (fun V h=>nomatch h) (fun V h=>nomatch h) (fun V h=>nomatch h)
theorem vrE{v:Value}{n:Addr}:vRef v=some n->v=.ref n:=@Value.casesOn (fun v=>vRef v=some n->v=.ref n) v nS nS nS (fun V=>nS) (fun V V=>nS) (fun V V=>nS) (fun V V=>nS) (fun V V=>nS) (fun V=>nS) (fun V=>nS) (fun V h=>congrArg _ (Option.some.inj h))
theorem vtE{v:Value}{n:String}:rm v=some n->v=.type n:=@Value.casesOn (fun v=>rm v=some n->v=.type n) v nS nS nS (fun V=>nS) (fun V V=>nS) (fun V V=>nS) (fun V V=>nS) (fun V V=>nS) (fun V h=>congrArg _ (Option.some.inj h)) (fun V=>nS) (fun V=>nS)
theorem vbE{v:Value}{n:String}:vBi v=some n->v=.builtin n:=@Value.casesOn (fun v=>vBi v=some n->v=.builtin n) v nS nS nS (fun V=>nS) (fun V V=>nS) (fun V V=>nS) (fun V V=>nS) (fun V V=>nS) (fun V=>nS) (fun V h=>congrArg _ (Option.some.inj h)) (fun V=>nS)
theorem goE{f:FA}:f.go=true->f=.next:=@FA.casesOn (fun f=>f.go=true->f=.next) f (fun V=>rfl) (fun h=>nomatch h) (fun h=>nomatch h) (fun V h=>nomatch h)
theorem reE{f:FA}{v:AV}:f.re=some v->f=.ret v:=@FA.casesOn (fun f=>f.re=some v->f=.ret v) f nS nS nS (fun V h=>congrArg _ (Option.some.inj h))
theorem jz{a:AV}{n:Addr}(h:jQ a=some n):a=.glob (.ref n):=(Option.bind_eq_some_iff.mp h).elim fun V h=>(ngE h.1).trans (congrArg _ (vrE h.2))
theorem yQ{h:Option HO}{α:Type}{d:ao->Option α}{l t:List AV->Option α}{i:Addr->Nat->Option α}{x:α}(e:hE h d l t i none=some x){G:Prop}(a:∀ y,d y=some x->h=some (.o (.dict y))->G)(b:∀ y,l y=some x->h=some (.o (.list y))->G)(c:∀ y,t y=some x->h=some (.o (.tup y))->G)(f:∀ y z,i y z=some x->h=some (.o (.inst y z))->G):G:=by
 cases h with
 |none=>exact nS e
 |some h=>cases h with
  |held=>exact nS e
  |o y=>cases y with
   |dict y=>exact a y e rfl
   |list y=>exact b y e rfl
   |tup y=>exact c y e rfl
   |inst y z=>exact f y z e rfl
   |pin y=>exact nS e
section
variable{H:List HO}{n:Nat}
theorem gj{x:ao}(h:dictAt H n=some x):H[n]? =some (.o (.dict x)):=yQ h (fun y e q=>Option.some.inj e▸q) (fun V=>nS) (fun V=>nS) (fun V V=>nS)
theorem v8{x:List AV}(h:m6 H n=some x):H[n]? =some (.o (.list x)):=yQ h (fun V=>nS) (fun y e q=>Option.some.inj e▸q) (fun V=>nS) (fun V V=>nS)
theorem tupE{x:List AV}(h:Fq H n=some x):H[n]? =some (.o (.tup x)):=yQ h (fun V=>nS) (fun V=>nS) (fun y e q=>Option.some.inj e▸q) (fun V V=>nS)
theorem instE{x:Addr×Nat}(h:kh H n=some x):H[n]? =some (.o (.inst x.1 x.2)):=yQ h (fun V=>nS) (fun V=>nS) (fun V=>nS) (fun y z e q=>Option.some.inj e▸q)
theorem vZ{k:Addr->Nat->ao->Prop}(h:uO H n k){G:Prop}(g:∀ c d kvs,H[n]? =some (.o (.inst c d))->H[d]? =some (.o (.dict kvs))->k c d kvs->G):G:=aN h fun p e h=>aN h fun kvs e' h=>g p.1 p.2 kvs (instE e) (gj e') h
end
theorem kd_el{fd:FuncData}{x:Str}{n:Nat}(h:dZ fd x n=true){G:Prop}(g:∀ k:NameKind,fd.scope.names.lookup x=some k->k.ctorIdx=n->(x==("__debug__":Str))=false->G):G:=by
 have q:=Bool.and_eq_true_iff.mp h
 refine(Option.any_eq_true_iff_get _ _).mp q.1 |>.elim fun e z=>g _ (Option.some_get e).symm (dO z) (ntE q.2)
theorem lD{fd:FuncData}{x:Str}(h:dZ fd x 0=true):fd.scope.names.lookup x=some .local∧(x==("__debug__":Str))=false:=
 kd_el h fun k=>@NameKind.casesOn (fun k=>fd.scope.names.lookup x=some k->k.ctorIdx=0->_->_) k (fun a V b=>⟨a,b⟩) (fun V z=>nomatch z) (fun V z=>nomatch z) (fun V z=>nomatch z) (fun V z=>nomatch z)
theorem kd4{fd:FuncData}{x:Str}(h:dZ fd x 4=true):fd.scope.names.lookup x=some .globalImplicit∧(x==("__debug__":Str))=false:=
 kd_el h fun k=>@NameKind.casesOn (fun k=>fd.scope.names.lookup x=some k->k.ctorIdx=4->_->_) k (fun V z=>nomatch z) (fun V z=>nomatch z) (fun V z=>nomatch z) (fun V z=>nomatch z) (fun a V b=>⟨a,b⟩)
theorem nmE{e:Expr}{x:Str×Pos}:tX e=some x->e=.Name x.1 x.2:=@Expr.casesOn (fun e=>tX e=some x->e=.Name x.1 x.2) e (fun V V V=>nS) (fun V V V=>nS) (fun V V V V=>nS) (fun V V V=>nS) (fun V V V V=>nS) (fun V V V V=>nS) (fun V V V=>nS) (fun V V V=>nS) (fun V V V V=>nS) (fun V V V V=>nS) (fun V V V V V=>nS) (fun V V V V=>nS) (fun V V=>nS) (fun V V=>nS) (fun V V=>nS) (fun V V V V=>nS) (fun V V V V=>nS) (fun V V V V=>nS) (fun V V=>nS) (fun V V V=>nS) (fun V V V=>nS) (fun V V V=>nS) (fun V V=>nS) (fun V V h=>Option.some.inj h▸rfl) (fun V V=>nS) (fun V V V=>nS) (fun V V V V=>nS)
theorem orTd{P:Params}{a x:Addr}{q:Bool}(h:(a==x||q)=true)(p:gW P x)(g:q=true->gW P a):gW P a:=(Bool.or_eq_true_iff.mp h).elim (fun e=>dO e▸p) g
theorem tdE{P:Params}{a:Addr}(h:Bg a=true):gW P a:=orTd h (td_22 P) fun h=>orTd h (td_26 P) fun h=>orTd h (td_32 P) fun h=>orTd h (td_35 P) fun h=>dO h▸td_78 P
theorem bZ{d n:Nat}(h:d+(n+1)<recursionLimit):d+n<recursionLimit:=Nat.lt_of_succ_lt h
theorem sl{x:Nat}(h:Nat.ble x 900=true):x≤sizeLine:=Nat.le_trans (Nat.le_of_ble_eq_true h) (by rw[sizeLine_eq];decide)
section
variable(C:Cx)(n:Nat)(fd:FuncData)(ρ:ao)(H:List HO)
noncomputable def zE(e:Expr)(v:AV)(H':List HO):Prop:=∀ c:Ct,iJ fd->c.d+n<recursionLimit->Ev C c.d c.u (sub c.η H) (c.F ρ) (eval e (c.E fd)) v (sub c.η H')
noncomputable def zT(e:Expr)(v:Bool)(H':List HO):Prop:=∀ c:Ct,iJ fd->c.d+n<recursionLimit->Et C c.d c.u (sub c.η H) (c.F ρ) (isTrue e (c.E fd) (eval e (c.E fd))) v (sub c.η H')
noncomputable def zX(s:Stmt)(f:FA)(H':List HO)(ρ':ao):Prop:=∀ c:Ct,iJ fd->c.d+n<recursionLimit->Ex C c.d c.u (sub c.η H) c.L ρ c.fr (exec s (c.E fd)) f (sub c.η H') ρ'
noncomputable def zXs(s:List Stmt)(f:FA)(H':List HO)(ρ':ao):Prop:=∀ c:Ct,iJ fd->c.d+n<recursionLimit->Ex C c.d c.u (sub c.η H) c.L ρ c.fr (execs s (c.E fd)) f (sub c.η H') ρ'
noncomputable def zC(a:Addr)(as:List AV)(kw:ao)(v:AV)(H':List HO):Prop:=∀ c:Ct,c.d+n<recursionLimit->JC C c.d c.u (sub c.η H) c.fr (.glob (.ref a)) as kw v (sub c.η H')
noncomputable def zV(f:Value)(as:List AV)(kw:ao)(v:AV)(H':List HO):Prop:=∀ c:Ct,c.d+n<recursionLimit->JV C c.d c.u (sub c.η H) c.fr (.glob f) as kw v (sub c.η H')
noncomputable def zB(op:Operator)(a b v:AV)(H':List HO):Prop:=∀ c:Ct,fG C c.d c.u (sub c.η H) c.fr (binaryOp op) a b v (sub c.η H')
noncomputable def zQ(op:CmpOp)(a b:AV)(v:Bool):Prop:=∀ c:Ct,fG C c.d c.u (sub c.η H) c.fr (compareOp op) a b (.bool v) (sub c.η H)
noncomputable def zS(a b v:AV):Prop:=∀(c:Ct) value slice,(∀ o i,subscripted slice false o i=operate [o,i] (getItem o i))->JS C c.d c.u (sub c.η H) c.fr value slice a b v (sub c.η H)
noncomputable def zA(a:AV)(attr:Str)(v:AV)(H':List HO):Prop:=∀ c:Ct,c.d+n<recursionLimit->Ev1 C c.d c.u (sub c.η H) c.fr (fun o=>getAttr o attr true) a v (sub c.η H')
noncomputable def zM(a:AV)(name:Str)(g:Value):Prop:=∀(c:Ct) pl,JF C c.d c.u (sub c.η H) c.fr (Vr a) (fun ov=>getMethod ov name pl) (Fs (.glob g) [a]) (sub c.η H)
structure d9(r:Rk):Prop where
 ev:∀{fd ρ H e k} {G:Prop},r.ev fd ρ H e k->(∀ v H',k v H'->zE C n fd ρ H e v H'->G)->G
 tt:∀{fd ρ H e k} {G:Prop},r.tt fd ρ H e k->(∀ v H',k v H'->zT C n fd ρ H e v H'->G)->G
 ex:∀{fd ρ H s k} {G:Prop},r.ex fd ρ H s k->(∀ f H' ρ',k f H' ρ'->zX C n fd ρ H s f H' ρ'->G)->G
 ca:∀{a as kw H k} {G:Prop},r.ca a as kw H k->(∀ v H',k v H'->zC C n H a as kw v H'->G)->G
end
section
variable{C:Cx}{N0:Nat}{zk:Int}{n:Nat}{r:Rk}{fd:FuncData}{ρ:ao}{H:List HO}{G:Prop}
theorem n0E(hN:C.n0=N0){η:Nat->Obj->Prop}(e:Nat.ble N0 H.length=true):C.n0≤(sub η H).length:=iK H η▸uY hN e
theorem seqD_E{o:Obj}{l:List Value}(h:seqD o=some l):∃ m,o.data=.seq l.toArray m:=by
 unfold seqD at h
 generalize o.data=d at h
 cases d<;>first|exact nS h|skip
 exact⟨_,congrArg (fun x=>Data.seq x _) ((Array.toArray_toList).symm.trans (congrArg _ (Option.some.inj h)))⟩
theorem objE{o:Obj}{c:Value}{d:Data}(h1:o.cls=c)(h2:o.data=d):o=⟨c,o.dict,d,o.slots⟩:=by subst h1 h2;rfl
theorem zJ{ty:String}{a:Addr}{k:List Value->Prop}(h:rH C.w.params ty a k)(g:∀ l,jO C.w.params ty a l->k l->G):G:=
 aN h fun o h1 h=>aN h fun t h2 h=>aN h fun l h3 h=>aO h fun h4 h=>aO h fun h5 h=>(seqD_E h3).elim fun m h6=>g l ⟨⟨o.dict,m,o.slots,h1.trans (congrArg some (objE ((vtE h2).trans (congrArg _ (dO h4))) h6))⟩,h5⟩ h
theorem isoF{α:Type}{q:Option α}(h:q.isSome=false):q=none:=Option.isSome_eq_false_iff.mp h |> wu
theorem Iu(hB:Bs C){x:Str}{k:AV->Prop}(h:Iv C.w.params x k)(hx:fd.scope.names.lookup x=some .globalImplicit∧(x==("__debug__":Str))=false)(g:∀ v,k v->(∀(c:Ct) H pos,iJ fd->Ev C c.d c.u H (c.F ρ) (eval (.Name x pos) (c.E fd)) v H)->G):G:=
 aN h fun q h2 h=>bN h (fun V h=>aN h fun v e h=>g _ h fun c H pos F=>GN hB (h2.trans (congrArg some e)) hx.1 F.g F.k hx.2)
  fun e h=>aN h fun q h6 h=>aN h fun v e' h=>g _ h fun c H pos F=>BN hB (h2.trans (congrArg some (isoF e))) (h6.trans (congrArg some e')) hx.1 F.g F.b F.k hx.2
theorem xr(hB:Bs C){x:Str}{k:AV->Prop}(h:Ax C.w.params fd ρ x k)(g:∀ v,k v->(∀(c:Ct) H pos,iJ fd->Ev C c.d c.u H (c.F ρ) (eval (.Name x pos) (c.E fd)) v H)->G):G:=
 bN h (fun h1 h=>aN h fun v h2 h=>g v h fun c H pos F=>Ev.l F.k (lD h1).1 h2 (lD h1).2) fun V h=>aO h fun h1 h=>Iu hB h (kd4 h1) g
theorem topG{t:Addr}{x:Str}{k:Option Value->Prop}(h:yK C.w.params t x k)(g:∀ q,gW C.w.params t->nsIn (KC C) t x=some q->k q->G):G:=aO h fun h1 h=>aN h fun q h2 h=>g q (tdE h1) h2 h
theorem r_mod{a b:AV}{x y:Int}(h1:a=.int x)(h2:b=.int y)(h3:decide (y≠0)=true):zB C H .Mod a b (.int (x.fmod y)) H:=by subst h1 h2;exact fun c=>E2.mod (of_decide_eq_true h3)
theorem r_div{a b:AV}{x y:Int}(h1:a=.int x)(h2:b=.int y)(h3:decide (y≠0)=true)(h4:Nat.blt y.natAbs.log2 9000=true):zB C H .FloorDiv a b (.int (x.fdiv y)) H:=by subst h1 h2;exact fun c=>E2.div (of_decide_eq_true h3) (PyProof.noPylong_of_log2 (Nat.le_of_ble_eq_true h4))
theorem r_add(hB:Bs C)(hN:C.n0=N0){a b:AV}{t m:Nat}{l:List Value}{ys:List AV}(h1:a=.glob (.ref t))(h2:b=.ref m)(T:jO C.w.params "list" t l)(h3:H[m]? =some (.o (.list ys)))(h4:Nat.ble N0 H.length=true)(h5:Nat.ble ((l.map bQ).length+ys.length) 900=true):
 zB C H .Add a b (.ref H.length) (H++[.o (.list (l.map bQ++ys))]):=by
 subst h1 h2
 intro c
 have:=E2.addTO (d:=c.d) (u:=c.u) (fr:=c.fr) hB T rfl (bk (η:=c.η) h3) (n0E hN h4) (sl h5)
 rwa [iK, ←ig]at this
theorem eqR{α:Type}[BEq α][LawfulBEq α]{a b:α}{p:α->Prop}(h:(a==b)=true)(x:p b):p a:=eq_of_beq h▸x
theorem Ls(hB:Bs C)(hN:C.n0=N0){op:Operator}{a b:AV}{k:AV->List HO->Prop}(h:ivBin C.w.params N0 op a b H k)(g:∀ v H',k v H'->zB C H op a b v H'->G):G:=
 bN h (fun e h=>aN h fun x h1 h=>aN h fun y h2 h=>aO h fun h3 h=>g _ _ h (eqR (p:=fun o=>zB C H o a b _ _) e (r_mod (qg h1) (qg h2) h3)))
  fun V h=>bN h (fun e h=>aN h fun x h1 h=>aN h fun y h2 h=>aO h fun h3 h=>aO h fun h4 h=>g _ _ h (eqR (p:=fun o=>zB C H o a b _ _) e (r_div (qg h1) (qg h2) h3 h4)))
  fun V h=>aO h fun e h=>aN h fun t h1 h=>aN h fun m h2 h=>zJ h fun l T h=>aN h fun ys h3 h=>aO h fun h4 h=>aO h fun h5 h=>g _ _ h (eqR (p:=fun o=>zB C H o a b _ _) e (r_add hB hN (jz h1) (iD h2) T (v8 h3) h4 h5))
theorem r_eqT{a b:AV}{x y:Int}(h1:a=.int x)(h2:b=.int y)(h3:x=y):zQ C H .Eq a b true:=by subst h1 h2;exact fun c=>E2.eqT h3
theorem r_eqF{a b:AV}{x y:Int}(h1:a=.int x)(h2:b=.int y)(h3:x≠y):zQ C H .Eq a b false:=by subst h1 h2;exact fun c=>E2.eqF h3
theorem r_eqS{a b:AV}{x y:Str}(h1:a=.str x)(h2:b=.str y):zQ C H .Eq a b (x==y):=by subst h1 h2;exact fun c=>E2.eqS
theorem r_le{a b:AV}{x y:Int}(h1:a=.int x)(h2:b=.int y)(h3:x≤y):zQ C H .LtE a b true:=by subst h1 h2;exact fun c=>E2.leT h3
theorem r_is{a b:AV}{v:Bool}(h1:b=.none)(h2:isNn a=some v):zQ C H .Is a b v:=by
 subst h1
 refine fun c=>E2.isNone ?_
 cases a with
 |glob g=>cases g<;>first|exact nS h2|exact h2
 |_=>exact h2
theorem r_inD{a b:AV}{x:Str}{m:Nat}{kvs:ao}(h1:a=.str x)(h2:b=.ref m)(h3:H[m]? =some (.o (.dict kvs))):zQ C H .In a b (kvs.lookup x).isSome:=by subst h1 h2;exact fun c=>E2.inDict (bk h3) rfl
theorem r_inU{a b:AV}{x:Str}{m:Nat}{vs:List AV}(h1:a=.str x)(h2:b=.ref m)(h3:H[m]? =some (.o (.tup vs)))(h4:rz vs=true):zQ C H .In a b (vs.any (mz x)):=by subst h1 h2;exact fun c=>E2.inTup (bk h3) rfl h4
theorem r_inL{a b:AV}{x:Str}{m:Nat}{vs:List AV}(h1:a=.str x)(h2:b=.ref m)(h3:H[m]? =some (.o (.list vs)))(h4:rz vs=true):zQ C H .In a b (vs.any (mz x)):=by subst h1 h2;exact fun c=>E2.inList (bk h3) rfl h4
theorem r_niL{a b:AV}{x:Str}{m:Nat}{vs:List AV}(h1:a=.str x)(h2:b=.ref m)(h3:H[m]? =some (.o (.list vs)))(h4:rz vs=true):zQ C H .NotIn a b (!vs.any (mz x)):=by subst h1 h2;exact fun c=>E2.HX (bk h3) rfl h4
theorem r_inT(hB:Bs C){a b:AV}{x:Str}{t:Nat}{q:Option Value}(h1:a=.str x)(h2:b=.glob (.ref t))(T:gW C.w.params t)(h3:nsIn (KC C) t x=some q):zQ C H .In a b q.isSome:=by subst h1 h2;exact fun c=>E2.inTp hB T h3 rfl
theorem r_niT(hB:Bs C){a b:AV}{x:Str}{t:Nat}{q:Option Value}(h1:a=.str x)(h2:b=.glob (.ref t))(T:gW C.w.params t)(h3:nsIn (KC C) t x=some q):zQ C H .NotIn a b (!q.isSome):=by subst h1 h2;exact fun c=>E2.notInTp hB T h3 rfl
theorem r_niS(hB:Bs C){a b:AV}{x:Str}{t:Nat}{l:List Value}(h1:a=.str x)(h2:b=.glob (.ref t))(T:jO C.w.params "tuple" t l):zQ C H .NotIn a b (!l.any (d7 x)):=by subst h1 h2;exact fun c=>E2.notInTt hB T rfl
section
variable{a b:AV}{k:Bool->Prop}
theorem cEqI_ok(h:cEqI zk a b k)(g:∀ v,k v->zQ C H .Eq a b v->G):G:=aN h fun x h1 h=>aN h fun y h2 h=>bN h (fun V h=>g _ h.2 (r_eqT (qg h1) (qg h2) h.1)) fun V h=>g _ h.2 (r_eqF (qg h1) (qg h2) h.1)
theorem cEqS_ok(h:cEqS a b k)(g:∀ v,k v->zQ C H .Eq a b v->G):G:=aN h fun x h1 h=>aN h fun y h2 h=>g _ h (r_eqS (mK h1) (mK h2))
theorem cLe_ok(h:cLe a b k)(g:∀ v,k v->zQ C H .LtE a b v->G):G:=aN h fun x h1 h=>aN h fun y h2 h=>g _ h.2 (r_le (qg h1) (qg h2) h.1)
theorem cInR_ok{x:Str}{m:Nat}(h1:a=.str x)(h2:b=.ref m)(h:cInR x m H k)(g:∀ v,k v->zQ C H .In a b v->G):G:=
 bN h (fun V h=>aN h fun kvs h3 h=>g _ h (r_inD h1 h2 (gj h3))) fun V h=>bN h (fun V h=>aN h fun vs h3 h=>aO h fun h4 h=>g _ h (r_inU h1 h2 (tupE h3) h4)) fun V h=>aN h fun vs h3 h=>aO h fun h4 h=>g _ h (r_inL h1 h2 (v8 h3) h4)
theorem cIn_ok(hB:Bs C)(h:cIn C.w.params a b H k)(g:∀ v,k v->zQ C H .In a b v->G):G:=
 aN h fun x h1 h=>bN h (fun V h=>aN h fun m h2 h=>cInR_ok (mK h1) (iD h2) h g) fun V h=>aN h fun t h2 h=>topG h fun q T h3 h=>g _ h (r_inT hB (mK h1) (jz h2) T h3)
theorem cNiT_ok(hB:Bs C){x:Str}{t:Nat}(h1:a=.str x)(h2:b=.glob (.ref t))(h:cNiT C.w.params x t k)(g:∀ v,k v->zQ C H .NotIn a b v->G):G:=
 bN h (fun h3 h=>aN h fun q h4 h=>g _ h (r_niT hB h1 h2 (tdE h3) h4)) fun V h=>zJ h fun l T h=>g _ h (r_niS hB h1 h2 T)
theorem cNi_ok(hB:Bs C)(h:cNi C.w.params a b H k)(g:∀ v,k v->zQ C H .NotIn a b v->G):G:=
 aN h fun x h1 h=>bN h (fun V h=>aN h fun m h2 h=>aN h fun vs h3 h=>aO h fun h4 h=>g _ h (r_niL (mK h1) (iD h2) (v8 h3) h4)) fun V h=>aN h fun t h2 h=>cNiT_ok hB (mK h1) (jz h2) h g
theorem uf(hB:Bs C){op:CmpOp}:v9 C.w.params zk op a b H k->(∀ v,k v->zQ C H op a b v->G)->G:=
 @CmpOp.casesOn (fun op=>v9 C.w.params zk op a b H k->(∀ v,k v->zQ C H op a b v->G)->G) op (fun h g=>bN h (fun V h=>cEqI_ok h g) fun V h=>cEqS_ok h g) (fun h V=>h.elim) (fun h V=>h.elim) (fun h g=>cLe_ok h g) (fun h V=>h.elim) (fun h V=>h.elim) (fun h g=>aO h fun h1 h=>aN h fun v h2 h=>g _ h (r_is (nnE h1) h2)) (fun h V=>h.elim) (fun h g=>cIn_ok hB h g) (fun h g=>cNi_ok hB h g)
end
theorem r_subD{a b:AV}{x:Str}{m:Nat}{kvs:ao}{v:AV}(h1:a=.ref m)(h2:b=.str x)(h3:H[m]? =some (.o (.dict kvs)))(h4:kvs.lookup x=some v):zS C H a b v:=by subst h1 h2;exact fun c V V hs=>JS.dict (bk h3) h4 hs
theorem r_subT(hB:Bs C){a b:AV}{x:Str}{t:Nat}{q:Option Value}{v:Value}(h1:a=.glob (.ref t))(h2:b=.str x)(T:gW C.w.params t)(h3:nsIn (KC C) t x=some q)(h4:q=some v):zS C H a b (bQ v):=by subst h1 h2 h4;exact fun c V V hs=>JS.tp hB T h3 hs
theorem KQ(hB:Bs C){a b:AV}{k:AV->Prop}(h:ivSub C.w.params a b H k)(g:∀ v,k v->zS C H a b v->G):G:=
 aN h fun x h1 h=>bN h (fun V h=>aN h fun m h2 h=>aN h fun kvs h3 h=>aN h fun v h4 h=>g _ h (r_subD (iD h2) (mK h1) (gj h3) h4)) fun V h=>aN h fun t h2 h=>topG h fun q T h3 h=>aN h fun v h4 h=>g _ h (r_subT hB (jz h2) (mK h1) T h3 h4)
theorem prT{c:Addr}{s:Str}(h:(wz c&&s==aP)=true):jW C c s 177:=by
 have q:=Bool.and_eq_true_iff.mp h
 rw[dO q.2]
 exact(Bool.or_eq_true_iff.mp q.1).elim (fun e=>dO e▸rZ C) (fun e=>dO e▸rW C)
theorem prM{c:Addr}{s:Str}(h:(wz c&&s==au)=true):jW C c s 185:=by
 have q:=Bool.and_eq_true_iff.mp h
 rw[dO q.2]
 exact(Bool.or_eq_true_iff.mp q.1).elim (fun e=>dO e▸su C) (fun e=>dO e▸rY C)
theorem Hz(hB:Bs C){a:AV}{m:Nat}{cc:Addr}{d:Nat}{kvs:ao}{attr:Str}{f:Addr}{v:AV}{H':List HO}(h1:a=.ref m)(h2:H[m]? =some (.o (.inst cc d)))(h3:H[d]? =some (.o (.dict kvs)))(F:jW C cc attr f)(s:zC C n H f [.ref m] [] v H')(h4:iu v=true):zA C n H a attr v H':=by
 subst h1;exact fun c lt=>AP1 hB F (bk h2) (bk h3) (s {c with u:=c.u+1} lt) h4
theorem r_cls(hB:Bs C){a:AV}{m:Nat}{cc:Addr}{d:Nat}{kvs:ao}{attr:Str}{v:Value}(h1:a=.ref m)(h2:H[m]? =some (.o (.inst cc d)))(h3:H[d]? =some (.o (.dict kvs)))(F:ClsF C cc attr v)(h4:kvs.lookup attr=none):zA C n H a attr (bQ v) H:=by
 subst h1;exact fun c lt=>AC1 hB F (bk h2) (bk h3) h4
theorem r_own(hB:Bs C){a:AV}{m:Nat}{cc:Addr}{d:Nat}{kvs:ao}{attr:Str}{v:AV}(h1:a=.ref m)(h2:H[m]? =some (.o (.inst cc d)))(h3:H[d]? =some (.o (.dict kvs)))(F:OwnF C cc attr)(h4:kvs.lookup attr=some v)(h5:iu v=true):zA C n H a attr v H:=by
 subst h1;exact fun c lt=>AO1 hB F (bk h2) (bk h3) h4 h5
theorem Lr(hB:Bs C){a:AV}{m:Nat}{cc:Addr}{d:Nat}{kvs:ao}{attr:Str}{k:AV->Prop}(h1:a=.ref m)(h2:H[m]? =some (.o (.inst cc d)))(h3:H[d]? =some (.o (.dict kvs)))(h:ivCAt C.w.params cc kvs attr k)(g:∀ v,k v->zA C n H a attr v H->G):G:=
 aO h fun h4 h=>aO h fun h5 h=>aN h fun q h6 h=>bN h
  (fun V h=>aN h fun at_ e h=>aN h fun s h8 h=>aO h fun h9 h=>aO h fun h10 h=>aO h fun h11 h=>aO h fun h12 h=>g _ h (r_cls hB h1 h2 h3 ⟨h4,h5,h6.trans (congrArg some e),h8.trans (congrArg some (wu h9)),h11,ntE h12⟩ (wu h10)))
  fun e h=>aN h fun v h8 h=>aO h fun h9 h=>g _ h (r_own hB h1 h2 h3 ⟨h4,h5,h6.trans (congrArg some (isoF e))⟩ h8 h9)
theorem IW(hB:Bs C)(R:d9 C n r){a:AV}{attr:Str}{k:AV->List HO->Prop}(h:J0 C.w.params r a attr H k)(g:∀ v H',k v H'->zA C n H a attr v H'->G):G:=
 aN h fun m h1 h=>vZ h fun cc d kvs h2 h3 h=>bN h (fun e h=>R.ca h fun v H' h s=>aO h fun h4 h=>g v H' h (Hz hB (iD h1) h2 h3 (prT e) s h4))
  fun V h=>bN h (fun e h=>R.ca h fun v H' h s=>aO h fun h4 h=>g v H' h (Hz hB (iD h1) h2 h3 (prM e) s h4)) fun V h=>Lr hB (iD h1) h2 h3 h fun v h s=>g v H h s
theorem r_md{a:AV}{m:Nat}{kvs:ao}{name nm:Str}{id:String}(h1:a=.ref m)(h2:H[m]? =some (.o (.dict kvs)))(e:(name==nm)=true)(s:Slot "dict" nm id)(t:typeOf (.builtin id)=pure (.type "method_descriptor")):zM C H a name (.builtin id):=by
 cases dO e;subst h1;exact fun c pl=>Gm.dict (bk h2) s t
theorem Ld{a:AV}{m:Nat}{kvs:ao}{name:Str}{k:Value->Prop}(h1:a=.ref m)(h2:H[m]? =some (.o (.dict kvs)))(h:ivMeD name k)(g:∀ v,k v->zM C H a name v->G):G:=
 bN h (fun e h=>g _ h (r_md h1 h2 e PySem.F.slot_dict_update PySem.F.type_dict_update)) fun V h=>bN h (fun e h=>g _ h (r_md h1 h2 e PySem.F.slot_dict_copy PySem.F.type_dict_copy)) fun V h=>aO h fun e h=>g _ h (r_md h1 h2 e PySem.F.slot_dict_pop PySem.F.type_dict_pop)
theorem r_mo(hB:Bs C){a:AV}{m:Nat}{cc:Addr}{d:Nat}{kvs:ao}{name:Str}{f:Addr}(h1:a=.ref m)(h2:H[m]? =some (.o (.inst cc d)))(h3:H[d]? =some (.o (.dict kvs)))(F:FnF C cc name f)(h4:kvs.lookup name=none):zM C H a name (.ref f):=by
 subst h1;exact fun c pl=>AF1 hB F (bk h2) (bk h3) h4
theorem Lb(hB:Bs C){a:AV}{m:Nat}{name:Str}{k:Value->Prop}(h1:a=.ref m)(h:ivMeO C.w.params H m name k)(g:∀ v,k v->zM C H a name v->G):G:=
 vZ h fun cc d kvs h2 h3 h=>aO h fun h4 h=>aO h fun h5 h=>aN h fun q h6 h=>aN h fun v e h=>aN h fun f h7 h=>aN h fun ty h8 h=>aN h fun s h9 h=>aO h fun h10 h=>
  g _ h (r_mo hB h1 h2 h3 ⟨h5,h6.trans (congrArg some (e.trans (congrArg some (vrE h7)))),h8.trans (congrArg some ((vtE h9).trans (congrArg _ (dO h10))))⟩ (wu h4))
theorem r_mt(hB:Bs C){a:AV}{t:Nat}{name:Str}(h1:a=.glob (.ref t))(h2:Bg t=true)(e:(name==s_get)=true):zM C H a name (.builtin "dict.get"):=by
 cases dO e;subst h1;exact fun c pl=>Gm.tp hB (tdE h2) PySem.F.slot_dict_get PySem.F.type_dict_get
theorem Ip(hB:Bs C){a:AV}{name:Str}{k:Value->Prop}(h:Ir C.w.params a name H k)(g:∀ v,k v->zM C H a name v->G):G:=
 bN h (fun V h=>aN h fun m h1 h=>bN h (fun h2 h=>(Option.isSome_iff_exists.mp h2).elim fun kvs h2=>Ld (iD h1) (gj h2) h g) fun V h=>Lb hB (iD h1) h g) fun V h=>aN h fun t h1 h=>aO h fun h2 h=>aO h fun h3 h=>g _ h (r_mt hB (jz h1) h2 h3)
end
section
variable{C:Cx}{N0:Nat}{zk:Int}{n:Nat}{r:Rk}{fd:FuncData}{ρ:ao}{H:List HO}{G:Prop}{k:AV->List HO->Prop}
theorem r_copy(hN:C.n0=N0){as:List AV}{v:AV}{m:Nat}{l:ao}(h0:as=[v])(h1:v=.ref m)(h2:H[m]? =some (.o (.dict l)))(h3:Nat.ble l.length 900=true)(h4:Nat.ble N0 H.length=true):
 zV C n H (.builtin "dict.copy") as [] (.ref H.length) (H++[.o (.dict l)])∧zV C n H (.type "dict") as [] (.ref H.length) (H++[.o (.dict l)]):=by
 subst h0 h1
 refine⟨fun c V=>?_,fun c V=>?_⟩<;>rw[ig, ←iK H c.η]
 · exact JV.dcopy (bk h2) (sl h3) (n0E hN h4)
 · exact JV.dictOf (bk h2) (sl h3) (n0E hN h4)
theorem xu(hN:C.n0=N0){as:List AV}(h:Ay N0 as H k)(g:∀ v H',k v H'->zV C n H (.builtin "dict.copy") as [] v H'∧zV C n H (.type "dict") as [] v H'->G):G:=
 tR h fun v h0 h=>aN h fun m h1 h=>aN h fun l h2 h=>aO h fun h3 h=>aO h fun h4 h=>g _ _ h (r_copy hN h0 (iD h1) (gj h2) h3 h4)
theorem r_pop(hN:C.n0=N0){as q:List AV}{v z w y:AV}{m:Nat}{l:ao}{x:Str}(h0:as=v::q)(h1:q=[z,w])(h2:v=.ref m)(h3:z=.str x)(h4:H[m]? =some (.o (.dict l)))(h5:l.lookup x=some y)(h6:Nat.ble N0 m=true)(h7:Nat.ble l.length 900=true):
 zV C n H (.builtin "dict.pop") as [] y (H.set m (.o (.dict (jN l x)))):=by
 subst h0 h1 h2 h3;intro c V;rw[nJ];exact JV.dpop (bk h4) (uY hN h6) (sl h7) h5
theorem r_popN{as q:List AV}{v z w:AV}{m:Nat}{l:ao}{x:Str}(h0:as=v::q)(h1:q=[z,w])(h2:v=.ref m)(h3:z=.str x)(h4:H[m]? =some (.o (.dict l)))(h5:l.lookup x=none):zV C n H (.builtin "dict.pop") as [] w H:=by
 subst h0 h1 h2 h3;intro c V;exact JV.Mr (bk h4) h5
theorem Im(hN:C.n0=N0){as q:List AV}{v z w:AV}{m:Nat}(h0:as=v::q)(h1:q=[z,w])(h2:v=.ref m)(h:Io N0 m z w H k)(g:∀ v H',k v H'->zV C n H (.builtin "dict.pop") as [] v H'->G):G:=
 aN h fun x h3 h=>aN h fun l h4 h=>bN h (fun V h=>aN h fun y h5 h=>aO h fun h6 h=>aO h fun h7 h=>g _ _ h (r_pop hN h0 h1 h2 (mK h3) (gj h4) h5 h6 h7)) fun e h=>g _ _ h (r_popN h0 h1 h2 (mK h3) (gj h4) (isoF e))
theorem KZ(hN:C.n0=N0){as:List AV}(h:ivPop N0 as H k)(g:∀ v H',k v H'->zV C n H (.builtin "dict.pop") as [] v H'->G):G:=
 oncG h fun v q h0 h=>aN h fun m h2 h=>pD h fun z w h1 h=>Im hN h0 h1 (iD h2) h g
theorem r_upd(hN:C.n0=N0){as:List AV}{v z:AV}{m o:Nat}{a b:ao}(h0:as=[v,z])(h1:v=.ref m)(h2:z=.ref o)(h3:H[m]? =some (.o (.dict a)))(h4:H[o]? =some (.o (.dict b)))(h5:Nat.ble N0 m=true)(h6:(!(m==o))=true)(h7:Nat.ble (a.length+b.length) 900=true):
 zV C n H (.builtin "dict.update") as [] .none (H.set m (.o (.dict (gY a b)))):=by
 subst h0 h1 h2;intro c V;rw[nJ];exact JV.dupdate (bk h3) (bk h4) (uY hN h5) (beq_eq_false_iff_ne.mp (ntE h6)) (sl h7) rfl
theorem KN(hN:C.n0=N0){as:List AV}(h:ivUpd N0 as H k)(g:∀ v H',k v H'->zV C n H (.builtin "dict.update") as [] v H'->G):G:=
 pD h fun v z h0 h=>aN h fun m h1 h=>aN h fun o h2 h=>aN h fun a h3 h=>aN h fun b h4 h=>aO h fun h5 h=>aO h fun h6 h=>aO h fun h7 h=>g _ _ h (r_upd hN h0 (iD h1) (iD h2) (gj h3) (gj h4) h5 h6 h7)
theorem r_get(hB:Bs C){as:List AV}{v z:AV}{t:Addr}{x:Str}{q:Option Value}(h0:as=[v,z])(h1:v=.glob (.ref t))(h2:z=.str x)(T:gW C.w.params t)(h3:nsIn (KC C) t x=some q):zV C n H (.builtin "dict.get") as [] (bQ (q.getD .none)) H:=by
 subst h0 h1 h2;exact fun c V=>JV.getTp hB T h3
theorem Lf(hB:Bs C){as:List AV}{k:AV->Prop}(h:ivGet C.w.params as k)(g:∀ v,k v->zV C n H (.builtin "dict.get") as [] v H->G):G:=
 pD h fun v z h0 h=>aN h fun t h1 h=>aN h fun x h2 h=>topG h fun q T h3 h=>g _ h (r_get hB h0 (jz h1) (mK h2) T h3)
theorem r_isI{as:List AV}{v z:AV}{f:Value}{s:String}{i:Int}(h0:as=[v,z])(h1:z=.glob f)(h2:f=.type s)(h3:v=.int i)(h4:(s=="int")=true):zV C n H (.builtin "isinstance") as [] (.bool true) H:=by
 cases dO h4;subst h0 h1 h2 h3;exact fun c V=>JV.isInt
theorem r_isS{as:List AV}{v z:AV}{f:Value}{s:String}{i:Str}(h0:as=[v,z])(h1:z=.glob f)(h2:f=.type s)(h3:v=.str i)(h4:(s=="str")=true):zV C n H (.builtin "isinstance") as [] (.bool true) H:=by
 cases dO h4;subst h0 h1 h2 h3;exact fun c V=>JV.isStr
theorem Le{as:List AV}{k:AV->Prop}(h:ivIsi as k)(g:∀ v,k v->zV C n H (.builtin "isinstance") as [] v H->G):G:=
 pD h fun v z h0 h=>aN h fun f h1 h=>aN h fun s h2 h=>bN h (fun e h=>(Option.isSome_iff_exists.mp e).elim fun i e=>aO h fun h4 h=>g _ h (r_isI h0 (ngE h1) (vtE h2) (qg e) h4)) fun V h=>aO h fun e h=>(Option.isSome_iff_exists.mp e).elim fun i e=>aO h fun h4 h=>g _ h (r_isS h0 (ngE h1) (vtE h2) (mK e) h4)
theorem r_str{as:List AV}{v:AV}{i:Int}(h0:as=[v])(h1:v=.int i)(h2:0≤i)(h3:i<1000):zV C n H (.type "str") as [] (.str (toString i)) H:=by
 subst h0 h1;exact fun c V=>JV.strInt h2 h3
theorem KY{as:List AV}{k:AV->Prop}(h:ivStr as k)(g:∀ v,k v->zV C n H (.type "str") as [] v H->G):G:=
 tR h fun v h0 h=>aN h fun i h1 h=>g _ h.2.2 (r_str h0 (qg h1) h.1 h.2.1)
theorem ivBi_ok(hB:Bs C)(hN:C.n0=N0){s:String}{as:List AV}(h:ivBi C.w.params N0 s as H k)(g:∀ v H',k v H'->zV C n H (.builtin s) as [] v H'->G):G:=
 bN h (fun e h=>KZ hN h fun v H' h s=>g v H' h (eqR (p:=fun s=>zV C n H (.builtin s) as [] v H') e s)) fun V h=>
 bN h (fun e h=>KN hN h fun v H' h s=>g v H' h (eqR (p:=fun s=>zV C n H (.builtin s) as [] v H') e s)) fun V h=>
 bN h (fun e h=>xu hN h fun v H' h s=>g v H' h (eqR (p:=fun s=>zV C n H (.builtin s) as [] v H') e s.1)) fun V h=>
 bN h (fun e h=>Lf hB h fun v h s=>g v H h (eqR (p:=fun s=>zV C n H (.builtin s) as [] v H) e s)) fun V h=>
 aO h fun e h=>Le h fun v h s=>g v H h (eqR (p:=fun s=>zV C n H (.builtin s) as [] v H) e s)
theorem ivTy_ok(hN:C.n0=N0){s:String}{as:List AV}(h:ivTy N0 s as H k)(g:∀ v H',k v H'->zV C n H (.type s) as [] v H'->G):G:=
 bN h (fun e h=>xu hN h fun v H' h s=>g v H' h (eqR (p:=fun s=>zV C n H (.type s) as [] v H') e s.2)) fun V h=>aO h fun e h=>KY h fun v h s=>g v H h (eqR (p:=fun s=>zV C n H (.type s) as [] v H) e s)
theorem ug(hB:Bs C)(hN:C.n0=N0)(R:d9 C n r){f:Value}{as:List AV}{kw:ao}:vd C.w.params N0 r f as kw H k->(∀ v H',k v H'->zV C n H f as kw v H'->G)->G:=
 @Value.casesOn (fun f=>vd C.w.params N0 r f as kw H k->(∀ v H',k v H'->zV C n H f as kw v H'->G)->G) f (fun h V=>h.elim) (fun h V=>h.elim) (fun h V=>h.elim) (fun V h V=>h.elim) (fun V V h V=>h.elim) (fun V V h V=>h.elim) (fun V V h V=>h.elim) (fun V V h V=>h.elim)
  (fun s h g=>aO h fun e h=>ivTy_ok hN h fun v H' h s=>g v H' h (jj e▸s)) (fun s h g=>aO h fun e h=>ivBi_ok hB hN h fun v H' h s=>g v H' h (jj e▸s)) fun a h g=>R.ca h fun v H' h s=>g v H' h fun c lt=>(s c lt).v
theorem Fy{e:Expr}{es:List Expr}{env:Env}:(!(e.ctorIdx==22))=true->starEach (e::es) env=(false,eval e env)::starEach es env:=@Expr.casesOn (fun e=>(!(e.ctorIdx==22))=true->starEach (e::es) env=(false,eval e env)::starEach es env) e (fun V V V V=>rfl) (fun V V V V=>rfl) (fun V V V V V=>rfl) (fun V V V V=>rfl) (fun V V V V V=>rfl) (fun V V V V V=>rfl) (fun V V V V=>rfl) (fun V V V V=>rfl) (fun V V V V V=>rfl) (fun V V V V V=>rfl) (fun V V V V V V=>rfl) (fun V V V V V=>rfl) (fun V V V=>rfl) (fun V V V=>rfl) (fun V V V=>rfl) (fun V V V V V=>rfl) (fun V V V V V=>rfl) (fun V V V V V=>rfl) (fun V V V=>rfl) (fun V V V V=>rfl) (fun V V V V=>rfl) (fun V V V V=>rfl) (fun V V h=>(Bool.false_ne_true h).elim) (fun V V V=>rfl) (fun V V V=>rfl) (fun V V V V=>rfl) (fun V V V V V=>rfl)
noncomputable def zL(C:Cx)(n:Nat)(fd:FuncData)(ρ:ao)(H:List HO)(es:List Expr)(as:List AV)(H':List HO):Prop:=∀(c:Ct) (pos:Pos),iJ fd->c.d+n<recursionLimit->El C c.d c.u (sub c.η H) (c.F ρ) (spliced (backTo pos (starEach es (c.E fd)))) as (sub c.η H')∧(backTo pos (starEach es (c.E fd))).any (·.1)=false
noncomputable def zK(C:Cx)(n:Nat)(fd:FuncData)(ρ:ao)(H:List HO)(es:List Keyword)(as:List AV)(H':List HO):Prop:=∀(c:Ct) (pos:Pos),iJ fd->c.d+n<recursionLimit->El C c.d c.u (sub c.η H) (c.F ρ) (evalAll ((backToKw pos (keywordEach es (c.E fd))).map (·.2))) as (sub c.η H')
theorem zL_cons{e:Expr}{es:List Expr}{a:AV}{as:List AV}{H1 H2:List HO}(h0:(!(e.ctorIdx==22))=true)(s:zE C n fd ρ H e a H1)(t:zL C n fd ρ H1 es as H2):zL C n fd ρ H (e::es) (a::as) H2:=
 fun c pos F lt=>⟨Sp.back (s c F lt) (t c pos F lt).1 (Fy h0),by rw[Fy h0];exact(t c pos F lt).2⟩
theorem pO(R:d9 C n r)(es:List Expr):∀{H:List HO} {k:List AV->List HO->Prop} {G:Prop},yM r fd ρ es H k->(∀ as H',k as H'->zL C n fd ρ H es as H'->G)->G:=by
 induction es with
 |nil=>exact fun h g=>g _ _ h fun c pos V V=>⟨Sp.q7,rfl⟩
 |cons e es ih=>exact fun h g=>aO h fun h0 h=>R.ev h fun a H1 h s=>ih h fun as H2 h t=>g _ _ h (zL_cons h0 s t)
theorem Li(R:d9 C n r)(es:List Keyword):∀{H:List HO} {k:List AV->List HO->Prop} {G:Prop},ivEks r fd ρ es H k->(∀ as H',k as H'->zK C n fd ρ H es as H'->G)->G:=by
 induction es with
 |nil=>exact fun h g=>g _ _ h fun c pos V V=>Ek.q7
 |cons e es ih=>
  cases e
  exact fun h g=>R.ev h fun a H1 h s=>ih h fun as H2 h t=>g _ _ h fun c pos F lt=>Ek.back (s c F lt) (t c pos F lt)
theorem pK(es:List Keyword){pos:Pos}{env:Env}(h:es.all (·.arg.isSome)=true):(backToKw pos (keywordEach es env)).filterMap (·.1)=es.filterMap (·.arg)∧(backToKw pos (keywordEach es env)).all (·.1.isSome)=true∧(backToKw pos (keywordEach es env)).any (·.1.isNone)=false:=by
 induction es with
 |nil=>exact⟨rfl,rfl,rfl⟩
 |cons e es ih=>
  obtain⟨a,v,p⟩:=e
  have q:=Bool.and_eq_true_iff.mp (List.all_cons.symm.trans h)
  have i:=ih q.2
  cases a with
  |none=>exact nomatch q.1
  |some a=>exact⟨congrArg (a::·) i.1,i.2.1,i.2.2⟩
noncomputable def zW(C:Cx)(n:Nat)(fd:FuncData)(ρ:ao)(H:List HO)(f:Value)(first:List AV)(args:List Expr)(kws:List Keyword)(v:AV)(H':List HO):Prop:=∀(c:Ct) (pos:Pos),iJ fd->c.d+n<recursionLimit->JF C c.d c.u (sub c.η H) (c.F ρ) (Fs (.glob f) first) (fun p=>callWith pos p.1 p.2 (backTo pos (starEach args (c.E fd))) (backToKw pos (keywordEach kws (c.E fd)))) (Vr v) (sub c.η H')
noncomputable abbrev Ct.Wf(c:Ct)(ρ:ao):Ct:={c with fr:=c.F ρ}
theorem r_cw(hB:Bs C){f:Value}{first as ks:List AV}{args:List Expr}{kws:List Keyword}{H1 H2 H3:List HO}{v:AV}(h0:cu (KC C) f=true)(h1:kws.all (·.arg.isSome)=true)(s:zL C n fd ρ H args as H1)(t:zK C n fd ρ H1 kws ks H2)(w:zV C n H2 f (first++as) ((kws.filterMap (·.arg)).zip ks) v H3):zW C n fd ρ H f first args kws v H3:=
 fun c pos F lt=>CF hB rfl h0 (s c pos F lt).1 (t c pos F lt) (pK kws h1).1 (w (c.Wf ρ) lt) (s c pos F lt).2 (pK kws h1).2.1 (pK kws h1).2.2
theorem kwEta{w:Keyword}{x:Str×Pos}(h1:w.arg=none)(h2:w.value=.Name x.1 x.2):w=⟨none,.Name x.1 x.2,w.pos⟩:=by cases w;cases h1;cases h2;rfl
theorem kwEtaS{w:Keyword}{y:Str}{x:Str×Pos}(h1:w.arg=some y)(h2:w.value=.Name x.1 x.2):w=⟨some y,.Name x.1 x.2,w.pos⟩:=by cases w;cases h1;cases h2;rfl
theorem r_s1(hB:Bs C){f:Value}{first:List AV}{args:List Expr}{kws:List Keyword}{w:Keyword}{x:Str×Pos}{a v:AV}{m:Nat}{l:ao}{H':List HO}(h0:cu (KC C) f=true)(h1:first.isEmpty=true)(h2:args.isEmpty=true)(h3:kws=[w])(h4:w.arg=none)(h5:w.value=.Name x.1 x.2)(h6:dZ fd x.1 0=true)(h7:ρ.lookup x.1=some a)(h8:a=.ref m)(h9:H[m]? =some (.o (.dict l)))(h10:Nat.ble l.length 900=true)(s:zV C n H f [] l v H'):zW C n fd ρ H f first args kws v H':=by
 rw[h3,kwEta h4 h5,jj h1,jj h2]
 subst h8
 exact fun c pos F lt=>CS1 hB rfl h0 F.k (lD h6).1 h7 (lD h6).2 (bk h9) (sl h10) (s (c.Wf ρ) lt)
theorem sl'{x:Nat}(h:Nat.ble x 900=true):x<sizeLine:=Nat.lt_of_le_of_lt (Nat.le_of_ble_eq_true h) (by rw[sizeLine_eq];decide)
theorem r_s2(hB:Bs C){f:Value}{first:List AV}{args:List Expr}{kws:List Keyword}{w w':Keyword}{nm:Str}{x y:Str×Pos}{a b v:AV}{m:Nat}{l:ao}{H':List HO}(h0:cu (KC C) f=true)(h1:first.isEmpty=true)(h2:args.isEmpty=true)(h3:kws=[w',w])(e1:w'.arg=some nm)(h4:w.arg=none)(e2:w'.value=.Name y.1 y.2)(h5:w.value=.Name x.1 x.2)(e3:dZ fd y.1 0=true)(e4:ρ.lookup y.1=some b)(h6:dZ fd x.1 0=true)(h7:ρ.lookup x.1=some a)(h8:a=.ref m)(h9:H[m]? =some (.o (.dict l)))(h10:Nat.ble l.length 900=true)(h11:l.all (fun p=> !(p.1==nm))=true)(s:zV C n H f [] ((nm,b)::l) v H'):zW C n fd ρ H f first args kws v H':=by
 rw[h3,kwEta h4 h5,kwEtaS e1 e2,jj h1,jj h2]
 subst h8
 exact fun c pos F lt=>CS2 hB rfl h0 F.k (lD e3).1 e4 (lD e3).2 (lD h6).1 h7 (lD h6).2 (bk h9) (sl' h10) h11 (s (c.Wf ρ) lt)
theorem En(hB:Bs C)(hN:C.n0=N0)(R:d9 C n r){f:Value}{first:List AV}{args:List Expr}{kws:List Keyword}(h:ivCw C.w.params N0 r fd ρ H f first args kws k)(g:∀ v H',k v H'->zW C n fd ρ H f first args kws v H'->G):G:=
 aO h fun h0 h=>bN h (fun h1 h=>pO R args h fun as H1 h s=>Li R kws h fun ks H2 h t=>ug hB hN R h fun v H3 h w=>g v H3 h (r_cw hB h0 h1 s t w))
  fun V h=>aO h fun h1 h=>aO h fun h2 h=>bN h
   (fun V h=>tR h fun w h3 h=>aO h fun h4 h=>aN h fun x h5 h=>aO h fun h6 h=>aN h fun a h7 h=>aN h fun m h8 h=>aN h fun l h9 h=>aO h fun h10 h=>ug hB hN R h fun v H' h s=>g v H' h (r_s1 hB h0 h1 h2 h3 (wu h4) (nmE h5) h6 h7 (iD h8) (gj h9) h10 s))
   fun V h=>pD h fun w' w h3 h=>aN h fun nm e1 h=>aO h fun h4 h=>aN h fun y e2 h=>aN h fun x h5 h=>aO h fun e3 h=>aN h fun b e4 h=>aO h fun h6 h=>aN h fun a h7 h=>aN h fun m h8 h=>aN h fun l h9 h=>aO h fun h10 h=>aO h fun h11 h=>ug hB hN R h fun v H' h s=>g v H' h (r_s2 hB h0 h1 h2 h3 e1 (wu h4) (nmE e2) (nmE h5) e3 e4 h6 h7 (iD h8) (gj h9) h10 h11 s)
end
section
variable{C:Cx}{N0:Nat}{zk:Int}{n:Nat}{r:Rk}{fd:FuncData}{ρ:ao}{H H1 H2 H3:List HO}{G:Prop}{p:Pos}
theorem bF{p:Prop}(h:false=true):p:=(Bool.false_ne_true h).elim
theorem isNm{o:Expr}:(o.ctorIdx==23)=true->∃ x p,o=.Name x p:=@Expr.casesOn (fun o=>(o.ctorIdx==23)=true->∃ x p,o=.Name x p) o (fun V V V=>bF) (fun V V V=>bF) (fun V V V V=>bF) (fun V V V=>bF) (fun V V V V=>bF) (fun V V V V=>bF) (fun V V V=>bF) (fun V V V=>bF) (fun V V V V=>bF) (fun V V V V=>bF) (fun V V V V V=>bF) (fun V V V V=>bF) (fun V V=>bF) (fun V V=>bF) (fun V V=>bF) (fun V V V V=>bF) (fun V V V V=>bF) (fun V V V V=>bF) (fun V V=>bF) (fun V V V=>bF) (fun V V V=>bF) (fun V V V=>bF) (fun V V=>bF) (fun x p V=>⟨x,p,rfl⟩) (fun V V=>bF) (fun V V V=>bF) (fun V V V V=>bF)
theorem noSl{i:Expr}(o x:Value):(i.ctorIdx==23||i.ctorIdx==19)=true->subscripted i false o x=operate [o,x] (getItem o x):=@Expr.casesOn (fun i=>(i.ctorIdx==23||i.ctorIdx==19)=true->subscripted i false o x=operate [o,x] (getItem o x)) i (fun V V V V=>rfl) (fun V V V V=>rfl) (fun V V V V V=>rfl) (fun V V V V=>rfl) (fun V V V V V=>rfl) (fun V V V V V=>rfl) (fun V V V V=>rfl) (fun V V V V=>rfl) (fun V V V V V=>rfl) (fun V V V V V=>rfl) (fun V V V V V V=>rfl) (fun V V V V V=>rfl) (fun V V V=>rfl) (fun V V V=>rfl) (fun V V V=>rfl) (fun V V V V V=>rfl) (fun V V V V V=>rfl) (fun V V V V V=>rfl) (fun V V V=>rfl) (fun V V V V=>rfl) (fun V V V V=>rfl) (fun V V V V=>rfl) (fun V V V=>rfl) (fun V V V=>rfl) (fun V V V=>rfl) (fun V V V V=>rfl) (fun V V V V=>bF)
theorem atBase{o:Expr}{name:Str}{env:Env}:(o.ctorIdx==23||o.ctorIdx==20)=true->attributeBase o name env (eval o env)=eval o env:=@Expr.casesOn (fun o=>(o.ctorIdx==23||o.ctorIdx==20)=true->attributeBase o name env (eval o env)=eval o env) o (fun V V V V=>rfl) (fun V V V V=>rfl) (fun V V V V V=>rfl) (fun V V V V=>rfl) (fun V V V V V=>rfl) (fun V V V V V=>rfl) (fun V V V V=>rfl) (fun V V V V=>rfl) (fun V V V V V=>rfl) (fun V V V V V=>rfl) (fun V V V V V V=>rfl) (fun V V V V V=>rfl) (fun V V V=>rfl) (fun V V V=>rfl) (fun V V V=>rfl) (fun V V V V V=>rfl) (fun V V V V=>bF) (fun V V V V V=>rfl) (fun V V V=>rfl) (fun V V V V=>rfl) (fun V V V V=>rfl) (fun V V V V=>rfl) (fun V V V=>rfl) (fun V V V=>rfl) (fun V V V=>rfl) (fun V V V V=>rfl) (fun V V V V V=>rfl)
theorem r_cst{c:Const}{m:Nat}{v:AV}(h:ivCst c=some v):zE C n fd ρ H (.Constant c m p) v H:=by
 cases c with
 |none=>cases h;exact fun c V V=>Ev.none
 |int i=>cases h;exact fun c V V=>Ev.int
 |str i=>cases h;exact fun c V V=>Ev.str
 |_=>exact nS h
theorem r_bin{l q:Expr}{op:Operator}{a b v:AV}(s:zE C n fd ρ H l a H1)(t:zE C n fd ρ H1 q b H2)(w:zB C H2 op a b v H3):zE C (n+1) fd ρ H (.BinOp l op q p) v H3:=
 fun c F lt=>Ev.b (s c F (bZ lt)) (t c F (bZ lt)) (w (c.Wf ρ))
theorem r_att{o:Expr}{attr:Str}{a v:AV}(h0:(o.ctorIdx==23)=true)(s:zE C n fd ρ H o a H1)(w:zA C n H1 a attr v H2):zE C (n+1) fd ρ H (.Attribute o attr p) v H2:=by
 obtain⟨x,q,rfl⟩:=isNm h0
 exact fun c F lt=>AT (s c F (bZ lt)) (w (c.Wf ρ) (bZ lt)) rfl
theorem r_sub{e i:Expr}{a b v:AV}(h0:(i.ctorIdx==23||i.ctorIdx==19)=true)(s:zE C n fd ρ H e a H1)(t:zE C n fd ρ H1 i b H2)(w:zS C H2 a b v):zE C (n+1) fd ρ H (.Subscript e i p) v H2:=
 fun c F lt=>Ev.sub (s c F (bZ lt)) (t c F (bZ lt)) (w (c.Wf ρ) e i fun o x=>noSl o x h0)
theorem r_seq(hN:C.n0=N0){es:List Expr}{vs:List AV}(s:zL C n fd ρ H es vs H1)(h1:Nat.ble N0 H1.length=true)(h2:Nat.ble vs.length 900=true){m:Nat}:zE C (n+1) fd ρ H (.Tuple es m p) (.ref H1.length) (H1++[.o (.tup vs)])∧zE C (n+1) fd ρ H (.List es p) (.ref H1.length) (H1++[.o (.list vs)]):=by
 refine⟨fun c F lt=>?_,fun c F lt=>?_⟩<;>rw[ig, ←iK H1 c.η]
 · exact Ev.tuple (s c p F (bZ lt)).1 (n0E hN h1) (sl h2)
 · exact Ev.list (s c p F (bZ lt)).1 (n0E hN h1) (sl h2)
theorem r_call{id:Str}{q:Pos}{args:List Expr}{kws:List Keyword}{f v:AV}{g:Value}(h0:f=.glob g)(s:zE C n fd ρ H (.Name id q) f H1)(w:zW C n fd ρ H1 g [] args kws v H2):zE C (n+1) fd ρ H (.Call (.Name id q) args kws p) v H2:=by
 subst h0;exact fun c F lt=>Ev.callName (s c F (bZ lt)) (w c p F (bZ lt))
theorem noStars{env:Env}(es:List Expr)(h:es.all (fun e=> !(e.ctorIdx==22))=true):(backTo p (starEach es env)).any (·.1)=false:=by
 induction es with
 |nil=>rfl
 |cons e es ih=>
  have q:=Bool.and_eq_true_iff.mp (List.all_cons.symm.trans h)
  rw[Fy q.1]
  exact ih q.2
theorem few{a:List (Bool×Sem Value)}{k:List (Option Str×Sem Value)}{m:Nat}(h1:a.any (·.1)=false)(h2:k.all (·.1.isSome)=true)(h3:Nat.blt (m+1) 30=true):methodCallForm m a k=true:=by
 have e:a.all (fun x=> !x.1)=true:=by
  rw[List.all_eq_true]
  intro x hx
  have:=List.any_eq_false.mp h1 x hx
  simpa using this
 have h3:=Nat.le_of_ble_eq_true h3
 unfold methodCallForm
 rw[e,h2]
 refine decide_eq_true (Nat.lt_of_le_of_lt (Nat.add_le_add_left ?_ m) (Nat.lt_of_succ_le h3))
 split<;>decide
theorem he_of{o:Expr}{name:Str}{ap:Pos}{args:List Expr}{kws:List Keyword}{env:Env}(h0:qN o ap p=true)(h1:Gj args kws=true):∃ pl,eval (.Call (.Attribute o name ap) args kws p) env=(do
 let ov←eval o env
 standAt ap.atName
 let(f,first)←holding [ov] (getMethod ov name pl)
 callWith p f first (backTo p (starEach args env)) (backToKw p (keywordEach kws env))):=by
 have q:=Bool.and_eq_true_iff.mp h0
 have q1:=Bool.and_eq_true_iff.mp h1
 have q2:=Bool.and_eq_true_iff.mp q1.2
 have hm:=few (noStars (p:=p) (env:=env) args q1.1) (pK (pos:=p) (env:=env) kws q2.1).2.1 q2.2
 have hp:methodCallPos true o env ap p=pure p:=if_pos q.2
 refine⟨(do return(←importBound o env).getD true),?_⟩
 show(attributeBase o name env (eval o env)>>= fun ov=>standAt ap.atName>>= fun V=>methodCall o name ap p env ov (args.length+kws.length) (backTo p (starEach args env)) (backToKw p (keywordEach kws env)))=_
 unfold methodCall
 rw[atBase q.1,hm,hp]
 rfl
theorem r_meth{o:Expr}{name:Str}{ap:Pos}{args:List Expr}{kws:List Keyword}{a v:AV}{g:Value}(h0:qN o ap p=true)(h1:Gj args kws=true)(s:zE C n fd ρ H o a H1)(t:zM C H1 a name g)(w:zW C n fd ρ H1 g [a] args kws v H2):zE C (n+1) fd ρ H (.Call (.Attribute o name ap) args kws p) v H2:=
 fun c F lt=>(he_of h0 h1).elim fun pl he=>Ev.Ck (s c F (bZ lt)) (t (c.Wf ρ) pl) (w c p F (bZ lt)) he
theorem Lq(hB:Bs C)(hN:C.n0=N0)(R:d9 C n r){f:Expr}{as:List Expr}{ks:List Keyword}{k:AV->List HO->Prop}(h:ivCal C.w.params N0 r fd ρ H f as ks p k):(∀ v H',k v H'->zE C (n+1) fd ρ H (.Call f as ks p) v H'->G)->G:=
 oR (M:=fun f=>(∀ v H',k v H'->zE C (n+1) fd ρ H (.Call f as ks p) v H'->G)->G) h (fun id q h g=>R.ev h fun v H1 h s=>aN h fun f h1 h=>En hB hN R h fun v H2 h w=>g v H2 h (r_call (ngE h1) s w)) (fun V V V h=>h.elim) (fun V V V V h=>h.elim)
  (fun o name ap h g=>aO h fun h0 h=>aO h fun h1 h=>R.ev h fun a H1 h s=>Ip hB h fun f h t=>En hB hN R h fun v H2 h w=>g v H2 h (r_meth h0 h1 s t w)) (fun V V V h=>h.elim) (fun V V V h=>h.elim) (fun V V V h=>h.elim) (fun V V h=>h.elim) (fun V V V V h=>h.elim) (fun V V V h=>h.elim) (fun V V V h=>h.elim) (fun V V V V h=>h.elim)
noncomputable def zP(C:Cx)(n:Nat)(fd:FuncData)(ρ:ao)(H:List HO)(ks:List (Option Expr))(vs:List Expr)(l:ao)(H':List HO):Prop:=∀(c:Ct) (pos:Pos),iJ fd->c.d+n<recursionLimit->JF C c.d c.u (sub c.η H) (c.F ρ) Ur (fun V=>evalPairs (pairTrees ks vs (c.E fd) pos)) (Pp l) (sub c.η H')
theorem r_pair{e:Option Expr}{d v:Expr}{ks:List (Option Expr)}{vs:List Expr}{x:Str}{a b:AV}{l:ao}(h0:e=some d)(h1:a=.str x)(s:zE C n fd ρ H d a H1)(t:zE C n fd ρ H1 v b H2)(w:zP C n fd ρ H2 ks vs l H3):zP C n fd ρ H (e::ks) (v::vs) ((x,b)::l) H3:=by
 subst h0 h1;exact fun c pos F lt=>Ep.cons (s c F lt) (t c F lt) (w c pos F lt)
theorem Gh(R:d9 C n r)(ks:List (Option Expr)):∀{vs:List Expr} {H:List HO} {k:ao->List HO->Prop} {G:Prop},ks.length=vs.length->Ej r fd ρ (ks.zip vs) H k->(∀ l H',k l H'->zP C n fd ρ H ks vs l H'->G)->G:=by
 induction ks with
 |nil=>
  intro vs H k G e h g
  cases vs with
  |nil=>exact g _ _ h fun c pos F lt=>Ep.nil
  |cons v vs=>exact nomatch e
 |cons e ks ih=>
  intro vs H k G e h g
  cases vs with
  |nil=>exact nomatch e
  |cons v vs=>exact aN h fun d h0 h=>R.ev h fun a H1 h s=>aN h fun x h1 h=>R.ev h fun b H2 h t=>ih (Nat.succ.inj e) h fun l H3 h w=>g _ _ h (r_pair h0 (mK h1) s t w)
theorem r_dct0(hN:C.n0=N0){ks:List (Option Expr)}{vs:List Expr}(h0:Nat.ble N0 H.length=true)(h1:ks.isEmpty=true)(h2:vs.isEmpty=true):zE C (n+1) fd ρ H (.Dict ks vs p) (.ref H.length) (H++[.o (.dict [])]):=by
 cases jj h1;cases jj h2
 intro c F lt
 rw[ig, ←iK H c.η]
 exact Ev.dict0 (n0E hN h0)
theorem r_dct(hN:C.n0=N0){ks:List (Option Expr)}{vs:List Expr}{l m:ao}(h0:Nat.ble N0 H.length=true)(h1:ks.isEmpty=false)(h2:ks.all (·.isSome)=true)(h3:ks.length=vs.length)(h4:Nat.ble ks.length 15=true)(s:zP C n fd ρ (H++[.o (.dict [])]) ks vs l H1)(h5:H1[H.length]? =some (.o (.dict m)))(h6:m.isEmpty=true):
 zE C (n+1) fd ρ H (.Dict ks vs p) (.ref H.length) (H1.set H.length (.o (.dict (gY [] l)))):=by
 cases jj h6
 intro c F lt
 have q:=s c p F (bZ lt)
 have q2:=bk (η:=c.η) h5
 rw[ig]at q
 rw[nJ]
 rw[←iK H c.η]at q2⊢
 exact Ev.dictN (n0E hN h0) q rfl q2 h2 h3 (fun e=>by subst e;cases h1) (Nat.le_of_ble_eq_true h4)
theorem Lj(hN:C.n0=N0)(R:d9 C n r){ks:List (Option Expr)}{vs:List Expr}{k:AV->List HO->Prop}(h:ivDct N0 r fd ρ H ks vs k)(g:∀ v H',k v H'->zE C (n+1) fd ρ H (.Dict ks vs p) v H'->G):G:=
 aO h fun h0 h=>bN h (fun h1 h=>aO h fun h2 h=>g _ _ h (r_dct0 hN h0 h1 h2)) fun h1 h=>aO h fun h2 h=>aO h fun h3 h=>aO h fun h4 h=>Gh R ks (dO h3) h fun l H1 h s=>aN h fun m h5 h=>aO h fun h6 h=>g _ _ h (r_dct hN h0 h1 h2 (dO h3) h4 s (gj h5) h6)
theorem ivEv_ok(hB:Bs C)(hN:C.n0=N0)(R:d9 C n r){e:Expr}{k:AV->List HO->Prop}(h:ivEv C.w.params N0 r fd ρ H e k):(∀ v H',k v H'->zE C (n+1) fd ρ H e v H'->G)->G:=
 oR (M:=fun e=>(∀ v H',k v H'->zE C (n+1) fd ρ H e v H'->G)->G) h (fun x p h g=>xr hB h fun v h s=>g v H h fun c F V=>s c _ p F) (fun V V V h g=>aN h fun v e h=>g v H h (r_cst e))
  (fun V V V V h g=>R.ev h fun a H1 h s=>R.ev h fun b H2 h t=>Ls hB hN h fun v H3 h w=>g v H3 h (r_bin s t w)) (fun V V V h g=>aO h fun h0 h=>R.ev h fun a H1 h s=>IW hB R h fun v H2 h w=>g v H2 h (r_att h0 s w))
  (fun V V V h g=>aO h fun h0 h=>R.ev h fun a H1 h s=>R.ev h fun b H2 h t=>KQ hB h fun v h w=>g v H2 h (r_sub h0 s t w)) (fun V V V h g=>Lj hN R h g)
  (fun es V V h g=>pO R es h fun vs H1 h s=>aO h fun h1 h=>aO h fun h2 h=>g _ _ h (r_seq hN s h1 h2).1) (fun es V h g=>pO R es h fun vs H1 h s=>aO h fun h1 h=>aO h fun h2 h=>g _ _ h (r_seq hN s h1 h2 (m:=0)).2) (fun V V V V h g=>Lq hB hN R h g) (fun V V V h=>h.elim) (fun V V V h=>h.elim) (fun V V V V h=>h.elim)
end
section
variable{C:Cx}{N0:Nat}{zk:Int}{n:Nat}{r:Rk}{fd:FuncData}{ρ ρ1 ρ2:ao}{H H1 H2 H3 H4:List HO}{G:Prop}{p:Pos}
noncomputable def zU(C:Cx)(H:List HO)(v:AV)(b:Bool):Prop:=∀ c:Ct,Et1 C c.d c.u (sub c.η H) c.fr truthy v b (sub c.η H)
theorem r_tb{v:AV}{b:Bool}(h:v=.bool b):zU C H v b:=by subst h;exact fun c=>T1.bool
theorem r_td{v:AV}{m:Nat}{l:ao}(h:v=.ref m)(h1:H[m]? =some (.o (.dict l)))(h2:Nat.ble l.length 900=true):zU C H v (!l.isEmpty):=by subst h;exact fun c=>T1.dict (bk h1) (sl h2) rfl
theorem Gg{v:AV}{k:Bool->Prop}(h:Eh v H k)(g:∀ b,k b->zU C H v b->G):G:=
 bN h (fun V h=>aN h fun b h1 h=>g b h (r_tb (nbE h1))) fun V h=>aN h fun m h1 h=>aN h fun l h2 h=>aO h fun h3 h=>g _ h (r_td (iD h1) (gj h2) h3)
theorem Ei(R:d9 C n r){e:Expr}{k:Bool->List HO->Prop}(he:∀ env,isTrue e env (eval e env)=(do let v←eval e env;standAt e.pos;holding [v] (truthy v)))(h:ivPl r fd ρ H e k)(g:∀ b H',k b H'->zT C (n+1) fd ρ H e b H'->G):G:=
 R.ev h fun v H1 h s=>Gg h fun b h t=>g b H1 h fun c F lt=>Et.plain (s c F (bZ lt)) (t (c.Wf ρ)) (he _)
theorem ivC1_ok(hB:Bs C)(R:d9 C n r){l q:Expr}{op:CmpOp}{k:Bool->List HO->Prop}(h:ivC1 C.w.params zk r fd ρ H l op q k)(g:∀ b H',k b H'->zT C (n+1) fd ρ H (.Compare l [op] [q] p) b H'->G):G:=
 aO h fun h0 h=>R.ev h fun a H1 h s=>R.ev h fun b H2 h t=>uf hB h fun v h w=>g v H2 h fun c F lt=>Et.compare (s c F (bZ lt)) (t c F (bZ lt)) (w (c.Wf ρ)) (ntE h0)
theorem r_c2{l qC qD:Expr}{oA oE:CmpOp}{a b d:AV}{t v:Bool}(h0:(!lastMarks [oA,oE] [qC,qD])=true)(s1:zE C n fd ρ H l a H1)(s2:zE C n fd ρ H1 qC b H2)(w1:zQ C H2 oA a b t)(ht:t=true)(s3:zE C n fd ρ H2 qD d H3)(w2:zQ C H3 oE b d v):zT C (n+1) fd ρ H (.Compare l [oA,oE] [qC,qD] p) v H3:=by
 subst ht;exact fun c F lt=>Et.chain2 (s1 c F (bZ lt)) (s2 c F (bZ lt)) (w1 (c.Wf ρ)) (s3 c F (bZ lt)) (w2 (c.Wf ρ)) (ntE h0)
theorem ivC2_ok(hB:Bs C)(R:d9 C n r){l qC qD:Expr}{oA oE:CmpOp}{k:Bool->List HO->Prop}(h:ivC2 C.w.params zk r fd ρ H l oA oE qC qD k)(g:∀ b H',k b H'->zT C (n+1) fd ρ H (.Compare l [oA,oE] [qC,qD] p) b H'->G):G:=
 aO h fun h0 h=>R.ev h fun a H1 h s1=>R.ev h fun b H2 h s2=>uf hB h fun t h w1=>aO h fun ht h=>R.ev h fun d H3 h s3=>uf hB h fun v h w2=>g v H3 h (r_c2 h0 s1 s2 w1 ht s3 w2)
theorem r_not{op:UnaryOp}{x:Expr}{b:Bool}(h0:(op== .Not)=true)(s:zT C n fd ρ H x b H1):zT C (n+1) fd ρ H (.UnaryOp op x p) (!b) H1:=by
 cases dO h0;exact fun c F lt=>Et.not (s c F (bZ lt))
theorem r_and{op:BoolOp}{vs q:List Expr}{x:Expr}{b:Bool}(h0:(op== .And)=true)(h1:vs=x::q)(h2:(!b)=true)(s:zT C n fd ρ H x b H1):zT C (n+1) fd ρ H (.BoolOp op vs p) false H1:=by
 cases dO h0;subst h1;cases ntE h2;exact fun c F lt=>Et.andF (s c F (bZ lt))
theorem r_c1{l q:Expr}{op:CmpOp}{ops:List CmpOp}{cs:List Expr}{b:Bool}(h0:ops=[op])(h1:cs=[q])(s:zT C n fd ρ H (.Compare l [op] [q] p) b H1):zT C n fd ρ H (.Compare l ops cs p) b H1:=by subst h0 h1;exact s
theorem r_c2'{l q q':Expr}{op op':CmpOp}{ops:List CmpOp}{cs:List Expr}{b:Bool}(h0:ops=[op,op'])(h1:cs=[q,q'])(s:zT C n fd ρ H (.Compare l [op,op'] [q,q'] p) b H1):zT C n fd ρ H (.Compare l ops cs p) b H1:=by subst h0 h1;exact s
theorem ivTt_ok(hB:Bs C)(R:d9 C n r){e:Expr}{k:Bool->List HO->Prop}(h:ivTt C.w.params zk r fd ρ H e k):(∀ b H',k b H'->zT C (n+1) fd ρ H e b H'->G)->G:=
 oR (M:=fun e=>(∀ b H',k b H'->zT C (n+1) fd ρ H e b H'->G)->G) h (fun V V h g=>Ei R (fun V=>rfl) h g) (fun V V V h=>h.elim) (fun V V V V h=>h.elim) (fun V V V h=>h.elim) (fun V V V h=>h.elim) (fun V V V h=>h.elim) (fun V V V h=>h.elim) (fun V V h=>h.elim) (fun V V V V h g=>Ei R (fun V=>rfl) h g)
  (fun V V V h g=>aO h fun h0 h=>R.tt h fun b H1 h s=>g _ _ h (r_not h0 s)) (fun V V V h g=>aO h fun h0 h=>oncG h fun x q h1 h=>R.tt h fun b H1 h s=>aO h fun h2 h=>g _ _ h (r_and h0 h1 h2 s))
  (fun V V V V h g=>bN h (fun V h=>tR h fun op h0 h=>tR h fun q h1 h=>ivC1_ok hB R h fun b H' h s=>g b H' h (r_c1 h0 h1 s)) fun V h=>pD h fun oA oE h0 h=>pD h fun qC qD h1 h=>ivC2_ok hB R h fun b H' h s=>g b H' h (r_c2' h0 h1 s))
theorem r_next{f:FA}{s:Stmt}{ss:List Stmt}{f':FA}(h:f.go=true)(s1:zX C n fd ρ H s f H1 ρ1)(s2:zXs C n fd ρ1 H1 ss f' H2 ρ2):zXs C n fd ρ H (s::ss) f' H2 ρ2:=by
 cases goE h;exact fun c F lt=>Ex.cons (s1 c F lt) (s2 c F lt)
theorem ud(R:d9 C n r)(ss:List Stmt):∀{ρ:ao} {H:List HO} {k:FA->List HO->ao->Prop} {G:Prop},yL r fd ss ρ H k->(∀ f H' ρ',k f H' ρ'->zXs C n fd ρ H ss f H' ρ'->G)->G:=by
 induction ss with
 |nil=>exact fun h g=>g _ _ _ h fun c V V=>Ex.nil
 |cons s ss ih=>exact fun h g=>R.ex h fun f H1 ρ1 h s1=>bN h (fun e h=>ih h fun f' H2 ρ2 h s2=>g _ _ _ h (r_next e s1 s2)) fun e h=>g _ _ _ h fun c F lt=>Ex.stop (s1 c F lt) e
theorem wk(R:d9 C n r){body:List Stmt}{inv:List HO->Bool}{ι:Type}(j:ι->ao->ao)(T:List ι->List HO->ao->FA->List HO->ao->Prop)
 (nil:∀ H ρ,inv H=true->T [] H ρ .next H ρ) (cons:∀ v vs H ρ H1 ρ1 f H' ρ',inv H=true->zXs C n fd (j v ρ) H body .next H1 ρ1->T vs H1 ρ1 f H' ρ'->T (v::vs) H ρ f H' ρ') (stop:∀ v vs H ρ w H1 ρ1,inv H=true->zXs C n fd (j v ρ) H body (.ret w) H1 ρ1->T (v::vs) H ρ (.ret w) H1 ρ1)
 (vs:List ι):∀{H:List HO} {ρ:ao} {k:FA->List HO->ao->Prop} {G:Prop},pN r fd body inv (vs.map j) H ρ k->(∀ f H' ρ',k f H' ρ'->T vs H ρ f H' ρ'->G)->G:=by
 induction vs with
 |nil=>exact fun h g=>aO h fun e h=>g _ _ _ h (nil _ _ e)
 |cons v vs ih=>exact fun h g=>aO h fun e h=>ud R body h fun f H1 ρ1 h s=>bN h (fun q h=>ih h fun f' H2 ρ2 h t=>g _ _ _ h (cons v vs _ _ _ _ _ _ _ e (goE q▸s) t)) fun V h=>aN h fun w q h=>g _ _ _ h (stop v vs _ _ _ _ _ e (reE q▸s))
noncomputable def zFB(C:Cx)(n:Nat)(fd:FuncData)(body:List Stmt)(x:Str)(inv:List HO->Bool)(Inv:Ct->List AO->Prop)(vs:List AV)(H:List HO)(ρ:ao)(f:FA)(H':List HO)(ρ':ao):Prop:=(f=.next->inv H'=true)∧∀ c:Ct,iJ fd->c.d+n<recursionLimit->fY C c.d c.u (Inv c) c.L x c.fr (execs body (c.E fd)) vs (sub c.η H) ρ f (sub c.η H') ρ'
theorem lpB(R:d9 C n r){body:List Stmt}{inv:List HO->Bool}{Inv:Ct->List AO->Prop}(hi:∀ H c,inv H=true->Inv c (sub c.η H)){x:Str}(vs:List AV){k:FA->List HO->ao->Prop}(h:pN r fd body inv (vs.map (put x)) H ρ k)(g:∀ f H' ρ',k f H' ρ'->zFB C n fd body x inv Inv vs H ρ f H' ρ'->G):G:=
 wk R (put x) (zFB C n fd body x inv Inv) (fun H ρ e=>⟨fun V=>e,fun c F lt=>fY.nil (hi H c e)⟩) (fun v vs H ρ H1 ρ1 f H' ρ' e s t=>⟨t.1,fun c F lt=>fY.cons (hi H c e) (fun it P=>s {c with fr:=(it,.raw P)::c.fr} F lt) (t.2 c F lt)⟩)
  (fun v vs H ρ w H1 ρ1 e s=>⟨nofun,fun c F lt=>fY.stop (hi H c e) fun it P=>s {c with fr:=(it,.raw P)::c.fr} F lt⟩) vs h g
theorem yP{m:Nat}(h:nZ m H=true)(η:Nat->Obj->Prop):(sub η H)[m]? =some (.pin (η m)):=by
 refine LQ H ?_
 unfold nZ at h
 cases e:H[m]? with
 |none=>rw[e]at h;exact bF h
 |some y=>cases y with
  |held=>rfl
  |o y=>rw[e]at h;exact bF h
noncomputable def zFI(C:Cx)(n:Nat)(fd:FuncData)(body:List Stmt)(xk dI:Str)(m:Nat)(l:ao)(H:List HO)(ρ:ao)(f:FA)(H':List HO)(ρ':ao):Prop:=f=.next->∀ c:Ct,iJ fd->c.d+n<recursionLimit->iZ C c.d c.u m (c.η m) c.L xk dI c.fr (execs body (c.E fd)) l (sub c.η H) ρ (sub c.η H') ρ'
theorem lpI(R:d9 C n r){body:List Stmt}{m:Nat}{xk dI:Str}(l:ao){k:FA->List HO->ao->Prop}(h:pN r fd body (nZ m) (l.map fun p ρ=>put dI p.2 (put xk (.str p.1) ρ)) H ρ k)(g:∀ f H' ρ',k f H' ρ'->zFI C n fd body xk dI m l H ρ f H' ρ'->G):G:=
 wk R (fun p ρ=>put dI p.2 (put xk (.str p.1) ρ)) (zFI C n fd body xk dI m) (fun H ρ e V c F lt=>iZ.nil (yP e c.η)) (fun v vs H ρ H1 ρ1 f H' ρ' e s t q c F lt=>iZ.cons (fun it P=>s {c with fr:=(it,.raw P)::c.fr} F lt) (t q c F lt) (yP e c.η)) (fun V V V V V V V V V q=>nomatch q) l h g
noncomputable def zFZ(C:Cx)(n:Nat)(fd:FuncData)(body:List Stmt)(xk dI:Str)(l:List (AV×AV))(H:List HO)(ρ:ao)(f:FA)(H':List HO)(ρ':ao):Prop:=f=.next->∀ c:Ct,iJ fd->c.d+n<recursionLimit->lq C c.d c.u c.L xk dI c.fr (execs body (c.E fd)) l (sub c.η H) ρ (sub c.η H') ρ'
theorem lpZ(R:d9 C n r){body:List Stmt}{inv:List HO->Bool}{xk dI:Str}(l:List (AV×AV)){k:FA->List HO->ao->Prop}(h:pN r fd body inv (l.map fun p ρ=>put dI p.2 (put xk p.1 ρ)) H ρ k)(g:∀ f H' ρ',k f H' ρ'->zFZ C n fd body xk dI l H ρ f H' ρ'->G):G:=
 wk R (fun p ρ=>put dI p.2 (put xk p.1 ρ)) (zFZ C n fd body xk dI) (fun H ρ e V c F lt=>lq.nil) (fun v vs H ρ H1 ρ1 f H' ρ' e s t q c F lt=>lq.cons (fun ex=>s {c with fr:=ex++c.fr} F lt) (t q c F lt)) (fun V V V V V V V V V q=>nomatch q) l h g
theorem Ga{e:Expr}(h:(!(e.ctorIdx==7))=true)(env:Env)(x:Value):foldedSetIterable e env x=pure x:=@Expr.casesOn (fun e=>(!(e.ctorIdx==7))=true->foldedSetIterable e env x=pure x) e (fun V V V V=>rfl) (fun V V V V=>rfl) (fun V V V V V=>rfl) (fun V V V V=>rfl) (fun V V V V V=>rfl) (fun V V V V V=>rfl) (fun V V V V=>rfl) (fun V V V=>bF) (fun V V V V V=>rfl) (fun V V V V V=>rfl) (fun V V V V V V=>rfl) (fun V V V V V=>rfl) (fun V V V=>rfl) (fun V V V=>rfl) (fun V V V=>rfl) (fun V V V V V=>rfl) (fun V V V V V=>rfl) (fun V V V V V=>rfl) (fun V V V=>rfl) (fun V V V V=>rfl) (fun V V V V=>rfl) (fun V V V V=>rfl) (fun V V V=>rfl) (fun V V V=>rfl) (fun V V V=>rfl) (fun V V V V=>rfl) (fun V V V V V=>rfl) h
theorem uV{e:Expr}{t:Option Expr}{l:Nat}{env:Env}(h:jA e=true):swapsWith e t l env=pure false:=@Expr.casesOn (fun e=>jA e=true->swapsWith e t l env=pure false) e (fun V V V V=>rfl) (fun V V V V=>rfl) (fun V V V V V=>rfl) (fun V V V V=>rfl) (fun V V V V V=>rfl) (fun V V V V V=>rfl) (fun V V V V=>rfl) (fun V V V V=>rfl) (fun V V V V=>bF) (fun V V V V=>bF) (fun V V V V V=>bF) (fun V V V V V=>rfl) (fun V V V=>rfl) (fun V V V=>rfl) (fun V V V=>rfl) (fun V V V V V=>rfl) (fun V V V V V=>rfl) (fun V V V V V=>rfl) (fun V V V=>rfl) (fun V V V V=>rfl) (fun V V V V=>rfl) (fun V V V V=>rfl) (fun V V V=>rfl) (fun V V V=>rfl) (fun V V V=>rfl) (fun V V V V=>rfl) (fun V V V V V=>rfl) h
variable{x xk dI:Str}{it:Expr}{body:List Stmt}{q q' pA:Pos}
theorem r_forK{v:AV}{m:Nat}{l:ao}{f:FA}(k0:dZ fd x 0=true)(k1:(!(it.ctorIdx==7))=true)(s:zE C n fd ρ H it v H1)(h1:v=.ref m)(h2:H1[m]? =some (.o (.dict l)))(t:zFB C n fd body x (nZ m) (fun c H=>H[m]? =some (.pin (c.η m))) (l.map fun p=>.str p.1) (H1.set m .held) ρ f H2 ρ2)(h3:f.go=true):
 zX C (n+1) fd ρ H (.For (.Name x q) it body [] p) .next (H2.set m (.o (.dict l))) ρ2:=by
 subst h1;cases goE h3
 intro c F lt
 refine Ex.forKeys (H2:=fun P=>sub (oJ c.η m P) H2) F.k (lD k0).1 (s c F (bZ lt)) (bk h2) (fun P=>?_) (fun P=>?_) (fun P=>zu P _ H2 m c.η) (Ga k1 _)
 · have z:=t.2 {c with η:=oJ c.η m P} F (bZ lt)
   dsimp only at z
   rw[zq,ur]at z
   exact z
 · have z:=yP (t.1 rfl) (oJ c.η m P)
   rwa [ur]at z
theorem r_forL{v:AV}{m:Nat}{vs:List AV}{f:FA}(k0:dZ fd x 0=true)(k1:(!(it.ctorIdx==7))=true)(s:zE C n fd ρ H it v H1)(h1:v=.ref m)(h2:H1[m]? =some (.o (.list vs)))(t:zFB C n fd body x (pP m vs) (fun c H=>H[m]? =some (.list vs)) vs H1 ρ f H2 ρ2):
 zX C (n+1) fd ρ H (.For (.Name x q) it body [] p) f H2 ρ2:=by
 subst h1;exact fun c F lt=>Ex.forL F.k (lD k0).1 (s c F (bZ lt)) (bk h2) (t.2 c F (bZ lt)) (Ga k1 _)
theorem r_forT(hB:Bs C){v:AV}{a:Addr}{l:List Value}{f:FA}(k0:dZ fd x 0=true)(k1:(!(it.ctorIdx==7))=true)(s:zE C n fd ρ H it v H1)(h1:v=.glob (.ref a))(T:jO C.w.params "tuple" a l)(t:zFB C n fd body x (fun V=>true) (fun V V=>True) (l.map bQ) H1 ρ f H2 ρ2):
 zX C (n+1) fd ρ H (.For (.Name x q) it body [] p) f H2 ρ2:=by
 subst h1;exact fun c F lt=>Ex.forTt hB F.k (lD k0).1 (s c F (bZ lt)) T rfl (t.2 c F (bZ lt)) (Ga k1 _)
theorem refsE:∀(l m:List AV),Hy l m=true->l=m:=by
 intro l
 induction l with
 |nil=>intro m h;cases m with
  |nil=>rfl
  |cons b m=>exact bF h
 |cons a l ih=>intro m h;cases m with
  |nil=>exact bF h
  |cons b m=>
   have z:=Bool.and_eq_true_iff.mp h
   have y:=Bool.and_eq_true_iff.mp z.2
   have e:=dO z.1
   rw[ih m (Bool.and_eq_true_iff.mpr ⟨beq_iff_eq.mpr (Nat.succ.inj e),y.2⟩)]
   have w:=y.1
   cases e1:a.nr with
   |none=>dsimp only at w;rw[e1]at w;exact bF w
   |some i=>cases e2:b.nr with
    |none=>dsimp only at w;rw[e1,e2]at w;exact bF w
    |some j=>dsimp only at w;rw[e1,e2]at w;rw[iD e1,iD e2,dO (show(i==j)=true from w)]
theorem listAtE{m:Nat}{vs:List AV}(h:pP m vs H=true)(η:Nat->Obj->Prop):(sub η H)[m]? =some (.list vs):=by
 unfold pP at h
 cases e:m6 H m with
 |none=>rw[e]at h;exact bF h
 |some ws=>rw[e]at h;exact refsE ws vs h▸bk (v8 e)
theorem IK(hB:Bs C)(R:d9 C n r)(k0:dZ fd x 0=true)(k1:(!(it.ctorIdx==7))=true){k:FA->List HO->ao->Prop}(h:IV C.w.params r fd ρ H x it body k)(g:∀ f H' ρ',k f H' ρ'->zX C (n+1) fd ρ H (.For (.Name x q) it body [] p) f H' ρ'->G):G:=
 R.ev h fun v H1 h s=>bN h
  (fun V h=>aN h fun m h1 h=>bN h (fun V h=>aN h fun l h2 h=>lpB R (Inv:=fun c H=>H[m]? =some (.pin (c.η m))) (fun H c e=>yP e c.η) _ h fun f H2 ρ2 h t=>aO h fun h3 h=>g _ _ _ h (r_forK k0 k1 s (iD h1) (gj h2) t h3))
   fun V h=>aN h fun vs h2 h=>lpB R (Inv:=fun c H=>H[m]? =some (.list vs)) (fun H c e=>listAtE e c.η) vs h fun f H2 ρ2 h t=>g _ _ _ h (r_forL k0 k1 s (iD h1) (v8 h2) t))
  fun V h=>aN h fun a h1 h=>zJ h fun l T h=>lpB R (Inv:=fun V V=>True) (fun V V V=>trivial) _ h fun f H2 ρ2 h t=>g _ _ _ h (r_forT hB k0 k1 s (jz h1) T t)
theorem r_forI{o:Expr}{name:Str}{ap cp:Pos}{args:List Expr}{v:AV}{m x1:Nat}{l:ao}{f:FA}(k0:dZ fd xk 0=true)(k1:dZ fd dI 0=true)(h0:args.isEmpty=true)(hb:qN o ap cp=true)(hn:(name==vV)=true)(s:zE C n fd ρ H o v H1)(h1:v=.ref m)(h2:H1[m]? =some (.o (.dict l)))(t:zFI C n fd body xk dI m l (H1.set m .held) ρ f H2 ρ2)(h3:f.go=true):
 zX C (n+1) fd ρ H (.For (.Tuple [.Name xk q,.Name dI q'] x1 pA) (.Call (.Attribute o name ap) args [] cp) body [] p) .next (H2.set m (.o (.dict l))) ρ2:=by
 subst h1;cases goE h3;cases jj h0;cases dO hn
 intro c F lt
 obtain⟨pl,he⟩:=he_of (name:=vV) (args:=[]) (kws:=[]) (env:=c.E fd) hb rfl
 refine Ex.M6 (H2:=fun P=>sub (oJ c.η m P) H2) F.k (lD k0).1 (lD k1).1 (s c F (bZ lt)) (bk h2) (fun P=>?_) (fun P=>zu P _ H2 m c.η) he (fun V=>rfl)
 have z:=t rfl {c with η:=oJ c.η m P} F (bZ lt)
 dsimp only at z
 rw[zq,ur]at z
 exact z
theorem r_forZ(hB:Bs C){id:Str}{args:List Expr}{cp nq:Pos}{v a b:AV}{gv:Value}{s:String}{as:List AV}{aA aB:Addr}{lA lB:List Value}{x1:Nat}{f:FA}(k0:dZ fd xk 0=true)(k1:dZ fd dI 0=true)(w:∀(c:Ct) H pos,iJ fd->Ev C c.d c.u H (c.F ρ) (eval (.Name id pos) (c.E fd)) v H)(h1:v=.glob gv)(h2:gv=.type s)(h3:(s=="zip")=true)(t:zL C n fd ρ H args as H1)(h4:as=[a,b])(h5:a=.glob (.ref aA))(h6:b=.glob (.ref aB))(TF:jO C.w.params "list" aA lA)(TG:jO C.w.params "list" aB lB)(u:zFZ C n fd body xk dI (dh lA lB) H1 ρ f H2 ρ2)(h7:f.go=true):
 zX C (n+1) fd ρ H (.For (.Tuple [.Name xk q,.Name dI q'] x1 pA) (.Call (.Name id nq) args [] cp) body [] p) .next H2 ρ2:=by
 subst h1 h2 h4 h5 h6;cases dO h3;cases goE h7
 exact fun c F lt=>Ex.forZ hB F.k (lD k0).1 (lD k1).1 (w c _ nq F) (t c cp F (bZ lt)).1 TF TG rfl (u rfl c F (bZ lt)) (t c cp F (bZ lt)).2 (fun V=>rfl)
theorem Iw(hB:Bs C)(R:d9 C n r){x1:Nat}(k0:dZ fd xk 0=true)(k1:dZ fd dI 0=true){e:Expr}{args:List Expr}{cp:Pos}{k:List HO->ao->Prop}(h:Iz C.w.params r fd ρ H xk dI e args cp body k):(∀ H' ρ',k H' ρ'->zX C (n+1) fd ρ H (.For (.Tuple [.Name xk q,.Name dI q'] x1 pA) (.Call e args [] cp) body [] p) .next H' ρ'->G)->G:=
 oR (M:=fun e=>(∀ H' ρ',k H' ρ'->zX C (n+1) fd ρ H (.For (.Tuple [.Name xk q,.Name dI q'] x1 pA) (.Call e args [] cp) body [] p) .next H' ρ'->G)->G) h
  (fun id V h g=>xr hB h fun v h w=>aN h fun gv h1 h=>aN h fun s h2 h=>aO h fun h3 h=>pO R args h fun as H1 h t=>pD h fun a b h4 h=>aN h fun aA h5 h=>aN h fun aB h6 h=>zJ h fun lA TF h=>zJ h fun lB TG h=>lpZ R _ h fun f H2 ρ2 h u=>aO h fun h7 h=>g _ _ h (r_forZ hB k0 k1 w (ngE h1) (vtE h2) h3 t h4 (jz h5) (jz h6) TF TG u h7))
  (fun V V V h=>h.elim) (fun V V V V h=>h.elim) (fun o name ap h g=>aO h fun h0 h=>aO h fun hb h=>aO h fun hn h=>R.ev h fun v H1 h s=>aN h fun m h1 h=>aN h fun l h2 h=>lpI R l h fun f H2 ρ2 h t=>aO h fun h3 h=>g _ _ h (r_forI k0 k1 h0 hb hn s (iD h1) (gj h2) t h3))
  (fun V V V h=>h.elim) (fun V V V h=>h.elim) (fun V V V h=>h.elim) (fun V V h=>h.elim) (fun V V V V h=>h.elim) (fun V V V h=>h.elim) (fun V V V h=>h.elim) (fun V V V V h=>h.elim)
end
section
variable{C:Cx}{N0:Nat}{zk:Int}{n:Nat}{r:Rk}{fd:FuncData}{ρ ρ1 ρ2:ao}{H H1 H2 H3:List HO}{G:Prop}{p:Pos}
theorem onCalG{e:Expr}{k:Expr->List Expr->Pos->Prop}(h:onCal e k){M:Expr->Prop}:(∀ f as p,k f as p->M (.Call f as [] p))->M e:=
 oR (M:=fun e=>(∀ f as p,k f as p->M (.Call f as [] p))->M e) h (fun V V h=>h.elim) (fun V V V h=>h.elim) (fun V V V V h=>h.elim) (fun V V V h=>h.elim) (fun V V V h=>h.elim) (fun V V V h=>h.elim) (fun V V V h=>h.elim) (fun V V h=>h.elim) (fun f as ks p h g=>aO h fun e h=>jj e▸g f as p h) (fun V V V h=>h.elim) (fun V V V h=>h.elim) (fun V V V V h=>h.elim)
theorem zX_for2{es:List Expr}{a b:Expr}{x y:Str×Pos}{m:Nat}{q:Pos}{it:Expr}{body:List Stmt}{f:FA}(h0:es=[a,b])(h1:a=.Name x.1 x.2)(h2:b=.Name y.1 y.2)(s:zX C n fd ρ H (.For (.Tuple [.Name x.1 x.2,.Name y.1 y.2] m q) it body [] p) f H1 ρ1):zX C n fd ρ H (.For (.Tuple es m q) it body [] p) f H1 ρ1:=by subst h0 h1 h2;exact s
theorem Lg(hB:Bs C)(R:d9 C n r){t it:Expr}{body:List Stmt}{k:FA->List HO->ao->Prop}(h:ivFor C.w.params r fd ρ H t it body k):(∀ f H' ρ',k f H' ρ'->zX C (n+1) fd ρ H (.For t it body [] p) f H' ρ'->G)->G:=
 oR (M:=fun t=>(∀ f H' ρ',k f H' ρ'->zX C (n+1) fd ρ H (.For t it body [] p) f H' ρ'->G)->G) h (fun x q h g=>aO h fun k0 h=>aO h fun k1 h=>IK hB R k0 k1 h g) (fun V V V h=>h.elim) (fun V V V V h=>h.elim) (fun V V V h=>h.elim) (fun V V V h=>h.elim) (fun V V V h=>h.elim)
  (fun es m q h g=>pD h fun a b h0 h=>aN h fun x h1 h=>aN h fun y h2 h=>aO h fun k0 h=>aO h fun k1 h=>onCalG (M:=fun it=>(∀ f H' ρ',k f H' ρ'->zX C (n+1) fd ρ H (.For (.Tuple es m q) it body [] p) f H' ρ'->G)->G) h (fun f as cp h g=>Iw hB R k0 k1 h fun H' ρ' h s=>g _ _ _ h (zX_for2 h0 (nmE h1) (nmE h2) s)) g)
  (fun V V h=>h.elim) (fun V V V V h=>h.elim) (fun V V V h=>h.elim) (fun V V V h=>h.elim) (fun V V V V h=>h.elim)
theorem r_asN{x:Str}{q:Pos}{value:Expr}{v:AV}(h0:jA value=true)(h1:dZ fd x 0=true)(s:zE C n fd ρ H value v H1):zX C (n+1) fd ρ H (.Assign [.Name x q] value p) .next H1 (put x v ρ):=
 fun c F lt=>Ex.assign (lD h1).1 F.k (s c F (bZ lt)) (uV h0)
theorem r_asA(hB:Bs C)(hN:C.n0=N0){o value:Expr}{attr:Str}{q:Pos}{a v:AV}{m d:Nat}{cc:Addr}{kvs:ao}(h0:jA value=true)(s:zE C n fd ρ H value v H1)(t:zE C n fd ρ H1 o a H2)(h1:a=.ref m)(h2:H2[m]? =some (.o (.inst cc d)))(h3:H2[d]? =some (.o (.dict kvs)))(h4:wz cc=true)(h5:(attr==aR)=true)(h6:Nat.ble N0 d=true)(h7:Nat.ble kvs.length 900=true):
 zX C (n+1) fd ρ H (.Assign [.Attribute o attr q] value p) .next (H2.set d (.o (.dict (f9 kvs attr v)))) ρ:=by
 subst h1;cases dO h5
 have F':SetF C cc aR:=(Bool.or_eq_true_iff.mp h4).elim (fun e=>dO e▸yp C) (fun e=>dO e▸yj C)
 intro c F lt
 rw[nJ]
 exact Ex.setAttr (s c F (bZ lt)) (t c F (bZ lt)) (AS1 hB F' (bk h2) (bk h3) (uY hN h6) (Nat.le_of_ble_eq_true h7)) (uV h0)
theorem r_asS(hN:C.n0=N0){o i value:Expr}{q:Pos}{a b v:AV}{m:Nat}{x:Str}{kvs:ao}(h0:jA value=true)(s:zE C n fd ρ H value v H1)(t:zE C n fd ρ H1 o a H2)(w:zE C n fd ρ H2 i b H3)(h1:a=.ref m)(h2:b=.str x)(h3:H3[m]? =some (.o (.dict kvs)))(h4:Nat.ble N0 m=true)(h5:Nat.ble kvs.length 900=true):
 zX C (n+1) fd ρ H (.Assign [.Subscript o i q] value p) .next (H3.set m (.o (.dict (f9 kvs x v)))) ρ:=by
 subst h1 h2
 intro c F lt
 rw[nJ]
 exact Ex.setSub (s c F (bZ lt)) (t c F (bZ lt)) (w c F (bZ lt)) (bk h3) (uY hN h4) (sl h5) (uV h0)
theorem Lw(hB:Bs C)(hN:C.n0=N0)(R:d9 C n r){t value:Expr}{k:FA->List HO->ao->Prop}(h0:jA value=true)(h:ivAsg N0 r fd ρ H t value k):(∀ f H' ρ',k f H' ρ'->zX C (n+1) fd ρ H (.Assign [t] value p) f H' ρ'->G)->G:=
 oR (M:=fun t=>(∀ f H' ρ',k f H' ρ'->zX C (n+1) fd ρ H (.Assign [t] value p) f H' ρ'->G)->G) h (fun x q h g=>aO h fun h1 h=>R.ev h fun v H1 h s=>g _ _ _ h (r_asN h0 h1 s)) (fun V V V h=>h.elim) (fun V V V V h=>h.elim)
  (fun o attr q h g=>R.ev h fun v H1 h s=>R.ev h fun a H2 h t=>aN h fun m h1 h=>vZ h fun cc d kvs h2 h3 h=>aO h fun h4 h=>aO h fun h5 h=>aO h fun h6 h=>aO h fun h7 h=>g _ _ _ h (r_asA hB hN h0 s t (iD h1) h2 h3 h4 h5 h6 h7))
  (fun o i q h g=>R.ev h fun v H1 h s=>R.ev h fun a H2 h t=>R.ev h fun b H3 h w=>aN h fun m h1 h=>aN h fun x h2 h=>aN h fun kvs h3 h=>aO h fun h4 h=>aO h fun h5 h=>g _ _ _ h (r_asS hN h0 s t w (iD h1) (mK h2) (gj h3) h4 h5))
  (fun V V V h=>h.elim) (fun V V V h=>h.elim) (fun V V h=>h.elim) (fun V V V V h=>h.elim) (fun V V V h=>h.elim) (fun V V V h=>h.elim) (fun V V V V h=>h.elim)
theorem r_if{test:Expr}{body orelse:List Stmt}{b:Bool}{f:FA}(s:zT C n fd ρ H test b H1)(t:zXs C n fd ρ H1 (bif b then body else orelse) f H2 ρ2):zX C (n+1) fd ρ H (.If test body orelse p) f H2 ρ2:=by
 cases b with
 |true=>exact fun c F lt=>Ex.ifT (s c F (bZ lt)) (t c F (bZ lt))
 |false=>exact fun c F lt=>Ex.ifF (s c F (bZ lt)) (t c F (bZ lt))
theorem r_expr{e:Expr}{v:AV}(h0:jA e=true)(s:zE C n fd ρ H e v H1)(h1:(v.ctorIdx==0)=true):zX C (n+1) fd ρ H (.Expr e p) .next H1 ρ:=by
 cases nnE h1
 refine fun c F lt=>Ex.exprN (s c F (bZ lt)) ?_ (uV h0)
 unfold interactive
 rw[show(c.E fd).scope.kind=.function from F.k]
 rfl
theorem r_ret{o:Option Expr}{e:Expr}{v:AV}(h:o=some e)(s:zE C n fd ρ H e v H1):zX C (n+1) fd ρ H (.Return o p) (.ret v) H1 ρ:=by subst h;exact fun c F lt=>Ex.ret (s c F (bZ lt))
theorem zX_as{ts:List Expr}{t value:Expr}{f:FA}(h:ts=[t])(s:zX C n fd ρ H (.Assign [t] value p) f H1 ρ1):zX C n fd ρ H (.Assign ts value p) f H1 ρ1:=by subst h;exact s
theorem ivEx_ok(hB:Bs C)(hN:C.n0=N0)(R:d9 C n r){s:Stmt}{k:FA->List HO->ao->Prop}:ivEx C.w.params N0 r fd ρ H s k->(∀ f H' ρ',k f H' ρ'->zX C (n+1) fd ρ H s f H' ρ'->G)->G:=
 @Stmt.casesOn (fun s=>ivEx C.w.params N0 r fd ρ H s k->(∀ f H' ρ',k f H' ρ'->zX C (n+1) fd ρ H s f H' ρ'->G)->G) s (fun V V V V V V V V V V h=>h.elim) (fun V V V V V V V V V V h=>h.elim) (fun V V V V V V V V V V V h=>h.elim) (fun V V h g=>aN h fun e h0 h=>R.ev h fun v H1 h s=>g _ _ _ h (r_ret h0 s)) (fun V V h=>h.elim) (fun V V V h g=>tR h fun t h1 h=>aO h fun h0 h=>Lw hB hN R h0 h fun f H' ρ' h s=>g _ _ _ h (zX_as h1 s)) (fun V V V V V V V h=>h.elim) (fun V V V V h=>h.elim) (fun V V V V V h=>h.elim) (fun V V V V V h g=>aO h fun h0 h=>Lg hB R h fun f H' ρ' h s=>g _ _ _ h (jj h0▸s)) (fun V V V V V h=>h.elim) (fun V V V V h=>h.elim) (fun V V V V h g=>R.tt h fun b H1 h s=>ud R _ h fun f H2 ρ2 h t=>g _ _ _ h (r_if s t)) (fun V V V h=>h.elim) (fun V V V h=>h.elim) (fun V V V h=>h.elim) (fun V V V h=>h.elim) (fun V V V V V h=>h.elim) (fun V V V V V h=>h.elim) (fun V V V h=>h.elim) (fun V V h=>h.elim) (fun V V V V h=>h.elim) (fun V V h=>h.elim) (fun V V h=>h.elim) (fun V V h g=>aO h fun h0 h=>R.ev h fun v H1 h s=>aO h fun h1 h=>g _ _ _ h (r_expr h0 s h1)) (fun V h=>h.elim) (fun V h=>h.elim) (fun V h=>h.elim)
structure wO(C:Cx)(a:Addr)(fd:FuncData):Prop where
 f:d8 C.w.params a fd
 o:iJ fd
 g:fd.scope.isGenerator=false
theorem bodyE{b:List Stmt}(h:mW fd=some b):fd.body=.stmts b:=by
 unfold mW at h
 generalize fd.body=d at h
 cases d with
 |stmts b=>exact congrArg _ (Option.some.inj h)
 |expr=>exact nS h
theorem r_fn(hB:Bs C){a:Addr}{as:List AV}{kw ρ':ao}{b:List Stmt}{f:FA}{v:AV}(Q:wO C a fd)(h0:mW fd=some b)(j:∀ c:Ct,JB C (sub c.η H) c.fr fd as kw ρ (sub c.η H1))(hv:f=.ret v∨f=.next∧v=.none)(s:zXs C n fd ρ H1 b f H2 ρ'):zC C (n+1) H a as kw v H2:=by
 rcases hv with rfl|⟨rfl,rfl⟩<;>
 exact fun c lt=>DFn hB Q.f (bodyE h0) (Nat.lt_of_le_of_lt (Nat.le_add_right _ _) lt) (j c) (fun L=>⟨ρ',s ⟨a,L,c.fr,c.d+1,c.u+3,c.η⟩ Q.o (Nat.add_right_comm c.d 1 n▸lt)⟩) rfl Q.g
theorem xH(hB:Bs C)(R:d9 C n r){a:Addr}{as:List AV}{kw:ao}{k:AV->List HO->Prop}(Q:wO C a fd)(j:∀ c:Ct,JB C (sub c.η H) c.fr fd as kw ρ (sub c.η H1))(h:Ba r fd ρ H1 k)(g:∀ v H',k v H'->zC C (n+1) H a as kw v H'->G):G:=
 aN h fun b h0 h=>ud R b h fun f H2 ρ2 h s=>bN h (fun e h=>g _ _ h (r_fn hB Q h0 j (.inr ⟨goE e,rfl⟩) s)) fun V h=>aN h fun v e h=>g _ _ h (r_fn hB Q h0 j (.inl (reE e)) s)
theorem r_new(hB:Bs C)(hN:C.n0=N0){a fI:Addr}{as:List AV}{kw:ao}{v:AV}(h1:makesIn (KC C) a=true)(h2:findIn (KC C) (.ref a) "__init__"=some (some (.ref fI)))(h3:typeIn (KC C) (.ref fI)=some (.type "function"))(h0:Nat.ble N0 H.length=true)(s:zC C n (H++[.o (.dict [])]++[.o (.inst a H.length)]) fI (.ref (H.length+1)::as) kw v H1)(h4:(v.ctorIdx==0)=true):zC C (n+1) H a as kw (.ref (H.length+1)) H1:=by
 cases nnE h4
 intro c lt
 have z:=s {c with d:=c.d+1,u:=c.u+1} (Nat.add_right_comm c.d 1 n▸lt)
 dsimp only at z
 rw[ig,ig]at z
 rw[←iK H c.η]at z⊢
 exact JC.cls hB.aZ h1 h2 h3 (n0E hN h0) z
theorem Az(hB:Bs C)(hN:C.n0=N0)(R:d9 C n r){a fI:Addr}{as:List AV}{kw:ao}{k:AV->List HO->Prop}(h1:makesIn (KC C) a=true)(h2:findIn (KC C) (.ref a) "__init__"=some (some (.ref fI)))(h3:typeIn (KC C) (.ref fI)=some (.type "function"))(h:Gi N0 r a fI as kw H k)(g:∀ v H',k v H'->zC C (n+1) H a as kw v H'->G):G:=
 aO h fun h0 h=>R.ca h fun v H1 h s=>aO h fun h4 h=>g _ _ h (r_new hB hN h1 h2 h3 h0 s h4)
theorem r_cl0(hB:Bs C)(hN:C.n0=N0){a:Addr}{as:List AV}{kw:ao}{q:Option Value}{v:Value}{s:String}(h0:as.isEmpty=true)(h1:kw.isEmpty=true)(h2:Nat.ble N0 H.length=true)(h3:makesIn (KC C) a=true)(h4:findIn (KC C) (.ref a) "__init__"=some q)(h5:q=some v)(h6:v=.builtin s)(h7:(s=="object.__init__")=true):zC C n H a as kw (.ref (H.length+1)) (H++[.o (.dict [])]++[.o (.inst a H.length)]):=by
 cases jj h0;cases jj h1;cases dO h7;subst h6 h5
 intro c lt
 rw[ig,ig, ←iK H c.η]
 exact JC.cls0 hB.aZ h3 h4 (n0E hN h2)
theorem Lp(hB:Bs C)(hN:C.n0=N0){a:Addr}{as:List AV}{kw:ao}{k:AV->List HO->Prop}(h:ivCl0 C.w.params N0 a as kw H k)(g:∀ v H',k v H'->zC C n H a as kw v H'->G):G:=
 aO h fun h0 h=>aO h fun h1 h=>aO h fun h2 h=>aO h fun h3 h=>aN h fun q h4 h=>aN h fun v h5 h=>aN h fun s h6 h=>aO h fun h7 h=>g _ _ h (r_cl0 hB hN h0 h1 h2 h3 h4 h5 (vbE h6) h7)
noncomputable def okF(C:Cx)(mj:List (Addr×FuncData×List Str)):Prop:=∀ a p,mj.lookup a=some p->wO C a p.1∧∀ as H fr,as.length=p.2.length->JB C H fr p.1 as [] (p.2.zip as) H
noncomputable def okK(C:Cx)(jB:List KE):Prop:=∀ e∈jB,wO C e.1.1 e.1.2.1∧∀ as kw H fr,as.length=e.1.2.2->kw.map (·.1)=e.2.1->C.n0≤H.length->JB C H fr e.1.2.1 as kw (e.2.2.1.map fun p=>(p.1,yD as kw H.length p.2)) (H++[.dict (gY [] (e.2.2.2.map fun i=>kw.getD i (aP,.none)))])
theorem r_ke(hN:C.n0=N0){jB:List KE}(hK:okK C jB){a:Addr}{as:List AV}{kw:ao}{e:KE}(h:keAt jB a as kw=some e)(h0:Nat.ble N0 H.length=true):wO C a e.1.2.1∧∀ c:Ct,JB C (sub c.η H) c.fr e.1.2.1 as kw (e.2.2.1.map fun p=>(p.1,yD as kw H.length p.2)) (sub c.η (H++[.o (.dict (gY [] (e.2.2.2.map fun i=>kw.getD i (aP,.none))))])):=by
 have q:=Bool.and_eq_true_iff.mp (List.find?_some (p:=fun e:KE=>e.1.1==a&&(e.1.2.2==as.length&&e.2.1==kw.map (·.1))) h)
 have q2:=Bool.and_eq_true_iff.mp q.2
 have z:=hK e (List.mem_of_find?_eq_some (p:=fun e:KE=>e.1.1==a&&(e.1.2.2==as.length&&e.2.1==kw.map (·.1))) h)
 refine⟨dO q.1▸z.1,fun c=>?_⟩
 have y:=z.2 as kw (sub c.η H) c.fr (dO q2.1).symm (dO q2.2).symm (n0E hN h0)
 rw[ig]
 rwa [iK]at y
theorem ivCa_ok(hB:Bs C)(hN:C.n0=N0){mj:List (Addr×FuncData×List Str)}{jB:List KE}(hF:okF C mj)(hK:okK C jB)(R:d9 C n r){a:Addr}{as:List AV}{kw:ao}{k:AV->List HO->Prop}(h:ivCa C.w.params N0 mj jB r a as kw H k)(g:∀ v H',k v H'->zC C (n+1) H a as kw v H'->G):G:=
 bN h (fun V h=>aN h fun p e h=>aO h fun h1 h=>aO h fun h2 h=>xH hB R (hF a p e).1 (fun c=>jj h2▸(hF a p e).2 as _ c.fr (dO h1)) h g) fun V h=>
 bN h (fun V h=>aN h fun e h1 h=>aO h fun h2 h=>xH hB R (r_ke hN hK h1 h2).1 (r_ke hN hK h1 h2).2 h g) fun V h=>
 bN h (fun e h=>Az hB hN R (mk_330 _) (in_330 _) (ty_269 _) h fun v H' h s=>g v H' h (dO e▸s)) fun V h=>bN h (fun e h=>Az hB hN R (mk_949 _) (in_949 _) (ty_901 _) h fun v H' h s=>g v H' h (dO e▸s)) fun V h=>Lp hB hN h g
theorem iv_ok(hB:Bs C)(hN:C.n0=N0){mj:List (Addr×FuncData×List Str)}{jB:List KE}(hF:okF C mj)(hK:okK C jB)(n:Nat):d9 C n (iv C.w.params N0 zk mj jB n):=by
 induction n with
 |zero=>exact⟨fun h=>h.elim,fun h=>h.elim,fun h=>h.elim,fun h=>h.elim⟩
 |succ n R=>exact⟨fun h=>ivEv_ok hB hN R h,fun h=>ivTt_ok hB R h,fun h=>ivEx_ok hB hN R h,fun h=>ivCa_ok hB hN hF hK R h⟩
end
noncomputable def tkk(v:Nat->Value):Nat->List Value
 |0=>[]
 |n+1=>v 0::tkk (fun i=>v (i+1)) n
noncomputable def tzk(v:Nat->Value):List Str->List (Str×Value)
 |[]=>[]
 |x::r=>(x,v 0)::tzk (fun i=>v (i+1)) r
theorem tk_eq:∀ xs:List Value,tkk (xs.getD · .none) xs.length=xs:=by
 intro xs
 induction xs with
 |nil=>rfl
 |cons x xs ih=>exact congrArg (x::·) ih
theorem tz_zip(ns:List Str):∀ xs:List Value,xs.length=ns.length->tzk (xs.getD · .none) ns=ns.zip xs:=by
 induction ns with
 |nil=>exact fun V V=>rfl
 |cons x ns ih=>
  intro xs e
  cases xs with
  |nil=>cases e
  |cons y xs=>exact congrArg ((x,y)::·) (ih xs (Nat.succ.inj e))
theorem tz_eq(ks:List (Str×Value)):tzk ((ks.map (·.2)).getD · .none) (ks.map (·.1))=ks:=by
 induction ks with
 |nil=>rfl
 |cons x ks ih=>exact congrArg (x::·) ih
section
variable{C:Cx}{fd:FuncData}{α:List Addr}
noncomputable def Aq(fd:FuncData)(ns:List Str):Bool:=ns.all (fun x=>fd.scope.names.lookup x==some .local)&&uU ns
theorem locE{ns:List Str}(h:Aq fd ns=true){x:Str}(hx:x∈ns):fd.scope.names.lookup x=some .local:=beq_iff_eq.mp (List.all_eq_true.mp (Bool.and_eq_true_iff.mp h).1 x hx)
theorem jbP(hB:Bs C){ns:List Str}(hp:∀ v S,peek (KC C) S (bindArgs fd ⟨tkk v ns.length,[]⟩)=some (tzk v ns))(h:Aq fd ns=true)(as:List AV)(H:List AO)(fr:List (Addr×FE))(e:as.length=ns.length):JB C H fr fd as [] (ns.zip as) H:=by
 refine JB.of hB.aZ ?_ fun α xs ks hx hk=>?_
 · rw[List.map_fst_zip (Nat.le_of_eq e.symm)];exact tW (Bool.and_eq_true_iff.mp h).2
 cases hk
 have l:xs.length=ns.length:=hx.len.symm.trans e
 refine⟨ns.zip xs,fun S=>?_,fun x m=>locE h (List.of_mem_zip m).1,aW.zip ns hx⟩
 have:=hp (xs.getD · .none) S
 rwa [tz_zip ns xs l, ←l,tk_eq]at this
theorem bM.getD{as:List AV}{xs:List Value}(h:bM α as xs):∀ i,VR α (as.getD i .none) (xs.getD i .none):=by
 induction h with
 |nil=>exact fun V=>rfl
 |cons r _ ih=>
  intro i
  cases i with
  |zero=>exact r
  |succ i=>exact ih i
theorem aW.snd{kw:ao}{ks:List (Str×Value)}(h:aW α kw ks):bM α (kw.map (·.2)) (ks.map (·.2)):=by
 induction h with
 |nil=>exact .nil
 |cons r _ ih=>exact .cons r ih
theorem aW.pick{kw:ao}{ks:List (Str×Value)}(h:aW α kw ks)(l:List Nat):aW α (l.map fun i=>kw.getD i (aP,.none)) (l.map fun i=>((ks.map (·.1)).getD i aP,(ks.map (·.2)).getD i .none)):=by
 have one:∀ i,∃ k a v,kw.getD i (aP,.none)=(k,a)∧(ks.map (·.1)).getD i aP=k∧(ks.map (·.2)).getD i .none=v∧VR α a v:=by
  induction h with
  |nil=>exact fun i=>⟨_,_,_,rfl,rfl,rfl,rfl⟩
  |cons r _ ih=>
   intro i
   cases i with
   |zero=>exact⟨_,_,_,rfl,rfl,rfl,r⟩
   |succ i=>exact ih i
 induction l with
 |nil=>exact .nil
 |cons i l ih=>
  obtain⟨k,a,v,e1,e2,e3,r⟩:=one i
  rw[List.map_cons,List.map_cons,e1,e2,e3]
  exact .cons r ih
noncomputable def HB(D:Addr)(ex:List (Str×Value)):Sem PUnit:=forIn ex PUnit.unit fun x V=>(nsSet D x.1 x.2>>= fun V=>pure (ForInStep.yield PUnit.unit))
theorem jbK(hB:Bs C){np:Nat}{ns:List Str}{src:List (Str×nG)}{rest:List Nat}
 (hp:∀ v w S,pC (KC C) S (bindArgs fd ⟨tkk v np,tzk w ns⟩)=some (dictOf [] 0,fun D=>HB D (rest.map fun i=>(ns.getD i aP,w i))>>= fun V=>pure (src.map fun p=>(p.1,nG.ev v w id (.ref D) p.2)))) (h:Aq fd (src.map (·.1))=true)
 (as:List AV) (kw:ao) (H:List AO) (fr:List (Addr×FE)) (e1:as.length=np) (e2:kw.map (·.1)=ns) (hn0:C.n0≤H.length):JB C H fr fd as kw (src.map fun p=>(p.1,yD as kw H.length p.2)) (H++[.dict (gY [] (rest.map fun i=>kw.getD i (aP,.none)))]):=.mk fun α s args R ha hk A E Q hQ=>by
 obtain⟨xs,ks⟩:=args
 have g:=hp (xs.getD · .none) ((ks.map (·.2)).getD · .none)
 have ek:ks.map (·.1)=ns:=hk.keys.symm.trans e2
 have l:xs.length=np:=ha.len.symm.trans e1
 subst ek
 rw[←l,tk_eq,tz_eq]at g
 refine CP (R.aZ hB.aZ) _ _ (g _) (wpAny_bind (Ew _ _ [] (Heap.DictOf.new s.heap) fun h' hsb hD=>wpAny_pure ?_))
 have kp:∀ c x,s.heap.get? c=some x->h'.get? c=some x:=fun c x e=>(hsb.2 c (Nat.ne_of_lt (Heap.lt_size e))).trans (Heap.get?_push_of_some _ e)
 have R':=R.Cz (o:=.dict (gY [] (rest.map fun i=>kw.getD i (aP,.none)))) (h':=h') (b:=s.heap.objs.size) kp (Nat.le_refl _) (by obtain⟨o,es,ep,q,V⟩:=hD;exact Heap.lt_size q) hn0
  (fun α' E V=>⟨_,hD,(aW.merge (hk.pick rest) .nil).mono E⟩)
 have r:VR (α++[s.heap.objs.size]) (.ref H.length) (.ref s.heap.objs.size):=⟨_,by rw[←R.len];exact List.getElem?_concat_length,rfl⟩
 have E:=aG.snoc α s.heap.objs.size
 refine hQ _ _ _ E (R'.toks _) (fun x hx=>?_) (LR.uQ ?_ ?_)
 · obtain⟨p,hp,rfl⟩:=List.mem_map.mp hx
   exact locE h (List.mem_map.mpr ⟨p,hp,rfl⟩)
 · clear hp h g hQ
   induction src with
   |nil=>exact .nil
   |cons p src ih=>
    refine .cons ?_ ih
    obtain⟨x,b⟩:=p
    cases b with
    |p i=>exact(ha.getD i).mono E
    |k i=>exact(hk.snd.getD i).mono E
    |c v=>exact VR.of _ v
    |d=>exact r
 · rw[List.map_map];exact tW (Bool.and_eq_true_iff.mp h).2
end
section
variable{C:Cx}(hB:Bs C)
noncomputable def qF(C:Cx)(a:Addr)(p:FuncData×List Str):Prop:=wO C a p.1∧∀ as H fr,as.length=p.2.length->JB C H fr p.1 as [] (p.2.zip as) H
include hB
theorem qf{a:Addr}{fd:FuncData}{ns:List Str}(f:d8 C.w.params a fd)(o:iJ fd)(g:fd.scope.isGenerator=false)(hp:∀ v S,peek (KC C) S (bindArgs fd ⟨tkk v ns.length,[]⟩)=some (tzk v ns))(h:Aq fd ns=true):qF C a (fd,ns):=⟨⟨f,o,g⟩,jbP hB hp h⟩
omit hB in
theorem okF_nil:okF C []:=fun V V h=>nomatch h
omit hB in
theorem bR{a:Addr}{p:FuncData×List Str}{l:List (Addr×FuncData×List Str)}(h:qF C a p)(t:okF C l):okF C ((a,p)::l):=fun b q e=>by
 rw[List.lookup_cons]at e
 cases z:b==a with
 |true=>rw[z]at e;cases dO z;exact Option.some.inj e▸h
 |false=>rw[z]at e;exact t b q e
theorem dW{a:Addr}{fd:FuncData}{np:Nat}{ns:List Str}{src:List (Str×nG)}{rest:List Nat}{l:List KE}(f:d8 C.w.params a fd)(o:iJ fd)(g:fd.scope.isGenerator=false)
 (hp:∀ v w S,pC (KC C) S (bindArgs fd ⟨tkk v np,tzk w ns⟩)=some (dictOf [] 0,fun D=>HB D (rest.map fun i=>(ns.getD i aP,w i))>>= fun V=>pure (src.map fun p=>(p.1,nG.ev v w id (.ref D) p.2)))) (h:Aq fd (src.map (·.1))=true) (t:okK C l):okK C (((a,fd,np),ns,src,rest)::l):=fun e he=>
 (List.mem_cons.mp he).elim (fun z=>z▸⟨⟨f,o,g⟩,jbK hB hp h⟩) (t e)
theorem fns_ok:okF C (mj C.w.params):=bR (qf hB (fu_86 _) ⟨rfl,rfl,rfl⟩ rfl (fun V V=>by kernel_rfl) rfl) (bR (qf hB (fu_93 _) ⟨rfl,rfl,rfl⟩ rfl (fun V V=>by kernel_rfl) rfl) (bR (qf hB (fu_100 _) ⟨rfl,rfl,rfl⟩ rfl (fun V V=>by kernel_rfl) rfl) (bR (qf hB (fu_142 _) ⟨rfl,rfl,rfl⟩ rfl (fun V V=>by kernel_rfl) rfl) (bR (qf hB (fu_149 _) ⟨rfl,rfl,rfl⟩ rfl (fun V V=>by kernel_rfl) rfl) (bR (qf hB (fu_156 _) ⟨rfl,rfl,rfl⟩ rfl (fun V V=>by kernel_rfl) rfl) (bR (qf hB (fu_163 _) ⟨rfl,rfl,rfl⟩ rfl (fun V V=>by kernel_rfl) rfl) (bR (qf hB (fu_177 _) ⟨rfl,rfl,rfl⟩ rfl (fun V V=>by kernel_rfl) rfl) (bR (qf hB (fu_185 _) ⟨rfl,rfl,rfl⟩ rfl (fun V V=>by kernel_rfl) rfl) (bR (qf hB (fu_214 _) ⟨rfl,rfl,rfl⟩ rfl (fun V V=>by kernel_rfl) rfl) (bR (qf hB (fu_379 _) ⟨rfl,rfl,rfl⟩ rfl (fun V V=>by kernel_rfl) rfl) (bR (qf hB (fu_421 _) ⟨rfl,rfl,rfl⟩ rfl (fun V V=>by kernel_rfl) rfl) (bR (qf hB (fu_500 _) ⟨rfl,rfl,rfl⟩ rfl (fun V V=>by kernel_rfl) rfl) (bR (qf hB (fu_879 _) ⟨rfl,rfl,rfl⟩ rfl (fun V V=>by kernel_rfl) rfl) (bR (qf hB (fu_886 _) ⟨rfl,rfl,rfl⟩ rfl (fun V V=>by kernel_rfl) rfl) (bR (qf hB (fu_922 _) ⟨rfl,rfl,rfl⟩ rfl (fun V V=>by kernel_rfl) rfl) (bR (qf hB (fu_929 _) ⟨rfl,rfl,rfl⟩ rfl (fun V V=>by kernel_rfl) rfl) (bR (qf hB (fu_990 _) ⟨rfl,rfl,rfl⟩ rfl (fun V V=>by kernel_rfl) rfl) (okF_nil))))))))))))))))))
theorem kes_ok:okK C (jB C.w.params):=dW hB (oF _) ⟨rfl,rfl,rfl⟩ rfl (fun V V V=>by kernel_rfl) rfl (dW hB (oF _) ⟨rfl,rfl,rfl⟩ rfl (fun V V V=>by kernel_rfl) rfl (dW hB (oF _) ⟨rfl,rfl,rfl⟩ rfl (fun V V V=>by kernel_rfl) rfl (dW hB (oF _) ⟨rfl,rfl,rfl⟩ rfl (fun V V V=>by kernel_rfl) rfl (dW hB (oF _) ⟨rfl,rfl,rfl⟩ rfl (fun V V V=>by kernel_rfl) rfl (dW hB (oF _) ⟨rfl,rfl,rfl⟩ rfl (fun V V V=>by kernel_rfl) rfl (dW hB (vh _) ⟨rfl,rfl,rfl⟩ rfl (fun V V V=>by kernel_rfl) rfl (dW hB (vh _) ⟨rfl,rfl,rfl⟩ rfl (fun V V V=>by kernel_rfl) rfl (dW hB (vh _) ⟨rfl,rfl,rfl⟩ rfl (fun V V V=>by kernel_rfl) rfl (dW hB (vh _) ⟨rfl,rfl,rfl⟩ rfl (fun V V V=>by kernel_rfl) rfl (dW hB (fu_285 _) ⟨rfl,rfl,rfl⟩ rfl (fun V V V=>by kernel_rfl) rfl (dW hB (fu_908 _) ⟨rfl,rfl,rfl⟩ rfl (fun V V V=>by kernel_rfl) rfl (fun V h=>nomatch h))))))))))))
end
noncomputable def η0:Nat->Obj->Prop:=fun V V=>False
theorem sub_map(H:List AO):∀ η,sub η (H.map .o)=H:=by
 induction H with
 |nil=>exact fun V=>rfl
 |cons x r ih=>exact fun η=>congrArg (x::·) (ih _)
noncomputable def fin(n0:Nat)(js:List Nat)(hl:Nat)(v':AV)(O':List AO)(v:AV)(H':List HO):Prop:=(FT n0 (sub η0 H') js&&v.inB js)=true∧v.fC js hl=v'∧qJ (sub η0 H') js hl=O'
noncomputable def fin0(v:AV)(O:List AO):Prop:=true=true∧v=v∧O=O
theorem eX{v:AV}{O:List AO}:fin0 v O:=⟨rfl,rfl,rfl⟩
section
variable{C:Cx}{d u n:Nat}{H H₀ O':List AO}{fr:List (Addr×FE)}{a:Addr}{as:List AV}{kw:ao}{v':AV}{q:Prop->Prop}{es js:List Nat}
theorem jM(zk:Int)(hB:Bs C)(hd:d+n<recursionLimit)(e:(iv C.w.params H₀.length zk (mj C.w.params) (jB C.w.params) n).ca a as kw (H₀.map .o) (fin H₀.length js H.length v' O')=q (fin0 v' O'))(z:q (fin0 v' O'))
 (he:es.map (fun j=>H[j]?)=H₀.map fun(o:AO)=>some (o.jF es)) (hb:(H₀.all (·.bd H₀.length)&&(as.all (·.bd H₀.length)&&kw.all (fun p=>p.2.bd H₀.length)))=true):
 JC C d u H fr (.glob (.ref a)) (as.map (·.jF es)) (kw.map fun p=>(p.1,p.2.jF es)) v' (H++O'):=.mk fun α s x args R hx hva hkw Q hQ=>by
 have b1:=Bool.and_eq_true_iff.mp hb
 have b2:=Bool.and_eq_true_iff.mp b1.2
 obtain⟨α0,R0,M,hl⟩:=R.small he b1.1
 have hB0:Bs (C.at s H₀.length):=hB.at R _
 refine(iv_ok (zk:=zk) hB0 rfl (fns_ok hB0) (kes_ok hB0) n).ca (e.symm▸z) fun v H' hf hs=>?_
 have J:=hs ⟨0,0,[],d,u,η0⟩ hd
 dsimp only at J
 rw[sub_map]at J
 refine J.run α0 s x args R0 hx (bM.gK M hva (by rw[hl];exact b2.1)) (aW.gK M hkw (by rw[hl];exact b2.2)) Q fun α1 sE y E R1 r=>?_
 have p:=Bool.and_eq_true_iff.mp hf.1
 obtain⟨as',R2,MF⟩:=R.pick R1 p.1
 exact hQ _ sE y ⟨as',rfl⟩ (hf.2.2▸R2) (hf.2.1▸r.fC MF p.2)
end
section
variable{prog:Program}{w:World}{A:Around}{R:GenEnd}{Y:Protocol}{n:Nat}{sH:Shared}{c:Code}{fs:List Frame}{s:Shared}{env:Env}
 {K:Flow->Sem Fin} {Hh:Value->Sem Fin} {gd:Bool->Bool} {lv:List Value->List Value}
noncomputable def lN(K:Flow->Sem Fin)(Hh:Value->Sem Fin)(gd:Bool->Bool)(lv:List Value->List Value)(env:Env)(r:Result):Sem Fin:=
 ((match r with|.ok f=>(.pure f:Sem Flow)|.error e=>.raise e).onRaise fun(x:Value)=>do
  if(←field x 1)==Value.none then unsupported "frame.own-activation:exception-without-traceback"
  setFlight x env.frame).wrap K Hh gd lv
theorem sFor{target iter:Expr}{body:List Stmt}{pos:Pos}
 (h:wpAny (model prog w) (A.over c fs) (eval iter env) (fun x sE=>wpAny (model prog w) (A.over c fs) (pyIter x) (fun it sG=>∀ p,Seg (model prog w) A R Y n sH (.forLoop target it body [] env) ((model prog w).den (.forLoop target it body [] env))
  (.ret (lN K Hh gd lv env) none (gd false) (lv []) c p []::fs) sG) bf sE) bf s) (hs:∀ x,foldedSetIterable iter env x=pure x):
 Seg (model prog w) A R Y n sH c ((exec (.For target iter body [] pos) env).wrap K Hh gd lv) fs s:=by
 rw[exec_For]
 refine seg_at (k:=fun V=>((do
  let x←foldedSetIterable iter env (←eval iter env)
  standAt iter.pos
  runOwn (.forLoop target (←holding [x] (pyIter x)) body [] env) env:Sem Flow).wrap K Hh gd lv)) ?_
 have e:(do
  let x←foldedSetIterable iter env (←eval iter env)
  standAt iter.pos
  runOwn (.forLoop target (←holding [x] (pyIter x)) body [] env) env:Sem Flow)=((do
   let v←eval iter env
   let x←foldedSetIterable iter env v
   standAt iter.pos
   holding [x] (pyIter x))>>= fun it=>runOwn (.forLoop target it body [] env) env):=by simp only[bind_assoc]
 rw[e,Sem.bind_eq_wrap',Sem.wrap_wrap]
 refine seg_wrap (cY (wpAny_bind (wpAny_mono h (fun x sE h₁=>?_) fun V V z=>z)))
 refine wpAny_bind (wpAny_of_eq (hs x) (wpAny_bind (wpAny_standAt (wpAny_holding (wpAny_mono h₁ (fun it sG h₂=>?_) fun V V z=>z)))))
 exact seg_call h₂
noncomputable def Gd(target:Expr)(it:Value)(body:List Stmt)(env:Env):Flow->Sem Fin
 |.next|.cont=>.pure (.again (.forLoop target it body [] env))
 |.brk=>.pure (.done .next)
 |.ret v=>.pure (.done (.ret v))
noncomputable def Ge(env:Env)(e:Value):Sem Fin:=(do noteFrame e env;theTreesLotGoes e:Sem Unit).wrap (fun V=>.raise e) .raise id id
theorem jK{target:Expr}{it:Value}{body:List Stmt}
 (h:wpAny (model prog w) (A.over (.forLoop target it body [] env) fs) (pyNext it) (fun r s'=>match r with
  |none=>Seg (model prog w) A R Y n sH (.block [] env) ((model prog w).den (.block [] env)) fs s'
  |some v=>wpAny (model prog w) (A.over (.forLoop target it body [] env) fs) (do letOwnedTupleGo target it v;PySem.assign target env v) (fun V s''=>
   Seg (model prog w) A R Y n sH (.forLoop target it body [] env) ((execs body env).wrap (Gd target it body env) (Ge env) id id) fs s'') bf s') bf s):
 Seg (model prog w) A R Y n sH (.forLoop target it body [] env) ((model prog w).den (.forLoop target it body [] env)) fs s:=by
 show Seg _ A R Y n sH _ ((forTurn target it body [] env).onRaise (fun x=>do noteFrame x env;theTreesLotGoes x)) fs s
 unfold forTurn
 rw[Sem.onRaise_eq_wrap]
 refine seg_at (k:=fun V=>(((pyNext it).onRaise (fun V=>standAt {target.pos with line:=0})>>= fun r=>(match r with
  |none=>again (.block [] env)
  |some v=>(do
   letOwnedTupleGo target it v
   PySem.assign target env v
   match←execs body env with
   |.next|.cont=>again (.forLoop target it body [] env)
   |.brk=>pure (.done .next)
   |.ret v=>pure (.done (.ret v))):Sem Fin)).wrap .pure (fun e=>(do noteFrame e env;theTreesLotGoes e:Sem Unit).bind fun V=>.raise e) id id)) ?_
 rw[Sem.bind_eq_wrap',Sem.wrap_wrap]
 refine seg_wrap (cY (jf (wpAny_mono h (fun r sE h₁=>?_) fun V V z=>z)))
 cases r with
 |none=>exact seg_again rfl h₁
 |some v=>
  have e:(do
   letOwnedTupleGo target it v
   PySem.assign target env v
   match←execs body env with
   |.next|.cont=>again (.forLoop target it body [] env)
   |.brk=>pure (.done .next)
   |.ret v=>pure (.done (.ret v)):Sem Fin)=((do letOwnedTupleGo target it v;PySem.assign target env v)>>= fun V=>(execs body env>>= fun f=>match f with
   |.next|.cont=>again (.forLoop target it body [] env)
   |.brk=>pure (.done .next)
   |.ret v=>pure (.done (.ret v)))):=by simp only[bind_assoc]
  show Seg _ _ _ _ _ _ _ (Sem.wrap _ _ _ _ _) _ _
  dsimp only
  rw[e,Sem.bind_eq_wrap',Sem.wrap_wrap]
  refine seg_wrap (cY (wpAny_mono h₁ (fun V sG h₂=>?_) fun V V z=>z))
  rw[Sem.bind_eq_wrap',Sem.wrap_wrap]
  rw[Sem.wrap_congr (execs body env) _ _ (K':=Gd target it body env) (H':=Ge env) (fun f=>by cases f<;>rfl) (fun e=>by
   show(do noteFrame e env;theTreesLotGoes e:Sem Unit).bind (fun V=>.raise e)=_
   rw[Sem.bind_eq_wrap];rfl)]
  exact h₂
theorem vX{p:Pos}{g:Bool}{l:List Value}(h:Seg (model prog w) A R Y n sH c (K .next) fs s):
 Seg (model prog w) A R Y n sH (.block [] env) ((model prog w).den (.block [] env)) (.ret (lN K Hh gd lv env) none g l c p []::fs) s:=by
 show Seg _ A R Y n sH _ (leafOf (.ok .next)) _ s
 exact seg_leaf _ h
theorem qH{target:Expr}{it:Value}{body:List Stmt}(h:Seg (model prog w) A R Y n sH (.forLoop target it body [] env) ((model prog w).den (.forLoop target it body [] env)) fs s):
 Seg (model prog w) A R Y n sH (.forLoop target it body [] env) ((execs [] env).wrap (Gd target it body env) (Ge env) id id) fs s:=seg_again rfl h
theorem gR{st:Stmt}{rest:List Stmt}(h:Seg (model prog w) A R Y n sH c ((exec st env).wrap (fun f=>match f with|.next=>(execs rest env).wrap K Hh gd lv|f=>K f) Hh gd lv) fs s):
 Seg (model prog w) A R Y n sH c ((execs (st::rest) env).wrap K Hh gd lv) fs s:=seg_execs_cons h
theorem lX{st:Stmt}(h:wpAny (model prog w) (A.over c fs) (exec st env) (fun f s'=>Seg (model prog w) A R Y n sH c (K f) fs s') bf s):Seg (model prog w) A R Y n sH c ((exec st env).wrap K Hh gd lv) fs s:=seg_wrap (cY h)
end
inductive ak where
 |note (c n w t:Int)
 |oK (c n w t:Int)
 |prog (c n t:Int)
 |text (x:Str) (t:Int)
 |eot (t:Int)
namespace ak
noncomputable def cls:ak->Addr
 |note .. |oK .. |prog .. =>330
 |_=>949
noncomputable def fields:ak->List (Str×AV)
 |note c n w t=>[(aP,.str qG),(au,.int t),(bI,.int c),(lW,.int n),(iQ,.int w)]
 |oK c n w t=>[(aP,.str jd),(au,.int t),(bI,.int c),(iC,.int n),(fK,.int w)]
 |prog c n t=>[(aP,.str jc),(au,.int t),(bI,.int c),(iB,.int n)]
 |text x t=>[(aP,.str j4),(j4,.str x),(au,.int t)]
 |eot t=>[(aP,.str bG),(au,.int t)]
noncomputable def time:ak->Int
 |note _ _ _ t|oK _ _ _ t|prog _ _ t|text _ t|eot t=>t
noncomputable def wt(t':Int):ak->ak
 |note c n w _=>note c n w t'
 |oK c n w _=>oK c n w t'
 |prog c n _=>prog c n t'
 |text x _=>text x t'
 |eot _=>eot t'
noncomputable def ok:ak->Prop
 |note c n w _|oK c n w _=>(0≤c∧c≤15)∧(0≤n∧n≤127)∧(0≤w∧w≤127)
 |prog c n _=>(0≤c∧c≤15)∧(0≤n∧n≤127)
 |_=>True
noncomputable def fB:ak->Bool
 |eot _=>true
 |_=>false
noncomputable def small(m:ak):List AO:=[.dict m.fields,.dict [(aR,.ref 0)],.inst m.cls 1]
theorem G3{m:ak}(h:m.ok)(t:Int):(m.wt t).ok:=by cases m<;>exact h
end ak
section
variable(pr:Program)(w:World)
noncomputable def eN(X:Addr->Prop)(h:Heap)(v:Value)(m:ak):Prop:=
 ∃ f k a,v=.ref a∧(X f∧X k∧X a)∧(sysModules<f∧sysModules<k∧sysModules<a)∧
  OR pr w [f,k,a] h f (.dict m.fields)∧OR pr w [f,k,a] h k (.dict [(aR,.ref 0)])∧OR pr w [f,k,a] h a (.inst m.cls 1)
end
section
variable{pr:Program}{w:World}
theorem OR.keeps{α:List Addr}{h h':Heap}{a:Addr}{o:AO}(k:∀ b x,h.get? b=some x->h'.get? b=some x)(r:OR pr w α h a o):OR pr w α h' a o:=by
 obtain⟨y,hy⟩:=r.get
 exact r.congr ((k _ _ hy).trans hy.symm)
theorem OR.m7{α:List Addr}{h h':Heap}{a:Addr}{o:AO}{X:Addr->Prop}(k:∀ b x,X b->h.get? b=some x->h'.get? b=some x)(hX:X a)(r:OR pr w α h a o):OR pr w α h' a o:=by
 obtain⟨y,hy⟩:=r.get
 exact r.congr ((k _ _ hX hy).trans hy.symm)
theorem eN.keeps{X X':Addr->Prop}{h h':Heap}{v:Value}{m:ak}(k:∀ b x,X b->h.get? b=some x->h'.get? b=some x)(hX:∀ b x,X b->h.get? b=some x->X' b)(r:eN pr w X h v m):eN pr w X' h' v m:=by
 refine gG fun P_ k_=>?_
 obtain⟨f,k',a,e,⟨x1,x2,x3⟩,s,r1,r2,r3⟩:=r
 obtain⟨y1,h1⟩:=r1.get
 obtain⟨y2,h2⟩:=r2.get
 obtain⟨y3,h3⟩:=r3.get
 refine k_ ?_
 exact⟨f,k',a,e,⟨hX _ _ x1 h1,hX _ _ x2 h2,hX _ _ x3 h3⟩,s,r1.m7 k x1,r2.m7 k x2,r3.m7 k x3⟩
end
structure Mv(own:List Addr)(og:List Nat)(s s':Shared):Prop where
 heap:∀ b o,b∉own->s.heap.get? b=some o->s'.heap.get? b=some o
 gens:∀(i:Nat) (x:GenState),i∉og->s.gens[i]? =some x->s'.gens[i]? =some x
 drawn:lw s'=lw s
 os:s'.os=s.os
structure eG(own:List Addr)(og:List Nat)(s s':Shared):Prop where
 heap:∀ b∈own,∀ o,s.heap.get? b=some o->s'.heap.get? b=some o
 gens:∀ i∈og,∀ x:GenState,s.gens[i]? =some x->s'.gens[i]? =some x
noncomputable def aU(B:Heap)(s:Shared):Prop:=∀ b o,B.get? b=some o->s.heap.get? b=some o
theorem Mv.refl{own:List Addr}{og:List Nat}(s:Shared):Mv own og s s:=⟨fun V V V e=>e,fun V V V e=>e,rfl,rfl⟩
theorem Mv.trans{own:List Addr}{og:List Nat}{s s' s'':Shared}(x:Mv own og s s')(y:Mv own og s' s''):Mv own og s s'':=
 ⟨fun b o hb e=>y.heap b o hb (x.heap b o hb e),fun i z hi e=>y.gens i z hi (x.gens i z hi e),y.drawn.trans x.drawn,y.os.trans x.os⟩
theorem Mv.mono{own own':List Addr}{og og':List Nat}{s s':Shared}(x:Mv own og s s')(h:∀ b o,b∈own->s.heap.get? b=some o->b∈own')(hg:∀ i∈og,i∈og'):Mv own' og' s s':=
 ⟨fun b o hb e=>x.heap b o (fun hm=>hb (h b o hm e)) e,fun i z hi e=>x.gens i z (fun hm=>hi (hg i hm)) e,x.drawn,x.os⟩
section
variable(pr:Program)(w:World)(d u:Nat)(B:Heap)(itv:Value)
noncomputable def NewX(s:Shared)(own:List Addr)(b:Addr):Prop:=b∉own∧((∃ o,B.get? b=some o)∨s.heap.get? b=none)
noncomputable def qt(own:List Addr)(og:List Nat):List ak->Shared->Prop
 |[],s=>∀ Q:Option Value->Shared->Prop,aU B s->(∀ s',Mv own og s s'->Q none s')->wpAny (model pr w) (Ar d u) (pyNext itv) Q bf s
 |m::r,s=>∀ Q:Option Value->Shared->Prop,aU B s->(∀ s' v,Mv own og s s'->eN pr w (NewX B s own) s'.heap v m->(∀ b∈own,∃ o,s'.heap.get? b=some o)->(∀ s'',eG own og s' s''->aU B s''->qt own og r s'')->Q (some v) s')->
  wpAny (model pr w) (Ar d u) (pyNext itv) Q bf s
noncomputable def CK(s:Shared)(own own':List Addr)(b:Addr):Prop:=b∉own'∧((∃ o,B.get? b=some o)∨s.heap.get? b=none∨b∈own)
noncomputable def nu(own:List Addr)(og:List Nat):List ak->Shared->Prop
 |[],s=>∀ Q:Option Value->Shared->Prop,aU B s->(∀ s',Mv own og s s'->Q none s')->wpAny (model pr w) (Ar d u) (pyNext itv) Q bf s
 |m::r,s=>∀ Q:Option Value->Shared->Prop,aU B s->(∀ s' v own',(∀ b∈own',b∈own)->Mv own og s s'->eN pr w (CK B s own own') s'.heap v m->(∀ s'',eG own' og s' s''->aU B s''->nu own' og r s'')->Q (some v) s')->
  wpAny (model pr w) (Ar d u) (pyNext itv) Q bf s
noncomputable def Itb(own:List Addr)(og:List Nat)(ms:List ak)(s:Shared):Prop:=
 ∀(dF u1:Nat) (Q:Value->Shared->Prop),aU B s->(∀ s' it,(∀ b o,s.heap.get? b=some o->s'.heap.get? b=some o)->s'.gens=s.gens->lw s'=lw s->s'.os=s.os->qt pr w d u B it (s.heap.objs.size::own) og ms s'->Q it s')->wpAny (model pr w) (Ar dF u1) (pyIter itv) Q bf s
end
section
variable{pr:Program}{w:World}{d u:Nat}{B:Heap}{itv:Value}
theorem qt.toF{own:List Addr}{og:List Nat}:∀{ms:List ak} {s:Shared},qt pr w d u B itv own og ms s->nu pr w d u B itv own og ms s
 |[],_,h=>h
 |_::_,_,h=>fun Q hk hQ=>h Q hk fun s' v hM hV V hN=>hQ s' v own (fun V x=>x) hM (hV.keeps (fun V V V e=>e) fun b x hX V=>⟨hX.1,hX.2.imp_right .inl⟩) fun s'' hS hk'=>(hN s'' hS hk').toF
end
inductive nF(pr:Program)(w:World)(B:Heap):List Value->List ak->Prop
 |nil:nF pr w B [] []
 |cons {v m vs ms}:eN pr w (fun V=>True) B v m->nF pr w B vs ms->nF pr w B (v::vs) (m::ms)
theorem nF.len{pr:Program}{w:World}{B:Heap}{vs:List Value}{ms:List ak}(h:nF pr w B vs ms):vs.length=ms.length:=by
 induction h with
 |nil=>rfl
 |cons _ _ ih=>simp[ih]
theorem zG{pr:Program}{w:World}{d u:Nat}{B:Heap}{l it:Addr}{vs:List Value}(hl:∃ n,B.get? l=some ⟨.type "list",none,.seq vs.toArray n,#[]⟩)(hB:B.get? it=none):
 ∀(ms:List ak) (i:Nat) (s:Shared),nF pr w B (vs.drop i) ms->i≤vs.length->s.heap.IsListIter it l i->qt pr w d u B (.ref it) [it] [] ms s
 |[],i,s,hm,hi,hit=>fun Q hk hQ=>by
  obtain⟨n,hl⟩:=hl
  have hend:vs.length≤i:=by have:=hm.len;simp at this;exact o21 this
  have hL:s.heap.IsList l vs.toArray:=⟨_,hk _ _ hl,rfl,n,rfl⟩
  exact wpAny_pyNext_list_end rfl hit hL (by simpa using hend) fun h' he=>hQ _ ⟨fun b o hb e=>he b o (fun z=>hb (by simp[z])) e,fun V V V e=>e,rfl,rfl⟩
 |m::ms,i,s,hm,hi,hit=>fun Q hk hQ=>by
  obtain⟨n,hl'⟩:=hl
  have hL:s.heap.IsList l vs.toArray:=⟨_,hk _ _ hl',rfl,n,rfl⟩
  have hlt:i<vs.length:=by have:=hm.len;simp at this;exact o22 hi this
  have hd:vs.drop i=vs[i]::vs.drop (i+1):=List.drop_eq_getElem_cons hlt
  rw[hd]at hm
  cases hm with
  |cons hv hms=>
   refine wpAny_pyNext_list_item hit hL (x:=vs[i]) (by simp[hlt]) fun h' hit' hsb=>hQ _ _ ⟨fun b o hb e=>(hsb.2 b (fun z=>hb (by simp[z]))).trans e,fun V V V e=>e,rfl,rfl⟩ ?_ (fun b hb=>by rw[List.mem_singleton.mp hb];obtain⟨o,g,V⟩:=hit';exact⟨o,g⟩) fun s'' hS hk''=>?_
   · refine hv.keeps (fun b x V e=>(hsb.2 b (fun z=>by rw[z,hB]at e;cases e)).trans (hk _ _ e)) fun b x V e=>⟨fun hm=>?_,.inl ⟨x,e⟩⟩
     rw[List.mem_singleton.mp hm,hB]at e
     cases e
   · refine zG ⟨n,hl'⟩ hB ms (i+1) s'' hms hlt ?_
     obtain⟨o,g1,g2,g3⟩:=hit'
     exact⟨o,hS.heap it (.head _) o g1,g2,g3⟩
theorem Bc{pr:Program}{w:World}{d u:Nat}{B:Heap}{l:Addr}{vs:List Value}{ms:List ak}{s:Shared}(hl:∃ n,B.get? l=some ⟨.type "list",none,.seq vs.toArray n,#[]⟩)(hm:nF pr w B vs ms):Itb pr w d u B (.ref l) [] [] ms s:=fun dF u1 Q hk hQ=>by
 have hB:B.get? s.heap.objs.size=none:=by
  cases e:B.get? s.heap.objs.size with
  |none=>rfl
  |some o=>exact absurd (Heap.lt_size (hk _ _ e)) (Nat.lt_irrefl _)
 obtain⟨n,hl'⟩:=id hl
 refine wpAny_pyIter_list ⟨_,hk _ _ hl',rfl,n,rfl⟩ (hQ _ _ (fun b o e=>Heap.get?_push_of_some _ e) rfl rfl rfl ?_)
 exact zG hl hB ms 0 _ (by simpa using hm) (Nat.zero_le _) ⟨_,Heap.get?_push_size _ rfl,rfl,rfl⟩
section
variable(pr:Program)(w:World)(B:Heap)(own:List Addr)(og:List Nat)(outs:List ak)
noncomputable def YY:Protocol:=fun j sH v s' κ=>∃ m r,outs.drop (outs.length - (j+1))=m::r∧Mv own og sH s'∧eN pr w (NewX B sH own) s'.heap v m∧(∀ b∈own,∃ o,s'.heap.get? b=some o)∧
 ∀ s'',eG own og s' s''->aU B s''->κ (.send .none) s''
noncomputable def PP:Nat->Shared->Shared->Prop:=fun n sH s'=>n=0∧Mv own og sH s'
noncomputable abbrev RR:GenEnd:=fun n sH r sE=>r=.ok (.ret .none)∧PP own og n sH sE
end
section
variable{pr:Program}{w:World}{d u:Nat}{B:Heap}{own:List Addr}{og:List Nat}{outs:List ak}
theorem Mv.keep{s s':Shared}(x:Mv own og s s')(hk:aU B s)(hB:∀ b∈own,B.get? b=none):aU B s':=fun b o e=>x.heap b o (fun hm=>by rw[hB b hm]at e;cases e) (hk b o e)
theorem eG.refl(s:Shared):eG own og s s:=⟨fun V V V e=>e,fun V V V e=>e⟩
theorem iM{s:Shared}{g:Nat}{x y:GenState}(h:s.gens[g]? =some y):(s.setGen g x).gens[g]? =some x:=by
 have hl:g<s.gens.size:=by
  rcases Nat.lt_or_ge g s.gens.size with q|q
  · exact q
  · rw[Array.getElem?_eq_none q]at h;cases h
 show(s.gens.setIfInBounds g x)[g]? =some x
 rw[Array.getElem?_setIfInBounds_self_of_lt hl]
theorem bY{s:Shared}{g i:Nat}{x:GenState}(h:g≠i):(s.setGen g x).gens[i]? =s.gens[i]?:=by
 show(s.gens.setIfInBounds g x)[i]? =_
 rw[Array.getElem?_setIfInBounds_ne h]
theorem Fd{α:Type}(f:α->Bool):∀(l:List α) (g:Nat) (x y:α),l[g]? =some y->f y=false->f x=false->(l.set g x).any f=l.any f
 |[],_,_,_,h,_,_=>by simp at h
 |z::l,0,x,y,h,hy,hx=>by
  simp only[List.getElem?_cons_zero,Option.some.injEq]at h
  subst h
  simp[hx,hy]
 |z::l,g+1,x,y,h,hy,hx=>by
  simp only[List.getElem?_cons_succ]at h
  simp only[List.set_cons_succ,List.any_cons,Fd f l g x y h hy hx]
noncomputable def jl(x:GenState):Bool:=@GenState.casesOn (fun V=>Bool) x (fun V=>false) (fun V V V V V c=>c) false false
theorem Cp:∀ x:GenState,x.bare= !jl x:=fun x=>@GenState.casesOn (fun x=>x.bare= !jl x) x (fun V=>rfl) (fun V V V V V V=>rfl) rfl rfl
theorem uT{x:GenState}(h:x.bare=true):jl x=false:=by rw[Cp]at h;exact(Bool.not_eq_true' _).mp h
theorem lwg(g:Array GenState):leftWithCleanup g=g.any jl:=congrArg (fun f=>g.any f) (funext fun x=>by cases x<;>rfl)
theorem yG(s:Shared):lw s=s.gens.toList.any jl:=(lwg _).trans Array.any_toList.symm
theorem gJ{s:Shared}{g:Nat}{x y:GenState}(h:s.gens[g]? =some y)(hy:y.bare=true)(hx:x.bare=true):lw (s.setGen g x)=lw s:=by
 rw[yG,yG]
 show(s.gens.setIfInBounds g x).toList.any jl=_
 rw[Array.toList_setIfInBounds]
 exact Fd jl _ g x y (by rw[Array.getElem?_toList];exact h) (uT hy) (uT hx)
theorem jR{s:Shared}{a:Addr}{g n:Nat}{gs:GenState}{P:Nat->Shared->Shared->Prop}{Y:Protocol}{Q:Option Value->Shared->Prop}(hl:s.heap.NoLimit)(hroom:d<recursionLimit)(hg:s.heap.IsGen a g)(hgs:s.gens[g]? =some gs)
 (hgo:gs.Goes (model pr w) (Ar d u).in1 (fun n sH r sE=>r=.ok (.ret .none)∧P n sH sE) Y n (.send .none) (s.setGen g .running))
 (hY:∀ v sE gs',gs'.bare=true->Y (n - 1) (s.setGen g .running) v sE (fun r' s''=>match n with|0=>False|m+1=>gs'.Goes (model pr w) (Ar d u).in1 (fun n sH r sE=>r=.ok (.ret .none)∧P n sH sE) Y m r' s'')->Q (some v) (sE.setGen g gs'))
 (hP:∀ sE,P n (s.setGen g .running) sE->∀ h',(∀ b o,sE.heap.get? b=some o->h'.get? b=some o)->Q none {sE.setGen g .finished with heap:=h'}):wpAny (model pr w) (Ar d u) (pyNext (.ref a)) Q bf s:=by
 unfold pyNext
 refine wpAny_bind (wpAny_attempt (wpAny_callSpecial?_slot (name:=Str.ofString "__next__") hg.typeIs slot_gen_next (wpAny_call_entry slot_gen_next hg.typeIs entry_gen_next ?_ (args_gen_next _))))
 show wpAny _ (Ar d u).in1 (Builtin.Generator.genWake (.ref a) (.send .none)) _ _ s
 unfold Builtin.Generator.genWake
 refine wpAny_bind (wpAny_holding (wpAny_genNumber hg (wpAny_bind (wpAny_genState hgs ?_))))
 cases gs with
 |running=>exact hgo.elim
 |finished=>exact hgo.elim
 |_=>
  refine wpAny_bind (wpAny_roomToWake hl hroom ?_)
  show wpAny _ _ (.resume g (.send .none) [] _) _ _ s
  refine wpAny_resumeQ hgs hgo (fun x sE hx=>?_) fun v sE gs' hb hv=>wpAny_pure ⟨v,rfl,wpAny_pure (hY v sE gs' hb hv)⟩
  obtain⟨rfl,hp⟩:=hx
  show wpAny _ _ (newExc (.type "StopIteration") []>>= _) _ _ _
  refine wpAny_bind ?_
  simp only[newExc,newTuple]
  refine wpAny_bind (wpAny_newObj_type ?_)
  refine wpAny_bind (m:=firstArgMember _ _) (wpAny_of_eq (a:=Value.none) (by first|rfl|(simp only[firstArgMember];rfl)) ?_)
  refine wpAny_newObj_type ?_
  refine wpAny_bind (wpAny_bind (wpAny_handled (wpAny_throw ?_)))
  refine wpAny_bind (wpAny_isInstance (T:="StopIteration") (b:=true) ⟨_,Heap.get?_push_size _ rfl,rfl⟩ isSubtype_stop ?_)
  exact wpAny_pure (hP sE hp _ fun b o hb=>Heap.get?_push_of_some _ (Heap.get?_push_of_some _ hb))
theorem wD{own':List Addr}{a:Addr}{g:Nat}(ha:a∉own)(hown:∀ b,b∈own'↔b=a∨b∈own)(hg:g∉og)(hB:∀ b∈own',B.get? b=none)(hlim:B.NoLimit)(hd:d<recursionLimit):∀(n:Nat) (gs:GenState) (s:Shared),n≤outs.length->gs.bare=true->s.heap.IsGen a g->s.gens[g]? =some gs->
 gs.Goes (model pr w) (Ar d u).in1 (RR own og) (YY pr w B own og outs) n (.send .none) (s.setGen g .running)->qt pr w d u B (.ref a) own' (g::og) (outs.drop (outs.length - n)) s
 |0,gs,s,hn,hgb,hG,hgs,hgo=>by
  rw[Nat.sub_zero,List.drop_length]
  refine fun Q hk hQ=>jR (n:=0) (hlim.keeps hk) hd hG hgs hgo (fun v sE gs' hb' hv=>?_) fun sE hp h' hh=>?_
  · refine gG fun P_ k_=>?_
    obtain⟨m,r,V,hM,V,V,hκ⟩:=hv
    refine k_ ?_
    exact(hκ sE (eG.refl _) (hM.keep (show aU B (s.setGen g .running)from hk) fun b hb=>hB b ((hown b).mpr (.inr hb)))).elim
  · obtain⟨V,hM⟩:=hp
    refine hQ _ ⟨fun b o hb e=>hh b o (hM.heap b o (fun hm=>hb ((hown b).mpr (.inr hm))) e),fun i x hi e=>?_,(gJ (hM.gens g _ hg (iM hgs)) rfl rfl).trans (hM.drawn.trans (gJ hgs hgb rfl)),hM.os⟩
    have hne:g≠i:=fun z=>hi (by simp[z])
    show(sE.setGen g .finished).gens[i]? =some x
    rw[bY hne]
    exact hM.gens i x (fun hm=>hi (.tail _ hm)) (by rw[bY hne];exact e)
 |n+1,gs,s,hn,hgb,hG,hgs,hgo=>by
  have hlt:outs.length - (n+1)<outs.length:=by exact o23 hn
  have hdr:outs.drop (outs.length - (n+1))=outs[outs.length - (n+1)]::outs.drop (outs.length - n):=by
   rw[List.drop_eq_getElem_cons hlt]
   congr 2
   exact o24 hn
  rw[hdr]
  refine fun Q hk hQ=>jR (n:=n+1) (hlim.keeps hk) hd hG hgs hgo (fun v sE gs' hb' hv=>?_) fun sE hp=>(Nat.succ_ne_zero _ hp.1).elim
  refine gG fun P_ k_=>?_
  obtain⟨m,r,e,hM,hV,hL,hκ⟩:=hv
  refine k_ ?_
  rw[show n+1 - 1+1=n+1 from rfl,hdr]at e
  injection e with e1 e2
  subst e1
  have hg1:sE.gens[g]? =some .running:=hM.gens g _ hg (iM hgs)
  refine gG fun P_ k_=>?_
  obtain⟨o,nm,qn,g1,g2⟩:=hG
  refine k_ ?_
  have ga:sE.heap.get? a=some o:=hM.heap a o ha g1
  refine hQ (sE.setGen g gs') v ⟨fun b o hb e=>hM.heap b o (fun hm=>hb ((hown b).mpr (.inr hm))) e,fun i x hi e=>?_,(gJ hg1 rfl hb').trans (hM.drawn.trans (gJ hgs hgb rfl)),hM.os⟩ ?_ (fun b hb=>?_) fun s'' hS hk''=>?_
  · have hne:g≠i:=fun z=>hi (by simp[z])
    rw[bY hne]
    exact hM.gens i x (fun hm=>hi (.tail _ hm)) (by rw[bY hne];exact e)
  · refine hV.keeps (fun V V V e=>e) fun b x hX V=>⟨fun hm=>?_,hX.2⟩
    rcases(hown b).mp hm with rfl|hm
    · rcases hX.2 with⟨y,hy⟩|hy
      · rw[hB b ((hown b).mpr (.inl rfl))]at hy;cases hy
      · have hy:s.heap.get? b=none:=hy
        rw[g1]at hy;cases hy
    · exact hX.1 hm
  · rcases(hown b).mp hb with rfl|hb
    · exact⟨o,ga⟩
    · exact hL b hb
  · have Gr:s''.gens[g]? =some gs':=hS.gens g (.head _) _ (iM hg1)
    refine wD ha hown hg hB hlim hd n gs' s'' (Nat.le_of_succ_le hn) hb' ⟨o,nm,qn,hS.heap a ((hown a).mpr (.inl rfl)) o ga,g2⟩ Gr ?_
    refine hκ (s''.setGen g .running) ⟨fun b hb o e=>hS.heap b ((hown b).mpr (.inr hb)) o e,fun i hi x e=>?_⟩ hk''
    have hne:g≠i:=fun z=>hg (z▸hi)
    rw[bY hne]
    exact hS.gens i (.tail _ hi) x (by rw[bY hne];exact e)
end
section
variable{C:Cx}{d u:Nat}{α:List Addr}{H H1 H2 H3:List AO}{fr:List (Addr×FE)}{fd:FuncData}{fa L:Addr}{ρ ρ' ρ1:ao}{env:Env}{pos:Pos}
theorem Ex.aug{x:Str}{p:Pos}{value:Expr}{a b:Int}(hk:fd.scope.kind=.function)(hx:fd.scope.names.lookup x=some .local)(hρ:ρ.lookup x=some (.int a))
 (h:Ev C d u H ((L,.loc ρ)::fr) (eval value (callEnv fd L fa)) (.int b) H1):
 Ex C d u H L ρ fr (exec (.AugAssign (.Name x p) .Add value pos) (callEnv fd L fa)) .next H1 (put x (.int (a+b)) ρ):=.mk fun α s R Q hQ=>by
 refine gG fun P_ k_=>?_
 obtain⟨V,⟨m,hm,hl⟩,V⟩:=R.frs (L,.loc ρ) (.head _)
 refine k_ ?_
 have q:=hl x
 rw[hρ]at q
 obtain⟨y,e,r⟩:=q
 refine wpAny_AugAssign_Name (wpAny_loadName_local (env:=callEnv fd L fa) hk hx hm e (h.go R fun α1 sE z EY R1 rA=>?_))
 exact JF.then (E2.iadd (C:=C) (d:=d) (u:=u) (H:=H1) (fr:=(L,.loc ρ)::fr) (a:=a) (b:=b)) (x:=(y,z)) R1 ⟨r,rA⟩ fun α2 sG q Ec R2 rB=>R2.stores (fd:=fd) (fa:=fa) rB hx hk fun sI R3=>hQ α2 _ _ (EY.trans Ec) R3 rfl
end
namespace ak
noncomputable def Cg:ak->Addr
 |note .. |oK .. |prog .. =>285
 |_=>908
noncomputable def kind:ak->Str
 |note .. =>qG
 |oK .. =>jd
 |prog .. =>jc
 |text .. =>j4
 |eot .. =>bG
theorem fnCopy(C:Cx)(m:ak):FnF C m.cls j6 m.Cg:=by cases m<;>first|exact Di C|exact Dg C
theorem HD(C:Cx)(m:ak):jW C m.cls au 185:=by cases m<;>first|exact su C|exact rY C
theorem prType(C:Cx)(m:ak):jW C m.cls aP 177:=by cases m<;>first|exact rZ C|exact rW C
theorem kpCopy(P:Params)(m:ak):cu (KK P) (.ref m.Cg)=true:=by cases m<;>first|exact kp_285 P|exact kp_908 P
theorem Gk(m:ak):(m.kind==bG)=m.fB:=by cases m<;>rfl
theorem xP(m:ak)(n:Nat):(m.fields.all fun p=>p.2.bd n)=true:=by cases m<;>rfl
theorem za(m:ak)(t:Int):(m.wt t).cls=m.cls:=by cases m<;>rfl
theorem gZ(m:ak)(t:Int):(m.wt t).time=t:=by cases m<;>rfl
end ak
section
variable{C:Cx}(hB:Bs C){d u:Nat}{H:List AO}{fr:List (Addr×FE)}
noncomputable def chk(c n:Int)(q:Prop):Prop:=0≤c∧c≤15∧0≤n∧n≤127∧q
theorem vJ{c n:Int}{q:Prop}(h:(0≤c∧c≤15)∧(0≤n∧n≤127))(z:q):chk c n q:=⟨h.1.1,h.1.2,h.2.1,h.2.2,z⟩
noncomputable def chw(c n w:Int)(q:Prop):Prop:=chk c n (0≤w∧w≤127∧q)
theorem oM{c n w:Int}{q:Prop}(h:(0≤c∧c≤15)∧(0≤n∧n≤127)∧(0≤w∧w≤127))(z:q):chw c n w q:=vJ ⟨h.1,h.2.1⟩ ⟨h.2.2.1,h.2.2.2,z⟩
theorem jY{m:ak}{i k n:Nat}(h3:H[n]? =some (.inst m.cls k))(h2:H[k]? =some (.dict [(aR,.ref i)]))(h1:H[i]? =some (.dict m.fields)): [i,k,n].map (fun j=>H[j]?)=m.small.map fun(o:AO)=>some (o.jF [i,k,n]):=by
 show [H[i]?,H[k]?,H[n]?]=_
 rw[h1,h2,h3]
 cases m<;>rfl
theorem Kq{m:ak}(hok:m.ok){t':Int}{i k n:Nat}(hB:Bs C)(hd:d+100<recursionLimit)(h3:H[n]? =some (.inst m.cls k))(h2:H[k]? =some (.dict [(aR,.ref i)]))(h1:H[i]? =some (.dict m.fields)):
 JC C d u H fr (.glob (.ref m.Cg)) [.ref n] [(aj,.bool false),(au,.int t')] (.ref (H.length+2)) (H++[.dict (m.wt t').fields,.dict [(aR,.ref H.length)],.inst m.cls (H.length+1)]):=by
 cases m with
 |note c nn w t=>exact jM (as:=[.ref 2]) (kw:=[(aj,.bool false),(au,.int t')]) (js:=[10,7,8]) (q:=fun X=>chw c nn w (chw c nn w X)) 0 hB hd (by kernel_rfl) (oM hok (oM hok eX)) (jY h3 h2 h1) rfl
 |oK c nn w t=>exact jM (as:=[.ref 2]) (kw:=[(aj,.bool false),(au,.int t')]) (js:=[10,7,8]) (q:=fun X=>chw c nn w (chw c nn w X)) 0 hB hd (by kernel_rfl) (oM hok (oM hok eX)) (jY h3 h2 h1) rfl
 |prog c nn t=>exact jM (as:=[.ref 2]) (kw:=[(aj,.bool false),(au,.int t')]) (js:=[9,6,7]) (q:=fun X=>chk c nn (chk c nn X)) 0 hB hd (by kernel_rfl) (vJ hok (vJ hok eX)) (jY h3 h2 h1) rfl
 |text x t=>exact jM (as:=[.ref 2]) (kw:=[(aj,.bool false),(au,.int t')]) (js:=[43,5,6]) (q:=id) 0 hB hd (by kernel_rfl) eX (jY h3 h2 h1) rfl
 |eot t=>exact jM (as:=[.ref 2]) (kw:=[(aj,.bool false),(au,.int t')]) (js:=[43,5,6]) (q:=id) 0 hB hd (by kernel_rfl) eX (jY h3 h2 h1) rfl
theorem crunV{H:List AO}{f:AV}{as:List AV}{kw:ao}{v:AV}(h:JC C d u H fr f as kw v (H++[])):JC C d u H fr f as kw v H:=by rwa [List.append_nil]at h
theorem Aj{m:ak}{i k n:Nat}(hB:Bs C)(hd:d+10<recursionLimit)(h3:H[n]? =some (.inst m.cls k))(h2:H[k]? =some (.dict [(aR,.ref i)]))(h1:H[i]? =some (.dict m.fields)):
 JC C d u H fr (.glob (.ref 185)) [.ref n] [] (.int m.time) H:=by
 cases m<;>exact crunV (jM (as:=[.ref 2]) (kw:=[]) (js:=[]) (q:=id) 0 hB hd (by kernel_rfl) eX (jY h3 h2 h1) rfl)
theorem Ko{m:ak}{i k n:Nat}(hB:Bs C)(hd:d+10<recursionLimit)(h3:H[n]? =some (.inst m.cls k))(h2:H[k]? =some (.dict [(aR,.ref i)]))(h1:H[i]? =some (.dict m.fields)):
 JC C d u H fr (.glob (.ref 177)) [.ref n] [] (.str m.kind) H:=by
 cases m<;>exact crunV (jM (as:=[.ref 2]) (kw:=[]) (js:=[]) (q:=id) 0 hB hd (by kernel_rfl) eX (jY h3 h2 h1) rfl)
theorem Kp{m:ak}{i k n:Nat}(hB:Bs C)(hd:d+20<recursionLimit)(h3:H[n]? =some (.inst m.cls k))(h2:H[k]? =some (.dict [(aR,.ref i)]))(h1:H[i]? =some (.dict m.fields)):
 JC C d u H fr (.glob (.ref 214)) [.ref n] [] (.ref H.length) (H++[.dict m.fields]):=by
 cases m<;>exact jM (as:=[.ref 2]) (kw:=[]) (js:=[3]) (q:=id) 0 hB hd (by kernel_rfl) eX (jY h3 h2 h1) rfl
theorem lC{t:Int}(hB:Bs C)(hd:d+60<recursionLimit):JC C d u H fr (.glob (.ref 949)) [.str bG] [(au,.int t)] (.ref (H.length+2)) (H++[.dict (ak.eot t).fields,.dict [(aR,.ref H.length)],.inst 949 (H.length+1)]):=
 jM (H₀:=[]) (es:=[]) (as:=[.str bG]) (kw:=[(au,.int t)]) (js:=[38,0,1]) (q:=id) 0 hB hd (by kernel_rfl) eX rfl rfl
theorem Ev.mtime{o:Expr}{m:ak}{i k n:Nat}{p:Pos}{env:Env}(hB:Bs C)(hd:d+10<recursionLimit)(h:Ev C d u H fr (eval o env) (.ref n) H)(h3:H[n]? =some (.inst m.cls k))(h2:H[k]? =some (.dict [(aR,.ref i)]))(h1:H[i]? =some (.dict m.fields))
 (he:eval (.Attribute o au p) env=(do
  let x←eval o env
  standAt p.atName
  let r←holding [x] (getAttr x au true)
  letTemporaryGo o x r
  pure r)):Ev C d u H fr (eval (.Attribute o au p) env) (.int m.time) H:=
 AT h (AP1 hB (m.HD C) h3 h2 (Aj hB hd h3 h2 h1) rfl) he
theorem Ev.mtype{o:Expr}{m:ak}{i k n:Nat}{p:Pos}{env:Env}(hB:Bs C)(hd:d+10<recursionLimit)(h:Ev C d u H fr (eval o env) (.ref n) H)(h3:H[n]? =some (.inst m.cls k))(h2:H[k]? =some (.dict [(aR,.ref i)]))(h1:H[i]? =some (.dict m.fields))
 (he:eval (.Attribute o aP p) env=(do
  let x←eval o env
  standAt p.atName
  let r←holding [x] (getAttr x aP true)
  letTemporaryGo o x r
  pure r)):Ev C d u H fr (eval (.Attribute o aP p) env) (.str m.kind) H:=
 AT h (AP1 hB (m.prType C) h3 h2 (Ko hB hd h3 h2 h1) rfl) he
end
theorem LR.swapIn{α:List Addr}{ρ:ao}{m:Str->Option Value}(h:LR [] ρ m){x:Str}{a:Addr}{n:Nat}(hx:ρ.lookup x=some (.glob (.ref a)))(hn:α[n]? =some a):LR α (Internal.put x (.ref n) ρ) m:=fun y=>by
 rw[iT]
 have q:=h y
 by_cases e:y=x
 · subst e
   rw[hx]at q
   obtain⟨v,e1,e2⟩:=q
   simp only[if_true]
   exact⟨v,e1,a,hn,e2⟩
 · simp only[e,if_false]
   cases l:ρ.lookup y with
   |none=>rw[l]at q;exact q
   |some av=>
    rw[l]at q
    obtain⟨v,e1,e2⟩:=q
    exact⟨v,e1,VR.mono ⟨α,rfl⟩ e2⟩
theorem LR.swapOut{α:List Addr}{ρ:ao}{m:Str->Option Value}(h:LR α ρ m){x:Str}{a:Addr}{n:Nat}(hx:ρ.lookup x=some (.ref n))(hn:α[n]? =some a)(hb:(ρ.all fun p=>p.1==x||p.2.bd 0)=true):LR [] (Internal.put x (.glob (.ref a)) ρ) m:=fun y=>by
 rw[iT]
 have q:=h y
 by_cases e:y=x
 · subst e
   rw[hx]at q
   refine gG fun P_ k_=>?_
   obtain⟨v,e1,b,e2,e3⟩:=q
   refine k_ ?_
   rw[hn]at e2
   cases e2
   simp only[if_true]
   exact⟨v,e1,e3⟩
 · simp only[e,if_false]
   cases l:ρ.lookup y with
   |none=>rw[l]at q;exact q
   |some av=>
    rw[l]at q
    obtain⟨v,e1,e2⟩:=q
    have hmem:(y,av)∈ρ:=by
     clear hx hb h e2
     induction ρ with
     |nil=>simp[List.lookup]at l
     |cons p r ih=>
      obtain⟨k',z'⟩:=p
      by_cases hq:y=k'
      · subst hq;simp[List.lookup]at l;subst l;exact .head _
      · have:(y==k')=false:=by simpa using hq
        simp only[List.lookup,this]at l
        exact .tail _ (ih l)
    have hh:=List.all_eq_true.mp hb _ hmem
    have ne:(y==x)=false:=by simpa using e
    simp only[ne,Bool.false_or]at hh
    exact⟨v,e1,VR.shrink ⟨α,rfl⟩ e2 hh⟩
noncomputable def dj(pr:Program)(w:World)(s:Shared)(L:Addr)(n:Nat):Cx:=⟨pr,w,hideAll s.heap [L],n,s.gens,lw s,s.os⟩
structure BaseOk(w:World)(B:Heap):Prop where
 aZ:(KK w.params).In B
 lim:B.NoLimit
 sys:∃ o,B.get? sysModules=some o
section
variable{pr:Program}{w:World}{B:Heap}{s:Shared}{L:Addr}
theorem vU(hb:BaseOk w B)(hk:aU B s)(hL:B.get? L=none)(n:Nat):Bs (dj pr w s L n):=by
 have k:∀ b o,B.get? b=some o->(hideAll s.heap [L]).get? b=some o:=fun b o e=>hideAll_get _ (hk b o e) fun hm=>by rw[List.mem_singleton.mp hm,hL]at e;cases e
 exact⟨fun a o e=>k a o (hb.aZ a o e),hb.lim.keeps k⟩
theorem qy(hb:BaseOk w B)(hk:aU B s)(hL:B.get? L=none){α:List Addr}{H:List AO}{ρ:ao}(hlen:α.length=H.length)(hobj:∀(n:Nat) (a:Addr) (o:AO),α[n]? =some a->H[n]? =some o->OR pr w α s.heap a o)
 (hne:∀ a∈α,a≠L∧sysModules<a) {m:Str->Option Value} (hm:s.heap.Ns L m) (hl:LR α ρ m):aC (dj pr w s L H.length) α H [(L,.loc ρ)] s:=by
 refine⟨fun b o e=>of_hideAll _ e,trivial,hlen,hobj,fun n a h e=>?_,fun i j a h e1 e2=>?_,fun p hp=>?_,by simp,?_,fun n a e=>(hne a (List.mem_of_getElem? e)).2,fun i x e=>e,rfl,rfl⟩
 · have:=(List.getElem?_eq_some_iff.mp e).1
   have h:H.length≤n:=h
   omega
 · have:=(List.getElem?_eq_some_iff.mp e1).1
   have h:H.length≤i:=h
   exact o9 hlen this h
 · rw[List.mem_singleton.mp hp]
   exact⟨hideAll_none _ (.head _),⟨m,hm,hl⟩,fun n a e=>(hne a (List.mem_of_getElem? e)).1⟩
 · obtain⟨o,e⟩:=hb.sys
   exact⟨o,hideAll_get _ (hk _ _ e) fun hm=>by rw[List.mem_singleton.mp hm,hL]at e;cases e⟩
theorem lH{α:List Addr}{H:List AO}{fr:List (Addr×FE)}{s':Shared}{n:Nat}(R:aC (dj pr w s L n) α H fr s'){own:List Addr}{og:List Nat}(hL:L∈own):Mv own og s s':=
 ⟨fun b o hb e=>R.keep b o (hideAll_get _ e fun hm=>hb (by rw[List.mem_singleton.mp hm];exact hL)),fun i x V e=>R.gens i x e,R.drawn,R.os⟩
theorem Ja{h:Heap}{a L:Addr}(e:(hideAll h [L]).get? a=none)(hne:a≠L):h.get? a=none:=by
 cases q:h.get? a with
 |none=>rfl
 |some o=>rw[hideAll_get _ q fun hm=>hne (List.mem_singleton.mp hm)]at e;cases e
theorem uG{α:List Addr}{H:List AO}{ρ:ao}{s':Shared}{m:ak}{v:Value}(R:aC (dj pr w s L H.length) α (H++[.dict m.fields,.dict [(aR,.ref H.length)],.inst m.cls (H.length+1)]) [(L,.loc ρ)] s')(hv:VR α (.ref (H.length+2)) v):
 eN pr w (fun b=>s.heap.get? b=none∧b≠L) s'.heap v m:=by
 obtain⟨a,ea,rfl⟩:=hv
 have hl:=R.len
 simp only[List.length_append,List.length_cons,List.length_nil]at hl
 have e0:α[H.length]? =some α[H.length]:=List.getElem?_eq_getElem (by exact o25 hl)
 have e1:α[H.length+1]? =some α[H.length+1]:=List.getElem?_eq_getElem (by exact o26 hl)
 have hM:qb α [α[H.length],α[H.length+1],a] [H.length,H.length+1,H.length+2] 0:=by
  intro j hj b e
  simp only[List.mem_cons,List.not_mem_nil,or_false]at hj
  rcases hj with rfl|rfl|rfl
  · rw[e0]at e;cases e;simp
  · rw[e1]at e;cases e
    have:(H.length==H.length+1)=false:=by simp
    simp[List.idxOf_cons,this]
  · rw[ea]at e;cases e
    have h1:(H.length==H.length+2)=false:=by simp
    have h2:(H.length==H.length+1)=false:=by simp
    simp[List.idxOf_cons,h1,h2]
 have nx:∀(n:Nat) (b:Addr),H.length≤n->α[n]? =some b->s.heap.get? b=none∧b≠L:=fun n b hn e=>by
  have h3:=(R.frs (L,.loc ρ) (.head _)).2.2 n b e
  exact⟨Ja (R.fresh n b hn e) h3,h3⟩
 have nIn:∀{j},j∈[H.length,H.length+1,H.length+2]->mL j [H.length,H.length+1,H.length+2]=true:=jX.mpr
 have o0:=R.obj _ _ (.dict m.fields) e0 (by simp)
 have o1:=R.obj _ _ (.dict [(aR,.ref H.length)]) e1 (by simp)
 have o2:=R.obj _ _ (.inst m.cls (H.length+1)) ea (by simp)
 refine⟨α[H.length],α[H.length+1],a,rfl,⟨nx _ _ (Nat.le_refl _) e0,nx _ _ (by exact o28) e1,nx _ _ (by exact o27) ea⟩,⟨R.sys _ _ e0,R.sys _ _ e1,R.sys _ _ ea⟩,?_,?_,?_⟩
 · have:=OR.shrink (α:=[]) ⟨α,rfl⟩ o0 (m.xP 0)
   exact this.mono ⟨_,rfl⟩
 · have:=OR.fC hM o1 ((Bool.and_true _).trans (nIn (.head _)))
   have e:(AO.dict [(aR,AV.ref H.length)]).fC [H.length,H.length+1,H.length+2] 0=.dict [(aR,.ref 0)]:=by simp[AO.fC,AV.fC]
   rw[e]at this
   exact this
 · have:=OR.fC hM o2 (nIn (.tail _ (.head _)))
   have h1:(H.length==H.length+1)=false:=by simp
   have e:(AO.inst m.cls (H.length+1)).fC [H.length,H.length+1,H.length+2] 0=.inst m.cls 1:=by simp[AO.fC,List.idxOf_cons,h1]
   rw[e]at this
   exact this
end
noncomputable abbrev bT:Str:=⟨#[110,111,119]⟩
noncomputable abbrev aH:Str:=⟨#[109,101,115,115,97,103,101,115]⟩
noncomputable abbrev bW:Str:=⟨#[100,101,108,116,97]⟩
noncomputable abbrev dM:Str:=⟨#[97,99,99,117,109]⟩
noncomputable def rO(ρ:ao):Prop:=(ρ.all fun p=>p.1==aq||p.2.bd 0)=true
theorem rO.put{ρ:ao}(h:rO ρ)(x:Str)(v:AV)(hv:(x==aq||v.bd 0)=true):rO (put x v ρ):=by
 unfold rO at *
 induction ρ with
 |nil=>simp[put0];simpa using hv
 |cons p r ih=>
  rw[List.all_cons,Bool.and_eq_true]at h
  rw[put1]
  split
  · rw[List.all_cons,Bool.and_eq_true];exact⟨hv,h.2⟩
  · rw[List.all_cons,Bool.and_eq_true];exact⟨h.1,ih h.2⟩
theorem cI(x:Str)(v:AV)(ρ:ao):(put x v ρ).lookup x=some v:=by rw[iT];simp
theorem aJ{x y:Str}(h:(y==x)=false)(v:AV)(ρ:ao):(put x v ρ).lookup y=ρ.lookup y:=by
 rw[iT]
 have:¬y=x:=by simpa using h
 simp[this]
section
variable{C:Cx}{d u:Nat}{H:List AO}{fr:List (Addr×FE)}{fd:FuncData}{fa L:Addr}{ρ:ao}
theorem bV(m:ak):m.small[2]? =some (.inst m.cls 1)∧m.small[1]? =some (.dict [(aR,.ref 0)])∧m.small[0]? =some (.dict m.fields):=⟨rfl,rfl,rfl⟩
theorem wJ{m:ak}{x:Str}{t:Int}{p1 p2 p3 p4 p5 p6 p7:Pos}(hB:Bs C)(hd:d+100<recursionLimit)(hok:m.ok)(hk:fd.scope.kind=.function)(hm:fd.scope.names.lookup aq=some .local)(hs:fd.scope.names.lookup aj=some .local)(hx:fd.scope.names.lookup x=some .local)
 (e1:ρ.lookup aq=some (.ref 2)) (e2:ρ.lookup aj=some (.bool false)) (e3:ρ.lookup x=some (.int t)) (hdx:(x==("__debug__":Str))=false) {pl:Sem Bool}
 (he:eval (.Call (.Attribute (.Name aq p1) j6 p2) [] [⟨some aj,.Name aj p3,p4⟩,⟨some au,.Name x p5,p6⟩] p7) (callEnv fd L fa)=(do
  let ov←eval (.Name aq p1) (callEnv fd L fa)
  standAt p2.atName
  let(f,first)←holding [ov] (getMethod ov j6 pl)
  callWith p7 f first (backTo p7 (starEach [] (callEnv fd L fa))) (backToKw p7 (keywordEach [⟨some aj,.Name aj p3,p4⟩,⟨some au,.Name x p5,p6⟩] (callEnv fd L fa))))):
 Ev C d u m.small ((L,.loc ρ)::fr) (eval (.Call (.Attribute (.Name aq p1) j6 p2) [] [⟨some aj,.Name aj p3,p4⟩,⟨some au,.Name x p5,p6⟩] p7) (callEnv fd L fa)) (.ref (m.small.length+2))
  (m.small++[.dict (m.wt t).fields,.dict [(aR,.ref m.small.length)],.inst m.cls (m.small.length+1)]):=
 Ev.Ck (Ev.l hk hm e1 rfl) (AF1 hB (m.fnCopy C) (bV m).1 (bV m).2.1 rfl)
  (CF hB rfl (m.kpCopy _) Sp.q7 (Ek.back (Ev.l hk hs e2 rfl) (Ek.back (Ev.l hk hx e3 hdx) Ek.q7)) rfl (JC.v (Kq hok hB hd (bV m).1 (bV m).2.1 (bV m).2.2)) rfl rfl rfl) he
end
noncomputable def bB(k:Int)(l:List ak):List ak:=@List.rec ak (fun V=>Int->List ak) (fun V=>[]) (fun m r i k=>m.wt (k+m.time)::i (k+m.time)) l k
theorem abs1{k:Int}{m:ak}{r:List ak}:bB k (m::r)=m.wt (k+m.time)::bB (k+m.time) r:=rfl
theorem iW:∀(k:Int) (l:List ak),(bB k l).length=l.length
 |_,[]=>rfl
 |k,m::r=>congrArg (·+1) (iW (k+m.time) r)
noncomputable def iI(fd:FuncData):List Stmt:=match fd.body with|.stmts b=>b|_=>[]
noncomputable def c959:Expr:=.Call (.Attribute (.Name aq ⟨467,14,467,17⟩) j6 ⟨467,14,467,22⟩) [] [⟨some aj,.Name aj ⟨467,35,467,46⟩,⟨467,23,467,46⟩⟩,⟨some au,.Name bT ⟨467,53,467,56⟩,⟨467,48,467,56⟩⟩] ⟨467,14,467,57⟩
noncomputable def a959:Stmt:=.AugAssign (.Name bT ⟨466,8,466,11⟩) .Add (.Attribute (.Name aq ⟨466,15,466,18⟩) au ⟨466,15,466,23⟩) ⟨466,8,466,23⟩
noncomputable def t959:Expr:=.Name aq ⟨465,8,465,11⟩
noncomputable def b959:List Stmt:=[a959,.Expr (.Yield (some c959) ⟨467,8,467,57⟩) ⟨467,8,467,57⟩]
theorem body959(P:Params):iI (iz P)=[.Assign [.Name bT ⟨464,4,464,7⟩] (.Constant (.int 0) 0 ⟨464,10,464,11⟩) ⟨464,4,464,11⟩,.For t959 (.Name aH ⟨465,15,465,23⟩) b959 [] ⟨465,4,467,57⟩]:=rfl
structure cV(L:Addr)(s:Shared)(ρ:ao):Prop where
 no:rO ρ
 at_:∃ mm,s.heap.Ns L mm∧LR [] ρ mm
theorem wg{pr:Program}{w:World}{B:Heap}{s:Shared}{L:Addr}{m:ak}{X:Addr->Prop}{v:Value}{ρ:ao}(hb:BaseOk w B)(hk:aU B s)(hL:B.get? L=none)(hX:∀ b,X b->b≠L)(hv:eN pr w X s.heap v m)(hF:∃ mm,s.heap.Ns L mm∧LR [] ρ mm):
 ∃ α,aC (dj pr w s L m.small.length) α m.small [(L,.loc ρ)] s∧VR α (.ref 2) v:=by
 refine gG fun P_ k_=>?_
 obtain⟨f,k,a,rfl,⟨x1,x2,x3⟩,⟨s1,s2,s3⟩,r1,r2,r3⟩:=hv
 obtain⟨mm,hm,hl⟩:=hF
 refine k_ ?_
 refine⟨[f,k,a],qy hb hk hL rfl (fun n b o e1 e2=>?_) (fun b hb=>?_) hm (hl.mono ⟨_,rfl⟩),a,rfl,rfl⟩
 · match n,e1,e2 with
   |0,e1,e2=>cases e1;cases e2;exact r1
   |1,e1,e2=>cases e1;cases e2;exact r2
   |2,e1,e2=>cases e1;cases e2;exact r3
 · simp only[List.mem_cons,List.not_mem_nil,or_false]at hb
   rcases hb with rfl|rfl|rfl
   · exact⟨hX _ x1,s1⟩
   · exact⟨hX _ x2,s2⟩
   · exact⟨hX _ x3,s3⟩
theorem iU{pr:Program}{w:World}{s s':Shared}{L:Addr}{n:Nat}{α:List Addr}{H:List AO}{ρ:ao}{a:Addr}(R:aC (dj pr w s L n) α H [(L,.loc ρ)] s')(hm:ρ.lookup aq=some (.ref 2))(ha:α[2]? =some a)(hn:rO ρ):cV L s' (put aq (.glob (.ref a)) ρ):=by
 refine gG fun P_ k_=>?_
 obtain⟨V,⟨mm,h1,h2⟩,V⟩:=R.frs (L,.loc ρ) (.head _)
 refine k_ ?_
 exact⟨hn.put _ _ rfl,mm,h1,h2.swapOut hm ha hn⟩
theorem cV.still{L:Addr}{s s':Shared}{ρ:ao}{own:List Addr}{og:List Nat}(h:cV L s ρ)(hL:L∈own)(hS:eG own og s s'):cV L s' ρ:=by
 refine gG fun P_ k_=>?_
 obtain⟨hn,mm,⟨o,es,ep,e,r⟩,hl⟩:=h
 refine k_ ?_
 exact⟨hn,mm,⟨o,es,ep,hS.heap L hL o e,r⟩,hl⟩
theorem cV.mv{L:Addr}{s s':Shared}{ρ:ao}{own:List Addr}{og:List Nat}(h:cV L s ρ)(hL:L∉own)(hS:Mv own og s s'):cV L s' ρ:=by
 refine gG fun P_ k_=>?_
 obtain⟨hn,mm,⟨o,es,ep,e,r⟩,hl⟩:=h
 refine k_ ?_
 exact⟨hn,mm,⟨o,es,ep,hS.heap L o hL e,r⟩,hl⟩
section
variable{pr:Program}{w:World}{d u:Nat}{B:Heap}{own dw:List Addr}{og:List Nat}{outs:List ak}{L fa:Addr}
set_option maxHeartbeats 2000000 in
theorem xY(hb:BaseOk w B)(hL:B.get? L=none)(hB:∀ b∈own,B.get? b=none)(hown:∀ b,b∈own↔b=L∨b∈dw)(hLi:L∉dw)(hd:d+110<recursionLimit){p0:Pos}{it:Value}{gd:Bool}{lv:List Value}{c:Code}
 {K:Flow->Sem Fin} {Hh:Value->Sem Fin} {gA:Bool->Bool} {lA:List Value->List Value}
 (hc:∀ body,(Ar d u).in1.over (.forLoop t959 it body [] (callEnv (iz w.params) L fa)) [.ret (lN K Hh gA lA (callEnv (iz w.params) L fa)) none gd lv c p0 []]=Ar (d+1) (u+4))
 (hg:gd=false)
 (hend:∀ n sH s',n=0->Mv own og sH s'->Seg (model pr w) (Ar d u).in1 (RR own og) (YY pr w B own og outs) n sH c (K .next) [] s'):
 ∀(items:List ak) (k:Int) (ρ:ao) (s sH:Shared),(∀ m∈items,m.ok)->(∃ pre,outs=pre++bB k items)->Mv own og sH s->aU B s->cV L s ρ->ρ.lookup aj=some (.bool false)->ρ.lookup bT=some (.int k)->
  qt pr w (d+1) (u+4) B it dw og items s->
  Seg (model pr w) (Ar d u).in1 (RR own og) (YY pr w B own og outs) items.length sH (.forLoop t959 it b959 [] (callEnv (iz w.params) L fa))
   ((model pr w).den (.forLoop t959 it b959 [] (callEnv (iz w.params) L fa)))
   [.ret (lN K Hh gA lA (callEnv (iz w.params) L fa)) none gd lv c p0 []] s
 |[],k,ρ,s,sH,hok,hout,hM,hk,hF,e1,e2,hS=>by
  refine jK ?_
  rw[hc]
  refine hS _ hk fun s' hM'=>?_
  exact vX (hend _ _ _ rfl (hM.trans (hM'.mono (fun b o hb V=>(hown b).mpr (.inr hb)) fun V h=>h)))
 |m::items,k,ρ,s,sH,hok,hout,hM,hk,hF,e1,e2,hS=>by
  refine jK ?_
  rw[hc]
  refine hS _ hk fun sE v hM1 hV pW hN=>?_
  have hM1':Mv own og s sE:=hM1.mono (fun b o hb V=>(hown b).mpr (.inr hb)) fun V h=>h
  have hk1:aU B sE:=hM1'.keep hk hB
  have hF1:=hF.mv hLi hM1
  have hLs:∃ o,s.heap.get? L=some o:=by obtain⟨V,mm,⟨o,V,V,e,V⟩,V⟩:=hF;exact⟨o,e⟩
  obtain⟨α,R1,rv⟩:=wg hb hk1 hL (fun b hX z=>by
   subst z
   rcases hX.2 with⟨o,e⟩|e
   · rw[hL]at e;cases e
   · obtain⟨o,e'⟩:=hLs
     rw[e']at e;cases e) hV hF1.at_
  have Bk:=vU (pr:=pr) hb hk1 hL m.small.length
  obtain⟨a,ea,rfl⟩:=rv
  refine wpAny_bind (wpAny_pure ?_)
  refine wpAny_assign_Name (aC.stores (C:=dj pr w sE L m.small.length) (fd:=iz w.params) (fa:=fa) R1 (v:=.ref 2) ⟨a,ea,rfl⟩ rfl rfl fun sG R2=>?_)
  refine gR (lX ?_)
  rw[hc]
  have hm2:(put aq (.ref 2) ρ).lookup aq=some (.ref 2):=cI _ _ _
  have Gp:(put aq (.ref 2) ρ).lookup bT=some (.int k):=by rw[aJ rfl];exact e2
  have X1:Ex (dj pr w sE L m.small.length) (d+1) (u+4) m.small L (put aq (.ref 2) ρ) [] (exec a959 (callEnv (iz w.params) L fa)) .next m.small (put bT (.int (k+m.time)) (put aq (.ref 2) ρ)):=
   Ex.aug rfl rfl Gp (Ev.mtime Bk (by exact lu hd rfl) (Ev.l rfl rfl hm2 rfl) (bV m).1 (bV m).2.1 (bV m).2.2 rfl)
  refine X1.go R2 fun α3 sI y E3 R3 rC=>?_
  cases rC
  refine gR (seg_Expr_Yield rfl rfl (by simp[Frame.guarded,hg]) ?_)
  rw[hc]
  have hl3:∀(x:Str) (v:AV),(x==bT)=false->(x==aq)=false->ρ.lookup x=some v->(put bT (.int (k+m.time)) (put aq (.ref 2) ρ)).lookup x=some v:=fun x v h1 h2 e=>by rw[aJ h1,aJ h2];exact e
  have hm3:(put bT (.int (k+m.time)) (put aq (.ref 2) ρ)).lookup aq=some (.ref 2):=by rw[aJ rfl];exact hm2
  have X2:Ev (dj pr w sE L m.small.length) (d+1) (u+4) m.small [(L,.loc (put bT (.int (k+m.time)) (put aq (.ref 2) ρ)))] (eval c959 (callEnv (iz w.params) L fa)) (.ref (m.small.length+2))
   (m.small++[.dict (m.wt (k+m.time)).fields,.dict [(aR,.ref m.small.length)],.inst m.cls (m.small.length+1)]):=by
   apply wJ Bk (by exact lu hd rfl) (hok m (.head _)) rfl rfl rfl rfl hm3 (hl3 _ _ rfl rfl e1) (cI bT (.int (k+m.time)) _) rfl (pl:=_) rfl
  refine cY (X2.go R3 fun α4 s4 vG E4 R4 r4 κ hκ=>?_)
  obtain⟨pre,hpre⟩:=hout
  have jh:Mv own og sE s4:=lH R4 ((hown L).mpr (.inl rfl))
  have hM4:Mv own og sH s4:=(hM.trans hM1').trans jh
  have hk4:=jh.keep hk1 hB
  have um:=uG (m:=m.wt (k+m.time)) (by rw[ak.za];exact R4) r4
  have live1:∀ b∈own,∃ o,sE.heap.get? b=some o:=fun b hb=>by
   rcases(hown b).mp hb with rfl|hb
   · obtain⟨V,mm,⟨o,V,V,e,V⟩,V⟩:=hF1;exact⟨o,e⟩
   · exact pW b hb
  refine⟨m.wt (k+m.time),bB (k+m.time) items,?_,hM4,um.keeps (fun V V V e=>e) fun b x hX V=>⟨fun hm=>?_,.inr ?_⟩,fun b hb'=>?_,fun s5 hS5 hk5=>hκ _ _ ?_⟩
  · have hlen:(bB k (m::items)).length=items.length+1:=by rw[iW];rfl
    rw[hpre,List.length_append,hlen,Nat.add_sub_cancel,List.drop_left]
    rfl
  · obtain⟨o,e⟩:=live1 b hm
    rw[hX.1]at e;cases e
  · cases q:sH.heap.get? b with
    |none=>rfl
    |some o=>
     exfalso
     have hbo:b∉own:=fun hm=>by
      obtain⟨o,e⟩:=live1 b hm
      rw[hX.1]at e;cases e
     have:=(hM.trans hM1').heap b o hbo q
     rw[hX.1]at this;cases this
  · rcases(hown b).mp hb' with rfl|hb
    · obtain⟨V,⟨mm,⟨o,V,V,e,V⟩,V⟩,V⟩:=R4.frs (b,_) (.head _);exact⟨o,e⟩
    · obtain⟨o,e⟩:=pW b hb
      exact⟨o,R4.keep b o (hideAll_get _ e fun hm=>hLi (by rw[←List.mem_singleton.mp hm];exact hb))⟩
  · refine qH ?_
    have hF4:=iU R4 hm3 ((E3.trans E4).get ea) ((hF.no.put aq (.ref 2) rfl).put bT (.int (k+m.time)) rfl)
    refine xY hb hL hB hown hLi hd hc hg hend items (k+m.time) _ s5 s5 (fun m' h=>hok m' (.tail _ h)) ⟨pre++[m.wt (k+m.time)],by rw[hpre,List.append_assoc];rfl⟩ (Mv.refl _) hk5 (hF4.still ((hown L).mpr (.inl rfl)) hS5) ?_ ?_ ?_
    · rw[aJ rfl];exact hl3 _ _ rfl rfl e1
    · rw[aJ rfl];exact cI _ _ _
    · refine hN s5 ⟨fun b hb o e=>hS5.heap b ((hown b).mpr (.inr hb)) o (R4.keep b o (hideAll_get _ e fun hm=>hLi (by rw[←List.mem_singleton.mp hm];exact hb))),fun i hi x e=>hS5.gens i hi x (R4.gens i x e)⟩ hk5
end
section
variable{pr:Program}{w:World}{d u:Nat}{B:Heap}{og:List Nat}{outs:List ak}{L fa:Addr}
theorem qP{own aM:List Addr}{S:Value->List Addr->Shared->Prop}{fd:FuncData}{xv:Str}{s:Shared}{iv:Value}{p1 p2 p3 p4 p5 p19:Pos}{Gf:List Stmt}{rest:List Stmt}{c:Code}{K:Flow->Sem Fin}{Hh:Value->Sem Fin}{R:GenEnd}{Y:Protocol}{n:Nat}{sH:Shared}
 (hk:fd.scope.kind=.function) (hx:fd.scope.names.lookup xv=some .local) (hms:fd.scope.names.lookup aH=some .local) (hxm:(aH==xv)=false)
 (hc:(Ar d u).in1.over c []=Ar (d+1) (u+4)) (hL:B.get? L=none) (hLo:L∈own) (hLi:L∉aM) (hKp:aU B s) {ρ:ao} (hF:cV L s ρ) (hm:ρ.lookup aH=some (.glob iv))
 (hI:∀ s'',eG aM og s s''->aU B s''->∀(dF u1:Nat) (Q:Value->Shared->Prop),aU B s''->(∀ s' it,(∀ b o,s''.heap.get? b=some o->s'.heap.get? b=some o)->s'.gens=s''.gens->lw s'=lw s''->s'.os=s''.os->S it (s''.heap.objs.size::aM) s'->Q it s')->wpAny (model pr w) (Ar dF u1) (pyIter iv) Q bf s'')
 (hs1:swapsWith (.Constant (.int 0) 0 p2) (some (.Name xv p1)) p3.line (callEnv fd L fa)=pure false) (hs2:∀ x,foldedSetIterable (.Name aH p5) (callEnv fd L fa) x=pure x)
 (h:∀ sI it p,Mv own og s sI->cV L sI (put xv (.int 0) ρ)->S it (s.heap.objs.size::aM) sI->
  Seg (model pr w) (Ar d u).in1 R Y n sH (.forLoop (.Name aq p4) it Gf [] (callEnv fd L fa)) ((model pr w).den (.forLoop (.Name aq p4) it Gf [] (callEnv fd L fa)))
   [.ret (lN (fun f=>match f with|.next=>(execs rest (callEnv fd L fa)).wrap K Hh id id|f=>K f) Hh id id (callEnv fd L fa)) none (id false) (id []) c p []] sI):
 Seg (model pr w) (Ar d u).in1 R Y n sH c ((execs (.Assign [.Name xv p1] (.Constant (.int 0) 0 p2) p3::.For (.Name aq p4) (.Name aH p5) Gf [] p19::rest) (callEnv fd L fa)).wrap K Hh id id) [] s:=by
 obtain⟨hno,mm,hmm,hl⟩:=hF
 refine gR (lX ?_)
 rw[hc]
 refine wpAny_Assign_Name (wpAny_Constant_int (wpAny_storeName_local (env:=callEnv fd L fa) hx hmm (fun h' hn hsb=>?_) (by show((fd.scope.kind== .class||(fd.scope.kind== .module&&_))=false);rw[hk];rfl))) hs1
 refine gR (sFor ?_ hs2)
 rw[hc]
 have q:=hl aH
 rw[hm]at q
 obtain⟨y,e,ry⟩:=q
 cases ry
 have hxm':¬aH=xv:=by simpa using hxm
 refine wpAny_Name (wpAny_loadName_local (env:=callEnv fd L fa) hk hms hn (by simp only[hxm',if_false];exact e) ?_) rfl
 have keep2:∀ b o,b≠L->s.heap.get? b=some o->h'.get? b=some o:=fun b o hb e=>(hsb.2 b hb).trans e
 have kB:∀ sG:Shared,sG.heap=h'->aU B sG:=fun sG h1 b o e=>by rw[h1];exact keep2 b o (fun z=>by rw[z,hL]at e;cases e) (hKp b o e)
 have K2:∀ sG:Shared,sG.heap=h'->sG.gens=s.gens->lw sG=lw s->sG.os=s.os->∀ Q:Value->Shared->Prop,(∀ s' it,(∀ b o,sG.heap.get? b=some o->s'.heap.get? b=some o)->s'.gens=sG.gens->lw s'=lw sG->s'.os=sG.os->
  S it (sG.heap.objs.size::aM) s'->Q it s')->wpAny (model pr w) (Ar (d+1) (u+4)) (pyIter iv) Q bf sG:=fun sG h1 h2 h3 h4 Q hQ=>
  hI sG ⟨fun b hb o e=>by rw[h1];exact keep2 b o (fun z=>hLi (z▸hb)) e,fun i hi x e=>by rw[h2];exact e⟩ (kB sG h1) _ _ Q (kB sG h1) hQ
 refine K2 {s with heap:=h',toks:=s.toks+1+1} rfl rfl rfl rfl _ fun sI it k3 g3 d3 o3 hS=>?_
 intro p
 have hsz:h'.objs.size=s.heap.objs.size:=hsb.1
 refine h sI it p ⟨fun b o hb e=>k3 b o (keep2 b o (fun z=>hb (z▸hLo)) e),fun i x V e=>by rw[g3];exact e,d3,o3⟩ ⟨hno.put _ _ (by simp[AV.bd]),_,hn.keeps k3,?_⟩ (by rw[←hsz];exact hS)
 exact hl.put ⟨_,rfl⟩
end
section
variable{pr:Program}{w:World}{d u:Nat}{B:Heap}{og:List Nat}{L a:Addr}{g:Nat}{aM:List Addr}
structure gk(pr:Program)(w:World)(d u:Nat)(B:Heap)(fd:FuncData)(fa L a:Addr)(g:Nat)(aM:List Addr)(og:List Nat)(IT:Shared->Prop)(iv:Value)(s:Shared):Prop where
 gen:s.heap.IsGen a g
 st:s.gens[g]? =some (.fresh (.func (iI fd) (callEnv fd L fa)))
 fr:∃ ρ,cV L s ρ∧ρ.lookup aH=some (.glob iv)∧ρ.lookup aj=some (.bool false)
 inn:∀ s'',eG aM og s s''->aU B s''->IT s''
theorem gk.still{fd:FuncData}{fa:Addr}{aM:List Addr}{IT:Shared->Prop}{iv:Value}{s s':Shared}(h:gk pr w d u B fd fa L a g aM og IT iv s)(hS:eG (L::a::aM) (g::og) s s'):gk pr w d u B fd fa L a g aM og IT iv s':=by
 refine gG fun P_ k_=>?_
 obtain⟨⟨o,nm,qn,g1,g2⟩,h2,⟨ρ,h3,h4,h5⟩,h6⟩:=h
 refine k_ ?_
 refine⟨⟨o,nm,qn,hS.heap a (.tail _ (.head _)) o g1,g2⟩,hS.gens g (.head _) _ h2,⟨ρ,h3.still (.head _) hS,h4,h5⟩,fun s'' hS'' hk=>h6 s'' ⟨fun b hb o e=>hS''.heap b hb o (hS.heap b (.tail _ (.tail _ hb)) o e),fun i hi x e=>hS''.gens i hi x (hS.gens i (.tail _ hi) x e)⟩ hk⟩
theorem N5(hb:BaseOk w B)(hBo:∀ b∈L::a::aM,B.get? b=none)(hLa:L≠a)(hLi:L∉aM)(hai:a∉aM)(hgo:g∉og)(hd:d+110<recursionLimit){items:List ak}(hok:∀ m∈items,m.ok){iv:Value}{s:Shared}(hk:aU B s)(hli:∀ b∈aM,b<s.heap.objs.size)
 (F:gk pr w d u B (iz w.params) 959 L a g aM og (Itb pr w (d+1) (u+4) B iv aM og items) iv s):qt pr w d u B (.ref a) (s.heap.objs.size::L::a::aM) (g::og) (bB 0 items) s:=by
 refine gG fun P_ k_=>?_
 obtain⟨hG,hst,⟨ρ,hF,hm,hsk⟩,hI⟩:=F
 refine k_ ?_
 have hLs:L<s.heap.objs.size:=by obtain⟨V,mm,⟨o,V,V,e,V⟩,V⟩:=hF;exact Heap.lt_size e
 have has:a<s.heap.objs.size:=by obtain⟨o,V,V,e,V⟩:=hG;exact Heap.lt_size e
 have hBz:B.get? s.heap.objs.size=none:=by
  cases e:B.get? s.heap.objs.size with
  |none=>rfl
  |some o=>exact absurd (Heap.lt_size (hk _ _ e)) (Nat.lt_irrefl _)
 have key:=wD (pr:=pr) (w:=w) (d:=d) (u:=u) (B:=B) (own:=L::s.heap.objs.size::aM) (own':=s.heap.objs.size::L::a::aM) (og:=og) (outs:=bB 0 items) (a:=a) (g:=g) (by
  simp only[List.mem_cons,not_or];exact⟨fun z=>hLa z.symm,Nat.ne_of_lt has,hai⟩) (fun b=>by simp only[List.mem_cons];constructor<;>(rintro(h|h|h|h)<;>simp[h])) hgo (fun b hb'=>by
  rcases List.mem_cons.mp hb' with rfl|hb'
  · exact hBz
  · exact hBo b hb') hb.lim (by exact jx hd) (bB 0 items).length _ s (Nat.le_refl _) rfl hG hst ?_
 · rw[Nat.sub_self,List.drop_zero]at key
   exact key
 · refine⟨rfl,?_⟩
   refine seg_func ?_
   rw[body959]
   have hkp:aU B (s.setGen g .running):=hk
   refine qP (d:=d) (u:=u) (pr:=pr) (own:=L::s.heap.objs.size::aM) (aM:=aM) (og:=og) (B:=B) (iv:=iv) (ρ:=ρ) (S:=fun it o s=>qt pr w (d+1) (u+4) B it o og items s) rfl rfl rfl rfl rfl (hBo L (.head _)) (.head _) hLi hkp (⟨hF.no,hF.at_⟩:cV L (s.setGen g .running) ρ) hm
    (fun s'' hS hk'=>hI s'' ⟨fun b hb o e=>hS.heap b hb o e,fun i hi x e=>hS.gens i hi x (by
     have hne:g≠i:=fun z=>hgo (z▸hi)
     rw[bY hne];exact e)⟩ hk') rfl (fun V=>rfl) fun sI it p hM hF3 hS3=>?_
   have hlen:(bB 0 items).length=items.length:=iW 0 items
   rw[hlen]
   refine xY (dw:=s.heap.objs.size::aM) hb (hBo L (.head _)) (fun b hb'=>?_) (fun b=>by simp only[List.mem_cons]) (by
    simp only[List.mem_cons,not_or];exact⟨Nat.ne_of_lt hLs,hLi⟩) hd (fun V=>rfl) rfl (fun n sH s' hn jE=>?_) items 0 _ sI _ hok ⟨[],rfl⟩ hM (hM.keep hkp fun b hb'=>?_) hF3 ?_ ?_ hS3
   · rcases List.mem_cons.mp hb' with rfl|hb'
     · exact hBo b (.head _)
     · rcases List.mem_cons.mp hb' with rfl|hb'
       · exact hBz
       · exact hBo b (.tail _ (.tail _ hb'))
   · exact seg_end (.ok (.ret .none)) ⟨rfl,hn,jE⟩
   · rcases List.mem_cons.mp hb' with rfl|hb'
     · exact hBo b (.head _)
     · rcases List.mem_cons.mp hb' with rfl|hb'
       · exact hBz
       · exact hBo b (.tail _ (.tail _ hb'))
   · rw[aJ rfl];exact hsk
   · exact cI _ _ _
end
section
variable(pr:Program)(w:World)(d u:Nat)(B:Heap)(itv:Value)
noncomputable def CG(own:List Addr)(og:List Nat):List ak->Shared->Prop
 |[],s=>∀ Q:Option Value->Shared->Prop,aU B s->(∀ s',Mv own og s s'->Q none s')->wpAny (model pr w) (Ar d u) (pyNext itv) Q bf s
 |m::r,s=>∀ Q:Option Value->Shared->Prop,aU B s->(∀ s' v,Mv own og s s'->eN pr w (fun V=>True) B v m->(∀ b∈own,∃ o,s'.heap.get? b=some o)->(∀ s'',eG own og s' s''->aU B s''->CG own og r s'')->Q (some v) s')->
  wpAny (model pr w) (Ar d u) (pyNext itv) Q bf s
noncomputable def ItbB(own:List Addr)(og:List Nat)(ms:List ak)(s:Shared):Prop:=
 ∀(dF u1:Nat) (Q:Value->Shared->Prop),aU B s->(∀ s' it,(∀ b o,s.heap.get? b=some o->s'.heap.get? b=some o)->s'.gens=s.gens->lw s'=lw s->s'.os=s.os->CG pr w d u B it (s.heap.objs.size::own) og ms s'->Q it s')->wpAny (model pr w) (Ar dF u1) (pyIter itv) Q bf s
end
theorem wV{pr:Program}{w:World}{d u:Nat}{B:Heap}{l it:Addr}{vs:List Value}(hl:∃ n,B.get? l=some ⟨.type "list",none,.seq vs.toArray n,#[]⟩)(hB:B.get? it=none):
 ∀(ms:List ak) (i:Nat) (s:Shared),nF pr w B (vs.drop i) ms->i≤vs.length->s.heap.IsListIter it l i->CG pr w d u B (.ref it) [it] [] ms s
 |[],i,s,hm,hi,hit=>fun Q hk hQ=>by
  obtain⟨n,hl⟩:=hl
  have hend:vs.length≤i:=by have:=hm.len;simp at this;exact o21 this
  have hL:s.heap.IsList l vs.toArray:=⟨_,hk _ _ hl,rfl,n,rfl⟩
  exact wpAny_pyNext_list_end rfl hit hL (by simpa using hend) fun h' he=>hQ _ ⟨fun b o hb e=>he b o (fun z=>hb (by simp[z])) e,fun V V V e=>e,rfl,rfl⟩
 |m::ms,i,s,hm,hi,hit=>fun Q hk hQ=>by
  obtain⟨n,hl'⟩:=hl
  have hL:s.heap.IsList l vs.toArray:=⟨_,hk _ _ hl',rfl,n,rfl⟩
  have hlt:i<vs.length:=by have:=hm.len;simp at this;exact o22 hi this
  have hd:vs.drop i=vs[i]::vs.drop (i+1):=List.drop_eq_getElem_cons hlt
  rw[hd]at hm
  cases hm with
  |cons hv hms=>
   refine wpAny_pyNext_list_item hit hL (x:=vs[i]) (by simp[hlt]) fun h' hit' hsb=>hQ _ _ ⟨fun b o hb e=>(hsb.2 b (fun z=>hb (by simp[z]))).trans e,fun V V V e=>e,rfl,rfl⟩ hv (fun b hb=>by rw[List.mem_singleton.mp hb];obtain⟨o,g,V⟩:=hit';exact⟨o,g⟩) fun s'' hS hk''=>?_
   refine wV ⟨n,hl'⟩ hB ms (i+1) s'' hms hlt ?_
   obtain⟨o,g1,g2,g3⟩:=hit'
   exact⟨o,hS.heap it (.head _) o g1,g2,g3⟩
theorem J4{pr:Program}{w:World}{d u:Nat}{B:Heap}{l:Addr}{vs:List Value}{ms:List ak}{s:Shared}(hl:∃ n,B.get? l=some ⟨.type "list",none,.seq vs.toArray n,#[]⟩)(hm:nF pr w B vs ms):ItbB pr w d u B (.ref l) [] [] ms s:=fun dF u1 Q hk hQ=>by
 have hB:B.get? s.heap.objs.size=none:=by
  cases e:B.get? s.heap.objs.size with
  |none=>rfl
  |some o=>exact absurd (Heap.lt_size (hk _ _ e)) (Nat.lt_irrefl _)
 obtain⟨n,hl'⟩:=id hl
 refine wpAny_pyIter_list ⟨_,hk _ _ hl',rfl,n,rfl⟩ (hQ _ _ (fun b o e=>Heap.get?_push_of_some _ e) rfl rfl rfl ?_)
 exact wV hl hB ms 0 _ (by simpa using hm) (Nat.zero_le _) ⟨_,Heap.get?_push_size _ rfl,rfl,rfl⟩
noncomputable def bJ(k:Int)(l:List ak):List ak:=@List.rec ak (fun V=>Int->List ak) (fun V=>[]) (fun m r i k=>m.wt (m.time - k)::i m.time) l k
theorem rel0{k:Int}:bJ k []=[]:=rfl
theorem rel1{k:Int}{m:ak}{r:List ak}:bJ k (m::r)=m.wt (m.time - k)::bJ m.time r:=rfl
theorem jy:∀(k:Int) (l:List ak),(bJ k l).length=l.length
 |_,[]=>rfl
 |k,m::r=>congrArg (·+1) (jy m.time r)
noncomputable def c967:Expr:=.Call (.Attribute (.Name aq ⟨472,14,472,17⟩) j6 ⟨472,14,472,22⟩) [] [⟨some aj,.Name aj ⟨472,35,472,46⟩,⟨472,23,472,46⟩⟩,⟨some au,.Name bW ⟨472,53,472,58⟩,⟨472,48,472,58⟩⟩] ⟨472,14,472,59⟩
noncomputable def a967:Stmt:=.Assign [.Name bW ⟨471,8,471,13⟩] (.BinOp (.Attribute (.Name aq ⟨471,16,471,19⟩) au ⟨471,16,471,24⟩) .Sub (.Name bT ⟨471,27,471,30⟩) ⟨471,16,471,30⟩) ⟨471,8,471,30⟩
noncomputable def z967:Stmt:=.Assign [.Name bT ⟨473,8,473,11⟩] (.Attribute (.Name aq ⟨473,14,473,17⟩) au ⟨473,14,473,22⟩) ⟨473,8,473,22⟩
noncomputable def t967:Expr:=.Name aq ⟨470,8,470,11⟩
noncomputable def b967:List Stmt:=[a967,.Expr (.Yield (some c967) ⟨472,8,472,59⟩) ⟨472,8,472,59⟩,z967]
theorem body967(P:Params):iI (g8 P)=[.Assign [.Name bT ⟨469,4,469,7⟩] (.Constant (.int 0) 0 ⟨469,10,469,11⟩) ⟨469,4,469,11⟩,.For t967 (.Name aH ⟨470,15,470,23⟩) b967 [] ⟨470,4,473,22⟩]:=rfl
theorem eN.inB{pr:Program}{w:World}{B:Heap}{s:Shared}{v:Value}{m:ak}(h:eN pr w (fun V=>True) B v m)(hk:aU B s):eN pr w (fun b=>∃ o,B.get? b=some o) s.heap v m:=
 h.keeps (fun b x V e=>hk b x e) fun b x V e=>⟨x,e⟩
section
variable{pr:Program}{w:World}{d u:Nat}{B:Heap}{own dw:List Addr}{og:List Nat}{outs:List ak}{L fa:Addr}
set_option maxHeartbeats 2000000 in
theorem Ac(hb:BaseOk w B)(hL:B.get? L=none)(hB:∀ b∈own,B.get? b=none)(hown:∀ b,b∈own↔b=L∨b∈dw)(hLi:L∉dw)(hd:d+110<recursionLimit){p0:Pos}{it:Value}{gd:Bool}{lv:List Value}{c:Code}
 {K:Flow->Sem Fin} {Hh:Value->Sem Fin} {gA:Bool->Bool} {lA:List Value->List Value}
 (hc:∀ body,(Ar d u).in1.over (.forLoop t967 it body [] (callEnv (g8 w.params) L fa)) [.ret (lN K Hh gA lA (callEnv (g8 w.params) L fa)) none gd lv c p0 []]=Ar (d+1) (u+4))
 (hg:gd=false)
 (hend:∀ n sH s',n=0->Mv own og sH s'->Seg (model pr w) (Ar d u).in1 (RR own og) (YY pr w B own og outs) n sH c (K .next) [] s'):
 ∀(items:List ak) (k:Int) (ρ:ao) (s sH:Shared),(∀ m∈items,m.ok)->(∃ pre,outs=pre++bJ k items)->Mv own og sH s->aU B s->cV L s ρ->ρ.lookup aj=some (.bool false)->ρ.lookup bT=some (.int k)->
  CG pr w (d+1) (u+4) B it dw og items s->
  Seg (model pr w) (Ar d u).in1 (RR own og) (YY pr w B own og outs) items.length sH (.forLoop t967 it b967 [] (callEnv (g8 w.params) L fa))
   ((model pr w).den (.forLoop t967 it b967 [] (callEnv (g8 w.params) L fa)))
   [.ret (lN K Hh gA lA (callEnv (g8 w.params) L fa)) none gd lv c p0 []] s
 |[],k,ρ,s,sH,hok,hout,hM,hk,hF,e1,e2,hS=>by
  refine jK ?_
  rw[hc]
  refine hS _ hk fun s' hM'=>?_
  exact vX (hend _ _ _ rfl (hM.trans (hM'.mono (fun b o hb V=>(hown b).mpr (.inr hb)) fun V h=>h)))
 |m::items,k,ρ,s,sH,hok,hout,hM,hk,hF,e1,e2,hS=>by
  refine jK ?_
  rw[hc]
  refine hS _ hk fun sE v hM1 hV pW hN=>?_
  have hM1':Mv own og s sE:=hM1.mono (fun b o hb V=>(hown b).mpr (.inr hb)) fun V h=>h
  have hk1:aU B sE:=hM1'.keep hk hB
  have hF1:=hF.mv hLi hM1
  have ou:∀ b,(∃ o,B.get? b=some o)->b≠L:=fun b hX z=>by
   obtain⟨o,e⟩:=hX
   rw[z,hL]at e;cases e
  obtain⟨α,R1,rv⟩:=wg hb hk1 hL ou (hV.inB hk1) hF1.at_
  have Bk:=vU (pr:=pr) hb hk1 hL m.small.length
  obtain⟨a,ea,rfl⟩:=rv
  refine wpAny_bind (wpAny_pure ?_)
  refine wpAny_assign_Name (aC.stores (C:=dj pr w sE L m.small.length) (fd:=g8 w.params) (fa:=fa) R1 (v:=.ref 2) ⟨a,ea,rfl⟩ rfl rfl fun sG R2=>?_)
  refine gR (lX ?_)
  rw[hc]
  have hm2:(put aq (.ref 2) ρ).lookup aq=some (.ref 2):=cI _ _ _
  have Gp:(put aq (.ref 2) ρ).lookup bT=some (.int k):=by rw[aJ rfl];exact e2
  have X1:Ex (dj pr w sE L m.small.length) (d+1) (u+4) m.small L (put aq (.ref 2) ρ) [] (exec a967 (callEnv (g8 w.params) L fa)) .next m.small (put bW (.int (m.time - k)) (put aq (.ref 2) ρ)):=
   Ex.assign rfl rfl (Ev.b (Ev.mtime Bk (by exact lu hd rfl) (Ev.l rfl rfl hm2 rfl) (bV m).1 (bV m).2.1 (bV m).2.2 rfl) (Ev.l rfl rfl Gp rfl) E2.sub) rfl
  refine X1.go R2 fun α3 sI y E3 R3 rC=>?_
  cases rC
  refine gR (seg_Expr_Yield rfl rfl (by simp[Frame.guarded,hg]) ?_)
  rw[hc]
  have hl3:∀(x:Str) (v:AV),(x==bW)=false->(x==aq)=false->ρ.lookup x=some v->(put bW (.int (m.time - k)) (put aq (.ref 2) ρ)).lookup x=some v:=fun x v h1 h2 e=>by rw[aJ h1,aJ h2];exact e
  have hm3:(put bW (.int (m.time - k)) (put aq (.ref 2) ρ)).lookup aq=some (.ref 2):=by rw[aJ rfl];exact hm2
  have X2:Ev (dj pr w sE L m.small.length) (d+1) (u+4) m.small [(L,.loc (put bW (.int (m.time - k)) (put aq (.ref 2) ρ)))] (eval c967 (callEnv (g8 w.params) L fa)) (.ref (m.small.length+2))
   (m.small++[.dict (m.wt (m.time - k)).fields,.dict [(aR,.ref m.small.length)],.inst m.cls (m.small.length+1)]):=by
   apply wJ Bk (by exact lu hd rfl) (hok m (.head _)) rfl rfl rfl rfl hm3 (hl3 _ _ rfl rfl e1) (cI bW (.int (m.time - k)) _) rfl (pl:=_) rfl
  refine cY (X2.go R3 fun α4 s4 vG E4 R4 r4 κ hκ=>?_)
  obtain⟨pre,hpre⟩:=hout
  have jh:Mv own og sE s4:=lH R4 ((hown L).mpr (.inl rfl))
  have hM4:Mv own og sH s4:=(hM.trans hM1').trans jh
  have hk4:=jh.keep hk1 hB
  have um:=uG (m:=m.wt (m.time - k)) (by rw[ak.za];exact R4) r4
  have live1:∀ b∈own,∃ o,sE.heap.get? b=some o:=fun b hb=>by
   rcases(hown b).mp hb with rfl|hb
   · obtain⟨V,mm,⟨o,V,V,e,V⟩,V⟩:=hF1;exact⟨o,e⟩
   · exact pW b hb
  refine⟨m.wt (m.time - k),bJ m.time items,?_,hM4,um.keeps (fun V V V e=>e) fun b x hX V=>⟨fun hm=>?_,.inr ?_⟩,fun b hb'=>?_,fun s5 hS5 hk5=>hκ _ _ ?_⟩
  · have hlen:(bJ k (m::items)).length=items.length+1:=by rw[jy];rfl
    rw[hpre,List.length_append,hlen,Nat.add_sub_cancel,List.drop_left]
    rfl
  · obtain⟨o,e⟩:=live1 b hm
    rw[hX.1]at e;cases e
  · cases q:sH.heap.get? b with
    |none=>rfl
    |some o=>
     exfalso
     have hbo:b∉own:=fun hm=>by
      obtain⟨o,e⟩:=live1 b hm
      rw[hX.1]at e;cases e
     have:=(hM.trans hM1').heap b o hbo q
     rw[hX.1]at this;cases this
  · rcases(hown b).mp hb' with rfl|hb
    · obtain⟨V,⟨mm,⟨o,V,V,e,V⟩,V⟩,V⟩:=R4.frs (b,_) (.head _);exact⟨o,e⟩
    · obtain⟨o,e⟩:=pW b hb
      exact⟨o,R4.keep b o (hideAll_get _ e fun hm=>hLi (by rw[←List.mem_singleton.mp hm];exact hb))⟩
  · have hF4:=iU R4 hm3 ((E3.trans E4).get ea) ((hF.no.put aq (.ref 2) rfl).put bW (.int (m.time - k)) rfl)
    have hF5:=hF4.still ((hown L).mpr (.inl rfl)) hS5
    generalize hρ5:put aq (.glob (.ref a)) (put bW (.int (m.time - k)) (put aq (.ref 2) ρ))=ρ5 at hF5
    have g1:ρ5.lookup aq=some (.glob (.ref a)):=by rw[←hρ5];exact cI _ _ _
    have g2:ρ5.lookup aj=some (.bool false):=by rw[←hρ5,aJ rfl];exact hl3 _ _ rfl rfl e1
    refine gG fun P_ k_=>?_
    obtain⟨f',k',a',ea',⟨x1,x2,x3⟩,⟨s1,s2,s3⟩,r1,r2,r3⟩:=hV.inB hk5
    refine k_ ?_
    cases ea'
    obtain⟨n5,mm5,hm5,hl5⟩:=hF5
    have R5:aC (dj pr w s5 L m.small.length) [f',k',a] m.small [(L,.loc (put aq (.ref 2) ρ5))] s5:=qy hb hk5 hL rfl (fun n b o e1 e2=>by
     match n,e1,e2 with
     |0,e1,e2=>cases e1;cases e2;exact r1
     |1,e1,e2=>cases e1;cases e2;exact r2
     |2,e1,e2=>cases e1;cases e2;exact r3) (fun b hb=>by
     simp only[List.mem_cons,List.not_mem_nil,or_false]at hb
     rcases hb with rfl|rfl|rfl
     · exact⟨ou _ x1,s1⟩
     · exact⟨ou _ x2,s2⟩
     · exact⟨ou _ x3,s3⟩) hm5 (hl5.swapIn g1 rfl)
    have Bk5:=vU (pr:=pr) hb hk5 hL m.small.length
    refine gR (lX ?_)
    rw[hc]
    have X3:Ex (dj pr w s5 L m.small.length) (d+1) (u+4) m.small L (put aq (.ref 2) ρ5) [] (exec z967 (callEnv (g8 w.params) L fa)) .next m.small (put bT (.int m.time) (put aq (.ref 2) ρ5)):=
     Ex.assign rfl rfl (Ev.mtime Bk5 (by exact lu hd rfl) (Ev.l rfl rfl (cI _ _ _) rfl) (bV m).1 (bV m).2.1 (bV m).2.2 rfl) rfl
    refine X3.go R5 fun α6 s6 y6 E6 R6 r6=>?_
    cases r6
    refine qH ?_
    have hm6:(put bT (.int m.time) (put aq (.ref 2) ρ5)).lookup aq=some (.ref 2):=by rw[aJ rfl];exact cI _ _ _
    have hF6:=iU R6 hm6 (E6.get rfl) ((n5.put aq (.ref 2) rfl).put bT (.int m.time) rfl)
    have hM6:Mv own og s5 s6:=lH R6 ((hown L).mpr (.inl rfl))
    refine Ac hb hL hB hown hLi hd hc hg hend items m.time _ s6 s5 (fun m' h=>hok m' (.tail _ h)) ⟨pre++[m.wt (m.time - k)],by rw[hpre,List.append_assoc];rfl⟩ hM6 (hM6.keep hk5 hB) hF6 ?_ ?_ ?_
    · rw[aJ rfl,aJ rfl,aJ rfl];exact g2
    · rw[aJ rfl];exact cI _ _ _
    · refine hN s6 ⟨fun b hb o e=>R6.keep b o (hideAll_get _ (hS5.heap b ((hown b).mpr (.inr hb)) o (R4.keep b o (hideAll_get _ e fun hm=>hLi (by rw[←List.mem_singleton.mp hm];exact hb)))) fun hm=>hLi (by rw[←List.mem_singleton.mp hm];exact hb)),fun i hi x e=>R6.gens i x (hS5.gens i hi x (R4.gens i x e))⟩ (hM6.keep hk5 hB)
end
section
variable{pr:Program}{w:World}{d u:Nat}{B:Heap}{og:List Nat}{L a:Addr}{g:Nat}{aM:List Addr}
theorem rel_src(hb:BaseOk w B)(hBo:∀ b∈L::a::aM,B.get? b=none)(hLa:L≠a)(hLi:L∉aM)(hai:a∉aM)(hgo:g∉og)(hd:d+110<recursionLimit){items:List ak}(hok:∀ m∈items,m.ok){iv:Value}{s:Shared}(hk:aU B s)(hli:∀ b∈aM,b<s.heap.objs.size)
 (F:gk pr w d u B (g8 w.params) 967 L a g aM og (ItbB pr w (d+1) (u+4) B iv aM og items) iv s):qt pr w d u B (.ref a) (s.heap.objs.size::L::a::aM) (g::og) (bJ 0 items) s:=by
 refine gG fun P_ k_=>?_
 obtain⟨hG,hst,⟨ρ,hF,hm,hsk⟩,hI⟩:=F
 refine k_ ?_
 have hLs:L<s.heap.objs.size:=by obtain⟨V,mm,⟨o,V,V,e,V⟩,V⟩:=hF;exact Heap.lt_size e
 have has:a<s.heap.objs.size:=by obtain⟨o,V,V,e,V⟩:=hG;exact Heap.lt_size e
 have hBz:B.get? s.heap.objs.size=none:=by
  cases e:B.get? s.heap.objs.size with
  |none=>rfl
  |some o=>exact absurd (Heap.lt_size (hk _ _ e)) (Nat.lt_irrefl _)
 have key:=wD (pr:=pr) (w:=w) (d:=d) (u:=u) (B:=B) (own:=L::s.heap.objs.size::aM) (own':=s.heap.objs.size::L::a::aM) (og:=og) (outs:=bJ 0 items) (a:=a) (g:=g) (by
  simp only[List.mem_cons,not_or];exact⟨fun z=>hLa z.symm,Nat.ne_of_lt has,hai⟩) (fun b=>by simp only[List.mem_cons];constructor<;>(rintro(h|h|h|h)<;>simp[h])) hgo (fun b hb'=>by
  rcases List.mem_cons.mp hb' with rfl|hb'
  · exact hBz
  · exact hBo b hb') hb.lim (by exact jx hd) (bJ 0 items).length _ s (Nat.le_refl _) rfl hG hst ?_
 · rw[Nat.sub_self,List.drop_zero]at key
   exact key
 · refine⟨rfl,?_⟩
   refine seg_func ?_
   rw[body967]
   have hkp:aU B (s.setGen g .running):=hk
   refine qP (d:=d) (u:=u) (pr:=pr) (own:=L::s.heap.objs.size::aM) (aM:=aM) (og:=og) (B:=B) (iv:=iv) (ρ:=ρ) (S:=fun it o s=>CG pr w (d+1) (u+4) B it o og items s) rfl rfl rfl rfl rfl (hBo L (.head _)) (.head _) hLi hkp (⟨hF.no,hF.at_⟩:cV L (s.setGen g .running) ρ) hm
    (fun s'' hS hk'=>hI s'' ⟨fun b hb o e=>hS.heap b hb o e,fun i hi x e=>hS.gens i hi x (by
     have hne:g≠i:=fun z=>hgo (z▸hi)
     rw[bY hne];exact e)⟩ hk') rfl (fun V=>rfl) fun sI it p hM hF3 hS3=>?_
   have hlen:(bJ 0 items).length=items.length:=jy 0 items
   rw[hlen]
   refine Ac (dw:=s.heap.objs.size::aM) hb (hBo L (.head _)) (fun b hb'=>?_) (fun b=>by simp only[List.mem_cons]) (by
    simp only[List.mem_cons,not_or];exact⟨Nat.ne_of_lt hLs,hLi⟩) hd (fun V=>rfl) rfl (fun n sH s' hn jE=>?_) items 0 _ sI _ hok ⟨[],rfl⟩ hM (hM.keep hkp fun b hb'=>?_) hF3 ?_ ?_ hS3
   · rcases List.mem_cons.mp hb' with rfl|hb'
     · exact hBo b (.head _)
     · rcases List.mem_cons.mp hb' with rfl|hb'
       · exact hBz
       · exact hBo b (.tail _ (.tail _ hb'))
   · exact seg_end (.ok (.ret .none)) ⟨rfl,hn,jE⟩
   · rcases List.mem_cons.mp hb' with rfl|hb'
     · exact hBo b (.head _)
     · rcases List.mem_cons.mp hb' with rfl|hb'
       · exact hBz
       · exact hBo b (.tail _ (.tail _ hb'))
   · rw[aJ rfl];exact hsk
   · exact cI _ _ _
end
section
variable{prog:Program}{w:World}{A:Around}{R:GenEnd}{Y:Protocol}{n:Nat}{sH:Shared}{c:Code}{fs:List Frame}{s:Shared}{env:Env}
 {K:Flow->Sem Fin} {Hh:Value->Sem Fin} {gd:Bool->Bool} {lv:List Value->List Value}
theorem sIf{test:Expr}{body orelse:List Stmt}{pos:Pos}
 (h:wpAny (model prog w) (A.over c fs) (isTrue test env (eval test env)) (fun b s'=>Seg (model prog w) A R Y n sH c ((execs (match b with|true=>body|false=>orelse) env).wrap K Hh gd lv) fs s') bf s):
 Seg (model prog w) A R Y n sH c ((exec (.If test body orelse pos) env).wrap K Hh gd lv) fs s:=by
 rw[exec_If]
 refine seg_at (k:=fun V=>((isTrue test env (eval test env)>>= fun b=>if b=true then execs body env else execs orelse env:Sem Flow).wrap K Hh gd lv)) ?_
 rw[Sem.bind_eq_wrap',Sem.wrap_wrap]
 refine seg_wrap (cY (wpAny_mono h (fun b s' hb=>?_) fun V V z=>z))
 cases b<;>exact hb
end
section
variable(pr:Program)(w:World)(B:Heap)(ow:Nat->List Addr)(og:List Nat)(outs:List ak)
noncomputable def YF:Protocol:=fun j sH v s' κ=>∃ m r,outs.drop (outs.length - (j+1))=m::r∧Mv (ow (j+1)) og sH s'∧eN pr w (CK B sH (ow (j+1)) (ow j)) s'.heap v m∧∀ s'',eG (ow j) og s' s''->aU B s''->κ (.send .none) s''
noncomputable def PF:Nat->Shared->Shared->Prop:=fun n sH s'=>n=0∧Mv (ow 0) og sH s'
noncomputable abbrev RF:GenEnd:=fun n sH r sE=>r=.ok (.ret .none)∧PF ow og n sH sE
end
section
variable{pr:Program}{w:World}{d u:Nat}{B:Heap}{ow oc:Nat->List Addr}{og:List Nat}{outs:List ak}
theorem Bt{a:Addr}{g:Nat}(ha:∀ n,a∉ow n)(hsub:∀ n,∀ b∈oc n,b∈oc (n+1))(hown:∀ n b,b∈oc n↔b=a∨b∈ow n)(hg:g∉og)(hB:∀ n,∀ b∈oc n,B.get? b=none)(hlim:B.NoLimit)(hd:d<recursionLimit):∀(n:Nat) (gs:GenState) (s:Shared),n≤outs.length->gs.bare=true->s.heap.IsGen a g->s.gens[g]? =some gs->
 gs.Goes (model pr w) (Ar d u).in1 (RF ow og) (YF pr w B ow og outs) n (.send .none) (s.setGen g .running)->nu pr w d u B (.ref a) (oc n) (g::og) (outs.drop (outs.length - n)) s
 |0,gs,s,hn,hgb,hG,hgs,hgo=>by
  rw[Nat.sub_zero,List.drop_length]
  refine fun Q hk hQ=>jR (n:=0) (hlim.keeps hk) hd hG hgs hgo (fun v sE gs' hb' hv=>?_) fun sE hp h' hh=>?_
  · refine gG fun P_ k_=>?_
    obtain⟨m,r,V,hM,V,hκ⟩:=hv
    refine k_ ?_
    exact(hκ sE (eG.refl _) (hM.keep (show aU B (s.setGen g .running)from hk) fun b hb=>hB 1 b ((hown 1 b).mpr (.inr hb)))).elim
  · obtain⟨V,hM⟩:=hp
    refine hQ _ ⟨fun b o hb e=>hh b o (hM.heap b o (fun hm=>hb ((hown 0 b).mpr (.inr hm))) e),fun i x hi e=>?_,(gJ (hM.gens g _ hg (iM hgs)) rfl rfl).trans (hM.drawn.trans (gJ hgs hgb rfl)),hM.os⟩
    have hne:g≠i:=fun z=>hi (by simp[z])
    show(sE.setGen g .finished).gens[i]? =some x
    rw[bY hne]
    exact hM.gens i x (fun hm=>hi (.tail _ hm)) (by rw[bY hne];exact e)
 |n+1,gs,s,hn,hgb,hG,hgs,hgo=>by
  have hlt:outs.length - (n+1)<outs.length:=by exact o23 hn
  have hdr:outs.drop (outs.length - (n+1))=outs[outs.length - (n+1)]::outs.drop (outs.length - n):=by
   rw[List.drop_eq_getElem_cons hlt]
   congr 2
   exact o24 hn
  rw[hdr]
  refine fun Q hk hQ=>jR (n:=n+1) (hlim.keeps hk) hd hG hgs hgo (fun v sE gs' hb' hv=>?_) fun sE hp=>(Nat.succ_ne_zero _ hp.1).elim
  refine gG fun P_ k_=>?_
  obtain⟨m,r,e,hM,hV,hκ⟩:=hv
  refine k_ ?_
  rw[show n+1 - 1+1=n+1 from rfl,hdr]at e
  injection e with e1 e2
  subst e1
  have hM:Mv (ow (n+1)) og (s.setGen g .running) sE:=hM
  have hV:eN pr w (CK B (s.setGen g .running) (ow (n+1)) (ow n)) sE.heap v _:=hV
  have hg1:sE.gens[g]? =some .running:=hM.gens g _ hg (iM hgs)
  refine gG fun P_ k_=>?_
  obtain⟨o,nm,qn,g1,g2⟩:=hG
  refine k_ ?_
  have ga:sE.heap.get? a=some o:=hM.heap a o (ha _) g1
  refine hQ (sE.setGen g gs') v (oc n) (hsub n) ⟨fun b o hb e=>hM.heap b o (fun hm=>hb ((hown _ b).mpr (.inr hm))) e,fun i x hi e=>?_,(gJ hg1 rfl hb').trans (hM.drawn.trans (gJ hgs hgb rfl)),hM.os⟩ ?_ fun s'' hS hk''=>?_
  · have hne:g≠i:=fun z=>hi (by simp[z])
    rw[bY hne]
    exact hM.gens i x (fun hm=>hi (.tail _ hm)) (by rw[bY hne];exact e)
  · refine hV.keeps (fun V V V e=>e) fun b x hX V=>⟨fun hm=>?_,hX.2.imp_right fun h=>h.imp_right fun h=>(hown _ b).mpr (.inr h)⟩
    rcases(hown n b).mp hm with rfl|hm
    · rcases hX.2 with⟨y,hy⟩|hy|hy
      · rw[hB n b ((hown n b).mpr (.inl rfl))]at hy;cases hy
      · have hy:s.heap.get? b=none:=hy
        rw[g1]at hy;cases hy
      · exact ha _ hy
    · exact hX.1 hm
  · have Gr:s''.gens[g]? =some gs':=hS.gens g (.head _) _ (iM hg1)
    refine Bt ha hsub hown hg hB hlim hd n gs' s'' (Nat.le_of_succ_le hn) hb' ⟨o,nm,qn,hS.heap a ((hown n a).mpr (.inl rfl)) o ga,g2⟩ Gr ?_
    refine hκ (s''.setGen g .running) ⟨fun b hb o e=>hS.heap b ((hown n b).mpr (.inr hb)) o e,fun i hi x e=>?_⟩ hk''
    have hne:g≠i:=fun z=>hg (z▸hi)
    rw[bY hne]
    exact hS.gens i (.tail _ hi) x (by rw[bY hne];exact e)
end
noncomputable abbrev yq:Str:=⟨#[77,101,116,97,77,101,115,115,97,103,101]⟩
noncomputable def aV(k:Int)(l:List ak):List ak:=@List.rec ak (fun V=>Int->List ak) (fun k=>[.eot k]) (fun m r i k=>if m.fB=true then i (k+m.time)else if k=0 then m::i 0 else m.wt (k+m.time)::i 0) l k
theorem fix0{k:Int}:aV k []=[.eot k]:=rfl
theorem lg{k:Int}{m:ak}{r:List ak}:aV k (m::r)=if m.fB=true then aV (k+m.time) r else if k=0 then m::aV 0 r else m.wt (k+m.time)::aV 0 r:=rfl
theorem pX:∀(k:Int) (l:List ak),∃ n,(aV k l).length=n+1
 |_,[]=>⟨0,rfl⟩
 |k,m::r=>by
  rw[lg]
  split
  · exact pX _ r
  · split<;>exact⟨_,rfl⟩
noncomputable def c975:Expr:=.Call (.Attribute (.Name aq ⟨481,18,481,21⟩) j6 ⟨481,18,481,26⟩) [] [⟨some aj,.Name aj ⟨481,39,481,50⟩,⟨481,27,481,50⟩⟩,⟨some au,.Name bW ⟨481,57,481,62⟩,⟨481,52,481,62⟩⟩] ⟨481,18,481,63⟩
noncomputable def q975:Expr:=.Compare (.Attribute (.Name aq ⟨477,11,477,14⟩) aP ⟨477,11,477,19⟩) [.Eq] [.Constant (.str bG) 0 ⟨477,23,477,37⟩] ⟨477,11,477,37⟩
noncomputable def a975:Stmt:=.AugAssign (.Name dM ⟨478,12,478,17⟩) .Add (.Attribute (.Name aq ⟨478,21,478,24⟩) au ⟨478,21,478,29⟩) ⟨478,12,478,29⟩
noncomputable def n975:Expr:=.Name dM ⟨479,13,479,18⟩
noncomputable def d975:Stmt:=.Assign [.Name bW ⟨480,12,480,17⟩] (.BinOp (.Name dM ⟨480,20,480,25⟩) .Add (.Attribute (.Name aq ⟨480,28,480,31⟩) au ⟨480,28,480,36⟩) ⟨480,20,480,36⟩) ⟨480,12,480,36⟩
noncomputable def z975:Stmt:=.Assign [.Name dM ⟨482,12,482,17⟩] (.Constant (.int 0) 0 ⟨482,20,482,21⟩) ⟨482,12,482,21⟩
noncomputable def m975:Expr:=.Name aq ⟨484,18,484,21⟩
noncomputable def t975:Expr:=.Name aq ⟨476,8,476,11⟩
noncomputable def e975:Expr:=.Call (.Name yq ⟨485,10,485,21⟩) [.Constant (.str bG) 0 ⟨485,22,485,36⟩] [⟨some au,.Name dM ⟨485,43,485,48⟩,⟨485,38,485,48⟩⟩] ⟨485,10,485,49⟩
noncomputable def b975:List Stmt:=[.If q975 [a975] [.If n975 [d975,.Expr (.Yield (some c975) ⟨481,12,481,63⟩) ⟨481,12,481,63⟩,z975] [.Expr (.Yield (some m975) ⟨484,12,484,21⟩) ⟨484,12,484,21⟩] ⟨479,8,484,21⟩] ⟨477,8,484,21⟩]
theorem body975(P:Params):iI (cQ P)=[.Assign [.Name dM ⟨475,4,475,9⟩] (.Constant (.int 0) 0 ⟨475,12,475,13⟩) ⟨475,4,475,13⟩,.For t975 (.Name aH ⟨476,15,476,23⟩) b975 [] ⟨476,4,484,21⟩,.Expr (.Yield (some e975) ⟨485,4,485,49⟩) ⟨485,4,485,49⟩]:=rfl
section
variable{pr:Program}{w:World}{d u:Nat}{B:Heap}{own dw:List Addr}{ow:Nat->List Addr}{og:List Nat}{outs:List ak}{L fa:Addr}
set_option maxHeartbeats 4000000 in
theorem M8(hb:BaseOk w B)(hL:B.get? L=none)(hB:∀ b∈own,B.get? b=none)(hown:∀ b,b∈own↔b=L∨b∈dw)(how:∀ j,ow (j+1)=own)(hLi:L∉dw)(hd:d+110<recursionLimit){p0:Pos}{it:Value}{gd:Bool}{lv:List Value}{c:Code}
 {K:Flow->Sem Fin} {Hh:Value->Sem Fin} {gA:Bool->Bool} {lA:List Value->List Value}
 (hc:∀ body,(Ar d u).in1.over (.forLoop t975 it body [] (callEnv (cQ w.params) L fa)) [.ret (lN K Hh gA lA (callEnv (cQ w.params) L fa)) none gd lv c p0 []]=Ar (d+1) (u+4))
 (hg:gd=false)
 (hend:∀ k ρ sH s',(∃ pre,outs=pre++[.eot k])->Mv own og sH s'->aU B s'->cV L s' ρ->ρ.lookup dM=some (.int k)->Seg (model pr w) (Ar d u).in1 (RF ow og) (YF pr w B ow og outs) 1 sH c (K .next) [] s'):
 ∀(items:List ak) (k:Int) (ρ:ao) (s sH:Shared),(∀ m∈items,m.ok)->(∃ pre,outs=pre++aV k items)->Mv own og sH s->aU B s->cV L s ρ->ρ.lookup aj=some (.bool false)->ρ.lookup dM=some (.int k)->
  qt pr w (d+1) (u+4) B it dw og items s->
  Seg (model pr w) (Ar d u).in1 (RF ow og) (YF pr w B ow og outs) (aV k items).length sH (.forLoop t975 it b975 [] (callEnv (cQ w.params) L fa))
   ((model pr w).den (.forLoop t975 it b975 [] (callEnv (cQ w.params) L fa)))
   [.ret (lN K Hh gA lA (callEnv (cQ w.params) L fa)) none gd lv c p0 []] s:=by
 intro items_
 induction items_ with
 |nil=>
  intro k ρ s sH hok hout hM hk hF e1 e2 hS
  refine jK ?_
  rw[hc]
  refine hS _ hk fun s' hM'=>?_
  have hM1:Mv own og s s':=hM'.mono (fun b o hb V=>(hown b).mpr (.inr hb)) fun V h=>h
  exact vX (hend k ρ _ _ hout (hM.trans hM1) (hM1.keep hk hB) (hF.mv hLi hM') e2)
 |cons m items ih=>
  intro k ρ s sH hok hout hM hk hF e1 e2 hS
  refine jK ?_
  rw[hc]
  refine hS _ hk fun sE v hM1 hV pW hN=>?_
  have hM1':Mv own og s sE:=hM1.mono (fun b o hb V=>(hown b).mpr (.inr hb)) fun V h=>h
  have hk1:aU B sE:=hM1'.keep hk hB
  have hF1:=hF.mv hLi hM1
  have hLs:∃ o,s.heap.get? L=some o:=by obtain⟨V,mm,⟨o,V,V,e,V⟩,V⟩:=hF;exact⟨o,e⟩
  have ou:∀ b,NewX B s dw b->b≠L:=fun b hX z=>by
   subst z
   rcases hX.2 with⟨o,e⟩|e
   · rw[hL]at e;cases e
   · obtain⟨o,e'⟩:=hLs
     rw[e']at e;cases e
  obtain⟨α,R1,rv⟩:=wg hb hk1 hL ou hV hF1.at_
  have Bk:=vU (pr:=pr) hb hk1 hL m.small.length
  obtain⟨a,ea,rfl⟩:=rv
  have live1:∀ b∈own,∃ o,sE.heap.get? b=some o:=fun b hb=>by
   rcases(hown b).mp hb with rfl|hb
   · obtain⟨V,mm,⟨o,V,V,e,V⟩,V⟩:=hF1;exact⟨o,e⟩
   · exact pW b hb
  have fresh0:∀ b,sE.heap.get? b=none->sH.heap.get? b=none:=fun b hX=>by
   cases q:sH.heap.get? b with
   |none=>rfl
   |some o=>
    exfalso
    have hbo:b∉own:=fun hm=>by
     obtain⟨o,e⟩:=live1 b hm
     rw[hX]at e;cases e
    have:=(hM.trans hM1').heap b o hbo q
    rw[hX]at this;cases this
  refine wpAny_bind (wpAny_pure ?_)
  refine wpAny_assign_Name (aC.stores (C:=dj pr w sE L m.small.length) (fd:=cQ w.params) (fa:=fa) R1 (v:=.ref 2) ⟨a,ea,rfl⟩ rfl rfl fun sG R2=>?_)
  have hm2:(put aq (.ref 2) ρ).lookup aq=some (.ref 2):=cI _ _ _
  have hac2:(put aq (.ref 2) ρ).lookup dM=some (.int k):=by rw[aJ rfl];exact e2
  have hsk2:(put aq (.ref 2) ρ).lookup aj=some (.bool false):=by rw[aJ rfl];exact e1
  have vR:∀{s5:Shared} {α:List Addr} {H:List AO} {ρ:ao},aC (dj pr w sE L m.small.length) α H [(L,.loc ρ)] s5->eG dw og sE s5:=fun R=>⟨fun b hb o e=>R.keep b o (hideAll_get _ e fun hm=>hLi (by rw[←List.mem_singleton.mp hm];exact hb)),fun i hi x e=>R.gens i x e⟩
  refine gR (sIf ?_)
  rw[hc]
  have TA:Et (dj pr w sE L m.small.length) (d+1) (u+4) m.small [(L,.loc (put aq (.ref 2) ρ))] (isTrue q975 (callEnv (cQ w.params) L fa) (eval q975 (callEnv (cQ w.params) L fa))) (m.kind==bG) m.small:=
   Et.compare (Ev.mtype Bk (by exact lu hd rfl) (Ev.l rfl rfl hm2 rfl) (bV m).1 (bV m).2.1 (bV m).2.2 rfl) Ev.str E2.eqS rfl
  rw[ak.Gk]at TA
  refine TA.go R2 fun α3 sI b E3 R3 rC=>?_
  have rC:b=m.fB:=rC
  cases hm:m.fB with
  |true=>
   rw[hm]at rC
   subst rC
   have hfx:aV k (m::items)=aV (k+m.time) items:=by rw[lg,if_pos hm]
   rw[hfx]at hout⊢
   refine gR (lX ?_)
   rw[hc]
   have X1:Ex (dj pr w sE L m.small.length) (d+1) (u+4) m.small L (put aq (.ref 2) ρ) [] (exec a975 (callEnv (cQ w.params) L fa)) .next m.small (put dM (.int (k+m.time)) (put aq (.ref 2) ρ)):=
    Ex.aug rfl rfl hac2 (Ev.mtime Bk (by exact lu hd rfl) (Ev.l rfl rfl hm2 rfl) (bV m).1 (bV m).2.1 (bV m).2.2 rfl)
   refine X1.go R3 fun α4 s4 y E4 R4 r4=>?_
   cases r4
   refine qH ?_
   have hm4:(put dM (.int (k+m.time)) (put aq (.ref 2) ρ)).lookup aq=some (.ref 2):=by rw[aJ rfl];exact hm2
   have hF4:=iU R4 hm4 ((E3.trans E4).get ea) ((hF.no.put aq (.ref 2) rfl).put dM (.int (k+m.time)) rfl)
   have jh:Mv own og sE s4:=lH R4 ((hown L).mpr (.inl rfl))
   refine ih (k+m.time) _ s4 sH (fun m' h=>hok m' (.tail _ h)) hout ((hM.trans hM1').trans jh) (jh.keep hk1 hB) hF4 ?_ ?_ (hN s4 (vR R4) (jh.keep hk1 hB))
   · rw[aJ rfl,aJ rfl];exact hsk2
   · rw[aJ rfl];exact cI _ _ _
  |false=>
   rw[hm]at rC
   subst rC
   have hfx:aV k (m::items)=if k=0 then m::aV 0 items else m.wt (k+m.time)::aV 0 items:=by rw[lg,if_neg (by rw[hm];exact Bool.false_ne_true)]
   rw[hfx]at hout⊢
   obtain⟨n',hn'⟩:=pX 0 items
   refine gR (sIf ?_)
   rw[hc]
   have T2:Et (dj pr w sE L m.small.length) (d+1) (u+4) m.small [(L,.loc (put aq (.ref 2) ρ))] (isTrue n975 (callEnv (cQ w.params) L fa) (eval n975 (callEnv (cQ w.params) L fa))) (k !=0) m.small:=
    Et.plain (Ev.l rfl rfl hac2 rfl) T1.int rfl
   refine T2.go R3 fun α4 s4 b E4 R4 r4=>?_
   have r4:b=(k !=0):=r4
   by_cases hk0:k=0
   · subst hk0
     rw[if_pos rfl]at hout⊢
     cases r4
     show Seg _ _ _ _ ((aV 0 items).length+1) _ _ _ _ _
     refine gR (seg_Expr_Yield rfl rfl (by simp[Frame.guarded,hg]) ?_)
     rw[hc]
     have X2:Ev (dj pr w sE L m.small.length) (d+1) (u+4) m.small [(L,.loc (put aq (.ref 2) ρ))] (eval m975 (callEnv (cQ w.params) L fa)) (.ref 2) m.small:=Ev.l rfl rfl hm2 rfl
     refine cY (X2.go R4 fun α5 s5 v5 E5 R5 r5 κ hκ=>?_)
     obtain⟨pre,hpre⟩:=hout
     have jh:Mv own og sE s5:=lH R5 ((hown L).mpr (.inl rfl))
     obtain⟨a',ea',rfl⟩:=r5
     have:a'=a:=by
      have:=((E3.trans E4).trans E5).get ea
      rw[ea']at this;cases this;rfl
     subst this
     have hkeepX:∀ b x,NewX B s dw b->sE.heap.get? b=some x->s5.heap.get? b=some x:=fun b x hX e=>R5.keep b x (hideAll_get _ e fun hm=>ou b hX (List.mem_singleton.mp hm))
     refine⟨m,aV 0 items,?_,(by rw[how];exact(hM.trans hM1').trans jh),hV.keeps hkeepX (fun b x hX V=>⟨fun hm=>?_,?_⟩),fun s6 hS6 hk6=>hκ _ _ ?_⟩
     · rw[hpre,List.length_append,List.length_cons,Nat.add_sub_cancel,List.drop_left]
     · rw[hn',how]at hm
       rcases(hown b).mp hm with rfl|hm
       · exact ou _ hX rfl
       · exact hX.1 hm
     · rcases hX.2 with h|h
       · exact .inl h
       · refine .inr (.inl ?_)
         cases q:sH.heap.get? b with
         |none=>rfl
         |some o=>
          exfalso
          have hbo:b∉own:=fun hm=>by
           rcases(hown b).mp hm with rfl|hm
           · exact ou _ hX rfl
           · exact hX.1 hm
          have:=hM.heap b o hbo q
          rw[h]at this;cases this
     · rw[hn',how]at hS6
       refine qH ?_
       have hF5:=iU R5 hm2 ea' (hF.no.put aq (.ref 2) rfl)
       refine ih 0 _ s6 s6 (fun m' h=>hok m' (.tail _ h)) ⟨pre++[m],by rw[hpre,List.append_assoc];rfl⟩ (Mv.refl _) hk6 (hF5.still ((hown L).mpr (.inl rfl)) hS6) ?_ ?_ ?_
       · rw[aJ rfl];exact hsk2
       · rw[aJ rfl];exact hac2
       · refine hN s6 ⟨fun b hb o e=>hS6.heap b ((hown b).mpr (.inr hb)) o ((vR R5).heap b hb o e),fun i hi x e=>hS6.gens i hi x (R5.gens i x e)⟩ hk6
   · have hkb:(k !=0)=true:=by simpa using hk0
     rw[hkb]at r4
     subst r4
     rw[if_neg hk0]at hout⊢
     show Seg _ _ _ _ ((aV 0 items).length+1) _ _ _ _ _
     refine gR (lX ?_)
     rw[hc]
     have X1:Ex (dj pr w sE L m.small.length) (d+1) (u+4) m.small L (put aq (.ref 2) ρ) [] (exec d975 (callEnv (cQ w.params) L fa)) .next m.small (put bW (.int (k+m.time)) (put aq (.ref 2) ρ)):=
      Ex.assign rfl rfl (Ev.b (Ev.l rfl rfl hac2 rfl) (Ev.mtime Bk (by exact lu hd rfl) (Ev.l rfl rfl hm2 rfl) (bV m).1 (bV m).2.1 (bV m).2.2 rfl) E2.add) rfl
     refine X1.go R4 fun α5 s5 y E5 R5 r5=>?_
     cases r5
     refine gR (seg_Expr_Yield rfl rfl (by simp[Frame.guarded,hg]) ?_)
     rw[hc]
     have hm5:(put bW (.int (k+m.time)) (put aq (.ref 2) ρ)).lookup aq=some (.ref 2):=by rw[aJ rfl];exact hm2
     have hsk5:(put bW (.int (k+m.time)) (put aq (.ref 2) ρ)).lookup aj=some (.bool false):=by rw[aJ rfl];exact hsk2
     have X2:Ev (dj pr w sE L m.small.length) (d+1) (u+4) m.small [(L,.loc (put bW (.int (k+m.time)) (put aq (.ref 2) ρ)))] (eval c975 (callEnv (cQ w.params) L fa)) (.ref (m.small.length+2))
      (m.small++[.dict (m.wt (k+m.time)).fields,.dict [(aR,.ref m.small.length)],.inst m.cls (m.small.length+1)]):=by
      apply wJ Bk (by exact lu hd rfl) (hok m (.head _)) rfl rfl rfl rfl hm5 hsk5 (cI bW (.int (k+m.time)) _) rfl (pl:=_) rfl
     refine cY (X2.go R5 fun α6 s6 v6 E6 R6 r6 κ hκ=>?_)
     obtain⟨pre,hpre⟩:=hout
     have jh:Mv own og sE s6:=lH R6 ((hown L).mpr (.inl rfl))
     have um:=uG (m:=m.wt (k+m.time)) (by rw[ak.za];exact R6) r6
     refine⟨m.wt (k+m.time),aV 0 items,?_,(by rw[how];exact(hM.trans hM1').trans jh),um.keeps (fun V V V e=>e) (fun b x hX V=>⟨fun hm=>?_,.inr (.inl (fresh0 b hX.1))⟩),fun s7 hS7 hk7=>hκ _ _ ?_⟩
     · rw[hpre,List.length_append,List.length_cons,Nat.add_sub_cancel,List.drop_left]
     · rw[hn',how]at hm
       obtain⟨o,e⟩:=live1 b hm
       rw[hX.1]at e;cases e
     · rw[hn',how]at hS7
       have hF6:=iU R6 hm5 (((E3.trans E4).trans (E5.trans E6)).get ea) ((hF.no.put aq (.ref 2) rfl).put bW (.int (k+m.time)) rfl)
       obtain⟨n7,mm7,hm7,hl7⟩:=hF6.still ((hown L).mpr (.inl rfl)) hS7
       have R7:=qy (pr:=pr) hb hk7 hL (α:=[]) (H:=[]) rfl (fun n a o e1 V=>by simp at e1) (fun a h=>by cases h) hm7 hl7
       refine gR (lX ?_)
       rw[hc]
       have X3:Ex (dj pr w s7 L 0) (d+1) (u+4) [] L _ [] (exec z975 (callEnv (cQ w.params) L fa)) .next [] (put dM (.int 0) (put aq (.glob (.ref a)) (put bW (.int (k+m.time)) (put aq (.ref 2) ρ)))):=
        Ex.assign rfl rfl Ev.int rfl
       refine X3.go R7 fun α8 s8 y8 E8 R8 r8=>?_
       cases r8
       refine qH ?_
       have hM8:Mv own og s7 s8:=lH R8 ((hown L).mpr (.inl rfl))
       have hF8:cV L s8 (put dM (.int 0) (put aq (.glob (.ref a)) (put bW (.int (k+m.time)) (put aq (.ref 2) ρ)))):=by
        refine gG fun P_ k_=>?_
        obtain⟨V,⟨mm,h1,h2⟩,V⟩:=R8.frs (L,_) (.head _)
        refine k_ ?_
        have hl8:α8=[]:=by have:=R8.len;simpa using this
        subst hl8
        exact⟨n7.put _ _ rfl,mm,h1,h2⟩
       refine ih 0 _ s8 s7 (fun m' h=>hok m' (.tail _ h)) ⟨pre++[m.wt (k+m.time)],by rw[hpre,List.append_assoc];rfl⟩ hM8 (hM8.keep hk7 hB) hF8 ?_ (cI _ _ _) ?_
       · rw[aJ rfl,aJ rfl];exact hsk5
       · refine hN s8 ⟨fun b hb o e=>R8.keep b o (hideAll_get _ (hS7.heap b ((hown b).mpr (.inr hb)) o ((vR R6).heap b hb o e)) fun hm=>hLi (by rw[←List.mem_singleton.mp hm];exact hb)),fun i hi x e=>R8.gens i x (hS7.gens i hi x (R6.gens i x e))⟩ (hM8.keep hk7 hB)
end
section
variable{pr:Program}{w:World}{d u:Nat}{B:Heap}{og:List Nat}{L a:Addr}{g:Nat}{aM:List Addr}
theorem Eu(hb:BaseOk w B)(hBo:∀ b∈L::a::aM,B.get? b=none)(hLa:L≠a)(hLi:L∉aM)(hai:a∉aM)(hgo:g∉og)(hd:d+110<recursionLimit){items:List ak}(hok:∀ m∈items,m.ok){iv:Value}{s:Shared}(hk:aU B s)(hli:∀ b∈aM,b<s.heap.objs.size)
 (F:gk pr w d u B (cQ w.params) 975 L a g aM og (Itb pr w (d+1) (u+4) B iv aM og items) iv s):nu pr w d u B (.ref a) (s.heap.objs.size::L::a::aM) (g::og) (aV 0 items) s:=by
 refine gG fun P_ k_=>?_
 obtain⟨hG,hst,⟨ρ,hF,hm,hsk⟩,hI⟩:=F
 refine k_ ?_
 have hLs:L<s.heap.objs.size:=by obtain⟨V,mm,⟨o,V,V,e,V⟩,V⟩:=hF;exact Heap.lt_size e
 have has:a<s.heap.objs.size:=by obtain⟨o,V,V,e,V⟩:=hG;exact Heap.lt_size e
 have hBz:B.get? s.heap.objs.size=none:=by
  cases e:B.get? s.heap.objs.size with
  |none=>rfl
  |some o=>exact absurd (Heap.lt_size (hk _ _ e)) (Nat.lt_irrefl _)
 obtain⟨N,hN⟩:=pX 0 items
 have hBw:∀ b∈L::s.heap.objs.size::aM,B.get? b=none:=fun b hb'=>by
  rcases List.mem_cons.mp hb' with rfl|hb'
  · exact hBo b (.head _)
  · rcases List.mem_cons.mp hb' with rfl|hb'
    · exact hBz
    · exact hBo b (.tail _ (.tail _ hb'))
 have key:=Bt (pr:=pr) (w:=w) (d:=d) (u:=u) (B:=B) (ow:=fun n=>match n with|0=>[L]|_=>L::s.heap.objs.size::aM) (oc:=fun n=>match n with|0=>[L,a]|_=>s.heap.objs.size::L::a::aM) (og:=og) (outs:=aV 0 items) (a:=a) (g:=g) (fun n=>by
  cases n with
  |zero=>simp only[List.mem_singleton];exact fun z=>hLa z.symm
  |succ n=>simp only[List.mem_cons,not_or];exact⟨fun z=>hLa z.symm,Nat.ne_of_lt has,hai⟩) (fun n b hb'=>by
  cases n with
  |zero=>simp only[List.mem_cons,List.not_mem_nil,or_false]at hb';rcases hb' with h|h<;>simp[h]
  |succ n=>exact hb') (fun n b=>by
  cases n with
  |zero=>simp only[List.mem_cons,List.not_mem_nil,or_false];exact Or.comm
  |succ n=>simp only[List.mem_cons];constructor<;>(rintro(h|h|h|h)<;>simp[h])) hgo (fun n b hb'=>by
  cases n with
  |zero=>simp only[List.mem_cons,List.not_mem_nil,or_false]at hb';rcases hb' with rfl|rfl;exact hBo _ (.head _);exact hBo _ (.tail _ (.head _))
  |succ n=>
   rcases List.mem_cons.mp hb' with rfl|hb'
   · exact hBz
   · exact hBo b hb') hb.lim (by exact jx hd) (N+1) _ s (by rw[hN];exact Nat.le_refl _) rfl hG hst ?_
 · rw[hN,Nat.sub_self,List.drop_zero]at key
   exact key
 · refine⟨rfl,?_⟩
   refine seg_func ?_
   rw[body975]
   have hkp:aU B (s.setGen g .running):=hk
   refine qP (d:=d) (u:=u) (pr:=pr) (own:=L::s.heap.objs.size::aM) (aM:=aM) (og:=og) (B:=B) (iv:=iv) (ρ:=ρ) (S:=fun it o s=>qt pr w (d+1) (u+4) B it o og items s) rfl rfl rfl rfl rfl (hBo L (.head _)) (.head _) hLi hkp (⟨hF.no,hF.at_⟩:cV L (s.setGen g .running) ρ) hm
    (fun s'' hS hk'=>hI s'' ⟨fun b hb o e=>hS.heap b hb o e,fun i hi x e=>hS.gens i hi x (by
     have hne:g≠i:=fun z=>hgo (z▸hi)
     rw[bY hne];exact e)⟩ hk') rfl (fun V=>rfl) fun sI it p hM hF3 hS3=>?_
   rw[←hN]
   refine M8 (own:=L::s.heap.objs.size::aM) (dw:=s.heap.objs.size::aM) hb (hBo L (.head _)) hBw (fun b=>by simp only[List.mem_cons]) (fun j=>rfl) (by
    simp only[List.mem_cons,not_or];exact⟨Nat.ne_of_lt hLs,hLi⟩) hd (fun V=>rfl) rfl (fun k ρ' sH s' hout jE hk' hF' hac=>?_) items 0 _ sI _ hok ⟨[],rfl⟩ hM (hM.keep hkp hBw) hF3 (by rw[aJ rfl];exact hsk) (cI _ _ _) hS3
   obtain⟨n',mm',hm',hl'⟩:=hF'
   have R1:=qy (pr:=pr) hb hk' (hBo L (.head _)) (α:=[]) (H:=[]) rfl (fun n a o e1 V=>by simp at e1) (fun a h=>by cases h) hm' hl'
   have Bk:=vU (pr:=pr) hb hk' (hBo L (.head _)) 0
   refine gR (seg_Expr_Yield rfl rfl rfl ?_)
   show wpAny _ (Ar (d+1) (u+4)) _ _ _ _
   have X:Ev (dj pr w s' L 0) (d+1) (u+4) [] [(L,.loc ρ')] (eval e975 (callEnv (cQ w.params) L 975)) (.ref 2) [.dict (ak.eot k).fields,.dict [(aR,.ref 0)],.inst 949 1]:=
    Ev.callName (GR Bk (qm _) rfl rfl rfl rfl) (CF Bk rfl (Ij _) (Sp.back Ev.str Sp.q7 rfl) (Ek.back (Ev.l rfl rfl hac rfl) Ek.q7) rfl (lC Bk (by exact lu hd rfl)).v rfl rfl rfl)
   refine cY (X.go R1 fun α2 sG vB Ec R2 rB κ hκ=>?_)
   obtain⟨pre,hpre⟩:=hout
   have jh:Mv (L::s.heap.objs.size::aM) og s' sG:=lH R2 (.head _)
   have um:=uG (m:=.eot k) (H:=[]) R2 rB
   refine⟨.eot k,[],?_,jE.trans jh,um.keeps (fun V V V e=>e) (fun b x hX V=>⟨fun hm=>hX.2 (List.mem_singleton.mp hm),.inr ?_⟩),fun sI hS3 hk3=>hκ _ _ ?_⟩
   · rw[hpre,List.length_append,List.length_singleton,Nat.add_sub_cancel,List.drop_left]
   · by_cases hbo:b∈L::s.heap.objs.size::aM
     · exact .inr hbo
     · refine .inl ?_
       cases q:sH.heap.get? b with
       |none=>rfl
       |some o=>
        have:=jE.heap b o hbo q
        rw[hX.1]at this;cases this
   · exact seg_end (.ok (.ret .none)) ⟨rfl,rfl,Mv.refl _⟩
end
inductive j9(pr:Program)(w:World)(Z:Addr->Prop)(h:Heap):List Value->List ak->Prop
 |nil:j9 pr w Z h [] []
 |cons {v m vs ms}:eN pr w Z h v m->j9 pr w Z h vs ms->j9 pr w Z h (v::vs) (m::ms)
theorem j9.keeps{pr:Program}{w:World}{Z Z':Addr->Prop}{h h':Heap}(k:∀ b x,Z b->h.get? b=some x->h'.get? b=some x)(hZ:∀ b x,Z b->h.get? b=some x->Z' b){vs:List Value}{ms:List ak}(r:j9 pr w Z h vs ms):j9 pr w Z' h' vs ms:=by
 induction r with
 |nil=>exact .nil
 |cons a _ ih=>exact .cons (a.keeps k hZ) ih
noncomputable def Af(B:Heap)(S:Addr)(s:Shared)(own:List Addr)(b:Addr):Prop:=b≠S∧((∃ o,B.get? b=some o)∨s.heap.get? b=none∨b∈own)
structure Took(S:Addr)(own:List Addr)(og:List Nat)(s s':Shared):Prop where
 heap:∀ b o,b∉own->b≠S->s.heap.get? b=some o->s'.heap.get? b=some o
 gens:∀(i:Nat) (x:GenState),i∉og->s.gens[i]? =some x->s'.gens[i]? =some x
 drawn:lw s'=lw s
 os:s'.os=s.os
noncomputable abbrev bK(acc:List Value)(c:Nat):Obj:={cls:=.type "list",dict:=none,data:=.seq acc.toArray c,slots:=#[]}
section
variable{pr:Program}{w:World}{d u:Nat}{B:Heap}{og:List Nat}{I S:Addr}{res:Value}{R:Result->Shared->Prop}
theorem BL(hBS:B.get? S=none):∀(ms:List ak) (own:List Addr) (s:Shared) (acc:List Value) (c:Nat),nu pr w d (u+1) B (.ref I) own og ms s->aU B s->S∉own->(∀ b∈own,B.get? b=none)->s.heap.get? S=some (bK acc c)->acc.length+ms.length≤sizeLine->
 (∀ s' vs c',Took S own og s s'->s'.heap.get? S=some (bK (acc++vs) c')->j9 pr w (Af B S s own) s'.heap vs ms->R (.ok (.ret res)) s')->
 codeAny (model pr w) (Ar d u) (.builtin "list.extend.loop" ⟨[.ref S,.ref I,res],[]⟩) R s
 |[],own,s,acc,c,hS,hk,ql,hBo,hL,hz,hR=>by
  refine codeAny_builtin F.entry_extend_loop ?_
  rw[Around.under_plainId F.plain_extend_loop _]
  show wpAny _ (Ar d (u+1)) (pyNext (.ref I)>>= _) _ _ s
  refine wpAny_bind (cY (hS _ hk fun s' hM=>?_))
  exact wpAny_pure (hR s' [] c ⟨fun b o h1 V e=>hM.heap b o h1 e,hM.gens,hM.drawn,hM.os⟩ (by rw[List.append_nil];exact hM.heap S _ ql hL) .nil)
 |m::ms,own,s,acc,c,hS,hk,ql,hBo,hL,hz,hR=>by
  refine codeAny_builtin F.entry_extend_loop ?_
  rw[Around.under_plainId F.plain_extend_loop _]
  show wpAny _ (Ar d (u+1)) (pyNext (.ref I)>>= _) _ _ s
  refine wpAny_bind (cY (hS _ hk fun sE v own' hsub hM hV hN=>?_))
  have hLA:=hM.heap S _ ql hL
  have hz':acc.length+(ms.length+1)≤sizeLine:=hz
  show wpAny _ _ (updateSeq S (·.push v)>>= _) _ _ _
  refine wpAny_bind (wpAny_updateSeq hLA rfl (wpAny_pure ⟨plainId_quiet F.plain_extend_loop _,?_⟩) (by rw[List.size_toArray];exact o30 hz) (by rw[Array.size_push,List.size_toArray];exact o29 hz))
  obtain⟨cB,hS2⟩:∃ cB,(sE.heap.update S (Obj.mapSeq (·.push v))).get? S=some (bK (acc++[v]) cB):=by
   have e:=Heap.get?_update_self (Obj.mapSeq (·.push v)) hLA rfl
   have e2:∃ cB,Obj.mapSeq (·.push v) (bK acc c)=bK (acc++[v]) cB:=by
    simp only[Obj.mapSeq,bK,List.push_toArray]
    exact⟨_,rfl⟩
   obtain⟨cB,e2⟩:=e2
   exact⟨cB,by rw[e,e2]⟩
  have oth:∀ b o,b≠S->sE.heap.get? b=some o->(sE.heap.update S (Obj.mapSeq (·.push v))).get? b=some o:=fun b o hb e=>(Heap.get?_update_other _ _ (Ne.symm hb)).trans e
  have nS:∀ b,CK B s own own' b->b≠S:=fun b hX z=>by
   subst z
   rcases hX.2 with⟨o,e⟩|e|e
   · rw[hBS]at e;cases e
   · rw[hL]at e;cases e
   · exact ql e
  have hk1:aU B sE:=hM.keep hk hBo
  have hk2:aU B {sE with heap:=sE.heap.update S (Obj.mapSeq (·.push v))}:=fun b o e=>oth b o (fun z=>by rw[z,hBS]at e;cases e) (hk1 b o e)
  have hSo':S∉own':=fun h=>ql (hsub S h)
  refine BL hBS ms own' {sE with heap:=sE.heap.update S (Obj.mapSeq (·.push v))} (acc++[v]) cB (hN _ ⟨fun b hb o e=>oth b o (fun z=>hSo' (z▸hb)) e,fun i V x e=>e⟩ hk2) hk2 hSo' (fun b hb=>hBo b (hsub b hb)) hS2 (by rw[List.length_append];simp;exact o31 hz') fun s' vs c' hT hL' hms=>?_
  have back:∀ b,sE.heap.get? b=none->s.heap.get? b=none∨b∈own:=fun b e=>by
   by_cases hb:b∈own
   · exact .inr hb
   · refine .inl ?_
     cases q:s.heap.get? b with
     |none=>rfl
     |some o=>rw[hM.heap b o hb q]at e;cases e
  refine hR s' (v::vs) c' ⟨fun b o h1 h2 e=>hT.heap b o (fun h=>h1 (hsub b h)) h2 (oth b o h2 (hM.heap b o h1 e)),fun i x hi e=>hT.gens i x hi (hM.gens i x hi e),hT.drawn.trans hM.drawn,hT.os.trans hM.os⟩ (by rw[List.append_cons];exact hL') (.cons ?_ ?_)
  · exact hV.keeps (fun b x hX e=>hT.heap b x hX.1 (nS b hX) (oth b x (nS b hX) e)) fun b x hX V=>⟨nS b hX,hX.2⟩
  · refine hms.keeps (fun V V V e=>e) fun b x hX V=>⟨hX.1,?_⟩
    rcases hX.2 with h|h|h
    · exact .inl h
    · have h:(sE.heap.update S (Obj.mapSeq (·.push v))).get? b=none:=h
      have h1:sE.heap.get? b=none:=by
       cases q:sE.heap.get? b with
       |none=>rfl
       |some o=>rw[oth b o hX.1 q]at h;cases h
      exact .inr (back b h1)
    · exact .inr (.inr (hsub b h))
end
section
variable{pr:Program}{w:World}{d u:Nat}{B:Heap}{og:List Nat}{I S:Addr}{res:Value}{R:Result->Shared->Prop}
theorem BJ{ms:List ak}{own:List Addr}{s:Shared}{acc:List Value}{c g:Nat}(hBS:B.get? S=none)(hG:s.heap.IsGen I g)(hSI:S≠I)(hS:∀ s',s'.heap.objs.size=s.heap.objs.size->eG own og s s'->aU B s'->nu pr w d (u+1) B (.ref I) own og ms s')(hk:aU B s)(ql:S∉own)(hBo:∀ b∈own,B.get? b=none)
 (hL:s.heap.get? S=some (bK acc c)) (hz:acc.length+ms.length<sizeLine)
 (hR:∀ s' vs c',Took S own og s s'->s'.heap.get? S=some (bK (acc++vs) c')->j9 pr w (Af B S s own) s'.heap vs ms->R (.ok (.ret res)) s'):
 wpAny (model pr w) (Ar d (u+1)) (Builtin.List.listExtendWith (.ref S) (.ref I) res)
  (fun fin s'=>match fin with|.done f=>R (.ok f) s'|.again c'=>c'.quiet=true∧codeAny (model pr w) (Ar d u) c' R s') (fun e s'=>R (.error e) s') s:=by
 unfold Builtin.List.listExtendWith
 refine wpAny_bind (wpAny_typeOf hG.typeIs ?_)
 have h1:Builtin.List.listSameRef (.ref S) (.ref I)=false:=by simp[Builtin.List.listSameRef,hSI]
 have h2:(Value.type "generator"==Value.type "list")=false:=by decide
 have h3:(Value.type "generator"==Value.type "tuple")=false:=by decide
 simp only[h1,h2,h3,Bool.or_false,Bool.false_eq_true,if_false]
 refine wpAny_bind (wpAny_pyIter_gen hG (wpAny_bind (wpAny_holding ?_)))
 unfold Builtin.List.listLengthHint
 refine wpAny_bind (wpAny_specialOf hG.typeIs F.gen_no_len ?_)
 show wpAny _ (Ar d (u+1)) (specialOf (Value.ref I) (Str.ofString "__length_hint__")>>= _) _ _ _
 refine wpAny_bind (wpAny_specialOf hG.typeIs F.gen_no_hint (wpAny_pure ?_))
 show wpAny _ (Ar d (u+1)) (rule "list.extend.makes-room">>= fun V=>Builtin.List.listTouch (.ref S)>>= fun V=>
  again (.builtin "list.extend.loop" ⟨[.ref S,.ref I,res],[]⟩)) _ _ _
 refine wpAny_bind (wpAny_rule (wpAny_bind ?_))
 show wpAny _ (Ar d (u+1)) (updateSeq S (·.push .none)>>= fun V=>updateSeq S (·.pop)) _ _ _
 have hz1:acc.toArray.size≤sizeLine:=by rw[List.size_toArray];exact o32 hz
 refine wpAny_bind (wpAny_updateSeq hL rfl ?_ hz1 (by rw[Array.size_push,List.size_toArray];exact o33 hz))
 have hS2:=Heap.get?_update_self (Obj.mapSeq (·.push Value.none)) hL rfl
 have e2:∃ cB,Obj.mapSeq (·.push Value.none) (bK acc c)=bK (acc++[.none]) cB:=by
  simp only[Obj.mapSeq,bK,List.push_toArray]
  exact⟨_,rfl⟩
 obtain⟨cB,e2⟩:=e2
 rw[e2]at hS2
 refine wpAny_updateSeq hS2 rfl ?_ (by rw[List.size_toArray,List.length_append];simp;exact o35 hz) (by rw[Array.size_pop,List.size_toArray,List.length_append];simp;exact o34 hz)
 have hS3:=Heap.get?_update_self (Obj.mapSeq (·.pop)) hS2 rfl
 have e3:∃ cC,Obj.mapSeq (·.pop) (bK (acc++[.none]) cB)=bK acc cC:=by
  simp only[Obj.mapSeq,bK]
  simp
 obtain⟨cC,e3⟩:=e3
 rw[e3]at hS3
 have oth:∀ b o,b≠S->s.heap.get? b=some o->((s.heap.update S (Obj.mapSeq (·.push Value.none))).update S (Obj.mapSeq (·.pop))).get? b=some o:=
  fun b o hb e=>(Heap.get?_update_other _ _ (Ne.symm hb)).trans ((Heap.get?_update_other _ _ (Ne.symm hb)).trans e)
 have hk2:aU B {s with heap:=(s.heap.update S (Obj.mapSeq (·.push Value.none))).update S (Obj.mapSeq (·.pop))}:=fun b o e=>oth b o (fun z=>by rw[z,hBS]at e;cases e) (hk b o e)
 refine wpAny_pure ⟨plainId_quiet F.plain_extend_loop _,BL hBS ms own _ acc cC (hS _ (by show((s.heap.update S _).update S _).objs.size=_;rw[Heap.size_update,Heap.size_update]) ⟨fun b hb o e=>oth b o (fun z=>ql (z▸hb)) e,fun i V x e=>e⟩ hk2) hk2 ql hBo hS3 (Nat.le_of_lt hz) fun s' vs c' hT hL' hms=>?_⟩
 refine hR s' vs c' ⟨fun b o h1 h2 e=>hT.heap b o h1 h2 (oth b o h2 e),hT.gens,hT.drawn,hT.os⟩ hL' (hms.keeps (fun V V V e=>e) fun b x hX V=>⟨hX.1,hX.2.imp_right fun h=>h.imp_left fun h=>?_⟩)
 cases q:s.heap.get? b with
 |none=>rfl
 |some o=>rw[oth b o hX.1 q]at h;cases h
theorem Dq{ms:List ak}{own:List Addr}{s:Shared}{acc:List Value}{c g:Nat}{Q:Value->Shared->Prop}(hBS:B.get? S=none)(hG:s.heap.IsGen I g)(hSI:S≠I)(hS:∀ s',s'.heap.objs.size=s.heap.objs.size->eG own og s s'->aU B s'->nu pr w d (u+1) B (.ref I) own og ms s')(hk:aU B s)(ql:S∉own)(hBo:∀ b∈own,B.get? b=none)
 (hL:s.heap.get? S=some (bK acc c)) (hz:acc.length+ms.length<sizeLine)
 (hR:∀ s' vs c',Took S own og s s'->s'.heap.get? S=some (bK (acc++vs) c')->j9 pr w (Af B S s own) s'.heap vs ms->Q .none s'):
 wpAny (model pr w) (Ar d u) (PySem.call (.builtin "list.extend") [.ref S,.ref I]) Q bf s:=by
 refine wpAny_call (codeAny_call_builtin PySem.F.slot_list_extend.plain PySem.F.entry_list_extend (PySem.F.slot_list_extend.check _ _ _ _ _ _ _ _ (⟨_,hL,rfl⟩:s.TypeIs (.ref S) "list") (PySem.F.args_list_extend_2 _ _) ?_))
 show wpAny _ (Ar d (u+1)) (Builtin.List.listExtendWith (.ref S) (.ref I) .none) _ _ s
 exact wpAny_mono (BJ (res:=.none) (R:=Rt Q) hBS hG hSI hS hk ql hBo hL hz hR) (fun fin s' h=>by
  cases fin with
  |done f=>cases f<;>first|exact h|exact h.elim
  |again c'=>exact⟨h.1,codeAny_mono h.2 (rtC fun V V z=>z)⟩) fun V V z=>z.elim
end
section
variable{pr:Program}{w:World}{d u:Nat}{B:Heap}{og:List Nat}{I S:Addr}{res:Value}{R:Result->Shared->Prop}
theorem Jq{ms:List ak}{own:List Addr}{s:Shared}{g:Nat}{Q:Value->Shared->Prop}(hG:s.heap.IsGen I g)(hS:∀ s',s'.heap.objs.size=s.heap.objs.size+1->eG own og s s'->aU B s'->nu pr w d (u+2) B (.ref I) own og ms s')(hk:aU B s)(ql:s.heap.objs.size∉own)(hBo:∀ b∈own,B.get? b=none)
 (hz:ms.length<sizeLine)
 (hR:∀ s' vs c',Took s.heap.objs.size own og s s'->s'.heap.get? s.heap.objs.size=some (bK vs c')->j9 pr w (Af B s.heap.objs.size s own) s'.heap vs ms->Q (.ref s.heap.objs.size) s'):
 wpAny (model pr w) (Ar d u) (PySem.call (.type "list") [.ref I]) Q bf s:=by
 have hBS:B.get? s.heap.objs.size=none:=by
  cases e:B.get? s.heap.objs.size with
  |none=>rfl
  |some o=>exact absurd (Heap.lt_size (hk _ _ e)) (Nat.lt_irrefl _)
 have hSI:s.heap.objs.size≠I:=fun e=>by
  refine gG fun P_ k_=>?_
  obtain⟨o,V,V,h,V⟩:=hG
  refine k_ ?_
  exact absurd (Heap.lt_size h) (by rw[←e];exact Nat.lt_irrefl _)
 refine callType_codes (Q₁:=fun obj sE=>obj=.ref s.heap.objs.size∧sE={s with heap:=s.heap.push {cls:=.type "list",data:=.seq #[]}}) F.called_list (F.typeCall_list_1 _) F.entry_list_init
  (code_list_new _ ⟨rfl,rfl⟩) fun obj sE h₁=>?_
 obtain⟨rfl,rfl⟩:=h₁
 have hL0:(s.heap.push {cls:=.type "list",data:=.seq #[]}).get? s.heap.objs.size=some {cls:=.type "list",data:=.seq #[]}:=Heap.get?_push_size _ rfl
 refine⟨⟨_,hL0,rfl⟩,F.args_list_init_2 _ _,?_⟩
 show wpAny _ (Ar d (u+2)) (do let old←Builtin.List.listItems (.ref s.heap.objs.size);Builtin.List.listUpdate (.ref s.heap.objs.size) (fun V=>#[]);letGo old.toList.reverse;Builtin.List.listExtendWith (.ref s.heap.objs.size) (.ref I) .none) _ _ _
 refine wpAny_bind ?_
 unfold Builtin.List.listItems
 refine wpAny_bind (wpAny_seqItems hL0 rfl (wpAny_pure ?_))
 show wpAny _ (Ar d (u+2)) (updateSeq s.heap.objs.size (fun V=>#[])>>= fun V=>letGo (#[]:Array Value).toList.reverse>>= fun V=>Builtin.List.listExtendWith (.ref s.heap.objs.size) (.ref I) .none) _ _ _
 refine wpAny_bind (wpAny_updateSeq hL0 rfl ?_)
 have hS2:=Heap.get?_update_self (Obj.mapSeq (fun V=>(#[]:Array Value))) hL0 rfl
 have oth:∀ b o,b≠s.heap.objs.size->s.heap.get? b=some o->((s.heap.push {cls:=.type "list",data:=.seq #[]}).update s.heap.objs.size (Obj.mapSeq (fun V=>(#[]:Array Value)))).get? b=some o:=
  fun b o hb e=>(Heap.get?_update_other _ _ (Ne.symm hb)).trans (Heap.get?_push_of_some _ e)
 have ne:∀ b o,s.heap.get? b=some o->b≠s.heap.objs.size:=fun b o e=>Nat.ne_of_lt (Heap.lt_size e)
 refine wpAny_bind (wpAny_letGo ?_)
 have hk2:aU B {s with heap:=(s.heap.push {cls:=.type "list",data:=.seq #[]}).update s.heap.objs.size (Obj.mapSeq (fun V=>(#[]:Array Value)))}:=fun b o e=>oth b o (ne b o (hk b o e)) (hk b o e)
 refine BJ (u:=u+1) (g:=g) (acc:=[]) (c:=0) hBS ?_ hSI (fun s' hz' hS' hk'=>hS s' (hz'.trans (by show((s.heap.push _).update _ _).objs.size=_;rw[Heap.size_update,Heap.size_push])) ⟨fun b hb o e=>hS'.heap b hb o (oth b o (ne b o e) e),fun i hi x e=>hS'.gens i hi x e⟩ hk') hk2 ql hBo (by rw[hS2];rfl) (by simpa using hz) fun s' vs c' hT hL' hms=>?_
 · refine gG fun P_ k_=>?_
   obtain⟨o,nm,qn,h,r⟩:=hG
   refine k_ ?_
   exact⟨o,nm,qn,oth _ o (ne _ o h) h,r⟩
 · refine⟨rfl,hR s' vs c' ⟨fun b o h1 h2 e=>hT.heap b o h1 h2 (oth b o h2 e),hT.gens,hT.drawn,hT.os⟩ (by simpa using hL') (hms.keeps (fun V V V e=>e) fun b x hX V=>⟨hX.1,hX.2.imp_right fun h=>h.imp_left fun h=>?_⟩)⟩
   cases q:s.heap.get? b with
   |none=>rfl
   |some o=>
    have h:((s.heap.push {cls:=.type "list",data:=.seq #[]}).update s.heap.objs.size (Obj.mapSeq (fun V=>(#[]:Array Value)))).get? b=none:=h
    rw[oth b o (ne b o q) q]at h;cases h
end
structure vN(fd:FuncData)(fa:Addr)(iv:Value)(s s':Shared)(L a:Addr)(g:Nat):Prop where
 old:∀ b o,s.heap.get? b=some o->s'.heap.get? b=some o
 gold:∀(i:Nat) (x:GenState),s.gens[i]? =some x->s'.gens[i]? =some x
 drawn:lw s'=lw s
 os:s'.os=s.os
 hL:L=s.heap.objs.size
 ha:a=s.heap.objs.size+1
 hg:g=s.gens.size
 hz:s'.heap.objs.size=s.heap.objs.size+2
 gen:s'.heap.IsGen a g
 st:s'.gens[g]? =some (.fresh (.func (iI fd) (callEnv fd L fa)))
 fr:cV L s' [(aH,.glob iv),(aj,.bool false)]
theorem pk_959(P:Params)(K:Frag)(hK:K=KK P)(v b:Value)(S:Setting):peek K S (bindArgs (iz P) ⟨[v],[(aj,b)]⟩)=some [(aH,v),(aj,b)]:=by subst hK;kernel_rfl
theorem pk_967(P:Params)(K:Frag)(hK:K=KK P)(v b:Value)(S:Setting):peek K S (bindArgs (g8 P) ⟨[v],[(aj,b)]⟩)=some [(aH,v),(aj,b)]:=by subst hK;kernel_rfl
theorem pk_975(P:Params)(K:Frag)(hK:K=KK P)(v b:Value)(S:Setting):peek K S (bindArgs (cQ P) ⟨[v],[(aj,b)]⟩)=some [(aH,v),(aj,b)]:=by subst hK;kernel_rfl
theorem pk_975d(P:Params)(K:Frag)(hK:K=KK P)(v:Value)(S:Setting):peek K S (bindArgs (cQ P) ⟨[v],[]⟩)=some [(aH,v),(aj,.bool false)]:=by subst hK;kernel_rfl
theorem Ks{s s':Shared}{c:Code}(e:s'.gens=s.gens.push (.fresh c)):lw s'=lw s:=by
 rw[yG,yG,e,Array.toList_push,List.any_append]
 simp[jl]
section
variable{pr:Program}{w:World}{d u:Nat}{fd:FuncData}{fa:Addr}
theorem Es{B:Heap}{s:Shared}{iv:Value}{kws:List (Str×Value)}{Q:Value->Shared->Prop}(hb:BaseOk w B)(hk:aU B s)(hd:d<recursionLimit)(F:d8 w.params fa fd)(hgen:fd.scope.isGenerator=true)(hbody:fd.body=.stmts (iI fd))
 (hl1:fd.scope.names.lookup aH=some .local) (hl2:fd.scope.names.lookup aj=some .local)
 (hpk:∀ S,peek (KK w.params) S (bindArgs fd ⟨[iv],kws⟩)=some [(aH,iv),(aj,.bool false)])
 (hQ:∀ s' L a g,vN fd fa iv s s' L a g->Q (.ref a) s'):wpAny (model pr w) (Ar d u) (PySem.call (.ref fa) [iv] kws) Q bf s:=by
 obtain⟨c,dd,sl,hl⟩:=F.l
 have X:(KK w.params).In s.heap:=fun a o e=>hk a o (hb.aZ a o e)
 refine wpAny_call (codeAny_call_generator hd (X _ _ hl) rfl F.co hgen hbody (codeRec_of X F.cd) ?_)
 refine(Looks.of_peek X (hpk _)).here ?_
 refine wpAny_newFunctionEnv (fun x hx=>by have:=List.all_eq_true.mp F.cell x hx;simpa using this) (fun x hx=>?_) (fun h₀ hns0 hsb0=>⟨((hb.lim.keeps hk)).fresh _ hsb0,?_⟩) F.k
 · simp only[List.mem_cons,List.not_mem_nil,or_false]at hx
   rcases hx with rfl|rfl
   · exact hl1
   · exact hl2
 have hz0:h₀.objs.size=s.heap.objs.size+1:=by rw[hsb0.1];exact Heap.size_push ..
 have k0:∀ b o,s.heap.get? b=some o->h₀.get? b=some o:=fun b o e=>hsb0.extBut b o (Nat.ne_of_lt (Heap.lt_size e)) (Heap.get?_push_of_some _ e)
 refine hQ _ s.heap.objs.size _ s.gens.size ⟨fun b o e=>Heap.get?_push_of_some _ (k0 b o e),fun i x e=>?_,Ks rfl,rfl,rfl,hz0,rfl,?_,⟨_,_,_,Heap.get?_push_size _ rfl,rfl,rfl,rfl⟩,?_,⟨by rfl,_,hns0.keeps fun b o e=>Heap.get?_push_of_some _ e,?_⟩⟩
 · have hi:i<s.gens.size:=by
    rcases Nat.lt_or_ge i s.gens.size with h|h
    · exact h
    · rw[Array.getElem?_eq_none h]at e;cases e
   show(s.gens.push _)[i]? =some x
   rw[Array.getElem?_push_lt hi]
   rw[Array.getElem?_eq_getElem hi]at e
   exact e
 · show(Heap.push _ _).objs.size=_
   rw[Heap.size_push,hz0]
 · show(s.gens.push _)[s.gens.size]? =_
   rw[Array.getElem?_push_size]
   rfl
 · refine LR.uQ (.cons rfl (.cons rfl .nil)) ?_
   simp
end
noncomputable def ins{α:Type}(key:α->Int)(x:α)(l:List α):List α:=@List.rec α (fun V=>List α) [x] (fun y r i=>if key x≤key y then x::y::r else y::i) l
theorem ins0{α:Type}{key:α->Int}{x:α}:ins key x []=[x]:=rfl
theorem pU{α:Type}{key:α->Int}{x y:α}{r:List α}:ins key x (y::r)=if key x≤key y then x::y::r else y::ins key x r:=rfl
noncomputable def aX{α:Type}(key:α->Int)(l:List α):List α:=@List.rec α (fun V=>List α) [] (fun x r i=>ins key x i) l
theorem Bf{α:Type}{key:α->Int}{x:α}{r:List α}:aX key (x::r)=ins key x (aX key r):=rfl
theorem Eo{α β:Type}(key:β->Int)(f:α->β)(x:α):∀ l:List α,(ins (fun a=>key (f a)) x l).map f=ins key (f x) (l.map f)
 |[]=>rfl
 |y::r=>by
  simp only[pU,List.map_cons]
  split
  · rfl
  · rw[List.map_cons,Eo key f x r]
theorem jZ{α β:Type}(key:β->Int)(f:α->β):∀ l:List α,(aX (fun a=>key (f a)) l).map f=aX key (l.map f)
 |[]=>rfl
 |x::r=>by rw[Bf,Eo,jZ key f r];rfl
theorem pQ{α:Type}(key:α->Int)(x:α):∀ l:List α,(ins key x l).Perm (x::l)
 |[]=>.refl _
 |y::r=>by
  simp only[pU]
  split
  · exact .refl _
  · exact((pQ key x r).cons y).trans (.swap _ _ _)
theorem cU{α:Type}(key:α->Int):∀ l:List α,(aX key l).Perm l
 |[]=>.refl _
 |x::r=>(pQ key x _).trans ((cU key r).cons x)
theorem jC{α:Type}(key:α->Int)(l:List α):(aX key l).length=l.length:=(cU key l).length_eq
theorem qj{α:Type}(key:α->Int)(p:α->Bool)(x:α)(hx:p x=false):∀ l:List α,(ins key x l).filter p=l.filter p
 |[]=>by simp[ins0,hx]
 |y::r=>by
  simp only[pU]
  split
  · simp[hx]
  · rw[List.filter_cons,qj key p x hx r,List.filter_cons]
noncomputable def q9{α:Type}(key:α->Int)(l:List α):Prop:=l.Pairwise fun a b=>key a≤key b
theorem xJ{α:Type}(key:α->Int)(x:α):∀ l:List α,q9 key l->q9 key (ins key x l)
 |[],_=>by simp[ins0,q9]
 |y::r,h=>by
  obtain⟨h1,h2⟩:=List.pairwise_cons.mp h
  simp only[pU]
  split
  · rename_i hx
    refine List.pairwise_cons.mpr ⟨fun z hz=>?_,h⟩
    rcases List.mem_cons.mp hz with rfl|hz
    · exact hx
    · exact Int.le_trans hx (h1 z hz)
  · rename_i hx
    refine List.pairwise_cons.mpr ⟨fun z hz=>?_,xJ key x r h2⟩
    rcases List.mem_cons.mp ((pQ key x r).mem_iff.mp hz)with rfl|hz
    · exact o40 hx
    · exact h1 z hz
theorem nj{α:Type}(key:α->Int):∀ l:List α,q9 key (aX key l)
 |[]=>List.Pairwise.nil
 |x::r=>xJ key x _ (nj key r)
theorem vf{α:Type}(key:α->Int)(p:α->Bool)(x:α)(hx:p x=true):∀ l:List α,q9 key l->(ins key x l).filter p=ins key x (l.filter p)
 |[],_=>by simp[ins0,hx]
 |y::r,h=>by
  obtain⟨h1,h2⟩:=List.pairwise_cons.mp h
  simp only[pU]
  split
  · rename_i hc
    rw[List.filter_cons,if_pos hx]
    have:∀ l:List α,(∀ z∈l,key x≤key z)->ins key x l=x::l:=fun l hl=>by
     cases l with
     |nil=>rfl
     |cons a t=>simp[pU,hl a (.head _)]
    rw[this]
    intro z hz
    rcases List.mem_cons.mp ((List.mem_filter.mp hz).1)with rfl|hz
    · exact hc
    · exact Int.le_trans hc (h1 z hz)
  · rename_i hc
    rw[List.filter_cons,vf key p x hx r h2,List.filter_cons]
    split
    · simp[pU,hc]
    · rfl
theorem m8{α:Type}(key:α->Int)(p:α->Bool):∀ l:List α,(aX key l).filter p=aX key (l.filter p)
 |[]=>rfl
 |x::r=>by
  rw[Bf,List.filter_cons]
  split
  · rename_i h
    rw[vf key p x h _ (nj key r),m8 key p r];rfl
  · rename_i h
    rw[qj key p x (by simpa using h),m8 key p r]
noncomputable def Lx(key:Nat->Int)(x y:Nat):Prop:=key x<key y∨(key x=key y∧x<y)
theorem J7(key:Nat->Int)(x:Nat):∀ l:List Nat,(∀ y∈l,x<y)->l.Pairwise (Lx key)->(ins key x l).Pairwise (Lx key)
 |[],_,_=>by simp[ins0]
 |y::r,hx,h=>by
  obtain⟨h1,h2⟩:=List.pairwise_cons.mp h
  simp only[pU]
  split
  · rename_i hc
    refine List.pairwise_cons.mpr ⟨fun z hz=>?_,h⟩
    have hxz:=hx z hz
    rcases List.mem_cons.mp hz with rfl|hz
    · unfold Lx;exact o41 hxz hc
    · have:=h1 z hz
      unfold Lx at *;exact o42 hc hxz this
  · rename_i hc
    refine List.pairwise_cons.mpr ⟨fun z hz=>?_,J7 key x r (fun z hz=>hx z (.tail _ hz)) h2⟩
    rcases List.mem_cons.mp ((pQ key x r).mem_iff.mp hz)with rfl|hz
    · unfold Lx;exact o43 hc
    · exact h1 z hz
theorem Bd(key:Nat->Int):∀ l:List Nat,l.Pairwise (·< ·)->(aX key l).Pairwise (Lx key)
 |[],_=>.nil
 |x::r,h=>by
  obtain⟨h1,h2⟩:=List.pairwise_cons.mp h
  exact J7 key x _ (fun y hy=>h1 y ((cU key r).mem_iff.mp hy)) (Bd key r h2)
theorem xg(key:Nat->Int):∀{l l':List Nat},l.Perm l'->l.Pairwise (Lx key)->l'.Pairwise (Lx key)->l=l'
 |[],l',h,_,_=>by simp at h;exact h.symm
 |x::r,[],h,_,_=>by simpa using h
 |x::r,y::r',h,h1,h2=>by
  obtain⟨a1,a2⟩:=List.pairwise_cons.mp h1
  obtain⟨b1,b2⟩:=List.pairwise_cons.mp h2
  have e:x=y:=by
   have m1:x∈y::r':=h.mem_iff.mp (.head _)
   have m2:y∈x::r:=h.mem_iff.mpr (.head _)
   rcases List.mem_cons.mp m1 with e|m1
   · exact e
   · rcases List.mem_cons.mp m2 with e|m2
     · exact e.symm
     · have q1:=b1 x m1
       have q2:=a1 y m2
       unfold Lx at q1 q2;exact o44 q1 q2
  subst e
  rw[xg key ((List.perm_cons x).mp h) a2 b2]
noncomputable def cR{α:Type}(c:Nat->Nat->Bool):KasT α->α
 |.ret a=>a
 |.ask i j k=>cR c (k (c i j))
theorem gV{α β:Type}(c:Nat->Nat->Bool)(f:α->KasT β):∀ t:KasT α,cR c (t.bind f)=cR c (f (cR c t))
 |.ret _=>rfl
 |.ask i j k=>gV c f (k (c i j))
section
variable(key:Nat->Int)
noncomputable abbrev kc:Nat->Nat->Bool:=fun i j=>decide (key i<key j)
structure Pl(N n:Nat)(p:Array Nat):Prop where
 size:p.size=N
 perm:p.toList.Perm (List.range N)
 low:∀ k,k<n->p.getD k 0<n
 high:∀ k,n≤k->k<N->p.getD k 0=k
variable{key}
theorem Pl.succ{N n:Nat}{p:Array Nat}(h:Pl N n p)(hn:n<N):Pl N (n+1) p:=⟨h.size,h.perm,fun k hk=>by
 rcases Nat.lt_or_ge k n with q|q
 · have:=h.low k q;exact o45 this
 · have:k=n:=by exact o46 hk q
   subst this
   rw[h.high k (Nat.le_refl _) hn];exact o48,fun k h1 h2=>h.high k (by exact o47 h1) h2⟩
theorem cg{p:Array Nat}{i j:Nat}(hj:j≤p.size)(k:Nat):(kas_rev p i j).getD k 0=if i≤k∧k<j then p.getD (i+j - 1 - k) 0 else p.getD k 0:=by
 have h:=getElem?_mirror_all (xs:=p) (i:=i) hj k
 have e:∀(q:Array Nat) k,q.getD k 0=(q[k]?).getD 0:=fun q k=>by simp
 rw[e,e,e]
 unfold kas_rev
 rw[h]
 split<;>rfl
theorem Pl.rev{N n i:Nat}{p:Array Nat}(h:Pl N n p)(hn:n≤N):Pl N n (kas_rev p i n):=by
 refine⟨by rw[kas_rev_size,h.size],?_,fun k hk=>?_,fun k h1 h2=>?_⟩
 · exact(Array.perm_iff_toList_perm.mp (mirror_perm p i n _)).trans h.perm
 · rw[cg (by rw[h.size];exact hn)]
   split
   · exact h.low _ (by exact o49 hk (by assumption))
   · exact h.low _ hk
 · rw[cg (by rw[h.size];exact hn),if_neg (by exact o50 h1)]
   exact h.high k h1 h2
noncomputable def mY(key:Nat->Int)(n:Nat)(p:Array Nat):Prop:=∀ a b,a<b->b<n->Lx key (p.getD a 0) (p.getD b 0)
noncomputable def Dro(key:Nat->Int)(n:Nat)(p:Array Nat):Prop:=∀ a b,a<b->b<n->Lx key (p.getD b 0) (p.getD a 0)
theorem Dro.rev{N n:Nat}{p:Array Nat}(h:Pl N n p)(hn:n≤N)(d:Dro key n p):mY key n (kas_rev p 0 n):=fun a b hab hb=>by
 rw[cg (by rw[h.size];exact hn),cg (by rw[h.size];exact hn),if_pos ⟨Nat.zero_le _,by exact o51 hab hb⟩,if_pos ⟨Nat.zero_le _,hb⟩]
 exact d _ _ (by exact o53 hab hb) (by exact o52 hab hb)
theorem mY.succ{N n:Nat}{p:Array Nat}(h:Pl N n p)(hn:n<N)(o:mY key n p)(hk:n=0∨key (p.getD (n - 1) 0)≤key (p.getD n 0)):mY key (n+1) p:=fun a b hab hb=>by
 rcases Nat.lt_or_ge b n with q|q
 · exact o a b hab q
 · have e:b=n:=by exact o46 hb q
   subst e
   have h1:p.getD b 0=b:=h.high b (Nat.le_refl _) hn
   have h2:=h.low a hab
   rcases hk with hk|hk
   · omega
   · have h3:key (p.getD a 0)≤key (p.getD (b - 1) 0):=by
      rcases Nat.lt_or_ge a (b - 1)with q|q
      · have:=o a (b - 1) q (by exact o54 h1 h2)
        unfold Lx at this;exact o55 this
      · have:a=b - 1:=by exact o56 hab h1 h2 q
        rw[this];exact Int.le_refl _
     unfold Lx
     rw[h1]at hk⊢
     exact o57 h1 h2 hk h3
theorem Cy{N:Nat}{p:Array Nat}:∀(f n:Nat),n+f=N->1≤n->Pl N n p->mY key n p->
 n≤cR (kc key) (kas_asc p f n)∧cR (kc key) (kas_asc p f n)≤N∧Pl N (cR (kc key) (kas_asc p f n)) p∧mY key (cR (kc key) (kas_asc p f n)) p∧
  (cR (kc key) (kas_asc p f n)<N->key (p.getD (cR (kc key) (kas_asc p f n)) 0)<key (p.getD (cR (kc key) (kas_asc p f n) - 1) 0))
 |0,n,e,h1,hp,ho=>by
  show n≤n∧n≤N∧Pl N n p∧mY key n p∧(n<N->_)
  exact⟨Nat.le_refl _,by exact o59 e,hp,ho,fun h=>by exact o58 e h⟩
 |f+1,n,e,h1,hp,ho=>by
  have es:cR (kc key) (kas_asc p (f+1) n)=cR (kc key) (if kc key (p.getD n 0) (p.getD (n - 1) 0)=true then .ret n else kas_asc p f (n+1)):=rfl
  rw[es]
  by_cases hc:key (p.getD n 0)<key (p.getD (n - 1) 0)
  · rw[if_pos (by simpa[kc]using hc)]
    exact⟨Nat.le_refl _,by show n≤N;exact o60 e,hp,ho,fun V=>hc⟩
  · rw[if_neg (by simpa[kc]using hc)]
    obtain⟨a1,a2,a3⟩:=Cy f (n+1) (by exact o64 e) (by exact o63 e h1) (hp.succ (by exact o62 e)) (mY.succ hp (by exact o62 e) ho (.inr (by exact o61 hc)))
    exact⟨by exact o65 e a1,a2,a3⟩
structure Ds(key:Nat->Int)(N n q:Nat)(p:Array Nat):Prop where
 pl:Pl N n p
 le:q+1≤n
 hi:∀ k,n - (q+1)≤k->k<N->p.getD k 0=k
 eq:∀ k,n - (q+1)≤k->k<n->key (p.getD k 0)=key (p.getD (n - 1) 0)
 ord:∀ a b,a<b->b<n->a<n - (q+1)->Lx key (p.getD b 0) (p.getD a 0)
theorem Ds.turn{N n q:Nat}{p:Array Nat}(h:Ds key N n q p)(hn:n≤N):Dro key n (kas_rev p (n - (q+1)) n):=fun a b hab hb=>by
 have hz:n≤p.size:=by rw[h.pl.size];exact hn
 rw[cg hz,cg hz]
 have hle:=h.le
 by_cases ha:n - (q+1)≤a
 · rw[if_pos ⟨by exact o66 hab ha,hb⟩,if_pos ⟨ha,by exact o51 hab hb⟩]
   have e1:=h.eq (n - (q+1)+n - 1 - b) (by exact o68 hb) (by exact o67 hab hb ha)
   have e2:=h.eq (n - (q+1)+n - 1 - a) (by exact o70 hab hb) (by exact o69 hab hb ha)
   have f1:=h.hi (n - (q+1)+n - 1 - b) (by exact o68 hb) (by exact o71 hn hab hb ha)
   have f2:=h.hi (n - (q+1)+n - 1 - a) (by exact o70 hab hb) (by exact o72 hn hab hb ha)
   refine .inr ⟨e1.trans e2.symm,?_⟩
   rw[f1,f2];exact o73 hab hb
 · rw[if_neg (show¬(n - (q+1)≤a∧a<n)by exact o74 ha)]
   split
   · exact h.ord _ _ (by exact o77 hb ha) (by exact o76 hb ha (by assumption)) (by exact o75 ha)
   · exact h.ord _ _ hab hb (by exact o75 ha)
theorem Ds.dro{N n:Nat}{p:Array Nat}(h:Ds key N n 0 p):Dro key n p:=fun a b hab hb=>h.ord a b hab hb (by exact o78 hab hb)
theorem Ds.next{N n:Nat}{p:Array Nat}(hp:Pl N n p)(hn:n<N)(d:Dro key n p)(h1:1≤n)(hk:∀ a,a<n->key (p.getD n 0)<key (p.getD a 0)):Ds key N (n+1) 0 p:=by
 refine⟨hp.succ hn,by exact o81 h1,fun k h1 h2=>hp.high k (by exact o80 (by assumption) h1) h2,fun k h1 h2=>by rw[show k=n+1 - 1 by exact o79 (by assumption) h1 h2],fun a b hab hb ha=>?_⟩
 rcases Nat.lt_or_ge b n with q|q
 · exact d a b hab q
 · rw[show b=n by exact o46 hb q]
   exact .inl (hk a (by exact o82 hab hb q))
theorem Ds.low{N n q:Nat}{p:Array Nat}(h:Ds key N n q p)(a:Nat)(ha:a<n):key (p.getD (n - 1) 0)≤key (p.getD a 0):=by
 by_cases h1:n - (q+1)≤a
 · rw[h.eq a h1 ha];exact Int.le_refl _
 · rcases Nat.lt_or_ge a (n - 1)with h2|h2
   · have:=h.ord a (n - 1) h2 (by exact o83 ha) (by exact o75 h1)
     unfold Lx at this;exact o55 this
   · rw[show a=n - 1 by exact o84 ha h2];exact Int.le_refl _
theorem rM{N:Nat}:∀(f n q:Nat) (p:Array Nat),n+f=N->Ds key N n q p->
 ∃ p' n' q',cR (kc key) (kas_desc f p n q)=(p',n',q')∧n≤n'∧n'≤N∧Ds key N n' q' p'
 |0,n,q,p,e,h=>⟨p,n,q,rfl,Nat.le_refl _,by exact o59 e,h⟩
 |f+1,n,q,p,e,h=>by
  have es:cR (kc key) (kas_desc (f+1) p n q)=cR (kc key) (if kc key (p.getD n 0) (p.getD (n - 1) 0)=true then(if q>0 then kas_desc f (kas_rev p (n - (q+1)) n) (n+1) 0 else kas_desc f p (n+1) 0)
   else .ask (p.getD (n - 1) 0) (p.getD n 0) fun d=>if d=true then .ret (p,n,q)else kas_desc f p (n+1) (q+1)):=rfl
  rw[es]
  have hN:n<N:=by exact o62 e
  have hle:=h.le
  by_cases hc:key (p.getD n 0)<key (p.getD (n - 1) 0)
  · rw[if_pos (by simpa[kc]using hc)]
    by_cases hq:q>0
    · rw[if_pos hq]
      have hz:n≤p.size:=by rw[h.pl.size];exact o85 e hN
      have d:=Ds.next (h.pl.rev (i:=n - (q+1)) (by exact o85 e hN)) hN (h.turn (by exact o85 e hN)) (by exact o86 e hle hq) (fun a ha=>by
       rw[cg hz,cg hz,if_neg (by exact o87)]
       split
       · have:=h.low (n - (q+1)+n - 1 - a) (by exact o89 e ha (by assumption));exact o88 hc this
       · have:=h.low a ha;exact o88 hc this)
      refine gG fun P_ k_=>?_
      obtain⟨p',n',q',e1,e2,e3,e4⟩:=rM f (n+1) 0 _ (by exact o64 e) d
      refine k_ ?_
      exact⟨p',n',q',e1,by exact o65 e e2,e3,e4⟩
    · rw[if_neg hq]
      have q0:q=0:=by exact o90 hq
      subst q0
      have d:=Ds.next h.pl hN h.dro (by exact o91 e hle) (fun a ha=>by have:=h.low a ha;exact o88 hc this)
      refine gG fun P_ k_=>?_
      obtain⟨p',n',q',e1,e2,e3,e4⟩:=rM f (n+1) 0 _ (by exact o64 e) d
      refine k_ ?_
      exact⟨p',n',q',e1,by exact o65 e e2,e3,e4⟩
  · rw[if_neg (by simpa[kc]using hc)]
    have es2:cR (kc key) (KasT.ask (p.getD (n - 1) 0) (p.getD n 0) fun d=>if d=true then .ret (p,n,q)else kas_desc f p (n+1) (q+1))=cR (kc key) (if kc key (p.getD (n - 1) 0) (p.getD n 0)=true then .ret (p,n,q)else kas_desc f p (n+1) (q+1)):=rfl
    rw[es2]
    by_cases hd:key (p.getD (n - 1) 0)<key (p.getD n 0)
    · rw[if_pos (by simpa[kc]using hd)]
      exact⟨p,n,q,rfl,Nat.le_refl _,by exact o85 e hN,h⟩
    · rw[if_neg (by simpa[kc]using hd)]
      have d:Ds key N (n+1) (q+1) p:=by
       have e0:n+1 - (q+1+1)=n - (q+1):=by exact o92 e hle
       refine⟨h.pl.succ hN,by exact o94 e hle,fun k h1 h2=>h.hi k (by exact o93 e0 h1) h2,fun k h1 h2=>?_,fun a b hab hb ha=>?_⟩
       · rw[show n+1 - 1=n by exact o95 e]
         rcases Nat.lt_or_ge k n with q2|q2
         · have:=h.eq k (by exact o93 e0 h1) q2;exact o96 hc hd this
         · rw[show k=n by exact o97 e h2 q2]
       · rcases Nat.lt_or_ge b n with q2|q2
         · exact h.ord a b hab q2 (by exact o98 e0 ha)
         · rw[show b=n by exact o97 e hb q2]
           have:=h.ord a (n - 1) (by exact o100 e hle e0 hab hb ha q2) (by exact o99 e hab hb q2) (by exact o98 e0 ha)
           have hx:p.getD (n - 1) 0=n - 1:=h.hi (n - 1) (by exact o102 e hle hab hb q2) (by exact o101 e hN hab hb q2)
           have hy:p.getD n 0=n:=h.hi n (by exact o103 e hle hab hb q2) hN
           unfold Lx at *
           have hlow:=h.pl.low a (by exact o104 e hab hb q2 hy)
           have hz:a<n - (q+1):=by exact o98 e0 ha
           rw[hx]at hc hd this
           rw[hy]at hc hd⊢
           exact o105 e hc hd hb q2 this hy hlow
      refine gG fun P_ k_=>?_
      obtain⟨p',n',q',e1,e2,e3,e4⟩:=rM f (n+1) (q+1) _ (by exact o64 e) d
      refine k_ ?_
      exact⟨p',n',q',e1,by exact o65 e e2,e3,e4⟩
theorem zm{N n:Nat}{p:Array Nat}(h1:1≤n)(hn:n≤N)(hp:Pl N n p)(d:Dro key n p):
 ∃ m p',cR (kc key) (kas_tail3 n N p)=(m,p')∧1≤m∧m≤N∧Pl N m p'∧mY key m p':=by
 unfold kas_tail3
 rw[gV]
 refine gG fun P_ k_=>?_
 obtain⟨a1,a2,a3,a4,V⟩:=Cy (key:=key) (N:=N) (p:=kas_rev p 0 n) (N - n) n (by exact o106 hn) h1 (hp.rev hn) (d.rev hp hn)
 refine k_ ?_
 exact⟨_,_,rfl,by exact o107 h1 a1,a2,a3,a4⟩
theorem tG{N n:Nat}{p:Array Nat}(h1:1≤n)(hn:n<N)(hp:Pl N n p)(d:Dro key n p)(hk:∀ a,a<n->key (p.getD n 0)<key (p.getD a 0)):
 ∃ m p',cR (kc key) (kas_descPart n N p)=(m,p')∧1≤m∧m≤N∧Pl N m p'∧mY key m p':=by
 unfold kas_descPart
 rw[gV]
 refine gG fun P_ k_=>?_
 obtain⟨p',n',q',e1,e2,e3,e4⟩:=rM (key:=key) (N:=N) (N - (n+1)) (n+1) 0 p (by exact o108 hn) (Ds.next hp hn d h1 hk)
 refine k_ ?_
 rw[e1]
 dsimp only
 by_cases hq:q'>0
 · rw[if_pos hq]
   exact zm (by exact o109 h1 e2) e3 (e4.pl.rev e3) (e4.turn e3)
 · rw[if_neg hq]
   have q0:q'=0:=by exact o90 hq
   subst q0
   exact zm (by exact o109 h1 e2) e3 e4.pl e4.dro
theorem Pl.range(N:Nat):Pl N 0 (List.toArray (List.range N)):=⟨by simp,by simp,fun k hk=>by exact o110 hk,fun k V hk=>by simp[hk]⟩
theorem Mt{N:Nat}(hN:1≤N):∃ m p',cR (kc key) (kas_count N (List.toArray (List.range N)))=(m,p')∧1≤m∧m≤N∧Pl N m p'∧mY key m p':=by
 unfold kas_count
 rw[gV]
 have h0:=Pl.range N
 generalize hP:List.toArray (List.range N)=P at h0⊢
 have hid:∀ k,k<N->P.getD k 0=k:=fun k hk=>h0.high k (Nat.zero_le _) hk
 refine gG fun P_ k_=>?_
 obtain⟨a1,a2,a3,a4,a5⟩:=Cy (key:=key) (N:=N) (p:=P) (N - 1) 1 (by exact o112 hN) (Nat.le_refl _) (h0.succ (by exact o111 hN)) (fun a b hab hb=>by omega)
 refine k_ ?_
 generalize cR (kc key) (kas_asc P (N - 1) 1)=n at a1 a2 a3 a4 a5⊢
 by_cases e1:n=N
 · rw[if_pos (by simpa using e1)]
   exact⟨_,_,rfl,a1,a2,a3,a4⟩
 · rw[if_neg (by simpa using e1)]
   have a5:=a5 (by exact o113 a2 e1)
   by_cases e2:n>1
   · rw[if_pos e2]
     have es:cR (kc key) (KasT.ask (P.getD 0 0) (P.getD (n - 1) 0) fun c=>if c=true then .ret (n,P)else kas_descPart n N (kas_rev P 0 n))=cR (kc key) (if kc key (P.getD 0 0) (P.getD (n - 1) 0)=true then .ret (n,P)else kas_descPart n N (kas_rev P 0 n)):=rfl
     rw[es]
     by_cases hc:key (P.getD 0 0)<key (P.getD (n - 1) 0)
     · rw[if_pos (by simpa[kc]using hc)]
       exact⟨_,_,rfl,a1,a2,a3,a4⟩
     · rw[if_neg (by simpa[kc]using hc)]
       have heq:∀ k,k<n->key (P.getD k 0)=key (P.getD (n - 1) 0):=fun k hk=>by
        have b1:key (P.getD 0 0)≤key (P.getD k 0):=by
         rcases Nat.eq_zero_or_pos k with q|q
         · rw[q];exact Int.le_refl _
         · have:=a4 0 k q hk;unfold Lx at this;exact o55 this
        have b2:key (P.getD k 0)≤key (P.getD (n - 1) 0):=by
         rcases Nat.lt_or_ge k (n - 1)with q|q
         · have:=a4 k (n - 1) q (by exact o114 e2);unfold Lx at this;exact o55 this
         · rw[show k=n - 1 by exact o115 e2 hk q];exact Int.le_refl _
        exact o116 hc b1 b2
       have hz:n≤P.size:=by rw[h0.size];exact a2
       refine tG a1 (by exact o113 a2 e1) (a3.rev a2) (fun a b hab hb=>?_) (fun a ha=>?_)
       · rw[cg hz,cg hz,if_pos ⟨Nat.zero_le _,hb⟩,if_pos ⟨Nat.zero_le _,by exact o51 hab hb⟩]
         have c1:=heq (0+n - 1 - b) (by exact o117 hab hb)
         have c2:=heq (0+n - 1 - a) (by exact o52 hab hb)
         refine .inr ⟨c1.trans c2.symm,?_⟩
         rw[hid _ (by exact o119 a2 hab hb),hid _ (by exact o118 hN a2)];exact o53 hab hb
       · rw[cg hz,cg hz,if_neg (by exact o121),if_pos ⟨Nat.zero_le _,ha⟩,heq (0+n - 1 - a) (by exact o120 ha)]
         exact a5
   · rw[if_neg e2]
     have n1:n=1:=by exact o122 a1 e2
     subst n1
     refine tG (Nat.le_refl _) (by exact o123 hN e1) a3 (fun a b hab hb=>by omega) (fun a ha=>?_)
     rw[show a=1 - 1 by exact o124 ha]
     exact a5
theorem tQ{p:Array Nat}{k:Nat}:∀(f l r:Nat),r - l≤f->l≤r->r≤k->(∀ a,a<l->key (p.getD a 0)≤key (p.getD k 0))->(∀ a,r≤a->a<k->key (p.getD k 0)<key (p.getD a 0))->(∀ a b,a<b->b<k->key (p.getD a 0)≤key (p.getD b 0))->
 ∃ m,cR (kc key) (kas_place p k f l r)=m∧m≤k∧(∀ a,a<m->key (p.getD a 0)≤key (p.getD k 0))∧(∀ a,m≤a->a<k->key (p.getD k 0)<key (p.getD a 0))
 |0,l,r,e,h1,h2,h3,h4,h5=>by
  have:l=r:=by exact o125 e h1
  subst this
  exact⟨_,rfl,h2,h3,h4⟩
 |f+1,l,r,e,h1,h2,h3,h4,h5=>by
  unfold kas_place
  by_cases hlr:l≥r
  · rw[if_pos hlr]
    have:l=r:=by exact o126 h1 hlr
    subst this
    exact⟨_,rfl,h2,h3,h4⟩
  · rw[if_neg hlr]
    have es:cR (kc key) (KasT.ask (p.getD k 0) (p.getD ((l+r)/ 2) 0) fun c=>if c=true then kas_place p k f l ((l+r)/ 2)else kas_place p k f ((l+r)/ 2+1) r)=cR (kc key) (if kc key (p.getD k 0) (p.getD ((l+r)/ 2) 0)=true then kas_place p k f l ((l+r)/ 2)else kas_place p k f ((l+r)/ 2+1) r):=rfl
    rw[es]
    by_cases hc:key (p.getD k 0)<key (p.getD ((l+r)/ 2) 0)
    · rw[if_pos (by simpa[kc]using hc)]
      refine tQ f l _ (by exact o129 e hlr) (by exact o128 hlr) (by exact o127 h2 hlr) h3 (fun a ha hk=>?_) h5
      rcases Nat.lt_or_ge ((l+r)/ 2) a with q|q
      · have:=h5 _ a q hk;exact o88 hc this
      · rw[show a=(l+r)/ 2 by exact o130 ha q];exact hc
    · rw[if_neg (by simpa[kc]using hc)]
      refine tQ f _ r (by exact o132 e hlr) (by exact o131 hlr) h2 (fun a ha=>?_) h4 h5
      rcases Nat.lt_or_ge a ((l+r)/ 2)with q|q
      · have:=h5 a _ q (by exact o134 h2 hlr);exact o133 hc this
      · rw[show a=(l+r)/ 2 by exact o135 ha q];exact o61 hc
theorem Dc{p:Array Nat}{k d:Nat}(hk:k<p.size)(hd:d≤k)(j:Nat):(bubble p k d).getD j 0=if j=k - d then p.getD k 0 else if k - d<j∧j≤k then p.getD (j - 1) 0 else p.getD j 0:=by
 have h:=getElem?_bubble hk d hd j
 have e:∀(q:Array Nat) k,q.getD k 0=(q[k]?).getD 0:=fun q k=>by simp
 rw[e,e,e,e,h]
 split
 · rfl
 · split<;>rfl
theorem Jr{N:Nat}:∀(f k:Nat) (p:Array Nat),k+f=N->Pl N k p->mY key k p->
 ∃ p',cR (kc key) (kas_bin f p k)=p'∧Pl N N p'∧mY key N p'
 |0,k,p,e,hp,ho=>by
  have:k=N:=by exact o136 e
  subst this
  exact⟨p,rfl,hp,ho⟩
 |f+1,k,p,e,hp,ho=>by
  have hk:k<N:=by exact o62 e
  have hkz:k<p.size:=by rw[hp.size];exact hk
  have es:kas_bin (f+1) p k=(kas_place p k k 0 k).bind fun l=>kas_bin f (bubble p k (k - l)) (k+1):=rfl
  rw[es,gV]
  refine gG fun P_ k_=>?_
  obtain⟨l,e1,e2,e3,e4⟩:=tQ (key:=key) (p:=p) (k:=k) k 0 k (by exact o139 e) (Nat.zero_le _) (Nat.le_refl _) (fun a ha=>by exact o138 ha) (fun a h1 h2=>by exact o137 e h1 h2) (fun a b hab hb=>by have:=ho a b hab hb;unfold Lx at this;exact o55 this)
  refine k_ ?_
  rw[e1]
  have hpk:p.getD k 0=k:=hp.high k (Nat.le_refl _) hk
  have B:=Dc (p:=p) (k:=k) (d:=k - l) hkz (by exact o140 e e1 e2 hpk)
  have hkl:k - (k - l)=l:=by exact o141 e e1 e2 hpk
  rw[hkl]at B
  refine Jr f (k+1) _ (by exact o64 e) ⟨by rw[bubble_size,hp.size],(Array.perm_iff_toList_perm.mp (bubble_perm p k _)).trans hp.perm,fun j hj=>?_,fun j h1 h2=>?_⟩ (fun a b hab hb=>?_)
  · rw[B]
    by_cases c1:j=l
    · rw[if_pos c1,hpk];exact o48
    · rw[if_neg c1]
      by_cases c2:l<j∧j≤k
      · rw[if_pos c2];have:=hp.low (j - 1) (by exact o143 e e1 hpk hkl hj c2);exact o142 e hpk this
      · rw[if_neg c2];have:=hp.low j (by exact o144 e e2 hpk hkl hj c1 c2);exact o142 e hpk this
  · rw[B,if_neg (by exact o146 e e2 hpk hkl h1),if_neg (by exact o145 e hpk h1)]
    exact hp.high j (by exact o147 e hpk h1) h2
  · rw[B a,B b]
    by_cases c1:a=l
    · rw[if_pos c1,if_neg (by exact o149 hkl hab c1),if_pos (by exact o148 e hpk hkl hab hb c1)]
      exact .inl (e4 _ (by exact o151 e1 hkl hab c1) (by exact o150 e e1 hpk hkl hab hb c1))
    · rw[if_neg c1]
      by_cases c2:l<a∧a≤k
      · rw[if_pos c2,if_neg (by exact o153 hkl hab c2),if_pos (by exact o152 e hpk hkl hab hb c2)]
        exact ho _ _ (by exact o155 e1 hkl hab c2) (by exact o154 e hpk hab hb)
      · rw[if_neg c2]
        by_cases c3:b=l
        · rw[if_pos c3]
          have:=e3 a (by exact o156 hkl hab c3)
          have hl:=hp.low a (by exact o157 e hpk hab hb)
          unfold Lx;rw[hpk]at this⊢;exact o158 e hpk this hl
        · rw[if_neg c3]
          by_cases c4:l<b∧b≤k
          · rw[if_pos c4]
            exact ho _ _ (by exact o159 e hpk hkl hab hb c1 c2 c3 c4) (by exact o154 e hpk hab hb)
          · rw[if_neg c4]
            exact ho _ _ hab (by exact o144 e e2 hpk hkl hb c3 c4)
end
theorem CZ(key:Nat->Int){N:Nat}(hN:1≤N):∃ p,cR (kc key) (kas_sort N)=p∧p.size=N∧p.toList=aX key (List.range N):=by
 have key1:∃ p,cR (kc key) (kas_sort N)=p∧Pl N N p∧mY key N p:=by
  unfold kas_sort
  rw[gV]
  refine gG fun P_ k_=>?_
  obtain⟨m,p,e1,e2,e3,e4,e5⟩:=Mt (key:=key) hN
  refine k_ ?_
  rw[e1]
  dsimp only
  have hm:max m 1=m:=by exact o160 e2
  rw[hm]
  split
  · exact Jr _ _ _ (by exact o161 hm (by assumption)) e4 e5
  · have:m=N:=by exact o162 e3 hm (by assumption)
    subst this
    exact⟨p,rfl,e4,e5⟩
 obtain⟨p,e,hp,ho⟩:=key1
 refine⟨p,e,hp.size,xg key (hp.perm.trans (cU key _).symm) ?_ (Bd key _ List.pairwise_lt_range)⟩
 rw[List.pairwise_iff_getElem]
 intro i j hi hj hij
 have hz:=hp.size
 simp only[Array.length_toList]at hi hj
 have:=ho i j hij (by exact o163 hj hz)
 have g:∀ k (h:k<p.size),p.getD k 0=p[k]:=fun k h=>by simp[Array.getD,h]
 rw[g i hi,g j hj]at this
 simpa using this
theorem FP{α:Type}(xs:List α)(d:α):(List.range xs.length).map (fun i=>xs.getD i d)=xs:=by
 apply List.ext_getElem
 · simp
 · intro i h1 h2
   simp at h1
   simp[h1]
theorem Hp{α:Type}(key:α->Int)(xs:List α)(d:α):(aX (fun i=>key (xs.getD i d)) (List.range xs.length)).map (fun i=>xs.getD i d)=aX key xs:=by
 rw[jZ key (fun i=>xs.getD i d),FP]
noncomputable def fj{α:Type}(N:Nat)(c:Nat->Nat->Bool):KasT α->Prop
 |.ret _=>True
 |.ask i j k=>(i<N∧j<N)∧fj N c (k (c i j))
section
variable{N:Nat}{c:Nat->Nat->Bool}
theorem fj.bind{α β:Type}{f:α->KasT β}:∀{t:KasT α},fj N c t->fj N c (f (cR c t))->fj N c (t.bind f)
 |.ret _,_,h=>h
 |.ask i j k,h1,h2=>⟨h1.1,fj.bind h1.2 h2⟩
theorem Dr{α:Type}{cmp:Nat->Nat->(Bool->Shared->Prop)->Shared->Prop}{Q:α->Shared->Prop}{s:Shared}(hc:∀ i j C,i<N->j<N->C (c i j) s->cmp i j C s):∀{t:KasT α},fj N c t->Q (cR c t) s->t.kasWp cmp Q s
 |.ret _,_,h=>h
 |.ask i j k,h1,h2=>hc i j _ h1.1.1 h1.1.2 (Dr hc h1.2 h2)
noncomputable def fV(N:Nat)(p:Array Nat):Prop:=∀ k,p.getD k 0<N
theorem fV.of(hN:0<N){p:Array Nat}(h:∀ x∈p.toList,x<N):fV N p:=fun k=>by
 by_cases hk:k<p.size
 · have e:p.getD k 0=p[k]:=by simp[Array.getD,hk]
   rw[e]
   exact h _ (by simp)
 · have e:p.getD k 0=0:=by simp[Array.getD,hk]
   rw[e];exact hN
theorem fV.all{p:Array Nat}(h:fV N p):∀ x∈p.toList,x<N:=fun x hx=>by
 obtain⟨k,hk,e⟩:=List.getElem_of_mem hx
 have hk':k<p.size:=by simpa using hk
 have:=h k
 have e2:p.getD k 0=p[k]:=by simp[Array.getD,hk']
 rw[e2]at this
 rw[←e];simpa using this
theorem fV.pos{p:Array Nat}(h:fV N p):0<N:=Nat.lt_of_le_of_lt (Nat.zero_le _) (h 0)
theorem fV.perm{p q:Array Nat}(h:fV N p)(e:q.Perm p):fV N q:=.of h.pos fun x hx=>h.all x ((Array.perm_iff_toList_perm.mp e).mem_iff.mp hx)
theorem fV.rev{p:Array Nat}(h:fV N p)(i j:Nat):fV N (kas_rev p i j):=h.perm (mirror_perm p i j _)
theorem fV.bub{p:Array Nat}(h:fV N p)(i j:Nat):fV N (bubble p i j):=h.perm (bubble_perm p i j)
theorem eY{α:Type}{b:Prop}[Decidable b]{t t':KasT α}(h1:b->fj N c t)(h2:¬b->fj N c t'):fj N c (if b then t else t'):=by
 split
 · exact h1 (by assumption)
 · exact h2 (by assumption)
theorem tM{p:Array Nat}(h:fV N p):∀ f n,fj N c (kas_asc p f n)
 |0,_=>trivial
 |f+1,n=>⟨⟨h _,h _⟩,eY (fun V=>trivial) fun V=>tM h f _⟩
theorem mF:∀ f (p:Array Nat) n q,fV N p->fj N c (kas_desc f p n q)∧fV N (cR c (kas_desc f p n q)).1
 |0,p,n,q,h=>⟨trivial,h⟩
 |f+1,p,n,q,h=>by
  have es:cR c (kas_desc (f+1) p n q)=cR c (if c (p.getD n 0) (p.getD (n - 1) 0)=true then(if q>0 then kas_desc f (kas_rev p (n - (q+1)) n) (n+1) 0 else kas_desc f p (n+1) 0)
   else .ask (p.getD (n - 1) 0) (p.getD n 0) fun d=>if d=true then .ret (p,n,q)else kas_desc f p (n+1) (q+1)):=rfl
  have a1:=mF f (kas_rev p (n - (q+1)) n) (n+1) 0 (h.rev _ _)
  have a2:=mF f p (n+1) 0 h
  have a3:=mF f p (n+1) (q+1) h
  refine⟨⟨⟨h _,h _⟩,eY (fun V=>eY (fun V=>a1.1) fun V=>a2.1) fun V=>⟨⟨h _,h _⟩,eY (fun V=>trivial) fun V=>a3.1⟩⟩,?_⟩
  rw[es]
  by_cases h1:c (p.getD n 0) (p.getD (n - 1) 0)=true
  · rw[if_pos h1]
    by_cases h2:q>0
    · rw[if_pos h2];exact a1.2
    · rw[if_neg h2];exact a2.2
  · rw[if_neg h1]
    show fV N (cR c (if c (p.getD (n - 1) 0) (p.getD n 0)=true then .ret (p,n,q)else kas_desc f p (n+1) (q+1))).1
    by_cases h2:c (p.getD (n - 1) 0) (p.getD n 0)=true
    · rw[if_pos h2];exact h
    · rw[if_neg h2];exact a3.2
theorem lJ{p:Array Nat}(h:fV N p)(n m:Nat):fj N c (kas_tail3 n m p)∧fV N (cR c (kas_tail3 n m p)).2:=by
 unfold kas_tail3
 refine⟨fj.bind (tM (h.rev _ _) _ _) trivial,?_⟩
 rw[gV];exact h.rev _ _
theorem qe{p:Array Nat}(h:fV N p)(n m:Nat):fj N c (kas_descPart n m p)∧fV N (cR c (kas_descPart n m p)).2:=by
 unfold kas_descPart
 have d:=mF (N:=N) (c:=c) (m - (n+1)) p (n+1) 0 h
 refine⟨fj.bind d.1 (eY (fun V=>(lJ (d.2.rev _ _) _ _).1) fun V=>(lJ d.2 _ _).1),?_⟩
 rw[gV]
 by_cases hq:(cR c (kas_desc (m - (n+1)) p (n+1) 0)).2.2>0
 · rw[if_pos hq];exact(lJ (d.2.rev _ _) _ _).2
 · rw[if_neg hq];exact(lJ d.2 _ _).2
theorem FJ{p:Array Nat}(h:fV N p)(m:Nat):fj N c (kas_count m p)∧fV N (cR c (kas_count m p)).2:=by
 unfold kas_count
 rw[gV]
 generalize hn:cR c (kas_asc p (m - 1) 1)=n
 have d1:=qe (c:=c) (h.rev 0 n) n m
 have d2:=qe (c:=c) h n m
 refine⟨fj.bind (tM h _ _) ?_,?_⟩
 · rw[hn]
   exact eY (fun V=>trivial) fun V=>eY (fun V=>⟨⟨h _,h _⟩,eY (fun V=>trivial) fun V=>d1.1⟩) fun V=>d2.1
 · by_cases h1:(n==m)=true
   · rw[if_pos h1];exact h
   · rw[if_neg h1]
     by_cases h2:n>1
     · rw[if_pos h2]
       show fV N (cR c (if c (p.getD 0 0) (p.getD (n - 1) 0)=true then .ret (n,p)else kas_descPart n m (kas_rev p 0 n))).2
       by_cases h3:c (p.getD 0 0) (p.getD (n - 1) 0)=true
       · rw[if_pos h3];exact h
       · rw[if_neg h3];exact d1.2
     · rw[if_neg h2];exact d2.2
theorem oW{p:Array Nat}(h:fV N p)(k:Nat):∀ f l r,fj N c (kas_place p k f l r)
 |0,_,_=>trivial
 |f+1,l,r=>by
  unfold kas_place
  exact eY (fun V=>trivial) fun V=>⟨⟨h _,h _⟩,eY (fun V=>oW h k f _ _) fun V=>oW h k f _ _⟩
theorem zN:∀ f (p:Array Nat) k,fV N p->fj N c (kas_bin f p k)
 |0,_,_,_=>trivial
 |f+1,p,k,h=>by
  have es:kas_bin (f+1) p k=(kas_place p k k 0 k).bind fun l=>kas_bin f (bubble p k (k - l)) (k+1):=rfl
  rw[es]
  exact fj.bind (oW h k _ _ _) (zN f _ _ (h.bub _ _))
theorem Hu(hN:0<N):fj N c (kas_sort N):=by
 unfold kas_sort
 have hb:fV N (List.toArray (List.range N)):=.of hN fun x hx=>by simpa using hx
 have d:=FJ (c:=c) hb N
 exact fj.bind d.1 (eY (fun V=>zN _ _ _ d.2) fun V=>trivial)
end
theorem Bh{kv:List Value}{kz:List Int}(h:IntsAre kv kz):∀(i:Nat) (d:Value) (z:Int),i<kz.length->∃ t,kv.getD i d=.int (kz.getD i z) t:=by
 induction h with
 |nil=>intro i d z hi;simp at hi
 |cons n t _ ih=>
  intro i d z hi
  cases i with
  |zero=>exact⟨t,rfl⟩
  |succ i=>simpa using ih i d z (by simpa using hi)
theorem uh{kv:List Value}{kz:List Int}(h:IntsAre kv kz):kv.length=kz.length:=by
 induction h with
 |nil=>rfl
 |cons _ _ _ ih=>simp[ih]
noncomputable def jg(kz:List Int)(vs:List Value):List Value:=(aX (fun p:Int×Value=>p.1) (kz.zip vs)).map (·.2)
theorem KJ{kz:List Int}{vs:List Value}(h:kz.length=vs.length):(jg kz vs).length=vs.length:=by
 unfold jg
 rw[List.length_map,jC];simp[h]
theorem kOut_eq{kz:List Int}{vs:List Value}(h:kz.length=vs.length)(d:Value):(aX (fun i=>kz.getD i 0) (List.range vs.length)).map (fun i=>vs.getD i d)=jg kz vs:=by
 unfold jg
 have hz:(kz.zip vs).length=vs.length:=by simp[h]
 rw[←Hp (fun p:Int×Value=>p.1) (kz.zip vs) (0,d),List.map_map,hz]
 have e1:∀ i∈List.range vs.length,(fun i=>kz.getD i 0) i=(fun i=>((kz.zip vs).getD i (0,d)).1) i:=fun i hi=>by
  have hi:i<vs.length:=by simpa using hi
  have h1:i<kz.length:=by exact o164 h hz hi
  simp[h1,hi,hz]
 have e2:∀ i∈List.range vs.length,(fun i=>vs.getD i d) i=((fun x:Int×Value=>x.2)∘fun i=>(kz.zip vs).getD i (0,d)) i:=fun i hi=>by
  have hi:i<vs.length:=by simpa using hi
  have h1:i<kz.length:=by exact o164 h hz hi
  simp[h1,hi,hz]
 have e3:aX (fun i=>kz.getD i 0) (List.range vs.length)=aX (fun i=>((kz.zip vs).getD i (0,d)).1) (List.range vs.length):=by
  have key:∀(k k':Nat->Int) (l:List Nat),(∀ i∈l,k i=k' i)->aX k l=aX k' l:=by
   have i1:∀(k k':Nat->Int) (x:Nat) (l:List Nat),k x=k' x->(∀ i∈l,k i=k' i)->ins k x l=ins k' x l:=by
    intro k k' x l hx
    induction l with
    |nil=>intro V;rfl
    |cons y r ih=>
     intro hl
     simp only[pU]
     rw[hx,hl y (.head _),ih fun i hi=>hl i (.tail _ hi)]
   intro k k' l
   induction l with
   |nil=>intro V;rfl
   |cons x r ih=>
    intro hl
    simp only[Bf]
    rw[ih fun i hi=>hl i (.tail _ hi)]
    exact i1 _ _ _ _ (hl x (.head _)) fun i hi=>hl i (.tail _ ((cU _ r).mem_iff.mp hi))
  exact key _ _ _ e1
 rw[e3]
 refine List.map_congr_left fun i hi=>e2 i ((cU _ _).mem_iff.mp hi)
section
variable{prog:Program}{w:World}{d u:Nat}{E:Value->Shared->Prop}{P:PySem.Fin->Shared->Prop}{a:Addr}{f:Value}
theorem rE{h:Heap}{a:Addr}{c:String}{xs:Array Value}{n:Nat}(ho:h.get? a=some (seqObj c xs n))(g:Array Value->Array Value):∃ n',(h.update a (Obj.mapSeq g)).get? a=some (seqObj c (g xs) n'):=⟨_,get?_update_seq ho g⟩
theorem nH{h:Heap}{a b:Addr}{g:Obj->Obj}{o:Obj}(hne:b≠a)(e:h.get? b=some o):(h.update a g).get? b=some o:=(Heap.get?_update_other _ _ (Ne.symm hne)).trans e
theorem Mv.hop{own:List Addr}{og:List Nat}{s sE sG:Shared}{k:Addr}(M:Mv own og s sE)(hk:s.heap.get? k=none)(M2:Mv [k] og sE sG):Mv own og s sG:=
 ⟨fun b o hb e=>M2.heap b o (fun z=>by rw[List.mem_singleton.mp z,hk]at e;cases e) (M.heap b o hb e),fun i x hi e=>M2.gens i x hi (M.gens i x hi e),M2.drawn.trans M.drawn,M2.os.trans M.os⟩
theorem Mv.hop2{own:List Addr}{og:List Nat}{s sE sG:Shared}{a k:Addr}(M:Mv own og s sE)(hk:s.heap.get? k=none)(ha:a∈own)(M2:Mv [a,k] og sE sG):Mv own og s sG:=
 ⟨fun b o hb e=>M2.heap b o (fun z=>by
  rcases List.mem_cons.mp z with rfl|z
  · exact hb ha
  · rw[List.mem_singleton.mp z,hk]at e;cases e) (M.heap b o hb e),fun i x hi e=>M2.gens i x hi (M.gens i x hi e),M2.drawn.trans M.drawn,M2.os.trans M.os⟩
theorem wX{vs:List Value}{kv:List Value}{kz:List Int}(hk:IntsAre kv kz)(hlen:kz.length=vs.length)(h64:vs.length<64){s:Shared}{kS:Addr}{c e1:Nat}(hkS:s.heap.get? kS=some (seqObj "list" kv.toArray c))(ha:s.heap.get? a=some (seqObj "list" #[] e1))(hne:a≠kS)
 {st:SortSt} (har:(arrOf st).map (·.2)=List.toArray (jg kz vs)) (hf:failedOf st=none)
 (h:∀ s' c',Mv [a,kS] [] s s'->s'.heap.get? a=some (seqObj "list" (jg kz vs).toArray c')->P (.done (.ret .none)) s'):wpAny (model prog w) (Ar d u) (ksk_tail a false e1 (.ref kS) st) P E s:=by
 obtain⟨ck,hck⟩:=rE hkS (fun V=>(#[]:Array Value))
 have ha2:(s.heap.update kS (Obj.mapSeq fun V=>(#[]:Array Value))).get? a=some (seqObj "list" #[] e1):=nH hne ha
 obtain⟨c2,hc2⟩:=rE ha2 (fun V=>(jg kz vs).toArray)
 unfold ksk_tail
 try dsimp only
 rw[har]
 simp only[Bool.false_eq_true,if_false]
 have hkl:=(uh hk)
 refine wpAny_bind (listUpdate_at hkS rfl ?_ (by rw[List.size_toArray,sizeLine_eq];exact o165 hlen h64 hkl) (Nat.zero_le _))
 refine wpAny_bind (wpAny_letGo ?_)
 refine wpAny_bind (seqEpoch_at ha2 rfl ?_)
 refine wpAny_bind (listUpdate_at ha2 rfl ?_ (Nat.zero_le _) (by rw[List.size_toArray,KJ hlen,sizeLine_eq];exact o166 hlen h64 hkl))
 rw[hf]
 simp only[bne_self_eq_false,Bool.false_eq_true,if_false]
 refine wpAny_pure (h _ c2 ⟨fun b o hb e=>nH (fun z=>hb (by simp[z])) (nH (fun z=>hb (by simp[z])) e),fun i x V e=>e,rfl,rfl⟩ hc2)
theorem Ik{kv:List Value}{kz:List Int}(hk:IntsAre kv kz)(h2:2≤kv.length):keyKind' kv.toArray=pure oneType':=by
 match kv,h2,hk with
 |vA::vB::rest,_,hk=>exact keyKind_ints hk
theorem kz_one{vs kv:List Value}{kz:List Int}(hk:IntsAre kv kz)(hlen:kz.length=vs.length)(hv:vs.length<2):List.map (fun x=>x.2) (kv.toArray.toList.zip vs)=(jg kz vs).toArray.toList:=by
 cases hk with
 |nil=>
  cases vs with
  |nil=>rfl
  |cons _ _=>cases hlen
 |cons n t hr=>
  cases hr with
  |nil=>
   cases vs with
   |nil=>cases hlen
   |cons v r=>
    cases r with
    |nil=>rfl
    |cons _ _=>cases hlen
  |cons n' t' hr'=>
   rw[←hlen]at hv
   exact absurd hv (Nat.not_lt.mpr (Nat.le_add_left 2 _))
theorem JQ{vs:List Value}{kv:List Value}{kz:List Int}(hk:IntsAre kv kz)(hlen:kz.length=vs.length)(h64:vs.length<64){s:Shared}{kS:Addr}{c e1:Nat}(hkS:s.heap.get? kS=some (seqObj "list" kv.toArray c))(ha:s.heap.get? a=some (seqObj "list" #[] e1))(hne:a≠kS)
 (h:∀ s' c',Mv [a,kS] [] s s'->s'.heap.get? a=some (seqObj "list" (jg kz vs).toArray c')->P (.done (.ret .none)) s'):wpAny (model prog w) (Ar d u) (ksk_end a false vs.toArray e1 (.ref kS) kv.toArray) P E s:=by
 have hkl:=(uh hk)
 unfold ksk_end
 try dsimp only
 simp only[Bool.false_eq_true,if_false]
 by_cases hn:vs.toArray.size<2
 · rw[if_pos hn,if_pos hn]
   have hv:vs.length<2:=by simpa using hn
   refine wpAny_bind (wpAny_pure (wpAny_bind ?_))
   show wpAny _ _ ((pure ():StateT SortSt Sem Unit).run _) _ _ _
   rw[StateT.run_pure]
   refine wpAny_pure (wX hk hlen h64 hkS ha hne ?_ rfl h)
   show((kv.toArray.zip vs.toArray).map (·.2))=_
   apply Array.toList_inj.mp
   rw[Array.toList_map,ksk_zip]
   exact kz_one hk hlen hv
 · rw[if_neg hn,if_neg hn]
   have hv:2≤vs.length:=by simpa using hn
   rw[Ik hk (by exact o167 hlen h64 hkl hv)]
   refine wpAny_bind (wpAny_pure (wpAny_bind ?_))
   obtain⟨p,e,hp,hl⟩:=CZ (fun i=>kz.getD i 0) (N:=vs.length) (by exact o168 hlen h64 hkl hv)
   refine kat_run (G:=fun q s'=>q=p∧s'=s) (Q:=fun st s'=>wpAny (model prog w) (Ar d u) (ksk_tail a false e1 (.ref kS) st) P E s') (by exact o169 hlen hkl) hv h64 (fun q st' s' h1 h2 h3 h4=>?_) ?_
   · obtain⟨rfl,rfl⟩:=h4
     refine wX hk hlen h64 hkS ha hne ?_ h3 h
     rw[kat_snds (by exact o169 hlen hkl) h2,hl,kOut_eq hlen]
   · refine Dr (N:=vs.length) (c:=kc fun i=>kz.getD i 0) (fun i j C hi hj hC=>?_) (Hu (by exact o170 hlen h64 hkl hv hp)) ⟨e,rfl⟩
     unfold kas_ask
     obtain⟨t1,e1⟩:=Bh hk i Value.none 0 (by exact o171 hlen hkl hp hi)
     obtain⟨t2,e2⟩:=Bh hk j Value.none 0 (by exact o171 hlen hkl hp hj)
     rw[e1,e2]
     exact kat_lt_int hC
theorem J6{kv:List Value}{kz:List Int}(h:IntsAre kv kz)(k:Int)(t:Tok):IntsAre (kv++[Value.int k t]) (kz++[k]):=ksk_snoc h
theorem Hr{kS:Addr}{n:Nat}(hn:n<64){body:Value->PUnit->Sem (ForInStep PUnit)}{I:Shared->Prop}{Q:PUnit->Shared->Prop}(hI:∀ s s',I s->Mv [kS] [] s s'->I s')
 (hb:∀ x (k:Int) (kv:List Value) c (s:Shared),kv.length<64->I s->s.heap.get? kS=some (seqObj "list" kv.toArray c)->wpAny (model prog w) (Ar d u) (call f [x]) (fun(y:Value) (s':Shared)=>(∃ t,y=Value.int k t)∧Mv [] [] s s') bf s->
  wpAny (model prog w) (Ar d u) (body x ⟨⟩) (fun r s'=>r=.yield ⟨⟩∧∃ t c',Mv [kS] [] s s'∧s'.heap.get? kS=some (seqObj "list" (kv++[Value.int k t]).toArray c')) E s):
 ∀(vs:List Value) (kz kz0:List Int) (kv:List Value) (c:Nat) (s:Shared),kz0.length+vs.length=n->kz.length=vs.length->IntsAre kv kz0->I s->s.heap.get? kS=some (seqObj "list" kv.toArray c)->
  (∀(i:Nat) v (k:Int),vs[i]? =some v->kz[i]? =some k->∀ s,I s->wpAny (model prog w) (Ar d u) (call f [v]) (fun(y:Value) (s':Shared)=>(∃ t,y=Value.int k t)∧Mv [] [] s s') bf s)->
  (∀ s' kv' c',Mv [kS] [] s s'->IntsAre kv' (kz0++kz)->s'.heap.get? kS=some (seqObj "list" kv'.toArray c')->Q ⟨⟩ s')->
  wpAny (model prog w) (Ar d u) (forIn vs PUnit.unit body) Q E s:=by
 intro vs
 induction vs with
 |nil=>
  intro kz kz0 kv c s V h2 hk V hS V hQ
  have hz:kz=[]:=List.eq_nil_of_length_eq_zero h2
  rw[List.forIn_nil]
  exact wpAny_pure (hQ s kv c (Mv.refl s) (by rw[hz,List.append_nil];exact hk) hS)
 |cons v vs ih=>
  intro kz kz0 kv c s h1 h2 hk hi hS ht hQ
  cases kz with
  |nil=>simp at h2
  |cons k kz=>
   rw[List.length_cons]at h1
   have hkl:=(uh hk)
   rw[List.forIn_cons]
   refine wpAny_bind (wpAny_mono (hb v k kv c s (by exact o172 hn h1 hkl) hi hS (ht 0 v k rfl rfl s hi)) (fun r s' h=>?_) fun V V e=>e)
   refine gG fun P_ k_=>?_
   obtain⟨rfl,t,c',hM,hS'⟩:=h
   refine k_ ?_
   show wpAny (model prog w) (Ar d u) (forIn vs PUnit.unit body) Q E s'
   refine ih kz (kz0++[k]) (kv++[Value.int k t]) c' s' (by rw[List.length_append,List.length_singleton];exact o64 h1) (by simpa using h2) (J6 hk k t) (hI s s' hi hM) hS' (fun i v k e1 e2=>ht (i+1) v k (by simpa using e1) (by simpa using e2)) fun s'' kv' c'' hM' hk' hS''=>hQ s'' kv' c'' (hM.trans hM') (by simpa using hk') hS''
theorem wW{vs:List Value}{kz:List Int}{n:Nat}{s:Shared}(ho:s.heap.get? a=some (seqObj "list" vs.toArray n))(hlen:kz.length=vs.length)(h64:vs.length<64)
 (turn:∀(i:Nat) v (k:Int),vs[i]? =some v->kz[i]? =some k->∀ sE,Mv [a] [] s sE->wpAny (model prog w) (Ar d u) (call f [v]) (fun(y:Value) (sG:Shared)=>(∃ t,y=Value.int k t)∧Mv [] [] sE sG) bf sE)
 (h:∀ s' c,Mv [a] [] s s'->s'.heap.get? a=some (seqObj "list" (jg kz vs).toArray c)->P (.done (.ret .none)) s'):wpAny (model prog w) (Ar d u) (ksk_tree a f false) P E s:=by
 have ha:a<s.heap.objs.size:=Heap.lt_size ho
 obtain⟨e1,ho1⟩:=rE ho (fun V=>(#[]:Array Value))
 have hkS:((s.heap.update a (Obj.mapSeq fun V=>(#[]:Array Value))).push (seqObj "tuple" vs.toArray 0)).objs.size=s.heap.objs.size+1:=by rw[size_push',Heap.size_update]
 unfold ksk_tree
 refine wpAny_bind (listItems_at ho rfl ?_)
 refine wpAny_bind (listUpdate_at ho rfl ?_ (by rw[List.size_toArray,sizeLine_eq];exact o173 hlen h64) (Nat.zero_le _))
 refine wpAny_bind (seqEpoch_at ho1 rfl ?_)
 refine wpAny_bind (wpAny_newTuple ?_ (by show vs.length≤_;rw[sizeLine_eq];exact o173 hlen h64))
 refine wpAny_bind (wpAny_newList ?_ (Nat.zero_le _))
 refine wpAny_holding ?_
 unfold ksk_rest
 refine wpAny_bind (wpAny_rule ?_)
 rw[List.forIn_toArray]
 generalize hkS2:((s.heap.update a (Obj.mapSeq fun V=>(#[]:Array Value))).push (seqObj "tuple" vs.toArray 0)).objs.size=kS at hkS⊢
 have hne:a≠kS:=Nat.ne_of_lt (by rw[hkS];exact Nat.lt_succ_of_lt ha)
 have hz:∀ h:Heap,s.heap.objs.size+1=kS->s.heap.get? kS=none:=fun V e=>Heap.get?_none_of_le (by rw[←e];exact Nat.le_succ _)
 have fresh:s.heap.get? kS=none:=hz s.heap hkS.symm
 generalize hs0:({s with heap:=((s.heap.update a (Obj.mapSeq fun V=>(#[]:Array Value))).push (seqObj "tuple" vs.toArray 0)).push (seqObj "list" #[] 0)}:Shared)=sH
 have M0:Mv [a] [] s sH:=by
  rw[←hs0]
  exact⟨fun b o hb e=>Heap.get?_push_of_some _ (Heap.get?_push_of_some _ (nH (fun z=>hb (by simp[z])) e)),fun i x V e=>e,rfl,rfl⟩
 have K0:sH.heap.get? kS=some (seqObj "list" #[] 0):=by rw[←hs0, ←hkS2];exact Heap.get?_push_size _ rfl
 have Aa:sH.heap.get? a=some (seqObj "list" #[] e1):=by rw[←hs0];exact Heap.get?_push_of_some _ (Heap.get?_push_of_some _ ho1)
 refine wpAny_bind (Hr (f:=f) (kS:=kS) (n:=vs.length) h64 (I:=fun s'=>Mv [a] [] s s'∧s'.heap.get? a=some (seqObj "list" #[] e1)) (fun sE sG hI hM=>⟨hI.1.hop fresh hM,hM.heap a _ (by simpa using hne) hI.2⟩)
  (fun x k kv c sE hl hI hS hc=>?_) vs kz [] [] 0 sH (by simp) hlen .nil ⟨M0,Aa⟩ K0 (fun i v k e1 e2 sE hI=>turn i v k e1 e2 sE hI.1) fun sE kv c hM hk hS=>?_)
 · refine wpAny_bind (wpAny_attempt (wpAny_mono hc (fun y sG hy=>?_) fun V V z=>z.elim))
   obtain⟨⟨t,rfl⟩,hM⟩:=hy
   have hS2:=hM.heap kS _ (by simp) hS
   obtain⟨c',hc'⟩:=rE hS2 (·.push (Value.int k t))
   refine wpAny_bind (listUpdate_at hS2 rfl ?_ (by rw[List.size_toArray,sizeLine_eq];exact o175 hl) (by rw[Array.size_push,List.size_toArray,sizeLine_eq];exact o174 hl))
   refine wpAny_pure ⟨rfl,t,c',⟨fun b o hb e=>nH (fun z=>hb (by simp[z])) (hM.heap b o (by simp) e),fun i x hi e=>hM.gens i x hi e,hM.drawn,hM.os⟩,?_⟩
   rw[hc',List.push_toArray]
 · have hA:=hM.heap a _ (by simpa using hne) Aa
   refine wpAny_bind (listItems_at hS rfl ?_)
   exact JQ hk hlen h64 hS hA hne fun sG c' hM' hA'=>h sG c' ((M0.hop fresh hM).hop2 fresh (.head _) hM') hA'
end
noncomputable abbrev lK:Str:=⟨#[107,101,121]⟩
section
variable{prog:Program}{w:World}{d u:Nat}{Q:Value->Shared->Prop}{a f:Addr}
theorem Jp{vs:List Value}{kz:List Int}{n:Nat}{s:Shared}(ho:s.heap.get? a=some (seqObj "list" vs.toArray n))(hlen:kz.length=vs.length)(h64:vs.length<64)
 (turn:∀(i:Nat) v (k:Int),vs[i]? =some v->kz[i]? =some k->∀ sE,Mv [a] [] s sE->wpAny (model prog w) (Ar d (u+1)) (call (.ref f) [v]) (fun(y:Value) (sG:Shared)=>(∃ t,y=Value.int k t)∧Mv [] [] sE sG) bf sE)
 (h:∀ s' c,Mv [a] [] s s'->s'.heap.get? a=some (seqObj "list" (jg kz vs).toArray c)->Q .none s'):wpAny (model prog w) (Ar d u) (call (.builtin "list.sort") [.ref a] [(lK,.ref f)]) Q bf s:=by
 refine wpAny_call_entry_kw slot_list_sort ⟨_,ho,rfl⟩ entry_list_sort ?_ (ksk_l1 _ _)
 show wpAny (model prog w) (Ar d (u+1)) (ksk_tree a (.ref f) false) _ _ _
 exact wW ho hlen h64 turn fun s' c hM hA=>⟨_,rfl,h s' c hM hA⟩
theorem Dp{l:Addr}{vs:List Value}{kz:List Int}{s:Shared}(hl:s.heap.IsList l vs.toArray)(hlen:kz.length=vs.length)(h64:vs.length<64)
 (turn:∀(i:Nat) v (k:Int),vs[i]? =some v->kz[i]? =some k->∀ sE,Mv [] [] s sE->wpAny (model prog w) (Ar d (u+2)) (call (.ref f) [v]) (fun(y:Value) (sG:Shared)=>(∃ t,y=Value.int k t)∧Mv [] [] sE sG) bf sE)
 (h:∀ s' c b,Mv [] [] s s'->s.heap.get? b=none->s'.heap.get? b=some (seqObj "list" (jg kz vs).toArray c)->Q (.ref b) s'):wpAny (model prog w) (Ar d u) (call (.builtin "sorted") [.ref l] [(lK,.ref f)]) Q bf s:=by
 refine call_function_entry_kw kind_sorted plain_sorted entry_sorted (ksk_s1 _ _) ?_
 unfold Builtin.«sorted»
 refine wpAny_bind (m:=checkCount "sorted" 1 1 _) (wpAny_pure ?_)
 refine wpAny_bind (collect_list hl ?_ (by rw[sizeLine_eq];exact o173 hlen h64))
 refine wpAny_bind (wpAny_newList ?_ (by rw[sizeLine_eq];exact o173 hlen h64))
 have hsz:((s.heap.push (seqObj "list" #[] 0)).update s.heap.objs.size (Obj.mapSeq (·++vs.toArray))).objs.size=s.heap.objs.size+1:=by
  rw[Heap.size_update,size_push']
 have hoL:(((s.heap.push (seqObj "list" #[] 0)).update s.heap.objs.size (Obj.mapSeq (·++vs.toArray))).push (seqObj "list" vs.toArray 0)).get? (s.heap.objs.size+1)=some (seqObj "list" vs.toArray 0):=by
  rw[←hsz];exact Heap.get?_push_size _ rfl
 have keep:∀ b o,s.heap.get? b=some o->(((s.heap.push (seqObj "list" #[] 0)).update s.heap.objs.size (Obj.mapSeq (·++vs.toArray))).push (seqObj "list" vs.toArray 0)).get? b=some o:=fun b o q=>by
  have hlt:b<s.heap.objs.size:=Heap.lt_size q
  rw[Heap.get?_push_ne _ _ _ (by rw[hsz];exact Nat.ne_of_lt (Nat.lt_succ_of_lt hlt)),Heap.get?_update_ne _ _ _ _ (Nat.ne_of_lt hlt),Heap.get?_push_ne _ _ _ (Nat.ne_of_lt hlt)]
  exact q
 have fresh:s.heap.get? (s.heap.objs.size+1)=none:=Heap.get?_none_of_le (Nat.le_succ _)
 show wpAny _ _ _ _ _ {s with heap:=((s.heap.push (seqObj "list" #[] 0)).update s.heap.objs.size (Obj.mapSeq (·++vs.toArray))).push (seqObj "list" vs.toArray 0)}
 rw[hsz]
 generalize hs0:({s with heap:=((s.heap.push (seqObj "list" #[] 0)).update s.heap.objs.size (Obj.mapSeq (·++vs.toArray))).push (seqObj "list" vs.toArray 0)}:Shared)=sH
 have M0:Mv [] [] s sH:=by rw[←hs0];exact⟨fun b o V e=>keep b o e,fun V V V e=>e,rfl,rfl⟩
 have L0:sH.heap.get? (s.heap.objs.size+1)=some (seqObj "list" vs.toArray 0):=by rw[←hs0];exact hoL
 refine wpAny_bind (wpAny_holding (wpAny_call_entry_kw slot_list_sort ⟨_,L0,rfl⟩ entry_list_sort ?_ (ksk_l1 _ _)))
 show wpAny (model prog w) (Ar d (u+2)) (ksk_tree (s.heap.objs.size+1) (.ref f) false) _ _ _
 refine wW L0 hlen h64 (fun i v k e1 e2 sE hM=>turn i v k e1 e2 sE (M0.hop fresh hM)) fun s' c hM hA=>⟨_,rfl,wpAny_pure ⟨_,rfl,h s' c _ (M0.hop fresh hM) fresh hA⟩⟩
end
noncomputable def Sub(B B':Heap):Prop:=∀ b o,B.get? b=some o->B'.get? b=some o
theorem Sub.refl(B:Heap):Sub B B:=fun V V e=>e
theorem Sub.trans{A B C:Heap}(x:Sub A B)(y:Sub B C):Sub A C:=fun b o e=>y b o (x b o e)
structure Rl where
 r:Heap->Value->Prop
 mono:∀{h h':Heap} {v:Value},Sub h h'->r h v->r h' v
inductive bx(h:Heap):List Value->List Rl->Prop
 |nil:bx h [] []
 |cons {v vs} {R:Rl} {Rs}:R.r h v->bx h vs Rs->bx h (v::vs) (R::Rs)
theorem bx.mono{h h':Heap}(k:Sub h h'){vs:List Value}{Rs:List Rl}(x:bx h vs Rs):bx h' vs Rs:=by
 induction x with
 |nil=>exact .nil
 |cons a _ ih=>exact .cons (Rl.mono _ k a) ih
theorem bx.len{h:Heap}{vs:List Value}{Rs:List Rl}(x:bx h vs Rs):vs.length=Rs.length:=by
 induction x with
 |nil=>rfl
 |cons _ _ ih=>simp[ih]
theorem bx.append{h:Heap}{vs ws:List Value}{Rs Ss:List Rl}(x:bx h vs Rs)(y:bx h ws Ss):bx h (vs++ws) (Rs++Ss):=by
 induction x with
 |nil=>exact y
 |cons a _ ih=>exact .cons a ih
theorem bx.get{h:Heap}{vs:List Value}{Rs:List Rl}(x:bx h vs Rs):∀{i:Nat} {R:Rl},Rs[i]? =some R->∃ v,vs[i]? =some v∧R.r h v:=by
 induction x with
 |nil=>intro i R e;simp at e
 | @cons v vs R' Rs a _ ih=>
  intro i R e
  cases i with
  |zero=>simp at e;subst e;exact⟨v,rfl,a⟩
  |succ i=>simp at e;simpa using ih e
theorem bx.take{h:Heap}{vs:List Value}{Rs:List Rl}(x:bx h vs Rs):∀ n,bx h (vs.take n) (Rs.take n):=by
 induction x with
 |nil=>intro n;simp;exact .nil
 |cons a _ ih=>
  intro n
  cases n with
  |zero=>exact .nil
  |succ n=>exact .cons a (ih n)
theorem bx.drop{h:Heap}{vs:List Value}{Rs:List Rl}(x:bx h vs Rs):∀ n,bx h (vs.drop n) (Rs.drop n):=by
 induction x with
 |nil=>intro n;simp;exact .nil
 | @cons v vs R' Rs a x ih=>
  intro n
  cases n with
  |zero=>exact .cons a x
  |succ n=>exact ih n
namespace Rl
noncomputable def val(w:Value):Rl:=⟨fun V v=>v=w,fun V h=>h⟩
noncomputable def int(z:Int):Rl:=⟨fun V v=>∃ t,v=.int z t,fun V h=>h⟩
noncomputable def str(x:Str):Rl:=⟨fun V v=>∃ t,v=.str x t,fun V h=>h⟩
noncomputable def list(Rs:List Rl):Rl:=⟨fun h v=>∃ l vs n,v=.ref l∧h.get? l=some (bK vs n)∧bx h vs Rs,fun k ⟨l,vs,n,e,g,a⟩=>⟨l,vs,n,e,k _ _ g,a.mono k⟩⟩
noncomputable def tup(Rs:List Rl):Rl:=⟨fun h v=>∃ l vs,v=.ref l∧IsTup h l vs.toArray∧bx h vs Rs,by
 intro h h' v k x
 refine gG fun P_ k_=>?_
 obtain⟨l,vs,e,g,a⟩:=x
 refine k_ ?_
 exact⟨l,vs,e,PyProof.Rows.IsTup.keeps g k,a.mono k⟩⟩
noncomputable def msg(pr:Program)(w:World)(m:ak):Rl:=⟨fun h v=>eN pr w (fun V=>True) h v m,fun k x=>x.keeps (fun b o V e=>k b o e) fun V V V V=>trivial⟩
end Rl
theorem w7{pr:Program}{w:World}{h:Heap}{vs:List Value}:∀{ms:List ak},bx h vs (ms.map (Rl.msg pr w))->nF pr w h vs ms:=by
 intro ms
 induction ms generalizing vs with
 |nil=>intro x;cases x;exact .nil
 |cons m ms ih=>
  intro x
  cases x with
  |cons a x=>exact .cons a (ih x)
inductive MO where
 |lst (Rs:List Rl)
 |raw (P:Obj->Prop)
 |tab (pos:Pos) (qual:Str) (psA:Array Value)
noncomputable def MO.rel(B:Heap)(h:Heap)(a:Addr):MO->Prop
 |.lst Rs=>∃ vs n,h.get? a=some (bK vs n)∧bx B vs Rs
 |.raw P=>∃ o,h.get? a=some o∧P o
 |.tab pos qual psA=>∃ ps,(h.get? a=some (tabObj ps)∧∃ more,ps=psA++more)∧TriplesOk ps.toList∧(codeAmong pos ps.toList=none∨∃ c,codeAmong pos ps.toList=some (.ref c)∧B.CodeRec (.ref c) qual)
theorem MO.rel.get{B h:Heap}{a:Addr}{m:MO}:m.rel B h a->∃ o,h.get? a=some o:=
 @MO.casesOn (fun m=>m.rel B h a->∃ o,h.get? a=some o) m (fun V h=>h.elim fun V h=>h.elim fun V h=>⟨_,h.1⟩) (fun V=>Exists.imp fun V=>And.left) (fun V V V h=>h.elim fun V h=>⟨_,h.1.1⟩)
theorem MO.rel.keeps{B B' h h':Heap}{a:Addr}(k:Sub B B')(e:∀ o,h.get? a=some o->h'.get? a=some o){m:MO}:m.rel B h a->m.rel B' h' a:=
 @MO.casesOn (fun m=>m.rel B h a->m.rel B' h' a) m (fun V=>Exists.imp fun V=>Exists.imp fun V h=>⟨e _ h.1,h.2.mono k⟩) (fun V=>Exists.imp fun V h=>⟨e _ h.1,h.2⟩)
  (fun V V V=>Exists.imp fun V h=>⟨⟨e _ h.1.1,h.1.2⟩,h.2.1,h.2.2.imp_right (Exists.imp fun V h=>⟨h.1,h.2.keeps k⟩)⟩)
structure q8(w:World)(B:Heap):Prop extends BaseOk w B where
 mod:B.get? 4=some (PySem.W.boot_o_4 w.params)
theorem q8.up{w:World}{B B':Heap}(h:q8 w B)(k:Sub B B'):q8 w B':=⟨⟨fun a o e=>k a o (h.aZ a o e),h.lim.keeps k,h.sys.imp fun o e=>k _ _ e⟩,k _ _ h.mod⟩
noncomputable def qd(B:Heap)(h:Heap)(a:Addr):Option Rl->Prop
 |none=>∃ v,h.IsCell a v
 |some R=>∃ v,h.IsCell a (some v)∧R.r B v
structure aF where
 L:Addr
 ρ:List (Str×Rl)
 cl:List (Str×Addr×Option Rl)
 M:List (Addr×MO)
noncomputable def aF.own(c:aF):List Addr:=c.L::(c.cl.map (·.2.1)++c.M.map (·.1))
noncomputable def jP(B:Heap)(ρ:List (Str×Rl))(m:Str->Option Value):Prop:=∀ x R,ρ.lookup x=some R->∃ v,m x=some v∧R.r B v
theorem jP.mono{B B':Heap}(k:Sub B B'){ρ:List (Str×Rl)}{m:Str->Option Value}(h:jP B ρ m):jP B' ρ m:=fun x R e=>by
 obtain⟨v,e1,e2⟩:=h x R e
 exact⟨v,e1,R.mono k e2⟩
noncomputable def Qs(s s':Shared):Prop:=s'.os=s.os∧lw s'=lw s
structure LS(w:World)(os0:OsState)(c:aF)(B:Heap)(s:Shared):Prop where
 ok:q8 w B
 keep:aU B s
 fr:∃ m,s.heap.Ns c.L m∧jP B c.ρ m
 cells:∀ p∈c.cl,qd B s.heap p.2.1 p.2.2
 muts:∀ p∈c.M,p.2.rel B s.heap p.1
 out:∀ a∈c.own,B.get? a=none
 nd:c.own.Nodup
 os:s.os=os0
 bare:lw s=false
section
variable{w:World}{os0:OsState}{c:aF}{B:Heap}{s s':Shared}
theorem LS.live(h:LS w os0 c B s){a:Addr}(ha:a∈c.own):∃ o,s.heap.get? a=some o:=by
 rcases List.mem_cons.mp ha with rfl|ha
 · obtain⟨V,⟨o,V,V,e,V⟩,V⟩:=h.fr;exact⟨o,e⟩
 · rcases List.mem_append.mp ha with ha|ha
   · obtain⟨p,hp,rfl⟩:=List.mem_map.mp ha
     have:=h.cells p hp
     obtain⟨x,a,r⟩:=p
     cases r with
     |none=>obtain⟨v,o,e,V⟩:=this;exact⟨o,e⟩
     |some R=>obtain⟨v,⟨o,e,V⟩,V⟩:=this;exact⟨o,e⟩
   · obtain⟨p,hp,rfl⟩:=List.mem_map.mp ha
     exact(h.muts p hp).get
theorem dg{B B' h h':Heap}{a:Addr}(k:Sub B B')(e:∀ o,h.get? a=some o->h'.get? a=some o){R:Option Rl}:qd B h a R->qd B' h' a R:=
 @Option.casesOn Rl (fun R=>qd B h a R->qd B' h' a R) R (Exists.imp fun V=>Exists.imp fun V h=>⟨e _ h.1,h.2⟩) (fun R=>Exists.imp fun V h=>⟨h.1.imp fun V h=>⟨e _ h.1,h.2⟩,R.mono k h.2⟩)
theorem LS.make(h:LS w os0 c B s){c':aF}(T:List Addr)(hk:∀ b o,b∉T->s.heap.get? b=some o->s'.heap.get? b=some o)(hT:∀ b∈T,B.get? b=none)(h1:∀ a∈c'.own,B.get? a=none)(nd:c'.own.Nodup)
 (k:Sub B (hideAll s'.heap c'.own)->(∃ m,s'.heap.Ns c'.L m∧jP (hideAll s'.heap c'.own) c'.ρ m)∧(∀ p∈c'.cl,qd (hideAll s'.heap c'.own) s'.heap p.2.1 p.2.2)∧∀ p∈c'.M,p.2.rel (hideAll s'.heap c'.own) s'.heap p.1) (q:Qs s s':=by exact⟨rfl,rfl⟩):
 Sub B (hideAll s'.heap c'.own)∧LS w os0 c' (hideAll s'.heap c'.own) s':=by
 have kk:Sub B (hideAll s'.heap c'.own):=fun b o e=>hideAll_get _ (hk _ _ (fun hm=>by rw[hT b hm]at e;cases e) (h.keep b o e)) fun hm=>by rw[h1 b hm]at e;cases e
 obtain⟨k1,k2,k3⟩:=k kk
 exact⟨kk,⟨h.ok.up kk,fun b o e=>of_hideAll _ e,k1,k2,k3,fun a ha=>hideAll_none _ ha,nd,q.1.trans h.os,q.2.trans h.bare⟩⟩
theorem LS.noB(h:LS w os0 c B s){b:Addr}(e:s.heap.get? b=none):B.get? b=none:=by
 cases q:B.get? b with
 |none=>rfl
 |some o=>rw[h.keep b o q]at e;cases e
theorem LS.ne(h:LS w os0 c B s){a b:Addr}(ha:a∈c.own)(e:s.heap.get? b=none):a≠b:=fun z=>by
 obtain⟨o,q⟩:=h.live ha
 rw[z,e]at q;cases q
theorem LS.grow(h:LS w os0 c B s)(hk:Sub s.heap s'.heap)(q:Qs s s':=by exact⟨rfl,rfl⟩):Sub B (hideAll s'.heap c.own)∧LS w os0 c (hideAll s'.heap c.own) s':=
 h.make [] (fun b o V e=>hk b o e) (fun V h=>by cases h) h.out h.nd (q:=q) fun k=>⟨by
  obtain⟨m,hm,hl⟩:=h.fr
  exact⟨m,hm.keeps hk,hl.mono k⟩,fun p hp=>dg k (fun o e=>hk _ _ e) (h.cells p hp),fun p hp=>(h.muts p hp).keeps k fun o e=>hk _ _ e⟩
theorem LS.inB(h:LS w os0 c B s)(hk:Sub s.heap s'.heap){b:Addr}{o:Obj}(e:s'.heap.get? b=some o)(hb:(∃ x,B.get? b=some x)∨s.heap.get? b=none):(hideAll s'.heap c.own).get? b=some o:=hideAll_get _ e fun hm=>by
 rcases hb with⟨x,hx⟩|hb
 · rw[h.out b hm]at hx;cases hx
 · obtain⟨x,hx⟩:=h.live hm
   rw[hb]at hx;cases hx
theorem LS.same(h:LS w os0 c B s)(e:s'.heap=s.heap)(q:Qs s s':=by exact⟨rfl,rfl⟩):LS w os0 c B s':=by
 refine⟨h.ok,fun b o q=>?_,?_,fun p hp=>?_,fun p hp=>?_,h.out,h.nd,q.1.trans h.os,q.2.trans h.bare⟩
 · rw[e];exact h.keep b o q
 · rw[e];exact h.fr
 · rw[e];exact h.cells p hp
 · rw[e];exact h.muts p hp
theorem LS.LnotCl(h:LS w os0 c B s){p:Str×Addr×Option Rl}(hp:p∈c.cl):p.2.1≠c.L:=fun e=>(List.nodup_cons.mp h.nd).1 (by rw[←e];exact List.mem_append_left _ (List.mem_map_of_mem hp))
theorem LS.H6(h:LS w os0 c B s){p:Addr×MO}(hp:p∈c.M):p.1≠c.L:=fun e=>(List.nodup_cons.mp h.nd).1 (by rw[←e];exact List.mem_append_right _ (List.mem_map_of_mem hp))
noncomputable def pB(x:Str)(R:Rl):List (Str×Rl)->List (Str×Rl)
 |[]=>[(x,R)]
 |p::r=>if p.1=x then(x,R)::r else p::pB x R r
theorem putR0{x:Str}{R:Rl}:pB x R []=[(x,R)]:=rfl
theorem putR1{x:Str}{R:Rl}{p:Str×Rl}{r:List (Str×Rl)}:pB x R (p::r)=if p.1=x then(x,R)::r else p::pB x R r:=rfl
theorem jT(x:Str)(v:Rl):∀(ρ:List (Str×Rl)) (y:Str),(pB x v ρ).lookup y=if y=x then some v else ρ.lookup y
 |[],y=>by
  rw[putR0]
  by_cases h:y=x
  · subst h;simp[List.lookup]
  · have:(y==x)=false:=by simpa using h
    simp[List.lookup,this,h]
 |p::r,y=>by
  obtain⟨k,z⟩:=p
  rw[putR1]
  by_cases h:k=x
  · subst h
    by_cases q:y=k
    · subst q;simp[List.lookup]
    · have:(y==k)=false:=by simpa using q
      simp[List.lookup,this,q]
  · simp only[h,if_false]
    by_cases q:y=k
    · subst q
      have h':¬y=x:=h
      simp[List.lookup,h']
    · have:(y==k)=false:=by simpa using q
      simp only[List.lookup,this]
      exact jT x v r y
noncomputable def aF.put(c:aF)(x:Str)(R:Rl):aF:={c with ρ:=pB x R c.ρ}
theorem LS.stored(h:LS w os0 c B s){x:Str}{R:Rl}{v:Value}(r:R.r B v){m:Str->Option Value}{h':Heap}(hm:jP B c.ρ m)(hn:h'.Ns c.L (fun y=>if y=x then some v else m y))(hs:Heap.SameBut c.L s.heap h'){t:Nat}:
 ∃ B',Sub B B'∧LS w os0 (c.put x R) B' {s with heap:=h',toks:=t}:=by
 have hk:∀ b o,b≠c.L->s.heap.get? b=some o->h'.get? b=some o:=fun b o hb e=>(hs.2 b hb).trans e
 refine⟨_,h.make (s':={s with heap:=h',toks:=t}) (c':=c.put x R) [c.L] (fun b o hb e=>hk b o (by simpa using hb) e) (fun b hb=>by rw[List.mem_singleton.mp hb];exact h.out _ (.head _)) h.out h.nd fun k=>
  ⟨⟨_,hn,fun y R' e=>?_⟩,fun p hp=>dg k (fun o e=>hk _ _ (h.LnotCl hp) e) (h.cells p hp),fun p hp=>(h.muts p hp).keeps k fun o e=>hk _ _ (h.H6 hp) e⟩⟩
 have e:(pB x R c.ρ).lookup y=some R':=e
 rw[jT]at e
 by_cases hy:y=x
 · rw[if_pos hy]at e
   cases e
   exact⟨v,by rw[if_pos hy],R.mono k r⟩
 · rw[if_neg hy]at e
   obtain⟨v',e1,e2⟩:=hm y R' e
   exact⟨v',by rw[if_neg hy];exact e1,R'.mono k e2⟩
theorem LS.turned(h:LS w os0 c B s){a:Addr}{m m':MO}{pre post:List (Addr×MO)}(hM:c.M=pre++(a,m)::post){h':Heap}{t:Nat}(hk:∀ b o,b≠a->s.heap.get? b=some o->h'.get? b=some o)
 (hr:Sub B (hideAll h' c.own)->m'.rel (hideAll h' c.own) h' a):∃ B',Sub B B'∧B'=hideAll h' c.own∧LS w os0 {c with M:=pre++(a,m')::post} B' {s with heap:=h',toks:=t}:=by
 have ho:aF.own {c with M:=pre++(a,m')::post}=c.own:=by simp[aF.own,hM]
 have hmem:(a,m)∈c.M:=by rw[hM];simp
 have hnd:=(List.nodup_cons.mp h.nd).2
 have hnd2:(c.M.map (·.1)).Nodup:=(List.nodup_append.mp hnd).2.1
 have key:=h.make (s':={s with heap:=h',toks:=t}) (c':={c with M:=pre++(a,m')::post}) [a] (fun b o hb e=>hk b o (by simpa using hb) e) (fun b hb=>by
  rw[List.mem_singleton.mp hb];exact h.out _ (.tail _ (List.mem_append_right _ (List.mem_map_of_mem (f:=(·.1)) hmem)))) (by rw[ho];exact h.out) (by rw[ho];exact h.nd) fun k=>?_
 · rw[ho]at key
   exact⟨_,key.1,rfl,key.2⟩
 · rw[ho]at k⊢
   refine⟨?_,fun p hp=>dg k (fun o e=>hk _ _ (fun z=>?_) e) (h.cells p hp),fun p hp=>?_⟩
   · refine gG fun P_ k_=>?_
     obtain⟨mm,hm,hl⟩:=h.fr
     obtain⟨o,es,n,e1,e2⟩:=hm
     refine k_ ?_
     exact⟨mm,⟨o,es,n,hk _ _ (fun z=>h.H6 hmem z.symm) e1,e2⟩,hl.mono k⟩
   · exact(List.nodup_append.mp hnd).2.2 _ (List.mem_map_of_mem (f:=fun x:Str×Addr×Option Rl=>x.2.1) hp) _ (List.mem_map_of_mem (f:=(·.1)) hmem) z
   · rw[hM,List.map_append,List.map_cons]at hnd2
     obtain⟨n1,n2,n3⟩:=List.nodup_append.mp hnd2
     have ne:∀ q,q∈pre++post->q.1≠a:=fun q hq z=>by
      rcases List.mem_append.mp hq with hq|hq
      · exact n3 _ (List.mem_map_of_mem (f:=(·.1)) hq) a (.head _) z
      · exact(List.nodup_cons.mp n2).1 (by rw[←z];exact List.mem_map_of_mem (f:=(·.1)) hq)
     have old:∀ q,q∈pre++post->q.2.rel (hideAll h' c.own) h' q.1:=fun q hq=>(h.muts q (by
      rw[hM]
      rcases List.mem_append.mp hq with hq|hq
      · exact List.mem_append_left _ hq
      · exact List.mem_append_right _ (.tail _ hq))).keeps k fun o e=>hk _ _ (ne q hq) e
     rcases List.mem_append.mp hp with hp|hp
     · exact old p (List.mem_append_left _ hp)
     · rcases List.mem_cons.mp hp with rfl|hp
       · exact hr k
       · exact old p (List.mem_append_right _ hp)
theorem LS.newM'(h:LS w os0 c B s){a:Addr}{m:MO}{h':Heap}{t:Nat}(hf:s.heap.get? a=none)(hk:Sub s.heap h')(hr:m.rel (hideAll h' (aF.own {c with M:=(a,m)::c.M})) h' a):
 Sub B (hideAll h' (aF.own {c with M:=(a,m)::c.M}))∧LS w os0 {c with M:=(a,m)::c.M} (hideAll h' (aF.own {c with M:=(a,m)::c.M})) {s with heap:=h',toks:=t}:=by
 have hnew:∀ b,b∈c.own->b≠a:=fun b hb=>h.ne hb hf
 have hown:∀ b,b∈aF.own {c with M:=(a,m)::c.M}->b=a∨b∈c.own:=fun b hb=>by
  simp only[aF.own,List.map_cons,List.mem_cons,List.mem_append]at hb⊢
  rcases hb with h|h|h|h<;>simp[h]
 refine h.make (s':={s with heap:=h',toks:=t}) (c':={c with M:=(a,m)::c.M}) [] (fun b o V e=>hk b o e) (fun V h=>by cases h) (fun b hb=>?_) ?_ fun k=>⟨?_,fun p hp=>dg k (fun o e=>hk _ _ e) (h.cells p hp),fun p hp=>?_⟩
 · rcases hown b hb with rfl|hb
   · exact h.noB hf
   · exact h.out b hb
 · obtain⟨n1,n2⟩:=List.nodup_cons.mp h.nd
   obtain⟨n3,n4,n5⟩:=List.nodup_append.mp n2
   have q1:c.L≠a:=hnew _ (.head _)
   refine List.nodup_cons.mpr ⟨fun hm=>?_,List.nodup_append.mpr ⟨n3,List.nodup_cons.mpr ⟨fun hm=>?_,n4⟩,fun x hx y hy=>?_⟩⟩
   · rcases List.mem_append.mp hm with hm|hm
     · exact n1 (List.mem_append_left _ hm)
     · rcases List.mem_cons.mp hm with e|hm
       · exact q1 e
       · exact n1 (List.mem_append_right _ hm)
   · exact hnew a (.tail _ (List.mem_append_right _ hm)) rfl
   · rcases List.mem_cons.mp hy with rfl|hy
     · exact hnew x (.tail _ (List.mem_append_left _ hx))
     · exact n5 x hx y hy
 · obtain⟨mm,hm,hl⟩:=h.fr
   exact⟨mm,hm.keeps hk,hl.mono k⟩
 · rcases List.mem_cons.mp hp with rfl|hp
   · exact hr
   · exact(h.muts p hp).keeps k fun o e=>hk _ _ e
theorem LS.w5(h:LS w os0 c B s){a:Addr}{m:MO}{h':Heap}{t:Nat}(hf:s.heap.get? a=none)(hk:Sub s.heap h')(hr:m.rel (hideAll h' (aF.own {c with M:=(a,m)::c.M})) h' a):
 ∃ B',Sub B B'∧LS w os0 {c with M:=(a,m)::c.M} B' {s with heap:=h',toks:=t}:=⟨_,h.newM' hf hk hr⟩
theorem LS.freeze(h:LS w os0 c B s){a:Addr}{m:MO}{pre post:List (Addr×MO)}(hM:c.M=pre++(a,m)::post):∃ B',Sub B B'∧LS w os0 {c with M:=pre++post} B' s∧∀ o,s.heap.get? a=some o->B'.get? a=some o:=by
 have hmem:(a,m)∈c.M:=by rw[hM];simp
 have hsub:∀ b,b∈aF.own {c with M:=pre++post}->b∈c.own:=fun b hb=>by
  simp only[aF.own,hM,List.map_append,List.map_cons,List.mem_cons,List.mem_append]at hb⊢
  rcases hb with h|h|h|h<;>simp[h]
 have hnd:(aF.own {c with M:=pre++post}).Nodup∧a∉aF.own {c with M:=pre++post}:=by
  have h0:=h.nd
  have e1:c.own.Perm (a::aF.own {c with M:=pre++post}):=by
   simp only[aF.own,hM,List.map_append,List.map_cons]
   have p1:(List.map (·.1) pre++a::List.map (·.1) post).Perm (a::(List.map (·.1) pre++List.map (·.1) post)):=List.perm_middle
   have p2:=(p1.append_left (c.cl.map (·.2.1))).cons c.L
   refine p2.trans ?_
   refine(List.Perm.cons _ List.perm_middle).trans (.swap _ _ _)
  have:=e1.nodup_iff.mp h0
  exact⟨(List.nodup_cons.mp this).2,(List.nodup_cons.mp this).1⟩
 obtain⟨k,S⟩:=h.make (s':=s) (c':={c with M:=pre++post}) [] (fun b o V e=>e) (fun V h=>by cases h) (fun b hb=>h.out b (hsub b hb)) hnd.1 fun k=>⟨by
  obtain⟨mm,hm,hl⟩:=h.fr
  exact⟨mm,hm,hl.mono k⟩,fun p hp=>dg k (fun o e=>e) (h.cells p hp),fun p hp=>(h.muts p (by
   rw[hM]
   rcases List.mem_append.mp hp with hp|hp
   · exact List.mem_append_left _ hp
   · exact List.mem_append_right _ (.tail _ hp))).keeps k fun o e=>e⟩
 exact⟨_,k,S,fun o e=>hideAll_get _ e hnd.2⟩
theorem LS.weak(h:LS w os0 c B s){ρ':List (Str×Rl)}(hρ:∀ m,jP B c.ρ m->jP B ρ' m):LS w os0 {c with ρ:=ρ'} B s:=
 ⟨h.ok,h.keep,let⟨m,hm,hl⟩:=h.fr;⟨m,hm,hρ m hl⟩,h.cells,h.muts,h.out,h.nd,h.os,h.bare⟩
end
structure JR{α:Type}(pr:Program)(w:World)(d u:Nat)(c:aF)(t:Sem α)(R:Heap->α->Prop)(c':aF):Prop where
 run:∀{os0:OsState} B s,LS w os0 c B s->∀ Q:α->Shared->Prop,(∀ B' s' y,Sub B B'->LS w os0 c' B' s'->R B' y->Q y s')->wpAny (model pr w) (Ar d u) t Q bf s
noncomputable abbrev RV(pr:Program)(w:World)(d u:Nat)(c:aF)(t:Sem Value)(R:Rl):Prop:=JR pr w d u c t R.r c
noncomputable abbrev aQ(pr:Program)(w:World)(d u:Nat)(c:aF)(t:Sem (List Value))(Rs:List Rl):Prop:=JR pr w d u c t (fun h vs=>bx h vs Rs) c
noncomputable abbrev RB(pr:Program)(w:World)(d u:Nat)(c:aF)(t:Sem Bool)(b:Bool):Prop:=JR pr w d u c t (fun V y=>y=b) c
inductive FL where
 |next|ret (R:Rl)
noncomputable def FL.rel(B:Heap):FL->Flow->Prop
 |.next,f=>f=.next
 |.ret R,f=>∃ v,f=.ret v∧R.r B v
noncomputable abbrev XR(pr:Program)(w:World)(d u:Nat)(c:aF)(t:Sem Flow)(f:FL)(c':aF):Prop:=JR pr w d u c t (fun h y=>f.rel h y) c'
section
variable{pr:Program}{w:World}{os0:OsState}{d u:Nat}{c cA cB:aF}{α:Type}
theorem JR.go{t:Sem α}{R:Heap->α->Prop}(h:JR pr w d u c t R cA){B:Heap}{s:Shared}(S:LS w os0 c B s){Q:α->Shared->Prop}(k:∀ B' s' y,Sub B B'->LS w os0 cA B' s'->R B' y->Q y s'):wpAny (model pr w) (Ar d u) t Q bf s:=h.run B s S Q k
theorem XR.nil{env:Env}:XR pr w d u c (execs [] env) .next c:=.mk fun B s S Q hQ=>wpAny_execs_nil (hQ B s _ (Sub.refl B) S rfl)
theorem XR.cons{env:Env}{st:Stmt}{rest:List Stmt}{f:FL}(h1:XR pr w d u c (exec st env) .next cA)(h2:XR pr w d u cA (execs rest env) f cB):XR pr w d u c (execs (st::rest) env) f cB:=.mk fun B s S Q hQ=>
 wpAny_execs_cons (h1.go S fun B1 sE x kE S1 rA=>by
  cases rA
  exact h2.go S1 fun B2 sG y kI S2 rB=>hQ B2 sG y (kE.trans kI) S2 rB)
end
structure cO(env:Env)(L:Addr):Prop where
 hk:env.scope.kind=.function
 hL:env.locals=L
 hg:env.globals=3
 hb:env.builtins=0
section
variable{pr:Program}{w:World}{os0:OsState}{d u:Nat}{c cA cB:aF}{α:Type}{env:Env}{pos:Pos}
theorem RV.l(E:cO env c.L){x:Str}{p:Pos}{R:Rl}(hx:env.kindOf x=some .local)(hρ:c.ρ.lookup x=some R)(hd:(x==("__debug__":Str))=false):RV pr w d u c (eval (.Name x p) env) R:=.mk fun B s S Q hQ=>by
 refine gG fun P_ k_=>?_
 obtain⟨m,hm,hl⟩:=S.fr
 obtain⟨v,e,r⟩:=hl x R hρ
 refine k_ ?_
 rw[←E.hL]at hm
 exact wpAny_Name (wpAny_loadName_local E.hk hx hm e (hQ B s v (Sub.refl B) S r)) hd
theorem RV.cell(E:cO env c.L){x:Str}{p:Pos}{R:Rl}{a:Addr}(hx:env.kindOf x=some .cell)(hc:env.cells.lookup x=some a)(hm:(x,a,some R)∈c.cl)(hd:(x==("__debug__":Str))=false):RV pr w d u c (eval (.Name x p) env) R:=.mk fun B s S Q hQ=>by
 obtain⟨v,h1,r⟩:=S.cells _ hm
 exact wpAny_Name (wpAny_loadName_cell E.hk hx hc h1 (hQ B s v (Sub.refl B) S r)) hd
theorem RV.global(E:cO env c.L){x:Str}{p:Pos}{v:Value}(hv:nsIn (KK w.params) 3 x=some (some v))(hx:env.kindOf x=some .globalImplicit)(hd:(x==("__debug__":Str))=false):RV pr w d u c (eval (.Name x p) env) (Rl.val v):=.mk fun B s S Q hQ=>by
 refine gG fun P_ k_=>?_
 obtain⟨c',dd,es,n,sl,h1,h2⟩:=rI w.params
 refine k_ ?_
 refine Calls.Name_function_global E.hk hx (Calls.loadGlobal_global (by rw[E.hg];exact pF (S.keep _ _ (S.ok.aZ _ _ h1)) (gQ h2)) (gH h1 hv) (hQ B s v (Sub.refl B) S rfl)) hd
theorem RV.builtin(E:cO env c.L){x:Str}{p:Pos}{v:Value}(hv:nsIn (KK w.params) 3 x=some none)(hb:nsIn (KK w.params) 0 x=some (some v))(hx:env.kindOf x=some .globalImplicit)(hd:(x==("__debug__":Str))=false):RV pr w d u c (eval (.Name x p) env) (Rl.val v):=.mk fun B s S Q hQ=>by
 refine gG fun P_ k_=>?_
 obtain⟨c',dd,es,n,sl,h1,h2⟩:=rI w.params
 obtain⟨c'',dd',es',n',sl',h1',h2'⟩:=glob0 w.params
 refine k_ ?_
 refine Calls.Name_function_global E.hk hx (Calls.loadGlobal_builtin (by rw[E.hg];exact pF (S.keep _ _ (S.ok.aZ _ _ h1)) (gQ h2)) (gH h1 hv) (by rw[E.hb];exact pF (S.keep _ _ (S.ok.aZ _ _ h1')) (gQ h2')) (gH h1' hb) (hQ B s v (Sub.refl B) S rfl)) hd
theorem RV.int{i:Int}{k:Nat}:RV pr w d u c (eval (.Constant (.int i) k pos) env) (Rl.int i):=.mk fun B s S Q hQ=>
 wpAny_Constant_int (hQ B _ _ (Sub.refl B) (S.same rfl) ⟨_,rfl⟩)
theorem RV.str{x:Str}{k:Nat}:RV pr w d u c (eval (.Constant (.str x) k pos) env) (Rl.str x):=.mk fun B s S Q hQ=>
 Calls.Constant_str (hQ B _ _ (Sub.refl B) (S.same rfl) ⟨_,rfl⟩)
structure J2{β:Type}(pr:Program)(w:World)(d u:Nat)(c:aF)(f:Value->Value->Sem β)(R1 R2:Rl)(R:Heap->β->Prop)(c':aF):Prop where
 run:∀{os0:OsState} B s x y,LS w os0 c B s->R1.r B x->R2.r B y->∀ Q:β->Shared->Prop,(∀ B' s' z,Sub B B'->LS w os0 c' B' s'->R B' z->Q z s')->wpAny (model pr w) (Ar d u) (f x y) Q bf s
structure J1{β:Type}(pr:Program)(w:World)(d u:Nat)(c:aF)(f:Value->Sem β)(R1:Rl)(R:Heap->β->Prop)(c':aF):Prop where
 run:∀{os0:OsState} B s x,LS w os0 c B s->R1.r B x->∀ Q:β->Shared->Prop,(∀ B' s' z,Sub B B'->LS w os0 c' B' s'->R B' z->Q z s')->wpAny (model pr w) (Ar d u) (f x) Q bf s
theorem RV.b{l r:Expr}{op:Operator}{R1 R2 R:Rl}(h1:RV pr w d u c (eval l env) R1)(h2:RV pr w d u c (eval r env) R2)(h3:J2 pr w d u c (binaryOp op) R1 R2 R.r c):RV pr w d u c (eval (.BinOp l op r pos) env) R:=.mk fun B s S Q hQ=>
 wpAny_BinOp (h1.go S fun B1 sE x kE S1 rA=>h2.go S1 fun B2 sG y kI S2 rB=>h3.run B2 sG x y S2 (R1.mono kI rA) rB Q fun B3 sI z kJ S3 rC=>hQ B3 sI z ((kE.trans kI).trans kJ) S3 rC)
theorem RV.compare{l r:Expr}{op:CmpOp}{R1 R2 R:Rl}(h1:RV pr w d u c (eval l env) R1)(h2:RV pr w d u c (eval r env) R2)(h3:J2 pr w d u c (compareOp op) R1 R2 R.r c)(hb:behindInMarks op r=false:=by rfl):RV pr w d u c (eval (.Compare l [op] [r] pos) env) R:=.mk fun B s S Q hQ=>
 wpAny_Compare1 (hm:=hb) (h1.go S fun B1 sE x kE S1 rA=>h2.go S1 fun B2 sG y kI S2 rB=>h3.run B2 sG x y S2 (R1.mono kI rA) rB Q fun B3 sI z kJ S3 rC=>hQ B3 sI z ((kE.trans kI).trans kJ) S3 rC)
theorem J2.add{a b:Int}:J2 pr w d u c (binaryOp .Add) (Rl.int a) (Rl.int b) (Rl.int (a+b)).r c:=.mk fun B s x y S ⟨t,hx⟩ ⟨k,hy⟩ Q hQ=>by
 subst hx hy;exact add_int (hQ B _ _ (Sub.refl _) (S.same rfl) ⟨_,rfl⟩)
theorem J2.iadd{a b:Int}:J2 pr w d u c (inplaceOp .Add) (Rl.int a) (Rl.int b) (Rl.int (a+b)).r c:=.mk fun B s x y S ⟨t,hx⟩ ⟨k,hy⟩ Q hQ=>by
 subst hx hy;exact iadd_int (hQ B _ _ (Sub.refl _) (S.same rfl) ⟨_,rfl⟩)
theorem J2.sub{a b:Int}:J2 pr w d u c (binaryOp .Sub) (Rl.int a) (Rl.int b) (Rl.int (a - b)).r c:=.mk fun B s x y S ⟨t,hx⟩ ⟨k,hy⟩ Q hQ=>by
 subst hx hy;exact sub_int (hQ B _ _ (Sub.refl _) (S.same rfl) ⟨_,rfl⟩)
theorem J2.mod{a b:Int}(hb:b≠0):J2 pr w d u c (binaryOp .Mod) (Rl.int a) (Rl.int b) (Rl.int (a.fmod b)).r c:=.mk fun B s x y S ⟨t,hx⟩ ⟨k,hy⟩ Q hQ=>by
 subst hx hy;exact mod_int' hb (hQ B _ _ (Sub.refl _) (S.same rfl) ⟨_,rfl⟩)
theorem J2.div{a b:Int}(hb:b≠0)(hp:Builtin.divisionGoesByPylong a b=false):J2 pr w d u c (binaryOp .FloorDiv) (Rl.int a) (Rl.int b) (Rl.int (a.fdiv b)).r c:=.mk fun B s x y S ⟨t,hx⟩ ⟨k,hy⟩ Q hQ=>by
 subst hx hy;exact floordiv_int hb (hQ B _ _ (Sub.refl _) (S.same rfl) ⟨_,rfl⟩) (Or.inl hp)
theorem J2.mul{a b:Int}(hm:IntMulOk a b):J2 pr w d u c (binaryOp .Mult) (Rl.int a) (Rl.int b) (Rl.int (a *b)).r c:=.mk fun B s x y S ⟨t,hx⟩ ⟨k,hy⟩ Q hQ=>by
 subst hx hy;exact mul_int (hQ B _ _ (Sub.refl _) (S.same rfl) ⟨_,rfl⟩) hm
theorem LS.list1{B:Heap}{s:Shared}(S:LS w os0 c B s){Rs:List Rl}{vs:List Value}(r:bx B vs Rs){ob:Obj}(ho:ob=bK vs 0){Q:Value->Shared->Prop}(hQ:∀ B' s' z,Sub B B'->LS w os0 c B' s'->(Rl.list Rs).r B' z->Q z s'):
 Q (.ref s.heap.objs.size) {s with heap:=s.heap.push ob}:=by
 obtain⟨k,S'⟩:=S.grow (s':={s with heap:=s.heap.push ob}) fun b o e=>Heap.get?_push_of_some _ e
 refine hQ _ _ _ k S' ⟨_,vs,0,rfl,?_,r.mono k⟩
 subst ho
 exact S.inB (s':={s with heap:=s.heap.push (bK vs 0)}) (fun b o e=>Heap.get?_push_of_some _ e) (Heap.get?_push_size _ rfl) (.inr (Heap.get?_none_of_le (Nat.le_refl _)))
theorem cJ{h:Heap}{l:Addr}{vs:List Value}{n:Nat}(g:h.get? l=some (bK vs n)):h.IsList l vs.toArray:=⟨_,g,rfl,n,rfl⟩
theorem J2.cat{Rs Ss:List Rl}(hz:Rs.length+Ss.length≤sizeLine):J2 pr w d u c (binaryOp .Add) (Rl.list Rs) (Rl.list Ss) (Rl.list (Rs++Ss)).r c:=.mk fun B s x y S ⟨l,vs,n,e1,g1,a1⟩ ⟨l',ws,n',e2,g2,a2⟩ Q hQ=>by
 subst e1 e2
 exact Ju (cJ (S.keep _ _ g1)) (cJ (S.keep _ _ g2)) (by rw[a1.len,a2.len];exact hz) (S.list1 (a1.append a2) rfl hQ)
theorem aQ.nil:aQ pr w d u c (spliced (backTo pos (starEach [] env))) []:=.mk fun B s S Q hQ=>Calls.spliced_nil (hQ B s _ (Sub.refl _) S .nil)
theorem aQ.cons{e:Expr}{rest:List Expr}{R:Rl}{Rs:List Rl}(h:RV pr w d u c (eval e env) R)(h2:aQ pr w d u c (spliced (backTo pos (starEach rest env))) Rs)
 (he:backTo pos (starEach (e::rest) env)=(false,eval e env)::backTo pos (starEach rest env)):aQ pr w d u c (spliced (backTo pos (starEach (e::rest) env))) (R::Rs):=.mk fun B s S Q hQ=>by
 rw[he,spliced]
 refine wpAny_bind (h.go S fun B1 sE x kE S1 rA=>?_)
 refine wpAny_bind (wpAny_pure ?_)
 exact wpAny_bind (wpAny_holding (h2.go S1 fun B2 sG y kI S2 rB=>wpAny_pure (hQ B2 sG _ (kE.trans kI) S2 (.cons (R.mono kI rA) rB))))
theorem RV.list{elts:List Expr}{Rs:List Rl}(h:aQ pr w d u c (spliced (backTo pos (starEach elts env))) Rs)(hz:Rs.length≤sizeLine):RV pr w d u c (eval (.List elts pos) env) (Rl.list Rs):=.mk fun B s S Q hQ=>
 wpAny_List (h.go S fun B1 sE vs kE S1 rA=>⟨by rw[rA.len];exact hz,S1.list1 rA rfl fun B' s' z k S' r=>hQ B' s' z (kE.trans k) S' r⟩)
theorem LS.tup1{B:Heap}{s:Shared}(S:LS w os0 c B s){Rs:List Rl}{vs:List Value}(r:bx B vs Rs){Q:Value->Shared->Prop}(hQ:∀ B' s' z,Sub B B'->LS w os0 c B' s'->(Rl.tup Rs).r B' z->Q z s'):
 Q (.ref s.heap.objs.size) {s with heap:=s.heap.push {cls:=.type "tuple",data:=.seq vs.toArray}}:=by
 obtain⟨k,S'⟩:=S.grow (s':={s with heap:=s.heap.push {cls:=.type "tuple",data:=.seq vs.toArray}}) fun b o e=>Heap.get?_push_of_some _ e
 refine hQ _ _ _ k S' ⟨s.heap.objs.size,vs,rfl,⟨{cls:=.type "tuple",data:=.seq vs.toArray},?_,rfl,0,rfl⟩,r.mono k⟩
 exact S.inB (s':={s with heap:=s.heap.push _}) (fun b o e=>Heap.get?_push_of_some _ e) (Heap.get?_push_size _ rfl) (.inr (Heap.get?_none_of_le (Nat.le_refl _)))
theorem RV.tup{elts:List Expr}{k:Nat}{Rs:List Rl}(h:aQ pr w d u c (spliced (backTo pos (starEach elts env))) Rs)(hz:Rs.length≤sizeLine):RV pr w d u c (eval (.Tuple elts k pos) env) (Rl.tup Rs):=.mk fun B s S Q hQ=>
 wpAny_Tuple (h.go S fun B1 sE vs kE S1 rA=>⟨by rw[rA.len];exact hz,S1.tup1 rA fun B' s' z k S' r=>hQ B' s' z (kE.trans k) S' r⟩)
theorem XR.assign(E:cO env c.L){x:Str}{p:Pos}{value:Expr}{R:Rl}(hx:env.kindOf x=some .local)(h:RV pr w d u c (eval value env) R)(hs:swapsWith value (some (.Name x p)) pos.line env=pure false):
 XR pr w d u c (exec (.Assign [.Name x p] value pos) env) .next (c.put x R):=.mk fun B s S Q hQ=>
 wpAny_Assign_Name (h.go S fun B1 sE y kE S1 rA=>by
  obtain⟨m,hm,hl⟩:=S1.fr
  have hm':sE.heap.Ns env.locals m:=by rw[E.hL];exact hm
  refine wpAny_storeName_local hx hm' (fun h' hn hsb=>?_) (by rw[E.hk];rfl)
  rw[E.hL]at hn hsb
  obtain⟨B2,kI,S2⟩:=S1.stored (t:=sE.toks+1) rA hl hn hsb
  exact hQ B2 _ _ (kE.trans kI) S2 rfl) hs
theorem RK.nil:aQ pr w d u c (evalAll ((backToKw pos (keywordEach [] env)).map (·.2))) []:=.mk fun B s S Q hQ=>wpAny_evalAll_nil (hQ B s _ (Sub.refl B) S .nil)
theorem RK.cons{name:Option Str}{value:Expr}{p:Pos}{rest:List Keyword}{R:Rl}{Rs:List Rl}(h:RV pr w d u c (eval value env) R)(h2:aQ pr w d u c (evalAll ((backToKw pos (keywordEach rest env)).map (·.2))) Rs)
 (he:(backToKw pos (keywordEach (⟨name,value,p⟩::rest) env)).map (·.2)=(do let v←eval value env;standAt pos;pure v)::(backToKw pos (keywordEach rest env)).map (·.2)):aQ pr w d u c (evalAll ((backToKw pos (keywordEach (⟨name,value,p⟩::rest) env)).map (·.2))) (R::Rs):=.mk fun B s S Q hQ=>by
 rw[he]
 exact wpAny_evalAll_cons (wpAny_bind (h.go S fun B1 sE x kE S1 rA=>wpAny_bind (wpAny_standAt (wpAny_pure (h2.go S1 fun B2 sG y kI S2 rB=>hQ B2 sG _ (kE.trans kI) S2 (.cons (R.mono kI rA) rB))))))
structure RC(pr:Program)(w:World)(d u:Nat)(c:aF)(f:Value)(first:List Rl)(as:List Rl)(ns:List Str)(ks:List Rl)(R:Heap->Value->Prop)(c':aF):Prop where
 run:∀{os0:OsState} B s fs vs kvs,LS w os0 c B s->bx B fs first->bx B vs as->bx B kvs ks->∀ Q:Value->Shared->Prop,(∀ B' s' y,Sub B B'->LS w os0 c' B' s'->R B' y->Q y s')->wpAny (model pr w) (Ar d u) (PySem.call f (fs++vs) (ns.zip kvs)) Q bf s
theorem RC.with{f:Value}{fs:List Value}{first:List Rl}{args:List (Bool×Sem Value)}{keywords:List (Option Str×Sem Value)}{as ks:List Rl}{ns:List Str}{R:Heap->Value->Prop}{B:Heap}{s:Shared}(S:LS w os0 c B s)(hf:bx B fs first)(hk:cu (KK w.params) f=true)
 (ha:aQ pr w d u c (spliced args) as) (hkw:aQ pr w d u c (evalAll (keywords.map (·.2))) ks) (hn:keywords.filterMap (·.1)=ns)
 (h:RC pr w d u c f first as ns ks R cA) (hst:args.any (·.1)=false) (hall:keywords.all (·.1.isSome)=true) (hnone:keywords.any (·.1.isNone)=false)
 {Q:Value->Shared->Prop} (hQ:∀ B' s' y,Sub B B'->LS w os0 cA B' s'->R B' y->Q y s'):wpAny (model pr w) (Ar d u) (callWith pos f fs args keywords) Q bf s:=by
 refine callWith_of (P:=(KK w.params).In) (by rw[hst,hnone];rfl) (lO hk) (c7 hst hall (ha.go S fun B1 sE vs kE S1 rA=>hkw.go S1 fun B2 sG kvs kI S2 rB=>⟨fun a o e=>S2.keep _ _ (S2.ok.aZ _ _ e),?_⟩))
 rw[hn]
 exact h.run B2 sG fs vs kvs S2 (hf.mono (kE.trans kI)) (rA.mono kI) rB Q fun B3 sI y kJ S3 rC=>hQ B3 sI y ((kE.trans kI).trans kJ) S3 rC
theorem RV.callName{id:Str}{p:Pos}{args:List Expr}{kws:List Keyword}{f:Value}{as ks:List Rl}{ns:List Str}{R:Heap->Value->Prop}(h1:RV pr w d u c (eval (.Name id p) env) (Rl.val f))(hk:cu (KK w.params) f=true)
 (ha:aQ pr w d u c (spliced (backTo pos (starEach args env))) as) (hkw:aQ pr w d u c (evalAll ((backToKw pos (keywordEach kws env)).map (·.2))) ks) (h:RC pr w d u c f [] as ns ks R cA)
 (hn:(backToKw pos (keywordEach kws env)).filterMap (·.1)=ns) (hst:(backTo pos (starEach args env)).any (·.1)=false) (hall:(backToKw pos (keywordEach kws env)).all (·.1.isSome)=true) (hnone:(backToKw pos (keywordEach kws env)).any (·.1.isNone)=false):
 JR pr w d u c (eval (.Call (.Name id p) args kws pos) env) R cA:=.mk fun B s S Q hQ=>
 wpAny_Call_Name_kw (h1.go S fun B1 sE x kE S1 rA=>by
  cases rA
  exact h.with S1 .nil hk ha hkw hn hst hall hnone fun B' s' y k S' r=>hQ B' s' y (kE.trans k) S' r)
theorem RV.sub{value slice:Expr}{R1 R2 R:Rl}(h1:RV pr w d u c (eval value env) R1)(h2:RV pr w d u c (eval slice env) R2)(h3:J2 pr w d u c (fun o i=>getItem o i) R1 R2 R.r c)
 (hT:∀{os0:OsState} B s v,LS w os0 c B s->R1.r B v->∃ T id,typeLookup (.type T) "__getitem__"=pure (some (.builtin id))∧s.TypeIs v T) (hs:∀ o i,subscripted slice false o i=operate [o,i] (getItem o i)):RV pr w d u c (eval (.Subscript value slice pos) env) R:=.mk fun B s S Q hQ=>by
 rw[eval_Subscript]
 refine wpAny_bind (h1.go S fun B1 sE o kE S1 rA=>wpAny_bind (wpAny_holding (h2.go S1 fun B2 sG i kI S2 rB=>wpAny_bind (wpAny_standAt ?_))))
 obtain⟨T,id,hl,ht⟩:=hT B2 sG o S2 (R1.mono kI rA)
 refine wpAny_bind ?_
 rw[getitemInPython_of_ne ht.not_modules]
 refine wpAny_bind (wpAny_specialOf ht hl ?_)
 show wpAny _ _ (pure false) _ _ _
 refine wpAny_pure ?_
 rw[hs]
 refine wpAny_bind (wpAny_operating (h3.run B2 sG o i S2 (R1.mono kI rA) rB _ fun B3 sI z kJ S3 rC=>?_))
 exact wpAny_bind (wpAny_letTemporaryGo (wpAny_pure (hQ B3 sI z ((kE.trans kI).trans kJ) S3 rC)))
theorem J2.item{Rs:List Rl}{i:Int}{R:Rl}(h0:0≤i)(h1:i<2^63)(hR:Rs[i.toNat]? =some R):J2 pr w d u c (fun o i=>getItem o i) (Rl.list Rs) (Rl.int i) R.r c:=.mk fun B s x y S ⟨l,vs,n,e1,g1,a1⟩ ⟨t,hy⟩ Q hQ=>by
 subst e1 hy
 obtain⟨v,e,r⟩:=a1.get hR
 exact wpAny_getItem_list (cJ (S.keep _ _ g1)) h0 h1 (by simpa using e) (hQ B s v (Sub.refl B) S r)
theorem wB{Rs:List Rl}:∀{os0:OsState} B s v,LS w os0 c B s->(Rl.list Rs).r B v->∃ T id,typeLookup (.type T) "__getitem__"=pure (some (.builtin id))∧s.TypeIs v T:=fun B s v S ⟨l,vs,n,e1,g1,a1⟩=>by
 subst e1
 exact⟨"list","list.__getitem__",slot_list_getitem.lookup,_,S.keep _ _ g1,rfl⟩
end
section
variable{pr:Program}{w:World}{os0:OsState}{d u:Nat}{c cA cB:aF}{α:Type}{env:Env}{pos:Pos}{B B':Heap}{s s':Shared}
noncomputable def bh(ρ ρ':List (Str×Rl)):Prop:=∀ x R,ρ'.lookup x=some R->ρ.lookup x=some R
theorem XR.weakρ{t:Sem Flow}{f:FL}{ρ':List (Str×Rl)}(h:XR pr w d u c t f cA)(hρ:bh cA.ρ ρ'):XR pr w d u c t f {cA with ρ:=ρ'}:=.mk fun B s S Q hQ=>h.go S fun B' s' y k S' r=>hQ B' s' y k (S'.weak fun m hl x R e=>hl x R (hρ x R e)) r
theorem XR.ctx{t:Sem Flow}{f:FL}(h:XR pr w d u c t f cA)(e:cA=cB):XR pr w d u c t f cB:=e▸h
theorem XR.pre{t:Sem Flow}{f:FL}(h:XR pr w d u c t f cA)(e:c=cB):XR pr w d u cB t f cA:=e▸h
theorem LS.beside(S:LS w os0 c B s){C:Addr}(hC:C∉c.own)(hB:B.get? C=none)(hk:∀ b o,b≠C->s.heap.get? b=some o->s'.heap.get? b=some o)(q:Qs s s':=by exact⟨rfl,rfl⟩):LS w os0 c B s':=by
 have ne:∀{a},a∈c.own->a≠C:=fun ha z=>hC (z▸ha)
 refine⟨S.ok,fun b o e=>hk _ _ (fun z=>by rw[z,hB]at e;cases e) (S.keep b o e),?_,fun p hp=>dg (Sub.refl B) (fun o e=>hk _ _ (ne ?_) e) (S.cells p hp),fun p hp=>(S.muts p hp).keeps (Sub.refl B) fun o e=>hk _ _ (ne ?_) e,S.out,S.nd,q.1.trans S.os,q.2.trans S.bare⟩
 · refine gG fun P_ k_=>?_
   obtain⟨m,⟨o,es,n,e1,e2⟩,hl⟩:=S.fr
   refine k_ ?_
   exact⟨m,⟨o,es,n,hk _ _ (ne (.head _)) e1,e2⟩,hl⟩
 · exact .tail _ (List.mem_append_left _ (List.mem_map_of_mem (f:=fun x:Str×Addr×Option Rl=>x.2.1) hp))
 · exact .tail _ (List.mem_append_right _ (List.mem_map_of_mem (f:=(·.1)) hp))
theorem LS.yS(S:LS w os0 c B s){a:Addr}{m:MO}{pre post:List (Addr×MO)}(hM:c.M=pre++(a,m)::post)(hk:∀ b o,b≠a->s.heap.get? b=some o->s'.heap.get? b=some o)(q:Qs s s':=by exact⟨rfl,rfl⟩):LS w os0 {c with M:=pre++post} B s':=by
 have hp:c.own.Perm (a::aF.own {c with M:=pre++post}):=by
  simp only[aF.own,hM,List.map_append,List.map_cons]
  have p1:(List.map (·.1) pre++a::List.map (·.1) post).Perm (a::(List.map (·.1) pre++List.map (·.1) post)):=List.perm_middle
  refine((p1.append_left (c.cl.map (·.2.1))).cons c.L).trans ?_
  exact(List.Perm.cons _ List.perm_middle).trans (.swap _ _ _)
 have nd:=List.nodup_cons.mp (hp.nodup_iff.mp S.nd)
 have S1:LS w os0 {c with M:=pre++post} B s:=⟨S.ok,S.keep,S.fr,S.cells,fun p hp=>S.muts p (by
  rw[hM]
  rcases List.mem_append.mp hp with hp|hp
  · exact List.mem_append_left _ hp
  · exact List.mem_append_right _ (.tail _ hp)),fun b hb=>S.out b (hp.mem_iff.mpr (.tail _ hb)),nd.2,S.os,S.bare⟩
 exact S1.beside nd.1 (S.out a (hp.mem_iff.mpr (.head _))) hk q
noncomputable def aF.with(c:aF)(it:Addr)(P:Obj->Prop):aF:={c with M:=(it,.raw P)::c.M}
theorem XR.rJ(E:cO env c.L){x:Str}{px:Pos}{iter:Expr}{body:List Stmt}{Rs:List Rl}(I:Nat->aF)(hx:env.kindOf x=some .local)(h:RV pr w d u c (eval iter env) (Rl.list Rs))(h0:I 0=c)(hL:∀ i,(I i).L=c.L)
 (turn:∀ i R,Rs[i]? =some R->∀ it P,XR pr w d u (((I i).with it P).put x R) (execs body env) .next ((I (i+1)).with it P)) (hs:∀ x,foldedSetIterable iter env x=pure x) (ht:∀ it v,letOwnedTupleGo (.Name x px) it v=pure ()):
 XR pr w d u c (exec (.For (.Name x px) iter body [] pos) env) .next (I Rs.length):=.mk<|@fun os0 B s S Q hQ=>by
 refine wpAny_For (h.go S fun B1 sE y kE S1 rA=>?_) hs
 refine gG fun P_ k_=>?_
 obtain⟨l,vs,n,rfl,gA,aA⟩:=rA
 refine k_ ?_
 refine wpAny_pyIter_list (cJ (S1.keep _ _ gA)) ?_
 obtain⟨B2,kI,S2⟩:=S1.w5 (a:=sE.heap.objs.size) (m:=.raw (cL l 0)) (h':=sE.heap.push {cls:=.type "list_iterator",data:=.fields #[.ref l,.int 0 0]}) (t:=sE.toks) (Heap.get?_none_of_le (Nat.le_refl _)) (fun b o e=>Heap.get?_push_of_some _ e) ⟨_,Heap.get?_push_size _ rfl,rfl,rfl⟩
 generalize sE.heap.objs.size=it at S2⊢
 have S2':LS w os0 ((I 0).with it (cL l 0)) B2 {sE with heap:=sE.heap.push {cls:=.type "list_iterator",data:=.fields #[.ref l,.int 0 0]}}:=by rw[h0];exact S2
 refine codeAny_forLoop (fun k s'=>∃ i B',k=Rs.length - i∧i≤Rs.length∧Sub B1 B'∧LS w os0 ((I i).with it (cL l i)) B' s') (fun k s' hJ=>?_) Rs.length ⟨0,B2,rfl,Nat.zero_le _,kI,S2'⟩ (fun v=>ht _ v)
 refine x24 hJ fun i B' ek hi kk S'=>?_
 subst ek
 refine lR fun G hG=>?_
 obtain⟨o,go,ho,hd⟩:=S'.muts _ (.head _)
 have gl:=S'.keep _ _ (kk _ _ gA)
 rcases Nat.lt_or_ge i Rs.length with hlt|hge
 · obtain⟨v,ev,rv⟩:=aA.get (i:=i) (R:=Rs[i]) (by simp)
   refine wpAny_pyNext_list_item ⟨o,go,ho,hd⟩ (cJ gl) (x:=v) (by simpa using ev) fun h' hit' hsb=>hG _ _ (lR fun G1 hGA=>?_)
   obtain⟨B3,kJ,V,S3⟩:=S'.turned (pre:=[]) (m':=.raw (cL l (i+1))) (t:=s'.toks) rfl (fun b o hb e=>(hsb.2 b hb).trans e) fun V=>hit'
   refine wpAny_assign_Name ?_
   obtain⟨m,hm,hl⟩:=S3.fr
   have eL:c.L=((I i).with it (cL l (i+1))).L:=(hL i).symm
   have hm':h'.Ns env.locals m:=by rw[E.hL,eL];exact hm
   refine wpAny_storeName_local hx hm' (fun h₄ hn hsb4=>?_) (by rw[E.hk];rfl)
   rw[E.hL,eL]at hn hsb4
   obtain⟨B4,kW,S4⟩:=LS.stored (t:=s'.toks+1) S3 (x:=x) (R:=Rs[i]) (Rs[i].mono (kk.trans kJ) rv) hl hn hsb4
   refine hGA _ _ (cY ((turn i Rs[i] (by simp) it (cL l (i+1))).go S4 fun B5 s5 f k5 S5 rf=>?_))
   cases rf
   exact⟨Rs.length - (i+1),by exact o5 hlt,i+1,B5,rfl,hlt,((kk.trans kJ).trans kW).trans k5,S5⟩
 · have e:i=Rs.length:=by exact o126 hi hge
   subst e
   refine wpAny_pyNext_list_end rfl ⟨o,go,ho,hd⟩ (cJ gl) (by simp[aA.len]) fun h' he=>?_
   exact hG _ _ (wpAny_execs_nil (hQ B' _ _ (kE.trans kk) (LS.yS S' (s':={s' with heap:=h'}) (pre:=[]) (post:=(I Rs.length).M) rfl he) rfl))
end
theorem CX(P:Params):nsIn (KK P) 3 ("__builtins__":Str)=some (some (.ref 4)):=by rfl
theorem mod4(P:Params):(PySem.W.boot_o_4 P).cls=.type "module"∧(PySem.W.boot_o_4 P).dict=some builtinsNs∧(PySem.W.boot_o_4 P).data=.plain:=⟨rfl,rfl,rfl⟩
noncomputable def yV(qual:Str)(params:Arguments)(body:Expr)(scope:Scope)(B:Heap)(v:Value):Prop:=
 ∃ f c' ctv pm,v=.ref f∧B.get? f=some (kla_obj "<lambda>" qual params body scope [] pm c' ctv)∧B.CodeRec (.ref c') qual
noncomputable def Rl.lam(qual:Str)(params:Arguments)(body:Expr)(scope:Scope):Rl:=⟨yV qual params body scope,fun k=>Exists.imp fun V=>Exists.imp fun V=>Exists.imp fun V=>Exists.imp fun V h=>⟨h.1,k _ _ h.2.1,h.2.2.keeps k⟩⟩
section
variable{pr:Program}{w:World}{os0:OsState}{d u:Nat}{c cA cB:aF}{α:Type}{env:Env}{pos:Pos}
theorem LS.nsG{B:Heap}{s:Shared}(S:LS w os0 c B s):∃ mg,s.heap.Ns mainGlobals mg∧∀ x v,nsIn (KK w.params) 3 x=some v->mg x=v:=by
 refine gG fun P_ k_=>?_
 obtain⟨c',dd,es,n,sl,h1,h2⟩:=rI w.params
 refine k_ ?_
 exact⟨_,pF (S.keep _ _ (S.ok.aZ _ _ h1)) (gQ h2),fun x v e=>gH h1 e⟩
theorem RV.lambda{params:Arguments}{body:Expr}{scope:Scope}{ca P:Addr}{A0:Array Value}{pre post:List (Addr×MO)}(E:cO env c.L)(hdef:defaultsOf params env=([],[]))(hcl:closureFor scope env=pure [])(hcode:env.code=.ref ca)
 (hca:∀ h,(KK w.params).In h->CodeHd h ca P) (hP:c.M=pre++(P,.tab pos (env.qual++"<lambda>") A0)::post) (hP0:P≠0∧P≠3∧P≠4):RV pr w d u c (eval (.Lambda params body scope pos) env) (Rl.lam (env.qual++"<lambda>") params body scope):=.mk fun B s S Q hQ=>by
 refine kla_eval hdef ?_
 obtain⟨mg,hmg,hnm⟩:=S.nsG
 have C:=hca s.heap fun a o e=>S.keep _ _ (S.ok.aZ _ _ e)
 refine gG fun P_ k_=>?_
 obtain⟨ps,⟨g,hpre⟩,ht,hor⟩:=S.muts (P,.tab pos (env.qual++"<lambda>") A0) (by rw[hP];simp)
 obtain⟨m1,m2,m3⟩:=mod4 w.params
 refine k_ ?_
 have hb:s.heap.BuiltinsAt mg P:=⟨4,PySem.W.boot_o_4 w.params,hnm _ _ (CX w.params),by decide,by decide,fun e=>hP0.2.2 e.symm,S.keep _ _ S.ok.mod,m1,m2,m3⟩
 have hL:P≠c.L:=S.H6 (p:=(P,.tab pos (env.qual++"<lambda>") A0)) (by rw[hP];simp)
 rcases hor with hnf|⟨c',hf,hrec⟩
 · refine kla_makeFunction hcl E.hg hmg hcode C g ht hnf (fun e=>hP0.2.1 e.symm) hb fun c' ctv h' tk hx hge hlt hrec htb=>?_
   have hnd:∀ o,(h'.push (kla_obj "<lambda>" (env.qual++"<lambda>") params body scope [] ((mg "__name__").getD .none) c' ctv)).get? P=some o->True:=fun V V=>trivial
   have up:∀ b o,b≠P->s.heap.get? b=some o->(h'.push (kla_obj "<lambda>" (env.qual++"<lambda>") params body scope [] ((mg "__name__").getD .none) c' ctv)).get? b=some o:=fun b o hb' e=>Heap.get?_push_of_some _ (hx b o hb' e)
   have hfresh:∀ b,s.heap.objs.size≤b->b∉c.own:=fun b hb' hm=>by
    obtain⟨o,e⟩:=S.live hm
    exact absurd (Heap.lt_size e) (Nat.not_lt.mpr hb')
   refine gG fun P_ k_=>?_
   obtain⟨cB,oc,vs,t,e2,hoc,hd,hv⟩:=id hrec
   refine k_ ?_
   cases e2
   have rec':∀ B',B'=hideAll (h'.push (kla_obj "<lambda>" (env.qual++"<lambda>") params body scope [] ((mg "__name__").getD .none) c' ctv)) c.own->B'.CodeRec (.ref c') (env.qual++"<lambda>"):=fun B' eB=>
    ⟨c',oc,vs,t,rfl,by rw[eB];exact hideAll_get _ (Heap.get?_push_of_some _ hoc) (hfresh _ hge),hd,hv⟩
   have tr:TriplesOk (ps++#[rawInt pos.line,rawInt pos.col,Value.ref c']).toList∧codeAmong pos (ps++#[rawInt pos.line,rawInt pos.col,Value.ref c']).toList=some (.ref c'):=by
    rw[Array.toList_append]
    exact⟨TriplesOk_snoc _ _ _ _ ht,codeAmong_snoc _ ht hnf⟩
   obtain⟨B',k,eB,S'⟩:=S.turned (m':=.tab pos (env.qual++"<lambda>") A0) (t:=tk) hP up fun kk=>⟨_,⟨Heap.get?_push_of_some _ htb,by obtain⟨m,hm⟩:=hpre;exact⟨m++#[rawInt pos.line,rawInt pos.col,Value.ref c'],by rw[hm,Array.append_assoc]⟩⟩,tr.1,.inr ⟨c',tr.2,rec' _ rfl⟩⟩
   rw[←hP]at S'
   refine hQ B' _ _ k S' ⟨_,c',ctv,(mg "__name__").getD .none,rfl,?_,rec' _ eB⟩
   rw[eB]
   exact hideAll_get _ (Heap.get?_push_size _ rfl) (hfresh _ (Nat.le_of_lt (Nat.lt_of_le_of_lt hge hlt)))
 · refine kla_makeFunctionHit hcl E.hg hmg hcode C g ht hf hb fun ctv h' tk hk hsz=>?_
   have up:Sub s.heap (h'.push (kla_obj "<lambda>" (env.qual++"<lambda>") params body scope [] ((mg "__name__").getD .none) c' ctv)):=fun b o e=>Heap.get?_push_of_some _ (hk b o e)
   obtain⟨k,S'⟩:=S.grow (s':={s with heap:=h'.push (kla_obj "<lambda>" (env.qual++"<lambda>") params body scope [] ((mg "__name__").getD .none) c' ctv),toks:=tk}) up
   refine hQ _ _ _ k S' ⟨_,c',ctv,(mg "__name__").getD .none,rfl,?_,hrec.keeps k⟩
   refine hideAll_get _ (Heap.get?_push_size _ rfl) fun hm=>?_
   obtain⟨o,e⟩:=S.live hm
   exact absurd (Heap.lt_size e) (Nat.not_lt.mpr hsz)
end
noncomputable abbrev dN(x:Str)(p:Pos):Arguments:={posonlyargs:=[],args:=[{arg:=x,annotation:=none,pos:=p}],vararg:=none,kwonlyargs:=[],kw_defaults:=[],kwarg:=none,defaults:=[]}
noncomputable abbrev bO(x:Str):Scope:={kind:=.function,names:=[(x,.local)],isGenerator:=false,isCoroutine:=false,more:=[]}
section
variable{pr:Program}{w:World}{os0:OsState}{d u:Nat}
theorem Cj{B:Heap}{s:Shared}{qual:Str}{x:Str}{p:Pos}{body:Expr}{f:Addr}{v:Value}{Q:Value->Shared->Prop}(hb:BaseOk w B)(hk:aU B s)(hl:yV qual (dN x p) body (bO x) B (.ref f))(hd:d<recursionLimit)
 (hbind:∀ pm c' ctv,bindArgs (kla_fn "<lambda>" qual (dN x p) body (bO x) [] pm (.ref c') ctv) ⟨[v],[]⟩=pure [(x,v)])
 (h:∀(fd:FuncData) (L:Addr) (s':Shared),fd.scope=bO x->fd.globals=3->(∀ b o,s.heap.get? b=some o->s'.heap.get? b=some o)->s'.gens=s.gens->lw s'=lw s->s'.os=s.os->s.heap.get? L=none->s'.heap.Ns L (fun y=>if y=x then some v else none)->
  wpAny (model pr w) (Ar (d+1) (u+3)) (eval body (callEnv fd L f)) Q bf s'):wpAny (model pr w) (Ar d u) (call (.ref f) [v]) Q bf s:=by
 refine gG fun P_ k_=>?_
 obtain⟨f',c',ctv,pm,e,g,hrec⟩:=hl
 refine k_ ?_
 cases e
 refine wpAny_call (kla_callFunE hd (hk _ _ g) rfl rfl rfl rfl (hrec.keeps hk) ?_)
 refine wpAny_of_eq (a:=[(x,v)]) ?_ ?_
 · exact hbind _ _ _
 · refine wpAny_newFunctionEnv (fun y hy=>?_) (fun y hy=>?_) (fun h₀ hns0 hsb0=>⟨(hb.lim.keeps hk).fresh _ hsb0,kla_codeExpr ?_⟩) rfl
   · rw[List.mem_singleton.mp hy];simp
   · rw[List.mem_singleton.mp hy];simp[bO,List.lookup]
   · refine wpAny_mono (h (kla_fn "<lambda>" qual (dN x p) body (bO x) [] pm (.ref c') ctv) s.heap.objs.size _ rfl rfl (fun b o e=>hsb0.extBut b o (Nat.ne_of_lt (Heap.lt_size e)) (Heap.get?_push_of_some _ e)) rfl rfl rfl (Heap.get?_none_of_le (Nat.le_refl _)) ?_) (fun V V z=>z) fun V V z=>z.elim
     have:(fun y=>[(x,v)].reverse.lookup y)=fun y=>if y=x then some v else none:=by
      funext y
      by_cases h:y=x
      · subst h;simp[List.lookup]
      · have:(y==x)=false:=by simpa using h
        simp[List.lookup,this,h]
     rw[←this]
     exact hns0
theorem yu{B:Heap}{s:Shared}{qual:Str}{p p1 p2:Pos}{f:Addr}{v:Value}{m:ak}(hb:BaseOk w B)(hk:aU B s)(hl:yV qual (dN aq p) (.Attribute (.Name aq p1) au p2) (bO aq) B (.ref f))(hd:d+20<recursionLimit)
 (hv:eN pr w (fun V=>True) B v m):wpAny (model pr w) (Ar d u) (call (.ref f) [v]) (fun(y:Value) (sG:Shared)=>(∃ t,y=Value.int m.time t)∧Mv [] [] s sG) bf s:=by
 refine Cj hb hk hl (by exact jx hd) (fun pm c' ctv=>by rfl) fun fd L s' hsc hgl hup hg hdr hos hL hns=>?_
 have hk':aU B s':=fun b o e=>hup b o (hk b o e)
 have hBL:B.get? L=none:=by
  cases q:B.get? L with
  |none=>rfl
  |some o=>rw[hk _ _ q]at hL;cases hL
 refine gG fun P_ k_=>?_
 obtain⟨f',k',a',ea,⟨x1,x2,x3⟩,⟨s1,s2,s3⟩,r1,r2,r3⟩:=hv.inB hk'
 refine k_ ?_
 cases ea
 have ou:∀ b,(∃ o,B.get? b=some o)->b≠L:=fun b hX z=>by
  obtain⟨o,e⟩:=hX
  rw[z,hBL]at e;cases e
 have R:aC (dj pr w s' L m.small.length) [f',k',a'] m.small [(L,.loc [(aq,.ref 2)])] s':=qy hb hk' hBL rfl (fun n b o e1 e2=>by
  match n,e1,e2 with
  |0,e1,e2=>cases e1;cases e2;exact r1
  |1,e1,e2=>cases e1;cases e2;exact r2
  |2,e1,e2=>cases e1;cases e2;exact r3) (fun b hb=>by
  simp only[List.mem_cons,List.not_mem_nil,or_false]at hb
  rcases hb with rfl|rfl|rfl
  · exact⟨ou _ x1,s1⟩
  · exact⟨ou _ x2,s2⟩
  · exact⟨ou _ x3,s3⟩) hns (fun y=>by
    by_cases hy:y=aq
    · subst hy;simp[List.lookup];exact⟨a',rfl,rfl⟩
    · have:(y==aq)=false:=by simpa using hy
      simp[List.lookup,this,hy])
 have Bk:=vU (pr:=pr) hb hk' hBL m.small.length
 have X:Ev (dj pr w s' L m.small.length) (d+1) (u+3) m.small [(L,.loc [(aq,.ref 2)])] (eval (.Attribute (.Name aq p1) au p2) (callEnv fd L f)) (.int m.time) m.small:=
  Ev.mtime Bk (by exact lu hd rfl) (Ev.l (by rw[hsc]) (by rw[hsc];rfl) rfl rfl) (bV m).1 (bV m).2.1 (bV m).2.2 rfl
 refine X.go R fun α3 sI y E3 R3 rC=>⟨rC,?_⟩
 have M:=lH (own:=[L]) (og:=[]) R3 (.head _)
 exact⟨fun b o V e=>M.heap b o (fun z=>by rw[List.mem_singleton.mp z,hL]at e;cases e) (hup b o e),fun i x hi e=>M.gens i x hi (by rw[hg];exact e),M.drawn.trans hdr,M.os.trans hos⟩
end
structure BR(pr:Program)(w:World)(d u:Nat)(c:aF)(t:Sem Flow)(R:Rl)(X:List (Addr×MO)):Prop where
 run:∀{os0:OsState} B s,LS w os0 c B s->∀ Q:Flow->Shared->Prop,(∀ B' s' v L ρ cl N,Sub B B'->LS w os0 ⟨L,ρ,cl,N++X⟩ B' s'->R.r B' v->Q (.ret v) s')->wpAny (model pr w) (Ar d u) t Q bf s
section
variable{pr:Program}{w:World}{os0:OsState}{d u:Nat}{c cA cB:aF}{α:Type}{env:Env}{pos:Pos}{R:Rl}{X:List (Addr×MO)}
theorem BR.cons{st:Stmt}{rest:List Stmt}(h1:XR pr w d u c (exec st env) .next cA)(h2:BR pr w d u cA (execs rest env) R X):BR pr w d u c (execs (st::rest) env) R X:=.mk fun B s S Q hQ=>
 wpAny_execs_cons (h1.go S fun B1 sE x kE S1 rA=>by
  cases rA
  exact h2.run B1 sE S1 Q fun B2 sG v L ρ cl N kI S2 rB=>hQ B2 sG v L ρ cl N (kE.trans kI) S2 rB)
theorem BR.ret{e:Expr}{rest:List Stmt}{N:List (Addr×MO)}(h:RV pr w d u c (eval e env) R)(hM:c.M=N++X):BR pr w d u c (execs (.Return (some e) pos::rest) env) R X:=.mk fun B s S Q hQ=>
 wpAny_execs_cons (wpAny_Return_some (h.go S fun B1 sE x kE S1 rA=>hQ B1 sE x c.L c.ρ c.cl N kE (by rw[←hM];exact S1) rA))
structure St(w:World)(c cA:aF):Prop where
 run:∀{os0:OsState} B s,LS w os0 c B s->∃ B',Sub B B'∧LS w os0 cA B' s
theorem XR.step{t:Sem Flow}{f:FL}(h:St w c cA)(h2:XR pr w d u cA t f cB):XR pr w d u c t f cB:=.mk fun B s S Q hQ=>by
 obtain⟨B1,kE,S1⟩:=h.run B s S
 exact h2.go S1 fun B' s' y k S' r=>hQ B' s' y (kE.trans k) S' r
theorem BR.step{t:Sem Flow}(h:St w c cA)(h2:BR pr w d u cA t R X):BR pr w d u c t R X:=.mk fun B s S Q hQ=>by
 obtain⟨B1,kE,S1⟩:=h.run B s S
 exact h2.run B1 s S1 Q fun B' s' v L ρ cl N k S' r=>hQ B' s' v L ρ cl N (kE.trans k) S' r
theorem St.ready{x:Str}{a:Addr}{Rs:List Rl}{pre post:List (Addr×MO)}(hM:c.M=pre++(a,.lst Rs)::post)(hx:c.ρ.lookup x=some (Rl.val (.ref a))):St w c ({c with M:=pre++post}.put x (Rl.list Rs)):=⟨fun B s S=>by
 refine gG fun P_ k_=>?_
 obtain⟨B',k,S',hg⟩:=S.freeze hM
 obtain⟨vs,n,g,r⟩:=S.muts (a,.lst Rs) (by rw[hM];simp)
 refine k_ ?_
 refine⟨B',k,⟨S'.ok,S'.keep,?_,S'.cells,S'.muts,S'.out,S'.nd,S'.os,S'.bare⟩⟩
 obtain⟨m,hm,hl⟩:=S'.fr
 refine⟨m,hm,fun y R' e=>?_⟩
 have e:(pB x (Rl.list Rs) c.ρ).lookup y=some R':=e
 rw[jT]at e
 by_cases hy:y=x
 · rw[if_pos hy]at e
   cases e
   obtain⟨v,e1,e2⟩:=hl x _ hx
   cases e2
   exact⟨_,by rw[hy];exact e1,a,vs,n,rfl,hg _ g,r.mono k⟩
 · rw[if_neg hy]at e
   exact hl y R' e⟩
theorem Kg(E:cO env c.L){x:Str}{p p':Pos}(hx:env.kindOf x=some .local)(hs:swapsWith (.List [] p') (some (.Name x p)) pos.line env=pure false){B:Heap}{s:Shared}(S:LS w os0 c B s){Q:Flow->Shared->Prop}
 (h:∀ B' s' a,Sub B B'->LS w os0 ({c with M:=(a,.lst [])::c.M}.put x (Rl.val (.ref a))) B' s'->Q .next s'):wpAny (model pr w) (Ar d u) (exec (.Assign [.Name x p] (.List [] p') pos) env) Q bf s:=by
 refine wpAny_Assign_Name (wpAny_List (Calls.spliced_nil ⟨Nat.zero_le _,?_⟩)) hs
 refine gG fun P_ k_=>?_
 obtain⟨B1,kE,S1⟩:=S.w5 (a:=s.heap.objs.size) (m:=.lst []) (h':=s.heap.push {cls:=.type "list",data:=.seq ([]:List Value).toArray}) (t:=s.toks) (Heap.get?_none_of_le (Nat.le_refl _)) (fun b o e=>Heap.get?_push_of_some _ e) ⟨[],0,Heap.get?_push_size _ rfl,.nil⟩
 obtain⟨m,hm,hl⟩:=S1.fr
 refine k_ ?_
 refine wpAny_storeName_local hx (by rw[E.hL];exact hm) (fun h' hn hsb=>?_) (by rw[E.hk];rfl)
 rw[E.hL]at hn hsb
 obtain⟨B2,kI,S2⟩:=S1.stored (t:=s.toks+1) (x:=x) (R:=Rl.val (.ref s.heap.objs.size)) rfl hl hn hsb
 exact h B2 _ _ (kE.trans kI) S2
theorem BR.newList(E:cO env c.L){x:Str}{p p':Pos}{rest:List Stmt}(hx:env.kindOf x=some .local)(hs:swapsWith (.List [] p') (some (.Name x p)) pos.line env=pure false)
 (h:∀ a,BR pr w d u ({c with M:=(a,.lst [])::c.M}.put x (Rl.val (.ref a))) (execs rest env) R X):BR pr w d u c (execs (.Assign [.Name x p] (.List [] p') pos::rest) env) R X:=.mk fun B s S Q hQ=>
 wpAny_execs_cons (Kg E hx hs S fun B1 sE a kE S1=>(h a).run B1 sE S1 Q fun B' s' v L ρ cl N k S' r=>hQ B' s' v L ρ cl N (kE.trans k) S' r)
theorem sp1{M:Model}{A:Around}{E:Value->Shared->Prop}{s:Shared}{e:Expr}{Q:List Value->Shared->Prop}(h:wpAny M A (eval e env) (fun v sE=>Q [v] sE) E s)(he:backTo pos (starEach [e] env)=[(false,eval e env)]):wpAny M A (spliced (backTo pos (starEach [e] env))) Q E s:=by
 rw[he,spliced]
 refine wpAny_bind (wpAny_mono h (fun v sE h₁=>wpAny_bind (wpAny_pure (wpAny_bind (wpAny_holding (Calls.spliced_nil (wpAny_pure h₁)))))) fun V V z=>z)
theorem ka1{M:Model}{A:Around}{E:Value->Shared->Prop}{s:Shared}{n:Option Str}{e:Expr}{p:Pos}{Q:List Value->Shared->Prop}(h:wpAny M A (eval e env) (fun v sE=>Q [v] sE) E s)(he:(backToKw pos (keywordEach [⟨n,e,p⟩] env)).map (·.2)=[(do let v←eval e env;standAt pos;pure v)]):wpAny M A (evalAll ((backToKw pos (keywordEach [⟨n,e,p⟩] env)).map (·.2))) Q E s:=by
 rw[he]
 exact wpAny_evalAll_cons (wpAny_bind (wpAny_mono h (fun v sE h₁=>wpAny_bind (wpAny_standAt (wpAny_pure (wpAny_evalAll_nil h₁)))) fun V V z=>z))
end
noncomputable abbrev oY:Str:=⟨#[101,120,116,101,110,100]⟩
theorem LS.stay{w:World}{c:aF}{B:Heap}{s s':Shared}(h:LS w os0 c B s)(hk:Sub s.heap s'.heap)(q:Qs s s':=by exact⟨rfl,rfl⟩):LS w os0 c B s':=by
 refine⟨h.ok,fun b o q=>hk _ _ (h.keep b o q),?_,fun p hp=>dg (Sub.refl B) (fun o e=>hk _ _ e) (h.cells p hp),fun p hp=>(h.muts p hp).keeps (Sub.refl B) fun o e=>hk _ _ e,h.out,h.nd,q.1.trans h.os,q.2.trans h.bare⟩
 obtain⟨m,hm,hl⟩:=h.fr
 exact⟨m,hm.keeps hk,hl⟩
theorem gk.uP{pr:Program}{w:World}{d u:Nat}{B:Heap}{fd:FuncData}{fa L a:Addr}{g:Nat}{aM:List Addr}{og:List Nat}{IT:Shared->Prop}{iv:Value}{s s':Shared}(N:vN fd fa iv s s' L a g)(hI:∀ s'',eG aM og s' s''->aU B s''->IT s''):
 gk pr w d u B fd fa L a g aM og IT iv s':=⟨N.gen,N.st,⟨_,N.fr,rfl,rfl⟩,hI⟩
section
variable{pr:Program}{w:World}{os0:OsState}{d u:Nat}{c cA cB:aF}{env:Env}{pos:Pos}
theorem uo{fd:FuncData}{fa:Addr}{B:Heap}{s:Shared}(S:LS w os0 c B s)(E:cO env c.L){id:Str}{p p2 p3:Pos}{arg:Expr}{P:Value->Heap->Shared->Prop}{Q:Value->Shared->Prop}(hx:env.kindOf id=some .globalImplicit)(hv:nsIn (KK w.params) 3 id=some (some (.ref fa)))(hdb:(id==("__debug__":Str))=false)(hkp:cu (KK w.params) (.ref fa)=true)
 (hd:d<recursionLimit) (F:d8 w.params fa fd) (hgen:fd.scope.isGenerator=true) (hbody:fd.body=.stmts (iI fd)) (hl1:fd.scope.names.lookup aH=some .local) (hl2:fd.scope.names.lookup aj=some .local)
 (hpk:∀ iv S,peek (KK w.params) S (bindArgs fd ⟨[iv],[(aj,.bool false)]⟩)=some [(aH,iv),(aj,.bool false)])
 (hsk:env.kindOf aj=some .local) (hρ:c.ρ.lookup aj=some (Rl.val (.bool false)))
 (m9:backTo pos (starEach [arg] env)=[(false,eval arg env)]) (he2:(backToKw pos (keywordEach [⟨some aj,.Name aj p2,p3⟩] env)).map (·.2)=[(do let v←eval (.Name aj p2) env;standAt pos;pure v)])
 (he3:(backToKw pos (keywordEach [⟨some aj,.Name aj p2,p3⟩] env)).filterMap (·.1)=[aj]) (he4:(backToKw pos (keywordEach [⟨some aj,.Name aj p2,p3⟩] env)).all (·.1.isSome)=true) (he5:(backToKw pos (keywordEach [⟨some aj,.Name aj p2,p3⟩] env)).any (·.1.isNone)=false)
 (harg:∀ B0 sH,Sub B B0->LS w os0 c B0 sH->∀ Q':Value->Shared->Prop,(∀ iv sE B1,Sub B0 B1->LS w os0 c B1 sE->P iv B1 sE->Q' iv sE)->wpAny (model pr w) (Ar d u) (eval arg env) Q' bf sH)
 (hQ:∀ iv sE B1 sG L a g,Sub B B1->LS w os0 c B1 sE->P iv B1 sE->vN fd fa iv sE sG L a g->Q (.ref a) sG):
 wpAny (model pr w) (Ar d u) (eval (.Call (.Name id p) [arg] [⟨some aj,.Name aj p2,p3⟩] pos) env) Q bf s:=by
 refine wpAny_Call_Name_kw ((RV.global (pr:=pr) (d:=d) (u:=u) E (x:=id) (p:=p) hv hx hdb).go S fun B0 sH f kO S0 rD=>?_)
 cases rD
 refine callWith_of (P:=(KK w.params).In) (by rw[he5,m9];rfl) (lO hkp) (c7 (by rw[m9];rfl) he4 (sp1 (harg B0 sH kO S0 _ fun iv sE B1 kE S1 hP=>?_) m9))
 refine ka1 ?_ he2
 refine gG fun P_ k_=>?_
 obtain⟨m,hm,hl⟩:=S1.fr
 obtain⟨v,e,r⟩:=hl aj _ hρ
 refine k_ ?_
 cases r
 refine wpAny_Name (wpAny_loadName_local E.hk hsk (by rw[E.hL];exact hm) e ?_) rfl
 refine⟨fun a o e=>S1.keep _ _ (S1.ok.aZ _ _ e),?_⟩
 rw[he3]
 exact Es S1.ok.toBaseOk S1.keep hd F hgen hbody hl1 hl2 (hpk iv) fun sG L a g N=>hQ iv sE B1 sG L a g (kO.trans kE) S1 hP N
theorem qM{Z:Addr->Prop}{h B:Heap}(k:∀ b o,Z b->h.get? b=some o->B.get? b=some o){vs:List Value}{ms:List ak}(x:j9 pr w Z h vs ms):bx B vs (ms.map (Rl.msg pr w)):=by
 induction x with
 |nil=>exact .nil
 |cons a _ ih=>exact .cons (a.keeps (fun b x hz e=>k b x hz e) fun V V V V=>trivial) ih
noncomputable abbrev fL:Str:=⟨#[116,114,97,99,107]⟩
theorem Mf(E:cO env c.L){Sa:Addr}{Rs:List Rl}{ms:List ak}{pre post:List (Addr×MO)}{id:Str}{q1 q2 q3 q4 p p2 p3 pos1 pos2:Pos}{pl:Sem Bool}(hM:c.M=pre++(Sa,.lst Rs)::post)(e1:c.ρ.lookup aH=some (Rl.val (.ref Sa)))
 (e2:c.ρ.lookup fL=some (Rl.list (ms.map (Rl.msg pr w)))) (e3:c.ρ.lookup aj=some (Rl.val (.bool false))) (hok:∀ m∈ms,m.ok) (hz:Rs.length+ms.length<sizeLine) (hd:d+110<recursionLimit)
 (k1:env.kindOf aH=some .local) (k2:env.kindOf fL=some .local) (k3:env.kindOf aj=some .local) (hx:env.kindOf id=some .globalImplicit) (hv:nsIn (KK w.params) 3 id=some (some (.ref 959))) (hdb:(id==("__debug__":Str))=false)
 (he:eval (.Call (.Attribute (.Name aH q1) oY q2) [.Call (.Name id p) [.Name fL q3] [⟨some aj,.Name aj p2,p3⟩] pos1] [] pos2) env=(do
  let ov←eval (.Name aH q1) env
  standAt q2.atName
  let(f,first)←holding [ov] (getMethod ov oY pl)
  callWith pos2 f first (backTo pos2 (starEach [.Call (.Name id p) [.Name fL q3] [⟨some aj,.Name aj p2,p3⟩] pos1] env)) (backToKw pos2 (keywordEach [] env))))
 (hi:interactive env=false) (hs:swapsWith (.Call (.Attribute (.Name aH q1) oY q2) [.Call (.Name id p) [.Name fL q3] [⟨some aj,.Name aj p2,p3⟩] pos1] [] pos2) none q4.line env=pure false)
 (F:d8 w.params 959 (iz w.params)) (hkp:cu (KK w.params) (.ref 959)=true):
 XR pr w d u c (exec (.Expr (.Call (.Attribute (.Name aH q1) oY q2) [.Call (.Name id p) [.Name fL q3] [⟨some aj,.Name aj p2,p3⟩] pos1] [] pos2) q4) env) .next
  {c with M:=pre++(Sa,.lst (Rs++(bB 0 ms).map (Rl.msg pr w)))::post}:=.mk fun B s S Q hQ=>by
 have hmem:(Sa,MO.lst Rs)∈c.M:=by rw[hM];simp
 have hown:Sa∈c.own:=.tail _ (List.mem_append_right _ (List.mem_map_of_mem (f:=(·.1)) hmem))
 refine wpAny_Expr_any (methodCall_KW (pl:=pl) (he:=he) ((RV.l (pr:=pr) (d:=d) (u:=u) E k1 e1 rfl).go S fun B0 sH x kO S0 rD=>?_)) hi hs
 cases rD
 obtain⟨vs0,nA,g0,V⟩:=S0.muts _ hmem
 refine getMethod_builtin (T:="list") ⟨_,g0,rfl⟩ PySem.F.plainAttrs_list PySem.F.slot_list_extend (by rfl) (fun a ea=>by cases ea;exact⟨_,g0,rfl⟩) ?_
 refine callWith_of (P:=fun V=>True) rfl (fun h V=>⟨.machine,.inr (.inl rfl),Looks.of_pure rfl⟩) (c7 rfl rfl (sp1 (uo (P:=fun iv B1 sE=>(Rl.list (ms.map (Rl.msg pr w))).r B1 iv) S0 E hx hv hdb hkp (by exact jx hd) F rfl rfl rfl rfl (fun iv S=>pk_959 w.params _ rfl iv _ S) k3 e3 rfl rfl rfl rfl rfl
  (fun B1 sE kE S1 Q' h'=>(RV.l (pr:=pr) (d:=d) (u:=u) E k2 e2 rfl).go S1 fun B2 sG y kI S2 rB=>h' y sG B2 kI S2 rB) fun iv sE B1 sG L a g kE S1 rA N=>?_) rfl))
 refine wpAny_evalAll_nil ⟨trivial,?_⟩
 refine gG fun P_ k_=>?_
 obtain⟨l,tvs,n',rfl,gl,al⟩:=rA
 refine k_ ?_
 have S2:=S1.stay N.old ⟨N.os,N.drawn⟩
 obtain⟨vs,n,gS,aS⟩:=S2.muts _ hmem
 have live1:∀ b∈c.own,b<sE.heap.objs.size:=fun b hb=>by obtain⟨o,e⟩:=S1.live hb;exact Heap.lt_size e
 have hLz:L=sE.heap.objs.size:=N.hL
 have haz:a=sE.heap.objs.size+1:=N.ha
 have hzz:=N.hz
 have fr:∀ b,sE.heap.objs.size≤b->sE.heap.get? b=none:=fun b h=>Heap.get?_none_of_le h
 have oH:∀ b∈[sG.heap.objs.size,L,a],sE.heap.objs.size≤b:=fun b hb=>by
  simp only[List.mem_cons,List.not_mem_nil,or_false]at hb
  rcases hb with rfl|rfl|rfl
  · rw[hzz];exact Nat.le_add_right _ _
  · rw[hLz];exact Nat.le_refl _
  · rw[haz];exact Nat.le_succ _
 have hSlt:=live1 Sa hown
 have hLa:L≠a:=by rw[hLz,haz];exact Nat.ne_of_lt (Nat.lt_succ_self _)
 have hBo:∀ b∈[sG.heap.objs.size,L,a],B1.get? b=none:=fun b hb=>S1.noB (fr b (oH b hb))
 have Fr:gk pr w d (u+1) B1 (iz w.params) 959 L a g [] [] (Itb pr w (d+1) (u+1+4) B1 (.ref l) [] [] ms) (.ref l) sG:=gk.uP N fun s'' V hk=>Bc ⟨n',gl⟩ (w7 al)
 refine Dq (B:=B1) (S:=Sa) (I:=a) (g:=g) (own:=[sG.heap.objs.size,L,a]) (og:=[g]) (ms:=bB 0 ms) (S1.out _ hown) N.gen (fun z=>Nat.not_lt.mpr (oH a (by simp)) (z▸hSlt)) (fun s' hz' hSt hk=>?_) S2.keep (fun hm=>?_) hBo gS (by rw[iW,aS.len];exact hz) fun s' vs' c' T hL' hms=>?_
 · have:=N5 S1.ok.toBaseOk (fun b hb=>hBo b (.tail _ hb)) hLa (by simp) (by simp) (by simp) hd hok hk (fun b hb=>by cases hb) (Fr.still ⟨fun b hb o e=>hSt.heap b (.tail _ hb) o e,fun i hi x e=>hSt.gens i hi x e⟩)
   rw[hz']at this
   exact this.toF
 · exact Nat.not_lt.mpr (oH Sa hm) hSlt
 · have up:∀ b o,b≠Sa->sE.heap.get? b=some o->s'.heap.get? b=some o:=fun b o hb e=>T.heap b o (fun hm=>Nat.not_lt.mpr (oH b hm) (Heap.lt_size e)) hb (N.old _ _ e)
   have nin:∀ b,Af B1 Sa sG [sG.heap.objs.size,L,a] b->b∉c.own:=fun b hZ hm=>by
    rcases hZ.2 with⟨x,hx⟩|h|h
    · rw[S1.out b hm]at hx;cases hx
    · obtain⟨x,hx⟩:=S2.live hm
      rw[h]at hx;cases hx
    · exact Nat.not_lt.mpr (oH b h) (live1 b hm)
   obtain⟨B',k',eB,S'⟩:=S1.turned (m':=.lst (Rs++(bB 0 ms).map (Rl.msg pr w))) (t:=0) hM up fun kk=>⟨_,c',hL',(aS.mono kk).append (qM (fun b o hZ e=>hideAll_get _ e (nin b hZ)) hms)⟩
   exact hQ B' s' _ ((kO.trans kE).trans k') (S'.same rfl ⟨T.os.trans N.os,T.drawn.trans N.drawn⟩) rfl
end
noncomputable abbrev uI:Str:=⟨#[115,111,114,116]⟩
theorem bx.sorted{α:Type}{B:Heap}{R:α->Rl}(key:α->Int){vs:List Value}{xs:List α}(h:bx B vs (xs.map R)):bx B (jg (xs.map key) vs) ((aX key xs).map R):=by
 have hz:∀{vs:List Value} {xs:List α},bx B vs (xs.map R)->∃ zs:List (α×Value),xs=zs.map (·.1)∧vs=zs.map (·.2)∧∀ p∈zs,(R p.1).r B p.2:=by
  intro vs xs
  induction xs generalizing vs with
  |nil=>intro h;cases h;exact⟨[],rfl,rfl,fun V h=>by cases h⟩
  |cons x xs ih=>
   intro h
   cases h with
   |cons a h=>
    obtain⟨zs,e1,e2,e3⟩:=ih h
    exact⟨(x,_)::zs,by rw[e1];rfl,by rw[e2];rfl,fun p hp=>by
     rcases List.mem_cons.mp hp with rfl|hp
     · exact a
     · exact e3 p hp⟩
 obtain⟨zs,rfl,rfl,h3⟩:=hz h
 have e1:((zs.map (·.1)).map key).zip (zs.map (·.2))=zs.map (fun p=>(key p.1,p.2)):=by
  clear h h3 hz
  induction zs with
  |nil=>rfl
  |cons z zs ih=>simp only[List.map_cons,List.zip_cons_cons];rw[←ih]
 have e2:jg ((zs.map (·.1)).map key) (zs.map (·.2))=(aX (fun p:α×Value=>key p.1) zs).map (·.2):=by
  unfold jg
  rw[e1, ←jZ (fun p:Int×Value=>p.1) (fun p:α×Value=>(key p.1,p.2)),List.map_map]
  rfl
 have e3:aX key (zs.map (·.1))=(aX (fun p:α×Value=>key p.1) zs).map (·.1):=(jZ key (fun p:α×Value=>p.1) zs).symm
 rw[e2,e3,List.map_map]
 have:∀ l:List (α×Value),(∀ p∈l,(R p.1).r B p.2)->bx B (l.map (·.2)) (l.map (R∘(·.1))):=by
  intro l
  induction l with
  |nil=>intro V;exact .nil
  |cons p l ih=>intro hl;exact .cons (hl p (.head _)) (ih fun q hq=>hl q (.tail _ hq))
 exact this _ fun p hp=>h3 p ((cU _ zs).mem_iff.mp hp)
section
variable{pr:Program}{w:World}{os0:OsState}{d u:Nat}{c cA cB:aF}{env:Env}{pos:Pos}
theorem Hq(E:cO env c.L){A0:Array Value}{Sa ca P:Addr}{ms:List ak}{pre post pre' post':List (Addr×MO)}{q1 q2 q4 p p1 p2 p3 pos' pos2:Pos}{pl:Sem Bool}(hM:c.M=pre++(Sa,.lst (ms.map (Rl.msg pr w)))::post)(e1:c.ρ.lookup aH=some (Rl.val (.ref Sa)))(h64:ms.length<64)(hd:d+110<recursionLimit)
 (k1:env.kindOf aH=some .local)
 (hcode:env.code=.ref ca) (hca:∀ h,(KK w.params).In h->CodeHd h ca P) (hP:c.M=pre'++(P,.tab pos' (env.qual++"<lambda>") A0)::post') (hP0:P≠0∧P≠3∧P≠4)
 (he:eval (.Call (.Attribute (.Name aH q1) uI q2) [] [⟨some lK,.Lambda (dN aq p) (.Attribute (.Name aq p1) au p2) (bO aq) pos',p3⟩] pos2) env=(do
  let ov←eval (.Name aH q1) env
  standAt q2.atName
  let(f,first)←holding [ov] (getMethod ov uI pl)
  callWith pos2 f first (backTo pos2 (starEach [] env)) (backToKw pos2 (keywordEach [⟨some lK,.Lambda (dN aq p) (.Attribute (.Name aq p1) au p2) (bO aq) pos',p3⟩] env))))
 (hi:interactive env=false) (hs:swapsWith (.Call (.Attribute (.Name aH q1) uI q2) [] [⟨some lK,.Lambda (dN aq p) (.Attribute (.Name aq p1) au p2) (bO aq) pos',p3⟩] pos2) none q4.line env=pure false):
 XR pr w d u c (exec (.Expr (.Call (.Attribute (.Name aH q1) uI q2) [] [⟨some lK,.Lambda (dN aq p) (.Attribute (.Name aq p1) au p2) (bO aq) pos',p3⟩] pos2) q4) env) .next
  {c with M:=pre++(Sa,.lst ((aX ak.time ms).map (Rl.msg pr w)))::post}:=.mk fun B s S Q hQ=>by
 have hmem:(Sa,MO.lst (ms.map (Rl.msg pr w)))∈c.M:=by rw[hM];simp
 have hown:Sa∈c.own:=.tail _ (List.mem_append_right _ (List.mem_map_of_mem (f:=(·.1)) hmem))
 refine wpAny_Expr_any (methodCall_KW (pl:=pl) (he:=he) ((RV.l (pr:=pr) (d:=d) (u:=u) E k1 e1 rfl).go S fun B0 sH x kO S0 rD=>?_)) hi hs
 cases rD
 obtain⟨vs0,nA,g0,V⟩:=S0.muts _ hmem
 refine getMethod_builtin (T:="list") ⟨_,g0,rfl⟩ PySem.F.plainAttrs_list slot_list_sort PySem.F.type_list_sort (fun a ea=>by cases ea;exact⟨_,g0,rfl⟩) ?_
 have lam:=RV.lambda (pr:=pr) (d:=d) (u:=u) (pos:=pos') (params:=dN aq p) (body:=.Attribute (.Name aq p1) au p2) (scope:=bO aq) E (by rfl) (closureFor_none fun x hx=>by rw[List.mem_singleton.mp hx];decide) hcode hca hP hP0
 refine callWith_of (P:=fun V=>True) rfl (fun h V=>⟨.machine,.inr (.inl rfl),Looks.of_pure rfl⟩) (c7 rfl rfl (Calls.spliced_nil (ka1 (lam.go S0 fun B1 sE y kE S1 rA=>⟨trivial,?_⟩) rfl)))
 refine gG fun P_ k_=>?_
 obtain⟨f,c',ctv,pm,rfl,gf,hrec⟩:=id rA
 obtain⟨vs,n,gS,aS⟩:=S1.muts _ hmem
 refine k_ ?_
 have hlen:(ms.map ak.time).length=vs.length:=by rw[aS.len];simp
 show wpAny _ _ (call (.builtin "list.sort") [.ref Sa] [(lK,.ref f)]) _ _ _
 refine Jp (kz:=ms.map ak.time) gS hlen (by rw[←hlen,List.length_map];exact h64) (fun i v k e1 e2 sG jE=>?_) fun s' c' jE hg=>?_
 · have hk2:aU B1 sG:=fun b o e=>jE.heap b o (fun z=>by rw[List.mem_singleton.mp z,S1.out _ hown]at e;cases e) (S1.keep b o e)
   have e2':ms[i]?.map ak.time=some k:=by rw[←List.getElem?_map];exact e2
   cases hm:ms[i]? with
   |none=>rw[hm]at e2';cases e2'
   |some m=>
    rw[hm]at e2'
    cases e2'
    obtain⟨v',ev',rv⟩:=aS.get (i:=i) (R:=Rl.msg pr w m) (by rw[List.getElem?_map,hm];rfl)
    rw[e1]at ev'
    cases ev'
    exact yu (m:=m) S1.ok.toBaseOk hk2 rA (by exact iY hd rfl) rv
 · have up:∀ b o,b≠Sa->sE.heap.get? b=some o->s'.heap.get? b=some o:=fun b o hb e=>jE.heap b o (by simpa using hb) e
   obtain⟨B',k',eB,S'⟩:=S1.turned (m':=.lst ((aX ak.time ms).map (Rl.msg pr w))) (t:=0) hM up fun kk=>⟨_,c',hg,(bx.sorted ak.time aS).mono kk⟩
   exact hQ B' s' _ ((kO.trans kE).trans k') (S'.same rfl ⟨jE.os,jE.drawn⟩) rfl
end
theorem qI:∀(k:Int) (ms:List ak),(∀ m∈ms,m.ok)->∀ m∈bJ k ms,m.ok
 |_,[],_,_,h=>by cases h
 |k,m::r,ho,x,h=>by
  rcases List.mem_cons.mp h with rfl|h
  · exact ak.G3 (ho m (.head _)) _
  · exact qI m.time r (fun y hy=>ho y (.tail _ hy)) x h
theorem yc:∀(k:Int) (ms:List ak),(∀ m∈ms,m.ok)->∀ m∈bB k ms,m.ok
 |_,[],_,_,h=>by cases h
 |k,m::r,ho,x,h=>by
  rcases List.mem_cons.mp h with rfl|h
  · exact ak.G3 (ho m (.head _)) _
  · exact yc _ r (fun y hy=>ho y (.tail _ hy)) x h
theorem iH:∀(k:Int) (ms:List ak),(aV k ms).length≤ms.length+1
 |_,[]=>Nat.le_refl _
 |k,m::r=>by
  have h1:=iH (k+m.time) r
  have h2:=iH 0 r
  have h3:=iH k r
  rw[lg]
  split
  · simp only[List.length_cons];exact o176 h1
  · split<;>(simp only[List.length_cons];exact o177 h2)
theorem mR:∀(k:Int) (ms:List ak),(∀ m∈ms,m.ok)->∀ m∈aV k ms,m.ok
 |_,[],_,_,h=>by rw[List.mem_singleton.mp h];trivial
 |k,m::r,ho,x,h=>by
  have h1:=mR (k+m.time) r (fun y hy=>ho y (.tail _ hy)) x
  have h2:=mR 0 r (fun y hy=>ho y (.tail _ hy)) x
  rw[lg]at h
  split at h
  · exact h1 h
  · split at h
    · rcases List.mem_cons.mp h with rfl|h
      · exact ho _ (.head _)
      · exact h2 h
    · rcases List.mem_cons.mp h with rfl|h
      · exact ak.G3 (ho m (.head _)) _
      · exact h2 h
section
variable{pr:Program}{w:World}{os0:OsState}{d u:Nat}{B:Heap}{og:List Nat}{L a:Addr}{g:Nat}{aM:List Addr}
theorem itb_rel(hb:BaseOk w B)(hBo:∀ b∈L::a::aM,B.get? b=none)(hLa:L≠a)(hLi:L∉aM)(hai:a∉aM)(hgo:g∉og)(hd:d+110<recursionLimit){items:List ak}(hok:∀ m∈items,m.ok){iv:Value}{s:Shared}(hli:∀ b∈aM,b<s.heap.objs.size)
 (F:gk pr w d u B (g8 w.params) 967 L a g aM og (ItbB pr w (d+1) (u+4) B iv aM og items) iv s):Itb pr w d u B (.ref a) (L::a::aM) (g::og) (bJ 0 items) s:=fun dF u1 Q hk hQ=>
 wpAny_pyIter_gen F.gen (hQ s (.ref a) (fun V V e=>e) rfl rfl rfl (rel_src hb hBo hLa hLi hai hgo hd hok hk hli F))
end
section
variable{pr:Program}{w:World}{os0:OsState}{d u:Nat}{c:aF}{env:Env}
theorem fix_rel(E:cO env c.L){ms:List ak}{idf idr idl:Str}{p1 p2 p3 p4 p5 p6 p7 p8 pos1 pos2 pos3:Pos}(e1:c.ρ.lookup aH=some (Rl.list (ms.map (Rl.msg pr w))))(e3:c.ρ.lookup aj=some (Rl.val (.bool false)))(hok:∀ m∈ms,m.ok)(hz:ms.length<1000)(hd:d+130<recursionLimit)
 (k1:env.kindOf aH=some .local) (k3:env.kindOf aj=some .local)
 (hxr:env.kindOf idr=some .globalImplicit) (hvr:nsIn (KK w.params) 3 idr=some (some (.ref 967))) (hdr:(idr==("__debug__":Str))=false)
 (hxf:env.kindOf idf=some .globalImplicit) (hvf:nsIn (KK w.params) 3 idf=some (some (.ref 975))) (hdf:(idf==("__debug__":Str))=false)
 (hxl:env.kindOf idl=some .globalImplicit) (hvl:nsIn (KK w.params) 3 idl=some none) (hvl0:nsIn (KK w.params) 0 idl=some (some (.type "list"))) (hdl:(idl==("__debug__":Str))=false)
 (Fr:d8 w.params 967 (g8 w.params)) (Ff:d8 w.params 975 (cQ w.params)) (kpr:cu (KK w.params) (.ref 967)=true) (kpf:cu (KK w.params) (.ref 975)=true):
 RV pr w d u c (eval (.Call (.Name idl p1) [.Call (.Name idf p2) [.Call (.Name idr p3) [.Name aH p4] [⟨some aj,.Name aj p5,p6⟩] pos1] [⟨some aj,.Name aj p7,p8⟩] pos2] [] pos3) env) (Rl.list ((aV 0 (bJ 0 ms)).map (Rl.msg pr w))):=.mk<|@fun os0 B s S Q hQ=>by
 refine wpAny_Call_Name_kw ((RV.builtin (pr:=pr) (d:=d) (u:=u) E (x:=idl) (p:=p1) hvl hvl0 hxl hdl).go S fun B0 sH f kO S0 rD=>?_)
 cases rD
 refine callWith_of (P:=fun V=>True) rfl (fun h V=>⟨.machine,.inr (.inl rfl),Looks.of_pure rfl⟩) (c7 rfl rfl (sp1 ?_ rfl))
 refine uo (P:=fun iv B1 sE=>∃ L1 a1 g1 iv0 t0,iv=.ref a1∧(Rl.list (ms.map (Rl.msg pr w))).r B1 iv0∧LS w os0 c B1 t0∧vN (g8 w.params) 967 iv0 t0 sE L1 a1 g1) S0 E hxf hvf hdf kpf (by exact jx hd) Ff rfl rfl rfl rfl (fun iv S=>pk_975 w.params _ rfl iv _ S) k3 e3 rfl rfl rfl rfl rfl
  (fun B1 sE kE S1 Q' h'=>uo (P:=fun iv B1 V=>(Rl.list (ms.map (Rl.msg pr w))).r B1 iv) S1 E hxr hvr hdr kpr (by exact jx hd) Fr rfl rfl rfl rfl (fun iv S=>pk_967 w.params _ rfl iv _ S) k3 e3 rfl rfl rfl rfl rfl
   (fun B2 sG kI S2 Q'' h''=>(RV.l (pr:=pr) (d:=d) (u:=u) E k1 e1 rfl).go S2 fun B3 sI y kJ S3 rC=>h'' y sI B3 kJ S3 rC)
   fun iv tB B2 tC L a g kI S2 rB N=>h' (.ref a) tC B2 kI (S2.stay N.old ⟨N.os,N.drawn⟩) ⟨L,a,g,iv,tB,rfl,rB,S2,N⟩) fun iv sE B1 sG L2 a2 g2 kE S1 hP N2=>?_
 refine gG fun P_ k_=>?_
 obtain⟨L1,a1,g1,iv0,t0,rfl,⟨l,tvs,n',rfl,gl,al⟩,T0,N1⟩:=hP
 refine k_ ?_
 refine wpAny_evalAll_nil ⟨trivial,?_⟩
 show wpAny _ _ (call (.type "list") [.ref a2]) _ _ _
 have h1:=N1.hL;have h2:=N1.ha;have h3:=N1.hz;have h4:=N2.hL;have h5:=N2.ha;have h6:=N2.hz
 have h7:=N1.hg;have h8:=N2.hg
 have S2:=S1.stay N2.old ⟨N2.os,N2.drawn⟩
 have up02:Sub t0.heap sG.heap:=fun b o e=>N2.old b o (N1.old b o e)
 have live0:∀ b∈c.own,b<t0.heap.objs.size:=fun b hb=>by obtain⟨o,e⟩:=T0.live hb;exact Heap.lt_size e
 have fr:∀ b,t0.heap.objs.size≤b->t0.heap.get? b=none:=fun b h=>Heap.get?_none_of_le h
 have oH:∀ b∈[sG.heap.objs.size+1,L2,a2,L1,a1],t0.heap.objs.size≤b:=fun b hb=>by
  simp only[List.mem_cons,List.not_mem_nil,or_false]at hb
  rcases hb with rfl|rfl|rfl|rfl|rfl
  · rw[h6,h3];exact o178
  · rw[h4,h3];exact Nat.le_add_right _ _
  · rw[h5,h3];exact o179
  · rw[h1];exact Nat.le_refl _
  · rw[h2];exact Nat.le_succ _
 have hBo:∀ b∈[sG.heap.objs.size+1,L2,a2,L1,a1],B1.get? b=none:=fun b hb=>T0.noB (fr b (oH b hb))
 have gsz:g2≠g1:=by
  have:g1<sE.gens.size:=by
   have:=N1.st
   rcases Nat.lt_or_ge g1 sE.gens.size with q|q
   · exact q
   · rw[Array.getElem?_eq_none q]at this;cases this
  exact o180 h7 h8 this
 have hb:=T0.ok.toBaseOk
 have n12:L1≠a1:=by rw[h1,h2];exact Nat.ne_of_lt (Nat.lt_succ_self _)
 have n34:L2≠a2:=by rw[h4,h5];exact Nat.ne_of_lt (Nat.lt_succ_self _)
 have m1:L2∉ [L1,a1]:=by
  simp only[List.mem_cons,List.not_mem_nil,or_false,not_or]
  rw[h4,h3,h1,h2];exact⟨Nat.ne_of_gt (by exact o182),Nat.ne_of_gt (by exact o181)⟩
 have m2:a2∉ [L1,a1]:=by
  simp only[List.mem_cons,List.not_mem_nil,or_false,not_or]
  rw[h5,h3,h1,h2];exact⟨Nat.ne_of_gt (by exact o184),Nat.ne_of_gt (by exact o183)⟩
 have FR:∀ s'',eG [L1,a1] [g1] sE s''->aU B1 s''->Itb pr w (d+1) (u+2+4) B1 (.ref a1) [L1,a1] [g1] (bJ 0 ms) s'':=fun s'' hSt hk=>
  itb_rel hb (fun b hm=>hBo b (.tail _ (.tail _ (.tail _ hm)))) n12 (by simp) (by simp) (by simp) (by exact lu hd rfl) hok (fun b h=>by cases h) ((gk.uP N1 fun s3 V hk=>J4 ⟨n',gl⟩ (w7 al)).still hSt)
 have FF:gk pr w d (u+2) B1 (cQ w.params) 975 L2 a2 g2 [L1,a1] [g1] (Itb pr w (d+1) (u+2+4) B1 (.ref a1) [L1,a1] [g1] (bJ 0 ms)) (.ref a1) sG:=gk.uP N2 fun s'' hSt hk=>
  FR s'' ⟨fun b hb o e=>hSt.heap b hb o (N2.old b o e),fun i hi x e=>hSt.gens i hi x (N2.gold i x e)⟩ hk
 have hz':(aV 0 (bJ 0 ms)).length<sizeLine:=by
  have:=iH 0 (bJ 0 ms)
  rw[jy]at this
  rw[sizeLine_eq];exact o185 hz this
 have q1:t0.heap.objs.size+1<sG.heap.objs.size:=by exact o186 h3 h6
 have li:∀ b∈[L1,a1],b<sG.heap.objs.size:=fun b hm=>by
  simp only[List.mem_cons,List.not_mem_nil,or_false]at hm
  rcases hm with rfl|rfl
  · rw[h1];exact Nat.lt_of_succ_lt q1
  · rw[h2];exact q1
 refine Jq (B:=B1) (I:=a2) (g:=g2) (own:=[sG.heap.objs.size+1,L2,a2,L1,a1]) (og:=[g2,g1]) (ms:=aV 0 (bJ 0 ms)) N2.gen (fun s' hzs hSt hk=>?_) S2.keep (fun hm=>?_) hBo hz' fun s' vs c' T hL hms=>?_
 · have key:=Eu hb (fun b hm=>hBo b (.tail _ hm)) n34 m1 m2 (by simpa using gsz) (by exact iY hd rfl) (qI 0 ms hok) hk (fun b hm=>by rw[hzs];exact Nat.lt_succ_of_lt (li b hm)) (FF.still ⟨fun b hb o e=>hSt.heap b (.tail _ hb) o e,fun i hi x e=>hSt.gens i hi x e⟩)
   rw[hzs]at key
   exact key
 · simp only[List.mem_cons,List.not_mem_nil,or_false]at hm
   rcases hm with hm|hm|hm|hm|hm
   · exact absurd hm (Nat.ne_of_lt (Nat.lt_succ_self _))
   · rw[h4,h6]at hm;exact absurd hm (Nat.ne_of_gt (by exact o187 hm))
   · rw[h5,h6]at hm;exact absurd hm (Nat.ne_of_gt (by exact o188 hm))
   · have:=li L1 (.head _);rw[←hm]at this;exact Nat.lt_irrefl _ this
   · have:=li a1 (.tail _ (.head _));rw[←hm]at this;exact Nat.lt_irrefl _ this
 · have up:Sub t0.heap s'.heap:=fun b o e=>T.heap b o (fun hm=>Nat.not_lt.mpr (oH b hm) (Heap.lt_size e)) (fun z=>by have:=Heap.lt_size (up02 b o e);rw[z]at this;exact Nat.lt_irrefl _ this) (up02 b o e)
   obtain⟨k,S'⟩:=T0.grow up ⟨(T.os.trans N2.os).trans N1.os,(T.drawn.trans N2.drawn).trans N1.drawn⟩
   have big:t0.heap.objs.size≤sG.heap.objs.size:=by rw[h6,h3];exact o189
   refine hQ _ s' _ ((kO.trans kE).trans k) S' ⟨sG.heap.objs.size,vs,c',rfl,T0.inB up hL (.inr (fr _ big)),qM (fun b o hZ e=>T0.inB up e ?_) hms⟩
   rcases hZ.2 with h|h|h
   · exact .inl h
   · refine .inr ?_
     cases q:t0.heap.get? b with
     |none=>rfl
     |some o'=>rw[up02 b o' q]at h;cases h
   · exact .inr (fr b (oH b h))
end
section
variable{pr:Program}{w:World}{os0:OsState}{d u:Nat}{c:aF}
noncomputable def jV(s:Shared)(as:List Addr):List (Addr×MO):=as.map fun a=>(a,.raw fun o=>s.heap.get? a=some o)
theorem qO(s:Shared)(as:List Addr):(jV s as).map (·.1)=as:=by
 unfold jV
 rw[List.map_map]
 exact List.map_id _
noncomputable def aF.outer(c:aF):List Addr:=c.L::c.cl.map (·.2.1)
theorem LS.enter{B:Heap}{s s':Shared}(S:LS w os0 c B s){L:Addr}{ρ0:List (Str×Rl)}{m:Str->Option Value}(hL:s.heap.get? L=none)(hk:Sub s.heap s'.heap)(hn:s'.heap.Ns L m)(hl:jP B ρ0 m)(q:Qs s s':=by exact⟨rfl,rfl⟩):LS w os0 ⟨L,ρ0,[],jV s c.outer++c.M⟩ B s':=by
 have hown:aF.own ⟨L,ρ0,[],jV s c.outer++c.M⟩=L::c.own:=by
  simp only[aF.own,List.map_append,qO,List.map_nil,List.nil_append,aF.outer,List.cons_append]
 refine⟨S.ok,fun b o e=>hk _ _ (S.keep b o e),⟨m,hn,hl⟩,fun p hp=>(by cases hp),fun p hp=>?_,fun a ha=>?_,?_,q.1.trans S.os,q.2.trans S.bare⟩
 · rcases List.mem_append.mp hp with hp|hp
   · obtain⟨a,ha,rfl⟩:=List.mem_map.mp hp
     have:a∈c.own:=by
      unfold aF.outer at ha
      unfold aF.own
      rcases List.mem_cons.mp ha with rfl|ha
      · exact .head _
      · exact .tail _ (List.mem_append_left _ ha)
     obtain⟨o,e⟩:=S.live this
     exact⟨o,hk _ _ e,e⟩
   · exact(S.muts p hp).keeps (Sub.refl B) fun o e=>hk _ _ e
 · rw[hown]at ha
   rcases List.mem_cons.mp ha with rfl|ha
   · exact S.noB hL
   · exact S.out a ha
 · rw[hown]
   exact List.nodup_cons.mpr ⟨fun hm=>S.ne hm hL rfl,S.nd⟩
theorem LS.leave{B B':Heap}{s s':Shared}(S:LS w os0 c B s){L:Addr}{ρ:List (Str×Rl)}{cl:List (Str×Addr×Option Rl)}{N:List (Addr×MO)}(S':LS w os0 ⟨L,ρ,cl,N++(jV s c.outer++c.M)⟩ B' s')(k:Sub B B'):LS w os0 c B' s':=by
 have same:∀ a∈c.outer,∀ o,s.heap.get? a=some o->s'.heap.get? a=some o:=fun a ha o e=>by
  obtain⟨o',e1,e2⟩:=S'.muts (a,.raw fun o=>s.heap.get? a=some o) (List.mem_append_right _ (List.mem_append_left _ (List.mem_map_of_mem ha)))
  rw[e]at e2;cases e2;exact e1
 refine⟨S'.ok,S'.keep,?_,fun p hp=>dg k (fun o e=>same _ (.tail _ (List.mem_map_of_mem (f:=fun x:Str×Addr×Option Rl=>x.2.1) hp)) o e) (S.cells p hp),fun p hp=>S'.muts p (List.mem_append_right _ (List.mem_append_right _ hp)),fun a ha=>S'.out a ?_,S.nd,S'.os,S'.bare⟩
 · refine gG fun P_ k_=>?_
   obtain⟨m,⟨o,es,n,e1,e2⟩,hl⟩:=S.fr
   refine k_ ?_
   exact⟨m,⟨o,es,n,same _ (.head _) o e1,e2⟩,hl.mono k⟩
 · unfold aF.own at ha⊢
   refine .tail _ (List.mem_append_right _ ?_)
   show a∈(N++(jV s c.outer++c.M)).map (·.1)
   rw[List.map_append,List.map_append,qO]
   refine List.mem_append_right _ ?_
   rcases List.mem_cons.mp ha with rfl|ha
   · exact List.mem_append_left _ (.head _)
   · rcases List.mem_append.mp ha with ha|ha
     · exact List.mem_append_left _ (.tail _ ha)
     · exact List.mem_append_right _ ha
inductive rP(B:Heap):List (Str×Rl)->List (Str×Value)->Prop
 |nil:rP B [] []
 |cons {x:Str} {R:Rl} {v:Value} {ρ bs}:R.r B v->rP B ρ bs->rP B ((x,R)::ρ) ((x,v)::bs)
theorem rP.locR{B:Heap}{ρ:List (Str×Rl)}{bs:List (Str×Value)}(h:rP B ρ bs)(hn:(ρ.map (·.1)).Nodup):jP B ρ (fun x=>bs.reverse.lookup x):=by
 have k1:aW [] (bs.map fun p=>(p.1,AV.glob p.2)) bs:=by
  clear h hn
  induction bs with
  |nil=>exact .nil
  |cons p bs ih=>exact .cons rfl ih
 have e1:(bs.map fun p=>(p.1,AV.glob p.2)).map (·.1)=ρ.map (·.1):=by
  clear hn k1
  induction h with
  |nil=>rfl
  |cons _ _ ih=>simp only[List.map_cons];rw[ih]
 have k2:=LR.uQ k1 (by rw[e1];exact hn)
 intro x R e
 have k3:=k2 x
 have:∃ v,(bs.map fun p=>(p.1,AV.glob p.2)).lookup x=some (.glob v)∧R.r B v:=by
  clear k1 e1 k2 k3 hn
  induction h with
  |nil=>simp at e
  | @cons y R' v ρ bs r _ ih=>
   by_cases h:x=y
   · subst h
     simp[List.lookup]at e
     subst e
     exact⟨v,by simp[List.lookup],r⟩
   · have b:(x==y)=false:=by simpa using h
     simp only[List.lookup,b]at e
     obtain⟨v',e',r'⟩:=ih e
     exact⟨v',by simp only[List.map_cons,List.lookup,b];exact e',r'⟩
 obtain⟨v,e',r⟩:=this
 rw[e']at k3
 obtain⟨v',e2,e3⟩:=k3
 cases e3
 exact⟨_,e2,r⟩
theorem RC.def{fa:Addr}{fd:FuncData}{body:List Stmt}{first as ks:List Rl}{ns:List Str}{ρ0:List (Str×Rl)}{R:Rl}(F:d8 w.params fa fd)(hbody:fd.body=.stmts body)(hgen:fd.scope.isGenerator=false)(hd:d<recursionLimit)
 (hbind:∀ B fs vs kvs,bx B fs first->bx B vs as->bx B kvs ks->∃ binds,(∀ S,peek (KK w.params) S (bindArgs fd ⟨fs++vs,ns.zip kvs⟩)=some binds)∧(∀ x∈binds,fd.scope.names.lookup x.1=some .local)∧jP B ρ0 (fun x=>binds.reverse.lookup x))
 (h:∀ L hid,BR pr w (d+1) (u+3) ⟨L,ρ0,[],hid++c.M⟩ (execs body (callEnv fd L fa)) R (hid++c.M)):RC pr w d u c (.ref fa) first as ns ks R.r c:=.mk fun B s fs vs kvs S r1 r2 r3 Q hQ=>by
 obtain⟨cc,dd,sl,hl⟩:=F.l
 have X:(KK w.params).In s.heap:=fun a o e=>S.keep _ _ (S.ok.aZ _ _ e)
 obtain⟨binds,b1,b2,b3⟩:=hbind B fs vs kvs r1 r2 r3
 refine wpAny_call (codeAny_call_function hd (X _ _ hl) rfl F.co hgen hbody (codeRec_of X F.cd) ?_)
 refine(Looks.of_peek X (b1 _)).here ?_
 refine wpAny_newFunctionEnv (fun x hx=>by have:=List.all_eq_true.mp F.cell x hx;simpa using this) b2 (fun h₀ hns0 hsb0=>⟨(S.ok.lim.keeps S.keep).fresh _ hsb0,codeAny_func ?_⟩) F.k
 have k0:Sub s.heap h₀:=fun b o e=>hsb0.extBut b o (Nat.ne_of_lt (Heap.lt_size e)) (Heap.get?_push_of_some _ e)
 have S1:=S.enter (s':={s with heap:=h₀,toks:=s.toks+binds.length}) (Heap.get?_none_of_le (Nat.le_refl _)) k0 hns0 b3
 refine wpAny_mono ((h s.heap.objs.size (jV s c.outer)).run B _ S1 (fun f s'=>Rt Q (.ok (.ret (match f with|.ret v=>v|_=>.none))) s') fun B' s' v L ρ cl N k S' r=>?_) (fun f s' z=>?_) fun V V z=>z.elim
 · exact hQ B' s' v k (S.leave S' k) r
 · exact z
end
noncomputable abbrev cH:Str:=⟨#[116,114,97,99,107,115]⟩
noncomputable def o982(P:Params):Array Value:=match(t6.o_1207 P).data with|.fields vs=>vs|_=>#[]
theorem ch_983(P:Params)(h:Heap)(H:(KK P).In h):CodeHd h 982 978:=by
 obtain⟨o,vs,file,tf,flags,tg,inF,text,tt,h1,h2⟩:∃ o vs file tf flags tg inF text tt,(KK P).lookup 982=some o∧o.cls=.type "code"∧o.data=.fields vs∧vs[11]? =some (.ref 978)∧vs.getD 11 .none=.ref 978∧vs.getD 18 .none=.str file tf∧
  vs.getD 7 .none=.int flags tg∧vs.getD 9 .none=.bool inF∧vs.getD 10 .none=.int text tt∧(982:Addr)≠978:=⟨t6.o_1207 P,o982 P,_,_,_,_,_,_,_,by rfl,by rfl,by rfl,by rfl,by rfl,by rfl,by rfl,by rfl,by rfl,by decide⟩
 exact⟨o,vs,file,tf,flags,tg,inF,text,tt,H _ _ h1,h2⟩
theorem pk_983(P:Params)(K:Frag)(hK:K=KK P)(v:Value)(S:Setting):peek K S (bindArgs (mV P) ⟨[v],[]⟩)=some [(cH,v),(aj,.bool false)]:=by subst hK;kernel_rfl
theorem bh.put{ρ:List (Str×Rl)}{x:Str}{R:Rl}(h:ρ.lookup x=none):bh (pB x R ρ) ρ:=fun y R' e=>by
 rw[jT]
 by_cases hy:y=x
 · subst hy;rw[h]at e;cases e
 · rw[if_neg hy];exact e
section
variable{pr:Program}{w:World}{os0:OsState}{d u:Nat}
noncomputable def bH(tracks:List (List ak)):List ak:=tracks.flatMap (bB 0)
noncomputable def pI(tracks:List (List ak)):List ak:=aV 0 (bJ 0 (aX ak.time (bH tracks)))
noncomputable abbrev gB:Pos:=⟨490,22,490,42⟩
noncomputable abbrev eU(P:Params):Str:=(callEnv (mV P) 0 0).qual++"<lambda>"
noncomputable def bA(pr:Program)(w:World)(ms:List ak):Rl:=Rl.list (ms.map (Rl.msg pr w))
noncomputable def mcx(pr:Program)(w:World)(L Sa:Addr)(tracks:List (List ak))(X:List (Addr×MO))(i:Nat):aF:=⟨L,[(cH,Rl.list (tracks.map (bA pr w))),(aj,Rl.val (.bool false)),(aH,Rl.val (.ref Sa))],[],(Sa,.lst ((bH (tracks.take i)).map (Rl.msg pr w)))::X⟩
theorem vM(tracks:List (List ak)):(bH tracks).length=(tracks.map List.length).sum:=by
 induction tracks with
 |nil=>rfl
 |cons t r ih=>simp only[bH,List.flatMap_cons,List.length_append,List.map_cons,List.sum_cons,iW]at ih⊢;rw[ih]
theorem yd{tracks:List (List ak)}(h:∀ t∈tracks,∀ m∈t,m.ok):∀ m∈bH tracks,m.ok:=fun m hm=>by
 obtain⟨t,ht,hm⟩:=List.mem_flatMap.mp hm
 exact yc 0 t (h t ht) m hm
theorem tK{tracks:List (List ak)}{i:Nat}{t:List ak}(h:tracks[i]? =some t):bH (tracks.take (i+1))=bH (tracks.take i)++bB 0 t:=by
 unfold bH
 rw[List.take_add_one,h]
 simp
theorem JK{tracks:List (List ak)}(i:Nat):(bH (tracks.take i)).length≤(bH tracks).length:=by
 have:bH tracks=bH (tracks.take i)++bH (tracks.drop i):=by
  unfold bH
  rw[←List.flatMap_append,List.take_append_drop]
 rw[this,List.length_append];exact o10
theorem Mx{A0:Array Value}{tracks:List (List ak)}{L:Addr}{pre post:List (Addr×MO)}(hok:∀ t∈tracks,∀ m∈t,m.ok)(hz:(bH tracks).length<64)(hd:d+140<recursionLimit):
 BR pr w d u ⟨L,[(cH,Rl.list (tracks.map (bA pr w))),(aj,Rl.val (.bool false))],[],pre++(978,.tab gB (eU w.params) A0)::post⟩ (execs (iI (mV w.params)) (callEnv (mV w.params) L 983)) (bA pr w (pI tracks)) (pre++(978,.tab gB (eU w.params) A0)::post):=by
 have E:cO (callEnv (mV w.params) L 983) L:=⟨rfl,rfl,rfl,rfl⟩
 refine BR.newList E rfl rfl fun Sa=>?_
 refine BR.cons (XR.rJ E (mcx pr w L Sa tracks _) rfl (RV.l E rfl rfl rfl) rfl (fun V=>rfl) (fun i R hR it P=>?_) (fun V=>rfl) (fun V V=>rfl)) ?_
 · rw[List.getElem?_map]at hR
   cases ht:tracks[i]? with
   |none=>rw[ht]at hR;cases hR
   |some t=>
    rw[ht]at hR
    cases hR
    have hmem:t∈tracks:=List.mem_of_getElem? ht
    have hlt:(bH (tracks.take i)).length+t.length≤(bH tracks).length:=by
     have:=JK (tracks:=tracks) (i+1)
     rw[tK ht,List.length_append,iW]at this
     exact this
    refine XR.cons (XR.weakρ (Mf E (Sa:=Sa) (ms:=t) (pre:=[(it,.raw P)]) rfl rfl rfl rfl (hok t hmem) (by rw[List.length_map,sizeLine_eq];exact o190 hz hlt) (by exact iY hd rfl) rfl rfl rfl rfl (yt _) rfl rfl rfl rfl (fu_959 _) (kp_959 _)) (ρ':=(mcx pr w L Sa tracks (pre++(978,.tab gB (eU w.params) A0)::post) (i+1)).ρ) ?_) (XR.ctx XR.nil ?_)
    · exact bh.put (by rfl)
    · simp only[aF.with,mcx,aF.put,tK ht,List.map_append]
      rfl
 · have hA:(bH tracks).length<64:=hz
   have e0:mcx pr w L Sa tracks (pre++(978,.tab gB (eU w.params) A0)::post) (tracks.map (bA pr w)).length=mcx pr w L Sa tracks (pre++(978,.tab gB (eU w.params) A0)::post) tracks.length:=by rw[List.length_map]
   rw[e0]
   refine BR.cons (Hq E (A0:=A0) (Sa:=Sa) (P:=978) (ca:=982) (ms:=bH tracks) (pre:=[]) (post:=pre++(978,.tab gB (eU w.params) A0)::post) (post':=post) (pre':=(Sa,.lst ((bH tracks).map (Rl.msg pr w)))::pre) ?_ rfl hz (by exact iY hd rfl) rfl rfl (fun h H=>ch_983 w.params h H) ?_ ⟨by decide,by decide,by decide⟩ rfl rfl rfl) ?_
   · simp only[mcx,List.take_length];rfl
   · simp only[mcx,List.take_length];rfl
   · refine BR.step (St.ready (x:=aH) (a:=Sa) (Rs:=(aX ak.time (bH tracks)).map (Rl.msg pr w)) (pre:=[]) (post:=pre++(978,.tab gB (eU w.params) A0)::post) rfl rfl) ?_
     refine BR.ret (N:=[]) (fix_rel E (ms:=aX ak.time (bH tracks)) rfl rfl (fun m hm=>yd hok m ((cU _ _).mem_iff.mp hm)) (by rw[jC];exact o191 hz) (by exact iY hd rfl) rfl rfl rfl (yr _) rfl rfl (kj _) rfl rfl (b3_list _) (b0_list _) rfl (fu_967 _) (Jf _) (kp_967 _) (Ii _)) rfl
theorem K3{A0:Array Value}{c:aF}{tracks:List (List ak)}{pre post:List (Addr×MO)}(hM:c.M=pre++(978,.tab gB (eU w.params) A0)::post)(hok:∀ t∈tracks,∀ m∈t,m.ok)(hz:(bH tracks).length<64)(hd:d+150<recursionLimit):
 RC pr w d u c (.ref 983) [] [Rl.list (tracks.map (bA pr w))] [] [] (bA pr w (pI tracks)).r c:=by
 refine RC.def (fd:=mV w.params) (body:=iI (mV w.params)) (ρ0:=[(cH,Rl.list (tracks.map (bA pr w))),(aj,Rl.val (.bool false))]) (fu_983 w.params) rfl rfl (by exact jx hd) (fun B fs vs kvs r1 r2 r3=>?_) fun L hid=>?_
 · cases r1
   cases r3
   obtain _|⟨r,_|_⟩:=r2
   rename_i v
   refine⟨_,fun S=>pk_983 w.params _ rfl v S,fun x hx=>?_,rP.locR (.cons r (.cons rfl .nil)) (by simp)⟩
   simp only[List.mem_cons,List.not_mem_nil,or_false]at hx
   rcases hx with rfl|rfl<;>rfl
 · have e:hid++c.M=(hid++pre)++(978,.tab gB (eU w.params) A0)::post:=by rw[hM,List.append_assoc]
   rw[e]
   exact Mx (A0:=A0) hok hz (by exact lu hd rfl)
end
noncomputable def GF(pr:Program)(w:World)(s:Shared)(n:Nat):Cx:=⟨pr,w,s.heap,n,s.gens,lw s,s.os⟩
noncomputable def Rl.dct(pr:Program)(w:World)(kvs:List (Str×AV)):Rl:=⟨fun h v=>∃ a,v=.ref a∧sysModules<a∧OR pr w [] h a (.dict kvs),fun k ⟨a,e,l,r⟩=>⟨a,e,l,r.keeps k⟩⟩
section
variable{pr:Program}{w:World}{os0:OsState}{d u:Nat}{c:aF}{B:Heap}{s:Shared}{env:Env}{pos:Pos}
theorem LS.bs(S:LS w os0 c B s)(n:Nat):Bs (GF pr w s n):=⟨fun a o e=>S.keep _ _ (S.ok.aZ a o e),S.ok.lim.keeps S.keep⟩
theorem LS.gP(S:LS w os0 c B s):∃ o,s.heap.get? sysModules=some o:=S.ok.sys.imp fun o e=>S.keep _ _ e
theorem LS.rep0(S:LS w os0 c B s):aC (GF pr w s 0) [] [] [] s:=
 ⟨fun V V e=>e,trivial,rfl,(fun n a o e=>by simp at e),(fun n a V e=>by simp at e),(fun i j a V e=>by simp at e),(fun p hp=>by cases hp),List.nodup_nil,S.gP,(fun n a e=>by simp at e),fun V V e=>e,rfl,rfl⟩
theorem LS.repM(S:LS w os0 c B s){m:ak}{v:Value}(hv:(Rl.msg pr w m).r B v):∃ f k a,v=.ref a∧(∀ b∈[f,k,a],∃ o,B.get? b=some o)∧aC (GF pr w s 3) [f,k,a] m.small [] s:=by
 refine gG fun P_ k_=>?_
 obtain⟨f,k,a,rfl,⟨x1,x2,x3⟩,⟨s1,s2,s3⟩,r1,r2,r3⟩:=eN.inB hv S.keep
 refine k_ ?_
 refine⟨f,k,a,rfl,fun b hb=>?_,fun V V e=>e,trivial,rfl,fun n b o e1 e2=>?_,fun n b hn e=>?_,fun i j b hi e=>?_,(fun p hp=>by cases hp),List.nodup_nil,S.gP,fun n b e=>?_,fun V V e=>e,rfl,rfl⟩
 · simp only[List.mem_cons,List.not_mem_nil,or_false]at hb
   rcases hb with rfl|rfl|rfl<;>assumption
 · match n,e1,e2 with
   |0,e1,e2=>cases e1;cases e2;exact r1
   |1,e1,e2=>cases e1;cases e2;exact r2
   |2,e1,e2=>cases e1;cases e2;exact r3
 · have:=(List.getElem?_eq_some_iff.mp e).1
   have h3:3≤n:=hn
   simp at this;omega
 · have:=(List.getElem?_eq_some_iff.mp e).1
   have h3:3≤i:=hi
   simp at this;omega
 · match n,e with
   |0,e=>cases e;exact s1
   |1,e=>cases e;exact s2
   |2,e=>cases e;exact s3
theorem RC.I4{fv:Value}{as:List Rl}{ns:List Str}{ks:List Rl}{oN:List AV}{kvs:List (Str×AV)}{m:ak}(ha:∀ B vs,bx B vs as->bM [] oN vs)(hk:∀ B ws,bx B ws ks->aW [] kvs (ns.zip ws))
 (J:∀ C:Cx,Bs C->JC C d u [] [] (.glob fv) oN kvs (.ref 2) m.small):RC pr w d u c fv [] as ns ks (Rl.msg pr w m).r c:=.mk fun B s fs vs kws S r1 r2 r3 Q hQ=>by
 cases r1
 refine(J _ (S.bs 0)).v.run [] s fv vs (ns.zip kws) S.rep0 rfl (ha B vs r2) (hk B kws r3) Q fun α' s' y E R r=>?_
 have up:Sub s.heap s'.heap:=R.keep
 obtain⟨k,S'⟩:=S.grow up ⟨R.os,R.drawn⟩
 obtain⟨x,y',z,rfl⟩:∃ x y z,α'=[x,y,z]:=by
  have:=R.len
  match α',this with
  |[x,y,z],_=>exact⟨x,y,z,rfl⟩
 obtain⟨a,ea,rfl⟩:=r
 cases ea
 have fr:∀ b∈[x,y',z],s.heap.get? b=none:=fun b hb=>by
  obtain⟨i,hi⟩:=List.getElem?_of_mem hb
  exact R.fresh i b (Nat.zero_le _) hi
 refine hQ _ s' _ k S' ⟨x,y',z,rfl,⟨trivial,trivial,trivial⟩,⟨R.sys 0 x rfl,R.sys 1 y' rfl,R.sys 2 z rfl⟩,?_,?_,?_⟩
 · exact(R.obj 0 x (.dict m.fields) rfl rfl).m7 (X:=fun b=>s.heap.get? b=none) (fun b o hb e=>S.inB up e (.inr hb)) (fr x (by simp))
 · exact(R.obj 1 y' (.dict [(aR,.ref 0)]) rfl rfl).m7 (X:=fun b=>s.heap.get? b=none) (fun b o hb e=>S.inB up e (.inr hb)) (fr y' (by simp))
 · exact(R.obj 2 z (.inst m.cls 1) rfl rfl).m7 (X:=fun b=>s.heap.get? b=none) (fun b o hb e=>S.inB up e (.inr hb)) (fr z (by simp))
noncomputable def iV(g m t:Int):ak:=if g.fmod 4=0 then .note (m.fmod 16) ((m.fdiv 16).fmod 128) 64 t else if g.fmod 4=1 then .oK 0 (m.fmod 128) ((m.fdiv 128).fmod 128) t else if g.fmod 4=2 then .prog 0 (m.fmod 128) t else .text (toString (m.fmod 1000)) t
theorem ev_msg{g m t:Int}{C:Cx}{H:List AO}{fr:List (Addr×FE)}(hB:Bs C)(hd:d+100<recursionLimit):JC C d u H fr (.glob (.ref 990)) [.int g,.int m,.int t] [] (.ref (H.length+2)) (H++[.dict (iV g m t).fields,.dict [(aR,.ref H.length)],.inst (iV g m t).cls (H.length+1)]):=by
 unfold iV
 split
 · exact jM (H₀:=[]) (es:=[]) (as:=[.int g,.int m,.int t]) (kw:=[]) (js:=[3,0,1]) (q:=fun X=>g.fmod 4=0∧chw (m.fmod 16) ((m.fdiv 16).fmod 128) 64 X) 0 hB hd (by kernel_rfl) ⟨by assumption,oM ⟨fm16 _,yR _,by decide⟩ eX⟩ rfl rfl
 split
 · exact jM (H₀:=[]) (es:=[]) (as:=[.int g,.int m,.int t]) (kw:=[]) (js:=[3,0,1]) (q:=fun X=>g.fmod 4≠0∧g.fmod 4=1∧chw 0 (m.fmod 128) ((m.fdiv 128).fmod 128) X) 1 hB hd (by kernel_rfl) ⟨by assumption,by assumption,oM ⟨by decide,yR _,yR _⟩ eX⟩ rfl rfl
 split
 · exact jM (H₀:=[]) (es:=[]) (as:=[.int g,.int m,.int t]) (kw:=[]) (js:=[3,0,1]) (q:=fun X=>g.fmod 4≠0∧g.fmod 4≠1∧g.fmod 4=2∧chk 0 (m.fmod 128) X) 2 hB hd (by kernel_rfl) ⟨by assumption,by assumption,by assumption,vJ ⟨by decide,yR _⟩ eX⟩ rfl rfl
 · exact jM (H₀:=[]) (es:=[]) (as:=[.int g,.int m,.int t]) (kw:=[]) (js:=[38,0,1]) (q:=fun X=>g.fmod 4≠0∧g.fmod 4≠1∧g.fmod 4≠2∧0≤m.fmod 1000∧m.fmod 1000<1000∧X) 3 hB hd (by kernel_rfl) ⟨by assumption,by assumption,by assumption,(Jh _).1,(Jh _).2,eX⟩ rfl rfl
theorem RC.event{g m t:Int}(hd:d+110<recursionLimit):RC pr w d u c (.ref 990) [] [Rl.int g,Rl.int m,Rl.int t] [] [] (Rl.msg pr w (iV g m t)).r c:=by
 refine RC.I4 (oN:=[.int g,.int m,.int t]) (kvs:=[]) (fun B vs h=>?_) (fun B ws h=>by cases h;exact .nil) fun C hB=>?_
 · cases h with
   |cons a h=>cases h with
    |cons b h=>cases h with
     |cons c h=>cases h;exact .cons a (.cons b (.cons c .nil))
 · exact ev_msg hB (by exact iY hd rfl)
theorem RC.meta{t:Int}(hd:d+110<recursionLimit):RC pr w d u c (.ref 949) [] [Rl.str bG] [au] [Rl.int t] (Rl.msg pr w (.eot t)).r c:=by
 refine RC.I4 (oN:=[.str bG]) (kvs:=[(au,.int t)]) (fun B vs h=>?_) (fun B ws h=>?_) fun C hB=>lC hB (by exact iY hd rfl)
 · cases h with
   |cons a h=>cases h;exact .cons a .nil
 · cases h with
   |cons a h=>cases h;exact .cons a .nil
theorem RV.mtime{o:Expr}{m:ak}{p:Pos}(h:RV pr w d u c (eval o env) (Rl.msg pr w m))(hd:d+20<recursionLimit)
 (he:eval (.Attribute o au p) env=(do
  let x←eval o env
  standAt p.atName
  let r←holding [x] (getAttr x au true)
  letTemporaryGo o x r
  pure r)):RV pr w d u c (eval (.Attribute o au p) env) (Rl.int m.time):=.mk fun B s S Q hQ=>by
 rw[he]
 refine wpAny_bind (h.go S fun B1 sE x kE S1 rA=>wpAny_bind (wpAny_standAt (wpAny_bind (wpAny_holding ?_))))
 refine gG fun P_ k_=>?_
 obtain⟨f,k,a,rfl,hb,R⟩:=S1.repM rA
 refine k_ ?_
 refine(AP1 (S1.bs 3) (m.HD _) (bV m).1 (bV m).2.1 (Aj (S1.bs 3) (by exact iY hd rfl) (bV m).1 (bV m).2.1 (bV m).2.2) rfl).run _ sE (.ref a) R ⟨a,rfl,rfl⟩ _ fun α2 sG y Ec R2 rB=>?_
 have up:Sub sE.heap sG.heap:=R2.keep
 obtain⟨kI,S2⟩:=S1.grow up ⟨R2.os,R2.drawn⟩
 exact wpAny_bind (wpAny_letTemporaryGo (wpAny_pure (hQ _ sG y (kE.trans kI) S2 rB)))
theorem ak.fnDict(C:Cx)(m:ak):FnF C m.cls nP 214:=by cases m<;>first|exact Dh C|exact Dd C
theorem RV.mdict{o:Expr}{m:ak}{apos:Pos}{pl:Sem Bool}(h:RV pr w d u c (eval o env) (Rl.msg pr w m))(hd:d+30<recursionLimit)
 (he:eval (.Call (.Attribute o nP apos) [] [] pos) env=(do
  let ov←eval o env
  standAt apos.atName
  let(f,first)←holding [ov] (getMethod ov nP pl)
  callWith pos f first (backTo pos (starEach [] env)) (backToKw pos (keywordEach [] env)))):RV pr w d u c (eval (.Call (.Attribute o nP apos) [] [] pos) env) (Rl.dct pr w m.fields):=.mk fun B s S Q hQ=>by
 refine methodCall_KW (pl:=pl) (he:=he) (h.go S fun B1 sE x kE S1 rA=>?_)
 refine gG fun P_ k_=>?_
 obtain⟨f,k,a,rfl,hb,R⟩:=S1.repM rA
 refine k_ ?_
 have hB:=S1.bs (pr:=pr) 3
 refine(AF1 hB (m.fnDict _) (bV m).1 (bV m).2.1 rfl).run _ sE (.ref a) R ⟨a,rfl,rfl⟩ _ fun α2 sG y Ec R2 rB=>?_
 refine(Fs.call hB.aZ rfl (kp_214 _) Sp.nil Ea.nil rfl (JC.v (Kp hB (by exact iY hd rfl) (bV m).1 (bV m).2.1 (bV m).2.2)) rfl rfl rfl).run _ sG y R2 rB _ fun α3 sI z E3 R3 rC=>?_
 have up:Sub sE.heap sI.heap:=R3.keep
 obtain⟨kI,S2⟩:=S1.grow up ⟨R3.os,R3.drawn⟩
 obtain⟨b,eb,rfl⟩:=rC
 have fr:sE.heap.get? b=none:=R3.fresh 3 b (Nat.le_refl _) eb
 refine hQ _ sI _ (kE.trans kI) S2 ⟨b,rfl,R3.sys 3 b eb,?_⟩
 have o0:=R3.obj 3 b (.dict m.fields) eb rfl
 have:=OR.shrink (α:=[]) ⟨α3,rfl⟩ o0 (m.xP 0)
 exact this.m7 (X:=fun b=>sE.heap.get? b=none) (fun b o hb e=>S1.inB up e (.inr hb)) fr
end
section
variable{pr:Program}{w:World}{os0:OsState}{d u:Nat}{c:aF}{B B':Heap}{s s':Shared}{env:Env}{pos:Pos}
theorem LS.enterC(S:LS w os0 c B s){C:Addr}{m:Str->Option Value}(hC:s.heap.get? C=none)(hk:Sub s.heap s'.heap)(hn:s'.heap.Ns C m)(q:Qs s s':=by exact⟨rfl,rfl⟩):LS w os0 ⟨C,[],c.cl,(c.L,.raw fun o=>s.heap.get? c.L=some o)::c.M⟩ B s':=by
 have hp:(aF.own ⟨C,[],c.cl,(c.L,.raw fun o=>s.heap.get? c.L=some o)::c.M⟩).Perm (C::c.own):=by
  simp only[aF.own,List.map_cons]
  exact List.Perm.cons _ List.perm_middle
 refine⟨S.ok,fun b o e=>hk _ _ (S.keep b o e),⟨m,hn,fun x R e=>by simp at e⟩,fun p hp=>dg (Sub.refl B) (fun o e=>hk _ _ e) (S.cells p hp),fun p hp=>?_,fun a ha=>?_,?_,q.1.trans S.os,q.2.trans S.bare⟩
 · rcases List.mem_cons.mp hp with rfl|hp
   · obtain⟨o,e⟩:=S.live (a:=c.L) (.head _)
     exact⟨o,hk _ _ e,e⟩
   · exact(S.muts p hp).keeps (Sub.refl B) fun o e=>hk _ _ e
 · rcases List.mem_cons.mp (hp.mem_iff.mp ha)with rfl|ha
   · exact S.noB hC
   · exact S.out a ha
 · exact hp.nodup_iff.mpr (List.nodup_cons.mpr ⟨fun hm=>S.ne hm hC rfl,S.nd⟩)
theorem LS.leaveC(S:LS w os0 c B s){C:Addr}{ρ:List (Str×Rl)}{M':List (Addr×MO)}(S':LS w os0 ⟨C,ρ,c.cl,(c.L,.raw fun o=>s.heap.get? c.L=some o)::M'⟩ B' s')(k:Sub B B'):LS w os0 {c with M:=M'} B' s'∧C∉aF.own {c with M:=M'}∧B'.get? C=none:=by
 have hp:(aF.own ⟨C,ρ,c.cl,(c.L,.raw fun o=>s.heap.get? c.L=some o)::M'⟩).Perm (C::aF.own {c with M:=M'}):=by
  simp only[aF.own,List.map_cons]
  exact List.Perm.cons _ List.perm_middle
 have nd:=List.nodup_cons.mp (hp.nodup_iff.mp S'.nd)
 refine⟨⟨S'.ok,S'.keep,?_,fun p hp=>S'.cells p hp,fun p hp=>S'.muts p (.tail _ hp),fun a ha=>S'.out a (hp.mem_iff.mpr (.tail _ ha)),nd.2,S'.os,S'.bare⟩,nd.1,S'.out C (.head _)⟩
 refine gG fun P_ k_=>?_
 obtain⟨m,⟨o,es,n,e1,e2,e3⟩,hl⟩:=S.fr
 obtain⟨o',f1,f2⟩:=S'.muts (c.L,.raw fun o=>s.heap.get? c.L=some o) (.head _)
 refine k_ ?_
 rw[e1]at f2;cases f2
 exact⟨m,⟨o,es,n,f1,e2,e3⟩,hl.mono k⟩
end
section
variable{prog:Program}{w:World}{os0:OsState}{A:Around}{E:Value->Shared->Prop}{R:Result->Shared->Prop}{s:Shared}
noncomputable abbrev uD(ifs:List Expr)(env:Env):Sem Bool:=forIn ifs true fun c r=>if r=true then do let ok←isTrue c env (eval c env);pure (ForInStep.yield ok)else pure (ForInStep.yield r)
theorem xU{elt target iter:PySem.Expr}{ifs:List PySem.Expr}{scope:Scope}{pos:Pos}{it acc:Value}{env:Env}{d u:Nat}(I:Nat->Shared->Prop)
 (turn:∀ n s,I n s->wpAny (model prog w) (Ar d u) (pyNext it) (fun r sE=>match r with
  |none=>R (.ok .next) sE
  |some v=>wpAny (model prog w) (Ar d u) (letOwnedTupleGo target it v) (fun V sH=>wpAny (model prog w) (Ar d u) (assign target env v) (fun V sG=>
   wpAny (model prog w) (Ar d u) (uD ifs env) (fun ok sI=>if ok=true then wpAny (model prog w) (Ar d u) (eval elt env) (fun x s4=>
    wpAny (model prog w) (Ar d u) (call (.builtin "list.append") [acc,x]) (fun V s5=>∃ m,m<n∧I m s5) bf s4) bf sI
    else∃ m,m<n∧I m sI) bf sG) bf sH) bf sE) bf s)
 (n:Nat) (h:I n s):codeAny (model prog w) (Ar d u) (.compLoop (.ListComp elt [⟨target,iter,ifs,0⟩] scope pos) 0 it acc env) R s:=by
 refine codeAny_loop rfl I (fun n s hI=>?_) n h
 show wpAny _ _ ((compTurn (.ListComp elt [⟨target,iter,ifs,0⟩] scope pos) 0 it acc env).onRaise (fun x=>do noteFrame x env;theTreesLotGoes x)) _ _ s
 refine wpAny_noted ?_
 rw[compTurn_list]
 refine wpAny_bind (wpAny_standAt (wpAny_bind (wpAny_mono (turn n s hI) (fun r sE h₁=>?_) fun V V h'=>h'.elim)))
 cases r with
 |none=>exact wpAny_pure h₁
 |some v=>
  refine wpAny_bind (wpAny_mono h₁ (fun V sH h0'=>?_) fun V V h'=>h'.elim)
  refine wpAny_bind (wpAny_mono h0' (fun V sG h₂=>?_) fun V V h'=>h'.elim)
  refine wpAny_bind (wpAny_mono h₂ (fun okb sI h₃=>?_) fun V V h'=>h'.elim)
  cases okb with
  |false=>exact wpAny_pure ⟨rfl,h₃⟩
  |true=>exact wpAny_bind (wpAny_bind (wpAny_mono h₃ (fun x s4 h₄=>wpAny_bind (wpAny_mono h₄ (fun V s5 h₅=>wpAny_pure (wpAny_pure ⟨rfl,h₅⟩)) fun V V h'=>h'.elim)) fun V V h'=>h'.elim))
end
noncomputable def cW(O:Nat->Rl)(b:Nat->Bool)(n:Nat):List Rl:=((List.range n).filter b).map O
theorem qW(O:Nat->Rl)(b:Nat->Bool)(n:Nat):cW O b (n+1)=cW O b n++if b n=true then [O n]else []:=by
 unfold cW
 rw[List.range_succ,List.filter_append,List.map_append]
 cases h:b n<;>simp[h]
theorem Dk(O:Nat->Rl)(b:Nat->Bool)(n:Nat):(cW O b n).length≤n:=by
 unfold cW
 rw[List.length_map]
 exact Nat.le_trans (List.length_filter_le _ _) (by simp)
theorem uL{vs:List Value}{n:Nat}{v:Value}:∃ n',Obj.mapSeq (·.push v) (bK vs n)=bK (vs++[v]) n':=by
 simp only[Obj.mapSeq,bK,List.push_toArray]
 exact⟨_,rfl⟩
section
variable{pr:Program}{w:World}{os0:OsState}{d u:Nat}{c:aF}{B B':Heap}{s s':Shared}{env:Env}{pos:Pos}
theorem vL{Sa:Addr}{Rs:List Rl}{R:Rl}{v:Value}{pre post:List (Addr×MO)}(S:LS w os0 c B s)(hM:c.M=pre++(Sa,.lst Rs)::post)(r:R.r B v)(hz:Rs.length≤sizeLine){Q:Value->Shared->Prop}
 (h:∀ B' s',Sub B B'->LS w os0 {c with M:=pre++(Sa,.lst (Rs++[R]))::post} B' s'->Q .none s'):wpAny (model pr w) (Ar d u) (call (.builtin "list.append") [.ref Sa,v]) Q bf s:=by
 have hmem:(Sa,MO.lst Rs)∈c.M:=by rw[hM];simp
 obtain⟨vs,n,g,a⟩:=S.muts _ hmem
 refine wpAny_call_entry slot_list_append ⟨_,g,rfl⟩ entry_list_append ?_ (args_list_append _ _)
 show wpAny _ _ (updateSeq Sa (·.push v)>>= fun V=>ret .none) _ _ s
 refine wpAny_bind (wpAny_updateSeq g rfl (wpAny_pure ⟨_,rfl,?_⟩) (by rw[List.size_toArray,a.len];exact hz) (by rw[Array.size_push,List.size_toArray,a.len];rw[sizeLine_eq]at *;exact o192 hz))
 obtain⟨n',e'⟩:=uL (vs:=vs) (n:=n) (v:=v)
 have hg:=Heap.get?_update_self (Obj.mapSeq (·.push v)) g rfl
 rw[e']at hg
 obtain⟨B',k,eB,S'⟩:=S.turned (m':=.lst (Rs++[R])) (t:=s.toks) (h':=s.heap.update Sa (Obj.mapSeq (·.push v))) hM (fun b o hb e=>(Heap.get?_update_other _ _ (Ne.symm hb)).trans e) fun kk=>⟨vs++[v],n',hg,(a.mono kk).append (.cons (R.mono kk r) .nil)⟩
 exact h B' _ k S'
end
section
variable{pr:Program}{w:World}{os0:OsState}{d u:Nat}{c:aF}{B B':Heap}{s s':Shared}{env:Env}{pos:Pos}
theorem newC{scope:Scope}{cl:List (Str×Addr)}{env:Env}{s:Shared}{Q:Env->Shared->Prop}(hcell:∀ y∈scope.names,y.2≠ .cell)(hkind:scope.kind=.function)
 (h:∀ h',h'.objs.size=s.heap.objs.size+1->h'.Ns s.heap.objs.size (fun V=>none)->Sub s.heap h'->Q (newEnv scope s.heap.objs.size env.globals cl env.qual none env.code (some env) env.builtins) {s with heap:=h'}):wpAny (model pr w) (Ar d u) (newFunctionEnv scope env.globals cl [] env.qual none .none (some env)) Q bf s:=by
 refine wpAny_newFunctionEnv hcell (by intro y hy;simp at hy) (fun h₁ hns1 hsb1=>?_) hkind
 exact h h₁ (by rw[hsb1.1];exact Heap.size_push ..) hns1 fun b o e=>hsb1.extBut b o (Nat.ne_of_lt (Heap.lt_size e)) (Heap.get?_push_of_some _ e)
theorem RV.comp{elt target iter:PySem.Expr}{ifs:List PySem.Expr}{scope:Scope}{cl:List (Str×Addr)}{Rs:List Rl}(O:Nat->Rl)(b:Nat->Bool)(ρT:Nat->List (Str×Rl))(h:RV pr w d u c (eval iter env) (Rl.list Rs))(hz:Rs.length≤sizeLine)
 (hclos:closureFor scope env=pure cl) (hcell:∀ y∈scope.names,y.2≠ .cell) (hkind:scope.kind=.function) (hnames:∀ x∈scope.names,x.2=.local->scope.names.lookup x.1=some .local)
 (hgo:∀ it v (s:Shared) o,s.heap.get? it=some o->o.cls=.type "list_iterator"->∀ Q:Unit->Shared->Prop,Q () s->wpAny (model pr w) (Ar d u) (letOwnedTupleGo target (.ref it) v) Q bf s)
 (hasg:∀ i R C X,Rs[i]? =some R->J1 pr w d u ⟨C,[],c.cl,X⟩ (assign target (compEnvC scope cl C env)) R (fun V V=>True) ⟨C,ρT i,c.cl,X⟩)
 (htst:∀ i C X,i<Rs.length->JR pr w d u ⟨C,ρT i,c.cl,X⟩ (uD ifs (compEnvC scope cl C env)) (fun V y=>y=b i) ⟨C,ρT i,c.cl,X⟩)
 (helt:∀ i C X,i<Rs.length->b i=true->RV pr w d u ⟨C,ρT i,c.cl,X⟩ (eval elt (compEnvC scope cl C env)) (O i))
 (hs:∀ x,foldedSetIterable iter env x=pure x):RV pr w d u c (eval (.ListComp elt [⟨target,iter,ifs,0⟩] scope pos) env) (Rl.list (cW O b Rs.length)):=.mk<|@fun os0 B s S Q hQ=>by
 rw[eval_ListComp]
 refine wpAny_comprehension_free (use:=none) rfl hs hclos hkind hnames (h.go S fun B1 sE y kE S1 rA=>?_)
 refine gG fun P_ k_=>?_
 obtain⟨l,vs,n,rfl,gA,aA⟩:=rA
 refine k_ ?_
 refine wpAny_pyIter_list (cJ (S1.keep _ _ gA)) ?_
 obtain⟨B2,kI,S2⟩:=S1.w5 (a:=sE.heap.objs.size) (m:=.raw (cL l 0)) (h':=sE.heap.push {cls:=.type "list_iterator",data:=.fields #[.ref l,.int 0 0]}) (t:=sE.toks) (Heap.get?_none_of_le (Nat.le_refl _)) (fun b o e=>Heap.get?_push_of_some _ e) ⟨_,Heap.get?_push_size _ rfl,rfl,rfl⟩
 generalize sE.heap.objs.size=it at S2⊢
 change LS w os0 _ B2 {sE with heap:=sE.heap.push {cls:=.type "list_iterator",data:=.fields #[.ref l,.int 0 0]}}at S2
 generalize({sE with heap:=sE.heap.push {cls:=.type "list_iterator",data:=.fields #[.ref l,.int 0 0]}}:Shared)=sG at S2⊢
 refine wpAny_newObj_type ?_
 obtain⟨B3,kJ,S3⟩:=S2.w5 (a:=sG.heap.objs.size) (m:=.lst []) (h':=sG.heap.push {cls:=.type "list",dict:=none,data:=.seq ([]:List Value).toArray}) (t:=sG.toks) (Heap.get?_none_of_le (Nat.le_refl _)) (fun b o e=>Heap.get?_push_of_some _ e) ⟨[],0,Heap.get?_push_size _ rfl,.nil⟩
 generalize sG.heap.objs.size=Da at S3⊢
 change LS w os0 _ B3 {sG with heap:=sG.heap.push {cls:=.type "list",dict:=none,data:=.seq ([]:List Value).toArray}}at S3
 generalize({sG with heap:=sG.heap.push {cls:=.type "list",dict:=none,data:=.seq ([]:List Value).toArray}}:Shared)=sI at S3⊢
 refine newC hcell hkind fun h₄ V hns up=>?_
 have S4:=S3.enterC (s':={sI with heap:=h₄}) (Heap.get?_none_of_le (Nat.le_refl _)) up hns
 generalize sI.heap.objs.size=Ca at S4⊢
 have glA:B1.get? l=some (bK vs n):=gA
 have done:∀ B' s',Sub B3 B'->LS w os0 ⟨Ca,[],c.cl,(c.L,.raw fun o=>sI.heap.get? c.L=some o)::(Da,.lst (cW O b Rs.length))::c.M⟩ B' s'->
  compPost (model pr w) (Ar d u) bf none Q (.ref Da) Ca (.ok .next) s':=fun B' s' kk S'=>by
  obtain⟨mC,hmC,V⟩:=S'.fr
  refine⟨mC,hmC,fun h' hsb=>?_⟩
  obtain⟨S5,nC,bC⟩:=S3.leaveC S' kk
  have S6:=S5.beside (s':={s' with heap:=h'}) nC bC fun b o hb e=>(hsb.2 b hb).trans e
  refine gG fun P_ k_=>?_
  obtain⟨vD,nD,gD,aD⟩:=S6.muts (Da,.lst (cW O b Rs.length)) (.head _)
  obtain⟨B7,k7,S7,f7⟩:=S6.freeze (pre:=[]) rfl
  refine k_ ?_
  exact hQ B7 _ _ (kE.trans (kI.trans (kJ.trans (kk.trans k7)))) S7 ⟨Da,vD,nD,rfl,f7 _ gD,aD.mono k7⟩
 have loop:codeAny (model pr w) (Ar d u) (.compLoop (.ListComp elt [⟨target,iter,ifs,0⟩] scope pos) 0 (.ref it) (.ref Da) (compEnvC scope cl Ca env)) (compPost (model pr w) (Ar d u) bf none Q (.ref Da) Ca) {sI with heap:=h₄}:=by
  refine xU (fun k s'=>∃ i B',k=Rs.length - i∧i≤Rs.length∧Sub B3 B'∧LS w os0 ⟨Ca,[],c.cl,(c.L,.raw fun o=>sI.heap.get? c.L=some o)::(Da,.lst (cW O b i))::(it,.raw (cL l i))::c.M⟩ B' s') (fun k s' hJ=>?_) Rs.length ⟨0,B3,rfl,Nat.zero_le _,Sub.refl _,S4⟩
  refine x24 hJ fun i B' ek hi kk S'=>?_
  subst ek
  refine lR fun G hG=>?_
  obtain⟨o,go,ho,hd⟩:=S'.muts (it,.raw (cL l i)) (.tail _ (.tail _ (.head _)))
  have k13:Sub B1 B':=kI.trans (kJ.trans kk)
  have gl:=S'.keep _ _ (k13 _ _ gA)
  rcases Nat.lt_or_ge i Rs.length with hlt|hge
  · obtain⟨v,ev,rv⟩:=aA.get (i:=i) (R:=Rs[i]) (by simp)
    refine wpAny_pyNext_list_item ⟨o,go,ho,hd⟩ (cJ gl) (x:=v) (by simpa using ev) fun h' hit' hsb=>hG _ _ ?_
    refine gG fun P_ k_=>?_
    obtain⟨o',q1,q2,q3⟩:=hit'
    obtain⟨B5,k5,V,S5⟩:=S'.turned (pre:=[(c.L,.raw fun o=>sI.heap.get? c.L=some o),(Da,.lst (cW O b i))]) (m':=.raw (cL l (i+1))) (t:=s'.toks) rfl (fun b o hb e=>(hsb.2 b hb).trans e) fun V=>⟨o',q1,q2,q3⟩
    refine k_ ?_
    refine hgo it v _ o' q1 q2 _ ?_
    refine(hasg i Rs[i] Ca _ (by simp)).run B5 _ v S5 (Rs[i].mono (k13.trans k5) rv) _ fun B6 s6 V k6 S6 V=>lR fun G1 hGA=>?_
    refine(htst i Ca _ hlt).go S6 fun B7 s7 y k7 S7 r7=>?_
    subst r7
    refine hGA _ _ ?_
    have nf:∀{B:Heap} {s:Shared} {M},LS w os0 ⟨Ca,ρT i,c.cl,M⟩ B s->LS w os0 ⟨Ca,[],c.cl,M⟩ B s:=fun S=>S.weak fun m V x R e=>by simp at e
    by_cases hb:b i=true
    · rw[if_pos hb]
      refine(helt i Ca _ hlt hb).go S7 fun B8 s8 z k8 S8 r8=>?_
      refine vL (pre:=[(c.L,.raw fun o=>sI.heap.get? c.L=some o)]) S8 rfl r8 (Nat.le_trans (Dk O b i) (Nat.le_trans hi hz)) fun B9 s9 k9 S9=>?_
      refine⟨Rs.length - (i+1),by exact o5 hlt,i+1,B9,rfl,hlt,kk.trans (k5.trans (k6.trans (k7.trans (k8.trans k9)))),?_⟩
      rw[qW,if_pos hb]
      exact nf S9
    · rw[if_neg hb]
      refine⟨Rs.length - (i+1),by exact o5 hlt,i+1,B7,rfl,hlt,kk.trans (k5.trans (k6.trans k7)),?_⟩
      rw[qW,if_neg hb,List.append_nil]
      exact nf S7
  · have e:i=Rs.length:=by exact o126 hi hge
    subst e
    refine wpAny_pyNext_list_end rfl ⟨o,go,ho,hd⟩ (cJ gl) (by simp[aA.len]) fun h' he=>?_
    have S5:=LS.yS S' (s':={s' with heap:=h'}) (pre:=[(c.L,.raw fun o=>sI.heap.get? c.L=some o),(Da,.lst (cW O b Rs.length))]) (post:=c.M) rfl he
    exact hG _ _ (done B' _ kk S5)
 exact codeAny_compStart_list loop (wpAny_pyIter_listiter (S4.muts (it,.raw (cL l 0)) (.tail _ (.tail _ (.head _)))) loop)
end
noncomputable def Rl.av(a:AV):Rl:=⟨fun V v=>VR [] a v,fun V h=>h⟩
theorem rU(r:Str->Nat):∀(l:List Str) (p:Str),(∀ x∈p::l,∀ y∈p::l,Spec.ltCps y.cps.toList x.cps.toList=false->r x≤r y)->risingS p l=true->(p::l).Pairwise (fun x y=>r x≤r y)
 |[],p,_,_=>by simp
 |x::t,p,h,hs=>by
  simp only[risingS,Bool.and_eq_true,Bool.not_eq_true']at hs
  have ih:=rU r t x (fun a ha b hb=>h a (.tail _ ha) b (.tail _ hb)) hs.2
  have h1:r p≤r x:=h p (.head _) x (.tail _ (.head _)) hs.1
  refine List.pairwise_cons.mpr ⟨fun y hy=>?_,ih⟩
  rcases List.mem_cons.mp hy with rfl|hy
  · exact h1
  · exact Nat.le_trans h1 ((List.pairwise_cons.mp ih).1 y hy)
theorem Ag:∀{a b:List Nat},a.Perm b->a.Pairwise (·≤·)->b.Pairwise (·≤·)->a=b
 |[],_,p,_,_=>p.nil_eq
 |x::r,b,p,ha,hb=>by
  cases b with
  |nil=>exact absurd p.length_eq (by simp)
  |cons y t=>
   have hx:x∈y::t:=p.mem_iff.mp (.head _)
   have hy:y∈x::r:=p.mem_iff.mpr (.head _)
   have e:x=y:=by
    rcases List.mem_cons.mp hx with h|h
    · exact h
    · rcases List.mem_cons.mp hy with h'|h'
      · exact h'.symm
      · have a1:=(List.pairwise_cons.mp ha).1 y h'
        have a2:=(List.pairwise_cons.mp hb).1 x h
        exact o126 a1 a2
   subst e
   rw[Ag (List.Perm.cons_inv p) (List.pairwise_cons.mp ha).2 (List.pairwise_cons.mp hb).2]
theorem uZ{α β:Type}{f:α->β}:∀{a b:List α},(∀ x∈a,∀ y∈b,f x=f y->x=y)->a.map f=b.map f->a=b
 |[],[],_,_=>rfl
 |[],_::_,_,h=>by simp at h
 |_::_,[],_,h=>by simp at h
 |x::a,y::b,h,e=>by
  simp only[List.map_cons,List.cons.injEq]at e
  rw[h x (.head _) y (.head _) e.1,uZ (fun x hx y hy=>h x (.tail _ hx) y (.tail _ hy)) e.2]
theorem CV{ss ss':List Str}(r:Str->Nat)(hp:ss'.Perm ss)(hs:sortedS ss'=true)(h1:∀ x∈ss,∀ y∈ss,Spec.ltCps y.cps.toList x.cps.toList=false->r x≤r y)(h2:∀ x∈ss,∀ y∈ss,r x=r y->x=y)(h3:ss.Pairwise (fun x y=>r x≤r y)):ss'=ss:=by
 have h4:ss'.Pairwise (fun x y=>r x≤r y):=by
  cases ss' with
  |nil=>exact .nil
  |cons p l=>exact rU r l p (fun x hx y hy=>h1 x (hp.mem_iff.mp hx) y (hp.mem_iff.mp hy)) hs
 have e:ss'.map r=ss.map r:=Ag (hp.map r) (List.pairwise_map.mpr h4) (List.pairwise_map.mpr h3)
 exact uZ (fun x hx y hy=>h2 x (hp.mem_iff.mp hx) y hy) e
section
variable{pr:Program}{w:World}{os0:OsState}{d u:Nat}{c cA:aF}{B:Heap}{s:Shared}{env:Env}{pos:Pos}
theorem J2.dget{kvs:List (Str×AV)}{x:Str}{v:AV}(hv:kvs.lookup x=some v):J2 pr w d u c (fun o i=>getItem o i) (Rl.dct pr w kvs) (Rl.str x) (Rl.av v).r c:=.mk fun B s o i S ⟨a,e1,lo,ps,hD,hk⟩ ⟨t,hi⟩ Q hQ=>by
 subst e1 hi
 obtain⟨y,e2,r⟩:=hk.at hv
 have hD':s.heap.DictOf (strKind pr w) a ps:=by
  refine gG fun P_ k_=>?_
  obtain⟨o,es,ep,h1,r⟩:=hD
  refine k_ ?_
  exact⟨o,es,ep,S.keep _ _ h1,r⟩
 exact wpAny_getItem_of (strKind_is pr w x t) hD'.mapOf e2 (hQ B _ _ (Sub.refl B) (S.same rfl) r)
theorem hT_dict{kvs:List (Str×AV)}:∀{os0:OsState} B s v,LS w os0 c B s->(Rl.dct pr w kvs).r B v->∃ T id,typeLookup (.type T) "__getitem__"=pure (some (.builtin id))∧s.TypeIs v T:=fun B s v S ⟨a,e1,lo,ps,hD,hk⟩=>by
 subst e1
 refine gG fun P_ k_=>?_
 obtain⟨o,es,ep,h1,r⟩:=hD
 refine k_ ?_
 have hD':s.heap.DictOf (strKind pr w) a ps:=⟨o,es,ep,S.keep _ _ h1,r⟩
 exact⟨"dict","dict.__getitem__",slot_dict_getitem.lookup,hD'.mapOf.typeIs⟩
theorem JL{B:Heap}{vs:List Value}:∀{ss:List Str},StrsAre vs ss->bx B vs (ss.map Rl.str):=by
 intro ss h
 induction h with
 |nil=>exact .nil
 |cons x t _ ih=>exact .cons ⟨t,rfl⟩ ih
theorem RC.sortedD{kvs:List (Str×AV)}{ss:List Str}(r:Str->Nat)(hz:kvs.length<64)(hp:(kvs.map (·.1)).Perm ss)(h1:∀ x∈ss,∀ y∈ss,Spec.ltCps y.cps.toList x.cps.toList=false->r x≤r y)(h2:∀ x∈ss,∀ y∈ss,r x=r y->x=y)(h3:ss.Pairwise (fun x y=>r x≤r y)):
 RC pr w d u c (.builtin "sorted") [] [Rl.dct pr w kvs] [] [] (Rl.list (ss.map Rl.str)).r c:=.mk fun B s fs vs kws S r1 r2 r3 Q hQ=>by
 cases r1;cases r3
 obtain _|⟨ra,_|_⟩:=r2
 refine gG fun P_ k_=>?_
 obtain⟨a,rfl,lo,ps,hD,hk⟩:=ra
 refine k_ ?_
 have hD':s.heap.DictOf (strKind pr w) a ps:=by
  refine gG fun P_ k_=>?_
  obtain⟨o,es,ep,h1,r⟩:=hD
  refine k_ ?_
  exact⟨o,es,ep,S.keep _ _ h1,r⟩
 obtain⟨ep,hAt⟩:=hD'.dictAt
 have hl:=hk.length
 have lo':(a==sysModules)=false:=by
  have:a≠sysModules:=Nat.ne_of_gt lo
  simpa using this
 show wpAny _ _ (call (.builtin "sorted") [.ref a]) _ _ _
 refine Calls.call_function_entry kind_sorted plain_sorted entry_sorted (args_sorted1 _) ?_
 unfold Builtin.«sorted»
 refine wpAny_bind (m:=checkCount "sorted" 1 1 _) (wpAny_pure ?_)
 refine wpAny_bind (kdu_collect (kdl_dict (knd:=strKind pr w) (kvs:=ps) (ep:=ep) lo') rfl hAt (by rw[←hl,sizeLine_eq];exact o193 hz hl) fun h' tk acc up hacc=>?_)
 have hstr:∀ v,v∈acc.toList->∃ x t,v=.str x t:=fun v hv=>by
  refine gG fun P_ k_=>?_
  obtain⟨i,hi⟩:=List.getElem?_of_mem hv
  obtain⟨k,x,V,hx⟩:=hacc.2 i v (by rw[←Array.getElem?_toList];exact hi)
  obtain⟨t,rfl⟩:=fQ (k:=k) hx
  refine k_ ?_
  exact⟨_,t,rfl⟩
 have hS:=strsAre_map acc.toList hstr
 have hss:acc.toList.map strOf=kvs.map (·.1):=by
  rw[hk.keys]
  refine List.ext_getElem? fun i=>?_
  rw[List.getElem?_map,List.getElem?_map]
  cases e:acc.toList[i]? with
  |none=>
   have:acc.toList.length≤i:=by simpa using e
   rw[List.getElem?_eq_none (by rw[←hacc.1, ←Array.length_toList];exact this)];rfl
  |some v=>
   refine gG fun P_ k_=>?_
   obtain⟨k,x,e2,hx⟩:=hacc.2 i v (by rw[←Array.getElem?_toList];exact e)
   obtain⟨t,rfl⟩:=fQ (k:=k) hx
   refine k_ ?_
   rw[e2];rfl
 have hlen:acc.toList.length=kvs.length:=by rw[Array.length_toList,hacc.1,hl]
 refine wpAny_bind (wpAny_newList ?_ (by rw[hlen,sizeLine_eq];exact o194 hz hl hlen))
 have hoL:(h'.push (seqObj "list" acc.toList.toArray 0)).get? h'.objs.size=some (seqObj "list" acc.toList.toArray 0):=Heap.get?_push_size _ rfl
 refine wpAny_bind (wpAny_holding (wpAny_call_entry slot_list_sort ⟨_,hoL,rfl⟩ entry_list_sort (list_sort_treeK strKind_oneLt hoL hS.keysOf (fun vA vB rest e=>keyKind_strs (by rw[←e];exact hS)) (by rw[hlen];exact hz) fun st' a1 a2=>⟨_,rfl,?_⟩) (args_list_sort _)))
 obtain⟨ss',q1,q2,q3⟩:=sorted_out_str hS a1 a2
 have hout:ss'=ss:=CV r (q2.trans (by rw[hss];exact hp)) q3 h1 h2 h3
 refine wpAny_pure ⟨_,rfl,?_⟩
 subst hout
 obtain⟨e,he⟩:=sortedHeap_at (out:=(arrOf st').map (·.2)) hoL
 have up2:Sub s.heap (sortedHeap (h'.push (seqObj "list" acc.toList.toArray 0)) h'.objs.size acc.toList ((arrOf st').map (·.2))):=fun b o q=>by
  have q':=up b o q
  have hlt:=Heap.lt_size q'
  rw[sortedHeap_old (Nat.ne_of_lt hlt) (by rw[size_push'];exact Nat.lt_succ_of_lt hlt)]
  exact Heap.get?_push_of_some _ q'
 obtain⟨k,S'⟩:=S.grow (s':={s with heap:=sortedHeap (h'.push (seqObj "list" acc.toList.toArray 0)) h'.objs.size acc.toList ((arrOf st').map (·.2)),toks:=tk}) up2
 refine hQ _ _ _ k S' ⟨h'.objs.size,((arrOf st').map (·.2)).toList,e,rfl,S.inB (s':={s with heap:=sortedHeap (h'.push (seqObj "list" acc.toList.toArray 0)) h'.objs.size acc.toList ((arrOf st').map (·.2)),toks:=tk}) up2 ?_ (.inr ?_),JL q1⟩
 · rw[he]
 · cases z:s.heap.get? h'.objs.size with
   |none=>rfl
   |some o=>exact absurd (Heap.lt_size (up _ _ z)) (Nat.lt_irrefl _)
end
theorem bx.rev{h:Heap}{vs:List Value}{Rs:List Rl}(x:bx h vs Rs):bx h vs.reverse Rs.reverse:=by
 induction x with
 |nil=>exact .nil
 |cons a _ ih=>rw[List.reverse_cons,List.reverse_cons];exact ih.append (.cons a .nil)
noncomputable def vm(cs:List (Str×Addr)):List (Str×Addr×Option Rl):=cs.map fun p=>(p.1,p.2,none)
theorem Gu(cs:List (Str×Addr)):(vm cs).map (·.2.1)=cs.map (·.2):=by
 unfold vm;rw[List.map_map];rfl
section
variable{pr:Program}{w:World}{os0:OsState}{d u:Nat}{c cA cB:aF}{B B':Heap}{s s':Shared}{env:Env}{pos:Pos}
theorem LS.enterF(S:LS w os0 c B s){L:Addr}{cs:List (Str×Addr)}{ρ0:List (Str×Rl)}{m cm:Str->Option Value}(hL:s.heap.objs.size≤L)(X:InCallC s L m cs cm s')(hcs:∀ p∈cs,cs.lookup p.1=some p.2)(hl:jP B ρ0 m)(q:Qs s s':=by exact⟨rfl,rfl⟩):
 LS w os0 ⟨L,ρ0,vm cs,jV s c.outer++c.M⟩ B s':=by
 have hk:Sub s.heap s'.heap:=X.toInCall.keep
 have hown:aF.own ⟨L,ρ0,vm cs,jV s c.outer++c.M⟩=L::(cs.map (·.2)++c.own):=by
  simp only[aF.own,Gu,List.map_append,qO,aF.outer,List.cons_append]
 have fr:∀ a,s.heap.objs.size≤a->s.heap.get? a=none:=fun a h=>Heap.get?_none_of_le h
 have hcell:∀ a∈cs.map (·.2),L<a:=fun a ha=>by
  obtain⟨p,hp,rfl⟩:=List.mem_map.mp ha
  exact X.above p.1 p.2 hp
 have hlt:∀ a∈c.own,a<s.heap.objs.size:=fun a ha=>by obtain⟨o,e⟩:=S.live ha;exact Heap.lt_size e
 refine⟨S.ok,fun b o e=>hk _ _ (S.keep b o e),⟨m,X.toInCall.ns,hl⟩,fun p hp=>?_,fun p hp=>?_,fun a ha=>?_,?_,q.1.trans S.os,q.2.trans S.bare⟩
 · obtain⟨q,hq,rfl⟩:=List.mem_map.mp hp
   exact⟨_,X.cell q.1 q.2 (hcs q hq)⟩
 · rcases List.mem_append.mp hp with hp|hp
   · obtain⟨a,ha,rfl⟩:=List.mem_map.mp hp
     have:a∈c.own:=by
      unfold aF.outer at ha
      unfold aF.own
      rcases List.mem_cons.mp ha with rfl|ha
      · exact .head _
      · exact .tail _ (List.mem_append_left _ ha)
     obtain⟨o,e⟩:=S.live this
     exact⟨o,hk _ _ e,e⟩
   · exact(S.muts p hp).keeps (Sub.refl B) fun o e=>hk _ _ e
 · rw[hown]at ha
   rcases List.mem_cons.mp ha with rfl|ha
   · exact S.noB (fr _ hL)
   · rcases List.mem_append.mp ha with ha|ha
     · exact S.noB (fr _ (Nat.le_of_lt (Nat.lt_of_le_of_lt hL (hcell a ha))))
     · exact S.out a ha
 · rw[hown]
   refine List.nodup_cons.mpr ⟨fun hm=>?_,List.nodup_append.mpr ⟨?_,S.nd,fun a ha b hb z=>?_⟩⟩
   · rcases List.mem_append.mp hm with hm|hm
     · exact Nat.lt_irrefl _ (hcell L hm)
     · exact Nat.lt_irrefl _ (Nat.lt_of_lt_of_le (hlt L hm) hL)
   · exact List.pairwise_map.mpr X.apart
   · subst z
     exact Nat.lt_irrefl _ (Nat.lt_trans (Nat.lt_of_lt_of_le (hlt a hb) hL) (hcell a ha))
theorem RC.defC{fa:Addr}{fd:FuncData}{body:List Stmt}{as:List Rl}{ρ0:List (Str×Rl)}{R:Rl}(hl:∃ cc dd sl,(KK w.params).lookup fa=some ⟨cc,dd,.func fd,sl⟩)(hcd:codeIn (KK w.params) fd.code fd.qualname=true)(hbody:fd.body=.stmts body)(hd:d<recursionLimit)
 (hclo:fd.closure=[]) (hco:fd.scope.isCoroutine=false) (hgen:fd.scope.isGenerator=false) (hk:fd.scope.kind=.function) (hcs:∀ L,∀ p∈cellsFrom (L+1) fd.scope.names [],(cellsFrom (L+1) fd.scope.names []).lookup p.1=some p.2)
 (hbind:∀ B vs,bx B vs as->∃ binds,bindArgs fd ⟨vs,[]⟩=pure binds∧(∀ x∈binds,fd.scope.names.lookup x.1=some .local)∧∀ L,jP B ρ0 (bindL (callEnvC fd L fa).kindOf binds fun V=>none))
 (h:∀ L hid,BR pr w (d+1) (u+3) ⟨L,ρ0,vm (cellsFrom (L+1) fd.scope.names []),hid++c.M⟩ (execs body (callEnvC fd L fa)) R (hid++c.M)):RC pr w d u c (.ref fa) [] as [] [] R.r c:=.mk fun B s fs vs kvs S r1 r2 r3 Q hQ=>by
 obtain⟨cc,dd,sl,hl⟩:=hl
 cases r1;cases r3
 have X:(KK w.params).In s.heap:=fun a o e=>S.keep _ _ (S.ok.aZ _ _ e)
 obtain⟨binds,b1,b2,b3⟩:=hbind B vs r2
 show wpAny _ _ (call (.ref fa) vs) _ _ _
 refine wpAny_call (codeAny_call_cells (A:=Ar d u) hd (X _ _ hl) rfl (S.ok.lim.keeps S.keep) (codeRec_of X hcd) hbody b1 hclo (fun x hx=>.inl (b2 x hx)) (fun sE hsB=>?_) hco hgen hk)
 have S1:=S.enterF (L:=s.heap.objs.size) (Nat.le_refl _) hsB (hcs _) (b3 _) (by obtain⟨h',tk,e⟩:=hsB.toInCall.same;subst e;exact⟨rfl,rfl⟩)
 refine wpAny_mono ((h s.heap.objs.size (jV s c.outer)).run B sE S1 (fun f s'=>Rt Q (.ok (.ret (match f with|.ret v=>v|_=>.none))) s') fun B' s' v L ρ cl N k S' r=>?_) (fun f s' z=>z) fun V V z=>z.elim
 exact hQ B' s' v k (S.leave S' k) r
theorem LS.storedC(S:LS w os0 c B s){x:Str}{a:Addr}{rD:Option Rl}{R:Rl}{v:Value}{pre post:List (Str×Addr×Option Rl)}(hc:c.cl=pre++(x,a,rD)::post)(r:R.r B v){h':Heap}(hv:h'.IsCell a (some v))(hs:Heap.SameBut a s.heap h'){t:Nat}:
 LS w os0 {c with cl:=pre++(x,a,some R)::post} B {s with heap:=h',toks:=t}:=by
 have hown:aF.own {c with cl:=pre++(x,a,some R)::post}=c.own:=by simp[aF.own,hc]
 have hnd:=List.nodup_cons.mp S.nd
 have ha:a∈c.cl.map (·.2.1):=by rw[hc];simp
 obtain⟨n1,n2,n3⟩:=List.nodup_append.mp hnd.2
 have hk:∀ b o,b≠a->s.heap.get? b=some o->h'.get? b=some o:=fun b o hb e=>(hs.2 b hb).trans e
 have hB:B.get? a=none:=S.out a (.tail _ (List.mem_append_left _ ha))
 refine⟨S.ok,fun b o e=>hk b o (fun z=>by rw[z,hB]at e;cases e) (S.keep b o e),?_,fun p hp=>?_,fun p hp=>(S.muts p hp).keeps (Sub.refl B) fun o e=>hk _ _ (fun z=>n3 a ha p.1 (List.mem_map_of_mem (f:=(·.1)) hp) z.symm) e,by rw[hown];exact S.out,by rw[hown];exact S.nd,S.os,S.bare⟩
 · refine gG fun P_ k_=>?_
   obtain⟨m,⟨o,es,n,e1,e2⟩,hl⟩:=S.fr
   refine k_ ?_
   exact⟨m,⟨o,es,n,hk _ _ (fun z=>hnd.1 (by show c.L∈_;rw[z];exact List.mem_append_left _ ha)) e1,e2⟩,hl⟩
 · have n1':=n1
   rw[hc,List.map_append,List.map_cons]at n1'
   obtain⟨m1,m2,m3⟩:=List.nodup_append.mp n1'
   have old:∀ q,q∈pre++post->qd B h' q.2.1 q.2.2:=fun q hq=>by
    have hq':q∈c.cl:=by
     rw[hc]
     rcases List.mem_append.mp hq with hq|hq
     · exact List.mem_append_left _ hq
     · exact List.mem_append_right _ (.tail _ hq)
    refine dg (Sub.refl B) (fun o e=>hk _ _ (fun z=>?_) e) (S.cells q hq')
    rcases List.mem_append.mp hq with hq|hq
    · exact m3 _ (List.mem_map_of_mem (f:=fun x:Str×Addr×Option Rl=>x.2.1) hq) a (.head _) z
    · exact(List.nodup_cons.mp m2).1 (by show a∈_;rw[←z];exact List.mem_map_of_mem (f:=fun x:Str×Addr×Option Rl=>x.2.1) hq)
   rcases List.mem_append.mp hp with hp|hp
   · exact old p (List.mem_append_left _ hp)
   · rcases List.mem_cons.mp hp with rfl|hp
     · exact⟨v,hv,r⟩
     · exact old p (List.mem_append_right _ hp)
theorem J1.zy(E:cO env c.L){x:Str}{R:Rl}(hx:env.kindOf x=some .local):J1 pr w d u c (fun v=>storeName env x v) R (fun V V=>True) (c.put x R):=.mk fun B s v S r Q hQ=>by
 obtain⟨m,hm,hl⟩:=S.fr
 have hm':s.heap.Ns env.locals m:=by rw[E.hL];exact hm
 refine wpAny_storeName_local hx hm' (fun h' hn hsb=>?_) (by rw[E.hk];rfl)
 rw[E.hL]at hn hsb
 obtain⟨B2,kI,S2⟩:=S.stored (t:=s.toks+1) r hl hn hsb
 exact hQ B2 _ _ kI S2 trivial
theorem J1.zF(E:cO env c.L){x:Str}{R:Rl}{a:Addr}{rD:Option Rl}{pre post:List (Str×Addr×Option Rl)}(hx:env.kindOf x=some .cell)(hc:env.cells.lookup x=some a)(hcl:c.cl=pre++(x,a,rD)::post):
 J1 pr w d u c (fun v=>storeName env x v) R (fun V V=>True) {c with cl:=pre++(x,a,some R)::post}:=.mk fun B s v S r Q hQ=>by
 obtain⟨vC,hv⟩:∃ vC,s.heap.IsCell a vC:=by
  have:=S.cells (x,a,rD) (by rw[hcl];simp)
  cases rD with
  |none=>exact this
  |some R=>obtain⟨v,h,V⟩:=this;exact⟨_,h⟩
 refine wpAny_storeName_cell E.hk hx hc hv fun h' hv' hsb=>?_
 exact hQ B _ _ (Sub.refl B) (S.storedC (t:=s.toks) hcl r hv' hsb) trivial
theorem J1.bind{x:Str}{R:Rl}(h:J1 pr w d u c (fun v=>storeName env x v) R (fun V V=>True) cA):J1 pr w d u c (fun v=>bindName env x v) R (fun V V=>True) cA:=.mk fun B s v S r Q hQ=>wpAny_bindName (h.run B s v S r Q hQ)
theorem J1.name{x:Str}{p:Pos}{R:Rl}(h:J1 pr w d u c (fun v=>storeName env x v) R (fun V V=>True) cA):J1 pr w d u c (fun v=>assign (.Name x p) env v) R (fun V V=>True) cA:=.mk fun B s v S r Q hQ=>wpAny_assign_Name (h.run B s v S r Q hQ)
structure JO(pr:Program)(w:World)(d u:Nat)(c:aF)(ts:List (Value->Sem Unit))(Rs:List Rl)(c':aF):Prop where
 run:∀{os0:OsState} B s vs,LS w os0 c B s->bx B vs Rs->∀ Q:Unit->Shared->Prop,(∀ B' s',Sub B B'->LS w os0 c' B' s'->Q () s')->wpAny (model pr w) (Ar d u) (assignInOrder ts vs) Q bf s
theorem JO.nil:JO pr w d u c [] [] c:=.mk fun B s vs S r Q hQ=>by cases r;exact assignInOrder_nil (hQ B s (Sub.refl B) S)
theorem JO.cons{t:Value->Sem Unit}{ts:List (Value->Sem Unit)}{R:Rl}{Rs:List Rl}(h:J1 pr w d u c t R (fun V V=>True) cA)(h2:JO pr w d u cA ts Rs cB):JO pr w d u c (t::ts) (R::Rs) cB:=.mk fun B s vs S r Q hQ=>by
 obtain _|⟨r,rs⟩:=r
 exact assignInOrder_cons (h.run B s _ S r _ fun B1 sE V kE S1 V=>h2.run B1 sE _ S1 (rs.mono kE) Q fun B2 sG kI S2=>hQ B2 sG (kE.trans kI) S2)
theorem LS.extBut(S:LS w os0 c B s){h':Heap}(he:Heap.ExtBut s.heap.objs.size s.heap h'):LS w os0 c B {s with heap:=h'}:=S.stay (s':={s with heap:=h'}) fun b o e=>he b o (Nat.ne_of_lt (Heap.lt_size e)) e
theorem J1.tup{elts:List Expr}{k:Nat}{p:Pos}{ts:List (Value->Sem Unit)}{Rs:List Rl}(ht:(assignEach elts env).map (·.2)=ts)(hst:(assignEach elts env).findIdx? (·.1)=none)(hl:(assignEach elts env).length=Rs.length)(h:JO pr w d u c ts Rs cA):
 J1 pr w d u c (fun v=>assign (.Tuple elts k p) env v) (Rl.tup Rs) (fun V V=>True) cA:=.mk fun B s v S ⟨l,vs,e,g,a⟩ Q hQ=>by
 subst e
 refine wpAny_assign_Tuple rfl (PyProof.Rows.IsTup.keeps g S.keep) (by rw[hl, ←a.len];simp) hst fun h' he=>?_
 rw[ht]
 exact h.run B _ vs (S.extBut he) a Q fun B' s' k S'=>hQ B' s' _ k S' trivial
theorem XR.asgN{x:Str}{p:Pos}{value:Expr}{R:Rl}(h:RV pr w d u c (eval value env) R)(h2:J1 pr w d u c (fun v=>storeName env x v) R (fun V V=>True) cA)(hs:swapsWith value (some (.Name x p)) pos.line env=pure false):XR pr w d u c (exec (.Assign [.Name x p] value pos) env) .next cA:=.mk fun B s S Q hQ=>
 wpAny_Assign_Name (h.go S fun B1 sE y kE S1 rA=>h2.run B1 sE y S1 rA _ fun B2 sG V kI S2 V=>hQ B2 sG _ (kE.trans kI) S2 rfl) hs
theorem XR.asgT{elts:List Expr}{k:Nat}{tpos:Pos}{value:Expr}{R:Rl}(h:RV pr w d u c (eval value env) R)(h2:J1 pr w d u c (fun v=>PySem.assign (.Tuple elts k tpos) env v) R (fun V V=>True) cA)
 (hs:swapsWithSole [.Tuple elts k tpos] value pos.line env=pure false) (hw:swappedStores [.Tuple elts k tpos] value env=pure none):XR pr w d u c (exec (.Assign [.Tuple elts k tpos] value pos) env) .next cA:=.mk fun B s S Q hQ=>
 Assign_Tuple (h.go S fun B1 sE y kE S1 rA=>h2.run B1 sE y S1 rA _ fun B2 sG V kI S2 V=>hQ B2 sG _ (kE.trans kI) S2 rfl) hs hw
theorem XR.wN{elts:List Expr}{k:Nat}{tpos:Pos}{value:Expr}{names:List Str}{Rs:List Rl}(h:RV pr w d u c (eval value env) (Rl.tup Rs))(hl:names.length=Rs.length)(h2:JO pr w d u c (names.reverse.map fun n=>bindName env n) Rs.reverse cA)
 (hs:swapsWithSole [.Tuple elts k tpos] value pos.line env=pure false) (hw:swappedStores [.Tuple elts k tpos] value env=pure (some names)):XR pr w d u c (exec (.Assign [.Tuple elts k tpos] value pos) env) .next cA:=.mk fun B s S Q hQ=>
 Assign_Tuple_swapped (h.go S fun B1 sE y kE S1 rA=>by
  refine gG fun P_ k_=>?_
  obtain⟨l,vs,rfl,g,a⟩:=rA
  refine k_ ?_
  have e:names.length=vs.toArray.size:=by rw[hl, ←a.len];simp
  rw[e]
  refine unpackItems_tuple rfl (PyProof.Rows.IsTup.keeps g S1.keep) fun h' he=>?_
  exact h2.run B1 _ _ (S1.extBut he) a.rev _ fun B2 sG kI S2=>hQ B2 sG _ (kE.trans kI) S2 rfl) hs hw
end
noncomputable abbrev mG:Str:=⟨#[109,101,115,115,97,103,101]⟩
noncomputable abbrev fW:Str:=⟨#[115,99,114,105,112,116]⟩
noncomputable abbrev zO:Str:=⟨#[114,101,115,116]⟩
noncomputable abbrev iR:Str:=⟨#[99,101,108,108,115]⟩
noncomputable abbrev dK:Str:=⟨#[112,108,97,105,110]⟩
noncomputable abbrev s_k:Str:=⟨#[107]⟩
noncomputable abbrev jJ:Str:=⟨#[101,118,101,110,116,115]⟩
noncomputable abbrev s_j:Str:=⟨#[106]⟩
noncomputable abbrev nO:Str:=⟨#[115,112,111,116]⟩
noncomputable abbrev rF:Str:=⟨#[116,105,99,107,115]⟩
noncomputable abbrev uH:Str:=⟨#[116,117,114,110]⟩
noncomputable abbrev zZ:Str:=⟨#[98,101,104,105,110,100]⟩
noncomputable abbrev s_more:Str:=⟨#[109,111,114,101]⟩
noncomputable abbrev JX:Str:=⟨#[111,116,104,101,114,115]⟩
noncomputable abbrev s_made:Str:=⟨#[109,97,100,101]⟩
noncomputable abbrev s_whole:Str:=⟨#[119,104,111,108,101]⟩
noncomputable abbrev qz:Str:=⟨#[116,111,108,100]⟩
noncomputable abbrev vW:Str:=⟨#[97,116]⟩
noncomputable abbrev nQ:Str:=⟨#[98,97,114,101]⟩
noncomputable abbrev oZ:Str:=⟨#[97,112,112,101,110,100]⟩
noncomputable def ak.bare:ak->List (Str×AV)
 |.note c n w _=>[(bI,.int c),(lW,.int n),(aP,.str qG),(iQ,.int w)]
 |.oK c n w _=>[(bI,.int c),(iC,.int n),(aP,.str jd),(fK,.int w)]
 |.prog c n _=>[(bI,.int c),(iB,.int n),(aP,.str jc)]
 |.text x _=>[(j4,.str x),(aP,.str j4)]
 |.eot _=>[(aP,.str bG)]
noncomputable def ak.names:ak->List Str
 |.note .. =>[bI,lW,au,aP,iQ]
 |.oK .. =>[bI,iC,au,aP,fK]
 |.prog .. =>[bI,iB,au,aP]
 |.text .. =>[j4,au,aP]
 |.eot _=>[au,aP]
noncomputable def yE(p:Str×AV):Rl:=Rl.tup [Rl.str p.1,Rl.av p.2]
noncomputable def pZ(l:List (Str×AV)):Rl:=Rl.list (l.map yE)
theorem l995(P:Params):∃ cc dd sl,(KK P).lookup 995=some ⟨cc,dd,.func (mU P),sl⟩:=⟨_,_,_,by rfl⟩
theorem cd995(P:Params):codeIn (KK P) (mU P).code (mU P).qualname=true:=by kernel_rfl
section
variable{pr:Program}{w:World}{os0:OsState}{d u:Nat}{c cA cB:aF}{B B':Heap}{s s':Shared}{env:Env}{pos:Pos}
theorem I5(m:ak):m.names.length=m.fields.length:=by cases m<;>rfl
noncomputable def oO(ks ss:List Str):Prop:=ks.Perm ss∧(∀ x∈ss,∀ y∈ss,Spec.ltCps y.cps.toList x.cps.toList=false->ss.idxOf x≤ss.idxOf y)∧(∀ x∈ss,∀ y∈ss,ss.idxOf x=ss.idxOf y->x=y)∧ss.Pairwise (fun x y=>ss.idxOf x≤ss.idxOf y)
theorem ak.Hs(m:ak):oO (m.fields.map (·.1)) m.names:=by
 cases m with
 |note c n v t=>exact(⟨by decide,by decide,by decide,by decide⟩:oO [aP,au,bI,lW,iQ] [bI,lW,au,aP,iQ])
 |oK c n v t=>exact(⟨by decide,by decide,by decide,by decide⟩:oO [aP,au,bI,iC,fK] [bI,iC,au,aP,fK])
 |prog c n t=>exact(⟨by decide,by decide,by decide,by decide⟩:oO [aP,au,bI,iB] [bI,iB,au,aP])
 |text x t=>exact(⟨by decide,by decide,by decide,by decide⟩:oO [aP,j4,au] [j4,au,aP])
 |eot t=>exact(⟨by decide,by decide,by decide,by decide⟩:oO [aP,au] [au,aP])
theorem RC.sortedM{m:ak}:RC pr w d u c (.builtin "sorted") [] [Rl.dct pr w m.fields] [] [] (Rl.list (m.names.map Rl.str)).r c:=by
 obtain⟨h1,h2,h3,h4⟩:=m.Hs
 exact RC.sortedD (fun x=>m.names.idxOf x) (by cases m<;>(show _<64;simp only[ak.fields,List.length_cons,List.length_nil];(first|exact o195|exact o196|exact o197|exact o198))) h1 h2 h3 h4
theorem J2.neStr{x y:Str}:J2 pr w d u c (compareOp .NotEq) (Rl.str x) (Rl.str y) (Rl.av (.bool (x !=y))).r c:=.mk fun B s a b S ⟨t,h1⟩ ⟨t',h2⟩ Q hQ=>by
 subst h1 h2
 exact ne_str (hQ B s _ (Sub.refl B) S rfl)
theorem RB.cmp{l r:Expr}{op:CmpOp}{jq:Sem Value}{R1 R2:Rl}{b:Bool}(h1:RV pr w d u c (eval l env) R1)(h2:RV pr w d u c (eval r env) R2)(h3:J2 pr w d u c (compareOp op) R1 R2 (Rl.av (.bool b)).r c)(hb:behindInMarks op r=false):RB pr w d u c (isTrue (.Compare l [op] [r] pos) env jq) b:=.mk fun B s S Q hQ=>
 wpAny_isTrue_Compare1 (hm:=hb) (h1.go S fun B1 sE x kE S1 rA=>h2.go S1 fun B2 sG y kI S2 rB=>h3.run B2 sG x y S2 (R1.mono kI rA) rB _ fun B3 sI z kJ S3 rC=>by
  cases rC
  exact wpAny_truthy_bool (hQ B3 sI _ ((kE.trans kI).trans kJ) S3 rfl))
theorem JR.test1{e:Expr}{b:Bool}(h:RB pr w d u c (isTrue e env (eval e env)) b):JR pr w d u c (uD [e] env) (fun V y=>y=b) c:=.mk fun B s S Q hQ=>wpAny_tests_one (h.go S hQ)
theorem JR.test0:JR pr w d u c (uD [] env) (fun V y=>y=true) c:=.mk fun B s S Q hQ=>wpAny_tests_nil (hQ B s true (Sub.refl B) S rfl)
theorem goName{x:Str}{p:Pos}(it:Addr)(v:Value)(s:Shared)(o:Obj)(_:s.heap.get? it=some o)(_:o.cls=.type "list_iterator")(Q:Unit->Shared->Prop)(h:Q () s):wpAny (model pr w) (Ar d u) (letOwnedTupleGo (.Name x p) (.ref it) v) Q bf s:=wpAny_pure h
theorem goTup{elts:List Expr}{k:Nat}{p:Pos}(it:Addr)(v:Value)(s:Shared)(o:Obj)(g:s.heap.get? it=some o)(hc:o.cls=.type "list_iterator")(Q:Unit->Shared->Prop)(h:Q () s):wpAny (model pr w) (Ar d u) (letOwnedTupleGo (.Tuple elts k p) (.ref it) v) Q bf s:=by
 cases v with
 |ref a=>
  show wpAny _ _ (load it>>= _) _ _ _
  refine wpAny_bind (wpAny_load g ?_)
  rw[hc]
  cases o.data<;>exact wpAny_pure h
 |_=>exact wpAny_pure h
noncomputable def vK(m:ak)(i:Nat):Rl:=yE (m.names.getD i au,(m.fields.lookup (m.names.getD i au)).getD .none)
noncomputable def GP(m:ak)(i:Nat):Bool:=m.names.getD i au !=au
theorem Mz(m:ak):cW (vK m) (GP m) m.names.length=m.bare.map yE:=by
 cases m<;>rfl
theorem Js(m:ak){i:Nat}(h:i<m.names.length):∃ v,m.fields.lookup (m.names.getD i au)=some v:=by
 have hm:m.names.getD i au∈m.fields.map (·.1):=by
  refine m.Hs.1.mem_iff.mpr ?_
  rw[List.getD_eq_getElem?_getD,List.getElem?_eq_getElem h]
  exact List.getElem_mem h
 generalize m.names.getD i au=x at hm
 cases e:m.fields.lookup x with
 |some v=>exact⟨v,rfl⟩
 |none=>
  obtain⟨p,hp,rfl⟩:=List.mem_map.mp hm
  rw[List.lookup_eq_none_iff]at e
  have:=e p hp
  simp at this
theorem DN{m:ak}(hd:d+60<recursionLimit):RC pr w d u c (.ref 995) [] [Rl.msg pr w m] [] [] (pZ m.bare).r c:=by
 refine RC.defC (fd:=mU w.params) (body:=iI (mU w.params)) (ρ0:=[(mG,Rl.msg pr w m)]) (l995 _) (cd995 _) rfl (by exact jx hd) rfl rfl rfl rfl (fun L p hp=>?_) (fun B vs r=>?_) fun L hid=>?_
 · have e:cellsFrom (L+1) (mU w.params).scope.names []=[(aR,L+1)]:=rfl
   rw[e]at hp⊢
   rw[List.mem_singleton.mp hp];rfl
 · obtain _|⟨r,_|_⟩:=r
   rename_i v
   refine⟨[(mG,v)],by rfl,fun x hx=>?_,fun L x R e=>?_⟩
   · rw[List.mem_singleton.mp hx];rfl
   · by_cases h:x=mG
     · subst h
       simp[List.lookup]at e
       subst e
       exact⟨v,by rfl,r⟩
     · have:(x==mG)=false:=by simpa using h
       simp[List.lookup,this]at e
 · have e:cellsFrom (L+1) (mU w.params).scope.names []=[(aR,L+1)]:=rfl
   rw[e]
   have E:cO (callEnvC (mU w.params) L 995) L:=⟨rfl,rfl,rfl,rfl⟩
   refine BR.cons (XR.asgN (RV.mdict (m:=m) (RV.l E rfl rfl rfl) (by exact lu hd rfl) rfl) (J1.zF E (a:=L+1) (rD:=none) (pre:=[]) (post:=[]) rfl rfl rfl) rfl) ?_
   have e2:pZ m.bare=Rl.list (cW (vK m) (GP m) (m.names.map Rl.str).length):=by rw[List.length_map,Mz];rfl
   rw[e2]
   refine BR.ret (N:=[]) (RV.comp (Rs:=m.names.map Rl.str) (vK m) (GP m) (fun i=>[(uJ,Rl.str (m.names.getD i au))]) ?iter ?hz (cl:=[(aR,L+1)]) (by rfl) ?cell rfl ?names (fun it v s o g h Q q=>goName it v s o g h Q q) ?asg ?tst ?elt (fun V=>rfl)) rfl
   case iter=>exact RV.callName (RV.builtin E (xW _) (xX _) rfl rfl) rfl (aQ.cons (RV.cell E rfl rfl (.head _) rfl) aQ.nil rfl) RK.nil RC.sortedM rfl rfl rfl rfl
   case hz=>rw[List.length_map,I5,sizeLine_eq];cases m<;>(simp only[ak.fields,List.length_cons,List.length_nil];(first|exact o199|exact o200|exact o201|exact o202))
   case cell=>intro y hy;simp only[List.mem_cons,List.not_mem_nil,or_false]at hy;rcases hy with rfl|rfl|rfl<;>decide
   case names=>intro y hy hl;simp only[List.mem_cons,List.not_mem_nil,or_false]at hy;rcases hy with rfl|rfl|rfl<;>first|rfl|cases hl
   case asg=>
    intro i R C X hR
    rw[List.getElem?_map]at hR
    cases hn:m.names[i]? with
    |none=>rw[hn]at hR;cases hR
    |some x=>
     rw[hn]at hR
     cases hR
     have:m.names.getD i au=x:=by rw[List.getD_eq_getElem?_getD,hn];rfl
     rw[this]
     exact J1.name (J1.zy (c:=⟨C,[],[(aR,L+1,some (Rl.dct pr w m.fields))],X⟩) ⟨rfl,rfl,rfl,rfl⟩ rfl)
   case tst=>
    intro i C X hi
    exact JR.test1 (RB.cmp (RV.l ⟨rfl,rfl,rfl,rfl⟩ rfl rfl rfl) RV.str J2.neStr rfl)
   case elt=>
    intro i C X hi hb
    rw[List.length_map]at hi
    obtain⟨v,hv⟩:=Js m hi
    have e3:vK m i=Rl.tup [Rl.str (m.names.getD i au),Rl.av v]:=by unfold vK;rw[hv];rfl
    rw[e3]
    exact RV.tup (aQ.cons (RV.l ⟨rfl,rfl,rfl,rfl⟩ rfl rfl rfl) (aQ.cons (RV.sub (RV.cell ⟨rfl,rfl,rfl,rfl⟩ rfl rfl (.head _) rfl) (RV.l ⟨rfl,rfl,rfl,rfl⟩ rfl rfl rfl) (J2.dget hv) hT_dict (fun V V=>rfl)) aQ.nil rfl) rfl) (by show 2≤_;rw[sizeLine_eq];exact kY)
end
section
variable{pr:Program}{w:World}{os0:OsState}{d u:Nat}{c cA cB:aF}{B B':Heap}{s s':Shared}{env:Env}{pos:Pos}{α:Type}
theorem wY(S:LS w os0 c B s){vs':List Value}{Rs':List Rl}(a:bx B vs' Rs'){ob:Obj}{xs:Array Value}(hx:xs=vs'.toArray){Q:Value->Shared->Prop}(hQ:∀ B' s' y,Sub B B'->LS w os0 c B' s'->(Rl.list Rs').r B' y->Q y s'):
 Q (.ref (s.heap.objs.size+1)) {s with heap:=(s.heap.push ob).push {cls:=.type "list",data:=.seq xs}}:=by
 subst hx
 have up:Sub s.heap ((s.heap.push ob).push {cls:=.type "list",data:=.seq vs'.toArray}):=fun b o e=>Heap.get?_push_of_some _ (Heap.get?_push_of_some _ e)
 obtain⟨k,S'⟩:=S.grow (s':={s with heap:=(s.heap.push ob).push {cls:=.type "list",data:=.seq vs'.toArray}}) up
 refine hQ _ _ _ k S' ⟨_,vs',0,rfl,S.inB (s':={s with heap:=(s.heap.push ob).push {cls:=.type "list",data:=.seq vs'.toArray}}) up ?_ (.inr (Heap.get?_none_of_le (Nat.le_succ _))),a.mono k⟩
 have e:(s.heap.push ob).objs.size=s.heap.objs.size+1:=Heap.size_push ..
 rw[←e]
 exact Heap.get?_push_size _ rfl
theorem RV.sliceTo{value up:Expr}{p:Pos}{Rs:List Rl}{n:Int}(h:RV pr w d u c (eval value env) (Rl.list Rs))(h2:RV pr w d u c (eval up env) (Rl.int n))(h0:0≤n)(hz:Rs.length≤sizeLine)(ht:∀ o r,letTemporaryGo value o r=pure ()):
 RV pr w d u c (eval (.Subscript value (.Slice none (some up) none p) pos) env) (Rl.list (Rs.take n.toNat)):=.mk fun B s S Q hQ=>by
 refine wpAny_Subscript_list_slice (h.go S fun B1 sE o kE S1 rA=>?_) ht
 refine gG fun P_ k_=>?_
 obtain⟨l,vs,m,rfl,g,a⟩:=rA
 refine k_ ?_
 rw[evalPart_none]
 refine wpAny_pure ?_
 rw[evalPart_some]
 refine h2.go S1 fun B2 sG y kI S2 rB=>?_
 obtain⟨t,rfl⟩:=rB
 refine⟨l,vs.toArray,none,some n,rfl,cJ (S2.keep _ _ (kI _ _ g)),by rw[List.size_toArray,a.len];exact hz,.none,.int n t,?_⟩
 refine wY S2 ((a.mono kI).take n.toNat) ?_ fun B' s' y k S' r=>hQ B' s' y ((kE.trans kI).trans k) S' r
 obtain⟨k,rfl⟩:∃ k:Nat,n=k:=⟨n.toNat,by exact o204 h0⟩
 rw[slicePick_upto',Int.toNat_natCast]
theorem RV.sliceFrom{value lo:Expr}{p:Pos}{Rs:List Rl}{n:Int}(h:RV pr w d u c (eval value env) (Rl.list Rs))(h2:RV pr w d u c (eval lo env) (Rl.int n))(h0:0≤n)(hz:Rs.length≤sizeLine)(ht:∀ o r,letTemporaryGo value o r=pure ()):
 RV pr w d u c (eval (.Subscript value (.Slice (some lo) none none p) pos) env) (Rl.list (Rs.drop n.toNat)):=.mk fun B s S Q hQ=>by
 refine wpAny_Subscript_list_slice (h.go S fun B1 sE o kE S1 rA=>?_) ht
 refine gG fun P_ k_=>?_
 obtain⟨l,vs,m,rfl,g,a⟩:=rA
 refine k_ ?_
 rw[evalPart_some]
 refine h2.go S1 fun B2 sG y kI S2 rB=>?_
 obtain⟨t,rfl⟩:=rB
 rw[evalPart_none]
 refine wpAny_pure ?_
 refine⟨l,vs.toArray,some n,none,rfl,cJ (S2.keep _ _ (kI _ _ g)),by rw[List.size_toArray,a.len];exact hz,.int n t,.none,?_⟩
 refine wY S2 ((a.mono kI).drop n.toNat) ?_ fun B' s' y k S' r=>hQ B' s' y ((kE.trans kI).trans k) S' r
 obtain⟨k,rfl⟩:∃ k:Nat,n=k:=⟨n.toNat,by exact o204 h0⟩
 rw[slicePick_from',Int.toNat_natCast]
theorem RC.len{Rs:List Rl}(hz:Rs.length≤sizeLine):RC pr w d u c (.builtin "len") [] [Rl.list Rs] [] [] (Rl.int Rs.length).r c:=.mk fun B s fs vs kws S r1 r2 r3 Q hQ=>by
 cases r1;cases r3
 obtain _|⟨r,_|_⟩:=r2
 refine gG fun P_ k_=>?_
 obtain⟨l,vs,m,rfl,g,a⟩:=r
 refine k_ ?_
 show wpAny _ _ (call (.builtin "len") [.ref l]) _ _ _
 refine Calls.call_len_list (cJ (S.keep _ _ g)) ?_ ?_
 · rw[List.size_toArray,a.len]
   rw[sizeLine_eq]at hz;exact o205 hz
 · rw[List.size_toArray,a.len]
   exact hQ B _ _ (Sub.refl B) (S.same rfl) ⟨_,rfl⟩
theorem RC.max{a b:Int}:RC pr w d u c (.builtin "max") [] [Rl.int a,Rl.int b] [] [] (Rl.int (Max.max a b)).r c:=.mk fun B s fs vs kws S r1 r2 r3 Q hQ=>by
 cases r1;cases r3
 obtain _|⟨ra,_|⟨rb,_|_⟩⟩:=r2
 obtain⟨t,rfl⟩:=ra
 obtain⟨t',rfl⟩:=rb
 show wpAny _ _ (call (.builtin "max") [.int a t,.int b t']) _ _ _
 refine max_two_ints rfl fun h' tk up=>?_
 obtain⟨k,S'⟩:=S.grow (s':={s with heap:=h',toks:=tk}) up
 refine hQ _ _ _ k S' ?_
 by_cases h:b>a
 · rw[if_pos h];exact⟨t',by rw[Int.max_def,if_pos (by exact o206 h)]⟩
 · rw[if_neg h]
   refine⟨t,?_⟩
   rw[Int.max_def]
   split
   · have:a=b:=by exact o207 h (by assumption)
     subst this;rfl
   · rfl
theorem J2.pow{a n:Int}(h0:0≤n)(h1:n≤1000000)(ha:a.natAbs<2^64):J2 pr w d u c (binaryOp .Pow) (Rl.int a) (Rl.int n) (Rl.int (a^n.toNat)).r c:=.mk fun B s x y S ⟨t,hx⟩ ⟨k,hy⟩ Q hQ=>by
 subst hx hy;exact pow_int_small h0 h1 ha (hQ B _ _ (Sub.refl _) (S.same rfl) ⟨_,rfl⟩)
theorem J2.ltI{a b:Int}:J2 pr w d u c (compareOp .Lt) (Rl.int a) (Rl.int b) (Rl.av (.bool (decide (a<b)))).r c:=.mk fun B s x y S ⟨t,hx⟩ ⟨k,hy⟩ Q hQ=>by
 subst hx hy;exact PyProof.Rows.lt_int (hQ B _ _ (Sub.refl _) S rfl)
theorem J2.gtI{a b:Int}:J2 pr w d u c (compareOp .Gt) (Rl.int a) (Rl.int b) (Rl.av (.bool (decide (b<a)))).r c:=.mk fun B s x y S ⟨t,hx⟩ ⟨k,hy⟩ Q hQ=>by
 subst hx hy;exact PyProof.Rows.gt_int (hQ B _ _ (Sub.refl _) S rfl)
theorem J2.eqI{a b:Int}:J2 pr w d u c (compareOp .Eq) (Rl.int a) (Rl.int b) (Rl.av (.bool (a==b))).r c:=.mk fun B s x y S ⟨t,hx⟩ ⟨k,hy⟩ Q hQ=>by
 subst hx hy;exact PyProof.Rows.eq_int (hQ B _ _ (Sub.refl _) S rfl)
theorem XR.if{test:Expr}{body orelse:List Stmt}{b:Bool}{f:FL}(h:RB pr w d u c (isTrue test env (eval test env)) b)(h1:b=true->XR pr w d u c (execs body env) f cA)(h2:b=false->XR pr w d u c (execs orelse env) f cA):XR pr w d u c (exec (.If test body orelse pos) env) f cA:=.mk fun B s S Q hQ=>
 wpAny_If (h.go S fun B1 sE y kE S1 rA=>by
  subst rA
  cases y with
  |true=>exact(h1 rfl).go S1 fun B2 sG z kI S2 rB=>hQ B2 sG z (kE.trans kI) S2 rB
  |false=>exact(h2 rfl).go S1 fun B2 sG z kI S2 rB=>hQ B2 sG z (kE.trans kI) S2 rB)
theorem RB.name{x:Str}{p:Pos}{b:Bool}(E:cO env c.L)(hx:env.kindOf x=some .local)(hρ:c.ρ.lookup x=some (Rl.av (.bool b)))(hd:(x==("__debug__":Str))=false):RB pr w d u c (isTrue (.Name x p) env (eval (.Name x p) env)) b:=.mk fun B s S Q hQ=>by
 refine isTrue_plain ((RV.l (pr:=pr) (d:=d) (u:=u) E hx hρ hd).go S fun B1 sE y kE S1 rA=>?_) rfl
 cases rA
 exact wpAny_truthy_bool (hQ B1 sE _ kE S1 rfl)
theorem XR.aug(E:cO env c.L){x:Str}{p:Pos}{value:Expr}{a b:Int}(hx:env.kindOf x=some .local)(hρ:c.ρ.lookup x=some (Rl.int a))(h:RV pr w d u c (eval value env) (Rl.int b)):XR pr w d u c (exec (.AugAssign (.Name x p) .Add value pos) env) .next (c.put x (Rl.int (a+b))):=.mk fun B s S Q hQ=>by
 refine gG fun P_ k_=>?_
 obtain⟨m,hm,hl⟩:=S.fr
 obtain⟨v,e,r⟩:=hl x _ hρ
 refine k_ ?_
 have hm':s.heap.Ns env.locals m:=by rw[E.hL];exact hm
 refine wpAny_AugAssign_Name (wpAny_loadName_local E.hk hx hm' e (h.go S fun B1 sE y kE S1 rA=>?_))
 refine(J2.iadd (pr:=pr) (d:=d) (u:=u) (a:=a) (b:=b)).run B1 sE v y S1 r rA _ fun B2 sG z kI S2 rB=>?_
 exact(J1.zy (pr:=pr) (d:=d) (u:=u) E (R:=Rl.int (a+b)) hx).run B2 sG z S2 rB _ fun B3 sI V kJ S3 V=>hQ B3 sI _ ((kE.trans kI).trans kJ) S3 rfl
theorem XR.append(E:cO env c.L){x:Str}{Sa:Addr}{Rs:List Rl}{R:Rl}{e:Expr}{pre post:List (Addr×MO)}{q1 q2 q4 pos2:Pos}{pl:Sem Bool}(hM:c.M=pre++(Sa,.lst Rs)::post)(e1:c.ρ.lookup x=some (Rl.val (.ref Sa)))(hz:Rs.length≤sizeLine)(h:RV pr w d u c (eval e env) R)
 (k1:env.kindOf x=some .local) (hdx:(x==("__debug__":Str))=false)
 (he:eval (.Call (.Attribute (.Name x q1) oZ q2) [e] [] pos2) env=(do
  let ov←eval (.Name x q1) env
  standAt q2.atName
  let(f,first)←holding [ov] (getMethod ov oZ pl)
  callWith pos2 f first (backTo pos2 (starEach [e] env)) (backToKw pos2 (keywordEach [] env))))
 (m9:backTo pos2 (starEach [e] env)=[(false,eval e env)]) (hi:interactive env=false) (hs:swapsWith (.Call (.Attribute (.Name x q1) oZ q2) [e] [] pos2) none q4.line env=pure false):
 XR pr w d u c (exec (.Expr (.Call (.Attribute (.Name x q1) oZ q2) [e] [] pos2) q4) env) .next {c with M:=pre++(Sa,.lst (Rs++[R]))::post}:=.mk fun B s S Q hQ=>by
 have hmem:(Sa,MO.lst Rs)∈c.M:=by rw[hM];simp
 refine wpAny_Expr_any (methodCall_KW (pl:=pl) (he:=he) ((RV.l (pr:=pr) (d:=d) (u:=u) E k1 e1 hdx).go S fun B0 sH x kO S0 rD=>?_)) hi hs
 cases rD
 obtain⟨vs0,nA,g0,V⟩:=S0.muts _ hmem
 refine getMethod_builtin (T:="list") ⟨_,g0,rfl⟩ PySem.F.plainAttrs_list slot_list_append (by rfl) (fun a ea=>by cases ea;exact⟨_,g0,rfl⟩) ?_
 refine callWith_of (P:=fun V=>True) (by rw[m9];rfl) (fun h V=>⟨.machine,.inr (.inl rfl),Looks.of_pure rfl⟩) (c7 (by rw[m9];rfl) rfl (sp1 (h.go S0 fun B1 sE y kE S1 rA=>?_) m9))
 refine wpAny_evalAll_nil ⟨trivial,?_⟩
 exact vL S1 hM rA hz fun B2 sG kI S2=>hQ B2 sG _ ((kO.trans kE).trans kI) S2 rfl
theorem RV.last(E:cO env c.L){x:Str}{Sa:Addr}{Rs:List Rl}{R:Rl}{pre post:List (Addr×MO)}{q1:Pos}{slice:Expr}(hM:c.M=pre++(Sa,.lst (Rs++[R]))::post)(e1:c.ρ.lookup x=some (Rl.val (.ref Sa)))(hz:Rs.length≤sizeLine)(hsl:RV pr w d u c (eval slice env) (Rl.int (-1)))
 (k1:env.kindOf x=some .local) (hdx:(x==("__debug__":Str))=false) (hs:∀ o i,subscripted slice false o i=operate [o,i] (getItem o i)):RV pr w d u c (eval (.Subscript (.Name x q1) slice pos) env) R:=.mk fun B s S Q hQ=>by
 have hmem:(Sa,MO.lst (Rs++[R]))∈c.M:=by rw[hM];simp
 rw[eval_Subscript]
 refine wpAny_bind ((RV.l (pr:=pr) (d:=d) (u:=u) E k1 e1 hdx).go S fun B1 sE o kE S1 rA=>wpAny_bind (wpAny_holding (hsl.go S1 fun B2 sG i kI S2 rB=>wpAny_bind (wpAny_standAt ?_))))
 cases rA
 refine gG fun P_ k_=>?_
 obtain⟨t,rfl⟩:=rB
 obtain⟨vs,n,g,a⟩:=S2.muts _ hmem
 refine k_ ?_
 have ht:sG.TypeIs (.ref Sa) "list":=⟨_,g,rfl⟩
 refine wpAny_bind ?_
 rw[getitemInPython_of_ne ht.not_modules]
 refine wpAny_bind (wpAny_specialOf ht slot_list_getitem.lookup ?_)
 show wpAny _ _ (pure false) _ _ _
 refine wpAny_pure ?_
 rw[hs]
 obtain⟨v,ev,rv⟩:=a.get (i:=Rs.length) (R:=R) (by simp)
 have hl:=a.len
 simp only[List.length_append,List.length_cons,List.length_nil]at hl
 refine wpAny_bind (wpAny_operating (wpAny_getItem_list_neg (cJ g) (by decide) (by rw[List.size_toArray,hl];exact o208 hl) (by decide) (x:=v) ?_ ?_))
 · have e:(-1+(vs.toArray.size:Int)).toNat=Rs.length:=by rw[List.size_toArray,hl];exact o209 hl
   rw[e];simpa using ev
 · exact wpAny_bind (wpAny_letTemporaryGo (wpAny_pure (hQ B2 sG v (kE.trans kI) S2 rv)))
end
noncomputable def Rl.rng(n:Nat):Rl:=⟨fun h v=>∃ r t t' t'',v=.ref r∧h.get? r=some {cls:=.type "range",dict:=none,data:=.fields #[.int 0 t,.int n t',.int 1 t''],slots:=#[]},fun k=>Exists.imp fun V=>Exists.imp fun V=>Exists.imp fun V=>Exists.imp fun V h=>⟨h.1,k _ _ h.2⟩⟩
noncomputable def lY(i n:Nat)(o:Obj):Prop:=o={cls:=.type "range_iterator",dict:=none,data:=.fields #[rawInt i,rawInt ((n:Int) - i),rawInt 1],slots:=#[]}
section
variable{pr:Program}{w:World}{os0:OsState}{d u:Nat}{c cA cB:aF}{B B':Heap}{s s':Shared}{env:Env}{pos:Pos}{α:Type}
theorem RC.range{n:Nat}:RC pr w d u c (.type "range") [] [Rl.int n] [] [] (Rl.rng n).r c:=.mk fun B s fs vs kws S r1 r2 r3 Q hQ=>by
 cases r1;cases r3
 obtain _|⟨ra,_|_⟩:=r2
 obtain⟨t,rfl⟩:=ra
 show wpAny _ _ (call (.type "range") [.int n t]) _ _ _
 refine call_range_1 ?_
 have up:Sub s.heap (s.heap.push {cls:=.type "range",data:=.fields #[.int 0 s.toks,.int n t,.int 1 (s.toks+1)]}):=fun b o e=>Heap.get?_push_of_some _ e
 obtain⟨k,S'⟩:=S.grow (s':={s with heap:=s.heap.push {cls:=.type "range",data:=.fields #[.int 0 s.toks,.int n t,.int 1 (s.toks+1)]},toks:=s.toks+1+1}) up
 exact hQ _ _ _ k S' ⟨_,_,_,_,rfl,S.inB (s':={s with heap:=s.heap.push {cls:=.type "range",data:=.fields #[.int 0 s.toks,.int n t,.int 1 (s.toks+1)]},toks:=s.toks+1+1}) up (Heap.get?_push_size _ rfl) (.inr (Heap.get?_none_of_le (Nat.le_refl _)))⟩
theorem XR.Bv(E:cO env c.L){x:Str}{px:Pos}{iter:Expr}{body:List Stmt}{n:Nat}(hn:n<1000)(I:Nat->aF)(hx:env.kindOf x=some .local)(h:RV pr w d u c (eval iter env) (Rl.rng n))(h0:I 0=c)(hL:∀ i,(I i).L=c.L)
 (turn:∀ i,i<n->∀ it P,XR pr w d u (((I i).with it P).put x (Rl.int i)) (execs body env) .next ((I (i+1)).with it P)) (hs:∀ x,foldedSetIterable iter env x=pure x) (ht:∀ it v,letOwnedTupleGo (.Name x px) it v=pure ()):
 XR pr w d u c (exec (.For (.Name x px) iter body [] pos) env) .next (I n):=.mk<|@fun os0 B s S Q hQ=>by
 refine wpAny_For (h.go S fun B1 sE y kE S1 rA=>?_) hs
 refine gG fun P_ k_=>?_
 obtain⟨r,t,t',t'',rfl,gA⟩:=rA
 refine k_ ?_
 have hsm:Builtin.Range.small 0 n 1=true:=small_one (by decide) (by decide) (by exact o211 hn) (by exact o210 hn)
 have hsz:Builtin.Range.rangeSize 0 n 1=n:=by rw[rangeSize_one];split<;>(first|exact o212|exact o213 hn (by assumption))
 refine wpAny_pyIter_range (a:=0) (b:=n) (c:=1) (t:=t) (u:=t') (v:=t'') (S1.keep _ _ gA) hsm ?_
 rw[hsz]
 obtain⟨B2,kI,S2⟩:=S1.w5 (a:=sE.heap.objs.size) (m:=.raw (lY 0 n)) (h':=sE.heap.push {cls:=.type "range_iterator",data:=.fields #[rawInt 0,rawInt n,rawInt 1]}) (t:=sE.toks) (Heap.get?_none_of_le (Nat.le_refl _)) (fun b o e=>Heap.get?_push_of_some _ e)
  ⟨_,Heap.get?_push_size _ rfl,by unfold lY;simp⟩
 generalize sE.heap.objs.size=it at S2⊢
 have S2':LS w os0 ((I 0).with it (lY 0 n)) B2 {sE with heap:=sE.heap.push {cls:=.type "range_iterator",data:=.fields #[rawInt 0,rawInt n,rawInt 1]}}:=by rw[h0];exact S2
 refine codeAny_forLoop (fun k s'=>∃ i B',k=n - i∧i≤n∧Sub B1 B'∧LS w os0 ((I i).with it (lY i n)) B' s') (fun k s' hJ=>?_) n ⟨0,B2,rfl,Nat.zero_le _,kI,S2'⟩ (fun v=>ht _ v)
 refine x24 hJ fun i B' ek hi kk S'=>?_
 subst ek
 refine lR fun G hG=>?_
 obtain⟨o,go,ho⟩:=S'.muts _ (.head _)
 have go':s'.heap.get? it=some {cls:=.type "range_iterator",dict:=none,data:=.fields #[rawInt i,rawInt ((n:Int) - i),rawInt 1],slots:=#[]}:=by rw[←ho];exact go
 rcases Nat.lt_or_ge i n with hlt|hge
 · refine wpAny_pyNext_range_item go' (by exact o214 hsz hlt) fun h' hit' hsb=>hG _ _ (lR fun G1 hGA=>?_)
   have e1:(i:Int)+1=((i+1:Nat):Int):=by exact o215
   have e2:(n:Int) - i - 1=(n:Int) - ((i+1:Nat):Int):=by exact o216
   rw[e1,e2]at hit'
   obtain⟨B3,kJ,V,S3⟩:=S'.turned (pre:=[]) (m':=.raw (lY (i+1) n)) (t:=s'.toks+1) rfl (fun b o hb e=>(hsb.2 b hb).trans e) fun V=>⟨_,hit',rfl⟩
   refine wpAny_assign_Name ?_
   obtain⟨m,hm,hl⟩:=S3.fr
   have eL:c.L=((I i).with it (lY (i+1) n)).L:=(hL i).symm
   have hm':h'.Ns env.locals m:=by rw[E.hL,eL];exact hm
   refine wpAny_storeName_local hx hm' (fun h₄ hn2 hsb4=>?_) (by rw[E.hk];rfl)
   rw[E.hL,eL]at hn2 hsb4
   obtain⟨B4,kW,S4⟩:=LS.stored (t:=s'.toks+1+1) S3 (x:=x) (R:=Rl.int i) ⟨_,rfl⟩ hl hn2 hsb4
   refine hGA _ _ (cY ((turn i hlt it (lY (i+1) n)).go S4 fun B5 s5 f k5 S5 rf=>?_))
   cases rf
   exact⟨n - (i+1),by exact o217 hsz hlt,i+1,B5,rfl,hlt,((kk.trans kJ).trans kW).trans k5,S5⟩
 · have e:i=n:=by exact o218 hsz hi hge
   subst e
   refine wpAny_pyNext_range_end rfl go' (by exact o219) fun h' he=>hG _ _ (wpAny_execs_nil (hQ B' _ _ (kE.trans kk) (LS.yS S' (s':={s' with heap:=h'}) (pre:=[]) (post:=(I i).M) rfl he) rfl))
theorem XR.while(I:Nat->aF)(N:Nat){test:Expr}{body:List Stmt}(h0:I 0=c)(htest:∀ i,i≤N->RB pr w d u (I i) (isTrue test env (eval test env)) (decide (i<N)))(hbody:∀ i,i<N->XR pr w d u (I i) (execs body env) .next (I (i+1))):
 XR pr w d u c (exec (.While test body [] pos) env) .next (I N):=.mk<|@fun os0 B s S Q hQ=>by
 refine wpAny_While (codeAny_whileLoop (fun k s'=>∃ i B',k=N - i∧i≤N∧Sub B B'∧LS w os0 (I i) B' s') (fun k s' hJ=>?_) N ⟨0,B,rfl,Nat.zero_le _,Sub.refl _,h0▸S⟩)
 refine gG fun P_ k_=>?_
 obtain⟨i,B',rfl,hi,kk,S'⟩:=hJ
 refine k_ ?_
 refine cY ((htest i hi).go S' fun B1 sE y kE S1 rA=>?_)
 subst rA
 by_cases hlt:i<N
 · simp only[hlt,decide_true,if_true]
   refine cY ((hbody i hlt).go S1 fun B2 sG f kI S2 rB=>?_)
   cases rB
   exact⟨N - (i+1),by exact o5 hlt,i+1,B2,rfl,hlt,kk.trans (kE.trans kI),S2⟩
 · have e:i=N:=by exact o220 hi hlt
   subst e
   simp only[Nat.lt_irrefl,decide_false,Bool.false_eq_true,if_false]
   exact wpAny_execs_nil (hQ B1 sE _ (kk.trans kE) S1 rfl)
end
section
variable{pr:Program}{w:World}{os0:OsState}{d u:Nat}{c cA cB:aF}{B B':Heap}{s s':Shared}{env:Env}{pos:Pos}{α:Type}{R:Rl}{X:List (Addr×MO)}
theorem J1.sL{L:Addr}(E:cO env L){x:Str}{R:Rl}(hx:env.kindOf x=some .local)(hc:c.L=L:=by rfl):J1 pr w d u c (fun v=>storeName env x v) R (fun V V=>True) (c.put x R):=J1.zy (hc▸E) hx
theorem nM{p:Pos}{rest:List Expr}(S:LS w os0 c B s){Q:List Value->Shared->Prop}(he:backTo pos (starEach (.List [] p::rest) env)=(false,eval (.List [] p) env)::backTo pos (starEach rest env))
 (h:∀ B' s' a,Sub B B'->LS w os0 {c with M:=(a,.lst [])::c.M} B' s'->wpAny (model pr w) (Ar d u) (spliced (backTo pos (starEach rest env))) (fun vs sG=>Q (.ref a::vs) sG) bf s'):
 wpAny (model pr w) (Ar d u) (spliced (backTo pos (starEach (.List [] p::rest) env))) Q bf s:=by
 rw[he,spliced]
 refine wpAny_bind (wpAny_List (Calls.spliced_nil ⟨Nat.zero_le _,?_⟩))
 obtain⟨B1,kE,S1⟩:=S.w5 (a:=s.heap.objs.size) (m:=.lst []) (h':=s.heap.push {cls:=.type "list",data:=.seq ([]:List Value).toArray}) (t:=s.toks) (Heap.get?_none_of_le (Nat.le_refl _)) (fun b o e=>Heap.get?_push_of_some _ e) ⟨[],0,Heap.get?_push_size _ rfl,.nil⟩
 exact wpAny_bind (wpAny_pure (wpAny_bind (wpAny_holding (wpAny_mono (h B1 _ _ kE S1) (fun vs sG q=>wpAny_pure q) fun V V z=>z))))
theorem Dz{e:Expr}{rest:List Expr}{R1:Rl}(S:LS w os0 c B s)(hv:RV pr w d u c (eval e env) R1){Q:List Value->Shared->Prop}(he:backTo pos (starEach (e::rest) env)=(false,eval e env)::backTo pos (starEach rest env))
 (h:∀ B' s' v,Sub B B'->LS w os0 c B' s'->R1.r B' v->wpAny (model pr w) (Ar d u) (spliced (backTo pos (starEach rest env))) (fun vs sG=>Q (v::vs) sG) bf s'):
 wpAny (model pr w) (Ar d u) (spliced (backTo pos (starEach (e::rest) env))) Q bf s:=by
 rw[he,spliced]
 exact wpAny_bind (hv.go S fun B1 sE v kE S1 rA=>wpAny_bind (wpAny_pure (wpAny_bind (wpAny_holding (wpAny_mono (h B1 sE v kE S1 rA) (fun vs sG q=>wpAny_pure q) fun V V z=>z)))))
theorem wM{elts es:List Expr}{k k':Nat}{tpos jr:Pos}{names:List Str}{Q:Flow->Shared->Prop}
 (h:wpAny (model pr w) (Ar d u) (spliced (backTo jr (starEach es env))) (fun vs sG=>∃ B2 cB Rs,LS w os0 cB B2 sG∧bx B2 vs Rs∧names.length=Rs.length∧Rs.length≤10∧∃ cC,JO pr w d u cB (names.reverse.map fun n=>bindName env n) Rs.reverse cC∧∀ B3 sI,Sub B2 B3->LS w os0 cC B3 sI->Q .next sI) bf s)
 (hs:swapsWithSole [.Tuple elts k tpos] (.Tuple es k' jr) pos.line env=pure false) (hw:swappedStores [.Tuple elts k tpos] (.Tuple es k' jr) env=pure (some names)):wpAny (model pr w) (Ar d u) (exec (.Assign [.Tuple elts k tpos] (.Tuple es k' jr) pos) env) Q bf s:=by
 refine Assign_Tuple_swapped (wpAny_Tuple (wpAny_mono h (fun vs sG q=>?_) fun V V z=>z)) hs hw
 refine gG fun P_ k_=>?_
 obtain⟨B2,cB,Rs,S2,a,hl,hz,cC,hj,hQ⟩:=q
 refine k_ ?_
 refine⟨by rw[a.len,sizeLine_eq];exact o221 hl hz,S2.tup1 (Q:=fun z sI=>wpAny (model pr w) (Ar d u) (unpackItems z names.length none) (fun items s4=>wpAny (model pr w) (Ar d u) (assignInOrder (names.reverse.map fun n=>bindName env n) items.reverse) (fun V=>Q .next) bf s4) bf sI) a fun B3 sI z kJ S3 r=>?_⟩
 refine gG fun P_ k_=>?_
 obtain⟨l,vs',rfl,g,a'⟩:=r
 refine k_ ?_
 have e:names.length=vs'.toArray.size:=by rw[hl, ←a'.len];simp
 rw[e]
 refine unpackItems_tuple rfl (PyProof.Rows.IsTup.keeps g S3.keep) fun h' he=>?_
 exact hj.run B3 _ _ (S3.extBut he) a'.rev _ fun B4 s4 kW S4=>hQ B4 s4 (kJ.trans kW) S4
variable{x y z:Str}{p p':Pos}{elts:List Expr}{k k':Nat}{tpos jr:Pos}{rest:List Stmt}
theorem new2(E:cO env c.L)(hx:env.kindOf x=some .local)(hy:env.kindOf y=some .local)(hs:swapsWithSole [.Tuple elts k tpos] (.Tuple [.List [] p,.List [] p'] k' jr) pos.line env=pure false)(hw:swappedStores [.Tuple elts k tpos] (.Tuple [.List [] p,.List [] p'] k' jr) env=pure (some [x,y]))
 (S:LS w os0 c B s) {Q:Flow->Shared->Prop} (h:∀ a b B' s',Sub B B'->LS w os0 (({c with M:=(b,.lst [])::(a,.lst [])::c.M}.put y (Rl.val (.ref b))).put x (Rl.val (.ref a))) B' s'->Q .next s'):
 wpAny (model pr w) (Ar d u) (exec (.Assign [.Tuple elts k tpos] (.Tuple [.List [] p,.List [] p'] k' jr) pos) env) Q bf s:=by
 refine wM (os0:=os0) (names:=[x,y]) (nM S rfl fun B1 sE a kE S1=>nM S1 rfl fun B2 sG b kI S2=>Calls.spliced_nil ?_) hs hw
 refine⟨B2,_,[Rl.val (.ref a),Rl.val (.ref b)],S2,.cons rfl (.cons rfl .nil),rfl,by simp,_,JO.cons (J1.bind (J1.sL (R:=Rl.val (.ref b)) E hy)) (JO.cons (J1.bind (J1.sL (R:=Rl.val (.ref a)) E hx)) JO.nil),fun B3 sI kJ S3=>h a b B3 sI ((kE.trans kI).trans kJ) S3⟩
theorem new3(E:cO env c.L){i:Int}{kc:Nat}{p'':Pos}(hx:env.kindOf x=some .local)(hy:env.kindOf y=some .local)(hz:env.kindOf z=some .local)(hs:swapsWithSole [.Tuple elts k tpos] (.Tuple [.List [] p,.List [] p',.Constant (.int i) kc p''] k' jr) pos.line env=pure false)
 (hw:swappedStores [.Tuple elts k tpos] (.Tuple [.List [] p,.List [] p',.Constant (.int i) kc p''] k' jr) env=pure (some [x,y,z]))
 (S:LS w os0 c B s) {Q:Flow->Shared->Prop} (h:∀ a b B' s',Sub B B'->LS w os0 ((({c with M:=(b,.lst [])::(a,.lst [])::c.M}.put z (Rl.int i)).put y (Rl.val (.ref b))).put x (Rl.val (.ref a))) B' s'->Q .next s'):
 wpAny (model pr w) (Ar d u) (exec (.Assign [.Tuple elts k tpos] (.Tuple [.List [] p,.List [] p',.Constant (.int i) kc p''] k' jr) pos) env) Q bf s:=by
 refine wM (os0:=os0) (names:=[x,y,z]) (nM S rfl fun B1 sE a kE S1=>nM S1 rfl fun B2 sG b kI S2=>Dz S2 RV.int rfl fun B3 sI v kJ S3 rC=>Calls.spliced_nil ?_) hs hw
 refine⟨B3,_,[Rl.val (.ref a),Rl.val (.ref b),Rl.int i],S3,.cons rfl (.cons rfl (.cons rC .nil)),rfl,by simp,_,JO.cons (J1.bind (J1.sL (R:=Rl.int i) E hz)) (JO.cons (J1.bind (J1.sL (R:=Rl.val (.ref b)) E hy)) (JO.cons (J1.bind (J1.sL (R:=Rl.val (.ref a)) E hx)) JO.nil)),
  fun B4 s4 kW S4=>h a b B4 s4 (((kE.trans kI).trans kJ).trans kW) S4⟩
theorem new1(E:cO env c.L){i:Int}{kc:Nat}{p'':Pos}(hx:env.kindOf x=some .local)(hz:env.kindOf z=some .local)(hs:swapsWithSole [.Tuple elts k tpos] (.Tuple [.List [] p,.Constant (.int i) kc p''] k' jr) pos.line env=pure false)
 (hw:swappedStores [.Tuple elts k tpos] (.Tuple [.List [] p,.Constant (.int i) kc p''] k' jr) env=pure (some [x,z]))
 (S:LS w os0 c B s) {Q:Flow->Shared->Prop} (h:∀ a B' s',Sub B B'->LS w os0 (({c with M:=(a,.lst [])::c.M}.put z (Rl.int i)).put x (Rl.val (.ref a))) B' s'->Q .next s'):
 wpAny (model pr w) (Ar d u) (exec (.Assign [.Tuple elts k tpos] (.Tuple [.List [] p,.Constant (.int i) kc p''] k' jr) pos) env) Q bf s:=by
 refine wM (os0:=os0) (names:=[x,z]) (nM S rfl fun B1 sE a kE S1=>Dz S1 RV.int rfl fun B3 sI v kJ S3 rC=>Calls.spliced_nil ?_) hs hw
 refine⟨B3,_,[Rl.val (.ref a),Rl.int i],S3,.cons rfl (.cons rC .nil),rfl,by simp,_,JO.cons (J1.bind (J1.sL (R:=Rl.int i) E hz)) (JO.cons (J1.bind (J1.sL (R:=Rl.val (.ref a)) E hx)) JO.nil),
  fun B4 s4 kW S4=>h a B4 s4 ((kE.trans kJ).trans kW) S4⟩
theorem BR.then{ι:Type}{st:Stmt}{K:ι->aF}(h:∀{os0:OsState} B s,LS w os0 c B s->∀ Q:Flow->Shared->Prop,(∀ i B' s',Sub B B'->LS w os0 (K i) B' s'->Q .next s')->wpAny (model pr w) (Ar d u) (exec st env) Q bf s)
 (h2:∀ i,BR pr w d u (K i) (execs rest env) R X):BR pr w d u c (execs (st::rest) env) R X:=.mk fun B s S Q hQ=>
 wpAny_execs_cons (h B s S _ fun i B1 sE kE S1=>(h2 i).run B1 sE S1 Q fun B' s' v L ρ cl N k S' r=>hQ B' s' v L ρ cl N (kE.trans k) S' r)
theorem XR.thenK{ι:Type}{st:Stmt}{K:ι->aF}{f:FL}(h:∀{os0:OsState} B s,LS w os0 c B s->∀ Q:Flow->Shared->Prop,(∀ i B' s',Sub B B'->LS w os0 (K i) B' s'->Q .next s')->wpAny (model pr w) (Ar d u) (exec st env) Q bf s)
 (h2:∀ i,XR pr w d u (K i) (execs rest env) f cA):XR pr w d u c (execs (st::rest) env) f cA:=.mk fun B s S Q hQ=>
 wpAny_execs_cons (h B s S _ fun i B1 sE kE S1=>(h2 i).go S1 fun B' s' y k S' r=>hQ B' s' y (kE.trans k) S' r)
end
structure TookC(D C:Addr)(own:List Addr)(og:List Nat)(s s':Shared):Prop where
 heap:∀ b o,b∉own->b≠D->b≠C->s.heap.get? b=some o->s'.heap.get? b=some o
 gens:∀(i:Nat) (x:GenState),i∉og->s.gens[i]? =some x->s'.gens[i]? =some x
 drawn:lw s'=lw s
 os:s'.os=s.os
noncomputable def newC2(B:Heap)(D C:Addr)(s:Shared)(own:List Addr)(b:Addr):Prop:=(b≠D∧b≠C)∧((∃ o,B.get? b=some o)∨s.heap.get? b=none∨b∈own)
section
variable{pr:Program}{w:World}{os0:OsState}{d u:Nat}{B:Heap}{og:List Nat}{I D C:Addr}{R:Result->Shared->Prop}{x:Str}{p px pos:Pos}{iter:Expr}{scope:Scope}{env:Env}
noncomputable def GLp(pr:Program)(w:World)(d u:Nat)(B:Heap)(og:List Nat)(I D C:Addr)(R:Result->Shared->Prop)(k:Nat)(s:Shared):Prop:=
 ∃(ms:List ak) (own:List Addr) (acc:List Value) (c:Nat) (m:Str->Option Value),k=ms.length∧nu pr w d u B (.ref I) own og ms s∧aU B s∧D∉own∧C∉own∧(∀ b∈own,B.get? b=none)∧s.heap.get? D=some (bK acc c)∧s.heap.Ns C m∧acc.length+ms.length≤sizeLine∧
  ∀ s' vs c' m',TookC D C own og s s'->s'.heap.get? D=some (bK (acc++vs) c')->s'.heap.Ns C m'->j9 pr w (newC2 B D C s own) s'.heap vs ms->R (.ok .next) s'
theorem M4(hBD:B.get? D=none)(hBC:B.get? C=none)(hDC:D≠C)(hx:env.kindOf x=some .local)(hk0:env.scope.kind=.function)(hL:env.locals=C)(hd:(x==("__debug__":Str))=false){k:Nat}{s:Shared}(h:GLp pr w d u B og I D C R k s):
 codeAny (model pr w) (Ar d u) (.compLoop (.ListComp (.Name x p) [⟨.Name x px,iter,[],0⟩] scope pos) 0 (.ref I) (.ref D) env) R s:=by
 refine xU (GLp pr w d u B og I D C R) (fun k s h=>lR fun G hG=>?_) k h
 refine gG fun P_ k_=>?_
 obtain⟨ms,own,acc,c,m,rfl,hS,hk,hDo,hCo,hBo,hD,hC,hz,hR⟩:=h
 refine k_ ?_
 cases ms with
 |nil=>
  refine hS _ hk fun s' hM=>?_
  refine gG fun P_ k_=>?_
  obtain⟨o,es,n,e1,e2⟩:=hC
  refine k_ ?_
  exact hG _ _ (hR s' [] c m ⟨fun b o h1 V V e=>hM.heap b o h1 e,hM.gens,hM.drawn,hM.os⟩ (by rw[List.append_nil];exact hM.heap D _ hDo hD) ⟨o,es,n,hM.heap C _ hCo e1,e2⟩ .nil)
 |cons mm ms=>
  refine hS _ hk fun sE v own' hsub hM hV hN=>hG _ _ ?_
  have hk1:aU B sE:=hM.keep hk hBo
  have hD1:=hM.heap D _ hDo hD
  have hC1:sE.heap.Ns C m:=by
   refine gG fun P_ k_=>?_
   obtain⟨o,es,n,e1,e2⟩:=hC
   refine k_ ?_
   exact⟨o,es,n,hM.heap C _ hCo e1,e2⟩
  refine wpAny_pure ?_
  refine wpAny_assign_Name (wpAny_storeName_local hx (by rw[hL];exact hC1) (fun h₂ hn2 hsA=>?_) (by rw[hk0];rfl))
  rw[hL]at hn2 hsA
  refine wpAny_tests_nil ?_
  rw[if_pos rfl]
  refine wpAny_Name (wpAny_loadName_local (v:=v) hk0 hx (by rw[hL];exact hn2) (by simp) ?_) hd
  have oth2:∀ b o,b≠C->sE.heap.get? b=some o->h₂.get? b=some o:=fun b o hb e=>(hsA.2 b hb).trans e
  have hDA:=oth2 D _ hDC hD1
  refine wpAny_call_entry slot_list_append ⟨_,hDA,rfl⟩ entry_list_append ?_ (args_list_append _ _)
  show wpAny _ _ (updateSeq D (·.push v)>>= fun V=>ret .none) _ _ _
  have hz':acc.length+(ms.length+1)≤sizeLine:=hz
  refine wpAny_bind (wpAny_updateSeq hDA rfl (wpAny_pure ⟨_,rfl,?_⟩) (by rw[List.size_toArray];exact o30 hz) (by rw[Array.size_push,List.size_toArray];exact o29 hz))
  obtain⟨cC,eF⟩:=uL (vs:=acc) (n:=c) (v:=v)
  have hD3:=Heap.get?_update_self (Obj.mapSeq (·.push v)) hDA rfl
  rw[eF]at hD3
  have oth:∀ b o,b≠D->b≠C->sE.heap.get? b=some o->(h₂.update D (Obj.mapSeq (·.push v))).get? b=some o:=fun b o h1 h2 e=>(Heap.get?_update_other _ _ (Ne.symm h1)).trans (oth2 b o h2 e)
  have nD:∀ b,CK B s own own' b->b≠D∧b≠C:=fun b hX=>by
   refine gG fun P_ k_=>?_
   obtain⟨oC,V,V,eC,V⟩:=hC
   refine k_ ?_
   refine⟨fun z=>?_,fun z=>?_⟩
   · subst z
     rcases hX.2 with⟨o,e⟩|e|e
     · rw[hBD]at e;cases e
     · rw[hD]at e;cases e
     · exact hDo e
   · subst z
     rcases hX.2 with⟨o,e⟩|e|e
     · rw[hBC]at e;cases e
     · rw[eC]at e;cases e
     · exact hCo e
  generalize hs3:({sE with heap:=h₂.update D (Obj.mapSeq (·.push v)),toks:=_}:Shared)=sI
  have hh3:sI.heap=h₂.update D (Obj.mapSeq (·.push v)):=by rw[←hs3]
  have hg3:sI.gens=sE.gens:=by rw[←hs3]
  have hdr3:lw sI=lw sE:=by rw[←hs3];rfl
  have hos3:sI.os=sE.os:=by rw[←hs3]
  rw[←hh3]at oth hD3
  have hk3:aU B sI:=fun b o e=>oth b o (fun z=>by rw[z,hBD]at e;cases e) (fun z=>by rw[z,hBC]at e;cases e) (hk1 b o e)
  have hDo':D∉own':=fun h=>hDo (hsub D h)
  have hCo':C∉own':=fun h=>hCo (hsub C h)
  have hC3:sI.heap.Ns C (fun y=>if y=x then some v else m y):=by
   refine gG fun P_ k_=>?_
   obtain⟨o,es,n,e1,e2⟩:=hn2
   refine k_ ?_
   exact⟨o,es,n,by rw[hh3];exact(Heap.get?_update_other _ _ hDC).trans e1,e2⟩
  refine⟨ms.length,Nat.lt_succ_self _,ms,own',acc++[v],cC,_,rfl,hN sI ⟨fun b hb o e=>oth b o (fun z=>hDo' (z▸hb)) (fun z=>hCo' (z▸hb)) e,fun i V x e=>by rw[hg3];exact e⟩ hk3,hk3,hDo',hCo',fun b hb=>hBo b (hsub b hb),hD3,hC3,by rw[List.length_append];simp;exact o31 hz',fun s' vs c' m' hT hD' hC' hms=>?_⟩
  have back:∀ b,sE.heap.get? b=none->s.heap.get? b=none∨b∈own:=fun b e=>by
   by_cases hb:b∈own
   · exact .inr hb
   · refine .inl ?_
     cases q:s.heap.get? b with
     |none=>rfl
     |some o=>rw[hM.heap b o hb q]at e;cases e
  refine hR s' (v::vs) c' m' ⟨fun b o h1 h2 h3 e=>hT.heap b o (fun h=>h1 (hsub b h)) h2 h3 (oth b o h2 h3 (hM.heap b o h1 e)),fun i x hi e=>hT.gens i x hi (by rw[hg3];exact hM.gens i x hi e),(hT.drawn.trans hdr3).trans hM.drawn,(hT.os.trans hos3).trans hM.os⟩ (by rw[List.append_cons];exact hD') hC' (.cons ?_ ?_)
  · exact hV.keeps (fun b x hX e=>hT.heap b x hX.1 (nD b hX).1 (nD b hX).2 (oth b x (nD b hX).1 (nD b hX).2 e)) fun b x hX V=>⟨nD b hX,hX.2⟩
  · refine hms.keeps (fun V V V e=>e) fun b x hX V=>⟨hX.1,?_⟩
    rcases hX.2 with h|h|h
    · exact .inl h
    · have h1:sE.heap.get? b=none:=by
       cases q:sE.heap.get? b with
       |none=>rfl
       |some o=>rw[oth b o hX.1.1 hX.1.2 q]at h;cases h
      exact .inr (back b h1)
    · exact .inr (.inr (hsub b h))
end
section
variable{pr:Program}{w:World}{os0:OsState}{d u:Nat}{c:aF}{env:Env}
theorem I9(E:cO env c.L){y x idf:Str}{py p px p1 p2 pos spos:Pos}{arg:Expr}{scope:Scope}{cl:List (Str×Addr)}{ms:List ak}(hy:env.kindOf y=some .local)(harg:RV pr w d u c (eval arg env) (Rl.list (ms.map (Rl.msg pr w))))(hok:∀ m∈ms,m.ok)(hz:ms.length<1000)(hd:d+130<recursionLimit)
 (hxf:env.kindOf idf=some .globalImplicit) (hvf:nsIn (KK w.params) 3 idf=some (some (.ref 975))) (hdf:(idf==("__debug__":Str))=false) (Ff:d8 w.params 975 (cQ w.params)) (kpf:cu (KK w.params) (.ref 975)=true)
 (hsw:swapsWith (.ListComp (.Name x p) [⟨.Name x px,.Call (.Name idf p1) [arg] [] p2,[],0⟩] scope pos) (some (.Name y py)) spos.line env=pure true)
 (hclos:closureFor scope env=pure cl) (hcell:∀ y∈scope.names,y.2≠ .cell) (hkind:scope.kind=.function) (hnames:∀ x∈scope.names,x.2=.local->scope.names.lookup x.1=some .local)
 (hx:∀ C,(compEnvC scope cl C env).kindOf x=some .local) (hdx:(x==("__debug__":Str))=false) (m9:backTo p2 (starEach [arg] env)=[(false,eval arg env)]) (hs:∀ x,foldedSetIterable (.Call (.Name idf p1) [arg] [] p2) env x=pure x):
 XR pr w d u c (exec (.Assign [.Name y py] (.ListComp (.Name x p) [⟨.Name x px,.Call (.Name idf p1) [arg] [] p2,[],0⟩] scope pos) spos) env) .next (c.put y (Rl.list ((aV 0 ms).map (Rl.msg pr w)))):=.mk<|@fun os0 B s S Q hQ=>by
 rw[exec_Assign_Name_used _ _ _ _ hsw]
 refine wpAny_bind (wpAny_standAt (wpAny_bind ?_))
 show wpAny _ _ (do let _←comprehension (.ListComp (.Name x p) [⟨.Name x px,.Call (.Name idf p1) [arg] [] p2,[],0⟩] scope pos) scope env _ (newList []) false (eval (.Call (.Name idf p1) [arg] [] p2) env) (some (PySem.assign (.Name y py) env))) _ _ s
 refine wpAny_bind (wpAny_mono (wpAny_comprehension_free (use:=some (PySem.assign (.Name y py) env)) (Q:=fun V s'=>Q .next s') rfl hs hclos hkind hnames ?_) (fun V s' hq=>wpAny_pure (wpAny_pure hq)) fun V V z=>z)
 refine wpAny_Call_Name_kw ((RV.global (pr:=pr) (d:=d) (u:=u) E (x:=idf) (p:=p1) hvf hxf hdf).go S fun B0 sH f kO S0 rD=>?_)
 cases rD
 refine callWith_of (P:=(KK w.params).In) (by rw[m9];rfl) (lO kpf) (c7 (by rw[m9];rfl) rfl (sp1 (harg.go S0 fun B1 sE iv kE S1 rA=>?_) m9))
 refine wpAny_evalAll_nil ⟨fun a o e=>S1.keep _ _ (S1.ok.aZ _ _ e),?_⟩
 refine gG fun P_ k_=>?_
 obtain⟨l,tvs,n',rfl,gl,al⟩:=rA
 refine k_ ?_
 show wpAny _ _ (PySem.call (.ref 975) [.ref l] []) _ _ _
 refine Es S1.ok.toBaseOk S1.keep (by exact jx hd) Ff rfl rfl rfl rfl (fun S=>pk_975d w.params _ rfl (.ref l) S) fun sG L2 a2 g2 N=>?_
 refine wpAny_pyIter_gen N.gen (wpAny_newObj_type ?_)
 refine newC hcell hkind fun h₄ hz4 hns up4=>?_
 have hz3:(sG.heap.push {cls:=.type "list",dict:=none,data:=.seq ([]:List Value).toArray}).objs.size=sG.heap.objs.size+1:=Heap.size_push ..
 generalize hD:sG.heap.objs.size=D at *
 have gD:h₄.get? D=some (bK [] 0):=up4 _ _ (by rw[←hD];exact Heap.get?_push_size _ rfl)
 dsimp only at hz4 hns up4⊢
 rw[hz3]at hz4 hns⊢
 have n1:=N.hL;have n2:=N.ha;have n3:=N.hz;have n4:=N.hg
 rw[hD]at n3
 have up:Sub sE.heap h₄:=fun b o e=>up4 b o (Heap.get?_push_of_some _ (N.old b o e))
 have live1:∀ b,(∃ o,sE.heap.get? b=some o)->b<sE.heap.objs.size:=fun b ⟨o,e⟩=>Heap.lt_size e
 have fr:∀ b,sE.heap.objs.size≤b->sE.heap.get? b=none:=fun b h=>Heap.get?_none_of_le h
 have hb:=S1.ok.toBaseOk
 have n12:L2≠a2:=by rw[n1,n2];exact Nat.ne_of_lt (Nat.lt_succ_self _)
 have bZ:L2<D:=by rw[n3,n1];exact Nat.lt_succ_of_lt (Nat.lt_succ_self _)
 have lt2:a2<D:=by rw[n3,n2];exact Nat.lt_succ_self _
 have oH:∀ b∈[D+1+1,L2,a2],sE.heap.objs.size≤b:=fun b hb=>by
  simp only[List.mem_cons,List.not_mem_nil,or_false]at hb
  rcases hb with rfl|rfl|rfl
  · rw[n3];exact o222
  · rw[n1];exact Nat.le_refl _
  · rw[n2];exact Nat.le_succ _
 have big:sE.heap.objs.size≤D:=by rw[n3];exact Nat.le_add_right _ _
 have hBo:∀ b∈[D+1+1,L2,a2],B1.get? b=none:=fun b hb=>S1.noB (fr b (oH b hb))
 have FF:gk pr w d u B1 (cQ w.params) 975 L2 a2 g2 [] [] (Itb pr w (d+1) (u+4) B1 (.ref l) [] [] ms) (.ref l) sG:=gk.uP N fun s'' V hk=>Bc ⟨n',gl⟩ (w7 al)
 have old4:∀ b o,sG.heap.get? b=some o->h₄.get? b=some o:=fun b o e=>up4 b o (Heap.get?_push_of_some _ e)
 have hk4:aU B1 {sG with heap:=h₄}:=fun b o e=>up b o (S1.keep b o e)
 have src:nu pr w d u B1 (.ref a2) [D+1+1,L2,a2] [g2] (aV 0 ms) {sG with heap:=h₄}:=by
  have key:=Eu (s:={sG with heap:=h₄}) hb (fun b hm=>hBo b (.tail _ hm)) n12 (by simp) (by simp) (by simp) (by exact iY hd rfl) hok hk4 (fun b hm=>by cases hm) (FF.still ⟨fun b hb o e=>old4 b o e,fun i V x e=>e⟩)
  rw[hz4]at key
  exact key
 have frC:sE.heap.get? (D+1)=none:=fr _ (Nat.le_succ_of_le big)
 have frD:sE.heap.get? D=none:=fr _ big
 have hLlt:c.L<sE.heap.objs.size:=live1 _ (S1.live (.head _))
 have loop:codeAny (model pr w) (Ar d u) (.compLoop (.ListComp (.Name x p) [⟨.Name x px,.Call (.Name idf p1) [arg] [] p2,[],0⟩] scope pos) 0 (.ref a2) (.ref D) (compEnvC scope cl (D+1) env))
  (compPost (model pr w) (Ar d u) bf (some (PySem.assign (.Name y py) env)) (fun V s'=>Q .next s') (.ref D) (D+1)) {sG with heap:=h₄}:=by
  refine M4 (S1.noB frD) (S1.noB frC) (Nat.ne_of_lt (Nat.lt_succ_self _)) (hx _) hkind rfl hdx (k:=(aV 0 ms).length) ⟨aV 0 ms,[D+1+1,L2,a2],[],0,_,rfl,src,hk4,?_,?_,hBo,gD,hns,?_,fun s' vs c' m' T hL hC hms=>?_⟩
  · simp only[List.mem_cons,List.not_mem_nil,or_false,not_or]
    exact⟨Nat.ne_of_lt (Nat.lt_succ_of_lt (Nat.lt_succ_self _)),Nat.ne_of_gt bZ,Nat.ne_of_gt lt2⟩
  · simp only[List.mem_cons,List.not_mem_nil,or_false,not_or]
    exact⟨Nat.ne_of_lt (Nat.lt_succ_self _),Nat.ne_of_gt (Nat.lt_succ_of_lt bZ),Nat.ne_of_gt (Nat.lt_succ_of_lt lt2)⟩
  · have:=iH 0 ms
    rw[sizeLine_eq];simp only[List.length_nil];exact o223 hz this
  have nf:∀{b a:Addr},sE.heap.get? a=none->(∃ o,sE.heap.get? b=some o)->b≠a:=fun h1 ⟨o,h2⟩ z=>by rw[z,h1]at h2;cases h2
  have up':Sub sE.heap s'.heap:=fun b o e=>T.heap b o (fun hm=>Nat.not_lt.mpr (oH b hm) (Heap.lt_size e)) (nf frD ⟨o,e⟩) (nf frC ⟨o,e⟩) (up b o e)
  refine gG fun P_ k_=>?_
  obtain⟨oC,V,V,eC,V⟩:=id hC
  obtain⟨k,S'⟩:=S1.newM' (a:=D+1) (m:=.raw fun V=>True) (h':=s'.heap) (t:=s'.toks) frC up' ⟨oC,eC,trivial⟩
  refine k_ ?_
  have S'':LS w os0 {c with M:=(D+1,.raw fun V=>True)::c.M} _ s':=S'.same rfl ⟨T.os.trans N.os,T.drawn.trans N.drawn⟩
  have outD:D∉aF.own {c with M:=(D+1,.raw fun V=>True)::c.M}:=fun hm=>by
   have:D=D+1∨D∈c.own:=by
    simp only[aF.own,List.map_cons,List.mem_cons,List.mem_append]at hm⊢
    rcases hm with h|h|h|h
    · exact .inr (.inl h)
    · exact .inr (.inr (.inl h))
    · exact .inl h
    · exact .inr (.inr (.inr h))
   rcases this with h|h
   · exact absurd h (Nat.ne_of_lt (Nat.lt_succ_self _))
   · exact S1.ne h frD rfl
  have r:(Rl.list ((aV 0 ms).map (Rl.msg pr w))).r (hideAll s'.heap (aF.own {c with M:=(D+1,.raw fun V=>True)::c.M})) (.ref D):=by
   refine⟨D,vs,c',rfl,hideAll_get _ hL outD,qM (fun b o hZ e=>hideAll_get _ e fun hm=>?_) hms⟩
   have hm':b=D+1∨b∈c.own:=by
    simp only[aF.own,List.map_cons,List.mem_cons,List.mem_append]at hm⊢
    rcases hm with h|h|h|h
    · exact .inr (.inl h)
    · exact .inr (.inr (.inl h))
    · exact .inl h
    · exact .inr (.inr (.inr h))
   rcases hm' with h|h
   · exact hZ.1.2 h
   · rcases hZ.2 with⟨o',q⟩|q|q
     · rw[S1.out b h]at q;cases q
     · obtain⟨o',q'⟩:=S1.live h
       have q:h₄.get? b=none:=q
       rw[up b o' q']at q;cases q
     · exact Nat.not_lt.mpr (oH b q) (live1 b (S1.live h))
  obtain⟨m,hm,hl⟩:=S''.fr
  have hm2:s'.heap.Ns env.locals m:=by rw[E.hL];exact hm
  show wpAny _ _ (PySem.assign (.Name y py) env (.ref D)) _ _ _
  refine wpAny_assign_Name (wpAny_storeName_local hy hm2 (fun h₅ hn5 hsb5=>?_) (by rw[E.hk];rfl))
  rw[E.hL]at hn5 hsb5
  obtain⟨B6,k6,S6⟩:=LS.stored (t:=s'.toks+1) S'' r hl hn5 hsb5
  refine⟨m',hC.sameBut hsb5 (Nat.ne_of_gt (Nat.lt_of_lt_of_le hLlt (Nat.le_succ_of_le big))),fun h₇ hs7=>?_⟩
  exact hQ B6 _ _ ((kO.trans kE).trans (k.trans k6)) (LS.yS S6 (pre:=[]) rfl fun b o hb e=>(hs7.2 b hb).trans e) rfl
 refine gG fun P_ k_=>?_
 obtain⟨oG,nm,qn,hG1,hG2⟩:=N.gen
 refine k_ ?_
 exact codeAny_compStart_list loop (wpAny_pyIter_gen ⟨oG,nm,qn,old4 _ _ hG1,hG2⟩ loop)
end
section
variable{pr:Program}{w:World}{os0:OsState}{d u:Nat}{c:aF}{env:Env}{pos:Pos}
theorem zf{B:Heap}{s:Shared}{M:Model}{A:Around}{l:Addr}{vs:List Value}{i:Nat}{t:Tok}{v:Value}{prog:Program}{Q:Value->Shared->Prop}(ht:IsTup s.heap l vs.toArray)(e:vs[i]? =some v)(hi:i<100)(h:Q v s):wpAny (model prog w) A (getItem (.ref l) (.int i t)) Q bf s:=by
 have hlt:i<vs.length:=by
  rcases Nat.lt_or_ge i vs.length with h|h
  · exact h
  · rw[List.getElem?_eq_none h]at e;cases e
 exact getItem_tuple (j:=i) ht (by exact o226 hi) (by exact o225 hi) (by unfold seqIndex?;simp;omega) (by simpa using e) h
theorem J2.itemT{Rs:List Rl}{i:Nat}{R:Rl}(hi:i<100)(hR:Rs[i]? =some R):J2 pr w d u c (fun o i=>getItem o i) (Rl.tup Rs) (Rl.int i) R.r c:=.mk fun B s x y S ⟨l,vs,e1,g1,a1⟩ ⟨t,hy⟩ Q hQ=>by
 subst e1 hy
 obtain⟨v,e,r⟩:=a1.get hR
 exact zf (B:=B) (M:=model pr w) (PyProof.Rows.IsTup.keeps g1 S.keep) e hi (hQ B s v (Sub.refl B) S r)
theorem Jd{Rs:List Rl}:∀{os0:OsState} B s v,LS w os0 c B s->(Rl.tup Rs).r B v->∃ T id,typeLookup (.type T) "__getitem__"=pure (some (.builtin id))∧s.TypeIs v T:=fun B s v S ⟨l,vs,e1,g1,a1⟩=>by
 subst e1
 exact⟨"tuple","tuple.__getitem__",PySem.F.slot_tuple_getitem.lookup,(PyProof.Rows.IsTup.keeps g1 S.keep).typeIs⟩
theorem yw{B:Heap}{s:Shared}{qual:Str}{x:Str}{p p1 p2 p3:Pos}{k:Nat}{f:Addr}{v:Value}{z:Int}{R:Rl}(hb:BaseOk w B)(hk:aU B s)(hl:yV qual (dN x p) (.Subscript (.Name x p1) (.Constant (.int 0) k p2) p3) (bO x) B (.ref f))(hd:d+20<recursionLimit)
 (hx:(bO x).names.lookup x=some .local) (hdb:(x==("__debug__":Str))=false) (hbind:∀ pm c' ctv,bindArgs (kla_fn "<lambda>" qual (dN x p) (.Subscript (.Name x p1) (.Constant (.int 0) k p2) p3) (bO x) [] pm (.ref c') ctv) ⟨[v],[]⟩=pure [(x,v)])
 (hs:∀(o i:Value),subscripted (.Constant (.int 0) k p2) false o i=operate [o,i] (getItem o i))
 (hv:(Rl.tup [Rl.int z,R]).r B v):wpAny (model pr w) (Ar d u) (call (.ref f) [v]) (fun(y:Value) (sG:Shared)=>(∃ t,y=Value.int z t)∧Mv [] [] s sG) bf s:=by
 refine Cj hb hk hl (by exact jx hd) hbind fun fd L s' hsc hgl hup hg hdr hos hL hns=>?_
 refine gG fun P_ k_=>?_
 obtain⟨l,vs,rfl,g,a⟩:=hv
 refine k_ ?_
 rw[eval_Subscript]
 refine wpAny_bind (wpAny_Name (wpAny_loadName_local (v:=.ref l) (env:=callEnv fd L f) (by show fd.scope.kind=_;rw[hsc]) (by show fd.scope.names.lookup x=_;rw[hsc];exact hx) hns (by simp) ?_) hdb)
 refine wpAny_bind (wpAny_holding (wpAny_Constant_int ?_))
 refine wpAny_bind (wpAny_standAt ?_)
 have ht:IsTup s'.heap l vs.toArray:=PyProof.Rows.IsTup.keeps g fun b o e=>hup b o (hk b o e)
 have ht2:∀ t:Nat,({s' with toks:=t}:Shared).TypeIs (.ref l) "tuple":=fun t=>PyProof.Rows.IsTup.typeIs (s:={s' with toks:=t}) ht
 refine wpAny_bind ?_
 rw[getitemInPython_of_ne (ht2 0).not_modules]
 refine wpAny_bind (wpAny_specialOf (ht2 _) PySem.F.slot_tuple_getitem.lookup ?_)
 show wpAny _ _ (pure false) _ _ _
 refine wpAny_pure ?_
 rw[hs]
 obtain⟨v0,ev,rv⟩:=a.get (i:=0) (R:=Rl.int z) rfl
 refine wpAny_bind (wpAny_operating (zf (B:=B) (M:=model pr w) (i:=0) ht ev (by exact o227) ?_))
 refine wpAny_bind (wpAny_letTemporaryGo (wpAny_pure ⟨rv,⟨fun b o V e=>hup b o e,fun i x hi e=>by rw[hg];exact e,hdr,hos⟩⟩))
theorem Fz(E:cO env c.L){α:Type}{xs:List α}{key:α->Int}{Rf:α->Rl}{Re:α->Rl}(hRf:∀ x,Rf x=Rl.tup [Rl.int (key x),Re x]){A0:Array Value}{ca P:Addr}{pre post:List (Addr×MO)}{arg:Expr}{ids x:Str}{p p0 p1 p2 p3 p4 pos':Pos}{k:Nat}(h64:xs.length<64)(hd:d+110<recursionLimit)
 (hxs:env.kindOf ids=some .globalImplicit) (hvs:nsIn (KK w.params) 3 ids=some none) (hvs0:nsIn (KK w.params) 0 ids=some (some (.builtin "sorted"))) (hds:(ids==("__debug__":Str))=false)
 (hcode:env.code=.ref ca) (hca:∀ h,(KK w.params).In h->CodeHd h ca P) (hP:c.M=pre++(P,.tab pos' (env.qual++"<lambda>") A0)::post) (hP0:P≠0∧P≠3∧P≠4)
 (hx:(bO x).names.lookup x=some .local) (hdb:(x==("__debug__":Str))=false) (hbind:∀ v pm c' ctv,bindArgs (kla_fn "<lambda>" (env.qual++"<lambda>") (dN x p) (.Subscript (.Name x p1) (.Constant (.int 0) k p2) p3) (bO x) [] pm (.ref c') ctv) ⟨[v],[]⟩=pure [(x,v)])
 (hs:∀(o i:Value),subscripted (.Constant (.int 0) k p2) false o i=operate [o,i] (getItem o i)) (hne:∀ y∈(bO x).names,y.2≠ .free)
 (harg:RV pr w d u c (eval arg env) (Rl.list (xs.map Rf))) (m9:backTo pos (starEach [arg] env)=[(false,eval arg env)]):
 RV pr w d u c (eval (.Call (.Name ids p0) [arg] [⟨some lK,.Lambda (dN x p) (.Subscript (.Name x p1) (.Constant (.int 0) k p2) p3) (bO x) pos',p4⟩] pos) env) (Rl.list ((aX key xs).map Rf)):=.mk fun B s S Q hQ=>by
 refine wpAny_Call_Name_kw ((RV.builtin (pr:=pr) (d:=d) (u:=u) E (x:=ids) (p:=p0) hvs hvs0 hxs hds).go S fun B0 sH f kO S0 rD=>?_)
 cases rD
 have lam:=RV.lambda (pr:=pr) (d:=d) (u:=u) (pos:=pos') (params:=dN x p) (body:=.Subscript (.Name x p1) (.Constant (.int 0) k p2) p3) (scope:=bO x) E (by rfl) (closureFor_none hne) hcode hca hP hP0
 refine callWith_of (P:=fun V=>True) (by rw[m9];rfl) (fun h V=>⟨.machine,.inr (.inl rfl),Looks.of_pure rfl⟩) (c7 (by rw[m9];rfl) rfl (sp1 (harg.go S0 fun B1 sE y kE S1 rA=>ka1 (lam.go S1 fun B2 sG z kI S2 rB=>⟨trivial,?_⟩) rfl) m9))
 refine gG fun P_ k_=>?_
 obtain⟨l,vs,n,rfl,g,a⟩:=rA
 obtain⟨f,c',ctv,pm,rfl,gf,hrec⟩:=id rB
 refine k_ ?_
 have aB:=a.mono kI
 have hlen:(xs.map key).length=vs.length:=by rw[a.len];simp
 show wpAny _ _ (call (.builtin "sorted") [.ref l] [(lK,.ref f)]) _ _ _
 refine Dp (kz:=xs.map key) (cJ (S2.keep _ _ (kI _ _ g))) hlen (by rw[←hlen,List.length_map];exact h64) (fun i v kz e1 e2 sI jE=>?_) fun s' c' b jE hf hg=>?_
 · have e2':xs[i]?.map key=some kz:=by rw[←List.getElem?_map];exact e2
   cases hm:xs[i]? with
   |none=>rw[hm]at e2';cases e2'
   |some xx=>
    rw[hm]at e2'
    cases e2'
    obtain⟨v',ev',rv⟩:=aB.get (i:=i) (R:=Rf xx) (by rw[List.getElem?_map,hm];rfl)
    rw[e1]at ev'
    cases ev'
    rw[hRf]at rv
    exact yw S2.ok.toBaseOk (fun b o e=>jE.heap b o (by simp) (S2.keep b o e)) rB (by exact iY hd rfl) hx hdb (fun pm c' ctv=>hbind v pm c' ctv) hs rv
 · have up:Sub sG.heap s'.heap:=fun b o e=>jE.heap b o (by simp) e
   obtain⟨k',S'⟩:=S2.grow up ⟨jE.os,jE.drawn⟩
   exact hQ _ s' _ ((kO.trans kE).trans (kI.trans k')) S' ⟨b,_,c',rfl,S2.inB up hg (.inr hf),(bx.sorted key aB).mono k'⟩
end
noncomputable def DR(R:Rl)(d:PyData):Prop:=∀ h v,R.r h v->∃ as,Reads h v d as
inductive jG:List Rl->List PyData->Prop
 |nil:jG [] []
 |cons {R d Rs ds}:DR R d->jG Rs ds->jG (R::Rs) (d::ds)
theorem jG.map{α:Type}{f:α->Rl}{g:α->PyData}:∀{xs:List α},(∀ x∈xs,DR (f x) (g x))->jG (xs.map f) (xs.map g)
 |[],_=>.nil
 |x::xs,h=>.cons (h x (.head _)) (jG.map fun y hy=>h y (.tail _ hy))
theorem jG.append{Rs Ss:List Rl}{ds es:List PyData}(h:jG Rs ds)(h2:jG Ss es):jG (Rs++Ss) (ds++es):=by
 induction h with
 |nil=>exact h2
 |cons a _ ih=>exact .cons a ih
theorem jG.all{Rs:List Rl}{ds:List PyData}(h:jG Rs ds){hp:Heap}{vs:List Value}(a:bx hp vs Rs):∃ as,ReadsAll hp vs ds as:=by
 induction h generalizing vs with
 |nil=>cases a;exact⟨_,.nil⟩
 |cons x _ ih=>
  cases a with
  |cons r rs=>
   obtain⟨as,h1⟩:=x _ _ r
   obtain⟨bs,h2⟩:=ih rs
   exact⟨_,.cons h1 h2⟩
theorem DR.int(z:Int):DR (Rl.int z) (.int z):=fun h v ⟨t,e⟩=>⟨[],by subst e;exact Reads.int z t⟩
theorem DR.str(x:Str):DR (Rl.str x) (.str x):=fun h v ⟨t,e⟩=>⟨[],by subst e;exact Reads.str x t⟩
theorem DR.list{Rs:List Rl}{ds:List PyData}(h:jG Rs ds):DR (Rl.list Rs) (.list ds):=fun hp v ⟨l,vs,n,e,g,a⟩=>by
 obtain⟨as,r⟩:=h.all a
 subst e
 exact⟨_,.list (vs:=vs.toArray) g rfl rfl (by simpa using r)⟩
theorem DR.tup{Rs:List Rl}{ds:List PyData}(h:jG Rs ds):DR (Rl.tup Rs) (.tuple ds):=fun hp v h=>by
 obtain⟨l,vs,e,⟨o,g,hc,n,hd⟩,a⟩:=h
 obtain⟨as,r⟩:=h.all a
 subst e
 exact⟨_,.tuple (vs:=vs.toArray) g hc hd (by simpa using r)⟩
noncomputable def avD:AV->PyData
 |.int z=>.int z
 |.str x=>.str x
 |_=>.none
noncomputable def wL:AV->Bool
 |.int _=>true
 |.str x=>PyData.strOk x
 |_=>false
theorem DR.av{a:AV}(h:wL a=true):DR (Rl.av a) (avD a):=by
 cases a with
 |int z=>exact DR.int z
 |str x=>exact DR.str x
 |_=>cases h
noncomputable def pairD(p:Str×AV):PyData:=.tuple [.str p.1,avD p.2]
noncomputable def rN(l:List (Str×AV)):PyData:=.list (l.map pairD)
noncomputable def qY(l:List (Str×AV)):Prop:=∀ p∈l,PyData.strOk p.1=true∧wL p.2=true
theorem DR.bare{l:List (Str×AV)}(h:qY l):DR (pZ l) (rN l):=DR.list (jG.map fun p hp=>DR.tup (.cons (DR.str _) (.cons (DR.av (h p hp).2) .nil)))
noncomputable abbrev dY:=Int×List (Str×AV)
noncomputable def dz(e:dY):Rl:=Rl.tup [Rl.int e.1,pZ e.2]
noncomputable def evD(e:dY):PyData:=.tuple [.int e.1,rN e.2]
noncomputable def gb(l:List dY):Prop:=∀ e∈l,qY e.2
theorem DR.ev{e:dY}(h:qY e.2):DR (dz e) (evD e):=DR.tup (.cons (DR.int _) (.cons (DR.bare h) .nil))
theorem DR.evs{l:List dY}(h:gb l):DR (Rl.list (l.map dz)) (.list (l.map evD)):=DR.list (jG.map fun e he=>DR.ev (h e he))
theorem Ef{α:Type}{f:α->PyData}{l:List α}(h:∀ x∈l,(f x).canLay0=true):PyData.canLayAll0 (l.map f)=true:=by
 induction l with
 |nil=>rfl
 |cons x l ih=>simp only[List.map_cons,PyData.canLayAll0,Bool.and_eq_true];exact⟨h x (.head _),ih fun y hy=>h y (.tail _ hy)⟩
theorem xT{α:Type}{f:α->PyData}{l:List α}{n:Nat}(h:∀ x∈l,(f x).depth≤n):PyData.depthAll (l.map f)≤n:=by
 induction l with
 |nil=>exact Nat.zero_le _
 |cons x l ih=>simp only[List.map_cons,PyData.depthAll];exact Nat.max_le.mpr ⟨h x (.head _),ih fun y hy=>h y (.tail _ hy)⟩
theorem av_lay{a:AV}(h:wL a=true):(avD a).canLay0=true:=by
 cases a with
 |str x=>simpa[avD,PyData.canLay0,wL]using h
 |_=>rfl
theorem MP(a:AV):(avD a).depth=0:=by cases a<;>rfl
theorem wH{l:List dY}(h:gb l):(PyData.list (l.map evD)).canLay0=true:=by
 show PyData.canLayAll0 _=true
 refine Ef fun e he=>?_
 show PyData.canLayAll0 [.int e.1,rN e.2]=true
 simp only[PyData.canLayAll0,PyData.canLay0,Bool.true_and,Bool.and_true,rN]
 refine Ef fun p hp=>?_
 show PyData.canLayAll0 [.str p.1,avD p.2]=true
 simp only[PyData.canLayAll0,PyData.canLay0,Bool.and_true,Bool.and_eq_true]
 exact⟨(h e he p hp).1,av_lay (h e he p hp).2⟩
theorem Jj(l:List dY):(PyData.list (l.map evD)).depth≤4:=by
 show PyData.depthAll _+1≤4
 refine Nat.succ_le_succ (xT (n:=3) fun e he=>?_)
 show PyData.depthAll [.int e.1,rN e.2]+1≤3
 simp only[PyData.depthAll,PyData.depth,rN,Nat.zero_max,Nat.max_zero]
 refine Nat.succ_le_succ (Nat.succ_le_succ (xT (n:=1) fun p hp=>?_))
 show PyData.depthAll [.str p.1,avD p.2]+1≤1
 simp[PyData.depthAll,PyData.depth,MP]
section
variable{pr:Program}{w:World}{os0:OsState}{d u:Nat}{c:aF}{env:Env}{pos:Pos}
theorem J2.eqEvs{R1 R2:Rl}{l:List dY}(h1:DR R1 (.list (l.map evD)))(h2:DR R2 (.list (l.map evD)))(hok:gb l)(hu:u+10<cLine):J2 pr w d u c (compareOp .Eq) R1 R2 (Rl.av (.bool true)).r c:=.mk fun B s x y S r1 r2 Q hQ=>by
 obtain⟨as,q1⟩:=h1 _ _ r1
 obtain⟨bs,q2⟩:=h2 _ _ r2
 have hk:∀ b o,B.get? b=some o->s.heap.get? b=some o:=S.keep
 have hd:=Jj l
 refine SeqAt.compareEq_reads (Reads.keeps hk q1) (Reads.keeps hk q2) (wH hok) (wH hok) (by rw[Nat.min_self];show u+_<cLine;exact o228 hu hd) ?_
 rw[SeqAt.eqv_refl _ (wH hok)]
 exact hQ B s _ (Sub.refl B) S rfl
end
theorem JM(s:String):PyData.strOk (Str.ofString s)=true:=by
 rw[Str.ofString_eq_toList]
 unfold PyData.strOk
 rw[List.all_toArray,List.all_eq_true]
 intro n hn
 obtain⟨ch,V,rfl⟩:=List.mem_map.mp hn
 refine decide_eq_true ?_
 have h:=ch.valid
 show ch.val.toNat<_
 rcases h with h|h
 · have:ch.val.toNat<0xd800:=h
   exact o229 h
 · exact h.2
theorem bh.nil{ρ:List (Str×Rl)}:bh ρ []:=fun x R e=>by simp at e
theorem bh.cons{ρ ρ':List (Str×Rl)}{x:Str}{R:Rl}(h:ρ.lookup x=some R)(h2:bh ρ ρ'):bh ρ ((x,R)::ρ'):=fun y R' e=>by
 by_cases hy:y=x
 · subst hy;simp[List.lookup]at e;subst e;exact h
 · have:(y==x)=false:=by simpa using hy
   simp only[List.lookup,this]at e
   exact h2 y R' e
noncomputable def Ce(cl:List (Str×Addr×Option Rl)):List (Str×Addr×Option Rl):=cl.map fun p=>(p.1,p.2.1,none)
theorem LS.dim{w:World}{c:aF}{B:Heap}{s:Shared}(S:LS w os0 c B s){ρ':List (Str×Rl)}(h:bh c.ρ ρ'):LS w os0 ⟨c.L,ρ',Ce c.cl,c.M⟩ B s:=by
 have hown:aF.own ⟨c.L,ρ',Ce c.cl,c.M⟩=c.own:=by
  simp only[aF.own,Ce,List.map_map];rfl
 obtain⟨m,hm,hl⟩:=S.fr
 refine⟨S.ok,S.keep,⟨m,hm,fun x R e=>hl x R (h x R e)⟩,fun p hp=>?_,S.muts,by rw[hown];exact S.out,by rw[hown];exact S.nd,S.os,S.bare⟩
 obtain⟨q,hq,rfl⟩:=List.mem_map.mp hp
 have:=S.cells q hq
 obtain⟨x,a,r⟩:=q
 cases r with
 |none=>exact this
 |some R=>obtain⟨v,h,V⟩:=this;exact⟨_,h⟩
section
variable{pr:Program}{w:World}{os0:OsState}{d u:Nat}{c cA cB:aF}{env:Env}{pos:Pos}
theorem XR.dim{t:Sem Flow}{f:FL}{ρ':List (Str×Rl)}(h:XR pr w d u c t f cA)(hρ:bh cA.ρ ρ'):XR pr w d u c t f ⟨cA.L,ρ',Ce cA.cl,cA.M⟩:=.mk fun B s S Q hQ=>h.go S fun B' s' y k S' r=>hQ B' s' y k (S'.dim hρ) r
theorem J2.powN{a:Int}{n:Nat}(h1:n≤1000)(ha:a.natAbs<2^64):J2 pr w d u c (binaryOp .Pow) (Rl.int a) (Rl.int (n:Int)) (Rl.int (a^n)).r c:=J2.pow (by exact o231 h1) (by exact o230 h1) ha
noncomputable def cZ(l:List Int):Rl:=Rl.list (l.map Rl.int)
theorem RV.item{value slice:Expr}{l:List Int}{n:Nat}(h1:RV pr w d u c (eval value env) (cZ l))(h2:RV pr w d u c (eval slice env) (Rl.int (n:Int)))(hn:n<l.length)(hz:l.length<1000)(hs:∀ o i,subscripted slice false o i=operate [o,i] (getItem o i)):
 RV pr w d u c (eval (.Subscript value slice pos) env) (Rl.int (l.getD n 0)):=
 RV.sub h1 h2 (J2.item (Int.natCast_nonneg n) (by exact o232 hn hz) (by rw[Int.toNat_natCast,List.getElem?_map,List.getElem?_eq_getElem hn,List.getD_eq_getElem?_getD,List.getElem?_eq_getElem hn];rfl)) wB hs
end
theorem gF(a:Int){b:Int}(h:b.natAbs<2^100):Builtin.divisionGoesByPylong a b=false:=by
 unfold Builtin.divisionGoesByPylong
 have h1:(if(b==0)=true then 0 else b.natAbs.log2 / 30+1)≤300:=by
  split
  · exact o233
  · rename_i hb
    have:b.natAbs.log2<100:=by
     have hb0:b.natAbs≠0:=by
      intro z;apply hb;simpa using z
     exact(Nat.log2_lt hb0).mpr h
    exact o234 this
 simp only[decide_eq_false (Nat.not_lt.mpr h1),Bool.false_and]
theorem Ah{a b:Int}(h:a.natAbs<2^60):IntMulOk a b:=.of_left (by
 unfold Builtin.Int.intBits
 split
 · exact o235
 · rename_i hb
   have h0:a.natAbs≠0:=by
    intro z;apply hb;first|exact z|(have:a=0:=(by omega);first|exact this|simp[this])
   have:=(Nat.log2_lt h0).mpr h
   exact o237 this)
noncomputable def mH:List Int:=[2,6,5,40,21,7,0,33,14,9,80,2,6,11,3,5,0,17,26,4]
noncomputable def aL(script:List Int):List Int:=script.take 20++mH.drop (script.take 20).length
theorem Dn(script:List Int):(aL script).length=20:=by
 unfold aL mH
 simp only[List.length_append,List.length_take,List.length_drop,List.length_cons,List.length_nil]
 exact o238
section
variable(C:List Int)
noncomputable def vP(k i:Nat):Int:=((C.getD (4+4 *k+2 *i) 0).fdiv 4).fmod 41
noncomputable def lM(k i:Nat):ak:=iV (C.getD (4+4 *k+2 *i) 0) (C.getD (4+4 *k+2 *i+1) 0) (vP C k i)
noncomputable def dU(k j:Nat):List ak:=@Nat.rec (fun V=>List ak) [] (fun j i=>i++[lM C k j]) j
noncomputable def iG(k j:Nat):Int:=@Nat.rec (fun V=>Int) 0 (fun j i=>i+vP C k j) j
noncomputable def eZ(k j:Nat):List dY:=@Nat.rec (fun V=>List dY) [] (fun j i=>i++[(iG C k (j+1),(lM C k j).bare)]) j
noncomputable def cX:Nat:=(2+(C.getD 0 0).fmod 3).toNat
noncomputable def cM(k:Nat):Nat:=(1+((C.getD 1 0).fdiv (2^k)).fmod 2).toNat
noncomputable def cF(k:Nat):Int:=((C.getD 2 0).fdiv (4^k)).fmod 4
noncomputable def fJ:Int:=((C.getD 1 0).fdiv 16).fmod 20
noncomputable def fU(t:Int)(l:List dY):List dY:=l.map fun e=>(e.1+t,e.2)
noncomputable def bL(k:Nat):List ak:=if cF C k<3 then(dU C k (cM C k)).take (cF C k).toNat++[ak.eot (fJ C)]++(dU C k (cM C k)).drop (cF C k).toNat else dU C k (cM C k)
noncomputable def pJ(k:Nat):Int:=if cF C k<3 then iG C k (cM C k)+fJ C else iG C k (cM C k)
noncomputable def j8(k:Nat):List dY:=if cF C k<3 then(eZ C k (cM C k)).take (cF C k).toNat++fU (fJ C) ((eZ C k (cM C k)).drop (cF C k).toNat)else eZ C k (cM C k)
noncomputable abbrev dR:=Int×List dY
noncomputable def eV(k:Nat):dR:=(pJ C k,j8 C k)
end
noncomputable def cG(p:dR):Rl:=Rl.tup [Rl.int p.1,Rl.list (p.2.map dz)]
theorem fO{a b:Int}(hb:0<b):0≤a.fmod b∧a.fmod b<b:=⟨Int.fmod_nonneg_of_pos a hb,Int.fmod_lt_of_pos a hb⟩
theorem uW(C:List Int):2≤cX C∧cX C≤4:=by
 have:=fO (a:=C.getD 0 0) (b:=3) (by decide)
 unfold cX;exact o239 this
theorem uX(C:List Int)(k:Nat):1≤cM C k∧cM C k≤2:=by
 have:=fO (a:=(C.getD 1 0).fdiv (2^k)) (b:=2) (by decide)
 unfold cM;exact o240 this
theorem raw1{C:List Int}{k j:Nat}:dU C k (j+1)=dU C k j++[lM C k j]:=rfl
theorem now1{C:List Int}{k j:Nat}:iG C k (j+1)=iG C k j+vP C k j:=rfl
theorem evs1{C:List Int}{k j:Nat}:eZ C k (j+1)=eZ C k j++[(iG C k (j+1),(lM C k j).bare)]:=rfl
theorem je(C:List Int)(k j:Nat):(dU C k j).length=j:=by
 induction j with
 |zero=>rfl
 |succ j ih=>simp[raw1,ih]
theorem ji(C:List Int)(k j:Nat):(eZ C k j).length=j:=by
 induction j with
 |zero=>rfl
 |succ j ih=>simp[evs1,ih]
noncomputable def loB(s:Stmt):List Stmt:=@Stmt.casesOn (fun V=>List Stmt) s (fun V V V V V V V V V V=>[]) (fun V V V V V V V V V V=>[]) (fun V V V V V V V V V V V=>[]) (fun V V=>[]) (fun V V=>[]) (fun V V V=>[]) (fun V V V V V V V=>[]) (fun V V V V=>[]) (fun V V V V V=>[]) (fun V V b V V=>b) (fun V V V V V=>[]) (fun V b V V=>b) (fun V V V V=>[]) (fun V V V=>[]) (fun V V V=>[]) (fun V V V=>[]) (fun V V V=>[]) (fun V V V V V=>[]) (fun V V V V V=>[]) (fun V V V=>[]) (fun V V=>[]) (fun V V V V=>[]) (fun V V=>[]) (fun V V=>[]) (fun V V=>[]) (fun V=>[]) (fun V=>[]) (fun V=>[])
noncomputable def qK(l:List Stmt)(i:Nat):Stmt:=l.getD i (.Pass ⟨0,0,0,0⟩)
noncomputable abbrev fX(P:Params)(L:Addr):Env:=callEnvC (qQ P) L 1000
noncomputable def uc(P:Params):List Stmt:=iI (qQ P)
noncomputable def forK(P:Params):List Stmt:=loB (qK (uc P) 3)
noncomputable def forJ(P:Params):List Stmt:=loB (qK (forK P) 1)
noncomputable def qp(L:Addr):List (Str×Addr×Option Rl):=[(oX,L+1+1,none),(rF,L+1,none)]
theorem E1(P:Params)(L:Addr):cO (fX P L) L:=⟨rfl,rfl,rfl,rfl⟩
section
variable{pr:Program}{w:World}{os0:OsState}{d u:Nat}{C:List Int}
theorem RV.neg{c:aF}{env:Env}{pos:Pos}{e:Expr}{z:Int}(h:RV pr w d u c (eval e env) (Rl.int z)):RV pr w d u c (eval (.UnaryOp .USub e pos) env) (Rl.int (-z)):=.mk fun B s S Q hQ=>
 wpAny_UnaryOp (h.go S fun B1 sE v kE S1 rA=>by
  obtain⟨t,rfl⟩:=rA
  exact neg_int (hQ B1 _ _ kE (S1.same rfl) ⟨_,rfl⟩))
noncomputable def mO(pr:Program)(w:World)(ms:List ak):List Rl:=ms.map (Rl.msg pr w)
noncomputable def icx(pr:Program)(w:World)(C:List Int)(k:Nat)(L ta ea Ta Pa:Addr)(Y:List (Addr×MO))(j:Nat):aF:=
 ⟨L,[(iR,cZ C),(cH,Rl.val (.ref Ta)),(dK,Rl.val (.ref Pa)),(s_k,Rl.int (k:Int)),(bT,Rl.int (iG C k j)),(jJ,Rl.val (.ref ea)),(fL,Rl.val (.ref ta))],qp L,
  (ea,.lst ((eZ C k j).map dz))::(ta,.lst (mO pr w (dU C k j)))::Y⟩
theorem Gn(hC:C.length=20){k j:Nat}(hk:k<4)(hj:j<2){L ta ea Ta Pa it:Addr}{P:Obj->Prop}{Y:List (Addr×MO)}(hd:d+150<recursionLimit):
 XR pr w d u (((icx pr w C k L ta ea Ta Pa Y j).with it P).put s_j (Rl.int (j:Int))) (execs (forJ w.params) (fX w.params L)) .next ((icx pr w C k L ta ea Ta Pa Y (j+1)).with it P):=by
 have hz:C.length<1000:=by exact tU hC
 have pl:(4:Int)+4 *(k:Int)+2 *(j:Int)=((4+4 *k+2 *j:Nat):Int):=by exact o242
 have pl1:((4+4 *k+2 *j:Nat):Int)+1=((4+4 *k+2 *j+1:Nat):Int):=by exact o243
 have b1:4+4 *k+2 *j<C.length:=by exact o244 hC hk hj
 have b2:4+4 *k+2 *j+1<C.length:=by exact o245 hC b1
 refine XR.cons (XR.assign (R:=Rl.int ((4+4 *k+2 *j:Nat):Int)) (E1 _ L) rfl ?_ rfl) ?_
 · rw[←pl]
   exact RV.b (RV.b RV.int (RV.b RV.int (RV.l (E1 _ L) rfl rfl rfl) (J2.mul (Ah (by decide)))) J2.add) (RV.b RV.int (RV.l (E1 _ L) rfl rfl rfl) (J2.mul (Ah (by decide)))) J2.add
 refine XR.cons (XR.aug (a:=iG C k j) (b:=vP C k j) (E1 _ L) rfl rfl ?_) ?_
 · exact RV.b (RV.b (RV.item (RV.l (E1 _ L) rfl rfl rfl) (RV.l (E1 _ L) rfl rfl rfl) b1 hz (fun V V=>rfl)) RV.int (J2.div (by decide) (gF _ (by decide)))) RV.int (J2.mod (by decide))
 refine XR.cons (XR.append (Sa:=ta) (Rs:=mO pr w (dU C k j)) (R:=Rl.msg pr w (lM C k j)) (pre:=[(it,.raw P),(ea,.lst ((eZ C k j).map dz))]) (post:=Y) (E1 _ L) rfl rfl ?_ ?_ rfl rfl rfl rfl rfl rfl) ?_
 · rw[mO,List.length_map,je,sizeLine_eq];exact o246 hj
 · refine RV.callName (RV.global (E1 _ L) (Bu _) rfl rfl) (kp_990 _) (aQ.cons ?_ (aQ.cons ?_ (aQ.cons ?_ aQ.nil rfl) rfl) rfl) RK.nil (RC.event (by exact iY hd rfl)) rfl rfl rfl rfl
   · exact RV.item (RV.l (E1 _ L) rfl rfl rfl) (RV.l (E1 _ L) rfl rfl rfl) b1 hz (fun V V=>rfl)
   · refine RV.item (n:=4+4 *k+2 *j+1) (RV.l (E1 _ L) rfl rfl rfl) ?_ b2 hz (fun V V=>rfl)
     rw[←pl1]
     exact RV.b (RV.l (E1 _ L) rfl rfl rfl) RV.int J2.add
   · exact RV.b (RV.b (RV.item (RV.l (E1 _ L) rfl rfl rfl) (RV.l (E1 _ L) rfl rfl rfl) b1 hz (fun V V=>rfl)) RV.int (J2.div (by decide) (gF _ (by decide)))) RV.int (J2.mod (by decide))
 refine XR.cons (XR.dim (XR.append (Sa:=ea) (Rs:=(eZ C k j).map dz) (R:=dz (iG C k (j+1),(lM C k j).bare)) (pre:=[(it,.raw P)]) (post:=(ta,.lst (mO pr w (dU C k j)++[Rl.msg pr w (lM C k j)]))::Y) (E1 _ L) rfl rfl ?_ ?_ rfl rfl rfl rfl rfl rfl) (ρ':=(icx pr w C k L ta ea Ta Pa Y (j+1)).ρ) ?_) (XR.ctx XR.nil ?_)
 · rw[List.length_map,ji,sizeLine_eq];exact o246 hj
 · refine RV.tup (aQ.cons (RV.l (E1 _ L) rfl rfl rfl) (aQ.cons (RV.callName (RV.global (E1 _ L) (tD _) rfl rfl) (Ih _) (aQ.cons ?_ aQ.nil rfl) RK.nil (DN (by exact iY hd rfl)) rfl rfl rfl rfl) aQ.nil rfl) rfl) (by show 2≤_;rw[sizeLine_eq];exact kY)
   exact RV.last (Sa:=ta) (Rs:=mO pr w (dU C k j)) (pre:=[(it,.raw P),(ea,.lst ((eZ C k j).map dz))]) (post:=Y) (E1 _ L) rfl rfl (by rw[mO,List.length_map,je,sizeLine_eq];exact o246 hj) (RV.neg RV.int) rfl rfl (fun V V=>rfl)
 · repeat (first|exact bh.nil|refine bh.cons rfl ?_)
 · simp only[icx,aF.with,evs1,raw1,mO,List.map_append,List.map_cons,List.map_nil]
   rfl
end
noncomputable abbrev zY:Str:=⟨#[46,48]⟩
theorem St.dim{w:World}{c:aF}{ρ':List (Str×Rl)}(h:bh c.ρ ρ'):St w c ⟨c.L,ρ',Ce c.cl,c.M⟩:=⟨fun B s S=>⟨B,Sub.refl B,S.dim h⟩⟩
theorem St.ctx{w:World}{c cA cB:aF}(h:St w c cA)(e:cA=cB):St w c cB:=e▸h
theorem Dl(O:Nat->Rl)(n:Nat):cW O (fun V=>true) n=(List.range n).map O:=by
 unfold cW
 rw[List.filter_eq_self.mpr (fun V V=>rfl)]
theorem I8{α β:Type}(l:List α)(f:α->β)(d:α):(List.range l.length).map (fun i=>f (l.getD i d))=l.map f:=by
 refine List.ext_getElem (by simp) fun i h1 h2=>?_
 simp only[List.length_map,List.length_range]at h1
 simp[h1]
section
variable{pr:Program}{w:World}{os0:OsState}{d u:Nat}{c:aF}{pos:Pos}
theorem uF{L a:Addr}{x:Str}{t:Int}{l:List dY}{iter:Expr}{p1 p2 p3 p4 p5 p6 p7 p8:Pos}{k1 k2:Nat}(E:cO (fX w.params L) c.L)(h:RV pr w d u c (eval iter (fX w.params L)) (Rl.list (l.map dz)))(hz:l.length<1000)
 (hm:(x,a,some (Rl.int t))∈c.cl) (hclos:closureFor ⟨.function,[(zY,.local),(vW,.local),(nQ,.local),(x,.free)],false,false,[]⟩ (fX w.params L)=pure [(x,a)])
 (hk:∀ C,(compEnvC ⟨.function,[(zY,.local),(vW,.local),(nQ,.local),(x,.free)],false,false,[]⟩ [(x,a)] C (fX w.params L)).kindOf x=some .cell) (hdx:(x==("__debug__":Str))=false)
 (hs:∀ x,foldedSetIterable iter (fX w.params L) x=pure x):
 RV pr w d u c (eval (.ListComp (.Tuple [.BinOp (.Name vW p1) .Add (.Name x p2) p3,.Name nQ p4] k1 p5) [⟨.Tuple [.Name vW p6,.Name nQ p7] k2 p8,iter,[],0⟩] ⟨.function,[(zY,.local),(vW,.local),(nQ,.local),(x,.free)],false,false,[]⟩ pos) (fX w.params L)) (Rl.list ((fU t l).map dz)):=by
 have e:(fU t l).map dz=cW (fun i=>dz ((l.getD i (0,[])).1+t,(l.getD i (0,[])).2)) (fun V=>true) (l.map dz).length:=by
  rw[Dl,List.length_map,I8 l (fun e=>dz (e.1+t,e.2)) (0,[]),fU,List.map_map]
  rfl
 rw[e]
 refine RV.comp (Rs:=l.map dz) _ _ (fun i=>[(vW,Rl.int (l.getD i (0,[])).1),(nQ,pZ (l.getD i (0,[])).2)]) h ?hz (cl:=[(x,a)]) hclos ?cell rfl ?names (fun it v s o g h Q q=>goTup it v s o g h Q q) ?asg (fun i C X hi=>JR.test0) ?elt hs
 case hz=>rw[List.length_map,sizeLine_eq];exact o247 hz
 case cell=>intro y hy;simp only[List.mem_cons,List.not_mem_nil,or_false]at hy;rcases hy with rfl|rfl|rfl|rfl<;>(intro z;cases z)
 case names=>
  intro y hy hl
  simp only[List.mem_cons,List.not_mem_nil,or_false]at hy
  rcases hy with rfl|rfl|rfl|rfl<;>first|rfl|cases hl
 case asg=>
  intro i R C X hR
  rw[List.getElem?_map]at hR
  cases hn:l[i]? with
  |none=>rw[hn]at hR;cases hR
  |some ev=>
   rw[hn]at hR
   cases hR
   have:l.getD i (0,[])=ev:=by rw[List.getD_eq_getElem?_getD,hn];rfl
   rw[this]
   exact J1.tup rfl rfl rfl (JO.cons (J1.name (J1.sL (L:=C) ⟨rfl,rfl,rfl,rfl⟩ rfl)) (JO.cons (J1.name (J1.sL (L:=C) ⟨rfl,rfl,rfl,rfl⟩ rfl)) JO.nil))
 case elt=>
  intro i C X hi hb
  exact RV.tup (aQ.cons (RV.b (RV.l ⟨rfl,rfl,rfl,rfl⟩ rfl rfl rfl) (RV.cell ⟨rfl,rfl,rfl,rfl⟩ (hk C) (by simp[compEnvC]) hm hdx) J2.add) (aQ.cons (RV.l ⟨rfl,rfl,rfl,rfl⟩ rfl rfl rfl) aQ.nil rfl) rfl) (by show 2≤_;rw[sizeLine_eq];exact kY)
end
section
variable{pr:Program}{w:World}{os0:OsState}{d u:Nat}{C:List Int}
noncomputable def qR(l:List dY):Rl:=Rl.list (l.map dz)
noncomputable def tcx(pr:Program)(w:World)(C:List Int)(k:Nat)(L Ta Pa:Addr)(Y:List (Addr×MO))(now:Int)(evs:List dY)(ms:List ak):aF:=
 ⟨L,[(iR,cZ C),(cH,Rl.val (.ref Ta)),(dK,Rl.val (.ref Pa)),(s_k,Rl.int (k:Int)),(bT,Rl.int now),(jJ,qR evs),(fL,bA pr w ms)],qp L,Y⟩
noncomputable def ifS(P:Params):Stmt:=qK (forK P) 3
theorem spot_rv{c:aF}{k:Nat}(hC:C.length=20)(hk:k<4){L:Addr}(E:cO (fX w.params L) c.L)(h1:c.ρ.lookup iR=some (cZ C))(h2:c.ρ.lookup s_k=some (Rl.int (k:Int))){p1 p2 p3 p4 p5 p6 p7 p8 p9:Pos}{k1 k2 k3:Nat}:
 RV pr w d u c (eval (.BinOp (.BinOp (.Subscript (.Name iR p1) (.Constant (.int 2) k1 p2) p3) .FloorDiv (.BinOp (.Constant (.int 4) k2 p4) .Pow (.Name s_k p5) p6) p7) .Mod (.Constant (.int 4) k3 p8) p9) (fX w.params L)) (Rl.int (cF C k)):=by
 refine RV.b (RV.b (RV.item (n:=2) (RV.l E rfl h1 rfl) RV.int (by exact o249 hC) (by exact tU hC) (fun V V=>rfl)) (RV.b RV.int (RV.l E rfl h2 rfl) (J2.powN (by exact o248 hk) (by decide))) (J2.div ?_ (gF _ ?_))) RV.int (J2.mod (by decide))
 · have:k=0∨k=1∨k=2∨k=3:=by exact o250 hk
   rcases this with rfl|rfl|rfl|rfl<;>decide
 · have:k=0∨k=1∨k=2∨k=3:=by exact o250 hk
   rcases this with rfl|rfl|rfl|rfl<;>decide
theorem spot_nn(C:List Int)(k:Nat):0≤cF C k∧cF C k<4:=fO (by decide)
theorem JG(C:List Int):0≤fJ C∧fJ C<20:=fO (by decide)
theorem if_turn(hC:C.length=20){k:Nat}(hk:k<4){L Ta Pa:Addr}{Y:List (Addr×MO)}(hd:d+150<recursionLimit):
 XR pr w d u ((tcx pr w C k L Ta Pa Y (iG C k (cM C k)) (eZ C k (cM C k)) (dU C k (cM C k))).put nO (Rl.int (cF C k))) (exec (ifS w.params) (fX w.params L)) .next (tcx pr w C k L Ta Pa Y (pJ C k) (j8 C k) (bL C k)):=by
 have hn:=uX C k
 have hsp:=spot_nn C k
 have z1:((eZ C k (cM C k)).map dz).length≤sizeLine:=by rw[List.length_map,ji,sizeLine_eq];exact o251 hn
 have z2:((dU C k (cM C k)).map (Rl.msg pr w)).length≤sizeLine:=by rw[List.length_map,je,sizeLine_eq];exact o251 hn
 have z3:(fU (fJ C) ((eZ C k (cM C k)).drop (cF C k).toNat)).length≤2:=by
  simp only[fU,List.length_map,List.length_drop,ji];exact o252 hn hsp
 refine XR.if (b:=decide (cF C k<3)) (RB.cmp (RV.l (E1 _ L) rfl rfl rfl) RV.int J2.ltI rfl) (fun hb=>?_) (fun hb=>?_)
 · have hb:cF C k<3:=of_decide_eq_true hb
   refine XR.cons (XR.asgN (R:=Rl.int (fJ C)) ?_ (J1.zF (a:=L+1) (rD:=none) (pre:=[(oX,L+1+1,none)]) (post:=[]) (E1 _ L) rfl rfl rfl) rfl) ?_
   · exact RV.b (RV.b (RV.item (n:=1) (RV.l (E1 _ L) rfl rfl rfl) RV.int (by exact o253 hC) (by exact tU hC) (fun V V=>rfl)) RV.int (J2.div (by decide) (gF _ (by decide)))) RV.int (J2.mod (by decide))
   refine XR.cons (XR.assign (R:=qR (j8 C k)) (E1 _ L) rfl ?_ rfl) ?_
   · have e:qR (j8 C k)=Rl.list (((eZ C k (cM C k)).map dz).take (cF C k).toNat++(fU (fJ C) ((eZ C k (cM C k)).drop (cF C k).toNat)).map dz):=by
      unfold j8 qR
      rw[if_pos hb,List.map_append,List.map_take]
     rw[e]
     refine RV.b (RV.sliceTo (RV.l (E1 _ L) rfl rfl rfl) (RV.l (E1 _ L) rfl rfl rfl) hsp.1 z1 (fun V V=>rfl)) (uF (a:=L+1) (t:=fJ C) (E1 _ L) ?_ ?_ ?_ rfl (fun V=>rfl) rfl (fun V=>rfl)) (J2.cat ?_)
     · rw[List.map_drop]
       exact RV.sliceFrom (RV.l (E1 _ L) rfl rfl rfl) (RV.l (E1 _ L) rfl rfl rfl) hsp.1 z1 (fun V V=>rfl)
     · rw[List.length_drop,ji];exact o254 hn hsp hb
     · exact .tail _ (.head _)
     · rw[List.length_take,List.length_map,ji,List.length_map,sizeLine_eq];exact o255 hn z3
   refine XR.cons (XR.dim (XR.wN (names:=[fL,bT]) (Rs:=[bA pr w (bL C k),Rl.int (pJ C k)]) ?_ rfl (JO.cons (J1.bind (J1.sL (E1 _ L) rfl)) (JO.cons (J1.bind (J1.sL (E1 _ L) rfl)) JO.nil)) rfl rfl) (ρ':=(tcx pr w C k L Ta Pa Y (pJ C k) (j8 C k) (bL C k)).ρ) ?_) (XR.ctx XR.nil rfl)
   · have e1:bA pr w (bL C k)=Rl.list (((dU C k (cM C k)).map (Rl.msg pr w)).take (cF C k).toNat++[Rl.msg pr w (.eot (fJ C))]++((dU C k (cM C k)).map (Rl.msg pr w)).drop (cF C k).toNat):=by
      unfold bL bA
      rw[if_pos hb,List.map_append,List.map_append,List.map_take,List.map_drop]
      rfl
     have e2:pJ C k=iG C k (cM C k)+fJ C:=if_pos hb
     rw[e1,e2]
     refine RV.tup (aQ.cons (RV.b (RV.b (RV.sliceTo (RV.l (E1 _ L) rfl rfl rfl) (RV.l (E1 _ L) rfl rfl rfl) hsp.1 z2 (fun V V=>rfl)) (RV.list (aQ.cons ?_ aQ.nil rfl) (by show 1≤_;rw[sizeLine_eq];exact Ae)) (J2.cat ?_)) (RV.sliceFrom (RV.l (E1 _ L) rfl rfl rfl) (RV.l (E1 _ L) rfl rfl rfl) hsp.1 z2 (fun V V=>rfl)) (J2.cat ?_)) (aQ.cons (RV.b (RV.l (E1 _ L) rfl rfl rfl) (RV.cell (E1 _ L) rfl rfl (.tail _ (.head _)) rfl) J2.add) aQ.nil rfl) rfl) (by show 2≤_;rw[sizeLine_eq];exact kY)
     · exact RV.callName (RV.global (E1 _ L) (qm _) rfl rfl) (Ij _) (aQ.cons RV.str aQ.nil rfl) (RK.cons (RV.cell (E1 _ L) rfl rfl (.tail _ (.head _)) rfl) RK.nil rfl) (RC.meta (by exact iY hd rfl)) rfl rfl rfl rfl
     · rw[List.length_take,List.length_map,je,sizeLine_eq];simp only[List.length_cons,List.length_nil];exact o257 hn
     · rw[List.length_append,List.length_take,List.length_drop,List.length_map,je,sizeLine_eq];simp only[List.length_cons,List.length_nil];exact o258 hn hsp hb
   · repeat (first|exact bh.nil|refine bh.cons rfl ?_)
 · have hb:¬cF C k<3:=of_decide_eq_false hb
   have e1:bL C k=dU C k (cM C k):=if_neg hb
   have e2:pJ C k=iG C k (cM C k):=if_neg hb
   have e3:j8 C k=eZ C k (cM C k):=if_neg hb
   rw[e1,e2,e3]
   refine XR.ctx (XR.dim XR.nil (ρ':=(tcx pr w C k L Ta Pa Y (iG C k (cM C k)) (eZ C k (cM C k)) (dU C k (cM C k))).ρ) ?_) rfl
   repeat (first|exact bh.nil|refine bh.cons rfl ?_)
end
section
variable{pr:Program}{w:World}{os0:OsState}{d u:Nat}{C:List Int}
noncomputable def ocx(pr:Program)(w:World)(C:List Int)(L Ta Pa:Addr)(Z:List (Addr×MO))(k:Nat):aF:=
 ⟨L,[(iR,cZ C),(cH,Rl.val (.ref Ta)),(dK,Rl.val (.ref Pa))],qp L,(Pa,.lst ((List.range k).map fun i=>cG (eV C i)))::(Ta,.lst ((List.range k).map fun i=>bA pr w (bL C i)))::Z⟩
theorem Kl(C:List Int)(k:Nat):(cM C k:Int)=1+((C.getD 1 0).fdiv (2^k)).fmod 2:=by
 have:=fO (a:=(C.getD 1 0).fdiv (2^k)) (b:=2) (by decide)
 unfold cM;exact o259 this
theorem FW(hC:C.length=20){k:Nat}(hk:k<4){L Ta Pa it:Addr}{P:Obj->Prop}{Z:List (Addr×MO)}(hd:d+150<recursionLimit):
 XR pr w d u (((ocx pr w C L Ta Pa Z k).with it P).put s_k (Rl.int (k:Int))) (execs (forK w.params) (fX w.params L)) .next ((ocx pr w C L Ta Pa Z (k+1)).with it P):=by
 have hn:=uX C k
 refine XR.thenK (ι:=Addr×Addr) (K:=fun p=>((({(((ocx pr w C L Ta Pa Z k).with it P).put s_k (Rl.int (k:Int)))with M:=(p.2,.lst [])::(p.1,.lst [])::(((ocx pr w C L Ta Pa Z k).with it P).put s_k (Rl.int (k:Int))).M}:aF).put bT (Rl.int 0)).put jJ (Rl.val (.ref p.2))).put fL (Rl.val (.ref p.1))) (fun B s S Q hQ=>new3 (x:=fL) (y:=jJ) (z:=bT) (E1 _ L) rfl rfl rfl rfl rfl S fun a b B' s' k' S'=>hQ (a,b) B' s' k' S') fun p=>?_
 obtain⟨ta,ea⟩:=p
 refine XR.step (St.ctx (cB:=icx pr w C k L ta ea Ta Pa ((it,.raw P)::(Pa,.lst ((List.range k).map fun i=>cG (eV C i)))::(Ta,.lst ((List.range k).map fun i=>bA pr w (bL C i)))::Z) 0)
  (St.dim (ρ':=(icx pr w C k L ta ea Ta Pa ((it,.raw P)::(Pa,.lst ((List.range k).map fun i=>cG (eV C i)))::(Ta,.lst ((List.range k).map fun i=>bA pr w (bL C i)))::Z) 0).ρ) ?_) rfl) ?_
 · repeat (first|exact bh.nil|refine bh.cons rfl ?_)
 generalize hY:((it,MO.raw P)::(Pa,MO.lst ((List.range k).map fun i=>cG (eV C i)))::(Ta,MO.lst ((List.range k).map fun i=>bA pr w (bL C i)))::Z)=Y
 have qw:(2:Int)^k≠0∧((2:Int)^k).natAbs<2^100:=by
  have:k=0∨k=1∨k=2∨k=3:=by exact o250 hk
  rcases this with rfl|rfl|rfl|rfl<;>decide
 refine XR.cons (XR.Bv (n:=cM C k) (E1 _ L) (by exact o261 hn) (icx pr w C k L ta ea Ta Pa Y) rfl ?_ rfl (fun V=>rfl) (fun j hj it2 P2=>Gn hC hk (by exact o260 hn hj) (by exact iY hd rfl)) (fun V=>rfl) (fun V V=>rfl)) ?_
 · refine RV.callName (RV.builtin (E1 _ L) (Cq _) (Cu _) rfl rfl) rfl (aQ.cons ?_ aQ.nil rfl) RK.nil RC.range rfl rfl rfl rfl
   rw[Kl]
   exact RV.b RV.int (RV.b (RV.b (RV.item (n:=1) (RV.l (E1 _ L) rfl rfl rfl) RV.int (by exact o253 hC) (by exact tU hC) (fun V V=>rfl)) (RV.b RV.int (RV.l (E1 _ L) rfl rfl rfl) (J2.powN (by exact o248 hk) (by decide))) (J2.div qw.1 (gF _ qw.2))) RV.int (J2.mod (by decide))) J2.add
 refine XR.step (St.ready (x:=jJ) (a:=ea) (Rs:=(eZ C k (cM C k)).map dz) (pre:=[]) rfl rfl) ?_
 refine XR.step (St.ready (x:=fL) (a:=ta) (Rs:=mO pr w (dU C k (cM C k))) (pre:=[]) rfl rfl) ?_
 refine XR.step (St.ctx (cB:=tcx pr w C k L Ta Pa Y (iG C k (cM C k)) (eZ C k (cM C k)) (dU C k (cM C k))) (St.dim (ρ':=(tcx pr w C k L Ta Pa Y (iG C k (cM C k)) (eZ C k (cM C k)) (dU C k (cM C k))).ρ) ?_) rfl) ?_
 · repeat (first|exact bh.nil|refine bh.cons rfl ?_)
 refine XR.cons (XR.assign (R:=Rl.int (cF C k)) (E1 _ L) rfl (spot_rv hC hk (E1 _ L) rfl rfl) rfl) ?_
 refine XR.cons (if_turn hC hk hd) ?_
 subst hY
 refine XR.cons (XR.append (Sa:=Ta) (Rs:=(List.range k).map fun i=>bA pr w (bL C i)) (R:=bA pr w (bL C k)) (pre:=[(it,.raw P),(Pa,.lst ((List.range k).map fun i=>cG (eV C i)))]) (post:=Z) (E1 _ L) rfl rfl ?_ (RV.l (E1 _ L) rfl rfl rfl) rfl rfl rfl rfl rfl rfl) ?_
 · rw[List.length_map,List.length_range,sizeLine_eq];exact o262 hk
 refine XR.cons (XR.dim (XR.append (Sa:=Pa) (Rs:=(List.range k).map fun i=>cG (eV C i)) (R:=cG (eV C k)) (pre:=[(it,.raw P)]) (post:=(Ta,.lst (((List.range k).map fun i=>bA pr w (bL C i))++[bA pr w (bL C k)]))::Z) (E1 _ L) rfl rfl ?_ ?_ rfl rfl rfl rfl rfl rfl) (ρ':=(ocx pr w C L Ta Pa Z (k+1)).ρ) ?_) (XR.ctx XR.nil ?_)
 · rw[List.length_map,List.length_range,sizeLine_eq];exact o262 hk
 · exact RV.tup (aQ.cons (RV.l (E1 _ L) rfl rfl rfl) (aQ.cons (RV.l (E1 _ L) rfl rfl rfl) aQ.nil rfl) rfl) (by show 2≤_;rw[sizeLine_eq];exact kY)
 · repeat (first|exact bh.nil|refine bh.cons rfl ?_)
 · simp only[ocx,aF.with,List.range_succ,List.map_append,List.map_cons,List.map_nil]
   rfl
end
noncomputable abbrev TP:=List (List ak)×List dR
section
variable(C:List Int)
noncomputable def aY(i n:Nat):Nat:=((((C.getD 3 0).fdiv (6^i)).fmod 3).fmod ((n:Int) - 1)).toNat
noncomputable def jo(i:Nat):Bool:=(((C.getD 3 0).fdiv (6^i)).fdiv 3).fmod 2==0
noncomputable def j7(b:Bool)(t1 t2:List ak):List ak:=if b then aV 0 (t1++t2)else pI [t1,t2]
noncomputable def fP(b:Bool)(p1 p2:dR):dR:=if b then(p1.1+p2.1,p1.2++fU p1.1 p2.2)else(Max.max p1.1 p2.1,aX (fun e:dY=>e.1) (p1.2++p2.2))
noncomputable def dJ(i:Nat)(tp:TP):TP:=
 let s:=aY C i tp.1.length
 let b:=jo C i
 (tp.1.take s++[j7 b (tp.1.getD s []) (tp.1.getD (s+1) [])]++tp.1.drop (s+2),tp.2.take s++[fP b (tp.2.getD s (0,[])) (tp.2.getD (s+1) (0,[]))]++tp.2.drop (s+2))
noncomputable def iy(i:Nat):TP:=@Nat.rec (fun V=>TP) ((List.range (cX C)).map (bL C),(List.range (cX C)).map (eV C)) (fun i a=>dJ C i a) i
theorem n6:iy C 0=((List.range (cX C)).map (bL C),(List.range (cX C)).map (eV C)):=rfl
theorem wst1{i:Nat}:iy C (i+1)=dJ C i (iy C i):=rfl
end
theorem oV(C:List Int)(i:Nat){n:Nat}(h:2≤n):aY C i n+1<n∧((aY C i n:Nat):Int)=(((C.getD 3 0).fdiv (6^i)).fmod 3).fmod ((n:Int) - 1):=by
 have:=fO (a:=((C.getD 3 0).fdiv (6^i)).fmod 3) (b:=(n:Int) - 1) (by exact o263 h)
 unfold aY
 exact o264 this
theorem qu{α:Type}{l:List α}{s:Nat}(h:s+1<l.length)(d:α):l=l.take s++(l.getD s d::l.getD (s+1) d::l.drop (s+2)):=by
 have e1:l.drop s=l.getD s d::l.drop (s+1):=by
  rw[List.drop_eq_getElem_cons (by exact jx h),List.getD_eq_getElem?_getD,List.getElem?_eq_getElem (by exact jx h)];rfl
 have e2:l.drop (s+1)=l.getD (s+1) d::l.drop (s+2):=by
  rw[List.drop_eq_getElem_cons h,List.getD_eq_getElem?_getD,List.getElem?_eq_getElem h];rfl
 conv=>lhs;rw[←List.take_append_drop s l,e1,e2]
structure uy(C:List Int)(i:Nat)(tp:TP):Prop where
 l1:tp.1.length+i=cX C
 l2:tp.2.length+i=cX C
 mok:∀ t∈tp.1,∀ m∈t,m.ok
 Ai:(tp.1.map List.length).sum≤12+i
 esum:(tp.2.map fun p=>p.2.length).sum≤8
 eok:∀ p∈tp.2,gb p.2
theorem Mi(g m t:Int):(iV g m t).ok:=by
 unfold iV
 have h1:=fO (a:=m) (b:=16) (by decide)
 have h2:=fO (a:=m.fdiv 16) (b:=128) (by decide)
 have h3:=fO (a:=m) (b:=128) (by decide)
 have h4:=fO (a:=m.fdiv 128) (b:=128) (by decide)
 split
 · exact⟨⟨h1.1,by exact o266 h1⟩,⟨h2.1,by exact o265 h2⟩,by decide,by decide⟩
 · split
   · exact⟨⟨by decide,by decide⟩,⟨h3.1,by exact o265 h3⟩,h4.1,by exact o265 h4⟩
   · split
     · exact⟨⟨by decide,by decide⟩,h3.1,by exact o265 h3⟩
     · trivial
theorem vY(C:List Int)(k j:Nat):∀ m∈dU C k j,m.ok:=by
 induction j with
 |zero=>intro m hm;cases hm
 |succ j ih=>
  intro m hm
  rcases List.mem_append.mp hm with hm|hm
  · exact ih m hm
  · rw[List.mem_singleton.mp hm];exact Mi _ _ _
theorem Ft(C:List Int)(k:Nat):∀ m∈bL C k,m.ok:=by
 intro m hm
 unfold bL at hm
 split at hm
 · rcases List.mem_append.mp hm with hm|hm
   · rcases List.mem_append.mp hm with hm|hm
     · exact vY C k _ m (List.mem_of_mem_take hm)
     · rw[List.mem_singleton.mp hm];trivial
   · exact vY C k _ m (List.mem_of_mem_drop hm)
 · exact vY C k _ m hm
theorem CQ(C:List Int)(k:Nat):(bL C k).length≤3:=by
 have:=uX C k
 unfold bL
 split
 · simp only[List.length_append,List.length_take,List.length_drop,List.length_cons,List.length_nil,je];exact o267 this (by assumption)
 · rw[je];exact o268 this
theorem Jk(C:List Int)(k:Nat):(j8 C k).length≤2:=by
 have:=uX C k
 unfold j8
 split
 · simp only[List.length_append,List.length_take,List.length_drop,fU,List.length_map,ji];exact o269 this (by assumption)
 · rw[ji];exact o270 this
theorem okP{x:Str}{a:AV}(h:PyData.strOk x=true)(h2:wL a=true):PyData.strOk (x,a).1=true∧wL (x,a).2=true:=⟨h,h2⟩
theorem wK{m:ak}(h:∀ x t,m=.text x t->PyData.strOk x=true):qY m.bare:=by
 cases m with
 |text x t=>
  intro p hp
  simp only[ak.bare,List.mem_cons,List.not_mem_nil,or_false]at hp
  rcases hp with rfl|rfl
  · exact okP (by decide+kernel) (h x t rfl)
  · exact okP (by decide+kernel) (by decide+kernel)
 |eot t=>
  intro p hp
  rw[List.mem_singleton.mp hp]
  exact okP (by decide+kernel) (by decide+kernel)
 |prog c n t=>
  intro p hp
  simp only[ak.bare,List.mem_cons,List.not_mem_nil,or_false]at hp
  rcases hp with rfl|rfl|rfl<;>exact okP (by decide+kernel) (by first|rfl|decide+kernel)
 |_=>
  intro p hp
  simp only[ak.bare,List.mem_cons,List.not_mem_nil,or_false]at hp
  rcases hp with rfl|rfl|rfl|rfl<;>exact okP (by decide+kernel) (by first|rfl|decide+kernel)
theorem Gz(g m t:Int):qY (iV g m t).bare:=by
 refine wK fun x t' e=>?_
 unfold iV at e
 split at e
 · cases e
 · split at e
   · cases e
   · split at e
     · cases e
     · injection e with e1 e2
       rw[←e1]
       exact JM _
theorem wI(C:List Int)(k j:Nat):gb (eZ C k j):=by
 induction j with
 |zero=>intro e he;cases he
 |succ j ih=>
  intro e he
  rcases List.mem_append.mp he with he|he
  · exact ih e he
  · rw[List.mem_singleton.mp he];exact Gz _ _ _
theorem zH{t:Int}{l:List dY}(h:gb l):gb (fU t l):=fun e he=>by
 obtain⟨x,hx,rfl⟩:=List.mem_map.mp he
 exact h x hx
theorem jD{l m:List dY}(h:gb l)(h2:gb m):gb (l++m):=fun e he=>(List.mem_append.mp he).elim (h e) (h2 e)
theorem Mg(C:List Int)(k:Nat):gb (j8 C k):=by
 unfold j8
 split
 · exact jD (fun e he=>wI C k _ e (List.mem_of_mem_take he)) (zH fun e he=>wI C k _ e (List.mem_of_mem_drop he))
 · exact wI C k _
theorem zp{α:Type}(f:α->Nat)(b:Nat):∀ l:List α,(∀ x∈l,f x≤b)->(l.map f).sum≤b *l.length
 |[],_=>by simp
 |x::l,h=>by
  have h1:=h x (.head _)
  have h2:=zp f b l fun y hy=>h y (.tail _ hy)
  simp only[List.map_cons,List.sum_cons,List.length_cons,Nat.mul_succ];exact o271 h1 h2
theorem inv0(C:List Int):uy C 0 (iy C 0):=by
 have hn:=uW C
 refine⟨by simp[n6],by simp[n6],fun t ht m hm=>?_,?_,?_,fun p hp=>?_⟩
 · obtain⟨k,V,rfl⟩:=List.mem_map.mp ht
   exact Ft C k m hm
 · have:=zp List.length 3 (iy C 0).1 fun t ht=>by
    obtain⟨k,V,rfl⟩:=List.mem_map.mp ht
    exact CQ C k
   simp only[n6,List.length_map,List.length_range]at this⊢
   exact o272 hn this
 · have:=zp (fun p:dR=>p.2.length) 2 (iy C 0).2 fun p hp=>by
    obtain⟨k,V,rfl⟩:=List.mem_map.mp hp
    exact Jk C k
   simp only[n6,List.length_map,List.length_range]at this⊢
   exact o273 hn this
 · obtain⟨k,V,rfl⟩:=List.mem_map.mp hp
   exact Mg C k
theorem Ia(b:Bool)(t1 t2:List ak):(j7 b t1 t2).length≤t1.length+t2.length+1:=by
 unfold j7
 split
 · have:=iH 0 (t1++t2)
   rw[List.length_append]at this;exact this
 · unfold pI
   have:=iH 0 (bJ 0 (aX ak.time (bH [t1,t2])))
   rw[jy,jC,vM]at this
   simpa using this
theorem Kr{b:Bool}{t1 t2:List ak}(h1:∀ m∈t1,m.ok)(h2:∀ m∈t2,m.ok):∀ m∈j7 b t1 t2,m.ok:=by
 unfold j7
 split
 · exact mR 0 _ fun m hm=>(List.mem_append.mp hm).elim (h1 m) (h2 m)
 · refine mR 0 _ (qI 0 _ fun m hm=>yd (tracks:=[t1,t2]) (fun t ht=>?_) m ((cU _ _).mem_iff.mp hm))
   simp only[List.mem_cons,List.not_mem_nil,or_false]at ht
   rcases ht with rfl|rfl<;>assumption
theorem Fj(b:Bool)(p1 p2:dR):(fP b p1 p2).2.length=p1.2.length+p2.2.length:=by
 unfold fP
 split
 · simp[fU]
 · simp[jC]
theorem H9{b:Bool}{p1 p2:dR}(h1:gb p1.2)(h2:gb p2.2):gb (fP b p1 p2).2:=by
 unfold fP
 split
 · exact jD h1 (zH h2)
 · exact fun e he=>jD h1 h2 e ((cU _ _).mem_iff.mp he)
theorem uy.step{C:List Int}{i:Nat}{tp:TP}(h:uy C i tp)(hi:i+1<cX C):uy C (i+1) (dJ C i tp):=by
 have n1:2≤tp.1.length:=by have:=h.l1;exact o274 hi this
 have hs:=oV C i n1
 have hs2:aY C i tp.1.length+1<tp.2.length:=by have:=h.l1;have:=h.l2;exact o275 hs (by assumption) this
 have e1:=qu hs.1 ([]:List ak)
 have e2:=qu hs2 ((0,[]):dR)
 have m1:tp.1.getD (aY C i tp.1.length) []∈tp.1:=by rw[List.getD_eq_getElem?_getD,List.getElem?_eq_getElem (by exact o276 hs)];exact List.getElem_mem _
 have m2:tp.1.getD (aY C i tp.1.length+1) []∈tp.1:=by rw[List.getD_eq_getElem?_getD,List.getElem?_eq_getElem (by exact o277 hs)];exact List.getElem_mem _
 have m3:tp.2.getD (aY C i tp.1.length) (0,[])∈tp.2:=by rw[List.getD_eq_getElem?_getD,List.getElem?_eq_getElem (by exact o278 hs hs2)];exact List.getElem_mem _
 have m4:tp.2.getD (aY C i tp.1.length+1) (0,[])∈tp.2:=by rw[List.getD_eq_getElem?_getD,List.getElem?_eq_getElem (by exact o279 hs hs2)];exact List.getElem_mem _
 refine⟨?_,?_,fun t ht=>?_,?_,?_,fun p hp=>?_⟩
 · have:=h.l1
   simp only[dJ,List.length_append,List.length_take,List.length_drop,List.length_cons,List.length_nil];exact o280 hs this
 · have:=h.l2;have:=h.l1
   simp only[dJ,List.length_append,List.length_take,List.length_drop,List.length_cons,List.length_nil];exact o281 hs (by assumption) this
 · simp only[dJ]at ht
   rcases List.mem_append.mp ht with ht|ht
   · rcases List.mem_append.mp ht with ht|ht
     · exact h.mok t (List.mem_of_mem_take ht)
     · rw[List.mem_singleton.mp ht];exact Kr (h.mok _ m1) (h.mok _ m2)
   · exact h.mok t (List.mem_of_mem_drop ht)
 · have hm:=h.Ai
   have hl:=Ia (jo C i) (tp.1.getD (aY C i tp.1.length) []) (tp.1.getD (aY C i tp.1.length+1) [])
   have q:(tp.1.map List.length).sum=((tp.1.take (aY C i tp.1.length)).map List.length).sum+((tp.1.getD (aY C i tp.1.length) []).length+((tp.1.getD (aY C i tp.1.length+1) []).length+((tp.1.drop (aY C i tp.1.length+2)).map List.length).sum)):=by
    conv=>lhs;rw[e1]
    simp only[List.map_append,List.map_cons,List.sum_append,List.sum_cons]
   simp only[dJ,List.map_append,List.map_cons,List.map_nil,List.sum_append,List.sum_cons,List.sum_nil]
   exact o282 hm hl q
 · have hm:=h.esum
   have hl:=Fj (jo C i) (tp.2.getD (aY C i tp.1.length) (0,[])) (tp.2.getD (aY C i tp.1.length+1) (0,[]))
   have q:(tp.2.map fun p=>p.2.length).sum=((tp.2.take (aY C i tp.1.length)).map fun p=>p.2.length).sum+((tp.2.getD (aY C i tp.1.length) (0,[])).2.length+((tp.2.getD (aY C i tp.1.length+1) (0,[])).2.length+((tp.2.drop (aY C i tp.1.length+2)).map fun p=>p.2.length).sum)):=by
    conv=>lhs;rw[e2]
    simp only[List.map_append,List.map_cons,List.sum_append,List.sum_cons]
   simp only[dJ,List.map_append,List.map_cons,List.map_nil,List.sum_append,List.sum_cons,List.sum_nil]
   exact o283 hm hl q
 · simp only[dJ]at hp
   rcases List.mem_append.mp hp with hp|hp
   · rcases List.mem_append.mp hp with hp|hp
     · exact h.eok p (List.mem_of_mem_take hp)
     · rw[List.mem_singleton.mp hp];exact H9 (h.eok _ m3) (h.eok _ m4)
   · exact h.eok p (List.mem_of_mem_drop hp)
theorem wA(C:List Int):∀ i,i<cX C->uy C i (iy C i)
 |0,_=>inv0 C
 |i+1,h=>(wA C i (by exact jx h)).step h
noncomputable def whB(P:Params):List Stmt:=loB (qK (uc P) 5)
noncomputable def ifW(P:Params):Stmt:=qK (whB P) 3
noncomputable abbrev rG:Pos:=⟨532,68,532,90⟩
noncomputable abbrev pq(P:Params):Str:=(fX P 0).qual++"<lambda>"
noncomputable def o999(P:Params):Array Value:=match(t6.o_1224 P).data with|.fields vs=>vs|_=>#[]
theorem ch_1000(P:Params)(h:Heap)(H:(KK P).In h):CodeHd h 999 997:=by
 obtain⟨o,vs,file,tf,flags,tg,inF,text,tt,h1,h2⟩:∃ o vs file tf flags tg inF text tt,(KK P).lookup 999=some o∧o.cls=.type "code"∧o.data=.fields vs∧vs[11]? =some (.ref 997)∧vs.getD 11 .none=.ref 997∧vs.getD 18 .none=.str file tf∧
  vs.getD 7 .none=.int flags tg∧vs.getD 9 .none=.bool inF∧vs.getD 10 .none=.int text tt∧(999:Addr)≠997:=⟨t6.o_1224 P,o999 P,_,_,_,_,_,_,_,by rfl,by rfl,by rfl,by rfl,by rfl,by rfl,by rfl,by rfl,by rfl,by decide⟩
 exact⟨o,vs,file,tf,flags,tg,inF,text,tt,H _ _ h1,h2⟩
noncomputable def fM(l:List dR):Rl:=Rl.list (l.map cG)
noncomputable def gq(pr:Program)(w:World)(l:List (List ak)):Rl:=Rl.list (l.map (bA pr w))
section
variable{pr:Program}{w:World}{os0:OsState}{d u:Nat}{C:List Int}
noncomputable def gU(P:Params)(A9:Array Value×Array Value)(X Y Z:List (Addr×MO)):List (Addr×MO):=X++(978,.tab gB (eU P) A9.1)::Y++(997,.tab rG (pq P) A9.2)::Z
noncomputable def wcx(pr:Program)(w:World)(C:List Int)(L:Addr)(A9:Array Value×Array Value)(X Y Z:List (Addr×MO))(tp:TP)(i:Nat):aF:=
 ⟨L,[(iR,cZ C),(cH,gq pr w tp.1),(dK,fM tp.2),(uH,Rl.int (i:Int))],qp L,gU w.params A9 X Y Z⟩
noncomputable def vcx(pr:Program)(w:World)(C:List Int)(L:Addr)(A9:Array Value×Array Value)(X Y Z:List (Addr×MO))(tp:TP)(i s:Nat)(b:Bool)(p1 p2:dR):aF:=
 ⟨L,[(iR,cZ C),(cH,gq pr w tp.1),(dK,fM tp.2),(uH,Rl.int (i:Int)),(zZ,Rl.av (.bool b)),(nO,Rl.int (s:Int)),(jJ,qR p1.2),(s_more,Rl.int p2.1),(JX,qR p2.2)],
  [(oX,L+1+1,some (Rl.int p1.1)),(rF,L+1,none)],gU w.params A9 X Y Z⟩
noncomputable def ucx(pr:Program)(w:World)(C:List Int)(L:Addr)(A9:Array Value×Array Value)(X Y Z:List (Addr×MO))(tp:TP)(i s:Nat)(t:List ak)(p:dR):aF:=
 ⟨L,[(iR,cZ C),(cH,gq pr w tp.1),(dK,fM tp.2),(uH,Rl.int (i:Int)),(nO,Rl.int (s:Int)),(s_made,bA pr w t),(s_whole,cG p)],qp L,gU w.params A9 X Y Z⟩
theorem lU{c:aF}{env:Env}{pos:Pos}{value slice:Expr}{l:List (List ak)}{n:Nat}(h1:RV pr w d u c (eval value env) (gq pr w l))(h2:RV pr w d u c (eval slice env) (Rl.int (n:Int)))(hn:n<l.length)(hz:l.length<1000)(hs:∀ o i,subscripted slice false o i=operate [o,i] (getItem o i)):
 RV pr w d u c (eval (.Subscript value slice pos) env) (bA pr w (l.getD n [])):=
 RV.sub h1 h2 (J2.item (Int.natCast_nonneg n) (by exact o232 hn hz) (by rw[Int.toNat_natCast,List.getElem?_map,List.getElem?_eq_getElem hn,List.getD_eq_getElem?_getD,List.getElem?_eq_getElem hn];rfl)) wB hs
theorem tO{c:aF}{env:Env}{pos:Pos}{value slice:Expr}{l:List dR}{n:Nat}(h1:RV pr w d u c (eval value env) (fM l))(h2:RV pr w d u c (eval slice env) (Rl.int (n:Int)))(hn:n<l.length)(hz:l.length<1000)(hs:∀ o i,subscripted slice false o i=operate [o,i] (getItem o i)):
 RV pr w d u c (eval (.Subscript value slice pos) env) (cG (l.getD n (0,[]))):=
 RV.sub h1 h2 (J2.item (Int.natCast_nonneg n) (by exact o232 hn hz) (by rw[Int.toNat_natCast,List.getElem?_map,List.getElem?_eq_getElem hn,List.getD_eq_getElem?_getD,List.getElem?_eq_getElem hn];rfl)) wB hs
theorem pow6{i:Nat}(hi:i<4):(6:Int)^i≠0∧((6:Int)^i).natAbs<2^100:=by
 have:i=0∨i=1∨i=2∨i=3:=by exact o250 hi
 rcases this with rfl|rfl|rfl|rfl<;>decide
theorem LC{L:Addr}{A9:Array Value×Array Value}{X Y Z:List (Addr×MO)}{tp:TP}{i s:Nat}{b:Bool}{p1 p2:dR}{t1 t2:List ak}(ht1:t1=tp.1.getD s [])(ht2:t2=tp.1.getD (s+1) [])(hs:s+1<tp.1.length)(hz:tp.1.length<1000)(ho1:∀ m∈t1,m.ok)(ho2:∀ m∈t2,m.ok)(hl:t1.length+t2.length<60)
 (he:p1.2.length+p2.2.length<60) (hd:d+200<recursionLimit):
 XR pr w d u (vcx pr w C L A9 X Y Z tp i s b p1 p2) (exec (ifW w.params) (fX w.params L)) .next (ucx pr w C L A9 X Y Z tp i s (j7 b t1 t2) (fP b p1 p2)):=by
 have s1:((s:Nat):Int)+1=((s+1:Nat):Int):=by exact o215
 have r2:∀ c:aF,c.L=L->c.ρ.lookup nO=some (Rl.int (s:Int))->∀ p q r:Pos,∀ k,RV pr w d u c (eval (.BinOp (.Name nO p) .Add (.Constant (.int 1) k q) r) (fX w.params L)) (Rl.int ((s+1:Nat):Int)):=fun c hL hl p q r k=>by
  rw[←s1]
  exact RV.b (RV.l (by rw[hL];exact E1 _ L) rfl hl rfl) RV.int J2.add
 refine XR.if (RB.name (E1 _ L) rfl rfl rfl) (fun hb=>?_) (fun hb=>?_)
 · subst hb
   refine XR.cons (I9 (ms:=t1++t2) (E1 _ L) rfl ?_ (fun m hm=>(List.mem_append.mp hm).elim (ho1 m) (ho2 m)) (by rw[List.length_append];exact o284 hl) (by exact iY hd rfl) rfl (kj _) rfl (Jf _) (Ii _) rfl (cl:=[]) rfl ?_ rfl ?_ (fun V=>rfl) rfl rfl (fun V=>rfl)) ?_
   · rw[List.map_append]
     refine RV.b (R1:=bA pr w t1) (R2:=bA pr w t2) ?_ ?_ (J2.cat (by rw[List.length_map,List.length_map,sizeLine_eq];exact o285 hl))
     · rw[ht1];exact lU (RV.l (E1 _ L) rfl rfl rfl) (RV.l (E1 _ L) rfl rfl rfl) (by exact jx hs) hz (fun V V=>rfl)
     · rw[ht2];exact lU (RV.l (E1 _ L) rfl rfl rfl) (r2 _ rfl rfl _ _ _ _) hs hz (fun V V=>rfl)
   · intro y hy;simp only[List.mem_cons,List.not_mem_nil,or_false]at hy;rcases hy with rfl|rfl<;>(intro z;cases z)
   · intro y hy hl
     simp only[List.mem_cons,List.not_mem_nil,or_false]at hy
     rcases hy with rfl|rfl<;>rfl
   refine XR.cons (XR.dim (XR.assign (R:=cG (fP true p1 p2)) (E1 _ L) rfl ?_ rfl) (ρ':=(ucx pr w C L A9 X Y Z tp i s (j7 true t1 t2) (fP true p1 p2)).ρ) ?_) (XR.ctx XR.nil rfl)
   · refine RV.tup (Rs:=[Rl.int (p1.1+p2.1),Rl.list ((p1.2++fU p1.1 p2.2).map dz)]) (aQ.cons (RV.b (RV.cell (E1 _ L) rfl rfl (.head _) rfl) (RV.l (E1 _ L) rfl rfl rfl) J2.add) (aQ.cons ?_ aQ.nil rfl) rfl) (by show 2≤_;rw[sizeLine_eq];exact kY)
     rw[List.map_append]
     refine RV.b (RV.l (E1 _ L) rfl rfl rfl) (uF (a:=L+1+1) (t:=p1.1) (E1 _ L) (RV.l (E1 _ L) rfl rfl rfl) (by exact o286 he) (.head _) rfl (fun V=>rfl) rfl (fun V=>rfl)) (J2.cat ?_)
     rw[List.length_map,List.length_map,fU,List.length_map,sizeLine_eq];exact o285 he
   · repeat (first|exact bh.nil|refine bh.cons rfl ?_)
 · subst hb
   refine XR.cons (XR.assign (R:=bA pr w (j7 false t1 t2)) (E1 _ L) rfl ?_ rfl) ?_
   · refine RV.callName (RV.global (E1 _ L) (wF _) rfl rfl) (kp_983 _) (aQ.cons ?_ aQ.nil rfl) RK.nil (K3 (A0:=A9.1) (tracks:=[t1,t2]) (pre:=X) (post:=Y++(997,.tab rG (pq w.params) A9.2)::Z) ?_ ?_ ?_ (by exact iY hd rfl)) rfl rfl rfl rfl
     · refine RV.list (aQ.cons (R:=bA pr w t1) ?_ (aQ.cons (R:=bA pr w t2) ?_ aQ.nil rfl) rfl) (by show 2≤_;rw[sizeLine_eq];exact kY)
       · rw[ht1];exact lU (RV.l (E1 _ L) rfl rfl rfl) (RV.l (E1 _ L) rfl rfl rfl) (by exact jx hs) hz (fun V V=>rfl)
       · rw[ht2];exact lU (RV.l (E1 _ L) rfl rfl rfl) (r2 _ rfl rfl _ _ _ _) hs hz (fun V V=>rfl)
     · simp only[vcx,gU,List.append_assoc,List.cons_append]
     · intro t ht
       simp only[List.mem_cons,List.not_mem_nil,or_false]at ht
       rcases ht with rfl|rfl<;>assumption
     · rw[vM];simp;exact o287 hl
   refine XR.cons (XR.dim (XR.assign (R:=cG (fP false p1 p2)) (E1 _ L) rfl ?_ rfl) (ρ':=(ucx pr w C L A9 X Y Z tp i s (j7 false t1 t2) (fP false p1 p2)).ρ) ?_) (XR.ctx XR.nil rfl)
   · refine RV.tup (Rs:=[Rl.int (Max.max p1.1 p2.1),Rl.list ((aX (fun e:dY=>e.1) (p1.2++p2.2)).map dz)]) (aQ.cons ?_ (aQ.cons ?_ aQ.nil rfl) rfl) (by show 2≤_;rw[sizeLine_eq];exact kY)
     · exact RV.callName (RV.builtin (E1 _ L) (b3_max _) (b0_max _) rfl rfl) rfl (aQ.cons (RV.cell (E1 _ L) rfl rfl (.head _) rfl) (aQ.cons (RV.l (E1 _ L) rfl rfl rfl) aQ.nil rfl) rfl) RK.nil RC.max rfl rfl rfl rfl
     · refine Fz (A0:=A9.2) (Re:=fun e:dY=>pZ e.2) (E1 _ L) (fun V=>rfl) (P:=997) (ca:=999) (pre:=X++(978,.tab gB (eU w.params) A9.1)::Y) (post:=Z) (by rw[List.length_append];exact o287 he) (by exact iY hd rfl) rfl (xW _) (xX _) rfl rfl (fun h H=>ch_1000 w.params h H) rfl ⟨by decide,by decide,by decide⟩ rfl rfl (fun V V V V=>by rfl) (fun V V=>rfl) ?_ ?_ rfl
       · intro y hy;rw[List.mem_singleton.mp hy];decide
       · rw[List.map_append]
         exact RV.b (R1:=qR p1.2) (R2:=qR p2.2) (RV.l (E1 _ L) rfl rfl rfl) (RV.l (E1 _ L) rfl rfl rfl) (J2.cat (by rw[List.length_map,List.length_map,sizeLine_eq];exact o285 he))
   · repeat (first|exact bh.nil|refine bh.cons rfl ?_)
end
theorem Du{α:Type}{f:α->Nat}{l:List α}{s:Nat}(h:s+1<l.length)(d:α):f (l.getD s d)+f (l.getD (s+1) d)≤(l.map f).sum:=by
 have e:=qu h d
 conv=>rhs;rw[e]
 simp only[List.map_append,List.map_cons,List.sum_append,List.sum_cons]
 exact o288
section
variable{pr:Program}{w:World}{os0:OsState}{d u:Nat}{C:List Int}
theorem Fl(hC:C.length=20){L:Addr}{A9:Array Value×Array Value}{X Y Z:List (Addr×MO)}{tp:TP}{i:Nat}(I:uy C i tp)(hi:i+1<cX C)(hd:d+200<recursionLimit):
 XR pr w d u (wcx pr w C L A9 X Y Z tp i) (execs (whB w.params) (fX w.params L)) .next (wcx pr w C L A9 X Y Z (dJ C i tp) (i+1)):=by
 have oh:=uW C
 have lE:i<4:=by exact o289 hi oh
 have p6:=pow6 lE
 have l1:=I.l1
 have l2:=I.l2
 have n1:2≤tp.1.length:=by exact o290 hi l1 l2
 obtain⟨hs,hsc⟩:=oV C i n1
 have hs2:aY C i tp.1.length+1<tp.2.length:=by exact o291 l1 l2 hs hsc
 have Ai:=Du (f:=List.length) hs ([]:List ak)
 have esum:=Du (f:=fun p:dR=>p.2.length) hs2 ((0,[]):dR)
 have m1:=I.Ai
 have m2:=I.esum
 have mo:∀ j,j<tp.1.length->∀ m∈tp.1.getD j [],m.ok:=fun j hj=>I.mok _ (by rw[List.getD_eq_getElem?_getD,List.getElem?_eq_getElem hj];exact List.getElem_mem _)
 have s1:((aY C i tp.1.length:Nat):Int)+1=((aY C i tp.1.length+1:Nat):Int):=by exact o215
 have s2:((aY C i tp.1.length:Nat):Int)+2=((aY C i tp.1.length+2:Nat):Int):=by exact o292
 refine XR.cons (XR.wN (names:=[nO,zZ]) (Rs:=[Rl.int (aY C i tp.1.length:Int),Rl.av (.bool (jo C i))]) ?_ rfl (JO.cons (J1.bind (J1.sL (E1 _ L) rfl)) (JO.cons (J1.bind (J1.sL (E1 _ L) rfl)) JO.nil)) rfl rfl) ?_
 · refine RV.tup (aQ.cons ?_ (aQ.cons ?_ aQ.nil rfl) rfl) (by show 2≤_;rw[sizeLine_eq];exact kY)
   · rw[hsc]
     refine RV.b (RV.b (RV.b (RV.item (n:=3) (RV.l (E1 _ L) rfl rfl rfl) RV.int (by exact o294 hC) (by exact tU hC) (fun V V=>rfl)) (RV.b RV.int (RV.l (E1 _ L) rfl rfl rfl) (J2.powN (by exact o248 lE) (by decide))) (J2.div p6.1 (gF _ p6.2))) RV.int (J2.mod (by decide))) (RV.b ?_ RV.int J2.sub) (J2.mod (by exact o293 hi l1 l2))
     have:((tp.1.length:Nat):Int)=(((tp.1.map (bA pr w)).length:Nat):Int):=by rw[List.length_map]
     rw[this]
     exact RV.callName (RV.builtin (E1 _ L) (Cr _) (Cv _) rfl rfl) rfl (aQ.cons (RV.l (E1 _ L) rfl rfl rfl) aQ.nil rfl) RK.nil (RC.len (by rw[List.length_map,sizeLine_eq];exact o295 oh lE l1 l2 this)) rfl rfl rfl rfl
   · exact RV.compare (RV.b (RV.b (RV.b (RV.item (n:=3) (RV.l (E1 _ L) rfl rfl rfl) RV.int (by exact o294 hC) (by exact tU hC) (fun V V=>rfl)) (RV.b RV.int (RV.l (E1 _ L) rfl rfl rfl) (J2.powN (by exact o248 lE) (by decide))) (J2.div p6.1 (gF _ p6.2))) RV.int (J2.div (by decide) (gF _ (by decide)))) RV.int (J2.mod (by decide))) RV.int J2.eqI
 refine XR.cons (XR.asgT (R:=cG (tp.2.getD (aY C i tp.1.length) (0,[]))) (tO (RV.l (E1 _ L) rfl rfl rfl) (RV.l (E1 _ L) rfl rfl rfl) (by exact o297 l1 l2 hs hsc) (by exact o296 oh lE l1 l2) (fun V V=>rfl))
  (J1.tup rfl rfl rfl (JO.cons (J1.name (J1.zF (a:=L+1+1) (rD:=none) (pre:=[]) (post:=[(rF,L+1,none)]) (E1 _ L) rfl rfl rfl)) (JO.cons (J1.name (J1.sL (E1 _ L) rfl)) JO.nil))) rfl rfl) ?_
 refine XR.cons (XR.asgT (R:=cG (tp.2.getD (aY C i tp.1.length+1) (0,[]))) (tO (n:=aY C i tp.1.length+1) (RV.l (E1 _ L) rfl rfl rfl) ?_ hs2 (by exact o296 oh lE l1 l2) (fun V V=>rfl))
  (J1.tup rfl rfl rfl (JO.cons (J1.name (J1.sL (E1 _ L) rfl)) (JO.cons (J1.name (J1.sL (E1 _ L) rfl)) JO.nil))) rfl rfl) ?_
 · rw[←s1];exact RV.b (RV.l (E1 _ L) rfl rfl rfl) RV.int J2.add
 refine XR.cons (XR.pre (LC (L:=L) (X:=X) (Y:=Y) (Z:=Z) (i:=i) (b:=jo C i) (p1:=tp.2.getD (aY C i tp.1.length) (0,[])) (p2:=tp.2.getD (aY C i tp.1.length+1) (0,[])) (C:=C) rfl rfl hs (by exact o301 oh lE l1 l2) (mo _ (by exact o300 l1 l2 hs hsc)) (mo _ hs) (by exact o299 lE Ai m1) (by exact o298 esum m2) hd) rfl) ?_
 refine XR.cons (XR.dim (XR.wN (names:=[cH,dK,uH]) (Rs:=[gq pr w (dJ C i tp).1,fM (dJ C i tp).2,Rl.int ((i+1:Nat):Int)]) ?_ rfl (JO.cons (J1.bind (J1.sL (E1 _ L) rfl)) (JO.cons (J1.bind (J1.sL (E1 _ L) rfl)) (JO.cons (J1.bind (J1.sL (E1 _ L) rfl)) JO.nil))) rfl rfl) (ρ':=(wcx pr w C L A9 X Y Z (dJ C i tp) (i+1)).ρ) ?_) (XR.ctx XR.nil rfl)
 · refine RV.tup (aQ.cons ?_ (aQ.cons ?_ (aQ.cons ?_ aQ.nil rfl) rfl) rfl) (by show 3≤_;rw[sizeLine_eq];exact o302)
   · have e:gq pr w (dJ C i tp).1=Rl.list ((tp.1.map (bA pr w)).take (((aY C i tp.1.length:Nat):Int)).toNat++[bA pr w (j7 (jo C i) (tp.1.getD (aY C i tp.1.length) []) (tp.1.getD (aY C i tp.1.length+1) []))]++(tp.1.map (bA pr w)).drop ((aY C i tp.1.length+2:Nat):Int).toNat):=by
      simp only[gq,dJ,List.map_append,List.map_take,List.map_drop,Int.toNat_natCast,List.map_cons,List.map_nil]
     rw[e]
     refine RV.b (RV.b (RV.sliceTo (RV.l (E1 _ L) rfl rfl rfl) (RV.l (E1 _ L) rfl rfl rfl) (Int.natCast_nonneg _) (by rw[List.length_map,sizeLine_eq];exact o303 oh lE l1 l2) (fun V V=>rfl)) (RV.list (aQ.cons (RV.l (E1 _ L) rfl rfl rfl) aQ.nil rfl) (by show 1≤_;rw[sizeLine_eq];exact Ae)) (J2.cat ?_)) (RV.sliceFrom (RV.l (E1 _ L) rfl rfl rfl) ?_ (Int.natCast_nonneg _) (by rw[List.length_map,sizeLine_eq];exact o303 oh lE l1 l2) (fun V V=>rfl)) (J2.cat ?_)
     · rw[List.length_take,List.length_map,sizeLine_eq];simp only[List.length_cons,List.length_nil];exact o304 oh lE l1 l2
     · rw[←s2];exact RV.b (RV.l (E1 _ L) rfl rfl rfl) RV.int J2.add
     · rw[List.length_append,List.length_take,List.length_drop,List.length_map,sizeLine_eq];simp only[List.length_cons,List.length_nil];exact o305 oh lE l1 l2 hs hsc
   · have e:fM (dJ C i tp).2=Rl.list ((tp.2.map cG).take (((aY C i tp.1.length:Nat):Int)).toNat++[cG (fP (jo C i) (tp.2.getD (aY C i tp.1.length) (0,[])) (tp.2.getD (aY C i tp.1.length+1) (0,[])))]++(tp.2.map cG).drop ((aY C i tp.1.length+2:Nat):Int).toNat):=by
      simp only[fM,dJ,List.map_append,List.map_take,List.map_drop,Int.toNat_natCast,List.map_cons,List.map_nil]
     rw[e]
     refine RV.b (RV.b (RV.sliceTo (RV.l (E1 _ L) rfl rfl rfl) (RV.l (E1 _ L) rfl rfl rfl) (Int.natCast_nonneg _) (by rw[List.length_map,sizeLine_eq];exact o306 oh lE l1 l2) (fun V V=>rfl)) (RV.list (aQ.cons (RV.l (E1 _ L) rfl rfl rfl) aQ.nil rfl) (by show 1≤_;rw[sizeLine_eq];exact Ae)) (J2.cat ?_)) (RV.sliceFrom (RV.l (E1 _ L) rfl rfl rfl) ?_ (Int.natCast_nonneg _) (by rw[List.length_map,sizeLine_eq];exact o306 oh lE l1 l2) (fun V V=>rfl)) (J2.cat ?_)
     · rw[List.length_take,List.length_map,sizeLine_eq];simp only[List.length_cons,List.length_nil];exact o307 oh lE l1 l2
     · rw[←s2];exact RV.b (RV.l (E1 _ L) rfl rfl rfl) RV.int J2.add
     · rw[List.length_append,List.length_take,List.length_drop,List.length_map,sizeLine_eq];simp only[List.length_cons,List.length_nil];exact o308 oh lE l1 l2 hs hsc
   · have e:((i+1:Nat):Int)=(i:Int)+1:=by exact o309
     rw[e];exact RV.b (RV.l (E1 _ L) rfl rfl rfl) RV.int J2.add
 · repeat (first|exact bh.nil|refine bh.cons rfl ?_)
end
noncomputable def fH(n:Int)(l:List ak):List dY:=@List.rec ak (fun V=>Int->List dY) (fun V=>[]) (fun m r i n=>(n+m.time,m.bare)::i (n+m.time)) l n
noncomputable def bD(l:List ak):Int:=@List.rec ak (fun V=>Int) 0 (fun m r i=>m.time+i) l
section
variable{n:Int}{m:ak}{r:List ak}
theorem uE:fH n []=[]:=rfl
theorem ru:fH n (m::r)=(n+m.time,m.bare)::fH (n+m.time) r:=rfl
theorem gO:bD []=0:=rfl
theorem gM:bD (m::r)=m.time+bD r:=rfl
end
theorem CT(n:Int)(a b:List ak):fH n (a++b)=fH n a++fH (n+bD a) b:=by
 induction a generalizing n with
 |nil=>simp[uE,gO]
 |cons m a ih=>simp[ru,gM,ih,Int.add_assoc]
theorem gw(a b:List ak):bD (a++b)=bD a+bD b:=by
 induction a with
 |nil=>simp[gO]
 |cons m a ih=>simp[gM,ih,Int.add_assoc]
theorem Ho{ms:List ak}{i:Nat}{m:ak}(h:ms[i]? =some m):fH 0 (ms.take (i+1))=fH 0 (ms.take i)++[(bD (ms.take i)+m.time,m.bare)]∧bD (ms.take (i+1))=bD (ms.take i)+m.time:=by
 rw[List.take_add_one,h]
 simp only[Option.toList_some]
 rw[CT,gw]
 simp[uE,ru,gO,gM]
theorem JH(n:Int)(ms:List ak):(fH n ms).length=ms.length:=by
 induction ms generalizing n with
 |nil=>rfl
 |cons m r ih=>simp[ru,ih]
section
variable{pr:Program}{w:World}{os0:OsState}{d u:Nat}{C:List Int}
noncomputable def lcx(pr:Program)(w:World)(L a:Addr)(A9:Array Value×Array Value)(X Y Z:List (Addr×MO))(tp:TP)(ms:List ak)(i:Nat):aF:=
 ⟨L,[(cH,gq pr w tp.1),(dK,fM tp.2),(bT,Rl.int (bD (ms.take i))),(qz,Rl.val (.ref a))],qp L,(a,.lst ((fH 0 (ms.take i)).map dz))::gU w.params A9 X Y Z⟩
noncomputable abbrev gC:List (Str×AV):=[(aP,.str bG)]
theorem law_end{L:Addr}{A9:Array Value×Array Value}{X Y Z:List (Addr×MO)}{tp:TP}{i:Nat}(h1:tp.1.length=1)(h2:tp.2.length=1)(hok:∀ m∈tp.1.getD 0 [],m.ok)(hl:(tp.1.getD 0 []).length<100)(he:(tp.2.getD 0 (0,[])).2.length<100)(eok:gb (tp.2.getD 0 (0,[])).2)(hu:u+10<cLine)(hd:d+200<recursionLimit)
 (hlaw:fH 0 (tp.1.getD 0 [])=(tp.2.getD 0 (0,[])).2++[((tp.2.getD 0 (0,[])).1,gC)]):
 BR pr w d u (wcx pr w C L A9 X Y Z tp i) (execs [qK (uc w.params) 6,qK (uc w.params) 7,qK (uc w.params) 8] (fX w.params L)) (Rl.av (.bool true)) (gU w.params A9 X Y Z):=by
 generalize hms:tp.1.getD 0 []=ms at *
 generalize hp:tp.2.getD 0 (0,[])=p at *
 refine BR.then (ι:=Addr) (K:=fun a=>(({wcx pr w C L A9 X Y Z tp i with M:=(a,.lst [])::(wcx pr w C L A9 X Y Z tp i).M}:aF).put bT (Rl.int 0)).put qz (Rl.val (.ref a))) (fun B s S Q hQ=>new1 (x:=qz) (z:=bT) (E1 _ L) rfl rfl rfl rfl S fun a B' s' k' S'=>hQ a B' s' k' S') fun a=>?_
 refine BR.step (St.ctx (cB:=lcx pr w L a A9 X Y Z tp ms 0) (St.dim (ρ':=(lcx pr w L a A9 X Y Z tp ms 0).ρ) ?_) rfl) ?_
 · repeat (first|exact bh.nil|refine bh.cons rfl ?_)
 refine BR.cons (XR.rJ (Rs:=ms.map (Rl.msg pr w)) (E1 _ L) (lcx pr w L a A9 X Y Z tp ms) rfl ?_ rfl (fun V=>rfl) (fun j R hR it P=>?_) (fun V=>rfl) (fun V V=>rfl)) ?_
 · have:Rl.list (ms.map (Rl.msg pr w))=bA pr w (tp.1.getD 0 []):=by rw[hms];rfl
   rw[this]
   exact lU (n:=0) (RV.l (E1 _ L) rfl rfl rfl) RV.int (by exact o311 h1) (by exact o310 h1) (fun V V=>rfl)
 · rw[List.getElem?_map]at hR
   cases hm:ms[j]? with
   |none=>rw[hm]at hR;cases hR
   |some m=>
    rw[hm]at hR
    cases hR
    obtain⟨t1,t2⟩:=Ho hm
    have hj:j<ms.length:=(List.getElem?_eq_some_iff.mp hm).1
    refine XR.cons (XR.aug (a:=bD (ms.take j)) (b:=m.time) (E1 _ L) rfl rfl (RV.mtime (m:=m) (RV.l (E1 _ L) rfl rfl rfl) (by exact iY hd rfl) rfl)) ?_
    refine XR.cons (XR.dim (XR.append (Sa:=a) (Rs:=(fH 0 (ms.take j)).map dz) (R:=dz (bD (ms.take j)+m.time,m.bare)) (pre:=[(it,.raw P)]) (post:=gU w.params A9 X Y Z) (E1 _ L) rfl rfl ?_ ?_ rfl rfl rfl rfl rfl rfl) (ρ':=(lcx pr w L a A9 X Y Z tp ms (j+1)).ρ) ?_) (XR.ctx XR.nil ?_)
    · rw[List.length_map,JH,List.length_take,sizeLine_eq];exact o312 hl hj
    · exact RV.tup (aQ.cons (RV.l (E1 _ L) rfl rfl rfl) (aQ.cons (RV.callName (RV.global (E1 _ L) (tD _) rfl rfl) (Ih _) (aQ.cons (RV.l (E1 _ L) rfl rfl rfl) aQ.nil rfl) RK.nil (DN (m:=m) (by exact iY hd rfl)) rfl rfl rfl rfl) aQ.nil rfl) rfl) (by show 2≤_;rw[sizeLine_eq];exact kY)
    · simp only[lcx]
      rw[t2]
      repeat (first|exact bh.nil|refine bh.cons rfl ?_)
    · simp only[lcx,aF.with]
      rw[t1,List.map_append]
      rfl
 · rw[List.length_map]
   have hfin:lcx pr w L a A9 X Y Z tp ms ms.length=⟨L,[(cH,gq pr w tp.1),(dK,fM tp.2),(bT,Rl.int (bD ms)),(qz,Rl.val (.ref a))],qp L,(a,.lst ((fH 0 ms).map dz))::gU w.params A9 X Y Z⟩:=by
    simp only[lcx,List.take_length]
   rw[hfin]
   refine BR.step (St.ready (x:=qz) (a:=a) (Rs:=(fH 0 ms).map dz) (pre:=[]) rfl rfl) ?_
   have r0:∀(c:aF),c.L=L->c.ρ.lookup dK=some (fM tp.2)->∀ q1 q2 q3 k,RV pr w d u c (eval (.Subscript (.Name dK q1) (.Constant (.int 0) k q2) q3) (fX w.params L)) (cG p):=fun c hL hρ q1 q2 q3 k=>by
    rw[←hp]
    exact tO (n:=0) (RV.l (by rw[hL];exact E1 _ L) rfl hρ rfl) RV.int (by exact o311 h2) (by exact o310 h2) (fun V V=>rfl)
   have dr:DR (Rl.list (p.2.map dz++[dz (p.1,gC)])) (.list ((fH 0 ms).map evD)):=by
    rw[hlaw,List.map_append]
    exact DR.list (jG.append (jG.map fun e he=>DR.ev (eok e he)) (.cons (DR.ev (wK (m:=.eot 0) fun x t e=>by cases e)) .nil))
   have eok2:gb (fH 0 ms):=by
    rw[hlaw]
    exact jD eok fun e he=>by rw[List.mem_singleton.mp he];exact wK (m:=.eot 0) fun x t e=>by cases e
   refine BR.ret (N:=[]) (RV.compare (R1:=Rl.list ((fH 0 ms).map dz)) (R2:=Rl.list (p.2.map dz++[dz (p.1,gC)])) (RV.l (E1 _ L) rfl rfl rfl) (RV.b (R1:=Rl.list (p.2.map dz)) (R2:=Rl.list [dz (p.1,gC)]) ?_ ?_ (J2.cat ?_)) (J2.eqEvs (DR.evs eok2) dr eok2 hu)) rfl
   · exact RV.sub (R1:=cG p) (r0 _ rfl rfl _ _ _ _) RV.int (J2.itemT (i:=1) (by exact o313) rfl) Jd (fun V V=>rfl)
   · refine RV.list (aQ.cons (R:=dz (p.1,gC)) ?_ aQ.nil rfl) (by show 1≤_;rw[sizeLine_eq];exact Ae)
     refine RV.tup (Rs:=[Rl.int p.1,pZ gC]) (aQ.cons ?_ (aQ.cons ?_ aQ.nil rfl) rfl) (by show 2≤_;rw[sizeLine_eq];exact kY)
     · exact RV.sub (R1:=cG p) (r0 _ rfl rfl _ _ _ _) RV.int (J2.itemT (i:=0) (by exact o227) rfl) Jd (fun V V=>rfl)
     · exact RV.list (Rs:=[yE (aP,.str bG)]) (aQ.cons (RV.tup (Rs:=[Rl.str aP,Rl.av (.str bG)]) (aQ.cons RV.str (aQ.cons RV.str aQ.nil rfl) rfl) (by show 2≤_;rw[sizeLine_eq];exact kY)) aQ.nil rfl) (by show 1≤_;rw[sizeLine_eq];exact Ae)
   · rw[List.length_map,sizeLine_eq];simp only[List.length_cons,List.length_nil];exact o314 he
end
noncomputable def ux(C:List Int):Prop:=fH 0 ((iy C (cX C - 1)).1.getD 0 [])=((iy C (cX C - 1)).2.getD 0 (0,[])).2++[(((iy C (cX C - 1)).2.getD 0 (0,[])).1,gC)]
section
variable{pr:Program}{w:World}{d u:Nat}{script:List Int}
theorem Mu{c:aF}{L:Addr}(E:cO (fX w.params L) c.L)(h1:c.ρ.lookup fW=some (cZ script))(h2:c.ρ.lookup zO=some (cZ mH))(hz:script.length≤63){p1 p2 p3 p4 p5 p6 p7 p8 p9 p10 p11 p12 p13 p14:Pos}{k1 k2:Nat}:
 RV pr w d u c (eval (.BinOp (.Subscript (.Name fW p1) (.Slice none (some (.Constant (.int 20) k1 p2)) none p3) p4) .Add (.Subscript (.Name zO p14) (.Slice (some (.Call (.Name ⟨#[108,101,110]⟩ p5) [.Subscript (.Name fW p6) (.Slice none (some (.Constant (.int 20) k2 p7)) none p8) p9] [] p10)) none none p11) p12) p13) (fX w.params L)) (cZ (aL script)):=by
 have z1:(script.map Rl.int).length≤sizeLine:=by rw[List.length_map,sizeLine_eq];exact o315 hz
 have z2:(mH.map Rl.int).length≤sizeLine:=by rw[sizeLine_eq];decide
 have e:cZ (aL script)=Rl.list ((script.map Rl.int).take (20:Int).toNat++(mH.map Rl.int).drop (((script.map Rl.int).take (20:Int).toNat).length:Int).toNat):=by
  unfold cZ aL
  rw[List.map_append,List.map_take,List.map_drop,Int.toNat_natCast,List.length_take,List.length_take,List.length_map]
  rfl
 rw[e]
 refine RV.b (RV.sliceTo (RV.l E rfl h1 rfl) RV.int (by decide) z1 (fun V V=>rfl)) (RV.sliceFrom (RV.l E rfl h2 rfl) ?_ (Int.natCast_nonneg _) z2 (fun V V=>rfl)) (J2.cat ?_)
 · exact RV.callName (RV.builtin E (Cr _) (Cv _) rfl rfl) rfl (aQ.cons (RV.sliceTo (RV.l E rfl h1 rfl) RV.int (by decide) z1 (fun V V=>rfl)) aQ.nil rfl) RK.nil (RC.len (by rw[List.length_take,List.length_map,sizeLine_eq];exact o316 hz)) rfl rfl rfl rfl
 · rw[List.length_take,List.length_drop,List.length_map,List.length_map,sizeLine_eq];simp only[mH,List.length_cons,List.length_nil];exact o317 hz
theorem Kz{L:Addr}{A9:Array Value×Array Value}{X Y Z:List (Addr×MO)}(hz:script.length≤63)(hu:u+10<cLine)(hd:d+200<recursionLimit)(hlaw:ux (aL script)):
 BR pr w d u ⟨L,[(fW,cZ script)],qp L,gU w.params A9 X Y Z⟩ (execs (uc w.params) (fX w.params L)) (Rl.av (.bool true)) (gU w.params A9 X Y Z):=by
 have hC:=Dn script
 have hn:=uW (aL script)
 refine BR.cons (XR.assign (R:=cZ mH) (E1 _ L) rfl ?_ rfl) ?_
 · refine RV.list (Rs:=[Rl.int 2,Rl.int 6,Rl.int 5,Rl.int 40,Rl.int 21,Rl.int 7,Rl.int 0,Rl.int 33,Rl.int 14,Rl.int 9,Rl.int 80,Rl.int 2,Rl.int 6,Rl.int 11,Rl.int 3,Rl.int 5,Rl.int 0,Rl.int 17,Rl.int 26,Rl.int 4]) ?_ (by rw[sizeLine_eq];simp only[List.length_cons,List.length_nil];exact o318)
   iterate 20 refine aQ.cons RV.int ?_ rfl
   exact aQ.nil
 refine BR.cons (XR.assign (R:=cZ (aL script)) (E1 _ L) rfl (Mu (E1 _ L) rfl rfl hz) rfl) ?_
 refine BR.then (ι:=Addr×Addr) (K:=fun p=>(({(((⟨L,[(fW,cZ script)],qp L,gU w.params A9 X Y Z⟩:aF).put zO (cZ mH)).put iR (cZ (aL script)))with M:=(p.2,.lst [])::(p.1,.lst [])::gU w.params A9 X Y Z}:aF).put dK (Rl.val (.ref p.2))).put cH (Rl.val (.ref p.1)))
  (fun B s S Q hQ=>new2 (x:=cH) (y:=dK) (E1 _ L) rfl rfl rfl rfl S fun a b B' s' k' S'=>hQ (a,b) B' s' k' S') fun p=>?_
 obtain⟨Ta,Pa⟩:=p
 refine BR.step (St.ctx (cB:=ocx pr w (aL script) L Ta Pa (gU w.params A9 X Y Z) 0) (St.dim (ρ':=(ocx pr w (aL script) L Ta Pa (gU w.params A9 X Y Z) 0).ρ) ?_) rfl) ?_
 · repeat (first|exact bh.nil|refine bh.cons rfl ?_)
 refine BR.cons (XR.Bv (n:=cX (aL script)) (E1 _ L) (by exact o320 hn) (ocx pr w (aL script) L Ta Pa (gU w.params A9 X Y Z)) rfl ?_ rfl (fun V=>rfl) (fun k hk it P=>FW hC (by exact o319 hn hk) (by exact iY hd rfl)) (fun V=>rfl) (fun V V=>rfl)) ?_
 · have e:((cX (aL script):Nat):Int)=2+((aL script).getD 0 0).fmod 3:=by
    have:=fO (a:=(aL script).getD 0 0) (b:=3) (by decide)
    unfold cX;exact o321 this
   refine RV.callName (RV.builtin (E1 _ L) (Cq _) (Cu _) rfl rfl) rfl (aQ.cons ?_ aQ.nil rfl) RK.nil RC.range rfl rfl rfl rfl
   rw[e]
   exact RV.b RV.int (RV.b (RV.item (n:=0) (RV.l (E1 _ L) rfl rfl rfl) RV.int (by exact o322 hC) (by exact tU hC) (fun V V=>rfl)) RV.int (J2.mod (by decide))) J2.add
 refine BR.step (St.ready (x:=dK) (a:=Pa) (Rs:=(List.range (cX (aL script))).map fun i=>cG (eV (aL script) i)) (pre:=[]) rfl rfl) ?_
 refine BR.step (St.ready (x:=cH) (a:=Ta) (Rs:=(List.range (cX (aL script))).map fun i=>bA pr w (bL (aL script) i)) (pre:=[]) rfl rfl) ?_
 have w1:gq pr w (iy (aL script) 0).1=Rl.list ((List.range (cX (aL script))).map fun i=>bA pr w (bL (aL script) i)):=by
  simp only[gq,n6,List.map_map];rfl
 have w2:fM (iy (aL script) 0).2=Rl.list ((List.range (cX (aL script))).map fun i=>cG (eV (aL script) i)):=by
  simp only[fM,n6,List.map_map];rfl
 refine BR.cons (XR.dim (XR.assign (R:=Rl.int ((0:Nat):Int)) (E1 _ L) rfl RV.int rfl) (ρ':=(wcx pr w (aL script) L A9 X Y Z (iy (aL script) 0) 0).ρ) ?_) ?_
 · simp only[wcx]
   rw[w1,w2]
   repeat (first|exact bh.nil|refine bh.cons rfl ?_)
 refine BR.cons (XR.while (fun i=>wcx pr w (aL script) L A9 X Y Z (iy (aL script) i) i) (cX (aL script) - 1) rfl (fun i hi=>?_) (fun i hi=>Fl hC (wA _ i (by exact o324 hn hi)) (by exact o323 hn hi) hd)) ?_
 · have I:=wA (aL script) i (by exact o325 hn hi)
   have l1:=I.l1
   have e:decide (i<cX (aL script) - 1)=decide ((1:Int)<(((iy (aL script) i).1.map (bA pr w)).length:Int)):=by
    rw[List.length_map]
    exact decide_eq_decide.mpr ⟨fun h=>by exact o327 hn l1 h,fun h=>by exact o326 hn hi l1 h⟩
   rw[e]
   exact RB.cmp (RV.callName (RV.builtin (E1 _ L) (Cr _) (Cv _) rfl rfl) rfl (aQ.cons (RV.l (E1 _ L) rfl rfl rfl) aQ.nil rfl) RK.nil (RC.len (by rw[List.length_map,sizeLine_eq];exact o328 hn l1)) rfl rfl rfl rfl) RV.int J2.gtI rfl
 · have I:=wA (aL script) (cX (aL script) - 1) (by exact o329 hn)
   have l1:=I.l1
   have l2:=I.l2
   have h1:(iy (aL script) (cX (aL script) - 1)).1.length=1:=by exact o330 hn l1 l2
   have h2:(iy (aL script) (cX (aL script) - 1)).2.length=1:=by exact o331 l1 l2 h1
   have m1:(iy (aL script) (cX (aL script) - 1)).1.getD 0 []∈(iy (aL script) (cX (aL script) - 1)).1:=by rw[List.getD_eq_getElem?_getD,List.getElem?_eq_getElem (by exact o332 l1 l2 h1)];exact List.getElem_mem _
   have m2:(iy (aL script) (cX (aL script) - 1)).2.getD 0 (0,[])∈(iy (aL script) (cX (aL script) - 1)).2:=by rw[List.getD_eq_getElem?_getD,List.getElem?_eq_getElem (by exact o333 l1 l2 h1)];exact List.getElem_mem _
   have s1:=I.Ai
   have s2:=I.esum
   have le {α:Type} (f:α->Nat):∀{l:List α} {x:α},x∈l->f x≤(l.map f).sum:=by
    intro l
    induction l with
    |nil=>intro x h;cases h
    |cons y l ih=>
     intro x h
     simp only[List.map_cons,List.sum_cons]
     rcases List.mem_cons.mp h with rfl|h
     · exact o10
     · have:=ih h;exact o334 this
   have q1:=le List.length m1
   have q2:=le (fun p:dR=>p.2.length) m2
   exact law_end (i:=cX (aL script) - 1) h1 h2 (I.mok _ m1) (by exact o336 hn l1 l2 h1 s1 q1) (by exact o335 s2 q2) (I.eok _ m2) hu hd hlaw
end
theorem ak.yZ(m:ak)(t:Int):(m.wt t).fB=m.fB:=by cases m<;>rfl
theorem ak.qZ(m:ak)(t:Int):(m.wt t).bare=m.bare:=by cases m<;>rfl
noncomputable def cj(n:Int)(l:List ak):List dY:=@List.rec ak (fun V=>Int->List dY) (fun V=>[]) (fun m r i n=>if m.fB=true then i (n+m.time)else(n+m.time,m.bare)::i (n+m.time)) l n
theorem ju{n:Int}:cj n []=[]:=rfl
theorem jt{n:Int}{m:ak}{r:List ak}:cj n (m::r)=if m.fB=true then cj (n+m.time) r else(n+m.time,m.bare)::cj (n+m.time) r:=rfl
theorem jw(n:Int)(a b:List ak):cj n (a++b)=cj n a++cj (n+bD a) b:=by
 induction a generalizing n with
 |nil=>simp[ju,jt,gO,gM]
 |cons m a ih=>
  simp only[List.cons_append,ju,jt,gO,gM]
  rw[ih,Int.add_assoc]
  split<;>rfl
theorem rQ(n t:Int)(l:List ak):cj (n+t) l=fU t (cj n l):=by
 induction l generalizing n with
 |nil=>rfl
 |cons m l ih=>
  simp only[ju,jt]
  rw[show n+t+m.time=n+m.time+t by exact o337,ih]
  split<;>rfl
theorem wQ{l:List ak}(h:∀ m∈l,m.fB=false)(n:Int):(cj n l).length=l.length:=by
 induction l generalizing n with
 |nil=>rfl
 |cons m l ih=>
  simp only[ju,jt,h m (.head _),Bool.false_eq_true,if_false,List.length_cons]
  rw[ih fun x hx=>h x (.tail _ hx)]
theorem Bw(n k:Int)(l:List ak):fH n (aV k l)=cj (n+k) l++[(n+k+bD l,gC)]:=by
 induction l generalizing n k with
 |nil=>simp only[fix0,lg,uE,ru,ju,jt,gO,gM,Int.add_zero,List.nil_append];rfl
 |cons m l ih=>
  rw[lg]
  simp only[ju,jt,gO,gM]
  split
  · rw[ih]
    rw[show n+(k+m.time)=n+k+m.time by exact o339,show n+k+m.time+bD l=n+k+(m.time+bD l)by exact o338]
  · split
    · subst_vars
      simp only[uE,ru]
      rw[ih,show n+m.time+0=n+0+m.time by exact o342,show n+0+m.time+bD l=n+0+(m.time+bD l)by exact o341,show n+m.time=n+0+m.time by exact o340]
      rfl
    · simp only[uE,ru,ak.gZ,ak.qZ]
      rw[ih,show n+(k+m.time)+0=n+k+m.time by exact o343,show n+(k+m.time)=n+k+m.time by exact o339,show n+k+m.time+bD l=n+k+(m.time+bD l)by exact o338]
      rfl
theorem xO(n k:Int)(l:List ak):cj n (aV k l)=cj (n+k) l:=by
 induction l generalizing n k with
 |nil=>simp[fix0,lg,ju,jt,ak.fB]
 |cons m l ih=>
  rw[lg]
  split
  · rename_i h
    rw[ih]
    simp only[ju,jt,h,if_true]
    rw[show n+(k+m.time)=n+k+m.time by exact o339]
  · rename_i h
    split
    · subst_vars
      simp only[ju,jt,h,Bool.false_eq_true,if_false]
      rw[ih,Int.add_zero,Int.add_zero]
    · simp only[ju,jt,ak.yZ,h,Bool.false_eq_true,if_false,ak.gZ,ak.qZ]
      rw[ih,Int.add_zero,show n+(k+m.time)=n+k+m.time by exact o339]
theorem xM(k:Int)(l:List ak):bD (aV k l)=k+bD l:=by
 induction l generalizing k with
 |nil=>simp[fix0,lg,gO,gM,ak.time]
 |cons m l ih=>
  rw[lg]
  split
  · rw[ih];simp only[gO,gM];exact o344
  · split
    · subst_vars;simp only[gO,gM,ih];exact o345
    · simp only[gO,gM,ih,ak.gZ];exact o346
noncomputable def NN(l:List ak):Prop:=∀ m∈l,0≤m.time
theorem NN.cons{m:ak}{l:List ak}(h:0≤m.time)(h2:NN l):NN (m::l):=fun x hx=>(List.mem_cons.mp hx).elim (fun e=>e▸h) (h2 x)
theorem NN.append{a b:List ak}(h:NN a)(h2:NN b):NN (a++b):=fun x hx=>(List.mem_append.mp hx).elim (h x) (h2 x)
theorem Ji{k:Int}{l:List ak}(hk:0≤k)(h:NN l):NN (aV k l):=by
 induction l generalizing k with
 |nil=>exact NN.cons hk fun V h=>by cases h
 |cons m l ih=>
  have hm:=h m (.head _)
  have hl:NN l:=fun x hx=>h x (.tail _ hx)
  rw[lg]
  split
  · exact ih (by exact o347 hk hm) hl
  · split
    · exact NN.cons hm (ih (Int.le_refl 0) hl)
    · exact NN.cons (by rw[ak.gZ];exact o347 hk hm) (ih (Int.le_refl 0) hl)
theorem tL{l:List ak}(h:NN l):0≤bD l:=by
 induction l with
 |nil=>exact Int.le_refl 0
 |cons m l ih=>
  have:=h m (.head _)
  have:=ih fun x hx=>h x (.tail _ hx)
  simp only[gO,gM];exact o347 (by assumption) this
noncomputable def qT(l:List ak):List dY:=(l.filter fun m=> !m.fB).map fun m=>(m.time,m.bare)
theorem GC(a b:List ak):qT (a++b)=qT a++qT b:=by simp[qT]
theorem Fe(n:Int)(l:List ak):qT (bB n l)=cj n l:=by
 induction l generalizing n with
 |nil=>rfl
 |cons m l ih=>
  simp only[abs1,ju,jt]
  rw[←ih]
  simp only[qT,List.filter_cons,ak.yZ]
  cases h:m.fB
  · simp[ak.gZ,ak.qZ]
  · simp
theorem Mj(l:List ak):qT (aX ak.time l)=aX (fun e:dY=>e.1) (qT l):=by
 unfold qT
 rw[m8]
 exact jZ (fun e:dY=>e.1) (fun m:ak=>((m.time,m.bare):dY)) _
theorem Hx(k:Int)(l:List ak):cj k (bJ k l)=qT l:=by
 induction l generalizing k with
 |nil=>rfl
 |cons m l ih=>
  simp only[rel0,rel1,ju,jt,ak.yZ,ak.gZ,ak.qZ]
  rw[show k+(m.time - k)=m.time by exact o348,ih]
  simp only[qT,List.filter_cons]
  cases h:m.fB<;>simp
noncomputable def jU(k:Int)(l:List ak):Int:=@List.rec ak (fun V=>Int->Int) (fun k=>k) (fun m r i V=>i m.time) l k
theorem yI{k:Int}:jU k []=k:=rfl
theorem yH{k:Int}{m:ak}{r:List ak}:jU k (m::r)=jU m.time r:=rfl
theorem Hw(k:Int)(l:List ak):bD (bJ k l)=jU k l - k:=by
 induction l generalizing k with
 |nil=>simp[rel0,rel1,gO,gM,yI,yH]
 |cons m l ih=>simp only[rel0,rel1,gO,gM,yI,yH,ak.gZ,ih];exact o349
theorem rel_nn{k:Int}{l:List ak}(h:q9 ak.time l)(hk:∀ m∈l,k≤m.time):NN (bJ k l):=by
 induction l generalizing k with
 |nil=>intro m hm;cases hm
 |cons m l ih=>
  obtain⟨h1,h2⟩:=List.pairwise_cons.mp h
  have:=hk m (.head _)
  exact NN.cons (by rw[ak.gZ];exact o350 this) (ih h2 h1)
theorem Ig{k:Int}{l:List ak}(h:q9 ak.time l)(hk:∀ m∈l,k≤m.time):k≤jU k l∧(∀ m∈l,m.time≤jU k l)∧(l=[]∨∃ m∈l,m.time=jU k l):=by
 induction l generalizing k with
 |nil=>exact⟨Int.le_refl _,fun m h=>(by cases h),.inl rfl⟩
 |cons m l ih=>
  obtain⟨h1,h2⟩:=List.pairwise_cons.mp h
  obtain⟨a,b,c⟩:=ih h2 h1
  have hm:=hk m (.head _)
  simp only[yI,yH]
  refine⟨by exact o351 a hm,fun x hx=>?_,.inr ?_⟩
  · rcases List.mem_cons.mp hx with rfl|hx
    · exact a
    · exact b x hx
  · rcases c with rfl|⟨x,hx,e⟩
    · exact⟨m,.head _,rfl⟩
    · exact⟨x,.tail _ hx,e⟩
theorem xZ{n:Int}{l:List ak}(h:NN l):(∀ m∈bB n l,n≤m.time∧m.time≤n+bD l)∧(l=[]∨∃ m∈bB n l,m.time=n+bD l):=by
 induction l generalizing n with
 |nil=>exact⟨fun m h=>(by cases h),.inl rfl⟩
 |cons m l ih=>
  have hm:=h m (.head _)
  have hl:NN l:=fun x hx=>h x (.tail _ hx)
  obtain⟨a,b⟩:=ih (n:=n+m.time) hl
  have ht:=tL hl
  simp only[abs1,gO,gM]
  refine⟨fun x hx=>?_,.inr ?_⟩
  · rcases List.mem_cons.mp hx with rfl|hx
    · rw[ak.gZ];exact o352 hm ht
    · have:=a x hx;exact o353 hm this
  · rcases b with rfl|⟨x,hx,e⟩
    · exact⟨_,.head _,by rw[ak.gZ];simp[gO,gM]⟩
    · exact⟨x,.tail _ hx,by exact o354 e⟩
structure uw(t:List ak)(p:dR):Prop where
 len:bD t=p.1
 evs:cj 0 t=p.2
 nn:NN t
theorem I7{t1 t2:List ak}{p1 p2:dR}(h1:uw t1 p1)(h2:uw t2 p2):bD (bJ 0 (aX ak.time (bH [t1,t2])))=Max.max p1.1 p2.1∧cj 0 (bJ 0 (aX ak.time (bH [t1,t2])))=aX (fun e:dY=>e.1) (p1.2++p2.2)∧NN (bJ 0 (aX ak.time (bH [t1,t2]))):=by
 have e:bH [t1,t2]=bB 0 t1++bB 0 t2:=by simp[bH]
 rw[e]
 have hr:=nj ak.time (bB 0 t1++bB 0 t2)
 obtain⟨a1,b1⟩:=xZ (n:=0) h1.nn
 obtain⟨a2,b2⟩:=xZ (n:=0) h2.nn
 have hm:∀ m,m∈aX ak.time (bB 0 t1++bB 0 t2)↔m∈bB 0 t1∨m∈bB 0 t2:=fun m=>(cU _ _).mem_iff.trans List.mem_append
 have hk:∀ m∈aX ak.time (bB 0 t1++bB 0 t2),0≤m.time:=fun m h=>((hm m).mp h).elim (fun h=>(a1 m h).1) fun h=>(a2 m h).1
 obtain⟨c1,c2,c3⟩:=Ig (k:=0) hr hk
 have n1:=tL h1.nn
 have n2:=tL h2.nn
 refine⟨?_,?_,rel_nn hr hk⟩
 · rw[Hw,Int.sub_zero, ←h1.len, ←h2.len]
   have up:jU 0 (aX ak.time (bB 0 t1++bB 0 t2))≤Max.max (bD t1) (bD t2):=by
    rcases c3 with z|⟨m,h,e⟩
    · rw[z];simp only[yI,yH];exact o355 n1 n2
    · rw[←e]
      rcases(hm m).mp h with h|h
      · have:=a1 m h;exact o356 this
      · have:=a2 m h;exact o357 this
   have d1:bD t1≤jU 0 (aX ak.time (bB 0 t1++bB 0 t2)):=by
    rcases b1 with rfl|⟨m,h,e⟩
    · exact c1
    · have:=c2 m ((hm m).mpr (.inl h));exact o358 e this
   have d2:bD t2≤jU 0 (aX ak.time (bB 0 t1++bB 0 t2)):=by
    rcases b2 with rfl|⟨m,h,e⟩
    · exact c1
    · have:=c2 m ((hm m).mpr (.inr h));exact o358 e this
   exact o359 up d1 d2
 · rw[Hx,Mj,GC,Fe,Fe,h1.evs,h2.evs]
theorem Ao{b:Bool}{t1 t2:List ak}{p1 p2:dR}(h1:uw t1 p1)(h2:uw t2 p2):uw (j7 b t1 t2) (fP b p1 p2)∧fH 0 (j7 b t1 t2)=(fP b p1 p2).2++[((fP b p1 p2).1,gC)]:=by
 cases b with
 |true=>
  have e1:bD (t1++t2)=p1.1+p2.1:=by rw[gw,h1.len,h2.len]
  have e2:cj 0 (t1++t2)=p1.2++fU p1.1 p2.2:=by
   rw[jw,h1.evs,h1.len,rQ,h2.evs]
  refine⟨⟨?_,?_,Ji (Int.le_refl 0) (h1.nn.append h2.nn)⟩,?_⟩
  · show bD (aV 0 (t1++t2))=p1.1+p2.1
    rw[xM,e1,Int.zero_add]
  · show cj 0 (aV 0 (t1++t2))=p1.2++fU p1.1 p2.2
    rw[xO,Int.add_zero,e2]
  · show fH 0 (aV 0 (t1++t2))=(p1.2++fU p1.1 p2.2)++[(p1.1+p2.1,gC)]
    rw[Bw,Int.add_zero,e2,e1,Int.zero_add]
 |false=>
  obtain⟨e1,e2,e3⟩:=I7 h1 h2
  refine⟨⟨?_,?_,Ji (Int.le_refl 0) e3⟩,?_⟩
  · show bD (aV 0 (bJ 0 (aX ak.time (bH [t1,t2]))))=Max.max p1.1 p2.1
    rw[xM,e1,Int.zero_add]
  · show cj 0 (aV 0 (bJ 0 (aX ak.time (bH [t1,t2]))))=aX (fun e:dY=>e.1) (p1.2++p2.2)
    rw[xO,Int.add_zero,e2]
  · show fH 0 (aV 0 (bJ 0 (aX ak.time (bH [t1,t2]))))=aX (fun e:dY=>e.1) (p1.2++p2.2)++[(Max.max p1.1 p2.1,gC)]
    rw[Bw,Int.add_zero,e2,e1,Int.zero_add]
theorem Gy(g m t:Int):(iV g m t).time=t:=by
 unfold iV
 split
 · rfl
 · split
   · rfl
   · split<;>rfl
theorem Jl(g m t:Int):(iV g m t).fB=false:=by
 unfold iV
 split
 · rfl
 · split
   · rfl
   · split<;>rfl
theorem tk_nn(C:List Int)(k i:Nat):0≤vP C k i:=(fO (by decide)).1
theorem raw_rel(C:List Int)(k j:Nat):bD (dU C k j)=iG C k j∧cj 0 (dU C k j)=eZ C k j∧NN (dU C k j)∧∀ m∈dU C k j,m.fB=false:=by
 induction j with
 |zero=>exact⟨rfl,rfl,fun m h=>(by cases h),fun m h=>(by cases h)⟩
 |succ j ih=>
  obtain⟨h1,h2,h3,h4⟩:=ih
  have ht:(lM C k j).time=vP C k j:=Gy _ _ _
  have he:(lM C k j).fB=false:=Jl _ _ _
  refine⟨?_,?_,?_,?_⟩
  · simp only[raw1,now1,gw,gO,gM,h1,ht];exact o360
  · simp only[raw1,evs1,jw,h2,ju,jt,he,Bool.false_eq_true,if_false,now1,h1,ht,Int.zero_add]
  · exact h3.append (NN.cons (by rw[ht];exact tk_nn C k j) fun m h=>by cases h)
  · intro m hm
    rcases List.mem_append.mp hm with hm|hm
    · exact h4 m hm
    · rw[List.mem_singleton.mp hm];exact he
theorem Hi(C:List Int)(k:Nat):uw (bL C k) (eV C k):=by
 obtain⟨h1,h2,h3,h4⟩:=raw_rel C k (cM C k)
 unfold eV bL pJ j8
 by_cases hs:cF C k<3
 · simp only[if_pos hs]
   generalize(cF C k).toNat=s
   generalize hraw:dU C k (cM C k)=raw at *
   generalize hev:eZ C k (cM C k)=ev at *
   have hsplit:raw.take s++raw.drop s=raw:=List.take_append_drop s raw
   have t1:bD (raw.take s)+bD (raw.drop s)=iG C k (cM C k):=by rw[←gw,hsplit,h1]
   have e1:cj 0 (raw.take s)++cj (bD (raw.take s)) (raw.drop s)=ev:=by
    have:=jw 0 (raw.take s) (raw.drop s)
    rw[hsplit,h2,Int.zero_add]at this
    exact this.symm
   have l1:(cj 0 (raw.take s)).length=(raw.take s).length:=wQ (fun m hm=>h4 m (List.mem_of_mem_take hm)) 0
   have hlen:ev.length=raw.length:=by rw[←h2];exact wQ h4 0
   have e2:ev.take s=cj 0 (raw.take s)∧ev.drop s=cj (bD (raw.take s)) (raw.drop s):=by
    by_cases hle:s≤raw.length
    · have hl:(cj 0 (raw.take s)).length=s:=by rw[l1,List.length_take];exact o361 hle
      rw[←e1]
      exact⟨List.take_left' hl,List.drop_left' hl⟩
    · have z1:raw.take s=raw:=List.take_of_length_le (by exact o362 hle)
      have z2:raw.drop s=[]:=List.drop_eq_nil_of_le (by exact o362 hle)
      rw[List.take_of_length_le (by exact o363 hlen hle),List.drop_eq_nil_of_le (by exact o363 hlen hle),z1,z2,h2]
      exact⟨rfl,rfl⟩
   refine⟨?_,?_,?_⟩
   · simp only[gw,gO,gM,ak.time];exact o364 t1
   · simp only[jw,gw,gO,gM,ju,jt,ak.time,ak.fB,if_true,List.append_nil,Int.add_zero,Int.zero_add]
     rw[e2.1,e2.2,rQ]
   · exact(NN.append (fun m hm=>h3 m (List.mem_of_mem_take hm)) (NN.cons (m:=.eot (fJ C)) (JG C).1 fun m h=>by cases h)).append fun m hm=>h3 m (List.mem_of_mem_drop hm)
 · simp only[if_neg hs]
   exact⟨h1,h2,h3⟩
noncomputable def PRel(tp:TP):Prop:=tp.1.length=tp.2.length∧∀ j,j<tp.1.length->uw (tp.1.getD j []) (tp.2.getD j (0,[]))
theorem Bq{α:Type}{a c:List α}{x d:α}{s j:Nat}(ha:a.length=s):(a++[x]++c).getD j d=if j<s then a.getD j d else if j=s then x else c.getD (j - (s+1)) d:=by
 simp only[List.getD_eq_getElem?_getD,List.append_assoc,List.getElem?_append,ha]
 by_cases h1:j<s
 · simp[h1]
 · simp only[h1,if_false]
   by_cases h2:j=s
   · subst h2;simp
   · have h3:¬j - s<1:=by exact o365 h1 h2
     have h4:j - s - 1=j - (s+1):=by exact o366
     simp[h2,h3,h4]
theorem JN{C:List Int}{i:Nat}{tp:TP}(I:uy C i tp)(hi:i+1<cX C)(h:PRel tp):PRel (dJ C i tp):=by
 have l1:=I.l1
 have l2:=I.l2
 have n1:2≤tp.1.length:=by exact o290 hi l1 l2
 have hs:=(oV C i n1).1
 have J:=I.step hi
 have j1:=J.l1
 have j2:=J.l2
 refine⟨by exact o367 l1 l2 j1 j2,fun j hj=>?_⟩
 have s1:(tp.1.take (aY C i tp.1.length)).length=aY C i tp.1.length:=by rw[List.length_take];exact o368 l1 l2 hs j1 j2
 have s2:(tp.2.take (aY C i tp.1.length)).length=aY C i tp.1.length:=by rw[List.length_take];exact o369 l1 l2 hs j1 j2 s1
 simp only[dJ]
 rw[Bq s1,Bq s2]
 by_cases h1:j<aY C i tp.1.length
 · simp only[h1,if_true]
   have:=h.2 j (by exact o370 l1 l2 j1 j2 hj)
   rw[List.getD_eq_getElem?_getD,List.getD_eq_getElem?_getD,List.getElem?_take,List.getElem?_take,if_pos h1,if_pos h1, ←List.getD_eq_getElem?_getD, ←List.getD_eq_getElem?_getD]
   exact this
 · simp only[h1,if_false]
   by_cases h2:j=aY C i tp.1.length
   · simp only[h2,if_true]
     exact(Ao (h.2 _ (by exact o371 l1 l2 hs j1 j2 s1 s2)) (h.2 _ hs)).1
   · simp only[h2,if_false]
     rw[List.getD_eq_getElem?_getD,List.getD_eq_getElem?_getD,List.getElem?_drop,List.getElem?_drop, ←List.getD_eq_getElem?_getD, ←List.getD_eq_getElem?_getD]
     refine h.2 _ ?_
     have:j+1+(i+1)≤cX C:=by exact o372 l1 l2 j1 j2 hj
     exact o373 l1 l2 j1 j2 hj s1 s2 h1 h2
theorem DK(C:List Int):∀ i,i<cX C->PRel (iy C i)
 |0,_=>by
  refine⟨by simp[n6],fun j hj=>?_⟩
  simp only[n6,List.length_map,List.length_range]at hj
  simp only[n6,List.getD_eq_getElem?_getD,List.getElem?_map,List.getElem?_range hj]
  exact Hi C j
 |i+1,h=>JN (wA C i (by exact jx h)) h (DK C i (by exact jx h))
theorem Ie(C:List Int):ux C:=by
 have hn:=uW C
 obtain⟨i,hi⟩:∃ i,cX C=i+2:=⟨cX C - 2,by exact o374 hn⟩
 have e:cX C - 1=i+1:=by exact o375 hn hi
 unfold ux
 rw[e]
 have I:=wA C i (by exact o376 hi)
 have l1:=I.l1
 have l2:=I.l2
 have h:=DK C i (by exact o376 hi)
 have hl:(iy C i).1.length=2:=by exact o377 hi l1
 have hs:=(oV C i (n:=2) (by exact o378)).1
 have s0:aY C i (iy C i).1.length=0:=by rw[hl];exact o379 hs
 have key:=(Ao (b:=jo C i) (h.2 0 (by exact o381 hi l1)) (h.2 1 (by exact o380 hi l1))).2
 simp only[wst1,n6,dJ,s0,List.take_zero,List.nil_append,List.cons_append,List.getD_cons_zero]
 exact key
theorem l1000(P:Params):∃ cc dd sl,(KK P).lookup 1000=some ⟨cc,dd,.func (qQ P),sl⟩:=⟨_,_,_,by rfl⟩
theorem cd1000(P:Params):codeIn (KK P) (qQ P).code (qQ P).qualname=true:=by kernel_rfl
section
variable{pr:Program}{w:World}{d u:Nat}{s:Shared}{script:List Int}{A9:Array Value×Array Value}{B:Heap}{v:Value}
theorem Mw{fa:Addr}{fd:FuncData}{body:List Stmt}{vs:List Value}{binds:List (Str×Value)}{R:Rl}{c:aF}{M:List (Addr×MO)}(hB:Sub B s.heap)(ok:q8 w B)(hl:∃ cc dd sl,(KK w.params).lookup fa=some ⟨cc,dd,.func fd,sl⟩)(hcd:codeIn (KK w.params) fd.code fd.qualname=true)(hbody:fd.body=.stmts body)(hd:d<recursionLimit)
 (hclo:fd.closure=[]) (hco:fd.scope.isCoroutine=false) (hgen:fd.scope.isGenerator=false) (hk:fd.scope.kind=.function)
 (b1:bindArgs fd ⟨vs,[]⟩=pure binds) (b2:∀ x∈binds,fd.scope.names.lookup x.1=some .local)
 (hS:∀ sE,InCallC s (callEnvC fd s.heap.objs.size fa).locals (bindL (callEnvC fd s.heap.objs.size fa).kindOf binds fun V=>none) (callEnvC fd s.heap.objs.size fa).cells (bindC (callEnvC fd s.heap.objs.size fa).kindOf binds fun V=>none) sE->LS w s.os c B sE)
 (h:BR pr w (d+1) (u+3) c (execs body (callEnvC fd s.heap.objs.size fa)) R M) {Q:Value->Shared->Prop}
 (hQ:∀ B' s' v L ρ cl N,Sub B B'->LS w s.os ⟨L,ρ,cl,N++M⟩ B' s'->R.r B' v->Q v s'):wpAny (model pr w) (Ar d u) (call (.ref fa) vs) Q bf s:=by
 obtain⟨cc,dd,sl,hl⟩:=hl
 have X:(KK w.params).In s.heap:=fun a o e=>hB _ _ (ok.aZ _ _ e)
 refine wpAny_call (codeAny_call_cells (A:=Ar d u) hd (X _ _ hl) rfl (ok.lim.keeps hB) (codeRec_of X hcd) hbody b1 hclo (fun x hx=>.inl (b2 x hx)) (fun sE hsB=>?_) hco hgen hk)
 refine wpAny_mono (h.run B sE (hS sE hsB) (fun f s'=>Rt Q (.ok (.ret (match f with|.ret v=>v|_=>.none))) s') fun B' s' v L ρ cl N k S' r=>?_) (fun f s' z=>z) fun V V z=>z.elim
 exact hQ B' s' v L ρ cl N k S' r
theorem Ky(hB:Sub B s.heap)(ok:q8 w B)(t1:(MO.tab gB (eU w.params) A9.1).rel B s.heap 978)(t2:(MO.tab rG (pq w.params) A9.2).rel B s.heap 997)(n1:B.get? 978=none)(n2:B.get? 997=none)
 (hb:lw s=false) (hv:(cZ script).r B v) (hz:script.length≤63) (hd:d+202<recursionLimit) (hu:u+13<cLine) {Q:Value->Shared->Prop}
 (hQ:∀ B' s',Sub B B'->Sub B' s'.heap->s'.os=s.os->lw s'=false->(MO.tab gB (eU w.params) A9.1).rel B' s'.heap 978->(MO.tab rG (pq w.params) A9.2).rel B' s'.heap 997->Q (.bool true) s'):
 wpAny (model pr w) (Ar d u) (call (.ref 1000) [v]) Q bf s:=by
 refine Mw (body:=uc w.params) (binds:=[(fW,v)]) (c:=⟨s.heap.objs.size,[(fW,cZ script)],qp s.heap.objs.size,gU w.params A9 [] [] []⟩) (M:=gU w.params A9 [] [] []) hB ok (l1000 _) (cd1000 _) rfl (by exact jx hd) rfl rfl rfl rfl (by rfl) (fun x hx=>by rw[List.mem_singleton.mp hx];rfl) (fun sE hsB=>?_)
  (Kz (X:=[]) (Y:=[]) (Z:=[]) (A9:=A9) hz (by exact lu hu rfl) (by exact lu hd rfl) (Ie _)) fun B' s' v L ρ cl N k S' r=>?_
 · obtain⟨h',tk,se,hk⟩:=hsB.done
   have fr:∀ a,s.heap.objs.size≤a->B.get? a=none:=fun a h=>by
    cases q:B.get? a with
    |none=>rfl
    |some o=>exact absurd (Heap.lt_size (hB _ _ q)) (Nat.not_lt.mpr h)
   obtain⟨o1,g1⟩:=t1.get
   obtain⟨o2,g2⟩:=t2.get
   have z1:=Heap.lt_size g1
   have z2:=Heap.lt_size g2
   have e0:aF.own ⟨s.heap.objs.size,[(fW,cZ script)],qp s.heap.objs.size,gU w.params A9 [] [] []⟩=[s.heap.objs.size,s.heap.objs.size+1+1,s.heap.objs.size+1,978,997]:=rfl
   refine⟨ok,fun b o e=>?_,⟨_,hsB.toInCall.ns,fun x R e=>?_⟩,fun p hp=>?_,fun p hp=>?_,fun a ha=>?_,?_,?_,?_⟩
   · rw[se];exact hk _ _ (hB _ _ e)
   · by_cases h:x=fW
     · subst h
       simp[List.lookup]at e
       subst e
       exact⟨v,by rfl,hv⟩
     · have:(x==fW)=false:=by simpa using h
       simp[List.lookup,this]at e
   · simp only[qp,List.mem_cons,List.not_mem_nil,or_false]at hp
     rcases hp with rfl|rfl
     · exact⟨_,hsB.cell oX _ rfl⟩
     · exact⟨_,hsB.cell rF _ rfl⟩
   · simp only[gU,List.nil_append,List.cons_append,List.mem_cons,List.not_mem_nil,or_false]at hp
     rw[se]
     rcases hp with rfl|rfl
     · exact t1.keeps (Sub.refl B) fun o e=>hk _ _ e
     · exact t2.keeps (Sub.refl B) fun o e=>hk _ _ e
   · rw[e0]at ha
     simp only[List.mem_cons,List.not_mem_nil,or_false]at ha
     rcases ha with rfl|rfl|rfl|rfl|rfl
     · exact fr _ (Nat.le_refl _)
     · exact fr _ (Nat.le_succ_of_le (Nat.le_succ _))
     · exact fr _ (Nat.le_succ _)
     · exact n1
     · exact n2
   · rw[e0]
     have a1:∀ a n:Nat,a<s.heap.objs.size->s.heap.objs.size+n≠a:=fun a n h e=>by rw[←e]at h;exact absurd h (Nat.not_lt.mpr (Nat.le_add_right _ _))
     have b1:∀ n:Nat,s.heap.objs.size≠s.heap.objs.size+(n+1):=fun n e=>absurd e (Nat.ne_of_lt (Nat.lt_add_of_pos_right (Nat.succ_pos n)))
     refine List.nodup_cons.mpr ⟨?_,List.nodup_cons.mpr ⟨?_,List.nodup_cons.mpr ⟨?_,by decide⟩⟩⟩
     · simp only[List.mem_cons,List.not_mem_nil,or_false,not_or]
       exact⟨b1 1,b1 0,a1 _ 0 z1,a1 _ 0 z2⟩
     · simp only[List.mem_cons,List.not_mem_nil,or_false,not_or]
       exact⟨fun e=>b1 0 (Nat.succ.inj e).symm,a1 _ 2 z1,a1 _ 2 z2⟩
     · simp only[List.mem_cons,List.not_mem_nil,or_false,not_or]
       exact⟨a1 _ 1 z1,a1 _ 1 z2⟩
   · rw[se]
   · rw[se];exact hb
 · obtain rfl:=r
   exact hQ B' s' k S'.keep S'.os S'.bare (S'.muts (978,_) (List.mem_append_right _ (.head _))) (S'.muts (997,_) (List.mem_append_right _ (.tail _ (.head _))))
end
section
open PySem.W.X
theorem Kw:LeftO PySem.Challenge.pw_bc0007_01 qL lsL (fun V=>true) (fun s=>(s.heap,s.gens,s.toks)) (fun w=>((eS (lZ (kZ w.params)) w default).heap,#[],1984)) 20000:=by
 refine LeftO.of_pieces (H₀:=boot_heap) (H₁:=fun P=>absHeap ((tz t6.tree_1225 P).set 365 (fun V=>lZ (kZ P))) 1001 {}) (gs₀:=#[]) (gs₁:=#[]) (d₀:=boot_drawn) (d₁:={}) (k₀:=boot_toks) (k₁:=1984) (m₀:=11) (ann:=some (.ref 6)) (M:=20000)
  (boot_open (by kernel_rfl) (by decide) fun s=>rfl) (fun w=>by kernel_rfl) (fun w os=>jq w os) (by decide) fun w=>?_
 funext os
 have a:=hlaq (lZ (kZ w.params)) w os
 rw[←PySem.W.Fast.mqla_eq]at a
 have b:=hlbq (lZ (kZ w.params)) w os
 rw[←PySem.W.Fast.mqlb_eq, ←PySem.W.Fast.mqlc_eq]at b
 exact Prod.ext a (Prod.ext b rfl)
end
section
open PySem.W.X
noncomputable def K2(P:Params):Frag:=(978,t6.o_1203 P)::(997,t6.o_1222 P)::(4,PySem.W.boot_o_4 P)::KK P
noncomputable def hpE(o:Obj)(P:Params):Heap:=absHeap ((tz t6.tree_1225 P).set 365 (fun V=>o)) 1001 {}
noncomputable def asK:List Addr:=[978,997,4,330,329,949,948,250,249,3,0,503,502,701,700,431,430,186,178,86,93,100,142,149,156,163,177,185,214,269,285,379,421,428,500,879,886,901,908,922,929,959,967,975,983,990,995,1000,22,78,26,27,28,32,33,34,35,36,37,85,92,99,141,148,155,162,176,184,213,268,262,284,278,378,420,427,499,878,885,900,894,907,921,928,958,952,966,960,974,968,982,976,989,994,999,468,467,515,514,543,542,555,554,567,566,579,578,591,590,603,602,638,637,673,672,736,735,771,770,806,805,841,840,870,869,478,479,683,684]
theorem asK_is(P:Params):asK=(K2 P).map (·.1):=by kernel_rfl
noncomputable def al(o:Obj)(P:Params):=asK.map (hpE o P).get?
noncomputable def ar(o:Obj)(P:Params):=(K2 P).map fun p=>some p.2
theorem all':al=al:=rfl
name_quick mqal for al by all'
theorem alq(o:Obj)(P:Params):PySem.W.Fast.mqal o P=ar o P:=by kernel_rfl
theorem at_all(o:Obj)(P:Params):asK.map (hpE o P).get? =(K2 P).map fun p=>some p.2:=by
 have:=alq o P
 rw[←PySem.W.Fast.mqal_eq]at this
 exact this
theorem sys_at(o:Obj)(P:Params):((hpE o P).get? sysModules).isSome=true:=by kernel_rfl
theorem tab978(P:Params):t6.o_1203 P=tabObj #[]:=by kernel_rfl
theorem tab997(P:Params):t6.o_1222 P=tabObj #[]:=by kernel_rfl
theorem Jt{h:Heap}:∀{K:Frag},AllIn h K->K.In h
 |[],_=>fun a o e=>by cases e
 |(b,x)::K,⟨e1,e2⟩=>fun a o e=>by
  simp only[List.lookup]at e
  split at e
  · rename_i q
    rw[beq_iff_eq.mp q]
    cases e;exact e1
  · exact Jt e2 a o e
theorem yO(P:Params):(KK P).lookup 982=some (t6.o_1207 P)∧(t6.o_1207 P).cls=.type "code"∧(t6.o_1207 P).data=.fields (o982 P)∧(o982 P)[11]? =some (.ref 978):=⟨by kernel_rfl,by kernel_rfl,by kernel_rfl,by kernel_rfl⟩
theorem yN(P:Params):(KK P).lookup 999=some (t6.o_1224 P)∧(t6.o_1224 P).cls=.type "code"∧(t6.o_1224 P).data=.fields (o999 P)∧(o999 P)[11]? =some (.ref 997):=⟨by kernel_rfl,by kernel_rfl,by kernel_rfl,by kernel_rfl⟩
end
section
open PySem.W.X
theorem Hl{α:Type}{M:Model}{t:Sem α}{Q:α->Shared->Prop}{E:Value->Shared->Prop}{s:Shared}(h:wpAny M (Ar (1+claimMargin) 4) t Q bf s):wpAny M callerA t Q E s:=by
 have h':wpAny M callerA t Q bf s:=fun Γ p hΓ=>h Γ p ⟨hΓ.1,hΓ.2.1,(fun V e=>nomatch e),(fun V e=>nomatch e),hΓ.2.2.2.2⟩
 exact wpAny_mono h' (fun V V x=>x) fun V V x=>x.elim
theorem Bj{h:Heap}:∀{vs:List Value} {ns:List Int},IntsAre vs ns->bx h vs (ns.map Rl.int)
 |_,_,.nil=>.nil
 |_,_,.cons n t x=>.cons ⟨t,rfl⟩ (Bj x)
theorem g_law(P:Params):nsIn (KK P) 3 (Str.ofString "law")=some (some (.ref 1000)):=by kernel_rfl
theorem law_at{h:Heap}{P:Params}{mg:Str->Option Value}{a:Addr}(X:(KK P).In h)(g:h.Ns mainGlobals mg)(e:mg (Str.ofString "law")=some (.ref a)):a=1000:=by
 refine gG fun P_ k_=>?_
 obtain⟨o,es,ep,ho,hd,hk,hm⟩:=g
 obtain⟨c,dd,es',n,sl,hl,V⟩:=rI P
 refine k_ ?_
 have:=X _ _ hl
 rw[show(3:Addr)=mainGlobals from rfl,ho]at this
 cases this
 cases hd
 have q:=gH hl (g_law P)
 have q':=(hm (Str.ofString "law")).trans e
 rw[q]at q'
 cases q';rfl
theorem GK{gens:Array GenState}(h:leftWithCleanup gens=false):AllBare gens:=fun y hy=>by
 rw[lwg]at h
 rw[Array.any_eq_false']at h
 rw[Cp,Bool.eq_false_iff.mpr (h y hy)]
 rfl
theorem grown{h h' B B':Heap}(hB:B=hideAll h [978,997])(k:Sub B B')(k':Sub B' h'){P:Params}(X:(KK P).In h)(e1:h.get? 978=some (tabObj #[]))(e2:h.get? 997=some (tabObj #[]))
 (e3:∃ ps:Array Value,h'.get? 978=some (tabObj ps)) (e4:∃ ps:Array Value,h'.get? 997=some (tabObj ps)):OldK h h':=by
 have old:∀ b o,b≠978->b≠997->h.get? b=some o->h'.get? b=some o:=fun b o n1 n2 e=>k' _ _ (k _ _ (by
  rw[hB];exact hideAll_get _ e (by simp only[List.mem_cons,List.not_mem_nil,or_false,not_or];exact⟨n1,n2⟩)))
 obtain⟨ps,g1⟩:=e3
 obtain⟨ps',g2⟩:=e4
 have t1:isCodeTable h 978:=Heap.TableAt.isCodeTable (c:=982) (ps:=#[]) ⟨⟨_,_,X _ _ (yO P).1,(yO P).2.1,(yO P).2.2.1,(yO P).2.2.2⟩,e1⟩
 have t2:isCodeTable h 997:=Heap.TableAt.isCodeTable (c:=999) (ps:=#[]) ⟨⟨_,_,X _ _ (yN P).1,(yN P).2.1,(yN P).2.2.1,(yN P).2.2.2⟩,e2⟩
 refine⟨fun b o e=>?_,fun b o e=>?_⟩
 · by_cases n1:b=978
   · subst n1
     rw[e1]at e;cases e
     exact .inr (.inl ⟨t1,rfl,#[],ps,rfl,by rw[g1];simp⟩)
   · by_cases n2:b=997
     · subst n2
       rw[e2]at e;cases e
       exact .inr (.inl ⟨t2,rfl,#[],ps',rfl,by rw[g2];simp⟩)
     · exact .inl (old b o n1 n2 e)
 · by_cases n1:b=978
   · subst n1;exact⟨_,g1⟩
   · by_cases n2:b=997
     · subst n2;exact⟨_,g2⟩
     · exact⟨_,old b o n1 n2 e⟩
noncomputable def dL:DefRec:=((defOf qL PySem.Challenge.rw_bc0007_01.row.name).get (by kernel_rfl)).1
theorem dL_is:defOf qL PySem.Challenge.rw_bc0007_01.row.name=some (dL,[]):=by kernel_rfl
theorem dL_p:PySem.Challenge.rw_bc0007_01.row.prog.theDef PySem.Challenge.rw_bc0007_01.row.name=some (dL.params,dL.body,dL.scope):=by kernel_rfl
theorem dL_k:kwWritten? dL.params.kwonlyargs dL.params.kw_defaults=some []:=by kernel_rfl
theorem dL_n:dL.name=Str.ofString "law":=by kernel_rfl
theorem rowSaid:PySem.Challenge.rw_bc0007_01.row.wellSaid=true:=by
 delta OpenRow.wellSaid
 repeat (refine look_both ?_ (by kernel_rfl))
 kernel_rfl
theorem lawSaid:PySem.Challenge.rw_bc0007_01.wellSaid=true:=by
 delta OpenLaw.wellSaid
 iterate 18 (refine look_both ?_ (by kernel_rfl))
 exact rowSaid
set_option maxHeartbeats 8000000 in
theorem law_row(said:PySem.Challenge.rw_bc0007_01.row.wellSaid=true):PySem.Challenge.rw_bc0007_01.row.Holds:=by
 refine holds_openX (r:=PySem.Challenge.rw_bc0007_01.row) (q:=qL) (d:=dL) (kwd:=[]) (loose:=lsL) (Xt:=fun V=>true) (XP:=fun V V=>True) Kw (fun V V=>trivial) (fun V V V V V=>trivial) dL_is dL_p dL_k (fun s V=>recFacts_nil rfl) rfl said (by decide+kernel) ⟨rfl,rfl,rfl,rfl,rfl,by decide+kernel⟩ ?hw ?hc
 case hw=>w_witness2
 case hc=>
  intro w sH sE mg mb G y a o pm cd doc dV kV ha ho hcd hdf hmg hgens args vals as L hpre hlay hrd hwell hne
  clear ho hcd hdf ha
  rw[dL_n]at hmg
  wrow_args hpre hlay hrd hwell hne
  rename_i ns hs hlay0 hL1 hr1 hl2 as4 as3 la vs as0 hL ra wl r0 hI hr hc ht
  have hH:sH.heap=hpE (lZ (kZ w.params)) w.params:=congrArg Prod.fst y
  have A:AllIn sH.heap (K2 w.params):=allIn_of (by rw[←asK_is,hH];exact at_all _ _)
  obtain⟨a978,a997,a4,aK⟩:=A
  have kp:=L.keeps
  have KX:(KK w.params).In sE.heap:=fun a o e=>kp _ _ (Jt aK a o e)
  obtain rfl:=law_at KX G.T.g hmg
  have hat:=(script_at L).1
  have hob:=script_obj L hL
  have b978:sE.heap.get? 978=some (tabObj #[]):=by rw[kp _ _ a978];exact congrArg some (tab978 w.params)
  have b997:sE.heap.get? 997=some (tabObj #[]):=by rw[kp _ _ a997];exact congrArg some (tab997 w.params)
  have nk:∀ b o,(KK w.params).lookup b=some o->b∉ [978,997]:=fun b o e hm=>by
   simp only[List.mem_cons,List.not_mem_nil,or_false]at hm
   rcases hm with rfl|rfl
   · rw[show(KK w.params).lookup 978=none by kernel_rfl]at e;cases e
   · rw[show(KK w.params).lookup 997=none by kernel_rfl]at e;cases e
  have hB:Sub (hideAll sE.heap [978,997]) sE.heap:=fun b o e=>of_hideAll _ e
  have ok:q8 w (hideAll sE.heap [978,997]):=by
   refine⟨⟨fun b o e=>hideAll_get _ (KX b o e) (nk b o e),G.T.nolimit.at fun o e=>hideAll_get _ e (by decide),?_⟩,hideAll_get _ (kp _ _ a4) (by decide)⟩
   obtain⟨o,e⟩:=Option.isSome_iff_exists.mp (sys_at (lZ (kZ w.params)) w.params)
   rw[←hH]at e
   exact⟨o,hideAll_get _ (kp _ _ e) (by decide)⟩
  have la_ne:la∉ [978,997]:=by
   have z1:=Heap.lt_size a978
   have z2:=Heap.lt_size a997
   rw[hat]
   simp only[List.mem_cons,List.not_mem_nil,or_false,not_or]
   exact⟨Nat.ne_of_gt z1,Nat.ne_of_gt z2⟩
  refine Hl ?_
  refine Ky (A9:=(#[],#[])) (B:=hideAll sE.heap [978,997]) (script:=ns) hB ok ⟨#[],⟨b978,#[],rfl⟩,trivial,.inl rfl⟩ ⟨#[],⟨b997,#[],rfl⟩,trivial,.inl rfl⟩ (hideAll_none _ (by decide)) (hideAll_none _ (by decide)) ?_ ?_ ?_ (by decide) (by decide) ?_
  · show leftWithCleanup sE.gens=false
    rw[hgens];simp[leftWithCleanup]
  · exact⟨la,vs,0,rfl,hideAll_get _ hob la_ne,Bj hI⟩
  · exact o382 hc
  · intro B' s' k k' hos hlw t1 t2
    refine gG fun P_ k_=>?_
    obtain⟨ps,⟨g1,V⟩,V⟩:=t1
    obtain⟨ps',⟨g2,V⟩,V⟩:=t2
    refine k_ ?_
    refine⟨.inl ⟨_,_,[],rfl,fun V=>rfl,ReadsW.bool true,?_,fun V=>⟨List.nodup_nil,fun V hm=>(nomatch hm)⟩⟩,grown rfl k k' KX b978 b997 ⟨ps,g1⟩ ⟨ps',g2⟩,hos,GK hlw⟩
    first|rfl|wrow_post
end
end Mine.Internal
theorem PySem.Challenge.cw_bc0007_01_holds : PySem.Challenge.rw_bc0007_01.Holds := by
  exact PySem.W.holds_law Mine.Internal.lawSaid Mine.Internal.law_row
