import PyProof.Rows.All
import Wide.All
import OpenK.AllK
import Wide.FinOn
import Lean
import PySem.Challenge.RW_ba0047_01
open PySem PySem.W PyProof.Rows PySem.Calls
set_option Elab.async false
set_option maxRecDepth 100000
set_option linter.unusedVariables false
set_option linter.unusedSimpArgs false
set_option compiler.extract_closed false
/- The head's own constants need no quick twin: the names of the twins are taken ahead, so that none is laid (their equations would make the compiled file four times as large). -/
name_quick tw17198666190337171187 for PySem.W.S.findZ by PySem.W.S.findZ_eq
name_quick tw5007090173636750561 for PySem.W.S.findZ by PySem.W.S.findZ_eq
name_quick tw6953138203311097117 for PySem.W.S.findZ by PySem.W.S.findZ_eq
name_quick tw861502493610598483 for PySem.W.S.findZ by PySem.W.S.findZ_eq
name_quick tw938635154573522699 for PySem.W.S.findZ by PySem.W.S.findZ_eq
name_quick tw518780722745601928 for PySem.W.S.findZ by PySem.W.S.findZ_eq
name_quick tw13812277999558781770 for PySem.W.S.findZ by PySem.W.S.findZ_eq
name_quick tw4490611911172417597 for PySem.W.S.findZ by PySem.W.S.findZ_eq
name_quick tw4635989785427082552 for PySem.W.S.findZ by PySem.W.S.findZ_eq
name_quick tw15127105006835628225 for PySem.W.S.findZ by PySem.W.S.findZ_eq
name_quick tw6229817132586351632 for PySem.W.S.findZ by PySem.W.S.findZ_eq
name_quick tw9860861378791804195 for PySem.W.S.findZ by PySem.W.S.findZ_eq
name_quick tw9495317472360511255 for PySem.W.S.findZ by PySem.W.S.findZ_eq
name_quick tw12727641955093265886 for PySem.W.S.findZ by PySem.W.S.findZ_eq
name_quick tw8159993647027272844 for PySem.W.S.findZ by PySem.W.S.findZ_eq
name_quick tw4075453323654395381 for PySem.W.S.findZ by PySem.W.S.findZ_eq
name_quick tw9977182230042388008 for PySem.W.S.findZ by PySem.W.S.findZ_eq
name_quick tw11401859456886640639 for PySem.W.S.findZ by PySem.W.S.findZ_eq
name_quick tw6356304189028158447 for PySem.W.S.findZ by PySem.W.S.findZ_eq
name_quick tw1717767836212652739 for PySem.W.S.findZ by PySem.W.S.findZ_eq
name_quick tw8297923619242306668 for PySem.W.S.findZ by PySem.W.S.findZ_eq
name_quick tw14243238205550065757 for PySem.W.S.findZ by PySem.W.S.findZ_eq
name_quick tw11823594873375168262 for PySem.W.S.findZ by PySem.W.S.findZ_eq
name_quick tw18157406047293677543 for PySem.W.S.findZ by PySem.W.S.findZ_eq
name_quick tw12382822922155266910 for PySem.W.S.findZ by PySem.W.S.findZ_eq
name_quick tw11421057715548341654 for PySem.W.S.findZ by PySem.W.S.findZ_eq
name_quick tw10294118229990073760 for PySem.W.S.findZ by PySem.W.S.findZ_eq
name_quick tw8285278889055680438 for PySem.W.S.findZ by PySem.W.S.findZ_eq
name_quick tw2403389108928632939 for PySem.W.S.findZ by PySem.W.S.findZ_eq
name_quick tw16670775579421159206 for PySem.W.S.findZ by PySem.W.S.findZ_eq
name_quick tw7424060955962978353 for PySem.W.S.findZ by PySem.W.S.findZ_eq
name_quick tw3300454383303005205 for PySem.W.S.findZ by PySem.W.S.findZ_eq
name_quick tw6522051377940421278 for PySem.W.S.findZ by PySem.W.S.findZ_eq
name_quick tw16140922888777852060 for PySem.W.S.findZ by PySem.W.S.findZ_eq
name_quick tw8972062959192195235 for PySem.W.S.findZ by PySem.W.S.findZ_eq
name_quick tw896239598344801917 for PySem.W.S.findZ by PySem.W.S.findZ_eq
name_quick tw3382625519597670723 for PySem.W.S.findZ by PySem.W.S.findZ_eq
name_quick tw14935467056822913822 for PySem.W.S.findZ by PySem.W.S.findZ_eq
name_quick tw16955839230299176341 for PySem.W.S.findZ by PySem.W.S.findZ_eq
name_quick tw8949853181751564097 for PySem.W.S.findZ by PySem.W.S.findZ_eq
name_quick tw15861351967447197489 for PySem.W.S.findZ by PySem.W.S.findZ_eq
name_quick tw4039707410889071942 for PySem.W.S.findZ by PySem.W.S.findZ_eq
name_quick tw8739830900816887780 for PySem.W.S.findZ by PySem.W.S.findZ_eq
name_quick tw17760279517084355780 for PySem.W.S.findZ by PySem.W.S.findZ_eq
name_quick tw446995266069924076 for PySem.W.S.findZ by PySem.W.S.findZ_eq
name_quick tw10258873121960336067 for PySem.W.S.findZ by PySem.W.S.findZ_eq
name_quick tw12330612334027959195 for PySem.W.S.findZ by PySem.W.S.findZ_eq
name_quick tw13622603851894308203 for PySem.W.S.findZ by PySem.W.S.findZ_eq
name_quick tw9456574344343218679 for PySem.W.S.findZ by PySem.W.S.findZ_eq
name_quick tw15042883488752021643 for PySem.W.S.findZ by PySem.W.S.findZ_eq
name_quick tw13135312941875745310 for PySem.W.S.findZ by PySem.W.S.findZ_eq
name_quick tw7086961617601330827 for PySem.W.S.findZ by PySem.W.S.findZ_eq
name_quick tw8899516883271353254 for PySem.W.S.findZ by PySem.W.S.findZ_eq
name_quick tw2135409205425526673 for PySem.W.S.findZ by PySem.W.S.findZ_eq
name_quick tw11161164713144168021 for PySem.W.S.findZ by PySem.W.S.findZ_eq
name_quick tw2107523057676978006 for PySem.W.S.findZ by PySem.W.S.findZ_eq
name_quick tw3235425350174046738 for PySem.W.S.findZ by PySem.W.S.findZ_eq
name_quick tw10510056951384868246 for PySem.W.S.findZ by PySem.W.S.findZ_eq
name_quick tw1495895850433845275 for PySem.W.S.findZ by PySem.W.S.findZ_eq
name_quick tw7164969610272591079 for PySem.W.S.findZ by PySem.W.S.findZ_eq
name_quick tw4953865588907285216 for PySem.W.S.findZ by PySem.W.S.findZ_eq
name_quick tw13757698761724263525 for PySem.W.S.findZ by PySem.W.S.findZ_eq
name_quick tw17013487888433625170 for PySem.W.S.findZ by PySem.W.S.findZ_eq
name_quick tw8733291241859026926 for PySem.W.S.findZ by PySem.W.S.findZ_eq
name_quick tw2187251505897268136 for PySem.W.S.findZ by PySem.W.S.findZ_eq
name_quick tw17292613610259460706 for PySem.W.S.findZ by PySem.W.S.findZ_eq
name_quick tw209982475168477708 for PySem.W.S.findZ by PySem.W.S.findZ_eq
name_quick tw8760152093665844161 for PySem.W.S.findZ by PySem.W.S.findZ_eq
name_quick tw140001813534094272 for PySem.W.S.findZ by PySem.W.S.findZ_eq
name_quick tw8047209995159408440 for PySem.W.S.findZ by PySem.W.S.findZ_eq
name_quick tw16723463757517087524 for PySem.W.S.findZ by PySem.W.S.findZ_eq
name_quick tw12459912946257978736 for PySem.W.S.findZ by PySem.W.S.findZ_eq
name_quick tw6128106870883400570 for PySem.W.S.findZ by PySem.W.S.findZ_eq
name_quick tw9116068151291705539 for PySem.W.S.findZ by PySem.W.S.findZ_eq
name_quick tw12772213712371865176 for PySem.W.S.findZ by PySem.W.S.findZ_eq
name_quick tw2261719852989239553 for PySem.W.S.findZ by PySem.W.S.findZ_eq
name_quick tw87601786513091389 for PySem.W.S.findZ by PySem.W.S.findZ_eq
name_quick tw2144661209622563809 for PySem.W.S.findZ by PySem.W.S.findZ_eq
name_quick tw4562827626845409882 for PySem.W.S.findZ by PySem.W.S.findZ_eq
name_quick tw14172470266813156586 for PySem.W.S.findZ by PySem.W.S.findZ_eq
name_quick tw15539815450414544023 for PySem.W.S.findZ by PySem.W.S.findZ_eq
name_quick tw2455152089536381482 for PySem.W.S.findZ by PySem.W.S.findZ_eq
name_quick tw9536688357841153863 for PySem.W.S.findZ by PySem.W.S.findZ_eq
name_quick tw3919386906821981792 for PySem.W.S.findZ by PySem.W.S.findZ_eq
name_quick tw5994696166404524948 for PySem.W.S.findZ by PySem.W.S.findZ_eq
name_quick tw17518593693041627797 for PySem.W.S.findZ by PySem.W.S.findZ_eq
name_quick tw10876078143196172821 for PySem.W.S.findZ by PySem.W.S.findZ_eq
name_quick tw15779231459743154856 for PySem.W.S.findZ by PySem.W.S.findZ_eq
name_quick tw10519837036962490867 for PySem.W.S.findZ by PySem.W.S.findZ_eq
name_quick tw12903330217458380548 for PySem.W.S.findZ by PySem.W.S.findZ_eq
name_quick tw15402603294489630176 for PySem.W.S.findZ by PySem.W.S.findZ_eq
name_quick tw3270257207059953099 for PySem.W.S.findZ by PySem.W.S.findZ_eq
name_quick tw17464319187374939960 for PySem.W.S.findZ by PySem.W.S.findZ_eq
name_quick tw9848817304349107530 for PySem.W.S.findZ by PySem.W.S.findZ_eq
name_quick tw11266997524610791606 for PySem.W.S.findZ by PySem.W.S.findZ_eq
name_quick tw11962351593759143498 for PySem.W.S.findZ by PySem.W.S.findZ_eq
name_quick tw14760874974797668852 for PySem.W.S.findZ by PySem.W.S.findZ_eq
name_quick tw447263597446747957 for PySem.W.S.findZ by PySem.W.S.findZ_eq
name_quick tw15401437161963490237 for PySem.W.S.findZ by PySem.W.S.findZ_eq
name_quick tw4849480874435393781 for PySem.W.S.findZ by PySem.W.S.findZ_eq
name_quick tw4906484309439969231 for PySem.W.S.findZ by PySem.W.S.findZ_eq
name_quick tw16902440903046159558 for PySem.W.S.findZ by PySem.W.S.findZ_eq
name_quick tw5537553045615171315 for PySem.W.S.findZ by PySem.W.S.findZ_eq
name_quick tw4684226298888400098 for PySem.W.S.findZ by PySem.W.S.findZ_eq
name_quick tw16919654943277366748 for PySem.W.S.findZ by PySem.W.S.findZ_eq
name_quick tw11066385474520676512 for PySem.W.S.findZ by PySem.W.S.findZ_eq
name_quick tw5832305185047221409 for PySem.W.S.findZ by PySem.W.S.findZ_eq
name_quick tw4734895289157585001 for PySem.W.S.findZ by PySem.W.S.findZ_eq
name_quick tw16120054744476736488 for PySem.W.S.findZ by PySem.W.S.findZ_eq
name_quick tw13953587524928339648 for PySem.W.S.findZ by PySem.W.S.findZ_eq
name_quick tw16108870410212019532 for PySem.W.S.findZ by PySem.W.S.findZ_eq
name_quick tw16822532161544500889 for PySem.W.S.findZ by PySem.W.S.findZ_eq
name_quick tw3215387988796971590 for PySem.W.S.findZ by PySem.W.S.findZ_eq
name_quick tw7480016910919988345 for PySem.W.S.findZ by PySem.W.S.findZ_eq
name_quick tw140236481695663071 for PySem.W.S.findZ by PySem.W.S.findZ_eq
name_quick tw2080317491765294665 for PySem.W.S.findZ by PySem.W.S.findZ_eq
name_quick tw12917704675397863716 for PySem.W.S.findZ by PySem.W.S.findZ_eq
name_quick tw4804111812005502284 for PySem.W.S.findZ by PySem.W.S.findZ_eq
name_quick tw15925456577456769635 for PySem.W.S.findZ by PySem.W.S.findZ_eq
name_quick tw15173544498738437827 for PySem.W.S.findZ by PySem.W.S.findZ_eq
name_quick tw11738243743197964597 for PySem.W.S.findZ by PySem.W.S.findZ_eq
name_quick tw1000662321505670351 for PySem.W.S.findZ by PySem.W.S.findZ_eq
name_quick tw4548300405975405348 for PySem.W.S.findZ by PySem.W.S.findZ_eq
name_quick tw6858818405166986180 for PySem.W.S.findZ by PySem.W.S.findZ_eq
name_quick tw6148498323302512570 for PySem.W.S.findZ by PySem.W.S.findZ_eq
name_quick tw18418582437962087742 for PySem.W.S.findZ by PySem.W.S.findZ_eq
name_quick tw12887044766017154078 for PySem.W.S.findZ by PySem.W.S.findZ_eq
name_quick tw896878414759379649 for PySem.W.S.findZ by PySem.W.S.findZ_eq
name_quick tw3308634892276815127 for PySem.W.S.findZ by PySem.W.S.findZ_eq
name_quick tw13946496683202179788 for PySem.W.S.findZ by PySem.W.S.findZ_eq
name_quick tw740290905518256060 for PySem.W.S.findZ by PySem.W.S.findZ_eq
name_quick tw8374155422468719031 for PySem.W.S.findZ by PySem.W.S.findZ_eq
name_quick tw16298917771340976007 for PySem.W.S.findZ by PySem.W.S.findZ_eq
name_quick tw12269216009862288129 for PySem.W.S.findZ by PySem.W.S.findZ_eq
name_quick tw14827714588952709054 for PySem.W.S.findZ by PySem.W.S.findZ_eq
name_quick tw10698057553749749337 for PySem.W.S.findZ by PySem.W.S.findZ_eq
name_quick tw16682895059504647277 for PySem.W.S.findZ by PySem.W.S.findZ_eq
name_quick tw15685335758407661847 for PySem.W.S.findZ by PySem.W.S.findZ_eq
name_quick tw9972681490609642005 for PySem.W.S.findZ by PySem.W.S.findZ_eq
name_quick tw12297992134047619483 for PySem.W.S.findZ by PySem.W.S.findZ_eq
name_quick tw1950803216711332702 for PySem.W.S.findZ by PySem.W.S.findZ_eq
name_quick tw3300257896294614128 for PySem.W.S.findZ by PySem.W.S.findZ_eq
name_quick tw14387916025512776202 for PySem.W.S.findZ by PySem.W.S.findZ_eq
name_quick tw1840220198017710270 for PySem.W.S.findZ by PySem.W.S.findZ_eq
name_quick tw866717566613908145 for PySem.W.S.findZ by PySem.W.S.findZ_eq
name_quick tw5344687154915797982 for PySem.W.S.findZ by PySem.W.S.findZ_eq
name_quick tw9879335643197240621 for PySem.W.S.findZ by PySem.W.S.findZ_eq
name_quick tw1205274952441263945 for PySem.W.S.findZ by PySem.W.S.findZ_eq
name_quick tw1825952489489211193 for PySem.W.S.findZ by PySem.W.S.findZ_eq
name_quick tw443766864951011646 for PySem.W.S.findZ by PySem.W.S.findZ_eq
name_quick tw14958820412457663293 for PySem.W.S.findZ by PySem.W.S.findZ_eq
name_quick tw17483705464198625004 for PySem.W.S.findZ by PySem.W.S.findZ_eq
name_quick tw9592521066531166775 for PySem.W.S.findZ by PySem.W.S.findZ_eq
name_quick tw1972164579936704799 for PySem.W.S.findZ by PySem.W.S.findZ_eq
name_quick tw17338325484393633139 for PySem.W.S.findZ by PySem.W.S.findZ_eq
name_quick tw4321966507151631593 for PySem.W.S.findZ by PySem.W.S.findZ_eq
name_quick tw2827255003249426055 for PySem.W.S.findZ by PySem.W.S.findZ_eq
name_quick tw2314633323536394700 for PySem.W.S.findZ by PySem.W.S.findZ_eq
name_quick tw17318462890700432884 for PySem.W.S.findZ by PySem.W.S.findZ_eq
name_quick tw5002640475654186023 for PySem.W.S.findZ by PySem.W.S.findZ_eq
name_quick tw5459702643516471331 for PySem.W.S.findZ by PySem.W.S.findZ_eq
name_quick tw4480162626587320490 for PySem.W.S.findZ by PySem.W.S.findZ_eq
name_quick tw8002303944043701648 for PySem.W.S.findZ by PySem.W.S.findZ_eq
name_quick tw13674586047789940208 for PySem.W.S.findZ by PySem.W.S.findZ_eq
name_quick tw7322748291113730364 for PySem.W.S.findZ by PySem.W.S.findZ_eq
name_quick tw17435391645217708394 for PySem.W.S.findZ by PySem.W.S.findZ_eq
name_quick tw11384182702204212275 for PySem.W.S.findZ by PySem.W.S.findZ_eq
name_quick tw13444670453868202053 for PySem.W.S.findZ by PySem.W.S.findZ_eq
name_quick tw4171853373547519906 for PySem.W.S.findZ by PySem.W.S.findZ_eq
name_quick tw11907897558876765624 for PySem.W.S.findZ by PySem.W.S.findZ_eq
name_quick tw4971374062829452455 for PySem.W.S.findZ by PySem.W.S.findZ_eq
name_quick tw1915925776726481438 for PySem.W.S.findZ by PySem.W.S.findZ_eq
name_quick tw13421457143807847188 for PySem.W.S.findZ by PySem.W.S.findZ_eq
name_quick tw4699756791338806529 for PySem.W.S.findZ by PySem.W.S.findZ_eq
name_quick tw15254633091992210921 for PySem.W.S.findZ by PySem.W.S.findZ_eq
name_quick tw18146532975450069615 for PySem.W.S.findZ by PySem.W.S.findZ_eq
name_quick tw5072417060200589145 for PySem.W.S.findZ by PySem.W.S.findZ_eq
name_quick tw13462424878891718212 for PySem.W.S.findZ by PySem.W.S.findZ_eq
name_quick tw15438627641174518403 for PySem.W.S.findZ by PySem.W.S.findZ_eq
name_quick tw12652081859355081885 for PySem.W.S.findZ by PySem.W.S.findZ_eq
name_quick tw10910644110388302437 for PySem.W.S.findZ by PySem.W.S.findZ_eq
name_quick tw5622701340561072331 for PySem.W.S.findZ by PySem.W.S.findZ_eq
name_quick tw13855379610559885079 for PySem.W.S.findZ by PySem.W.S.findZ_eq
name_quick tw4436474186459923750 for PySem.W.S.findZ by PySem.W.S.findZ_eq
name_quick tw4096438862311573950 for PySem.W.S.findZ by PySem.W.S.findZ_eq
name_quick tw11373181179767321252 for PySem.W.S.findZ by PySem.W.S.findZ_eq
name_quick tw14664691819916384248 for PySem.W.S.findZ by PySem.W.S.findZ_eq
name_quick tw9689729476882780088 for PySem.W.S.findZ by PySem.W.S.findZ_eq
name_quick tw15433366417846715934 for PySem.W.S.findZ by PySem.W.S.findZ_eq
name_quick tw5667099127317398114 for PySem.W.S.findZ by PySem.W.S.findZ_eq
name_quick tw9461873434466728008 for PySem.W.S.findZ by PySem.W.S.findZ_eq
name_quick tw1532491051758110099 for PySem.W.S.findZ by PySem.W.S.findZ_eq
name_quick tw12431713363859531893 for PySem.W.S.findZ by PySem.W.S.findZ_eq
name_quick tw6105849179199505303 for PySem.W.S.findZ by PySem.W.S.findZ_eq
name_quick tw14022695629967993375 for PySem.W.S.findZ by PySem.W.S.findZ_eq
name_quick tw17817366049700826239 for PySem.W.S.findZ by PySem.W.S.findZ_eq
name_quick tw1979317910248211280 for PySem.W.S.findZ by PySem.W.S.findZ_eq
name_quick tw12954591660760965231 for PySem.W.S.findZ by PySem.W.S.findZ_eq
name_quick tw772564365185477556 for PySem.W.S.findZ by PySem.W.S.findZ_eq
name_quick tw726351398001015727 for PySem.W.S.findZ by PySem.W.S.findZ_eq
name_quick tw8422229294311615681 for PySem.W.S.findZ by PySem.W.S.findZ_eq
name_quick tw5890639436620234070 for PySem.W.S.findZ by PySem.W.S.findZ_eq
name_quick tw13053770412826190925 for PySem.W.S.findZ by PySem.W.S.findZ_eq
name_quick tw16248296213531012650 for PySem.W.S.findZ by PySem.W.S.findZ_eq
name_quick tw10879749546641988924 for PySem.W.S.findZ by PySem.W.S.findZ_eq
name_quick tw1070438729232803039 for PySem.W.S.findZ by PySem.W.S.findZ_eq
name_quick tw28018229315631829 for PySem.W.S.findZ by PySem.W.S.findZ_eq
name_quick tw18328257000508772394 for PySem.W.S.findZ by PySem.W.S.findZ_eq
name_quick tw7867829370405329436 for PySem.W.S.findZ by PySem.W.S.findZ_eq
name_quick tw17590705303994421779 for PySem.W.S.findZ by PySem.W.S.findZ_eq
name_quick tw2244103112122482387 for PySem.W.S.findZ by PySem.W.S.findZ_eq
name_quick tw3475869608268796686 for PySem.W.S.findZ by PySem.W.S.findZ_eq
name_quick tw8431482922422412695 for PySem.W.S.findZ by PySem.W.S.findZ_eq
name_quick tw12768989823518198380 for PySem.W.S.findZ by PySem.W.S.findZ_eq
name_quick tw9402243437249704421 for PySem.W.S.findZ by PySem.W.S.findZ_eq
name_quick tw3681537716864247207 for PySem.W.S.findZ by PySem.W.S.findZ_eq
name_quick tw10826640976665885199 for PySem.W.S.findZ by PySem.W.S.findZ_eq
name_quick tw13956191218907399338 for PySem.W.S.findZ by PySem.W.S.findZ_eq
name_quick tw16636501806038632012 for PySem.W.S.findZ by PySem.W.S.findZ_eq
name_quick tw8737599933303070863 for PySem.W.S.findZ by PySem.W.S.findZ_eq
name_quick tw4323258101793500111 for PySem.W.S.findZ by PySem.W.S.findZ_eq
name_quick tw539538531456391632 for PySem.W.S.findZ by PySem.W.S.findZ_eq
name_quick tw12843764043397292189 for PySem.W.S.findZ by PySem.W.S.findZ_eq
name_quick tw1864683662541468164 for PySem.W.S.findZ by PySem.W.S.findZ_eq
name_quick tw14391293386007564604 for PySem.W.S.findZ by PySem.W.S.findZ_eq
name_quick tw4015202173357781934 for PySem.W.S.findZ by PySem.W.S.findZ_eq
name_quick tw4493901809537577575 for PySem.W.S.findZ by PySem.W.S.findZ_eq
name_quick tw13547939009206843870 for PySem.W.S.findZ by PySem.W.S.findZ_eq
name_quick tw9806118890596472461 for PySem.W.S.findZ by PySem.W.S.findZ_eq
name_quick tw6170744672141170255 for PySem.W.S.findZ by PySem.W.S.findZ_eq
name_quick tw2399617604181995578 for PySem.W.S.findZ by PySem.W.S.findZ_eq
name_quick tw6056707288978253535 for PySem.W.S.findZ by PySem.W.S.findZ_eq
name_quick tw10159399881129095643 for PySem.W.S.findZ by PySem.W.S.findZ_eq
name_quick tw615563214671542189 for PySem.W.S.findZ by PySem.W.S.findZ_eq
name_quick tw18367749455379333440 for PySem.W.S.findZ by PySem.W.S.findZ_eq
name_quick tw12099505692703838030 for PySem.W.S.findZ by PySem.W.S.findZ_eq
name_quick tw11692469974320434101 for PySem.W.S.findZ by PySem.W.S.findZ_eq
name_quick tw14520296925931582552 for PySem.W.S.findZ by PySem.W.S.findZ_eq
name_quick tw15805137534098808535 for PySem.W.S.findZ by PySem.W.S.findZ_eq
name_quick tw10551173667578312727 for PySem.W.S.findZ by PySem.W.S.findZ_eq
name_quick tw16226643914720891334 for PySem.W.S.findZ by PySem.W.S.findZ_eq
name_quick tw2931988195819169919 for PySem.W.S.findZ by PySem.W.S.findZ_eq
name_quick tw15590096980072825465 for PySem.W.S.findZ by PySem.W.S.findZ_eq
name_quick tw6420159726195949164 for PySem.W.S.findZ by PySem.W.S.findZ_eq
name_quick tw9950792792127014553 for PySem.W.S.findZ by PySem.W.S.findZ_eq
name_quick tw14404928986312190071 for PySem.W.S.findZ by PySem.W.S.findZ_eq
name_quick tw17334828202450815106 for PySem.W.S.findZ by PySem.W.S.findZ_eq
name_quick tw17613222154834848340 for PySem.W.S.findZ by PySem.W.S.findZ_eq
name_quick tw3671519592330383864 for PySem.W.S.findZ by PySem.W.S.findZ_eq
name_quick tw2228412568605170491 for PySem.W.S.findZ by PySem.W.S.findZ_eq
name_quick tw3374319085511977134 for PySem.W.S.findZ by PySem.W.S.findZ_eq
name_quick tw11024694936033576346 for PySem.W.S.findZ by PySem.W.S.findZ_eq
name_quick tw13437419889732721216 for PySem.W.S.findZ by PySem.W.S.findZ_eq
name_quick tw12147665669636231765 for PySem.W.S.findZ by PySem.W.S.findZ_eq
name_quick tw10341888390210383824 for PySem.W.S.findZ by PySem.W.S.findZ_eq
name_quick tw8535803893964050539 for PySem.W.S.findZ by PySem.W.S.findZ_eq
name_quick tw2474200967059427378 for PySem.W.S.findZ by PySem.W.S.findZ_eq
name_quick tw6162269159774324313 for PySem.W.S.findZ by PySem.W.S.findZ_eq
name_quick tw2595585439558603231 for PySem.W.S.findZ by PySem.W.S.findZ_eq
name_quick tw17170472223608059050 for PySem.W.S.findZ by PySem.W.S.findZ_eq
name_quick tw1467881925912835984 for PySem.W.S.findZ by PySem.W.S.findZ_eq
name_quick tw14727194681476072466 for PySem.W.S.findZ by PySem.W.S.findZ_eq
name_quick tw4309217394794523951 for PySem.W.S.findZ by PySem.W.S.findZ_eq
name_quick tw855453113358079251 for PySem.W.S.findZ by PySem.W.S.findZ_eq
name_quick tw14611616552423853409 for PySem.W.S.findZ by PySem.W.S.findZ_eq
name_quick tw258204147387103276 for PySem.W.S.findZ by PySem.W.S.findZ_eq
name_quick tw11853640710764476214 for PySem.W.S.findZ by PySem.W.S.findZ_eq
name_quick tw2259672571474061568 for PySem.W.S.findZ by PySem.W.S.findZ_eq
name_quick tw6030501089693204938 for PySem.W.S.findZ by PySem.W.S.findZ_eq
name_quick tw5323657890516693427 for PySem.W.S.findZ by PySem.W.S.findZ_eq
name_quick tw14537775516033599862 for PySem.W.S.findZ by PySem.W.S.findZ_eq
name_quick tw17678831435119133177 for PySem.W.S.findZ by PySem.W.S.findZ_eq
name_quick tw6128145076113358165 for PySem.W.S.findZ by PySem.W.S.findZ_eq
name_quick tw2358075552688931204 for PySem.W.S.findZ by PySem.W.S.findZ_eq
name_quick tw547895379624588593 for PySem.W.S.findZ by PySem.W.S.findZ_eq
name_quick tw2694234056635809718 for PySem.W.S.findZ by PySem.W.S.findZ_eq
name_quick tw4859391219904099992 for PySem.W.S.findZ by PySem.W.S.findZ_eq
name_quick tw7046044490832178742 for PySem.W.S.findZ by PySem.W.S.findZ_eq
name_quick tw977512076041815475 for PySem.W.S.findZ by PySem.W.S.findZ_eq
name_quick tw9331231397406362311 for PySem.W.S.findZ by PySem.W.S.findZ_eq
name_quick tw1142673529048489019 for PySem.W.S.findZ by PySem.W.S.findZ_eq
name_quick tw14963028359598502718 for PySem.W.S.findZ by PySem.W.S.findZ_eq
name_quick tw9757595895972200118 for PySem.W.S.findZ by PySem.W.S.findZ_eq
name_quick tw991626836265849350 for PySem.W.S.findZ by PySem.W.S.findZ_eq
name_quick tw16654469307462801742 for PySem.W.S.findZ by PySem.W.S.findZ_eq
name_quick tw6557801498797044033 for PySem.W.S.findZ by PySem.W.S.findZ_eq
name_quick tw11662115353561507501 for PySem.W.S.findZ by PySem.W.S.findZ_eq
name_quick tw16203965252921439515 for PySem.W.S.findZ by PySem.W.S.findZ_eq
name_quick tw3953844824629472508 for PySem.W.S.findZ by PySem.W.S.findZ_eq
name_quick tw9796564346219866840 for PySem.W.S.findZ by PySem.W.S.findZ_eq
name_quick tw9947508896943372755 for PySem.W.S.findZ by PySem.W.S.findZ_eq
name_quick tw1956775160557780875 for PySem.W.S.findZ by PySem.W.S.findZ_eq
name_quick tw12960429369202013873 for PySem.W.S.findZ by PySem.W.S.findZ_eq
name_quick tw3778530596728393105 for PySem.W.S.findZ by PySem.W.S.findZ_eq
name_quick tw15235614512728720 for PySem.W.S.findZ by PySem.W.S.findZ_eq
name_quick tw14219159868682941630 for PySem.W.S.findZ by PySem.W.S.findZ_eq
name_quick tw6278996535519779258 for PySem.W.S.findZ by PySem.W.S.findZ_eq
name_quick tw12488014758255163090 for PySem.W.S.findZ by PySem.W.S.findZ_eq
name_quick tw2466311954974566718 for PySem.W.S.findZ by PySem.W.S.findZ_eq
name_quick tw3049343062529576306 for PySem.W.S.findZ by PySem.W.S.findZ_eq
name_quick tw1207101557538958131 for PySem.W.S.findZ by PySem.W.S.findZ_eq
name_quick tw11502921971960690029 for PySem.W.S.findZ by PySem.W.S.findZ_eq
name_quick tw5000232492035539693 for PySem.W.S.findZ by PySem.W.S.findZ_eq
name_quick tw8171798328758944481 for PySem.W.S.findZ by PySem.W.S.findZ_eq
name_quick tw8186657734068701312 for PySem.W.S.findZ by PySem.W.S.findZ_eq
name_quick tw2692750590507578028 for PySem.W.S.findZ by PySem.W.S.findZ_eq
name_quick tw15240619367488684849 for PySem.W.S.findZ by PySem.W.S.findZ_eq
name_quick tw1342123614928995077 for PySem.W.S.findZ by PySem.W.S.findZ_eq
name_quick tw1719895430356276633 for PySem.W.S.findZ by PySem.W.S.findZ_eq
name_quick tw10741264400317747893 for PySem.W.S.findZ by PySem.W.S.findZ_eq
name_quick tw18293242582946804979 for PySem.W.S.findZ by PySem.W.S.findZ_eq
name_quick tw10988312798546598065 for PySem.W.S.findZ by PySem.W.S.findZ_eq
name_quick tw14993981098963755598 for PySem.W.S.findZ by PySem.W.S.findZ_eq
name_quick tw643336161829623379 for PySem.W.S.findZ by PySem.W.S.findZ_eq
name_quick tw14746253646979254834 for PySem.W.S.findZ by PySem.W.S.findZ_eq
name_quick tw1293241653719404408 for PySem.W.S.findZ by PySem.W.S.findZ_eq
name_quick tw1956260828630720203 for PySem.W.S.findZ by PySem.W.S.findZ_eq
name_quick tw16873086082458093902 for PySem.W.S.findZ by PySem.W.S.findZ_eq
name_quick tw15554417296805563061 for PySem.W.S.findZ by PySem.W.S.findZ_eq
name_quick tw14961746396406840608 for PySem.W.S.findZ by PySem.W.S.findZ_eq
name_quick tw14847308668706973960 for PySem.W.S.findZ by PySem.W.S.findZ_eq
name_quick tw3303267245142563540 for PySem.W.S.findZ by PySem.W.S.findZ_eq
name_quick tw7943549864190904611 for PySem.W.S.findZ by PySem.W.S.findZ_eq
name_quick tw8498532028676091811 for PySem.W.S.findZ by PySem.W.S.findZ_eq
name_quick tw11408881796089955267 for PySem.W.S.findZ by PySem.W.S.findZ_eq
name_quick tw18183970276198133131 for PySem.W.S.findZ by PySem.W.S.findZ_eq
name_quick tw15166322114958858414 for PySem.W.S.findZ by PySem.W.S.findZ_eq
name_quick tw17339309145561079191 for PySem.W.S.findZ by PySem.W.S.findZ_eq
name_quick tw1607123104830579860 for PySem.W.S.findZ by PySem.W.S.findZ_eq
name_quick tw1937721966566455358 for PySem.W.S.findZ by PySem.W.S.findZ_eq
name_quick tw5725222548895626118 for PySem.W.S.findZ by PySem.W.S.findZ_eq
name_quick tw12740759652641322565 for PySem.W.S.findZ by PySem.W.S.findZ_eq
name_quick tw17659185236578331656 for PySem.W.S.findZ by PySem.W.S.findZ_eq
name_quick tw3099597729799864441 for PySem.W.S.findZ by PySem.W.S.findZ_eq
name_quick tw8565224436197482051 for PySem.W.S.findZ by PySem.W.S.findZ_eq
name_quick tw6702445572142316249 for PySem.W.S.findZ by PySem.W.S.findZ_eq
name_quick tw3238445694619138142 for PySem.W.S.findZ by PySem.W.S.findZ_eq
name_quick tw256976265262469064 for PySem.W.S.findZ by PySem.W.S.findZ_eq
name_quick tw15577281813014381367 for PySem.W.S.findZ by PySem.W.S.findZ_eq
name_quick tw8865387616306378214 for PySem.W.S.findZ by PySem.W.S.findZ_eq
name_quick tw10295913840692754127 for PySem.W.S.findZ by PySem.W.S.findZ_eq
name_quick tw9630203353718772412 for PySem.W.S.findZ by PySem.W.S.findZ_eq
name_quick tw5872530126848033075 for PySem.W.S.findZ by PySem.W.S.findZ_eq
name_quick tw11481637867367846703 for PySem.W.S.findZ by PySem.W.S.findZ_eq
name_quick tw6782663255696616371 for PySem.W.S.findZ by PySem.W.S.findZ_eq
name_quick tw11513857634932158529 for PySem.W.S.findZ by PySem.W.S.findZ_eq
name_quick tw16721508838639397229 for PySem.W.S.findZ by PySem.W.S.findZ_eq
name_quick tw4483904966330829159 for PySem.W.S.findZ by PySem.W.S.findZ_eq
name_quick tw12188032599808994241 for PySem.W.S.findZ by PySem.W.S.findZ_eq
name_quick tw1158361714356455011 for PySem.W.S.findZ by PySem.W.S.findZ_eq
name_quick tw14074196154385387334 for PySem.W.S.findZ by PySem.W.S.findZ_eq
name_quick tw599730875272715187 for PySem.W.S.findZ by PySem.W.S.findZ_eq
name_quick tw15541240446876304647 for PySem.W.S.findZ by PySem.W.S.findZ_eq
name_quick tw819570635367399668 for PySem.W.S.findZ by PySem.W.S.findZ_eq
name_quick tw5467331546851215429 for PySem.W.S.findZ by PySem.W.S.findZ_eq
name_quick tw3365755272349913518 for PySem.W.S.findZ by PySem.W.S.findZ_eq
name_quick tw12138319994727072339 for PySem.W.S.findZ by PySem.W.S.findZ_eq
name_quick tw6542358382571353910 for PySem.W.S.findZ by PySem.W.S.findZ_eq
name_quick tw15831126876759372255 for PySem.W.S.findZ by PySem.W.S.findZ_eq
name_quick tw4077048163395320219 for PySem.W.S.findZ by PySem.W.S.findZ_eq
name_quick tw8222940686941784037 for PySem.W.S.findZ by PySem.W.S.findZ_eq
name_quick tw15895094517606616290 for PySem.W.S.findZ by PySem.W.S.findZ_eq
name_quick tw8318101203651539667 for PySem.W.S.findZ by PySem.W.S.findZ_eq
name_quick tw15214748959534726111 for PySem.W.S.findZ by PySem.W.S.findZ_eq
name_quick tw10297410513487048360 for PySem.W.S.findZ by PySem.W.S.findZ_eq
name_quick tw3520257249291928256 for PySem.W.S.findZ by PySem.W.S.findZ_eq
name_quick tw890339118813698166 for PySem.W.S.findZ by PySem.W.S.findZ_eq
name_quick tw16607193741793207195 for PySem.W.S.findZ by PySem.W.S.findZ_eq
name_quick tw3110587219445414310 for PySem.W.S.findZ by PySem.W.S.findZ_eq
name_quick tw14592624751514493413 for PySem.W.S.findZ by PySem.W.S.findZ_eq
name_quick tw13385558918117058561 for PySem.W.S.findZ by PySem.W.S.findZ_eq
name_quick tw7933485763601977624 for PySem.W.S.findZ by PySem.W.S.findZ_eq
name_quick tw7212858340449540239 for PySem.W.S.findZ by PySem.W.S.findZ_eq
name_quick tw514280064592716601 for PySem.W.S.findZ by PySem.W.S.findZ_eq
name_quick tw17691633702590694504 for PySem.W.S.findZ by PySem.W.S.findZ_eq
name_quick tw8432719020341155521 for PySem.W.S.findZ by PySem.W.S.findZ_eq
name_quick tw3419001889969749887 for PySem.W.S.findZ by PySem.W.S.findZ_eq
name_quick tw1835071406663858368 for PySem.W.S.findZ by PySem.W.S.findZ_eq
name_quick tw17267597263503486738 for PySem.W.S.findZ by PySem.W.S.findZ_eq
name_quick tw6216382948874008006 for PySem.W.S.findZ by PySem.W.S.findZ_eq
name_quick tw7001957589650049515 for PySem.W.S.findZ by PySem.W.S.findZ_eq
name_quick tw17260811203177919210 for PySem.W.S.findZ by PySem.W.S.findZ_eq
name_quick tw8060666987683057360 for PySem.W.S.findZ by PySem.W.S.findZ_eq
name_quick tw523537741815420091 for PySem.W.S.findZ by PySem.W.S.findZ_eq
name_quick tw16053306600634468012 for PySem.W.S.findZ by PySem.W.S.findZ_eq
name_quick tw3985964047577975286 for PySem.W.S.findZ by PySem.W.S.findZ_eq
name_quick tw7217548393331319763 for PySem.W.S.findZ by PySem.W.S.findZ_eq
name_quick tw3543459598558145280 for PySem.W.S.findZ by PySem.W.S.findZ_eq
name_quick tw17062427158221528723 for PySem.W.S.findZ by PySem.W.S.findZ_eq
name_quick tw10792498714594961201 for PySem.W.S.findZ by PySem.W.S.findZ_eq
name_quick tw2400638427578300857 for PySem.W.S.findZ by PySem.W.S.findZ_eq
name_quick tw8480184845173159842 for PySem.W.S.findZ by PySem.W.S.findZ_eq
name_quick tw3239113980409921550 for PySem.W.S.findZ by PySem.W.S.findZ_eq
name_quick tw18101783494082082527 for PySem.W.S.findZ by PySem.W.S.findZ_eq
name_quick tw14842496431369740429 for PySem.W.S.findZ by PySem.W.S.findZ_eq
name_quick tw9919008367099125623 for PySem.W.S.findZ by PySem.W.S.findZ_eq
name_quick tw4884199854448574 for PySem.W.S.findZ by PySem.W.S.findZ_eq
name_quick tw10016166984437732892 for PySem.W.S.findZ by PySem.W.S.findZ_eq
name_quick tw5438652380644606353 for PySem.W.S.findZ by PySem.W.S.findZ_eq
name_quick tw6549852094080907030 for PySem.W.S.findZ by PySem.W.S.findZ_eq
name_quick tw2646887283097553488 for PySem.W.S.findZ by PySem.W.S.findZ_eq
name_quick tw16864618592142003386 for PySem.W.S.findZ by PySem.W.S.findZ_eq
name_quick tw5498123283257192965 for PySem.W.S.findZ by PySem.W.S.findZ_eq
name_quick tw14226173905949225808 for PySem.W.S.findZ by PySem.W.S.findZ_eq
name_quick tw14703100239697439463 for PySem.W.S.findZ by PySem.W.S.findZ_eq
name_quick tw14424681132571578402 for PySem.W.S.findZ by PySem.W.S.findZ_eq
name_quick tw2353497105660221152 for PySem.W.S.findZ by PySem.W.S.findZ_eq
name_quick tw3641951560692057861 for PySem.W.S.findZ by PySem.W.S.findZ_eq
name_quick tw2483420100392427323 for PySem.W.S.findZ by PySem.W.S.findZ_eq
name_quick tw2950685276103557050 for PySem.W.S.findZ by PySem.W.S.findZ_eq
name_quick tw13810262117814702294 for PySem.W.S.findZ by PySem.W.S.findZ_eq
name_quick tw16409965706819354750 for PySem.W.S.findZ by PySem.W.S.findZ_eq
name_quick tw2295934692909999376 for PySem.W.S.findZ by PySem.W.S.findZ_eq
name_quick tw2789304352393801511 for PySem.W.S.findZ by PySem.W.S.findZ_eq
name_quick tw11564986514327137767 for PySem.W.S.findZ by PySem.W.S.findZ_eq
name_quick tw11766667032028208565 for PySem.W.S.findZ by PySem.W.S.findZ_eq
name_quick tw17187875760726034783 for PySem.W.S.findZ by PySem.W.S.findZ_eq
name_quick tw5444512763150141072 for PySem.W.S.findZ by PySem.W.S.findZ_eq
name_quick tw11898673842065290130 for PySem.W.S.findZ by PySem.W.S.findZ_eq
name_quick tw5702276774652866934 for PySem.W.S.findZ by PySem.W.S.findZ_eq
name_quick tw3042748168174471775 for PySem.W.S.findZ by PySem.W.S.findZ_eq
name_quick tw16279288168775177219 for PySem.W.S.findZ by PySem.W.S.findZ_eq
name_quick tw1883925188791702583 for PySem.W.S.findZ by PySem.W.S.findZ_eq
name_quick tw8848883599706297848 for PySem.W.S.findZ by PySem.W.S.findZ_eq
name_quick tw1810505731646096427 for PySem.W.S.findZ by PySem.W.S.findZ_eq
name_quick tw8997383693586321770 for PySem.W.S.findZ by PySem.W.S.findZ_eq
name_quick tw16234351263512624645 for PySem.W.S.findZ by PySem.W.S.findZ_eq
name_quick tw16958261663241714609 for PySem.W.S.findZ by PySem.W.S.findZ_eq
name_quick tw3998647374267775353 for PySem.W.S.findZ by PySem.W.S.findZ_eq
name_quick tw12652432740844512721 for PySem.W.S.findZ by PySem.W.S.findZ_eq
name_quick tw6164951957248312632 for PySem.W.S.findZ by PySem.W.S.findZ_eq
name_quick tw5543438740188009985 for PySem.W.S.findZ by PySem.W.S.findZ_eq
name_quick tw12428158363243832775 for PySem.W.S.findZ by PySem.W.S.findZ_eq
name_quick tw15132458516325018785 for PySem.W.S.findZ by PySem.W.S.findZ_eq
name_quick tw10374632558016547081 for PySem.W.S.findZ by PySem.W.S.findZ_eq
name_quick tw3065219299181827589 for PySem.W.S.findZ by PySem.W.S.findZ_eq
name_quick tw1711978525486605378 for PySem.W.S.findZ by PySem.W.S.findZ_eq
name_quick tw201770750228116641 for PySem.W.S.findZ by PySem.W.S.findZ_eq
name_quick tw7774113678449685934 for PySem.W.S.findZ by PySem.W.S.findZ_eq
set_option maxHeartbeats 8000000 in
open_top hd for PySem.Challenge.rw_ba0047_01
namespace Mine
/-- the head leaves the walker at the top -/
theorem top_off : True := by
  w_top off
  trivial
/-! what the law's helpers compute, in plain Lean -/
noncomputable def chase (row : List Nat) (k : Nat) : Nat → List Int → Nat → List Int
  | 0, r, _ => r
  | f + 1, r, p => if r.getD p 0 < 0 then chase row k f (r.set p (k : Int)) (row.getD p 0) else r
noncomputable def ringsF (row : List Nat) : List Int := (List.range row.length).foldl (fun r k => chase row k row.length r k) (List.replicate row.length (-1))
noncomputable def negs (r : List Int) : Nat := r.countP (fun x => decide (x < 0))
theorem negs_le (r : List Int) : negs r ≤ r.length := List.countP_le_length
theorem negs_set : ∀ {r : List Int} {p : Nat} {x : Int} {k : Nat}, r[p]? = some x → x < 0 → negs r = negs (r.set p (k : Int)) + 1
  | [], _, _, _, h, _ => by simp at h
  | y :: r, 0, x, k, h, hx => by
    simp only [List.getElem?_cons_zero, Option.some.injEq] at h
    subst h
    simp only [negs, List.set_cons_zero, List.countP_cons, decide_eq_true_eq, hx, if_true]
    have : ¬ ((k : Int) < 0) := by omega
    simp [this]
  | y :: r, p + 1, x, k, h, hx => by
    simp only [List.getElem?_cons_succ] at h
    have ih := negs_set (k := k) h hx
    simp only [negs, List.set_cons_succ, List.countP_cons] at ih ⊢
    omega
theorem negs_pos {r : List Int} {p : Nat} {x : Int} (h : r[p]? = some x) (hx : x < 0) : 0 < negs r := by
  rw [negs_set (k := 0) h hx]; omega
theorem chase_length (row : List Nat) (k : Nat) : ∀ f r p, (chase row k f r p).length = r.length
  | 0, _, _ => rfl
  | f + 1, r, p => by
    unfold chase
    split
    · rw [chase_length, List.length_set]
    · rfl
theorem chase_stop {row : List Nat} {k f : Nat} {r : List Int} {p : Nat} {x : Int} (h : r[p]? = some x) (hx : ¬ x < 0) : chase row k f r p = r := by
  cases f with
  | zero => rfl
  | succ f =>
    unfold chase
    rw [List.getD_eq_getElem?_getD, h]
    simp [hx]
theorem chase_go {row : List Nat} {k f : Nat} {r : List Int} {p q : Nat} {x : Int} (h : r[p]? = some x) (hx : x < 0) (hq : row[p]? = some q) : chase row k (f + 1) r p = chase row k f (r.set p (k : Int)) q := by
  rw [chase, List.getD_eq_getElem?_getD, h, List.getD_eq_getElem?_getD, hq]
  simp [hx]
theorem foldl_range_succ {α : Type} (g : α → Nat → α) (z : α) (i : Nat) : (List.range (i + 1)).foldl g z = g ((List.range i).foldl g z) i := by
  rw [List.range_succ, List.foldl_append]; rfl
theorem ringsF_length (row : List Nat) : (ringsF row).length = row.length := by
  have : ∀ (l : List Nat) (r : List Int), (l.foldl (fun r k => chase row k row.length r k) r).length = r.length := by
    intro l
    induction l with
    | nil => intro r; rfl
    | cons a l ih => intro r; rw [List.foldl_cons, ih, chase_length]
  unfold ringsF
  rw [this, List.length_replicate]

/-! the parts: label of the other's part turned to that of k's -/
noncomputable def oppN (k : Nat) : Nat := k + 1 - k % 2 * 2
noncomputable def relab (ps : List Nat) (k j : Nat) : List Nat := ps.map fun q => if q = ps.getD j 0 then ps.getD k 0 else q
noncomputable def partsTo (row : List Nat) (i : Nat) : List Nat := (List.range i).foldl (fun ps k => relab (relab ps k (row.getD k 0)) k (oppN k)) (List.range row.length)
theorem relab_length (ps : List Nat) (k j : Nat) : (relab ps k j).length = ps.length := List.length_map _
theorem relab_same {ps : List Nat} {k j : Nat} (h : ps.getD k 0 = ps.getD j 0) : relab ps k j = ps := by
  unfold relab
  rw [h]
  conv => rhs; rw [← List.map_id ps]
  refine List.map_congr_left fun q _ => ?_
  show (if q = _ then _ else q) = q
  split
  · rename_i e; exact e.symm
  · rfl
theorem partsTo_length (row : List Nat) (i : Nat) : (partsTo row i).length = row.length := by
  induction i with
  | zero => exact List.length_range
  | succ i ih => unfold partsTo at ih ⊢; rw [foldl_range_succ, relab_length, relab_length, ih]
theorem oppN_int (k : Nat) : ((oppN k : Nat) : Int) = (k : Int) + 1 - (k : Int) % 2 * 2 := by unfold oppN; omega
theorem oppN_lt {k n : Nat} (h : k < n) (he : n % 2 = 0) : oppN k < n := by unfold oppN; omega

/-! the links, in plain Lean -/
section
variable {ι : Type}
noncomputable def put (o : ι → ι) (k v : ι) : ι → ι := fun i => @ite _ (i = k) (Classical.propDecidable _) v (o i)
theorem put_self (o : ι → ι) (k v : ι) : put o k v k = v := by unfold put; rw [if_pos rfl]
theorem put_ne (o : ι → ι) {k i : ι} (v : ι) (h : i ≠ k) : put o k v i = o i := by unfold put; rw [if_neg h]
/-- what splice makes of the links -/
noncomputable abbrev spl (R o : ι → ι) (i j : ι) : ι → ι :=
  put (put (put (put o i (o j)) j (o i)) (R (o i)) (put (put o i (o j)) j (o i) (R (o j)))) (R (o j)) (put (put o i (o j)) j (o i) (R (o i)))

/-- what delete makes of the links -/
noncomputable abbrev dele (R o : ι → ι) (k : ι) : ι → ι :=
  spl R (spl R o k (R (o (R k)))) (R (R k)) (R (spl R o k (R (o (R k))) (R (R (R k)))))
end
noncomputable abbrev rot4 (i : Fin 4) : Fin 4 := match i with | 0 => 1 | 1 => 2 | 2 => 3 | 3 => 0
noncomputable abbrev ini4 (i : Fin 4) : Fin 4 := match i with | 0 => 0 | 1 => 3 | 2 => 2 | 3 => 1
noncomputable def ddp (l : List Nat) : List Nat := l.foldl (fun a x => if x ∈ a then a else a ++ [x]) []
theorem mem_ddp_iff (x : Nat) : ∀ (l a : List Nat), x ∈ l.foldl (fun a x => if x ∈ a then a else a ++ [x]) a ↔ x ∈ a ∨ x ∈ l
  | [], a => by simp
  | y :: l, a => by
    rw [List.foldl_cons, mem_ddp_iff x l]
    split
    · rename_i h
      constructor
      · rintro (h1 | h1)
        · exact .inl h1
        · exact .inr (.tail _ h1)
      · rintro (h1 | h1)
        · exact .inl h1
        · rcases List.mem_cons.mp h1 with rfl | h2
          · exact .inl h
          · exact .inr h2
    · rw [List.mem_append, List.mem_singleton, List.mem_cons, or_assoc]
theorem mem_ddp {x : Nat} {l : List Nat} (h : x ∈ ddp l) : x ∈ l := by
  rcases (mem_ddp_iff x l []).mp h with h | h
  · cases h
  · exact h
noncomputable def ownF (ps : List Nat) (n c : Nat) : List Nat := (List.range n).filter fun k => decide (ps.getD k 0 = c)
noncomputable def evenB (rg fc ps : List Nat) (n c : Nat) : Prop :=
  ((ddp ((ownF ps n c).map fun k => rg.getD k 0)).length + (ddp ((ownF ps n c).map fun k => fc.getD k 0)).length + (ownF ps n c).length / 2) % 2 = 0 ∧
    (ddp ((ownF ps n c).map fun k => rg.getD k 0)).length + (ddp ((ownF ps n c).map fun k => fc.getD k 0)).length ≤ 2 + (ownF ps n c).length / 2

section
variable (P : Params)
theorem hasD : hasDictIn (hd.heap_39 P) 156 = true := by kernel_rfl
theorem ngN : noGet (hd.heap_39 P) none = true := by kernel_rfl
theorem pg_context : plainGet (hd.heap_39 P) 156 (Str.ofString "context") = true := by kernel_rfl
theorem fi_context : findIn (hd.heap_39 P) (.ref 156) (Str.ofString "context") = some (some (.ref 46)) := by kernel_rfl
theorem sp_context : specialIn (hd.heap_39 P) (.ref 46) "__get__" = some (some (.builtin "property.__get__")) := by kernel_rfl
theorem tk_context : takesIn (hd.heap_39 P) (.ref 46) = some true := by kernel_rfl
theorem rc_context : ∃ rest, recIn (hd.heap_39 P) 46 "property" = some (.ref 45 :: rest) := ⟨_, rfl⟩
theorem ci_context : codeIn (hd.heap_39 P) (.ref 44) (Str.ofString "QuadEdge.context") = true := by kernel_rfl
theorem pg_end : plainGet (hd.heap_39 P) 156 (Str.ofString "end") = true := by kernel_rfl
theorem fi_end : findIn (hd.heap_39 P) (.ref 156) (Str.ofString "end") = some (some (.ref 54)) := by kernel_rfl
theorem sp_end : specialIn (hd.heap_39 P) (.ref 54) "__get__" = some (some (.builtin "property.__get__")) := by kernel_rfl
theorem tk_end : takesIn (hd.heap_39 P) (.ref 54) = some true := by kernel_rfl
theorem rc_end : ∃ rest, recIn (hd.heap_39 P) 54 "property" = some (.ref 53 :: rest) := ⟨_, rfl⟩
theorem ci_end : codeIn (hd.heap_39 P) (.ref 52) (Str.ofString "QuadEdge.end") = true := by kernel_rfl
theorem pg_left_from_end : plainGet (hd.heap_39 P) 156 (Str.ofString "left_from_end") = true := by kernel_rfl
theorem fi_left_from_end : findIn (hd.heap_39 P) (.ref 156) (Str.ofString "left_from_end") = some (some (.ref 62)) := by kernel_rfl
theorem sp_left_from_end : specialIn (hd.heap_39 P) (.ref 62) "__get__" = some (some (.builtin "property.__get__")) := by kernel_rfl
theorem tk_left_from_end : takesIn (hd.heap_39 P) (.ref 62) = some true := by kernel_rfl
theorem rc_left_from_end : ∃ rest, recIn (hd.heap_39 P) 62 "property" = some (.ref 61 :: rest) := ⟨_, rfl⟩
theorem ci_left_from_end : codeIn (hd.heap_39 P) (.ref 60) (Str.ofString "QuadEdge.left_from_end") = true := by kernel_rfl
theorem pg_left_from_start : plainGet (hd.heap_39 P) 156 (Str.ofString "left_from_start") = true := by kernel_rfl
theorem fi_left_from_start : findIn (hd.heap_39 P) (.ref 156) (Str.ofString "left_from_start") = some (some (.ref 70)) := by kernel_rfl
theorem sp_left_from_start : specialIn (hd.heap_39 P) (.ref 70) "__get__" = some (some (.builtin "property.__get__")) := by kernel_rfl
theorem tk_left_from_start : takesIn (hd.heap_39 P) (.ref 70) = some true := by kernel_rfl
theorem rc_left_from_start : ∃ rest, recIn (hd.heap_39 P) 70 "property" = some (.ref 69 :: rest) := ⟨_, rfl⟩
theorem ci_left_from_start : codeIn (hd.heap_39 P) (.ref 68) (Str.ofString "QuadEdge.left_from_start") = true := by kernel_rfl
theorem pg_opposite : plainGet (hd.heap_39 P) 156 (Str.ofString "opposite") = true := by kernel_rfl
theorem fi_opposite : findIn (hd.heap_39 P) (.ref 156) (Str.ofString "opposite") = some (some (.ref 78)) := by kernel_rfl
theorem sp_opposite : specialIn (hd.heap_39 P) (.ref 78) "__get__" = some (some (.builtin "property.__get__")) := by kernel_rfl
theorem tk_opposite : takesIn (hd.heap_39 P) (.ref 78) = some true := by kernel_rfl
theorem rc_opposite : ∃ rest, recIn (hd.heap_39 P) 78 "property" = some (.ref 77 :: rest) := ⟨_, rfl⟩
theorem ci_opposite : codeIn (hd.heap_39 P) (.ref 76) (Str.ofString "QuadEdge.opposite") = true := by kernel_rfl
theorem pg_right_from_start : plainGet (hd.heap_39 P) 156 (Str.ofString "right_from_start") = true := by kernel_rfl
theorem fi_right_from_start : findIn (hd.heap_39 P) (.ref 156) (Str.ofString "right_from_start") = some (some (.ref 94)) := by kernel_rfl
theorem sp_right_from_start : specialIn (hd.heap_39 P) (.ref 94) "__get__" = some (some (.builtin "property.__get__")) := by kernel_rfl
theorem tk_right_from_start : takesIn (hd.heap_39 P) (.ref 94) = some true := by kernel_rfl
theorem rc_right_from_start : ∃ rest, recIn (hd.heap_39 P) 94 "property" = some (.ref 93 :: rest) := ⟨_, rfl⟩
theorem ci_right_from_start : codeIn (hd.heap_39 P) (.ref 92) (Str.ofString "QuadEdge.right_from_start") = true := by kernel_rfl
theorem pg_rotated : plainGet (hd.heap_39 P) 156 (Str.ofString "rotated") = true := by kernel_rfl
theorem fi_rotated : findIn (hd.heap_39 P) (.ref 156) (Str.ofString "rotated") = some (some (.ref 102)) := by kernel_rfl
theorem sp_rotated : specialIn (hd.heap_39 P) (.ref 102) "__get__" = some (some (.builtin "property.__get__")) := by kernel_rfl
theorem tk_rotated : takesIn (hd.heap_39 P) (.ref 102) = some true := by kernel_rfl
theorem rc_rotated : ∃ rest, recIn (hd.heap_39 P) 102 "property" = some (.ref 101 :: rest) := ⟨_, rfl⟩
theorem ci_rotated : codeIn (hd.heap_39 P) (.ref 100) (Str.ofString "QuadEdge.rotated") = true := by kernel_rfl
theorem pg_start : plainGet (hd.heap_39 P) 156 (Str.ofString "start") = true := by kernel_rfl
theorem fi_start : findIn (hd.heap_39 P) (.ref 156) (Str.ofString "start") = some (some (.ref 110)) := by kernel_rfl
theorem sp_start : specialIn (hd.heap_39 P) (.ref 110) "__get__" = some (some (.builtin "property.__get__")) := by kernel_rfl
theorem tk_start : takesIn (hd.heap_39 P) (.ref 110) = some true := by kernel_rfl
theorem rc_start : ∃ rest, recIn (hd.heap_39 P) 110 "property" = some (.ref 109 :: rest) := ⟨_, rfl⟩
theorem ci_start : codeIn (hd.heap_39 P) (.ref 108) (Str.ofString "QuadEdge.start") = true := by kernel_rfl
theorem pg__context : plainGet (hd.heap_39 P) 156 (Str.ofString "_context") = true := by kernel_rfl
theorem fi__context : findIn (hd.heap_39 P) (.ref 156) (Str.ofString "_context") = some none := by kernel_rfl
theorem tt__context : takerIn (hd.heap_39 P) 156 (Str.ofString "_context") = some none := by kernel_rfl
theorem pg__left_from_start : plainGet (hd.heap_39 P) 156 (Str.ofString "_left_from_start") = true := by kernel_rfl
theorem fi__left_from_start : findIn (hd.heap_39 P) (.ref 156) (Str.ofString "_left_from_start") = some none := by kernel_rfl
theorem tt__left_from_start : takerIn (hd.heap_39 P) 156 (Str.ofString "_left_from_start") = some none := by kernel_rfl
theorem pg__rotated : plainGet (hd.heap_39 P) 156 (Str.ofString "_rotated") = true := by kernel_rfl
theorem fi__rotated : findIn (hd.heap_39 P) (.ref 156) (Str.ofString "_rotated") = some none := by kernel_rfl
theorem tt__rotated : takerIn (hd.heap_39 P) 156 (Str.ofString "_rotated") = some none := by kernel_rfl
theorem pg__start : plainGet (hd.heap_39 P) 156 (Str.ofString "_start") = true := by kernel_rfl
theorem fi__start : findIn (hd.heap_39 P) (.ref 156) (Str.ofString "_start") = some none := by kernel_rfl
theorem tt__start : takerIn (hd.heap_39 P) 156 (Str.ofString "_start") = some none := by kernel_rfl
theorem pg_connect : plainGet (hd.heap_39 P) 156 (Str.ofString "connect") = true := by kernel_rfl
theorem fi_connect : findIn (hd.heap_39 P) (.ref 156) (Str.ofString "connect") = some (some (.ref 125)) := by kernel_rfl
theorem fn_connect : isFn (hd.heap_39 P) (.ref 125) = true := by kernel_rfl
theorem ci_connect : codeIn (hd.heap_39 P) (.ref 124) (Str.ofString "QuadEdge.connect") = true := by kernel_rfl
theorem kp_connect : keepIn (hd.heap_39 P) (.ref 125) = true := by kernel_rfl
theorem pg_delete : plainGet (hd.heap_39 P) 156 (Str.ofString "delete") = true := by kernel_rfl
theorem fi_delete : findIn (hd.heap_39 P) (.ref 156) (Str.ofString "delete") = some (some (.ref 132)) := by kernel_rfl
theorem fn_delete : isFn (hd.heap_39 P) (.ref 132) = true := by kernel_rfl
theorem ci_delete : codeIn (hd.heap_39 P) (.ref 131) (Str.ofString "QuadEdge.delete") = true := by kernel_rfl
theorem kp_delete : keepIn (hd.heap_39 P) (.ref 132) = true := by kernel_rfl
theorem pg_splice : plainGet (hd.heap_39 P) 156 (Str.ofString "splice") = true := by kernel_rfl
theorem fi_splice : findIn (hd.heap_39 P) (.ref 156) (Str.ofString "splice") = some (some (.ref 146)) := by kernel_rfl
theorem fn_splice : isFn (hd.heap_39 P) (.ref 146) = true := by kernel_rfl
theorem ci_splice : codeIn (hd.heap_39 P) (.ref 145) (Str.ofString "QuadEdge.splice") = true := by kernel_rfl
theorem kp_splice : keepIn (hd.heap_39 P) (.ref 146) = true := by kernel_rfl
theorem fi_setattr : findIn (hd.heap_39 P) (.ref 156) "__setattr__" = some (some (.builtin "object.__setattr__")) := by kernel_rfl
theorem po : plainOver (hd.heap_39 P) 156 = true := by kernel_rfl
theorem gl_QuadEdge : nsIn (hd.heap_39 P) mainGlobals (Str.ofString "QuadEdge") = some (some (.ref 156)) := by kernel_rfl
theorem gl_Point : nsIn (hd.heap_39 P) mainGlobals (Str.ofString "Point") = some (some (.ref 271)) := by kernel_rfl
theorem gl_Context : nsIn (hd.heap_39 P) mainGlobals (Str.ofString "Context") = some (some (.ref 326)) := by kernel_rfl
theorem gl__law_place : nsIn (hd.heap_39 P) mainGlobals (Str.ofString "_law_place") = some (some (.ref 337)) := by kernel_rfl
theorem gl__law_rows : nsIn (hd.heap_39 P) mainGlobals (Str.ofString "_law_rows") = some (some (.ref 342)) := by kernel_rfl
theorem gl__law_rings : nsIn (hd.heap_39 P) mainGlobals (Str.ofString "_law_rings") = some (some (.ref 347)) := by kernel_rfl
theorem gl__law_even : nsIn (hd.heap_39 P) mainGlobals (Str.ofString "_law_even") = some (some (.ref 352)) := by kernel_rfl
theorem gl_len : nsIn (hd.heap_39 P) mainGlobals (Str.ofString "len") = some none := by kernel_rfl
theorem gl_range : nsIn (hd.heap_39 P) mainGlobals (Str.ofString "range") = some none := by kernel_rfl
theorem gl_sorted : nsIn (hd.heap_39 P) mainGlobals (Str.ofString "sorted") = some none := by kernel_rfl
theorem gl_set : nsIn (hd.heap_39 P) mainGlobals (Str.ofString "set") = some none := by kernel_rfl
theorem ci__law_place : codeIn (hd.heap_39 P) (.ref 336) (Str.ofString "_law_place") = true := by kernel_rfl
theorem kp__law_place : keepIn (hd.heap_39 P) (.ref 337) = true := by kernel_rfl
theorem ci__law_rows : codeIn (hd.heap_39 P) (.ref 341) (Str.ofString "_law_rows") = true := by kernel_rfl
theorem kp__law_rows : keepIn (hd.heap_39 P) (.ref 342) = true := by kernel_rfl
theorem ci__law_rings : codeIn (hd.heap_39 P) (.ref 346) (Str.ofString "_law_rings") = true := by kernel_rfl
theorem kp__law_rings : keepIn (hd.heap_39 P) (.ref 347) = true := by kernel_rfl
theorem ci__law_even : codeIn (hd.heap_39 P) (.ref 351) (Str.ofString "_law_even") = true := by kernel_rfl
theorem kp__law_even : keepIn (hd.heap_39 P) (.ref 352) = true := by kernel_rfl
theorem mk_QuadEdge : makesIn (hd.heap_39 P) 156 = true := by kernel_rfl
theorem fi___init__ : findIn (hd.heap_39 P) (.ref 156) "__init__" = some (some (.ref 118)) := by kernel_rfl
theorem fn___init__ : isFn (hd.heap_39 P) (.ref 118) = true := by kernel_rfl
theorem ci___init__ : codeIn (hd.heap_39 P) (.ref 117) (Str.ofString "QuadEdge.__init__") = true := by kernel_rfl
theorem kp_QuadEdge : keepIn (hd.heap_39 P) (.ref 156) = true := by kernel_rfl
theorem ci_from_endpoints : codeIn (hd.heap_39 P) (.ref 34) (Str.ofString "QuadEdge.from_endpoints") = true := by kernel_rfl
theorem sg_QuadEdge : specialIn (hd.heap_39 P) (.ref 156) "__getattribute__" = some (some (.builtin "type.__getattribute__")) := by kernel_rfl
theorem ti_QuadEdge : typeIn (hd.heap_39 P) (.ref 156) = some (.type "type") := by kernel_rfl
theorem rd_QuadEdge : readsIn (hd.heap_39 P) 156 (.type "type") = true := by kernel_rfl
theorem fc_from_endpoints : findCls (hd.heap_39 P) (.ref 156) (.type "type") (Str.ofString "from_endpoints") = some (.get (.builtin "classmethod.__get__") (.ref 37) .none (.ref 156)) := by kernel_rfl
theorem rc_from_endpoints : recIn (hd.heap_39 P) 37 "classmethod" = some (.ref 35 :: [.bool false]) := rfl
theorem fn_from_endpoints : fnIn (hd.heap_39 P) 35 = true := by kernel_rfl
theorem pg_from_endpoints : plainGet (hd.heap_39 P) 156 (Str.ofString "from_endpoints") = true := by kernel_rfl
theorem fi_from_endpoints : findIn (hd.heap_39 P) (.ref 156) (Str.ofString "from_endpoints") = some (some (.ref 37)) := by kernel_rfl
theorem ti_from_endpoints : typeIn (hd.heap_39 P) (.ref 37) = some (.type "classmethod") := by kernel_rfl
theorem sp_from_endpoints : specialIn (hd.heap_39 P) (.ref 37) "__get__" = some (some (.builtin "classmethod.__get__")) := by kernel_rfl
theorem tk_from_endpoints : takesIn (hd.heap_39 P) (.ref 37) = some false := by kernel_rfl
end

noncomputable abbrev qd (h1 h2 h3 h4 : Int) (t1 t2 t3 t4 : Tok) (cx lf ro st : Value) : Obj :=
  dictOf [⟨h1, .str (Str.ofString "_context") t1, cx⟩, ⟨h2, .str (Str.ofString "_left_from_start") t2, lf⟩, ⟨h3, .str (Str.ofString "_rotated") t3, ro⟩, ⟨h4, .str (Str.ofString "_start") t4, st⟩] 4

inductive Qd (news : List (Addr × Obj)) (d : Addr) (cx lf ro st : Value) : Prop
  | mk (h1 h2 h3 h4 : Int) (t1 t2 t3 t4 : Tok) (e : (d, qd h1 h2 h3 h4 t1 t2 t3 t4 cx lf ro st) ∈ news) : Qd news d cx lf ro st
structure QE {ι : Type} (news : List (Addr × Obj)) (ad dd : ι → Addr) (R o : ι → ι) (cx : Value) (st : ι → Value) : Prop where
  inst : ∀ k, (ad k, instObj 156 (dd k)) ∈ news
  dict : ∀ k, Qd news (dd k) cx (.ref (ad (o k))) (.ref (ad (R k))) (st k)
  inj : ∀ i j, ad i = ad j → i = j
  dinj : ∀ i j, dd i = dd j → i = j

theorem QE.sub {ι : Type} {news news' : List (Addr × Obj)} {ad dd : ι → Addr} {R o : ι → ι} {cx : Value} {st : ι → Value} (q : QE news ad dd R o cx st) (h : ∀ p ∈ news, p ∈ news') : QE news' ad dd R o cx st :=
  ⟨fun k => h _ (q.inst k), fun k => let ⟨h1, h2, h3, h4, t1, t2, t3, t4, e⟩ := q.dict k; ⟨h1, h2, h3, h4, t1, t2, t3, t4, h _ e⟩, q.inj, q.dinj⟩
theorem QE.cons {ι : Type} {news : List (Addr × Obj)} {x : Addr × Obj} {ad dd : ι → Addr} {R o : ι → ι} {cx : Value} {st : ι → Value} (q : QE news ad dd R o cx st) : QE (x :: news) ad dd R o cx st := q.sub fun _ h => .tail _ h

/-- no dict -/
noncomputable def nd (o : Obj) : Bool := match o.data with | .dict _ _ => false | _ => true
noncomputable abbrev Stay (news news' : List (Addr × Obj)) : Prop := ∀ p ∈ news, nd p.2 = true → p ∈ news'

theorem Stay.mem {n n' : List (Addr × Obj)} (s : Stay n n') {p : Addr × Obj} (h : p ∈ n) (c : nd p.2 = true) : p ∈ n' := s p h c
theorem Sub.mem {n n' : List (Addr × Obj)} (s : ∀ p ∈ n, p ∈ n') {p : Addr × Obj} (h : p ∈ n) : p ∈ n' := s p h
theorem nd_cell {o : Obj} {v : Option Value} (h : o.data = .cell v) : nd o = true := by unfold nd; rw [h]
/-- no cell -/
noncomputable def nc (o : Obj) : Bool := match o.data with | .cell _ => false | _ => true
noncomputable def StayC (n n' : List (Addr × Obj)) : Prop := ∀ p ∈ n, nc p.2 = true → p ∈ n'
theorem StayC.mem {n n' : List (Addr × Obj)} (s : StayC n n') {p : Addr × Obj} (h : p ∈ n) (c : nc p.2 = true) : p ∈ n' := s p h c
theorem QE.stayC {ι : Type} {news news' : List (Addr × Obj)} {ad dd : ι → Addr} {R o : ι → ι} {cx : Value} {st : ι → Value} (s : StayC news news') (q : QE news ad dd R o cx st) : QE news' ad dd R o cx st :=
  ⟨fun k => s _ (q.inst k) rfl, fun k => let ⟨h1, h2, h3, h4, t1, t2, t3, t4, e⟩ := q.dict k; ⟨h1, h2, h3, h4, t1, t2, t3, t4, s _ e rfl⟩, q.inj, q.dinj⟩
/-- neither a dict nor a cell -/
noncomputable def StayB (n n' : List (Addr × Obj)) : Prop := ∀ p ∈ n, nd p.2 = true → nc p.2 = true → p ∈ n'
theorem StayB.mem {n n' : List (Addr × Obj)} (s : StayB n n') {p : Addr × Obj} (h : p ∈ n) (c : nd p.2 = true) (d : nc p.2 = true) : p ∈ n' := s p h c d
/-! cheap reasons why two addresses are not the same (a word-problem's proof is four times as large) -/
theorem cj0 {p0 p1 : Prop} (h : p0 ∧ p1) : p0 := h.1
theorem cj1 {p0 p1 p2 : Prop} (h : p0 ∧ p1 ∧ p2) : p1 := h.2.1
theorem cj2 {p0 p1 p2 p3 : Prop} (h : p0 ∧ p1 ∧ p2 ∧ p3) : p2 := h.2.2.1
theorem cj3 {p0 p1 p2 p3 p4 : Prop} (h : p0 ∧ p1 ∧ p2 ∧ p3 ∧ p4) : p3 := h.2.2.2.1
theorem cj4 {p0 p1 p2 p3 p4 p5 : Prop} (h : p0 ∧ p1 ∧ p2 ∧ p3 ∧ p4 ∧ p5) : p4 := h.2.2.2.2.1
theorem cj5 {p0 p1 p2 p3 p4 p5 p6 : Prop} (h : p0 ∧ p1 ∧ p2 ∧ p3 ∧ p4 ∧ p5 ∧ p6) : p5 := h.2.2.2.2.2.1
theorem cj6 {p0 p1 p2 p3 p4 p5 p6 p7 : Prop} (h : p0 ∧ p1 ∧ p2 ∧ p3 ∧ p4 ∧ p5 ∧ p6 ∧ p7) : p6 := h.2.2.2.2.2.2.1
theorem cj7 {p0 p1 p2 p3 p4 p5 p6 p7 p8 : Prop} (h : p0 ∧ p1 ∧ p2 ∧ p3 ∧ p4 ∧ p5 ∧ p6 ∧ p7 ∧ p8) : p7 := h.2.2.2.2.2.2.2.1
theorem cj8 {p0 p1 p2 p3 p4 p5 p6 p7 p8 p9 : Prop} (h : p0 ∧ p1 ∧ p2 ∧ p3 ∧ p4 ∧ p5 ∧ p6 ∧ p7 ∧ p8 ∧ p9) : p8 := h.2.2.2.2.2.2.2.2.1
theorem cj9 {p0 p1 p2 p3 p4 p5 p6 p7 p8 p9 p10 : Prop} (h : p0 ∧ p1 ∧ p2 ∧ p3 ∧ p4 ∧ p5 ∧ p6 ∧ p7 ∧ p8 ∧ p9 ∧ p10) : p9 := h.2.2.2.2.2.2.2.2.2.1
theorem cj10 {p0 p1 p2 p3 p4 p5 p6 p7 p8 p9 p10 p11 : Prop} (h : p0 ∧ p1 ∧ p2 ∧ p3 ∧ p4 ∧ p5 ∧ p6 ∧ p7 ∧ p8 ∧ p9 ∧ p10 ∧ p11) : p10 := h.2.2.2.2.2.2.2.2.2.2.1
theorem cj11 {p0 p1 p2 p3 p4 p5 p6 p7 p8 p9 p10 p11 p12 : Prop} (h : p0 ∧ p1 ∧ p2 ∧ p3 ∧ p4 ∧ p5 ∧ p6 ∧ p7 ∧ p8 ∧ p9 ∧ p10 ∧ p11 ∧ p12) : p11 := h.2.2.2.2.2.2.2.2.2.2.2.1
theorem cl1 {p0 p1 : Prop} (h : p0 ∧ p1) : p1 := h.2
theorem cl2 {p0 p1 p2 : Prop} (h : p0 ∧ p1 ∧ p2) : p2 := h.2.2
theorem cl3 {p0 p1 p2 p3 : Prop} (h : p0 ∧ p1 ∧ p2 ∧ p3) : p3 := h.2.2.2
theorem cl4 {p0 p1 p2 p3 p4 : Prop} (h : p0 ∧ p1 ∧ p2 ∧ p3 ∧ p4) : p4 := h.2.2.2.2
theorem of1 (a : Nat) : a ≠ a + 1 := fun e => by omega
theorem fo1 (a : Nat) : a + 1 ≠ a := fun e => by omega
theorem of2 (a : Nat) : a ≠ a + 1 + 1 := fun e => by omega
theorem fo2 (a : Nat) : a + 1 + 1 ≠ a := fun e => by omega
theorem of3 (a : Nat) : a ≠ a + 1 + 1 + 1 := fun e => by omega
theorem fo3 (a : Nat) : a + 1 + 1 + 1 ≠ a := fun e => by omega
theorem of4 (a : Nat) : a ≠ a + 1 + 1 + 1 + 1 := fun e => by omega
theorem fo4 (a : Nat) : a + 1 + 1 + 1 + 1 ≠ a := fun e => by omega
theorem of5 (a : Nat) : a ≠ a + 1 + 1 + 1 + 1 + 1 := fun e => by omega
theorem fo5 (a : Nat) : a + 1 + 1 + 1 + 1 + 1 ≠ a := fun e => by omega
theorem of6 (a : Nat) : a ≠ a + 1 + 1 + 1 + 1 + 1 + 1 := fun e => by omega
theorem fo6 (a : Nat) : a + 1 + 1 + 1 + 1 + 1 + 1 ≠ a := fun e => by omega
theorem nx1 {x : Int} {k a : Nat} (h : x < (k : Int)) (h2 : a ≤ k ∧ k ≤ 12) : x < 2 ^ 63 := by omega
theorem nx2 {x : Int} {k a : Nat} (h : x < (k : Int)) (h2 : a ≤ k ∧ k ≤ 12) : x < 1000 := by omega
theorem nx3 {k a m : Nat} (h2 : a ≤ k ∧ k ≤ 12) (hm : 12 ≤ m) : k ≤ m := by omega
theorem nx4 {x k a m : Nat} (h : x = k) (h2 : a ≤ k ∧ k ≤ 12) (hm : 12 ≤ m) : x ≤ m := by omega
theorem nx5 {i n : Nat} (h : i < n) (h2 : n ≤ 12) : (i : Int) < 2 ^ 63 := by omega
theorem nx6 {i n k : Nat} (h : i < n) (e : k = n) : i < k := e ▸ h
theorem nx7 {i n m : Nat} (h : i ≤ n) (h2 : n ≤ 12) (hm : 12 ≤ m) : i ≤ m := by omega
theorem nx8 {i n k m : Nat} (e : k = i) (h : i ≤ n) (h2 : n ≤ 12) (hm : 12 ≤ m) : k ≤ m := by omega
theorem nx9 {k a : Nat} (h2 : a ≤ k ∧ k ≤ 12) (ha : 0 < a) : 0 < k := by omega
local macro_rules | `(tactic| ktr_units) => `(tactic| ((try simp only [units_in1, units_deeper, Around.mark_units, units_caller]); (try dsimp only [ktrTop]); decide))
local macro_rules | `(tactic| ktr_room) => `(tactic| ((try simp only [depth_under_make, depth_under_kw, depth_in1, depth_deeper, depth_caller]); (try dsimp only [ktrTop]); decide))
local macro_rules | `(tactic| walk_at "mO") => `(tactic| first | (with_reducible first | assumption | exact Int.natCast_nonneg _ | exact nx6 (by assumption) (by assumption) | exact nx3 (by assumption) (by decide) | exact nx4 (by assumption) (by assumption) (by decide) | exact nx1 (by assumption) (by assumption) | exact nx2 (by assumption) (by assumption) | exact nx5 (by assumption) (by assumption) | exact nx7 (by assumption) (by assumption) (by decide) | exact nx8 (by assumption) (by assumption) (by assumption) (by decide) | exact nx9 (by assumption) (by decide)) | omega)
local macro_rules | `(tactic| walk_at "mD") => `(tactic| with_reducible first | assumption | exact cj0 (by assumption) | exact cj1 (by assumption) | exact cj2 (by assumption) | exact cj3 (by assumption) | exact cj4 (by assumption) | exact cj5 (by assumption) | exact cj6 (by assumption) | exact cj7 (by assumption) | exact cj8 (by assumption) | exact cj9 (by assumption) | exact cj10 (by assumption) | exact cj11 (by assumption) | exact cl1 (by assumption) | exact cl2 (by assumption) | exact cl3 (by assumption) | exact cl4 (by assumption))
local macro_rules | `(tactic| walk_at "mC") => `(tactic| first | (refine Nat.ne_of_lt ?_; walk_at "mD") | (refine Nat.ne_of_gt ?_; walk_at "mD") | walk_at "mD" | (refine Ne.symm ?_; walk_at "mD"))
local macro_rules | `(tactic| k_ne) => `(tactic| (refine neN ?_; (try dsimp only); first | (with_reducible first | exact of1 _ | exact fo1 _ | exact of2 _ | exact fo2 _ | exact of3 _ | exact fo3 _ | exact of4 _ | exact fo4 _ | exact of5 _ | exact fo5 _ | exact of6 _ | exact fo6 _) | walk_at "mC" | fail "k_ne"))
local macro_rules | `(tactic| walk_at "m1") => `(tactic| ((case hA => exact rfl); (case hf => exact rfl); (case hke => first | exact rfl | assumption); (case B => k_asm); (case F => k_asm); (case X₀ => k_asm); (case N => k_asm); (case T => k_asm); (case ho => k_is); (case hcd => k_is); (case hroom => ktr_room)))
local macro_rules | `(tactic| walk_at "m2") => `(tactic| ((case N => k_asm)))
local macro_rules | `(tactic| walk_at "m3") => `(tactic| (intro h' tk' x' dx' h1' h2' h3' h4' t1' t2' t3' t4' F' N' l1 l2; (have l1' := allLt_of l1); (try simp only [AllLt, and_true] at l1'); (replace l2 := ltN l2); (try k_sweep)))
local macro_rules | `(tactic| walk_at "m4") => `(tactic| ((case h0 => walk_at "mO"); (case h1 => walk_at "mO")))
local macro_rules | `(tactic| walk_at "m5") => `(tactic| ((case X => k_asm)))
local macro_rules | `(tactic| walk_at "m6") => `(tactic| ((case hLe => rfl); (case hsw => with_unfolding_all rfl); walk_at "mL"; (case hy => rfl); (case hp => rfl)))
local macro_rules | `(tactic| walk_at "m7") => `(tactic| ((case hlen => kwd_inv)))
local macro_rules | `(tactic| walk_at "m8") => `(tactic| ((case hl => ktd_rel)))
local macro_rules | `(tactic| walk_at "m9") => `(tactic| (walk_at "mA"; walk_at "mE"))
local macro_rules | `(tactic| walk_at "m10") => `(tactic| ((case qs => with_reducible assumption); (case hl => kwd_less); (case hlen => omega); walk_at "mS"))
local macro_rules | `(tactic| walk_at "m11") => `(tactic| (walk_at "m2"; (case hne => assumption); (case h1 => kwd_less); (case h2 => kwd_less)))
local macro_rules | `(tactic| walk_at "m12") => `(tactic| (walk_at "m2"; (case hm => kwd_less)))
local macro_rules | `(tactic| walk_at "m13") => `(tactic| ((case F => k_asm); walk_at "m2"))
local macro_rules | `(tactic| walk_at "m14") => `(tactic| ((case hco => exact rfl); (case hgen => exact rfl); (case hk => exact rfl)))
local macro_rules | `(tactic| walk_at "mA") => `(tactic| (case hA => exact rfl))
local macro_rules | `(tactic| walk_at "mS") => `(tactic| ((case B => k_asm); (case X => k_asm); (case T => k_asm); (case hk => first | exact rfl | assumption); (case hdp => ktr_room); (case hu => ktr_units)))
local macro_rules | `(tactic| walk_at "mE") => `(tactic| ((case F => k_asm); (case N => k_asm); (case q => ktr_rel); (case he => kwd_rel)))
local macro_rules | `(tactic| walk_at "mQ") => `(tactic| ((case F => k_asm); (case N => k_asm); (case q => ktr_rel)))
local macro_rules | `(tactic| walk_at "mH") => `(tactic| ((case hs => with_unfolding_all rfl)))
local macro_rules | `(tactic| walk_at "mL") => `(tactic| ((case F₀ => k_asm); (case hclos => rfl); (case hcell => decide); (case hkind => rfl); (case hnames => decide); (case hx => rfl); (case hs => intro _; rfl)))
local macro_rules | `(tactic| walk_at "mF") => `(tactic| ((case F => k_asm); (case N => k_asm)))
local macro_rules | `(tactic| walk_at "mI") => `(tactic| (intros; (try k_sweep)))
local macro_rules | `(tactic| kp_flats) => `(tactic| first | with_reducible assumption | (refine' QE.cons ?h9; (case h9 => kp_flats)) | (refine' QE.stayC (by with_reducible assumption) ?h9; (case h9 => kp_flats)))
local macro_rules | `(tactic| ktr_rel) => `(tactic| kp_flats)
local macro_rules | `(tactic| kct_strs) => `(tactic| first | with_reducible exact List.mem_cons_self .. | with_reducible assumption | (refine' List.mem_cons_of_mem _ ?h9; (case h9 => kct_strs)) | (refine' Sub.mem (by with_reducible assumption) ?h9; (case h9 => kct_strs)) | (refine' Stay.mem (by with_reducible assumption) ?h9 ?c9; (case h9 => kct_strs); (case c9 => first | exact rfl | with_reducible assumption | exact nd_cell (by with_reducible assumption) | fail "c9")) | (refine' StayC.mem (by with_reducible assumption) ?h9 ?c9; (case h9 => kct_strs); (case c9 => first | exact rfl | with_reducible assumption | fail "c9")) | (refine' StayB.mem (by with_reducible assumption) ?h9 ?c9 ?d9; (case h9 => kct_strs); (case c9 => first | exact rfl | with_reducible assumption | fail "c9"); (case d9 => first | exact rfl | with_reducible assumption | fail "d9")) | exact List.mem_cons_self .. | fail "mem")
local macro_rules | `(tactic| kwd_less) => `(tactic| kct_strs)
local macro_rules | `(tactic| k_room) => `(tactic| ktr_room)
local macro_rules | `(tactic| k_is) => `(tactic| with_reducible first | apply hasD | apply ngN | apply ci_context | apply ci_end | apply ci_left_from_end | apply ci_left_from_start | apply ci_opposite | apply ci_right_from_start | apply ci_rotated | apply ci_start | apply pg__context | apply fi__context | apply tt__context | apply pg__left_from_start | apply fi__left_from_start | apply tt__left_from_start | apply pg__rotated | apply fi__rotated | apply tt__rotated | apply pg__start | apply fi__start | apply tt__start | apply ci_connect | apply kp_connect | apply ci_delete | apply kp_delete | apply ci_splice | apply kp_splice | apply fi_setattr | apply po | apply gl_QuadEdge | apply gl_Point | apply gl_Context | apply gl__law_place | apply gl__law_rows | apply gl__law_rings | apply gl__law_even | apply gl_len | apply gl_range | apply gl_sorted | apply gl_set | apply ci__law_place | apply kp__law_place | apply ci__law_rows | apply kp__law_rows | apply ci__law_rings | apply kp__law_rings | apply ci__law_even | apply kp__law_even | apply mk_QuadEdge | apply fi___init__ | apply fn___init__ | apply ci___init__ | apply kp_QuadEdge | apply ci_from_endpoints | apply sg_QuadEdge | apply ti_QuadEdge | apply rd_QuadEdge | apply fc_from_endpoints | apply rc_from_endpoints | apply fn_from_endpoints | apply pg_from_endpoints | apply fi_from_endpoints | apply ti_from_endpoints | apply sp_from_endpoints | apply tk_from_endpoints)
local macro_rules | `(tactic| k_is) => `(tactic| ((with_reducible show List.lookup _ _ = _); exact rfl))
local macro_rules | `(tactic| k_enter) => `(tactic| ((with_reducible apply code_defC); walk_at "m1"; (case hbind => exact BindsTo.of_eq rfl); (case hkind => exact rfl); (case hnd => decide +kernel); walk_at "m14"; k_whole; intro g' L' h' tk' cells' FG' F' N' Y' B' X' T' l1; k_cells Y'; (try simp only [List.cons_append, List.nil_append] at N'); (try dsimp only); (try k_fold)))
local macro_rules | `(tactic| k_enter) => `(tactic| ((with_reducible apply code_def); walk_at "m1"; (case hbind => first | exact BindsTo.of_eq rfl | exact binds_K (by k_in) rfl (by k_is) rfl rfl rfl); (case hcell => decide); (case hloc => exact locs rfl); walk_at "m14"; k_whole; intro g' L' h' FG' F' N' B' X' T'; (try dsimp only); (try k_fold)))
local macro_rules | `(tactic| k_all) => `(tactic| (intro p hp; exact Nat.ne_of_lt (by solve_by_elim (maxDepth := 12) [List.Mem.tail])))
local macro_rules | `(tactic| kwd_rel) => `(tactic| first | exact rfl | assumption | apply_assumption)
local macro_rules | `(tactic| k_handed) => `(tactic| assumption)
section
variable {ι : Type} {prog : Program} {w : World} {p : Program} {loose : List Str} {mean : ExcName → Option Value} {mg mb : Str → Option Value}
    {dp un : Nat} {gd : Option (List Code)} {cn : Str} {cs : Scope} {a : Addr} {ccd : Value} {cl : List (Str × Addr)} {outer : List Env} {A₀ : Around} {base h₀ : Heap} {L : Addr} {m : Str → Option Value} {news : List (Addr × Obj)} {s : Shared}
    {Q E : Value → Shared → Prop} {ex : Bool} {ad dd : ι → Addr} {R o : ι → ι} {cx : Value} {st : ι → Value} {k : ι} {x : Addr}
set_option maxHeartbeats 4000000 in
theorem get_rotated (B : Below A₀ base outer h₀) (F : Fr h₀ L s.heap m) (X : (hd.heap_39 w.params).In h₀) (N : News h₀ L s.heap news) (T : Top p loose mean mg mb h₀) (hk : cs.kind = .function)
    (q : QE news ad dd R o cx st) (he : x = ad k) (hdp : dp + 10 < recursionLimit) (hu : un + 20 < cLine)
    (ret : ∀ h' tk', Fr h₀ L h' m → News h₀ L h' news → Q (.ref (ad (R k))) { s with heap := h', toks := tk' }) {A : Around} (hA : A = ktrTop dp un gd cn cs L a ccd cl outer) :
    wpAny (model prog w) A (getAttr (.ref x) (Str.ofString "rotated") ex) Q E s := by
  subst hA
  subst he
  obtain ⟨rest, rc⟩ := rc_rotated w.params
  have hx := q.inst k
  obtain ⟨h1, h2, h3, h4, t1, t2, t3, t4, hdx⟩ := q.dict k
  refine get_prop F X (InstAt.of_news N hx hdx) (pg_rotated _) (hasD _) (fi_rotated _) (sp_rotated _) (tk_rotated _) rc ?_
  skip
  k_enter
  k_steps
  exact ret _ _ (by k_asm) (by k_asm)
end
local macro_rules | `(tactic| walk_at "getAttr ref") => `(tactic| (k_here; with_reducible apply get_rotated; k_dflt (walk_at "m9"; walk_at "mS"); walk_at "mI"))
section
variable {ι : Type} {prog : Program} {w : World} {p : Program} {loose : List Str} {mean : ExcName → Option Value} {mg mb : Str → Option Value}
    {dp un : Nat} {gd : Option (List Code)} {cn : Str} {cs : Scope} {a : Addr} {ccd : Value} {cl : List (Str × Addr)} {outer : List Env} {A₀ : Around} {base h₀ : Heap} {L : Addr} {m : Str → Option Value} {news : List (Addr × Obj)} {s : Shared}
    {Q E : Value → Shared → Prop} {ex : Bool} {ad dd : ι → Addr} {R o : ι → ι} {cx : Value} {st : ι → Value} {k : ι} {x : Addr}
set_option maxHeartbeats 4000000 in
theorem get_left_from_start (B : Below A₀ base outer h₀) (F : Fr h₀ L s.heap m) (X : (hd.heap_39 w.params).In h₀) (N : News h₀ L s.heap news) (T : Top p loose mean mg mb h₀) (hk : cs.kind = .function)
    (q : QE news ad dd R o cx st) (he : x = ad k) (hdp : dp + 10 < recursionLimit) (hu : un + 20 < cLine)
    (ret : ∀ h' tk', Fr h₀ L h' m → News h₀ L h' news → Q (.ref (ad (o k))) { s with heap := h', toks := tk' }) {A : Around} (hA : A = ktrTop dp un gd cn cs L a ccd cl outer) :
    wpAny (model prog w) A (getAttr (.ref x) (Str.ofString "left_from_start") ex) Q E s := by
  subst hA
  subst he
  obtain ⟨rest, rc⟩ := rc_left_from_start w.params
  have hx := q.inst k
  obtain ⟨h1, h2, h3, h4, t1, t2, t3, t4, hdx⟩ := q.dict k
  refine get_prop F X (InstAt.of_news N hx hdx) (pg_left_from_start _) (hasD _) (fi_left_from_start _) (sp_left_from_start _) (tk_left_from_start _) rc ?_
  skip
  k_enter
  k_steps
  exact ret _ _ (by k_asm) (by k_asm)
end
local macro_rules | `(tactic| walk_at "getAttr ref") => `(tactic| (k_here; with_reducible apply get_left_from_start; k_dflt (walk_at "m9"; walk_at "mS"); walk_at "mI"))
section
variable {ι : Type} {prog : Program} {w : World} {p : Program} {loose : List Str} {mean : ExcName → Option Value} {mg mb : Str → Option Value}
    {dp un : Nat} {gd : Option (List Code)} {cn : Str} {cs : Scope} {a : Addr} {ccd : Value} {cl : List (Str × Addr)} {outer : List Env} {A₀ : Around} {base h₀ : Heap} {L : Addr} {m : Str → Option Value} {news : List (Addr × Obj)} {s : Shared}
    {Q E : Value → Shared → Prop} {ex : Bool} {ad dd : ι → Addr} {R o : ι → ι} {cx : Value} {st : ι → Value} {k : ι} {x : Addr}
set_option maxHeartbeats 4000000 in
theorem get_opposite (B : Below A₀ base outer h₀) (F : Fr h₀ L s.heap m) (X : (hd.heap_39 w.params).In h₀) (N : News h₀ L s.heap news) (T : Top p loose mean mg mb h₀) (hk : cs.kind = .function)
    (q : QE news ad dd R o cx st) (he : x = ad k) (hdp : dp + 20 < recursionLimit) (hu : un + 40 < cLine)
    (ret : ∀ h' tk', Fr h₀ L h' m → News h₀ L h' news → Q (.ref (ad (R (R k)))) { s with heap := h', toks := tk' }) {A : Around} (hA : A = ktrTop dp un gd cn cs L a ccd cl outer) :
    wpAny (model prog w) A (getAttr (.ref x) (Str.ofString "opposite") ex) Q E s := by
  subst hA
  subst he
  obtain ⟨rest, rc⟩ := rc_opposite w.params
  have hx := q.inst k
  obtain ⟨h1, h2, h3, h4, t1, t2, t3, t4, hdx⟩ := q.dict k
  refine get_prop F X (InstAt.of_news N hx hdx) (pg_opposite _) (hasD _) (fi_opposite _) (sp_opposite _) (tk_opposite _) rc ?_
  skip
  k_enter
  k_steps
  exact ret _ _ (by k_asm) (by k_asm)
end
local macro_rules | `(tactic| walk_at "getAttr ref") => `(tactic| (k_here; with_reducible apply get_opposite; k_dflt (walk_at "m9"; walk_at "mS"); walk_at "mI"))
section
variable {ι : Type} {prog : Program} {w : World} {p : Program} {loose : List Str} {mean : ExcName → Option Value} {mg mb : Str → Option Value}
    {dp un : Nat} {gd : Option (List Code)} {cn : Str} {cs : Scope} {a : Addr} {ccd : Value} {cl : List (Str × Addr)} {outer : List Env} {A₀ : Around} {base h₀ : Heap} {L : Addr} {m : Str → Option Value} {news : List (Addr × Obj)} {s : Shared}
    {Q E : Value → Shared → Prop} {ex : Bool} {ad dd : ι → Addr} {R o : ι → ι} {cx : Value} {st : ι → Value} {k : ι} {x : Addr}
set_option maxHeartbeats 4000000 in
theorem get_left_from_end (B : Below A₀ base outer h₀) (F : Fr h₀ L s.heap m) (X : (hd.heap_39 w.params).In h₀) (N : News h₀ L s.heap news) (T : Top p loose mean mg mb h₀) (hk : cs.kind = .function)
    (q : QE news ad dd R o cx st) (he : x = ad k) (hdp : dp + 30 < recursionLimit) (hu : un + 60 < cLine)
    (ret : ∀ h' tk', Fr h₀ L h' m → News h₀ L h' news → Q (.ref (ad (R (o (R (R (R k))))))) { s with heap := h', toks := tk' }) {A : Around} (hA : A = ktrTop dp un gd cn cs L a ccd cl outer) :
    wpAny (model prog w) A (getAttr (.ref x) (Str.ofString "left_from_end") ex) Q E s := by
  subst hA
  subst he
  obtain ⟨rest, rc⟩ := rc_left_from_end w.params
  have hx := q.inst k
  obtain ⟨h1, h2, h3, h4, t1, t2, t3, t4, hdx⟩ := q.dict k
  refine get_prop F X (InstAt.of_news N hx hdx) (pg_left_from_end _) (hasD _) (fi_left_from_end _) (sp_left_from_end _) (tk_left_from_end _) rc ?_
  skip
  k_enter
  k_steps
  exact ret _ _ (by k_asm) (by k_asm)
end
local macro_rules | `(tactic| walk_at "getAttr ref") => `(tactic| (k_here; with_reducible apply get_left_from_end; k_dflt (walk_at "m9"; walk_at "mS"); walk_at "mI"))
section
variable {ι : Type} {prog : Program} {w : World} {p : Program} {loose : List Str} {mean : ExcName → Option Value} {mg mb : Str → Option Value}
    {dp un : Nat} {gd : Option (List Code)} {cn : Str} {cs : Scope} {a : Addr} {ccd : Value} {cl : List (Str × Addr)} {outer : List Env} {A₀ : Around} {base h₀ : Heap} {L : Addr} {m : Str → Option Value} {news : List (Addr × Obj)} {s : Shared}
    {Q E : Value → Shared → Prop} {ex : Bool} {ad dd : ι → Addr} {R o : ι → ι} {cx : Value} {st : ι → Value} {k : ι} {x : Addr}
set_option maxHeartbeats 4000000 in
theorem get_right_from_start (B : Below A₀ base outer h₀) (F : Fr h₀ L s.heap m) (X : (hd.heap_39 w.params).In h₀) (N : News h₀ L s.heap news) (T : Top p loose mean mg mb h₀) (hk : cs.kind = .function)
    (q : QE news ad dd R o cx st) (he : x = ad k) (hdp : dp + 20 < recursionLimit) (hu : un + 40 < cLine)
    (ret : ∀ h' tk', Fr h₀ L h' m → News h₀ L h' news → Q (.ref (ad (R (o (R k))))) { s with heap := h', toks := tk' }) {A : Around} (hA : A = ktrTop dp un gd cn cs L a ccd cl outer) :
    wpAny (model prog w) A (getAttr (.ref x) (Str.ofString "right_from_start") ex) Q E s := by
  subst hA
  subst he
  obtain ⟨rest, rc⟩ := rc_right_from_start w.params
  have hx := q.inst k
  obtain ⟨h1, h2, h3, h4, t1, t2, t3, t4, hdx⟩ := q.dict k
  refine get_prop F X (InstAt.of_news N hx hdx) (pg_right_from_start _) (hasD _) (fi_right_from_start _) (sp_right_from_start _) (tk_right_from_start _) rc ?_
  skip
  k_enter
  k_steps
  exact ret _ _ (by k_asm) (by k_asm)
end
local macro_rules | `(tactic| walk_at "getAttr ref") => `(tactic| (k_here; with_reducible apply get_right_from_start; k_dflt (walk_at "m9"; walk_at "mS"); walk_at "mI"))
section
variable {ι : Type} {prog : Program} {w : World} {p : Program} {loose : List Str} {mean : ExcName → Option Value} {mg mb : Str → Option Value}
    {dp un : Nat} {gd : Option (List Code)} {cn : Str} {cs : Scope} {a : Addr} {ccd : Value} {cl : List (Str × Addr)} {outer : List Env} {A₀ : Around} {base h₀ : Heap} {L : Addr} {m : Str → Option Value} {news : List (Addr × Obj)} {s : Shared}
    {Q E : Value → Shared → Prop} {ex : Bool} {ad dd : ι → Addr} {R o : ι → ι} {cx : Value} {st : ι → Value} {k : ι} {x : Addr}
set_option maxHeartbeats 4000000 in
theorem get_start (B : Below A₀ base outer h₀) (F : Fr h₀ L s.heap m) (X : (hd.heap_39 w.params).In h₀) (N : News h₀ L s.heap news) (T : Top p loose mean mg mb h₀) (hk : cs.kind = .function)
    (q : QE news ad dd R o cx st) (he : x = ad k) (hdp : dp + 10 < recursionLimit) (hu : un + 20 < cLine) (hst : ∀ k, handedIn (st k) = true)
    (ret : ∀ h' tk', Fr h₀ L h' m → News h₀ L h' news → Q (st k) { s with heap := h', toks := tk' }) {A : Around} (hA : A = ktrTop dp un gd cn cs L a ccd cl outer) :
    wpAny (model prog w) A (getAttr (.ref x) (Str.ofString "start") ex) Q E s := by
  subst hA
  subst he
  obtain ⟨rest, rc⟩ := rc_start w.params
  have hx := q.inst k
  obtain ⟨h1, h2, h3, h4, t1, t2, t3, t4, hdx⟩ := q.dict k
  refine get_prop F X (InstAt.of_news N hx hdx) (pg_start _) (hasD _) (fi_start _) (sp_start _) (tk_start _) rc ?_
  have hst' := hst k
  k_enter
  k_steps
  (rw [handedOut_of (hst _)]; exact wpAny_pure (ret _ _ (by k_asm) (by k_asm)))
end
local macro_rules | `(tactic| walk_at "getAttr ref") => `(tactic| (k_here; with_reducible apply get_start; k_dflt (walk_at "m9"; (case hst => assumption); walk_at "mS"); walk_at "mI"))
section
variable {ι : Type} {prog : Program} {w : World} {p : Program} {loose : List Str} {mean : ExcName → Option Value} {mg mb : Str → Option Value}
    {dp un : Nat} {gd : Option (List Code)} {cn : Str} {cs : Scope} {a : Addr} {ccd : Value} {cl : List (Str × Addr)} {outer : List Env} {A₀ : Around} {base h₀ : Heap} {L : Addr} {m : Str → Option Value} {news : List (Addr × Obj)} {s : Shared}
    {Q E : Value → Shared → Prop} {ex : Bool} {ad dd : ι → Addr} {R o : ι → ι} {cx : Value} {st : ι → Value} {k : ι} {x : Addr}
set_option maxHeartbeats 4000000 in
theorem get_context (B : Below A₀ base outer h₀) (F : Fr h₀ L s.heap m) (X : (hd.heap_39 w.params).In h₀) (N : News h₀ L s.heap news) (T : Top p loose mean mg mb h₀) (hk : cs.kind = .function)
    (q : QE news ad dd R o cx st) (he : x = ad k) (hdp : dp + 10 < recursionLimit) (hu : un + 20 < cLine) (hcx : handedIn cx = true)
    (ret : ∀ h' tk', Fr h₀ L h' m → News h₀ L h' news → Q (cx) { s with heap := h', toks := tk' }) {A : Around} (hA : A = ktrTop dp un gd cn cs L a ccd cl outer) :
    wpAny (model prog w) A (getAttr (.ref x) (Str.ofString "context") ex) Q E s := by
  subst hA
  subst he
  obtain ⟨rest, rc⟩ := rc_context w.params
  have hx := q.inst k
  obtain ⟨h1, h2, h3, h4, t1, t2, t3, t4, hdx⟩ := q.dict k
  refine get_prop F X (InstAt.of_news N hx hdx) (pg_context _) (hasD _) (fi_context _) (sp_context _) (tk_context _) rc ?_
  skip
  k_enter
  k_steps
  (rw [handedOut_of hcx]; exact wpAny_pure (ret _ _ (by k_asm) (by k_asm)))
end
local macro_rules | `(tactic| walk_at "getAttr ref") => `(tactic| (k_here; with_reducible apply get_context; k_dflt (walk_at "m9"; (case hcx => assumption); walk_at "mS"); walk_at "mI"))
section
variable {ι : Type} {prog : Program} {w : World} {p : Program} {loose : List Str} {mean : ExcName → Option Value} {mg mb : Str → Option Value}
    {dp un : Nat} {gd : Option (List Code)} {cn : Str} {cs : Scope} {a : Addr} {ccd : Value} {cl : List (Str × Addr)} {outer : List Env} {A₀ : Around} {base h₀ : Heap} {L : Addr} {m : Str → Option Value} {news : List (Addr × Obj)} {s : Shared}
    {Q E : Value → Shared → Prop} {ex : Bool} {ad dd : ι → Addr} {R o : ι → ι} {cx : Value} {st : ι → Value} {k : ι} {x : Addr}
set_option maxHeartbeats 4000000 in
theorem get_end (B : Below A₀ base outer h₀) (F : Fr h₀ L s.heap m) (X : (hd.heap_39 w.params).In h₀) (N : News h₀ L s.heap news) (T : Top p loose mean mg mb h₀) (hk : cs.kind = .function)
    (q : QE news ad dd R o cx st) (he : x = ad k) (hdp : dp + 30 < recursionLimit) (hu : un + 60 < cLine) (hst : ∀ k, handedIn (st k) = true)
    (ret : ∀ h' tk', Fr h₀ L h' m → News h₀ L h' news → Q (st (R (R k))) { s with heap := h', toks := tk' }) {A : Around} (hA : A = ktrTop dp un gd cn cs L a ccd cl outer) :
    wpAny (model prog w) A (getAttr (.ref x) (Str.ofString "end") ex) Q E s := by
  subst hA
  subst he
  obtain ⟨rest, rc⟩ := rc_end w.params
  have hx := q.inst k
  obtain ⟨h1, h2, h3, h4, t1, t2, t3, t4, hdx⟩ := q.dict k
  refine get_prop F X (InstAt.of_news N hx hdx) (pg_end _) (hasD _) (fi_end _) (sp_end _) (tk_end _) rc ?_
  skip
  k_enter
  k_steps
  (rw [handedOut_of (hst _)]; exact wpAny_pure (ret _ _ (by k_asm) (by k_asm)))
end
local macro_rules | `(tactic| walk_at "getAttr ref") => `(tactic| (k_here; with_reducible apply get_end; k_dflt (walk_at "m9"; (case hst => assumption); walk_at "mS"); walk_at "mI"))
section
variable {ι : Type} {prog : Program} {w : World} {p : Program} {loose : List Str} {mean : ExcName → Option Value} {mg mb : Str → Option Value}
    {dp un : Nat} {gd : Option (List Code)} {cn : Str} {cs : Scope} {a : Addr} {ccd : Value} {cl : List (Str × Addr)} {outer : List Env} {A₀ : Around} {base h₀ : Heap} {L : Addr} {m : Str → Option Value} {news : List (Addr × Obj)} {s : Shared}
    {Q E : Value → Shared → Prop} {ex : Bool} {ad dd : ι → Addr} {R o : ι → ι} {cx : Value} {st : ι → Value} {k : ι} {x : Addr}

end

section
variable {ι : Type} {prog : Program} {w : World} {p : Program} {loose : List Str} {mean : ExcName → Option Value} {mg mb : Str → Option Value}
    {dp un : Nat} {gd : Option (List Code)} {cn : Str} {cs : Scope} {a : Addr} {ccd : Value} {cl : List (Str × Addr)} {outer : List Env} {A A₀ : Around} {base h₀ : Heap} {L : Addr} {m : Str → Option Value} {news : List (Addr × Obj)} {s : Shared}
    {Q : Value → Shared → Prop} {E : Value → Shared → Prop} {ex : Bool} {ad dd : ι → Addr} {R o : ι → ι} {cx : Value} {st : ι → Value} {k v : ι}

theorem set_lfs {Q : Unit → Shared → Prop} (F : Fr h₀ L s.heap m) (X : (hd.heap_39 w.params).In h₀) (N : News h₀ L s.heap news) (q : QE news ad dd R o cx st) {x y : Addr} (he : x = ad k) (hy : y = ad v)
    (ret : ∀ h' tk' news', Fr h₀ L h' m → News h₀ L h' news' → QE news' ad dd R (put o k v) cx st → Stay news news' → Q () { s with heap := h', toks := tk' }) :
    wpAny (model prog w) A (setAttr (.ref x) (Str.ofString "_left_from_start") (.ref y)) Q E s := by
  subst he hy
  have hx := q.inst k
  obtain ⟨h1, h2, h3, h4, t1, t2, t3, t4, hdx⟩ := q.dict k
  have N2 : News h₀ L s.heap ((dd k, qd h1 h2 h3 h4 t1 t2 t3 t4 cx (.ref (ad (o k))) (.ref (ad (R k))) (st k)) :: news.filter (fun p => decide (p.1 ≠ dd k))) := by
    intro p hp
    rcases List.mem_cons.mp hp with rfl | hp
    · exact N _ hdx
    · exact N _ ((List.mem_filter.mp hp).1)
  refine set_dict F X N2 (InstAt.of_news N hx hdx) rfl (fi_setattr _) (po _) (tt__left_from_start _) (hasD _) rfl
    (es' := [⟨h1, .str (Str.ofString "_context") t1, cx⟩, ⟨h2, .str (Str.ofString "_left_from_start") t2, .ref (ad v)⟩, ⟨h3, .str (Str.ofString "_rotated") t3, .ref (ad (R k))⟩, ⟨h4, .str (Str.ofString "_start") t4, st k⟩]) (n' := 4) (by rfl)
    (Upd.head (fun p hp => by simpa using (List.mem_filter.mp hp).2)) (by show 4 ≤ 1000; decide) (fun h' F' N' => ret _ _ _ F' N' ?_ ?_)
  · have hne : ∀ i, ad i ≠ dd k := fun i e => by
      have h5 := (N _ (q.inst i)).1
      have h6 := (N _ hdx).1
      dsimp only at h5 h6
      rw [e, h6] at h5
      cases h5
    refine ⟨fun i => .tail _ (List.mem_filter.mpr ⟨q.inst i, by simpa using hne i⟩), fun i => ?_, q.inj, q.dinj⟩
    by_cases hi : i = k
    · subst hi
      exact ⟨h1, h2, h3, h4, t1, t2, t3, t4, by rw [put_self]; exact .head _⟩
    · obtain ⟨g1, g2, g3, g4, u1, u2, u3, u4, hg⟩ := q.dict i
      refine ⟨g1, g2, g3, g4, u1, u2, u3, u4, ?_⟩
      rw [put_ne o v hi]
      exact .tail _ (List.mem_filter.mpr ⟨hg, by simpa using fun e => hi (q.dinj _ _ e)⟩)
  · intro p hp hc
    refine .tail _ (List.mem_filter.mpr ⟨hp, ?_⟩)
    simp only [ne_eq, decide_not, Bool.not_eq_eq_eq_not, Bool.not_true, decide_eq_false_iff_not]
    intro e
    have h5 := (N _ hp).1
    have h6 := (N _ hdx).1
    dsimp only at h6
    rw [e, h6] at h5
    rw [← Option.some.inj h5] at hc
    exact absurd hc (fun e9 => by cases e9)
end
local macro_rules | `(tactic| walk_at "setAttr ref") => `(tactic| (k_here; with_reducible apply set_lfs; k_dflt (walk_at "mE"; (case hy => kwd_rel); walk_at "m5"); walk_at "mI"))
section
variable {ι : Type} {prog : Program} {w : World} {p : Program} {loose : List Str} {mean : ExcName → Option Value} {mg mb : Str → Option Value}
    {dp un : Nat} {gd : Option (List Code)} {cn : Str} {cs : Scope} {a : Addr} {ccd : Value} {cl : List (Str × Addr)} {outer : List Env} {A A₀ : Around} {base h₀ : Heap} {L : Addr} {m : Str → Option Value} {news : List (Addr × Obj)} {s : Shared}
    {Q : Value → Shared → Prop} {E : Value → Shared → Prop} {ex : Bool} {ad dd : ι → Addr} {R o : ι → ι} {cx : Value} {st : ι → Value} {k v : ι}

set_option maxHeartbeats 8000000 in
theorem splice_ {i j : ι} (B : Below A₀ base outer h₀) (F : Fr h₀ L s.heap m) (X : (hd.heap_39 w.params).In h₀) (N : News h₀ L s.heap news) (T : Top p loose mean mg mb h₀) (hk : cs.kind = .function)
    (q : QE news ad dd R o cx st) {x y : Addr} (he : x = ad i) (hy : y = ad j) (hdp : dp + 20 < recursionLimit) (hu : un + 60 < cLine)
    (ret : ∀ h' tk' news', Fr h₀ L h' m → News h₀ L h' news' → QE news' ad dd R (spl R o i j) cx st → Stay news news' → Q .none { s with heap := h', toks := tk' }) {A : Around} (hA : A = ktrTop dp un gd cn cs L a ccd cl outer) :
    wpAny (model prog w) A (call (.ref 146) [.ref x, .ref y] []) Q E s := by
  subst hA
  subst he hy
  refine wpAny_call ?_
  k_enter
  k_steps
  refine ret _ _ _ (by k_asm) (by k_asm) (by assumption) ?_
  intro p hp hc
  solve_by_elim (maxDepth := 20) [List.Mem.tail]
end
local macro_rules | `(tactic| walk_at "call ref") => `(tactic| (k_here; with_reducible apply splice_; k_dflt (walk_at "m9"; (case hy => kwd_rel); walk_at "mS"); walk_at "mI"))
section
variable {ι : Type} {prog : Program} {w : World} {p : Program} {loose : List Str} {mean : ExcName → Option Value} {mg mb : Str → Option Value}
    {dp un : Nat} {gd : Option (List Code)} {cn : Str} {cs : Scope} {a : Addr} {ccd : Value} {cl : List (Str × Addr)} {outer : List Env} {A A₀ : Around} {base h₀ : Heap} {L : Addr} {m : Str → Option Value} {news : List (Addr × Obj)} {s : Shared}
    {Q : Value → Shared → Prop} {E : Value → Shared → Prop} {ex : Bool} {ad dd : ι → Addr} {R o : ι → ι} {cx : Value} {st : ι → Value} {k v : ι}
end

section
variable {prog : Program} {w : World} {p : Program} {loose : List Str} {mean : ExcName → Option Value} {mg mb : Str → Option Value}
    {dp un : Nat} {gd : Option (List Code)} {cn : Str} {cs : Scope} {a : Addr} {ccd : Value} {cl : List (Str × Addr)} {outer : List Env} {A A₀ : Around} {base h₀ : Heap} {L : Addr} {m : Str → Option Value} {news : List (Addr × Obj)} {s : Shared}
    {Q : Value → Shared → Prop} {E : Value → Shared → Prop} {ex : Bool}

theorem news_tail {h₀ h : Heap} {L : Addr} {x : Addr × Obj} {n : List (Addr × Obj)} (N : News h₀ L h (x :: n)) : News h₀ L h n := fun q hq => N q (.tail _ hq)
set_option maxHeartbeats 8000000 in
theorem make_ {st cx : Value} (B : Below A₀ base outer h₀) (F : Fr h₀ L s.heap m) (X : (hd.heap_39 w.params).In h₀) (N : News h₀ L s.heap news) (T : Top p loose mean mg mb h₀) (hk : cs.kind = .function)
    (hdp : dp + 20 < recursionLimit) (hu : un + 60 < cLine)
    (ret : ∀ h' tk' x dx h1 h2 h3 h4 t1 t2 t3 t4, Fr h₀ L h' m → News h₀ L h' ((x, instObj 156 dx) :: (dx, qd h1 h2 h3 h4 t1 t2 t3 t4 cx .none .none st) :: news) → (∀ p ∈ news, p.1 < dx) → dx < x → Q (.ref x) { s with heap := h', toks := tk' }) {A : Around} (hA : A = ktrTop dp un gd cn cs L a ccd cl outer) :
    wpAny (model prog w) A (call (.ref 156) [st] [(Str.ofString "context", cx)]) Q E s := by
  subst hA
  refine' call_cls F X N (mk_QuadEdge _) (fi___init__ _) (fn___init__ _) ?_
  intro x dx h' F' N' l1 l2
  have l2' := ltN l2
  k_enter
  k_steps
  exact ret _ _ x dx _ _ _ _ _ _ _ _ (by k_asm) (news_tail (by k_asm)) l1 l2

set_option maxHeartbeats 8000000 in
theorem make0_ {cx : Value} (B : Below A₀ base outer h₀) (F : Fr h₀ L s.heap m) (X : (hd.heap_39 w.params).In h₀) (N : News h₀ L s.heap news) (T : Top p loose mean mg mb h₀) (hk : cs.kind = .function)
    (hdp : dp + 20 < recursionLimit) (hu : un + 60 < cLine)
    (ret : ∀ h' tk' x dx h1 h2 h3 h4 t1 t2 t3 t4, Fr h₀ L h' m → News h₀ L h' ((x, instObj 156 dx) :: (dx, qd h1 h2 h3 h4 t1 t2 t3 t4 cx .none .none .none) :: news) → (∀ p ∈ news, p.1 < dx) → dx < x → Q (.ref x) { s with heap := h', toks := tk' }) {A : Around} (hA : A = ktrTop dp un gd cn cs L a ccd cl outer) :
    wpAny (model prog w) A (call (.ref 156) [] [(Str.ofString "context", cx)]) Q E s := by
  subst hA
  refine' call_cls F X N (mk_QuadEdge _) (fi___init__ _) (fn___init__ _) ?_
  intro x dx h' F' N' l1 l2
  have l2' := ltN l2
  k_enter
  k_steps
  exact ret _ _ x dx _ _ _ _ _ _ _ _ (by k_asm) (news_tail (by k_asm)) l1 l2
end
local macro_rules | `(tactic| walk_at "call ref") => `(tactic| (k_here; (with_reducible show wpAny _ _ (call (Value.ref 156) _ _) _ _ _); k_dflt ((first | refine' make0_ (hA := rfl) ?B ?F ?X ?N ?T ?hk ?hdp ?hu ?_ | refine' make_ (hA := rfl) ?B ?F ?X ?N ?T ?hk ?hdp ?hu ?_); walk_at "mF"; walk_at "mS"); walk_at "m3"))
section
variable {prog : Program} {w : World} {p : Program} {loose : List Str} {mean : ExcName → Option Value} {mg mb : Str → Option Value}
    {dp un : Nat} {gd : Option (List Code)} {cn : Str} {cs : Scope} {a : Addr} {ccd : Value} {cl : List (Str × Addr)} {outer : List Env} {A A₀ : Around} {base h₀ : Heap} {L : Addr} {m : Str → Option Value} {news : List (Addr × Obj)} {s : Shared}
    {Q : Value → Shared → Prop} {E : Value → Shared → Prop} {ex : Bool}

noncomputable abbrev st4 (v0 v1 : Value) (i : Fin 4) : Value := match i with | 0 => v0 | 1 => .none | 2 => v1 | 3 => .none
noncomputable abbrev four (x0 x1 x2 x3 : Addr) (i : Fin 4) : Addr := match i with | 0 => x0 | 1 => x1 | 2 => x2 | 3 => x3
theorem four_inj {x0 x1 x2 x3 : Addr} (h01 : x0 < x2) (h12 : x2 < x1) (h23 : x1 < x3) : ∀ i j, four x0 x1 x2 x3 i = four x0 x1 x2 x3 j → i = j := by
  have h01 := ltN h01
  have h12 := ltN h12
  have h23 := ltN h23
  intro i j e
  match i, j, e with
  | 0, 0, _ => rfl
  | 1, 1, _ => rfl
  | 2, 2, _ => rfl
  | 3, 3, _ => rfl
  | 0, 1, (e : @Eq Nat x0 x1) => exfalso; omega
  | 0, 2, (e : @Eq Nat x0 x2) => exfalso; omega
  | 0, 3, (e : @Eq Nat x0 x3) => exfalso; omega
  | 1, 0, (e : @Eq Nat x1 x0) => exfalso; omega
  | 1, 2, (e : @Eq Nat x1 x2) => exfalso; omega
  | 1, 3, (e : @Eq Nat x1 x3) => exfalso; omega
  | 2, 0, (e : @Eq Nat x2 x0) => exfalso; omega
  | 2, 1, (e : @Eq Nat x2 x1) => exfalso; omega
  | 2, 3, (e : @Eq Nat x2 x3) => exfalso; omega
  | 3, 0, (e : @Eq Nat x3 x0) => exfalso; omega
  | 3, 1, (e : @Eq Nat x3 x1) => exfalso; omega
  | 3, 2, (e : @Eq Nat x3 x2) => exfalso; omega
theorem QE.grow {ι : Type} {news news' : List (Addr × Obj)} {ad dd : ι → Addr} {R o : ι → ι} {st : ι → Value} {v0 v1 cx : Value} {x0 x1 x2 x3 d0 d1 d2 d3 : Addr} (q : QE news ad dd R o cx st) (hs : ∀ p ∈ news, p ∈ news')
    (lo : ∀ p ∈ news, p.1 < d0) (a0 : d0 < x0) (a1 : x0 < d2) (a2 : d2 < x2) (a3 : x2 < d1) (a4 : d1 < x1) (a5 : x1 < d3) (a6 : d3 < x3)
    (i0 : (x0, instObj 156 d0) ∈ news') (i1 : (x1, instObj 156 d1) ∈ news') (i2 : (x2, instObj 156 d2) ∈ news') (i3 : (x3, instObj 156 d3) ∈ news')
    (e0 : Qd news' d0 cx (.ref x0) (.ref x1) v0)
    (e1 : Qd news' d1 cx (.ref x3) (.ref x2) .none)
    (e2 : Qd news' d2 cx (.ref x2) (.ref x3) v1)
    (e3 : Qd news' d3 cx (.ref x1) (.ref x0) .none) :
    QE news' (Sum.elim ad (four x0 x1 x2 x3)) (Sum.elim dd (four d0 d1 d2 d3)) (Sum.map R rot4) (Sum.map o ini4) cx (Sum.elim st (st4 v0 v1)) := by
  have b0 := ltN a0
  have b1 := ltN a1
  have b2 := ltN a2
  have b3 := ltN a3
  have b4 := ltN a4
  have b5 := ltN a5
  have b6 := ltN a6
  have lox : ∀ k i, ad k < four x0 x1 x2 x3 i := fun k i => by
    have := ltN (lo _ (q.inst k))
    match i with
    | 0 => show @LT.lt Nat _ (ad k) x0; omega
    | 1 => show @LT.lt Nat _ (ad k) x1; omega
    | 2 => show @LT.lt Nat _ (ad k) x2; omega
    | 3 => show @LT.lt Nat _ (ad k) x3; omega
  have lod : ∀ k i, dd k < four d0 d1 d2 d3 i := fun k i => by
    obtain ⟨_, _, _, _, _, _, _, _, e⟩ := q.dict k
    have := ltN (lo _ e)
    match i with
    | 0 => show @LT.lt Nat _ (dd k) d0; omega
    | 1 => show @LT.lt Nat _ (dd k) d1; omega
    | 2 => show @LT.lt Nat _ (dd k) d2; omega
    | 3 => show @LT.lt Nat _ (dd k) d3; omega
  refine ⟨?_, ?_, ?_, ?_⟩
  · rintro (k | k)
    · exact hs _ (q.inst k)
    · match k with
      | 0 => exact i0
      | 1 => exact i1
      | 2 => exact i2
      | 3 => exact i3
  · rintro (k | k)
    · obtain ⟨h1, h2, h3, h4, t1, t2, t3, t4, e⟩ := q.dict k
      exact ⟨h1, h2, h3, h4, t1, t2, t3, t4, hs _ e⟩
    · match k with
      | 0 => exact e0
      | 1 => exact e1
      | 2 => exact e2
      | 3 => exact e3
  · rintro (i | i) (j | j) e
    · exact congrArg _ (q.inj i j e)
    · exact absurd (show ad i = _ from e) (Nat.ne_of_lt (lox i j))
    · exact absurd (show ad j = _ from e.symm) (Nat.ne_of_lt (lox j i))
    · exact congrArg _ (four_inj (Nat.lt_trans a1 a2) (Nat.lt_trans a3 a4) (Nat.lt_trans a5 a6) i j e)
  · rintro (i | i) (j | j) e
    · exact congrArg _ (q.dinj i j e)
    · exact absurd (show dd i = _ from e) (Nat.ne_of_lt (lod i j))
    · exact absurd (show dd j = _ from e.symm) (Nat.ne_of_lt (lod j i))
    · exact congrArg _ (four_inj (Nat.lt_trans a0 a1) (Nat.lt_trans a2 a3) (Nat.lt_trans a4 a5) i j e)

theorem grow_end {ι : Type} {ad dd : ι → Addr} {R o : ι → ι} {st : ι → Value} {v0 v1 cx : Value} {x0 x1 x2 x3 d0 d1 d2 d3 : Addr} {led : List (Addr × Obj)} {h' : Heap} {tk' : Nat}
    (ret : ∀ h' tk' news' (ad' dd' : ι ⊕ Fin 4 → Addr), Fr h₀ L h' m → News h₀ L h' news' → QE news' ad' dd' (Sum.map R rot4) (Sum.map o ini4) cx (Sum.elim st (st4 v0 v1)) → (∀ k, ad k = ad' (.inl k)) → (∀ p ∈ news, p ∈ news') → Q (.ref (ad' (.inr 0))) { s with heap := h', toks := tk' })
    (q : QE news ad dd R o cx st) (F : Fr h₀ L h' m) (N : News h₀ L h' led)
    (i0 : (x0, instObj 156 d0) ∈ led)
    (e0 : Qd led d0 cx (.ref x0) (.ref x1) v0)
    (i1 : (x1, instObj 156 d1) ∈ led)
    (e1 : Qd led d1 cx (.ref x3) (.ref x2) .none)
    (i2 : (x2, instObj 156 d2) ∈ led) (i3 : (x3, instObj 156 d3) ∈ led)
    (e2 : Qd led d2 cx (.ref x2) (.ref x3) v1)
    (e3 : Qd led d3 cx (.ref x1) (.ref x0) .none)
    (hs : ∀ p ∈ news, p ∈ led) (lo : ∀ p ∈ news, p.1 < d0)
    (a0 : @LT.lt Nat _ d0 x0) (a1 : @LT.lt Nat _ x0 d2) (a2 : @LT.lt Nat _ d2 x2) (a3 : @LT.lt Nat _ x2 d1) (a4 : @LT.lt Nat _ d1 x1) (a5 : @LT.lt Nat _ x1 d3) (a6 : @LT.lt Nat _ d3 x3) : Q (.ref x0) { s with heap := h', toks := tk' } :=
  ret _ _ _ (Sum.elim ad (four x0 x1 x2 x3)) (Sum.elim dd (four d0 d1 d2 d3)) F N (QE.grow q hs lo a0 a1 a2 a3 a4 a5 a6 i0 i1 i2 i3 e0 e1 e2 e3) (fun _ => rfl) hs

set_option maxHeartbeats 8000000 in
theorem endpoints_ {ι : Type} {ad dd : ι → Addr} {R o : ι → ι} {st : ι → Value} {v0 v1 cx : Value} (B : Below A₀ base outer h₀) (F : Fr h₀ L s.heap m) (X : (hd.heap_39 w.params).In h₀) (N : News h₀ L s.heap news) (T : Top p loose mean mg mb h₀) (hk : cs.kind = .function)
    (qe : QE news ad dd R o cx st) (hdp : dp + 40 < recursionLimit) (hu : un + 100 < cLine) (q : Addr) (hq : (q, methodObj (.ref 35) (.ref 156)) ∈ news)
    (ret : ∀ h' tk' news' (ad' dd' : ι ⊕ Fin 4 → Addr), Fr h₀ L h' m → News h₀ L h' news' → QE news' ad' dd' (Sum.map R rot4) (Sum.map o ini4) cx (Sum.elim st (st4 v0 v1)) → (∀ k, ad k = ad' (.inl k)) → (∀ p ∈ news, p ∈ news') → Q (.ref (ad' (.inr 0))) { s with heap := h', toks := tk' }) {A : Around} (hA : A = ktrTop dp un gd cn cs L a ccd cl outer) :
    wpAny (model prog w) A (call (.ref q) [v0, v1] [(Str.ofString "context", cx)]) Q E s := by
  subst hA
  refine' call_meth N hq ?_
  k_enter
  k_steps
  refine' grow_end ret qe ?F ?N ?i0 ?e0 ?i1 ?e1 ?i2 ?i3 ?e2 ?e3 ?hs ?lo ?a0 ?a1 ?a2 ?a3 ?a4 ?a5 ?a6
  case F => k_asm
  case N => k_asm
  case i0 => k_mem
  case e0 => exact ⟨_, _, _, _, _, _, _, _, by k_mem⟩
  case i1 => k_mem
  case e1 => exact ⟨_, _, _, _, _, _, _, _, by k_mem⟩
  case i2 => k_mem
  case i3 => k_mem
  case e2 => exact ⟨_, _, _, _, _, _, _, _, by k_mem⟩
  case e3 => exact ⟨_, _, _, _, _, _, _, _, by k_mem⟩
  case lo => assumption
  case hs => intro p hp; repeat (first | exact hp | refine List.Mem.tail _ ?_)
  all_goals omega
end
local macro_rules | `(tactic| walk_at "call ref") => `(tactic| (k_here; (fail_if_success (with_reducible show wpAny _ _ (call _ _ []) _ _ _)); k_dflt (refine' endpoints_ (hA := rfl) ?B ?F ?X ?N ?T ?hk ?qe ?hdp ?hu _ ?hq ?_; walk_at "mF"; (case qe => ktr_rel); (case hq => k_mem); walk_at "mS"); walk_at "mI"))
section
variable {prog : Program} {w : World} {p : Program} {loose : List Str} {mean : ExcName → Option Value} {mg mb : Str → Option Value}
    {dp un : Nat} {gd : Option (List Code)} {cn : Str} {cs : Scope} {a : Addr} {ccd : Value} {cl : List (Str × Addr)} {outer : List Env} {A A₀ : Around} {base h₀ : Heap} {L : Addr} {m : Str → Option Value} {news : List (Addr × Obj)} {s : Shared}
    {Q : Value → Shared → Prop} {E : Value → Shared → Prop} {ex : Bool}
end

section
variable {ι : Type} {prog : Program} {w : World} {p : Program} {loose : List Str} {mean : ExcName → Option Value} {mg mb : Str → Option Value}
    {dp un : Nat} {gd : Option (List Code)} {cn : Str} {cs : Scope} {a : Addr} {ccd : Value} {cl : List (Str × Addr)} {outer : List Env} {A A₀ : Around} {base h₀ : Heap} {L : Addr} {m : Str → Option Value} {news : List (Addr × Obj)} {s : Shared}
    {Q : Value → Shared → Prop} {E : Value → Shared → Prop} {ex : Bool} {ad dd : ι → Addr} {R o : ι → ι} {cx : Value} {st : ι → Value}

theorem gm_connect {Q : Value × List Value → Shared → Prop} {pl : Sem Bool} {x : Addr} {k : ι} (F : Fr h₀ L s.heap m) (X : (hd.heap_39 w.params).In h₀) (N : News h₀ L s.heap news) (q : QE news ad dd R o cx st) (he : x = ad k)
    (h : Q (.ref 125, [.ref x]) s) : wpAny (model prog w) A (getMethod (.ref x) (Str.ofString "connect") pl) Q E s := by
  subst he
  have hx := q.inst k
  obtain ⟨h1, h2, h3, h4, t1, t2, t3, t4, hdx⟩ := q.dict k
  exact method_inst F X (InstAt.of_news N hx hdx) (pg_connect _) (fi_connect _) (fn_connect _) rfl h
end
local macro_rules | `(tactic| walk_at "getMethod ref") => `(tactic| (k_here; with_reducible apply gm_connect; k_dflt (walk_at "mE"; walk_at "m5")))
section
variable {ι : Type} {prog : Program} {w : World} {p : Program} {loose : List Str} {mean : ExcName → Option Value} {mg mb : Str → Option Value}
    {dp un : Nat} {gd : Option (List Code)} {cn : Str} {cs : Scope} {a : Addr} {ccd : Value} {cl : List (Str × Addr)} {outer : List Env} {A A₀ : Around} {base h₀ : Heap} {L : Addr} {m : Str → Option Value} {news : List (Addr × Obj)} {s : Shared}
    {Q : Value → Shared → Prop} {E : Value → Shared → Prop} {ex : Bool} {ad dd : ι → Addr} {R o : ι → ι} {cx : Value} {st : ι → Value}
theorem gm_delete {Q : Value × List Value → Shared → Prop} {pl : Sem Bool} {x : Addr} {k : ι} (F : Fr h₀ L s.heap m) (X : (hd.heap_39 w.params).In h₀) (N : News h₀ L s.heap news) (q : QE news ad dd R o cx st) (he : x = ad k)
    (h : Q (.ref 132, [.ref x]) s) : wpAny (model prog w) A (getMethod (.ref x) (Str.ofString "delete") pl) Q E s := by
  subst he
  have hx := q.inst k
  obtain ⟨h1, h2, h3, h4, t1, t2, t3, t4, hdx⟩ := q.dict k
  exact method_inst F X (InstAt.of_news N hx hdx) (pg_delete _) (fi_delete _) (fn_delete _) rfl h
end
local macro_rules | `(tactic| walk_at "getMethod ref") => `(tactic| (k_here; with_reducible apply gm_delete; k_dflt (walk_at "mE"; walk_at "m5")))
section
variable {ι : Type} {prog : Program} {w : World} {p : Program} {loose : List Str} {mean : ExcName → Option Value} {mg mb : Str → Option Value}
    {dp un : Nat} {gd : Option (List Code)} {cn : Str} {cs : Scope} {a : Addr} {ccd : Value} {cl : List (Str × Addr)} {outer : List Env} {A A₀ : Around} {base h₀ : Heap} {L : Addr} {m : Str → Option Value} {news : List (Addr × Obj)} {s : Shared}
    {Q : Value → Shared → Prop} {E : Value → Shared → Prop} {ex : Bool} {ad dd : ι → Addr} {R o : ι → ι} {cx : Value} {st : ι → Value}
theorem gm_splice {Q : Value × List Value → Shared → Prop} {pl : Sem Bool} {x : Addr} {k : ι} (F : Fr h₀ L s.heap m) (X : (hd.heap_39 w.params).In h₀) (N : News h₀ L s.heap news) (q : QE news ad dd R o cx st) (he : x = ad k)
    (h : Q (.ref 146, [.ref x]) s) : wpAny (model prog w) A (getMethod (.ref x) (Str.ofString "splice") pl) Q E s := by
  subst he
  have hx := q.inst k
  obtain ⟨h1, h2, h3, h4, t1, t2, t3, t4, hdx⟩ := q.dict k
  exact method_inst F X (InstAt.of_news N hx hdx) (pg_splice _) (fi_splice _) (fn_splice _) rfl h
end
local macro_rules | `(tactic| walk_at "getMethod ref") => `(tactic| (k_here; with_reducible apply gm_splice; k_dflt (walk_at "mE"; walk_at "m5")))
section
variable {ι : Type} {prog : Program} {w : World} {p : Program} {loose : List Str} {mean : ExcName → Option Value} {mg mb : Str → Option Value}
    {dp un : Nat} {gd : Option (List Code)} {cn : Str} {cs : Scope} {a : Addr} {ccd : Value} {cl : List (Str × Addr)} {outer : List Env} {A A₀ : Around} {base h₀ : Heap} {L : Addr} {m : Str → Option Value} {news : List (Addr × Obj)} {s : Shared}
    {Q : Value → Shared → Prop} {E : Value → Shared → Prop} {ex : Bool} {ad dd : ι → Addr} {R o : ι → ι} {cx : Value} {st : ι → Value}
theorem gm_from_endpoints {Q : Value × List Value → Shared → Prop} {pl : Sem Bool} {x : Addr} {k : ι} (F : Fr h₀ L s.heap m) (X : (hd.heap_39 w.params).In h₀) (N : News h₀ L s.heap news) (q : QE news ad dd R o cx st) (he : x = ad k)
    (h : ∀ q h', Fr h₀ L h' m → News h₀ L h' ((q, methodObj (.ref 35) (.ref 156)) :: news) → Q (.ref q, []) { s with heap := h', toks := s.toks + 1 }) : wpAny (model prog w) A (getMethod (.ref x) (Str.ofString "from_endpoints") pl) Q E s := by
  subst he
  have hx := q.inst k
  obtain ⟨h1, h2, h3, h4, t1, t2, t3, t4, hdx⟩ := q.dict k
  exact kmu_cm F X N (InstAt.of_news N hx hdx) (pg_from_endpoints _) (hasD _) (fi_from_endpoints _) (ti_from_endpoints _) (sp_from_endpoints _) (tk_from_endpoints _) (by decide +kernel) rfl (rc_from_endpoints _) (fun q h' F' N' _ => h q h' F' N')
end
local macro_rules | `(tactic| walk_at "getMethod ref") => `(tactic| (k_here; with_reducible apply gm_from_endpoints; k_dflt (walk_at "mE"; walk_at "m5"); walk_at "mI"))
section
variable {ι : Type} {prog : Program} {w : World} {p : Program} {loose : List Str} {mean : ExcName → Option Value} {mg mb : Str → Option Value}
    {dp un : Nat} {gd : Option (List Code)} {cn : Str} {cs : Scope} {a : Addr} {ccd : Value} {cl : List (Str × Addr)} {outer : List Env} {A A₀ : Around} {base h₀ : Heap} {L : Addr} {m : Str → Option Value} {news : List (Addr × Obj)} {s : Shared}
    {Q : Value → Shared → Prop} {E : Value → Shared → Prop} {ex : Bool} {ad dd : ι → Addr} {R o : ι → ι} {cx : Value} {st : ι → Value}

theorem callWith_MKW {M : Model} {env : Env} {pos : Pos} {first : List Value} {e : Expr} {rest : List Expr} {kws : List Keyword} {K : Frag} {q g : Addr} {self : Value} (xX : K.In h₀) (xN : News h₀ L s.heap news) (xq : (q, methodObj (.ref g) self) ∈ news) (hf : fnIn K g = true) (hall : (backToKw pos (keywordEach kws env)).all (·.1.isSome) = true)
    (h : wpAny M A (spliced (backTo pos (starEach (e :: rest) env))) (fun vs s₁ => wpAny M A (evalAll ((backToKw pos (keywordEach kws env)).map (·.2)))
      (fun ks s₂ => MethP K q g self s₂.heap ∧ wpAny M A (call (.ref q) (first ++ vs) (((backToKw pos (keywordEach kws env)).filterMap (·.1)).zip ks)) Q E s₂) E s₁) E s)
    (hplain : ((backTo pos (starEach (e :: rest) env)).any (·.1) || (backToKw pos (keywordEach kws env)).any (·.1.isNone)) = false := by rfl) (he : starEach (e :: rest) env = (false, eval e env) :: starEach rest env := by rfl) :
    wpAny M A (callWith pos (.ref q) first (backTo pos (starEach (e :: rest) env)) (backToKw pos (keywordEach kws env))) Q E s :=
  callWith_of hplain (keeps_M hf) (evalArgs_kw2 hall h he)
end
local macro_rules | `(tactic| walk_at "callWith ref") => `(tactic| (k_here; with_reducible apply callWith_MKW; k_dflt ((case xX => k_asm); (case xN => k_asm); (case xq => k_mem); (case hf => exact fn_from_endpoints _); (case hall => exact rfl); (case hplain => exact rfl); (case he => exact rfl); k_whole)))
section
variable {ι : Type} {prog : Program} {w : World} {p : Program} {loose : List Str} {mean : ExcName → Option Value} {mg mb : Str → Option Value}
    {dp un : Nat} {gd : Option (List Code)} {cn : Str} {cs : Scope} {a : Addr} {ccd : Value} {cl : List (Str × Addr)} {outer : List Env} {A A₀ : Around} {base h₀ : Heap} {L : Addr} {m : Str → Option Value} {news : List (Addr × Obj)} {s : Shared}
    {Q : Value → Shared → Prop} {E : Value → Shared → Prop} {ex : Bool} {ad dd : ι → Addr} {R o : ι → ι} {cx : Value} {st : ι → Value}

set_option maxHeartbeats 8000000 in
theorem connect_ {i j : ι} (B : Below A₀ base outer h₀) (F : Fr h₀ L s.heap m) (X : (hd.heap_39 w.params).In h₀) (N : News h₀ L s.heap news) (T : Top p loose mean mg mb h₀) (hk : cs.kind = .function)
    (q : QE news ad dd R o cx st) {x y : Addr} (he : x = ad i) (hy : y = ad j) (hcx : handedIn cx = true) (hst : ∀ k, handedIn (st k) = true) (hdp : dp + 60 < recursionLimit) (hu : un + 200 < cLine)
    (ret : ∀ h' tk' news' (ad' dd' : ι ⊕ Fin 4 → Addr), Fr h₀ L h' m → News h₀ L h' news' →
      QE news' ad' dd' (Sum.map R rot4) (spl (Sum.map R rot4) (spl (Sum.map R rot4) (Sum.map o ini4) (.inr 0) (Sum.map R rot4 (Sum.map o ini4 (Sum.map R rot4 (Sum.map R rot4 (Sum.map R rot4 (.inl i))))))) (Sum.map R rot4 (Sum.map R rot4 (.inr 0))) (.inl j)) cx (Sum.elim st (st4 (st (R (R i))) (st j))) → (∀ k, ad k = ad' (.inl k)) → Stay news news' → Q (.ref (ad' (.inr 0))) { s with heap := h', toks := tk' }) {A : Around} (hA : A = ktrTop dp un gd cn cs L a ccd cl outer) :
    wpAny (model prog w) A (call (.ref 125) [.ref x, .ref y] []) Q E s := by
  subst hA
  subst he hy
  refine wpAny_call ?_
  k_enter
  k_steps
  refine ret _ _ _ _ _ (by k_asm) (by k_asm) (by assumption) (by assumption) ?_
  intro p hp hc
  solve_by_elim (maxDepth := 20) [List.Mem.tail]

set_option maxHeartbeats 8000000 in
theorem delete_ {k : ι} (B : Below A₀ base outer h₀) (F : Fr h₀ L s.heap m) (X : (hd.heap_39 w.params).In h₀) (N : News h₀ L s.heap news) (T : Top p loose mean mg mb h₀) (hk : cs.kind = .function)
    (q : QE news ad dd R o cx st) {x : Addr} (he : x = ad k) (hdp : dp + 60 < recursionLimit) (hu : un + 200 < cLine)
    (ret : ∀ h' tk' news', Fr h₀ L h' m → News h₀ L h' news' → QE news' ad dd R (dele R o k) cx st → Stay news news' → Q .none { s with heap := h', toks := tk' }) {A : Around} (hA : A = ktrTop dp un gd cn cs L a ccd cl outer) :
    wpAny (model prog w) A (call (.ref 132) [.ref x] []) Q E s := by
  subst hA
  subst he
  refine wpAny_call ?_
  k_enter
  k_steps
  refine ret _ _ _ (by k_asm) (by k_asm) (by assumption) ?_
  intro p hp hc
  solve_by_elim (maxDepth := 20) [List.Mem.tail]
end
local macro_rules | `(tactic| walk_at "call ref") => `(tactic| (k_here; (with_reducible show wpAny _ _ (call (Value.ref 132) _ _) _ _ _); k_dflt (refine' delete_ (hA := rfl) ?B ?F ?X ?N ?T ?hk ?q ?he ?hdp ?hu ?_; walk_at "mE"; walk_at "mS"); walk_at "mI"))
section
variable {ι : Type} {prog : Program} {w : World} {p : Program} {loose : List Str} {mean : ExcName → Option Value} {mg mb : Str → Option Value}
    {dp un : Nat} {gd : Option (List Code)} {cn : Str} {cs : Scope} {a : Addr} {ccd : Value} {cl : List (Str × Addr)} {outer : List Env} {A A₀ : Around} {base h₀ : Heap} {L : Addr} {m : Str → Option Value} {news : List (Addr × Obj)} {s : Shared}
    {Q : Value → Shared → Prop} {E : Value → Shared → Prop} {ex : Bool} {ad dd : ι → Addr} {R o : ι → ι} {cx : Value} {st : ι → Value}
end

/-! loops by an invariant over a state of one's own -/
noncomputable def Stopped (P : Prop) : Prop := P
theorem stopped {P : Prop} (h : Stopped P) : P := h
theorem Stopped.go {P : Prop} (h : P) : Stopped P := h
theorem gen_post2 {M : Model} {A : Around} {α β : Type} {t : Sem β} {u : Sem α} {Q : α → Shared → Prop} {E E' : Value → Shared → Prop} {s : Shared}
    (h : ∀ Q' : α → Shared → Prop, (∀ a s, Q a s → Q' a s) → wpAny M A t (fun _ s₂ => wpAny M A u Q' E s₂) E' s) : wpAny M A t (fun _ s₂ => wpAny M A u Q E s₂) E' s := h Q fun _ _ x => x
theorem gen_both {M : Model} {A : Around} {body : List Stmt} {env : Env} {Q : Flow → Shared → Prop} {E : Value → Shared → Prop} {s : Shared} (hE : PassesOwn M A env E)
    (h : ∀ (Q' : Flow → Shared → Prop) (E' : Value → Shared → Prop), (∀ a s, Q a s → Q' a s) → PassesOwn M A env E' → wpAny M A (execs body env) Q' E' s) : wpAny M A (execs body env) Q E s := h Q E (fun _ _ x => x) hE
/-- not an iterator -/
noncomputable def itB (o : Obj) : Bool := match o.data with
  | .fields _ => o.cls == .type "range_iterator" || o.cls == .type "list_iterator" || o.cls == .type "tuple_iterator"
  | _ => false
noncomputable abbrev NoIt (old news : List (Addr × Obj)) : Prop := ∀ p ∈ news, itB p.2 = false ∨ p ∈ old
noncomputable def TurnEndJ (h₀ : Heap) (L : Addr) (old : List (Addr × Obj)) (J : (Str → Option Value) → List (Addr × Obj) → Prop) (I : Addr × Obj) (s₁ s₂ : Shared) : Prop :=
  ∃ h' tk m' news', s₂ = { s₁ with heap := h', toks := tk } ∧ Fr h₀ L h' m' ∧ News h₀ L h' (I :: news') ∧ NoIt old news' ∧ J m' news'
noncomputable def TurnJ (h₀ : Heap) (L : Addr) (old : List (Addr × Obj)) (J : (Str → Option Value) → List (Addr × Obj) → Prop) (I : Addr × Obj) (s₁ : Shared) (Q : Flow → Shared → Prop) (f : Flow) (s₂ : Shared) : Prop :=
  match f with
  | .ret v => Q (.ret v) s₂
  | .brk => Q .next s₂
  | _ => TurnEndJ h₀ L old J I s₁ s₂
theorem gen_post {M : Model} {A : Around} {α : Type} {t : Sem α} {Q : α → Shared → Prop} {E : Value → Shared → Prop} {s : Shared}
    (h : ∀ Q' : α → Shared → Prop, (∀ a s, Q a s → Q' a s) → wpAny M A t Q' E s) : wpAny M A t Q E s := h Q fun _ _ x => x
section
variable {prog : Program} {w : World} {A : Around} {E : Value → Shared → Prop} {s : Shared} {env : Env} {h₀ : Heap} {x : Str} {body : List Stmt} {Q : Flow → Shared → Prop}
theorem noit_off {L : Addr} {h : Heap} {I : Addr × Obj} {old news : List (Addr × Obj)} (N : News h₀ L h (I :: news)) (hI : itB I.2 = true) (ho : ∀ p ∈ old, p.1 ≠ I.1) (n : NoIt old news) : ∀ p ∈ news, p.1 ≠ I.1 := fun p hp e => by
  rcases n p hp with h3 | h3
  · have h1 := (N p (.tail _ hp)).1
    have h2 := (N I (.head _)).1
    rw [e, h2] at h1
    rw [← Option.some.inj h1, hI] at h3
    cases h3
  · exact ho p h3 e

theorem loop_at_J {I : Addr} {fp : List Addr} {n : Nat} {P : Nat → Value → Prop} {St : Nat → Heap → Prop} {m₀ : Str → Option Value} {news : List (Addr × Obj)} (J : Nat → (Str → Option Value) → List (Addr × Obj) → Prop)
    (W : Walks prog w A I fp [I] n P St) (hIf : I ∈ fp) (hI0 : h₀.get? I = none) (hob : ∀ i h, St i h → ∃ o, h.get? I = some o ∧ itB o = true)
    (hfp : ∀ b ∈ fp, b = I ∨ (∃ q, h₀.get? b = some q) ∨ ∃ ob, ∀ i m nw, J i m nw → (b, ob) ∈ nw)
    (hLf : env.locals ∉ fp) (hst : St 0 s.heap) (F : Fr h₀ env.locals s.heap m₀) (N : News h₀ env.locals s.heap news) (hoff0 : ∀ p ∈ news, p.1 < I) (hj : J 0 m₀ news)
    (turn : ∀ i v m₁ news₁ h tk o, i < n → P i v → J i m₁ news₁ → NoIt news news₁ → Fr h₀ env.locals h (fun y => if y = x then some v else m₁ y) → News h₀ env.locals h ((I, o) :: news₁) → itB o = true → (∀ p ∈ news, p.1 < I) →
      wpAny (model prog w) A (execs body env) (TurnJ h₀ env.locals news (J (i + 1)) (I, o) { s with heap := h, toks := tk } Q) E { s with heap := h, toks := tk })
    (done : ∀ m₁ news₁ h tk, J n m₁ news₁ → NoIt news news₁ → Fr h₀ env.locals h m₁ → News h₀ env.locals h news₁ → Q .next { s with heap := h, toks := tk }) :
    LoopAtV prog w A h₀ env x body Q E (.ref I) s := by
  let J' : Nat → (Str → Option Value) → List (Addr × Obj) → Prop := fun i m₁ news₁ => NoIt news news₁ ∧ J i m₁ news₁
  have hI := hob 0 _ hst
  obtain ⟨oI, hoI, hit⟩ := hI
  refine ⟨I, fp, [I], n, P, St, m₀, news, J', rfl, W, hLf, ?_, ?_, hst, F, N, ⟨fun _ hp => .inr hp, hj⟩, ?_, ?_⟩
  · intro b hb
    rw [List.mem_singleton.mp hb]; exact hI0
  · intro p hp hq
    exact Nat.ne_of_lt (hoff0 p hp) (List.mem_singleton.mp hq)
  · rintro i v m₁ news₁ s₁ own ⟨hh', tk', rfl⟩ hin hP ⟨hn₁, hJ⟩ hoff hown hat hall hst' F₁ N₁
    obtain ⟨o, ho, hio'⟩ := hob _ _ hst'
    have hio : (I, o) ∈ own := hall I hIf hI0 o ho
    have N₂ : News h₀ env.locals hh' ((I, o) :: news₁) := by
      intro p hp
      rcases List.mem_cons.mp hp with rfl | hp
      · exact N₁ _ (List.mem_append_left _ hio)
      · exact N₁ _ (List.mem_append_right _ hp)
    refine wpAny_mono (turn i v m₁ news₁ hh' tk' o hin hP hJ hn₁ F₁ N₂ hio' hoff0) (fun f s₂ p => ?_) fun _ _ e => e
    have fin : TurnEndJ h₀ env.locals news (J (i + 1)) (I, o) { s with heap := hh', toks := tk' } s₂ → LoopStepU h₀ env.locals [I] own (J' (i + 1)) { s with heap := hh', toks := tk' } .next s₂ := by
      rintro ⟨h', tk, m', news', e, F', N', hn', hm⟩
      refine ⟨rfl, h', tk, m', news', e, F', fun p hp => ?_, fun p hp hq => ?_, hn', hm⟩
      · rcases List.mem_append.mp hp with hp | hp
        · rcases hfp p.1 (hown p hp) with e1 | ⟨q, hq⟩ | ⟨ob, hob'⟩
          · have h1 := hat p hp
            have h1 : hh'.get? p.1 = some p.2 := h1
            rw [e1, ho] at h1
            have : p = (I, o) := Prod.ext e1 (Option.some.inj h1).symm
            rw [this]
            exact N' _ (.head _)
          · have h3 := (N₁ p (List.mem_append_left _ hp)).2.2
            rw [hq] at h3; cases h3
          · have h1 : hh'.get? p.1 = some p.2 := hat p hp
            have h2 := (N₁ _ (List.mem_append_right _ (hob' _ _ _ hJ))).1
            have h2 : hh'.get? p.1 = some ob := h2
            rw [h1] at h2
            have : p = (p.1, ob) := Prod.ext rfl (Option.some.inj h2)
            rw [this]
            exact N' _ (.tail _ (hob' _ _ _ hm))
        · exact N' _ (.tail _ hp)
      · exact noit_off N' hio' (fun p hp => Nat.ne_of_lt (hoff0 p hp)) hn' p hp (List.mem_singleton.mp hq)
    cases f with
    | ret v => exact .ret p
    | brk => exact .brk p
    | next => exact .next (fin p)
    | cont => exact .cont (fin p)
  · rintro h' tk m' news' F' N' _ ⟨hn', hJ⟩
    exact done m' news' h' tk hJ hn' F' N'

theorem iter_rangeJ {r : Addr} {a₀ b₀ c₀ : Int} {t₀ u₀ v₀ : Tok} {n : Nat} {m₀ : Str → Option Value} {news : List (Addr × Obj)} (J : Nat → (Str → Option Value) → List (Addr × Obj) → Prop)
    (hh : A.handled = none) (hr : IsRange s.heap r a₀ b₀ c₀ t₀ u₀ v₀) (hsmall : Builtin.Range.small a₀ b₀ c₀ = true) (hsz : Builtin.Range.rangeSize a₀ b₀ c₀ = (n : Int)) (F : Fr h₀ env.locals s.heap m₀) (N : News h₀ env.locals s.heap news) (hj : J 0 m₀ news)
    (turn : ∀ (i : Nat) t m₁ news₁ h tk I o, i < n → J i m₁ news₁ → NoIt news news₁ → Fr h₀ env.locals h (fun y => if y = x then some (.int (a₀ + i * c₀) t) else m₁ y) → News h₀ env.locals h ((I, o) :: news₁) → itB o = true → (∀ p ∈ news, p.1 < I) →
      wpAny (model prog w) A (execs body env) (TurnJ h₀ env.locals news (J (i + 1)) (I, o) { s with heap := h, toks := tk } Q) E { s with heap := h, toks := tk })
    (done : ∀ m₁ news₁ h tk, J n m₁ news₁ → NoIt news news₁ → Fr h₀ env.locals h m₁ → News h₀ env.locals h news₁ → Q .next { s with heap := h, toks := tk }) :
    wpAny (model prog w) A (pyIter (.ref r)) (fun it s₂ => LoopAtV prog w A h₀ env x body Q E it s₂) E s := by
  refine wpAny_pyIter_range hr hsmall ?_
  have W : Walks prog w A s.heap.objs.size [s.heap.objs.size] [s.heap.objs.size] n (fun i v => i < n ∧ ∃ t, v = .int (a₀ + i * c₀) t)
      (fun i h => IsRangeIter h s.heap.objs.size (a₀ + (i : Nat) * c₀) ((n : Int) - (i : Nat)) c₀) := (Walks.range hh _ a₀ c₀ n).bound
  refine loop_at_J J W (List.mem_singleton.mpr rfl) (next_is_new F) (fun i h hs => ⟨_, hs, by rfl⟩) (fun b hb => .inl (List.mem_singleton.mp hb)) ?_ (by show IsRangeIter _ _ _ _ _; rw [hsz]; simpa using Heap.get?_push_size _ rfl) (F.push _) (fun p hp => ⟨Heap.get?_push_of_some _ (N p hp).1, (N p hp).2⟩) (fun p hp => Heap.lt_size (N p hp).1) hj ?_ ?_
  · intro hm
    exact absurd F.ns.lt ((List.mem_singleton.mp hm) ▸ Nat.lt_irrefl _)
  · rintro i v m₁ news₁ h tk o hi ⟨_, t, rfl⟩ hJ hn₁ F₁ N₁ ho hq
    exact turn i t m₁ news₁ h tk _ o hi hJ hn₁ F₁ N₁ ho hq
  · exact done

theorem iter_listJ {l : Addr} {vs : List Value} {k : Nat} {m₀ : Str → Option Value} {news : List (Addr × Obj)} (J : Nat → (Str → Option Value) → List (Addr × Obj) → Prop)
    (hh : A.handled = none) (hl : ∀ i m nw, J i m nw → (l, ({ cls := .type "list", data := .seq vs.toArray k } : Obj)) ∈ nw) (F : Fr h₀ env.locals s.heap m₀) (N : News h₀ env.locals s.heap news) (hj : J 0 m₀ news)
    (turn : ∀ (i : Nat) v m₁ news₁ h tk I o, i < vs.length → vs[i]? = some v → J i m₁ news₁ → NoIt news news₁ → Fr h₀ env.locals h (fun y => if y = x then some v else m₁ y) → News h₀ env.locals h ((I, o) :: news₁) → itB o = true → (∀ p ∈ news, p.1 < I) →
      wpAny (model prog w) A (execs body env) (TurnJ h₀ env.locals news (J (i + 1)) (I, o) { s with heap := h, toks := tk } Q) E { s with heap := h, toks := tk })
    (done : ∀ m₁ news₁ h tk, J vs.length m₁ news₁ → NoIt news news₁ → Fr h₀ env.locals h m₁ → News h₀ env.locals h news₁ → Q .next { s with heap := h, toks := tk }) :
    wpAny (model prog w) A (pyIter (.ref l)) (fun it s₂ => LoopAtV prog w A h₀ env x body Q E it s₂) E s := by
  have hm := hl _ _ _ hj
  have hls : s.heap.IsList l vs.toArray := ⟨_, (N _ hm).1, rfl, _, rfl⟩
  have hlt : l < s.heap.objs.size := Heap.lt_size (N _ hm).1
  have hne : l ≠ s.heap.objs.size := Nat.ne_of_lt hlt
  refine wpAny_pyIter_list hls ?_
  have W := Walks.list (prog := prog) (w := w) hh s.heap.objs.size l hne vs.toArray
  have hlen : vs.toArray.size = vs.length := by simp
  rw [hlen] at W
  refine loop_at_J J W (List.mem_cons.mpr (.inl rfl)) (next_is_new F) (fun i h hs => ?_) (fun b hb => ?_) ?_ ⟨⟨_, Heap.get?_push_size _ rfl, rfl, rfl⟩, hls.at fun o e => Heap.get?_push_of_some _ e⟩ (F.push _) (fun p hp => ⟨Heap.get?_push_of_some _ (N p hp).1, (N p hp).2⟩) (fun p hp => Heap.lt_size (N p hp).1) hj ?_ ?_
  · obtain ⟨⟨o, ho, hc, hd⟩, _⟩ := hs
    exact ⟨o, ho, by unfold itB; rw [hd]; dsimp only; rw [hc]; rfl⟩
  · rcases List.mem_cons.mp hb with e | hb
    · exact .inl e
    · exact .inr (.inr ⟨_, (List.mem_singleton.mp hb) ▸ hl⟩)
  · intro hm'
    rcases List.mem_cons.mp hm' with e | hm'
    · exact absurd F.ns.lt (e ▸ Nat.lt_irrefl _)
    · exact (N _ hm).2.1 (List.mem_singleton.mp hm').symm
  · intro i v m₁ news₁ h tk o hi hP hJ hn₁ F₁ N₁ ho hq
    exact turn i v m₁ news₁ h tk _ o hi (by simpa using hP) hJ hn₁ F₁ N₁ ho hq
  · exact done

theorem iter_tupJ {l : Addr} {vs : List Value} {k : Nat} {m₀ : Str → Option Value} {news : List (Addr × Obj)} (J : Nat → (Str → Option Value) → List (Addr × Obj) → Prop)
    (hh : A.handled = none) (hl : ∀ i m nw, J i m nw → (l, ({ cls := .type "tuple", data := .seq vs.toArray k } : Obj)) ∈ nw) (F : Fr h₀ env.locals s.heap m₀) (N : News h₀ env.locals s.heap news) (hj : J 0 m₀ news)
    (turn : ∀ (i : Nat) v m₁ news₁ h tk I o, i < vs.length → vs[i]? = some v → J i m₁ news₁ → NoIt news news₁ → Fr h₀ env.locals h (fun y => if y = x then some v else m₁ y) → News h₀ env.locals h ((I, o) :: news₁) → itB o = true → (∀ p ∈ news, p.1 < I) →
      wpAny (model prog w) A (execs body env) (TurnJ h₀ env.locals news (J (i + 1)) (I, o) { s with heap := h, toks := tk } Q) E { s with heap := h, toks := tk })
    (done : ∀ m₁ news₁ h tk, J vs.length m₁ news₁ → NoIt news news₁ → Fr h₀ env.locals h m₁ → News h₀ env.locals h news₁ → Q .next { s with heap := h, toks := tk }) :
    wpAny (model prog w) A (pyIter (.ref l)) (fun it s₂ => LoopAtV prog w A h₀ env x body Q E it s₂) E s := by
  have hm := hl _ _ _ hj
  have hls : s.heap.IsTuple l vs.toArray := ⟨_, (N _ hm).1, rfl, _, rfl⟩
  have hlt : l < s.heap.objs.size := Heap.lt_size (N _ hm).1
  have hne : l ≠ s.heap.objs.size := Nat.ne_of_lt hlt
  refine wpAny_pyIter_tuple hls ?_
  have W := Walks.tuple (prog := prog) (w := w) hh s.heap.objs.size l hne vs.toArray
  have hlen : vs.toArray.size = vs.length := by simp
  rw [hlen] at W
  refine loop_at_J J W (List.mem_cons.mpr (.inl rfl)) (next_is_new F) (fun i h hs => ?_) (fun b hb => ?_) ?_ ⟨⟨_, Heap.get?_push_size _ rfl, rfl, rfl⟩, hls.at fun o e => Heap.get?_push_of_some _ e⟩ (F.push _) (fun p hp => ⟨Heap.get?_push_of_some _ (N p hp).1, (N p hp).2⟩) (fun p hp => Heap.lt_size (N p hp).1) hj ?_ ?_
  · obtain ⟨⟨o, ho, hc, hd⟩, _⟩ := hs
    exact ⟨o, ho, by unfold itB; rw [hd]; dsimp only; rw [hc]; rfl⟩
  · rcases List.mem_cons.mp hb with e | hb
    · exact .inl e
    · exact .inr (.inr ⟨_, (List.mem_singleton.mp hb) ▸ hl⟩)
  · intro hm'
    rcases List.mem_cons.mp hm' with e | hm'
    · exact absurd F.ns.lt (e ▸ Nat.lt_irrefl _)
    · exact (N _ hm).2.1 (List.mem_singleton.mp hm').symm
  · intro i v m₁ news₁ h tk o hi hP hJ hn₁ F₁ N₁ ho hq
    exact turn i v m₁ news₁ h tk _ o hi (by simpa using hP) hJ hn₁ F₁ N₁ ho hq
  · exact done

theorem rangeSize01 (n : Nat) : Builtin.Range.rangeSize 0 (n : Int) 1 = (n : Int) := by
  rw [rangeSize_one]; split <;> omega
/-- a range from nought by ones -/
theorem iter_rangeN {r : Addr} {t₀ u₀ v₀ : Tok} {n : Nat} {m₀ : Str → Option Value} {news : List (Addr × Obj)} (J : Nat → (Str → Option Value) → List (Addr × Obj) → Prop)
    (hh : A.handled = none) (hr : IsRange s.heap r 0 (n : Int) 1 t₀ u₀ v₀) (hsmall : n ≤ 1000) (F : Fr h₀ env.locals s.heap m₀) (N : News h₀ env.locals s.heap news) (hj : J 0 m₀ news)
    (turn : ∀ (i : Nat) t m₁ news₁ h tk I o, i < n → J i m₁ news₁ → NoIt news news₁ → Fr h₀ env.locals h (fun y => if y = x then some (.int (i : Int) t) else m₁ y) → News h₀ env.locals h ((I, o) :: news₁) → itB o = true → (∀ p ∈ news, p.1 < I) →
      wpAny (model prog w) A (execs body env) (TurnJ h₀ env.locals news (J (i + 1)) (I, o) { s with heap := h, toks := tk } Q) E { s with heap := h, toks := tk })
    (done : ∀ m₁ news₁ h tk, J n m₁ news₁ → NoIt news news₁ → Fr h₀ env.locals h m₁ → News h₀ env.locals h news₁ → Q .next { s with heap := h, toks := tk }) :
    wpAny (model prog w) A (pyIter (.ref r)) (fun it s₂ => LoopAtV prog w A h₀ env x body Q E it s₂) E s :=
  iter_rangeJ J hh hr (small_one (by omega) (by omega) (by omega) (by omega)) (rangeSize01 n) F N hj (fun i t m₁ news₁ h tk I o hi hJ hn₁ F₁ N₁ ho hq => by
    rw [show (0 : Int) + (i : Int) * 1 = (i : Int) by omega] at F₁
    exact turn i t m₁ news₁ h tk I o hi hJ hn₁ F₁ N₁ ho hq) done
noncomputable def TurnEndS {S : Type} (h₀ : Heap) (L : Addr) (old : List (Addr × Obj)) (x : Str) (mp : S → Str → Option Value) (Z : S → List (Addr × Obj) → Prop) (I : Addr × Obj) (s₁ s₂ : Shared) : Prop :=
  ∃ h' tk st u news', s₂ = { s₁ with heap := h', toks := tk } ∧ Fr h₀ L h' (fun y => if y = x then u else mp st y) ∧ News h₀ L h' (I :: news') ∧ NoIt old news' ∧ Z st news'
noncomputable def TurnS {S : Type} (h₀ : Heap) (L : Addr) (old : List (Addr × Obj)) (x : Str) (mp : S → Str → Option Value) (Z : S → List (Addr × Obj) → Prop) (I : Addr × Obj) (s₁ : Shared) (Q : Flow → Shared → Prop) (f : Flow) (s₂ : Shared) : Prop :=
  match f with
  | .ret v => Q (.ret v) s₂
  | .brk => Q .next s₂
  | _ => TurnEndS h₀ L old x mp Z I s₁ s₂
theorem TurnEndS.intro {S : Type} {L : Addr} {old : List (Addr × Obj)} {mp : S → Str → Option Value} {Z : S → List (Addr × Obj) → Prop} {I : Addr × Obj} {s₁ : Shared} {h' : Heap} {tk : Nat} {news' : List (Addr × Obj)} (st : S) {u : Option Value}
    (F : Fr h₀ L h' (fun y => if y = x then u else mp st y)) (N : News h₀ L h' (I :: news')) (n : NoIt old news') (j : Z st news') : TurnEndS h₀ L old x mp Z I s₁ { s₁ with heap := h', toks := tk } := ⟨h', tk, st, u, news', rfl, F, N, n, j⟩
theorem Fr.eqv {h : Heap} {L : Addr} {m m' : Str → Option Value} (F : Fr h₀ L h m) (e : ∀ y, m y = m' y) : Fr h₀ L h m' := (funext e : m = m') ▸ F

theorem iter_rangeS {S : Type} {r : Addr} {t₀ u₀ v₀ : Tok} {n : Nat} {news : List (Addr × Obj)} (mp : S → Str → Option Value) (Z : Nat → S → List (Addr × Obj) → Prop) (st₀ : S)
    (hh : A.handled = none) (hr : IsRange s.heap r 0 (n : Int) 1 t₀ u₀ v₀) (hsmall : n ≤ 1000) (F : Fr h₀ env.locals s.heap (mp st₀)) (N : News h₀ env.locals s.heap news) (hj : Z 0 st₀ news)
    (turn : ∀ (i : Nat) t st news₁ h tk I o, i < n → Z i st news₁ → NoIt news news₁ → Fr h₀ env.locals h (fun y => if y = x then some (.int (i : Int) t) else mp st y) → News h₀ env.locals h ((I, o) :: news₁) → itB o = true → (∀ p ∈ news, p.1 < I) →
      wpAny (model prog w) A (execs body env) (TurnS h₀ env.locals news x mp (Z (i + 1)) (I, o) { s with heap := h, toks := tk } Q) E { s with heap := h, toks := tk })
    (done : ∀ st u news₁ h tk, Z n st news₁ → NoIt news news₁ → Fr h₀ env.locals h (fun y => if y = x then u else mp st y) → News h₀ env.locals h news₁ → Q .next { s with heap := h, toks := tk }) :
    wpAny (model prog w) A (pyIter (.ref r)) (fun it s₂ => LoopAtV prog w A h₀ env x body Q E it s₂) E s := by
  have sh : ∀ (st : S) (u v : Option Value), (fun y => if y = x then v else (fun y => if y = x then u else mp st y) y) = fun y => if y = x then v else mp st y := fun st u v => by
    funext y; by_cases hy : y = x <;> simp [hy]
  refine iter_rangeN (fun i m nw => ∃ st u, m = (fun y => if y = x then u else mp st y) ∧ Z i st nw) hh hr hsmall F N ⟨st₀, mp st₀ x, ?_, hj⟩ ?_ ?_
  · funext y; by_cases hy : y = x <;> simp [hy]
  · rintro i t m₁ news₁ h tk I o hi ⟨st, u, rfl, hz⟩ hn₁ F₁ N₁ ho hq
    rw [sh] at F₁
    refine wpAny_mono (turn i t st news₁ h tk I o hi hz hn₁ F₁ N₁ ho hq) (fun f s₂ q => ?_) fun _ _ e => e
    have fin : TurnEndS h₀ env.locals news x mp (Z (i + 1)) (I, o) { s with heap := h, toks := tk } s₂ → TurnEndJ h₀ env.locals news (fun m nw => ∃ st u, m = (fun y => if y = x then u else mp st y) ∧ Z (i + 1) st nw) (I, o) { s with heap := h, toks := tk } s₂ := by
      rintro ⟨h', tk', st', u', news', e, F', N', n', z'⟩
      exact ⟨h', tk', _, news', e, F', N', n', st', u', rfl, z'⟩
    cases f with
    | ret v => exact q
    | brk => exact q
    | next => exact fin q
    | cont => exact fin q
  · rintro m₁ news₁ h tk ⟨st, u, rfl, hz⟩ hn₁ F₁ N₁
    exact done st u news₁ h tk hz hn₁ F₁ N₁

theorem iter_listS {S : Type} {l : Addr} {vs : List Value} {k : Nat} {news : List (Addr × Obj)} (mp : S → Str → Option Value) (Z : Nat → S → List (Addr × Obj) → Prop) (st₀ : S)
    (hh : A.handled = none) (hl : ∀ i st nw, Z i st nw → (l, ({ cls := .type "list", data := .seq vs.toArray k } : Obj)) ∈ nw) (F : Fr h₀ env.locals s.heap (mp st₀)) (N : News h₀ env.locals s.heap news) (hj : Z 0 st₀ news)
    (turn : ∀ (i : Nat) v st news₁ h tk I o, i < vs.length → vs[i]? = some v → Z i st news₁ → NoIt news news₁ → Fr h₀ env.locals h (fun y => if y = x then some v else mp st y) → News h₀ env.locals h ((I, o) :: news₁) → itB o = true → (∀ p ∈ news, p.1 < I) →
      wpAny (model prog w) A (execs body env) (TurnS h₀ env.locals news x mp (Z (i + 1)) (I, o) { s with heap := h, toks := tk } Q) E { s with heap := h, toks := tk })
    (done : ∀ st u news₁ h tk, Z vs.length st news₁ → NoIt news news₁ → Fr h₀ env.locals h (fun y => if y = x then u else mp st y) → News h₀ env.locals h news₁ → Q .next { s with heap := h, toks := tk }) :
    wpAny (model prog w) A (pyIter (.ref l)) (fun it s₂ => LoopAtV prog w A h₀ env x body Q E it s₂) E s := by
  have sh : ∀ (st : S) (u v : Option Value), (fun y => if y = x then v else (fun y => if y = x then u else mp st y) y) = fun y => if y = x then v else mp st y := fun st u v => by
    funext y; by_cases hy : y = x <;> simp [hy]
  refine iter_listJ (fun i m nw => ∃ st u, m = (fun y => if y = x then u else mp st y) ∧ Z i st nw) hh (fun i m nw ⟨st, u, _, hz⟩ => hl i st nw hz) F N ⟨st₀, mp st₀ x, ?_, hj⟩ ?_ ?_
  · funext y; by_cases hy : y = x <;> simp [hy]
  · rintro i v m₁ news₁ h tk I o hi hv ⟨st, u, rfl, hz⟩ hn₁ F₁ N₁ ho hq
    rw [sh] at F₁
    refine wpAny_mono (turn i v st news₁ h tk I o hi hv hz hn₁ F₁ N₁ ho hq) (fun f s₂ q => ?_) fun _ _ e => e
    have fin : TurnEndS h₀ env.locals news x mp (Z (i + 1)) (I, o) { s with heap := h, toks := tk } s₂ → TurnEndJ h₀ env.locals news (fun m nw => ∃ st u, m = (fun y => if y = x then u else mp st y) ∧ Z (i + 1) st nw) (I, o) { s with heap := h, toks := tk } s₂ := by
      rintro ⟨h', tk', st', u', news', e, F', N', n', z'⟩
      exact ⟨h', tk', _, news', e, F', N', n', st', u', rfl, z'⟩
    cases f with
    | ret v => exact q
    | brk => exact q
    | next => exact fin q
    | cont => exact fin q
  · rintro m₁ news₁ h tk ⟨st, u, rfl, hz⟩ hn₁ F₁ N₁
    exact done st u news₁ h tk hz hn₁ F₁ N₁
theorem iter_tupS {S : Type} {l : Addr} {vs : List Value} {k : Nat} {news : List (Addr × Obj)} (mp : S → Str → Option Value) (Z : Nat → S → List (Addr × Obj) → Prop) (st₀ : S)
    (hh : A.handled = none) (hl : ∀ i st nw, Z i st nw → (l, ({ cls := .type "tuple", data := .seq vs.toArray k } : Obj)) ∈ nw) (F : Fr h₀ env.locals s.heap (mp st₀)) (N : News h₀ env.locals s.heap news) (hj : Z 0 st₀ news)
    (turn : ∀ (i : Nat) v st news₁ h tk I o, i < vs.length → vs[i]? = some v → Z i st news₁ → NoIt news news₁ → Fr h₀ env.locals h (fun y => if y = x then some v else mp st y) → News h₀ env.locals h ((I, o) :: news₁) → itB o = true → (∀ p ∈ news, p.1 < I) →
      wpAny (model prog w) A (execs body env) (TurnS h₀ env.locals news x mp (Z (i + 1)) (I, o) { s with heap := h, toks := tk } Q) E { s with heap := h, toks := tk })
    (done : ∀ st u news₁ h tk, Z vs.length st news₁ → NoIt news news₁ → Fr h₀ env.locals h (fun y => if y = x then u else mp st y) → News h₀ env.locals h news₁ → Q .next { s with heap := h, toks := tk }) :
    wpAny (model prog w) A (pyIter (.ref l)) (fun it s₂ => LoopAtV prog w A h₀ env x body Q E it s₂) E s := by
  have sh : ∀ (st : S) (u v : Option Value), (fun y => if y = x then v else (fun y => if y = x then u else mp st y) y) = fun y => if y = x then v else mp st y := fun st u v => by
    funext y; by_cases hy : y = x <;> simp [hy]
  refine iter_tupJ (fun i m nw => ∃ st u, m = (fun y => if y = x then u else mp st y) ∧ Z i st nw) hh (fun i m nw ⟨st, u, _, hz⟩ => hl i st nw hz) F N ⟨st₀, mp st₀ x, ?_, hj⟩ ?_ ?_
  · funext y; by_cases hy : y = x <;> simp [hy]
  · rintro i v m₁ news₁ h tk I o hi hv ⟨st, u, rfl, hz⟩ hn₁ F₁ N₁ ho hq
    rw [sh] at F₁
    refine wpAny_mono (turn i v st news₁ h tk I o hi hv hz hn₁ F₁ N₁ ho hq) (fun f s₂ q => ?_) fun _ _ e => e
    have fin : TurnEndS h₀ env.locals news x mp (Z (i + 1)) (I, o) { s with heap := h, toks := tk } s₂ → TurnEndJ h₀ env.locals news (fun m nw => ∃ st u, m = (fun y => if y = x then u else mp st y) ∧ Z (i + 1) st nw) (I, o) { s with heap := h, toks := tk } s₂ := by
      rintro ⟨h', tk', st', u', news', e, F', N', n', z'⟩
      exact ⟨h', tk', _, news', e, F', N', n', st', u', rfl, z'⟩
    cases f with
    | ret v => exact q
    | brk => exact q
    | next => exact fin q
    | cont => exact fin q
  · rintro m₁ news₁ h tk ⟨st, u, rfl, hz⟩ hn₁ F₁ N₁
    exact done st u news₁ h tk hz hn₁ F₁ N₁
end
noncomputable abbrev lobj (vs : List Value) (k : Nat) : Obj := { cls := .type "list", data := .seq vs.toArray k }
section
variable {prog : Program} {w : World} {A : Around} {E : Value → Shared → Prop} {s : Shared} {h₀ : Heap} {L : Addr} {m : Str → Option Value} {news : List (Addr × Obj)}
theorem len_L {l : Addr} {vs : List Value} {k n : Nat} {Q : Value → Shared → Prop} (N : News h₀ L s.heap news) (hm : (l, lobj vs k) ∈ news) (hv : vs.length = n) (hn : n ≤ 1000)
    (h : ∀ t tk', Q (.int (n : Int) t) { s with toks := tk' }) : wpAny (model prog w) A (call (.builtin "len") [.ref l]) Q E s := by
  have hl : s.heap.IsList l vs.toArray := ⟨_, (N _ hm).1, rfl, _, rfl⟩
  subst hv
  refine PyProof.Rows.len_list hl (by rw [List.size_toArray]; omega) ?_
  rw [List.size_toArray]
  exact h _ _
theorem item_L {value slice : Expr} {l : Addr} {vs : List Value} {k : Nat} {i : Int} {u : Tok} {v : Value} {Q : Value → Shared → Prop} (N : News h₀ L s.heap news) (hm : (l, lobj vs k) ∈ news) (h0 : 0 ≤ i) (h1 : i < 2 ^ 63) (hv : vs[i.toNat]? = some v) (h : Q v s)
    (hs : subscripted slice false (.ref l) (.int i u) = operate [.ref l, .int i u] (getItem (.ref l) (.int i u)) := by with_unfolding_all rfl) :
    wpAny (model prog w) A (subscriptTail value slice (.ref l) (.int i u)) Q E s := by
  have hl : s.heap.IsList l vs.toArray := ⟨_, (N _ hm).1, rfl, _, rfl⟩
  exact tail_any hl.typeIs slot_list_getitem.lookup (wpAny_getItem_list hl h0 h1 (by simpa using hv) h) hs
end
local macro_rules | `(tactic| kwd_inv) => `(tactic| first | assumption | walk_at "mO" | ((simp only [List.length_map, List.length_append, List.length_cons, List.length_nil]); first | assumption | rfl | omega) | rfl)
local macro_rules | `(tactic| walk_at "pyIter ref") => `(tactic| (k_here; (with_reducible show wpAny _ _ (pyIter (Value.ref _)) (fun it s₂ => LoopAtV _ _ _ _ _ _ _ _ _ it s₂) _ _); refine stopped ?_))
local macro_rules | `(tactic| walk_at "exec For Name Call cons nil") => `(tactic| (k_here; (rename Fr _ _ _ _ => lF'); (with_unfolding_all refine' For_invVF lF' ?k1 ?k2 ?_; (case k1 => exact rfl); (case k2 => exact rfl); k_whole)))
theorem is_other {M : Model} {A : Around} {E : Value → Shared → Prop} {s : Shared} {h₀ : Heap} {L : Addr} {news : List (Addr × Obj)} {x y dx dy : Addr} {Q : Value → Shared → Prop} (N : News h₀ L s.heap news) (hxy : x ≠ y) (h1 : (x, instObj 156 dx) ∈ news) (h2 : (y, instObj 156 dy) ∈ news)
    (h : Q (.bool false) s) : wpAny M A (compareOp .Is (.ref x) (.ref y)) Q E s := wpAny_is_ref_other hxy (N _ h1).1 (N _ h2).1 (fun e => nomatch e) h
local macro_rules | `(tactic| walk_at "compareOp Is") => `(tactic| (k_here; k_dflt (refine' is_other ?N ?hne ?h1 ?h2 ?_; walk_at "m11")))
local macro_rules | `(tactic| walk_at "compareOp Is ref ref") => `(tactic| (k_here; k_dflt (refine' is_other ?N ?hne ?h1 ?h2 ?_; walk_at "m11")))

section
variable {prog : Program} {w : World} {A : Around} {E : Value → Shared → Prop} {s : Shared} {h₀ : Heap} {L : Addr} {m : Str → Option Value} {env : Env}
noncomputable def EltEnd (h₀ : Heap) (L : Addr) (m : Str → Option Value) (led : List (Addr × Obj)) (G : Value → Prop) (s₁ : Shared) (y : Value) (s₂ : Shared) : Prop :=
  G y ∧ ∃ h' tk', s₂ = { s₁ with heap := h', toks := tk' } ∧ Fr h₀ L h' m ∧ News h₀ L h' led
theorem EltEnd.intro {led : List (Addr × Obj)} {G : Value → Prop} {s₁ : Shared} {y : Value} {h' : Heap} {tk' : Nat} (F : Fr h₀ L h' m) (N : News h₀ L h' led) (g : G y) : EltEnd h₀ L m led G s₁ y { s₁ with heap := h', toks := tk' } := ⟨g, h', tk', rfl, F, N⟩
theorem compRest_all {elt : Expr} {x : Str} {scope : Scope} {cl : List (Str × Addr)} {S : List (Addr × Obj) → Prop} {P : Nat → Value → Prop} {Fin : List Value → List (Addr × Obj) → Prop} {n : Nat} {news : List (Addr × Obj)} (G : Nat → List Value → Prop) (hS : S news)
    (turn : ∀ i ys v I oI C oC D m₂ h tk (E' : Value → Shared → Prop), i < n → G i ys → P i v → LCg.NsObj oC m₂ → m₂ x = some v → Fr h₀ L h m → News h₀ L h ((I, oI) :: (C, oC) :: (D, LCg.lst ys) :: news) →
      wpAny (model prog w) A (eval elt (compEnvC scope cl C env)) (EltEnd h₀ L m ((I, oI) :: (C, oC) :: (D, LCg.lst ys) :: news) (fun y => G (i + 1) (ys ++ [y])) { s with heap := h, toks := tk }) E' { s with heap := h, toks := tk })
    (fin : ∀ ys, G n ys → Fin ys news) : ∀ k i ys, i + k = n → G i ys → LCg.CompRest prog w A h₀ L m env elt x scope cl s S P Fin k i ys news
  | 0, i, ys, e, g => by
    have : i = n := by omega
    subst this
    exact LCg.CompRest.zero (fin ys g)
  | k + 1, i, ys, e, g => by
    intro v I oI C oC D m₂ h tk E' hP hC hx F N off ne
    refine wpAny_mono (turn i ys v I oI C oC D m₂ h tk E' (by omega) g hP hC hx F N) (fun y s₂ => ?_) fun _ _ z => z
    rintro ⟨gy, h', tk', rfl, F', N'⟩
    exact ⟨h', tk', news, rfl, F', N', off, hS, compRest_all G hS turn fin k (i + 1) (ys ++ [y]) (by omega) gy⟩
theorem news_sub {h : Heap} {n n' : List (Addr × Obj)} (N : News h₀ L h n) (hs : ∀ p ∈ n', p ∈ n) : News h₀ L h n' := fun p hp => N p (hs p hp)
theorem news_drop3 {h : Heap} {a b c d : Addr × Obj} {n : List (Addr × Obj)} (N : News h₀ L h (a :: b :: c :: d :: n)) : News h₀ L h (a :: b :: c :: n) := news_sub N fun p hp => by
  simp only [List.mem_cons] at hp ⊢
  rcases hp with h | h | h | h <;> simp [h]
theorem IntsAre_snoc {vs : List Value} {ns : List Int} (h : IntsAre vs ns) (n : Int) (t : Tok) : IntsAre (vs ++ [.int n t]) (ns ++ [n]) := IntsAre.append h (.cons n t .nil)
noncomputable abbrev zs (l : List Nat) : List Int := l.map Int.ofNat
theorem zs_snoc {vs : List Value} {l : List Nat} {i d : Nat} {t : Tok} (h : IntsAre vs (zs (l.take i))) (e : l[i]? = some d) : IntsAre (vs ++ [.int (d : Int) t]) (zs (l.take (i + 1))) := by
  rw [List.take_add_one, e]
  show IntsAre _ (List.map _ (_ ++ [d]))
  rw [List.map_append]
  exact IntsAre_snoc h _ _
end

/-! lists of the ledger, their object left open -/
noncomputable def LO (o : Obj) (vs : List Value) : Prop := o.cls = .type "list" ∧ ∃ n, o.data = .seq vs.toArray n
noncomputable def LL (news : List (Addr × Obj)) (l : Addr) (vs : List Value) : Prop := ∃ o, (l, o) ∈ news ∧ LO o vs
theorem LO.itB {o : Obj} {vs : List Value} (h : LO o vs) : itB o = false := by
  obtain ⟨_, n, h⟩ := h
  unfold Mine.itB
  rw [h]
theorem LO.l (vs : List Value) (n : Nat) : LO (lobj vs n) vs := ⟨rfl, n, rfl⟩
theorem LL.cons {news : List (Addr × Obj)} {l : Addr} {vs : List Value} {x : Addr × Obj} (h : LL news l vs) : LL (x :: news) l vs := let ⟨o, a, b⟩ := h; ⟨o, .tail _ a, b⟩
theorem LL.sub {news news' : List (Addr × Obj)} {l : Addr} {vs : List Value} (h : LL news l vs) (s : ∀ p ∈ news, p ∈ news') : LL news' l vs := let ⟨o, a, b⟩ := h; ⟨o, s _ a, b⟩
theorem LL.head {news : List (Addr × Obj)} {l : Addr} {vs : List Value} {o : Obj} (h : LO o vs) : LL ((l, o) :: news) l vs := ⟨o, .head _, h⟩
theorem LL.of {news : List (Addr × Obj)} {l : Addr} {vs : List Value} {n : Nat} (h : (l, lobj vs n) ∈ news) : LL news l vs := ⟨_, h, LO.l vs n⟩
theorem LL.of' {news : List (Addr × Obj)} {l : Addr} {vs : List Value} (h : (l, LCg.lst vs) ∈ news) : LL news l vs := ⟨_, h, rfl, _, rfl⟩
theorem LO.nd {o : Obj} {vs : List Value} (h : LO o vs) : nd o = true := by
  obtain ⟨_, n, h⟩ := h
  unfold Mine.nd
  rw [h]
theorem LO.nc {o : Obj} {vs : List Value} (h : LO o vs) : nc o = true := by
  obtain ⟨_, n, h⟩ := h
  unfold Mine.nc
  rw [h]
theorem LL.stay {news news' : List (Addr × Obj)} {l : Addr} {vs : List Value} (s : Stay news news') (h : LL news l vs) : LL news' l vs := let ⟨o, a, b⟩ := h; ⟨o, s _ a b.nd, b⟩
theorem LL.stayB {news news' : List (Addr × Obj)} {l : Addr} {vs : List Value} (s : StayB news news') (h : LL news l vs) : LL news' l vs := let ⟨o, a, b⟩ := h; ⟨o, s _ a b.nd b.nc, b⟩
theorem LL.stayC {news news' : List (Addr × Obj)} {l : Addr} {vs : List Value} (s : StayC news news') (h : LL news l vs) : LL news' l vs := let ⟨o, a, b⟩ := h; ⟨o, s _ a b.nc, b⟩
local macro_rules | `(tactic| k_places) => `(tactic| first | with_reducible assumption | ((with_reducible refine' LL.head ?h9); (case h9 => first | with_reducible assumption | exact ⟨rfl, _, rfl⟩)) | (refine' LL.cons ?h9; (case h9 => k_places)) | (refine' LL.stay (by with_reducible assumption) ?h9; (case h9 => k_places)) | (refine' LL.stayC (by with_reducible assumption) ?h9; (case h9 => k_places)) | (refine' LL.stayB (by with_reducible assumption) ?h9; (case h9 => k_places)) | exact ⟨_, by kct_strs, by with_reducible assumption⟩ | exact ⟨_, by kct_strs, rfl, _, rfl⟩ | fail "LL")
local macro_rules | `(tactic| ktd_rel) => `(tactic| k_places)
section
variable {prog : Program} {w : World} {A : Around} {E : Value → Shared → Prop} {s : Shared} {h₀ : Heap} {L : Addr} {m : Str → Option Value} {news : List (Addr × Obj)} {env : Env}
theorem LL.is {h : Heap} {l : Addr} {vs : List Value} (N : News h₀ L h news) (hl : LL news l vs) : h.IsList l vs.toArray := let ⟨_, hm, hc, n, hd⟩ := hl; ⟨_, (N _ hm).1, hc, n, hd⟩
theorem len_LL {l : Addr} {vs : List Value} {n : Nat} {Q : Value → Shared → Prop} (N : News h₀ L s.heap news) (hl : LL news l vs) (hv : vs.length = n) (hn : n ≤ 1000)
    (h : ∀ t tk', Q (.int (n : Int) t) { s with toks := tk' }) : wpAny (model prog w) A (call (.builtin "len") [.ref l]) Q E s := by
  subst hv
  refine PyProof.Rows.len_list (hl.is N) (by rw [List.size_toArray]; omega) ?_
  rw [List.size_toArray]
  exact h _ _
theorem item_LL {value slice : Expr} {l : Addr} {vs : List Value} {i : Int} {u : Tok} {v : Value} {Q : Value → Shared → Prop} (N : News h₀ L s.heap news) (hl : LL news l vs) (h0 : 0 ≤ i) (h1 : i < 2 ^ 63) (hv : vs[i.toNat]? = some v) (h : Q v s)
    (hs : subscripted slice false (.ref l) (.int i u) = operate [.ref l, .int i u] (getItem (.ref l) (.int i u)) := by with_unfolding_all rfl) :
    wpAny (model prog w) A (subscriptTail value slice (.ref l) (.int i u)) Q E s :=
  tail_any (hl.is N).typeIs slot_list_getitem.lookup (wpAny_getItem_list (hl.is N) h0 h1 (by simpa using hv) h) hs
theorem setItem_LL {l : Addr} {o : Obj} {vs : List Value} {i : Int} {u : Tok} {v : Value} {g : Obj → List (Addr × Obj)} {Q : Unit → Shared → Prop} (F : Fr h₀ L s.heap m) (N : News h₀ L s.heap news) (U : UpdF l o news g) (hO : LO o vs) (h0 : 0 ≤ i) (h1 : i < 2 ^ 63) (hn : i.toNat < vs.length)
    (h : ∀ h' o', LO o' (vs.set i.toNat v) → Fr h₀ L h' m → News h₀ L h' (g o') → Q () { s with heap := h' }) :
    wpAny (model prog w) A (setItem (.ref l) (.int i u) v) Q E s := by
  obtain ⟨pre, post, rfl, hg, a, b⟩ := U.split
  have hm : (l, o) ∈ pre ++ (l, o) :: post := List.mem_append_right _ (.head _)
  have hl : s.heap.IsList l vs.toArray := ⟨_, (N _ hm).1, hO.1, hO.2.choose, hO.2.choose_spec⟩
  refine wpAny_setItem_list hl h0 h1 (by rw [List.size_toArray]; omega) (fun h' hl' hs => ?_)
  obtain ⟨o', ho', hc', n', hd'⟩ := hl'
  refine h h' o' ⟨hc', n', by rw [hd']; simp⟩ (F.change hs (N _ hm).2.1 (N _ hm).2.2) ?_
  rw [hg]
  exact N.setIn a b hs ho'

noncomputable def WTurn {S : Type} (h₀ : Heap) (L : Addr) (mp : S → Str → Option Value) (Z : Nat → S → List (Addr × Obj) → Prop) (n : Nat) (s₁ : Shared) (Q : Flow → Shared → Prop) (f : Flow) (s₂ : Shared) : Prop :=
  match f with
  | .ret v => Q (.ret v) s₂
  | .brk => Q .next s₂
  | _ => ∃ h' tk st news' n', s₂ = { s₁ with heap := h', toks := tk } ∧ Fr h₀ L h' (mp st) ∧ News h₀ L h' news' ∧ n' < n ∧ Z n' st news'
theorem WTurn.next {S : Type} {mp : S → Str → Option Value} {Z : Nat → S → List (Addr × Obj) → Prop} {n : Nat} {s₁ : Shared} {Q : Flow → Shared → Prop} {h' : Heap} {tk : Nat} {news' : List (Addr × Obj)} (st : S) (n' : Nat)
    (F : Fr h₀ L h' (mp st)) (N : News h₀ L h' news') (hn : n' < n) (z : Z n' st news') : WTurn h₀ L mp Z n s₁ Q .next { s₁ with heap := h', toks := tk } := ⟨h', tk, st, news', n', rfl, F, N, hn, z⟩
/-- a while over a state of one's own, a measure that falls -/
theorem while_S {S : Type} {test : Expr} {body : List Stmt} {pos : Pos} {Q : Flow → Shared → Prop} (mp : S → Str → Option Value) (Z : Nat → S → List (Addr × Obj) → Prop) (st₀ : S) {n₀ : Nat}
    (F : Fr h₀ L s.heap (mp st₀)) (N : News h₀ L s.heap news) (hj : Z n₀ st₀ news)
    (turn : ∀ n st news₁ h tk, Fr h₀ L h (mp st) → News h₀ L h news₁ → Z n st news₁ →
      wpAny (model prog w) A (isTrue test env (eval test env)) (fun b s₂ =>
        if b = true then wpAny (model prog w) A (execs body env) (WTurn h₀ L mp Z n s Q) E s₂ else Q .next s₂) E { s with heap := h, toks := tk })
    (hE : PassesOwn (model prog w) A env E := by passes_own) :
    wpAny (model prog w) A (exec (.While test body [] pos) env) Q E s := by
  refine While_inv2 (fun n m nw => ∃ st, m = mp st ∧ Z n st nw) F N ⟨st₀, rfl, hj⟩ ?_ hE
  rintro n m₁ news₁ h tk F₁ N₁ ⟨st, rfl, hz⟩
  refine wpAny_mono (turn n st news₁ h tk F₁ N₁ hz) (fun b s₂ q => ?_) fun _ _ e => e
  cases b with
  | false => exact q
  | true =>
    rw [if_pos rfl] at q ⊢
    refine wpAny_mono q (fun f s₃ r => ?_) fun _ _ e => e
    have fin : (∃ h' tk st news' n', s₃ = { s with heap := h', toks := tk } ∧ Fr h₀ L h' (mp st) ∧ News h₀ L h' news' ∧ n' < n ∧ Z n' st news') → ∃ h' tk m₂ news₂ n', s₃ = { s with heap := h', toks := tk } ∧ Fr h₀ L h' m₂ ∧ News h₀ L h' news₂ ∧ n' < n ∧ ∃ st, m₂ = mp st ∧ Z n' st news₂ := by
      rintro ⟨h', tk, st', news', n', e, F', N', hn, hz'⟩
      exact ⟨h', tk, _, news', n', e, F', N', hn, st', rfl, hz'⟩
    cases f with
    | ret v => exact r
    | brk => exact r
    | next => exact fin r
    | cont => exact fin r
end
local macro_rules | `(tactic| k_all) => `(tactic| assumption)
local macro_rules | `(tactic| walk_at "call builtin:len") => `(tactic| (k_here; with_reducible apply len_LL; k_dflt (walk_at "m2"; walk_at "m8"; (case hv => kwd_inv); (case hn => kwd_inv)); intro t' tk'))
local macro_rules | `(tactic| walk_at "subscriptTail") => `(tactic| (k_here; with_reducible apply item_LL; k_dflt (walk_at "m2"; walk_at "m8"; walk_at "m4"; (case hv => assumption); walk_at "mH")))
local macro_rules | `(tactic| walk_at "setItem ref int") => `(tactic| (k_here; k_dflt (refine' setItem_LL ?F ?N ?U ?hO ?h0 ?h1 ?hn ?_; walk_at "m13"; (case U => k_updF); (case hO => assumption); walk_at "m4"; (case hn => walk_at "mO")); walk_at "mI"))
local macro_rules | `(tactic| walk_at "exec While Compare cons nil") => `(tactic| (k_here; refine stopped ?_))

/-! the names that a loop stores, over a map that stays -/
noncomputable def over : List (Str × Option Value) → (Str → Option Value) → Str → Option Value
  | [], m, y => m y
  | (z, u) :: r, m, y => if y = z then u else over r m y
theorem over_same (m : Str → Option Value) : ∀ bs : List (Str × Option Value), (∀ p ∈ bs, m p.1 = p.2) → over bs m = m
  | [], _ => rfl
  | (z, u) :: r, h => by
    funext y
    have ih := over_same m r fun p hp => h p (.tail _ hp)
    show (if y = z then u else over r m y) = m y
    rw [ih]
    split
    · rename_i e; rw [e]; exact (h (z, u) (.head _)).symm
    · rfl
section
variable {prog : Program} {w : World} {A : Around} {E : Value → Shared → Prop} {s : Shared} {env : Env} {h₀ : Heap} {x : Str} {body : List Stmt} {Q : Flow → Shared → Prop} {L : Addr}
theorem Fr.over {h : Heap} {m : Str → Option Value} (F : Fr h₀ L h m) (bs : List (Str × Option Value)) (hb : ∀ p ∈ bs, m p.1 = p.2) : Fr h₀ L h (over bs m) := by rw [over_same m bs hb]; exact F
theorem iter_rangeB {S : Type} {r : Addr} {t₀ u₀ v₀ : Tok} {n : Nat} {news : List (Addr × Obj)} {m₀ : Str → Option Value} (bs : S → List (Str × Option Value)) (Z : Nat → S → List (Addr × Obj) → Prop) (st₀ : S)
    (hh : A.handled = none) (hr : IsRange s.heap r 0 (n : Int) 1 t₀ u₀ v₀) (hsmall : n ≤ 1000) (F : Fr h₀ env.locals s.heap m₀) (N : News h₀ env.locals s.heap news) (hb : ∀ p ∈ bs st₀, m₀ p.1 = p.2) (hj : Z 0 st₀ news)
    (turn : ∀ (i : Nat) t st news₁ h tk I o, i < n → Z i st news₁ → NoIt news news₁ → Fr h₀ env.locals h (fun y => if y = x then some (.int (i : Int) t) else over (bs st) m₀ y) → News h₀ env.locals h ((I, o) :: news₁) → itB o = true → (∀ p ∈ news, p.1 < I) →
      wpAny (model prog w) A (execs body env) (TurnS h₀ env.locals news x (fun st => over (bs st) m₀) (Z (i + 1)) (I, o) { s with heap := h, toks := tk } Q) E { s with heap := h, toks := tk })
    (done : ∀ st u news₁ h tk, Z n st news₁ → NoIt news news₁ → Fr h₀ env.locals h (fun y => if y = x then u else over (bs st) m₀ y) → News h₀ env.locals h news₁ → Q .next { s with heap := h, toks := tk }) :
    wpAny (model prog w) A (pyIter (.ref r)) (fun it s₂ => LoopAtV prog w A h₀ env x body Q E it s₂) E s :=
  iter_rangeS (fun st => over (bs st) m₀) Z st₀ hh hr hsmall (Fr.over F _ hb) N hj turn done
theorem iter_listB {S : Type} {l : Addr} {vs : List Value} {k : Nat} {news : List (Addr × Obj)} {m₀ : Str → Option Value} (bs : S → List (Str × Option Value)) (Z : Nat → S → List (Addr × Obj) → Prop) (st₀ : S)
    (hh : A.handled = none) (hl : ∀ i st nw, Z i st nw → (l, ({ cls := .type "list", data := .seq vs.toArray k } : Obj)) ∈ nw) (F : Fr h₀ env.locals s.heap m₀) (N : News h₀ env.locals s.heap news) (hb : ∀ p ∈ bs st₀, m₀ p.1 = p.2) (hj : Z 0 st₀ news)
    (turn : ∀ (i : Nat) v st news₁ h tk I o, i < vs.length → vs[i]? = some v → Z i st news₁ → NoIt news news₁ → Fr h₀ env.locals h (fun y => if y = x then some v else over (bs st) m₀ y) → News h₀ env.locals h ((I, o) :: news₁) → itB o = true → (∀ p ∈ news, p.1 < I) →
      wpAny (model prog w) A (execs body env) (TurnS h₀ env.locals news x (fun st => over (bs st) m₀) (Z (i + 1)) (I, o) { s with heap := h, toks := tk } Q) E { s with heap := h, toks := tk })
    (done : ∀ st u news₁ h tk, Z vs.length st news₁ → NoIt news news₁ → Fr h₀ env.locals h (fun y => if y = x then u else over (bs st) m₀ y) → News h₀ env.locals h news₁ → Q .next { s with heap := h, toks := tk }) :
    wpAny (model prog w) A (pyIter (.ref l)) (fun it s₂ => LoopAtV prog w A h₀ env x body Q E it s₂) E s :=
  iter_listS (fun st => over (bs st) m₀) Z st₀ hh hl (Fr.over F _ hb) N hj turn done
theorem iter_tupB {S : Type} {l : Addr} {vs : List Value} {k : Nat} {news : List (Addr × Obj)} {m₀ : Str → Option Value} (bs : S → List (Str × Option Value)) (Z : Nat → S → List (Addr × Obj) → Prop) (st₀ : S)
    (hh : A.handled = none) (hl : ∀ i st nw, Z i st nw → (l, ({ cls := .type "tuple", data := .seq vs.toArray k } : Obj)) ∈ nw) (F : Fr h₀ env.locals s.heap m₀) (N : News h₀ env.locals s.heap news) (hb : ∀ p ∈ bs st₀, m₀ p.1 = p.2) (hj : Z 0 st₀ news)
    (turn : ∀ (i : Nat) v st news₁ h tk I o, i < vs.length → vs[i]? = some v → Z i st news₁ → NoIt news news₁ → Fr h₀ env.locals h (fun y => if y = x then some v else over (bs st) m₀ y) → News h₀ env.locals h ((I, o) :: news₁) → itB o = true → (∀ p ∈ news, p.1 < I) →
      wpAny (model prog w) A (execs body env) (TurnS h₀ env.locals news x (fun st => over (bs st) m₀) (Z (i + 1)) (I, o) { s with heap := h, toks := tk } Q) E { s with heap := h, toks := tk })
    (done : ∀ st u news₁ h tk, Z vs.length st news₁ → NoIt news news₁ → Fr h₀ env.locals h (fun y => if y = x then u else over (bs st) m₀ y) → News h₀ env.locals h news₁ → Q .next { s with heap := h, toks := tk }) :
    wpAny (model prog w) A (pyIter (.ref l)) (fun it s₂ => LoopAtV prog w A h₀ env x body Q E it s₂) E s :=
  iter_tupS (fun st => over (bs st) m₀) Z st₀ hh hl (Fr.over F _ hb) N hj turn done
theorem while_B {S : Type} {test : Expr} {body : List Stmt} {pos : Pos} {news : List (Addr × Obj)} {m₀ : Str → Option Value} (bs : S → List (Str × Option Value)) (Z : Nat → S → List (Addr × Obj) → Prop) (st₀ : S) {n₀ : Nat}
    (F : Fr h₀ L s.heap m₀) (N : News h₀ L s.heap news) (hb : ∀ p ∈ bs st₀, m₀ p.1 = p.2) (hj : Z n₀ st₀ news)
    (turn : ∀ n st news₁ h tk, Fr h₀ L h (over (bs st) m₀) → News h₀ L h news₁ → Z n st news₁ →
      wpAny (model prog w) A (isTrue test env (eval test env)) (fun b s₂ =>
        if b = true then wpAny (model prog w) A (execs body env) (WTurn h₀ L (fun st => over (bs st) m₀) Z n s Q) E s₂ else Q .next s₂) E { s with heap := h, toks := tk })
    (hE : PassesOwn (model prog w) A env E := by passes_own) :
    wpAny (model prog w) A (exec (.While test body [] pos) env) Q E s :=
  while_S (fun st => over (bs st) m₀) Z st₀ (Fr.over F _ hb) N hj turn hE
end

/-! a for whose target is any one: over a list of the ledger -/
noncomputable def TurnT {S : Type} (h₀ : Heap) (L : Addr) (old : List (Addr × Obj)) (mp : S → Str → Option Value) (Z : S → List (Addr × Obj) → Prop) (I : Addr × Obj) (s₁ : Shared) (Q : Flow → Shared → Prop) (f : Flow) (s₂ : Shared) : Prop :=
  match f with
  | .ret v => Q (.ret v) s₂
  | .brk => Q .next s₂
  | _ => ∃ h' tk st news', s₂ = { s₁ with heap := h', toks := tk } ∧ Fr h₀ L h' (mp st) ∧ News h₀ L h' (I :: news') ∧ NoIt old news' ∧ Z st news'
section
variable {prog : Program} {w : World} {A : Around} {E : Value → Shared → Prop} {s : Shared} {env : Env} {h₀ : Heap} {x : Str} {body : List Stmt} {Q : Flow → Shared → Prop}
theorem For_cell {z : Str} {px pos : Pos} {iter : Expr} (hx : env.kindOf z = some .cell)
    (h : wpAny (model prog w) A (eval iter env) (fun x s₁ => wpAny (model prog w) A (pyIter x) (fun it s₂ => codeAny (model prog w) A (.forLoop (.Name z px) it body [] env) (fun r s' => match r with | .ok f => Q f s' | .error e => cameBackBy (model prog w) A env E e s') s₂) E s₁) E s)
    (hs : ∀ x, foldedSetIterable iter env x = pure x := by intro _; rfl) : wpAny (model prog w) A (exec (.For (.Name z px) iter body [] pos) env) Q E s := wpAny_For h hs
theorem TurnT.next {S : Type} {L : Addr} {old : List (Addr × Obj)} {mp : S → Str → Option Value} {Z : S → List (Addr × Obj) → Prop} {I : Addr × Obj} {s₁ : Shared} {h' : Heap} {tk : Nat} {news' : List (Addr × Obj)} (st : S)
    (F : Fr h₀ L h' (mp st)) (N : News h₀ L h' (I :: news')) (n : NoIt old news') (j : Z st news') : TurnT h₀ L old mp Z I s₁ Q .next { s₁ with heap := h', toks := tk } := ⟨h', tk, st, news', rfl, F, N, n, j⟩
theorem iter_listT {S : Type} {target : Expr} {l : Addr} {ol : Obj} {vs : List Value} {news : List (Addr × Obj)} (mp : S → Str → Option Value) (Z : Nat → S → List (Addr × Obj) → Prop) (st₀ : S)
    (hh : A.handled = none) (hO : LO ol vs) (hl : ∀ i st nw, Z i st nw → (l, ol) ∈ nw) (F : Fr h₀ env.locals s.heap (mp st₀)) (N : News h₀ env.locals s.heap news) (hj : Z 0 st₀ news)
    (turn : ∀ (i : Nat) v st news₁ h tk I o, i < vs.length → vs[i]? = some v → Z i st news₁ → NoIt news news₁ → Fr h₀ env.locals h (mp st) → News h₀ env.locals h ((I, o) :: news₁) → itB o = true → (∀ p ∈ news, p.1 < I) →
      wpAny (model prog w) A (assign target env v) (fun _ s₂ => wpAny (model prog w) A (execs body env) (TurnT h₀ env.locals news mp (Z (i + 1)) (I, o) s Q) E s₂) E { s with heap := h, toks := tk })
    (done : ∀ st news₁ h tk, Z vs.length st news₁ → NoIt news news₁ → Fr h₀ env.locals h (mp st) → News h₀ env.locals h news₁ → Q .next { s with heap := h, toks := tk })
    (ht : ∀ it v, letOwnedTupleGo target it v = pure () := by intro _ _; rfl)
    (hE : PassesOwn (model prog w) A env E := by passes_own) :
    wpAny (model prog w) A (pyIter (.ref l)) (fun it s₂ => codeAny (model prog w) A (.forLoop target it body [] env) (fun r s' => match r with | .ok f => Q f s' | .error e => cameBackBy (model prog w) A env E e s') s₂) E s := by
  have hm := hl _ _ _ hj
  have hls : s.heap.IsList l vs.toArray := ⟨_, (N _ hm).1, hO.1, hO.2⟩
  have hlt : l < s.heap.objs.size := Heap.lt_size (N _ hm).1
  have hne : l ≠ s.heap.objs.size := Nat.ne_of_lt hlt
  refine wpAny_pyIter_list hls ?_
  have W := Walks.list (prog := prog) (w := w) hh s.heap.objs.size l hne vs.toArray
  have hlen : vs.toArray.size = vs.length := by simp
  rw [hlen] at W
  have hup : ∀ b o, s.heap.get? b = some o → (s.heap.push { cls := .type "list_iterator", data := .fields #[.ref l, .int 0 0] }).get? b = some o := fun b o e => Heap.get?_push_of_some _ e
  have hLI : env.locals ≠ s.heap.objs.size := Nat.ne_of_lt F.ns.lt
  have hIn : h₀.get? s.heap.objs.size = none := next_is_new F
  have hoff0 : ∀ p ∈ news, p.1 < s.heap.objs.size := fun p hp => Heap.lt_size (N p hp).1
  refine codeAny_forLoop
    (fun k s' => ∃ h' tk st nw i oI, s' = { s with heap := h', toks := tk } ∧ (h'.IsListIter s.heap.objs.size l i ∧ h'.IsList l vs.toArray) ∧ Fr h₀ env.locals h' (mp st) ∧ News h₀ env.locals h' ((s.heap.objs.size, oI) :: nw) ∧ NoIt news nw ∧ Z i st nw ∧ i ≤ vs.length ∧ k = vs.length + 1 - i) ?_ (vs.length + 1)
    ⟨_, s.toks, st₀, news, 0, _, rfl, ⟨⟨_, Heap.get?_push_size _ rfl, rfl, rfl⟩, hls.at fun o e => hup _ _ e⟩, F.keeps hup, N.push F _, fun _ hp => .inr hp, hj, Nat.zero_le _, rfl⟩ (ht _)
  rintro k s' ⟨h', tk, st, nw, i, oI, rfl, hst, F', N', hn, hz, hi, rfl⟩
  have oIt : ∀ {h : Heap} {i : Nat} {o : Obj}, h.IsListIter s.heap.objs.size l i → h.get? s.heap.objs.size = some o → itB o = true := by
    rintro h i o ⟨o', ho', hc, hd⟩ ho
    rw [ho'] at ho
    cases ho
    unfold itB; rw [hd]; dsimp only; rw [hc]; rfl
  have hItI := oIt hst.1 (N' _ (.head _)).1
  have off := noit_off N' hItI (fun p hp => Nat.ne_of_lt (hoff0 p hp)) hn
  have old : ∀ b o, h₀.get? b = some o → b ∉ [s.heap.objs.size] := fun b o e hb => by rw [List.mem_singleton.mp hb, hIn] at e; cases e
  by_cases hlt' : i < vs.length
  · refine W.item i _ _ _ hlt' hst fun v h₁ tk₁ hP hst₁ hk₁ => ?_
    have F₁ : Fr h₀ env.locals h₁ (mp st) := ⟨F'.ns.at' fun o e => hk₁ _ o (fun h => hLI (List.mem_singleton.mp h)) e, fun b o e => hk₁ b o (old b o e) (F'.keep b o e), F'.above⟩
    obtain ⟨oI', hoI', hcI, hdI⟩ := hst₁.1
    have hItI' := oIt hst₁.1 hoI'
    have N₁ : News h₀ env.locals h₁ ((s.heap.objs.size, oI') :: nw) := fun p hp => by
      rcases List.mem_cons.mp hp with rfl | hp
      · exact ⟨hoI', Ne.symm hLI, hIn⟩
      · have h5 := N' p (.tail _ hp)
        exact ⟨hk₁ _ _ (fun h => off p hp (List.mem_singleton.mp h)) h5.1, h5.2⟩
    refine wpAny_passesOwn hE (wpAny_mono (turn i v st nw h₁ tk₁ _ oI' hlt' (by simpa using hP) hz hn F₁ N₁ hItI' hoff0) (fun _ s₂ q => wpAny_passesOwn hE (wpAny_mono q (fun f s₃ r => ?_) fun _ _ e => e)) fun _ _ e => e)
    have fin : (∃ h' tk st news', s₃ = { s with heap := h', toks := tk } ∧ Fr h₀ env.locals h' (mp st) ∧ News h₀ env.locals h' ((s.heap.objs.size, oI') :: news') ∧ NoIt news news' ∧ Z (i + 1) st news') →
        ∃ m, m < vs.length + 1 - i ∧ ∃ h' tk st nw j oI, s₃ = { s with heap := h', toks := tk } ∧ (h'.IsListIter s.heap.objs.size l j ∧ h'.IsList l vs.toArray) ∧ Fr h₀ env.locals h' (mp st) ∧ News h₀ env.locals h' ((s.heap.objs.size, oI) :: nw) ∧ NoIt news nw ∧ Z j st nw ∧ j ≤ vs.length ∧ m = vs.length + 1 - j := by
      rintro ⟨h₂, tk₂, st₂, nw₂, e, F₂, N₂, n₂, z₂⟩
      exact ⟨vs.length + 1 - (i + 1), by omega, h₂, tk₂, st₂, nw₂, i + 1, oI', e, ⟨⟨oI', (N₂ _ (.head _)).1, hcI, hdI⟩, ⟨_, (N₂ _ (.tail _ (hl _ _ _ z₂))).1, hO.1, hO.2⟩⟩, F₂, N₂, n₂, z₂, hlt', rfl⟩
    cases f with
    | ret v => exact r
    | brk => exact r
    | next => exact fin r
    | cont => exact fin r
  · have hin : i = vs.length := by omega
    subst hin
    refine W.done _ _ _ hst fun h₁ tk₁ hk₁ => ?_
    refine wpAny_execs_nil ?_
    exact done st nw h₁ tk₁ hz hn ⟨F'.ns.at' fun o e => hk₁ _ o (fun h => hLI (List.mem_singleton.mp h)) e, fun b o e => hk₁ b o (old b o e) (F'.keep b o e), F'.above⟩
      (fun p hp => ⟨hk₁ _ _ (fun h => off p hp (List.mem_singleton.mp h)) (N' p (.tail _ hp)).1, (N' p (.tail _ hp)).2⟩)
end
local macro_rules | `(tactic| walk_at "pyIter ref") => `(tactic| (k_here; (with_reducible show wpAny _ _ (pyIter (Value.ref _)) (fun it s₂ => codeAny _ _ (Code.forLoop _ it _ _ _) _ s₂) _ _); refine stopped ?_))
local macro_rules | `(tactic| walk_at "exec For Name Call cons nil") => `(tactic| (k_here; (with_unfolding_all refine' For_cell ?k1 ?_; (case k1 => exact rfl); k_whole)))

section
variable {prog : Program} {w : World} {p : Program} {loose : List Str} {mean : ExcName → Option Value} {mg mb : Str → Option Value}
    {dp un : Nat} {gd : Option (List Code)} {cn : Str} {cs : Scope} {a : Addr} {ccd : Value} {cl : List (Str × Addr)} {outer : List Env} {A A₀ : Around} {base h₀ : Heap} {L : Addr} {m : Str → Option Value} {news : List (Addr × Obj)} {s : Shared}
    {Q : Value → Shared → Prop} {E : Value → Shared → Prop}

set_option maxHeartbeats 8000000 in
theorem place_ {le x : Addr} {as : List Addr} {lk d : Nat} (B : Below A₀ base outer h₀) (F : Fr h₀ L s.heap m) (X : (hd.heap_39 w.params).In h₀) (N : News h₀ L s.heap news) (T : Top p loose mean mg mb h₀) (hk : cs.kind = .function)
    (hl : (le, lobj (as.map Value.ref) lk) ∈ news) (hlen : as.length ≤ 1000) (hx : as[d]? = some x) (hno : ∀ i, i < d → as[i]? ≠ some x) (hin : ∀ a ∈ as, ∃ dx, (a, instObj 156 dx) ∈ news) (hdp : dp + 20 < recursionLimit) (hu : un + 60 < cLine)
    (ret : ∀ h' tk' t, Fr h₀ L h' m → News h₀ L h' news → Q (.int d t) { s with heap := h', toks := tk' }) :
    wpAny (model prog w) (ktrTop dp un gd cn cs L a ccd cl outer) (call (.ref 337) [.ref le, .ref x] []) Q E s := by
  refine wpAny_call ?_
  k_enter
  k_steps
  refine Stopped.go (iter_rangeS (S := Unit) (n := as.length) (fun _ => _) (fun i _ nw => nw = news ∧ ∀ j, j < i → as[j]? ≠ some x) () rfl (by assumption) hlen (by k_asm) (by k_asm) ⟨rfl, fun _ h => absurd h (Nat.not_lt_zero _)⟩ ?_ ?_)
  · rintro i t _ _ h' tk' I o hi ⟨rfl, hz⟩ _ F₁ N₁ ho hq
    have hv : (as.map Value.ref)[(i : Int).toNat]? = some (.ref as[i]) := by simp [hi]
    have hi' : (i : Int) < 1000 := by omega
    obtain ⟨dx, hdx⟩ := hin as[i] (List.getElem_mem hi)
    obtain ⟨dy, hdy⟩ := hin x (List.mem_of_getElem? hx)
    by_cases hax : as[i] = x
    · have hid : i = d := by
        rcases Nat.lt_trichotomy i d with h | h | h
        · exact absurd (by rw [List.getElem?_eq_getElem hi, hax]) (hno i h)
        · exact h
        · exact absurd hx (hz d h)
      subst hid
      rw [hax] at hv
      k_steps
      dsimp only [TurnS]
      k_steps
      exact ret _ _ _ (by k_asm) (news_tail (by k_asm))
    · k_steps
      refine TurnEndS.intro () (by k_asm) (by k_asm) (fun _ hp => .inr hp) ⟨rfl, fun j hj => ?_⟩
      rcases Nat.lt_succ_iff_lt_or_eq.mp hj with h | h
      · exact hz j h
      · subst h
        rw [List.getElem?_eq_getElem hi]
        exact fun e => hax (Option.some.inj e)
  · rintro _ u _ h' tk' ⟨rfl, hz⟩ _ F₁ N₁
    exact absurd hx (hz d (List.getElem?_eq_some_iff.mp hx).1)
theorem placeQ {ι : Type} {ad dd : ι → Addr} {R o : ι → ι} {cx : Value} {st : ι → Value} {le x : Addr} {es : List ι} {k : ι} {lk d : Nat} (B : Below A₀ base outer h₀) (F : Fr h₀ L s.heap m) (X : (hd.heap_39 w.params).In h₀) (N : News h₀ L s.heap news) (T : Top p loose mean mg mb h₀) (hk : cs.kind = .function)
    (q : QE news ad dd R o cx st) (hl : (le, lobj ((es.map ad).map Value.ref) lk) ∈ news) (he : x = ad k) (hlen : es.length ≤ 1000) (hnd : es.Nodup) (hx : es[d]? = some k) (hdp : dp + 20 < recursionLimit) (hu : un + 60 < cLine)
    (ret : ∀ h' tk' t, Fr h₀ L h' m → News h₀ L h' news → Q (.int d t) { s with heap := h', toks := tk' }) {A : Around} (hA : A = ktrTop dp un gd cn cs L a ccd cl outer) :
    wpAny (model prog w) A (call (.ref 337) [.ref le, .ref x] []) Q E s := by
  subst hA
  subst he
  refine place_ B F X N T hk hl (by rw [List.length_map]; exact hlen) (by rw [List.getElem?_map, hx]; rfl) (fun i hi e => ?_) (fun a ha => ?_) hdp hu ret
  · rw [List.getElem?_map] at e
    obtain ⟨k', hk', e'⟩ := Option.map_eq_some_iff.mp e
    have := q.inj _ _ e'
    subst this
    obtain ⟨l1, e1⟩ := List.getElem?_eq_some_iff.mp hk'
    obtain ⟨l2, e2⟩ := List.getElem?_eq_some_iff.mp hx
    have := (List.pairwise_iff_getElem.mp hnd) i d l1 l2 hi
    exact this (e1.trans e2.symm)
  · obtain ⟨k', _, rfl⟩ := List.mem_map.mp ha
    exact ⟨_, q.inst k'⟩
end
local macro_rules | `(tactic| walk_at "call ref") => `(tactic| (k_here; with_reducible apply placeQ; k_dflt (walk_at "m9"; (case hl => kwd_less); walk_at "m7"; (case hnd => assumption); (case hx => assumption); walk_at "mS"); walk_at "mI"))
section
variable {prog : Program} {w : World} {p : Program} {loose : List Str} {mean : ExcName → Option Value} {mg mb : Str → Option Value}
    {dp un : Nat} {gd : Option (List Code)} {cn : Str} {cs : Scope} {a : Addr} {ccd : Value} {cl : List (Str × Addr)} {outer : List Env} {A A₀ : Around} {base h₀ : Heap} {L : Addr} {m : Str → Option Value} {news : List (Addr × Obj)} {s : Shared}
    {Q : Value → Shared → Prop} {E : Value → Shared → Prop}
end

section
variable {ι : Type} {prog : Program} {w : World} {p : Program} {loose : List Str} {mean : ExcName → Option Value} {mg mb : Str → Option Value}
    {dp un : Nat} {gd : Option (List Code)} {cn : Str} {cs : Scope} {a : Addr} {ccd : Value} {cl : List (Str × Addr)} {outer : List Env} {A A₀ : Around} {base h₀ : Heap} {L : Addr} {m : Str → Option Value} {news : List (Addr × Obj)} {s : Shared}
    {Q : Value → Shared → Prop} {E : Value → Shared → Prop} {ad dd : ι → Addr} {R o : ι → ι} {cx : Value} {st : ι → Value}

set_option maxHeartbeats 8000000 in
theorem rows_ {le : Addr} {es : List ι} {lk : Nat} {sl fl : List Nat} (B : Below A₀ base outer h₀) (F : Fr h₀ L s.heap m) (X : (hd.heap_39 w.params).In h₀) (N : News h₀ L s.heap news) (T : Top p loose mean mg mb h₀) (hk : cs.kind = .function)
    (q : QE news ad dd R o cx st) (hl : (le, lobj ((es.map ad).map Value.ref) lk) ∈ news) (hlen : es.length ≤ 1000) (hnd : es.Nodup)
    (hs : ∀ (i : Nat) (k : ι), es[i]? = some k → ∃ d, sl[i]? = some d ∧ es[d]? = some (o k)) (hf : ∀ (i : Nat) (k : ι), es[i]? = some k → ∃ d, fl[i]? = some d ∧ es[d]? = some (R (o (R (R (R k))))))
    (hsl : sl.length = es.length) (hfl : fl.length = es.length)
    (hdp : dp + 60 < recursionLimit) (hu : un + 200 < cLine)
    (ret : ∀ h' tk' T D1 D2 ys1 ys2 k, Fr h₀ L h' m → News h₀ L h' ((T, { cls := .type "tuple", data := .seq #[.ref D1, .ref D2] k }) :: (D2, LCg.lst ys2) :: (D1, LCg.lst ys1) :: news) → IntsAre ys1 (zs sl) → IntsAre ys2 (zs fl) → Q (.ref T) { s with heap := h', toks := tk' }) {A : Around} (hA : A = ktrTop dp un gd cn cs L a ccd cl outer) :
    wpAny (model prog w) A (call (.ref 342) [.ref le] []) Q E s := by
  subst hA
  refine wpAny_call ?_
  first | k_enter | fail "enter"
  k_steps
  refine LCg.CompSrc.ledger rfl (by k_asm) (by k_asm) (by kwd_less) (by rw [List.size_toArray, List.length_map, List.length_map, sizeLine_eq]; omega) (fun g => ?_)
  refine compRest_all (n := es.length) (fun i ys => IntsAre ys (zs (sl.take i))) (Or.inr ⟨_, by kwd_less, rfl, _, rfl⟩) ?_ ?_ _ 0 [] (by simp) IntsAre.nil
  · rintro i ys v I oI C oC D m₂ h tk E' hi hg hP hC hx F₁ N₁
    have hv : v = .ref (ad es[i]) := by
      rw [List.getElem?_toArray, List.getElem?_map, List.getElem?_map, List.getElem?_eq_getElem hi] at hP
      exact (Option.some.inj hP).symm
    subst hv
    obtain ⟨d, hd1, hd2⟩ := hs i es[i] (List.getElem?_eq_getElem hi)
    k_steps
    exact EltEnd.intro (by k_asm) (by k_asm) (zs_snoc hg hd1)
  · intro ys1 hg1
    rw [← hsl, List.take_length] at hg1
    k_steps
    refine LCg.CompSrc.ledger rfl (by k_asm) (by k_asm) (by kwd_less) (by rw [List.size_toArray, List.length_map, List.length_map, sizeLine_eq]; omega) (fun g => ?_)
    refine compRest_all (n := es.length) (fun i ys => IntsAre ys (zs (fl.take i))) (Or.inr ⟨_, by kwd_less, rfl, _, rfl⟩) ?_ ?_ _ 0 [] (by simp) IntsAre.nil
    · rintro i ys v I oI C oC D m₂ h tk E' hi hg hP hC hx F₁ N₁
      have hv : v = .ref (ad es[i]) := by
        rw [List.getElem?_toArray, List.getElem?_map, List.getElem?_map, List.getElem?_eq_getElem hi] at hP
        exact (Option.some.inj hP).symm
      subst hv
      obtain ⟨d, hd1, hd2⟩ := hf i es[i] (List.getElem?_eq_getElem hi)
      k_steps
      exact EltEnd.intro (by k_asm) (by k_asm) (zs_snoc hg hd1)
    · intro ys2 hg2
      rw [← hfl, List.take_length] at hg2
      k_steps
      exact ret _ _ _ _ _ _ _ _ (by k_asm) (news_drop3 (by k_asm)) hg1 hg2
end

section
variable {prog : Program} {w : World} {A : Around} {E : Value → Shared → Prop} {s : Shared} {h₀ : Heap} {L : Addr} {m : Str → Option Value} {env : Env}
theorem compRestT_all {ct elt : Expr} {x : Str} {scope : Scope} {cl : List (Str × Addr)} {S : List (Addr × Obj) → Prop} {P : Nat → Value → Prop} {Fin : List Value → List (Addr × Obj) → Prop} {n : Nat} {news : List (Addr × Obj)} (G : Nat → List Value → Prop) (hS : S news)
    (turn : ∀ i ys v I oI C oC D m₂ h tk (E' : Value → Shared → Prop), i < n → G i ys → P i v → LCg.NsObj oC m₂ → m₂ x = some v → Fr h₀ L h m → News h₀ L h ((I, oI) :: (C, oC) :: (D, LCg.lst ys) :: news) →
      wpAny (model prog w) A (isTrue ct (compEnvC scope cl C env) (eval ct (compEnvC scope cl C env))) (fun ok s' => if ok = true then
        wpAny (model prog w) A (eval elt (compEnvC scope cl C env)) (EltEnd h₀ L m ((I, oI) :: (C, oC) :: (D, LCg.lst ys) :: news) (fun y => G (i + 1) (ys ++ [y])) { s with heap := h, toks := tk }) E' s'
        else EltEnd h₀ L m ((I, oI) :: (C, oC) :: (D, LCg.lst ys) :: news) (fun _ => G (i + 1) ys) { s with heap := h, toks := tk } Value.none s') E' { s with heap := h, toks := tk })
    (fin : ∀ ys, G n ys → Fin ys news) : ∀ k i ys, i + k = n → G i ys → LCt.CompRestT prog w A h₀ L m env ct elt x scope cl s S P Fin k i ys news
  | 0, i, ys, e, g => by
    have : i = n := by omega
    subst this
    exact LCt.CompRestT.zero (fin ys g)
  | k + 1, i, ys, e, g => by
    refine LCt.CompRestT.succ fun v I oI C oC D m₂ h tk E' hP hC hx F N off ne => ?_
    refine wpAny_mono (turn i ys v I oI C oC D m₂ h tk E' (by omega) g hP hC hx F N) (fun ok s₂ q => ?_) fun _ _ z => z
    cases ok with
    | true =>
      simp only [if_true] at q ⊢
      refine wpAny_mono q (fun y s₃ => ?_) fun _ _ z => z
      rintro ⟨gy, h', tk', rfl, F', N'⟩
      exact ⟨h', tk', news, rfl, F', N', off, hS, compRestT_all G hS turn fin k (i + 1) (ys ++ [y]) (by omega) gy⟩
    | false =>
      simp only [Bool.false_eq_true, if_false] at q ⊢
      obtain ⟨gy, h', tk', rfl, F', N'⟩ := q
      exact ⟨h', tk', news, rfl, F', N', off, hS, compRestT_all G hS turn fin k (i + 1) ys (by omega) gy⟩
theorem compSrcT_R {ct elt : Expr} {x : Str} {scope : Scope} {cl : List (Str × Addr)} {Fin : Shared → List Value → List (Addr × Obj) → Prop} {r : Addr} {t u v : Tok} {n : Nat} {news : List (Addr × Obj)} {s₁ : Shared}
    (hh : A.handled = none) (F : Fr h₀ L s₁.heap m) (N : News h₀ L s₁.heap news) (hr : IsRange s₁.heap r 0 (n : Int) 1 t u v) (hsz : n ≤ 1000)
    (h : ∀ g, LCt.CompRestT prog w A h₀ L m env ct elt x scope cl { s₁ with heap := g } (fun _ => True) (fun i v => ∃ t, v = .int (0 + (i : Int)) t) (Fin { s₁ with heap := g }) n 0 [] news) :
    LCt.CompSrcT prog w A h₀ L m env ct elt x scope cl Fin (.ref r) s₁ :=
  LCt.CompSrcT.range hh F N hr (small_one (by omega) (by omega) (by omega) (by omega)) (rangeSize01 n) (by rw [sizeLine_eq]; omega) h
end
local macro_rules | `(tactic| walk_at "eval ListComp") => `(tactic| (k_here; with_reducible apply LCg.ListComp_U; k_dflt (walk_at "mL")))
local macro_rules | `(tactic| walk_at "eval ListComp") => `(tactic| (k_here; with_reducible apply LCt.ListComp_T; k_dflt (walk_at "mL")))
local macro_rules | `(tactic| walk_at "exec Assign cons ListComp") => `(tactic| (k_here; with_reducible apply LCg.Assign_ListComp_U; k_dflt (walk_at "m6")))
local macro_rules | `(tactic| walk_at "exec Assign cons ListComp") => `(tactic| (k_here; with_reducible apply LCt.Assign_ListComp_T; k_dflt (walk_at "m6")))
local macro_rules | `(tactic| walk_at "CompSrcT") => `(tactic| (k_here; refine stopped ?_))

theorem off1_all {D : Addr} : ∀ {l : List (Addr × Obj)}, LCg.Off1 D l → ∀ p ∈ l, p.1 ≠ D := by
  intro l
  induction l with
  | nil => intro _ p hp; cases hp
  | cons x l ih =>
    intro h p hp
    rcases List.mem_cons.mp hp with rfl | hp
    · exact h.1
    · exact ih h.2 p hp
theorem rings_len (row : List Nat) (i : Nat) : ((List.range i).foldl (fun r k => chase row k row.length r k) (List.replicate row.length (-1))).length = row.length := by
  induction i with
  | zero => exact List.length_replicate
  | succ i ih => rw [foldl_range_succ, chase_length, ih]
theorem noit_cons {old news : List (Addr × Obj)} {x : Addr × Obj} (h : itB x.2 = false) (n : NoIt old news) : NoIt old (x :: news) := fun p hp => by
  rcases List.mem_cons.mp hp with rfl | hp
  · exact .inl h
  · exact n p hp
structure RSt where
  o : Obj
  ws : List Value
  r : List Int
  u : Option Value
structure WSt where
  o : Obj
  ws : List Value
  r : List Int
  p : Nat
  t : Tok
section
variable {prog : Program} {w : World} {A : Around} {s₁ : Shared} {h₀ : Heap} {L : Addr} {m : Str → Option Value} {env : Env} {news : List (Addr × Obj)}
theorem compSrc_LL {elt : Expr} {x : Str} {scope : Scope} {cl : List (Str × Addr)} {Fin : Shared → List Value → List (Addr × Obj) → Prop} {ax : Addr} {vs : List Value}
    (hh : A.handled = none) (F : Fr h₀ L s₁.heap m) (N : News h₀ L s₁.heap news) (hl : LL news ax vs) (hsz : vs.length ≤ 1000)
    (h : ∀ g, LCg.CompRest prog w A h₀ L m env elt x scope cl { s₁ with heap := g } (LCg.SrcAt h₀ ax vs.toArray) (fun i v => vs.toArray[i]? = some v) (Fin { s₁ with heap := g }) vs.toArray.size 0 [] news) :
    LCg.CompSrc prog w A h₀ L m env elt x scope cl Fin (.ref ax) s₁ := by
  refine Or.inl ⟨ax, vs.toArray, news, rfl, hh, F, N, ?_, ?_, ?_⟩
  · obtain ⟨o, a, b, c⟩ := hl
    exact Or.inr ⟨o, a, b, c⟩
  · rw [List.size_toArray, sizeLine_eq]; omega
  · rintro _ ⟨g, rfl⟩
    exact h g
theorem srcAt_LL {ax : Addr} {vs : List Value} (hl : LL news ax vs) : LCg.SrcAt h₀ ax vs.toArray news := by
  obtain ⟨o, a, b, c⟩ := hl
  exact Or.inr ⟨o, a, b, c⟩
end
local macro_rules | `(tactic| walk_at "FinA") => `(tactic| (k_here; refine stopped ?_))
local macro_rules | `(tactic| walk_at "FinE") => `(tactic| (k_here; refine stopped ?_))
local macro_rules | `(tactic| walk_at "CompSrc") => `(tactic| (k_here; refine stopped ?_))
theorem IntsAre_replicate (n : Nat) (x : Int) (f : Nat → Tok) : IntsAre ((List.range n).map fun i => Value.int x (f i)) (List.replicate n x) := by
  induction n with
  | zero => exact .nil
  | succ n ih => rw [List.range_succ, List.map_append, List.replicate_succ']; exact IntsAre_snoc ih _ _
theorem IntsAre_set : ∀ {vs : List Value} {ns : List Int}, IntsAre vs ns → ∀ (i : Nat) (x : Int) (t : Tok), IntsAre (vs.set i (.int x t)) (ns.set i x)
  | _, _, .nil, _, _, _ => .nil
  | _, _, .cons n t r, 0, x, t' => .cons x t' r
  | _, _, .cons n t r, i + 1, x, t' => .cons n t (IntsAre_set r i x t')
section
variable {prog : Program} {w : World} {p : Program} {loose : List Str} {mean : ExcName → Option Value} {mg mb : Str → Option Value}
    {dp un : Nat} {gd : Option (List Code)} {cn : Str} {cs : Scope} {a : Addr} {ccd : Value} {cl : List (Str × Addr)} {outer : List Env} {A A₀ : Around} {base h₀ : Heap} {L : Addr} {m : Str → Option Value} {news : List (Addr × Obj)} {s : Shared}
    {Q : Value → Shared → Prop} {E : Value → Shared → Prop}

set_option maxHeartbeats 8000000 in
theorem rings_ {r : Addr} {vs : List Value} {row : List Nat} (B : Below A₀ base outer h₀) (F : Fr h₀ L s.heap m) (X : (hd.heap_39 w.params).In h₀) (N : News h₀ L s.heap news) (T : Top p loose mean mg mb h₀) (hk : cs.kind = .function)
    (hl : LL news r vs) (hI : IntsAre vs (zs row)) (hrow : ∀ x ∈ row, x < row.length) (hlen : row.length ≤ 1000)
    (hdp : dp + 20 < recursionLimit) (hu : un + 60 < cLine)
    (ret : ∀ h' tk' D o ws, Fr h₀ L h' m → News h₀ L h' ((D, o) :: news) → LO o ws → IntsAre ws (ringsF row) → (∀ p ∈ news, p.1 ≠ D) → Q (.ref D) { s with heap := h', toks := tk' }) {A : Around} (hA : A = ktrTop dp un gd cn cs L a ccd cl outer) :
    wpAny (model prog w) A (call (.ref 347) [.ref r] []) Q E s := by
  subst hA
  have hvl : vs.length = row.length := by rw [hI.length, List.length_map]
  refine wpAny_call ?_
  first | k_enter | fail "enter"
  k_steps
  refine Stopped.go ?_
  refine compSrc_LL rfl (by k_asm) (by k_asm) (by ktd_rel) (by omega) (fun g => ?_)
  refine compRest_all (n := vs.length) (fun i ys => IntsAre ys (List.replicate i (-1))) (srcAt_LL (by ktd_rel)) ?_ ?_ _ 0 [] (by simp) IntsAre.nil
  · rintro i ys v I oI C oC D m₂ h tk E' hi hg hP hC hx F₁ N₁
    k_steps
    refine EltEnd.intro (by k_asm) (by k_asm) ?_
    rw [List.replicate_succ']
    exact IntsAre_snoc hg _ _
  · intro ys hg
    rw [hvl] at hg
    intro D' h1 tk1 F1 N1 oD
    have hoff := off1_all oD
    k_steps
    refine Stopped.go (iter_rangeB (S := RSt) (n := row.length) (fun st => [(Str.ofString "place", st.u)])
      (fun i st nw => nw = (D', st.o) :: news ∧ LO st.o st.ws ∧ IntsAre st.ws st.r ∧ st.r = (List.range i).foldl (fun r k => chase row k row.length r k) (List.replicate row.length (-1)))
      ⟨_, ys, _, none⟩ rfl (by assumption) hlen (by k_asm) (by k_asm) (by intro p hp; cases List.mem_singleton.mp hp; rfl) ⟨rfl, ⟨rfl, _, rfl⟩, by assumption, rfl⟩ ?_ ?_)
    · rintro i t st _ h' tk' I o hi ⟨rfl, hO, hI2, hr⟩ hno F₁ N₁ ho hq
      have hlr : st.r.length = row.length := by rw [hr]; exact rings_len row i
      have hID : @Ne Nat I D' := fun e => by
        have h1 := (N₁ (I, o) (.head _)).1
        have h2 := (N₁ (D', st.o) (.tail _ (.head _))).1
        dsimp only at h1 h2
        rw [e, h2] at h1
        obtain ⟨n9, h3⟩ := hO.2
        rw [Option.some.inj h1] at h3
        unfold itB at ho
        rw [h3] at ho
        cases ho
      k_steps
      refine Stopped.go (while_B (S := WSt) (fun w => [(Str.ofString "place", some (.int (w.p : Int) w.t))])
        (fun n w nw => nw = (I, o) :: (D', w.o) :: news ∧ LO w.o w.ws ∧ IntsAre w.ws w.r ∧ w.p < row.length ∧ w.r.length = row.length ∧ chase row i n w.r w.p = chase row i row.length st.r i ∧ negs w.r ≤ n)
        ⟨st.o, st.ws, st.r, i, t⟩ (n₀ := row.length) (by k_asm) (by k_asm) (by intro p hp; cases List.mem_singleton.mp hp; rfl) ⟨rfl, hO, hI2, hi, hlr, rfl, hlr ▸ negs_le _⟩ ?_)
      rintro n ⟨wo, ws, wr, wp, wt⟩ _ h'' tk'' F₂ N₂ ⟨rfl, hO2, hI3, hp, hwl, hch, hng⟩
      dsimp only at hO2 hI3 hp hwl hch hng N₂ F₂
      have hwv : ws.length = row.length := by rw [hI3.length, hwl]
      obtain ⟨tx, hx⟩ := hI3.get wp wr[wp] (List.getElem?_eq_getElem _)
      obtain ⟨tq, hq⟩ := hI.get wp (row[wp] : Int) (by simp [zs, hp])
      have hx' : ws[(wp : Int).toNat]? = some (.int wr[wp] tx) := hx
      have hq' : vs[(wp : Int).toNat]? = some (.int (row[wp] : Int) tq) := hq
      by_cases hneg : wr[wp] < 0
      · k_steps
        refine WTurn.next ⟨_, _, wr.set wp (i : Int), row[wp], tq⟩ (n - 1) (Fr.eqv (by k_asm) ?_) (by k_asm) ?_ ⟨rfl, by assumption, IntsAre_set hI3 _ _ _, ?_, ?_, ?_, ?_⟩
        · intro y
          by_cases h2 : y = Str.ofString "place"
          · subst h2; rfl
          simp only [over, if_neg h2]
        · have := negs_pos (List.getElem?_eq_getElem _) hneg
          omega
        · exact hrow _ (List.getElem_mem _)
        · rw [List.length_set]; exact hwl
        · obtain ⟨n', rfl⟩ : ∃ n', n = n' + 1 := ⟨n - 1, by have := negs_pos (List.getElem?_eq_getElem _) hneg; omega⟩
          rw [← hch, chase_go (List.getElem?_eq_getElem _) hneg (List.getElem?_eq_getElem hp)]
          rfl
        · have := negs_set (k := i) (List.getElem?_eq_getElem _) hneg
          show negs (wr.set wp (i : Int)) ≤ n - 1
          omega
      · k_steps
        refine TurnEndS.intro ⟨wo, ws, wr, some (.int (wp : Int) wt)⟩ (u := some (.int (i : Int) t)) (Fr.eqv (by k_asm) ?_) (by k_asm) ?_ ⟨rfl, hO2, hI3, ?_⟩
        · intro y
          by_cases h1 : y = Str.ofString "k"
          · subst h1; rfl
          by_cases h2 : y = Str.ofString "place"
          · subst h2; rfl
          simp only [over, if_neg h1, if_neg h2]
        · exact noit_cons (LO.itB hO2) (fun _ hp => .inr (.tail _ hp))
        · rw [foldl_range_succ, ← hr, ← hch, chase_stop (List.getElem?_eq_getElem _) hneg]
    · rintro st u _ h' tk' ⟨rfl, hO, hI2, hr⟩ hno F₁ N₁
      k_steps
      exact ret _ _ _ _ _ (by k_asm) (by k_asm) hO (by rw [hr] at hI2; exact hI2) hoff
end

/-! the set's table over small numbers, in plain Lean -/
noncomputable def up (l : List Nat) : Prop := l.Pairwise (· < ·)
theorem below_spec (xs : Array Nat) (j : Nat) (hu : up xs.toList) : (∀ i, i < SetTable.below xs j → xs.getD i 0 < j) ∧ (∀ i, SetTable.below xs j ≤ i → i < xs.size → j ≤ xs.getD i 0) ∧ SetTable.below xs j ≤ xs.size := by
  have mono : ∀ a b, a < b → b < xs.size → xs.getD a 0 < xs.getD b 0 := by
    intro a b h1 h2
    have := List.pairwise_iff_getElem.mp hu a b (by simp; omega) (by simpa using h2) h1
    simpa [Array.getD, h2, Nat.lt_trans h1 h2] using this
  have key : ∀ (fuel lo hi : Nat), hi - lo ≤ fuel → lo ≤ hi → hi ≤ xs.size → (∀ i, i < lo → xs.getD i 0 < j) → (∀ i, hi ≤ i → i < xs.size → j ≤ xs.getD i 0) →
      (∀ i, i < SetTable.below.go xs j fuel lo hi → xs.getD i 0 < j) ∧ (∀ i, SetTable.below.go xs j fuel lo hi ≤ i → i < xs.size → j ≤ xs.getD i 0) ∧ SetTable.below.go xs j fuel lo hi ≤ xs.size := by
    intro fuel
    induction fuel with
    | zero =>
      intro lo hi h1 h2 h3 h4 h5
      have : lo = hi := by omega
      subst this
      exact ⟨h4, h5, h3⟩
    | succ n ih =>
      intro lo hi h1 h2 h3 h4 h5
      unfold SetTable.below.go
      by_cases hlt : lo < hi
      · rw [if_pos hlt]
        dsimp only
        have hj : xs.getD ((lo + hi) / 2) j = xs.getD ((lo + hi) / 2) 0 := by
          have : (lo + hi) / 2 < xs.size := by omega
          simp [this]
        rw [hj]
        by_cases hm : xs.getD ((lo + hi) / 2) 0 < j
        · rw [if_pos hm]
          refine ih _ _ (by omega) (by omega) h3 (fun i hi' => ?_) h5
          rcases Nat.lt_or_eq_of_le (by omega : i ≤ (lo + hi) / 2) with h | h
          · exact Nat.lt_trans (mono _ _ h (by omega)) hm
          · rw [h]; exact hm
        · rw [if_neg hm]
          refine ih _ _ (by omega) (by omega) (by omega) h4 (fun i h6 h7 => ?_)
          rcases Nat.lt_or_eq_of_le h6 with h | h
          · exact Nat.le_trans (Nat.not_lt.mp hm) (Nat.le_of_lt (mono _ _ h h7))
          · rw [← h]; exact Nat.not_lt.mp hm
      · rw [if_neg hlt]
        have : lo = hi := by omega
        subst this
        exact ⟨h4, h5, h3⟩
  exact key xs.size 0 xs.size (by omega) (by omega) (Nat.le_refl _) (fun i h => absurd h (Nat.not_lt_zero _)) (fun i h1 h2 => by omega)
theorem below_at (xs : Array Nat) (hu : up xs.toList) {i j : Nat} (h : xs[i]? = some j) : SetTable.below xs j = i := by
  obtain ⟨h1, h2, h3⟩ := below_spec xs j hu
  obtain ⟨hi, e⟩ := Array.getElem?_eq_some_iff.mp h
  have hg : xs.getD i 0 = j := by simp [Array.getD, hi, e]
  have mono : ∀ a b, a < b → b < xs.size → xs.getD a 0 < xs.getD b 0 := by
    intro a b h1 h2
    have := List.pairwise_iff_getElem.mp hu a b (by simp; omega) (by simpa using h2) h1
    simpa [Array.getD, h2, Nat.lt_trans h1 h2] using this
  rcases Nat.lt_trichotomy (SetTable.below xs j) i with h | h | h
  · have := h2 _ (Nat.le_refl _) (by omega)
    have := mono _ _ h hi
    omega
  · exact h
  · have := h1 i h
    omega
theorem below_next (xs : Array Nat) (hu : up xs.toList) {i j : Nat} (h : xs[i]? = some j) : SetTable.below xs (j + 1) = i + 1 := by
  obtain ⟨h1, h2, h3⟩ := below_spec xs (j + 1) hu
  obtain ⟨hi, e⟩ := Array.getElem?_eq_some_iff.mp h
  have hg : xs.getD i 0 = j := by simp [Array.getD, hi, e]
  have mono : ∀ a b, a < b → b < xs.size → xs.getD a 0 < xs.getD b 0 := by
    intro a b h1 h2
    have := List.pairwise_iff_getElem.mp hu a b (by simp; omega) (by simpa using h2) h1
    simpa [Array.getD, h2, Nat.lt_trans h1 h2] using this
  rcases Nat.lt_trichotomy (SetTable.below xs (j + 1)) (i + 1) with h | h | h
  · have := h2 i (by omega) hi
    omega
  · exact h
  · have := h1 (i + 1) h
    have := mono i (i + 1) (by omega) (by omega)
    omega
theorem below_zero (xs : Array Nat) (hu : up xs.toList) : SetTable.below xs 0 = 0 := by
  obtain ⟨h1, _, _⟩ := below_spec xs 0 hu
  rcases Nat.eq_zero_or_pos (SetTable.below xs 0) with h | h
  · exact h
  · exact absurd (h1 0 h) (Nat.not_lt_zero _)
theorem has_none (j : Nat) : SetTable.has #[] j = false := by
  unfold SetTable.has
  simp
theorem slot_empty {t : SetTable} {j : Nat} (hu : up t.place.toList) (hd : t.dummies = #[]) (h : j ∉ t.place.toList) : t.slot j = .empty := by
  unfold SetTable.slot
  dsimp only
  have h1 : (t.place[SetTable.below t.place j]? == some j) = false := by
    rw [Bool.eq_false_iff]
    intro e
    rw [beq_iff_eq] at e
    obtain ⟨hi, e⟩ := Array.getElem?_eq_some_iff.mp e
    exact h (by rw [← e]; simp)
  rw [h1, hd, has_none]
  rfl
theorem slot_live {t : SetTable} {j : Nat} (hu : up t.place.toList) (h : j ∈ t.place.toList) : ∃ i, t.slot j = .live i := by
  obtain ⟨i, hi, e⟩ := List.getElem_of_mem h
  have he : t.place[i]? = some j := by
    rw [Array.getElem?_eq_some_iff]
    exact ⟨by simpa using hi, by simpa using e⟩
  refine ⟨SetTable.below t.place j, ?_⟩
  unfold SetTable.slot
  dsimp only
  rw [below_at _ hu he, he]
  simp
theorem up_insert {l : List Nat} {p j : Nat} (hu : up l) (h1 : ∀ x ∈ l.take p, x < j) (h2 : ∀ x ∈ l.drop p, j < x) : up (l.take p ++ j :: l.drop p) := by
  have hu' : (l.take p ++ l.drop p).Pairwise (· < ·) := by rw [List.take_append_drop]; exact hu
  rw [List.pairwise_append] at hu'
  obtain ⟨a, b, c⟩ := hu'
  refine List.pairwise_append.mpr ⟨a, List.pairwise_cons.mpr ⟨fun x hx => h2 x hx, b⟩, fun x hx y hy => ?_⟩
  rcases List.mem_cons.mp hy with rfl | hy
  · exact h1 x hx
  · exact c x hx y hy
theorem take_below {xs : Array Nat} {j : Nat} (hu : up xs.toList) (hj : j ∉ xs.toList) : (∀ x ∈ xs.toList.take (SetTable.below xs j), x < j) ∧ (∀ x ∈ xs.toList.drop (SetTable.below xs j), j < x) := by
  obtain ⟨h1, h2, h3⟩ := below_spec xs j hu
  constructor
  · intro x hx
    obtain ⟨i, hi, e⟩ := List.getElem_of_mem hx
    rw [List.length_take] at hi
    have := h1 i (by omega)
    rw [List.getElem_take] at e
    have hi' : i < xs.size := by simp at hi; omega
    simpa [Array.getD, hi', ← e] using this
  · intro x hx
    obtain ⟨i, hi, e⟩ := List.getElem_of_mem hx
    rw [List.length_drop] at hi
    rw [List.getElem_drop] at e
    have hi' : SetTable.below xs j + i < xs.size := by simp at hi; omega
    have := h2 (SetTable.below xs j + i) (by omega) hi'
    have h5 : j ≤ x := by simpa [Array.getD, hi', ← e] using this
    have h6 : x ∈ xs.toList := List.mem_of_mem_drop hx
    rcases Nat.lt_or_eq_of_le h5 with h | h
    · exact h
    · exact absurd (h ▸ h6) hj
noncomputable def it7 : Nat → Nat → Nat
  | 0, i => i
  | n + 1, i => it7 n ((i * 5 + 1) % 8)
theorem it7_all : ∀ i, i < 8 → ∀ j, j < 8 → ∃ k, k < 8 ∧ it7 k i = j := by decide
theorem go7 {t : SetTable} {f : Nat → Int} {h : Int} (hm : t.mask = 7) (hu : up t.place.toList) (hd : t.dummies = #[]) (hf : ∀ i, (f i == h) = false) :
    ∀ (n i pt : Nat), i < 8 → pt < 32 → (∃ k, k < n ∧ it7 k i ∉ t.place.toList) → ∃ j, j < 8 ∧ j ∉ t.place.toList ∧ SetTable.probe.go t f h n { j := i, more := 0, i := i, perturb := pt, dummy := none } = some (.empty j none) := by
  intro n
  induction n with
  | zero => rintro i pt _ _ ⟨k, hk, _⟩; exact absurd hk (Nat.not_lt_zero _)
  | succ n ih =>
    rintro i pt hi hp ⟨k, hk, hk2⟩
    unfold SetTable.probe.go
    dsimp only
    by_cases hin : i ∈ t.place.toList
    · obtain ⟨q, hq⟩ := slot_live hu hin
      rw [hq]
      dsimp only
      rw [hf q]
      obtain ⟨k, rfl⟩ : ∃ k', k = k' + 1 := by
        cases k with
        | zero => exact absurd hin hk2
        | succ k => exact ⟨k, rfl⟩
      have hadv : t.advance { j := i, more := 0, i := i, perturb := pt, dummy := none } = { j := (i * 5 + 1) % 8, more := 0, i := (i * 5 + 1) % 8, perturb := 0, dummy := none } := by
        have h0 : pt / 32 = 0 := by omega
        have h8 : (i * 5 + 1) % 8 < 8 := Nat.mod_lt _ (by omega)
        have h9 : ¬ ((i * 5 + 1) % 8 + 9 ≤ 7) := by omega
        simp [SetTable.advance, SetTable.leap, hm, h0, SetTable.runEnd, h9]
      rw [hadv]
      exact ih _ 0 (Nat.mod_lt _ (by omega)) (by omega) ⟨k, by omega, hk2⟩
    · rw [slot_empty hu hd hin]
      exact ⟨i, hi, hin, rfl⟩
theorem bits_small {x : Nat} (hx : x < 12) : SetTable.bits (x : Int) = x := by
  unfold SetTable.bits
  omega
theorem free7 {t : SetTable} {x : Nat} (hm : t.mask = 7) (hu : up t.place.toList) (hd : t.dummies = #[]) (hp : ∀ j ∈ t.place.toList, j < 8) (hs : t.place.size < 8) (hx : x < 12) :
    ∃ j, j < 8 ∧ j ∉ t.place.toList ∧ t.freeSlot (x : Int) = some (j, false) := by
  have hne : ∀ i : Nat, ((fun _ : Nat => (x : Int) + 1) i == (x : Int)) = false := fun i => by
    rw [Bool.eq_false_iff]; intro e; have e := beq_iff_eq.mp e; dsimp only at e; omega
  have h9 : ¬ (x % 8 + 9 ≤ 7) := by omega
  have hst : t.probeStart (x : Int) = { j := x % 8, more := 0, i := x % 8, perturb := x, dummy := none } := by
    simp [SetTable.probeStart, bits_small hx, hm, SetTable.runEnd, h9]
  have hk : ∃ k, k < 8 ∧ it7 k (x % 8) ∉ t.place.toList := by
    by_cases hall : ∀ k, k < 8 → it7 k (x % 8) ∈ t.place.toList
    · exfalso
      have hsub : List.range 8 ⊆ t.place.toList := fun j hj => by
        obtain ⟨k, h1, h2⟩ := it7_all (x % 8) (Nat.mod_lt _ (by omega)) j (List.mem_range.mp hj)
        rw [← h2]; exact hall k h1
      have := List.Nodup.length_le_of_subset List.nodup_range hsub
      simp at this
      omega
    · simpa using hall
  obtain ⟨k, hk1, hk2⟩ := hk
  obtain ⟨j, h1, h2, h3⟩ := go7 (f := fun _ => (x : Int) + 1) (h := (x : Int)) hm hu hd hne (10 * SetTable.turns t.mask) (x % 8) x (Nat.mod_lt _ (by omega)) (by omega) ⟨k, by rw [hm]; simp [SetTable.turns]; omega, hk2⟩
  refine ⟨j, h1, h2, ?_⟩
  unfold SetTable.freeSlot SetTable.probe
  rw [hst, h3]
  rfl
theorem free31 {t : SetTable} {x : Nat} (hm : t.mask = 31) (hu : up t.place.toList) (hd : t.dummies = #[]) (hx : x < 12) (hn : x ∉ t.place.toList) : t.freeSlot (x : Int) = some (x, false) := by
  have hst : (t.probeStart (x : Int)).j = x ∧ (t.probeStart (x : Int)).dummy = none := by
    refine ⟨?_, rfl⟩
    simp [SetTable.probeStart, bits_small hx, hm]
    try omega
  have hgo : ∀ (n : Nat) (f : Nat → Int) (p : SetTable.Probe), 0 < n → p.j = x → p.dummy = none → SetTable.probe.go t f (x : Int) n p = some (.empty x none) := by
    intro n f p h0 h1 h2
    obtain ⟨n, rfl⟩ : ∃ n', n = n' + 1 := ⟨n - 1, by omega⟩
    unfold SetTable.probe.go
    rw [h1, slot_empty hu hd hn, h2]
  unfold SetTable.freeSlot SetTable.probe
  rw [hgo _ _ _ (by simp [SetTable.turns]) hst.1 hst.2]
  rfl
theorem put_free {t : SetTable} {j : Nat} (hd : t.dummies = #[]) : t.put j = ({ t with place := SetTable.insertAt t.place (SetTable.below t.place j) j }, SetTable.below t.place j) := by
  unfold SetTable.put
  dsimp only
  rw [hd, has_none, if_neg (by decide)]
noncomputable abbrev Cell := Nat × Tok
noncomputable def cell (c : Cell) : Int × Value := ((c.1 : Int), Value.int (c.1 : Int) c.2)
/-- a table told whole (big: also behind the fifth element, ahead of its move) -/
structure ZT (led big : Bool) (l : List Cell) (es : Array (Int × Value)) (t : SetTable) : Prop where
  led : t.led = led
  plain : t.plain = true
  dum : t.dummies = #[]
  size : t.place.size = es.size
  cells : es.toList = l.map cell
  nodup : (l.map (·.1)).Nodup
  small : ∀ x ∈ l.map (·.1), x < 12
  up : up t.place.toList
  cases : (t.mask = 7 ∧ es.size ≤ (if big then 5 else 4) ∧ ∀ j ∈ t.place.toList, j < 8) ∨ (t.mask = 31 ∧ t.place.toList = l.map (·.1))
theorem ZT.length {led big : Bool} {l : List Cell} {es : Array (Int × Value)} {t : SetTable} (z : ZT led big l es t) : es.size = l.length := by
  rw [← Array.length_toList, z.cells, List.length_map]
theorem nodup_12 {l : List Nat} (h : l.Nodup) (hs : ∀ x ∈ l, x < 12) : l.length ≤ 12 := by
  have := List.Nodup.length_le_of_subset h (l₂ := List.range 12) (fun x hx => List.mem_range.mpr (hs x hx))
  simpa using this
theorem ZT.le12 {led big : Bool} {l : List Cell} {es : Array (Int × Value)} {t : SetTable} (z : ZT led big l es t) : es.size ≤ 12 := by
  have := nodup_12 z.nodup z.small
  rw [z.length]
  simpa using this
theorem ZT.fits {led big : Bool} {l : List Cell} {es : Array (Int × Value)} {t : SetTable} (z : ZT led big l es t) : t.fits es.size = true := by
  have h12 := z.le12
  simp only [SetTable.fits, SetTable.fill, z.dum, z.size, Bool.and_eq_true, beq_iff_eq, decide_eq_true_eq]
  refine ⟨trivial, ?_⟩
  show es.size + 0 ≤ t.mask
  rcases z.cases with ⟨h1, h2, _⟩ | ⟨h1, _⟩
  · rw [h1]
    split at h2 <;> omega
  · rw [h1]; omega
theorem insertAt_toList {α : Type} (xs : Array α) (p : Nat) (x : α) : (SetTable.insertAt xs p x).toList = xs.toList.take p ++ x :: xs.toList.drop p := by
  simp [SetTable.insertAt, Array.toList_extract]
  exact List.take_of_length_le (by simp)
theorem layNew_z {led : Bool} {l : List Cell} {es : Array (Int × Value)} {t : SetTable} (z : ZT led false l es t) {x : Nat} {tk : Tok} (hx : x < 12) (hn : x ∉ l.map (·.1)) :
    ∃ l' es' t', layNew t es (x : Int) (.int (x : Int) tk) = (es', t', false, false) ∧ ZT led true l' es' t' ∧ l'.Perm ((x, tk) :: l) := by
  obtain ⟨j, hj1, hj3⟩ : ∃ j, j ∉ t.place.toList ∧ t.freeSlot (x : Int) = some (j, false) ∧ (t.mask = 7 → j < 8) ∧ (t.mask = 31 → j = x) := by
    rcases z.cases with ⟨h1, h2, h3⟩ | ⟨h1, h2⟩
    · obtain ⟨j, a, b, c⟩ := free7 h1 z.up z.dum h3 (by rw [z.size]; simp at h2; omega) hx
      exact ⟨j, b, c, fun _ => a, fun h => by omega⟩
    · exact ⟨x, by rw [h2]; exact hn, free31 h1 z.up z.dum hx (by rw [h2]; exact hn), fun h => by omega, fun _ => rfl⟩
  have hps := (below_spec t.place j z.up).2.2
  have htb := take_below z.up hj1
  have hz : ZT led true (l.take (SetTable.below t.place j) ++ (x, tk) :: l.drop (SetTable.below t.place j)) (SetTable.insertAt es (SetTable.below t.place j) ((x : Int), Value.int (x : Int) tk))
      { t with place := SetTable.insertAt t.place (SetTable.below t.place j) j } := by
    have hpm : (l.take (SetTable.below t.place j) ++ (x, tk) :: l.drop (SetTable.below t.place j)).Perm ((x, tk) :: l) :=
      List.perm_middle.trans (by rw [List.take_append_drop])
    have hpm1 := hpm.map (·.1)
    refine ⟨z.led, z.plain, z.dum, ?_, ?_, ?_, ?_, ?_, ?_⟩
    · rw [← Array.length_toList, ← Array.length_toList (xs := SetTable.insertAt es _ _), insertAt_toList, insertAt_toList]
      have := z.size
      simp
      omega
    · rw [insertAt_toList, z.cells]
      simp [cell, List.map_take, List.map_drop]
    · refine hpm1.nodup_iff.mpr ?_
      simp only [List.map_cons]
      exact List.nodup_cons.mpr ⟨hn, z.nodup⟩
    · intro y hy
      have := hpm1.mem_iff.mp hy
      simp only [List.map_cons] at this
      rcases List.mem_cons.mp this with rfl | h
      · exact hx
      · exact z.small y h
    · show up (SetTable.insertAt _ _ _).toList
      rw [insertAt_toList]
      exact up_insert z.up htb.1 htb.2
    · have hsz : (SetTable.insertAt es (SetTable.below t.place j) ((x : Int), Value.int (x : Int) tk)).size = es.size + 1 := by
        rw [← Array.length_toList, insertAt_toList]
        have := z.size
        simp
        omega
      rcases z.cases with ⟨h1, h2, h3⟩ | ⟨h1, h2⟩
      · refine .inl ⟨h1, by rw [hsz]; simp at h2 ⊢; omega, fun y hy => ?_⟩
        have hy : y ∈ (SetTable.insertAt t.place (SetTable.below t.place j) j).toList := hy
        rw [insertAt_toList] at hy
        rcases List.mem_append.mp hy with h | h
        · exact h3 y (List.mem_of_mem_take h)
        · rcases List.mem_cons.mp h with rfl | h
          · exact hj3.2.1 h1
          · exact h3 y (List.mem_of_mem_drop h)
      · refine .inr ⟨h1, ?_⟩
        show (SetTable.insertAt t.place (SetTable.below t.place j) j).toList = _
        rw [insertAt_toList, h2, hj3.2.2 h1]
        simp [List.map_take, List.map_drop]
  refine ⟨_, _, _, ?_, hz, List.perm_middle.trans (by rw [List.take_append_drop])⟩
  unfold layNew
  rw [hj3.1]
  dsimp only
  rw [put_free z.dum]
  dsimp only
  have hf := hz.fits
  unfold SetTable.orStandIn
  rw [if_pos hf, hf]
  rfl
theorem fm_congr {α β : Type} {f g : α → Option β} : ∀ {l : List α}, (∀ x ∈ l, f x = g x) → l.filterMap f = l.filterMap g
  | [], _ => rfl
  | x :: l, h => by
    rw [List.filterMap_cons, List.filterMap_cons, h x List.mem_cons_self, fm_congr fun y hy => h y (List.mem_cons_of_mem _ hy)]
theorem fm_ite {α : Type} (p : Nat → Prop) [DecidablePred p] (g : Nat → α) : ∀ l : List Nat, l.filterMap (fun j => if p j then some (g j) else none) = (l.filter (fun j => decide (p j))).map g
  | [] => rfl
  | j :: l => by
    by_cases h : p j
    · simp [h, fm_ite p g l]
    · simp [h, fm_ite p g l]
theorem free_clean {owner : Array (Option Nat)} {x : Nat} (hx : x < 12) (ho : owner.getD x (some 0) = none) : SetTable.layClean.free 31 owner (SetTable.turns 31) (SetTable.bits (x : Int) % (31 + 1)) (SetTable.bits (x : Int)) = some x := by
  rw [bits_small hx, Nat.mod_eq_of_lt (by omega)]
  show SetTable.layClean.free 31 owner (45 + 1) x x = some x
  unfold SetTable.layClean.free
  have hr : SetTable.runEnd 31 x + 1 - x = 9 + 1 := by
    unfold SetTable.runEnd
    rw [if_pos (by omega)]
    omega
  have hn : (owner.getD (x + 0) (some 0)).isNone = true := by rw [Nat.add_zero, ho]; rfl
  rw [hr, List.range_succ_eq_map, List.find?_cons_of_pos (p := fun k => (owner.getD (x + k) (some 0)).isNone) hn]
  rfl
theorem lay_fold : ∀ (todo : List Nat) (owner : Array (Option Nat)) (k : Nat), owner.size = 32 → (∀ x ∈ todo, x < 12) → (∀ x ∈ todo, owner.getD x (some 0) = none) → todo.Nodup →
    ∃ owner' : Array (Option Nat), (todo.map fun x : Nat => (x : Int)).foldl (fun (acc : Option (Array (Option Nat) × Nat)) h => do
        let (owner, k) ← acc
        let j ← SetTable.layClean.free 31 owner (SetTable.turns 31) (SetTable.bits h % (31 + 1)) (SetTable.bits h)
        pure (owner.setIfInBounds j (some k), k + 1)) (some (owner, k)) = some (owner', k + todo.length) ∧
      ∀ j, j < 32 → owner'.getD j none = if j ∈ todo then some (k + todo.idxOf j) else owner.getD j none
  | [], owner, k, _, _, _, _ => ⟨owner, rfl, fun j _ => by simp⟩
  | x :: todo, owner, k, hs, hx, ho, hn => by
    obtain ⟨hn1, hn2⟩ := List.nodup_cons.mp hn
    have hx12 := hx x List.mem_cons_self
    obtain ⟨owner', h1, h2⟩ := lay_fold todo (owner.setIfInBounds x (some k)) (k + 1) (by simpa using hs) (fun y hy => hx y (List.mem_cons_of_mem _ hy)) (fun y hy => by
      have hne : x ≠ y := fun e => hn1 (e ▸ hy)
      have := ho y (List.mem_cons_of_mem _ hy)
      simpa [Array.getElem?_setIfInBounds, hne] using this) hn2
    refine ⟨owner', ?_, fun j hj => ?_⟩
    · simp only [List.map_cons, List.foldl_cons]
      rw [show (do
        let (owner, k) ← some (owner, k)
        let j ← SetTable.layClean.free 31 owner (SetTable.turns 31) (SetTable.bits (x : Int) % (31 + 1)) (SetTable.bits (x : Int))
        pure (owner.setIfInBounds j (some k), k + 1)) = some (owner.setIfInBounds x (some k), k + 1) by
          show (do
            let j ← SetTable.layClean.free 31 owner (SetTable.turns 31) (SetTable.bits (x : Int) % (31 + 1)) (SetTable.bits (x : Int))
            pure (owner.setIfInBounds j (some k), k + 1)) = _
          rw [free_clean hx12 (ho x List.mem_cons_self)]
          rfl]
      rw [h1]
      simp
      omega
    · rw [h2 j hj]
      by_cases hjx : j = x
      · subst hjx
        rw [if_neg hn1, if_pos List.mem_cons_self]
        have : j < owner.size := by omega
        simp [Array.getElem?_setIfInBounds, this]
      · have hxj : x ≠ j := fun e => hjx e.symm
        by_cases hjt : j ∈ todo
        · rw [if_pos hjt, if_pos (List.mem_cons_of_mem _ hjt), List.idxOf_cons]
          have : (x == j) = false := by simpa using hxj
          rw [this]
          simp
          omega
        · rw [if_neg hjt, if_neg (by simp [hjx, hjt])]
          simp [Array.getElem?_setIfInBounds, hxj]
theorem relayAll_z {led : Bool} {l : List Cell} {es : Array (Int × Value)} {t : SetTable} (z : ZT led true l es t) (h5 : t.tooFull = true) :
    ∃ l' es' t', relayAll t es (SetTable.grown es.size) = (es', t', false) ∧ ZT led false l' es' t' ∧ l'.Perm l := by
  have h12 := z.le12
  have hm : es.size = 5 := by
    have : t.fill * 5 ≥ t.mask * 3 := by simpa [SetTable.tooFull] using h5
    simp only [SetTable.fill, z.dum, z.size] at this
    have this : (es.size + 0) * 5 ≥ t.mask * 3 := this
    rcases z.cases with ⟨h1, h2, _⟩ | ⟨h1, _⟩
    · rw [h1] at this; simp at h2; omega
    · rw [h1] at this; omega
  have hlen : l.length = 5 := by rw [← z.length, hm]
  generalize hns : l.map (·.1) = ns
  have hnd : ns.Nodup := hns ▸ z.nodup
  have hsm : ∀ x ∈ ns, x < 12 := hns ▸ z.small
  obtain ⟨owner, ho1, ho2⟩ := lay_fold ns (Array.replicate (31 + 1) none) 0 (by simp) hsm (fun x hx => by
    have := hsm x hx
    have h32 : x < 32 := by omega
    simp [h32]) hnd
  have hhs : (es.map (·.1)).toList = ns.map fun x : Nat => (x : Int) := by
    rw [Array.toList_map, z.cells, ← hns]
    simp [cell]
  have hlc : SetTable.layClean 31 (es.map (·.1)) = some owner := by
    unfold SetTable.layClean
    rw [← Array.foldl_toList, hhs, ho1]
    rfl
  have howner : ∀ j, j < 32 → owner.getD j none = if j ∈ ns then some (ns.idxOf j) else none := fun j hj => by
    rw [ho2 j hj, Nat.zero_add]
    split
    · rfl
    · simp [hj]
  generalize hP : (List.range 32).filter (fun j => decide (j ∈ ns)) = P
  have hlive : (List.range 32).filterMap (fun j => (owner.getD j none).map (j, ·)) = P.map fun j => (j, ns.idxOf j) := by
    rw [← hP, ← fm_ite (fun j => j ∈ ns) (fun j => (j, ns.idxOf j))]
    refine fm_congr fun j hj => ?_
    rw [howner j (List.mem_range.mp hj)]
    split <;> rfl
  have hPns : P.Perm ns := by
    refine (List.perm_ext_iff_of_nodup (by rw [← hP]; exact List.nodup_range.filter _) hnd).mpr fun j => ?_
    rw [← hP, List.mem_filter, List.mem_range]
    simp only [decide_eq_true_eq]
    exact ⟨fun h => h.2, fun h => ⟨by have := hsm j h; omega, h⟩⟩
  have hPup : up P := by rw [← hP]; exact List.pairwise_lt_range.filter _
  have hord : (P.map fun j => ns.idxOf j).Perm (List.range es.size) := by
    refine (hPns.map _).trans (List.Perm.of_eq ?_)
    refine List.ext_getElem (by simp [← hns, z.length]) fun i h1 h2 => ?_
    rw [List.getElem_map, List.getElem_range]
    exact hnd.idxOf_getElem i (by simpa using h1)
  have hlaid : t.relaid (es.map (·.1)) (SetTable.grown es.size) = some ({ mask := 31, place := P.toArray, dummies := #[], finger := t.finger, led := t.led, moves := t.movedTo 31, plain := t.plain }, (P.map fun j => ns.idxOf j).toArray) := by
    unfold SetTable.relaid
    have h32 : SetTable.sizeAbove (SetTable.grown es.size) - 1 = 31 := by rw [hm]; decide
    rw [h32]
    unfold SetTable.laid
    rw [hlc]
    show some _ = some _
    rw [show (31 + 1 : Nat) = 32 from rfl, hlive]
    simp
    exact List.map_id _
  have hes : ((P.map fun j => ns.idxOf j).toArray.filterMap (es[·]?)).toList = ((P.map fun j => ns.idxOf j).filterMap (fun i => l[i]?)).map cell := by
    rw [Array.toList_filterMap]
    rw [List.map_filterMap]
    refine fm_congr fun i _ => ?_
    rw [← Array.getElem?_toList, z.cells, List.getElem?_map]
  have hl' : ((P.map fun j => ns.idxOf j).filterMap (fun i => l[i]?)).Perm l := by
    refine (hord.filterMap _).trans (List.Perm.of_eq ?_)
    rw [z.length]
    exact List.filterMap_getElem?_range_length l
  have hk : ((P.map fun j => ns.idxOf j).filterMap (fun i => l[i]?)).map (·.1) = P := by
    rw [List.map_filterMap, List.filterMap_map]
    rw [fm_congr (g := some) (fun j hj => ?_), List.filterMap_some]
    have hjn : j ∈ ns := hPns.mem_iff.mp hj
    have hi : ns.idxOf j < ns.length := List.idxOf_lt_length_of_mem hjn
    show Option.map (·.1) l[ns.idxOf j]? = some j
    rw [← List.getElem?_map, hns, List.getElem?_eq_getElem hi, List.getElem_idxOf hi]
  have hsz : ((P.map fun j => ns.idxOf j).toArray.filterMap (es[·]?)).size = es.size := by
    rw [← Array.length_toList, hes, List.length_map, hl'.length_eq, z.length]
  have hz : ZT led false ((P.map fun j => ns.idxOf j).filterMap (fun i => l[i]?)) ((P.map fun j => ns.idxOf j).toArray.filterMap (es[·]?))
      { mask := 31, place := P.toArray, dummies := #[], finger := t.finger, led := t.led, moves := t.movedTo 31, plain := t.plain } := by
    refine ⟨z.led, z.plain, rfl, ?_, hes, by rw [hk]; exact hPns.nodup_iff.mpr hnd, fun x hx => ?_, hPup, .inr ⟨rfl, ?_⟩⟩
    · rw [hsz]
      show P.toArray.size = es.size
      rw [List.size_toArray, hPns.length_eq, ← hns, List.length_map, z.length]
    · rw [hk] at hx
      exact hsm x (hPns.mem_iff.mp hx)
    · rw [hk]
  refine ⟨_, _, _, ?_, hz, hl'⟩
  unfold relayAll
  rw [hlaid]
  dsimp only
  have hf := hz.fits
  have hc : coversAll (P.map fun j => ns.idxOf j).toArray es.size = true := by
    unfold coversAll
    exact List.isPerm_iff.mpr hord
  rw [hc, hf]
  rfl
theorem ZT.small_big {led : Bool} {l : List Cell} {es : Array (Int × Value)} {t : SetTable} (z : ZT led true l es t) (h : t.tooFull = false) : ZT led false l es t := by
  refine ⟨z.led, z.plain, z.dum, z.size, z.cells, z.nodup, z.small, z.up, ?_⟩
  rcases z.cases with ⟨h1, h2, h3⟩ | ⟨h1, h2⟩
  · refine .inl ⟨h1, ?_, h3⟩
    have : ¬ (t.fill * 5 ≥ t.mask * 3) := by simpa [SetTable.tooFull] using h
    simp only [SetTable.fill, z.dum, z.size] at this
    have this : ¬ ((es.size + 0) * 5 ≥ t.mask * 3) := this
    rw [h1] at this
    simp
    omega
  · exact .inr ⟨h1, h2⟩

/-! a set of small numbers on the heap: made from a list, told whole -/
noncomputable def ZAt (w : World) (h : Heap) (a : Addr) (l : List Cell) : Prop :=
  ∃ o es ep t, h.get? a = some o ∧ o.ExactSet ∧ o.data = .set es ep t ∧ ZT (!w.params.followText "set-order") false l es t
theorem hash_small : ∀ x : Nat, x < 12 → hashInt (x : Int) = (x : Int) := by decide +kernel
theorem ZT.elems {prog : Program} {w : World} {led big : Bool} {l : List Cell} {es : Array (Int × Value)} {t : SetTable} (z : ZT led big l es t) : ElemsOf (intKind prog w) es.toList := by
  intro e he
  rw [z.cells] at he
  obtain ⟨c, hc, rfl⟩ := List.mem_map.mp he
  have := z.small c.1 (List.mem_map_of_mem hc)
  exact ⟨⟨(c.1 : Int), intKind_is _ _ _ _, (hash_small _ this).symm⟩, rfl⟩
section
variable {prog : Program} {w : World} {A : Around} {E : Value → Shared → Prop} {s : Shared}
theorem putZ {h : Heap} {a : Addr} {o : Obj} {es : Array (Int × Value)} {ep : Nat} {t : SetTable} (ho : h.get? a = some o) (hd : o.data = .set es ep t) (es' : Array (Int × Value)) (t' : SetTable) :
    (h.update a (Obj.putSet es' t')).get? a = some { o with data := .set es' (ep + 1) t' } := by
  have := Heap.get?_update_self (Obj.putSet es' t') ho (by rw [putSet_of es' t' hd]; rfl)
  rw [putSet_of es' t' hd] at this
  exact this
theorem addZ {a : Addr} {l : List Cell} {x : Nat} {tk : Tok} {Q : Bool → Shared → Prop} (hx : x < 12) (hZ : ZAt w s.heap a l)
    (h : ∀ b h' l', Heap.SameBut a s.heap h' → ZAt w h' a l' → (∀ y, y ∈ l'.map (·.1) ↔ y ∈ l.map (·.1) ∨ y = x) → Q b { s with heap := h' }) :
    wpAny (model prog w) A (setAddHashed a (.int (x : Int) tk) (x : Int)) Q E s := by
  obtain ⟨o, es, ep, t, ho, hex, hd, z⟩ := hZ
  have hkey : (intKind prog w).is (x : Int) (.int (x : Int) tk) = true := intKind_is _ _ _ _
  have hel : ElemsOf (intKind prog w) es.toList := z.elems
  have h12 := z.le12
  have hb : es.size < scanBound := by unfold scanBound; omega
  have hh : (x : Int) = (intKind prog w).hash (x : Int) := (hash_small x hx).symm
  unfold setAddHashed setAddHashedIn
  refine wpAny_holding (wpAny_bind (wpAny_setState_of ho hd z.fits ?_))
  dsimp only
  rw [byScan_of rfl hb hel]
  simp only [↓reduceIte]
  unfold setAddByScan
  refine wpAny_bind ?_
  refine wpAny_bind (wpAny_rule ?_)
  refine wpAny_bind ?_
  have hscan : ∀ {Q' : ScanMet → Shared → Prop}, Q' (match es.toList.findIdx? (fun e => (intKind prog w).is (x : Int) e.2) with | some j => .found (0 + j) | none => .absent) s →
      wpAny (model prog w) A (setScan a (.int (x : Int) tk) (x : Int) true es) Q' E s := fun hq => by
    have := wpAny_setScan_of (E := E) (A := A) (adding := true) hkey ho hd z.fits hel hq
    rw [← hh] at this
    exact this
  refine hscan ?_
  have hmem : x ∈ l.map (·.1) ↔ ∃ e ∈ es.toList, (intKind prog w).is (x : Int) e.2 = true := by
    constructor
    · intro hm
      obtain ⟨c, hc, rfl⟩ := List.mem_map.mp hm
      exact ⟨cell c, by rw [z.cells]; exact List.mem_map_of_mem hc, intKind_is _ _ _ _⟩
    · rintro ⟨e, he, hp⟩
      rw [z.cells] at he
      obtain ⟨c, hc, rfl⟩ := List.mem_map.mp he
      obtain ⟨t', e'⟩ := Value.isInt_shape (show Value.isInt (x : Int) (cell c).2 = true from hp)
      have e2 : Value.int (c.1 : Int) c.2 = Value.int (x : Int) t' := e'
      injection e2 with e3
      have : c.1 = x := by omega
      exact this ▸ List.mem_map_of_mem hc
  cases hr : es.toList.findIdx? (fun e => (intKind prog w).is (x : Int) e.2) with
  | some j =>
    dsimp only
    obtain ⟨hj, hpj, _⟩ := List.findIdx?_eq_some_iff_getElem.mp hr
    have hin : x ∈ l.map (·.1) := hmem.mpr ⟨_, List.getElem_mem hj, hpj⟩
    refine wpAny_pure (wpAny_pure ?_)
    have := h false s.heap l (Heap.SameBut.refl a s.heap) ⟨o, es, ep, t, ho, hex, hd, z⟩ (fun y => ⟨.inl, fun h => h.elim id (fun e => e ▸ hin)⟩)
    exact this
  | none =>
    dsimp only
    have hout : x ∉ l.map (·.1) := fun hin => by
      obtain ⟨e, he, hp⟩ := hmem.mp hin
      have := List.findIdx?_eq_none_iff.mp hr e he
      rw [hp] at this
      exact Bool.noConfusion this
    obtain ⟨l1, es1, t1, e1, z1, p1⟩ := layNew_z z hx (tk := tk) hout
    rw [e1]
    dsimp only
    refine wpAny_bind (wpAny_pure ?_)
    have hb1 : es1.size < scanBound := by have := z1.le12; unfold scanBound; omega
    rw [z1.plain]
    simp only [↓reduceIte]
    refine wpAny_bind ?_
    rw [hashByValue_scannable 8 rfl]
    refine wpAny_pure ?_
    simp only [plainKind, ↓reduceIte]
    refine wpAny_bind (wpAny_storeSet_of ho hd ?_ (fits_of_scanBound hb1))
    have ho1 := putZ ho hd es1 t1
    have hsb1 := Heap.SameBut.update s.heap a (Obj.putSet es1 t1)
    have hm1 : ∀ y, y ∈ l1.map (·.1) ↔ y ∈ l.map (·.1) ∨ y = x := fun y => by
      rw [(p1.map (·.1)).mem_iff, List.map_cons, List.mem_cons]
      exact Or.comm
    cases hT : t1.tooFull with
    | false =>
      simp only [Bool.not_false, Bool.and_false, Bool.false_eq_true, ↓reduceIte]
      refine wpAny_pure (wpAny_pure ?_)
      exact h true _ l1 hsb1 ⟨_, es1, ep + 1, t1, ho1, hex, rfl, z1.small_big hT⟩ hm1
    | true =>
      simp only [Bool.not_false, Bool.and_self, ↓reduceIte]
      obtain ⟨l2, es2, t2, e2, z2, p2⟩ := relayAll_z z1 hT
      rw [e2]
      dsimp only
      have hb2 : es2.size < scanBound := by have := z2.le12; unfold scanBound; omega
      refine wpAny_bind (wpAny_pure ?_)
      refine wpAny_bind (wpAny_storeSet_of ho1 rfl ?_ (fits_of_scanBound hb2))
      refine wpAny_pure (wpAny_pure ?_)
      exact h true _ l2 (hsb1.trans (Heap.SameBut.update _ a _)) ⟨_, es2, ep + 1 + 1, t2, putZ ho1 rfl es2 t2, hex, rfl, z2⟩ (fun y => by rw [(p2.map (·.1)).mem_iff]; exact hm1 y)
end
theorem ZAt.keep {w : World} {h h' : Heap} {a : Addr} {l : List Cell} (z : ZAt w h a l) (k : ∀ o, h.get? a = some o → h'.get? a = some o) : ZAt w h' a l :=
  let ⟨o, es, ep, t, ho, r⟩ := z
  ⟨o, es, ep, t, k o ho, r⟩
theorem take_snoc_mem {ns : List Nat} {i y : Nat} (hi : i < ns.length) : y ∈ ns.take (i + 1) ↔ y ∈ ns.take i ∨ y = ns.getD i 0 := by
  rw [List.take_add_one, List.getElem?_eq_getElem hi, List.mem_append]
  simp [hi]
section
variable {prog : Program} {w : World} {A : Around} {R : Result → Shared → Prop} {I : Addr} {n : Nat} {P : Nat → Value → Prop} {St : Nat → Heap → Prop} {fp wr : List Addr}
theorem updateZ (W : Walks prog w A.in1 I fp wr n P St) (S : Addr) (hSf : S ∉ fp) (ns : List Nat) (hn : ns.length = n) (hval : ∀ i v, P i v → ∃ t, v = .int ((ns.getD i 0 : Nat) : Int) t) (hx : ∀ x ∈ ns, x < 12) :
    ∀ (k i : Nat) (s : Shared) (l : List Cell), n - i = k → i ≤ n → St i s.heap → ZAt w s.heap S l → (∀ y, y ∈ l.map (·.1) ↔ y ∈ ns.take i) →
      (∀ h' tk l', (∀ b o, b ∉ S :: wr → s.heap.get? b = some o → h'.get? b = some o) → ZAt w h' S l' → (∀ y, y ∈ l'.map (·.1) ↔ y ∈ ns) → R (.ok (.ret .none)) { s with heap := h', toks := tk }) →
      codeAny (model prog w) A (.builtin "set.update.loop" ⟨[.ref S, .ref I], []⟩) R s := by
  have hSw : S ∉ wr := fun h => hSf (W.sub _ h)
  intro k
  induction k with
  | zero =>
    intro i s l hk hi hst hZ hm hR
    obtain rfl : i = n := by omega
    refine codeAny_builtin PyProof.Rows.F.entry_set_update_loop ?_
    rw [Around.under_plainId PyProof.Rows.F.plain_set_update_loop _]
    show wpAny _ A.in1 (pyNext (.ref I) >>= _) _ _ s
    refine wpAny_bind (W.done s _ _ hst fun h' tk hk' => ?_)
    show wpAny _ A.in1 (ret Value.none) _ _ _
    refine wpAny_pure (hR h' tk l (fun b o hb e => hk' b o (fun h => hb (List.mem_cons_of_mem _ h)) e) (hZ.keep fun o e => hk' S o hSw e) (fun y => ?_))
    rw [hm y, ← hn, List.take_length]
  | succ k ih =>
    intro i s l hk hi hst hZ hm hR
    have hlt : i < n := by omega
    refine codeAny_builtin PyProof.Rows.F.entry_set_update_loop ?_
    rw [Around.under_plainId PyProof.Rows.F.plain_set_update_loop _]
    show wpAny _ A.in1 (pyNext (.ref I) >>= _) _ _ s
    refine wpAny_bind (W.item i s _ _ hlt hst fun v h1 tk1 hP hst1 hk1 => ?_)
    obtain ⟨t, rfl⟩ := hval i v hP
    have hx12 : ns.getD i 0 < 12 := by
      have : i < ns.length := by omega
      have e : ns.getD i 0 = ns[i] := by simp [this]
      rw [e]
      exact hx _ (List.getElem_mem this)
    show wpAny _ A.in1 (holding [Value.int ((ns.getD i 0 : Nat) : Int) t] (setAdd S (.int ((ns.getD i 0 : Nat) : Int) t)) >>= _) _ _ _
    refine wpAny_bind (wpAny_holding ?_)
    unfold setAdd
    refine wpAny_holding ?_
    refine wpAny_bind ((intKind prog w).pyHash (k := ((ns.getD i 0 : Nat) : Int)) (intKind_is _ _ _ _) ?_)
    rw [show (intKind prog w).hash ((ns.getD i 0 : Nat) : Int) = ((ns.getD i 0 : Nat) : Int) from hash_small _ hx12]
    refine addZ hx12 (hZ.keep fun o e => hk1 S o hSw e) fun b h2 l2 hsb hZ2 hm2 => ?_
    refine wpAny_pure ⟨plainId_quiet PyProof.Rows.F.plain_set_update_loop _, ih (i + 1) _ l2 (by omega) hlt (W.frame _ _ _ hst1 fun b hb o e => ?_) hZ2 (fun y => ?_) fun h3 tk3 l3 hk3 hZ3 hm3 => ?_⟩
    · rw [hsb.2 b (fun h : b = S => hSf (by rw [← h]; exact hb))]; exact e
    · rw [hm2, hm, take_snoc_mem (by omega)]
    · refine hR h3 tk3 l3 (fun b o hb e => hk3 b o hb ?_) hZ3 hm3
      rw [hsb.2 b (fun h : b = S => hb (by rw [h]; exact List.mem_cons_self))]
      exact hk1 b o (fun h => hb (List.mem_cons_of_mem _ h)) e
end
theorem ZT.fresh (led : Bool) : ZT led false [] #[] (.fresh 0 0 led) := by
  refine ⟨rfl, rfl, rfl, rfl, rfl, List.nodup_nil, fun x h => absurd h (List.not_mem_nil), List.Pairwise.nil, Or.inl ⟨rfl, Nat.zero_le _, fun j h => absurd h (List.not_mem_nil)⟩⟩
section
variable {prog : Program} {w : World} {A : Around} {E : Value → Shared → Prop} {s : Shared}
noncomputable abbrev emptyZ (w : World) : Obj := { cls := .type "set", dict := none, data := .set #[] 0 (.fresh 0 0 (!w.params.followText "set-order")) }
theorem newZ (a : Value) {Q : Value → Shared → Prop} (h : Q (.ref s.heap.objs.size) { s with heap := s.heap.push (emptyZ w) }) :
    codeAny (model prog w) A (.call (.builtin "set.__new__") ⟨[.type "set", a], []⟩) (wants Q E) s := by
  refine codeAny_of_tree ?_
  show wpAny _ A.in1 (do checkBuiltinCall "set.__new__" ⟨[.type "set", a], []⟩; again (.builtin "set.__new__" ⟨[.type "set", a], []⟩)) _ _ s
  refine wpAny_bind (wpAny_of_eq (PySem.F.newCall_set_1 a) (wpAny_pure ⟨plainId_quiet PySem.F.plain_set_new _, codeAny_builtin PySem.F.entry_set_new ?_⟩))
  rw [Around.under_plainId PySem.F.plain_set_new _]
  unfold Builtin.«set.__new__» Builtin.Frozenset.newClass
  have hsub := sub_set_self
  obtain ⟨hp, g, d, tk, os⟩ := s
  dsimp only
  wp_walk
  refine wpAny_askSetting (wpAny_pure ?_)
  dsimp only
  simp only [newObj]
  refine wpAny_bind (wpAny_alloc (wpAny_pure ?_))
  exact wpAny_pure h
set_option maxHeartbeats 3200000 in


theorem callZ {l : Addr} {vs : List Value} {ns : List Nat} {Q : Value → Shared → Prop} (hh : A.handled = none) (hl : s.heap.IsList l vs.toArray) (hI : IntsAre vs (zs ns)) (hx : ∀ x ∈ ns, x < 12)
    (h : ∀ h' tk l', ZAt w h' s.heap.objs.size l' → (∀ y, y ∈ l'.map (·.1) ↔ y ∈ ns) → (∀ b o, b < s.heap.objs.size → s.heap.get? b = some o → h'.get? b = some o) → Q (.ref s.heap.objs.size) { s with heap := h', toks := tk }) :
    wpAny (model prog w) A (call (.type "set") [.ref l]) Q E s := by
  obtain ⟨c, tl, hmro⟩ := PySem.F.called_set.mro
  have hmade := PySem.F.called_set.made
  have hsub := PySem.F.called_set.sub
  refine wpAny_call (codeAny_of_tree ?_)
  show wpAny _ _ (callAny (.type "set") _) _ _ _
  refine wpAny_pure ⟨Code.quiet_builtin _ (by decide +kernel), codeAny_builtin PySem.F.entry_type_call ?_⟩
  rw [Around.under_plain (weight_type_call_type "set" [.ref l] []) rfl]
  have h1 := PySem.F.called_set.notType
  have h2 := PySem.F.called_set.canCreate
  have hct := PySem.F.typeCall_set_1 (.ref l)
  repeat (any_goals (first | assumption | wp_step))
  refine codeAny_mono (newZ (.ref l) (E := E) (Q := fun obj s₁ => obj = .ref s.heap.objs.size ∧ s₁ = { s with heap := s.heap.push (emptyZ w) }) ⟨rfl, rfl⟩) fun r s₁ hr => ?_
  cases r with
  | error e => exact hr
  | ok fl =>
    cases fl with
    | ret obj =>
      obtain ⟨rfl, rfl⟩ := hr
      have hS : (s.heap.push (emptyZ w)).get? s.heap.objs.size = some (emptyZ w) := Heap.get?_push_size _ rfl
      have hT : Shared.TypeIs { s with heap := s.heap.push (emptyZ w) } (.ref s.heap.objs.size) "set" := ⟨_, hS, rfl⟩
      have hli := PySem.F.called_set.init.lookup
      have hbi := PySem.F.called_set.init.bind (.ref s.heap.objs.size)
      repeat (any_goals (first | assumption | wp_step))
      refine codeAny_mono (codeAny_call_builtin (R := wants (fun r s₂ => r = .none ∧ ∃ h' tk l', s₂ = { s with heap := h', toks := tk } ∧ ZAt w h' s.heap.objs.size l' ∧ (∀ y, y ∈ l'.map (·.1) ↔ y ∈ ns) ∧
          (∀ b o, b < s.heap.objs.size → s.heap.get? b = some o → h'.get? b = some o)) E) PySem.F.called_set.init.plain PySem.F.entry_set_init (check_set_init_1 hT ?_)) fun r₂ s₂ hr₂ => ?_
      · obtain ⟨ol, hol, hcl, nl, hdl⟩ := hl
        obtain ⟨ocls, odict, odata, oslots⟩ := ol
        simp only at hcl hdl
        subst hcl; subst hdl
        have hol' : (s.heap.push (emptyZ w)).get? l = some { cls := .type "list", dict := odict, data := .seq vs.toArray nl, slots := oslots } := Heap.get?_push_of_some _ hol
        have hsls := PySem.F.sub_list_set
        have hslf := PySem.F.sub_list_frozenset
        have hne : (Value.type "list" == Value.type "dict") = false := by decide
        have hl1 : (s.heap.push (emptyZ w)).IsList l vs.toArray := ⟨_, hol', rfl, nl, rfl⟩
        unfold Builtin.«set.__init__» noKeywords Builtin.Frozenset.updateFrom
        generalize hPI : pyIter = PI
        wp_walk
        subst hPI
        refine wpAny_pyIter_list hl1 ?_
        refine wpAny_bind (wpAny_runValue ?_)
        have hlS : l < s.heap.objs.size := Heap.lt_size hol
        have hh3 : A.in1.in1.in1.handled = none := by simp [hh]
        have hneI : l ≠ (s.heap.push (emptyZ w)).objs.size := by
          rw [Heap.size_push]; exact Nat.ne_of_lt (Nat.lt_succ_of_lt hlS)
        have hSf : s.heap.objs.size ∉ [(s.heap.push (emptyZ w)).objs.size, l] := by
          rw [Heap.size_push]; simp only [List.mem_cons, List.not_mem_nil, or_false, not_or]
          exact ⟨Nat.ne_of_lt (Nat.lt_succ_self _), Nat.ne_of_gt hlS⟩
        have hlen : vs.length = ns.length := by have := hI.length; simpa using this
        have hval : ∀ (i : Nat) (v : Value), vs.toArray[i]? = some v → ∃ t, v = .int ((ns.getD i 0 : Nat) : Int) t := fun i v hv => by
          obtain ⟨t, e⟩ := PyProof.Rows.IntsAre.int_at hI i v (by simpa using hv)
          refine ⟨t, e.trans ?_⟩
          have hi : i < vs.length := by
            rw [List.getElem?_toArray] at hv
            exact (List.getElem?_eq_some_iff.mp hv).1
          have hi' : i < ns.length := by omega
          congr 1
          simp [hi']
        refine updateZ (A := A.in1.in1) (Walks.list hh3 _ l hneI vs.toArray) s.heap.objs.size hSf ns (by simpa using hlen.symm) hval hx (vs.toArray.size - 0) 0 _ [] rfl (Nat.zero_le _) ⟨⟨_, Heap.get?_push_size _ rfl, rfl, rfl⟩, (hl1.push _)⟩ ?hZ0 (fun y => by simp) ?hR
        case hZ0 => exact ⟨_, _, _, _, Heap.get?_push_of_some _ hS, ⟨rfl, rfl, rfl⟩, rfl, ZT.fresh _⟩
        case hR =>
          intro h' tk l' hk hZ hm
          show wpAny _ _ _ _ _ _
          refine wpAny_pure ?_
          show wpAny _ _ (ret Value.none) _ _ _
          refine wpAny_pure ⟨rfl, h', tk, l', rfl, hZ, hm, fun b o hb e => ?_⟩
          have hb1 : b ≠ s.heap.objs.size := Nat.ne_of_lt hb
          have hb2 : b ≠ (s.heap.push (emptyZ w)).objs.size := by
            rw [Heap.size_push]; exact Nat.ne_of_lt (Nat.lt_succ_of_lt hb)
          exact hk b o (by simp only [List.mem_cons, List.not_mem_nil, or_false, not_or]; exact ⟨hb1, hb2⟩) (Heap.get?_push_of_some _ (Heap.get?_push_of_some _ e))
      · cases r₂ with
        | error e => exact hr₂
        | ok fl₂ =>
          cases fl₂ with
          | ret r =>
            obtain ⟨rfl, h', tk, l', rfl, hZ, hm, hk⟩ := hr₂
            repeat (any_goals (first | assumption | wp_step))
            exact h _ _ _ hZ hm hk
          | _ => exact hr₂.elim
    | _ => exact hr.elim
end

/-! walking over a set of small numbers -/
theorem zEntryIter : entryFor table "set.__iter__" = some Builtin.«frozenset.__iter__» :=
  entryFor_alias (id' := "frozenset.__iter__") (by kernel_rfl) (by first | rfl | decide +kernel) (by decide +kernel) (by kernel_rfl)
theorem zSlotNext : Slot "set_iterator" "__next__" "set_iterator.__next__" :=
  .of (owner := "set_iterator") (n := "__next__") (by rw [typeLookup_type, builtinLookup_eq_fast]; kernel_rfl) (by decide +kernel) (by decide +kernel) (by decide +kernel)
    (by first | exact .inl (by decide +kernel) | exact .inr (by decide +kernel)) (by rw [isSubtype_type]; kernel_rfl)
theorem zSlotSelf : Slot "set_iterator" "__iter__" "set_iterator.__iter__" :=
  .of (owner := "set_iterator") (n := "__iter__") (by rw [typeLookup_type, builtinLookup_eq_fast]; kernel_rfl) (by decide +kernel) (by decide +kernel) (by decide +kernel)
    (by first | exact .inl (by decide +kernel) | exact .inr (by decide +kernel)) (by rw [isSubtype_type]; kernel_rfl)
theorem zEntryNext : entryFor table "set_iterator.__next__" = some Builtin.«set_iterator.__next__» := entryFor_of_tree (by kernel_rfl)
theorem zEntrySelf : entryFor table "set_iterator.__iter__" = some Builtin.«dict_keyiterator.__iter__» :=
  entryFor_alias (id' := "dict_keyiterator.__iter__") (by kernel_rfl) (by first | rfl | decide +kernel) (by decide +kernel) (by kernel_rfl)
theorem zOwner : Manifest.owners.lookup (String.ofList ['r', 'o', 't', 'a', 'r', 'e', 't', 'i', '_', 't', 'e', 's'].reverse) = some Manifest.sig_set_iterator := by kernel_rfl
theorem zArgsNext (a : Value) : argsOk "set_iterator.__next__" ⟨[a], []⟩ := by
  unfold argsOk; rw [signature?_of (id := "set_iterator.__next__") (n := ['_', '_', 't', 'x', 'e', 'n', '_', '_']) (o := ['r', 'o', 't', 'a', 'r', 'e', 't', 'i', '_', 't', 'e', 's']) (by kernel_rfl) zOwner]; kernel_rfl
theorem zArgsSelf (a : Value) : argsOk "set_iterator.__iter__" ⟨[a], []⟩ := by
  unfold argsOk; rw [signature?_of (id := "set_iterator.__iter__") (n := ['_', '_', 'r', 'e', 't', 'i', '_', '_']) (o := ['r', 'o', 't', 'a', 'r', 'e', 't', 'i', '_', 't', 'e', 's']) (by kernel_rfl) zOwner]; kernel_rfl

/-- the order in which a walk over the set meets its cells -/
noncomputable def decell (e : Int × Value) : Cell := match e.2 with
  | .int n t => (n.toNat, t)
  | _ => (0, 0)
theorem decell_cell (c : Cell) : decell (cell c) = c := rfl
theorem pick_perm {α : Type} (next : Nat → Nat) : ∀ (fuel k : Nat) (left : List α) (out : Array α), left.length ≤ fuel → (pickOrder.go next fuel k left out).toList.Perm (out.toList ++ left)
  | 0, k, left, out, h => by
    have : left = [] := List.length_eq_zero_iff.mp (by omega)
    subst this
    unfold pickOrder.go
    simp
  | fuel + 1, k, left, out, h => by
    unfold pickOrder.go
    cases hx : left[next k % left.length]? with
    | none =>
      have : left = [] := by
        cases left with
        | nil => rfl
        | cons y ys =>
          have := List.getElem?_eq_none_iff.mp hx
          have := Nat.mod_lt (next k) (show 0 < (y :: ys).length by simp)
          omega
      subst this
      simp
    | some x =>
      obtain ⟨hi, hx⟩ := List.getElem?_eq_some_iff.mp hx
      dsimp only
      refine (pick_perm next fuel (k + 1) _ _ (by rw [List.length_eraseIdx]; split <;> omega)).trans ?_
      rw [Array.toList_push, List.append_assoc]
      refine List.Perm.append_left _ ?_
      rw [List.eraseIdx_eq_take_drop_succ, ← hx]
      exact (List.perm_middle (a := left[next k % left.length]) (l₁ := left.take (next k % left.length)) (l₂ := left.drop (next k % left.length + 1))).symm.trans (List.Perm.of_eq (by rw [List.getElem_cons_drop, List.take_append_drop]))
noncomputable def ordZ (w : World) (a : Addr) (ep : Nat) (l : List Cell) : List Cell :=
  if w.params.followText "set-order" then (pickOrder (w.params.setOrder a ep) (l.map cell).toArray).toList.map decell else l
theorem ordZ_perm (w : World) (a : Addr) (ep : Nat) (l : List Cell) : (ordZ w a ep l).Perm l := by
  unfold ordZ
  split
  · have h := pick_perm (w.params.setOrder a ep) (l.map cell).toArray.size 0 (l.map cell).toArray.toList #[] (by simp)
    have h2 := h.map decell
    simp only [Array.toList_empty, List.nil_append, List.map_map] at h2
    refine h2.trans (List.Perm.of_eq ?_)
    rw [show decell ∘ cell = id from rfl, List.map_id]
  · exact .refl _
theorem pick_cells (next : Nat → Nat) (l : List Cell) : (pickOrder next (l.map cell).toArray).toList = ((pickOrder next (l.map cell).toArray).toList.map decell).map cell := by
  have h := pick_perm next (l.map cell).toArray.size 0 (l.map cell).toArray.toList #[] (by simp)
  simp only [Array.toList_empty, List.nil_append] at h
  rw [List.map_map]
  refine (List.map_id _).symm.trans (List.map_congr_left fun e he => ?_)
  have := h.mem_iff.mp he
  obtain ⟨c, _, rfl⟩ := List.mem_map.mp this
  rfl
section
variable {prog : Program} {w : World} {A : Around} {E : Value → Shared → Prop} {s : Shared}
theorem byText_ {Q : Bool → Shared → Prop} (h : Q (w.params.followText "set-order") s) : wpAny (model prog w) A setsByText Q E s := by
  unfold setsByText
  exact wpAny_bind (wpAny_askSetting (wpAny_pure h))
theorem drawnZ {a : Addr} {o : Obj} {es : Array (Int × Value)} {ep : Nat} {t : SetTable} {led : Bool} {l : List Cell} {Q : Bool → Shared → Prop} (ho : s.heap.get? a = some o) (hd : o.data = .set es ep t) (z : ZT led false l es t)
    (h : Q false s) : wpAny (model prog w) A (setDrawn a) Q E s := by
  unfold setDrawn
  refine wpAny_bind (wpAny_setState_of ho hd z.fits ?_)
  dsimp only
  refine wpAny_bind (byText_ ?_)
  refine wpAny_pure ?_
  have : (!w.params.followText "set-order" && (!t.plain && decide (es.size > 1))) = false := by rw [z.plain]; simp
  exact this ▸ h
end
section
variable {prog : Program} {w : World} {A : Around} {E : Value → Shared → Prop} {s : Shared}
noncomputable def ZIter (w : World) (h : Heap) (I a : Addr) (i n ep : Nat) (t : SetTable) : Prop :=
  ∃ oI slot, h.get? I = some oI ∧ oI.cls = .type "set_iterator" ∧ oI.data = .fields #[.int ((slot : Nat) : Int) 0, .int (i : Int) 0, .ref a, .int (n : Int) 0, .int (ep : Int) 0] ∧
    (w.params.followText "set-order" = false → SetTable.below t.place slot = i)
theorem ZIter.typeIs {s : Shared} {I a : Addr} {i n ep : Nat} {t : SetTable} (x : ZIter w s.heap I a i n ep t) : s.TypeIs (.ref I) "set_iterator" :=
  let ⟨o, _, ho, hc, _⟩ := x
  ⟨o, ho, hc⟩
theorem iterZ {a : Addr} {o : Obj} {es : Array (Int × Value)} {ep : Nat} {t : SetTable} {l : List Cell} {Q : Value → Shared → Prop} (ho : s.heap.get? a = some o) (hex : o.ExactSet) (hd : o.data = .set es ep t)
    (z : ZT (!w.params.followText "set-order") false l es t)
    (h : Q (.ref s.heap.objs.size) { s with heap := s.heap.push { cls := .type "set_iterator", data := .fields #[.int 0 0, .int 0 0, .ref a, .int (l.length : Int) 0, .int (ep : Int) 0] } }) :
    wpAny (model prog w) A (pyIter (.ref a)) Q E s := by
  have hT : s.TypeIs (.ref a) "set" := ⟨o, ho, hex.1⟩
  refine wpAny_pyIter_slot hT PySem.F.slot_set_iter (wpAny_call_entry PySem.F.slot_set_iter hT zEntryIter ?_ (PySem.F.args_set_iter_1 _))
  unfold Builtin.«frozenset.__iter__» Builtin.Frozenset.slot0 slotArgs
  simp only [List.isEmpty_nil, Bool.not_true, Bool.false_eq_true, ↓reduceIte, bind_assoc, List.length_nil, bne_self_eq_false]
  unfold Builtin.Frozenset.addrOf Builtin.Frozenset.sizeOf
  refine wpAny_bind (wpAny_pure ?_)
  try dsimp only
  refine wpAny_bind (wpAny_pure ?_)
  refine wpAny_bind (wpAny_bind (wpAny_setEntries_of ho hd z.fits (wpAny_pure ?_)))
  refine wpAny_bind (drawnZ ho hd z ?_)
  simp only [Bool.false_eq_true, ↓reduceIte]
  refine wpAny_bind (wpAny_pure ?_)
  refine wpAny_bind (wpAny_setEpoch_of ho hd z.fits ?_)
  refine wpAny_bind ?_
  unfold newFields
  refine wpAny_newObj_type (wpAny_pure ⟨_, rfl, "set_iterator", _, ⟨_, Heap.get?_push_size _ rfl, rfl⟩, zSlotNext.lookup, ?_⟩) (by size_fits)
  simpa [rawInt, z.length] using h
theorem selfZ {I a : Addr} {i n ep : Nat} {t : SetTable} {Q : Value → Shared → Prop} (x : ZIter w s.heap I a i n ep t) (h : Q (.ref I) s) : wpAny (model prog w) A (pyIter (.ref I)) Q E s := by
  refine wpAny_pyIter_slot x.typeIs zSlotSelf (wpAny_call_entry zSlotSelf x.typeIs zEntrySelf ?_ (zArgsSelf _))
  show wpAny _ _ (ret (.ref I)) _ _ s
  exact wpAny_pure ⟨_, rfl, "set_iterator", _, x.typeIs, zSlotNext.lookup, h⟩
theorem setNextZ {a : Addr} {o : Obj} {es : Array (Int × Value)} {ep slot i : Nat} {t : SetTable} {l : List Cell} {Q : Option (Value × Nat) → Shared → Prop} (ho : s.heap.get? a = some o) (hd : o.data = .set es ep t)
    (z : ZT (!w.params.followText "set-order") false l es t) (hs : w.params.followText "set-order" = false → SetTable.below t.place slot = i)
    (h : ∀ slot' : Nat, (w.params.followText "set-order" = false → i < l.length → SetTable.below t.place slot' = i + 1) → Q (((ordZ w a ep l)[i]?).map fun c => (Value.int (c.1 : Int) c.2, slot')) s) :
    wpAny (model prog w) A (setNext a slot i ep) Q E s := by
  unfold setNext
  refine wpAny_bind (wpAny_setState_of ho hd z.fits ?_)
  dsimp only
  refine wpAny_bind (byText_ ?_)
  cases hb : w.params.followText "set-order" with
  | true =>
    simp only [↓reduceIte, bne_self_eq_false, Bool.false_eq_true]
    refine wpAny_bind ?_
    unfold setWalk
    refine wpAny_bind (wpAny_setState_of ho hd z.fits ?_)
    dsimp only
    refine wpAny_bind (byText_ ?_)
    rw [hb]
    simp only [↓reduceIte]
    refine wpAny_bind (wpAny_askSetting ?_)
    refine wpAny_pure (wpAny_pure ?_)
    have hes : es = (l.map cell).toArray := by rw [← z.cells]
    have := h slot (fun h => by rw [hb] at h; cases h)
    unfold ordZ at this
    rw [hb] at this
    simp only [↓reduceIte] at this
    rw [hes, ← Array.getElem?_toList, pick_cells]
    rw [List.getElem?_map]
    change Q (Option.map (fun e : Int × Value => (e.2, slot)) (Option.map cell (List.map decell (pickOrder (w.params.setOrder a ep) (l.map cell).toArray).toList)[i]?)) s
    revert this
    generalize ((pickOrder (w.params.setOrder a ep) (l.map cell).toArray).toList.map decell)[i]? = c
    intro this
    cases c with
    | none => exact this
    | some c => exact this
  | false =>
    have hled : t.led = true := by rw [z.led, hb]; rfl
    have hdr : (!t.plain && decide (es.size > 1)) = false := by rw [z.plain]; rfl
    simp only [Bool.false_eq_true, ↓reduceIte]
    refine wpAny_ite_split (fun hab => absurd hab (by show ¬ ((!t.plain && decide (es.size > 1)) = true); rw [hdr]; decide)) (fun _ => ?_)
    refine wpAny_bind ?_
    refine wpAny_ite_split (fun hab => absurd hab (by rw [hled]; simp)) (fun _ => wpAny_pure ?_)
    refine wpAny_pure ?_
    rw [hs hb]
    have ho : ordZ w a ep l = l := by unfold ordZ; rw [hb]; rfl
    have hei : es[i]? = (l[i]?).map cell := by rw [← Array.getElem?_toList, z.cells, List.getElem?_map]
    rw [hei]
    cases hl : l[i]? with
    | none =>
      have := h 0 (fun _ hi => by rw [List.getElem?_eq_getElem hi] at hl; cases hl)
      rw [ho, hl] at this
      exact this
    | some c =>
      have hi : i < l.length := (List.getElem?_eq_some_iff.mp hl).1
      have hp : i < t.place.size := by rw [z.size, z.length]; exact hi
      have hpe : t.place[i]? = some t.place[i] := Array.getElem?_eq_getElem hp
      rw [hpe]
      have := h (t.place[i] + 1) (fun _ _ => below_next _ z.up hpe)
      rw [ho, hl] at this
      exact this
end

section
variable {prog : Program} {w : World} {A : Around} {E : Value → Shared → Prop} {s : Shared}
theorem nextZ {I a : Addr} {o : Obj} {es : Array (Int × Value)} {ep i : Nat} {t : SetTable} {l : List Cell} {c : Cell} {Q : Option Value → Shared → Prop} (ho : s.heap.get? a = some o) (hd : o.data = .set es ep t)
    (z : ZT (!w.params.followText "set-order") false l es t) (x : ZIter w s.heap I a i l.length ep t) (hx : (ordZ w a ep l)[i]? = some c) (hne : a ≠ I)
    (h : ∀ h', ZIter w h' I a (i + 1) l.length ep t → Heap.SameBut I s.heap h' → Q (some (.int (c.1 : Int) c.2)) { s with heap := h' }) :
    wpAny (model prog w) A (pyNext (.ref I)) Q E s := by
  obtain ⟨oI, slot, hI, hc, hdI, hs⟩ := id x
  have hlt : i < l.length := by
    have := (List.getElem?_eq_some_iff.mp hx).1
    rwa [(ordZ_perm w a ep l).length_eq] at this
  unfold pyNext
  refine wpAny_bind (wpAny_attempt (wpAny_callSpecial?_slot (name := Str.ofString "__next__") x.typeIs zSlotNext (wpAny_call_entry zSlotNext x.typeIs zEntryNext ?_ (zArgsNext _))))
  unfold Builtin.«set_iterator.__next__» slotArgs
  simp only [List.isEmpty_nil, Bool.not_true, Bool.false_eq_true, ↓reduceIte, bind_assoc, List.length_nil, bne_self_eq_false]
  refine wpAny_bind (wpAny_pure ?_)
  try dsimp only
  refine wpAny_bind (wpAny_fieldsOf hI hdI ?_)
  dsimp only
  refine wpAny_bind (wpAny_setEntries_of ho hd z.fits ?_)
  have hsz : ((es.size : Nat) : Int) = (l.length : Int) := by rw [z.length]
  refine wpAny_ite_split (fun hab => absurd hab (by rw [hsz]; simp)) (fun _ => ?_)
  refine wpAny_bind ?_
  simp only [Int.toNat_natCast]
  refine setNextZ ho hd z hs fun slot' hs' => ?_
  rw [hx]
  dsimp only [Option.map]
  refine wpAny_bind (wpAny_setField hI hdI (by simp) ?_)
  have hI1 := Heap.get?_update_self (Obj.mapFields (·.setIfInBounds 0 (rawInt (slot' : Int)))) hI (Obj.isFreed_of_fields (Obj.data_mapFields hdI _))
  have hd1 := Obj.data_mapFields hdI (·.setIfInBounds 0 (rawInt (slot' : Int)))
  refine wpAny_bind (wpAny_setField hI1 hd1 (by simp) ?_)
  have hI2 := Heap.get?_update_self (Obj.mapFields (·.setIfInBounds 1 (rawInt ((i : Int) + 1)))) hI1 (Obj.isFreed_of_fields (Obj.data_mapFields hd1 _))
  have hd2 := Obj.data_mapFields hd1 (·.setIfInBounds 1 (rawInt ((i : Int) + 1)))
  refine wpAny_pure ⟨_, rfl, wpAny_pure (h _ ⟨_, slot', hI2, (Obj.cls_mapFields ..).trans ((Obj.cls_mapFields ..).trans hc), ?_, fun hb => hs' hb hlt⟩ ((Heap.SameBut.update ..).trans (Heap.SameBut.update ..)))⟩
  rw [hd2]
  simp [rawInt]
theorem endZ {I a : Addr} {o : Obj} {es : Array (Int × Value)} {ep : Nat} {t : SetTable} {l : List Cell} {Q : Option Value → Shared → Prop} (hh : A.handled = none) (ho : s.heap.get? a = some o) (hd : o.data = .set es ep t)
    (z : ZT (!w.params.followText "set-order") false l es t) (x : ZIter w s.heap I a l.length l.length ep t)
    (h : ∀ h', Heap.ExtBut I s.heap h' → Q none { s with heap := h' }) :
    wpAny (model prog w) A (pyNext (.ref I)) Q E s := by
  obtain ⟨oI, slot, hI, hc, hdI, hs⟩ := id x
  unfold pyNext
  refine wpAny_bind (wpAny_attempt (wpAny_callSpecial?_slot (name := Str.ofString "__next__") x.typeIs zSlotNext (wpAny_call_entry zSlotNext x.typeIs zEntryNext ?_ (zArgsNext _))))
  unfold Builtin.«set_iterator.__next__» slotArgs
  simp only [List.isEmpty_nil, Bool.not_true, Bool.false_eq_true, ↓reduceIte, bind_assoc, List.length_nil, bne_self_eq_false]
  refine wpAny_bind (wpAny_pure ?_)
  try dsimp only
  refine wpAny_bind (wpAny_fieldsOf hI hdI ?_)
  dsimp only
  refine wpAny_bind (wpAny_setEntries_of ho hd z.fits ?_)
  have hsz : ((es.size : Nat) : Int) = (l.length : Int) := by rw [z.length]
  refine wpAny_ite_split (fun hab => absurd hab (by rw [hsz]; simp)) (fun _ => ?_)
  refine wpAny_bind ?_
  simp only [Int.toNat_natCast]
  refine setNextZ ho hd z hs fun slot' hs' => ?_
  have hx : (ordZ w a ep l)[l.length]? = none := List.getElem?_eq_none (by rw [(ordZ_perm w a ep l).length_eq]; exact Nat.le_refl _)
  rw [hx]
  dsimp only [Option.map]
  refine wpAny_bind (wpAny_setField hI hdI (by simp) ?_)
  show wpAny _ _ (newExc (.type "StopIteration") [] >>= _) _ _ _
  refine wpAny_bind ?_
  simp only [newExc, newTuple]
  refine wpAny_bind (wpAny_newObj_type ?_ (by size_fits))
  refine wpAny_bind (m := firstArgMember _ _) (wpAny_of_eq (a := Value.none) (by first | rfl | (simp only [firstArgMember]; rfl)) ?_)
  refine wpAny_newObj_type ?_ (by size_fits)
  simp only [raiseNew]
  refine wpAny_bind (wpAny_handled ?_)
  rw [show A.in1.handled = none from hh]
  refine wpAny_bind (wpAny_pure (wpAny_throw ?_))
  refine wpAny_bind (wpAny_isInstance (T := "StopIteration") (b := true) ⟨_, Heap.get?_push_size _ rfl, rfl⟩ isSubtype_stop ?_)
  exact wpAny_pure (h _ (((Heap.SameBut.update ..).extBut.push _).push _))
theorem hintZ {r : Addr} {Q : Bool → Shared → Prop} (hT : s.TypeIs (.ref r) "set") (h : Q false s) : wpAny (model prog w) A (Builtin.List.listLengthHint (.ref r)) Q E s := by
  unfold Builtin.List.listLengthHint
  refine wpAny_bind (wpAny_specialOf hT PySem.F.slot_set_len.lookup ?_)
  generalize hid : ("set.__len__" : String) = id0
  wp_delta
  rw [show splitId id0 = some ("set", "__len__") from by subst hid; decide +kernel]
  subst hid
  refine wpAny_bind (wpAny_isInstance (T := "set") (b := true) hT (by rw [isSubtype_type]; kernel_rfl) ?_)
  refine wpAny_ite_split (fun hab => absurd hab (by decide)) (fun _ => ?_)
  refine wpAny_ite_split (fun _ => ?_) (fun hab => absurd (by decide +kernel) hab)
  refine wpAny_bind (wpAny_typeOf hT ?_)
  exact wpAny_pure h
theorem walksZ (hh : A.handled = none) (I a : Addr) (hne : a ≠ I) {o : Obj} {es : Array (Int × Value)} {ep : Nat} {t : SetTable} {l : List Cell} (hd : o.data = .set es ep t) (z : ZT (!w.params.followText "set-order") false l es t) :
    Walks prog w A I [I, a] [I] l.length (fun i v => ∃ c, (ordZ w a ep l)[i]? = some c ∧ v = .int (c.1 : Int) c.2) (fun i h => ZIter w h I a i l.length ep t ∧ h.get? a = some o) where
  sub := fun b hb => by simp at hb; simp [hb]
  frame := fun _ _ _ st hk => ⟨let ⟨oI, slot, hI, r⟩ := st.1; ⟨oI, slot, hk I (by simp) _ hI, r⟩, hk a (by simp) _ st.2⟩
  item := fun i s Q E hi st hQ => by
    have hi' : i < (ordZ w a ep l).length := by rw [(ordZ_perm w a ep l).length_eq]; exact hi
    refine nextZ st.2 hd z st.1 (List.getElem?_eq_getElem hi') hne fun h' x' hs' => ?_
    exact hQ _ h' s.toks ⟨_, List.getElem?_eq_getElem hi', rfl⟩ ⟨x', hs'.extBut _ _ hne st.2⟩ fun b o hb e => hs'.extBut b o (fun h => hb (by simp [h])) e
  done := fun s Q E st hQ => endZ hh st.2 hd z st.1 fun h' he' => hQ h' s.toks fun b o hb e => he' b o (fun h => hb (by simp [h])) e
  self := fun _ _ _ _ st hQ => selfZ st.1 hQ
theorem srcZ {a : Addr} {o : Obj} {es : Array (Int × Value)} {ep : Nat} {t : SetTable} {l : List Cell} (hex : o.ExactSet) (hd : o.data = .set es ep t) (z : ZT (!w.params.followText "set-order") false l es t) :
    KdlSrc prog w "set" a a l.length (fun i v => ∃ c, (ordZ w a ep l)[i]? = some c ∧ v = .int (c.1 : Int) c.2) (fun h => h.get? a = some o) where
  type := fun _ ho => ⟨o, ho, hex.1⟩
  there := fun _ ho => ⟨Heap.lt_size ho, Heap.lt_size ho⟩
  keep := fun _ _ ho hk => hk a (.inl rfl) o ho
  notList := by decide
  notTuple := by decide
  hint := fun _ _ _ _ ho hq => hintZ ⟨o, ho, hex.1⟩ hq
  iter := fun A s hh ho => ⟨_, _, (fun _ _ hq => iterZ ho hex hd z hq), walksZ hh _ a (Nat.ne_of_lt (Heap.lt_size ho)) hd z,
    ⟨⟨_, 0, Heap.get?_push_size _ rfl, rfl, rfl, fun _ => below_zero _ z.up⟩, Heap.get?_push_of_some _ ho⟩⟩
theorem zOrder_mem {vs : List Value} {ord : List Cell} (hl : vs.length = ord.length) (hv : ∀ (j : Nat) (v : Value), vs[j]? = some v → ∃ c, ord[j]? = some c ∧ v = .int (c.1 : Int) c.2) : IntsAre vs (zs (ord.map (·.1))) := by
  induction ord generalizing vs with
  | nil =>
    cases vs with
    | nil => exact .nil
    | cons v vs => simp at hl
  | cons c ord ih =>
    cases vs with
    | nil => simp at hl
    | cons v vs =>
      obtain ⟨c', h1, rfl⟩ := hv 0 v rfl
      simp only [List.getElem?_cons_zero, Option.some.injEq] at h1
      subst h1
      exact .cons _ _ (ih (by simpa using hl) fun j u hu => by simpa using hv (j + 1) u (by simpa using hu))
end

/-! sets of small numbers: the table told whole -/
noncomputable def SetZ (w : World) (o : Obj) (zl : List Nat) : Prop := o.ExactSet ∧ ∃ es ep t l, o.data = .set es ep t ∧ ZT (!w.params.followText "set-order") false l es t ∧ (l.map (·.1)).Perm zl
theorem ddp_nodup (l : List Nat) : (ddp l).Nodup := by
  have : ∀ (l a : List Nat), a.Nodup → (l.foldl (fun a x => if x ∈ a then a else a ++ [x]) a).Nodup := by
    intro l
    induction l with
    | nil => exact fun a h => h
    | cons x l ih =>
      intro a h
      rw [List.foldl_cons]
      refine ih _ ?_
      split
      · exact h
      · rename_i hx
        refine List.nodup_append.mpr ⟨h, by simp, fun y hy z hz e => hx ?_⟩
        rw [List.mem_singleton] at hz
        rw [← hz, ← e]
        exact hy
  exact this l [] List.nodup_nil
theorem zs_back {ys : List Int} {xs : List Nat} (p : ys.Perm (zs xs)) : ys = zs (ys.map Int.toNat) := by
  rw [zs, List.map_map]
  refine (List.map_id _).symm.trans (List.map_congr_left fun y hy => ?_)
  obtain ⟨x, _, rfl⟩ := List.mem_map.mp (p.mem_iff.mp hy)
  rfl
theorem zs_perm {ys : List Int} {xs : List Nat} (p : ys.Perm (zs xs)) : (ys.map Int.toNat).Perm xs := by
  have := p.map Int.toNat
  rw [zs, List.map_map] at this
  refine this.trans (List.Perm.of_eq ?_)
  exact (List.map_congr_left fun x _ => rfl).trans (List.map_id _)
theorem zs_le {ys : List Int} (h : ys.Pairwise (· ≤ ·)) : (ys.map Int.toNat).Pairwise (· ≤ ·) := by
  refine List.pairwise_map.mpr (h.imp fun {a b} hab => by omega)
section
variable {prog : Program} {w : World} {A : Around} {E : Value → Shared → Prop} {s : Shared} {h₀ : Heap} {L : Addr} {m : Str → Option Value} {news : List (Addr × Obj)}
theorem set_LL {l : Addr} {vs : List Value} {ns : List Nat} {Q : Value → Shared → Prop} (F : Fr h₀ L s.heap m) (N : News h₀ L s.heap news) (hh : A.handled = none) (hl : LL news l vs) (hI : IntsAre vs (zs ns)) (hx : ∀ x ∈ ns, x < 12) (hlen : ns.length ≤ 12)
    (h : ∀ h' tk D o, Fr h₀ L h' m → News h₀ L h' ((D, o) :: news) → SetZ w o (ddp ns) → (∀ p ∈ news, p.1 < D) → Q (.ref D) { s with heap := h', toks := tk }) :
    wpAny (model prog w) A (call (.type "set") [.ref l]) Q E s := by
  refine callZ hh (hl.is N) hI hx fun h' tk l' hZ hm hk => ?_
  obtain ⟨o, es, ep, t, ho, hex, hd, z⟩ := hZ
  have hk' : ∀ b o, s.heap.get? b = some o → h'.get? b = some o := fun b o e => hk b o (Heap.lt_size e) e
  refine h h' tk _ o (F.kept hk') (N.kept_cons F hk' (Nat.le_refl _) ho) ⟨hex, es, ep, t, l', hd, z, ?_⟩ (fun p hp => Heap.lt_size (N p hp).1)
  refine (List.perm_ext_iff_of_nodup z.nodup (ddp_nodup ns)).mpr fun y => ?_
  rw [hm y]
  exact (Iff.trans (mem_ddp_iff y ns []) (by simp)).symm
theorem len_Z {a : Addr} {o : Obj} {zl : List Nat} {Q : Value → Shared → Prop} (N : News h₀ L s.heap news) (hm : (a, o) ∈ news) (hz : SetZ w o zl)
    (h : ∀ t tk, Q (.int (zl.length : Int) t) { s with toks := tk }) : wpAny (model prog w) A (call (.builtin "len") [.ref a]) Q E s := by
  obtain ⟨hex, es, ep, t, l, hd, z, hp⟩ := hz
  have h12 := z.le12
  have hl : es.size = zl.length := by rw [z.length, ← hp.length_eq, List.length_map]
  refine call_len_set (N _ hm).1 hex hd z.fits (by omega) ?_
  rw [hl]
  exact h _ _
theorem sort_D {D : Addr} {vs : List Value} {xs : List Nat} {Q : Unit → Shared → Prop} (F : Fr h₀ L s.heap m) (N : News h₀ L s.heap ((D, listOf vs.toArray 0) :: news)) (hD : ∀ p ∈ news, p.1 < D) (hI : IntsAre vs (zs xs)) (h64 : vs.length < 64)
    (h : ∀ h' o' vs' ys, Fr h₀ L h' m → News h₀ L h' ((D, o') :: news) → LO o' vs' → IntsAre vs' (zs ys) → ys.Perm xs → ys.Pairwise (· ≤ ·) → Q () { s with heap := h' }) :
    wpAny (model prog w) A (call (.builtin "list.sort") [.ref D]) (fun _ s' => Q () s') E s := by
  have hoL : s.heap.get? D = some (seqObj "list" vs.toArray 0) := (N _ (.head _)).1
  refine wpAny_call_entry slot_list_sort ⟨_, hoL, rfl⟩ entry_list_sort (list_sort_tree hoL hI h64 fun out ns' a1 a2 a3 => ⟨_, rfl, ?_⟩) (args_list_sort _)
  obtain ⟨e, he⟩ := sortedHeap_at (vs := vs) (out := out) hoL
  have hk : ∀ b o, b ≠ D → s.heap.get? b = some o → (sortedHeap s.heap D vs out).get? b = some o := fun b o hb e => by
    rw [sortedHeap_old hb (Heap.lt_size e)]; exact e
  have hDn := (N _ (.head _)).2
  refine h _ (seqObj "list" out e) out.toList (ns'.map Int.toNat) ?_ ?_ ⟨rfl, e, by simp⟩ (zs_back a2 ▸ a1) (zs_perm a2) (zs_le a3)
  · obtain ⟨oL, b1, b2, hL, b3⟩ := F.ns
    refine ⟨⟨oL, b1, b2, hk _ _ (Ne.symm hDn.1) hL, b3⟩, fun b o e => hk b o (fun hb => ?_) (F.keep b o e), F.above⟩
    rw [hb, hDn.2] at e
    cases e
  · intro p hp
    rcases List.mem_cons.mp hp with rfl | hp
    · exact ⟨he, hDn⟩
    · have hp' := N p (.tail _ hp)
      exact ⟨hk _ _ (Nat.ne_of_lt (hD p hp)) hp'.1, hp'.2⟩
theorem sorted_Z {a : Addr} {o : Obj} {zl : List Nat} {Q : Value → Shared → Prop} (F : Fr h₀ L s.heap m) (N : News h₀ L s.heap news) (hh : A.handled = none) (hm : (a, o) ∈ news) (hz : SetZ w o zl)
    (h : ∀ h' tk D o' vs ys, Fr h₀ L h' m → News h₀ L h' ((D, o') :: news) → LO o' vs → IntsAre vs (zs ys) → ys.Perm zl → up ys → (∀ p ∈ news, p.1 < D) → Q (.ref D) { s with heap := h', toks := tk }) :
    wpAny (model prog w) A (call (.builtin "sorted") [.ref a]) Q E s := by
  obtain ⟨hex, es, ep, t, l, hd, z, hp⟩ := hz
  have h12 := z.le12
  have hl12 : l.length ≤ 12 := by rw [← z.length]; exact h12
  refine kdu_sorted (srcZ hex hd z) hh F N (N _ hm).1 (by rw [sizeLine_eq]; omega) fun D h' tk vs F' N' l1 hlen hv => ?_
  have hop := ordZ_perm w a ep l
  have hI := zOrder_mem (by rw [hlen, hop.length_eq]) hv
  refine sort_D (Q := fun _ s' => Q (.ref D) s') F' N' l1 hI (by omega) fun h2 o' vs' ys F2 N2 hO hI2 hp2 hs2 => ?_
  have hperm : ys.Perm zl := hp2.trans ((hop.map _).trans hp)
  refine h h2 tk D o' vs' ys F2 N2 hO hI2 hperm ?_ l1
  have hnd : ys.Nodup := (hp2.trans (hop.map _)).nodup_iff.mpr z.nodup
  exact (hs2.and hnd).imp fun {a b} hab => Nat.lt_of_le_of_ne hab.1 hab.2
theorem sorted_LL {a : Addr} {vs : List Value} {xs : List Nat} {Q : Value → Shared → Prop} (F : Fr h₀ L s.heap m) (N : News h₀ L s.heap news) (hl : LL news a vs) (hI : IntsAre vs (zs xs)) (hlen : xs.length ≤ 12)
    (h : ∀ h' tk D o' vs' ys, Fr h₀ L h' m → News h₀ L h' ((D, o') :: news) → LO o' vs' → IntsAre vs' (zs ys) → ys.Perm xs → ys.Pairwise (· ≤ ·) → (∀ p ∈ news, p.1 < D) → Q (.ref D) { s with heap := h', toks := tk }) :
    wpAny (model prog w) A (call (.builtin "sorted") [.ref a]) Q E s := by
  have hvl : vs.length = xs.length := by have := hI.length; simpa using this
  refine sorted_N F N (hl.is N) hI (by omega) fun h' vs' ns' e F' N' hI' hp' hs' => ?_
  exact h h' s.toks _ _ vs' (ns'.map Int.toNat) F' N' ⟨rfl, e, rfl⟩ (zs_back hp' ▸ hI') (zs_perm hp') (zs_le hs') (fun p hp => Nat.lt_succ_of_lt (Heap.lt_size (N p hp).1))
end
local macro_rules | `(tactic| walk_at "call type:set") => `(tactic| (k_here; with_reducible apply set_LL; k_dflt (walk_at "mF"; (case hh => rfl); walk_at "m8"; (case hI => with_reducible assumption); (case hx => with_reducible assumption); walk_at "m7"); intro h' tk' D' o' F' N' hz' l1'; k_lt l1'))
local macro_rules | `(tactic| walk_at "call builtin:sorted") => `(tactic| (k_here; (with_reducible show wpAny _ _ (call (Value.builtin _) [Value.ref _]) _ _ _); k_dflt (first | (refine' sorted_Z ?F ?N ?hh ?hm ?hz ?_; walk_at "m13"; (case hm => exact .head _); (case hz => assumption); (case hh => rfl)) | (refine' sorted_LL ?F ?N ?hl ?hI ?hlen ?_; walk_at "m13"; walk_at "m8"; (case hI => assumption); walk_at "m7")); intro h' tk' D' o' vs' ys' F' N' hO' hI' hp' hu' l1'; k_lt l1'))
local macro_rules | `(tactic| walk_at "call builtin:len") => `(tactic| (k_here; with_reducible apply len_Z; k_dflt (walk_at "m12"; (case hz => with_reducible assumption)); intro t' tk'))

theorem CellsAre_six {cm : Str → Option Value} {n₁ n₂ n₃ n₄ n₅ n₆ : Str} {c₁ c₂ c₃ c₄ c₅ c₆ : Addr} {cells : List (Addr × Obj)} (x : CellsAre cm [(n₁, c₁), (n₂, c₂), (n₃, c₃), (n₄, c₄), (n₅, c₅), (n₆, c₆)] cells) :
    ∃ o₁ o₂ o₃ o₄ o₅ o₆, cells = [(c₁, o₁), (c₂, o₂), (c₃, o₃), (c₄, o₄), (c₅, o₅), (c₆, o₆)] ∧ o₁.data = .cell (cm n₁) ∧ o₂.data = .cell (cm n₂) ∧ o₃.data = .cell (cm n₃) ∧ o₄.data = .cell (cm n₄) ∧ o₅.data = .cell (cm n₅) ∧ o₆.data = .cell (cm n₆) := by
  cases x with | cons h r => cases r with | cons h' r => obtain ⟨o₃, o₄, o₅, o₆, rfl, h₃, h₄, h₅, h₆⟩ := r.four; exact ⟨_, _, o₃, o₄, o₅, o₆, rfl, h, h', h₃, h₄, h₅, h₆⟩
local macro_rules | `(tactic| k_cells $Y:ident) => `(tactic| (have hY := CellsAre_six $Y; obtain ⟨o1', o2', o3', o4', o5', o6', hE', d1', d2', d3', d4', d5', d6'⟩ := hY; subst hE'; clear $Y))
theorem cells_off {L' : Addr} {news : List (Addr × Obj)} (h : ∀ p ∈ news, p.1 < L') (c : Nat) : ∀ p ∈ news, p.1 ≠ L' + c := fun p hp e => by
  have h1 := ltN (h p hp)
  have h2 : @Eq Nat p.1 (L' + c) := e
  omega
theorem compSrc_R {prog : Program} {w : World} {A : Around} {s₁ : Shared} {h₀ : Heap} {L : Addr} {m : Str → Option Value} {env : Env} {news : List (Addr × Obj)}
    {elt : Expr} {x : Str} {scope : Scope} {cl : List (Str × Addr)} {Fin : Shared → List Value → List (Addr × Obj) → Prop} {r : Addr} {t u v : Tok} {n : Nat}
    (hh : A.handled = none) (F : Fr h₀ L s₁.heap m) (N : News h₀ L s₁.heap news) (hr : IsRange s₁.heap r 0 (n : Int) 1 t u v) (hsz : n ≤ 1000)
    (h : ∀ g, LCg.CompRest prog w A h₀ L m env elt x scope cl { s₁ with heap := g } (fun _ => True) (fun i v => ∃ t, v = .int (0 + (i : Int)) t) (Fin { s₁ with heap := g }) n 0 [] news) :
    LCg.CompSrc prog w A h₀ L m env elt x scope cl Fin (.ref r) s₁ := by
  refine Or.inr ⟨r, 0, (n : Int), t, u, v, n, news, rfl, hh, F, N, hr, small_one (by walk_at "mO") (by walk_at "mO") (by walk_at "mO") (by walk_at "mO"), rangeSize01 n, ?_, ?_⟩
  · rw [sizeLine_eq]; omega
  · rintro _ ⟨g, rfl⟩
    exact h g
local macro_rules | `(tactic| walk_at "exec For Name Tuple cons nil") => `(tactic| (k_here; (rename Fr _ _ _ _ => lF'); (with_unfolding_all refine' For_invVF lF' ?k1 ?k2 ?_; (case k1 => exact rfl); (case k2 => exact rfl); k_whole)))
theorem relabs_length (k : Nat) : ∀ (l : List Nat) (ps : List Nat), (l.foldl (fun ps x => relab ps k x) ps).length = ps.length
  | [], _ => rfl
  | x :: l, ps => by rw [List.foldl_cons, relabs_length k l, relab_length]
theorem relab_take {ps : List Nat} {k j e : Nat} (hk : k < ps.length) (hj : j < ps.length) (he : e < ps.length) : (relab ps k j).take (e + 1) = (relab ps k j).take e ++ [if ps[e] = ps[j] then ps[k] else ps[e]] := by
  have h : e < (relab ps k j).length := by rw [relab_length]; exact he
  rw [List.take_succ_eq_append_getElem h]
  congr 1
  simp [relab, List.getD_eq_getElem?_getD, hk, hj]
theorem news_pick {h₀ h : Heap} {L : Addr} {x : Addr × Obj} {n n' : List (Addr × Obj)} (N : News h₀ L h n) (hx : x ∈ n) (N' : News h₀ L h n') : News h₀ L h (x :: n') := fun p hp => by
  rcases List.mem_cons.mp hp with rfl | hp
  · exact N _ hx
  · exact N' p hp
theorem itB_cell {o : Obj} {v : Option Value} (h : o.data = .cell v) : itB o = false := by unfold itB; rw [h]
theorem noit_old {old news : List (Addr × Obj)} {x : Addr × Obj} (h : x ∈ old) (n : NoIt old news) : NoIt old (x :: news) := fun p hp => by
  rcases List.mem_cons.mp hp with rfl | hp
  · exact .inr h
  · exact n p hp
theorem relab_sub {ps : List Nat} {k j x : Nat} (h : x ∈ relab ps k j) (hk : k < ps.length) : x ∈ ps := by
  unfold relab at h
  obtain ⟨q, hq, e⟩ := List.mem_map.mp h
  split at e
  · rw [List.getD_eq_getElem?_getD, List.getElem?_eq_getElem hk] at e
    exact e ▸ List.getElem_mem _
  · exact e ▸ hq
theorem partsTo_lt {row : List Nat} : ∀ (i x : Nat), i ≤ row.length → x ∈ partsTo row i → x < row.length
  | 0, x, _, h => List.mem_range.mp h
  | i + 1, x, hi, h => by
    unfold partsTo at h
    rw [foldl_range_succ] at h
    refine partsTo_lt i x (by walk_at "mO") (relab_sub (relab_sub h ?_) ?_)
    · rw [relab_length]; show _ < (partsTo row i).length; rw [partsTo_length]; omega
    · show _ < (partsTo row i).length; rw [partsTo_length]; omega
structure PSt where
  e1 : Obj
  uo : Option Value
  ue : Option Value
structure ESt where
  o2 : Obj
  o3 : Obj
  o4 : Obj
  Dp : Addr
  op : Obj
  ws : List Value
  ps : List Nat
  u : Option Value
section
variable {prog : Program} {w : World} {p : Program} {loose : List Str} {mean : ExcName → Option Value} {mg mb : Str → Option Value}
    {dp un : Nat} {gd : Option (List Code)} {cn : Str} {cs : Scope} {a : Addr} {ccd : Value} {cl : List (Str × Addr)} {outer : List Env} {A A₀ : Around} {base h₀ : Heap} {L : Addr} {m : Str → Option Value} {news : List (Addr × Obj)} {s : Shared}
    {Q : Value → Shared → Prop} {E : Value → Shared → Prop}

set_option maxHeartbeats 8000000 in
theorem even_ {r1 r2 r3 : Addr} {v1 v2 v3 : List Value} {rg fc row : List Nat} (B : Below A₀ base outer h₀) (F : Fr h₀ L s.heap m) (X : (hd.heap_39 w.params).In h₀) (N : News h₀ L s.heap news) (T : Top p loose mean mg mb h₀) (hk : cs.kind = .function)
    (hl1 : LL news r1 v1) (hl2 : LL news r2 v2) (hl3 : LL news r3 v3) (hI1 : IntsAre v1 (zs rg)) (hI2 : IntsAre v2 (zs fc)) (hI3 : IntsAre v3 (zs row))
    (hrow : ∀ x ∈ row, x < row.length) (hlen : row.length ≤ 12) (hev : row.length % 2 = 0) (hlr : rg.length = row.length) (hlf : fc.length = row.length) (hr12 : ∀ x ∈ rg, x < 12) (hf12 : ∀ x ∈ fc, x < 12) (hE : ∀ c ∈ partsTo row row.length, evenB rg fc (partsTo row row.length) row.length c)
    (hdp : dp + 20 < recursionLimit) (hu : un + 60 < cLine)
    (ret : ∀ h' tk', Fr h₀ L h' m → News h₀ L h' news → Q (.bool true) { s with heap := h', toks := tk' }) :
    wpAny (model prog w) (ktrTop dp un gd cn cs L a ccd cl outer) (call (.ref 352) [.ref r1, .ref r2, .ref r3] []) Q E s := by
  have hvl3 : v3.length = row.length := by rw [hI3.length, List.length_map]
  refine wpAny_call ?_
  first | k_enter | fail "enter"
  rename_i g1 L1 h1 tk1 FG1 F1 B1 X1 T1 l1 o1 o2 o3 o4 o5 o6 d1 d2 d3 d4 d5 d6 N1
  replace d1 : o1.data = .cell none := d1
  replace d2 : o2.data = .cell none := d2
  replace d3 : o3.data = .cell none := d3
  replace d4 : o4.data = .cell none := d4
  replace d5 : o5.data = .cell (some (.ref r2)) := d5
  replace d6 : o6.data = .cell (some (.ref r1)) := d6
  replace F1 : Fr g1 L1 h1 (fun y => if y = Str.ofString "row" then some (.ref r3) else none) := F1
  have c1 := cells_off (by assumption : ∀ p ∈ news, p.1 < _) 1
  have c2 := cells_off (by assumption : ∀ p ∈ news, p.1 < _) (1 + 1)
  have c3 := cells_off (by assumption : ∀ p ∈ news, p.1 < _) (1 + 1 + 1)
  have c4 := cells_off (by assumption : ∀ p ∈ news, p.1 < _) (1 + 1 + 1 + 1)
  have c5 := cells_off (by assumption : ∀ p ∈ news, p.1 < _) (1 + 1 + 1 + 1 + 1)
  have c6 := cells_off (by assumption : ∀ p ∈ news, p.1 < _) (1 + 1 + 1 + 1 + 1 + 1)
  k_steps
  refine Stopped.go (compSrc_R (n := row.length) rfl (by k_asm) (by k_asm) (by assumption) (by walk_at "mO") (fun g => ?_))
  refine compRest_all (n := row.length) (fun i ys => IntsAre ys (zs (List.range i))) trivial ?_ ?_ _ 0 [] (by simp) IntsAre.nil
  · rintro i ys v I oI C oC D m₂ h tk E' hi hg ⟨t, rfl⟩ hC hx F₁ N₁
    rw [Int.zero_add] at hx
    k_steps
    refine EltEnd.intro (by k_asm) (by k_asm) ?_
    rw [List.range_succ]
    show IntsAre _ (List.map _ (_ ++ [i]))
    rw [List.map_append]
    exact IntsAre_snoc hg _ _
  · intro ys hg
    refine Stopped.go ?_
    intro Dp h1 tk1 F1 N1 oD
    have hoff := off1_all oD
    simp only [LCg.Off1] at oD
    k_steps
    refine Stopped.go (iter_rangeB (S := ESt) (n := row.length) (fun st => [(Str.ofString "other", st.u)])
      (fun i st nw => nw = (st.Dp, st.op) :: (L1 + 1 + 1 + 1 + 1 + 1 + 1, o1) :: (L1 + 1 + 1 + 1 + 1 + 1, st.o2) :: (L1 + 1 + 1 + 1 + 1, st.o3) :: (L1 + 1 + 1 + 1, st.o4) :: (L1 + 1 + 1, o5) :: (L1 + 1, o6) :: news ∧
        (∃ v, st.o2.data = .cell v) ∧ (∃ v, st.o3.data = .cell v) ∧ st.o4.data = .cell (some (.ref st.Dp)) ∧ LO st.op st.ws ∧ IntsAre st.ws (zs st.ps) ∧ st.ps = partsTo row i ∧
        ((@Ne Nat (L1 + 1 + 1 + 1) st.Dp) ∧ (@Ne Nat (L1 + 1 + 1 + 1 + 1) st.Dp) ∧ (@Ne Nat (L1 + 1 + 1 + 1 + 1 + 1) st.Dp) ∧ (@Ne Nat (L1 + 1 + 1 + 1 + 1 + 1 + 1) st.Dp)))
      ⟨o2, o3, _, Dp, LCg.lst ys, ys, List.range row.length, none⟩ rfl (by assumption) (by walk_at "mO") (by k_asm) (by k_asm) (by intro p hp; cases List.mem_singleton.mp hp; rfl)
      ⟨rfl, ⟨_, d2⟩, ⟨_, d3⟩, by assumption, ⟨rfl, _, rfl⟩, by assumption, rfl, ⟨oD.2.2.2.1, oD.2.2.1, oD.2.1, oD.1⟩⟩ ?_ ?_)
    · intro i t σ nw h' tk' I o hi hZ hno F₁ N₁ ho hq
      refine gen_both (by passes_own) fun QP EP hQP hEP => ?_
      obtain ⟨e2, e3, e4, Dq, eo, ws, ps, u⟩ := σ
      obtain ⟨rfl, ⟨w2, hd2⟩, ⟨w3, hd3⟩, hd4, hO, hI4, hps, hne⟩ := hZ
      dsimp only at hd2 hd3 hd4 hO hI4 hps hne F₁ N₁ hno
      have hqI := allLt_of hq
      simp only [AllLt, and_true] at hqI
      obtain ⟨tq, hrw⟩ := hI3.get i (row[i] : Int) (by simp [zs, hi])
      have hrw' : v3[(i : Int).toNat]? = some (.int (row[i] : Int) tq) := hrw
      replace F₁ : Fr g1 L1 h' (fun y => if y = Str.ofString "k" then some (.int (i : Int) t) else over [(Str.ofString "other", u)] (fun y => if y = Str.ofString "row" then some (.ref r3) else none) y) := F₁
      replace N₁ : News g1 L1 h' _ := N₁
      k_steps
      rename_i D1 h2 F2 N2 l2
      refine Stopped.go (iter_tupB (S := ESt) (k := 0) (vs := [.int (row[i] : Int) tq, .int ((i : Int) + 1 - (i : Int).fmod 2 * 2) (tk' + 1 + 1 + 1 + 1 + 1 + 1)]) (fun st => [(Str.ofString "other", st.u)])
        (fun j st nw => nw = (D1, { cls := .type "tuple", data := .seq #[.int (row[i] : Int) tq, .int ((i : Int) + 1 - (i : Int).fmod 2 * 2) (tk' + 1 + 1 + 1 + 1 + 1 + 1)] }) :: (I, o) :: (st.Dp, st.op) :: (L1 + 1 + 1 + 1 + 1 + 1 + 1, o1) :: (L1 + 1 + 1 + 1 + 1 + 1, st.o2) :: (L1 + 1 + 1 + 1 + 1, st.o3) :: (L1 + 1 + 1 + 1, st.o4) :: (L1 + 1 + 1, o5) :: (L1 + 1, o6) :: news ∧
          (∃ v, st.o2.data = .cell v) ∧ (∃ v, st.o3.data = .cell v) ∧ st.o4.data = .cell (some (.ref st.Dp)) ∧ LO st.op st.ws ∧ IntsAre st.ws (zs st.ps) ∧ st.ps = ([row[i], oppN i].take j).foldl (fun ps x => relab ps i x) ps ∧
          ((@Ne Nat (L1 + 1 + 1 + 1) st.Dp) ∧ (@Ne Nat (L1 + 1 + 1 + 1 + 1) st.Dp) ∧ (@Ne Nat (L1 + 1 + 1 + 1 + 1 + 1) st.Dp) ∧ (@Ne Nat (L1 + 1 + 1 + 1 + 1 + 1 + 1) st.Dp)))
        ⟨e2, e3, e4, Dq, eo, ws, ps, u⟩ rfl ?_ (by k_asm) (by k_asm) (by intro p hp; cases List.mem_singleton.mp hp; rfl) ⟨rfl, ⟨_, hd2⟩, ⟨_, hd3⟩, hd4, hO, hI4, rfl, hne⟩ ?_ ?_)
      · rintro j st nw ⟨rfl, _⟩
        exact .head _
      · intro j v σ nw h3 tk3 J oj hj hv hZ hno' F₂ N₂ hoj hqj
        refine gen_both (by passes_own) fun QQ EQ hQQ hEQ => ?_
        obtain ⟨f2, f3, f4, Dr, ep, xs, qs, u'⟩ := σ
        obtain ⟨rfl, ⟨w2', hf2⟩, ⟨w3', hf3⟩, hf4, hO', hI5, hqs, hne'⟩ := hZ
        dsimp only at hf2 hf3 hf4 hO' hI5 hqs hne' F₂ N₂ hno'
        obtain ⟨x, tx, rfl, hx, hjx⟩ : ∃ x : Nat, ∃ tx, v = .int (x : Int) tx ∧ x < row.length ∧ [row[i], oppN i].take (j + 1) = [row[i], oppN i].take j ++ [x] := by
          rcases j with _ | _ | j
          · exact ⟨row[i], tq, (Option.some.inj hv).symm, hrow _ (List.getElem_mem _), rfl⟩
          · refine ⟨oppN i, tk' + 1 + 1 + 1 + 1 + 1 + 1, (Option.some.inj hv).symm.trans ?_, oppN_lt hi hev, rfl⟩
            rw [oppN_int, Int.fmod_eq_emod_of_nonneg _ (by decide)]
          · exact absurd hj (by simp)
        have hql : qs.length = row.length := by
          rw [hqs, relabs_length, hps, partsTo_length]
        have hxl : xs.length = row.length := by rw [hI5.length, List.length_map, hql]
        obtain ⟨t1, hp1⟩ := hI5.get i (qs[i] : Int) (by simp [zs, hql, hi])
        obtain ⟨t2, hp2⟩ := hI5.get x (qs[x] : Int) (by simp [zs, hql, hx])
        have hp1' : xs[(i : Int).toNat]? = some (.int (qs[i] : Int) t1) := hp1
        have hp2' : xs[(x : Int).toNat]? = some (.int (qs[x] : Int) t2) := hp2
        replace F₂ : Fr g1 L1 h3 (fun y => if y = Str.ofString "other" then some (.int (x : Int) tx) else over [(Str.ofString "other", u')] (fun y => if y = Str.ofString "k" then some (.int (i : Int) t) else over [(Str.ofString "other", u)] (fun y => if y = Str.ofString "row" then some (.ref r3) else none) y) y) := F₂
        replace N₂ : News g1 L1 h3 _ := N₂
        have hqJ := allLt_of hqj
        simp only [AllLt, and_true] at hqJ
        k_steps
        · rename_i D2 h4 l4 h5 h6 n3 dd3 h7 n2 F3 N3 dd2 hneq
          have hneq' : qs[i] ≠ qs[x] := fun e => hneq (congrArg Int.ofNat e)
          refine Stopped.go (compSrc_LL rfl (by k_asm) (by k_asm) ⟨ep, .tail _ (.tail _ (.tail _ (.tail _ (.head _)))), hO'⟩ (by walk_at "mO") (fun g => ?_))
          refine compRest_all (n := xs.length) (fun e ys => IntsAre ys (zs ((relab qs i x).take e))) (srcAt_LL ⟨ep, .tail _ (.tail _ (.tail _ (.tail _ (.head _)))), hO'⟩) ?_ ?_ _ 0 [] (by simp) IntsAre.nil
          · rintro e ys v K oK C oC D m₂ h tk E' he hg hP hC hx F₁ N₁
            have heq : e < qs.length := by walk_at "mO"
            obtain ⟨t5, hp5⟩ := hI5.get e (qs[e] : Int) (by simp [zs, heq])
            obtain rfl : v = .int (qs[e] : Int) t5 := by
              rw [List.getElem?_toArray, hp5] at hP
              exact (Option.some.inj hP).symm
            have htk := relab_take (ps := qs) (k := i) (j := x) (e := e) (by walk_at "mO") (by walk_at "mO") heq
            k_steps
            all_goals refine EltEnd.intro (by k_asm) (by k_asm) ?_
            all_goals rw [htk]; show IntsAre _ (List.map _ (_ ++ [_])); rw [List.map_append]
            · rename_i hc
              rw [if_pos (show qs[e] = qs[x] from Int.ofNat.inj hc)]
              exact IntsAre_snoc hg _ _
            · rename_i hc
              rw [if_neg (show ¬ qs[e] = qs[x] from fun e9 => hc (congrArg Int.ofNat e9))]
              exact IntsAre_snoc hg _ _
          · intro ys hg
            intro D5 h8 tk8 F8 N8 oD8
            simp only [LCg.Off1] at oD8
            k_steps
            rename_i h9 o9 F9 N9 dd9
            refine hQQ _ _ ?_
            dsimp only [TurnS]
            refine TurnEndS.intro ⟨n2, n3, o9, D5, LCg.lst ys, ys, relab qs i x, some (.int (x : Int) tx)⟩ (u := some (.int (x : Int) tx)) (Fr.eqv (by k_asm) ?_)
              (news_pick N9 (by kwd_less) (news_pick N9 (by kwd_less) (news_pick N9 (by kwd_less) (news_pick N9 (by kwd_less) (news_sub N9 (fun p hp => .tail _ (.tail _ (.tail _ (.tail _ (.tail _ (.tail _ hp)))))))))))
              ?_ ⟨rfl, ⟨_, dd2⟩, ⟨_, dd3⟩, dd9, ⟨rfl, _, rfl⟩, ?_, ?_, ?_⟩
            · intro y
              by_cases h1 : y = Str.ofString "other"
              · subst h1; rfl
              simp only [over, if_neg h1]
            · exact noit_old (.head _) (noit_old (.tail _ (.head _)) (noit_cons (LO.itB (o := LCg.lst ys) (vs := ys) ⟨rfl, _, rfl⟩) (noit_cons (itB_cell d1) (noit_cons (itB_cell dd2) (noit_cons (itB_cell dd3) (noit_cons (itB_cell dd9) (noit_cons (itB_cell d5) (noit_cons (itB_cell d6) (fun p hp => .inr (.tail _ (.tail _ (.tail _ (.tail _ (.tail _ (.tail _ (.tail _ (.tail _ (.tail _ (hp))))))))))))))))))) 
            · rw [List.take_of_length_le (by rw [relab_length]; walk_at "mO")] at hg; exact hg
            · show relab qs i x = _
              rw [hjx, List.foldl_append, ← hqs]
              rfl
            · exact ⟨oD8.2.2.2.2.2.2.2.2.1, oD8.2.2.2.2.2.2.2.1, oD8.2.2.2.2.2.2.1, oD8.2.2.2.2.2.1⟩
        · k_steps
          rename_i D2 h4 l4 h5 h6 n3 dd3 h7 n2 F3 N3 dd2 heq
          refine hQQ _ _ ?_
          dsimp only [TurnS]
          refine TurnEndS.intro ⟨n2, n3, f4, Dr, ep, xs, qs, some (.int (x : Int) tx)⟩ (u := some (.int (x : Int) tx)) (Fr.eqv (by k_asm) ?_) (news_tail (by k_asm)) ?_ ⟨rfl, ⟨_, dd2⟩, ⟨_, dd3⟩, hf4, hO', hI5, ?_, hne'⟩
          · intro y
            by_cases h1 : y = Str.ofString "other"
            · subst h1; rfl
            simp only [over, if_neg h1]
          · exact noit_old (.head _) (noit_old (.tail _ (.head _)) (noit_cons (LO.itB hO') (noit_cons (itB_cell d1) (noit_cons (itB_cell dd2) (noit_cons (itB_cell dd3) (noit_cons (itB_cell hf4) (noit_cons (itB_cell d5) (noit_cons (itB_cell d6) (fun p hp => .inr (.tail _ (.tail _ (.tail _ (.tail _ (.tail _ (.tail _ (.tail _ (.tail _ (.tail _ (hp))))))))))))))))))) 
          · rw [hjx, List.foldl_append, ← hqs]
            show qs = relab qs i x
            rw [relab_same]
            have heq' : qs[i] = qs[x] := Int.ofNat.inj heq
            rw [List.getD_eq_getElem?_getD, List.getD_eq_getElem?_getD, List.getElem?_eq_getElem (by walk_at "mO"), List.getElem?_eq_getElem (by walk_at "mO")]
            exact heq'
      · rintro ⟨f2, f3, f4, Dr, ep, xs, qs, u'⟩ uj _ h3 tk3 ⟨rfl, ⟨w2', hf2⟩, ⟨w3', hf3⟩, hf4, hO', hI5, hqs, hne'⟩ hno' F₂ N₂
        dsimp only at hf2 hf3 hf4 hO' hI5 hqs hne' F₂ N₂ hno'
        k_steps
        refine hQP _ _ ?_
        refine TurnEndS.intro ⟨f2, f3, f4, Dr, ep, xs, qs, uj⟩ (u := some (.int (i : Int) t)) (Fr.eqv (by k_asm) ?_) (news_tail (by k_asm)) ?_ ⟨rfl, ⟨_, hf2⟩, ⟨_, hf3⟩, hf4, hO', hI5, ?_, hne'⟩
        · intro y
          by_cases h1 : y = Str.ofString "other"
          · subst h1; rfl
          by_cases h2 : y = Str.ofString "k"
          · subst h2; rfl
          simp only [over, if_neg h1, if_neg h2]
        · exact noit_cons (LO.itB hO') (noit_cons (itB_cell d1) (noit_cons (itB_cell hf2) (noit_cons (itB_cell hf3) (noit_cons (itB_cell hf4) (noit_cons (itB_cell d5) (noit_cons (itB_cell d6) (fun p hp => .inr (.tail _ (.tail _ (.tail _ (.tail _ (.tail _ (.tail _ (.tail _ (hp)))))))))))))))
        · show qs = _
          rw [hqs]
          unfold partsTo at hps ⊢
          rw [foldl_range_succ, ← hps]
          show relab (relab ps i row[i]) i (oppN i) = _
          rw [List.getD_eq_getElem?_getD, List.getElem?_eq_getElem hi]
          rfl
    · rintro ⟨e2, e3, e4, Dq, eo, ws, ps, u⟩ uk _ h' tk' ⟨rfl, ⟨w2, hd2⟩, ⟨w3, hd3⟩, hd4, hO, hI4, hps, hne⟩ hno F₁ N₁
      dsimp only at hd2 hd3 hd4 hO hI4 hps hne F₁ N₁ hno
      replace F₁ : Fr g1 L1 h' (fun y => if y = Str.ofString "k" then uk else over [(Str.ofString "other", u)] (fun y => if y = Str.ofString "row" then some (.ref r3) else none) y) := F₁
      replace N₁ : News g1 L1 h' _ := N₁
      have hp12 : ∀ x ∈ ps, x < 12 := fun x hx => by
        rw [hps] at hx
        have := partsTo_lt _ _ (Nat.le_refl _) hx
        omega
      have hpl : ps.length = row.length := by rw [hps, partsTo_length]
      have hplen : ps.length ≤ 12 := by walk_at "mO"
      have hwl : ws.length = row.length := by rw [hI4.length, List.length_map, hpl]
      k_steps
      rename_i h3 tk3 Ds os F3 N3 hzs l3 h4 tk4 D4 o4' vs4 ys4 F4 N4 hO4 hI5 hp4 hu4 l4
      refine Stopped.go (iter_listT (S := PSt) (ol := o4') (vs := vs4) (fun st => over [(Str.ofString "own", st.uo), (Str.ofString "euler", st.ue)] (fun y => if y = Str.ofString "k" then uk else over [(Str.ofString "other", u)] (fun y => if y = Str.ofString "row" then some (Value.ref r3) else none) y))
        (fun i st nw => nw = (D4, o4') :: (Dq, eo) :: (L1 + 1 + 1 + 1 + 1 + 1 + 1, st.e1) :: (L1 + 1 + 1 + 1 + 1 + 1, e2) :: (L1 + 1 + 1 + 1 + 1, e3) :: (L1 + 1 + 1 + 1, e4) :: (L1 + 1 + 1, o5) :: (L1 + 1, o6) :: news ∧ ∃ v, st.e1.data = .cell v)
        ⟨o1, none, none⟩ rfl hO4 ?_ (Fr.eqv F4 ?_) (news_pick N4 (.head _) (news_tail (news_tail N4))) ⟨rfl, _, d1⟩ ?_ ?_)
      · rintro i st nw ⟨rfl, _⟩
        exact .head _
      · intro y
        by_cases h1 : y = Str.ofString "own"
        · subst h1; rfl
        by_cases h2 : y = Str.ofString "euler"
        · subst h2; rfl
        simp only [over, if_neg h1, if_neg h2]
      · intro i v σ nw h5 tk5 J oj hi hv hZ hno' F5 N5 hoj hqj
        refine gen_post2 fun QR hQR => ?_
        obtain ⟨e1, uo, ue⟩ := σ
        obtain ⟨rfl, w1, hd1⟩ := hZ
        dsimp only at hd1 hno' F5 N5
        replace F5 : Fr g1 L1 h5 _ := F5
        replace N5 : News g1 L1 h5 _ := N5
        have hqJ := allLt_of hqj
        simp only [AllLt, and_true] at hqJ
        have hyi : i < ys4.length := by have := hI5.length; rw [List.length_map] at this; omega
        obtain ⟨tv, hpv⟩ := hI5.get i (ys4[i] : Int) (by simp [zs, hyi])
        obtain rfl : v = .int (ys4[i] : Int) tv := by
          rw [hv] at hpv; exact Option.some.inj hpv
        k_steps
        refine Stopped.go (compSrcT_R (n := row.length) rfl (by k_asm) (by k_asm) (by assumption) (by walk_at "mO") (fun g => ?_))
        refine compRestT_all (n := row.length) (fun j ys => IntsAre ys (zs ((List.range j).filter fun k => decide (ps.getD k 0 = ys4[i])))) trivial ?_ ?_ _ 0 [] (by simp) IntsAre.nil
        · rintro j ys v K oK C oC D m₂ h tk E' hj hg ⟨tj, rfl⟩ hC hx F₁ N₁
          rw [Int.zero_add] at hx
          have hjl : j < ps.length := by walk_at "mO"
          obtain ⟨t6, hp6⟩ := hI4.get j (ps[j] : Int) (by simp [zs, hjl])
          have hp6' : ws[(j : Int).toNat]? = some (.int (ps[j] : Int) t6) := hp6
          have hgd : ps.getD j 0 = ps[j] := by rw [List.getD_eq_getElem?_getD, List.getElem?_eq_getElem hjl]; rfl
          k_steps
          · rename_i hc
            refine EltEnd.intro (by k_asm) (by k_asm) ?_
            rw [List.range_succ, List.filter_append, List.filter_cons_of_pos (by rw [decide_eq_true_eq, hgd]; exact Int.ofNat.inj hc)]
            show IntsAre _ (List.map _ (_ ++ [j]))
            rw [List.map_append]
            exact IntsAre_snoc hg _ _
          · rename_i hc
            refine EltEnd.intro (by k_asm) (by k_asm) ?_
            rw [List.range_succ, List.filter_append, List.filter_cons_of_neg (by rw [decide_eq_true_eq, hgd]; exact fun e => hc (congrArg Int.ofNat e))]
            rw [List.filter_nil, List.append_nil]
            exact hg
        · intro ys hg
          intro D5 h8 tk8 F8 N8 oD8
          simp only [LCg.Off1] at oD8
          generalize hown : ((List.range row.length).filter fun k => decide (ps.getD k 0 = ys4[i])) = own at hg
          have hownr : ∀ k ∈ own, k < row.length := fun k hk => by
            rw [← hown] at hk
            exact List.mem_range.mp (List.mem_filter.mp hk).1
          have howl : own.length ≤ row.length := by
            rw [← hown]
            exact Nat.le_trans (List.length_filter_le _ _) (by rw [List.length_range]; exact Nat.le_refl _)
          have hyl : ys.length = own.length := by rw [hg.length, List.length_map]
          k_steps
          refine Stopped.go (compSrc_LL rfl (by k_asm) (by k_asm) ⟨LCg.lst ys, by kwd_less, rfl, _, rfl⟩ (by walk_at "mO") (fun g => ?_))
          refine compRest_all (n := ys.length) (fun e zs' => IntsAre zs' (zs ((own.take e).map fun k => rg.getD k 0))) (srcAt_LL ⟨LCg.lst ys, by kwd_less, rfl, _, rfl⟩) ?_ ?_ _ 0 [] (by simp) IntsAre.nil
          · rintro e zs' v K oK C oC D m₂ h tk E' he hg' hP hC hx F₁ N₁
            have heo : e < own.length := by walk_at "mO"
            obtain ⟨t5, hp5⟩ := hg.get e (own[e] : Int) (by simp [zs, heo])
            obtain rfl : v = .int (own[e] : Int) t5 := by
              rw [List.getElem?_toArray, hp5] at hP
              exact (Option.some.inj hP).symm
            have hor : own[e] < rg.length := by rw [hlr]; exact hownr _ (List.getElem_mem _)
            obtain ⟨t6, hp6⟩ := hI1.get own[e] (rg[own[e]] : Int) (by simp [zs, hor])
            have hp6' : v1[((own[e] : Nat) : Int).toNat]? = some (.int (rg[own[e]] : Int) t6) := hp6
            k_steps
            refine EltEnd.intro (by k_asm) (by k_asm) ?_
            rw [List.take_succ_eq_append_getElem heo, List.map_append]
            show IntsAre _ (List.map _ (_ ++ [rg.getD own[e] 0]))
            rw [List.map_append, List.getD_eq_getElem?_getD, List.getElem?_eq_getElem hor]
            exact IntsAre_snoc hg' _ _
          · intro zs' hg'
            intro D6 h9 tk9 F9 N9 oD9
            simp only [LCg.Off1] at oD9
            rw [List.take_of_length_le (by walk_at "mO")] at hg'
            have hx9 : ∀ x ∈ own.map (fun k => rg.getD k 0), x < 12 := fun x hx => by
              obtain ⟨k, hk, rfl⟩ := List.mem_map.mp hx
              have hk' := hownr k hk
              rw [List.getD_eq_getElem?_getD, List.getElem?_eq_getElem (by walk_at "mO")]
              exact hr12 _ (List.getElem_mem _)
            have hl9 : (own.map (fun k => rg.getD k 0)).length ≤ 12 := by rw [List.length_map]; omega
            k_steps
            refine Stopped.go (compSrc_LL rfl (by k_asm) (by k_asm) ⟨LCg.lst ys, by kwd_less, rfl, _, rfl⟩ (by walk_at "mO") (fun g => ?_))
            refine compRest_all (n := ys.length) (fun e zs' => IntsAre zs' (zs ((own.take e).map fun k => fc.getD k 0))) (srcAt_LL ⟨LCg.lst ys, by kwd_less, rfl, _, rfl⟩) ?_ ?_ _ 0 [] (by simp) IntsAre.nil
            · rintro e zs' v K oK C oC D m₂ h tk E' he hg' hP hC hx F₁ N₁
              have heo : e < own.length := by walk_at "mO"
              obtain ⟨t5, hp5⟩ := hg.get e (own[e] : Int) (by simp [zs, heo])
              obtain rfl : v = .int (own[e] : Int) t5 := by
                rw [List.getElem?_toArray, hp5] at hP
                exact (Option.some.inj hP).symm
              have hor : own[e] < fc.length := by rw [hlf]; exact hownr _ (List.getElem_mem _)
              obtain ⟨t6, hp6⟩ := hI2.get own[e] (fc[own[e]] : Int) (by simp [zs, hor])
              have hp6' : v2[((own[e] : Nat) : Int).toNat]? = some (.int (fc[own[e]] : Int) t6) := hp6
              k_steps
              refine EltEnd.intro (by k_asm) (by k_asm) ?_
              rw [List.take_succ_eq_append_getElem heo, List.map_append]
              show IntsAre _ (List.map _ (_ ++ [fc.getD own[e] 0]))
              rw [List.map_append, List.getD_eq_getElem?_getD, List.getElem?_eq_getElem hor]
              exact IntsAre_snoc hg' _ _
            · intro ws' hg7
              intro D7 h10 tk10 F10 N10 oD10
              simp only [LCg.Off1] at oD10
              rw [List.take_of_length_le (by walk_at "mO")] at hg7
              have hx9 : ∀ x ∈ own.map (fun k => fc.getD k 0), x < 12 := fun x hx => by
                obtain ⟨k, hk, rfl⟩ := List.mem_map.mp hx
                have hk' := hownr k hk
                rw [List.getD_eq_getElem?_getD, List.getElem?_eq_getElem (by walk_at "mO")]
                exact hf12 _ (List.getElem_mem _)
              have hl9 : (own.map (fun k => fc.getD k 0)).length ≤ 12 := by rw [List.length_map]; omega
              obtain ⟨hE1, hE2⟩ := hE ys4[i] (by rw [← hps]; exact mem_ddp (hp4.mem_iff.mp (List.getElem_mem _)))
              rw [← hps] at hE1 hE2
              unfold ownF at hE1 hE2
              rw [hown] at hE1 hE2
              have hfd : ((own.length : Nat) : Int).fdiv 2 = ((own.length / 2 : Nat) : Int) := by rw [Int.fdiv_eq_ediv_of_nonneg _ (by decide)]; rfl
              k_steps
              · rename_i hc
                rw [hfd, Int.fmod_eq_emod_of_nonneg _ (by decide)] at hc
                omega
              · (rename News _ _ _ _ => N11)
                refine hQR _ _ ?_
                refine TurnT.next ⟨_, some (.ref D5), ?ue⟩ (Fr.eqv (by k_asm) ?g1)
                  (news_pick N11 (.tail _ (.tail _ (.tail _ (.tail _ (.tail _ (.head _)))))) (news_pick N11 (.tail _ (.tail _ (.tail _ (.tail _ (.tail _ (.tail _ (.head _))))))) (news_pick N11 (.tail _ (.tail _ (.tail _ (.tail _ (.tail _ (.tail _ (.tail _ (.head _)))))))) (news_pick N11 (.tail _ (.tail _ (.tail _ (.tail _ (.tail _ (.tail _ (.tail _ (.tail _ (.head _))))))))) (news_sub N11 (fun p hp => .tail _ (.tail _ (.tail _ (.tail _ (.tail _ (.tail _ (.tail _ (.tail _ (.tail _ (hp))))))))))))))) ?g2 ⟨rfl, _, by assumption⟩
                case g1 =>
                  intro y
                  by_cases h1 : y = Str.ofString "own"
                  · subst h1; rfl
                  by_cases h2 : y = Str.ofString "euler"
                  · subst h2; rfl
                  simp only [over, if_neg h1, if_neg h2]
                case g2 => exact noit_old (.head _) (noit_old (.tail _ (.head _)) (noit_cons (itB_cell (by assumption)) (fun p hp => .inr (.tail _ (.tail _ (.tail _ (hp)))))))
      · rintro ⟨e1, uo, ue⟩ _ h5 tk5 ⟨rfl, w1, hd1⟩ hno' F5 N5
        dsimp only at hd1 hno' F5 N5
        replace F5 : Fr g1 L1 h5 _ := F5
        replace N5 : News g1 L1 h5 _ := N5
        k_steps
        exact ret _ _ (by k_asm) (news_sub (by k_asm) (fun p hp => .tail _ (.tail _ (.tail _ (.tail _ (.tail _ (.tail _ (.tail _ (.tail _ hp)))))))))
end

section
variable (P : Params)
theorem ti_Point : typeIn (hd.heap_39 P) (.ref 271) = some (.type "type") := by kernel_rfl
theorem sp_Point : specialIn (hd.heap_39 P) (.ref 271) "__call__" = some (some (.builtin "type.__call__")) := by kernel_rfl
theorem in_Point : instIn (hd.heap_39 P) (.ref 271) (.type "type") = some true := by kernel_rfl
theorem ms_Point : mroIn (hd.heap_39 P) 271 (.ref 271) = some true := by kernel_rfl
theorem mt_Point : mroIn (hd.heap_39 P) 271 (.type "tuple") = some true := by kernel_rfl
theorem mo_Point : mroIn (hd.heap_39 P) 271 (.type "object") = some true := by kernel_rfl
theorem rd_Point : readsIn (hd.heap_39 P) 271 (.type "type") = true := by kernel_rfl
theorem fc_Point : findCls (hd.heap_39 P) (.ref 271) (.type "type") "__new__" = some (.get (.builtin "staticmethod.__get__") (.ref 272) .none (.ref 271)) := by kernel_rfl
theorem rc_Point0 : ((recIn (hd.heap_39 P) 272 "staticmethod").bind List.head?) = some (.ref 221) := by kernel_rfl
theorem rc_Point : ∃ rest, recIn (hd.heap_39 P) 272 "staticmethod" = some (.ref 221 :: rest) := by
  have h := rc_Point0 P
  cases e : recIn (hd.heap_39 P) 272 "staticmethod" with
  | none => rw [e] at h; cases h
  | some l => rw [e] at h; cases l with | nil => cases h | cons a l => cases h; exact ⟨l, rfl⟩
theorem fn_Point : isFn (hd.heap_39 P) (.ref 221) = true := by kernel_rfl
theorem fi_Point_init : findIn (hd.heap_39 P) (.ref 271) "__init__" = some (some (.builtin "object.__init__")) := by kernel_rfl
theorem fi_Point_new : findIn (hd.heap_39 P) (.ref 271) "__new__" = some (some (.ref 272)) := by kernel_rfl
theorem kp_Point : keepIn (hd.heap_39 P) (.ref 271) = true := by kernel_rfl
theorem cl_Point : (clsIn (hd.heap_39 P) 271).any (fun cd => !cd.abstract && !cd.hasDel && cd.mro == [.ref 271, .type "tuple", .type "object"] && cd.bases == [.type "tuple"]) = true := by kernel_rfl
theorem sl_Point : (((hd.heap_39 P).lookup 271).bind fun o => (o.slots.toList[4]?).join) = some .none := by kernel_rfl
end
theorem point_cls {P : Params} {M : Model} {h : Heap} (X : (hd.heap_39 P).In h) : ∃ oc od cd sl, h.get? 271 = some ⟨oc, od, .cls cd, sl⟩ ∧ cd.abstract = false ∧ cd.hasDel = false ∧ cd.mro = [.ref 271, .type "tuple", .type "object"] ∧ cd.bases = [.type "tuple"] ∧ Looks M h (classData 271) cd ∧ (sl.toList[4]?).join = some .none := by
  obtain ⟨cd, hc, h1⟩ := any_some (cl_Point P)
  have hs := sl_Point P
  have hc' := hc
  unfold clsIn at hc'
  split at hc'
  · rename_i oc od cd' sl ho
    cases hc'
    rw [ho, Option.bind_some] at hs
    simp only [Bool.and_eq_true, Bool.not_eq_true', beq_iff_eq] at h1
    exact ⟨oc, od, cd, sl, X _ _ ho, h1.1.1.1, h1.1.1.2, h1.1.2, h1.2, looks_clsIn X hc, hs⟩
  · cases hc'
theorem point_made {P : Params} {M : Model} {h : Heap} (X : (hd.heap_39 P).In h) : Looks M h (Bind.madeBy (.ref 271)) none := by
  obtain ⟨oc, od, cd, sl, ho, e1, e2, e3, e4, hl, e5⟩ := point_cls (M := M) X
  have hm : Looks M h (mroOf (.ref 271)) cd.mro := hl.andThen .now
  intro A Q E s k q
  unfold Bind.madeBy
  refine wpAny_bind (hm A _ E s k ?_)
  rw [e3, List.forIn_cons]
  refine wpAny_bind (wpAny_bind (wpAny_bind (wpAny_bind (wpAny_loadPart (k _ _ ho) (wpAny_pure ?_)))))
  dsimp only
  rw [← Array.getElem?_toList, e5]
  exact wpAny_pure (wpAny_pure (wpAny_pure q))
theorem tuple_made : Bind.madeBy (.type "tuple") = pure (some "tuple.__new__") := by
  have hm : mroOf (.type "tuple") = pure [.type "tuple", .type "object"] := by kernel_rfl
  have hl : typeLookup (.type "tuple") "__new__" = pure (some (.builtin "tuple.__new__")) := by rw [typeLookup_type, builtinLookup_eq_fast]; kernel_rfl
  have he : ("tuple.__new__" : String).endsWith ".__new__" = true := by decide +kernel
  simp only [Bind.madeBy, hm, pure_bind, List.forIn_cons, hl, he]
  rfl
theorem best_tuple : Builtin.Slots.bestBase [.type "tuple"] = pure (.type "tuple") := by kernel_rfl
theorem point_base {P : Params} {M : Model} {h : Heap} (X : (hd.heap_39 P).In h) : Looks M h (Bind.staticBase (.ref 271)) (.type "tuple") := by
  obtain ⟨oc, od, cd, sl, ho, e1, e2, e3, e4, hl, e5⟩ := point_cls (M := M) X
  have hm : Looks M h (mroOf (.ref 271)) cd.mro := hl.andThen .now
  intro A Q E s k q
  unfold Bind.staticBase
  refine wpAny_bind (hm A _ E s k ?_)
  rw [e3, List.forIn_cons]
  refine wpAny_bind (wpAny_bind (wpAny_bind ((point_made X).keeps k |>.here ?_)))
  dsimp only
  simp only [Option.isSome_none, Bool.false_eq_true, if_false]
  refine wpAny_bind ((hl.keeps k).here ?_)
  rw [e4, best_tuple]
  refine wpAny_pure ?_
  dsimp only
  rw [List.forIn_cons]
  dsimp only
  rw [tuple_made]
  exact wpAny_bind (wpAny_bind (wpAny_pure (wpAny_pure (wpAny_pure (wpAny_pure q)))))
theorem point_here {P : Params} {M : Model} {h : Heap} (X : (hd.heap_39 P).In h) : Looks M h (Bind.madeHere "tuple.__new__" (.ref 271)) () :=
  (point_base X).andThen ((Looks.of_pure tuple_made).andThen (Looks.of_pure (by simp only [Option.map_some, bne_self_eq_false, Bool.false_eq_true, if_false])))
theorem oi_args3 (a b c : Value) : argsOk "object.__init__" ⟨[a, b, c], []⟩ := by unfold argsOk; kernel_rfl
theorem oi_kind : builtinKind "object.__init__" = some .slot := by decide +kernel
theorem oi_split : splitId "object.__init__" = some ("object", "__init__") := by decide +kernel
theorem oi_quiet (a : Args) : (Code.builtin "object.__init__" a).quiet = true := Code.quiet_builtin _ (by decide +kernel)
theorem oi_type {M : Model} {h : Heap} : Looks M h (typeOf (.builtin "object.__init__")) (.type "wrapper_descriptor") := Looks.of_pure (by kernel_rfl)
set_option maxHeartbeats 4000000 in
theorem init_two {prog : Program} {w : World} {A : Around} {Q : Value → Shared → Prop} {E : Value → Shared → Prop} {h g d tk os} {x C : Addr} {v0 v1 : Value} (t1 : Looks (model prog w) h (typeOf (.ref x)) (.ref C))
    (i1 : Looks (model prog w) h (typeLookup (.ref C) "__init__") (some (.builtin "object.__init__"))) (m1 : Looks (model prog w) h (Bind.madeBy (.ref C)) none) (t2 : Looks (model prog w) h (isInstance (.ref x) (.type "object")) true)
    (q : Q .none ⟨h, g, d, tk, os⟩) : wpAny (model prog w) A (call (.builtin "object.__init__") [.ref x, v0, v1]) Q E ⟨h, g, d, tk, os⟩ := by
  refine wpAny_call (codeAny_call_builtin_at (oi_quiet _) PySem.F.entry_object_init (check_slot oi_kind oi_split t2 (oi_args3 _ _ _) ?_))
  unfold Builtin.«object.__init__»
  simp only [List.isEmpty_cons, Bool.not_false, Bool.true_or, if_true]
  refine wpAny_bind (t1.at (wpAny_bind (i1.at (wpAny_bind (m1.at ?_)))))
  simp only [bne_self_eq_false, Bool.false_eq_true, if_false]
  exact wpAny_pure q
noncomputable abbrev ptObj (v0 v1 : Value) (dx : Addr) : Obj := { cls := .ref 271, dict := some dx, data := .seq #[v0, v1] }
section
variable {prog : Program} {w : World} {A : Around} {h₀ : Heap} {L : Addr} {m : Str → Option Value} {news : List (Addr × Obj)} {s : Shared} {Q : Value → Shared → Prop} {E : Value → Shared → Prop}
set_option maxHeartbeats 4000000 in
theorem point_call {v0 v1 : Value} (F : Fr h₀ L s.heap m) (X : (hd.heap_39 w.params).In h₀) (N : News h₀ L s.heap news)
    (h : codeAny (model prog w) (A.under (.builtin "type.__call__" ⟨[.ref 271, v0, v1], []⟩)) (.call (.ref 221) ⟨[.ref 271, v0, v1], []⟩)
      (fun r s' => match r with
        | .ok (.ret v) => ∃ x dx h' tk, v = .ref x ∧ s' = { s with heap := h', toks := tk } ∧ (hd.heap_39 w.params).In h' ∧ h'.get? x = some (ptObj v0 v1 dx) ∧ Q (.ref x) s'
        | .ok _ => False | .error e => E e s') { s with toks := s.toks + 1 }) :
    wpAny (model prog w) A (call (.ref 271) [v0, v1] []) Q E s := by
  have X' := X.keeps F.keep
  obtain ⟨oc, od, cd, sl, hC, e1, e2, e3, e4, hl, e5⟩ := point_cls (M := model prog w) X'
  have call := looks_specialIn (M := model prog w) X' (sp_Point w.params)
  have typ := looks_instIn (M := model prog w) X' (in_Point w.params)
  have made := point_made (M := model prog w) X'
  obtain ⟨rest, hrc⟩ := rc_Point w.params
  obtain ⟨hh, g, d, t, os⟩ := s
  refine wpAny_call (codeAny_of_tree ?_)
  show wpAny _ _ (callAny (.ref 271) _) _ _ _
  refine nd_load hC ?_
  show wpAny _ _ (callAny.viaDunder (.ref 271) _) _ _ _
  unfold callAny.viaDunder
  refine wpAny_bind (call.at ?_)
  dsimp only
  rw [tc_bind]
  refine wpAny_bind (wpAny_pure (wpAny_bind (wpAny_pure ?_)))
  refine wpAny_pure (a := Fin.again (.call (.builtin "type.__call__") ⟨.ref 271 :: [v0, v1], []⟩)) (And.intro rfl ?_)
  refine codeAny_call_builtin_at (Code.quiet_builtin _ (by decide +kernel)) entry_typeCall (check_slot tc_kind tc_split typ (tc_args _ _ _) ?_)
  unfold Builtin.«type.__call__»
  have hm : Looks (model prog w) hh (mroOf (.ref 271)) cd.mro := ((Looks.ld (part := none) hC).andThen .now).andThen .now
  have e4' : cd.mro.isEmpty = false := by rw [e3]; rfl
  dsimp only
  have ht : (Value.ref 271 == Value.type "type") = false := rfl
  simp only [ht, Bool.false_eq_true, if_false]
  refine wpAny_bind (hm.at ?_)
  simp only [e4', Bool.false_eq_true, if_false]
  refine wpAny_bind (made.at ?_)
  dsimp only
  refine wpAny_bind (cls_sm (s := ⟨hh, g, d, t, os⟩) F X (ti_Point _) (rd_Point _) (fc_Point _) hrc (by rfl) ?_)
  refine wpAny_bind (wpAny_holding (wpAny_call (codeAny_mono h fun r s' z => ?_)))
  rcases r with e | (v | _ | _ | _) <;> first | exact z | exact z.elim | skip
  obtain ⟨x, dx, h', tk, rfl, rfl, X1, hx, hq⟩ := z
  have t1 : Looks (model prog w) h' (typeOf (.ref x)) (.ref 271) := (Looks.ld hx).andThen .now
  have s1 := looks_mroIn (M := model prog w) X1 (ms_Point w.params)
  have o1 := looks_mroIn (M := model prog w) X1 (mo_Point w.params)
  have i1 := looks_findIn (M := model prog w) X1 (fi_Point_init w.params)
  have m1 := point_made (M := model prog w) X1
  have t2 : Looks (model prog w) h' (isInstance (.ref x) (.type "object")) true := t1.andThen o1
  have t3 : Looks (model prog w) h' (isInstance (.ref x) (.ref 271)) true := t1.andThen s1
  refine wpAny_bind (t3.at ?_)
  simp only [Bool.not_true, Bool.false_eq_true, if_false]
  refine wpAny_bind (wpAny_holding ?_)
  unfold callSpecial? specialOf
  refine wpAny_bind (wpAny_bind (t1.at (i1.at ?_)))
  dsimp only
  refine wpAny_holding (wpAny_bind ?_)
  unfold bindSpecial
  refine wpAny_bind (oi_type.at ?_)
  rw [if_pos (by decide)]
  refine wpAny_pure (wpAny_bind ?_)
  refine init_two t1 i1 m1 t2 ?_
  refine wpAny_pure ?_
  dsimp only
  rw [if_neg (by decide)]
  exact wpAny_pure hq
end

theorem tn_split : splitId "tuple.__new__" = some ("tuple", "__new__") := by decide +kernel
theorem tn_kind : builtinKind "tuple.__new__" = some .builtinFn := by decide +kernel
theorem tn_quiet (a : Args) : (Code.builtin "tuple.__new__" a).quiet = true := Code.quiet_builtin _ (by decide +kernel)
theorem tn_args (a b : Value) : argsOk "tuple.__new__" ⟨[a, b], []⟩ := by unfold argsOk; kernel_rfl
theorem type_name : (("__new__" : String) == "__new__") = true := by decide +kernel
set_option maxHeartbeats 4000000 in
theorem tuple_new {prog : Program} {w : World} {A : Around} {Q : Value → Shared → Prop} {E : Value → Shared → Prop} {h : Heap} {g d tk os} {t : Addr} {v0 v1 : Value} (X : (hd.heap_39 w.params).In h) (ht : h.IsTuple t #[v0, v1])
    (q : ∀ h' x dx, (∀ b o, h.get? b = some o → h'.get? b = some o) → h'.get? x = some (ptObj v0 v1 dx) → Q (.ref x) ⟨h', g, d, tk, os⟩) :
    wpAny (model prog w) A (call (.builtin "tuple.__new__") [.ref 271, .ref t] []) Q E ⟨h, g, d, tk, os⟩ := by
  obtain ⟨oc, od, cd, sl, hC, e1, e2, e3, e4, hl, e5⟩ := point_cls (M := model prog w) X
  have isT : Looks (model prog w) h (isType (.ref 271)) true := (Looks.ld (part := some _) hC).andThen .now
  have sub := looks_mroIn (M := model prog w) X (mt_Point w.params)
  have here := point_here (M := model prog w) X
  have base := point_base (M := model prog w) X
  have ini := looks_findIn (M := model prog w) X (fi_Point_init w.params)
  have args := tn_args (.ref 271) (.ref t)
  refine wpAny_call (codeAny_call_builtin_at (tn_quiet _) PySem.F.entry_tuple_new ?_)
  simp only [checkBuiltinCall, tn_kind, tn_split, type_name, if_true]
  refine wpAny_bind (isT.at ?_)
  simp only [Bool.not_true, Bool.false_eq_true, if_false]
  refine wpAny_bind (sub.at ?_)
  simp only [Bool.not_true, Bool.false_eq_true, if_false]
  refine wpAny_bind (base.at ?_)
  rw [tuple_made]
  refine wpAny_bind (wpAny_pure ?_)
  simp only [bne_self_eq_false, Bool.false_eq_true, if_false]
  have fin : ∀ {Q : Unit → Shared → Prop} {E : Value → Shared → Prop} {A : Around} {s : Shared}, Q () s → wpAny (model prog w) A (match Manifest.signature? "tuple.__new__" with
      | some sig => Bind.checkArgs "tuple.__new__" sig { pos := [Value.ref 271, Value.ref t] }
      | x => pure ()) Q E s := by
    intro Q E A s q
    cases hsig : Manifest.signature? "tuple.__new__" with
    | none => exact wpAny_pure q
    | some sig =>
      simp only [argsOk, hsig] at args
      have h2 : Bind.checkArgs "tuple.__new__" sig ⟨[.ref 271, .ref t], []⟩ = pure () := args
      show wpAny _ _ (Bind.checkArgs "tuple.__new__" sig ⟨[.ref 271, .ref t], []⟩) Q E s
      rw [h2]; exact wpAny_pure q
  refine fin ?_
  unfold Builtin.«tuple.__new__»
  dsimp only
  refine wpAny_bind (isT.at ?_)
  simp only [Bool.not_true, Bool.false_eq_true, if_false]
  refine wpAny_bind (sub.at ?_)
  simp only [Bool.not_true, Bool.false_eq_true, if_false]
  refine wpAny_bind (here.at ?_)
  refine wpAny_bind (ini.at ?_)
  have k2 : (Value.ref 271 == Value.type "tuple") = false := rfl
  simp only [beq_self_eq_true, if_true, k2, Bool.false_eq_true, if_false]
  refine wpAny_bind (show wpAny _ _ (pure ()) _ _ _ from wpAny_pure ?_)
  refine wpAny_bind (show wpAny _ _ (pure ()) _ _ _ from wpAny_pure ?_)
  obtain ⟨ot, hot, hct, n, hdt⟩ := ht
  refine wpAny_bind (wpAny_collect_seq t (.inr rfl) hot hct hdt (fun h' hk => ?_) (by rw [sizeLine_eq]; simp))
  refine wpAny_bind (wpAny_pure (wpAny_bind (wpAny_alloc (wpAny_bind ?_))))
  show wpAny _ _ (newObjAsIs _ _ _) _ _ _
  unfold newObjAsIs classHasDel
  refine wpAny_bind (wpAny_alloc (wpAny_bind (wpAny_bind (wpAny_load (Heap.get?_push_of_some _ (Heap.get?_push_of_some _ (hk _ _ hC))) (wpAny_pure ?_)))))
  rw [e2]
  refine wpAny_pure (wpAny_pure ?_)
  refine q _ _ _ (fun b o e => Heap.get?_push_of_some _ (Heap.get?_push_of_some _ (hk _ _ e))) (Heap.get?_push_size _ rfl)

section
variable (P : Params)
theorem ci_Point_new : codeIn (hd.heap_39 P) (.ref 220) (Str.ofString "Point.__new__") = true := by kernel_rfl
theorem gl_tuple : nsIn (hd.heap_39 P) mainGlobals (Str.ofString "tuple") = some none := by kernel_rfl
theorem fc_tuple_new : findCls (hd.heap_39 P) (.type "tuple") (.type "type") (Str.ofString "__new__") = some (.val (.builtin "tuple.__new__")) := by kernel_rfl
theorem meta_tuple : typeOf (.type "tuple") = pure (.type "type") := by kernel_rfl
theorem stub_tuple : Manifest.isStub "tuple" = false := by decide +kernel
theorem hi_tuple_new : handedIn (.builtin "tuple.__new__") = true := by kernel_rfl
end
local macro_rules | `(tactic| walk_at "getMethod type:tuple") => `(tactic| (k_here; refine' method_type ?F ?X meta_tuple stub_tuple ?e hi_tuple_new ?_; (case F => k_asm); walk_at "m5"; (case e => exact fc_tuple_new _)))
theorem tuple_new_N {prog : Program} {w : World} {A : Around} {Q : Value → Shared → Prop} {E : Value → Shared → Prop} {s : Shared} {h₀ : Heap} {L : Addr} {m : Str → Option Value} {news : List (Addr × Obj)} {t : Addr} {v0 v1 : Value} {k : Nat} (X : (hd.heap_39 w.params).In h₀) (F : Fr h₀ L s.heap m) (N : News h₀ L s.heap news) (ht : (t, ({ cls := .type "tuple", data := .seq #[v0, v1] k } : Obj)) ∈ news)
    (q : ∀ h' x dx, Fr h₀ L h' m → News h₀ L h' news → h'.get? x = some (ptObj v0 v1 dx) → Q (.ref x) { s with heap := h' }) :
    wpAny (model prog w) A (call (.builtin "tuple.__new__") [.ref 271, .ref t] []) Q E s := by
  obtain ⟨hh, g, d, tk, os⟩ := s
  exact tuple_new (X.keeps F.keep) ⟨_, (N _ ht).1, rfl, k, rfl⟩ fun h' x dx hk hx => q h' x dx (F.keeps hk) (fun p hp => ⟨hk _ _ (N p hp).1, (N p hp).2⟩) hx
local macro_rules | `(tactic| walk_at "call builtin:tuple.__new__") => `(tactic| (k_here; k_dflt (refine' tuple_new_N ?X ?F ?N ?t ?_; walk_at "m5"; walk_at "m13"; (case t => kwd_less)); walk_at "mI"))
local macro_rules | `(tactic| k_is) => `(tactic| with_reducible first | exact ci_Point_new _ | exact gl_tuple _)
section
variable {prog : Program} {w : World} {p : Program} {loose : List Str} {mean : ExcName → Option Value} {mg mb : Str → Option Value}
    {dp un : Nat} {gd : Option (List Code)} {cn : Str} {cs : Scope} {a : Addr} {ccd : Value} {cl : List (Str × Addr)} {outer : List Env} {A A₀ : Around} {base h₀ : Heap} {L : Addr} {m : Str → Option Value} {news : List (Addr × Obj)} {s : Shared}
    {Q : Value → Shared → Prop} {E : Value → Shared → Prop} {ex : Bool}
set_option maxHeartbeats 8000000 in
theorem point_ {v0 v1 : Value} (B : Below A₀ base outer h₀) (F : Fr h₀ L s.heap m) (X : (hd.heap_39 w.params).In h₀) (N : News h₀ L s.heap news) (T : Top p loose mean mg mb h₀) (hk : cs.kind = .function)
    (h0 : handedIn v0 = true) (h1 : handedIn v1 = true) (hdp : dp + 20 < recursionLimit) (hu : un + 60 < cLine)
    (ret : ∀ h' tk' x, Fr h₀ L h' m → News h₀ L h' news → Q (.ref x) { s with heap := h', toks := tk' }) {A : Around} (hA : A = ktrTop dp un gd cn cs L a ccd cl outer) :
    wpAny (model prog w) A (call (.ref 271) [v0, v1] []) Q E s := by
  subst hA
  refine point_call F X N ?_
  k_enter
  k_steps
  first | exact ret _ _ _ (by k_asm) (by k_asm) | exact ret _ _ _ (by k_asm) (news_tail (by k_asm))
end
local macro_rules | `(tactic| walk_at "call ref") => `(tactic| (k_here; with_reducible apply point_; k_dflt (walk_at "mA"; walk_at "mF"; (case h0 => exact rfl); (case h1 => exact rfl); walk_at "mS"); walk_at "mI"))
section
variable {prog : Program} {w : World} {p : Program} {loose : List Str} {mean : ExcName → Option Value} {mg mb : Str → Option Value}
    {dp un : Nat} {gd : Option (List Code)} {cn : Str} {cs : Scope} {a : Addr} {ccd : Value} {cl : List (Str × Addr)} {outer : List Env} {A A₀ : Around} {base h₀ : Heap} {L : Addr} {m : Str → Option Value} {news : List (Addr × Obj)} {s : Shared}
    {Q : Value → Shared → Prop} {E : Value → Shared → Prop} {ex : Bool}
end

/-! quad edges, apart from any heap -/
structure QS {ι : Type} (R o : ι → ι) (es : List ι) : Prop where
  nd : es.Nodup
  r4 : ∀ k, R (R (R (R k))) = k
  inv : ∀ k, o (R (o (R k))) = k
  opp : ∀ (i : Nat) k, es[i]? = some k → es[oppN i]? = some (R (R k))
  flip : ∀ k, k ∈ es → R k ∉ es
  cov : ∀ k, k ∈ es ∨ R k ∈ es
  oin : ∀ k, k ∈ es → o k ∈ es
  oout : ∀ k, k ∉ es → o k ∉ es
  even : es.length % 2 = 0
theorem QS.empty : QS (ι := Empty) id id [] := ⟨List.nodup_nil, fun k => k.elim, fun k => k.elim, fun _ k => k.elim, fun k => k.elim, fun k => k.elim, fun k => k.elim, fun k => k.elim, rfl⟩
theorem QS.grow {ι : Type} {R o : ι → ι} {es : List ι} (q : QS R o es) : QS (Sum.map R rot4) (Sum.map o ini4) (es.map Sum.inl ++ [Sum.inr 0, Sum.inr 2]) := by
  have hl : ∀ k : ι, (Sum.inl k : ι ⊕ Fin 4) ∈ es.map Sum.inl ++ [Sum.inr 0, Sum.inr 2] ↔ k ∈ es := fun k => by simp
  have hr : ∀ j : Fin 4, (Sum.inr j : ι ⊕ Fin 4) ∈ es.map Sum.inl ++ [Sum.inr 0, Sum.inr 2] ↔ j = 0 ∨ j = 2 := fun k => by simp
  refine ⟨?_, ?_, ?_, ?_, ?_, ?_, ?_, ?_, ?_⟩
  · rw [List.nodup_append]
    refine ⟨?_, by simp, ?_⟩
    · exact List.Pairwise.map _ (fun a b h e => h (Sum.inl.inj e)) q.nd
    · intro a ha b hb e
      subst e
      obtain ⟨k, _, rfl⟩ := List.mem_map.mp ha
      simp at hb
  · rintro (k | k)
    · exact congrArg Sum.inl (q.r4 k)
    · show Sum.inr (rot4 (rot4 (rot4 (rot4 k)))) = Sum.inr k
      congr 1
      revert k; decide
  · rintro (k | k)
    · exact congrArg Sum.inl (q.inv k)
    · show Sum.inr (ini4 (rot4 (ini4 (rot4 k)))) = Sum.inr k
      congr 1
      revert k; decide
  · intro i k h
    by_cases hi : i < es.length
    · rw [List.getElem?_append_left (by simpa using hi), List.getElem?_map] at h
      obtain ⟨k', hk, rfl⟩ := Option.map_eq_some_iff.mp h
      have h2 := q.opp i k' hk
      have h3 := oppN_lt hi q.even
      rw [List.getElem?_append_left (by simpa using h3), List.getElem?_map, h2]
      rfl
    · rw [List.getElem?_append_right (by simpa using hi), List.length_map] at h
      have he := q.even
      have hi' : i - es.length < 2 := by
        have := (List.getElem?_eq_some_iff.mp h).1
        simpa using this
      rw [List.getElem?_append_right (by rw [List.length_map]; unfold oppN; omega), List.length_map]
      rcases (by omega : i = es.length ∨ i = es.length + 1) with h0 | h0
      · have e1 : i - es.length = 0 := by omega
        have e2 : oppN i - es.length = 1 := by unfold oppN; omega
        rw [e1] at h; rw [e2]
        simp only [List.getElem?_cons_zero, Option.some.injEq] at h
        subst h; rfl
      · have e1 : i - es.length = 1 := by omega
        have e2 : oppN i - es.length = 0 := by unfold oppN; omega
        rw [e1] at h; rw [e2]
        simp only [List.getElem?_cons_succ, List.getElem?_cons_zero, Option.some.injEq] at h
        subst h; rfl
  · rintro (k | k) h
    · exact fun h2 => q.flip k ((hl k).mp h) ((hl (R k)).mp h2)
    · intro h2
      have h1 := (hr k).mp h
      have h3 := (hr (rot4 k)).mp h2
      rcases h1 with rfl | rfl <;> revert h3 <;> decide
  · rintro (k | k)
    · exact (q.cov k).imp (hl k).mpr (hl (R k)).mpr
    · have : (k = 0 ∨ k = 2) ∨ (rot4 k = 0 ∨ rot4 k = 2) := by revert k; decide
      exact this.imp (hr k).mpr (hr (rot4 k)).mpr
  · rintro (k | k) h
    · exact (hl (o k)).mpr (q.oin k ((hl k).mp h))
    · refine (hr (ini4 k)).mpr ?_
      rcases (hr k).mp h with rfl | rfl <;> decide
  · rintro (k | k) h
    · exact fun h2 => q.oout k (fun h3 => h ((hl k).mpr h3)) ((hl (o k)).mp h2)
    · intro h2
      refine h ((hr k).mpr ?_)
      have := (hr (ini4 k)).mp h2
      clear h h2
      revert this; revert k; decide
  · rw [List.length_append, List.length_map]
    have := q.even
    simp; omega
theorem nodup_two {i j : Nat} {α : Type} {l : List α} (nd : l.Nodup) {x : α} (hi : l[i]? = some x) (hj : l[j]? = some x) : i = j := by
  obtain ⟨l1, e1⟩ := List.getElem?_eq_some_iff.mp hi
  obtain ⟨l2, e2⟩ := List.getElem?_eq_some_iff.mp hj
  exact (List.getElem_inj nd).mp (e1.trans e2.symm)
namespace QS
variable {ι : Type} {R o : ι → ι} {es : List ι}
theorem rinj (q : QS R o es) {a b : ι} (h : R a = R b) : a = b := by rw [← q.r4 a, ← q.r4 b, h]
theorem inv2 (q : QS R o es) (k : ι) : R (o (R (o k))) = k := by
  have h := congrArg R (q.inv (R (R (R k))))
  rw [q.r4] at h
  exact h
theorem oinj (q : QS R o es) {a b : ι} (h : o a = o b) : a = b := by rw [← q.inv2 a, ← q.inv2 b, h]
theorem rr (q : QS R o es) {k : ι} (h : k ∈ es) : R (R k) ∈ es := by
  obtain ⟨i, hi⟩ := List.mem_iff_getElem?.mp h
  exact List.mem_of_getElem? (q.opp i k hi)
theorem din (q : QS R o es) {k : ι} (h : k ∉ es) : R k ∈ es := (q.cov k).resolve_left h
theorem face_in (q : QS R o es) {k : ι} (h : k ∈ es) : R (o (R (R (R k)))) ∈ es := q.din (q.oout _ (q.flip _ (q.rr h)))
theorem prev_in (q : QS R o es) {k : ι} (h : k ∈ es) : R (o (R k)) ∈ es := q.din (q.oout _ (q.flip _ h))
end QS

/-! permutations of the first n numbers: cycles and their count -/
noncomputable def it (p : Nat → Nat) : Nat → Nat → Nat
  | 0, x => x
  | j + 1, x => p (it p j x)
theorem it_add (p : Nat → Nat) (j x : Nat) : ∀ i, it p (i + j) x = it p i (it p j x)
  | 0 => by rw [Nat.zero_add]; rfl
  | i + 1 => by
    rw [Nat.add_right_comm]
    show p (it p (i + j) x) = p (it p i (it p j x))
    rw [it_add p j x i]
structure Pm (n : Nat) (p : Nat → Nat) : Prop where
  lt : ∀ i, i < n → p i < n
  inj : ∀ i j, i < n → j < n → p i = p j → i = j
theorem pigeon : ∀ (n : Nat) (f : Nat → Nat), (∀ i, i ≤ n → f i < n) → ∃ i j, i < j ∧ j ≤ n ∧ f i = f j
  | 0, f, h => absurd (h 0 (Nat.le_refl _)) (Nat.not_lt_zero _)
  | n + 1, f, h => by
    by_cases hx : ∃ i, i < n + 1 ∧ f i = f (n + 1)
    · obtain ⟨i, hi, e⟩ := hx
      exact ⟨i, n + 1, hi, Nat.le_refl _, e⟩
    · have hlast := h (n + 1) (Nat.le_refl _)
      obtain ⟨i, j, hij, hj, e⟩ := pigeon n (fun i => if f i = n then f (n + 1) else f i) (fun i hi => by
        have h1 := h i (by omega)
        have h2 : f i ≠ f (n + 1) := fun e => hx ⟨i, by omega, e⟩
        show (if f i = n then f (n + 1) else f i) < n
        split <;> omega)
      have hi : f i ≠ f (n + 1) := fun e => hx ⟨i, by omega, e⟩
      have hj' : f j ≠ f (n + 1) := fun e => hx ⟨j, by omega, e⟩
      refine ⟨i, j, hij, by omega, ?_⟩
      split at e <;> split at e
      · omega
      · exact absurd e.symm hj'
      · exact absurd e hi
      · exact e
namespace Pm
variable {n : Nat} {p : Nat → Nat}
theorem it_lt (P : Pm n p) {x : Nat} (hx : x < n) : ∀ j, it p j x < n
  | 0 => hx
  | j + 1 => P.lt _ (it_lt P hx j)
theorem it_inj (P : Pm n p) {x y : Nat} (hx : x < n) (hy : y < n) : ∀ j, it p j x = it p j y → x = y
  | 0, h => h
  | j + 1, h => it_inj P hx hy j (P.inj _ _ (P.it_lt hx j) (P.it_lt hy j) h)
theorem period (P : Pm n p) {x : Nat} (hx : x < n) : ∃ m, 0 < m ∧ m ≤ n ∧ it p m x = x := by
  obtain ⟨i, j, hij, hj, e⟩ := pigeon n (fun i => it p i x) (fun i _ => P.it_lt hx i)
  refine ⟨j - i, by omega, by omega, ?_⟩
  have e2 : it p j x = it p i (it p (j - i) x) := by rw [← it_add]; congr 1; omega
  rw [e2] at e
  exact (P.it_inj hx (P.it_lt hx _) i e).symm
end Pm
/-- the least number that a property holds of -/
theorem least {Q : Nat → Prop} : ∀ {m : Nat}, Q m → ∃ k, k ≤ m ∧ Q k ∧ ∀ j, j < k → ¬ Q j := by
  intro m
  induction m using Nat.strongRecOn with
  | ind m ih =>
    intro h
    by_cases hx : ∃ j, j < m ∧ Q j
    · obtain ⟨j, hj, hq⟩ := hx
      obtain ⟨k, hk, h1, h2⟩ := ih j hj hq
      exact ⟨k, by omega, h1, h2⟩
    · exact ⟨m, Nat.le_refl _, h, fun j hj hq => hx ⟨j, hj, hq⟩⟩
noncomputable def Sm (p : Nat → Nat) (u v : Nat) : Prop := ∃ j, it p j u = v
theorem Sm.refl (p : Nat → Nat) (u : Nat) : Sm p u u := ⟨0, rfl⟩
theorem Sm.step (p : Nat → Nat) (u : Nat) : Sm p u (p u) := ⟨1, rfl⟩
theorem Sm.trans {p : Nat → Nat} {u v w : Nat} : Sm p u v → Sm p v w → Sm p u w := fun ⟨i, hi⟩ ⟨j, hj⟩ => ⟨j + i, by rw [it_add, hi, hj]⟩
theorem it_period {p : Nat → Nat} {m x : Nat} (h : it p m x = x) : ∀ t, it p (m * t) x = x
  | 0 => rfl
  | t + 1 => by rw [Nat.mul_succ, it_add, h, it_period h t]
theorem Pm.symm {n : Nat} {p : Nat → Nat} (P : Pm n p) {u v : Nat} (hu : u < n) : Sm p u v → Sm p v u := by
  rintro ⟨j, rfl⟩
  obtain ⟨m, hm, _, he⟩ := P.period hu
  refine ⟨m * j - j, ?_⟩
  rw [← it_add]
  have : m * j - j + j = m * j := Nat.sub_add_cancel (Nat.le_mul_of_pos_left j hm)
  rw [this]
  exact it_period he j
theorem Pm.sm_lt {n : Nat} {p : Nat → Nat} (P : Pm n p) {u v : Nat} (hu : u < n) : Sm p u v → v < n := by
  rintro ⟨j, rfl⟩
  exact P.it_lt hu j
/-- equivalences on the first n numbers -/
structure Eqv (n : Nat) (E : Nat → Nat → Prop) : Prop where
  refl : ∀ a, a < n → E a a
  symm : ∀ a b, a < n → b < n → E a b → E b a
  trans : ∀ a b c, a < n → b < n → c < n → E a b → E b c → E a c
theorem Pm.eqv {n : Nat} {p : Nat → Nat} (P : Pm n p) : Eqv n (Sm p) := ⟨fun a _ => Sm.refl p a, fun _ _ ha _ h => P.symm ha h, fun _ _ _ _ _ _ h1 h2 => h1.trans h2⟩
noncomputable def Mrg (E : Nat → Nat → Prop) (x y a b : Nat) : Prop := E a b ∨ (E a x ∧ E y b) ∨ (E a y ∧ E x b)
theorem Eqv.mrg {n : Nat} {E : Nat → Nat → Prop} (e : Eqv n E) {x y : Nat} (hx : x < n) (hy : y < n) : Eqv n (Mrg E x y) := by
  refine ⟨fun a ha => .inl (e.refl a ha), ?_, ?_⟩
  · rintro a b ha hb (h | ⟨h1, h2⟩ | ⟨h1, h2⟩)
    · exact .inl (e.symm _ _ ha hb h)
    · exact .inr (.inr ⟨e.symm _ _ hy hb h2, e.symm _ _ ha hx h1⟩)
    · exact .inr (.inl ⟨e.symm _ _ hx hb h2, e.symm _ _ ha hy h1⟩)
  · rintro a b c ha hb hc (h | ⟨h1, h2⟩ | ⟨h1, h2⟩) (g | ⟨g1, g2⟩ | ⟨g1, g2⟩)
    · exact .inl (e.trans _ _ _ ha hb hc h g)
    · exact .inr (.inl ⟨e.trans _ _ _ ha hb hx h g1, g2⟩)
    · exact .inr (.inr ⟨e.trans _ _ _ ha hb hy h g1, g2⟩)
    · exact .inr (.inl ⟨h1, e.trans _ _ _ hy hb hc h2 g⟩)
    · exact .inr (.inl ⟨h1, g2⟩)
    · exact .inl (e.trans _ _ _ ha hx hc h1 g2)
    · exact .inr (.inr ⟨h1, e.trans _ _ _ hx hb hc h2 g⟩)
    · exact .inl (e.trans _ _ _ ha hy hc h1 g2)
    · exact .inr (.inr ⟨h1, g2⟩)
/-! counts -/
open Classical in
noncomputable def cnt : Nat → (Nat → Prop) → Nat
  | 0, _ => 0
  | n + 1, Q => cnt n Q + if Q n then 1 else 0
theorem cnt_congr : ∀ {n : Nat} {Q Q' : Nat → Prop}, (∀ k, k < n → (Q k ↔ Q' k)) → cnt n Q = cnt n Q'
  | 0, _, _, _ => rfl
  | n + 1, Q, Q', h => by
    unfold cnt
    rw [cnt_congr (n := n) fun k hk => h k (by omega)]
    have := h n (by omega)
    by_cases hq : Q n
    · rw [if_pos hq, if_pos (this.mp hq)]
    · rw [if_neg hq, if_neg fun h => hq (this.mpr h)]
theorem cnt_remove : ∀ {n : Nat} {Q Q' : Nat → Prop} {m : Nat}, m < n → Q m → (∀ k, k < n → (Q' k ↔ Q k ∧ k ≠ m)) → cnt n Q = cnt n Q' + 1
  | n + 1, Q, Q', m, hm, hq, h => by
    unfold cnt
    by_cases hmn : m = n
    · subst hmn
      rw [cnt_congr (n := m) (Q := Q') (Q' := Q) fun k hk => by rw [h k (by omega)]; exact ⟨fun x => x.1, fun x => ⟨x, by omega⟩⟩]
      rw [if_pos hq, if_neg fun x => ((h m (by omega)).mp x).2 rfl]
    · rw [cnt_remove (n := n) (by omega) hq fun k hk => h k (by omega)]
      have := h n (by omega)
      by_cases hn : Q n
      · rw [if_pos hn, if_pos (this.mpr ⟨hn, fun e => hmn e.symm⟩)]
      · rw [if_neg hn, if_neg fun x => hn (this.mp x).1]
theorem cnt_none : ∀ {n : Nat} {Q : Nat → Prop}, (∀ k, k < n → ¬ Q k) → cnt n Q = 0
  | 0, _, _ => rfl
  | n + 1, Q, h => by
    unfold cnt
    rw [cnt_none fun k hk => h k (by omega), if_neg (h n (by omega))]
/-- the classes within P -/
noncomputable def cls (n : Nat) (P : Nat → Prop) (E : Nat → Nat → Prop) : Nat := cnt n fun k => P k ∧ ∀ j, j < k → P j → ¬ E j k
theorem cls_congr {n : Nat} {P : Nat → Prop} {E E' : Nat → Nat → Prop} (h : ∀ a b, a < n → b < n → P a → P b → (E a b ↔ E' a b)) : cls n P E = cls n P E' :=
  cnt_congr fun k hk => ⟨fun ⟨h1, h2⟩ => ⟨h1, fun j hj hp he => h2 j hj hp ((h j k (by omega) hk hp h1).mpr he)⟩, fun ⟨h1, h2⟩ => ⟨h1, fun j hj hp he => h2 j hj hp ((h j k (by omega) hk hp h1).mp he)⟩⟩
theorem cls_one {n : Nat} {P : Nat → Prop} {E : Nat → Nat → Prop} {x : Nat} (hx : x < n) (hP : P x) (h : ∀ a b, a < n → b < n → P a → P b → E a b) : cls n P E = 1 := by
  obtain ⟨m, hm, h1, h2⟩ := least hP
  have := cnt_remove (n := n) (Q := fun k => P k ∧ ∀ j, j < k → P j → ¬ E j k) (Q' := fun _ => False) (m := m) (by omega) ⟨h1, fun j hj hp _ => h2 j hj hp⟩ (fun k hk => by
    constructor
    · exact fun x => x.elim
    · rintro ⟨⟨g1, g2⟩, hne⟩
      have : m ≤ k := Nat.le_of_not_lt fun hlt => h2 k hlt g1
      exact g2 m (by omega) h1 (h m k (by omega) hk h1 g1))
  unfold cls
  rw [this, cnt_none fun _ _ => id]
theorem cls_mrg {n : Nat} {P : Nat → Prop} {E : Nat → Nat → Prop} (e : Eqv n E) (cl : ∀ a b, a < n → b < n → P a → E a b → P b) {x y : Nat} (hx : x < n) (hy : y < n) (px : P x) (py : P y) (hne : ¬ E x y) :
    cls n P E = cls n P (Mrg E x y) + 1 := by
  have core : ∀ x y, x < n → y < n → P x → P y → ¬ E x y → ∀ mx my, mx < n → my < n → E mx x → E my y → (∀ j, j < mx → ¬ E j x) → (∀ j, j < my → ¬ E j y) → mx < my → cls n P E = cls n P (Mrg E x y) + 1 := by
    intro x y hx hy px py hne mx my hmx hmy ex ey lx ly hlt
    have pmx : P mx := cl _ _ hx hmx px (e.symm _ _ hmx hx ex)
    have pmy : P my := cl _ _ hy hmy py (e.symm _ _ hmy hy ey)
    refine cnt_remove (m := my) hmy ⟨pmy, fun j hj hp he => ly j hj (e.trans _ _ _ (by omega) hmy hy he ey)⟩ fun k hk => ?_
    constructor
    · rintro ⟨h1, h2⟩
      refine ⟨⟨h1, fun j hj hp he => h2 j hj hp (.inl he)⟩, ?_⟩
      rintro rfl
      exact h2 mx hlt pmx (.inr (.inl ⟨ex, e.symm _ _ hmy hy ey⟩))
    · rintro ⟨⟨h1, h2⟩, hne'⟩
      refine ⟨h1, ?_⟩
      rintro j hj hp (he | ⟨g1, g2⟩ | ⟨g1, g2⟩)
      · exact h2 j hj hp he
      · have hk1 : E my k := e.trans _ _ _ hmy hy hk ey g2
        rcases Nat.lt_or_gt_of_ne hne' with h | h
        · exact ly k h (e.symm _ _ hy hk g2)
        · exact h2 my h pmy hk1
      · have hk1 : E mx k := e.trans _ _ _ hmx hx hk ex g2
        have hkx : k = mx := by
          rcases Nat.lt_trichotomy k mx with h | h | h
          · exact absurd (e.symm _ _ hx hk g2) (lx k h)
          · exact h
          · exact absurd hk1 (h2 mx h pmx)
        exact ly j (by omega) g1
  obtain ⟨mx, hmx, ex, lx⟩ := least (Q := fun j => E j x) (e.refl x hx)
  obtain ⟨my, hmy, ey, ly⟩ := least (Q := fun j => E j y) (e.refl y hy)
  have hd : mx ≠ my := fun h => by
    subst h
    exact hne (e.trans _ _ _ hx (by omega) hy (e.symm _ _ (by omega) hx ex) ey)
  rcases Nat.lt_or_gt_of_ne hd with h | h
  · exact core x y hx hy px py hne mx my (by omega) (by omega) ex ey lx ly h
  · rw [core y x hy hx py px (fun h => hne (e.symm _ _ hy hx h)) my mx (by omega) (by omega) ey ex ly lx h]
    congr 1
    refine cls_congr fun a b _ _ _ _ => ?_
    unfold Mrg
    constructor
    · rintro (h | h | h)
      · exact .inl h
      · exact .inr (.inr h)
      · exact .inr (.inl h)
    · rintro (h | h | h)
      · exact .inl h
      · exact .inr (.inr h)
      · exact .inr (.inl h)
theorem mrg_same {n : Nat} {E : Nat → Nat → Prop} (e : Eqv n E) {x y : Nat} (hx : x < n) (hy : y < n) (h : E x y) {a b : Nat} (ha : a < n) (hb : b < n) : Mrg E x y a b ↔ E a b := by
  constructor
  · rintro (g | ⟨g1, g2⟩ | ⟨g1, g2⟩)
    · exact g
    · exact e.trans _ _ _ ha hy hb (e.trans _ _ _ ha hx hy g1 h) g2
    · exact e.trans _ _ _ ha hx hb (e.trans _ _ _ ha hy hx g1 (e.symm _ _ hx hy h)) g2
  · exact .inl
/-! a permutation behind a swap -/
noncomputable def sw (p : Nat → Nat) (x y k : Nat) : Nat := if k = x then p y else if k = y then p x else p k
theorem sw_l (p : Nat → Nat) (x y : Nat) : sw p x y x = p y := if_pos rfl
theorem sw_r (p : Nat → Nat) (x y : Nat) : sw p x y y = p x := by
  unfold sw
  split
  · rename_i h; rw [h]
  · rw [if_pos rfl]
theorem sw_o (p : Nat → Nat) {x y k : Nat} (hx : k ≠ x) (hy : k ≠ y) : sw p x y k = p k := by
  unfold sw; rw [if_neg hx, if_neg hy]
theorem sw_sw (p : Nat → Nat) (x y k : Nat) : sw (sw p x y) x y k = p k := by
  by_cases hx : k = x
  · subst hx; rw [sw_l, sw_r]
  · by_cases hy : k = y
    · subst hy; rw [sw_r, sw_l]
    · rw [sw_o _ hx hy, sw_o _ hx hy]
theorem sw_same (p : Nat → Nat) (x k : Nat) : sw p x x k = p k := by
  by_cases hx : k = x
  · subst hx; rw [sw_l]
  · rw [sw_o _ hx hx]
theorem Pm.sw {n : Nat} {p : Nat → Nat} (P : Pm n p) {x y : Nat} (hx : x < n) (hy : y < n) : Pm n (sw p x y) := by
  refine ⟨fun i hi => ?_, fun i j hi hj e => ?_⟩
  · unfold Mine.sw
    split
    · exact P.lt _ hy
    · split
      · exact P.lt _ hx
      · exact P.lt _ hi
  · unfold Mine.sw at e
    repeat' split at e
    all_goals (have := P.inj _ _ (by assumption) (by assumption) e; omega)
theorem Pm.congr {n : Nat} {p q : Nat → Nat} (P : Pm n p) (h : ∀ k, k < n → q k = p k) : Pm n q :=
  ⟨fun i hi => by rw [h i hi]; exact P.lt i hi, fun i j hi hj e => P.inj i j hi hj (by rw [← h i hi, ← h j hj, e])⟩
theorem it_congr {n : Nat} {p q : Nat → Nat} (P : Pm n p) (h : ∀ k, k < n → q k = p k) {x : Nat} (hx : x < n) : ∀ j, it q j x = it p j x
  | 0 => rfl
  | j + 1 => by
    show q (it q j x) = p (it p j x)
    rw [it_congr P h hx j, h _ (P.it_lt hx j)]
theorem sm_congr {n : Nat} {p q : Nat → Nat} (P : Pm n p) (h : ∀ k, k < n → q k = p k) {a b : Nat} (ha : a < n) : Sm q a b ↔ Sm p a b :=
  ⟨fun ⟨j, hj⟩ => ⟨j, by rw [← it_congr P h ha j]; exact hj⟩, fun ⟨j, hj⟩ => ⟨j, by rw [it_congr P h ha j]; exact hj⟩⟩
theorem sw_mrg {n : Nat} {p : Nat → Nat} (P : Pm n p) {x y : Nat} (hx : x < n) (hy : y < n) {a : Nat} (ha : a < n) : ∀ j, Mrg (Sm p) x y a (it (sw p x y) j a)
  | 0 => .inl (Sm.refl p a)
  | j + 1 => by
    have ih := sw_mrg P hx hy ha j
    have hb : it (Mine.sw p x y) j a < n := (P.sw hx hy).it_lt ha j
    have e := P.eqv.mrg hx hy
    show Mrg (Sm p) x y a (Mine.sw p x y (it (Mine.sw p x y) j a))
    revert ih hb
    generalize it (Mine.sw p x y) j a = b
    intro ih hb
    by_cases h1 : b = x
    · subst h1
      rw [sw_l]
      exact e.trans _ _ _ ha hb (P.lt _ hy) ih (.inr (.inl ⟨Sm.refl p b, Sm.step p y⟩))
    · by_cases h2 : b = y
      · subst h2
        rw [sw_r]
        exact e.trans _ _ _ ha hb (P.lt _ hx) ih (.inr (.inr ⟨Sm.refl p b, Sm.step p x⟩))
      · rw [sw_o _ h1 h2]
        exact e.trans _ _ _ ha hb (P.lt _ hb) ih (.inl (Sm.step p b))
/-- two cycles become one -/
theorem sw_joins {n : Nat} {p : Nat → Nat} (P : Pm n p) {x y : Nat} (hx : x < n) (hy : y < n) (h : ¬ Sm p x y) : Sm (sw p x y) x y := by
  obtain ⟨m0, hm0, _, he0⟩ := P.period hy
  obtain ⟨m, _, ⟨hm, he⟩, hl⟩ := least (Q := fun m => 0 < m ∧ it p m y = y) ⟨hm0, he0⟩
  have key : ∀ j, j < m → it (sw p x y) (j + 1) x = it p (j + 1) y := by
    intro j
    induction j with
    | zero => intro _; exact sw_l p x y
    | succ j ih =>
      intro hj
      show sw p x y (it (sw p x y) (j + 1) x) = p (it p (j + 1) y)
      rw [ih (by omega)]
      refine sw_o p (fun e => ?_) (fun e => hl (j + 1) hj ⟨Nat.succ_pos _, e⟩)
      exact h (P.symm hy ⟨j + 1, e⟩)
  refine ⟨m, ?_⟩
  have := key (m - 1) (by omega)
  rw [show m - 1 + 1 = m by omega, he] at this
  exact this
/-- one cycle becomes two -/
theorem sw_parts {n : Nat} {p : Nat → Nat} (P : Pm n p) {x y : Nat} (hx : x < n) (hy : y < n) (hne : x ≠ y) (h : Sm p x y) : ¬ Sm (sw p x y) x y := by
  obtain ⟨m, _, he, hl⟩ := least (Q := fun m => it p m x = y) h.choose_spec
  have hm : 0 < m := Nat.pos_of_ne_zero fun e => hne (by subst e; exact he)
  have hx' : ∀ i, 0 < i → i ≤ m → it p i x ≠ x := fun i h1 h2 e => by
    have : it p (m - i) x = y := by
      rw [← he]
      conv => rhs; rw [show m = (m - i) + i by omega, it_add, e]
    exact hl (m - i) (by omega) this
  have Q := P.sw hx hy
  have key : ∀ j, ∃ i, 0 < i ∧ i ≤ m ∧ it (sw p x y) j y = it p i x := by
    intro j
    induction j with
    | zero => exact ⟨m, hm, Nat.le_refl _, he.symm⟩
    | succ j ih =>
      obtain ⟨i, h1, h2, h3⟩ := ih
      show ∃ i, _ ∧ _ ∧ sw p x y (it (sw p x y) j y) = _
      rw [h3]
      by_cases hi : i = m
      · subst hi
        rw [he, sw_r]
        exact ⟨1, by omega, by omega, rfl⟩
      · refine ⟨i + 1, by omega, by omega, ?_⟩
        rw [sw_o p (hx' i h1 h2) (hl i (by omega))]
        rfl
  intro hs
  obtain ⟨j, hj⟩ := Q.symm hx hs
  obtain ⟨i, h1, h2, h3⟩ := key j
  exact hx' i h1 h2 (h3.symm.trans hj)
theorem sw_rel {n : Nat} {p : Nat → Nat} (P : Pm n p) {x y : Nat} (hx : x < n) (hy : y < n) (h : ¬ Sm p x y) {a b : Nat} (ha : a < n) : Sm (sw p x y) a b ↔ Mrg (Sm p) x y a b := by
  have Q := P.sw hx hy
  have hj := sw_joins P hx hy h
  have back : ∀ {a b}, a < n → Sm p a b → Sm (sw p x y) a b := by
    rintro a b ha ⟨j, rfl⟩
    have h1 := sw_mrg Q hx hy ha j
    rw [it_congr P (fun k _ => sw_sw p x y k) ha j] at h1
    exact (mrg_same Q.eqv hx hy hj ha (P.it_lt ha j)).mp h1
  constructor
  · rintro ⟨j, rfl⟩
    exact sw_mrg P hx hy ha j
  · rintro (g | ⟨g1, g2⟩ | ⟨g1, g2⟩)
    · exact back ha g
    · exact (back ha g1).trans (hj.trans (back hy g2))
    · exact (back ha g1).trans ((Q.symm hx hj).trans (back hx g2))
theorem sm_closed {n : Nat} {p : Nat → Nat} {P : Nat → Prop} (Pp : Pm n p) (cl : ∀ a, a < n → P a → P (p a)) {a b : Nat} (ha : a < n) (pa : P a) : Sm p a b → P b := by
  rintro ⟨j, rfl⟩
  induction j with
  | zero => exact pa
  | succ j ih => exact cl _ (Pp.it_lt ha j) ih
/-- the count: one less where two become one -/
theorem cls_less {n : Nat} {p : Nat → Nat} {P : Nat → Prop} (Pp : Pm n p) (cl : ∀ a, a < n → P a → P (p a)) {x y : Nat} (hx : x < n) (hy : y < n) (px : P x) (py : P y) (h : ¬ Sm p x y) : cls n P (Sm p) = cls n P (Sm (sw p x y)) + 1 := by
  rw [cls_mrg Pp.eqv (fun a b ha _ pa e => sm_closed Pp cl ha pa e) hx hy px py h]
  congr 1
  exact cls_congr fun a b ha _ _ _ => (sw_rel Pp hx hy h ha).symm
theorem cls_more {n : Nat} {p : Nat → Nat} {P : Nat → Prop} (Pp : Pm n p) (cl : ∀ a, a < n → P a → P (p a)) {x y : Nat} (hx : x < n) (hy : y < n) (px : P x) (py : P y) (hne : x ≠ y) (h : Sm p x y) : cls n P (Sm (sw p x y)) = cls n P (Sm p) + 1 := by
  have cl' : ∀ a, a < n → P a → P (sw p x y a) := fun a ha pa => by
    unfold sw
    split
    · exact cl _ hy py
    · split
      · exact cl _ hx px
      · exact cl _ ha pa
  rw [cls_less (Pp.sw hx hy) cl' hx hy px py (sw_parts Pp hx hy hne h)]
  congr 1
  exact cls_congr fun a b ha _ _ _ => sm_congr Pp (fun k _ => sw_sw p x y k) ha
/-- a swap without P changes no count within it -/
theorem cls_off {n : Nat} {p : Nat → Nat} {P : Nat → Prop} (Pp : Pm n p) (cl : ∀ a, a < n → P a → P (p a)) {x y : Nat} (px : ¬ P x) (py : ¬ P y) : cls n P (Sm (sw p x y)) = cls n P (Sm p) := by
  refine cls_congr fun a b ha _ pa _ => ?_
  have key : ∀ j, it (sw p x y) j a = it p j a ∧ P (it p j a) := by
    intro j
    induction j with
    | zero => exact ⟨rfl, pa⟩
    | succ j ih =>
      obtain ⟨h1, h2⟩ := ih
      refine ⟨?_, cl _ (Pp.it_lt ha j) h2⟩
      show sw p x y (it (sw p x y) j a) = p (it p j a)
      rw [h1]
      exact sw_o p (fun e => px (e ▸ h2)) (fun e => py (e ▸ h2))
  exact ⟨fun ⟨j, hj⟩ => ⟨j, by rw [← (key j).1]; exact hj⟩, fun ⟨j, hj⟩ => ⟨j, by rw [(key j).1]; exact hj⟩⟩

/-! Euler's number -/
structure Pr (n : Nat) (p f : Nat → Nat) : Prop where
  even : n % 2 = 0
  pm : Pm n p
  fl : ∀ i, i < n → f i < n
  pf : ∀ i, i < n → p (f i) = oppN i
theorem opp_opp (k : Nat) : oppN (oppN k) = k := by unfold oppN; omega
theorem opp_ne (k : Nat) : oppN k ≠ k := by unfold oppN; omega
theorem opp_inj {a b : Nat} (h : oppN a = oppN b) : a = b := by rw [← opp_opp a, ← opp_opp b, h]
namespace Pr
variable {n : Nat} {p f : Nat → Nat}
theorem fm (q : Pr n p f) : Pm n f := ⟨q.fl, fun i j hi hj e => opp_inj (by rw [← q.pf i hi, ← q.pf j hj, e])⟩
theorem inv_lt (q : Pr n p f) {k : Nat} (hk : k < n) : f (oppN k) < n := q.fl _ (oppN_lt hk q.even)
theorem p_inv (q : Pr n p f) {k : Nat} (hk : k < n) : p (f (oppN k)) = k := by rw [q.pf _ (oppN_lt hk q.even), opp_opp]
theorem inv_p (q : Pr n p f) {k : Nat} (hk : k < n) : f (oppN (p k)) = k := q.pm.inj _ _ (q.inv_lt (q.pm.lt _ hk)) hk (q.p_inv (q.pm.lt _ hk))
theorem invm (q : Pr n p f) : Pm n (fun k => f (oppN k)) := ⟨fun i hi => q.inv_lt hi, fun i j hi hj e => by
  have e : f (oppN i) = f (oppN j) := e
  rw [← q.p_inv hi, ← q.p_inv hj, e]⟩
/-- one way round or the other: the same cycles -/
theorem sm_inv (q : Pr n p f) {a b : Nat} (ha : a < n) : Sm (fun k => f (oppN k)) a b ↔ Sm p a b := by
  have h1 : ∀ j, it p j (it (fun k => f (oppN k)) j a) = a := by
    intro j
    induction j with
    | zero => rfl
    | succ j ih =>
      have := it_add p 1 (it (fun k => f (oppN k)) (j + 1) a) j
      rw [this]
      show it p j (p (f (oppN (it (fun k => f (oppN k)) j a)))) = a
      rw [q.p_inv (q.invm.it_lt ha j)]
      exact ih
  have h2 : ∀ j, it (fun k => f (oppN k)) j (it p j a) = a := by
    intro j
    induction j with
    | zero => rfl
    | succ j ih =>
      have := it_add (fun k => f (oppN k)) 1 (it p (j + 1) a) j
      rw [this]
      show it (fun k => f (oppN k)) j (f (oppN (p (it p j a)))) = a
      rw [q.inv_p (q.pm.it_lt ha j)]
      exact ih
  constructor
  · rintro ⟨j, rfl⟩
    exact q.pm.symm (q.invm.it_lt ha j) ⟨j, h1 j⟩
  · rintro ⟨j, rfl⟩
    exact q.invm.symm (q.pm.it_lt ha j) ⟨j, h2 j⟩
end Pr
/-- f with the first t edges alone -/
noncomputable def ft (f : Nat → Nat) (t k : Nat) : Nat := if k < 2 * t then f k else f (oppN k)
noncomputable def Ct (p : Nat → Nat) : Nat → Nat → Nat → Prop
  | 0 => Sm p
  | t + 1 => Mrg (Ct p t) (2 * t) (2 * t + 1)
section
variable {n : Nat} {p f : Nat → Nat}
theorem ft_succ (t k : Nat) : ft f (t + 1) k = sw (ft f t) (2 * t) (2 * t + 1) k := by
  have e0 : oppN (2 * t) = 2 * t + 1 := by unfold oppN; omega
  have e1 : oppN (2 * t + 1) = 2 * t := by unfold oppN; omega
  by_cases h1 : k = 2 * t
  · subst h1
    rw [sw_l]
    unfold ft
    rw [if_pos (by omega), if_neg (by omega), e1]
  · by_cases h2 : k = 2 * t + 1
    · subst h2
      rw [sw_r]
      unfold ft
      rw [if_pos (by omega), if_neg (by omega), e0]
    · rw [sw_o _ h1 h2]
      unfold ft
      by_cases h3 : k < 2 * t
      · rw [if_pos h3, if_pos (by omega)]
      · rw [if_neg h3, if_neg (by omega)]
theorem ft_pm (q : Pr n p f) : ∀ t, 2 * t ≤ n → Pm n (ft f t)
  | 0, _ => q.invm.congr fun k _ => by unfold ft; rw [if_neg (by omega)]
  | t + 1, h => ((ft_pm q t (by omega)).sw (x := 2 * t) (y := 2 * t + 1) (by omega) (by omega)).congr fun k _ => ft_succ t k
theorem Ct_eqv (P : Pm n p) : ∀ t, 2 * t ≤ n → Eqv n (Ct p t)
  | 0, _ => P.eqv
  | t + 1, h => (Ct_eqv P t (by omega)).mrg (by omega) (by omega)
theorem Ct_closed {P : Nat → Prop} (q : Pr n p f) (cl : ∀ a, a < n → P a → P (p a)) (co : ∀ a, a < n → P a → P (oppN a)) : ∀ t, 2 * t ≤ n → ∀ a b, a < n → b < n → P a → Ct p t a b → P b
  | 0, _, a, b, ha, _, pa, e => sm_closed q.pm cl ha pa e
  | t + 1, h, a, b, ha, hb, pa, e => by
    have ih := Ct_closed q cl co t (by omega)
    rcases e with e | ⟨e1, e2⟩ | ⟨e1, e2⟩
    · exact ih a b ha hb pa e
    · have h1 := ih a (2 * t) ha (by omega) pa e1
      have h2 := co _ (by omega) h1
      rw [show oppN (2 * t) = 2 * t + 1 by unfold oppN; omega] at h2
      exact ih _ b (by omega) hb h2 e2
    · have h1 := ih a (2 * t + 1) ha (by omega) pa e1
      have h2 := co _ (by omega) h1
      rw [show oppN (2 * t + 1) = 2 * t by unfold oppN; omega] at h2
      exact ih _ b (by omega) hb h2 e2
theorem ft_sub (q : Pr n p f) : ∀ t, 2 * t ≤ n → ∀ a b, a < n → Sm (ft f t) a b → Ct p t a b
  | 0, _, a, b, ha, e => (q.sm_inv ha).mp ((sm_congr q.invm (fun k _ => by unfold ft; rw [if_neg (by omega)]) ha).mp e)
  | t + 1, h, a, b, ha, e => by
    have P := ft_pm q t (by omega)
    have ih := ft_sub q t (by omega)
    have e1 : Sm (sw (ft f t) (2 * t) (2 * t + 1)) a b := (sm_congr (P.sw (by omega) (by omega)) (fun k _ => ft_succ t k) ha).mp e
    obtain ⟨j, rfl⟩ := e1
    rcases sw_mrg P (x := 2 * t) (y := 2 * t + 1) (by omega) (by omega) ha j with g | ⟨g1, g2⟩ | ⟨g1, g2⟩
    · exact .inl (ih _ _ ha g)
    · exact .inr (.inl ⟨ih _ _ ha g1, ih _ _ (by omega) g2⟩)
    · exact .inr (.inr ⟨ih _ _ ha g1, ih _ _ (by omega) g2⟩)
theorem f_closed {P : Nat → Prop} (q : Pr n p f) (cl : ∀ a, a < n → P a → P (p a)) (co : ∀ a, a < n → P a → P (oppN a)) {a : Nat} (ha : a < n) (pa : P a) : P (f (oppN a)) :=
  sm_closed q.pm cl ha pa (q.pm.symm (q.inv_lt ha) ⟨1, q.p_inv ha⟩)
theorem ft_closed {P : Nat → Prop} (q : Pr n p f) (cl : ∀ a, a < n → P a → P (p a)) (co : ∀ a, a < n → P a → P (oppN a)) (t : Nat) (a : Nat) (ha : a < n) (pa : P a) : P (ft f t a) := by
  unfold ft
  split
  · have := f_closed q cl co (oppN_lt ha q.even) (co a ha pa)
    rwa [opp_opp] at this
  · exact f_closed q cl co ha pa
theorem euler {P : Nat → Prop} (q : Pr n p f) (cl : ∀ a, a < n → P a → P (p a)) (co : ∀ a, a < n → P a → P (oppN a)) : ∀ t, 2 * t ≤ n →
    ∃ d, cls n P (Sm (ft f t)) + cls n P (Sm p) + 2 * d = 2 * cls n P (Ct p t) + cnt t (fun i => P (2 * i))
  | 0, _ => by
    refine ⟨0, ?_⟩
    have : cls n P (Sm (ft f 0)) = cls n P (Sm p) := cls_congr fun a b ha _ _ _ => (sm_congr q.invm (fun k _ => by unfold ft; rw [if_neg (by omega)]) ha).trans (q.sm_inv ha)
    rw [this]
    show _ = 2 * cls n P (Sm p) + 0
    omega
  | t + 1, h => by
    obtain ⟨d, ih⟩ := euler q cl co t (by omega)
    have Pf := ft_pm q t (by omega)
    have hx : 2 * t < n := by omega
    have hy : 2 * t + 1 < n := by omega
    have e0 : oppN (2 * t) = 2 * t + 1 := by unfold oppN; omega
    have e1 : oppN (2 * t + 1) = 2 * t := by unfold oppN; omega
    have hs : cls n P (Sm (ft f (t + 1))) = cls n P (Sm (sw (ft f t) (2 * t) (2 * t + 1))) := cls_congr fun a b ha _ _ _ => sm_congr (Pf.sw hx hy) (fun k _ => ft_succ t k) ha
    have hc : cnt (t + 1) (fun i => P (2 * i)) = cnt t (fun i => P (2 * i)) + @ite _ (P (2 * t)) (Classical.propDecidable _) 1 0 := rfl
    rw [hs, hc]
    show ∃ d, _ = 2 * cls n P (Mrg (Ct p t) (2 * t) (2 * t + 1)) + _
    have E := Ct_eqv q.pm t (by omega)
    have Ec := Ct_closed q cl co t (by omega)
    by_cases px : P (2 * t)
    · have py : P (2 * t + 1) := e0 ▸ co _ hx px
      rw [if_pos px]
      have same : Ct p t (2 * t) (2 * t + 1) → cls n P (Mrg (Ct p t) (2 * t) (2 * t + 1)) = cls n P (Ct p t) := fun g => cls_congr fun a b ha hb _ _ => mrg_same E hx hy g ha hb
      by_cases g : Sm (ft f t) (2 * t) (2 * t + 1)
      · rw [cls_more Pf (ft_closed q cl co t) hx hy px py (by omega) g, same (ft_sub q t (by omega) _ _ hx g)]
        exact ⟨d, by omega⟩
      · have h1 := cls_less Pf (ft_closed q cl co t) hx hy px py g
        by_cases g2 : Ct p t (2 * t) (2 * t + 1)
        · rw [same g2]
          exact ⟨d + 1, by omega⟩
        · have h2 := cls_mrg E Ec hx hy px py g2
          exact ⟨d, by omega⟩
    · have py : ¬ P (2 * t + 1) := fun hp => px (e1 ▸ co _ hy hp)
      rw [if_neg px, cls_off Pf (ft_closed q cl co t) px py]
      have : cls n P (Mrg (Ct p t) (2 * t) (2 * t + 1)) = cls n P (Ct p t) := cls_congr fun a b ha hb pa pb => by
        constructor
        · rintro (g | ⟨g1, _⟩ | ⟨g1, _⟩)
          · exact g
          · exact absurd (Ec _ _ ha hx pa g1) px
          · exact absurd (Ec _ _ ha hy pa g1) py
        · exact .inl
      rw [this]
      exact ⟨d, by omega⟩
/-- Euler's number of a part: even, two at most -/
theorem euler_part {P : Nat → Prop} (q : Pr n p f) (cl : ∀ a, a < n → P a → P (p a)) (co : ∀ a, a < n → P a → P (oppN a)) {x : Nat} (hx : x < n) (px : P x) (one : ∀ a b, a < n → b < n → P a → P b → Ct p (n / 2) a b) :
    ∃ d, cls n P (Sm f) + cls n P (Sm p) + 2 * d = 2 + cnt (n / 2) (fun i => P (2 * i)) := by
  obtain ⟨d, h⟩ := euler q cl co (n / 2) (by omega)
  have e := q.even
  have hf : cls n P (Sm (ft f (n / 2))) = cls n P (Sm f) := cls_congr fun a b ha _ _ _ => sm_congr q.fm (fun k hk => by unfold ft; rw [if_pos (by omega)]) ha
  rw [hf, cls_one hx px one] at h
  exact ⟨d, by omega⟩
end

/-! what the law's helpers tell of a permutation's cycles -/
noncomputable def rowP (row : List Nat) (i : Nat) : Nat := row.getD i 0
theorem rowP_get {row : List Nat} {i : Nat} (h : i < row.length) : row[i]? = some (rowP row i) := by
  unfold rowP
  rw [List.getD_eq_getElem?_getD, List.getElem?_eq_getElem h]; rfl
theorem setD_self {r : List Int} {q : Nat} {x : Int} (h : q < r.length) : (r.set q x).getD q 0 = x := by
  rw [List.getD_eq_getElem?_getD, List.getElem?_set_self h]; rfl
theorem setD_ne {r : List Int} {q u : Nat} {x : Int} (h : q ≠ u) : (r.set q x).getD u 0 = r.getD u 0 := by
  rw [List.getD_eq_getElem?_getD, List.getElem?_set_ne h, List.getD_eq_getElem?_getD]
theorem getD_some {r : List Int} {u : Nat} (h : u < r.length) : r[u]? = some (r.getD u 0) := by
  rw [List.getD_eq_getElem?_getD, List.getElem?_eq_getElem h]; rfl
noncomputable def rj (p : Nat → Nat) (k : Nat) (r : List Int) : Nat → List Int
  | 0 => r
  | j + 1 => (rj p k r j).set (it p j k) k
theorem rj_length (p : Nat → Nat) (k : Nat) (r : List Int) : ∀ j, (rj p k r j).length = r.length
  | 0 => rfl
  | j + 1 => by unfold rj; rw [List.length_set, rj_length]
theorem rj_hit {p : Nat → Nat} {k : Nat} {r : List Int} (h : ∀ i, it p i k < r.length) : ∀ {j i : Nat}, i < j → (rj p k r j).getD (it p i k) 0 = (k : Int)
  | j + 1, i, hi => by
    unfold rj
    by_cases e : it p j k = it p i k
    · rw [← e, setD_self (by rw [rj_length]; exact h j)]
    · rw [setD_ne e]
      exact rj_hit h (by
        have : i ≠ j := fun x => e (by rw [x])
        omega)
theorem rj_miss {p : Nat → Nat} {k : Nat} {r : List Int} {u : Nat} : ∀ {j : Nat}, (∀ i, i < j → it p i k ≠ u) → (rj p k r j).getD u 0 = r.getD u 0
  | 0, _ => rfl
  | j + 1, h => by
    unfold rj
    rw [setD_ne (h j (Nat.lt_succ_self _)), rj_miss fun i hi => h i (by omega)]
section
variable {n : Nat} {row : List Nat}
theorem chase_cycle (hl : row.length = n) (P : Pm n (rowP row)) {k m : Nat} (hk : k < n) (hm0 : 0 < m) (hm : it (rowP row) m k = k) (lst : ∀ j, 0 < j → j < m → it (rowP row) j k ≠ k) {r : List Int} (hr : r.length = n)
    (hneg : ∀ j, r.getD (it (rowP row) j k) 0 < 0) : ∀ d j, j + d = m → ∀ f, d ≤ f → chase row k f (rj (rowP row) k r j) (it (rowP row) j k) = rj (rowP row) k r m
  | 0, j, e, f, _ => by
    obtain rfl : j = m := by omega
    have hh := rj_hit (p := rowP row) (k := k) (r := r) (fun i => by rw [hr]; exact P.it_lt hk i) (j := j) (i := 0) hm0
    refine chase_stop (x := (k : Int)) ?_ (by omega)
    rw [hm]
    have : (rj (rowP row) k r j)[k]? = some ((rj (rowP row) k r j).getD k 0) := getD_some (by rw [rj_length, hr]; exact hk)
    rw [this]
    exact congrArg some hh
  | d + 1, j, e, f, hf => by
    obtain ⟨f, rfl⟩ : ∃ f', f = f' + 1 := ⟨f - 1, by omega⟩
    have hlt := P.it_lt hk j
    have miss : (rj (rowP row) k r j).getD (it (rowP row) j k) 0 = r.getD (it (rowP row) j k) 0 := rj_miss fun i hi e2 => by
      have e3 : it (rowP row) j k = it (rowP row) i (it (rowP row) (j - i) k) := by rw [← it_add]; congr 1; omega
      rw [e3] at e2
      exact lst (j - i) (by omega) (by omega) (P.it_inj hk (P.it_lt hk _) i e2).symm
    rw [chase_go (x := r.getD (it (rowP row) j k) 0) (q := rowP row (it (rowP row) j k)) ?_ (hneg j) (rowP_get (by omega))]
    · exact chase_cycle hl P hk hm0 hm lst hr hneg d (j + 1) (by omega) f (by omega)
    · rw [getD_some (by rw [rj_length, hr]; exact hlt), miss]
structure RInv (n : Nat) (p : Nat → Nat) (i : Nat) (r : List Int) : Prop where
  len : r.length = n
  lab : ∀ u, u < n → 0 ≤ r.getD u 0 → ∃ l : Nat, r.getD u 0 = l ∧ l < i ∧ Sm p l u
  all : ∀ u, u < n → ∀ j, j < i → Sm p j u → 0 ≤ r.getD u 0
  same : ∀ u v, u < n → v < n → Sm p u v → r.getD u 0 = r.getD v 0
theorem rinv_step (hl : row.length = n) (P : Pm n (rowP row)) {i : Nat} {r : List Int} (hi : i < n) (h : RInv n (rowP row) i r) : RInv n (rowP row) (i + 1) (chase row i row.length r i) := by
  by_cases hneg : r.getD i 0 < 0
  · obtain ⟨m0, h1, h2, h3⟩ := P.period hi
    obtain ⟨m, hmm, ⟨hm0, hm⟩, lst⟩ := least (Q := fun m => 0 < m ∧ it (rowP row) m i = i) ⟨h1, h3⟩
    have hall : ∀ j, r.getD (it (rowP row) j i) 0 < 0 := fun j => by
      rw [← h.same i _ hi (P.it_lt hi j) ⟨j, rfl⟩]; exact hneg
    have e := chase_cycle hl P hi hm0 hm (fun j a b c => lst j b ⟨a, c⟩) h.len hall m 0 (by omega) row.length (by omega)
    have e : chase row i row.length r i = rj (rowP row) i r m := e
    rw [e]
    have hit : ∀ u, Sm (rowP row) i u → (rj (rowP row) i r m).getD u 0 = (i : Int) := by
      rintro u ⟨j, rfl⟩
      have e2 : it (rowP row) j i = it (rowP row) (j % m) i := by
        conv => lhs; rw [← Nat.mod_add_div j m, it_add, it_period hm]
      rw [e2]
      exact rj_hit (fun i => by rw [h.len]; exact P.it_lt hi i) (Nat.mod_lt _ hm0)
    have miss : ∀ u, ¬ Sm (rowP row) i u → (rj (rowP row) i r m).getD u 0 = r.getD u 0 := fun u hu => rj_miss fun j _ e => hu ⟨j, e⟩
    refine ⟨by rw [rj_length, h.len], fun u hu h0 => ?_, fun u hu j hj hs => ?_, fun u v hu hv hs => ?_⟩
    · by_cases hs : Sm (rowP row) i u
      · exact ⟨i, hit u hs, by omega, hs⟩
      · rw [miss u hs] at h0 ⊢
        obtain ⟨l, a, b, c⟩ := h.lab u hu h0
        exact ⟨l, a, by omega, c⟩
    · by_cases hs' : Sm (rowP row) i u
      · rw [hit u hs']; omega
      · rw [miss u hs']
        exact h.all u hu j (by
          have : j ≠ i := fun e => hs' (e ▸ hs)
          omega) hs
    · by_cases hs' : Sm (rowP row) i u
      · rw [hit u hs', hit v (hs'.trans hs)]
      · rw [miss u hs', miss v fun x => hs' (x.trans (P.symm hu hs)), h.same u v hu hv hs]
  · rw [chase_stop (getD_some (by rw [h.len]; exact hi)) hneg]
    refine ⟨h.len, fun u hu h0 => ?_, fun u hu j hj hs => ?_, h.same⟩
    · obtain ⟨l, a, b, c⟩ := h.lab u hu h0
      exact ⟨l, a, by omega, c⟩
    · by_cases hji : j = i
      · subst hji
        rw [← h.same j u hi hu hs]; omega
      · exact h.all u hu j (by omega) hs
theorem rinv_end (hl : row.length = n) (P : Pm n (rowP row)) : RInv n (rowP row) n (ringsF row) := by
  have : ∀ i, i ≤ n → RInv n (rowP row) i ((List.range i).foldl (fun r k => chase row k row.length r k) (List.replicate row.length (-1))) := by
    intro i
    induction i with
    | zero =>
      intro _
      have hv : ∀ u, u < n → (List.replicate row.length (-1 : Int)).getD u 0 = -1 := fun u hu => by
        rw [List.getD_eq_getElem?_getD, List.getElem?_replicate, if_pos (by omega)]; rfl
      refine ⟨by rw [List.range_zero]; exact (List.length_replicate).trans hl, fun u hu h0 => ?_, fun u _ j hj => absurd hj (Nat.not_lt_zero _), fun u v hu hv' _ => ?_⟩
      · rw [List.range_zero] at h0
        rw [List.foldl_nil, hv u hu] at h0
        omega
      · rw [List.range_zero, List.foldl_nil, hv u hu, hv v hv']
    | succ i ih =>
      intro hi
      rw [foldl_range_succ]
      exact rinv_step hl P (by omega) (ih (by omega))
  have h := this n (Nat.le_refl _)
  unfold ringsF
  rw [hl] at h ⊢
  exact h
noncomputable def ringsN (row : List Nat) : List Nat := (ringsF row).map Int.toNat
theorem ringsN_length (row : List Nat) : (ringsN row).length = row.length := by unfold ringsN; rw [List.length_map, ringsF_length]
theorem rings_val (hl : row.length = n) (P : Pm n (rowP row)) {u : Nat} (hu : u < n) : (ringsF row).getD u 0 = ((ringsN row).getD u 0 : Nat) ∧ (ringsN row).getD u 0 < n := by
  have h := rinv_end hl P
  obtain ⟨l, a, b, _⟩ := h.lab u hu (h.all u hu u hu (Sm.refl _ u))
  have e : (ringsN row).getD u 0 = l := by
    unfold ringsN
    rw [List.getD_eq_getElem?_getD, List.getElem?_map, getD_some (by rw [h.len]; exact hu), a]; rfl
  rw [e, a]
  exact ⟨rfl, b⟩
theorem rings_sm (hl : row.length = n) (P : Pm n (rowP row)) {u v : Nat} (hu : u < n) (hv : v < n) : (ringsN row).getD u 0 = (ringsN row).getD v 0 ↔ Sm (rowP row) u v := by
  have h := rinv_end hl P
  have eu := (rings_val hl P hu).1
  have ev := (rings_val hl P hv).1
  constructor
  · intro e
    obtain ⟨l, a, b, c⟩ := h.lab u hu (h.all u hu u hu (Sm.refl _ u))
    obtain ⟨l', a', b', c'⟩ := h.lab v hv (h.all v hv v hv (Sm.refl _ v))
    have : l = l' := by omega
    subst this
    exact (P.symm b c).trans c'
  · intro s
    have := h.same u v hu hv s
    omega
theorem ringsN_lt (hl : row.length = n) (P : Pm n (rowP row)) : ∀ x ∈ ringsN row, x < n := fun x hx => by
  obtain ⟨u, hu, rfl⟩ := List.getElem_of_mem hx
  have := (rings_val hl P (u := u) (by rw [ringsN_length] at hu; omega)).2
  rwa [List.getD_eq_getElem?_getD, List.getElem?_eq_getElem hu] at this
theorem ringsN_zs (hl : row.length = n) (P : Pm n (rowP row)) : (ringsN row).map Int.ofNat = ringsF row := by
  apply List.ext_getElem?
  intro u
  by_cases hu : u < n
  · have := (rings_val hl P hu).1
    rw [List.getElem?_map, getD_some (by rw [ringsF_length]; omega), this, List.getElem?_eq_getElem (by rw [ringsN_length]; omega), List.getD_eq_getElem?_getD, List.getElem?_eq_getElem (by rw [ringsN_length]; omega)]
    rfl
  · rw [List.getElem?_eq_none (by rw [List.length_map, ringsN_length]; omega), List.getElem?_eq_none (by rw [ringsF_length]; omega)]
/-! parts -/
theorem relab_get {ps : List Nat} {k j u : Nat} (hu : u < ps.length) : (relab ps k j).getD u 0 = if ps.getD u 0 = ps.getD j 0 then ps.getD k 0 else ps.getD u 0 := by
  unfold relab
  rw [List.getD_eq_getElem?_getD, List.getElem?_map, List.getElem?_eq_getElem hu]
  show (if ps[u] = _ then _ else ps[u]) = _
  rw [show ps.getD u 0 = ps[u] by rw [List.getD_eq_getElem?_getD, List.getElem?_eq_getElem hu]; rfl]
theorem relab_keeps {ps : List Nat} {k j u v : Nat} (hu : u < ps.length) (hv : v < ps.length) (h : ps.getD u 0 = ps.getD v 0) : (relab ps k j).getD u 0 = (relab ps k j).getD v 0 := by
  rw [relab_get hu, relab_get hv, h]
theorem relab_joins {ps : List Nat} {k j : Nat} (hk : k < ps.length) (hj : j < ps.length) : (relab ps k j).getD k 0 = (relab ps k j).getD j 0 := by
  rw [relab_get hk, relab_get hj, if_pos rfl]
  split <;> rfl
theorem relab_sound {ps : List Nat} {k j : Nat} {C : Nat → Nat → Prop} (hl : ps.length = n) (e : Eqv n C) (hk : k < n) (hj : j < n) (c : C k j) (h : ∀ u v, u < n → v < n → ps.getD u 0 = ps.getD v 0 → C u v) :
    ∀ u v, u < n → v < n → (relab ps k j).getD u 0 = (relab ps k j).getD v 0 → C u v := by
  intro u v hu hv
  rw [relab_get (by omega), relab_get (by omega)]
  split <;> split
  · rename_i a b; intro _; exact h u v hu hv (a.trans b.symm)
  · rename_i a b; intro x; exact e.trans _ _ _ hu hk hv (e.trans _ _ _ hu hj hk (h u j hu hj a) (e.symm _ _ hk hj c)) (h k v hk hv x)
  · rename_i a b; intro x; exact e.trans _ _ _ hu hk hv (h u k hu hk x) (e.trans _ _ _ hk hj hv c (h j v hj hv b.symm))
  · intro x; exact h u v hu hv x
theorem parts_inv (hl : row.length = n) (he : n % 2 = 0) (P : Pm n (rowP row)) {C : Nat → Nat → Prop} (e : Eqv n C) (cp : ∀ k, k < n → C k (rowP row k)) (co : ∀ k, k < n → C k (oppN k)) : ∀ i, i ≤ n →
    (∀ u v, u < n → v < n → (partsTo row i).getD u 0 = (partsTo row i).getD v 0 → C u v) ∧ ∀ k, k < i → (partsTo row i).getD k 0 = (partsTo row i).getD (rowP row k) 0 ∧ (partsTo row i).getD k 0 = (partsTo row i).getD (oppN k) 0
  | 0, _ => by
    refine ⟨fun u v hu hv h => ?_, fun k h => absurd h (Nat.not_lt_zero _)⟩
    have g : ∀ u, u < n → (partsTo row 0).getD u 0 = u := fun u hu => by
      show (List.range row.length).getD u 0 = u
      rw [List.getD_eq_getElem?_getD, List.getElem?_range (by omega)]; rfl
    rw [g u hu, g v hv] at h
    subst h
    exact e.refl u hu
  | i + 1, hi => by
    obtain ⟨ih1, ih2⟩ := parts_inv hl he P e cp co i (by omega)
    have hlen : (partsTo row i).length = n := by rw [partsTo_length, hl]
    have es : partsTo row (i + 1) = relab (relab (partsTo row i) i (rowP row i)) i (oppN i) := by
      unfold partsTo
      rw [foldl_range_succ]
      rfl
    have hi' : i < n := by omega
    have hp := P.lt i hi'
    have ho := oppN_lt hi' he
    rw [es]
    have l1 : (relab (partsTo row i) i (rowP row i)).length = n := by rw [relab_length, hlen]
    refine ⟨relab_sound l1 e hi' ho (co i hi') (relab_sound hlen e hi' hp (cp i hi') ih1), fun k hk => ?_⟩
    have hkn : k < n := by omega
    by_cases hki : k = i
    · subst hki
      exact ⟨relab_keeps (by omega) (by omega) (relab_joins (by omega) (by omega)), relab_joins (by omega) (by omega)⟩
    · obtain ⟨h1, h2⟩ := ih2 k (by omega)
      have hpk := P.lt k hkn
      have hok := oppN_lt hkn he
      exact ⟨relab_keeps (by omega) (by omega) (relab_keeps (by omega) (by omega) h1), relab_keeps (by omega) (by omega) (relab_keeps (by omega) (by omega) h2)⟩
theorem Ct_mono {p : Nat → Nat} {a b : Nat} {t : Nat} : ∀ {d : Nat}, Ct p t a b → Ct p (t + d) a b
  | 0, h => h
  | d + 1, h => .inl (Ct_mono (d := d) h)
theorem parts_spec {f : Nat → Nat} (hl : row.length = n) (q : Pr n (rowP row) f) {u v : Nat} (hu : u < n) (hv : v < n) : (partsTo row n).getD u 0 = (partsTo row n).getD v 0 ↔ Ct (rowP row) (n / 2) u v := by
  have he := q.even
  have E := Ct_eqv q.pm (n / 2) (by omega)
  have cp : ∀ k, k < n → Ct (rowP row) (n / 2) k (rowP row k) := fun k _ => by
    have := Ct_mono (p := rowP row) (t := 0) (d := n / 2) (Sm.step (rowP row) k)
    rwa [Nat.zero_add] at this
  have ce : ∀ t, 2 * t < n → Ct (rowP row) (n / 2) (2 * t) (2 * t + 1) := fun t ht => by
    have h1 : Ct (rowP row) (t + 1) (2 * t) (2 * t + 1) := .inr (.inl ⟨(Ct_eqv q.pm t (by omega)).refl _ ht, (Ct_eqv q.pm t (by omega)).refl _ (by omega)⟩)
    have := Ct_mono (d := n / 2 - (t + 1)) h1
    rwa [show t + 1 + (n / 2 - (t + 1)) = n / 2 by omega] at this
  have co : ∀ k, k < n → Ct (rowP row) (n / 2) k (oppN k) := fun k hk => by
    rcases (by omega : k = 2 * (k / 2) ∨ k = 2 * (k / 2) + 1) with e | e
    · have := ce (k / 2) (by omega)
      rw [← e] at this
      rwa [show oppN k = k + 1 by unfold oppN; omega]
    · have := ce (k / 2) (by omega)
      rw [← e] at this
      rw [show oppN k = 2 * (k / 2) by unfold oppN; omega]
      exact E.symm _ _ (by omega) hk this
  obtain ⟨h1, h2⟩ := parts_inv hl he q.pm E cp co n (Nat.le_refl _)
  refine ⟨h1 u v hu hv, ?_⟩
  have key : ∀ t, 2 * t ≤ n → ∀ a b, a < n → b < n → Ct (rowP row) t a b → (partsTo row n).getD a 0 = (partsTo row n).getD b 0 := by
    intro t
    induction t with
    | zero =>
      rintro _ a b ha hb ⟨j, rfl⟩
      clear hb
      induction j with
      | zero => rfl
      | succ j ih => exact ih.trans (h2 _ (q.pm.it_lt ha j)).1
    | succ t ih =>
      intro ht a b ha hb
      have hxy := (h2 (2 * t) (by omega)).2
      rw [show oppN (2 * t) = 2 * t + 1 by unfold oppN; omega] at hxy
      rintro (g | ⟨g1, g2⟩ | ⟨g1, g2⟩)
      · exact ih (by omega) a b ha hb g
      · exact (ih (by omega) _ _ ha (by omega) g1).trans (hxy.trans (ih (by omega) _ _ (by omega) hb g2))
      · exact (ih (by omega) _ _ ha (by omega) g1).trans (hxy.symm.trans (ih (by omega) _ _ (by omega) hb g2))
  exact key (n / 2) (by omega) u v hu hv
end
/-! how many unlike labels -/
theorem ddp_snoc (l : List Nat) (x : Nat) : ddp (l ++ [x]) = if x ∈ ddp l then ddp l else ddp l ++ [x] := by
  unfold ddp
  rw [List.foldl_append]
  rfl
theorem ddp_count (lab : Nat → Nat) (P : Nat → Bool) : ∀ n, (ddp (((List.range n).filter P).map lab)).length = cnt n fun k => P k = true ∧ ∀ j, j < k → P j = true → ¬ lab j = lab k
  | 0 => rfl
  | n + 1 => by
    have ih := ddp_count lab P n
    unfold cnt
    rw [List.range_succ, List.filter_append]
    by_cases hp : P n = true
    · rw [List.filter_cons_of_pos hp, List.filter_nil, List.map_append, List.map_cons, List.map_nil, ddp_snoc]
      have hmem : lab n ∈ ddp (((List.range n).filter P).map lab) ↔ ∃ j, j < n ∧ P j = true ∧ lab j = lab n := by
        rw [show (lab n ∈ ddp (((List.range n).filter P).map lab)) ↔ _ from mem_ddp_iff (lab n) (((List.range n).filter P).map lab) []]
        simp only [List.not_mem_nil, false_or, List.mem_map, List.mem_filter, List.mem_range]
        exact ⟨fun ⟨j, ⟨a, b⟩, c⟩ => ⟨j, a, b, c⟩, fun ⟨j, a, b, c⟩ => ⟨j, ⟨a, b⟩, c⟩⟩
      by_cases hm : lab n ∈ ddp (((List.range n).filter P).map lab)
      · rw [if_pos hm, ih, if_neg fun h => (by obtain ⟨j, a, b, c⟩ := hmem.mp hm; exact h.2 j a b c)]
        rfl
      · rw [if_neg hm, List.length_append, ih, if_pos ⟨hp, fun j a b c => hm (hmem.mpr ⟨j, a, b, c⟩)⟩]
        rfl
    · rw [List.filter_cons_of_neg hp, List.filter_nil, List.append_nil, ih, if_neg fun h => hp h.1]; rfl
theorem ddp_cls {n : Nat} {E : Nat → Nat → Prop} (lab : Nat → Nat) (P : Nat → Bool) (h : ∀ a b, a < n → b < n → (lab a = lab b ↔ E a b)) : (ddp (((List.range n).filter P).map lab)).length = cls n (fun k => P k = true) E := by
  rw [ddp_count]
  exact cnt_congr fun k hk => ⟨fun ⟨a, b⟩ => ⟨a, fun j hj hp e => b j hj hp ((h j k (by omega) hk).mpr e)⟩, fun ⟨a, b⟩ => ⟨a, fun j hj hp e => b j hj hp ((h j k (by omega) hk).mp e)⟩⟩
theorem ddp_all {n : Nat} {E : Nat → Nat → Prop} {l : List Nat} (hl : l.length = n) (h : ∀ a b, a < n → b < n → (l.getD a 0 = l.getD b 0 ↔ E a b)) : (ddp l).length = cls n (fun _ => True) E := by
  have e : l = ((List.range n).filter fun _ => true).map fun k => l.getD k 0 := by
    rw [List.filter_eq_self.mpr fun _ _ => rfl]
    apply List.ext_getElem?
    intro i
    rw [List.getElem?_map]
    by_cases hi : i < n
    · rw [List.getElem?_range hi, List.getElem?_eq_getElem (by omega)]
      show some l[i] = some (l.getD i 0)
      rw [List.getD_eq_getElem?_getD, List.getElem?_eq_getElem (by omega)]; rfl
    · rw [List.getElem?_eq_none (by omega), List.getElem?_eq_none (by rw [List.length_range]; omega)]; rfl
  conv => lhs; rw [e]
  rw [ddp_cls _ _ h]
  exact cnt_congr fun k _ => by simp
theorem own_count (P : Nat → Bool) : ∀ t, (∀ i, i < t → (P (2 * i) = P (2 * i + 1))) → ((List.range (2 * t)).filter P).length = 2 * cnt t fun i => P (2 * i) = true
  | 0, _ => rfl
  | t + 1, h => by
    have ih := own_count P t fun i hi => h i (by omega)
    unfold cnt
    rw [show 2 * (t + 1) = 2 * t + 1 + 1 by omega, List.range_succ, List.range_succ, List.filter_append, List.filter_append, List.length_append, List.length_append, ih]
    by_cases hp : P (2 * t) = true
    · have hp' : P (2 * t + 1) = true := by rw [← h t (by omega)]; exact hp
      rw [List.filter_cons_of_pos hp, List.filter_cons_of_pos hp', if_pos hp]
      simp; omega
    · have hp' : ¬ P (2 * t + 1) = true := by rw [← h t (by omega)]; exact hp
      rw [List.filter_cons_of_neg hp, List.filter_cons_of_neg hp', if_neg hp]
      simp
/-- the law's last question -/
theorem even_all {n : Nat} {row frow : List Nat} (hl : row.length = n) (hlf : frow.length = n) (q : Pr n (rowP row) (rowP frow)) : ∀ c ∈ partsTo row row.length, evenB (ringsN row) (ringsN frow) (partsTo row row.length) row.length c := by
  intro c hc
  rw [hl] at hc ⊢
  obtain ⟨x, hx, rfl⟩ := List.getElem_of_mem hc
  have hplen : (partsTo row n).length = n := by rw [partsTo_length, hl]
  have hxn : x < n := by omega
  have he := q.even
  have gx : (partsTo row n).getD x 0 = (partsTo row n)[x] := by rw [List.getD_eq_getElem?_getD, List.getElem?_eq_getElem hx]; rfl
  have spec := fun {u v : Nat} (hu : u < n) (hv : v < n) => parts_spec hl q hu hv
  have step : ∀ k, k < n → (partsTo row n).getD k 0 = (partsTo row n).getD (rowP row k) 0 := fun k hk => (spec hk (q.pm.lt k hk)).mpr (by
    have := Ct_mono (p := rowP row) (t := 0) (d := n / 2) (Sm.step (rowP row) k)
    rwa [Nat.zero_add] at this)
  have opp2 : ∀ t, 2 * t < n → (partsTo row n).getD (2 * t) 0 = (partsTo row n).getD (2 * t + 1) 0 := fun t ht => (spec ht (by omega)).mpr (by
    have h1 : Ct (rowP row) (t + 1) (2 * t) (2 * t + 1) := .inr (.inl ⟨(Ct_eqv q.pm t (by omega)).refl _ ht, (Ct_eqv q.pm t (by omega)).refl _ (by omega)⟩)
    have := Ct_mono (d := n / 2 - (t + 1)) h1
    rwa [show t + 1 + (n / 2 - (t + 1)) = n / 2 by omega] at this)
  have oppk : ∀ k, k < n → (partsTo row n).getD k 0 = (partsTo row n).getD (oppN k) 0 := fun k hk => by
    rcases (by omega : k = 2 * (k / 2) ∨ k = 2 * (k / 2) + 1) with e | e
    · have := opp2 (k / 2) (by omega)
      rw [← e] at this
      rw [show oppN k = k + 1 by unfold oppN; omega]
      rw [this]
    · have := opp2 (k / 2) (by omega)
      rw [← e] at this
      rw [show oppN k = 2 * (k / 2) by unfold oppN; omega]
      exact this.symm
  let P : Nat → Bool := fun k => decide ((partsTo row n).getD k 0 = (partsTo row n)[x])
  have hP : ∀ k, P k = true ↔ (partsTo row n).getD k 0 = (partsTo row n)[x] := fun k => decide_eq_true_iff
  have c1 : (ddp ((ownF (partsTo row n) n (partsTo row n)[x]).map fun k => (ringsN row).getD k 0)).length = cls n (fun k => P k = true) (Sm (rowP row)) :=
    ddp_cls (fun k => (ringsN row).getD k 0) P fun a b ha hb => rings_sm hl q.pm ha hb
  have c2 : (ddp ((ownF (partsTo row n) n (partsTo row n)[x]).map fun k => (ringsN frow).getD k 0)).length = cls n (fun k => P k = true) (Sm (rowP frow)) :=
    ddp_cls (fun k => (ringsN frow).getD k 0) P fun a b ha hb => rings_sm hlf q.fm ha hb
  have c3 : (ownF (partsTo row n) n (partsTo row n)[x]).length = 2 * cnt (n / 2) fun i => P (2 * i) = true := by
    have := own_count P (n / 2) fun i hi => by
      have h2 := opp2 i (by omega)
      show decide _ = decide _
      rw [h2]
    rw [show 2 * (n / 2) = n by omega] at this
    exact this
  obtain ⟨d, hd⟩ := euler_part (P := fun k => P k = true) q (fun a ha hp => (hP _).mpr ((step a ha).symm.trans ((hP a).mp hp))) (fun a ha hp => (hP _).mpr ((oppk a ha).symm.trans ((hP a).mp hp))) hxn ((hP x).mpr gx)
    (fun a b ha hb pa pb => (spec ha hb).mp (((hP a).mp pa).trans ((hP b).mp pb).symm))
  unfold evenB
  rw [c1, c2, c3]
  constructor <;> omega

/-! the links' rows -/
section
variable {ι : Type} {R o : ι → ι} {es : List ι}
open Classical in
noncomputable def ix (es : List ι) (k : ι) : Nat := if h : ∃ i : Nat, es[i]? = some k then h.choose else 0
theorem ix_get {k : ι} (h : k ∈ es) : es[ix es k]? = some k := by
  have h := List.mem_iff_getElem?.mp h
  unfold ix
  rw [dif_pos h]
  exact h.choose_spec
theorem ix_lt {k : ι} (h : k ∈ es) : ix es k < es.length := (List.getElem?_eq_some_iff.mp (ix_get h)).1
theorem ix_eq (nd : es.Nodup) {k : ι} {i : Nat} (h : es[i]? = some k) : ix es k = i := nodup_two nd (ix_get (List.mem_of_getElem? h)) h
theorem ix_inj {a b : ι} (ha : a ∈ es) (hb : b ∈ es) (h : ix es a = ix es b) : a = b := by
  have h1 := ix_get ha
  rw [h, ix_get hb] at h1
  exact (Option.some.inj h1).symm
noncomputable def rowS (o : ι → ι) (es : List ι) : List Nat := es.map fun k => ix es (o k)
noncomputable def rowF (R o : ι → ι) (es : List ι) : List Nat := es.map fun k => ix es (R (o (R (R (R k)))))
theorem rowS_len : (rowS o es).length = es.length := List.length_map _
theorem rowF_len : (rowF R o es).length = es.length := List.length_map _
theorem rowS_get {i : Nat} {k : ι} (h : es[i]? = some k) : (rowS o es)[i]? = some (ix es (o k)) := by unfold rowS; rw [List.getElem?_map, h]; rfl
theorem rowF_get {i : Nat} {k : ι} (h : es[i]? = some k) : (rowF R o es)[i]? = some (ix es (R (o (R (R (R k)))))) := by unfold rowF; rw [List.getElem?_map, h]; rfl
theorem rowP_some {row : List Nat} {i d : Nat} (h : row[i]? = some d) : rowP row i = d := by unfold rowP; rw [List.getD_eq_getElem?_getD, h]; rfl
theorem rowS_P {i : Nat} {k : ι} (h : es[i]? = some k) : rowP (rowS o es) i = ix es (o k) := rowP_some (rowS_get h)
theorem rowF_P {i : Nat} {k : ι} (h : es[i]? = some k) : rowP (rowF R o es) i = ix es (R (o (R (R (R k))))) := rowP_some (rowF_get h)
theorem at_lt {i : Nat} (h : i < es.length) : ∃ k, es[i]? = some k ∧ k ∈ es := ⟨es[i], List.getElem?_eq_getElem h, List.getElem_mem h⟩
theorem QS.pr (q : QS R o es) : Pr es.length (rowP (rowS o es)) (rowP (rowF R o es)) := by
  refine ⟨q.even, ⟨fun i hi => ?_, fun i j hi hj e => ?_⟩, fun i hi => ?_, fun i hi => ?_⟩
  · obtain ⟨k, hk, hm⟩ := at_lt hi
    rw [rowS_P hk]; exact ix_lt (q.oin k hm)
  · obtain ⟨k, hk, hm⟩ := at_lt hi
    obtain ⟨k', hk', hm'⟩ := at_lt hj
    rw [rowS_P hk, rowS_P hk'] at e
    have := q.oinj (ix_inj (q.oin k hm) (q.oin k' hm') e)
    subst this
    exact nodup_two q.nd hk hk'
  · obtain ⟨k, hk, hm⟩ := at_lt hi
    rw [rowF_P hk]; exact ix_lt (q.face_in hm)
  · obtain ⟨k, hk, hm⟩ := at_lt hi
    rw [rowF_P hk, rowS_P (ix_get (q.face_in hm)), q.inv (R (R k))]
    exact ix_eq q.nd (q.opp i k hk)
theorem QS.hs (q : QS R o es) (i : Nat) (k : ι) (h : es[i]? = some k) : ∃ d, (rowS o es)[i]? = some d ∧ es[d]? = some (o k) := ⟨_, rowS_get h, ix_get (q.oin k (List.mem_of_getElem? h))⟩
theorem QS.hf (q : QS R o es) (i : Nat) (k : ι) (h : es[i]? = some k) : ∃ d, (rowF R o es)[i]? = some d ∧ es[d]? = some (R (o (R (R (R k))))) := ⟨_, rowF_get h, ix_get (q.face_in (List.mem_of_getElem? h))⟩
/-! splice -/
theorem spl_in (q : QS R o es) {i j x : ι} (hi : i ∈ es) (hj : j ∈ es) (hx : x ∈ es) : spl R o i j x = put (put o i (o j)) j (o i) x := by
  have ha : x ≠ R (o i) := fun e => q.flip _ (q.oin i hi) (e ▸ hx)
  have hb : x ≠ R (o j) := fun e => q.flip _ (q.oin j hj) (e ▸ hx)
  unfold spl
  rw [put_ne _ _ hb, put_ne _ _ ha]
theorem spl_l (q : QS R o es) {i j : ι} (hi : i ∈ es) (hj : j ∈ es) : spl R o i j i = o j := by
  rw [spl_in q hi hj hi]
  by_cases h : i = j
  · subst h; rw [put_self]
  · rw [put_ne _ _ h, put_self]
theorem spl_r (q : QS R o es) {i j : ι} (hi : i ∈ es) (hj : j ∈ es) : spl R o i j j = o i := by rw [spl_in q hi hj hj, put_self]
theorem spl_o (q : QS R o es) {i j x : ι} (hi : i ∈ es) (hj : j ∈ es) (hx : x ∈ es) (h1 : x ≠ i) (h2 : x ≠ j) : spl R o i j x = o x := by rw [spl_in q hi hj hx, put_ne _ _ h2, put_ne _ _ h1]
theorem spl_one (q : QS R o es) {i j x : ι} (hi : i ∈ es) (hj : j ∈ es) (hx : x ∉ es) : put (put o i (o j)) j (o i) x = o x := by
  have h1 : x ≠ j := fun e => hx (by rw [e]; exact hj)
  have h2 : x ≠ i := fun e => hx (by rw [e]; exact hi)
  rw [put_ne _ _ h1, put_ne _ _ h2]
theorem spl_b (q : QS R o es) {i j : ι} (hi : i ∈ es) (hj : j ∈ es) : spl R o i j (R (o j)) = o (R (o i)) := by
  unfold spl
  rw [put_self, spl_one q hi hj (q.flip _ (q.oin i hi))]
theorem spl_a (q : QS R o es) {i j : ι} (hi : i ∈ es) (hj : j ∈ es) : spl R o i j (R (o i)) = o (R (o j)) := by
  by_cases h : R (o i) = R (o j)
  · rw [h, spl_b q hi hj, h]
  · unfold spl
    rw [put_ne _ _ h, put_self, spl_one q hi hj (q.flip _ (q.oin j hj))]
theorem spl_d (q : QS R o es) {i j x : ι} (hi : i ∈ es) (hj : j ∈ es) (hx : x ∉ es) (h1 : x ≠ R (o i)) (h2 : x ≠ R (o j)) : spl R o i j x = o x := by
  unfold spl
  rw [put_ne _ _ h2, put_ne _ _ h1, spl_one q hi hj hx]
theorem spl_same (q : QS R o es) {i : ι} (hi : i ∈ es) : spl R o i i = o := by
  funext x
  by_cases hx : x ∈ es
  · by_cases h : x = i
    · subst h; exact spl_l q hi hi
    · exact spl_o q hi hi hx h h
  · by_cases h : x = R (o i)
    · subst h; exact spl_a q hi hi
    · exact spl_d q hi hi hx h h
theorem QS.splice (q : QS R o es) {i j : ι} (hi : i ∈ es) (hj : j ∈ es) : QS R (spl R o i j) es := by
  refine ⟨q.nd, q.r4, fun k => ?_, q.opp, q.flip, q.cov, fun x hx => ?_, fun x hx => ?_, q.even⟩
  · by_cases hk : R k ∈ es
    · by_cases h1 : R k = i
      · subst h1
        rw [spl_l q hi hj, spl_b q hi hj, q.inv]
      · by_cases h2 : R k = j
        · subst h2
          rw [spl_r q hi hj, spl_a q hi hj, q.inv]
        · rw [spl_o q hi hj hk h1 h2, spl_d q hi hj (q.flip _ (q.oin _ hk)) (fun e => h1 (q.oinj (q.rinj e))) (fun e => h2 (q.oinj (q.rinj e))), q.inv]
    · by_cases h1 : R k = R (o i)
      · obtain rfl := q.rinj h1
        rw [spl_a q hi hj, q.inv2, spl_r q hi hj]
      · by_cases h2 : R k = R (o j)
        · obtain rfl := q.rinj h2
          rw [spl_b q hi hj, q.inv2, spl_l q hi hj]
        · rw [spl_d q hi hj hk h1 h2, spl_o q hi hj (q.din (q.oout _ hk)) (fun e => h1 (by rw [← e, q.inv])) (fun e => h2 (by rw [← e, q.inv])), q.inv]
  · by_cases h1 : x = i
    · subst h1; rw [spl_l q hi hj]; exact q.oin _ hj
    · by_cases h2 : x = j
      · subst h2; rw [spl_r q hi hj]; exact q.oin _ hi
      · rw [spl_o q hi hj hx h1 h2]; exact q.oin _ hx
  · by_cases h1 : x = R (o i)
    · subst h1; rw [spl_a q hi hj]; exact q.oout _ (q.flip _ (q.oin _ hj))
    · by_cases h2 : x = R (o j)
      · subst h2; rw [spl_b q hi hj]; exact q.oout _ (q.flip _ (q.oin _ hi))
      · rw [spl_d q hi hj hx h1 h2]; exact q.oout _ hx
theorem splice_row (q : QS R o es) {i j : ι} {a b : Nat} (ha : es[a]? = some i) (hb : es[b]? = some j) : ∀ t, t < es.length → rowP (rowS (spl R o i j) es) t = sw (rowP (rowS o es)) a b t := by
  intro t ht
  have hi := List.mem_of_getElem? ha
  have hj := List.mem_of_getElem? hb
  obtain ⟨x, hx, hm⟩ := at_lt ht
  rw [rowS_P hx]
  by_cases h1 : t = a
  · subst h1
    rw [hx] at ha
    obtain rfl := Option.some.inj ha
    rw [sw_l, spl_l q hi hj, rowS_P hb]
  · by_cases h2 : t = b
    · subst h2
      rw [hx] at hb
      obtain rfl := Option.some.inj hb
      rw [sw_r, spl_r q hi hj, rowS_P ha]
    · rw [sw_o _ h1 h2, spl_o q hi hj hm (fun e => h1 (nodup_two q.nd (e ▸ hx) ha)) (fun e => h2 (nodup_two q.nd (e ▸ hx) hb)), rowS_P hx]
/-- links that agree upon the edges agree everywhere -/
theorem QS.ext {ι' : Type} {R' o' : ι' → ι'} {es' : List ι'} (q : QS R o es) (q' : QS R' o' es') (e : ι → ι') (hR : ∀ k, R' (e k) = e (R k)) (h : ∀ k, k ∈ es → o' (e k) = e (o k)) (k : ι) : o' (e k) = e (o k) := by
  by_cases hk : k ∈ es
  · exact h k hk
  · -- k's turned one is an edge; x leads to it
    have h1 : R (o k) ∈ es := q.din (q.oout _ hk)
    have h2 := h _ h1
    -- o' (e (R (o k))) = e (o (R (o k)))
    have h3 : R' (o' (e (R (o k)))) = e k := by rw [h2, hR, q.inv2]
    have h5 := q'.inv (e (o k))
    rw [hR, h3] at h5
    exact h5
theorem splice_back (q : QS R o es) {i j : ι} (hi : i ∈ es) (hj : j ∈ es) : spl R (spl R o i j) i j = o := by
  funext k
  refine QS.ext q ((q.splice hi hj).splice hi hj) id (fun _ => rfl) (fun x hx => ?_) k
  show spl R (spl R o i j) i j x = o x
  have q1 := q.splice hi hj
  by_cases h1 : x = i
  · subst h1; rw [spl_l q1 hi hj, spl_r q hi hj]
  · by_cases h2 : x = j
    · subst h2; rw [spl_r q1 hi hj, spl_l q hi hj]
    · rw [spl_o q1 hi hj hx h1 h2, spl_o q hi hj hx h1 h2]
end

/-! what a deed does to rings and faces -/
theorem rising_range : ∀ (l : List Nat) (k : Nat), l.Pairwise (· < ·) → (∀ x ∈ l, k ≤ x ∧ x < k + l.length) → l = List.range' k l.length
  | [], _, _, _ => rfl
  | a :: r, k, h, hb => by
    obtain ⟨h1, h2⟩ := List.pairwise_cons.mp h
    have ha := hb a (.head _)
    have ih := rising_range r (k + 1) h2 fun x hx => by
      have := hb x (.tail _ hx)
      have := h1 x hx
      rw [List.length_cons] at *
      omega
    have hak : a = k := by
      cases r with
      | nil => rw [List.length_cons, List.length_nil] at ha; omega
      | cons b r =>
        have hbk : b = k + 1 := by
          rw [List.length_cons, List.range'_succ] at ih
          exact (List.cons.inj ih).1
        have := h1 b (.head _)
        omega
    rw [List.length_cons, List.range'_succ, hak, ← ih]
theorem sorted_range {l ys : List Nat} {n : Nat} (nd : l.Nodup) (hlt : ∀ x ∈ l, x < n) (hl : l.length = n) (hp : ys.Perm l) (hs : ys.Pairwise (· ≤ ·)) : ys = List.range n := by
  have nd' : ys.Nodup := hp.symm.nodup nd
  have hs' : ys.Pairwise (· < ·) := (hs.and nd').imp fun ⟨a, b⟩ => Nat.lt_of_le_of_ne a b
  have e := rising_range ys 0 hs' fun x hx => ⟨Nat.zero_le _, by rw [Nat.zero_add, hp.length_eq, hl]; exact hlt x (hp.mem_iff.mp hx)⟩
  rw [e, hp.length_eq, hl, List.range_eq_range']
section
variable {ι : Type} {R o : ι → ι} {es : List ι}
theorem rowS_lt (q : QS R o es) : ∀ x ∈ rowS o es, x < (rowS o es).length := fun x hx => by
  obtain ⟨k, hk, rfl⟩ := List.mem_map.mp hx
  rw [rowS_len]; exact ix_lt (q.oin k hk)
theorem rowF_lt (q : QS R o es) : ∀ x ∈ rowF R o es, x < (rowF R o es).length := fun x hx => by
  obtain ⟨k, hk, rfl⟩ := List.mem_map.mp hx
  rw [rowF_len]; exact ix_lt (q.face_in hk)
theorem rowS_nd (q : QS R o es) : (rowS o es).Nodup := by
  refine List.pairwise_map.mpr (List.Pairwise.imp_of_mem (fun {a b} ha hb h e => h ?_) q.nd)
  exact q.oinj (ix_inj (q.oin a ha) (q.oin b hb) e)
theorem rowF_nd (q : QS R o es) : (rowF R o es).Nodup := by
  refine List.pairwise_map.mpr (List.Pairwise.imp_of_mem (fun {a b} ha hb h e => h ?_) q.nd)
  exact q.rinj (q.rinj (q.rinj (q.oinj (q.rinj (ix_inj (q.face_in ha) (q.face_in hb) e)))))
theorem rowS_sorted (q : QS R o es) {ys : List Nat} (hp : ys.Perm (rowS o es)) (hs : ys.Pairwise (· ≤ ·)) : ys = List.range es.length := sorted_range (rowS_nd q) (fun x hx => by have := rowS_lt q x hx; rwa [rowS_len] at this) rowS_len hp hs
theorem rowF_sorted (q : QS R o es) {ys : List Nat} (hp : ys.Perm (rowF R o es)) (hs : ys.Pairwise (· ≤ ·)) : ys = List.range es.length := sorted_range (rowF_nd q) (fun x hx => by have := rowF_lt q x hx; rwa [rowF_len] at this) rowF_len hp hs
theorem rowS_pm (q : QS R o es) : Pm (rowS o es).length (rowP (rowS o es)) := by rw [rowS_len]; exact q.pr.pm
theorem rowF_pm (q : QS R o es) : Pm (rowF R o es).length (rowP (rowF R o es)) := by rw [rowF_len]; exact q.pr.fm
theorem ringsS_lt (q : QS R o es) (h : es.length ≤ 12) : (∀ x ∈ ringsN (rowS o es), x < 12) ∧ (ringsN (rowS o es)).length = es.length :=
  ⟨fun x hx => Nat.lt_of_lt_of_le (ringsN_lt rowS_len q.pr.pm x hx) h, by rw [ringsN_length, rowS_len]⟩
theorem ringsF_lt (q : QS R o es) (h : es.length ≤ 12) : (∀ x ∈ ringsN (rowF R o es), x < 12) ∧ (ringsN (rowF R o es)).length = es.length :=
  ⟨fun x hx => Nat.lt_of_lt_of_le (ringsN_lt rowF_len q.pr.fm x hx) h, by rw [ringsN_length, rowF_len]⟩
theorem zS (q : QS R o es) : (ddp (ringsN (rowS o es))).length = cls es.length (fun _ => True) (Sm (rowP (rowS o es))) := ddp_all (by rw [ringsN_length, rowS_len]) fun _ _ ha hb => rings_sm rowS_len q.pr.pm ha hb
theorem zF (q : QS R o es) : (ddp (ringsN (rowF R o es))).length = cls es.length (fun _ => True) (Sm (rowP (rowF R o es))) := ddp_all (by rw [ringsN_length, rowF_len]) fun _ _ ha hb => rings_sm rowF_len q.pr.fm ha hb
theorem even_rows (q : QS R o es) : ∀ c ∈ partsTo (rowS o es) (rowS o es).length, evenB (ringsN (rowS o es)) (ringsN (rowF R o es)) (partsTo (rowS o es) (rowS o es).length) (rowS o es).length c := even_all rowS_len rowF_len q.pr
end
/-! a swap -/
theorem cls_sw {n : Nat} {p : Nat → Nat} (P : Pm n p) {x y : Nat} (hx : x < n) (hy : y < n) (hne : x ≠ y) :
    (Sm p x y ∧ cls n (fun _ => True) (Sm (sw p x y)) = cls n (fun _ => True) (Sm p) + 1) ∨ (¬ Sm p x y ∧ cls n (fun _ => True) (Sm (sw p x y)) + 1 = cls n (fun _ => True) (Sm p)) := by
  by_cases h : Sm p x y
  · exact .inl ⟨h, cls_more P (fun _ _ _ => trivial) hx hy trivial trivial hne h⟩
  · exact .inr ⟨h, (cls_less P (fun _ _ _ => trivial) hx hy trivial trivial h).symm⟩
theorem cls_eq {n : Nat} {p q : Nat → Nat} (P : Pm n p) (h : ∀ k, k < n → q k = p k) : cls n (fun _ => True) (Sm q) = cls n (fun _ => True) (Sm p) := cls_congr fun _ _ ha _ _ _ => sm_congr P h ha
/-- the faces of a splice -/
theorem face_sw {n : Nat} {p f p' f' : Nat → Nat} (q : Pr n p f) (q' : Pr n p' f') {a b : Nat} (ha : a < n) (hb : b < n) (h : ∀ t, t < n → p' t = sw p a b t) : ∀ t, t < n → f' t = sw f (oppN (p a)) (oppN (p b)) t := by
  intro t ht
  have hx := oppN_lt (q.pm.lt a ha) q.even
  have hy := oppN_lt (q.pm.lt b hb) q.even
  have fx : f (oppN (p a)) = a := q.inv_p ha
  have fy : f (oppN (p b)) = b := q.inv_p hb
  refine q'.pm.inj _ _ (q'.fl t ht) ((q.fm.sw hx hy).lt t ht) ?_
  rw [q'.pf t ht]
  by_cases h1 : t = oppN (p a)
  · subst h1
    rw [sw_l, fy, h b hb, sw_r, opp_opp]
  · by_cases h2 : t = oppN (p b)
    · subst h2
      rw [sw_r, fx, h a ha, sw_l, opp_opp]
    · rw [sw_o _ h1 h2, h _ (q.fl t ht), sw_o _ (fun e => h1 (q.fm.inj _ _ ht hx (e.trans fx.symm))) (fun e => h2 (q.fm.inj _ _ ht hy (e.trans fy.symm))), q.pf t ht]
section
variable {ι : Type} {R o : ι → ι} {es : List ι}
theorem splice_turn (q : QS R o es) {i j : ι} {a b : Nat} (ha : es[a]? = some i) (hb : es[b]? = some j) (hne : a ≠ b) :
    ((ddp (ringsN (rowS (spl R o i j) es))).length = (ddp (ringsN (rowS o es))).length + 1 ∨ (ddp (ringsN (rowS (spl R o i j) es))).length + 1 = (ddp (ringsN (rowS o es))).length) ∧
    ((ddp (ringsN (rowF R (spl R o i j) es))).length = (ddp (ringsN (rowF R o es))).length + 1 ∨ (ddp (ringsN (rowF R (spl R o i j) es))).length + 1 = (ddp (ringsN (rowF R o es))).length) := by
  have hi := List.mem_of_getElem? ha
  have hj := List.mem_of_getElem? hb
  have q' := q.splice hi hj
  have la := (List.getElem?_eq_some_iff.mp ha).1
  have lb := (List.getElem?_eq_some_iff.mp hb).1
  have hp := splice_row q ha hb
  have hf := face_sw q.pr q'.pr la lb hp
  rw [zS q, zS q', zF q, zF q', cls_eq (q.pr.pm.sw la lb) hp, cls_eq (q.pr.fm.sw (oppN_lt (q.pr.pm.lt a la) q.even) (oppN_lt (q.pr.pm.lt b lb) q.even)) hf]
  constructor
  · rcases cls_sw q.pr.pm la lb hne with ⟨_, h⟩ | ⟨_, h⟩
    · exact .inl h
    · exact .inr h
  · rcases cls_sw q.pr.fm (oppN_lt (q.pr.pm.lt a la) q.even) (oppN_lt (q.pr.pm.lt b lb) q.even) (fun e => hne (q.pr.pm.inj _ _ la lb (opp_inj e))) with ⟨_, h⟩ | ⟨_, h⟩
    · exact .inl h
    · exact .inr h
end

/-! a new edge -/
theorem it_stays {n : Nat} {p p0 : Nat → Nat} (P : Pm n p) (e : ∀ t, t < n → p0 t = p t) {x : Nat} (hx : x < n) : ∀ j, it p0 j x = it p j x
  | 0 => rfl
  | j + 1 => by
    show p0 (it p0 j x) = p (it p j x)
    rw [it_stays P e hx j, e _ (P.it_lt hx j)]
theorem sm_stays {n : Nat} {p p0 : Nat → Nat} (P : Pm n p) (e : ∀ t, t < n → p0 t = p t) {a b : Nat} (ha : a < n) : Sm p0 a b ↔ Sm p a b :=
  ⟨fun ⟨j, h⟩ => ⟨j, by rw [← it_stays P e ha j]; exact h⟩, fun ⟨j, h⟩ => ⟨j, by rw [it_stays P e ha j]; exact h⟩⟩
theorem it_fix {p : Nat → Nat} {x : Nat} (h : p x = x) : ∀ j, it p j x = x
  | 0 => rfl
  | j + 1 => by
    show p (it p j x) = x
    rw [it_fix h j, h]
theorem it_two {p : Nat → Nat} {x y : Nat} (h : p x = y) (h' : p y = x) : ∀ j, it p j x = x ∨ it p j x = y
  | 0 => .inl rfl
  | j + 1 => by
    show p (it p j x) = x ∨ p (it p j x) = y
    rcases it_two h h' j with e | e <;> rw [e]
    · exact .inr h
    · exact .inl h'
theorem cls_two {n : Nat} {p p0 : Nat → Nat} (P : Pm n p) (e : ∀ t, t < n → p0 t = p t) :
    cls (n + 2) (fun _ => True) (Sm p0) = cls n (fun _ => True) (Sm p) + @ite _ (∀ j, j < n → ¬ Sm p0 j n) (Classical.propDecidable _) 1 0 + @ite _ (∀ j, j < n + 1 → ¬ Sm p0 j (n + 1)) (Classical.propDecidable _) 1 0 := by
  have h1 : cnt n (fun k => True ∧ ∀ j, j < k → True → ¬ Sm p0 j k) = cls n (fun _ => True) (Sm p) :=
    cnt_congr fun k hk => ⟨fun ⟨_, h⟩ => ⟨trivial, fun j hj _ s => h j hj trivial ((sm_stays P e (by omega)).mpr s)⟩, fun ⟨_, h⟩ => ⟨trivial, fun j hj _ s => h j hj trivial ((sm_stays P e (by omega)).mp s)⟩⟩
  show cnt n (fun k => True ∧ ∀ j, j < k → True → ¬ Sm p0 j k) + _ + _ = _
  rw [h1]
  have h2 : (True ∧ ∀ j, j < n → True → ¬ Sm p0 j n) ↔ ∀ j, j < n → ¬ Sm p0 j n := ⟨fun h j hj => h.2 j hj trivial, fun h => ⟨trivial, fun j hj _ => h j hj⟩⟩
  have h3 : (True ∧ ∀ j, j < n + 1 → True → ¬ Sm p0 j (n + 1)) ↔ ∀ j, j < n + 1 → ¬ Sm p0 j (n + 1) := ⟨fun h j hj => h.2 j hj trivial, fun h => ⟨trivial, fun j hj _ => h j hj⟩⟩
  congr 1
  · congr 1
    by_cases g : ∀ j, j < n → ¬ Sm p0 j n
    · rw [if_pos g, if_pos (h2.mpr g)]
    · rw [if_neg g, if_neg fun x => g (h2.mp x)]
  · by_cases g : ∀ j, j < n + 1 → ¬ Sm p0 j (n + 1)
    · rw [if_pos g, if_pos (h3.mpr g)]
    · rw [if_neg g, if_neg fun x => g (h3.mp x)]
theorem conn_cls {n : Nat} {p f p0 f0 p1 f1 p2 f2 : Nat → Nat} (q : Pr n p f) (q0 : Pr (n + 2) p0 f0) (q1 : Pr (n + 2) p1 f1) (q2 : Pr (n + 2) p2 f2) (e0 : ∀ t, t < n → p0 t = p t) (en : p0 n = n) (en1 : p0 (n + 1) = n + 1)
    {a b : Nat} (ha : a < n) (hb : b < n) (h1 : ∀ t, t < n + 2 → p1 t = sw p0 n (f a) t) (h2 : ∀ t, t < n + 2 → p2 t = sw p1 (n + 1) b t) :
    cls (n + 2) (fun _ => True) (Sm p2) = cls n (fun _ => True) (Sm p) ∧ (Sm f a b → cls (n + 2) (fun _ => True) (Sm f2) = cls n (fun _ => True) (Sm f) + 1) ∧ (¬ Sm f a b → cls (n + 2) (fun _ => True) (Sm f2) + 1 = cls n (fun _ => True) (Sm f)) := by
  have he := q.even
  have on : oppN n = n + 1 := by unfold oppN; omega
  have on1 : oppN (n + 1) = n := by unfold oppN; omega
  have hfa := q.fl a ha
  have n0 : n < n + 2 := Nat.lt_add_of_pos_right (by decide)
  have n1 : n + 1 < n + 2 := Nat.lt_succ_self _
  have lt2 : ∀ {u}, u < n → u < n + 2 := fun h => Nat.lt_add_right 2 h
  have a2 := lt2 ha
  have b2 := lt2 hb
  have fa2 := lt2 hfa
  have na : n + 1 ≠ a := Nat.ne_of_gt (Nat.lt_succ_of_lt ha)
  have nb : n + 1 ≠ b := Nat.ne_of_gt (Nat.lt_succ_of_lt hb)
  have nfa : n ≠ f a := Nat.ne_of_gt hfa
  have nn : n + 1 ≠ n := Nat.succ_ne_self n
  -- the rings
  have A0 := cls_two q.pm e0
  rw [if_pos (fun j hj ⟨t, h⟩ => by rw [it_stays q.pm e0 hj t] at h; have := q.pm.it_lt hj t; omega),
    if_pos (fun j hj ⟨t, h⟩ => by
      by_cases hjn : j = n
      · subst hjn; rw [it_fix en t] at h; omega
      · rw [it_stays q.pm e0 (by omega) t] at h; have := q.pm.it_lt (x := j) (by omega) t; omega)] at A0
  have nB : ¬ Sm p0 n (f a) := fun ⟨t, h⟩ => by rw [it_fix en t] at h; omega
  have B0 : cls (n + 2) (fun _ => True) (Sm p1) + 1 = cls (n + 2) (fun _ => True) (Sm p0) := by
    rw [cls_eq (q0.pm.sw n0 fa2) h1]
    rcases cls_sw q0.pm (x := n) (y := f a) n0 fa2 nfa with ⟨g, _⟩ | ⟨_, g⟩
    · exact absurd g nB
    · exact g
  have p1n1 : p1 (n + 1) = n + 1 := by rw [h1 _ n1, sw_o _ nn (Nat.ne_of_gt (Nat.lt_succ_of_lt hfa)), en1]
  have nC : ¬ Sm p1 (n + 1) b := fun ⟨t, h⟩ => by rw [it_fix p1n1 t] at h; omega
  have C0 : cls (n + 2) (fun _ => True) (Sm p2) + 1 = cls (n + 2) (fun _ => True) (Sm p1) := by
    rw [cls_eq (q1.pm.sw n1 b2) h2]
    rcases cls_sw q1.pm (x := n + 1) (y := b) n1 b2 nb with ⟨g, _⟩ | ⟨_, g⟩
    · exact absurd g nC
    · exact g
  refine ⟨by omega, ?_⟩
  -- the faces
  have f0t : ∀ t, t < n → f0 t = f t := fun t ht => q0.pm.inj _ _ (q0.fl t (lt2 ht)) (lt2 (q.fl t ht)) (by rw [q0.pf t (lt2 ht), e0 _ (q.fl t ht), q.pf t ht])
  have f0n : f0 n = n + 1 := q0.pm.inj _ _ (q0.fl n n0) n1 (by rw [q0.pf n n0, on, en1])
  have f0n1 : f0 (n + 1) = n := q0.pm.inj _ _ (q0.fl _ n1) n0 (by rw [q0.pf _ n1, on1, en])
  have D0 := cls_two q.fm f0t
  rw [if_pos (fun j hj ⟨t, h⟩ => by rw [it_stays q.fm f0t hj t] at h; have := q.fm.it_lt hj t; omega),
    if_neg (fun h => h n (Nat.lt_succ_self n) ⟨1, f0n⟩)] at D0
  have x1 : oppN (p0 n) = n + 1 := by rw [en, on]
  have y1 : oppN (p0 (f a)) = a := by rw [e0 _ hfa, q.pf a ha, opp_opp]
  have hf1 := face_sw q0 q1 (a := n) (b := f a) n0 fa2 h1
  rw [x1, y1] at hf1
  have out1 : ∀ {u}, u < n → ¬ Sm f0 (n + 1) u := fun hu ⟨t, h⟩ => by rcases it_two f0n1 f0n t with e | e <;> omega
  have out0 : ∀ {u}, u < n → ¬ Sm f0 n u := fun hu ⟨t, h⟩ => by rcases it_two f0n f0n1 t with e | e <;> omega
  have E0 : cls (n + 2) (fun _ => True) (Sm f1) + 1 = cls (n + 2) (fun _ => True) (Sm f0) := by
    rw [cls_eq (q0.fm.sw n1 a2) hf1]
    rcases cls_sw q0.fm (x := n + 1) (y := a) n1 a2 na with ⟨g, _⟩ | ⟨_, g⟩
    · exact absurd g (out1 ha)
    · exact g
  have rel : ∀ {u v}, u < n + 2 → (Sm f1 u v ↔ Mrg (Sm f0) (n + 1) a u v) := fun hu => (sm_congr (q0.fm.sw n1 a2) hf1 hu).trans (sw_rel q0.fm n1 a2 (out1 ha) hu)
  have x2 : oppN (p1 (n + 1)) = n := by rw [p1n1, on1]
  have hf2 := face_sw q1 q2 (a := n + 1) (b := b) n1 b2 h2
  rw [x2] at hf2
  have hy2 := oppN_lt (q1.pm.lt b b2) q1.even
  have fy : f1 (oppN (p1 b)) = b := q1.inv_p b2
  have hne : n ≠ oppN (p1 b) := fun e => by
    have h3 : p1 b = n + 1 := opp_inj (by rw [← e, on1])
    have := q1.pm.inj b (n + 1) b2 n1 (by rw [h3, p1n1])
    exact nb this.symm
  have key : Sm f1 n (oppN (p1 b)) ↔ Sm f a b := by
    have hb1 : Sm f1 (oppN (p1 b)) b := ⟨1, fy⟩
    have s1 : Sm f1 n (oppN (p1 b)) ↔ Sm f1 n b := ⟨fun h => h.trans hb1, fun h => h.trans (q1.fm.symm hy2 hb1)⟩
    rw [s1, rel n0]
    constructor
    · rintro (h | ⟨_, h⟩ | ⟨h, _⟩)
      · exact absurd h (out0 hb)
      · exact (sm_stays q.fm f0t ha).mp h
      · exact absurd h (out0 ha)
    · exact fun h => .inr (.inl ⟨⟨1, f0n⟩, (sm_stays q.fm f0t ha).mpr h⟩)
  rw [cls_eq (q1.fm.sw n0 hy2) hf2]
  rcases cls_sw q1.fm (x := n) (y := oppN (p1 b)) n0 hy2 hne with ⟨g, h⟩ | ⟨g, h⟩
  · exact ⟨fun _ => by omega, fun x => absurd (key.mp g) x⟩
  · exact ⟨fun x => absurd (key.mpr x) g, fun _ => by omega⟩
section
variable {ι : Type} {R o : ι → ι} {es : List ι}
/-- what connect makes of the links -/
noncomputable def conn (R o : ι → ι) (i j : ι) : ι ⊕ Fin 4 → ι ⊕ Fin 4 :=
  spl (Sum.map R rot4) (spl (Sum.map R rot4) (Sum.map o ini4) (.inr 0) (Sum.map R rot4 (Sum.map o ini4 (Sum.map R rot4 (Sum.map R rot4 (Sum.map R rot4 (.inl i))))))) (Sum.map R rot4 (Sum.map R rot4 (.inr 0))) (.inl j)
noncomputable abbrev grown (es : List ι) : List (ι ⊕ Fin 4) := es.map Sum.inl ++ [Sum.inr 0, Sum.inr 2]
theorem grown_len : (grown es).length = es.length + 2 := by simp
theorem grown_l {k : ι} {t : Nat} (h : es[t]? = some k) : (grown es)[t]? = some (.inl k) := by
  have := (List.getElem?_eq_some_iff.mp h).1
  rw [List.getElem?_append_left (by simpa using this), List.getElem?_map, h]; rfl
theorem grown_n : (grown es)[es.length]? = some (.inr 0) := by
  rw [List.getElem?_append_right (by simp), List.length_map, Nat.sub_self]; rfl
theorem grown_n1 : (grown es)[es.length + 1]? = some (.inr 2) := by
  rw [List.getElem?_append_right (by simp), List.length_map, Nat.add_sub_cancel_left]; rfl
theorem ix_grown (q : QS R o es) {k : ι} (h : k ∈ es) : ix (grown es) (.inl k) = ix es k := ix_eq q.grow.nd (grown_l (ix_get h))
theorem mem_l {k : ι} (h : k ∈ es) : (Sum.inl k : ι ⊕ Fin 4) ∈ grown es := List.mem_append_left _ (List.mem_map.mpr ⟨k, h, rfl⟩)
theorem mem_0 : (Sum.inr 0 : ι ⊕ Fin 4) ∈ grown es := List.mem_of_getElem? grown_n
theorem mem_2 : (Sum.inr 2 : ι ⊕ Fin 4) ∈ grown es := List.mem_of_getElem? grown_n1
theorem QS.conn1 (q : QS R o es) {i : ι} (hi : i ∈ es) : QS (Sum.map R rot4) (spl (Sum.map R rot4) (Sum.map o ini4) (.inr 0) (.inl (R (o (R (R (R i))))))) (grown es) := q.grow.splice mem_0 (mem_l (q.face_in hi))
theorem QS.conn (q : QS R o es) {i j : ι} (hi : i ∈ es) (hj : j ∈ es) : QS (Sum.map R rot4) (Mine.conn R o i j) (grown es) := (q.conn1 hi).splice mem_2 (mem_l hj)
theorem conn_turn (q : QS R o es) {i j : ι} {a b : Nat} (ha : es[a]? = some i) (hb : es[b]? = some j) :
    (ddp (ringsN (rowS (conn R o i j) (grown es)))).length = (ddp (ringsN (rowS o es))).length ∧
    ((ringsN (rowF R o es)).getD a 0 = (ringsN (rowF R o es)).getD b 0 → (ddp (ringsN (rowF (Sum.map R rot4) (conn R o i j) (grown es)))).length = (ddp (ringsN (rowF R o es))).length + 1) ∧
    (¬ (ringsN (rowF R o es)).getD a 0 = (ringsN (rowF R o es)).getD b 0 → (ddp (ringsN (rowF (Sum.map R rot4) (conn R o i j) (grown es)))).length + 1 = (ddp (ringsN (rowF R o es))).length) := by
  have hi := List.mem_of_getElem? ha
  have hj := List.mem_of_getElem? hb
  have la := (List.getElem?_eq_some_iff.mp ha).1
  have lb := (List.getElem?_eq_some_iff.mp hb).1
  have q0 := q.grow
  have q1 := q.conn1 hi
  have q2 := q.conn hi hj
  have hfa : (grown es)[rowP (rowF R o es) a]? = some (.inl (R (o (R (R (R i)))))) := by rw [rowF_P ha]; exact grown_l (ix_get (q.face_in hi))
  have h1 := splice_row q0 grown_n hfa
  have h2 := splice_row q1 grown_n1 (grown_l hb)
  rw [grown_len] at h1 h2
  have e0 : ∀ t, t < es.length → rowP (rowS (Sum.map o ini4) (grown es)) t = rowP (rowS o es) t := fun t ht => by
    obtain ⟨k, hk, hm⟩ := at_lt ht
    rw [rowS_P (grown_l hk), rowS_P hk]
    exact ix_grown q (q.oin k hm)
  have en : rowP (rowS (Sum.map o ini4) (grown es)) es.length = es.length := by rw [rowS_P grown_n]; exact ix_eq q0.nd grown_n
  have en1 : rowP (rowS (Sum.map o ini4) (grown es)) (es.length + 1) = es.length + 1 := by rw [rowS_P grown_n1]; exact ix_eq q0.nd grown_n1
  have p0 := q0.pr
  have p1 := q1.pr
  have p2 := q2.pr
  rw [show (es.map Sum.inl ++ [Sum.inr 0, Sum.inr 2] : List (ι ⊕ Fin 4)).length = es.length + 2 from grown_len] at p0
  rw [grown_len] at p1 p2
  obtain ⟨z1, z2, z3⟩ := conn_cls q.pr p0 p1 p2 e0 en en1 la lb h1 h2
  rw [zS q, zS q2, zF q, zF q2, grown_len, rings_sm rowF_len q.pr.fm la lb]
  exact ⟨z1, z2, z3⟩
/-- connected and deleted again -/
theorem dele_back (q : QS R o es) {i j : ι} (hi : i ∈ es) (hj : j ∈ es) (k : ι) : dele (Sum.map R rot4) (conn R o i j) (.inr 0) (.inl k) = .inl (o k) := by
  have q0 := q.grow
  have q1 := q.conn1 hi
  have q2 := q.conn hi hj
  have hfa := q.face_in hi
  have m0 : (Sum.inr 0 : ι ⊕ Fin 4) ∈ grown es := mem_0
  have m2 : (Sum.inr 2 : ι ⊕ Fin 4) ∈ grown es := mem_2
  have hp := q2.prev_in m0
  have hpo := q2.inv (.inr 0)
  have q3 := q2.splice m0 hp
  have hp' := q3.prev_in m2
  have hpo' := q3.inv (.inr 2)
  have q4 := q3.splice m2 hp'
  -- what the steps tell
  have o1E : spl (Sum.map R rot4) (Sum.map o ini4) (.inr 0) (.inl (R (o (R (R (R i)))))) (.inr 0) = .inl (o (R (o (R (R (R i)))))) := spl_l q0 m0 (mem_l hfa)
  have o1fa : spl (Sum.map R rot4) (Sum.map o ini4) (.inr 0) (.inl (R (o (R (R (R i)))))) (.inl (R (o (R (R (R i)))))) = .inr 0 := spl_r q0 m0 (mem_l hfa)
  have o1E' : spl (Sum.map R rot4) (Sum.map o ini4) (.inr 0) (.inl (R (o (R (R (R i)))))) (.inr 2) = .inr 2 := spl_o q0 m0 (mem_l hfa) m2 (by simp) (by simp)
  have o1k : ∀ {k}, k ∈ es → k ≠ R (o (R (R (R i)))) → spl (Sum.map R rot4) (Sum.map o ini4) (.inr 0) (.inl (R (o (R (R (R i)))))) (.inl k) = .inl (o k) := fun hk hne => spl_o q0 m0 (mem_l hfa) (mem_l hk) (by simp) (by simpa using hne)
  have o2j : conn R o i j (.inl j) = .inr 2 := (spl_r q1 m2 (mem_l hj)).trans o1E'
  have o2E' : conn R o i j (.inr 2) = spl (Sum.map R rot4) (Sum.map o ini4) (.inr 0) (.inl (R (o (R (R (R i)))))) (.inl j) := spl_l q1 m2 (mem_l hj)
  have o2E : conn R o i j (.inr 0) = .inl (o (R (o (R (R (R i)))))) := (spl_o q1 m2 (mem_l hj) m0 (by simp) (by simp)).trans o1E
  have o2k : ∀ {k}, k ∈ es → k ≠ j → conn R o i j (.inl k) = spl (Sum.map R rot4) (Sum.map o ini4) (.inr 0) (.inl (R (o (R (R (R i)))))) (.inl k) := fun hk hne => spl_o q1 m2 (mem_l hj) (mem_l hk) (by simp) (by simpa using hne)
  refine QS.ext q q4 Sum.inl (fun _ => rfl) (fun k hk => ?_) k
  revert hp hpo q3 hp' hpo' q4
  generalize (Sum.map R rot4) (conn R o i j ((Sum.map R rot4) (.inr 0))) = pv
  intro hp hpo q3
  have o3p := spl_r q2 m0 hp
  have o3o := fun {x} => spl_o q2 (x := x) m0 hp
  revert q3 o3p o3o
  generalize spl (Sum.map R rot4) (conn R o i j) (.inr 0) pv = o3
  intro q3 o3p o3o
  show _ → _ → _ → spl (Sum.map R rot4) o3 (.inr 2) (Sum.map R rot4 (o3 (Sum.map R rot4 (.inr 2)))) (.inl k) = .inl (o k)
  generalize (Sum.map R rot4) (o3 ((Sum.map R rot4) (.inr 2))) = pv'
  intro hp' hpo' q4
  have notp : ∀ {x}, conn R o i j x ≠ .inr 0 → x ≠ pv := fun h e => h (by rw [e]; exact hpo)
  have notp' : ∀ {x}, o3 x ≠ .inr 2 → x ≠ pv' := fun h e => h (by rw [e]; exact hpo')
  by_cases hkj : k = j
  · subst hkj
    have h3 : o3 (.inl k) = .inr 2 := (o3o (mem_l hk) (by simp) (notp (by rw [o2j]; simp))).trans o2j
    have hx : Sum.inl k = pv' := q3.oinj (h3.trans hpo'.symm)
    rw [hx, spl_r q3 m2 hp']
    by_cases hjf : k = R (o (R (R (R i))))
    · have h4 : conn R o i k (.inr 2) = .inr 0 := by rw [o2E', hjf]; exact o1fa
      have h5 : Sum.inr 2 = pv := q2.oinj (h4.trans hpo.symm)
      rw [h5, o3p, o2E, ← hjf]
    · have h4 : conn R o i k (.inr 2) = .inl (o k) := by rw [o2E']; exact o1k hk hjf
      rw [o3o m2 (by simp) (notp (by rw [h4]; simp)), h4]
  · by_cases hkf : k = R (o (R (R (R i))))
    · have h4 : conn R o i j (.inl k) = .inr 0 := by rw [o2k hk hkj, hkf]; exact o1fa
      have h5 : Sum.inl k = pv := q2.oinj (h4.trans hpo.symm)
      have h6 : o3 (.inl k) = .inl (o k) := by rw [h5, o3p, o2E, ← hkf]
      rw [spl_o q3 m2 hp' (mem_l hk) (by simp) (notp' (by rw [h6]; simp)), h6]
    · have h4 : conn R o i j (.inl k) = .inl (o k) := by rw [o2k hk hkj]; exact o1k hk hkf
      have h6 : o3 (.inl k) = .inl (o k) := (o3o (mem_l hk) (by simp) (notp (by rw [h4]; simp))).trans h4
      rw [spl_o q3 m2 hp' (mem_l hk) (by simp) (notp' (by rw [h6]; simp)), h6]
end

/-! a comprehension with a test over a tuple of the ledger -/
section
variable {prog : Program} {w : World} {A : Around} {E : Value → Shared → Prop} {s : Shared} {h₀ : Heap} {L : Addr} {m : Str → Option Value} {env : Env}
noncomputable abbrev tobj (its : Array Value) (k : Nat) : Obj := { cls := .type "tuple", data := .seq its k }
noncomputable def CompTup (prog : Program) (w : World) (A : Around) (h₀ : Heap) (L : Addr) (m : Str → Option Value) (env : Env) (ct elt : Expr) (x : Str) (scope : Scope) (cl : List (Str × Addr)) (Fin : Shared → List Value → List (Addr × Obj) → Prop) (xv : Value) (s₁ : Shared) : Prop :=
  ∃ ax its k news, xv = .ref ax ∧ A.handled = none ∧ Fr h₀ L s₁.heap m ∧ News h₀ L s₁.heap news ∧ (ax, tobj its k) ∈ news ∧ its.size ≤ 1000 ∧
    ∀ g, LCt.CompRestT prog w A h₀ L m env ct elt x scope cl { s₁ with heap := g } (fun nw => (ax, tobj its k) ∈ nw) (fun i v => its[i]? = some v) (Fin { s₁ with heap := g }) its.size 0 [] news
theorem ListComp_Tup {ct elt iter : Expr} {x : Str} {px : Pos} {scope : Scope} {cl : List (Str × Addr)} {pos : Pos} {Q : Value → Shared → Prop} (F₀ : Fr h₀ L s.heap m)
    (hclos : closureFor scope env = pure cl) (hcell : ∀ y ∈ scope.names, y.2 ≠ .cell) (hkind : scope.kind = .function)
    (hnames : ∀ y ∈ scope.names, y.2 = .local → scope.names.lookup y.1 = some .local) (hx : scope.names.lookup x = some .local)
    (h : wpAny (model prog w) A (eval iter env) (CompTup prog w A h₀ L m env ct elt x scope cl (fun s₂ => LCg.FinE h₀ L m s₂ Q)) E s)
    (hs : ∀ x, foldedSetIterable iter env x = pure x := by intro _; rfl) :
    wpAny (model prog w) A (eval (.ListComp elt [⟨.Name x px, iter, [ct], 0⟩] scope pos) env) Q E s := by
  rw [eval_ListComp]
  refine wpAny_comprehension_free (use := none) rfl hs hclos hkind hnames (wpAny_mono h (fun xv s₁ h₁ => ?_) fun _ _ e => e)
  obtain ⟨ax, its, k, news, rfl, hh, F, N, hm, hsz, R⟩ := h₁
  have hl : s₁.heap.IsTuple ax its := ⟨_, (N _ hm).1, rfl, _, rfl⟩
  have hlt : ax < s₁.heap.objs.size := Heap.lt_size (N _ hm).1
  refine wpAny_pyIter_tuple hl ?_
  have up : ∀ (o : Obj) b ob, s₁.heap.get? b = some ob → (s₁.heap.push o).get? b = some ob := fun o b ob e => Heap.get?_push_of_some _ e
  refine LCt.block_T (Walks.tuple hh s₁.heap.objs.size ax (Nat.ne_of_lt hlt) its) (by rw [sizeLine_eq]; omega) (fun i h st => by obtain ⟨o, e, _⟩ := st.1; exact ⟨o, e⟩) ?_ hcell hkind hx ⟨⟨_, Heap.get?_push_size _ rfl, rfl, rfl⟩, hl.at fun o e => up _ _ _ e⟩ (fun b hb => ?_)
    (F.keeps (up _)) (N.grown (up _)) (Nat.ne_of_lt F.ns.lt) (next_is_new F) (fun p hp => Nat.ne_of_lt (Heap.lt_size (N p hp).1)) hm (R _) ?_
  · rintro i h h' o nw st e e' _ N' hm'
    obtain ⟨o', e2, r⟩ := st.1
    rw [e] at e2
    cases e2
    exact ⟨⟨o, e', r⟩, ⟨_, (N' _ hm').1, rfl, _, rfl⟩⟩
  · show b < (s₁.heap.push _).objs.size
    rw [Heap.size_push]
    rcases List.mem_cons.mp hb with rfl | hb
    · exact Nat.lt_succ_self _
    · rw [List.mem_singleton.mp hb]; exact Nat.lt_succ_of_lt hlt
  · intro D C h tk m' ys news' F' N' o1 hn hC₀ hD₀ hCL hDL hCD offC fin
    refine ⟨m', hn, fun h'' hs'' => fin D h'' tk (F'.change hs'' hCL hC₀) (fun p hp => ?_) o1⟩
    refine ⟨hs''.extBut _ _ ?_ (N' p hp).1, (N' p hp).2⟩
    rcases List.mem_cons.mp hp with rfl | hp
    · exact Ne.symm hCD
    · exact offC p hp
theorem ne_LL {a b : Addr} {xs ys : List Value} {ns ms : List Int} {news : List (Addr × Obj)} {Q : Value → Shared → Prop} (N : News h₀ L s.heap news) (ha : LL news a xs) (hb : LL news b ys) (hi : IntsAre xs ns) (hj : IntsAre ys ms) (hu : A.units + 64 < cLine) {r : Bool} (hr : (!decide (ns = ms)) = r) (h : Q (.bool r) s) :
    wpAny (model prog w) A (compareOp .NotEq (.ref a) (.ref b)) Q E s := by
  subst hr
  exact ke_ne_ints (ha.is N) (hb.is N) hi hj hu h
end
local macro_rules | `(tactic| walk_at "eval ListComp") => `(tactic| (k_here; with_reducible apply ListComp_Tup; k_dflt (walk_at "mL")))
local macro_rules | `(tactic| walk_at "CompTup") => `(tactic| (k_here; refine stopped ?_))
theorem range_snoc {ys : List Value} {i : Nat} {t : Tok} (hg : IntsAre ys (zs (List.range i))) : IntsAre (ys ++ [.int (i : Int) t]) (zs (List.range (i + 1))) := by
  rw [List.range_succ]
  show IntsAre _ (List.map _ (_ ++ [i]))
  rw [List.map_append]
  exact IntsAre_snoc hg _ _
theorem ne_rowS {ι : Type} {R o : ι → ι} {es : List ι} {n : Nat} (q : QS R o es) (hn : n = es.length) {ys : List Nat} (hp : ys.Perm (rowS o es)) (hs : ys.Pairwise (· ≤ ·)) : (!decide (zs ys = zs (List.range n))) = false := by rw [hn, rowS_sorted q hp hs]; simp
theorem ne_rowF {ι : Type} {R o : ι → ι} {es : List ι} {n : Nat} (q : QS R o es) (hn : n = es.length) {ys : List Nat} (hp : ys.Perm (rowF R o es)) (hs : ys.Pairwise (· ≤ ·)) : (!decide (zs ys = zs (List.range n))) = false := by rw [hn, rowF_sorted q hp hs]; simp
section
variable {prog : Program} {w : World} {A : Around} {E : Value → Shared → Prop} {s : Shared} {h₀ : Heap} {L : Addr} {m : Str → Option Value} {env : Env} {news : List (Addr × Obj)}
theorem reads_two {h : Heap} {a : Addr} {x y : Int} {t u : Tok} {k : Nat} (N : News h₀ L h news) (hm : (a, tobj #[.int x t, .int y u] k) ∈ news) : ∃ as, Reads h (.ref a) (.tuple [.int x, .int y]) as :=
  ⟨_, reads_tuple_at (N.get hm) rfl rfl (ReadsAll.cons (Reads.int _ _) (ReadsAll.cons (Reads.int _ _) ReadsAll.nil))⟩
theorem reads_rows {h : Heap} {a D1 D2 : Addr} {k : Nat} {v1 v2 : List Value} {n1 n2 : List Int} (N : News h₀ L h news) (hm : (a, tobj #[.ref D1, .ref D2] k) ∈ news) (h1 : LL news D1 v1) (h2 : LL news D2 v2) (i1 : IntsAre v1 n1) (i2 : IntsAre v2 n2) :
    ∃ as, Reads h (.ref a) (.tuple [.list (n1.map PyData.int), .list (n2.map PyData.int)]) as :=
  ⟨_, reads_tuple_at (N.get hm) rfl rfl (ReadsAll.cons (reads_newData (h1.is N) (ke_carried i1)) (ReadsAll.cons (reads_newData (h2.is N) (ke_carried i2)) ReadsAll.nil))⟩
theorem shaped_rows (n1 n2 : List Int) : SeqAt.shaped (.tuple [.list (n1.map PyData.int), .list (n2.map PyData.int)]) = true := by
  simp [SeqAt.shaped, PyData.canLay0, PyData.canLayAll0, PyData.depth, PyData.depthAll, ke_canLayAll0, ke_depthAll]
theorem ne_rows {a b D1 D2 E1 E2 : Addr} {k k' : Nat} {v1 v2 u1 u2 : List Value} {n1 n2 m1 m2 : List Int} {Q : Value → Shared → Prop} (N : News h₀ L s.heap news) (ha : (a, tobj #[.ref D1, .ref D2] k) ∈ news) (hb : (b, tobj #[.ref E1, .ref E2] k') ∈ news)
    (h1 : LL news D1 v1) (h2 : LL news D2 v2) (h3 : LL news E1 u1) (h4 : LL news E2 u2) (i1 : IntsAre v1 n1) (i2 : IntsAre v2 n2) (i3 : IntsAre u1 m1) (i4 : IntsAre u2 m2) (hu : A.units + 64 < cLine) (e1 : n1 = m1) (e2 : n2 = m2) (h : Q (.bool false) s) :
    wpAny (model prog w) A (compareOp .NotEq (.ref a) (.ref b)) Q E s := by
  subst e1 e2
  obtain ⟨as, ra⟩ := reads_rows N ha h1 h2 i1 i2
  obtain ⟨bs, rb⟩ := reads_rows N hb h3 h4 i3 i4
  refine ne_dataH ra rb (shaped_rows _ _) (shaped_rows _ _) hu ?_
  have : PyData.eqv (.tuple [.list (n1.map PyData.int), .list (n2.map PyData.int)]) (.tuple [.list (n1.map PyData.int), .list (n2.map PyData.int)]) = true := by
    simp [PyData.eqv, PyData.eqvAll, ked_eqvAll]
  rw [this]
  exact h
theorem ne_two {a b : Addr} {k k' : Nat} {x y x' y' : Int} {t u t' u' : Tok} {Q : Value → Shared → Prop} (N : News h₀ L s.heap news) (ha : (a, tobj #[.int x t, .int y u] k) ∈ news) (hb : (b, tobj #[.int x' t', .int y' u'] k') ∈ news)
    (hu : A.units + 64 < cLine) (e1 : x = x') (e2 : y = y') (h : Q (.bool false) s) : wpAny (model prog w) A (compareOp .NotEq (.ref a) (.ref b)) Q E s := by
  subst e1 e2
  obtain ⟨as, ra⟩ := reads_two N ha
  obtain ⟨bs, rb⟩ := reads_two N hb
  refine ne_dataH ra rb rfl rfl hu ?_
  have : PyData.eqv (.tuple [.int x, .int y]) (.tuple [.int x, .int y]) = true := by simp [PyData.eqv, PyData.eqvAll]
  rw [this]
  exact h
theorem notin_four {x c a1 a2 a3 a4 : Addr} {k k0 k1 k2 k3 k4 : Nat} {p q : Int} {t u t1 u1 t2 u2 t3 u3 t4 u4 : Tok} {Q : Value → Shared → Prop} (N : News h₀ L s.heap news) (hx : (x, tobj #[.int p t, .int q u] k) ∈ news) (hc : (c, tobj #[.ref a1, .ref a2, .ref a3, .ref a4] k0) ∈ news)
    (h1 : (a1, tobj #[.int 1 t1, .int 1 u1] k1) ∈ news) (h2 : (a2, tobj #[.int 1 t2, .int (-1) u2] k2) ∈ news) (h3 : (a3, tobj #[.int (-1) t3, .int 1 u3] k3) ∈ news) (h4 : (a4, tobj #[.int (-1) t4, .int (-1) u4] k4) ∈ news)
    (hp : p = 1 ∨ p = -1) (hq : q = 1 ∨ q = -1) (hu : A.units + 64 < cLine) (h : Q (.bool false) s) : wpAny (model prog w) A (compareOp .NotIn (.ref x) (.ref c)) Q E s := by
  obtain ⟨as, rx⟩ := reads_two N hx
  obtain ⟨_, r1⟩ := reads_two N h1
  obtain ⟨_, r2⟩ := reads_two N h2
  obtain ⟨_, r3⟩ := reads_two N h3
  obtain ⟨_, r4⟩ := reads_two N h4
  refine SeqAt.notIn_tuple_reads (reads_tuple_at (N.get hc) rfl rfl (ReadsAll.cons r1 (ReadsAll.cons r2 (ReadsAll.cons r3 (ReadsAll.cons r4 ReadsAll.nil))))) rx rfl rfl ?_ ?_
  · have : min (PyData.depthAll [.tuple [.int 1, .int 1], .tuple [.int 1, .int (-1)], .tuple [.int (-1), .int 1], .tuple [.int (-1), .int (-1)]]) (PyData.tuple [.int p, .int q]).depth ≤ 8 := Nat.le_trans (Nat.min_le_right _ _) (by simp [PyData.depth, PyData.depthAll])
    omega
  · have : (!([PyData.tuple [.int 1, .int 1], .tuple [.int 1, .int (-1)], .tuple [.int (-1), .int 1], .tuple [.int (-1), .int (-1)]].any fun y => PyData.eqv y (.tuple [.int p, .int q]))) = false := by
      rcases hp with rfl | rfl <;> rcases hq with rfl | rfl <;> simp [PyData.eqv, PyData.eqvAll]
    rw [this]
    exact h
end
section
variable {prog : Program} {w : World} {p : Program} {loose : List Str} {mean : ExcName → Option Value} {mg mb : Str → Option Value}
    {dp un : Nat} {gd : Option (List Code)} {cn : Str} {cs : Scope} {a : Addr} {ccd : Value} {cl : List (Str × Addr)} {outer : List Env} {A A₀ : Around} {base h₀ : Heap} {L : Addr} {m : Str → Option Value} {news : List (Addr × Obj)} {s : Shared}
    {Q : Value → Shared → Prop} {E : Value → Shared → Prop}
theorem evenQ_ {ι : Type} {R o : ι → ι} {es : List ι} {r1 r2 r3 : Addr} {v1 v2 v3 : List Value} (B : Below A₀ base outer h₀) (F : Fr h₀ L s.heap m) (X : (hd.heap_39 w.params).In h₀) (N : News h₀ L s.heap news) (T : Top p loose mean mg mb h₀) (hk : cs.kind = .function)
    (hl1 : LL news r1 v1) (hl2 : LL news r2 v2) (hl3 : LL news r3 v3) (hI1 : IntsAre v1 (zs (ringsN (rowS o es)))) (hI2 : IntsAre v2 (zs (ringsN (rowF R o es)))) (hI3 : IntsAre v3 (zs (rowS o es)))
    (qs : QS R o es) (hlen : es.length ≤ 12) (hdp : dp + 20 < recursionLimit) (hu : un + 60 < cLine)
    (ret : ∀ h' tk', Fr h₀ L h' m → News h₀ L h' news → Q (.bool true) { s with heap := h', toks := tk' }) {A : Around} (hA : A = ktrTop dp un gd cn cs L a ccd cl outer) :
    wpAny (model prog w) A (call (.ref 352) [.ref r1, .ref r2, .ref r3] []) Q E s := by
  subst hA
  exact even_ B F X N T hk hl1 hl2 hl3 hI1 hI2 hI3 (rowS_lt qs) (by rw [rowS_len]; exact hlen) (by rw [rowS_len]; exact qs.even) (by rw [ringsN_length]) (by rw [ringsN_length, rowS_len, rowF_len]) (ringsS_lt qs hlen).1 (ringsF_lt qs hlen).1 (even_rows qs) hdp hu ret
end
local macro_rules | `(tactic| walk_at "call ref") => `(tactic| (k_here; with_reducible apply evenQ_; k_dflt (walk_at "mA"; walk_at "mF"; (case hl1 => ktd_rel); (case hl2 => ktd_rel); (case hl3 => ktd_rel); (case hI1 => with_reducible assumption); (case hI2 => with_reducible assumption); (case hI3 => with_reducible assumption); (case qs => with_reducible assumption); (case hlen => walk_at "mO"); walk_at "mS"); walk_at "mI"))

section
variable (P : Params)
theorem mk_Context : makesIn (hd.heap_39 P) 326 = true := by kernel_rfl
theorem fi_Context_init : findIn (hd.heap_39 P) (.ref 326) "__init__" = some (some (.builtin "object.__init__")) := by kernel_rfl
theorem kp_Context : keepIn (hd.heap_39 P) (.ref 326) = true := by kernel_rfl
end
local macro_rules | `(tactic| k_is) => `(tactic| with_reducible first | exact mk_Context _ | exact fi_Context_init _ | exact kp_Context _ | exact kp_Point _)
theorem itB_nd {o : Obj} (h : itB o = true) : nd o = true := by
  unfold itB at h
  unfold nd
  split at h
  · rename_i e; rw [e]
  · cases h
noncomputable def keepIt (n : List (Addr × Obj)) : List (Addr × Obj) := n.filter fun p => !itB p.2
theorem mem_keepIt {n : List (Addr × Obj)} {p : Addr × Obj} (h : p ∈ n) (hi : itB p.2 = false) : p ∈ keepIt n := List.mem_filter.mpr ⟨h, by rw [hi]; rfl⟩
theorem noit_keepIt {old n : List (Addr × Obj)} : NoIt old (keepIt n) := fun p hp => .inl (by have := (List.mem_filter.mp hp).2; simpa using this)
theorem news_keepIt {h₀ h : Heap} {L : Addr} {n : List (Addr × Obj)} {I : Addr × Obj} (N : News h₀ L h n) (hI : I ∈ n) : News h₀ L h (I :: keepIt n) := news_pick N hI (news_sub N fun p hp => (List.mem_filter.mp hp).1)
theorem QE.keepIt {ι : Type} {news : List (Addr × Obj)} {ad dd : ι → Addr} {R o : ι → ι} {cx : Value} {st : ι → Value} (q : QE news ad dd R o cx st) : QE (keepIt news) ad dd R o cx st :=
  ⟨fun k => mem_keepIt (q.inst k) rfl, fun k => let ⟨h1, h2, h3, h4, t1, t2, t3, t4, e⟩ := q.dict k; ⟨h1, h2, h3, h4, t1, t2, t3, t4, mem_keepIt e rfl⟩, q.inj, q.dinj⟩
theorem LL.keepIt {news : List (Addr × Obj)} {l : Addr} {vs : List Value} (h : LL news l vs) : LL (keepIt news) l vs := let ⟨o, a, b⟩ := h; ⟨o, mem_keepIt a b.itB, b⟩
section
variable {prog : Program} {w : World} {A : Around} {E : Value → Shared → Prop} {s : Shared} {h₀ : Heap} {L : Addr} {m : Str → Option Value} {news : List (Addr × Obj)}
theorem add_LL {a b : Addr} {vs ws : List Value} {Q : Value → Shared → Prop} (F : Fr h₀ L s.heap m) (N : News h₀ L s.heap news) (ha : LL news a vs) (hb : LL news b ws)
    (hz : vs.length + ws.length ≤ 1000)
    (h : ∀ D h', Fr h₀ L h' m → News h₀ L h' ((D, lobj (vs ++ ws) 0) :: news) → (∀ p ∈ news, p.1 < D) → Q (.ref D) { s with heap := h' }) : wpAny (model prog w) A (binaryOp .Add (.ref a) (.ref b)) Q E s :=
  add_lists F N (ha.is N) (hb.is N) (fun h' F' N' => h _ h' F' N' fun p hp => Heap.lt_size (N p hp).1) (by rw [sizeLine_eq]; omega)
end
local macro_rules | `(tactic| walk_at "binaryOp Add ref ref") => `(tactic| (k_here; with_reducible apply add_LL; k_dflt (walk_at "mF"; (case ha => ktd_rel); (case hb => ktd_rel); (case hz => kwd_inv)); intro D' h' F' N' l1; (try k_lt l1); (try k_sweep)))
/-- what the law keeps of its edges -/
inductive Cell1 (c : Addr) (nw : List (Addr × Obj)) : Prop
  | mk (oc : Obj) (v : Option Value) (h : (c, oc) ∈ nw) (e : oc.data = .cell v) : Cell1 c nw
theorem Cell1.keepIt {c : Addr} {nw : List (Addr × Obj)} (h : Cell1 c nw) : Cell1 c (keepIt nw) := let ⟨o, v, a, b⟩ := h; ⟨o, v, mem_keepIt a (itB_cell b), b⟩
inductive Led (c cx le : Addr) (n : Nat) (nw : List (Addr × Obj)) : Prop
  | mk (ι : Type) (ad dd : ι → Addr) (R o : ι → ι) (st : ι → Value) (es : List ι) (k : Nat) (q : QE nw ad dd R o (.ref cx) st) (qs : QS R o es) (hl : es.length = n) (hst : ∀ k, handedIn (st k) = true) (hle : (le, lobj ((es.map ad).map Value.ref) k) ∈ nw) (hc : Cell1 c nw) : Led c cx le n nw
theorem Led.keepIt {c cx le : Addr} {n : Nat} {nw : List (Addr × Obj)} (h : Led c cx le n nw) : Led c cx le n (keepIt nw) :=
  by
  obtain ⟨ι, ad, dd, R, o, st, es, k, q, qs, hl, hst, hle, hc⟩ := h
  exact ⟨ι, ad, dd, R, o, st, es, k, q.keepIt, qs, hl, hst, mem_keepIt hle rfl, hc.keepIt⟩
theorem grown_list {ι : Type} {ad : ι → Addr} {ad' : ι ⊕ Fin 4 → Addr} {es : List ι} {R : ι → ι} (ha : ∀ k, ad k = ad' (.inl k)) :
    (es.map ad).map Value.ref ++ [.ref (ad' (.inr 0)), .ref (ad' (Sum.map R rot4 (Sum.map R rot4 (.inr 0))))] = ((grown es).map ad').map Value.ref := by
  unfold grown
  rw [List.map_append, List.map_append, List.map_map, List.map_map, List.map_map]
  congr 1
  exact List.map_congr_left fun k _ => congrArg Value.ref (ha k)
theorem Led.grow {ι : Type} {ad : ι → Addr} {ad' dd' : ι ⊕ Fin 4 → Addr} {R o : ι → ι} {st : ι → Value} {es : List ι} {c cx D v0 v1 : Addr} {n : Nat} {nw : List (Addr × Obj)}
    (q : QE nw ad' dd' (Sum.map R rot4) (Sum.map o ini4) (.ref cx) (Sum.elim st (st4 (.ref v0) (.ref v1)))) (qs : QS R o es) (hl : es.length = n) (hst : ∀ k, handedIn (st k) = true) (ha : ∀ k, ad k = ad' (.inl k))
    (hD : (D, lobj (((grown es).map ad').map Value.ref) 0) ∈ nw) (hc : Cell1 c nw) : Led c cx D (n + 2) nw := by
  refine ⟨_, ad', dd', _, _, _, _, 0, q, qs.grow, by simp [hl], ?_, hD, hc⟩
  rintro (k | k)
  · exact hst k
  · match k with
    | 0 => rfl
    | 1 => rfl
    | 2 => rfl
    | 3 => rfl
section
variable {prog : Program} {w : World} {A : Around} {E : Value → Shared → Prop} {s : Shared} {h₀ : Heap} {L : Addr} {m : Str → Option Value} {news : List (Addr × Obj)}
theorem add_grown {ι : Type} {ad : ι → Addr} {ad' : ι ⊕ Fin 4 → Addr} {es : List ι} {R : ι → ι} {a b : Addr} {Q : Value → Shared → Prop} (F : Fr h₀ L s.heap m) (N : News h₀ L s.heap news) (ha' : ∀ k, ad k = ad' (.inl k))
    (ha : LL news a ((es.map ad).map Value.ref)) (hb : LL news b [.ref (ad' (.inr 0)), .ref (ad' (Sum.map R rot4 (Sum.map R rot4 (.inr 0))))])
    (hz : es.length ≤ 900)
    (h : ∀ D h', Fr h₀ L h' m → News h₀ L h' ((D, lobj (((grown es).map ad').map Value.ref) 0) :: news) → (∀ p ∈ news, p.1 < D) → Q (.ref D) { s with heap := h' }) : wpAny (model prog w) A (binaryOp .Add (.ref a) (.ref b)) Q E s :=
  add_LL F N ha hb (by simp; omega) fun D h' F' N' l => h D h' F' (by rw [grown_list ha'] at N'; exact N') l
end
local macro_rules | `(tactic| walk_at "binaryOp Add ref ref") => `(tactic| (k_here; with_reducible apply add_grown; k_dflt (walk_at "mF"; (case ha' => with_reducible assumption); (case ha => ktd_rel); (case hb => ktd_rel); (case hz => walk_at "mO")); intro D' h' F' N' l1; (try k_lt l1); (try k_sweep)))
structure S1 where
  le : Addr
  ue : Option Value
section
variable {prog : Program} {w : World} {A : Around} {E : Value → Shared → Prop} {s : Shared} {env : Env} {h₀ : Heap} {x : Str} {body : List Stmt} {Q : Flow → Shared → Prop} {L : Addr}
noncomputable abbrev bs1 (st : S1) : List (Str × Option Value) := [(Str.ofString "edge", st.ue), (Str.ofString "edges", some (.ref st.le))]
theorem loop1 {r c cx d le T : Addr} {oc oT : Obj} {t₀ u₀ v₀ : Tok} {m₀ : Str → Option Value} (hr : IsRange s.heap r 0 3 1 t₀ u₀ v₀) (F : Fr h₀ env.locals s.heap m₀)
    (N : News h₀ env.locals s.heap [(T, oT), (le, listOf #[] 0), (cx, instObj 326 d), (d, dictOf [] 0), (c, oc)])
    (hoc : ∃ v, oc.data = .cell v) (hh : A.handled = none) (he : m₀ (Str.ofString "edge") = none) (hes : m₀ (Str.ofString "edges") = some (.ref le))
    (turn : ∀ (i : Nat) t st nw h tk I o, i < 3 → Led c cx st.le (2 * i) nw → Fr h₀ env.locals h (fun y => if y = x then some (.int (i : Int) t) else over (bs1 st) m₀ y) → News h₀ env.locals h ((I, o) :: nw) → itB o = true →
      wpAny (model prog w) A (execs body env) (TurnS h₀ env.locals [(T, oT), (le, listOf #[] 0), (cx, instObj 326 d), (d, dictOf [] 0), (c, oc)] x (fun st => over (bs1 st) m₀) (fun st nw => Led c cx st.le (2 * (i + 1)) nw) (I, o) { s with heap := h, toks := tk } Q) E { s with heap := h, toks := tk })
    (done : ∀ st u nw h tk, Led c cx st.le 6 nw → Fr h₀ env.locals h (fun y => if y = x then u else over (bs1 st) m₀ y) → News h₀ env.locals h nw → Q .next { s with heap := h, toks := tk }) :
    wpAny (model prog w) A (pyIter (.ref r)) (fun it s₂ => LoopAtV prog w A h₀ env x body Q E it s₂) E s := by
  refine iter_rangeB (S := S1) (n := 3) bs1 (fun i st nw => Led c cx st.le (2 * i) nw) ⟨le, none⟩ hh hr (by decide) F N ?_ ?_ ?_ ?_
  · intro p hp
    simp only [bs1, List.mem_cons, List.not_mem_nil, or_false] at hp
    rcases hp with rfl | rfl
    · exact he
    · exact hes
  · refine ⟨Empty, fun k => k.elim, fun k => k.elim, id, id, fun k => k.elim, [], 0, ⟨fun k => k.elim, fun k => k.elim, fun k => k.elim, fun k => k.elim⟩, QS.empty, rfl, fun k => k.elim, ?_, ?_⟩
    · exact .tail _ (.head _)
    · obtain ⟨v, hv⟩ := hoc
      exact ⟨oc, v, .tail _ (.tail _ (.tail _ (.tail _ (.head _)))), hv⟩
  · intro i t st nw h tk I o hi hz _ F N ho _
    exact turn i t st nw h tk I o hi hz F N ho
  · intro st u nw h tk hz _ F N
    exact done st u nw h tk hz F N
end
theorem end1 {h₀ h' : Heap} {L I c cx le' : Addr} {x : Str} {o : Obj} {i tk : Nat} {m' m₀ : Str → Option Value} {led old : List (Addr × Obj)} {s₁ : Shared} (F : Fr h₀ L h' m') (N : News h₀ L h' led) (hI : (I, o) ∈ led)
    (hes : m' (Str.ofString "edges") = some (.ref le')) (hm : ∀ y, y ≠ x → y ≠ Str.ofString "edge" → y ≠ Str.ofString "edges" → m' y = m₀ y) (g : Led c cx le' (2 * i + 2) led) :
    TurnEndS h₀ L old x (fun st => over (bs1 st) m₀) (fun st nw => Led c cx st.le (2 * (i + 1)) nw) (I, o) s₁ { s₁ with heap := h', toks := tk } := by
  refine TurnEndS.intro ⟨le', m' (Str.ofString "edge")⟩ (u := m' x) (Fr.eqv F fun y => ?_) (news_keepIt N hI) noit_keepIt g.keepIt
  by_cases h1 : y = x
  · subst h1; rw [if_pos rfl]
  · rw [if_neg h1]
    by_cases h2 : y = Str.ofString "edge"
    · subst h2; rfl
    · by_cases h3 : y = Str.ofString "edges"
      · subst h3; exact hes
      · rw [hm y h1 h2 h3]
        simp only [over, if_neg h2, if_neg h3]
local macro_rules | `(tactic| walk_at "eval IfExp") => `(tactic| (k_here; (with_reducible show wpAny _ _ _ (fun v s₁ => wpAny _ _ (spliced _) _ _ s₁) _ _); refine stopped ?_))
noncomputable def NumEnd (h₀ : Heap) (L : Addr) (m : Str → Option Value) (led : List (Addr × Obj)) (s₁ : Shared) (v : Value) (s₂ : Shared) : Prop :=
  ∃ h' tk ln oN vs ns, v = .ref ln ∧ s₂ = { s₁ with heap := h', toks := tk } ∧ Fr h₀ L h' m ∧ News h₀ L h' ((ln, oN) :: led) ∧ LO oN vs ∧ IntsAre vs ns ∧ 3 ≤ ns.length ∧ ns.length ≤ 18
theorem NumEnd.intro {h₀ h' : Heap} {L : Addr} {m : Str → Option Value} {led : List (Addr × Obj)} {s₁ : Shared} {tk : Nat} {ln : Addr} {oN : Obj} {vs : List Value} {ns : List Int} (F : Fr h₀ L h' m) (N : News h₀ L h' ((ln, oN) :: led)) (hO : LO oN vs) (hI : IntsAre vs ns) (h1 : 3 ≤ ns.length) (h2 : ns.length ≤ 18) :
    NumEnd h₀ L m led s₁ (.ref ln) { s₁ with heap := h', toks := tk } := ⟨h', tk, ln, oN, vs, ns, rfl, rfl, F, N, hO, hI, h1, h2⟩
theorem num_merge {M : Model} {A : Around} {E : Value → Shared → Prop} {s : Shared} {h₀ : Heap} {L : Addr} {m : Str → Option Value} {led : List (Addr × Obj)} {tree : Sem Value} {Q : Value → Shared → Prop} (_F : Fr h₀ L s.heap m) (_N : News h₀ L s.heap led)
    (h1 : wpAny M A tree (NumEnd h₀ L m led s) E s)
    (h2 : ∀ h' tk ln oN vs ns, Fr h₀ L h' m → News h₀ L h' ((ln, oN) :: led) → LO oN vs → IntsAre vs ns → 3 ≤ ns.length → ns.length ≤ 18 → Q (.ref ln) { s with heap := h', toks := tk }) : wpAny M A tree Q E s :=
  wpAny_mono h1 (fun v s₂ ⟨h', tk, ln, oN, vs, ns, e1, e2, F, N, hO, hI, l1, l2⟩ => by subst e1 e2; exact h2 h' tk ln oN vs ns F N hO hI l1 l2) fun _ _ e => e
theorem over_eq {m' m₀ : Str → Option Value} : ∀ {bs : List (Str × Option Value)}, (∀ p ∈ bs, m' p.1 = p.2) → ∀ y, ((∀ p ∈ bs, y ≠ p.1) → m' y = m₀ y) → m' y = over bs m₀ y
  | [], _, y, h => h fun _ hp => nomatch hp
  | (z, u) :: r, hb, y, h => by
    show m' y = if y = z then u else over r m₀ y
    by_cases e : y = z
    · rw [if_pos e, e]; exact hb (z, u) (.head _)
    · rw [if_neg e]
      exact over_eq (fun p hp => hb p (.tail _ hp)) y fun hr => h fun p hp => by
        rcases List.mem_cons.mp hp with rfl | hp
        · exact e
        · exact hr p hp
structure S2 where
  le : Addr
  bT : Addr
  m : Str → Option Value
noncomputable abbrev bs2 (st : S2) : List (Str × Option Value) := [(Str.ofString "edges", some (.ref st.le)), (Str.ofString "before", some (.ref st.bT)), (Str.ofString "deed", st.m (Str.ofString "deed")), (Str.ofString "a", st.m (Str.ofString "a")), (Str.ofString "b", st.m (Str.ofString "b")),
  (Str.ofString "rings", st.m (Str.ofString "rings")), (Str.ofString "faces", st.m (Str.ofString "faces")), (Str.ofString "joined", st.m (Str.ofString "joined")), (Str.ofString "edge", st.m (Str.ofString "edge")), (Str.ofString "after", st.m (Str.ofString "after")),
  (Str.ofString "more", st.m (Str.ofString "more")), (Str.ofString "many", st.m (Str.ofString "many")), (Str.ofString "turned", st.m (Str.ofString "turned"))]
/-- what the law keeps between two deeds -/
inductive Led2 (c cx le bT ln : Addr) (oN : Obj) (nw : List (Addr × Obj)) : Prop
  | mk (ι : Type) (ad dd : ι → Addr) (R o : ι → ι) (st : ι → Value) (es : List ι) (k k2 : Nat) (D1 D2 : Addr) (ys1 ys2 : List Value) (q : QE nw ad dd R o (.ref cx) st) (qs : QS R o es) (hel : 6 ≤ es.length ∧ es.length ≤ 12) (hst : ∀ k, handedIn (st k) = true) (hle : (le, lobj ((es.map ad).map Value.ref) k) ∈ nw) (hc : Cell1 c nw)
    (hbT : (bT, ({ cls := .type "tuple", data := .seq #[.ref D1, .ref D2] k2 } : Obj)) ∈ nw) (h1 : (D1, LCg.lst ys1) ∈ nw) (h2 : (D2, LCg.lst ys2) ∈ nw) (i1 : IntsAre ys1 (zs (rowS o es))) (i2 : IntsAre ys2 (zs (rowF R o es))) (hln : (ln, oN) ∈ nw) : Led2 c cx le bT ln oN nw
theorem Led2.keepIt {c cx le bT ln : Addr} {oN : Obj} {vs : List Value} {nw : List (Addr × Obj)} (hO : LO oN vs) (h : Led2 c cx le bT ln oN nw) : Led2 c cx le bT ln oN (keepIt nw) :=
  by
  obtain ⟨ι, ad, dd, R, o, st, es, k, k2, D1, D2, ys1, ys2, q, qs, hl, hst, hle, hc, hb, h1, h2, i1, i2, hn⟩ := h
  exact ⟨ι, ad, dd, R, o, st, es, k, k2, D1, D2, ys1, ys2, q.keepIt, qs, hl, hst, mem_keepIt hle rfl, hc.keepIt, mem_keepIt hb rfl, mem_keepIt h1 rfl, mem_keepIt h2 rfl, i1, i2, mem_keepIt hn hO.itB⟩
theorem small_three {b : Int} (h0 : 0 ≤ b) (h1 : b ≤ 1000) : Builtin.Range.small 0 b 3 = true ∧ ∃ n : Nat, Builtin.Range.rangeSize 0 b 3 = (n : Int) ∧ ∀ i : Nat, i < n → (i : Int) * 3 < b := by
  have hs : Builtin.Range.rangeSize 0 b 3 = if 0 < b then (b - 1) / 3 + 1 else 0 := by
    unfold Builtin.Range.rangeSize
    simp only [show (3 : Int) > 0 by decide, if_true]
    split <;> omega
  refine ⟨?_, ?_⟩
  · unfold Builtin.Range.small
    rw [hs]
    simp only [Builtin.Range.rangeFitsLong, Bool.and_eq_true, Bool.or_eq_true, decide_eq_true_eq, beq_iff_eq, show (3 : Int) > 0 by decide, if_true]
    split <;> omega
  · rw [hs]
    refine ⟨((if 0 < b then (b - 1) / 3 + 1 else 0 : Int)).toNat, ?_, fun i hi => ?_⟩
    · split <;> omega
    · split at hi <;> omega
theorem ite_peel {α : Type} {y k : Str} {v e z : α} (h : y ≠ k) (t : e = z) : (if y = k then v else e) = z := (if_neg h).trans t
theorem over_peel {y k : Str} {v : Option Value} {r : List (Str × Option Value)} {m : Str → Option Value} {z : Option Value} (h : y ≠ k) (t : over r m y = z) : over ((k, v) :: r) m y = z := (if_neg h).trans t
theorem over_one {k : Str} {v : Option Value} {m : Str → Option Value} (h : m k = v) (y : Str) : over [(k, v)] m y = m y := congrFun (over_same m [(k, v)] (fun p hp => by cases List.mem_singleton.mp hp; exact h)) y
theorem end2 {h₀ h' : Heap} {L I c cx le' bT' ln : Addr} {oN : Obj} {vs : List Value} {x : Str} {o : Obj} {tk : Nat} {m' m₀ : Str → Option Value} {led old : List (Addr × Obj)} {s₁ : Shared} (F : Fr h₀ L h' m') (N : News h₀ L h' led) (hI : (I, o) ∈ led) (hO : LO oN vs)
    (hes : m' (Str.ofString "edges") = some (.ref le')) (hbe : m' (Str.ofString "before") = some (.ref bT')) (hm : ∀ y, y ≠ x → (∀ p ∈ bs2 ⟨le', bT', m'⟩, y ≠ p.1) → m' y = m₀ y) (g : Led2 c cx le' bT' ln oN led) :
    TurnEndS h₀ L old x (fun st => over (bs2 st) m₀) (fun st nw => Led2 c cx st.le st.bT ln oN nw) (I, o) s₁ { s₁ with heap := h', toks := tk } := by
  refine TurnEndS.intro ⟨le', bT', m'⟩ (u := m' x) (Fr.eqv F fun y => ?_) (news_keepIt N hI) noit_keepIt (g.keepIt hO)
  by_cases h1 : y = x
  · subst h1; rw [if_pos rfl]
  · rw [if_neg h1]
    refine over_eq (fun p hp => ?_) y (hm y h1)
    simp only [bs2, List.mem_cons, List.not_mem_nil, or_false] at hp
    rcases hp with rfl | rfl | rfl | rfl | rfl | rfl | rfl | rfl | rfl | rfl | rfl | rfl | rfl
    · exact hes
    · exact hbe
    all_goals rfl
section
variable {prog : Program} {w : World} {A : Around} {E : Value → Shared → Prop} {s : Shared} {env : Env} {h₀ : Heap} {x : Str} {body : List Stmt} {Q : Flow → Shared → Prop} {L : Addr}
theorem loop2 {r c cx le bT ln : Addr} {oN : Obj} {vs : List Value} {b : Int} {news : List (Addr × Obj)} {t₀ u₀ v₀ : Tok} {m₀ : Str → Option Value} (hr : IsRange s.heap r 0 b 3 t₀ u₀ v₀) (hb0 : 0 ≤ b) (hb1 : b ≤ 1000) (F : Fr h₀ env.locals s.heap m₀)
    (N : News h₀ env.locals s.heap news) (hO : LO oN vs)
    (hh : A.handled = none) (hes : m₀ (Str.ofString "edges") = some (.ref le)) (hbe : m₀ (Str.ofString "before") = some (.ref bT)) (hnum : m₀ (Str.ofString "numbers") = some (.ref ln)) (hz : Led2 c cx le bT ln oN news)
    (turn : ∀ (m₁ : Str → Option Value) (QQ : Flow → Shared → Prop) (EE : Value → Shared → Prop) (kk : Int) t st nw h tk I o, m₁ (Str.ofString "numbers") = some (.ref ln) → PassesOwn (model prog w) A env EE →
      (∀ h' tk' led m' le' bT', Fr h₀ env.locals h' m' → News h₀ env.locals h' led → (I, o) ∈ led → m' (Str.ofString "edges") = some (.ref le') → m' (Str.ofString "before") = some (.ref bT') →
        (∀ y, y ≠ x → (∀ p ∈ bs2 ⟨le', bT', m'⟩, y ≠ p.1) → m' y = m₁ y) → Led2 c cx le' bT' ln oN led → QQ .next { s with heap := h', toks := tk' }) →
      0 ≤ kk → kk < b → Led2 c cx st.le st.bT ln oN nw → Fr h₀ env.locals h (fun y => if y = x then some (.int kk t) else over (bs2 st) (over [(Str.ofString "numbers", some (.ref ln))] m₁) y) → News h₀ env.locals h ((I, o) :: nw) → itB o = true →
      wpAny (model prog w) A (execs body env) QQ EE { s with heap := h, toks := tk })
    (done : ∀ st u nw h tk, Led2 c cx st.le st.bT ln oN nw → Fr h₀ env.locals h (fun y => if y = x then u else over (bs2 st) m₀ y) → News h₀ env.locals h nw → Q .next { s with heap := h, toks := tk })
    (hE : PassesOwn (model prog w) A env E := by passes_own) :
    wpAny (model prog w) A (pyIter (.ref r)) (fun it s₂ => LoopAtV prog w A h₀ env x body Q E it s₂) E s := by
  obtain ⟨hsm, n, hn, hlt⟩ := small_three hb0 hb1
  have sh : ∀ (st : S2) (u v : Option Value), (fun y => if y = x then v else (fun y => if y = x then u else over (bs2 st) m₀ y) y) = fun y => if y = x then v else over (bs2 st) m₀ y := fun st u v => by
    funext y; by_cases hy : y = x <;> simp [hy]
  refine iter_rangeJ (fun _ m nw => ∃ st u, m = (fun y => if y = x then u else over (bs2 st) m₀ y) ∧ Led2 c cx st.le st.bT ln oN nw) hh hr hsm hn F N ⟨⟨le, bT, m₀⟩, m₀ x, ?_, hz⟩ ?_ ?_
  · funext y
    by_cases hy : y = x
    · rw [if_pos hy, hy]
    · rw [if_neg hy]
      refine over_eq (fun p hp => ?_) y fun _ => rfl
      simp only [bs2, List.mem_cons, List.not_mem_nil, or_false] at hp
      rcases hp with rfl | rfl | rfl | rfl | rfl | rfl | rfl | rfl | rfl | rfl | rfl | rfl | rfl
      · exact hes
      · exact hbe
      all_goals rfl
  · rintro i t m₁ news₁ h tk I o hi ⟨st, u, rfl, hz⟩ hn₁ F₁ N₁ ho hq
    rw [sh] at F₁
    have hi2 := hlt i hi
    have hov : over [(Str.ofString "numbers", some (.ref ln))] m₀ = m₀ := funext (over_one hnum)
    refine wpAny_mono (turn m₀ (TurnS h₀ env.locals news x (fun st => over (bs2 st) m₀) (fun st nw => Led2 c cx st.le st.bT ln oN nw) (I, o) { s with heap := h, toks := tk } Q) E (0 + (i : Int) * 3) t st news₁ h tk I o hnum hE
      (fun h' tk' led m' le' bT' F' N' hI he hb hm g => end2 F' N' hI hO he hb hm g) (by omega) (by omega) hz (by rw [hov]; exact F₁) N₁ ho) (fun f s₂ q => ?_) fun _ _ e => e
    have fin : TurnEndS h₀ env.locals news x (fun st => over (bs2 st) m₀) (fun st nw => Led2 c cx st.le st.bT ln oN nw) (I, o) { s with heap := h, toks := tk } s₂ → TurnEndJ h₀ env.locals news (fun m nw => ∃ st u, m = (fun y => if y = x then u else over (bs2 st) m₀ y) ∧ Led2 c cx st.le st.bT ln oN nw) (I, o) { s with heap := h, toks := tk } s₂ := by
      rintro ⟨h', tk', st', u', news', e, F', N', n', z'⟩
      exact ⟨h', tk', _, news', e, F', N', n', st', u', rfl, z'⟩
    cases f with
    | ret v => exact q
    | brk => exact q
    | next => exact fin q
    | cont => exact fin q
  · rintro m₁ news₁ h tk ⟨st, u, rfl, hz⟩ hn₁ F₁ N₁
    exact done st u news₁ h tk hz F₁ N₁
end
inductive AtInt (vs : List Value) (k : Nat) : Prop
  | mk (n : Int) (t : Tok) (e : vs[k]? = some (.int n t)) : AtInt vs k
theorem IntsAre_at {vs : List Value} {ns : List Int} (h : IntsAre vs ns) {k : Int} (h0 : 0 ≤ k) (h1 : k < ns.length) : AtInt vs k.toNat := by
  obtain ⟨t, e⟩ := h.get k.toNat ns[k.toNat] (List.getElem?_eq_getElem (by omega))
  exact ⟨_, t, e⟩
inductive EdgeAt {ι : Type} (ad : ι → Addr) (es : List ι) (n : Int) : Prop
  | mk (i : ι) (a : es[(n.fmod (es.length : Int)).toNat]? = some i) (b : ((es.map ad).map Value.ref)[(n.fmod (es.length : Int)).toNat]? = some (.ref (ad i))) (c : 0 ≤ n.fmod (es.length : Int)) (d : n.fmod (es.length : Int) < (es.length : Int)) : EdgeAt ad es n
theorem edge_at {ι : Type} {ad : ι → Addr} {es : List ι} {n : Int} (h : 0 < es.length) : EdgeAt ad es n := by
  have h1 := Int.fmod_nonneg_of_pos n (show (0 : Int) < es.length by omega)
  have h2 := Int.fmod_lt_of_pos n (show (0 : Int) < es.length by omega)
  have h3 : (n.fmod (es.length : Int)).toNat < es.length := by omega
  refine ⟨es[(n.fmod (es.length : Int)).toNat], List.getElem?_eq_getElem h3, ?_, h1, h2⟩
  rw [List.getElem?_map, List.getElem?_map, List.getElem?_eq_getElem h3]; rfl
theorem item_TT {prog : Program} {w : World} {A : Around} {E : Value → Shared → Prop} {s : Shared} {h₀ : Heap} {L : Addr} {news : List (Addr × Obj)} {value slice : Expr} {l : Addr} {vs : List Value} {k : Nat} {i : Int} {u : Tok} {v : Value} {Q : Value → Shared → Prop} (N : News h₀ L s.heap news) (hm : (l, ({ cls := .type "tuple", data := .seq vs.toArray k } : Obj)) ∈ news) {j : Nat} (h0 : -(2 ^ 63) ≤ i) (h1 : i < 2 ^ 63) (hj : seqIndex? i vs.length = some j) (hv : vs[j]? = some v) (h : Q v s)
    (hs : subscripted slice false (.ref l) (.int i u) = operate [.ref l, .int i u] (getItem (.ref l) (.int i u)) := by with_unfolding_all rfl) :
    wpAny (model prog w) A (subscriptTail value slice (.ref l) (.int i u)) Q E s := by
  have hl : s.heap.IsTuple l vs.toArray := ⟨_, (N _ hm).1, rfl, _, rfl⟩
  exact tail_any hl.typeIs slot_tuple_getitem.lookup (getItem_tuple hl h0 h1 (by simpa using hj) (by simpa using hv) h) hs
local macro_rules | `(tactic| walk_at "subscriptTail") => `(tactic| (k_here; (with_reducible show wpAny _ _ (subscriptTail _ _ (Value.ref _) (Value.int (OfNat.ofNat _) _)) _ _ _); k_dflt (refine' item_TT ?N ?hm ?h0 ?h1 ?hj ?hv ?_; walk_at "m12"; (case h0 => decide); (case h1 => decide); (case hj => exact rfl); (case hv => exact rfl))))
noncomputable def BoolEnd (b : Bool) (s₁ : Shared) (v : Value) (s₂ : Shared) : Prop := v = .bool b ∧ ∃ tk, s₂ = { s₁ with toks := tk }
theorem bool_merge {M : Model} {A : Around} {E : Value → Shared → Prop} {s : Shared} {tree : Sem Value} {Q : Value → Shared → Prop} (b : Bool) (h1 : wpAny M A tree (BoolEnd b s) E s) (h2 : ∀ tk, Q (.bool b) { s with toks := tk }) : wpAny M A tree Q E s :=
  wpAny_mono h1 (fun v s₂ ⟨e1, tk, e2⟩ => by subst e1 e2; exact h2 tk) fun _ _ e => e
local macro_rules | `(tactic| walk_at "eval BoolOp") => `(tactic| (k_here; (with_reducible show wpAny _ _ _ (fun v s₁ => wpAny _ _ (storeName _ _ v) _ _ s₁) _ _); refine stopped ?_))
theorem itB_nc {o : Obj} (h : itB o = true) : nc o = true := by
  unfold itB at h
  unfold nc
  split at h
  · rename_i e; rw [e]
  · cases h
theorem store_cell {M : Model} {A : Around} {E : Value → Shared → Prop} {s : Shared} {h₀ : Heap} {L a : Addr} {m : Str → Option Value} {cn : Str} {cs : Scope} {ccd : Value} {cl : List (Str × Addr)}
    {x : Str} {v : Value} {Q : Unit → Shared → Prop} {news : List (Addr × Obj)} {c : Addr} {o : Obj} {v₀ : Option Value} (F : Fr h₀ L s.heap m) (N : News h₀ L s.heap news) (hc : cl.lookup x = some c) (hm : (c, o) ∈ news) (hd : o.data = .cell v₀)
    (h : ∀ h' o' nw, Fr h₀ L h' m → News h₀ L h' ((c, o') :: nw) → o'.data = .cell (some v) → StayC news ((c, o') :: nw) → Q () { s with heap := h' })
    (hk : cs.kind = .function := by rfl) (hx : (envX cn cs L a ccd cl).kindOf x = some .cell := by rfl) : wpAny M A (storeName (envX cn cs L a ccd cl) x v) Q E s := by
  have N2 : News h₀ L s.heap ((c, o) :: news.filter (fun p => decide (p.1 ≠ c))) := by
    intro p hp
    rcases List.mem_cons.mp hp with rfl | hp
    · exact N _ hm
    · exact N _ ((List.mem_filter.mp hp).1)
  refine storeX_C F N2 hc (UpdF.head (fun p hp => by simpa using (List.mem_filter.mp hp).2)) hd (fun h' o' F' N' hd' => h h' o' _ F' N' hd' ?_) hk hx
  intro p hp hn
  refine .tail _ (List.mem_filter.mpr ⟨hp, ?_⟩)
  simp only [ne_eq, decide_not, Bool.not_eq_eq_eq_not, Bool.not_true, decide_eq_false_iff_not]
  intro e
  have h5 := (N _ hp).1
  have h6 := (N _ hm).1
  dsimp only at h6
  rw [e, h6] at h5
  rw [← Option.some.inj h5] at hn
  unfold nc at hn
  rw [hd] at hn
  cases hn
local macro_rules | `(tactic| walk_at "storeName") => `(tactic| (k_here; k_dflt (refine' store_cell ?F ?N ?c ?m ?d ?_ ?a ?b; (case a => rfl); (case b => rfl); walk_at "m13"; (case c => rfl); (case m => kwd_less); (case d => k_asm)); walk_at "mI"))
section
variable {prog : Program} {w : World} {p : Program} {loose : List Str} {mean : ExcName → Option Value} {mg mb : Str → Option Value}
    {dp un : Nat} {gd : Option (List Code)} {cn : Str} {cs : Scope} {a : Addr} {ccd : Value} {cl : List (Str × Addr)} {outer : List Env} {A A₀ : Around} {base h₀ : Heap} {L : Addr} {m : Str → Option Value} {news : List (Addr × Obj)} {s : Shared}
    {Q : Value → Shared → Prop} {E : Value → Shared → Prop}
theorem rowsQ_ {ι : Type} {ad dd : ι → Addr} {R o : ι → ι} {cx : Value} {st : ι → Value} {le : Addr} {es : List ι} {lk : Nat} (B : Below A₀ base outer h₀) (F : Fr h₀ L s.heap m) (X : (hd.heap_39 w.params).In h₀) (N : News h₀ L s.heap news) (T : Top p loose mean mg mb h₀) (hk : cs.kind = .function)
    (q : QE news ad dd R o cx st) (qs : QS R o es) (hl : (le, lobj ((es.map ad).map Value.ref) lk) ∈ news) (hlen : es.length ≤ 1000)
    (hdp : dp + 60 < recursionLimit) (hu : un + 200 < cLine)
    (ret : ∀ h' tk' T D1 D2 ys1 ys2 k, Fr h₀ L h' m → News h₀ L h' ((T, { cls := .type "tuple", data := .seq #[.ref D1, .ref D2] k }) :: (D2, LCg.lst ys2) :: (D1, LCg.lst ys1) :: news) → IntsAre ys1 (zs (rowS o es)) → IntsAre ys2 (zs (rowF R o es)) → Q (.ref T) { s with heap := h', toks := tk' }) {A : Around} (hA : A = ktrTop dp un gd cn cs L a ccd cl outer) :
    wpAny (model prog w) A (call (.ref 342) [.ref le] []) Q E s := by
  subst hA
  exact rows_ (hA := rfl) B F X N T hk q hl hlen qs.nd qs.hs qs.hf rowS_len rowF_len hdp hu ret
theorem ringsQ_ {r : Addr} {vs : List Value} {row : List Nat} (B : Below A₀ base outer h₀) (F : Fr h₀ L s.heap m) (X : (hd.heap_39 w.params).In h₀) (N : News h₀ L s.heap news) (T : Top p loose mean mg mb h₀) (hk : cs.kind = .function)
    (hl : LL news r vs) (hI : IntsAre vs (zs row)) (P : Pm row.length (rowP row)) (hlen : row.length ≤ 1000)
    (hdp : dp + 20 < recursionLimit) (hu : un + 60 < cLine)
    (ret : ∀ h' tk' D o ws, Fr h₀ L h' m → News h₀ L h' ((D, o) :: news) → LO o ws → IntsAre ws (zs (ringsN row)) → (∀ p ∈ news, p.1 ≠ D) → Q (.ref D) { s with heap := h', toks := tk' }) {A : Around} (hA : A = ktrTop dp un gd cn cs L a ccd cl outer) :
    wpAny (model prog w) A (call (.ref 347) [.ref r] []) Q E s := by
  subst hA
  exact rings_ (hA := rfl) B F X N T hk hl hI (fun x hx => by
    obtain ⟨i, hi, rfl⟩ := List.getElem_of_mem hx
    have := P.lt i hi
    rwa [rowP_some (List.getElem?_eq_getElem hi)] at this) hlen hdp hu fun h' tk' D o ws F' N' hO hI' hD => ret h' tk' D o ws F' N' hO (by rw [show zs (ringsN row) = ringsF row from ringsN_zs rfl P]; exact hI') hD
end
local macro_rules | `(tactic| walk_at "call ref") => `(tactic| (k_here; with_reducible apply ringsQ_; k_dflt (walk_at "mA"; walk_at "mF"; walk_at "m8"; (case hI => with_reducible assumption); (case P => with_reducible assumption); walk_at "m7"; walk_at "mS"); walk_at "mI"))
local macro_rules | `(tactic| walk_at "call ref") => `(tactic| (k_here; with_reducible apply rowsQ_; k_dflt (walk_at "mA"; walk_at "mQ"; walk_at "m10"); walk_at "mI"))
local macro_rules | `(tactic| walk_at "compareOp NotEq ref ref") => `(tactic| (k_here; refine stopped ?_))
local macro_rules | `(tactic| walk_at "compareOp NotIn ref ref") => `(tactic| (k_here; refine stopped ?_))
local macro_rules | `(tactic| walk_at "compareOp NotIn") => `(tactic| (k_here; (with_reducible show wpAny _ _ (compareOp CmpOp.NotIn (Value.ref _) (Value.ref _)) _ _ _); refine stopped ?_))
theorem bs2_ne {st : S2} {y : Str} (h : ∀ p ∈ bs2 st, y ≠ p.1) : y ≠ Str.ofString "edges" ∧ y ≠ Str.ofString "before" ∧ y ≠ Str.ofString "deed" ∧ y ≠ Str.ofString "a" ∧ y ≠ Str.ofString "b" ∧ y ≠ Str.ofString "rings" ∧ y ≠ Str.ofString "faces" ∧ y ≠ Str.ofString "joined" ∧ y ≠ Str.ofString "edge" ∧ y ≠ Str.ofString "after" ∧
    y ≠ Str.ofString "more" ∧ y ≠ Str.ofString "many" ∧ y ≠ Str.ofString "turned" := by
  simp only [bs2, List.forall_mem_cons] at h
  obtain ⟨a1, a2, a3, a4, a5, a6, a7, a8, a9, a10, a11, a12, a13, _⟩ := h
  exact ⟨a1, a2, a3, a4, a5, a6, a7, a8, a9, a10, a11, a12, a13⟩

theorem QE.back {ι : Type} {news : List (Addr × Obj)} {ad : ι → Addr} {ad' dd' : ι ⊕ Fin 4 → Addr} {R o : ι → ι} {o' : ι ⊕ Fin 4 → ι ⊕ Fin 4} {cx : Value} {st' : ι ⊕ Fin 4 → Value} (q : QE news ad' dd' (Sum.map R rot4) o' cx st') (ha : ∀ k, ad k = ad' (.inl k)) (hb : ∀ k, o' (.inl k) = .inl (o k)) :
    QE news ad (fun k => dd' (.inl k)) R o cx (fun k => st' (.inl k)) := by
  obtain rfl : ad = fun k => ad' (.inl k) := funext ha
  refine ⟨fun k => q.inst (.inl k), fun k => ?_, fun i j e => Sum.inl.inj (q.inj _ _ e), fun i j e => Sum.inl.inj (q.dinj _ _ e)⟩
  obtain ⟨h1, h2, h3, h4, t1, t2, t3, t4, e⟩ := q.dict (.inl k)
  rw [hb k] at e
  exact ⟨h1, h2, h3, h4, t1, t2, t3, t4, e⟩
section
variable {prog : Program} {w : World} {p : Program} {loose : List Str} {mean : ExcName → Option Value} {mg mb : Str → Option Value}
    {dp un : Nat} {gd : Option (List Code)} {cn : Str} {cs : Scope} {a : Addr} {ccd : Value} {cl : List (Str × Addr)} {outer : List Env} {A A₀ : Around} {base h₀ : Heap} {L : Addr} {m : Str → Option Value} {news : List (Addr × Obj)} {s : Shared}
    {Q : Value → Shared → Prop} {E : Value → Shared → Prop}
theorem rowsB_ {ι : Type} {ad : ι → Addr} {ad' dd' : ι ⊕ Fin 4 → Addr} {R o : ι → ι} {o' : ι ⊕ Fin 4 → ι ⊕ Fin 4} {cx : Value} {st' : ι ⊕ Fin 4 → Value} {le : Addr} {es : List ι} {lk : Nat} (B : Below A₀ base outer h₀) (F : Fr h₀ L s.heap m) (X : (hd.heap_39 w.params).In h₀) (N : News h₀ L s.heap news) (T : Top p loose mean mg mb h₀) (hk : cs.kind = .function)
    (q : QE news ad' dd' (Sum.map R rot4) o' cx st') (ha : ∀ k, ad k = ad' (.inl k)) (hb : ∀ k, o' (.inl k) = .inl (o k)) (qs : QS R o es) (hl : (le, lobj ((es.map ad).map Value.ref) lk) ∈ news) (hlen : es.length ≤ 1000)
    (hdp : dp + 60 < recursionLimit) (hu : un + 200 < cLine)
    (ret : ∀ h' tk' T D1 D2 ys1 ys2 k, Fr h₀ L h' m → News h₀ L h' ((T, { cls := .type "tuple", data := .seq #[.ref D1, .ref D2] k }) :: (D2, LCg.lst ys2) :: (D1, LCg.lst ys1) :: news) → IntsAre ys1 (zs (rowS o es)) → IntsAre ys2 (zs (rowF R o es)) → Q (.ref T) { s with heap := h', toks := tk' }) {A : Around} (hA : A = ktrTop dp un gd cn cs L a ccd cl outer) :
    wpAny (model prog w) A (call (.ref 342) [.ref le] []) Q E s := by
  subst hA
  exact rowsQ_ (hA := rfl) B F X N T hk (q.back ha hb) qs hl hlen hdp hu ret
end
noncomputable def IntEnd (x : Int) (s₁ : Shared) (v : Value) (s₂ : Shared) : Prop := ∃ t tk, v = .int x t ∧ s₂ = { s₁ with toks := tk }
theorem int_merge {M : Model} {A : Around} {E : Value → Shared → Prop} {s : Shared} {tree : Sem Value} {Q : Value → Shared → Prop} (x : Int) (h1 : wpAny M A tree (IntEnd x s) E s) (h2 : ∀ t tk, Q (.int x t) { s with toks := tk }) : wpAny M A tree Q E s :=
  wpAny_mono h1 (fun v s₂ ⟨t, tk, e1, e2⟩ => by subst e1 e2; exact h2 t tk) fun _ _ e => e
theorem item_LI {prog : Program} {w : World} {A : Around} {E : Value → Shared → Prop} {s : Shared} {h₀ : Heap} {L : Addr} {news : List (Addr × Obj)} {value slice : Expr} {l : Addr} {vs : List Value} {ns : List Nat} {i : Int} {u : Tok} {Q : Value → Shared → Prop} (N : News h₀ L s.heap news) (hl : LL news l vs) (hI : IntsAre vs (zs ns)) (h0 : 0 ≤ i) (h1 : i < 1000) (h2 : i.toNat < ns.length)
    (h : ∀ t, Q (.int ((ns.getD i.toNat 0 : Nat) : Int) t) s)
    (hs : subscripted slice false (.ref l) (.int i u) = operate [.ref l, .int i u] (getItem (.ref l) (.int i u)) := by with_unfolding_all rfl) :
    wpAny (model prog w) A (subscriptTail value slice (.ref l) (.int i u)) Q E s := by
  obtain ⟨t, e⟩ := hI.get i.toNat ((ns.getD i.toNat 0 : Nat) : Int) (by rw [List.getElem?_map, List.getElem?_eq_getElem h2, List.getD_eq_getElem?_getD, List.getElem?_eq_getElem h2]; rfl)
  exact item_LL N hl h0 (by omega) e (h t) hs
local macro_rules | `(tactic| walk_at "subscriptTail") => `(tactic| (k_here; (with_reducible show wpAny _ _ (subscriptTail _ _ (Value.ref _) (Value.int (Int.fmod _ _) _)) _ _ _); k_dflt (first | (refine' item_LL ?N ?hm ?h0 ?h1 ?hv ?_; walk_at "m2"; (case hm => ktd_rel); walk_at "m4"; (case hv => with_reducible assumption)) | (refine' item_LI ?N ?hm ?hI ?h0 ?h1 ?h2 ?_; walk_at "m2"; (case hm => ktd_rel); (case hI => with_reducible assumption); walk_at "m4"; (case h2 => walk_at "mO"); intro t'))))
section
variable {prog : Program} {w : World} {p : Program} {loose : List Str} {mean : ExcName → Option Value} {mg mb : Str → Option Value}
    {dp un : Nat} {gd : Option (List Code)} {cn : Str} {cs : Scope} {a : Addr} {ccd : Value} {cl : List (Str × Addr)} {outer : List Env} {A A₀ : Around} {base h₀ : Heap} {L : Addr} {m : Str → Option Value} {news : List (Addr × Obj)} {s : Shared}
    {Q : Value → Shared → Prop} {E : Value → Shared → Prop}
theorem connQ_ {ι : Type} {ad dd : ι → Addr} {R o : ι → ι} {cx : Value} {st : ι → Value} {i j : ι} (B : Below A₀ base outer h₀) (F : Fr h₀ L s.heap m) (X : (hd.heap_39 w.params).In h₀) (N : News h₀ L s.heap news) (T : Top p loose mean mg mb h₀) (hk : cs.kind = .function)
    (q : QE news ad dd R o cx st) {x y : Addr} (he : x = ad i) (hy : y = ad j) (hcx : handedIn cx = true) (hst : ∀ k, handedIn (st k) = true) (hdp : dp + 60 < recursionLimit) (hu : un + 200 < cLine)
    (ret : ∀ h' tk' news' (ad' dd' : ι ⊕ Fin 4 → Addr) (st' : ι ⊕ Fin 4 → Value), Fr h₀ L h' m → News h₀ L h' news' →
      QE news' ad' dd' (Sum.map R rot4) (conn R o i j) cx st' → (∀ k, handedIn (st' k) = true) → (∀ k, ad k = ad' (.inl k)) → Stay news news' → Q (.ref (ad' (.inr 0))) { s with heap := h', toks := tk' }) {A : Around} (hA : A = ktrTop dp un gd cn cs L a ccd cl outer) :
    wpAny (model prog w) A (call (.ref 125) [.ref x, .ref y] []) Q E s := by
  subst hA
  exact connect_ (hA := rfl) B F X N T hk q he hy hcx hst hdp hu fun h' tk' news' ad' dd' F' N' q' ha' st' => ret h' tk' news' ad' dd' _ F' N' q' (by
    rintro (k | k)
    · exact hst k
    · match k with
      | 0 => exact hst _
      | 1 => rfl
      | 2 => exact hst _
      | 3 => rfl) ha' st'
end
local macro_rules | `(tactic| walk_at "call ref") => `(tactic| (k_here; with_reducible apply connQ_; k_dflt (walk_at "m9"; (case hy => kwd_rel); (case hcx => exact rfl); (case hst => with_reducible assumption); walk_at "mS"); walk_at "mI"))

/-! the law's turn: the two sorts of deeds met again -/
theorem merge_next {M : Model} {A : Around} {t : Sem Flow} {Q : Flow → Shared → Prop} {E : Value → Shared → Prop} {s : Shared} (J : Shared → Prop) (h1 : wpAny M A t (fun fl s' => fl = .next ∧ J s') E s) (h2 : ∀ s', J s' → Q .next s') : wpAny M A t Q E s :=
  wpAny_mono h1 (fun fl s' ⟨e, j⟩ => by subst e; exact h2 s' j) fun _ _ e => e
inductive Deed {ι : Type} (ad : ι → Addr) (R o : ι → ι) (es : List ι) (ia ib : ι) (le : Addr) (me : Option Value) : Bool → (ι' : Type) → (ι' → Addr) → (ι' → ι') → (ι' → ι') → List ι' → Addr → Option Value → Prop
  | joined (ad' : ι ⊕ Fin 4 → Addr) (lg : Addr) (h : ∀ k, ad k = ad' (.inl k)) : Deed ad R o es ia ib le me true (ι ⊕ Fin 4) ad' (Sum.map R rot4) (conn R o ia ib) (grown es) lg (some (.ref (ad' (.inr 0))))
  | spliced : Deed ad R o es ia ib le me false ι ad R (spl R o ia ib) es le me
inductive Mid (h₀ : Heap) (L : Addr) (m : Str → Option Value) (news : List (Addr × Obj)) (s₀ : Shared) (cx : Addr) {ι : Type} (ad : ι → Addr) (R o : ι → ι) (es : List ι) (ia ib : ι) (le : Addr) (me : Option Value) (c : Addr) (jb : Bool) (s' : Shared) : Prop
  | mk (ι' : Type) (ad' dd' : ι' → Addr) (R' o' : ι' → ι') (st' : ι' → Value) (es' : List ι') (lg : Addr) (ev : Option Value) (kg : Nat) (og : Obj) (h' : Heap) (tk' : Nat) (news' : List (Addr × Obj))
    (e : s' = { s₀ with heap := h', toks := tk' }) (F : Fr h₀ L h' (fun y => if y = Str.ofString "edge" then ev else m y)) (N : News h₀ L h' ((c, og) :: news')) (S : StayB news ((c, og) :: news')) (hog : og.data = .cell (some (.ref lg)))
    (q : QE ((c, og) :: news') ad' dd' R' o' (.ref cx) st') (qs : QS R' o' es') (hel : 6 ≤ es'.length ∧ es'.length ≤ 12) (hst : ∀ k, handedIn (st' k) = true) (hlg : (lg, lobj ((es'.map ad').map Value.ref) kg) ∈ (c, og) :: news') (hd : Deed ad R o es ia ib le me jb ι' ad' R' o' es' lg ev) : Mid h₀ L m news s₀ cx ad R o es ia ib le me c jb s'
/-- the deed undone -/
inductive Undone (h₀ : Heap) (L : Addr) (m : Str → Option Value) (news : List (Addr × Obj)) (s₀ : Shared) (cx : Addr) {ι : Type} (ad : ι → Addr) (R o : ι → ι) (s' : Shared) : Prop
  | mk (dd' : ι → Addr) (st' : ι → Value) (h' : Heap) (tk' : Nat) (news' : List (Addr × Obj)) (e : s' = { s₀ with heap := h', toks := tk' }) (F : Fr h₀ L h' m) (N : News h₀ L h' news') (S : Stay news news') (q : QE news' ad dd' R o (.ref cx) st') (hst : ∀ k, handedIn (st' k) = true) : Undone h₀ L m news s₀ cx ad R o s'
noncomputable def Same (h₀ : Heap) (L : Addr) (m : Str → Option Value) (news : List (Addr × Obj)) (s₀ s' : Shared) : Prop := ∃ (h' : Heap) (tk' : Nat), s' = { s₀ with heap := h', toks := tk' } ∧ Fr h₀ L h' m ∧ News h₀ L h' news
theorem Same.intro {h₀ h' : Heap} {L : Addr} {m : Str → Option Value} {news led : List (Addr × Obj)} {s₀ : Shared} {tk' : Nat} (F : Fr h₀ L h' m) (N : News h₀ L h' led) (hs : ∀ p ∈ news, p ∈ led) : Same h₀ L m news s₀ { s₀ with heap := h', toks := tk' } := ⟨h', tk', rfl, F, fun p hp => N p (hs p hp)⟩
theorem Undone.intro {h₀ h' : Heap} {L cx : Addr} {m : Str → Option Value} {news news' : List (Addr × Obj)} {s₀ : Shared} {tk' : Nat} {ι : Type} {ad dd' : ι → Addr} {R o : ι → ι} {st' : ι → Value} (F : Fr h₀ L h' m) (N : News h₀ L h' news') (S : Stay news news') (q : QE news' ad dd' R o (.ref cx) st') (hs : ∀ k, handedIn (st' k) = true) :
    Undone h₀ L m news s₀ cx ad R o { s₀ with heap := h', toks := tk' } := ⟨dd', st', h', tk', news', rfl, F, N, S, q, hs⟩
theorem merge_same {M : Model} {A : Around} {t : Sem Flow} {Q : Flow → Shared → Prop} {E : Value → Shared → Prop} {s : Shared} {h₀ : Heap} {L : Addr} {m : Str → Option Value} {news : List (Addr × Obj)} (_F : Fr h₀ L s.heap m) (_N : News h₀ L s.heap news)
    (h1 : wpAny M A t (fun fl s' => fl = .next ∧ Same h₀ L m news s s') E s) (h2 : ∀ h' tk', Fr h₀ L h' m → News h₀ L h' news → Q .next { s with heap := h', toks := tk' }) : wpAny M A t Q E s :=
  merge_next _ h1 fun s' ⟨h', tk', e, F, N⟩ => by subst e; exact h2 h' tk' F N
theorem merge_mid {M : Model} {A : Around} {t : Sem Flow} {Q : Flow → Shared → Prop} {E : Value → Shared → Prop} {s : Shared} {h₀ : Heap} {L : Addr} {m : Str → Option Value} {news : List (Addr × Obj)} (_F : Fr h₀ L s.heap m) (_N : News h₀ L s.heap news)
    {cx : Addr} {ι : Type} {ad dd : ι → Addr} {R o : ι → ι} {st : ι → Value} {nw : List (Addr × Obj)} (_q : QE nw ad dd R o (.ref cx) st) (es : List ι) (ia ib : ι) (le : Addr) {c : Addr} {oc : Obj} {nwc : List (Addr × Obj)} (_hc : (c, oc) ∈ nwc) (jb : Bool)
    (h1 : wpAny M A t (fun fl s' => fl = .next ∧ Mid h₀ L m news s cx ad R o es ia ib le (m (Str.ofString "edge")) c jb s') E s)
    (h2 : ∀ s', Mid h₀ L m news s cx ad R o es ia ib le (m (Str.ofString "edge")) c jb s' → Q .next s') : wpAny M A t Q E s := merge_next _ h1 h2
theorem merge_undone {M : Model} {A : Around} {t : Sem Flow} {Q : Flow → Shared → Prop} {E : Value → Shared → Prop} {s : Shared} {h₀ : Heap} {L : Addr} {m : Str → Option Value} {news : List (Addr × Obj)} (_F : Fr h₀ L s.heap m) (_N : News h₀ L s.heap news)
    {cx : Addr} {ι : Type} {ad dd : ι → Addr} {R o : ι → ι} {st : ι → Value} {nw : List (Addr × Obj)} (_q : QE nw ad dd R o (.ref cx) st) (h1 : wpAny M A t (fun fl s' => fl = .next ∧ Undone h₀ L m news s cx ad R o s') E s)
    (h2 : ∀ (dd' : ι → Addr) (st' : ι → Value) (h' : Heap) (tk' : Nat) (news' : List (Addr × Obj)), Fr h₀ L h' m → News h₀ L h' news' → Stay news news' → QE news' ad dd' R o (.ref cx) st' → (∀ k, handedIn (st' k) = true) → Q .next { s with heap := h', toks := tk' }) : wpAny M A t Q E s :=
  merge_next _ h1 fun s' ⟨dd', st', h', tk', n', e, F, N, S, q, hs⟩ => by subst e; exact h2 dd' st' h' tk' n' F N S q hs
theorem edge_same {m : Str → Option Value} (y : Str) : m y = if y = Str.ofString "edge" then m (Str.ofString "edge") else m y := by
  by_cases h2 : y = Str.ofString "edge"
  · rw [if_pos h2, h2]
  · rw [if_neg h2]
local macro_rules | `(tactic| walk_at "exec If") => `(tactic| (k_here; (first | (with_reducible show wpAny _ _ (exec (Stmt.If (Expr.Name _ _) (List.cons (Stmt.Assign _ _ _) _) _ _) _) _ _ _) | (with_reducible show wpAny _ _ (exec (Stmt.If (Expr.Name _ _) (List.cons (Stmt.If _ _ _ _) _) _ _) _) _ _ _) | (with_reducible show wpAny _ _ (exec (Stmt.If (Expr.Name _ _) (List.cons (Stmt.Expr _ _) _) _ _) _) _ _ _) | fail "no merge"); refine stopped ?_))

set_option maxHeartbeats 8000000 in
theorem law_walk : PySem.Challenge.rw_ba0047_01.Holds := hd (by
  k_go0; (all_goals try k_fold)
  k_steps
  refine Stopped.go (loop1 (by assumption) (by assumption) (by assumption) ⟨_, by assumption⟩ rfl rfl rfl ?_ ?_)
  · intro i t σ nw h tk I o hi hL F1 N1 hio
    refine gen_both (by passes_own) fun QQ EE hQQ hEE => ?_
    obtain ⟨le, ue⟩ := σ
    obtain ⟨ι, ad, dd, R, oo, st, es, kk, q, qs, hel, hst, hle, oc, vc, hc, hcd⟩ := hL
    dsimp only at hle F1 N1
    k_steps
    refine hQQ _ _ ?_
    refine end1 (by assumption) (by assumption) (by kwd_less) rfl (fun y h1 h2 h3 => ?_) (Led.grow (by ktr_rel) qs hel hst (by assumption) (by kwd_less) ⟨oc, vc, by kwd_less, hcd⟩)
    · simp only [over, if_neg h1, if_neg h2, if_neg h3]
  · rintro ⟨le, ue⟩ u nw h tk ⟨ι, ad, dd, R, oo, st, es, kk, q, qs, hel, hst, hle, oc, vc, hc, hcd⟩ F1 N1
    dsimp only at hle F1 N1
    k_steps
    refine Stopped.go (num_merge (by assumption) (by assumption) ?_ ?_)
    · k_steps
      · exact NumEnd.intro (by assumption) (by assumption) ⟨rfl, _, rfl⟩ (by assumption) (by rw [List.length_take]; omega) (by rw [List.length_take]; omega)
      · exact NumEnd.intro (by assumption) (by assumption) ⟨rfl, _, rfl⟩ (.cons _ _ (.cons _ _ (.cons _ _ .nil))) (by decide) (by decide)
    · intro h2 tk2 ln oN vs ns F2 N2 hO hI hn1 hn2
      have hvl := hI.length
      k_steps
      refine Stopped.go (loop2 (by assumption) (by walk_at "mO") (by walk_at "mO") (by assumption) (by assumption) hO rfl rfl rfl rfl ⟨ι, ad, dd, R, oo, st, es, _, _, _, _, _, _, by ktr_rel, qs, by omega, hst, by kwd_less, ⟨oc, vc, by kwd_less, hcd⟩, by kwd_less, by kwd_less, by kwd_less, by assumption, by assumption, by kwd_less⟩ ?_ ?_)
      · clear hcd hc hle hst hel qs q
        intro m₁ QQ EE kk t σ nw h tk I o hnum hEE hnext hk0 hk1 hL F1 N1 hio
        obtain ⟨le, bT, mm⟩ := σ
        obtain ⟨ι, ad, dd, R, oo, st, es, k1, k2, D1, D2, ys1, ys2, q, qs, hel, hst, hle, ⟨oc, vc, hc, hcd⟩, hbT, hD1, hD2, hI1, hI2, hln⟩ := hL
        dsimp only at hle hbT
        dsimp only [bs2] at F1
        obtain ⟨n0, t0, e0⟩ := IntsAre_at hI (k := kk) (by walk_at "mO") (by walk_at "mO")
        obtain ⟨n1, t1, e1⟩ := IntsAre_at hI (k := kk + 1) (by walk_at "mO") (by walk_at "mO")
        obtain ⟨n2, t2, e2⟩ := IntsAre_at hI (k := kk + 2) (by walk_at "mO") (by walk_at "mO")
        obtain ⟨ia, ha, ea, la, la'⟩ := edge_at (ad := ad) (es := es) (n := n1) (by walk_at "mO")
        obtain ⟨ib, hb, eb, lb, lb'⟩ := edge_at (ad := ad) (es := es) (n := n2) (by walk_at "mO")
        have hnz : (es.length : Int) ≠ 0 := by omega
        have hia := List.mem_of_getElem? ha
        have hib := List.mem_of_getElem? hb
        have hsl := rowS_len (o := oo) (es := es)
        have hfl := rowF_len (R := R) (o := oo) (es := es)
        have hP1 := rowS_pm qs
        have hP2 := rowF_pm qs
        have hr1 := (ringsS_lt qs hel.2).1
        have hr2 := (ringsF_lt qs hel.2).1
        have hr3 := (ringsS_lt qs hel.2).2
        have hr4 := (ringsF_lt qs hel.2).2
        have hnd1 := itB_nd hio
        have hnc1 := itB_nc hio
        have hnd2 := hO.nd
        have hnc2 := hO.nc
        obtain ⟨jb, hjb⟩ : ∃ jb : Bool, jb = true ↔ (1 < n0.fmod 4 ∧ es.length < 12) := ⟨decide (1 < n0.fmod 4 ∧ es.length < 12), decide_eq_true_iff⟩
        k_steps
        refine Stopped.go (bool_merge jb ?_ ?_)
        · k_steps
          all_goals exact ⟨congrArg Value.bool (by rw [Bool.eq_iff_iff, hjb]; (try simp only [decide_eq_true_eq, Bool.false_eq_true, Bool.true_eq_false]); omega), _, rfl⟩
        · intro tk3
          k_steps
          refine Stopped.go (merge_mid (by k_asm) (by k_asm) q es ia ib le hc jb (wpAny_If ?_) ?_)
          · cases jb with
            | false =>
              have q1 := qs.splice hia hib
              k_steps
              exact ⟨ι, ad, _, R, _, st, es, le, _, _, _, _, _, _, rfl, Fr.eqv (by k_asm) edge_same, by k_asm, (fun p hp hn hc => by kwd_less), by assumption, by ktr_rel, q1, hel, hst, by kwd_less, .spliced⟩
            | true =>
              have q1 := qs.conn hia hib
              have hgl : (grown es).length = es.length + 2 := grown_len
              have hj := hjb.mp rfl
              have hev := qs.even
              k_steps
              exact ⟨ι ⊕ Fin 4, _, _, _, _, _, grown es, _, _, _, _, _, _, _, rfl, Fr.eqv (by k_asm) (fun y => rfl), by k_asm, (fun p hp hn hc => by kwd_less), by assumption, by ktr_rel, q1, ⟨by walk_at "mO", by walk_at "mO"⟩, by with_reducible assumption, by kwd_less, .joined _ _ (by with_reducible assumption)⟩
          · rintro s' ⟨ι', ad', dd', R', o', st', es', lg, ev, kg, og, h9, tk9, led9, rfl, F9, N9, S9, hog, q9, qs9, hel9, hst9, hlg9, hdeed⟩
            have hsl' := rowS_len (o := o') (es := es')
            have hfl' := rowF_len (R := R') (o := o') (es := es')
            have hP3 := rowS_pm qs9
            have hP4 := rowF_pm qs9
            have hr5 := (ringsS_lt qs9 hel9.2).1
            have hr6 := (ringsF_lt qs9 hel9.2).1
            have hr7 := (ringsS_lt qs9 hel9.2).2
            have hr8 := (ringsF_lt qs9 hel9.2).2
            try dsimp only
            k_steps
            refine Stopped.go ⟨_, _, _, _, rfl, rfl, by k_asm, by k_asm, by kwd_less, by (show 2 ≤ 1000; omega), fun g => ?_⟩
            refine compRestT_all (n := 2) (fun _ ys => ys = []) (by kwd_less) ?_ ?_ _ 0 [] (by simp) rfl
            · rintro i ys v I' oI C oC D m₂ h tk E' hi rfl hP hC hx F₁ N₁
              rcases (by omega : i = 0 ∨ i = 1) with rfl | rfl
              · obtain rfl : Value.ref _ = v := Option.some.inj hP
                k_steps
                refine Stopped.go (compSrc_R (n := es'.length) rfl (by k_asm) (by k_asm) (by assumption) (by walk_at "mO") (fun g => ?_))
                refine compRest_all (n := es'.length) (fun i ys => IntsAre ys (zs (List.range i))) trivial ?_ ?_ _ 0 [] (Nat.zero_add _) IntsAre.nil
                · rintro i ys v I3 oI3 C3 oC3 D3 m3 h tk E' hi hg ⟨t, rfl⟩ hC3 hx3 F₁ N₁
                  rw [Int.zero_add] at hx3
                  k_steps
                  exact EltEnd.intro (by k_asm) (by k_asm) (range_snoc hg)
                · intro ys3 hg3 D4 h4 tk4 F4 N4 oD4
                  k_steps
                  refine Stopped.go <| ne_LL (r := false) (by k_asm) (by ktd_rel) (by ktd_rel) (by assumption) hg3 (by ke_room) (by exact ne_rowS qs9 rfl (by assumption) (by assumption)) ?_
                  k_steps
                  exact EltEnd.intro (by k_asm) (news_sub (by k_asm) (fun p hp => .tail _ (.tail _ hp))) (by first | rfl | trivial)
              · obtain rfl : Value.ref _ = v := Option.some.inj hP
                k_steps
                refine Stopped.go (compSrc_R (n := es'.length) rfl (by k_asm) (by k_asm) (by assumption) (by walk_at "mO") (fun g => ?_))
                refine compRest_all (n := es'.length) (fun i ys => IntsAre ys (zs (List.range i))) trivial ?_ ?_ _ 0 [] (Nat.zero_add _) IntsAre.nil
                · rintro i ys v I3 oI3 C3 oC3 D3 m3 h tk E' hi hg ⟨t, rfl⟩ hC3 hx3 F₁ N₁
                  rw [Int.zero_add] at hx3
                  k_steps
                  exact EltEnd.intro (by k_asm) (by k_asm) (range_snoc hg)
                · intro ys3 hg3 D4 h4 tk4 F4 N4 oD4
                  k_steps
                  refine Stopped.go <| ne_LL (r := false) (by k_asm) (by ktd_rel) (by ktd_rel) (by assumption) hg3 (by ke_room) (by exact ne_rowF qs9 rfl (by assumption) (by assumption)) ?_
                  k_steps
                  exact EltEnd.intro (by k_asm) (news_sub (by k_asm) (fun p hp => .tail _ (.tail _ hp))) (by first | rfl | trivial)
            · rintro _ rfl D5 h5 tk5 F5 N5 oD5
              k_steps
              refine Stopped.go (merge_same (by k_asm) (by k_asm) (wpAny_If ?_) ?_)
              · cases hdeed with
                | joined ad'' lg' hadd =>
                  have hturn := conn_turn qs ha hb
                  try dsimp only
                  k_steps
                  refine Stopped.go (int_merge (((ddp (ringsN (rowF (Sum.map R rot4) (conn R oo ia ib) (grown es)))).length : Int) - ((ddp (ringsN (rowF R oo es))).length : Int)) ?_ ?_)
                  · k_steps
                    · exact ⟨_, _, congrArg (fun z => Value.int z _) (by have := hturn.2.1 (by walk_at "mO"); omega), rfl⟩
                    · exact ⟨_, _, congrArg (fun z => Value.int z _) (by have := hturn.2.2 (by walk_at "mO"); omega), rfl⟩
                  · intro t5 tk5
                    k_steps
                    refine Stopped.go (ne_two (by k_asm) (by kwd_less) (by kwd_less) (by ke_room) (by walk_at "mO") rfl ?_)
                    k_steps
                    try dsimp only
                    exact Same.intro (by k_asm) (by k_asm) (fun p hp => by kwd_less)
                | spliced =>
                  have hturn := splice_turn qs ha hb
                  try dsimp only
                  k_steps
                  · have hab : n1.fmod (es.length : Int) = n2.fmod (es.length : Int) := by first | assumption | omega
                    have hiab : ia = ib := by
                      rw [hab, hb] at ha
                      exact (Option.some.inj ha).symm
                    have ho1 : spl R oo ia ib = oo := by rw [hiab]; exact spl_same qs hib
                    refine Stopped.go (ne_rows (by k_asm) (by kwd_less) (by kwd_less) (by ktd_rel) (by ktd_rel) (by ktd_rel) (by ktd_rel) (by with_reducible assumption) (by with_reducible assumption) (by with_reducible assumption) (by with_reducible assumption) (by ke_room) (by rw [ho1]) (by rw [ho1]) ?_)
                    k_steps
                    try dsimp only
                    exact Same.intro (by k_asm) (by k_asm) (fun p hp => by kwd_less)
                  · have hturn := hturn (by walk_at "mO")
                    refine Stopped.go (notin_four (by k_asm) (by kwd_less) (by kwd_less) (by kwd_less) (by kwd_less) (by kwd_less) (by kwd_less) (by walk_at "mO") (by walk_at "mO") (by ke_room) ?_)
                    k_steps
                    try dsimp only
                    exact Same.intro (by k_asm) (by k_asm) (fun p hp => by kwd_less)
              · intro h6 tk6 F6 N6
                try dsimp only
                k_steps
                · try dsimp only
                  refine hnext _ _ _ _ _ _ (by k_asm) (by k_asm) (by kwd_less) rfl rfl (fun y h1 h2 => ?_) ⟨ι', ad', dd', R', o', st', es', _, _, _, _, _, _, by ktr_rel, qs9, hel9, hst9, by kwd_less, ⟨_, _, by kwd_less, by assumption⟩, by kwd_less, by kwd_less, by kwd_less, by with_reducible assumption, by with_reducible assumption, by kwd_less⟩
                  have a0 := bs2_ne h2
                  have a1 := a0.1
                  have a2 := a0.2.1
                  have a3 := a0.2.2.1
                  have a4 := a0.2.2.2.1
                  have a5 := a0.2.2.2.2.1
                  have a6 := a0.2.2.2.2.2.1
                  have a7 := a0.2.2.2.2.2.2.1
                  have a8 := a0.2.2.2.2.2.2.2.1
                  have a9 := a0.2.2.2.2.2.2.2.2.1
                  have a10 := a0.2.2.2.2.2.2.2.2.2.1
                  have a11 := a0.2.2.2.2.2.2.2.2.2.2.1
                  have a12 := a0.2.2.2.2.2.2.2.2.2.2.2.1
                  have a13 := a0.2.2.2.2.2.2.2.2.2.2.2.2
                  try dsimp only
                  repeat (first | refine over_peel (by with_reducible assumption) ?_ | refine ite_peel (by with_reducible assumption) ?_)
                  exact over_one hnum y
                · refine Stopped.go (merge_undone (by k_asm) (by k_asm) q (wpAny_If ?_) ?_)
                  · cases hdeed with
                    | joined ad'' lg' hadd =>
                      have hback := dele_back qs hia hib
                      try dsimp only
                      k_steps
                      exact Undone.intro (by k_asm) (by k_asm) (fun p hp hn => by kwd_less) (QE.back (by ktr_rel) hadd hback) (fun k => by apply_assumption)
                    | spliced =>
                      have hback := splice_back qs hia hib
                      try dsimp only
                      k_steps
                      exact Undone.intro (by k_asm) (by k_asm) (fun p hp hn => by kwd_less) (by rw [← hback]; ktr_rel) (by with_reducible assumption)
                  · intro dd2 st2 h7 tk7 led7 F7 N7 S7 q7 hst7
                    try dsimp only
                    k_steps
                    refine Stopped.go (ne_rows (by k_asm) (by kwd_less) (by kwd_less) (by ktd_rel) (by ktd_rel) (by ktd_rel) (by ktd_rel) (by with_reducible assumption) (by with_reducible assumption) (by with_reducible assumption) (by with_reducible assumption) (by ke_room) rfl rfl ?_)
                    k_steps
                    try dsimp only
                    refine hnext _ _ _ _ _ _ (by k_asm) (by k_asm) (by kwd_less) rfl rfl (fun y h1 h2 => ?_) ⟨ι, ad, dd2, R, oo, st2, es, _, _, _, _, _, _, by ktr_rel, qs, hel, hst7, by kwd_less, ⟨_, _, by kwd_less, by assumption⟩, by kwd_less, by kwd_less, by kwd_less, by with_reducible assumption, by with_reducible assumption, by kwd_less⟩
                    have a0 := bs2_ne h2
                    have a1 := a0.1
                    have a2 := a0.2.1
                    have a3 := a0.2.2.1
                    have a4 := a0.2.2.2.1
                    have a5 := a0.2.2.2.2.1
                    have a6 := a0.2.2.2.2.2.1
                    have a7 := a0.2.2.2.2.2.2.1
                    have a8 := a0.2.2.2.2.2.2.2.1
                    have a9 := a0.2.2.2.2.2.2.2.2.1
                    have a10 := a0.2.2.2.2.2.2.2.2.2.1
                    have a11 := a0.2.2.2.2.2.2.2.2.2.2.1
                    have a12 := a0.2.2.2.2.2.2.2.2.2.2.2.1
                    have a13 := a0.2.2.2.2.2.2.2.2.2.2.2.2
                    try dsimp only
                    repeat (first | refine over_peel (by with_reducible assumption) ?_ | refine ite_peel (by with_reducible assumption) ?_)
                    exact over_one hnum y
      · k_steps
)

end Mine
theorem PySem.Challenge.cw_ba0047_01_holds : PySem.Challenge.rw_ba0047_01.Holds :=
  Mine.law_walk

