import PyProof.Rows.All
import Wide.All
import OpenK.AllK
import Wide.FinOn
import Lean
import PySem.Challenge.RW_pd0179_01
set_option linter.all false
open PySem PySem.W PyProof.Rows
set_option Elab.async false
set_option maxRecDepth 100000
set_option maxHeartbeats 8000000
namespace Mine
theorem same_find : PySem.Manifest.find? = PySem.Manifest.find? := rfl
name_quick tw8075568018651887793 for PySem.Manifest.find? by same_find
name_quick tw6733733256287894996 for PySem.Manifest.find? by same_find
name_quick tw4224760802259116069 for PySem.Manifest.find? by same_find
name_quick tw8889480886681529270 for PySem.Manifest.find? by same_find
name_quick tw14979626087600564940 for PySem.Manifest.find? by same_find
name_quick tw18157675210492122593 for PySem.Manifest.find? by same_find
name_quick tw14974156573754707785 for PySem.Manifest.find? by same_find
name_quick tw3934468551298956420 for PySem.Manifest.find? by same_find
name_quick tw12880600461018141596 for PySem.Manifest.find? by same_find
name_quick tw15587867472590373358 for PySem.Manifest.find? by same_find
name_quick tw12365861533281473505 for PySem.Manifest.find? by same_find
name_quick tw8686526503394165142 for PySem.Manifest.find? by same_find
name_quick tw15766043655864335149 for PySem.Manifest.find? by same_find
name_quick tw9458956999447867950 for PySem.Manifest.find? by same_find
name_quick tw3129706707597842070 for PySem.Manifest.find? by same_find
name_quick tw7131626054202286345 for PySem.Manifest.find? by same_find
name_quick tw15261043813070345055 for PySem.Manifest.find? by same_find
name_quick tw2413185636571951891 for PySem.Manifest.find? by same_find
name_quick tw1092655722715705105 for PySem.Manifest.find? by same_find
name_quick tw17954471519018878134 for PySem.Manifest.find? by same_find
name_quick tw1537898542681612871 for PySem.Manifest.find? by same_find
name_quick tw10996506086634736982 for PySem.Manifest.find? by same_find
name_quick tw14821650378409806113 for PySem.Manifest.find? by same_find
name_quick tw2039238271031011813 for PySem.Manifest.find? by same_find
name_quick tw15168306246750427876 for PySem.Manifest.find? by same_find
name_quick tw16817318245366136608 for PySem.Manifest.find? by same_find
name_quick tw7378761846476686904 for PySem.Manifest.find? by same_find
name_quick tw43969757491396457 for PySem.Manifest.find? by same_find
name_quick tw16804044748790271530 for PySem.Manifest.find? by same_find
name_quick tw2719445374943340272 for PySem.Manifest.find? by same_find
name_quick tw11853533878840232495 for PySem.Manifest.find? by same_find
name_quick tw16643379632663270332 for PySem.Manifest.find? by same_find
name_quick tw11964429278604863157 for PySem.Manifest.find? by same_find
name_quick tw10706342367453228570 for PySem.Manifest.find? by same_find
name_quick tw15663404670287596823 for PySem.Manifest.find? by same_find
name_quick tw10938465397075749097 for PySem.Manifest.find? by same_find
name_quick tw8753696776887207221 for PySem.Manifest.find? by same_find
name_quick tw505943868828395459 for PySem.Manifest.find? by same_find
name_quick tw2478078296215019888 for PySem.Manifest.find? by same_find
name_quick tw17100903815162463580 for PySem.Manifest.find? by same_find
name_quick tw136631920214876835 for PySem.Manifest.find? by same_find
name_quick tw313226197891681235 for PySem.Manifest.find? by same_find
name_quick tw4071324889030633612 for PySem.Manifest.find? by same_find
name_quick tw6662432510661729299 for PySem.Manifest.find? by same_find
name_quick tw15480198773659482676 for PySem.Manifest.find? by same_find
name_quick tw4636218855388986860 for PySem.Manifest.find? by same_find
name_quick tw4444965560193506482 for PySem.Manifest.find? by same_find
name_quick tw14530364306720264245 for PySem.Manifest.find? by same_find
name_quick tw16593013826814733010 for PySem.Manifest.find? by same_find
name_quick tw17672482021469178181 for PySem.Manifest.find? by same_find
name_quick tw14376985748213822385 for PySem.Manifest.find? by same_find
name_quick tw7250012664060256230 for PySem.Manifest.find? by same_find
name_quick tw18101931140130867144 for PySem.Manifest.find? by same_find
name_quick tw3131671291697673992 for PySem.Manifest.find? by same_find
name_quick tw5591276700874282246 for PySem.Manifest.find? by same_find
name_quick tw9948023125614773506 for PySem.Manifest.find? by same_find
name_quick tw3424931102881643321 for PySem.Manifest.find? by same_find
name_quick tw6817277305950994716 for PySem.Manifest.find? by same_find
name_quick tw9011979029575296479 for PySem.Manifest.find? by same_find
name_quick tw4797165386629745026 for PySem.Manifest.find? by same_find
name_quick tw3093977132361051618 for PySem.Manifest.find? by same_find
name_quick tw17057272898397164401 for PySem.Manifest.find? by same_find
name_quick tw17804436615005485693 for PySem.Manifest.find? by same_find
name_quick tw14714103240675001986 for PySem.Manifest.find? by same_find
name_quick tw4075660801711882420 for PySem.Manifest.find? by same_find
name_quick tw13988732525274261415 for PySem.Manifest.find? by same_find
name_quick tw57612305304379694 for PySem.Manifest.find? by same_find
name_quick tw8708707556590381134 for PySem.Manifest.find? by same_find
name_quick tw10942035263794033107 for PySem.Manifest.find? by same_find
name_quick tw3636048126100218174 for PySem.Manifest.find? by same_find
name_quick tw7496433998918960881 for PySem.Manifest.find? by same_find
name_quick tw3698559305507148144 for PySem.Manifest.find? by same_find
name_quick tw9518749785886187100 for PySem.Manifest.find? by same_find
name_quick tw16322415745300102972 for PySem.Manifest.find? by same_find
name_quick tw5517004485348247490 for PySem.Manifest.find? by same_find
name_quick tw1258299570235058372 for PySem.Manifest.find? by same_find
name_quick tw9908251947323293946 for PySem.Manifest.find? by same_find
name_quick tw3264259588550801142 for PySem.Manifest.find? by same_find
name_quick tw6683783046931543321 for PySem.Manifest.find? by same_find
name_quick tw5189142188285759775 for PySem.Manifest.find? by same_find
name_quick tw9594665118957945026 for PySem.Manifest.find? by same_find
name_quick tw10364871936736126669 for PySem.Manifest.find? by same_find
name_quick tw2354135333415324597 for PySem.Manifest.find? by same_find
name_quick tw1706496860858754268 for PySem.Manifest.find? by same_find
name_quick tw4549333791460862111 for PySem.Manifest.find? by same_find
name_quick tw9787463984185863102 for PySem.Manifest.find? by same_find
name_quick tw15204781007991603358 for PySem.Manifest.find? by same_find
name_quick tw7650934615059315214 for PySem.Manifest.find? by same_find
name_quick tw16241802466949684156 for PySem.Manifest.find? by same_find
name_quick tw5345256250457102556 for PySem.Manifest.find? by same_find
name_quick tw7299951869573292228 for PySem.Manifest.find? by same_find
name_quick tw6380047634161181297 for PySem.Manifest.find? by same_find
name_quick tw18260038339965228139 for PySem.Manifest.find? by same_find
name_quick tw5882768191206486792 for PySem.Manifest.find? by same_find
name_quick tw9529234661008812162 for PySem.Manifest.find? by same_find
name_quick tw17964007177503468958 for PySem.Manifest.find? by same_find
name_quick tw9800571698397750058 for PySem.Manifest.find? by same_find
name_quick tw3764465048917985505 for PySem.Manifest.find? by same_find
name_quick tw12832477231654346042 for PySem.Manifest.find? by same_find
name_quick tw11729385059970357855 for PySem.Manifest.find? by same_find
name_quick tw12122571135941518997 for PySem.Manifest.find? by same_find
name_quick tw4558998842232669794 for PySem.Manifest.find? by same_find
name_quick tw9931943479562821362 for PySem.Manifest.find? by same_find
name_quick tw14553827428707814869 for PySem.Manifest.find? by same_find
name_quick tw15560500314895047343 for PySem.Manifest.find? by same_find
name_quick tw1333364371103165705 for PySem.Manifest.find? by same_find
name_quick tw14326252917377295143 for PySem.Manifest.find? by same_find
name_quick tw2862820112641550484 for PySem.Manifest.find? by same_find
name_quick tw151948405760981731 for PySem.Manifest.find? by same_find
name_quick tw11939915149646268982 for PySem.Manifest.find? by same_find
name_quick tw8860024209350480642 for PySem.Manifest.find? by same_find
name_quick tw11310463157757771331 for PySem.Manifest.find? by same_find
name_quick tw470574548607681690 for PySem.Manifest.find? by same_find
name_quick tw3972328310683599613 for PySem.Manifest.find? by same_find
name_quick tw3442601649717412197 for PySem.Manifest.find? by same_find
name_quick tw10317580896714288900 for PySem.Manifest.find? by same_find
name_quick tw17517737089405305841 for PySem.Manifest.find? by same_find
name_quick tw14056289421387845279 for PySem.Manifest.find? by same_find
name_quick tw11445135464325071761 for PySem.Manifest.find? by same_find
name_quick tw15475462885187679331 for PySem.Manifest.find? by same_find
name_quick tw282004115355043989 for PySem.Manifest.find? by same_find
name_quick tw6929956602132211858 for PySem.Manifest.find? by same_find
name_quick tw14433975572909055671 for PySem.Manifest.find? by same_find
name_quick tw16916688483869632129 for PySem.Manifest.find? by same_find
name_quick tw3587173488609505152 for PySem.Manifest.find? by same_find
name_quick tw15450981722951097364 for PySem.Manifest.find? by same_find
name_quick tw16374537267813192141 for PySem.Manifest.find? by same_find
name_quick tw11306939235166856333 for PySem.Manifest.find? by same_find
name_quick tw17164873540382356111 for PySem.Manifest.find? by same_find
name_quick tw14884601019740666482 for PySem.Manifest.find? by same_find
name_quick tw13236226663087606529 for PySem.Manifest.find? by same_find
name_quick tw16531745337717519161 for PySem.Manifest.find? by same_find
name_quick tw1702518465993881591 for PySem.Manifest.find? by same_find
name_quick tw13615603153576403970 for PySem.Manifest.find? by same_find
name_quick tw10227693086864044499 for PySem.Manifest.find? by same_find
name_quick tw3105397867545767578 for PySem.Manifest.find? by same_find
name_quick tw12268644228514654432 for PySem.Manifest.find? by same_find
name_quick tw15894407043143930727 for PySem.Manifest.find? by same_find
name_quick tw12635297910168745909 for PySem.Manifest.find? by same_find
name_quick tw15490439104401381959 for PySem.Manifest.find? by same_find
name_quick tw6122645084068987007 for PySem.Manifest.find? by same_find
name_quick tw13559156169165276386 for PySem.Manifest.find? by same_find
name_quick tw7392212959928792091 for PySem.Manifest.find? by same_find
name_quick tw5349121933718820234 for PySem.Manifest.find? by same_find
name_quick tw9501820088010722379 for PySem.Manifest.find? by same_find
name_quick tw347637069881736656 for PySem.Manifest.find? by same_find
name_quick tw13678640442995254988 for PySem.Manifest.find? by same_find
name_quick tw3094477031063562474 for PySem.Manifest.find? by same_find
name_quick tw5978237884098788730 for PySem.Manifest.find? by same_find
name_quick tw3856783459128436802 for PySem.Manifest.find? by same_find
name_quick tw2334299552400917057 for PySem.Manifest.find? by same_find
name_quick tw9467589175468403638 for PySem.Manifest.find? by same_find
name_quick tw6679490504615227074 for PySem.Manifest.find? by same_find
name_quick tw11588390666370768167 for PySem.Manifest.find? by same_find
name_quick tw11378322030455005005 for PySem.Manifest.find? by same_find
name_quick tw16846860572762119324 for PySem.Manifest.find? by same_find
name_quick tw14333388528381170442 for PySem.Manifest.find? by same_find
name_quick tw3619232141914619222 for PySem.Manifest.find? by same_find
name_quick tw5357591511691535388 for PySem.Manifest.find? by same_find
name_quick tw4527066259768149269 for PySem.Manifest.find? by same_find
name_quick tw13036272033356848781 for PySem.Manifest.find? by same_find
name_quick tw16049961110935095269 for PySem.Manifest.find? by same_find
name_quick tw11277716924127702174 for PySem.Manifest.find? by same_find
name_quick tw17888162413812561239 for PySem.Manifest.find? by same_find
name_quick tw16349804527192203551 for PySem.Manifest.find? by same_find
name_quick tw1377046205977697930 for PySem.Manifest.find? by same_find
name_quick tw951843321253372498 for PySem.Manifest.find? by same_find
name_quick tw1574873078441994576 for PySem.Manifest.find? by same_find
name_quick tw9862997608875712007 for PySem.Manifest.find? by same_find
name_quick tw14834023430324568649 for PySem.Manifest.find? by same_find
name_quick tw6550987210724342151 for PySem.Manifest.find? by same_find
name_quick tw8017206721242287953 for PySem.Manifest.find? by same_find
name_quick tw7721631327575515661 for PySem.Manifest.find? by same_find
name_quick tw5135500740108067664 for PySem.Manifest.find? by same_find
name_quick tw18345786424863182364 for PySem.Manifest.find? by same_find
name_quick tw13145125596335152023 for PySem.Manifest.find? by same_find
name_quick tw17069979004554194336 for PySem.Manifest.find? by same_find
name_quick tw10323183001455561277 for PySem.Manifest.find? by same_find
name_quick tw17846936440860909165 for PySem.Manifest.find? by same_find
name_quick tw8719427161674164953 for PySem.Manifest.find? by same_find
name_quick tw18350330562280901221 for PySem.Manifest.find? by same_find
name_quick tw13789449189825218787 for PySem.Manifest.find? by same_find
name_quick tw10948738476641704880 for PySem.Manifest.find? by same_find
name_quick tw5111356299099525756 for PySem.Manifest.find? by same_find
name_quick tw13981391230805400906 for PySem.Manifest.find? by same_find
name_quick tw4658958612460137192 for PySem.Manifest.find? by same_find
name_quick tw11130039905162102590 for PySem.Manifest.find? by same_find
name_quick tw4775785305629353868 for PySem.Manifest.find? by same_find
name_quick tw11270796479367742343 for PySem.Manifest.find? by same_find
name_quick tw17975652961387846372 for PySem.Manifest.find? by same_find
name_quick tw2627984346626558326 for PySem.Manifest.find? by same_find
name_quick tw7892128664451923741 for PySem.Manifest.find? by same_find
name_quick tw2460228577881660442 for PySem.Manifest.find? by same_find
name_quick tw13141144453892091621 for PySem.Manifest.find? by same_find
name_quick tw460243522976405022 for PySem.Manifest.find? by same_find
name_quick tw7198390536060210744 for PySem.Manifest.find? by same_find
name_quick tw14108194823987119177 for PySem.Manifest.find? by same_find
name_quick tw387338674003428930 for PySem.Manifest.find? by same_find
name_quick tw3362959441861295915 for PySem.Manifest.find? by same_find
name_quick tw17274371674624000324 for PySem.Manifest.find? by same_find
name_quick tw14224011070414065920 for PySem.Manifest.find? by same_find
name_quick tw12233582284571471492 for PySem.Manifest.find? by same_find
name_quick tw10010936943081839664 for PySem.Manifest.find? by same_find
name_quick tw9979284746773624096 for PySem.Manifest.find? by same_find
name_quick tw5902227825499142635 for PySem.Manifest.find? by same_find
name_quick tw13254397897704925713 for PySem.Manifest.find? by same_find
name_quick tw18132841703628828796 for PySem.Manifest.find? by same_find
name_quick tw15742981410569661332 for PySem.Manifest.find? by same_find
name_quick tw11420187438672877268 for PySem.Manifest.find? by same_find
name_quick tw5032809538720368765 for PySem.Manifest.find? by same_find
name_quick tw9151444980202551346 for PySem.Manifest.find? by same_find
name_quick tw7275051467321613617 for PySem.Manifest.find? by same_find
name_quick tw4980102563643897964 for PySem.Manifest.find? by same_find
name_quick tw11013792430000457035 for PySem.Manifest.find? by same_find
name_quick tw13900631225919944168 for PySem.Manifest.find? by same_find
name_quick tw13317431791736044220 for PySem.Manifest.find? by same_find
name_quick tw18211773271919218964 for PySem.Manifest.find? by same_find
name_quick tw16740014040850949004 for PySem.Manifest.find? by same_find
name_quick tw3976722010076183465 for PySem.Manifest.find? by same_find
name_quick tw11788150170368784547 for PySem.Manifest.find? by same_find
name_quick tw18220123701641295943 for PySem.Manifest.find? by same_find
name_quick tw3820604794100220378 for PySem.Manifest.find? by same_find
name_quick tw17730448691065144110 for PySem.Manifest.find? by same_find
name_quick tw3766158894648301139 for PySem.Manifest.find? by same_find
name_quick tw3560238982266916124 for PySem.Manifest.find? by same_find
name_quick tw4978915544186085027 for PySem.Manifest.find? by same_find
name_quick tw1962928258387122110 for PySem.Manifest.find? by same_find
name_quick tw183835017167291270 for PySem.Manifest.find? by same_find
name_quick tw12866136484021002089 for PySem.Manifest.find? by same_find
name_quick tw10205541121877940668 for PySem.Manifest.find? by same_find
name_quick tw682011567655089306 for PySem.Manifest.find? by same_find
name_quick tw7269565832213808900 for PySem.Manifest.find? by same_find
name_quick tw12290603225136948437 for PySem.Manifest.find? by same_find
name_quick tw7401281599722004195 for PySem.Manifest.find? by same_find
name_quick tw10029231156530900338 for PySem.Manifest.find? by same_find
name_quick tw9136488742655976645 for PySem.Manifest.find? by same_find
name_quick tw1620339239838986703 for PySem.Manifest.find? by same_find
name_quick tw2408619945344806742 for PySem.Manifest.find? by same_find
name_quick tw8703263022893421829 for PySem.Manifest.find? by same_find
name_quick tw704327219915372674 for PySem.Manifest.find? by same_find
name_quick tw6448080314894763839 for PySem.Manifest.find? by same_find
name_quick tw3282434896037501709 for PySem.Manifest.find? by same_find
name_quick tw15980859228951719591 for PySem.Manifest.find? by same_find
name_quick tw5721027456603625697 for PySem.Manifest.find? by same_find
name_quick tw11985326045990495214 for PySem.Manifest.find? by same_find
name_quick tw392140993173905013 for PySem.Manifest.find? by same_find
name_quick tw7615264395923872581 for PySem.Manifest.find? by same_find
name_quick tw7249307268997179994 for PySem.Manifest.find? by same_find
name_quick tw6980452841517184909 for PySem.Manifest.find? by same_find
name_quick tw3966717264747991198 for PySem.Manifest.find? by same_find
name_quick tw17016373728026468306 for PySem.Manifest.find? by same_find
name_quick tw16999406412319421078 for PySem.Manifest.find? by same_find
name_quick tw16014048196230000526 for PySem.Manifest.find? by same_find
name_quick tw11075218271163461481 for PySem.Manifest.find? by same_find
name_quick tw17476080006546285661 for PySem.Manifest.find? by same_find
name_quick tw16018607276475445134 for PySem.Manifest.find? by same_find
name_quick tw1258717718454355964 for PySem.Manifest.find? by same_find
name_quick tw6434138532213402376 for PySem.Manifest.find? by same_find
name_quick tw3577408171920636059 for PySem.Manifest.find? by same_find
name_quick tw17532440430192770315 for PySem.Manifest.find? by same_find
name_quick tw15278061642289888581 for PySem.Manifest.find? by same_find
name_quick tw117213463901210413 for PySem.Manifest.find? by same_find
name_quick tw9407582987413476825 for PySem.Manifest.find? by same_find
name_quick tw6654550962395885724 for PySem.Manifest.find? by same_find
name_quick tw5200128776193632040 for PySem.Manifest.find? by same_find
name_quick tw9763268239775435451 for PySem.Manifest.find? by same_find
name_quick tw8642067239939848140 for PySem.Manifest.find? by same_find
name_quick tw8595292554425487202 for PySem.Manifest.find? by same_find
name_quick tw6711915476519705758 for PySem.Manifest.find? by same_find
name_quick tw6004533443673955352 for PySem.Manifest.find? by same_find
name_quick tw5706481520468235054 for PySem.Manifest.find? by same_find
name_quick tw5529568453561195837 for PySem.Manifest.find? by same_find
name_quick tw4552823106982906706 for PySem.Manifest.find? by same_find
name_quick tw3039592710220408265 for PySem.Manifest.find? by same_find
name_quick tw16697116713213952808 for PySem.Manifest.find? by same_find
name_quick tw14311459727803291754 for PySem.Manifest.find? by same_find
name_quick tw12850107946570832962 for PySem.Manifest.find? by same_find
name_quick tw11636919720809706868 for PySem.Manifest.find? by same_find
name_quick tw11313170107247368264 for PySem.Manifest.find? by same_find
name_quick tw10887116778572429059 for PySem.Manifest.find? by same_find
name_quick tw9759809726879904816 for PySem.Manifest.find? by same_find
name_quick tw9564595351457756722 for PySem.Manifest.find? by same_find
name_quick tw9315938663221665524 for PySem.Manifest.find? by same_find
name_quick tw900395245841561262 for PySem.Manifest.find? by same_find
name_quick tw8693227569615203950 for PySem.Manifest.find? by same_find
name_quick tw8537084889766193716 for PySem.Manifest.find? by same_find
name_quick tw8424611434330503625 for PySem.Manifest.find? by same_find
name_quick tw8376441433122354887 for PySem.Manifest.find? by same_find
name_quick tw8206430501311747189 for PySem.Manifest.find? by same_find
name_quick tw7581352650102555174 for PySem.Manifest.find? by same_find
name_quick tw7276740287692124622 for PySem.Manifest.find? by same_find
name_quick tw6792406925840432001 for PySem.Manifest.find? by same_find
name_quick tw662354867322794072 for PySem.Manifest.find? by same_find
name_quick tw6589095468515690095 for PySem.Manifest.find? by same_find
name_quick tw6245536207120538393 for PySem.Manifest.find? by same_find
name_quick tw5268983451555188008 for PySem.Manifest.find? by same_find
name_quick tw5076957145309523181 for PySem.Manifest.find? by same_find
name_quick tw4933834842325187142 for PySem.Manifest.find? by same_find
name_quick tw4748654258956052638 for PySem.Manifest.find? by same_find
name_quick tw4679858250743294509 for PySem.Manifest.find? by same_find
name_quick tw4319705520415482375 for PySem.Manifest.find? by same_find
name_quick tw4302124980754421698 for PySem.Manifest.find? by same_find
name_quick tw4011157648589011858 for PySem.Manifest.find? by same_find
name_quick tw2905824091091238844 for PySem.Manifest.find? by same_find
name_quick tw2664551874359636763 for PySem.Manifest.find? by same_find
name_quick tw2660918139993853925 for PySem.Manifest.find? by same_find
name_quick tw2422670821966735624 for PySem.Manifest.find? by same_find
name_quick tw2283851925072248500 for PySem.Manifest.find? by same_find
name_quick tw18340240734955500558 for PySem.Manifest.find? by same_find
name_quick tw1829445100760108279 for PySem.Manifest.find? by same_find
name_quick tw18056578402003937789 for PySem.Manifest.find? by same_find
name_quick tw17828083071136270317 for PySem.Manifest.find? by same_find
name_quick tw17730428716208468724 for PySem.Manifest.find? by same_find
name_quick tw17552769576498331613 for PySem.Manifest.find? by same_find
name_quick tw17532718790514356516 for PySem.Manifest.find? by same_find
name_quick tw17497748084772794779 for PySem.Manifest.find? by same_find
name_quick tw17279654841073493023 for PySem.Manifest.find? by same_find
name_quick tw17000155066101142889 for PySem.Manifest.find? by same_find
name_quick tw16966814322356759819 for PySem.Manifest.find? by same_find
name_quick tw16752143609539240740 for PySem.Manifest.find? by same_find
name_quick tw16643706677886111943 for PySem.Manifest.find? by same_find
name_quick tw16548257151911338427 for PySem.Manifest.find? by same_find
name_quick tw16414604833108395602 for PySem.Manifest.find? by same_find
name_quick tw16350708796919097252 for PySem.Manifest.find? by same_find
name_quick tw16145008321745377990 for PySem.Manifest.find? by same_find
name_quick tw15919542637913265678 for PySem.Manifest.find? by same_find
name_quick tw15263041282635125899 for PySem.Manifest.find? by same_find
name_quick tw14386061602966655976 for PySem.Manifest.find? by same_find
name_quick tw14223099787259518943 for PySem.Manifest.find? by same_find
name_quick tw14168537005229113720 for PySem.Manifest.find? by same_find
name_quick tw14126943448341045398 for PySem.Manifest.find? by same_find
name_quick tw1402947280878808549 for PySem.Manifest.find? by same_find
name_quick tw14023627001141898710 for PySem.Manifest.find? by same_find
name_quick tw13759679279233594173 for PySem.Manifest.find? by same_find
name_quick tw13512673800721320934 for PySem.Manifest.find? by same_find
name_quick tw13180171748994924942 for PySem.Manifest.find? by same_find
name_quick tw1291980286583624508 for PySem.Manifest.find? by same_find
name_quick tw12767683915131110723 for PySem.Manifest.find? by same_find
name_quick tw12659028871203227004 for PySem.Manifest.find? by same_find
name_quick tw11625766737575182897 for PySem.Manifest.find? by same_find
name_quick tw11543547407058413889 for PySem.Manifest.find? by same_find
name_quick tw11452132507678324671 for PySem.Manifest.find? by same_find
name_quick tw11333186260410459676 for PySem.Manifest.find? by same_find
name_quick tw11186114360453789277 for PySem.Manifest.find? by same_find
name_quick tw10528696920762540405 for PySem.Manifest.find? by same_find
name_quick tw10314498396905981064 for PySem.Manifest.find? by same_find
name_quick tw10073347824450446311 for PySem.Manifest.find? by same_find
name_quick tw8579058602437062094 for PySem.Manifest.find? by same_find
name_quick tw721709456127091705 for PySem.Manifest.find? by same_find
name_quick tw6019396324639902685 for PySem.Manifest.find? by same_find
name_quick tw3778451253796500701 for PySem.Manifest.find? by same_find
name_quick tw17018628822417861297 for PySem.Manifest.find? by same_find
name_quick tw12813236842856870187 for PySem.Manifest.find? by same_find
open_top hd for PySem.Challenge.rw_pd0179_01
end Mine
section
namespace Mine
open PySem.Calls PySem.Spec
set_option compiler.extract_closed false
local macro_rules | `(tactic| omega) => `(tactic| lia)
section
set_option maxRecDepth 100000
set_option maxHeartbeats 8000000
set_option compiler.extract_closed false
/-- the goal put aside, while facts are taken apart -/
theorem hide {G : Prop} (h : ∀ P : Prop, (G → P) → P) : G := h G id
noncomputable abbrev Led := List (Addr × Obj)
/-! the walk in short terms: what follows, and the state, are named at each statement -/
/-- what follows a statement: the rest of the statements -/
def nextQ (M : Model) (A : Around) (rest : List Stmt) (env : Env) (Q : Flow → Shared → Prop) (E : Value → Shared → Prop) : Flow → Shared → Prop :=
  fun f s' => match f with | .next => wpAny M A (execs rest env) Q E s' | f => Q f s'
/-- a name of the frame bound anew -/
noncomputable def upd (x : Str) (v : Value) (m : Str → Option Value) : Str → Option Value := fun y => if y = x then some v else m y
/-- the frame of a call: its arguments, the last first -/
noncomputable def args (l : List (Str × Value)) : Str → Option Value := fun y => l.lookup y
/-- x is a local of the frame -/
noncomputable def isLoc (env : Env) (x : Str) : Bool := env.scope.kind == .function && env.kindOf x == some .local && x != ("__debug__" : Str)
theorem isLoc_is {env : Env} {x : Str} (h : isLoc env x = true) : env.scope.kind = .function ∧ env.kindOf x = some .local ∧ (x == ("__debug__" : Str)) = false := by
  unfold isLoc at h
  simp only [Bool.and_eq_true, bne_iff_ne, ne_eq] at h
  exact ⟨eq_of_beq h.1.1, eq_of_beq h.1.2, by simpa using h.2⟩
section
variable {M : Model} {A : Around} {E : Value → Shared → Prop} {s : Shared} {env : Env} {rest : List Stmt} {st : Stmt} {Q : Flow → Shared → Prop}
theorem cons_f (h : let qk := nextQ M A rest env Q E; let sk := s; wpAny M A (exec st env) qk E sk) : wpAny M A (execs (st :: rest) env) Q E s := wpAny_execs_cons h
theorem cons_1 (h : let sk := s; wpAny M A (exec st env) Q E sk) : wpAny M A (execs [st] env) Q E s :=
  wpAny_execs_cons (wpAny_mono h (fun f s' h' => by cases f <;> first | exact h' | exact wpAny_execs_nil h') (fun _ _ h' => h'))
theorem nextQ_next (h : wpAny M A (execs rest env) Q E s) : nextQ M A rest env Q E .next s := h
theorem nextQ_ret {v : Value} (h : Q (.ret v) s) : nextQ M A rest env Q E (.ret v) s := h
theorem fold3 {α : Type} {t : Sem α} {Q : α → Shared → Prop} (h : let qk := Q; let ek := E; let sk := s; wpAny M A t qk ek sk) : wpAny M A t Q E s := h
theorem nmL {h₀ : Heap} {m : Str → Option Value} {x : Str} {pos : Pos} {v : Value} {Q : Value → Shared → Prop} (F : Fr h₀ env.locals s.heap m := by k_asm) (hv : m x = some v := by exact Eq.refl (some _)) (h : Q v s) (hx : isLoc env x = true := by exact Eq.refl true) :
    wpAny M A (eval (.Name x pos) env) Q E s := wpAny_Name (wpAny_loadName_local (isLoc_is hx).1 (isLoc_is hx).2.1 F.ns hv h) (isLoc_is hx).2.2
theorem stU {h₀ : Heap} {m : Str → Option Value} {x : Str} {v : Value} {Q : Unit → Shared → Prop} {news : Led} (F : Fr h₀ env.locals s.heap m := by k_asm) (N : News h₀ env.locals s.heap news := by k_asm)
    (h : ∀ h', let mf := upd x v m; Fr h₀ env.locals h' mf → News h₀ env.locals h' news → Q () { s with heap := h', toks := s.toks + 1 }) (hx : isLoc env x = true := by exact Eq.refl true) :
    wpAny M A (storeName env x v) Q E s :=
  wpAny_storeName_local (isLoc_is hx).2.1 F.ns (fun h' hn hs => h h' (F.set hn hs) (N.set hs)) (by rw [(isLoc_is hx).1]; rfl)
end
noncomputable abbrev loose0 : List Str := looseW hd.view_39 [Str.ofString "_twin_re_8", Str.ofString "HEADER_TOKEN_RE", Str.ofString "HEADER_QUOTED_VALUE_RE",
    Str.ofString "HEADER_VALUE_RE", Str.ofString "HEADER_ESCAPE_RE", Str.ofString "HEADER_JOIN_TOKEN_RE",
    Str.ofString "HEADER_JOIN_ESCAPE_RE", Str.ofString "IPV4_RE"]
noncomputable abbrev theLoose : List Str := loose0 ++ (recsOf hd.view_39).map (·.name) ++ (litsOf hd.view_39).map (·.1) ++ (clssOf hd.view_39 loose0).map (·.name)
/-- all that stood stands -/
abbrev Stay (h h' : Heap) : Prop := ∀ b o, h.get? b = some o → h'.get? b = some o
/-- what a call of the def at f does: its arguments are the data args, it hands back the datum out; kp: nothing that stood is changed -/
def DT (kp pre : Prop) (w : World) (mean : ExcName → Option Value) (mg mb : Str → Option Value) (f : Addr) (sz : Nat) (args : List Dat) (out : Dat) : Prop :=
  ∀ (A : Around) (env : Env) (outer : List Env) (A₀ : Around) (base h₀ : Heap) (L : Addr) (m : Str → Option Value) (news : Led) (s : Shared) (vs : List Value) (Q E : Value → Shared → Prop),
    A.handled = none → A.frames = some (env :: outer) → env.frame = some L → env.scope.kind = .function → A.depth + sz < recursionLimit → A.units + 8 * sz < cLine →
    Below A₀ base outer h₀ → Fr h₀ L s.heap m → (hd.heap_39 w.params).In h₀ → News h₀ L s.heap news → Top topProg theLoose mean mg mb h₀ → DatAll news vs args → pre →
    (∀ r tl h' tk', Fr h₀ L h' m → News h₀ L h' (tl ++ news) → (∀ p ∈ tl, ∀ q ∈ news, q.1 < p.1) → (kp → Stay s.heap h') → DatIn (tl ++ news) r out → Q r { s with heap := h', toks := tk' }) →
    wpAny (model Challenge.rw_pd0179_01.prog w) A (call (.ref f) vs) Q E s
/-- as DT, and what is handed back is wholly new -/
def DTF (kp pre : Prop) (w : World) (mean : ExcName → Option Value) (mg mb : Str → Option Value) (f : Addr) (sz : Nat) (args : List Dat) (out : Dat) : Prop :=
  ∀ (A : Around) (env : Env) (outer : List Env) (A₀ : Around) (base h₀ : Heap) (L : Addr) (m : Str → Option Value) (news : Led) (s : Shared) (vs : List Value) (Q E : Value → Shared → Prop),
    A.handled = none → A.frames = some (env :: outer) → env.frame = some L → env.scope.kind = .function → A.depth + sz < recursionLimit → A.units + 8 * sz < cLine →
    Below A₀ base outer h₀ → Fr h₀ L s.heap m → (hd.heap_39 w.params).In h₀ → News h₀ L s.heap news → Top topProg theLoose mean mg mb h₀ → DatAll news vs args → pre →
    (∀ r tl h' tk', Fr h₀ L h' m → News h₀ L h' (tl ++ news) → (∀ p ∈ tl, ∀ q ∈ news, q.1 < p.1) → (kp → Stay s.heap h') → DatIn tl r out → Q r { s with heap := h', toks := tk' }) →
    wpAny (model Challenge.rw_pd0179_01.prog w) A (call (.ref f) vs) Q E s
/-- the same of the values vs over the ledger news; c: where the answer's data lie -/
def VT (c : Led → Led → Led) (kp : Prop) (w : World) (mean : ExcName → Option Value) (mg mb : Str → Option Value) (f : Addr) (sz : Nat) (news : Led) (vs : List Value) (out : Dat) : Prop :=
  ∀ (A : Around) (env : Env) (outer : List Env) (A₀ : Around) (base h₀ : Heap) (L : Addr) (m : Str → Option Value) (s : Shared) (Q E : Value → Shared → Prop),
    A.handled = none → A.frames = some (env :: outer) → env.frame = some L → env.scope.kind = .function → A.depth + sz < recursionLimit → A.units + 8 * sz < cLine →
    Below A₀ base outer h₀ → Fr h₀ L s.heap m → (hd.heap_39 w.params).In h₀ → News h₀ L s.heap news → Top topProg theLoose mean mg mb h₀ →
    (∀ r tl h' tk', Fr h₀ L h' m → News h₀ L h' (tl ++ news) → (∀ p ∈ tl, ∀ q ∈ news, q.1 < p.1) → (kp → Stay s.heap h') → DatIn (c tl news) r out → Q r { s with heap := h', toks := tk' }) →
    wpAny (model Challenge.rw_pd0179_01.prog w) A (call (.ref f) vs) Q E s
/-! facts taken apart by lemmas: short proofs -/
section
variable {nx : Led} {vs : List Value} {v : Value} {P : Value → Prop} {R : List Value → Prop} {x y : Str} {i : Int} {b : Bool} {d : Dat} {ds es : List Dat}
theorem iv0 (h : DatAll nx vs []) (H : R []) : R vs := by cases h; exact H
theorem ivc (h : DatAll nx vs (d :: ds)) (H : ∀ v r, DatIn nx v d → DatAll nx r ds → R (v :: r)) : R vs := by cases h with | cons h1 h2 => exact H _ _ h1 h2
theorem ivs (h : DatIn nx v (.str x)) (H : ∀ t, P (.str x t)) : P v := by cases h; exact H _
theorem ivi (h : DatIn nx v (.int i)) (H : ∀ t, P (.int i t)) : P v := by cases h; exact H _
theorem ivb (h : DatIn nx v (.bool b)) (H : P (.bool b)) : P v := by cases h; exact H
theorem ivn (h : DatIn nx v .none) (H : P .none) : P v := by cases h; exact H
theorem ivl (h : DatIn nx v (.list ds)) (H : ∀ a ws n, (a, listOf ws.toArray n) ∈ nx → DatAll nx ws ds → P (.ref a)) : P v := by cases h with | list h1 h2 => exact H _ _ _ h1 h2
theorem ivt (h : DatIn nx v (.tuple ds)) (H : ∀ a ws n, (a, ({ cls := .type "tuple", data := .seq ws.toArray n } : Obj)) ∈ nx → DatAll nx ws ds → P (.ref a)) : P v := by cases h with | tuple h1 h2 => exact H _ _ _ h1 h2
theorem ivr {a : Addr} {G : Prop} (h : DatIn nx (.ref a) (.list ds)) (H : ∀ ws n, (a, listOf ws.toArray n) ∈ nx → DatAll nx ws ds → G) : G := by cases h with | list h1 h2 => exact H _ _ h1 h2
theorem iv1s (h : DatAll nx vs [.str x]) (H : ∀ t, R [.str x t]) : R vs :=
  ivc h fun v _ h1 h2 => iv0 (R := fun r => R (v :: r)) h2 (ivs (P := fun v => R [v]) h1 H)
theorem iv2ss (h : DatAll nx vs [.str x, .str y]) (H : ∀ t u, R [.str x t, .str y u]) : R vs :=
  ivc h fun v _ h1 h2 => iv1s (R := fun r => R (v :: r)) h2 fun u => ivs (P := fun v => R [v, .str y u]) h1 fun t => H t u
theorem iv2si (h : DatAll nx vs [.str x, .int i]) (H : ∀ t u, R [.str x t, .int i u]) : R vs :=
  ivc h fun v _ h1 h2 => ivc (R := fun r => R (v :: r)) h2 fun v2 _ h3 h4 => iv0 (R := fun r => R (v :: v2 :: r)) h4 (ivi (P := fun v2 => R [v, v2]) h3 fun u => ivs (P := fun v => R [v, .int i u]) h1 fun t => H t u)
theorem iv1l (h : DatAll nx vs [.list ds]) (H : ∀ a ws n, (a, listOf ws.toArray n) ∈ nx → DatAll nx ws ds → R [.ref a]) : R vs :=
  ivc h fun v _ h1 h2 => iv0 (R := fun r => R (v :: r)) h2 (ivl (P := fun v => R [v]) h1 H)
theorem iv2sl (h : DatAll nx vs [.str x, .list ds]) (H : ∀ t a ws n, (a, listOf ws.toArray n) ∈ nx → DatAll nx ws ds → R [.str x t, .ref a]) : R vs :=
  ivc h fun v _ h1 h2 => iv1l (R := fun r => R (v :: r)) h2 fun a ws n p q => ivs (P := fun v => R [v, .ref a]) h1 fun t => H t a ws n p q
theorem iv2ll (h : DatAll nx vs [.list ds, .list es]) (H : ∀ a ws n c us k, (a, listOf ws.toArray n) ∈ nx → DatAll nx ws ds → (c, listOf us.toArray k) ∈ nx → DatAll nx us es → R [.ref a, .ref c]) : R vs :=
  ivc h fun v _ h1 h2 => iv1l (R := fun r => R (v :: r)) h2 fun c us k p q => ivl (P := fun v => R [v, .ref c]) h1 fun a ws n p1 q1 => H a ws n c us k p1 q1 p q
end
section
variable {α : Type} {P : α → Prop} {a : α} {l r : List α}
theorem fc (h : P a) (H : ∀ p ∈ l, P p) : ∀ p ∈ a :: l, P p := List.forall_mem_cons.mpr ⟨h, H⟩
theorem fa (h : ∀ p ∈ l, P p) (H : ∀ p ∈ r, P p) : ∀ p ∈ l ++ r, P p := fun p hp => (List.mem_append.mp hp).elim (h p) (H p)
end
/-- nothing that stood is changed: from the callee's ground -/
theorem stay_of {h g h' : Heap} {L' : Addr} {m' : Str → Option Value} {news news' : Led} {h₀ : Heap} {L : Addr} (G : GSub h g (news.map (·.1))) (N : News h₀ L h news) (F' : Fr g L' h' m') (N' : News g L' h' news') (hs : ∀ p ∈ news, p ∈ news') : Stay h h' :=
  elt_after (InElt.start h) G N F' N' hs
section
variable {kp pre : Prop} {w : World} {mean : ExcName → Option Value} {mg mb : Str → Option Value} {f : Addr} {sz : Nat} {args : List Dat} {out : Dat}
  {A : Around} {env : Env} {outer : List Env} {A₀ : Around} {base h₀ : Heap} {L : Addr} {m : Str → Option Value} {news : Led} {s : Shared} {vs : List Value} {Q E : Value → Shared → Prop}
theorem DT.mk (H : ∀ news vs, DatAll news vs args → pre → VT (fun tl news => tl ++ news) kp w mean mg mb f sz news vs out) : DT kp pre w mean mg mb f sz args out :=
  fun A env outer A₀ base h₀ L m news s vs Q E a1 a2 a3 a4 a5 a6 a7 a8 a9 b1 b2 D hp ret => H news vs D hp A env outer A₀ base h₀ L m s Q E a1 a2 a3 a4 a5 a6 a7 a8 a9 b1 b2 ret
theorem DTF.mk (H : ∀ news vs, DatAll news vs args → pre → VT (fun tl _ => tl) kp w mean mg mb f sz news vs out) : DTF kp pre w mean mg mb f sz args out :=
  fun A env outer A₀ base h₀ L m news s vs Q E a1 a2 a3 a4 a5 a6 a7 a8 a9 b1 b2 D hp ret => H news vs D hp A env outer A₀ base h₀ L m s Q E a1 a2 a3 a4 a5 a6 a7 a8 a9 b1 b2 ret
theorem DTF.toDT (C : DTF kp pre w mean mg mb f sz args out) : DT kp pre w mean mg mb f sz args out :=
  fun A env outer A₀ base h₀ L m news s vs Q E a1 a2 a3 a4 a5 a6 a7 a8 a9 b1 b2 D hp ret => C A env outer A₀ base h₀ L m news s vs Q E a1 a2 a3 a4 a5 a6 a7 a8 a9 b1 b2 D hp fun r tl h' tk' F N l S d => ret r tl h' tk' F N l S (DatIn.mono (fun _ h => List.mem_append_left _ h) d)
theorem DT.use (C : DT kp pre w mean mg mb f sz args out) (hh : A.handled = none := by z_run) (hA : A.frames = some (env :: outer) := by z_run) (hf : env.frame = some L := by z_run) (hk : env.scope.kind = .function := by z_run) (hdp : A.depth + sz < recursionLimit := by z_go) (hu : A.units + 8 * sz < cLine := by z_go)
    (B : Below A₀ base outer h₀ := by k_asm) (F : Fr h₀ L s.heap m := by k_asm) (X : (hd.heap_39 w.params).In h₀ := by k_asm) (N : News h₀ L s.heap news := by k_asm) (T : Top topProg theLoose mean mg mb h₀ := by k_asm) (D : DatAll news vs args := by kd_all) (hp : pre := by z_lens)
    (h : ∀ r tl h' tk', Fr h₀ L h' m → News h₀ L h' (tl ++ news) → (∀ p ∈ tl, ∀ q ∈ news, q.1 < p.1) → (kp → Stay s.heap h') → DatIn (tl ++ news) r out → Q r { s with heap := h', toks := tk' }) :
    wpAny (model Challenge.rw_pd0179_01.prog w) A (call (.ref f) vs) Q E s := C _ _ _ _ _ _ _ _ _ _ _ _ _ hh hA hf hk hdp hu B F X N T D hp h
theorem DTF.use (C : DTF kp pre w mean mg mb f sz args out) (hh : A.handled = none := by z_run) (hA : A.frames = some (env :: outer) := by z_run) (hf : env.frame = some L := by z_run) (hk : env.scope.kind = .function := by z_run) (hdp : A.depth + sz < recursionLimit := by z_go) (hu : A.units + 8 * sz < cLine := by z_go)
    (B : Below A₀ base outer h₀ := by k_asm) (F : Fr h₀ L s.heap m := by k_asm) (X : (hd.heap_39 w.params).In h₀ := by k_asm) (N : News h₀ L s.heap news := by k_asm) (T : Top topProg theLoose mean mg mb h₀ := by k_asm) (D : DatAll news vs args := by kd_all) (hp : pre := by z_lens)
    (h : ∀ r tl h' tk', Fr h₀ L h' m → News h₀ L h' (tl ++ news) → (∀ p ∈ tl, ∀ q ∈ news, q.1 < p.1) → (kp → Stay s.heap h') → DatIn tl r out → Q r { s with heap := h', toks := tk' }) :
    wpAny (model Challenge.rw_pd0179_01.prog w) A (call (.ref f) vs) Q E s := C _ _ _ _ _ _ _ _ _ _ _ _ _ hh hA hf hk hdp hu B F X N T D hp h
theorem DT.useS {x : Str} (C : DT kp pre w mean mg mb f sz args (.str x)) (hh : A.handled = none := by z_run) (hA : A.frames = some (env :: outer) := by z_run) (hf : env.frame = some L := by z_run) (hk : env.scope.kind = .function := by z_run) (hdp : A.depth + sz < recursionLimit := by z_go) (hu : A.units + 8 * sz < cLine := by z_go)
    (B : Below A₀ base outer h₀ := by k_asm) (F : Fr h₀ L s.heap m := by k_asm) (X : (hd.heap_39 w.params).In h₀ := by k_asm) (N : News h₀ L s.heap news := by k_asm) (T : Top topProg theLoose mean mg mb h₀ := by k_asm) (D : DatAll news vs args := by kd_all) (hp : pre := by z_lens)
    (h : ∀ t h' tk', Fr h₀ L h' m → News h₀ L h' news → Q (.str x t) { s with heap := h', toks := tk' }) :
    wpAny (model Challenge.rw_pd0179_01.prog w) A (call (.ref f) vs) Q E s := C _ _ _ _ _ _ _ _ _ _ _ _ _ hh hA hf hk hdp hu B F X N T D hp fun r tl h' tk' F N _ _ D => ivs (P := fun r => Q r { s with heap := h', toks := tk' }) D fun t => h t _ _ F (cb_drop N fun _ hp => List.mem_append_right _ hp)
theorem DT.useI {x : Int} (C : DT kp pre w mean mg mb f sz args (.int x)) (hh : A.handled = none := by z_run) (hA : A.frames = some (env :: outer) := by z_run) (hf : env.frame = some L := by z_run) (hk : env.scope.kind = .function := by z_run) (hdp : A.depth + sz < recursionLimit := by z_go) (hu : A.units + 8 * sz < cLine := by z_go)
    (B : Below A₀ base outer h₀ := by k_asm) (F : Fr h₀ L s.heap m := by k_asm) (X : (hd.heap_39 w.params).In h₀ := by k_asm) (N : News h₀ L s.heap news := by k_asm) (T : Top topProg theLoose mean mg mb h₀ := by k_asm) (D : DatAll news vs args := by kd_all) (hp : pre := by z_lens)
    (h : ∀ t h' tk', Fr h₀ L h' m → News h₀ L h' news → Q (.int x t) { s with heap := h', toks := tk' }) :
    wpAny (model Challenge.rw_pd0179_01.prog w) A (call (.ref f) vs) Q E s := C _ _ _ _ _ _ _ _ _ _ _ _ _ hh hA hf hk hdp hu B F X N T D hp fun r tl h' tk' F N _ _ D => ivi (P := fun r => Q r { s with heap := h', toks := tk' }) D fun t => h t _ _ F (cb_drop N fun _ hp => List.mem_append_right _ hp)
theorem DT.useB {x : Bool} (C : DT kp pre w mean mg mb f sz args (.bool x)) (hh : A.handled = none := by z_run) (hA : A.frames = some (env :: outer) := by z_run) (hf : env.frame = some L := by z_run) (hk : env.scope.kind = .function := by z_run) (hdp : A.depth + sz < recursionLimit := by z_go) (hu : A.units + 8 * sz < cLine := by z_go)
    (B : Below A₀ base outer h₀ := by k_asm) (F : Fr h₀ L s.heap m := by k_asm) (X : (hd.heap_39 w.params).In h₀ := by k_asm) (N : News h₀ L s.heap news := by k_asm) (T : Top topProg theLoose mean mg mb h₀ := by k_asm) (D : DatAll news vs args := by kd_all) (hp : pre := by z_lens)
    (h : ∀ h' tk', Fr h₀ L h' m → News h₀ L h' news → Q (.bool x) { s with heap := h', toks := tk' }) :
    wpAny (model Challenge.rw_pd0179_01.prog w) A (call (.ref f) vs) Q E s := C _ _ _ _ _ _ _ _ _ _ _ _ _ hh hA hf hk hdp hu B F X N T D hp fun r tl h' tk' F N _ _ D => ivb (P := fun r => Q r { s with heap := h', toks := tk' }) D (h _ _ F (cb_drop N fun _ hp => List.mem_append_right _ hp))
/-- into the body of a plain def: the frame stands, the caller is out of sight -/
theorem VT.enter {c : Led → Led → Led} {name qual : Str} {params : Arguments} {body : List Stmt} {scope : Scope} {dV kV doc pm cdv ct oc : Value} {an od : Option Addr} {osl : Array (Option Value)} (rb : List (Str × Value))
    (ho : (hd.heap_39 w.params).lookup f = some ⟨oc, od, .func (fnOf name qual params body scope dV kV doc pm an cdv ct), osl⟩ := by k_is) (hcd : codeIn (hd.heap_39 w.params) cdv qual = true := by k_is)
    (hbind : ∀ s : Shared, BindsTo s (fnOf name qual params body scope dV kV doc pm an cdv ct) ⟨vs, []⟩ rb.reverse := by exact fun _ => BindsTo.of_eq rfl) (hloc : ∀ y ∈ rb.reverse, scope.names.lookup y.1 = some .local := by exact locs rfl)
    (hcell : ∀ x ∈ scope.names, x.2 ≠ .cell := by decide)
    (H : ∀ (A : Around) (outer : List Env) (A₀ : Around) (base g : Heap) (L : Addr) (s : Shared) (Q : Flow → Shared → Prop),
      A.handled = none → A.frames = some (envOf qual scope L f cdv :: outer) → A.depth + sz ≤ recursionLimit → A.units + 8 * sz < cLine + 3 →
      Below A₀ base outer g → let mf := Mine.args rb; Fr g L s.heap mf → (hd.heap_39 w.params).In g → News g L s.heap news → Top topProg theLoose mean mg mb g →
      (∀ v tl h' tk' m', Fr g L h' m' → News g L h' (tl ++ news) → (∀ p ∈ tl, ∀ q ∈ news, q.1 < p.1) → DatIn (c tl news) v out → Q (.ret v) { s with heap := h', toks := tk' }) →
      let Mk := model Challenge.rw_pd0179_01.prog w; let vk := envOf qual scope L f cdv; wpAny Mk A (execs body vk) Q (fun _ _ => False) s)
    (hco : scope.isCoroutine = false := by exact rfl) (hgen : scope.isGenerator = false := by exact rfl) (hk : scope.kind = .function := by exact rfl) : VT c kp w mean mg mb f sz news vs out := by
  intro A env outer A₀ base h₀ L m s Q E hh hA hf hke hdp hu B F X N T ret
  refine wpAny_call ?_
  refine code_defG (binds := rb.reverse) B F X N T hA hf hke ho hcd (by omega) (hbind s) hloc (fun g L' h₁ FG F' N' B' X' T' GS => ?_) hco hgen hk hcell
  have F' : Fr g L' h₁ (Mine.args rb) := by simp only [List.reverse_reverse] at F'; exact F'
  refine wpAny_noRaise (H (A.deeper (envOf qual scope L' f cdv)) (env :: outer) A base g L' { s with heap := h₁, toks := s.toks + rb.reverse.length } _ hh (Around.frames_deeper hA) ?_ ?_ B' F' X' N' T' ?_)
  · rw [depth_deeper]; omega
  · rw [units_deeper]; omega
  · intro v tl h' tk' m' F₂ N₂ ord D
    exact leaveK_ F₂ N₂ (fun F₃ N₃ => ret v tl h' tk' F₃ N₃ ord (fun _ => stay_of GS N F₂ N₂ (fun p hp => List.mem_append_right _ hp)) D)
end
end
section
set_option maxRecDepth 100000
set_option maxHeartbeats 1000000
theorem slot_map_next : Slot "map" "__next__" "map.__next__" :=
  .of (owner := "map") (n := "__next__") (by rw [typeLookup_type, builtinLookup_eq_fast]; kernel_rfl) (by decide +kernel) (by decide +kernel) (by decide +kernel)
    (by first | exact .inl (by decide +kernel) | exact .inr (by decide +kernel)) (by rw [isSubtype_type]; kernel_rfl)
theorem slot_map_iter : Slot "map" "__iter__" "map.__iter__" :=
  .of (owner := "map") (n := "__iter__") (by rw [typeLookup_type, builtinLookup_eq_fast]; kernel_rfl) (by decide +kernel) (by decide +kernel) (by decide +kernel)
    (by first | exact .inl (by decide +kernel) | exact .inr (by decide +kernel)) (by rw [isSubtype_type]; kernel_rfl)
theorem slot_map_init : Slot "map" "__init__" "object.__init__" :=
  .of (owner := "object") (n := "__init__") (by rw [typeLookup_type, builtinLookup_eq_fast]; kernel_rfl) (by decide +kernel) (by decide +kernel) (by decide +kernel)
    (by first | exact .inl (by decide +kernel) | exact .inr (by decide +kernel)) (by rw [isSubtype_type]; kernel_rfl)
theorem entry_map_next : entryFor table "map.__next__" = some Builtin.«map.__next__» := entryFor_of_tree (by kernel_rfl)
theorem entry_map_new : entryFor table "map.__new__" = some Builtin.«map.__new__» := entryFor_of_tree (by kernel_rfl)
theorem entry_map_iter : entryFor table "map.__iter__" = some Builtin.«dict_keyiterator.__iter__» :=
  entryFor_alias (id' := "dict_keyiterator.__iter__") (by rw [fastTable_eq_tree]; kernel_rfl) rfl (by decide +kernel) (by rw [fastTable_eq_tree]; kernel_rfl)
theorem args_map_next (a : Value) : argsOk "map.__next__" ⟨[a], []⟩ := by unfold argsOk; kernel_rfl
theorem args_map_iter (a : Value) : argsOk "map.__iter__" ⟨[a], []⟩ := by unfold argsOk; kernel_rfl
theorem map_no_len : typeLookup (.type "map") "__len__" = pure none := by rw [typeLookup_type, builtinLookup_eq_fast]; kernel_rfl
theorem map_no_hint : typeLookup (.type "map") "__length_hint__" = pure none := by rw [typeLookup_type, builtinLookup_eq_fast]; kernel_rfl
theorem mro_map : mroOf (.type "map") = pure [.type "map", .type "object"] := by rw [mroOf_type]; kernel_rfl
theorem lookup_map_new : typeLookup (.type "map") "__new__" = pure (some (.builtin "map.__new__")) := by rw [typeLookup_type, builtinLookup_eq_fast]; kernel_rfl
theorem called_map : TypeCalled "map" "map.__new__" "object.__init__" :=
  ⟨by decide +kernel, by decide +kernel, ⟨_, _, mro_map⟩, madeBy_type mro_map lookup_map_new (by decide +kernel), by decide +kernel, by rw [isSubtype_type]; kernel_rfl, slot_map_init⟩
theorem typeCall_map_2 (a b : Value) : checkTypeCall "map" ⟨[a, b], []⟩ = pure () := by kernel_rfl
theorem newCall_map_2 (a b : Value) : checkBuiltinCall "map.__new__" ⟨[.type "map", a, b], []⟩ = pure () := by kernel_rfl
theorem sub_map : isSubtype (.type "map") (.type "map") = pure true := by rw [isSubtype_type]; kernel_rfl
abbrev MapAt (h : Heap) (m t it : Addr) (f : Value) : Prop :=
  h.get? m = some { cls := .type "map", data := .fields #[.ref t, f] } ∧ h.get? t = some { cls := .type "tuple", data := .seq #[.ref it] }
section
variable {prog : Program} {w : World} {A : Around} {E : Value → Shared → Prop} {s : Shared}
theorem map_next_item {m t it l : Addr} {f : Value} {i : Nat} {items : Array Value} {x : Value} {Q : Option Value → Shared → Prop} (hm : MapAt s.heap m t it f) (hit : s.heap.IsListIter it l i) (hl : s.heap.IsList l items) (hx : items[i]? = some x)
    (hmi : m ≠ it)
    (hQ : ∀ h', h'.IsListIter it l (i + 1) → Heap.SameBut it s.heap h' → wpAny (model prog w) A.in1 (call f [x]) (fun r s' => Q (some r) s') (fun _ _ => False) { s with heap := h' }) :
    wpAny (model prog w) A (pyNext (.ref m)) Q E s := by
  obtain ⟨hm1, hm2⟩ := hm
  have hT : s.TypeIs (.ref m) "map" := ⟨_, hm1, rfl⟩
  obtain ⟨o, ho, hc, hd⟩ := id hit
  obtain ⟨ol, hol, _, nl, hdl⟩ := id hl
  unfold pyNext
  refine wpAny_bind (wpAny_attempt (wpAny_callSpecial?_slot (name := Str.ofString "__next__") hT slot_map_next
    (wpAny_call_entry slot_map_next hT entry_map_next ?_ (args_map_next _))))
  unfold Builtin.«map.__next__»
  refine wpAny_bind (wpAny_pure ?_)
  refine wpAny_bind (wpAny_field hm1 rfl (x := .ref t) rfl ?_)
  refine wpAny_bind (wpAny_seqItems hm2 rfl ?_)
  simp only [List.forIn_toArray, List.forIn_cons, List.forIn_nil, bind_assoc]
  refine wpAny_bind (wpAny_holding ?_)
  unfold Builtin.SmallTypes.nextOf
  refine wpAny_bind (wpAny_callSpecial?_slot (name := Str.ofString "__next__") hit.typeIs slot_listiter_next
    (wpAny_call_entry slot_listiter_next hit.typeIs entry_listiter_next ?_ (args_listiter_next _)))
  show wpAny _ _ (field (.ref it) 0 >>= _) _ _ s
  refine wpAny_bind (wpAny_field ho hd (x := .ref l) rfl ?_)
  show wpAny _ _ (if (Value.ref l == Value.none) = true then _ else _) _ _ s
  rw [if_neg (show ¬ ((Value.ref l == Value.none) = true) from Bool.false_ne_true)]
  show wpAny _ _ (field (.ref it) 1 >>= _) _ _ s
  refine wpAny_bind (wpAny_field ho hd (x := .int i 0) rfl ?_)
  show wpAny _ _ (seqItems? (.ref l) >>= _) _ _ s
  refine wpAny_bind (wpAny_seqItems hol hdl ?_)
  simp only [Int.toNat_natCast, hx]
  refine wpAny_bind (wpAny_setField ho hd (by simp) (wpAny_pure ⟨x, rfl, wpAny_pure ?_⟩))
  have hit' : (s.heap.update it (Obj.mapFields fun vs => vs.setIfInBounds 1 (rawInt (↑i + 1)))).IsListIter it l (i + 1) := ⟨_, Heap.get?_update_self _ ho (Obj.isFreed_of_fields (Obj.data_mapFields hd _)), (Obj.cls_mapFields ..).trans hc, by
    rw [Obj.data_mapFields hd]; simp [rawInt]⟩
  have hsb : Heap.SameBut it s.heap (s.heap.update it (Obj.mapFields fun vs => vs.setIfInBounds 1 (rawInt (↑i + 1)))) := Heap.SameBut.update ..
  have hm1' := hsb.extBut m _ hmi hm1
  refine wpAny_bind (wpAny_pure ?_)
  refine wpAny_bind (wpAny_pure ?_)
  refine wpAny_bind (wpAny_field hm1' rfl (x := f) rfl ?_)
  refine wpAny_bind (wpAny_holding ?_)
  refine wpAny_mono (hQ _ hit' hsb) (fun r s' h => ?_) (fun _ _ h => h.elim)
  refine wpAny_bind (wpAny_letGo ?_)
  exact wpAny_pure ⟨r, rfl, wpAny_pure h⟩
theorem map_next_end {m t it l : Addr} {f : Value} {i : Nat} {items : Array Value} {Q : Option Value → Shared → Prop} (hh : A.handled = none) (hm : MapAt s.heap m t it f) (hit : s.heap.IsListIter it l i) (hl : s.heap.IsList l items) (hx : items[i]? = none)
    (hQ : ∀ h', Heap.ExtBut it s.heap h' → Q none { s with heap := h' }) :
    wpAny (model prog w) A (pyNext (.ref m)) Q E s := by
  obtain ⟨hm1, hm2⟩ := hm
  have hT : s.TypeIs (.ref m) "map" := ⟨_, hm1, rfl⟩
  obtain ⟨o, ho, hc, hd⟩ := id hit
  obtain ⟨ol, hol, _, nl, hdl⟩ := id hl
  unfold pyNext
  refine wpAny_bind (wpAny_attempt (wpAny_callSpecial?_slot (name := Str.ofString "__next__") hT slot_map_next
    (wpAny_call_entry slot_map_next hT entry_map_next ?_ (args_map_next _))))
  unfold Builtin.«map.__next__»
  refine wpAny_bind (wpAny_pure ?_)
  refine wpAny_bind (wpAny_field hm1 rfl (x := .ref t) rfl ?_)
  refine wpAny_bind (wpAny_seqItems hm2 rfl ?_)
  simp only [List.forIn_toArray, List.forIn_cons, List.forIn_nil, bind_assoc]
  refine wpAny_bind (wpAny_holding ?_)
  unfold Builtin.SmallTypes.nextOf
  refine wpAny_bind (wpAny_callSpecial?_slot (name := Str.ofString "__next__") hit.typeIs slot_listiter_next
    (wpAny_call_entry slot_listiter_next hit.typeIs entry_listiter_next ?_ (args_listiter_next _)))
  show wpAny _ _ (field (.ref it) 0 >>= _) _ _ s
  refine wpAny_bind (wpAny_field ho hd (x := .ref l) rfl ?_)
  show wpAny _ _ (if (Value.ref l == Value.none) = true then _ else _) _ _ s
  rw [if_neg (show ¬ ((Value.ref l == Value.none) = true) from Bool.false_ne_true)]
  show wpAny _ _ (field (.ref it) 1 >>= _) _ _ s
  refine wpAny_bind (wpAny_field ho hd (x := .int i 0) rfl ?_)
  show wpAny _ _ (seqItems? (.ref l) >>= _) _ _ s
  refine wpAny_bind (wpAny_seqItems hol hdl ?_)
  simp only [Int.toNat_natCast, hx]
  refine wpAny_bind (wpAny_rule (wpAny_bind (wpAny_setField ho hd (by simp) ?_)))
  show wpAny _ _ (newExc (.type "StopIteration") [] >>= _) _ _ _
  refine wpAny_bind ?_
  simp only [newExc, newTuple]
  refine wpAny_bind (wpAny_newObj_type ?_ (by size_fits))
  refine wpAny_bind (m := firstArgMember _ _) (wpAny_of_eq (a := Value.none) (by first | rfl | (simp only [firstArgMember]; rfl)) ?_)
  refine wpAny_newObj_type ?_ (by size_fits)
  simp only [raiseNew]
  refine wpAny_bind (wpAny_handled ?_)
  rw [show A.in1.in1.handled = none from hh]
  refine wpAny_bind (wpAny_pure (wpAny_throw ?_))
  refine wpAny_bind (wpAny_isInstance (T := "StopIteration") (b := true) ⟨_, Heap.get?_push_size _ rfl, rfl⟩ isSubtype_stop ?_)
  exact wpAny_pure (hQ _ (((Heap.SameBut.update ..).extBut.push _).push _))
theorem map_self {m t it : Addr} {f : Value} {Q : Value → Shared → Prop} (hm : MapAt s.heap m t it f) (h : Q (.ref m) s) : wpAny (model prog w) A (pyIter (.ref m)) Q E s := by
  have hT : s.TypeIs (.ref m) "map" := ⟨_, hm.1, rfl⟩
  refine wpAny_pyIter_slot hT slot_map_iter (wpAny_call_entry slot_map_iter hT entry_map_iter ?_ (args_map_iter _))
  exact wpAny_pure ⟨_, rfl, "map", _, hT, slot_map_next.lookup, h⟩
/-- map(f, l) -/
theorem meets_map_new (l : Addr) (f : Value) (items : Array Value) :
    Meets (Builtin.«map.__new__» ⟨[.type "map", f, .ref l], []⟩)
      (fun _ R s => s.heap.IsList l items ∧ R (.ok (.ret (.ref (s.heap.objs.size + 2)))) { s with heap := ((s.heap.push { cls := .type "list_iterator", data := .fields #[.ref l, .int 0 0] }).push { cls := .type "tuple", data := .seq #[.ref s.heap.objs.size] }).push { cls := .type "map", data := .fields #[.ref (s.heap.objs.size + 1), f] } }) :=
  .of_wp fun prog w A R s h => by
    obtain ⟨hl, h⟩ := h
    unfold Builtin.«map.__new__»
    have hsub := sub_map
    have e1 : Builtin.SmallTypes.newClass "map" ⟨[.type "map", f, .ref l], []⟩ = pure (.type "map", [f, .ref l]) := by
      unfold Builtin.SmallTypes.newClass
      simp only [show isType (.type "map") = pure true from rfl, hsub, pure_bind]
      rfl
    have e2 : Builtin.SmallTypes.refuseKeywords "map" (.type "map") ⟨[.type "map", f, .ref l], []⟩ = pure () := rfl
    refine wpAny_bind (wpAny_of_eq e1 ?_)
    refine wpAny_bind (wpAny_of_eq e2 ?_)
    rw [if_neg (by simp)]
    refine wpAny_bind ?_
    unfold Builtin.SmallTypes.iterAll
    simp only [List.drop_succ_cons, List.drop_zero, List.forIn_cons, List.forIn_nil, bind_assoc]
    refine wpAny_bind (wpAny_holding (wpAny_pyIter_list hl ?_))
    refine wpAny_bind (wpAny_pure ?_)
    refine wpAny_bind (wpAny_pure ?_)
    refine wpAny_pure ?_
    show wpAny _ _ (newTuple [Value.ref s.heap.objs.size] >>= _) _ _ _
    refine wpAny_bind (wpAny_newTuple ?_)
    refine wpAny_bind ?_
    unfold Builtin.SmallTypes.newRecord
    refine wpAny_newObj_type ?_
    refine wpAny_pure ⟨_, rfl, ?_⟩
    simp only [Heap.size_push, List.headD_cons]
    exact h
theorem call_map {l : Addr} {f : Value} {items : Array Value} {Q : Value → Shared → Prop} (hl : s.heap.IsList l items)
    (hQ : Q (.ref (s.heap.objs.size + 2)) { s with heap := ((s.heap.push { cls := .type "list_iterator", data := .fields #[.ref l, .int 0 0] }).push { cls := .type "tuple", data := .seq #[.ref s.heap.objs.size] }).push { cls := .type "map", data := .fields #[.ref (s.heap.objs.size + 1), f] } }) :
    wpAny (model prog w) A (call (.type "map") [f, .ref l]) Q E s :=
  callType_new called_map (by decide) (typeCall_map_2 _ _) (newCall_map_2 _ _) (fun obj => by unfold argsOk; kernel_rfl) entry_map_new
    (meets_map_new l f items) ⟨hl, ⟨{ cls := .type "map", data := .fields #[.ref (s.heap.objs.size + 1), f] }, by (show Heap.get? _ (s.heap.objs.size + 2) = _; rw [show s.heap.objs.size + 2 = ((s.heap.push { cls := .type "list_iterator", data := .fields #[.ref l, .int 0 0] }).push { cls := .type "tuple", data := .seq #[.ref s.heap.objs.size] }).objs.size from by simp only [Heap.size_push]]; exact Heap.get?_push_size _ rfl), rfl⟩, hQ⟩
end
section
variable {prog : Program} {w : World} {A : Around} {E : Value → Shared → Prop} {s : Shared}
/-- one after the other -/
theorem map_loop {m t it l S : Addr} {f : Value} {items : Array Value} {P : Nat → Value → Prop} {R : Result → Shared → Prop} (res : Value) (hh : A.handled = none) {h₁ : Heap}
    (hmi : m ≠ it) (hti : t ≠ it) (hli : l ≠ it) (hSi : S ≠ it) (hSm : m ≠ S) (hSt : t ≠ S) (hSl : l ≠ S) (hn : items.size ≤ sizeLine)
    (hm : MapAt h₁ m t it f) (hl : h₁.IsList l items)
    (hcall : ∀ i x (h : Heap) tk (Q E : Value → Shared → Prop), items[i]? = some x → (∀ b o, b ≠ it → b ≠ S → h₁.get? b = some o → h.get? b = some o) →
      (∀ v h' tk', P i v → (∀ b o, h.get? b = some o → h'.get? b = some o) → Q v { s with heap := h', toks := tk' }) → wpAny (model prog w) A.in1.in1 (call f [x]) Q E { s with heap := h, toks := tk })
    (hR : ∀ h' tk acc c, (∀ b o, b ≠ it → b ≠ S → h₁.get? b = some o → h'.get? b = some o) → h'.get? S = some { cls := .type "list", dict := none, data := .seq acc c, slots := #[] } → ItemsOf P acc items.size → R (.ok (.ret res)) { s with heap := h', toks := tk }) :
    ∀ (k i : Nat) (h : Heap) (tk c : Nat) (acc : Array Value), items.size - i = k → i ≤ items.size → h.IsListIter it l i → (∀ b o, b ≠ it → b ≠ S → h₁.get? b = some o → h.get? b = some o) →
      h.get? S = some { cls := .type "list", dict := none, data := .seq acc c, slots := #[] } → ItemsOf P acc i →
      codeAny (model prog w) A (.builtin "list.extend.loop" ⟨[.ref S, .ref m, res], []⟩) R { s with heap := h, toks := tk } := by
  intro k
  induction k with
  | zero =>
    intro i h tk c acc hk hi hit hkeep hS hacc
    have hin : i = items.size := by omega
    refine codeAny_builtin PySem.F.entry_extend_loop ?_
    rw [Around.under_plainId PySem.F.plain_extend_loop _]
    show wpAny _ A.in1 (pyNext (.ref m) >>= _) _ _ _
    have hl' : h.IsList l items := let ⟨o, ho, r⟩ := hl; ⟨o, hkeep l o hli hSl ho, r⟩
    refine wpAny_bind (map_next_end (s := { s with heap := h, toks := tk }) (A := A.in1) hh ⟨hkeep m _ hmi hSm hm.1, hkeep t _ hti hSt hm.2⟩ hit hl' (by rw [hin]; simp) fun h' he => ?_)
    exact wpAny_pure (hR h' tk acc c (fun b o h1 h2 e => he b o h1 (hkeep b o h1 h2 e)) (he S _ hSi hS) (hin ▸ hacc))
  | succ k ih =>
    intro i h tk c acc hk hi hit hkeep hS hacc
    have hlt : i < items.size := by omega
    obtain ⟨x, hx⟩ : ∃ x, items[i]? = some x := ⟨items[i], Array.getElem?_eq_getElem hlt⟩
    refine codeAny_builtin PySem.F.entry_extend_loop ?_
    rw [Around.under_plainId PySem.F.plain_extend_loop _]
    show wpAny _ A.in1 (pyNext (.ref m) >>= _) _ _ _
    have hl' : h.IsList l items := let ⟨o, ho, r⟩ := hl; ⟨o, hkeep l o hli hSl ho, r⟩
    refine wpAny_bind (map_next_item (s := { s with heap := h, toks := tk }) (A := A.in1) ⟨hkeep m _ hmi hSm hm.1, hkeep t _ hti hSt hm.2⟩ hit hl' hx hmi fun h' hit' hsb => ?_)
    have hkeep' : ∀ b o, b ≠ it → b ≠ S → h₁.get? b = some o → h'.get? b = some o := fun b o h1 h2 e => hsb.extBut b o h1 (hkeep b o h1 h2 e)
    refine hcall i x h' tk _ _ hx hkeep' fun v h'' tk'' hv hst => ?_
    have hS' := hst _ _ (hsb.extBut S _ hSi hS)
    have hit'' : h''.IsListIter it l (i + 1) := let ⟨o, ho, r⟩ := hit'; ⟨o, hst _ _ ho, r⟩
    have up : ∀ b o, b ≠ S → h''.get? b = some o → (h''.update S (Obj.mapSeq (·.push v))).get? b = some o := fun b o hb e => (Heap.get?_update_other _ _ (Ne.symm hb)).trans e
    show wpAny _ A.in1 (updateSeq S (·.push v) >>= _) _ _ _
    refine wpAny_bind ?_
    refine wpAny_updateSeq hS' rfl (wpAny_pure ⟨plainId_quiet PySem.F.plain_extend_loop _, ih (i + 1) _ tk'' _ (acc.push v) (by omega) hlt (let ⟨o, ho, r⟩ := hit''; ⟨o, up it o (Ne.symm hSi) ho, r⟩)
      (fun b o h1 h2 e => up b o h2 (hst _ _ (hkeep' b o h1 h2 e))) (Heap.get?_update_self _ hS' rfl) (hacc.push hv)⟩) (by rw [hacc.1]; omega) (by show (acc.push v).size ≤ sizeLine + 1; rw [Array.size_push, hacc.1]; omega)
theorem collect_map {m t it l : Addr} {f : Value} {items : Array Value} {P : Nat → Value → Prop} {Q : List Value → Shared → Prop} (hh : A.handled = none)
    (hmi : m ≠ it) (hti : t ≠ it) (hli : l ≠ it) (hn : items.size ≤ sizeLine)
    (hm : MapAt s.heap m t it f) (hit : s.heap.IsListIter it l 0) (hl : s.heap.IsList l items)
    (hcall : ∀ i x (h : Heap) tk (Q E : Value → Shared → Prop), items[i]? = some x → (∀ b o, b ≠ it → s.heap.get? b = some o → h.get? b = some o) →
      (∀ v h' tk', P i v → (∀ b o, h.get? b = some o → h'.get? b = some o) → Q v { s with heap := h', toks := tk' }) → wpAny (model prog w) A.in1.in1 (call f [x]) Q E { s with heap := h, toks := tk })
    (hQ : ∀ h' tk acc, (∀ b o, b ≠ it → s.heap.get? b = some o → h'.get? b = some o) → ItemsOf P acc items.size → Q acc.toList { s with heap := h', toks := tk }) :
    wpAny (model prog w) A (collect (.ref m)) Q E s := by
  unfold collect
  refine wpAny_bind (wpAny_runValue (codeAny_builtin PySem.F.entry_proto_collect ?_))
  rw [Around.under_plainId PySem.F.plain_proto_collect _]
  show wpAny _ A.in1 (newList [] >>= fun l => again (.builtin "list.__iadd__" ⟨[l, .ref m], []⟩)) _ _ s
  refine wpAny_bind (wpAny_newObj_type ?_)
  refine wpAny_pure ⟨plainId_quiet PySem.F.plain_list_iadd _, codeAny_builtin PySem.F.entry_list_iadd ?_⟩
  rw [Around.under_plainId PySem.F.plain_list_iadd _]
  show wpAny _ A.in1 (Builtin.List.listExtendWith (.ref s.heap.objs.size) (.ref m) (.ref s.heap.objs.size)) _ _ _
  have lt : ∀ {b o}, s.heap.get? b = some o → b ≠ s.heap.objs.size := fun e => Nat.ne_of_lt (Heap.lt_size e)
  obtain ⟨ol, hol, hl2⟩ := id hl
  obtain ⟨oi, hoi, hi2⟩ := id hit
  have hSm := lt hm.1
  have hSt := lt hm.2
  have hSl := lt hol
  have hSi := lt hoi
  have hT : (⟨s.heap.push { cls := .type "list", data := .seq ([] : List Value).toArray }, s.gens, s.drawn, s.toks, s.os⟩ : Shared).TypeIs (.ref m) "map" := ⟨_, Heap.get?_push_of_some _ hm.1, rfl⟩
  unfold Builtin.List.listExtendWith
  refine wpAny_bind (wpAny_typeOf hT ?_)
  have h1 : Builtin.List.listSameRef (.ref s.heap.objs.size) (.ref m) = false := by simp [Builtin.List.listSameRef, Ne.symm hSm]
  have h2 : (Value.type "map" == Value.type "list") = false := by decide
  have h3 : (Value.type "map" == Value.type "tuple") = false := by decide
  simp only [h1, h2, h3, Bool.or_false, Bool.false_eq_true, if_false]
  refine wpAny_bind (map_self (t := t) (it := it) (f := f) ⟨Heap.get?_push_of_some _ hm.1, Heap.get?_push_of_some _ hm.2⟩ ?_)
  refine wpAny_bind (wpAny_holding ?_)
  unfold Builtin.List.listLengthHint
  refine wpAny_bind (wpAny_specialOf hT map_no_len ?_)
  show wpAny _ A.in1 (specialOf (Value.ref m) (Str.ofString "__length_hint__") >>= _) _ _ _
  refine wpAny_bind (wpAny_specialOf hT map_no_hint ?_)
  refine wpAny_pure ?_
  show wpAny _ A.in1 (rule "list.extend.makes-room" >>= fun _ => Builtin.List.listTouch (.ref s.heap.objs.size) >>= fun _ =>
    again (.builtin "list.extend.loop" ⟨[.ref s.heap.objs.size, .ref m, .ref s.heap.objs.size], []⟩)) _ _ _
  refine wpAny_bind (wpAny_rule ?_)
  have hS₁ : (s.heap.push { cls := .type "list", data := .seq ([] : List Value).toArray }).get? s.heap.objs.size = some { cls := .type "list", data := .seq ([] : List Value).toArray } := Heap.get?_push_size _ rfl
  refine wpAny_bind ?_
  show wpAny _ A.in1 (updateSeq s.heap.objs.size (·.push .none) >>= fun _ => updateSeq s.heap.objs.size (·.pop)) _ _ _
  refine wpAny_bind (wpAny_updateSeq hS₁ rfl ?_)
  have hS₂ := Heap.get?_update_self (Obj.mapSeq (·.push Value.none)) hS₁ rfl
  refine wpAny_updateSeq hS₂ rfl ?_
  have hS₃ := Heap.get?_update_self (Obj.mapSeq (·.pop)) hS₂ rfl
  have oth : ∀ b o, b ≠ s.heap.objs.size → s.heap.get? b = some o →
      (((s.heap.push { cls := .type "list", data := .seq ([] : List Value).toArray }).update s.heap.objs.size (Obj.mapSeq (·.push Value.none))).update s.heap.objs.size (Obj.mapSeq (·.pop))).get? b = some o :=
    fun b o hb e => (Heap.get?_update_other _ _ (Ne.symm hb)).trans ((Heap.get?_update_other _ _ (Ne.symm hb)).trans (Heap.get?_push_of_some _ e))
  refine wpAny_pure ⟨plainId_quiet PySem.F.plain_extend_loop _, map_loop (A := A) (P := P) (h₁ := s.heap) (items := items) (.ref s.heap.objs.size) hh hmi hti hli (Ne.symm hSi) hSm hSt hSl hn hm hl
    (fun i x h tk Q E hx hk hq => hcall i x h tk Q E hx (fun b o hb e => hk b o hb (lt e) e) hq) ?_ items.size 0 _ _ _ _ (Nat.sub_zero _) (Nat.zero_le _) ⟨oi, oth it oi hSi hoi, hi2⟩ (fun b o _ h2 e => oth b o h2 e) hS₃ (ItemsOf.nil P)⟩
  intro h' tk acc c hk hS' hacc
  show wpAny _ A (load s.heap.objs.size >>= _) _ _ _
  refine wpAny_bind (wpAny_load hS' ?_)
  exact wpAny_pure (hQ h' tk acc (fun b o hb e => hk b o hb (lt e) e) hacc)
theorem code_tuple_map {m t it l : Addr} {f : Value} {items : Array Value} {P : Nat → Value → Prop} {R : Result → Shared → Prop} (hh : A.handled = none)
    (hmi : m ≠ it) (hti : t ≠ it) (hli : l ≠ it) (hn : items.size ≤ sizeLine)
    (hm : MapAt s.heap m t it f) (hit : s.heap.IsListIter it l 0) (hl : s.heap.IsList l items)
    (hcall : ∀ i x (h : Heap) tk (Q E : Value → Shared → Prop), items[i]? = some x → (∀ b o, b ≠ it → s.heap.get? b = some o → h.get? b = some o) →
      (∀ v h' tk', P i v → (∀ b o, h.get? b = some o → h'.get? b = some o) → Q v { s with heap := h', toks := tk' }) → wpAny (model prog w) A.in1.in1.in1 (call f [x]) Q E { s with heap := h, toks := tk })
    (hR : ∀ (h' : Heap) tk acc, (∀ b o, b ≠ it → s.heap.get? b = some o → h'.get? b = some o) → ItemsOf P acc items.size → R (.ok (.ret (.ref h'.objs.size))) { s with heap := h'.push { cls := .type "tuple", data := .seq acc }, toks := tk }) :
    wpAny (model prog w) A.in1 (Builtin.«tuple.__new__» ⟨[.type "tuple", .ref m], []⟩)
      (fun fin s' => match fin with | .done f => R (.ok f) s' | .again c' => c'.quiet = true ∧ codeAny (model prog w) A c' R s') (fun e s' => R (.error e) s') s := by
    obtain ⟨hp, g, d, tk, os⟩ := s
    have hsub := sub_tuple_self
    have hinit := init_tuple_lookup
    have hmh := madeHere_tuple
    have hT : Shared.TypeIs ⟨hp, g, d, tk, os⟩ (.ref m) "map" := ⟨_, hm.1, rfl⟩
    wp_walk using wpAny_typeOf hT, collect_map (A := A.in1) hh hmi hti hli hn hm hit hl hcall
    intro h' tk' acc hk hacc
    show wpAny _ _ (Builtin.Tuple.tupleExact acc.toList.toArray >>= fun v => ret v) _ _ _
    unfold Builtin.Tuple.tupleExact
    refine wpAny_bind (wpAny_newObj_type ?_ (by show acc.toList.toArray.size ≤ sizeLine; rw [show acc.toList.toArray = acc from by simp, hacc.1]; exact hn))
    refine wpAny_pure ?_
    rw [show acc.toList.toArray = acc from by simp]
    exact hR h' tk' acc hk hacc
end
end
section
set_option maxRecDepth 100000
set_option maxHeartbeats 1000000
theorem slot_bool_hash : Slot "bool" "__hash__" "int.__hash__" :=
  .of (owner := "int") (n := "__hash__") (by rw [typeLookup_type, builtinLookup_eq_fast]; kernel_rfl) (by decide +kernel) (by decide +kernel) (by decide +kernel)
    (by first | exact .inl (by decide +kernel) | exact .inr (by decide +kernel)) (by rw [isSubtype_type]; kernel_rfl)
noncomputable abbrev set0 (led : Bool) : Obj := { cls := .type "set", dict := none, data := .set #[] 0 (.fresh 0 0 led) }
noncomputable def tab1 (led : Bool) : SetTable := (layNew (.fresh 0 0 led) #[] 1 (.bool true)).2.1
noncomputable abbrev set1 (led : Bool) : Obj := { cls := .type "set", dict := none, data := .set #[(1, .bool true)] 1 (tab1 led) }
theorem tab1_fits (led : Bool) : (tab1 led).fits 1 = true := by cases led <;> decide +kernel
theorem tab1_lay (led : Bool) : layNew (.fresh 0 0 led) #[] 1 (.bool true) = (#[(1, .bool true)], tab1 led, false, false) := by cases led <;> rfl
theorem tab1_full (led : Bool) : (tab1 led).tooFull = false := by cases led <;> decide +kernel
theorem tab1_plain (led : Bool) : (tab1 led).plain = true := by cases led <;> decide +kernel
theorem tab1_led (led : Bool) : (tab1 led).led = led := by cases led <;> decide +kernel
theorem tab1_place (led : Bool) : (tab1 led).place = #[1] := by cases led <;> decide +kernel
section
variable {prog : Program} {w : World} {A : Around} {E : Value → Shared → Prop} {s : Shared}
theorem typeIs_bool (b : Bool) : s.TypeIs (.bool b) "bool" := by
  unfold Shared.TypeIs
  rfl
theorem hash_true {Q : Int → Shared → Prop} (h : Q 1 { s with toks := s.toks + 1 }) : wpAny (model prog w) A (pyHash (.bool true)) Q E s := by
  unfold pyHash
  have hv : [Value.bool true].any Value.onHeap = false := rfl
  refine wpAny_bind ?_
  rw [cRoomFor, if_neg (by rw [hv]; exact Bool.false_ne_true)]; refine wpAny_pure ?_
  refine wpAny_bind (wpAny_specialOf (typeIs_bool _) slot_bool_hash.lookup ?_)
  show wpAny _ _ (if (some (Value.builtin "int.__hash__") == some Value.none) = true then _ else _) Q E s
  rw [if_neg (by rw [beq_builtin_none]; exact Bool.false_ne_true)]
  refine wpAny_bind (wpAny_specialOf (typeIs_bool _) slot_bool_hash.lookup ?_)
  show wpAny _ _ (callSpecialIfBoundUnlessNone? (.bool true) "__hash__" _ >>= _) Q E s
  refine wpAny_bind (wpAny_callSpecialIfBoundUnlessNone?_slot (typeIs_bool _) slot_bool_hash
    (wpAny_call_entry slot_bool_hash (typeIs_bool _) entry_int_hash ?_ (args_int_hash _)))
  show wpAny _ _ (do ret (← mkInt (rawHash 1))) _ _ s
  refine wpAny_ret_mkInt ?_
  show wpAny _ _ (pyHashByItsType.reduced 1) Q E _
  have e : pyHashByItsType.reduced 1 = pure 1 := rfl
  rw [e]
  exact wpAny_pure h
theorem eqBool_true {Q : Bool → Shared → Prop} (h : Q true s) : wpAny (model prog w) A (eqBool (.bool true) (.bool true)) Q E s := by
  unfold eqBool
  refine wpAny_holding ?_
  rw [if_pos (by decide)]
  exact wpAny_bind (wpAny_rule (wpAny_pure h))
/-- True goes into the empty set -/
theorem setAdd_0 {a : Addr} {led : Bool} {Q : Bool → Shared → Prop} (ho : s.heap.get? a = some (set0 led))
    (h : ∀ h', h'.get? a = some (set1 led) → Heap.SameBut a s.heap h' → Q true { s with heap := h', toks := s.toks + 1 }) : wpAny (model prog w) A (setAdd a (.bool true)) Q E s := by
  unfold setAdd
  refine wpAny_holding (wpAny_bind (hash_true ?_))
  unfold setAddHashed setAddHashedIn
  refine wpAny_holding (wpAny_bind (wpAny_setState_of (s := { s with toks := s.toks + 1 }) ho rfl (by cases led <;> decide +kernel) ?_))
  dsimp only
  rw [show byScan (.bool true) #[] = true from by decide +kernel]
  simp only [↓reduceIte]
  unfold setAddByScan
  refine wpAny_bind ?_
  refine wpAny_bind (wpAny_rule ?_)
  unfold setScan setScanFrom
  refine wpAny_bind (wpAny_pure ?_)
  dsimp only
  refine wpAny_bind (wpAny_pure ?_)
  rw [tab1_lay]
  dsimp only
  refine wpAny_bind (wpAny_pure ?_)
  simp only [tab1_full, if_true]
  refine wpAny_bind (wpAny_storeSet_of (s := { s with toks := s.toks + 1 }) ho rfl ?_ (by show 1 ≤ sizeLine; decide))
  simp only [Bool.not_false, Bool.and_false, Bool.true_and, Bool.false_eq_true, if_false]
  refine wpAny_pure (wpAny_pure (h _ ?_ (Heap.SameBut.update _ _ _)))
  have := Heap.get?_update_self (Obj.putSet #[(1, Value.bool true)] (tab1 led)) ho (by rfl)
  exact this
theorem setAdd_1 {a : Addr} {led : Bool} {Q : Bool → Shared → Prop} (ho : s.heap.get? a = some (set1 led))
    (h : Q false { s with toks := s.toks + 1 }) : wpAny (model prog w) A (setAdd a (.bool true)) Q E s := by
  unfold setAdd
  refine wpAny_holding (wpAny_bind (hash_true ?_))
  unfold setAddHashed setAddHashedIn
  refine wpAny_holding (wpAny_bind (wpAny_setState_of (s := { s with toks := s.toks + 1 }) ho rfl (tab1_fits led) ?_))
  dsimp only
  rw [show byScan (.bool true) #[(1, .bool true)] = true from by decide +kernel]
  simp only [↓reduceIte]
  unfold setAddByScan
  refine wpAny_bind ?_
  refine wpAny_bind (wpAny_rule ?_)
  unfold setScan setScanFrom
  dsimp only
  rw [if_pos (by decide)]
  refine wpAny_bind ?_
  refine wpAny_bind (wpAny_setEpoch_of (s := { s with toks := s.toks + 1 }) ho rfl (tab1_fits led) ?_)
  refine wpAny_bind (eqBool_true ?_)
  rw [if_pos (by decide)]
  exact wpAny_pure (wpAny_pure (wpAny_pure h))
theorem call_add_0 {a : Addr} {led : Bool} {Q : Value → Shared → Prop} (ho : s.heap.get? a = some (set0 led))
    (h : ∀ h', h'.get? a = some (set1 led) → Heap.SameBut a s.heap h' → Q .none { s with heap := h', toks := s.toks + 1 }) : wpAny (model prog w) A (call (.builtin "set.add") [.ref a, .bool true]) Q E s := by
  have hT : s.TypeIs (.ref a) "set" := ⟨_, ho, rfl⟩
  refine wpAny_call_entry F.slot_set_add hT F.entry_set_add ?_ (F.args_set_add_2 _ _)
  show wpAny _ _ (setAdd a (.bool true) >>= fun _ => ret Value.none) _ _ _
  exact wpAny_bind (setAdd_0 ho fun h' h1 h2 => wpAny_pure ⟨_, rfl, h h' h1 h2⟩)
theorem call_add_1 {a : Addr} {led : Bool} {Q : Value → Shared → Prop} (ho : s.heap.get? a = some (set1 led))
    (h : Q .none { s with toks := s.toks + 1 }) : wpAny (model prog w) A (call (.builtin "set.add") [.ref a, .bool true]) Q E s := by
  have hT : s.TypeIs (.ref a) "set" := ⟨_, ho, rfl⟩
  refine wpAny_call_entry F.slot_set_add hT F.entry_set_add ?_ (F.args_set_add_2 _ _)
  show wpAny _ _ (setAdd a (.bool true) >>= fun _ => ret Value.none) _ _ _
  exact wpAny_bind (setAdd_1 ho (wpAny_pure ⟨_, rfl, h⟩))
theorem byText_is {Q : Bool → Shared → Prop} (h : Q (w.params.followText "set-order") s) : wpAny (model prog w) A setsByText Q E s := by
  unfold setsByText
  exact wpAny_bind (wpAny_askSetting (wpAny_pure h))
noncomputable abbrev ledOf (w : World) : Bool := !(w.params.followText "set-order")
theorem new_set {Q : Value → Shared → Prop} (h : Q (.ref s.heap.objs.size) { s with heap := s.heap.push (set0 (ledOf w)) }) : wpAny (model prog w) A (newSet (.type "set")) Q E s := by
  unfold newSet
  refine wpAny_bind (byText_is ?_)
  dsimp only
  simp only [newObj]
  exact wpAny_bind (wpAny_alloc (wpAny_pure h))
theorem slot_seti : Slot "set" "__iter__" "set.__iter__" :=
  .of (owner := "set") (n := "__iter__") (by rw [typeLookup_type, builtinLookup_eq_fast]; kernel_rfl) (by decide +kernel) (by decide +kernel) (by decide +kernel)
    (by first | exact .inl (by decide +kernel) | exact .inr (by decide +kernel)) (by rw [isSubtype_type]; kernel_rfl)
theorem slot_seti_next : Slot "set_iterator" "__next__" "set_iterator.__next__" :=
  .of (owner := "set_iterator") (n := "__next__") (by rw [typeLookup_type, builtinLookup_eq_fast]; kernel_rfl) (by decide +kernel) (by decide +kernel) (by decide +kernel)
    (by first | exact .inl (by decide +kernel) | exact .inr (by decide +kernel)) (by rw [isSubtype_type]; kernel_rfl)
theorem entry_seti_next : entryFor table "set_iterator.__next__" = some Builtin.«set_iterator.__next__» := entryFor_of_tree (by kernel_rfl)
theorem entry_set_iter : entryFor table "set.__iter__" = some Builtin.«frozenset.__iter__» :=
  entryFor_alias (id' := "frozenset.__iter__") (by rw [fastTable_eq_tree]; kernel_rfl) rfl (by decide +kernel) (by rw [fastTable_eq_tree]; kernel_rfl)
theorem args_set_iter (a : Value) : argsOk "set.__iter__" ⟨[a], []⟩ := by unfold argsOk; kernel_rfl
theorem args_seti_next (a : Value) : argsOk "set_iterator.__next__" ⟨[a], []⟩ := by unfold argsOk; kernel_rfl
noncomputable abbrev setIt (k i : Nat) (x : Value) : Obj := { cls := .type "set_iterator", data := .fields #[.int k 0, .int i 0, x, .int 1 0, .int 1 0] }
theorem set1_st {a : Addr} {Q : (Array (Int × Value) × Nat × SetTable) → Shared → Prop} {led : Bool} (ho : s.heap.get? a = some (set1 led)) (h : Q (#[(1, .bool true)], 1, tab1 led) s) : wpAny (model prog w) A (setState a) Q E s :=
  wpAny_setState_of ho rfl (tab1_fits led) h
theorem iter_set1 {a : Addr} {led : Bool} {Q : Value → Shared → Prop} (ho : s.heap.get? a = some (set1 led))
    (h : Q (.ref s.heap.objs.size) { s with heap := s.heap.push (setIt 0 0 (.ref a)) }) : wpAny (model prog w) A (pyIter (.ref a)) Q E s := by
  have hT : s.TypeIs (.ref a) "set" := ⟨_, ho, rfl⟩
  refine wpAny_pyIter_slot hT slot_seti (wpAny_call_entry slot_seti hT entry_set_iter ?_ (args_set_iter _))
  unfold Builtin.«frozenset.__iter__»
  refine wpAny_bind (wpAny_pure ?_)
  unfold Builtin.Frozenset.sizeOf setEntries
  refine wpAny_bind (wpAny_bind (wpAny_bind (set1_st ho (wpAny_pure (wpAny_pure ?_)))))
  refine wpAny_bind ?_
  unfold setDrawn
  refine wpAny_bind (set1_st ho ?_)
  refine wpAny_bind (byText_is (wpAny_pure ?_))
  rw [if_neg (by cases led <;> cases w.params.followText "set-order" <;> decide)]
  refine wpAny_bind (wpAny_pure ?_)
  unfold setEpoch
  refine wpAny_bind (wpAny_bind (set1_st ho (wpAny_pure ?_)))
  refine wpAny_bind (wpAny_newObj_type (wpAny_pure ⟨_, rfl, "set_iterator", _, ⟨_, Heap.get?_push_size _ rfl, rfl⟩, slot_seti_next.lookup, h⟩))
theorem pick_one {α : Type} (f : Nat → Nat) (e : α) : pickOrder f #[e] = #[e] := by
  simp [pickOrder, pickOrder.go, Nat.mod_one]
noncomputable def kOf (w : World) : Nat := if w.params.followText "set-order" = true then 0 else 2
theorem setWalk_1 {a : Addr} {Q : Array (Int × Value) → Shared → Prop} (hb : w.params.followText "set-order" = true) (ho : s.heap.get? a = some (set1 (ledOf w)))
    (h : Q #[(1, .bool true)] s) : wpAny (model prog w) A (setWalk a) Q E s := by
  unfold setWalk
  refine wpAny_bind (set1_st ho ?_)
  refine wpAny_bind (byText_is ?_)
  rw [hb, if_pos rfl]
  refine wpAny_bind (wpAny_askSetting (wpAny_pure ?_))
  rw [pick_one]
  exact h
theorem setNext_0 {a : Addr} {Q : Option (Value × Nat) → Shared → Prop} (ho : s.heap.get? a = some (set1 (ledOf w)))
    (h : Q (some (.bool true, kOf w)) s) : wpAny (model prog w) A (setNext a 0 0 1) Q E s := by
  unfold setNext
  refine wpAny_bind (set1_st ho ?_)
  refine wpAny_bind (byText_is ?_)
  cases hb : w.params.followText "set-order" with
  | true =>
    rw [if_pos rfl, if_neg (by decide)]
    refine wpAny_bind (setWalk_1 hb ho (wpAny_pure ?_))
    have e : kOf w = 0 := by unfold kOf; rw [if_pos hb]
    rw [e] at h
    exact h
  | false =>
    have e : kOf w = 2 := by unfold kOf; rw [if_neg (by rw [hb]; decide)]
    rw [e] at h
    rw [if_neg (by decide)]
    rw [if_neg (by unfold ledOf; rw [hb]; decide +kernel)]
    refine wpAny_bind (wpAny_of_eq (a := ()) (by unfold ledOf; rw [hb]; rfl) ?_)
    refine wpAny_pure ?_
    have e2 : tab1 (ledOf w) = tab1 true := by unfold ledOf; rw [hb]; rfl
    rw [e2]
    exact h
theorem setNext_1 {a : Addr} {Q : Option (Value × Nat) → Shared → Prop} (ho : s.heap.get? a = some (set1 (ledOf w)))
    (h : Q none s) : wpAny (model prog w) A (setNext a (kOf w) 1 1) Q E s := by
  unfold setNext
  refine wpAny_bind (set1_st ho ?_)
  refine wpAny_bind (byText_is ?_)
  cases hb : w.params.followText "set-order" with
  | true =>
    rw [if_pos rfl, if_neg (by decide)]
    refine wpAny_bind (setWalk_1 hb ho (wpAny_pure ?_))
    exact h
  | false =>
    have e : kOf w = 2 := by unfold kOf; rw [if_neg (by rw [hb]; decide)]
    rw [e]
    rw [if_neg (by decide)]
    rw [if_neg (by unfold ledOf; rw [hb]; decide +kernel)]
    refine wpAny_bind (wpAny_of_eq (a := ()) (by unfold ledOf; rw [hb]; rfl) ?_)
    refine wpAny_pure ?_
    have e2 : tab1 (ledOf w) = tab1 true := by unfold ledOf; rw [hb]; rfl
    rw [e2]
    exact h
theorem next_set1 {a it : Addr} {Q : Option Value → Shared → Prop} (ho : s.heap.get? a = some (set1 (ledOf w))) (hi : s.heap.get? it = some (setIt 0 0 (.ref a)))
    (h : ∀ h', h'.get? it = some (setIt (kOf w) 1 (.ref a)) → Heap.SameBut it s.heap h' → Q (some (.bool true)) { s with heap := h' }) : wpAny (model prog w) A (pyNext (.ref it)) Q E s := by
  have hT : s.TypeIs (.ref it) "set_iterator" := ⟨_, hi, rfl⟩
  unfold pyNext
  refine wpAny_bind (wpAny_attempt (wpAny_callSpecial?_slot (name := Str.ofString "__next__") hT slot_seti_next
    (wpAny_call_entry slot_seti_next hT entry_seti_next ?_ (args_seti_next _))))
  unfold Builtin.«set_iterator.__next__»
  refine wpAny_bind (wpAny_pure ?_)
  refine wpAny_bind (wpAny_fieldsOf hi rfl ?_)
  dsimp only
  unfold setEntries
  refine wpAny_bind (wpAny_bind (set1_st ho (wpAny_pure ?_)))
  rw [if_neg (by simp)]
  refine wpAny_bind (setNext_0 ho ?_)
  dsimp only
  refine wpAny_bind (wpAny_setField_rec hi (by simp) fun h₁ he₁ hs₁ => ?_)
  refine wpAny_bind (wpAny_setField_rec he₁ (by simp) fun h₂ he₂ hs₂ => ?_)
  exact wpAny_pure ⟨_, rfl, wpAny_pure (h h₂ he₂ (hs₁.trans hs₂))⟩
theorem end_set1 {a it : Addr} {Q : Option Value → Shared → Prop} (hh : A.handled = none) (ho : s.heap.get? a = some (set1 (ledOf w))) (hi : s.heap.get? it = some (setIt (kOf w) 1 (.ref a)))
    (h : ∀ h', Heap.ExtBut it s.heap h' → Q none { s with heap := h' }) : wpAny (model prog w) A (pyNext (.ref it)) Q E s := by
  have hT : s.TypeIs (.ref it) "set_iterator" := ⟨_, hi, rfl⟩
  unfold pyNext
  refine wpAny_bind (wpAny_attempt (wpAny_callSpecial?_slot (name := Str.ofString "__next__") hT slot_seti_next
    (wpAny_call_entry slot_seti_next hT entry_seti_next ?_ (args_seti_next _))))
  unfold Builtin.«set_iterator.__next__»
  refine wpAny_bind (wpAny_pure ?_)
  refine wpAny_bind (wpAny_fieldsOf hi rfl ?_)
  dsimp only
  unfold setEntries
  refine wpAny_bind (wpAny_bind (set1_st ho (wpAny_pure ?_)))
  rw [if_neg (by simp)]
  rw [Int.toNat_natCast]
  refine wpAny_bind (setNext_1 ho ?_)
  dsimp only
  refine wpAny_bind (wpAny_setField_rec hi (by simp) fun h₁ he₁ hs₁ => ?_)
  show wpAny _ _ (newExc (.type "StopIteration") [] >>= _) _ _ _
  refine wpAny_bind ?_
  simp only [newExc, newTuple]
  refine wpAny_bind (wpAny_newObj_type ?_ (by size_fits))
  refine wpAny_bind (m := firstArgMember _ _) (wpAny_of_eq (a := Value.none) (by first | rfl | (simp only [firstArgMember]; rfl)) ?_)
  refine wpAny_newObj_type ?_ (by size_fits)
  simp only [raiseNew]
  refine wpAny_bind (wpAny_handled ?_)
  rw [show A.in1.handled = none from hh]
  refine wpAny_bind (wpAny_pure (wpAny_throw ?_))
  refine wpAny_bind (wpAny_isInstance (T := "StopIteration") (b := true) ⟨_, Heap.get?_push_size _ rfl, rfl⟩ isSubtype_stop ?_)
  exact wpAny_pure (h _ ((hs₁.extBut.push _).push _))
/-- x, = {True} -/
theorem unpack_set1 {a : Addr} {Q : List Value → Shared → Prop} (hh : A.handled = none) (ho : s.heap.get? a = some (set1 (ledOf w)))
    (h : ∀ h', (∀ b o, s.heap.get? b = some o → h'.get? b = some o) → Q [.bool true] { s with heap := h' }) : wpAny (model prog w) A (unpackItems (.ref a) 1 none) Q E s := by
  have hT : s.TypeIs (.ref a) "set" := ⟨_, ho, rfl⟩
  unfold unpackItems notIterableAtAll
  refine wpAny_bind (wpAny_bind (wpAny_specialOf hT slot_seti.lookup ?_))
  rw [if_pos (by rfl)]
  refine wpAny_pure ?_
  rw [if_neg (by decide)]
  refine wpAny_bind (wpAny_holding (iter_set1 ho ?_))
  have hlt : a < s.heap.objs.size := Heap.lt_size ho
  have hne : a ≠ s.heap.objs.size := Nat.ne_of_lt hlt
  dsimp only
  refine wpAny_bind (wpAny_holding ?_)
  unfold draw
  refine wpAny_bind (next_set1 (a := a) (Heap.get?_push_of_some _ ho) (Heap.get?_push_size _ rfl) fun h₁ he₁ hs₁ => ?_)
  dsimp only
  refine wpAny_bind (wpAny_holding ?_)
  unfold draw
  refine wpAny_pure (wpAny_pure ?_)
  rw [if_neg (by simp)]
  refine wpAny_bind (wpAny_holding (end_set1 (a := a) hh (hs₁.extBut _ _ hne (Heap.get?_push_of_some _ ho)) he₁ fun h₂ he₂ => ?_))
  rw [if_neg (by decide)]
  exact wpAny_pure (h h₂ fun b o e => he₂ b o (Nat.ne_of_lt (Heap.lt_size e)) (hs₁.extBut b o (Nat.ne_of_lt (Heap.lt_size e)) (Heap.get?_push_of_some _ e)))
end
end
section
set_option maxRecDepth 100000
set_option maxHeartbeats 1000000
noncomputable abbrev tupO (its : Array Value) (nn : Nat) : Obj := { cls := .type "tuple", data := .seq its nn }
section
variable {prog : Program} {w : World} {A : Around} {E : Value → Shared → Prop} {s : Shared} {h₀ : Heap} {L : Addr} {m : Str → Option Value} {env : Env}
/-! [elt for x in t], t a tuple of the ledger's -/
def TSrc (prog : Program) (w : World) (A : Around) (h₀ : Heap) (L : Addr) (m : Str → Option Value) (env : Env) (elt : Expr) (x : Str) (scope : Scope) (cl : List (Str × Addr)) (Fin : Shared → List Value → List (Addr × Obj) → Prop) (xv : Value) (s₁ : Shared) : Prop :=
  ∃ ax its nn news, xv = .ref ax ∧ A.handled = none ∧ Fr h₀ L s₁.heap m ∧ News h₀ L s₁.heap news ∧ (ax, tupO its nn) ∈ news ∧ its.size ≤ sizeLine ∧
    ∀ s₂ : Shared, (∃ h, s₂ = { s₁ with heap := h }) → LCg.CompRest prog w A h₀ L m env elt x scope cl s₂ (fun nx => (ax, tupO its nn) ∈ nx) (fun i v => its[i]? = some v) (Fin s₂) its.size 0 [] news
theorem TSrc.intro {elt : Expr} {x : Str} {scope : Scope} {cl : List (Str × Addr)} {Fin : Shared → List Value → List (Addr × Obj) → Prop} {ax : Addr} {its : Array Value} {nn : Nat} {news : List (Addr × Obj)} {s₁ : Shared}
    (hh : A.handled = none) (F : Fr h₀ L s₁.heap m) (N : News h₀ L s₁.heap news) (hm : (ax, tupO its nn) ∈ news) (hsz : its.size ≤ sizeLine)
    (h : ∀ g, LCg.CompRest prog w A h₀ L m env elt x scope cl { s₁ with heap := g } (fun nx => (ax, tupO its nn) ∈ nx) (fun i v => its[i]? = some v) (Fin { s₁ with heap := g }) its.size 0 [] news) :
    TSrc prog w A h₀ L m env elt x scope cl Fin (.ref ax) s₁ := ⟨ax, its, nn, news, rfl, hh, F, N, hm, hsz, fun _ ⟨g, e⟩ => e ▸ h g⟩
theorem tup_st {ax I : Addr} {its : Array Value} {nn : Nat} : ∀ i (h h' : Heap) (o : Obj) (nw : List (Addr × Obj)), (h.IsTupleIter I ax i ∧ h.IsTuple ax its) → h.get? I = some o → h'.get? I = some o → (∀ b o, h₀.get? b = some o → h'.get? b = some o) → News h₀ L h' nw → (ax, tupO its nn) ∈ nw → (h'.IsTupleIter I ax i ∧ h'.IsTuple ax its) :=
  fun i h h' o nw st e e' k N S => ⟨by obtain ⟨o', q, r⟩ := st.1; rw [e] at q; cases q; exact ⟨o, e', r⟩, ⟨_, (N _ S).1, rfl, nn, rfl⟩⟩
theorem Assign_ListComp_T {elt iter : Expr} {x y : Str} {px py : Pos} {scope : Scope} {cl : List (Str × Addr)} {pos spos : Pos} {Q : Flow → Shared → Prop} (_F₀ : Fr h₀ L s.heap m) (hLe : env.locals = L)
    (hsw : swapsWith (.ListComp elt [⟨.Name x px, iter, [], 0⟩] scope pos) (some (.Name y py)) spos.line env = pure true)
    (hclos : closureFor scope env = pure cl) (hcell : ∀ z ∈ scope.names, z.2 ≠ .cell) (hkind : scope.kind = .function)
    (hnames : ∀ z ∈ scope.names, z.2 = .local → scope.names.lookup z.1 = some .local) (hx : scope.names.lookup x = some .local)
    (hy : env.kindOf y = some .local) (hp : (env.scope.kind == .class || (env.scope.kind == .module && env.locals != env.globals)) = false)
    (h : wpAny (model prog w) A (eval iter env) (TSrc prog w A h₀ L m env elt x scope cl (fun s₂ => LCg.FinA h₀ L m s₂ y Q)) E s)
    (hs : ∀ x, foldedSetIterable iter env x = pure x := by intro _; rfl) :
    wpAny (model prog w) A (exec (.Assign [.Name y py] (.ListComp elt [⟨.Name x px, iter, [], 0⟩] scope pos) spos) env) Q E s := by
  subst hLe
  rw [exec_Assign_Name_used _ _ _ _ hsw]
  refine wpAny_bind (wpAny_standAt (wpAny_bind ?_))
  show wpAny _ A (do let _ ← comprehension (.ListComp elt [⟨.Name x px, iter, [], 0⟩] scope pos) scope env _ (newList []) false (eval iter env) (some (assign (.Name y py) env))) _ _ s
  refine wpAny_bind (wpAny_mono (wpAny_comprehension_free (use := some (assign (.Name y py) env)) (Q := fun _ s' => Q .next s') rfl hs hclos hkind hnames
    (wpAny_mono h (fun xv s₁ h₁ => ?_) fun _ _ e => e)) (fun _ s' hq => wpAny_pure (wpAny_pure hq)) fun _ _ e => e)
  obtain ⟨ax, its, nn, news, rfl, hh, F, N, hm, hsz, R⟩ := h₁
  have hl : s₁.heap.IsTuple ax its := ⟨_, (N _ hm).1, rfl, nn, rfl⟩
  have hlt : ax < s₁.heap.objs.size := Heap.lt_size (N _ hm).1
  refine wpAny_pyIter_tuple hl ?_
  have up : ∀ b o, s₁.heap.get? b = some o → (s₁.heap.push { cls := .type "tuple_iterator", data := .fields #[.ref ax, .int 0 0] }).get? b = some o := fun b o e => Heap.get?_push_of_some _ e
  refine LCg.block_U (Walks.tuple hh s₁.heap.objs.size ax (Nat.ne_of_lt hlt) its) hsz (fun i h st => by obtain ⟨o, e, _⟩ := st.1; exact ⟨o, e⟩) tup_st hcell hkind hx ⟨⟨_, Heap.get?_push_size _ rfl, rfl, rfl⟩, ⟨_, up _ _ (N _ hm).1, rfl, nn, rfl⟩⟩ (fun b hb => ?_)
      (F.keeps up) (N.grown up) (Nat.ne_of_lt F.ns.lt) (next_is_new F) (fun p hp => Nat.ne_of_lt (Heap.lt_size (N p hp).1)) hm (R _ ⟨_, rfl⟩) ?_
  · show b < (s₁.heap.push _).objs.size
    rw [Heap.size_push]
    rcases List.mem_cons.mp hb with rfl | hb
    · exact Nat.lt_succ_self _
    · rw [List.mem_singleton.mp hb]; exact Nat.lt_succ_of_lt hlt
  · intro D C h' tk m' ys news' F' N' o1 hn hC₀ hD₀ hCL hDL hCD offC fin
    show wpAny _ A (assign (.Name y py) env (.ref D)) _ _ _
    refine wpAny_assign_Name (wpAny_storeName_local hy F'.ns (fun h₂ hn₂ hs₂ => ?_) hp)
    have hL₀ : h₀.get? env.locals = none := Heap.get?_none_of_le F'.above
    have F₂ : Fr h₀ env.locals h₂ (fun z => if z = y then some (.ref D) else m z) := ⟨hn₂, fun b o e => hs₂.extBut b o (fun q => by rw [q, hL₀] at e; cases e) (F'.keep b o e), F'.above⟩
    refine ⟨m', hn.sameBut hs₂ hCL, fun h'' hs'' => fin D h'' _ (F₂.change hs'' hCL hC₀) (fun p hp => ?_) o1⟩
    have z : h₂.get? p.1 = some p.2 := hs₂.extBut _ _ (N' p hp).2.1 (N' p hp).1
    refine ⟨hs''.extBut _ _ ?_ z, (N' p hp).2⟩
    rcases List.mem_cons.mp hp with rfl | hp
    · exact Ne.symm hCD
    · exact offC p hp
/-! y, = {elt for x in t}, each elt True -/
theorem turn_set (elt target iter : Expr) (scope : Scope) (pos : Pos) (it acc : Value) (env : Env) :
    compTurn (.SetComp elt [⟨target, iter, [], 0⟩] scope pos) 0 it acc env = (standAt iter.pos >>= fun _ => pyNext it >>= fun r => match r with
      | none => pure (.done .next)
      | some v => letOwnedTupleGo target it v >>= fun _ => assign target env v >>= fun _ =>
        (eval elt env >>= fun x => standAt elt.pos >>= fun _ => call (.builtin "set.add") [acc, x] >>= fun _ => pure ()) >>= fun _ =>
          again (.compLoop (.SetComp elt [⟨target, iter, [], 0⟩] scope pos) 0 it acc env)) := by rfl
theorem loop_set {elt iter : Expr} {x : Str} {px : Pos} {scope : Scope} {pos : Pos} {it acc : Value} {R : Result → Shared → Prop} (I : Nat → Shared → Prop)
    (turn : ∀ n s, I n s → wpAny (model prog w) A (pyNext it) (fun r s₁ => match r with
      | none => R (.ok .next) s₁
      | some v => wpAny (model prog w) A (assign (.Name x px) env v) (fun _ s₂ => wpAny (model prog w) A (eval elt env) (fun x s₃ =>
          wpAny (model prog w) A (call (.builtin "set.add") [acc, x]) (fun _ s₄ => ∃ m, m < n ∧ I m s₄) (notedBy (model prog w) A env fun e s' => R (.error e) s') s₃)
          (notedBy (model prog w) A env fun e s' => R (.error e) s') s₂) (notedBy (model prog w) A env fun e s' => R (.error e) s') s₁) (notedBy (model prog w) A env fun e s' => R (.error e) s') s)
    (n : Nat) (h : I n s) (ht : ∀ v, letOwnedTupleGo (.Name x px) it v = pure () := by intro _; rfl) :
    codeAny (model prog w) A (.compLoop (.SetComp elt [⟨.Name x px, iter, [], 0⟩] scope pos) 0 it acc env) R s := by
  refine codeAny_loop rfl I (fun n s hI => ?_) n h
  show wpAny _ _ ((compTurn (.SetComp elt [⟨.Name x px, iter, [], 0⟩] scope pos) 0 it acc env).onRaise (fun x => do noteFrame x env; theTreesLotGoes x)) _ _ s
  refine wpAny_noted ?_
  rw [turn_set]
  refine wpAny_bind (wpAny_standAt (wpAny_bind (wpAny_mono (turn n s hI) (fun r s₁ h₁ => ?_) fun _ _ h' => h')))
  cases r with
  | none => exact wpAny_pure h₁
  | some v =>
    refine wpAny_bind (wpAny_of_eq (ht v) ?_)
    exact wpAny_bind (wpAny_mono h₁ (fun _ s₂ h₂ => wpAny_bind (wpAny_bind (wpAny_mono h₂ (fun x s₃ h₃ => wpAny_bind (wpAny_standAt (wpAny_bind (wpAny_mono h₃
      (fun _ s₄ h₄ => wpAny_pure (wpAny_pure ⟨rfl, h₄⟩)) fun _ _ h' => h')))) fun _ _ h' => h'))) fun _ _ h' => h')
theorem start_set {elt target iter : Expr} {scope : Scope} {pos : Pos} {it acc : Value} {R : Result → Shared → Prop}
    (h0 : codeAny (model prog w) A (.compLoop (.SetComp elt [⟨target, iter, [], 0⟩] scope pos) 0 it acc env) R s)
    (h : wpAny (model prog w) A (pyIter it) (fun it' s' => codeAny (model prog w) A (.compLoop (.SetComp elt [⟨target, iter, [], 0⟩] scope pos) 0 it' acc env) R s')
      (notedBy (model prog w) A env fun x s' => R (.error x) s') s) :
    codeAny (model prog w) A (.compStart (.SetComp elt [⟨target, iter, [], 0⟩] scope pos) 0 it acc env) R s := by
  refine codeAny_of_tree ?_
  show wpAny _ _ ((compStart (.SetComp elt [⟨target, iter, [], 0⟩] scope pos) 0 it acc env).onRaise (fun x => do noteFrame x env; standAt theWindowsPlace)) _ _ s
  refine wpAny_notedAt ?_
  unfold compStart
  show wpAny _ _ (ask >>= _) _ _ s
  refine wpAny_bind (wpAny_askSetting (wpAny_ite ?_))
  split
  · first
      | exact wpAny_bind (wpAny_pure (wpAny_pure (And.intro rfl h0)))
      | exact wpAny_pure (And.intro rfl h0)
  · first
      | exact wpAny_bind (wpAny_rule (wpAny_bind (wpAny_standAt (wpAny_bind (wpAny_mono h (fun it' s' h' => wpAny_pure (And.intro rfl h')) fun _ _ x => x)))))
      | (refine wpAny_bind (wpAny_rule ?_); show wpAny _ _ (standAt iter.pos >>= _) _ _ s; exact wpAny_bind (wpAny_standAt (wpAny_bind (wpAny_mono h (fun it' s' h' => wpAny_pure (And.intro rfl h')) fun _ _ x => x))))
def SSrc (prog : Program) (w : World) (A : Around) (h₀ : Heap) (L : Addr) (m : Str → Option Value) (env : Env) (elt : Expr) (x : Str) (scope : Scope) (cl : List (Str × Addr)) (y : Str) (Q : Flow → Shared → Prop) (xv : Value) (s₁ : Shared) : Prop :=
  ∃ ax its nn news, xv = .ref ax ∧ A.handled = none ∧ Fr h₀ L s₁.heap m ∧ News h₀ L s₁.heap news ∧ (ax, tupO its nn) ∈ news ∧ 0 < its.size ∧
    (∀ (i : Nat) v I oI C oC D oD m₂ h tk (E' : Value → Shared → Prop), its[i]? = some v → LCg.NsObj oC m₂ → m₂ x = some v → Fr h₀ L h m → News h₀ L h ((I, oI) :: (C, oC) :: (D, oD) :: news) → LCg.Off3 I C D news → ((@Ne Nat I C) ∧ (@Ne Nat I D) ∧ (@Ne Nat C D)) →
      wpAny (model prog w) A (eval elt (compEnvC scope cl C env)) (LCg.CompEnd h₀ L m { s₁ with heap := h, toks := tk } I oI C oC D oD (fun _ => True) (fun y nx => y = .bool true ∧ nx = news)) E' { s₁ with heap := h, toks := tk }) ∧
    (∀ h tk, Fr h₀ L h (fun z => if z = y then some (.bool true) else m z) → News h₀ L h news → Q .next { s₁ with heap := h, toks := tk })
theorem exec_SetOne {elt iter : Expr} {x y : Str} {px py : Pos} {scope : Scope} {cl : List (Str × Addr)} {pos spos tp : Pos} {kk : Nat} {Q : Flow → Shared → Prop} (_F₀ : Fr h₀ L s.heap m) (hLe : env.locals = L)
    (hclos : closureFor scope env = pure cl) (hcell : ∀ z ∈ scope.names, z.2 ≠ .cell) (hkind : scope.kind = .function)
    (hnames : ∀ z ∈ scope.names, z.2 = .local → scope.names.lookup z.1 = some .local) (hx : scope.names.lookup x = some .local)
    (hy : env.kindOf y = some .local) (hp : (env.scope.kind == .class || (env.scope.kind == .module && env.locals != env.globals)) = false)
    (h : wpAny (model prog w) A (eval iter env) (SSrc prog w A h₀ L m env elt x scope cl y Q) E s)
    (hs : ∀ x, foldedSetIterable iter env x = pure x := by intro _; rfl) :
    wpAny (model prog w) A (exec (.Assign [.Tuple [.Name y py] kk tp] (.SetComp elt [⟨.Name x px, iter, [], 0⟩] scope pos) spos) env) Q E s := by
  subst hLe
  refine Assign_Tuple ?_
  show wpAny _ A (comprehension (.SetComp elt [⟨.Name x px, iter, [], 0⟩] scope pos) scope env iter.pos (newSet (.type "set")) false (eval iter env)) _ _ s
  refine wpAny_comprehension_free (use := none) rfl hs hclos hkind hnames (wpAny_mono h (fun xv s₁ h₁ => ?_) fun _ _ e => e)
  obtain ⟨ax, its, nn, news, rfl, hh, F, N, hm, hpos, hel, hfin⟩ := h₁
  have hl : s₁.heap.IsTuple ax its := ⟨_, (N _ hm).1, rfl, nn, rfl⟩
  have hlt : ax < s₁.heap.objs.size := Heap.lt_size (N _ hm).1
  refine wpAny_pyIter_tuple hl ?_
  generalize hH1 : s₁.heap.push { cls := .type "tuple_iterator", data := .fields #[.ref ax, .int 0 0] } = H1
  have up1 : ∀ b o, s₁.heap.get? b = some o → H1.get? b = some o := fun b o e => hH1 ▸ Heap.get?_push_of_some _ e
  have hI1 : H1.IsTupleIter s₁.heap.objs.size ax 0 := hH1 ▸ ⟨_, Heap.get?_push_size _ rfl, rfl, rfl⟩
  have hz1 : H1.objs.size = s₁.heap.objs.size + 1 := by rw [← hH1, Heap.size_push]
  have F1 : Fr h₀ env.locals H1 m := F.keeps up1
  have N1 : News h₀ env.locals H1 news := N.grown up1
  generalize hIe : s₁.heap.objs.size = I at hI1 hz1 hlt ⊢
  have newI : ∀ p ∈ news, p.1 < I := fun p hp => hIe ▸ Heap.lt_size (N p hp).1
  have hLI : env.locals < I := hIe ▸ F.ns.lt
  have old0 : ∀ b o, h₀.get? b = some o → b < I := fun b o e => hIe ▸ Heap.lt_size (F.keep b o e)
  have none0 : ∀ b, I ≤ b → h₀.get? b = none := fun b hb => by
    cases e : h₀.get? b with
    | none => rfl
    | some o => exact absurd (old0 b o e) (Nat.not_lt.mpr hb)
  clear hH1
  refine new_set ?_
  dsimp only
  generalize hH2 : H1.push (set0 (ledOf w)) = H2
  have up2 : ∀ b o, H1.get? b = some o → H2.get? b = some o := fun b o e => hH2 ▸ Heap.get?_push_of_some _ e
  have hD2 : H2.get? H1.objs.size = some (set0 (ledOf w)) := hH2 ▸ Heap.get?_push_size _ rfl
  have hz2 : H2.objs.size = I + 1 + 1 := by rw [← hH2, Heap.size_push, hz1]
  rw [hz1] at hD2 ⊢
  refine wpAny_newFunctionEnv hcell (by intro y hy; simp at hy) (fun h₁ hns₁ hsb₁ => ?_) hkind
  dsimp only at hns₁ hsb₁ ⊢
  rw [hz2] at hns₁ hsb₁ ⊢
  have up3 : ∀ b o, b ≠ I + 1 + 1 → H2.get? b = some o → h₁.get? b = some o := fun b o hb e => hsb₁.extBut b o hb (Heap.get?_push_of_some _ e)
  have nC : ∀ b, b < I + 1 + 1 → b ≠ I + 1 + 1 := fun b hb => Nat.ne_of_lt hb
  have hD3 := up3 _ _ (nC _ (Nat.lt_succ_self _)) hD2
  obtain ⟨oI, hoI, hcI, hdI⟩ := hI1
  have hI3 : h₁.IsTupleIter I ax 0 := ⟨oI, up3 _ _ (nC _ (Nat.lt_succ_of_lt (Nat.lt_succ_self _))) (up2 _ _ hoI), hcI, hdI⟩
  have lt2 : ∀ {b : Nat}, b < I → b < I + 1 + 1 := fun hb => Nat.lt_succ_of_lt (Nat.lt_succ_of_lt hb)
  have F3 : Fr h₀ env.locals h₁ m := by
    obtain ⟨oL, a1, a2, hoL, a3⟩ := F1.ns
    exact ⟨⟨oL, a1, a2, up3 _ _ (nC _ (lt2 hLI)) (up2 _ _ hoL), a3⟩, fun b o e => up3 b o (nC _ (lt2 (old0 b o e))) (up2 _ _ (F1.keep b o e)), F1.above⟩
  have N3 : News h₀ env.locals h₁ news := fun p hp => ⟨up3 _ _ (nC _ (lt2 (newI p hp))) (up2 _ _ (N1 p hp).1), (N1 p hp).2⟩
  have hCL : I + 1 + 1 ≠ env.locals := Nat.ne_of_gt (lt2 hLI)
  have hDL : I + 1 ≠ env.locals := Nat.ne_of_gt (Nat.lt_succ_of_lt hLI)
  have hIL : I ≠ env.locals := Nat.ne_of_gt hLI
  have hID : I ≠ I + 1 := Nat.ne_of_lt (Nat.lt_succ_self _)
  have hIC : I ≠ I + 1 + 1 := Nat.ne_of_lt (Nat.lt_succ_of_lt (Nat.lt_succ_self _))
  have hDC : I + 1 ≠ I + 1 + 1 := Nat.ne_of_lt (Nat.lt_succ_self _)
  have off : ∀ p ∈ news, p.1 ≠ I ∧ p.1 ≠ I + 1 + 1 ∧ p.1 ≠ I + 1 := fun p hp => ⟨Nat.ne_of_lt (newI p hp), Nat.ne_of_lt (lt2 (newI p hp)), Nat.ne_of_lt (Nat.lt_succ_of_lt (newI p hp))⟩
  let oD : Nat → Obj := fun i => if i = 0 then set0 (ledOf w) else set1 (ledOf w)
  have loop : ∀ s₃ : Shared, s₃ = { s₁ with heap := h₁, toks := s₁.toks + ([] : List (Str × Value)).length } →
      codeAny (model prog w) A (.compLoop (.SetComp elt [⟨.Name x px, iter, [], 0⟩] scope pos) 0 (.ref I) (.ref (I + 1)) (compEnvC scope cl (I + 1 + 1) env))
        (compPost (model prog w) A E none (fun v s₁ => wpAny (model prog w) A (assign (.Tuple [.Name y py] kk tp) env v) (fun _ => Q .next) E s₁) (.ref (I + 1)) (I + 1 + 1)) s₃ := by
    rintro s₃ rfl
    refine loop_set
      (fun k s' => ∃ h' tk i m', s' = { s₁ with heap := h', toks := tk } ∧ i ≤ its.size ∧ k = its.size + 1 - i ∧ h'.IsTupleIter I ax i ∧ Fr h₀ env.locals h' m ∧ h'.Ns (I + 1 + 1) m' ∧ News h₀ env.locals h' ((I + 1, oD i) :: news)) ?_ (its.size + 1)
      ⟨h₁, _, 0, _, rfl, Nat.zero_le _, rfl, hI3, F3, hns₁, fun p hp => ?_⟩
    · rintro k s' ⟨h', tk, i, m', rfl, hi, rfl, hit, F', hn', N'⟩
      have N'' : News h₀ env.locals h' news := fun p hp => N' p (.tail _ hp)
      have hD' := (N' _ (.head _)).1
      have hl' : h'.IsTuple ax its := ⟨_, (N'' _ hm).1, rfl, nn, rfl⟩
      by_cases hlt : i < its.size
      · have hx' : its[i]? = some its[i] := Array.getElem?_eq_getElem hlt
        refine wpAny_pyNext_tuple_item (s := { s₁ with heap := h', toks := tk }) hit hl' hx' fun h₂ hit₂ hs₂ => ?_
        dsimp only
        refine wpAny_assign_Name (wpAny_storeName_local (lookup_relabel_local hx) (hn'.sameBut hs₂ (Ne.symm hIC)) (fun h₃ hn₃ hs₃ => ?_) (by simp [compEnvC, relabel, hkind]))
        have F₃ : Fr h₀ env.locals h₃ m := (F'.change hs₂ hIL (none0 _ (Nat.le_refl _))).change hs₃ hCL (none0 _ (Nat.le_succ_of_le (Nat.le_succ _)))
        obtain ⟨o2, ho2, hc2, hd2⟩ := hit₂
        have hoI3 := hs₃.extBut _ _ hIC ho2
        obtain ⟨oC, heC, hoC⟩ := LCg.ns_obj hn₃
        have hD₃ := hs₃.extBut _ _ hDC (hs₂.extBut _ _ (Ne.symm hID) hD')
        have N₃ : News h₀ env.locals h₃ ((I, o2) :: (I + 1 + 1, oC) :: (I + 1, oD i) :: news) := fun p hp => by
          rcases List.mem_cons.mp hp with rfl | hp
          · exact ⟨hoI3, hIL, none0 _ (Nat.le_refl _)⟩
          rcases List.mem_cons.mp hp with rfl | hp
          · exact ⟨heC, hCL, none0 _ (Nat.le_succ_of_le (Nat.le_succ _))⟩
          rcases List.mem_cons.mp hp with rfl | hp
          · exact ⟨hD₃, hDL, none0 _ (Nat.le_succ _)⟩
          · exact ⟨hs₃.extBut _ _ (off p hp).2.1 (hs₂.extBut _ _ (off p hp).1 (N'' p hp).1), (N'' p hp).2⟩
        refine wpAny_mono (hel i _ I o2 (I + 1 + 1) oC (I + 1) (oD i) _ h₃ _ _ hx' hoC (by simp) F₃ N₃ (LCg.Off3.of off) ⟨hIC, hID, Ne.symm hDC⟩) (fun yv s₄ h₄ => ?_) fun _ _ e => e
        obtain ⟨h₄, tk₄, news₄, rfl, F₄, N₄, off₄, _, rfl, rfl⟩ := h₄
        have zI := (N₄ _ (.head _)).1
        have zC := (N₄ _ (.tail _ (.head _))).1
        have zD := (N₄ _ (.tail _ (.tail _ (.head _)))).1
        have N₄' : News h₀ env.locals h₄ news₄ := fun p hp => N₄ p (.tail _ (.tail _ (.tail _ hp)))
        have fin : ∀ h₅ tk₅, h₅.get? (I + 1) = some (set1 (ledOf w)) → Heap.SameBut (I + 1) h₄ h₅ →
            ∃ k', k' < its.size + 1 - i ∧ ∃ h' tk i m', ({ s₁ with heap := h₅, toks := tk₅ } : Shared) = { s₁ with heap := h', toks := tk } ∧ i ≤ its.size ∧ k' = its.size + 1 - i ∧ h'.IsTupleIter I ax i ∧ Fr h₀ env.locals h' m ∧ h'.Ns (I + 1 + 1) m' ∧ News h₀ env.locals h' ((I + 1, oD i) :: news₄) := by
          intro h₅ tk₅ e5 hs5
          refine ⟨its.size + 1 - (i + 1), by omega, h₅, tk₅, i + 1, _, rfl, hlt, rfl, ⟨o2, hs5.extBut _ _ hID zI, hc2, hd2⟩, F₄.change hs5 hDL (none0 _ (Nat.le_succ _)), (hoC.ns zC).sameBut hs5 (Ne.symm hDC), fun p hp => ?_⟩
          rcases List.mem_cons.mp hp with rfl | hp
          · exact ⟨e5, hDL, none0 _ (Nat.le_succ _)⟩
          · exact ⟨hs5.extBut _ _ (off p hp).2.2 (N₄' p hp).1, (N₄' p hp).2⟩
        by_cases hi0 : i = 0
        · have zD' : h₄.get? (I + 1) = some (set0 (ledOf w)) := by
            have : oD i = set0 (ledOf w) := if_pos hi0
            rw [this] at zD
            exact zD
          exact call_add_0 (s := { s₁ with heap := h₄, toks := tk₄ }) zD' fun h₅ e5 hs5 => fin h₅ _ e5 hs5
        · have zD' : h₄.get? (I + 1) = some (set1 (ledOf w)) := by
            have : oD i = set1 (ledOf w) := if_neg hi0
            rw [this] at zD
            exact zD
          exact call_add_1 (s := { s₁ with heap := h₄, toks := tk₄ }) zD' (fin h₄ _ zD' (Heap.SameBut.refl _ _))
      · obtain rfl : i = its.size := Nat.le_antisymm hi (Nat.not_lt.mp hlt)
        refine wpAny_pyNext_tuple_end (s := { s₁ with heap := h', toks := tk }) hh hit hl' (by simp) fun h₂ he₂ => ?_
        have hd1 : oD its.size = set1 (ledOf w) := if_neg (Nat.ne_of_gt hpos)
        rw [hd1] at hD'
        have hD2' := he₂ _ _ (Ne.symm hID) hD'
        have F₂ := LCg.fr_but F' (fun b o hb e => he₂ b o (by simpa using hb) e) (Ne.symm hIL) (none0 _ (Nat.le_refl _))
        have N₂ : News h₀ env.locals h₂ news := LCg.news_but N'' (fun b o hb e => he₂ b o (by simpa using hb) e) fun p hp => (off p hp).1
        have hn2 : h₂.Ns (I + 1 + 1) m' := hn'.at' fun o e => he₂ _ o (Ne.symm hIC) e
        refine ⟨m', hn2, fun h₃ hs₃ => ?_⟩
        have hD3' : h₃.get? (I + 1) = some (set1 (ledOf w)) := hs₃.extBut _ _ hDC hD2'
        have F₃ : Fr h₀ env.locals h₃ m := F₂.change hs₃ hCL (none0 _ (Nat.le_succ_of_le (Nat.le_succ _)))
        have N₃ : News h₀ env.locals h₃ news := fun p hp => ⟨hs₃.extBut _ _ (off p hp).2.1 (N₂ p hp).1, (N₂ p hp).2⟩
        show wpAny _ A (standAt tp >>= fun _ => unpack (.ref (I + 1)) (assignEach [.Name y py] env)) _ _ _
        refine wpAny_bind (wpAny_standAt ?_)
        unfold unpack
        refine wpAny_bind (wpAny_holding (unpack_set1 (s := { s₁ with heap := h₃, toks := tk }) hh hD3' fun h₅ hk₅ => ?_))
        dsimp only
        have F₅ : Fr h₀ env.locals h₅ m := F₃.keptAll hk₅
        have N₅ : News h₀ env.locals h₅ news := fun p hp => ⟨hk₅ _ _ (N₃ p hp).1, (N₃ p hp).2⟩
        show wpAny _ A (holding [] (assign (.Name y py) env (.bool true)) >>= fun _ => assignInOrder [] []) _ _ _
        refine wpAny_bind (wpAny_holding (wpAny_assign_Name (wpAny_storeName_local hy F₅.ns (fun h₆ hn₆ hs₆ => ?_) hp)))
        refine wpAny_pure ?_
        exact hfin h₆ _ (F₅.set hn₆ hs₆) (N₅.set hs₆)
    · rcases List.mem_cons.mp hp with rfl | hp
      · exact ⟨hD3, hDL, none0 _ (Nat.le_succ _)⟩
      · exact N3 p hp
  exact start_set (loop _ rfl) (wpAny_pyIter_tupleiter (s := { s₁ with heap := h₁, toks := s₁.toks + ([] : List (Str × Value)).length }) hI3 (loop _ rfl))
end
end
example (w : World) (h : Heap) : (hd.heap_39 w.params).In h → Challenge.rw_pd0179_01.prog = Challenge.rw_pd0179_01.prog → True := by k_fill; intros; trivial
local macro_rules | `(tactic| z_run) => `(tactic| first | assumption | exact rfl | (simp only [Around.deeper, Around.in1]; first | exact rfl | (rw [(by assumption : Around.frames _ = _)]; rfl)))
local macro_rules | `(tactic| z_go) => `(tactic| ((try simp only [depth_under_make, depth_under_kw, depth_in1, depth_deeper, depth_caller, units_in1, units_deeper, Around.mark_units, units_caller]); first | omega | decide))
local macro_rules | `(tactic| z_lens) => `(tactic| first | with_reducible exact True.intro | with_reducible assumption | omega | ((simp only [List.length_cons, List.length_nil, List.length_append, List.length_take, List.length_drop]); omega) | ((repeat' apply And.intro) <;> first | assumption | omega))
local macro_rules | `(tactic| x_go) => `(tactic| (intros; (try dsimp only); (try (with_reducible refine fold3 ?_; intro qk ek sk))))
local macro_rules | `(tactic| row_wit1 $c) => `(tactic| (k_here; k_dflt (refine $c (h := ?_); k_whole); x_go))
local macro_rules | `(tactic| ktf_call $c) => `(tactic| (k_dflt (first | refine DT.useS $c (h := ?_) | refine DT.useI $c (h := ?_) | refine DT.useB $c (h := ?_) | refine DT.use $c (h := ?_)); x_go))
local macro_rules | `(tactic| tbr_iter $c) => `(tactic| (refine DT.use $c (h := ?_); intro r9 tl9 h9 tk9 F9 N9 hl9 hs9 ho9; (try dsimp only)))
local macro_rules | `(tactic| walk_at "execs cons") => `(tactic| (k_here; first | (refine cons_1 ?_; intro sk) | (refine cons_f ?_; intro qk sk)))
local macro_rules | `(tactic| walk_at "eval Name") => `(tactic| (k_here; k_dflt (refine nmL (h := ?_); k_whole)))
local macro_rules | `(tactic| walk_at "storeName") => `(tactic| row_wit1 stU)
local macro_rules | `(tactic| k_steps) => `(tactic| repeat' (first | with_reducible refine nextQ_next ?_ | with_reducible refine nextQ_ret ?_ | (k_unfold; (try dsimp only)) | (k_end; wrow_close) | walk1 | (dsimp only; walk1) | (leave1; walk_say "STEP leave1"; try dsimp only) | fail "no step"))
section
set_option maxRecDepth 100000
set_option maxHeartbeats 8000000
/-! issubclass(str, (str, bytes)) -/
theorem entry_issub : entryFor table "issubclass" = some Builtin.«issubclass» := entryFor_of_tree (by kernel_rfl)
theorem entry_issubN : entryFor table "issubclass.nested" = some Builtin.«issubclass.nested» := entryFor_of_tree (by kernel_rfl)
theorem ty_str : typeOf (.type "str") = pure (.type "type") := kitMeta_of (by decide +kernel)
theorem sub_str : isSubtype (.type "str") (.type "str") = pure true := by rw [isSubtype_type]; kernel_rfl
theorem sub_tup : isSubtype (.type "tuple") (.type "tuple") = pure true := by rw [isSubtype_type]; kernel_rfl
theorem chk_issub (a b : Value) : checkBuiltinCall "issubclass" ⟨[a, b], []⟩ = pure () := by kernel_rfl
theorem chk_issubN (a b c : Value) : checkBuiltinCall "issubclass.nested" ⟨[a, b, c], []⟩ = pure () := by kernel_rfl
theorem issubN_str {prog w} {A : Around} {E : Value → Shared → Prop} {s : Shared} {tk : Tok} {k : Int} {Q : Value → Shared → Prop}
    (h : Q (.bool true) s) : wpAny (model prog w) A (call (.builtin "issubclass.nested") [.type "str", .type "str", .int k tk]) Q E s := by
  refine wpAny_call (codeAny_call_builtin (by decide +kernel) entry_issubN (wpAny_of_eq (chk_issubN _ _ _) ?_))
  have f1 := ty_str
  have f2 := sub_str
  have f3 : isType (.type "str") = pure true := rfl
  repeat (any_goals (first | assumption | wp_step))
theorem issub_str {prog w} {A : Around} {E : Value → Shared → Prop} {s : Shared} {tp : Addr} {n : Nat} {Q : Value → Shared → Prop}
    (htp : s.heap.get? tp = some { cls := .type "tuple", data := .seq #[.type "str", .type "bytes"] n }) (hq : Q (.bool true) s) :
    wpAny (model prog w) A (call (.builtin "issubclass") [.type "str", .ref tp]) Q E s := by
  obtain ⟨h, g, d, t, os⟩ := s
  refine wpAny_call (codeAny_call_builtin (by decide +kernel) entry_issub (wpAny_of_eq (chk_issub _ _) ?_))
  repeat (any_goals (first | assumption | wp_step))
  refine ⟨Code.quiet_builtin _ (by decide +kernel), codeAny_builtin entry_issubN ?_⟩
  have hT2 : (⟨h, g, d, t, os⟩ : Shared).TypeIs (.ref tp) "tuple" := ⟨_, htp, rfl⟩
  have f1 := sub_tup
  repeat (any_goals (first | assumption | ((with_reducible show wpAny _ _ (call (Value.builtin "issubclass.nested") _) _ _ _); exact issubN_str (wpAny_pure hq)) | ((with_reducible show wpAny _ _ (call (Value.builtin "issubclass.nested") _) _ _ _); refine issubN_str ?_) | wp_step))
theorem issub_K {prog w} {A : Around} {E : Value → Shared → Prop} {s : Shared} {tp : Addr} {n : Nat} {Q : Value → Shared → Prop} {h₀ : Heap} {L : Addr} {news : List (Addr × Obj)}
    (N : News h₀ L s.heap news := by k_asm) (hm : (tp, ({ cls := .type "tuple", data := .seq #[.type "str", .type "bytes"] n } : Obj)) ∈ news := by k_mem) (h : Q (.bool true) s) :
    wpAny (model prog w) A (call (.builtin "issubclass") [.type "str", .ref tp]) Q E s := issub_str (N _ hm).1 h
local macro_rules | `(tactic| walk_at "call builtin:issubclass") => `(tactic| row_wit1 issub_K)
theorem fsp_DT (w : World) (mean : ExcName → Option Value) (mg mb : Str → Option Value) (x : Str) : DT True True w mean mg mb 111 1 [.str x] (.str x) := by
  refine DT.mk fun news vs D hpre => ?_
  apply iv1s D; intro t
  refine VT.enter [(Str.ofString "path", .str x t)] (H := ?_)
  intro A outer A₀ base g L s Q hh hA hdp hu B mf F X N T hret Mk vk
  k_steps
  exact hret _ [] _ _ _ (by assumption) (cb_drop (by assumption) (by kcj_all)) (fun _ h => nomatch h) (.str _ _)
local macro_rules | `(tactic| walk_at "call ref") => `(tactic| (k_here; ktf_call (fsp_DT _ _ _ _ _)))
theorem sep_DT (w : World) (mean : ExcName → Option Value) (mg mb : Str → Option Value) (x : Str) : DT True True w mean mg mb 125 1 [.str x] (.str (Str.ofString "/")) := by
  refine DT.mk fun news vs D hpre => ?_
  apply iv1s D; intro t
  refine VT.enter [(Str.ofString "path", .str x t)] (H := ?_)
  intro A outer A₀ base g L s Q hh hA hdp hu B mf F X N T hret Mk vk
  k_steps
  exact hret _ [] _ _ _ (by assumption) (cb_drop (by assumption) (by kcj_all)) (fun _ h => nomatch h) (.str _ _)
local macro_rules | `(tactic| walk_at "call ref") => `(tactic| (k_here; ktf_call (sep_DT _ _ _ _ _)))
/-! dirname -/
noncomputable abbrev dirHead (p : Str) : Str := Txt.slice p none (some (Txt.rfind p (Str.ofString "/") + 1))
noncomputable def dirF (p : Str) : Str :=
  if (dirHead p).length = 0 then dirHead p
  else if (dirHead p != Txt.mul (Str.ofString "/") ((dirHead p).length : Int)) = true then Txt.rstripChars (dirHead p) (Str.ofString "/") else dirHead p
theorem dirF_0 {p : Str} (h : ((dirHead p).length : Int) = 0) : dirHead p = dirF p := by
  have h' : (dirHead p).length = 0 := by omega
  simp [dirF, h']
theorem dirF_1 {p : Str} (h : ¬ ((dirHead p).length : Int) = 0) (h2 : (dirHead p != Txt.mul (Str.ofString "/") ((dirHead p).length : Int)) = true) : Txt.rstripChars (dirHead p) (Str.ofString "/") = dirF p := by
  have h' : ¬ (dirHead p).length = 0 := by omega
  rw [dirF, if_neg h', if_pos h2]
theorem dirF_2 {p : Str} (h2 : (dirHead p != Txt.mul (Str.ofString "/") ((dirHead p).length : Int)) = false) : dirHead p = dirF p := by
  unfold dirF
  split
  · rfl
  · rw [if_neg (by rw [h2]; decide)]
theorem dat_str {news : Led} {x y : Str} (t : Tok) (e : x = y) : DatIn news (.str x t) (.str y) := e ▸ .str x t
theorem dat_int {news : Led} {x y : Int} (t : Tok) (e : x = y) : DatIn news (.int x t) (.int y) := e ▸ .int x t
theorem dat_bool {news : Led} {x y : Bool} (e : x = y) : DatIn news (.bool x) (.bool y) := e ▸ .bool x
theorem dir_DT (w : World) (mean : ExcName → Option Value) (mg mb : Str → Option Value) (x : Str) : DT True (x.length ≤ 1000) w mean mg mb 139 2 [.str x] (.str (dirF x)) := by
  refine DT.mk fun news vs D hpre => ?_
  apply iv1s D; intro t
  refine VT.enter [(Str.ofString "p", .str x t)] (H := ?_)
  intro A outer A₀ base g L s Q hh hA hdp hu B mf F X N T hret Mk vk
  k_steps
  all_goals (refine hret _ [] _ _ _ (by assumption) (cb_drop (by assumption) (by kcj_all)) (fun _ h => nomatch h) (dat_str _ ?_))
  all_goals with_reducible (first | exact dirF_1 (by assumption) (by assumption) | exact dirF_2 (by assumption) | exact dirF_0 (by assumption))
end
section
set_option maxRecDepth 100000
set_option maxHeartbeats 8000000
/-! loops, by what holds between the turns -/
section
variable {prog : Program} {w : World} {A : Around} {s : Shared} {env : Env} {h₀ : Heap} {target : Expr} {body : List Stmt} {Q : Flow → Shared → Prop}
/-- the end of a turn -/
def EndT (h₀ : Heap) (L : Addr) (I : Addr) (oI : Obj) (lo : Option (Addr × Obj)) (J : (Str → Option Value) → Led → Prop) (s : Shared) (Q : Flow → Shared → Prop) (f : Flow) (s₃ : Shared) : Prop := match f with
  | .ret v => Q (.ret v) s₃
  | .brk => Q .next s₃
  | _ => ∃ h' tk' m' nx, s₃ = { s with heap := h', toks := tk' } ∧ Fr h₀ L h' m' ∧ News h₀ L h' ((I, oI) :: nx) ∧ (∀ p ∈ nx, p.1 ≠ I) ∧ (∀ p, lo = some p → p ∈ nx) ∧ J m' nx
theorem EndT.next {L I : Addr} {oI : Obj} {lo : Option (Addr × Obj)} {J : (Str → Option Value) → Led → Prop} {h' : Heap} {tk' : Nat} {m' : Str → Option Value} {nx : Led} (F : Fr h₀ L h' m') (N : News h₀ L h' ((I, oI) :: nx)) (hI : ∀ p ∈ nx, p.1 ≠ I) (hl : ∀ p, lo = some p → p ∈ nx) (hJ : J m' nx) :
    EndT h₀ L I oI lo J s Q .next { s with heap := h', toks := tk' } := ⟨h', tk', m', nx, rfl, F, N, hI, hl, hJ⟩
abbrev noE : Value → Shared → Prop := fun _ _ => False
theorem loop_codeP {I : Addr} {n : Nat} {P : Nat → Value → Prop} {St : Nat → Heap → Prop} {m : Str → Option Value} {news : Led} {lo : Option (Addr × Obj)} {R : Result → Shared → Prop}
    (W : Walks prog w A I (I :: (lo.map (·.1)).toList) [I] n P St) (J : Nat → (Str → Option Value) → Led → Prop)
    (hgo : ∀ i v (s : Shared) (Q : Unit → Shared → Prop), St i s.heap → Q () s → wpAny (model prog w) A (letOwnedTupleGo target (.ref I) v) Q noE s)
    (hI : h₀.get? I = none) (hLI : env.locals ≠ I) (PI : Obj → Prop) (hex : ∀ i h, St i h → ∃ o, h.get? I = some o ∧ PI o) (hst : St 0 s.heap) (F : Fr h₀ env.locals s.heap m) (N : News h₀ env.locals s.heap news) (hnI : ∀ p ∈ news, p.1 ≠ I) (hlo : ∀ p, lo = some p → p ∈ news) (hJ : J 0 m news)
    (turn : ∀ i v m₁ nx h tk oI, PI oI → i < n → P i v → J i m₁ nx → (∀ p ∈ nx, p.1 ≠ I) → (∀ p, lo = some p → p ∈ nx) → Fr h₀ env.locals h m₁ → News h₀ env.locals h ((I, oI) :: nx) →
      wpAny (model prog w) A (assign target env v) (fun _ s₂ => wpAny (model prog w) A (execs body env) (EndT h₀ env.locals I oI lo (J (i + 1)) s fun f s' => R (.ok f) s') noE s₂) noE { s with heap := h, toks := tk })
    (done : ∀ m₁ nx h tk, J n m₁ nx → (∀ p, lo = some p → p ∈ nx) → Fr h₀ env.locals h m₁ → News h₀ env.locals h nx → R (.ok .next) { s with heap := h, toks := tk }) :
    codeAny (model prog w) A (.forLoop target (.ref I) body [] env) R s := by
  refine codeAny_forLoop_any
    (fun k s' => ∃ h' tk m' nx i, s' = { s with heap := h', toks := tk } ∧ St i h' ∧ Fr h₀ env.locals h' m' ∧ News h₀ env.locals h' nx ∧ (∀ p ∈ nx, p.1 ≠ I) ∧ (∀ p, lo = some p → p ∈ nx) ∧ J i m' nx ∧ i ≤ n ∧ k = n + 1 - i) ?_ (n + 1)
    ⟨s.heap, s.toks, m, news, 0, rfl, hst, F, N, hnI, hlo, hJ, Nat.zero_le _, rfl⟩
  rintro k s' ⟨h', tk, m', nx, i, rfl, hst', F', N', hnx, hl', hJ', hi, rfl⟩
  have next : ∀ h₁ : Heap, (∀ b o, b ∉ [I] → h'.get? b = some o → h₁.get? b = some o) → Fr h₀ env.locals h₁ m' ∧ News h₀ env.locals h₁ nx := fun h₁ hk₁ =>
    ⟨⟨F'.ns.at' fun o e => hk₁ _ o (by simpa using hLI) e, fun b o e => hk₁ b o (by intro hb; rw [List.mem_singleton.mp hb, hI] at e; cases e) (F'.keep b o e), F'.above⟩, fun p hp => ⟨hk₁ _ _ (by simpa using hnx p hp) (N' p hp).1, (N' p hp).2⟩⟩
  by_cases hlt : i < n
  · refine wpAny_noRaise (W.item i _ _ _ hlt hst' fun v h₁ tk₁ hP hst₁ hk₁ => ?_)
    obtain ⟨F₁, N₁⟩ := next h₁ hk₁
    obtain ⟨oI, hoI, hPI⟩ := hex _ _ hst₁
    refine wpAny_noRaise (hgo (i + 1) v _ _ hst₁ ?_)
    have N₂ : News h₀ env.locals h₁ ((I, oI) :: nx) := by
      intro p hp
      rcases List.mem_cons.mp hp with rfl | hp
      · exact ⟨hoI, fun e => hLI e.symm, hI⟩
      · exact N₁ p hp
    refine wpAny_noRaise (wpAny_mono (turn i v m' nx h₁ tk₁ oI hPI hlt hP hJ' hnx hl' F₁ N₂) (fun _ s₂ h₂ => wpAny_noRaise (wpAny_mono h₂ (fun f s₃ h₃ => ?_) fun _ _ e => e)) fun _ _ e => e)
    have fin : (∃ h'' tk'' m'' nx'', s₃ = { s with heap := h'', toks := tk'' } ∧ Fr h₀ env.locals h'' m'' ∧ News h₀ env.locals h'' ((I, oI) :: nx'') ∧ (∀ p ∈ nx'', p.1 ≠ I) ∧ (∀ p, lo = some p → p ∈ nx'') ∧ J (i + 1) m'' nx'') →
        ∃ k', k' < n + 1 - i ∧ ∃ h' tk m' nx i', s₃ = { s with heap := h', toks := tk } ∧ St i' h' ∧ Fr h₀ env.locals h' m' ∧ News h₀ env.locals h' nx ∧ (∀ p ∈ nx, p.1 ≠ I) ∧ (∀ p, lo = some p → p ∈ nx) ∧ J i' m' nx ∧ i' ≤ n ∧ k' = n + 1 - i' := by
      rintro ⟨h₄, tk₄, m₄, nx₄, rfl, F₄, N₄, hI₄, hl₄, hJ₄⟩
      refine ⟨n + 1 - (i + 1), by omega, h₄, tk₄, m₄, nx₄, i + 1, rfl, ?_, F₄, fun p hp => N₄ p (.tail _ hp), hI₄, hl₄, hJ₄, hlt, rfl⟩
      refine W.frame _ _ _ hst₁ fun b hb o e => ?_
      rcases List.mem_cons.mp hb with rfl | hb
      · rw [hoI] at e
        cases e
        exact (N₄ _ (.head _)).1
      · cases hlo' : lo with
        | none => rw [hlo'] at hb; cases hb
        | some p =>
          rw [hlo'] at hb
          have hb' : b = p.1 := by simpa using hb
          subst hb'
          have e1 := (N₁ p (hl' p hlo')).1
          rw [e] at e1
          have e2 := (N₄ p (.tail _ (hl₄ p hlo'))).1
          rw [e2, ← e1]
    cases f with
    | ret v => exact h₃
    | brk => exact h₃
    | cont => exact fin h₃
    | next => exact fin h₃
  · have hin : i = n := by omega
    subst hin
    refine wpAny_noRaise (W.done _ _ _ hst' fun h₁ tk₁ hk₁ => wpAny_execs_nil ?_)
    obtain ⟨F₁, N₁⟩ := next h₁ hk₁
    exact done m' nx h₁ tk₁ hJ' hl' F₁ N₁
theorem loop_code {I : Addr} {n : Nat} {P : Nat → Value → Prop} {St : Nat → Heap → Prop} {m : Str → Option Value} {news : Led} {lo : Option (Addr × Obj)} {R : Result → Shared → Prop}
    (W : Walks prog w A I (I :: (lo.map (·.1)).toList) [I] n P St) (J : Nat → (Str → Option Value) → Led → Prop)
    (hgo : ∀ i v (s : Shared) (Q : Unit → Shared → Prop), St i s.heap → Q () s → wpAny (model prog w) A (letOwnedTupleGo target (.ref I) v) Q noE s)
    (hI : h₀.get? I = none) (hLI : env.locals ≠ I) (hex : ∀ i h, St i h → ∃ o, h.get? I = some o) (hst : St 0 s.heap) (F : Fr h₀ env.locals s.heap m) (N : News h₀ env.locals s.heap news) (hnI : ∀ p ∈ news, p.1 ≠ I) (hlo : ∀ p, lo = some p → p ∈ news) (hJ : J 0 m news)
    (turn : ∀ i v m₁ nx h tk oI, i < n → P i v → J i m₁ nx → (∀ p ∈ nx, p.1 ≠ I) → (∀ p, lo = some p → p ∈ nx) → Fr h₀ env.locals h m₁ → News h₀ env.locals h ((I, oI) :: nx) →
      wpAny (model prog w) A (assign target env v) (fun _ s₂ => wpAny (model prog w) A (execs body env) (EndT h₀ env.locals I oI lo (J (i + 1)) s fun f s' => R (.ok f) s') noE s₂) noE { s with heap := h, toks := tk })
    (done : ∀ m₁ nx h tk, J n m₁ nx → (∀ p, lo = some p → p ∈ nx) → Fr h₀ env.locals h m₁ → News h₀ env.locals h nx → R (.ok .next) { s with heap := h, toks := tk }) :
    codeAny (model prog w) A (.forLoop target (.ref I) body [] env) R s :=
  loop_codeP W J hgo hI hLI (fun _ => True) (fun i h st => (hex i h st).imp fun _ e => ⟨e, trivial⟩) hst F N hnI hlo hJ (fun i v m₁ nx h tk oI _ => turn i v m₁ nx h tk oI) done
/-- what is wanted of the loop behind its iterator -/
def GoLoop (prog : Program) (w : World) (A : Around) (env : Env) (target : Expr) (body : List Stmt) (Q : Flow → Shared → Prop) (it : Value) (s₂ : Shared) : Prop :=
  codeAny (model prog w) A (.forLoop target it body [] env) (fun r s' => match r with | .ok f => Q f s' | .error _ => False) s₂
theorem For_open {E : Value → Shared → Prop} {iter : Expr} {pos : Pos}
    (h : wpAny (model prog w) A (eval iter env) (fun xv s₁ => wpAny (model prog w) A (pyIter xv) (fun it s₂ => GoLoop prog w A env target body Q it s₂) (fun _ _ => False) s₁) (fun _ _ => False) s)
    (hs : ∀ x, foldedSetIterable iter env x = pure x := by (intro _; with_unfolding_all rfl)) :
    wpAny (model prog w) A (exec (.For target iter body [] pos) env) Q E s := by
  refine wpAny_noRaise (wpAny_For (wpAny_mono h (fun xv s₁ h₁ => wpAny_mono h₁ (fun it s₂ h₂ => ?_) fun _ _ e => e) fun _ _ e => e) hs)
  refine codeAny_mono h₂ fun r s' hr => ?_
  cases r with
  | ok f => exact hr
  | error e => exact hr.elim
/-- over a list of the ledger's -/
theorem iter_listP {l : Addr} {vs : List Value} {nn : Nat} {m : Str → Option Value} {news : Led} (J : Nat → (Str → Option Value) → Led → Prop)
    (hh : A.handled = none) (hl : (l, listOf vs.toArray nn) ∈ news) (F : Fr h₀ env.locals s.heap m) (N : News h₀ env.locals s.heap news)
    (hgo : ∀ (v : Value) (I : Addr) (s : Shared) (Q : Unit → Shared → Prop), (∃ i, s.heap.IsListIter I l i) → Q () s → wpAny (model prog w) A (letOwnedTupleGo target (.ref I) v) Q noE s) (hJ : J 0 m news)
    (turn : ∀ I i v m₁ nx h tk oI, oI.cls = .type "list_iterator" → (∀ p ∈ news, p.1 < I) → vs[i]? = some v → J i m₁ nx → (∀ p ∈ nx, p.1 ≠ I) → (l, listOf vs.toArray nn) ∈ nx → Fr h₀ env.locals h m₁ → News h₀ env.locals h ((I, oI) :: nx) →
      wpAny (model prog w) A (assign target env v) (fun _ s₂ => wpAny (model prog w) A (execs body env) (EndT h₀ env.locals I oI (some (l, listOf vs.toArray nn)) (J (i + 1)) s Q) noE s₂) noE { s with heap := h, toks := tk })
    (done : ∀ m₁ nx h tk, J vs.length m₁ nx → (l, listOf vs.toArray nn) ∈ nx → Fr h₀ env.locals h m₁ → News h₀ env.locals h nx → Q .next { s with heap := h, toks := tk }) :
    wpAny (model prog w) A (pyIter (.ref l)) (fun it s₂ => GoLoop prog w A env target body Q it s₂) noE s := by
  have hol : s.heap.get? l = some (listOf vs.toArray nn) := (N _ hl).1
  have hls : s.heap.IsList l vs.toArray := ⟨_, hol, rfl, nn, rfl⟩
  have hne : l ≠ s.heap.objs.size := Nat.ne_of_lt (Heap.lt_size hol)
  refine wpAny_pyIter_list hls ?_
  have W := Walks.list (prog := prog) (w := w) hh s.heap.objs.size l hne vs.toArray
  have hlen : vs.toArray.size = vs.length := by simp
  rw [hlen] at W
  have hlt : ∀ p ∈ news, p.1 < s.heap.objs.size := fun p hp => Heap.lt_size (N p hp).1
  refine loop_codeP (PI := fun o => o.cls = .type "list_iterator") (s := { s with heap := s.heap.push _ }) (lo := some (l, listOf vs.toArray nn)) W J (fun i v s' Q' st hq => hgo v _ s' Q' ⟨i, st.1⟩ hq) (next_is_new F) (fun e => absurd F.ns.lt (e ▸ Nat.lt_irrefl _)) (fun i h st => let ⟨o, ho, hc, _⟩ := st.1; ⟨o, ho, hc⟩)
    ⟨⟨_, Heap.get?_push_size _ rfl, rfl, rfl⟩, hls.at fun o e => Heap.get?_push_of_some _ e⟩ (F.push _) (fun p hp => ⟨Heap.get?_push_of_some _ (N p hp).1, (N p hp).2⟩) (fun p hp => Nat.ne_of_lt (hlt p hp)) (fun p e => by cases e; exact hl) hJ ?_ ?_
  · intro i v m₁ nx h tk oI hpi hi hP hJ' hnx hl' F₁ N₁
    exact turn _ i v m₁ nx h tk oI hpi hlt (by simpa using hP) hJ' hnx (hl' _ rfl) F₁ N₁
  · intro m₁ nx h tk hJ' hl' F₁ N₁
    exact done m₁ nx h tk hJ' (hl' _ rfl) F₁ N₁
theorem iter_list {l : Addr} {vs : List Value} {nn : Nat} {m : Str → Option Value} {news : Led} (J : Nat → (Str → Option Value) → Led → Prop)
    (hh : A.handled = none) (hl : (l, listOf vs.toArray nn) ∈ news) (F : Fr h₀ env.locals s.heap m) (N : News h₀ env.locals s.heap news)
    (hgo : ∀ (v : Value) (I : Addr) (s : Shared) (Q : Unit → Shared → Prop), (∃ i, s.heap.IsListIter I l i) → Q () s → wpAny (model prog w) A (letOwnedTupleGo target (.ref I) v) Q noE s) (hJ : J 0 m news)
    (turn : ∀ I i v m₁ nx h tk oI, (∀ p ∈ news, p.1 < I) → vs[i]? = some v → J i m₁ nx → (∀ p ∈ nx, p.1 ≠ I) → (l, listOf vs.toArray nn) ∈ nx → Fr h₀ env.locals h m₁ → News h₀ env.locals h ((I, oI) :: nx) →
      wpAny (model prog w) A (assign target env v) (fun _ s₂ => wpAny (model prog w) A (execs body env) (EndT h₀ env.locals I oI (some (l, listOf vs.toArray nn)) (J (i + 1)) s Q) noE s₂) noE { s with heap := h, toks := tk })
    (done : ∀ m₁ nx h tk, J vs.length m₁ nx → (l, listOf vs.toArray nn) ∈ nx → Fr h₀ env.locals h m₁ → News h₀ env.locals h nx → Q .next { s with heap := h, toks := tk }) :
    wpAny (model prog w) A (pyIter (.ref l)) (fun it s₂ => GoLoop prog w A env target body Q it s₂) noE s :=
  iter_listP J hh hl F N hgo hJ (fun I i v m₁ nx h tk oI _ => turn I i v m₁ nx h tk oI) done
/-- over a tuple of the ledger's -/
theorem iter_tuple {l : Addr} {vs : List Value} {nn : Nat} {m : Str → Option Value} {news : Led} (J : Nat → (Str → Option Value) → Led → Prop)
    (hh : A.handled = none) (hl : (l, ({ cls := .type "tuple", data := .seq vs.toArray nn } : Obj)) ∈ news) (F : Fr h₀ env.locals s.heap m) (N : News h₀ env.locals s.heap news)
    (hgo : ∀ (v : Value) (I : Addr) (s : Shared) (Q : Unit → Shared → Prop), (∃ i, s.heap.IsTupleIter I l i) → Q () s → wpAny (model prog w) A (letOwnedTupleGo target (.ref I) v) Q noE s) (hJ : J 0 m news)
    (turn : ∀ I i v m₁ nx h tk oI, (∀ p ∈ news, p.1 < I) → vs[i]? = some v → J i m₁ nx → (∀ p ∈ nx, p.1 ≠ I) → (l, ({ cls := .type "tuple", data := .seq vs.toArray nn } : Obj)) ∈ nx → Fr h₀ env.locals h m₁ → News h₀ env.locals h ((I, oI) :: nx) →
      wpAny (model prog w) A (assign target env v) (fun _ s₂ => wpAny (model prog w) A (execs body env) (EndT h₀ env.locals I oI (some (l, ({ cls := .type "tuple", data := .seq vs.toArray nn } : Obj))) (J (i + 1)) s Q) noE s₂) noE { s with heap := h, toks := tk })
    (done : ∀ m₁ nx h tk, J vs.length m₁ nx → (l, ({ cls := .type "tuple", data := .seq vs.toArray nn } : Obj)) ∈ nx → Fr h₀ env.locals h m₁ → News h₀ env.locals h nx → Q .next { s with heap := h, toks := tk }) :
    wpAny (model prog w) A (pyIter (.ref l)) (fun it s₂ => GoLoop prog w A env target body Q it s₂) noE s := by
  have hol : s.heap.get? l = some ({ cls := .type "tuple", data := .seq vs.toArray nn } : Obj) := (N _ hl).1
  have hls : s.heap.IsTuple l vs.toArray := ⟨_, hol, rfl, nn, rfl⟩
  have hne : l ≠ s.heap.objs.size := Nat.ne_of_lt (Heap.lt_size hol)
  refine wpAny_pyIter_tuple hls ?_
  have W := Walks.tuple (prog := prog) (w := w) hh s.heap.objs.size l hne vs.toArray
  have hlen : vs.toArray.size = vs.length := by simp
  rw [hlen] at W
  have hlt : ∀ p ∈ news, p.1 < s.heap.objs.size := fun p hp => Heap.lt_size (N p hp).1
  refine loop_code (s := { s with heap := s.heap.push _ }) (lo := some (l, ({ cls := .type "tuple", data := .seq vs.toArray nn } : Obj))) W J (fun i v s' Q' st hq => hgo v _ s' Q' ⟨i, st.1⟩ hq) (next_is_new F) (fun e => absurd F.ns.lt (e ▸ Nat.lt_irrefl _)) (fun i h st => let ⟨o, ho, _⟩ := st.1; ⟨o, ho⟩)
    ⟨⟨_, Heap.get?_push_size _ rfl, rfl, rfl⟩, hls.at fun o e => Heap.get?_push_of_some _ e⟩ (F.push _) (fun p hp => ⟨Heap.get?_push_of_some _ (N p hp).1, (N p hp).2⟩) (fun p hp => Nat.ne_of_lt (hlt p hp)) (fun p e => by cases e; exact hl) hJ ?_ ?_
  · intro i v m₁ nx h tk oI hi hP hJ' hnx hl' F₁ N₁
    exact turn _ i v m₁ nx h tk oI hlt (by simpa using hP) hJ' hnx (hl' _ rfl) F₁ N₁
  · intro m₁ nx h tk hJ' hl' F₁ N₁
    exact done m₁ nx h tk hJ' (hl' _ rfl) F₁ N₁
/-- over a range by ones -/
theorem iter_rangeP {r : Addr} {a₀ b₀ : Int} {t₀ u₀ v₀ : Tok} {n : Nat} {m : Str → Option Value} {news : Led} (J : Nat → (Str → Option Value) → Led → Prop)
    (hh : A.handled = none) (hr : IsRange s.heap r a₀ b₀ 1 t₀ u₀ v₀) (hsmall : Builtin.Range.small a₀ b₀ 1 = true) (hsz : Builtin.Range.rangeSize a₀ b₀ 1 = (n : Int)) (F : Fr h₀ env.locals s.heap m) (N : News h₀ env.locals s.heap news)
    (hgo : ∀ (v : Value) (I : Addr) (s : Shared) (Q : Unit → Shared → Prop), (∃ x left, IsRangeIter s.heap I x left 1) → Q () s → wpAny (model prog w) A (letOwnedTupleGo target (.ref I) v) Q noE s) (hJ : J 0 m news)
    (turn : ∀ I i t m₁ nx h tk oI, oI.cls = .type "range_iterator" → (∀ p ∈ news, p.1 < I) → i < n → J i m₁ nx → (∀ p ∈ nx, p.1 ≠ I) → Fr h₀ env.locals h m₁ → News h₀ env.locals h ((I, oI) :: nx) →
      wpAny (model prog w) A (assign target env (.int (a₀ + (i : Int)) t)) (fun _ s₂ => wpAny (model prog w) A (execs body env) (EndT h₀ env.locals I oI none (J (i + 1)) s Q) noE s₂) noE { s with heap := h, toks := tk })
    (done : ∀ m₁ nx h tk, J n m₁ nx → Fr h₀ env.locals h m₁ → News h₀ env.locals h nx → Q .next { s with heap := h, toks := tk }) :
    wpAny (model prog w) A (pyIter (.ref r)) (fun it s₂ => GoLoop prog w A env target body Q it s₂) noE s := by
  refine wpAny_pyIter_range hr hsmall ?_
  have W := Walks.range (prog := prog) (w := w) hh s.heap.objs.size a₀ 1 n
  have hlt : ∀ p ∈ news, p.1 < s.heap.objs.size := fun p hp => Heap.lt_size (N p hp).1
  refine loop_codeP (PI := fun o => o.cls = .type "range_iterator") (s := { s with heap := s.heap.push _ }) (lo := none) W J (fun i v s' Q' st hq => hgo v _ s' Q' ⟨_, _, st⟩ hq) (next_is_new F) (fun e => absurd F.ns.lt (e ▸ Nat.lt_irrefl _)) (fun i h st => ⟨_, st, rfl⟩)
    (by show IsRangeIter _ _ _ _ _; rw [hsz]; simpa using Heap.get?_push_size _ rfl) (F.push _) (fun p hp => ⟨Heap.get?_push_of_some _ (N p hp).1, (N p hp).2⟩) (fun p hp => Nat.ne_of_lt (hlt p hp)) (fun p e => by cases e) hJ ?_ ?_
  · rintro i v m₁ nx h tk oI hpi hi ⟨t, rfl⟩ hJ' hnx _ F₁ N₁
    have e : a₀ + (i : Int) * 1 = a₀ + (i : Int) := by omega
    rw [e]
    exact turn _ i t m₁ nx h tk oI hpi hlt hi hJ' hnx F₁ N₁
  · intro m₁ nx h tk hJ' _ F₁ N₁
    exact done m₁ nx h tk hJ' F₁ N₁
theorem iter_range {r : Addr} {a₀ b₀ : Int} {t₀ u₀ v₀ : Tok} {n : Nat} {m : Str → Option Value} {news : Led} (J : Nat → (Str → Option Value) → Led → Prop)
    (hh : A.handled = none) (hr : IsRange s.heap r a₀ b₀ 1 t₀ u₀ v₀) (hsmall : Builtin.Range.small a₀ b₀ 1 = true) (hsz : Builtin.Range.rangeSize a₀ b₀ 1 = (n : Int)) (F : Fr h₀ env.locals s.heap m) (N : News h₀ env.locals s.heap news)
    (hgo : ∀ (v : Value) (I : Addr) (s : Shared) (Q : Unit → Shared → Prop), (∃ x left, IsRangeIter s.heap I x left 1) → Q () s → wpAny (model prog w) A (letOwnedTupleGo target (.ref I) v) Q noE s) (hJ : J 0 m news)
    (turn : ∀ I i t m₁ nx h tk oI, (∀ p ∈ news, p.1 < I) → i < n → J i m₁ nx → (∀ p ∈ nx, p.1 ≠ I) → Fr h₀ env.locals h m₁ → News h₀ env.locals h ((I, oI) :: nx) →
      wpAny (model prog w) A (assign target env (.int (a₀ + (i : Int)) t)) (fun _ s₂ => wpAny (model prog w) A (execs body env) (EndT h₀ env.locals I oI none (J (i + 1)) s Q) noE s₂) noE { s with heap := h, toks := tk })
    (done : ∀ m₁ nx h tk, J n m₁ nx → Fr h₀ env.locals h m₁ → News h₀ env.locals h nx → Q .next { s with heap := h, toks := tk }) :
    wpAny (model prog w) A (pyIter (.ref r)) (fun it s₂ => GoLoop prog w A env target body Q it s₂) noE s :=
  iter_rangeP J hh hr hsmall hsz F N hgo hJ (fun I i t m₁ nx h tk oI _ => turn I i t m₁ nx h tk oI) done
/-- a plain name as target asks nothing of the iterator -/
theorem go_name {x : Str} {px : Pos} {it v : Value} {Q : Unit → Shared → Prop} (h : Q () s) : wpAny (model prog w) A (letOwnedTupleGo (.Name x px) it v) Q noE s := wpAny_pure h
theorem go_list {I l : Addr} {v : Value} {elts : List Expr} {k : _} {pos : Pos} {Q : Unit → Shared → Prop} (hi : ∃ i, s.heap.IsListIter I l i) (h : Q () s) : wpAny (model prog w) A (letOwnedTupleGo (.Tuple elts k pos) (.ref I) v) Q noE s := by
  obtain ⟨i, hi⟩ := hi
  cases v with
  | ref T => exact wpAny_letOwnedTupleGo_listiter hi h
  | _ => exact wpAny_pure h
end
/-- what is known of some names of a frame -/
def Kn (m : Str → Option Value) : List (Str × Value) → Prop
  | [] => True
  | p :: r => m p.1 = some p.2 ∧ Kn m r
theorem Kn.all {m : Str → Option Value} : ∀ {ps : List (Str × Value)}, Kn m ps → ∀ p ∈ ps, m p.1 = some p.2
  | [], _, _, h => nomatch h
  | q :: r, h, p, hp => by
    rcases List.mem_cons.mp hp with rfl | hp
    · exact h.1
    · exact Kn.all h.2 p hp
theorem Kn.fr {h₀ h : Heap} {L : Addr} {m : Str → Option Value} {ps : List (Str × Value)} (k : Kn m ps) (F : Fr h₀ L h m) : Fr h₀ L h (kstB m ps) := by
  have e : kstB m ps = m := by
    funext z
    exact kstB_eq k.all fun _ => rfl
  rw [e]
  exact F
end
section
set_option maxRecDepth 100000
set_option maxHeartbeats 1000000
/-! for i, c in enumerate(l), the turn changing names alone -/
def EndE (h₀ : Heap) (L : Addr) (own news : Led) (K : (Str → Option Value) → Prop) (s : Shared) (Q : Flow → Shared → Prop) (f : Flow) (s₃ : Shared) : Prop := match f with
  | .ret v => Q (.ret v) s₃
  | .brk => Q .next s₃
  | _ => ∃ h' tk' m', s₃ = { s with heap := h', toks := tk' } ∧ Fr h₀ L h' m' ∧ News h₀ L h' (own ++ news) ∧ K m'
theorem EndE.next {h₀ : Heap} {L : Addr} {own news : Led} {K : (Str → Option Value) → Prop} {s : Shared} {Q : Flow → Shared → Prop} {h' : Heap} {tk' : Nat} {m' : Str → Option Value} (F : Fr h₀ L h' m') (N : News h₀ L h' (own ++ news)) (hK : K m') :
    EndE h₀ L own news K s Q .next { s with heap := h', toks := tk' } := ⟨h', tk', m', rfl, F, N, hK⟩
section
variable {prog : Program} {w : World} {A : Around} {s : Shared} {env : Env} {h₀ : Heap} {body : List Stmt} {Q : Flow → Shared → Prop}
theorem enum_go {a c : Str} {pa pc : Pos} {k : Nat} {pos : Pos} {l : Addr} {vs : List Value} {nn : Nat} {m : Str → Option Value} {news : Led}
    (hh : A.handled = none) (F : Fr h₀ env.locals s.heap m) (N : News h₀ env.locals s.heap news) (hm : (l, listOf vs.toArray nn) ∈ news)
    (ka : env.kindOf a = some .local) (kc : env.kindOf c = some .local) (hp : (env.scope.kind == .class || (env.scope.kind == .module && env.locals != env.globals)) = false)
    (K : Nat → (Str → Option Value) → Prop) (h0 : K 0 m)
    (turn : ∀ i x t m₁ h tk own, vs[i]? = some x → K i m₁ → Fr h₀ env.locals h (fun z => if z = c then some x else if z = a then some (.int (i : Nat) t) else m₁ z) → News h₀ env.locals h (own ++ news) →
      wpAny (model prog w) A (execs body env) (EndE h₀ env.locals own news (K (i + 1)) s Q) noE { s with heap := h, toks := tk })
    (done : ∀ m₁ h tk, K vs.length m₁ → Fr h₀ env.locals h m₁ → News h₀ env.locals h news → Q .next { s with heap := h, toks := tk }) :
    wpAny (model prog w) A (call (.type "enumerate") [.ref l]) (fun xv s₁ => wpAny (model prog w) A (pyIter xv) (fun it s₂ => GoLoop prog w A env (.Tuple [.Name a pa, .Name c pc] k pos) body Q it s₂) noE s₁) noE s := by
  have hax := N _ hm
  have hl : s.heap.IsList l vs.toArray := ⟨_, hax.1, rfl, nn, rfl⟩
  have hlt : l < s.heap.objs.size := Heap.lt_size hax.1
  have hLs : env.locals < s.heap.objs.size := F.ns.lt
  have hlen : vs.toArray.size = vs.length := by simp
  refine call_enumerate_list hl fun h' hE hI hsz hk => ?_
  refine wpAny_pyIter_enum hE ?_
  generalize hIe : s.heap.objs.size = I at hE hI hlt hLs hsz ⊢
  have W := (WalksT.enumerate (prog := prog) (w := w) hh (I + 1) I l (Nat.succ_ne_self _) (Nat.ne_of_lt (Nat.lt_succ_of_lt hlt)) (Nat.ne_of_lt hlt) vs.toArray).toU
  have none0 : ∀ b, I ≤ b → h₀.get? b = none := fun b hb => by
    cases e : h₀.get? b with
    | none => rfl
    | some o => exact absurd (hIe ▸ Heap.lt_size (F.keep b o e)) (Nat.not_lt.mpr hb)
  have newI : ∀ p ∈ news, p.1 < I := fun p hp => hIe ▸ Heap.lt_size (N p hp).1
  unfold GoLoop
  refine ktu_loop (s := { s with heap := h' }) (m := m) (news := news) (KTurns.ofWalksU W) ?_ ?_ ?_ ⟨⟨.none, hE⟩, hI, hl.at fun o e => hk l o e⟩ (F.keeps hk) (N.grown hk) (fun i m' nx => nx = news ∧ K i m') ⟨rfl, h0⟩ ?_ ?_
  · intro hb
    have hb' : env.locals = I + 1 ∨ env.locals = I ∨ env.locals = l := by simpa using hb
    rcases hb' with e | e | e
    · exact absurd e (Nat.ne_of_lt (Nat.lt_succ_of_lt hLs))
    · exact absurd e (Nat.ne_of_lt hLs)
    · exact hax.2.1 e.symm
  · intro b hb
    have hb' : b = I + 1 ∨ b = I := by simpa using hb
    rcases hb' with rfl | rfl
    · exact none0 _ (Nat.le_succ _)
    · exact none0 _ (Nat.le_refl _)
  · intro p hp hb
    have hb' : p.1 = I + 1 ∨ p.1 = I := by simpa using hb
    have := newI p hp
    rcases hb' with e | e
    · rw [e] at this; exact absurd this (Nat.not_lt.mpr (Nat.le_succ _))
    · rw [e] at this; exact absurd this (Nat.lt_irrefl _)
  · rintro i v m₁ news₁ h₁ tk₁ own hi ⟨T, vals, rfl, ⟨t, x, hx, rfl⟩, hT⟩ ⟨rfl, hK⟩ hw o1 o2 o3 st F₁ N₁
    refine wpAny_noRaise (unpackN_ F₁ N₁ hT hh rfl rfl fun h₂ F₂ N₂ => ?_)
    dsimp only
    show wpAny _ A (holding [x] (assign (.Name a pa) env (.int (i : Nat) t)) >>= fun _ => assignInOrder [assign (.Name c pc) env] [x]) _ _ _
    refine wpAny_bind (wpAny_holding (wpAny_assign_Name (wpAny_storeName_local ka F₂.ns (fun h₃ hn₃ hs₃ => ?_) hp)))
    show wpAny _ A (holding [] (assign (.Name c pc) env x) >>= fun _ => assignInOrder [] []) _ _ _
    have F₃ := F₂.set hn₃ hs₃
    have N₃ := N₂.set hs₃
    refine wpAny_bind (wpAny_holding (wpAny_assign_Name (wpAny_storeName_local kc F₃.ns (fun h₄ hn₄ hs₄ => ?_) hp)))
    have F₄ := F₃.set hn₄ hs₄
    have N₄ := N₃.set hs₄
    refine wpAny_pure ?_
    refine wpAny_noRaise (wpAny_mono (turn i x t m₁ h₄ _ own (by simpa using hx) hK F₄ N₄) (fun f s₃ e => ?_) fun _ _ e => e)
    cases f with
    | ret v => exact e
    | brk => exact e
    | cont =>
      obtain ⟨h₅, tk₅, m₅, rfl, F₅, N₅, K₅⟩ := e
      exact LoopStepU.intro (s₁ := { s with heap := h₁, toks := tk₁ }) F₅ N₅ hw ⟨rfl, K₅⟩
    | next =>
      obtain ⟨h₅, tk₅, m₅, rfl, F₅, N₅, K₅⟩ := e
      exact LoopStepU.intro (s₁ := { s with heap := h₁, toks := tk₁ }) F₅ N₅ hw ⟨rfl, K₅⟩
  · rintro h₁ tk₁ m₁ news₁ F₁ N₁ hw ⟨rfl, hK⟩
    exact done m₁ h₁ tk₁ (hlen ▸ hK) F₁ N₁
end
end
section
set_option maxRecDepth 100000
set_option maxHeartbeats 8000000
/-! lists of the ledger -/
section
variable {prog : Program} {w : World} {A : Around} {E : Value → Shared → Prop} {s : Shared} {h₀ : Heap} {L : Addr} {m : Str → Option Value} {news : Led}
theorem isL {h : Heap} {l : Addr} {vs : List Value} {nn : Nat} (N : News h₀ L h news) (hm : (l, listOf vs.toArray nn) ∈ news) : h.IsList l vs.toArray := ⟨_, (N _ hm).1, rfl, nn, rfl⟩
theorem item_led {value slice : PySem.Expr} {l : Addr} {vs : List Value} {nn : Nat} {k : Int} {u : Tok} {v : Value} {Q : Value → Shared → Prop} (N : News h₀ L s.heap news := by k_asm) (hm : (l, listOf vs.toArray nn) ∈ news := by tb_src) (h0 : 0 ≤ k := by omega) (hhi : k < 2 ^ 62 := by omega) (hx : vs[k.toNat]? = some v := by z_run) (h : Q v s)
    (hs : subscripted slice false (.ref l) (.int k u) = operate [.ref l, .int k u] (getItem (.ref l) (.int k u)) := by with_unfolding_all rfl) :
    wpAny (model prog w) A (subscriptTail value slice (.ref l) (.int k u)) Q E s :=
  item_litK (isL N hm) h0 (by omega) hx h hs
theorem len_led {l : Addr} {vs : List Value} {nn : Nat} {Q : Value → Shared → Prop} (N : News h₀ L s.heap news := by k_asm) (hm : (l, listOf vs.toArray nn) ∈ news := by tb_src) (hf : vs.length < 2 ^ 62 := by omega) (h : ∀ t k, Q (.int (vs.length : Nat) t) { s with toks := k }) :
    wpAny (model prog w) A (call (.builtin "len") [.ref l]) Q E s := by
  refine len_list (isL N hm) (by simp; omega) ?_
  have := h (s.toks + 1) (s.toks + 1 + 1)
  simpa using this
theorem add_led {l b : Addr} {vs ws : List Value} {nn kk : Nat} {Q : Value → Shared → Prop} (F : Fr h₀ L s.heap m := by k_asm) (N : News h₀ L s.heap news := by k_asm) (hm : (l, listOf vs.toArray nn) ∈ news := by tb_src) (hb : (b, listOf ws.toArray kk) ∈ news := by tb_src) (hsz : vs.length + ws.length ≤ 1000 := by z_lens)
    (h : ∀ D h', (∀ p ∈ news, p.1 < D) → Fr h₀ L h' m → News h₀ L h' ((D, listOf (vs ++ ws).toArray 0) :: news) → Q (.ref D) { s with heap := h' }) :
    wpAny (model prog w) A (binaryOp .Add (.ref l) (.ref b)) Q E s :=
  add_lists F N (isL N hm) (isL N hb) (fun h' F' N' => h _ h' (fun p hp => Heap.lt_size (N p hp).1) F' N') (by rw [sizeLine_eq]; omega)
end
end
section
set_option maxRecDepth 100000
set_option maxHeartbeats 8000000
/-! lists of texts compared by < and > -/
noncomputable def ltS (x y : Str) : Bool := decide (x.cps.toList < y.cps.toList)
noncomputable def ltL : List Str → List Str → Bool
  | [], [] => false
  | [], _ :: _ => true
  | _ :: _, [] => false
  | x :: xs, y :: ys => if x == y then ltL xs ys else ltS x y
noncomputable def gtL : List Str → List Str → Bool
  | [], [] => false
  | [], _ :: _ => false
  | _ :: _, [] => true
  | x :: xs, y :: ys => if x == y then gtL xs ys else ltS y x
inductive StrVs : List Value → List Str → Prop
  | nil : StrVs [] []
  | cons {x : Str} {t : Tok} {vs : List Value} {xs : List Str} : StrVs vs xs → StrVs (.str x t :: vs) (x :: xs)
theorem StrVs.of {news : Led} : ∀ {vs : List Value} {xs : List Str}, DatAll news vs (xs.map Dat.str) → StrVs vs xs
  | _, [], h => by cases h; exact .nil
  | _, x :: xs, h => by
    cases h with
    | cons h1 h2 => cases h1; exact .cons (StrVs.of h2)
theorem StrVs.length {vs : List Value} {xs : List Str} (h : StrVs vs xs) : vs.length = xs.length := by
  induction h with
  | nil => rfl
  | cons _ ih => simp [ih]
theorem plain_cmp : plainId "list.__eq__.loop" = true := by decide +kernel
theorem entry_cmp : entryFor table "list.__eq__.loop" = some Builtin.«list.__eq__.loop» := entryFor_of_tree (by kernel_rfl)
theorem lt_loop (l b : Addr) (n n2 : Nat) {vs2 : List Value} {ys : List Str} (hy : StrVs vs2 ys) : ∀ {vs : List Value} {xs : List Str}, StrVs vs xs → ∀ (pre pre2 : List Value), pre.length = pre2.length →
    Meets (Builtin.«list.__eq__.loop» ⟨[.ref l, .ref b, rawInt (pre.length : Nat), rawInt 0], []⟩)
      (fun _ R s => s.heap.get? l = some (listOf (pre ++ vs).toArray n) ∧ s.heap.get? b = some (listOf (pre2 ++ vs2).toArray n2) ∧ R (.ok (.ret (.bool (ltL xs ys)))) s) := by
  induction hy with
  | nil =>
    intro vs xs hx pre pre2 hp prog w A R s h
    obtain ⟨hp', g, d, tk, os⟩ := s; obtain ⟨hl, hb, h⟩ := h
    wp_walk using wpAny_loadPart' hl, wpAny_loadPart' hb
    have h2 : (pre2 ++ ([] : List Value)).toArray[((pre.length : Nat) : Int).toNat]? = none := by simp; omega
    rw [h2]
    have hf : R (.ok (.ret (.bool (decide ((pre ++ vs).toArray.size < (pre2 ++ ([] : List Value)).toArray.size))))) ⟨hp', g, d, tk, os⟩ := by
      have e : decide ((pre ++ vs).toArray.size < (pre2 ++ ([] : List Value)).toArray.size) = ltL xs [] := by
        cases hx with
        | nil => simp [ltL, hp]
        | cons hx => simp [ltL, hp]; try omega
      rw [e]; exact h
    cases (pre ++ vs).toArray[((pre.length : Nat) : Int).toNat]? with
    | none =>
      dsimp only
      wp_walk using wpAny_loadPart' hl, wpAny_loadPart' hb
      exact hf
    | some x =>
      dsimp only
      wp_walk using wpAny_loadPart' hl, wpAny_loadPart' hb
      exact hf
  | cons hy ih =>
    rename_i y u vs2 ys
    intro vs xs hx pre pre2 hp prog w A R s h
    obtain ⟨hp', g, d, tk, os⟩ := s; obtain ⟨hl, hb, h⟩ := h
    have h2 : (pre2 ++ Value.str y u :: vs2).toArray[((pre.length : Nat) : Int).toNat]? = some (Value.str y u) := by simp [hp]
    cases hx with
    | nil =>
      wp_walk using wpAny_loadPart' hl, wpAny_loadPart' hb
      have h1 : (pre ++ ([] : List Value)).toArray[((pre.length : Nat) : Int).toNat]? = none := by simp
      rw [h1, h2]
      dsimp only
      wp_walk using wpAny_loadPart' hl, wpAny_loadPart' hb
      show R (.ok (.ret (.bool (decide ((pre ++ ([] : List Value)).toArray.size < (pre2 ++ Value.str y u :: vs2).toArray.size))))) _
      have e : decide ((pre ++ ([] : List Value)).toArray.size < (pre2 ++ Value.str y u :: vs2).toArray.size) = ltL [] (y :: ys) := by simp [ltL, hp]; try omega
      rw [e]; exact h
    | cons hx =>
      rename_i x t vs xs
      wp_walk using wpAny_loadPart' hl, wpAny_loadPart' hb
      have h1 : (pre ++ Value.str x t :: vs).toArray[((pre.length : Nat) : Int).toNat]? = some (Value.str x t) := by simp
      rw [h1, h2]
      dsimp only
      refine wpAny_bind (PySem.SeqAt.EqAt.str_str x t y u prog w _ _ ?_)
      simp only [ltL] at h
      cases hb' : (x == y) with
      | true =>
        rw [hb'] at h
        simp only [if_true] at h
        wp_walk
        have hc : ((pre.length : Int) + 1) = (((pre ++ [Value.str x t]).length : Nat) : Int) := by simp
        rw [hc]
        exact ⟨plainId_quiet plain_cmp _, codeAny_builtin entry_cmp (by
          rw [Around.under_plainId plain_cmp _]
          exact ih hx (pre ++ [Value.str x t]) (pre2 ++ [Value.str y u]) (by simp [hp]) prog w A R _ ⟨by simpa using hl, by simpa using hb, h⟩)⟩
      | false =>
        rw [hb'] at h
        simp only [Bool.false_eq_true, if_false] at h
        wp_walk using wpAny_loadPart' hl, wpAny_loadPart' hb
        rw [h1, h2]
        dsimp only
        refine wpAny_bind (show wpAny _ _ (compareOp .Lt (.str x t) (.str y u)) _ _ _ from PyProof.Rows.lt_str ?_)
        exact wpAny_pure h
theorem gt_loop (l b : Addr) (n n2 : Nat) {vs2 : List Value} {ys : List Str} (hy : StrVs vs2 ys) : ∀ {vs : List Value} {xs : List Str}, StrVs vs xs → ∀ (pre pre2 : List Value), pre.length = pre2.length →
    Meets (Builtin.«list.__eq__.loop» ⟨[.ref l, .ref b, rawInt (pre.length : Nat), rawInt 4], []⟩)
      (fun _ R s => s.heap.get? l = some (listOf (pre ++ vs).toArray n) ∧ s.heap.get? b = some (listOf (pre2 ++ vs2).toArray n2) ∧ R (.ok (.ret (.bool (gtL xs ys)))) s) := by
  induction hy with
  | nil =>
    intro vs xs hx pre pre2 hp prog w A R s h
    obtain ⟨hp', g, d, tk, os⟩ := s; obtain ⟨hl, hb, h⟩ := h
    wp_walk using wpAny_loadPart' hl, wpAny_loadPart' hb
    have h2 : (pre2 ++ ([] : List Value)).toArray[((pre.length : Nat) : Int).toNat]? = none := by simp; omega
    rw [h2]
    have hf : R (.ok (.ret (.bool (decide ((pre ++ vs).toArray.size > (pre2 ++ ([] : List Value)).toArray.size))))) ⟨hp', g, d, tk, os⟩ := by
      have e : decide ((pre ++ vs).toArray.size > (pre2 ++ ([] : List Value)).toArray.size) = gtL xs [] := by
        cases hx with
        | nil => simp [gtL, hp]
        | cons hx => simp [gtL, hp]; try omega
      rw [e]; exact h
    cases (pre ++ vs).toArray[((pre.length : Nat) : Int).toNat]? with
    | none =>
      dsimp only
      wp_walk using wpAny_loadPart' hl, wpAny_loadPart' hb
      exact hf
    | some x =>
      dsimp only
      wp_walk using wpAny_loadPart' hl, wpAny_loadPart' hb
      exact hf
  | cons hy ih =>
    rename_i y u vs2 ys
    intro vs xs hx pre pre2 hp prog w A R s h
    obtain ⟨hp', g, d, tk, os⟩ := s; obtain ⟨hl, hb, h⟩ := h
    have h2 : (pre2 ++ Value.str y u :: vs2).toArray[((pre.length : Nat) : Int).toNat]? = some (Value.str y u) := by simp [hp]
    cases hx with
    | nil =>
      wp_walk using wpAny_loadPart' hl, wpAny_loadPart' hb
      have h1 : (pre ++ ([] : List Value)).toArray[((pre.length : Nat) : Int).toNat]? = none := by simp
      rw [h1, h2]
      dsimp only
      wp_walk using wpAny_loadPart' hl, wpAny_loadPart' hb
      show R (.ok (.ret (.bool (decide ((pre ++ ([] : List Value)).toArray.size > (pre2 ++ Value.str y u :: vs2).toArray.size))))) _
      have e : decide ((pre ++ ([] : List Value)).toArray.size > (pre2 ++ Value.str y u :: vs2).toArray.size) = gtL [] (y :: ys) := by simp [gtL, hp]; try omega
      rw [e]; exact h
    | cons hx =>
      rename_i x t vs xs
      wp_walk using wpAny_loadPart' hl, wpAny_loadPart' hb
      have h1 : (pre ++ Value.str x t :: vs).toArray[((pre.length : Nat) : Int).toNat]? = some (Value.str x t) := by simp
      rw [h1, h2]
      dsimp only
      refine wpAny_bind (PySem.SeqAt.EqAt.str_str x t y u prog w _ _ ?_)
      simp only [gtL] at h
      cases hb' : (x == y) with
      | true =>
        rw [hb'] at h
        simp only [if_true] at h
        wp_walk
        have hc : ((pre.length : Int) + 1) = (((pre ++ [Value.str x t]).length : Nat) : Int) := by simp
        rw [hc]
        exact ⟨plainId_quiet plain_cmp _, codeAny_builtin entry_cmp (by
          rw [Around.under_plainId plain_cmp _]
          exact ih hx (pre ++ [Value.str x t]) (pre2 ++ [Value.str y u]) (by simp [hp]) prog w A R _ ⟨by simpa using hl, by simpa using hb, h⟩)⟩
      | false =>
        rw [hb'] at h
        simp only [Bool.false_eq_true, if_false] at h
        wp_walk using wpAny_loadPart' hl, wpAny_loadPart' hb
        rw [h1, h2]
        dsimp only
        refine wpAny_bind (show wpAny _ _ (compareOp .Gt (.str x t) (.str y u)) _ _ _ from PySem.P.gt_str ?_)
        exact wpAny_pure h
end
section
set_option maxRecDepth 100000
set_option maxHeartbeats 400000
open AutoSeq1 (wpAny_loadPart')
theorem list_lt (l b : Addr) (n n2 : Nat) {vs vs2 : List Value} {xs ys : List Str} (hx : StrVs vs xs) (hy : StrVs vs2 ys) :
    Meets (Builtin.«list.__lt__» ⟨[.ref l, .ref b], []⟩) (fun _ R s => s.heap.get? l = some (listOf vs.toArray n) ∧ s.heap.get? b = some (listOf vs2.toArray n2) ∧ R (.ok (.ret (.bool (ltL xs ys)))) s) := by
  intro prog w A R s h
  obtain ⟨hp, g, d, tk, os⟩ := s; obtain ⟨hl, hb, h⟩ := h
  have f3 := AutoSeq1.sub_list_list
  wp_walk using wpAny_loadPart' hl, wpAny_loadPart' hb
  exact ⟨plainId_quiet plain_cmp _, codeAny_builtin entry_cmp (by
    rw [Around.under_plainId plain_cmp _]
    exact lt_loop l b n n2 hy hx [] [] rfl prog w A R _ ⟨hl, hb, h⟩)⟩
theorem lt_led {prog : Program} {w : World} {A : Around} {E : Value → Shared → Prop} {s : Shared} {h₀ : Heap} {L : Addr} {news : Led} {l b : Addr} {vs vs2 : List Value} {n n2 : Nat} {xs ys : List Str} {Q : Value → Shared → Prop} (N : News h₀ L s.heap news := by k_asm) (hl : (l, listOf vs.toArray n) ∈ news := by tb_src) (hb : (b, listOf vs2.toArray n2) ∈ news := by tb_src) (hx : StrVs vs xs := by assumption) (hy : StrVs vs2 ys := by assumption)
    (hu : A.units < cLine := by z_go) (h : Q (.bool (ltL xs ys)) s) : wpAny (model prog w) A (compareOp .Lt (.ref l) (.ref b)) Q E s := by
  have h1 := (N _ hl).1
  have h2 := (N _ hb).1
  exact cmp_ofLt (richCompare_meets_room (T := "list") (op := .Lt) (id := "list.__lt__") (B := Builtin.«list.__lt__») ⟨_, h1, rfl⟩ ⟨_, h2, rfl⟩ PySem.F.slot_list_lt PySem.F.entry_list_lt (PySem.F.args_list_lt_2 _ _) (list_lt l b n n2 hx hy) ⟨h1, h2, ⟨nofun, h⟩⟩ hu)
theorem list_gt (l b : Addr) (n n2 : Nat) {vs vs2 : List Value} {xs ys : List Str} (hx : StrVs vs xs) (hy : StrVs vs2 ys) :
    Meets (Builtin.«list.__gt__» ⟨[.ref l, .ref b], []⟩) (fun _ R s => s.heap.get? l = some (listOf vs.toArray n) ∧ s.heap.get? b = some (listOf vs2.toArray n2) ∧ R (.ok (.ret (.bool (gtL xs ys)))) s) := by
  intro prog w A R s h
  obtain ⟨hp, g, d, tk, os⟩ := s; obtain ⟨hl, hb, h⟩ := h
  have f3 := AutoSeq1.sub_list_list
  wp_walk using wpAny_loadPart' hl, wpAny_loadPart' hb
  exact ⟨plainId_quiet plain_cmp _, codeAny_builtin entry_cmp (by
    rw [Around.under_plainId plain_cmp _]
    exact gt_loop l b n n2 hy hx [] [] rfl prog w A R _ ⟨hl, hb, h⟩)⟩
theorem gt_led {prog : Program} {w : World} {A : Around} {E : Value → Shared → Prop} {s : Shared} {h₀ : Heap} {L : Addr} {news : Led} {l b : Addr} {vs vs2 : List Value} {n n2 : Nat} {xs ys : List Str} {Q : Value → Shared → Prop} (N : News h₀ L s.heap news := by k_asm) (hl : (l, listOf vs.toArray n) ∈ news := by tb_src) (hb : (b, listOf vs2.toArray n2) ∈ news := by tb_src) (hx : StrVs vs xs := by assumption) (hy : StrVs vs2 ys := by assumption)
    (hu : A.units < cLine := by z_go) (h : Q (.bool (gtL xs ys)) s) : wpAny (model prog w) A (compareOp .Gt (.ref l) (.ref b)) Q E s := by
  have h1 := (N _ hl).1
  have h2 := (N _ hb).1
  exact cmp_ofGt (richCompare_meets_room (T := "list") (op := .Gt) (id := "list.__gt__") (B := Builtin.«list.__gt__») ⟨_, h1, rfl⟩ ⟨_, h2, rfl⟩ PySem.F.slot_list_gt PySem.F.entry_list_gt (PySem.F.args_list_gt_2 _ _) (list_gt l b n n2 hx hy) ⟨h1, h2, ⟨nofun, h⟩⟩ hu)
end
section
set_option maxRecDepth 100000
set_option maxHeartbeats 8000000
/-! a while, by what holds between the turns, and a number that falls -/
section
variable {prog : Program} {w : World} {A : Around} {s : Shared} {env : Env} {h₀ : Heap} {test : Expr} {body : List Stmt} {Q : Flow → Shared → Prop}
def EndW (h₀ : Heap) (L : Addr) (J : (Str → Option Value) → Led → Prop) (s : Shared) (Q : Flow → Shared → Prop) (f : Flow) (s₃ : Shared) : Prop := match f with
  | .ret v => Q (.ret v) s₃
  | .brk => Q .next s₃
  | _ => ∃ h' tk' m' nx, s₃ = { s with heap := h', toks := tk' } ∧ Fr h₀ L h' m' ∧ News h₀ L h' nx ∧ J m' nx
theorem EndW.next {L : Addr} {J : (Str → Option Value) → Led → Prop} {h' : Heap} {tk' : Nat} {m' : Str → Option Value} {nx : Led} (F : Fr h₀ L h' m') (N : News h₀ L h' nx) (hJ : J m' nx) :
    EndW h₀ L J s Q .next { s with heap := h', toks := tk' } := ⟨h', tk', m', nx, rfl, F, N, hJ⟩
theorem While_inv {E : Value → Shared → Prop} {pos : Pos} {m : Str → Option Value} {news : Led} (J : Nat → (Str → Option Value) → Led → Prop) (n₀ : Nat) (F : Fr h₀ env.locals s.heap m) (N : News h₀ env.locals s.heap news) (hJ : J n₀ m news)
    (turn : ∀ n m₁ nx h tk, J n m₁ nx → Fr h₀ env.locals h m₁ → News h₀ env.locals h nx →
      wpAny (model prog w) A (isTrue test env (eval test env)) (fun b s₂ => if b = true then wpAny (model prog w) A (execs body env) (EndW h₀ env.locals (fun m' nx' => ∃ n', n' < n ∧ J n' m' nx') s Q) (fun _ _ => False) s₂ else Q .next s₂) (fun _ _ => False) { s with heap := h, toks := tk }) :
    wpAny (model prog w) A (exec (.While test body [] pos) env) Q E s := by
  rw [exec_While]
  refine wpAny_noRaise (wpAny_bind (wpAny_standAt (wpAny_runOwn ?_)))
  refine codeAny_whileLoop (fun n s' => ∃ h' tk m' nx, s' = { s with heap := h', toks := tk } ∧ Fr h₀ env.locals h' m' ∧ News h₀ env.locals h' nx ∧ J n m' nx) ?_ n₀ ⟨s.heap, s.toks, m, news, rfl, F, N, hJ⟩
  rintro n s' ⟨h', tk, m', nx, rfl, F', N', hJ'⟩
  refine wpAny_noRaise (wpAny_mono (turn n m' nx h' tk hJ' F' N') (fun b s₂ h₂ => ?_) fun _ _ e => e)
  cases b with
  | false => exact wpAny_execs_nil h₂
  | true =>
    simp only [if_true] at h₂ ⊢
    refine wpAny_noRaise (wpAny_mono h₂ (fun f s₃ h₃ => ?_) fun _ _ e => e)
    have fin : (∃ h' tk' m' nx, s₃ = { s with heap := h', toks := tk' } ∧ Fr h₀ env.locals h' m' ∧ News h₀ env.locals h' nx ∧ ∃ n', n' < n ∧ J n' m' nx) → ∃ k, k < n ∧ ∃ h' tk m' nx, s₃ = { s with heap := h', toks := tk } ∧ Fr h₀ env.locals h' m' ∧ News h₀ env.locals h' nx ∧ J k m' nx := by
      rintro ⟨h', tk', m', nx, e, F₃, N₃, n', hn, hj⟩
      exact ⟨n', hn, h', tk', m', nx, e, F₃, N₃, hj⟩
    cases f with
    | ret v => exact h₃
    | brk => exact h₃
    | cont => exact fin h₃
    | next => exact fin h₃
/-- the same, with what holds behind the loop said apart -/
def ExitW (h₀ : Heap) (L : Addr) (X : (Str → Option Value) → Led → Prop) (s : Shared) (s₂ : Shared) : Prop := ∃ h' tk' m' nx, s₂ = { s with heap := h', toks := tk' } ∧ Fr h₀ L h' m' ∧ News h₀ L h' nx ∧ X m' nx
theorem ExitW.mk {L : Addr} {X : (Str → Option Value) → Led → Prop} {h' : Heap} {tk' : Nat} {m' : Str → Option Value} {nx : Led} (F : Fr h₀ L h' m') (N : News h₀ L h' nx) (hX : X m' nx) : ExitW h₀ L X s { s with heap := h', toks := tk' } := ⟨h', tk', m', nx, rfl, F, N, hX⟩
theorem While_exit {E : Value → Shared → Prop} {pos : Pos} {m : Str → Option Value} {news : Led} (J : Nat → (Str → Option Value) → Led → Prop) (X : (Str → Option Value) → Led → Prop) (n₀ : Nat) (F : Fr h₀ env.locals s.heap m) (N : News h₀ env.locals s.heap news) (hJ : J n₀ m news)
    (turn : ∀ n m₁ nx h tk, J n m₁ nx → Fr h₀ env.locals h m₁ → News h₀ env.locals h nx →
      wpAny (model prog w) A (isTrue test env (eval test env)) (fun b s₂ => if b = true then wpAny (model prog w) A (execs body env) (EndW h₀ env.locals (fun m' nx' => ∃ n', n' < n ∧ J n' m' nx') s Q) (fun _ _ => False) s₂ else ExitW h₀ env.locals X s s₂) (fun _ _ => False) { s with heap := h, toks := tk })
    (done : ∀ m₁ nx h tk, X m₁ nx → Fr h₀ env.locals h m₁ → News h₀ env.locals h nx → Q .next { s with heap := h, toks := tk }) :
    wpAny (model prog w) A (exec (.While test body [] pos) env) Q E s := by
  refine While_inv J n₀ F N hJ fun n m₁ nx h tk hj F₁ N₁ => wpAny_mono (turn n m₁ nx h tk hj F₁ N₁) (fun b s₂ h₂ => ?_) fun _ _ e => e
  cases b with
  | true => exact h₂
  | false =>
    simp only [Bool.false_eq_true, if_false] at h₂ ⊢
    obtain ⟨h', tk', m', nx', rfl, F', N', hX⟩ := h₂
    exact done m' nx' h' tk' hX F' N'
end
end
section
set_option maxRecDepth 100000
set_option maxHeartbeats 8000000
/-! cuts of lists of the ledger; a halt for the walk -/
def Halt (P : Prop) : Prop := P
theorem halt {P : Prop} (h : Halt P) : P := h
theorem Halt.go {P : Prop} (h : P) : Halt P := h
theorem pick_to (vs : List Value) {k : Int} (h : 0 ≤ k) : (slicePick vs.toArray none (some k) none).toList = vs.take k.toNat := by
  have e : sliceBounds none (some k) none vs.toArray.size = (((0 : Nat) : Int), ((min k.toNat vs.toArray.size : Nat) : Int), 1) := by
    simp only [sliceBounds, Option.getD_none, show (1 : Int) > 0 by decide, if_true, if_neg (show ¬ (k < 0) by omega)]
    congr 1
    congr 1
    omega
  rw [kmk_pick_nat _ e]
  show (vs.drop 0).take (min k.toNat vs.toArray.size - 0) = _
  rw [List.drop_zero, Nat.sub_zero, List.size_toArray, kmk_take_min]
theorem pick_from (vs : List Value) {k : Int} (h : 0 ≤ k) : (slicePick vs.toArray (some k) none none).toList = vs.drop k.toNat := by
  have e : sliceBounds (some k) none none vs.toArray.size = (((min k.toNat vs.toArray.size : Nat) : Int), ((vs.toArray.size : Nat) : Int), 1) := by
    simp only [sliceBounds, Option.getD_none, show (1 : Int) > 0 by decide, if_true, if_neg (show ¬ (k < 0) by omega)]
    congr 1
    omega
  rw [kmk_pick_nat _ e]
  show (vs.drop (min k.toNat vs.toArray.size)).take (vs.toArray.size - min k.toNat vs.toArray.size) = _
  rw [List.size_toArray, kmk_drop_min, List.take_of_length_le]
  rw [List.length_drop]
  omega
section
variable {prog : Program} {w : World} {A : Around} {E : Value → Shared → Prop} {s : Shared} {h₀ : Heap} {L : Addr} {m : Str → Option Value} {news : Led} {value slice : Expr} {l : Addr} {vs : List Value} {nn : Nat} {k : Int} {u : Tok} {Q : Value → Shared → Prop}
theorem slice_to_led (F : Fr h₀ L s.heap m) (N : News h₀ L s.heap news) (hm : (l, listOf vs.toArray nn) ∈ news) (h0 : 0 ≤ k) (hz : vs.length ≤ 1000)
    (h : ∀ D h', (∀ p ∈ news, p.1 < D) → Fr h₀ L h' m → News h₀ L h' ((D, listOf (vs.take k.toNat).toArray 0) :: news) → Q (.ref D) { s with heap := h' })
    (hs : subscripted slice false (.ref l) (.ref s.heap.objs.size) = operate [.ref s.heap.objs.size, .ref l] (getItem (.ref l) (.ref s.heap.objs.size))) (ht : ∀ r, letTemporaryGo value (.ref l) r = pure ()) :
    wpAny (model prog w) A (subscriptTail value slice (.ref l) (.ref s.heap.objs.size)) Q E { s with heap := s.heap.push { cls := .type "slice", data := .fields #[.none, .int k u, .none] } } :=
  kmk_slice_lit F N (isL N hm) .none (.int _ _) (pick_to vs h0) (fun D h' F' N' l1 => h D h' l1 F' N') hs ht (by rw [sizeLine_eq, List.size_toArray]; omega)
theorem slice_from_led (F : Fr h₀ L s.heap m) (N : News h₀ L s.heap news) (hm : (l, listOf vs.toArray nn) ∈ news) (h0 : 0 ≤ k) (hz : vs.length ≤ 1000)
    (h : ∀ D h', (∀ p ∈ news, p.1 < D) → Fr h₀ L h' m → News h₀ L h' ((D, listOf (vs.drop k.toNat).toArray 0) :: news) → Q (.ref D) { s with heap := h' })
    (hs : subscripted slice false (.ref l) (.ref s.heap.objs.size) = operate [.ref s.heap.objs.size, .ref l] (getItem (.ref l) (.ref s.heap.objs.size))) (ht : ∀ r, letTemporaryGo value (.ref l) r = pure ()) :
    wpAny (model prog w) A (subscriptTail value slice (.ref l) (.ref s.heap.objs.size)) Q E { s with heap := s.heap.push { cls := .type "slice", data := .fields #[.int k u, .none, .none] } } :=
  kmk_slice_lit F N (isL N hm) (.int _ _) .none (pick_from vs h0) (fun D h' F' N' l1 => h D h' l1 F' N') hs ht (by rw [sizeLine_eq, List.size_toArray]; omega)
end
end
section
set_option maxRecDepth 100000
set_option maxHeartbeats 8000000
/-! loops, the iterator's make told -/
section
variable {prog : Program} {w : World} {A : Around} {s : Shared} {env : Env} {h₀ : Heap} {target : Expr} {body : List Stmt} {Q : Flow → Shared → Prop}
end
/-! what is no list and no tuple bears no datum -/
def NoDat (o : Obj) : Prop := o.cls ≠ .type "list" ∧ o.cls ≠ .type "tuple"
theorem DatIn.but {l l' : Led} (hs : ∀ p ∈ l, p ∈ l' ∨ NoDat p.2) {v : Value} {d : Dat} (h : DatIn l v d) : DatIn l' v d :=
  DatIn.rec (motive_1 := fun v d _ => DatIn l' v d) (motive_2 := fun vs ds _ => DatAll l' vs ds) .none .bool .int .str .bytes
    (fun h _ r => .tuple ((hs _ h).resolve_right fun n => n.2 rfl) r) (fun h _ r => .list ((hs _ h).resolve_right fun n => n.1 rfl) r) .nil (fun _ _ a b => .cons a b) h
theorem DatAll.but {l l' : Led} (hs : ∀ p ∈ l, p ∈ l' ∨ NoDat p.2) {vs : List Value} {ds : List Dat} (h : DatAll l vs ds) : DatAll l' vs ds :=
  DatAll.rec (motive_1 := fun v d _ => DatIn l' v d) (motive_2 := fun vs ds _ => DatAll l' vs ds) .none .bool .int .str .bytes
    (fun h _ r => .tuple ((hs _ h).resolve_right fun n => n.2 rfl) r) (fun h _ r => .list ((hs _ h).resolve_right fun n => n.1 rfl) r) .nil (fun _ _ a b => .cons a b) h
theorem noDat_li {o : Obj} (h : o.cls = .type "list_iterator") : NoDat o := ⟨by rw [h]; decide, by rw [h]; decide⟩
theorem noDat_ri {o : Obj} (h : o.cls = .type "range_iterator") : NoDat o := ⟨by rw [h]; decide, by rw [h]; decide⟩
end
section
set_option maxRecDepth 100000
set_option maxHeartbeats 8000000
/-! comprehensions, by what holds between the turns -/
section
variable {prog : Program} {w : World} {A : Around} {h₀ : Heap} {L : Addr} {m : Str → Option Value} {env : Env} {elt ct : Expr} {x : Str} {scope : Scope} {cl : List (Str × Addr)} {s : Shared} {S : Led → Prop} {P : Nat → Value → Prop} {Fin : List Value → Led → Prop} {n : Nat}
theorem compEnd_mono {s₁ : Shared} {I C D : Addr} {oI oC oD : Obj} {r r' : Value → Led → Prop} {y : Value} {s₂ : Shared} (h : ∀ y nx, r y nx → r' y nx) (c : LCg.CompEnd h₀ L m s₁ I oI C oC D oD S r y s₂) : LCg.CompEnd h₀ L m s₁ I oI C oC D oD S r' y s₂ :=
  let ⟨h', tk, nx, e, F, N, o, q, z⟩ := c
  ⟨h', tk, nx, e, F, N, o, q, h _ _ z⟩
theorem comp_inv (J : Nat → List Value → Led → Prop)
    (turn : ∀ i ys nx v I oI C oC D m₂ h tk (E' : Value → Shared → Prop), i < n → J i ys nx → P i v → LCg.NsObj oC m₂ → m₂ x = some v → Fr h₀ L h m → News h₀ L h ((I, oI) :: (C, oC) :: (D, LCg.lst ys) :: nx) → LCg.Off3 I C D nx → ((@Ne Nat I C) ∧ (@Ne Nat I D) ∧ (@Ne Nat C D)) →
      wpAny (model prog w) A (eval elt (compEnvC scope cl C env)) (LCg.CompEnd h₀ L m { s with heap := h, toks := tk } I oI C oC D (LCg.lst ys) S (fun y nx' => J (i + 1) (ys ++ [y]) nx')) E' { s with heap := h, toks := tk })
    (fin : ∀ ys nx, J n ys nx → Fin ys nx) : ∀ (k i : Nat) (ys : List Value) (nx : Led), k + i = n → J i ys nx → LCg.CompRest prog w A h₀ L m env elt x scope cl s S P Fin k i ys nx
  | 0, i, ys, nx, e, hj => LCg.CompRest.zero (fin _ _ (by have : i = n := by omega
                                                          exact this ▸ hj))
  | k + 1, i, ys, nx, e, hj => LCg.CompRest.succ fun v I oI C oC D m₂ h tk E' hP hC hx F N o ne =>
    wpAny_mono (turn i ys nx v I oI C oC D m₂ h tk E' (by omega) hj hP hC hx F N o ne) (fun _ _ c => compEnd_mono (fun _ _ z => comp_inv J turn fin k (i + 1) _ _ (by omega) z) c) fun _ _ q => q
theorem comp_invT (J : Nat → List Value → Led → Prop)
    (turn : ∀ i ys nx v I oI C oC D m₂ h tk (E' : Value → Shared → Prop), i < n → J i ys nx → P i v → LCg.NsObj oC m₂ → m₂ x = some v → Fr h₀ L h m → News h₀ L h ((I, oI) :: (C, oC) :: (D, LCg.lst ys) :: nx) → LCg.Off3 I C D nx → ((@Ne Nat I C) ∧ (@Ne Nat I D) ∧ (@Ne Nat C D)) →
      wpAny (model prog w) A (isTrue ct (compEnvC scope cl C env) (eval ct (compEnvC scope cl C env))) (fun ok s' => if ok = true then
        wpAny (model prog w) A (eval elt (compEnvC scope cl C env)) (LCg.CompEnd h₀ L m { s with heap := h, toks := tk } I oI C oC D (LCg.lst ys) S (fun y nx' => J (i + 1) (ys ++ [y]) nx')) E' s'
        else LCg.CompEnd h₀ L m { s with heap := h, toks := tk } I oI C oC D (LCg.lst ys) S (fun _ nx' => J (i + 1) ys nx') Value.none s') E' { s with heap := h, toks := tk })
    (fin : ∀ ys nx, J n ys nx → Fin ys nx) : ∀ (k i : Nat) (ys : List Value) (nx : Led), k + i = n → J i ys nx → LCt.CompRestT prog w A h₀ L m env ct elt x scope cl s S P Fin k i ys nx
  | 0, i, ys, nx, e, hj => LCt.CompRestT.zero (fin _ _ (by have : i = n := by omega
                                                           exact this ▸ hj))
  | k + 1, i, ys, nx, e, hj => LCt.CompRestT.succ fun v I oI C oC D m₂ h tk E' hP hC hx F N o ne =>
    wpAny_mono (turn i ys nx v I oI C oC D m₂ h tk E' (by omega) hj hP hC hx F N o ne) (fun ok _ c => by
      cases ok with
      | true =>
        simp only [if_true] at c ⊢
        exact wpAny_mono c (fun _ _ c => compEnd_mono (fun _ _ z => comp_invT J turn fin k (i + 1) _ _ (by omega) z) c) fun _ _ q => q
      | false =>
        simp only [Bool.false_eq_true, if_false] at c ⊢
        exact compEnd_mono (fun _ _ z => comp_invT J turn fin k (i + 1) _ _ (by omega) z) c) fun _ _ q => q
end
end
section
set_option maxRecDepth 100000
set_option maxHeartbeats 1000000
/-! comprehensions whose items are data -/
def CD (base : Led) (ys : List Value) (ds : List Dat) (i : Nat) (y : Value) (nx : Led) : Prop := (∀ p ∈ base, p ∈ nx) ∧ DatAll nx (ys ++ [y]) (ds.take (i + 1))
section
variable {prog : Program} {w : World} {A : Around} {h₀ : Heap} {L : Addr} {m : Str → Option Value} {env : Env} {elt ct : Expr} {x : Str} {scope : Scope} {cl : List (Str × Addr)} {s s₁ : Shared} {S : Led → Prop} {P : Nat → Value → Prop} {Fin : List Value → Led → Prop} {n : Nat} {base : Led} {ds : List Dat}
theorem take_get {ds : List Dat} {i : Nat} {d : Dat} (h : ds[i]? = some d) : ds.take (i + 1) = ds.take i ++ [d] := by
  rw [List.take_add_one, h]; rfl
theorem comp_dat (ds : List Dat) (hn : ds.length = n)
    (turn : ∀ i ys nx v I oI C oC D m₂ h tk (E' : Value → Shared → Prop) (d : Dat), ds[i]? = some d → (∀ p ∈ base, p ∈ nx) → DatAll nx ys (ds.take i) → P i v → LCg.NsObj oC m₂ → m₂ x = some v → Fr h₀ L h m → News h₀ L h ((I, oI) :: (C, oC) :: (D, LCg.lst ys) :: nx) → LCg.Off3 I C D nx → ((@Ne Nat I C) ∧ (@Ne Nat I D) ∧ (@Ne Nat C D)) →
      wpAny (model prog w) A (eval elt (compEnvC scope cl C env)) (LCg.CompEnd h₀ L m { s with heap := h, toks := tk } I oI C oC D (LCg.lst ys) S (CD base ys ds i)) E' { s with heap := h, toks := tk })
    (fin : ∀ ys nx, (∀ p ∈ base, p ∈ nx) → DatAll nx ys ds → Fin ys nx) : LCg.CompRest prog w A h₀ L m env elt x scope cl s S P Fin n 0 [] base := by
  refine comp_inv (fun i ys nx => (∀ p ∈ base, p ∈ nx) ∧ DatAll nx ys (ds.take i)) ?_ ?_ n 0 [] base rfl ⟨fun _ h => h, .nil⟩
  · intro i ys nx v I oI C oC D m₂ h tk E' hi hj hP hC hx F N off ne
    obtain ⟨d, hd⟩ : ∃ d, ds[i]? = some d := ⟨ds[i]'(by omega), List.getElem?_eq_getElem (by omega)⟩
    exact turn i ys nx v I oI C oC D m₂ h tk E' d hd hj.1 hj.2 hP hC hx F N off ne
  · intro ys nx hj
    exact fin ys nx hj.1 (by have := hj.2; rwa [List.take_of_length_le (by omega)] at this)
theorem cend_tl {I C D : Addr} {oI oC oD : Obj} {nx tl : Led} {ys : List Value} {i : Nat} {y : Value} {d : Dat} {h' : Heap} {tk : Nat}
    (F : Fr h₀ L h' m) (N : News h₀ L h' (tl ++ (I, oI) :: (C, oC) :: (D, oD) :: nx)) (hl : ∀ p ∈ tl, (@Ne Nat p.1 I) ∧ (@Ne Nat p.1 C) ∧ (@Ne Nat p.1 D)) (off : LCg.Off3 I C D nx)
    (hS : ∀ nx', (∀ p ∈ nx, p ∈ nx') → S nx') (hsub : ∀ p ∈ base, p ∈ nx) (hds : DatAll nx ys (ds.take i)) (hd : ds[i]? = some d) (hy : DatIn (tl ++ nx) y d) :
    LCg.CompEnd h₀ L m s₁ I oI C oC D oD S (CD base ys ds i) y { s₁ with heap := h', toks := tk } := by
  refine LCg.CompEnd.intro F N (tl ++ nx) (fun p hp => ?_) ?_ (hS _ fun p hp => List.mem_append_right _ hp) ⟨fun p hp => List.mem_append_right _ (hsub p hp), ?_⟩
  · rcases List.mem_cons.mp hp with rfl | hp
    · exact List.mem_append_right _ (.head _)
    rcases List.mem_cons.mp hp with rfl | hp
    · exact List.mem_append_right _ (.tail _ (.head _))
    rcases List.mem_cons.mp hp with rfl | hp
    · exact List.mem_append_right _ (.tail _ (.tail _ (.head _)))
    rcases List.mem_append.mp hp with hp | hp
    · exact List.mem_append_left _ hp
    · exact List.mem_append_right _ (.tail _ (.tail _ (.tail _ hp)))
  · refine LCg.Off3.of fun p hp => ?_
    rcases List.mem_append.mp hp with hp | hp
    · exact hl p hp
    · exact off.mem p hp
  · rw [take_get hd]
    exact (hds.mono fun p hp => List.mem_append_right _ hp).append (.cons hy .nil)
theorem newer {I C D : Addr} {oI oC oD : Obj} {nx : Led} {b : Nat} (h : ∀ q ∈ (I, oI) :: (C, oC) :: (D, oD) :: nx, q.1 < b) : (@Ne Nat b I) ∧ (@Ne Nat b C) ∧ (@Ne Nat b D) :=
  ⟨Nat.ne_of_gt (h _ (.head _)), Nat.ne_of_gt (h _ (.tail _ (.head _))), Nat.ne_of_gt (h _ (.tail _ (.tail _ (.head _))))⟩
/-- an item that is flat -/
theorem cend_flat {I C D : Addr} {oI oC oD : Obj} {nx all : Led} {ys : List Value} {i : Nat} {y : Value} {d : Dat} {h' : Heap} {tk : Nat}
    (F : Fr h₀ L h' m) (N : News h₀ L h' all) (ha : ∀ p ∈ (I, oI) :: (C, oC) :: (D, oD) :: nx, p ∈ all) (off : LCg.Off3 I C D nx)
    (hS : S nx) (hsub : ∀ p ∈ base, p ∈ nx) (hds : DatAll nx ys (ds.take i)) (hd : ds[i]? = some d) (hy : DatIn nx y d) :
    LCg.CompEnd h₀ L m s₁ I oI C oC D oD S (CD base ys ds i) y { s₁ with heap := h', toks := tk } := by
  refine LCg.CompEnd.intro F N nx ha off hS ⟨hsub, ?_⟩
  rw [take_get hd]
  exact hds.append (.cons hy .nil)
/-- an item that is a new list -/
theorem cend_list {I C D E : Addr} {oI oC oD : Obj} {nx : Led} {ys vs : List Value} {k i : Nat} {es : List Dat} {h' : Heap} {tk : Nat}
    (F : Fr h₀ L h' m) (N : News h₀ L h' ((E, listOf vs.toArray k) :: (I, oI) :: (C, oC) :: (D, oD) :: nx)) (hl : (@Ne Nat E I) ∧ (@Ne Nat E C) ∧ (@Ne Nat E D)) (off : LCg.Off3 I C D nx)
    (hS : ∀ nx', (∀ p ∈ nx, p ∈ nx') → S nx') (hsub : ∀ p ∈ base, p ∈ nx) (hds : DatAll nx ys (ds.take i)) (hd : ds[i]? = some (.list es)) (hy : DatAll ((E, listOf vs.toArray k) :: nx) vs es) :
    LCg.CompEnd h₀ L m s₁ I oI C oC D oD S (CD base ys ds i) (.ref E) { s₁ with heap := h', toks := tk } :=
  cend_tl (tl := [(E, listOf vs.toArray k)]) F N (fun p hp => by rw [List.mem_singleton.mp hp]; exact hl) off hS hsub hds hd (.list (.head _) hy)
theorem are_get {vs : List Value} {ps : List Str} (h : StrsAre vs ps) {i : Nat} {v : Value} (hv : vs[i]? = some v) : ∃ z t, v = .str z t ∧ ps[i]? = some z := by
  induction h generalizing i with
  | nil => simp at hv
  | cons y t r ih =>
    cases i with
    | zero => simp at hv; exact ⟨_, _, hv.symm, rfl⟩
    | succ i => simpa using ih (by simpa using hv)
theorem are_app' {vs ws : List Value} {ps qs : List Str} (h : StrsAre vs ps) (g : StrsAre ws qs) : StrsAre (vs ++ ws) (ps ++ qs) := by
  induction h with
  | nil => exact g
  | cons y t r ih => exact .cons y t ih
/-- texts sifted, nothing kept beside -/
theorem comp_sift {ps : List Str} {vs : List Value} (good : Str → Bool) (hn : vs.length = n) (hv : StrsAre vs ps) (hP : ∀ i v, P i v → vs[i]? = some v)
    (turn : ∀ ys (z : Str) (t : Tok) I oI C oC D m₂ h tk (E' : Value → Shared → Prop), z ∈ ps → LCg.NsObj oC m₂ → m₂ x = some (.str z t) → Fr h₀ L h m → News h₀ L h ((I, oI) :: (C, oC) :: (D, LCg.lst ys) :: base) → LCg.Off3 I C D base → ((@Ne Nat I C) ∧ (@Ne Nat I D) ∧ (@Ne Nat C D)) →
      wpAny (model prog w) A (isTrue ct (compEnvC scope cl C env) (eval ct (compEnvC scope cl C env))) (fun ok s' => if ok = true then
        wpAny (model prog w) A (eval elt (compEnvC scope cl C env)) (LCg.CompEnd h₀ L m { s with heap := h, toks := tk } I oI C oC D (LCg.lst ys) S (fun y nx' => good z = true ∧ nx' = base ∧ ∃ t', y = .str z t')) E' s'
        else LCg.CompEnd h₀ L m { s with heap := h, toks := tk } I oI C oC D (LCg.lst ys) S (fun _ nx' => good z = false ∧ nx' = base) Value.none s') E' { s with heap := h, toks := tk })
    (fin : ∀ ys, StrsAre ys (ps.filter good) → Fin ys base) : LCt.CompRestT prog w A h₀ L m env ct elt x scope cl s S P Fin n 0 [] base := by
  have hl : vs.length = ps.length := hv.length
  refine comp_invT (fun i ys nx => nx = base ∧ StrsAre ys ((ps.take i).filter good)) ?_ ?_ n 0 [] base rfl ⟨rfl, by simpa using StrsAre.nil⟩
  · rintro i ys nx v I oI C oC D m₂ h tk E' hi ⟨rfl, hys⟩ hPv hC hx F N off ne
    obtain ⟨z, t, rfl, hz⟩ := are_get hv (hP i v hPv)
    have ht : ps.take (i + 1) = ps.take i ++ [z] := by rw [List.take_add_one, hz]; rfl
    refine wpAny_mono (turn ys z t I oI C oC D m₂ h tk E' (List.mem_of_getElem? hz) hC hx F N off ne) (fun ok s' c => ?_) fun _ _ e => e
    cases ok with
    | true =>
      simp only [if_true] at c ⊢
      refine wpAny_mono c (fun y s'' c' => compEnd_mono (fun y nx' q => ?_) c') fun _ _ e => e
      obtain ⟨hg, rfl, t', rfl⟩ := q
      refine ⟨rfl, ?_⟩
      rw [ht, List.filter_append]
      simp only [List.filter_cons, List.filter_nil, hg, if_true]
      exact are_app' hys (.cons _ _ .nil)
    | false =>
      simp only [Bool.false_eq_true, if_false] at c ⊢
      refine compEnd_mono (fun y nx' q => ?_) c
      obtain ⟨hg, rfl⟩ := q
      refine ⟨rfl, ?_⟩
      rw [ht, List.filter_append]
      simp only [List.filter_cons, List.filter_nil, hg, Bool.false_eq_true, if_false, List.append_nil]
      exact hys
  · rintro ys nx ⟨rfl, hys⟩
    refine fin ys ?_
    rwa [List.take_of_length_le (by omega)] at hys
end
end
section
set_option maxRecDepth 100000
set_option maxHeartbeats 8000000
/-! a while that is left by break -/
section
variable {prog : Program} {w : World} {A : Around} {s : Shared} {env : Env} {h₀ : Heap} {test : Expr} {body : List Stmt} {Q : Flow → Shared → Prop}
def EndB (h₀ : Heap) (L : Addr) (J X : (Str → Option Value) → Led → Prop) (s : Shared) (Q : Flow → Shared → Prop) (f : Flow) (s₃ : Shared) : Prop := match f with
  | .ret v => Q (.ret v) s₃
  | .brk => ExitW h₀ L X s s₃
  | _ => ∃ h' tk' m' nx, s₃ = { s with heap := h', toks := tk' } ∧ Fr h₀ L h' m' ∧ News h₀ L h' nx ∧ J m' nx
theorem EndB.next {L : Addr} {J X : (Str → Option Value) → Led → Prop} {h' : Heap} {tk' : Nat} {m' : Str → Option Value} {nx : Led} (F : Fr h₀ L h' m') (N : News h₀ L h' nx) (hJ : J m' nx) :
    EndB h₀ L J X s Q .next { s with heap := h', toks := tk' } := ⟨h', tk', m', nx, rfl, F, N, hJ⟩
theorem EndB.brk {L : Addr} {J X : (Str → Option Value) → Led → Prop} {h' : Heap} {tk' : Nat} {m' : Str → Option Value} {nx : Led} (F : Fr h₀ L h' m') (N : News h₀ L h' nx) (hX : X m' nx) :
    EndB h₀ L J X s Q .brk { s with heap := h', toks := tk' } := ⟨h', tk', m', nx, rfl, F, N, hX⟩
theorem While_brk {E : Value → Shared → Prop} {pos : Pos} {m : Str → Option Value} {news : Led} (J : Nat → (Str → Option Value) → Led → Prop) (X : (Str → Option Value) → Led → Prop) (n₀ : Nat) (F : Fr h₀ env.locals s.heap m) (N : News h₀ env.locals s.heap news) (hJ : J n₀ m news)
    (turn : ∀ n m₁ nx h tk, J n m₁ nx → Fr h₀ env.locals h m₁ → News h₀ env.locals h nx →
      wpAny (model prog w) A (isTrue test env (eval test env)) (fun b s₂ => if b = true then wpAny (model prog w) A (execs body env) (EndB h₀ env.locals (fun m' nx' => ∃ n', n' < n ∧ J n' m' nx') X s Q) (fun _ _ => False) s₂ else ExitW h₀ env.locals X s s₂) (fun _ _ => False) { s with heap := h, toks := tk })
    (done : ∀ m₁ nx h tk, X m₁ nx → Fr h₀ env.locals h m₁ → News h₀ env.locals h nx → Q .next { s with heap := h, toks := tk }) :
    wpAny (model prog w) A (exec (.While test body [] pos) env) Q E s := by
  have out : ∀ s₂, ExitW h₀ env.locals X s s₂ → Q .next s₂ := by
    rintro s₂ ⟨h', tk', m', nx', rfl, F', N', hX⟩
    exact done m' nx' h' tk' hX F' N'
  refine While_inv J n₀ F N hJ fun n m₁ nx h tk hj F₁ N₁ => wpAny_mono (turn n m₁ nx h tk hj F₁ N₁) (fun b s₂ h₂ => ?_) fun _ _ e => e
  cases b with
  | true =>
    simp only [if_true] at h₂ ⊢
    refine wpAny_mono h₂ (fun f s₃ h₃ => ?_) fun _ _ e => e
    cases f with
    | ret v => exact h₃
    | brk => exact out _ h₃
    | next => exact h₃
    | cont => exact h₃
  | false =>
    simp only [Bool.false_eq_true, if_false] at h₂ ⊢
    exact out _ h₂
end
end
section
set_option maxRecDepth 100000
set_option maxHeartbeats 8000000
/-! a def that catches what it raises, called by the law itself -/
section
variable {prog : Program} {w : World} {A : Around} {s : Shared} {h₀ : Heap} {L : Addr} {m : Str → Option Value} {env : Env} {news : Led} {K : Frag} {p : Program} {loose : List Str} {mean : ExcName → Option Value} {mg mb : Str → Option Value}
    {R : Result → Shared → Prop} {name qual : Str} {params : Arguments} {body : List Stmt} {scope : Scope} {dV kV doc pm cdv ct oc : Value} {an od : Option Addr} {osl : Array (Option Value)} {f : Addr} {args : Args} {binds : List (Str × Value)}
theorem code_defT (F : Fr h₀ L s.heap m) (X₀ : K.In h₀) (N : News h₀ L s.heap news) (T : Top p loose mean mg mb h₀) (_hA : A.frames = some [env]) (hfe : env.frame = some L) (hke : env.scope.kind = .function)
    (ho : K.lookup f = some ⟨oc, od, .func (fnOf name qual params body scope dV kV doc pm an cdv ct), osl⟩) (hcd : codeIn K cdv qual = true) (hroom : A.depth < recursionLimit)
    (hbind : BindsTo s (fnOf name qual params body scope dV kV doc pm an cdv ct) args binds) (hloc : ∀ y ∈ binds, scope.names.lookup y.1 = some .local)
    (h : ∀ L' oL h₁, TI.Caller h₀ L m oL → TI.Frs [env] [(L, oL)] → (∀ p ∈ news, p.1 ≠ L) → (∀ p ∈ news, p.1 < L') → Fr h₀ L' h₁ (fun y => binds.reverse.lookup y) → News h₀ L' h₁ (news ++ [(L, oL)]) →
      wpAny (model prog w) (A.deeper (envOf qual scope L' f cdv)) (execs body (envOf qual scope L' f cdv))
        (fun fl s' => TI.LeaveI s' (R (.ok (.ret (match fl with | .ret v => v | _ => .none))) s'))
        (fun _ _ => False)
        { s with heap := h₁, toks := s.toks + binds.length })
    (hco : scope.isCoroutine = false := by rfl) (hgen : scope.isGenerator = false := by rfl) (hk : scope.kind = .function := by rfl)
    (hcell : ∀ x ∈ scope.names, x.2 ≠ .cell := by decide) : codeAny (model prog w) A (.call (.ref f) args) R s := by
  have X := X₀.keeps F.keep
  obtain ⟨oL, es, ep, hL, hLd, hLk, hLf⟩ := F.ns
  have hLt := Heap.lt_size hL
  have hkind : env.scope.kind ≠ .module := by
    rw [hke]; decide
  refine codeAny_call_def (fd := fnOf name qual params body scope dV kV doc pm an cdv ct) (body := body) (binds := binds) hroom (X _ _ ho) rfl (T.nolimit.keeps F.keep) (codeRec_of X hcd) rfl hbind hcell hloc (fun h₁ hns hk₁ => ?_) hco hgen hk
  have up : ∀ b o, s.heap.get? b = some o → h₁.get? b = some o := fun b o e => hk₁ b o e
  refine wpAny_mono (h s.heap.objs.size oL h₁ ⟨fun h' sl e => ⟨_, es, ep, e, hLd, hLk, hLf⟩, ⟨es, ep, hLd⟩, F.above⟩ ⟨hkind, hfe, ⟨es, ep, hLd⟩, trivial⟩ (fun p hp => (N p hp).2.1) (fun p hp => Heap.lt_size (N p hp).1)
    ⟨hns, fun b o e => up b o (F.keep b o e), Nat.le_trans F.above (Nat.le_of_lt hLt)⟩ (fun p hp => ?_)) (fun _ _ x => x) fun _ _ x => x.elim
  rcases List.mem_append.mp hp with hp | hp
  · obtain ⟨h1, h2, h3⟩ := N p hp
    exact ⟨up _ _ h1, Nat.ne_of_lt (Heap.lt_size h1), h3⟩
  · rw [List.mem_singleton.mp hp]
    exact ⟨up _ _ hL, Nat.ne_of_lt hLt, Heap.get?_none_of_le F.above⟩
end
/-- as DT, for a call out of the first frame -/
def DT1 (w : World) (mean : ExcName → Option Value) (mg mb : Str → Option Value) (f : Addr) (sz : Nat) (args : List Dat) (out : Dat) : Prop :=
  ∀ (A : Around) (env : Env) (h₀ : Heap) (L : Addr) (m : Str → Option Value) (news : Led) (s : Shared) (vs : List Value) (Q E : Value → Shared → Prop),
    A.handled = none → A.frames = some [env] → env.frame = some L → env.scope.kind = .function → A.depth + sz < recursionLimit → A.units + 8 * sz < cLine →
    Fr h₀ L s.heap m → (hd.heap_39 w.params).In h₀ → News h₀ L s.heap news → Top topProg theLoose mean mg mb h₀ → DatAll news vs args →
    (∀ r tl h' tk', Fr h₀ L h' m → News h₀ L h' (tl ++ news) → (∀ p ∈ tl, ∀ q ∈ news, q.1 < p.1) → DatIn (tl ++ news) r out → Q r { s with heap := h', toks := tk' }) →
    wpAny (model Challenge.rw_pd0179_01.prog w) A (call (.ref f) vs) Q E s
theorem DT1.use {w : World} {mean : ExcName → Option Value} {mg mb : Str → Option Value} {f : Addr} {sz : Nat} {args : List Dat} {out : Dat} {A : Around} {env : Env} {h₀ : Heap} {L : Addr} {m : Str → Option Value} {news : Led} {s : Shared} {vs : List Value} {Q E : Value → Shared → Prop} (C : DT1 w mean mg mb f sz args out)
    (hh : A.handled = none) (hA : A.frames = some [env]) (hf : env.frame = some L) (hk : env.scope.kind = .function) (hdp : A.depth + sz < recursionLimit) (hu : A.units + 8 * sz < cLine)
    (F : Fr h₀ L s.heap m) (X : (hd.heap_39 w.params).In h₀) (N : News h₀ L s.heap news) (T : Top topProg theLoose mean mg mb h₀) (D : DatAll news vs args)
    (ret : ∀ r tl h' tk', Fr h₀ L h' m → News h₀ L h' (tl ++ news) → (∀ p ∈ tl, ∀ q ∈ news, q.1 < p.1) → DatIn (tl ++ news) r out → Q r { s with heap := h', toks := tk' }) :
    wpAny (model Challenge.rw_pd0179_01.prog w) A (call (.ref f) vs) Q E s := C _ _ _ _ _ _ _ _ _ _ hh hA hf hk hdp hu F X N T D ret
end
section
set_option maxRecDepth 100000
set_option maxHeartbeats 8000000
/-! an exception in flight, with the ledger -/
section
variable {prog : Program} {w : World} {A₀ : Around} {E : Value → Shared → Prop} {s : Shared} {h₀ h : Heap} {L L' a e : Addr} {m : Str → Option Value} {name : Str} {scope : Scope} {cd : Value} {news : Led} {X : String} {env : Env} {oL : Obj}
theorem allNe_mine : ∀ {l : Led}, (∀ p ∈ l, p.1 ≠ L) → TLg.AllNe L l
  | [], _ => trivial
  | p :: _, h => ⟨h p (.head _), allNe_mine fun q hq => h q (.tail _ hq)⟩
theorem noted_mine {Q : Unit → Shared → Prop} {p1 p2 : Addr × Obj} (hfr : A₀.frames = some [env]) (Fs : TI.Frs [env] [(L, oL)]) (hx : Heap.NewExc h s.heap e X) (F : Fr h₀ L' h m) (N : News h₀ L' h (p1 :: p2 :: (news ++ [(L, oL)]))) (h1 : p1.1 ≠ L) (h2 : p2.1 ≠ L) (hn : ∀ p ∈ news, p.1 ≠ L)
    (k : ∀ h' sl, TI.Frs [env] [(L, { oL with slots := sl })] → TT.HeldN h₀ L' h' m e X (p1 :: p2 :: (news ++ [(L, { oL with slots := sl })])) → Q () { s with heap := h' }) (hk : scope.kind = .function := by rfl) :
    wpAny (model prog w) (A₀.deeper (envOf name scope L' a cd)) (noteFrame (.ref e) (envOf name scope L' a cd)) Q E s :=
  TLg.noted_new1 (new := p1 :: p2 :: news) hfr Fs hx F N (allNe_mine fun p hp => by
    rcases List.mem_cons.mp hp with rfl | hp
    · exact h1
    rcases List.mem_cons.mp hp with rfl | hp
    · exact h2
    · exact hn p hp) (fun h' sl Fs' H => k h' sl Fs' H) hk
theorem held_led {fl : Value} {G : Prop} (H : TT.HeldNA h₀ L h m e X news fl) (K : ∀ ob vs tb otb tvs, News h₀ L h ((e, ob) :: (tb, otb) :: news) → ob.cls = .type X → ob.data = .fields vs → vs[1]? = some (.ref tb) → otb.data = .fields tvs → tvs[3]? = some fl → tb ≠ e → (∀ p ∈ news, p.1 ≠ tb) → G) : G := by
  have hne := HeldAt.ne H.held
  obtain ⟨⟨F, ⟨ob, vs, tb, otb, tvs, he, hcls, hd, h1, htb, htd, h3, htbL, htbe, htb0⟩, hf⟩, N, hap⟩ := H
  exact K ob vs tb otb tvs (fc ⟨he, hne, hf⟩ (fc ⟨htb, htbL, htb0⟩ N)) hcls hd h1 htd h3 htbe (hap ob vs tb he hd h1)
theorem held_back {fl : Value} {ob otb : Obj} {vs tvs : Array Value} {tb : Addr} (F : Fr h₀ L h m) (N : News h₀ L h ((e, ob) :: (tb, otb) :: news)) (c1 : ob.cls = .type X) (c2 : ob.data = .fields vs) (c3 : vs[1]? = some (.ref tb)) (c4 : otb.data = .fields tvs) (c5 : tvs[3]? = some fl) (c6 : tb ≠ e) (c7 : ∀ p ∈ news, p.1 ≠ tb) :
    TT.HeldNA h₀ L h m e X news fl := by
  have he := N (e, ob) (.head _)
  have ht := N (tb, otb) (.tail _ (.head _))
  refine ⟨⟨F, ⟨ob, vs, tb, otb, tvs, he.1, c1, c2, c3, ht.1, c4, c5, ht.2.1, c6, ht.2.2⟩, he.2.2⟩, fun p hp => N p (.tail _ (.tail _ hp)), ?_⟩
  intro ob' vs' tb' e1 e2 e3 p hp
  rw [he.1] at e1
  obtain rfl := Option.some.inj e1
  rw [c2] at e2
  obtain rfl := Data.fields.inj e2
  rw [c3] at e3
  obtain rfl := Value.ref.inj (Option.some.inj e3)
  exact c7 p hp
theorem pass_on_heldN {α : Type} {M : Model} {A : Around} {what : String} {fl : Value} {Q : α → Shared → Prop} (H : TT.HeldNA h₀ L s.heap m e X news fl)
    (k : ∀ h', TT.HeldN h₀ L h' m e X news → E (.ref e) { s with heap := h' }) :
    wpAny M A (PySem.passOn what (.ref e) (envOf name scope L a cd)) Q E s := by
  obtain ⟨⟨F, ⟨ob, vs, tb, otb, tvs, he, hcls, hd, h1, htb, htd, h3, htbL, htbe, htb0⟩, hf⟩, N, hap⟩ := H
  have happ := hap ob vs tb he hd h1
  have hsz : 3 < tvs.size := (Array.getElem?_eq_some_iff.mp h3).1
  obtain ⟨oL, esL, epL, hL, hLd, hLk, hLf⟩ := F.ns
  unfold PySem.passOn
  refine wpAny_bind (wpAny_field he hd h1 ?_)
  rw [if_neg (show ¬ ((Value.ref tb == Value.none) = true) from by simp)]
  have flight : ∀ {Q : Unit → Shared → Prop}, (∀ h', TT.HeldN h₀ L h' m e X news → Q () { s with heap := h' }) → wpAny M A (setFlight (.ref e) (envOf name scope L a cd).frame) Q E s := by
    intro Q k
    unfold setFlight
    refine wpAny_bind (wpAny_field he hd h1 ?_)
    rw [if_pos (show (Value.ref tb != Value.none) = true from by simp)]
    show wpAny M A (setField (.ref tb) 3 (rawInt L)) Q E s
    refine wpAny_setField htb htd hsz ?_
    obtain ⟨c, d, dt, sl⟩ := otb
    obtain rfl : dt = .fields tvs := htd
    have he' := (Heap.get?_update_ne s.heap _ _ (Obj.mapFields (·.setIfInBounds 3 (rawInt L))) htbe.symm).trans he
    have F' : Fr h₀ L (s.heap.update tb (Obj.mapFields (·.setIfInBounds 3 (rawInt L)))) m :=
      ⟨⟨oL, esL, epL, (Heap.get?_update_ne _ _ _ _ htbL.symm).trans hL, hLd, hLk, hLf⟩,
       fun b o hb => (Heap.get?_update_ne _ _ _ _ (fun q => by rw [q, htb0] at hb; cases hb)).trans (F.keep b o hb), F.above⟩
    refine k _ ⟨⟨F', ⟨ob, vs, tb, ⟨c, d, .fields (tvs.setIfInBounds 3 (rawInt L)), sl⟩, _, he', hcls, hd, h1,
      Heap.get?_update_self _ htb (by first | rfl | exact Obj.isFreed_of_fields rfl | simp [Obj.isFreed, Obj.mapFields]), rfl, by simp [Array.getElem?_setIfInBounds, hsz], htbL, htbe, htb0⟩, hf⟩, fun p hp => ⟨(Heap.get?_update_ne _ _ _ _ (happ p hp)).trans (N p hp).1, (N p hp).2⟩, ?_⟩
    intro ob' vs' tb' e1 e2 e3 p hp
    rw [he'] at e1
    obtain rfl := Option.some.inj e1
    exact hap ob vs' tb' he e2 e3 p hp
  first
    | exact wpAny_bind (wpAny_pure (wpAny_bind (flight fun h' K' => wpAny_throw (k h' K'))))
    | exact wpAny_bind (flight fun h' K' => wpAny_throw (k h' K'))
end
end
section
set_option maxRecDepth 100000
set_option maxHeartbeats 8000000
/-! a list of the ledger's grows -/
section
variable {prog : Program} {w : World} {A : Around} {E : Value → Shared → Prop} {s : Shared} {h₀ : Heap} {L D b : Addr} {m : Str → Option Value} {news : Led} {g : Obj → Led} {vs ws : List Value} {n n2 : Nat} {x : Value} {Q : Value → Shared → Prop}
theorem grow_led {f : Array Value → Array Value} {ls : List Value} {h : Heap} (N : News h₀ L h news) (U : UpdF D (listOf vs.toArray n) news g) (he : f vs.toArray = ls.toArray) : ∃ n', News h₀ L (h.update D (Obj.mapSeq f)) (g (listOf ls.toArray n')) := by
  obtain ⟨pre, post, rfl, hg, a, c⟩ := U.split
  have q := PySem.IsL.update (N (D, listOf vs.toArray n) (List.mem_append.mpr (.inr (.head _)))).1 f
  rw [he] at q
  exact ⟨_, hg _ ▸ N.setAt a c (Heap.SameBut.update ..) q⟩
theorem upd_mem {o : Obj} (U : UpdF D o news g) : (D, o) ∈ news := by
  obtain ⟨pre, post, rfl, _⟩ := U.split
  exact List.mem_append.mpr (.inr (.head _))
theorem append_led (F : Fr h₀ L s.heap m := by k_asm) (N : News h₀ L s.heap news := by k_asm) (U : UpdF D (listOf vs.toArray n) news g := by kst_allNe) (hz : vs.length ≤ 1000 := by z_lens)
    (h : ∀ h' n', Fr h₀ L h' m → News h₀ L h' (g (listOf (vs ++ [x]).toArray n')) → Q .none { s with heap := h' }) : wpAny (model prog w) A (call (.builtin "list.append") [.ref D, x]) Q E s := by
  have z := N _ (upd_mem U)
  obtain ⟨n', N'⟩ := grow_led (f := fun y => y.push x) (ls := vs ++ [x]) N U (by simp)
  exact call_meets PySem.F.slot_list_append ⟨_, z.1, rfl⟩ PySem.F.entry_list_append (PySem.F.args_list_append_2 _ _) (PySem.list_append D vs.toArray n x (by rw [sizeLine_eq, List.size_toArray]; omega)) ⟨z.1, h _ n' (F.change (Heap.SameBut.update ..) z.2.1 z.2.2) N'⟩
theorem extend_led (F : Fr h₀ L s.heap m := by k_asm) (N : News h₀ L s.heap news := by k_asm) (hb : (b, listOf ws.toArray n2) ∈ news := by tb_src) (U : UpdF D (listOf vs.toArray n) news g := by kst_allNe) (hz : vs.length ≤ 1000 := by z_lens) (hz2 : ws.length ≤ 1000 := by z_lens)
    (h : ∀ h' n', Fr h₀ L h' m → News h₀ L h' (g (listOf (vs ++ ws).toArray n')) → Q .none { s with heap := h' }) : wpAny (model prog w) A (call (.builtin "list.extend") [.ref D, .ref b]) Q E s := by
  have z := N _ (upd_mem U)
  obtain ⟨n', N'⟩ := grow_led (f := fun y => y ++ ws.toArray) (ls := vs ++ ws) N U (by simp)
  refine call_meets PySem.F.slot_list_extend ⟨_, z.1, rfl⟩ PySem.F.entry_list_extend (PySem.F.args_list_extend_2 _ _) (PySem.AutoSeq1.list_extend_list_list_0 D vs.toArray n b ws.toArray n2 ?_ ?_ ?_) ⟨z.1, (N _ hb).1, h _ n' (F.change (Heap.SameBut.update ..) z.2.1 z.2.2) N'⟩
  · simp only [Builtin.List.listTooLong, List.size_toArray, Bool.and_eq_true, decide_eq_true_eq, not_and]
    intro _
    rw [sizeLine_eq]; omega
  · rw [sizeLine_eq, List.size_toArray]; omega
  · rw [sizeLine_eq, List.size_toArray, List.size_toArray]; omega
end
end
section
set_option maxRecDepth 100000
set_option maxHeartbeats 8000000
/-! is a list of the ledger's empty -/
section
variable {prog : Program} {w : World} {A : Around} {E : Value → Shared → Prop} {s : Shared} {h₀ : Heap} {L l : Addr} {m : Str → Option Value} {news : Led} {vs : List Value} {nn : Nat} {Q : Bool → Shared → Prop}
theorem unp_led {elts : List Expr} {k : _} {pos : Pos} {t : Addr} {items : Array Value} {env : Env} {Q : Unit → Shared → Prop} (F : Fr h₀ L s.heap m := by k_asm) (N : News h₀ L s.heap news := by k_asm) (ht : IsTup s.heap t items := by exact News.isTup (by k_asm) (by tb_src))
    (hh : A.handled = none := by z_run) (hn : (assignEach elts env).length = items.size := by exact rfl) (hstar : (assignEach elts env).findIdx? (·.1) = none := by exact rfl)
    (h : ∀ h', Fr h₀ L h' m → News h₀ L h' news → wpAny (model prog w) A (assignInOrder ((assignEach elts env).map (·.2)) items.toList) Q E { s with heap := h' }) :
    wpAny (model prog w) A (assign (.Tuple elts k pos) env (.ref t)) Q E s := unpackN_ F N ht hh hn hstar h
theorem conv_led {x : Str} {t : Tok} {Q : Value → Shared → Prop} (hsz : x.length ≤ 1000 := by z_lens) (h : ∀ t' k, Q (.str x t') { s with toks := k }) : wpAny (model prog w) A (convS (.str x t)) Q E s := SB.convS_str h (by rw [sizeLine_eq]; omega)
theorem truthy_led_t (N : News h₀ L s.heap news := by k_asm) (hm : (l, listOf vs.toArray nn) ∈ news := by tb_src) (hz : vs.length ≤ 1000 := by omega) (hb : 0 < vs.length := by omega) (h : ∀ k, Q true { s with toks := k }) : wpAny (model prog w) A (truthy (.ref l)) Q E s := by
  refine wpAny_truthy_list (isL N hm) (by simp; omega) ?_
  have e : (!vs.toArray.isEmpty) = true := by
    cases vs with
    | nil => simp at hb
    | cons x r => rfl
  rw [e]
  exact h _
theorem truthy_led_f (N : News h₀ L s.heap news := by k_asm) (hm : (l, listOf vs.toArray nn) ∈ news := by tb_src) (hb : vs.length = 0 := by omega) (h : ∀ k, Q false { s with toks := k }) : wpAny (model prog w) A (truthy (.ref l)) Q E s := by
  refine wpAny_truthy_list (isL N hm) (by simp; omega) ?_
  have e : (!vs.toArray.isEmpty) = false := by
    rw [List.length_eq_zero_iff.mp hb]
    rfl
  rw [e]
  exact h _
end
end
section
set_option maxRecDepth 100000
set_option maxHeartbeats 1000000
/-! min and max of a list of two lists of texts, the first one the lesser -/
theorem min_cmp {prog : Program} {w : World} {A : Around} {E : Value → Shared → Prop} {s : Shared} {l b : Addr} {vs vs2 : List Value} {n n2 : Nat} {xs ys : List Str} {Q : Value → Shared → Prop} (h1 : s.heap.get? l = some (listOf vs.toArray n)) (h2 : s.heap.get? b = some (listOf vs2.toArray n2)) (hx : StrVs vs xs) (hy : StrVs vs2 ys)
    (hu : A.units < cLine) (h : Q (.bool (ltL xs ys)) s) : wpAny (model prog w) A (richCompare .Lt (.ref l) (.ref b)) Q E s :=
  richCompare_meets_room (T := "list") (op := .Lt) (id := "list.__lt__") (B := Builtin.«list.__lt__») ⟨_, h1, rfl⟩ ⟨_, h2, rfl⟩ PySem.F.slot_list_lt PySem.F.entry_list_lt (PySem.F.args_list_lt_2 _ _) (list_lt l b n n2 hx hy) ⟨h1, h2, ⟨nofun, h⟩⟩ hu
theorem max_cmp {prog : Program} {w : World} {A : Around} {E : Value → Shared → Prop} {s : Shared} {l b : Addr} {vs vs2 : List Value} {n n2 : Nat} {xs ys : List Str} {Q : Value → Shared → Prop} (h1 : s.heap.get? l = some (listOf vs.toArray n)) (h2 : s.heap.get? b = some (listOf vs2.toArray n2)) (hx : StrVs vs xs) (hy : StrVs vs2 ys)
    (hu : A.units < cLine) (h : Q (.bool (gtL xs ys)) s) : wpAny (model prog w) A (richCompare .Gt (.ref l) (.ref b)) Q E s :=
  richCompare_meets_room (T := "list") (op := .Gt) (id := "list.__gt__") (B := Builtin.«list.__gt__») ⟨_, h1, rfl⟩ ⟨_, h2, rfl⟩ PySem.F.slot_list_gt PySem.F.entry_list_gt (PySem.F.args_list_gt_2 _ _) (list_gt l b n n2 hx hy) ⟨h1, h2, ⟨nofun, h⟩⟩ hu
theorem min2_led {prog : Program} {w : World} {A : Around} {E : Value → Shared → Prop} {s : Shared} {h₀ : Heap} {L : Addr} {m : Str → Option Value} {news : Led} {l a b : Addr} {vs vs2 : List Value} {nn n n2 : Nat} {xs ys : List Str} {Q : Value → Shared → Prop} (hh : A.handled = none) (F : Fr h₀ L s.heap m) (N : News h₀ L s.heap news)
    (hm : (l, listOf [Value.ref a, Value.ref b].toArray nn) ∈ news) (ha : (a, listOf vs.toArray n) ∈ news) (hb : (b, listOf vs2.toArray n2) ∈ news) (hx : StrVs vs xs) (hy : StrVs vs2 ys) (hu : A.units + 10 < cLine)
    (hf : ltL ys xs = false) (h : ∀ h' tk', Fr h₀ L h' m → News h₀ L h' news → Q (.ref a) { s with heap := h', toks := tk' }) :
    wpAny (model prog w) A (call (.builtin "min") [.ref l]) Q E s := by
  have hname : (toString "min" ++ toString ".loop" : String) = "min.loop" := by decide
  have hol := (N _ hm).1
  have hoa := (N _ ha).1
  have hob := (N _ hb).1
  have hls : s.heap.IsList l #[Value.ref a, Value.ref b] := ⟨_, hol, rfl, nn, rfl⟩
  refine call_function_tree PySem.F.kind_min PySem.F.plain_min PySem.F.entry_min (PySem.F.args_min1 _) ?_
  show wpAny _ A.in1 (Builtin.Builtins.bindParams "min" ["key", "default"] 0 ⟨[], []⟩ >>= _) _ _ s
  refine wpAny_bind (wpAny_of_eq (show Builtin.Builtins.bindParams "min" ["key", "default"] 0 ⟨[], []⟩ = pure [none, none] from rfl) ?_)
  refine wpAny_bind (wpAny_pure ?_)
  refine wpAny_bind (wpAny_pyIter_list hls ?_)
  refine wpAny_bind (wpAny_newObj_type ?_)
  rw [hname]
  dsimp only
  have lt : ∀ {c o}, s.heap.get? c = some o → c < s.heap.objs.size := fun e => Heap.lt_size e
  generalize hI : s.heap.objs.size = I at lt ⊢
  generalize hH1 : s.heap.push { cls := .type "list_iterator", data := .fields #[.ref l, .int 0 0] } = H1
  have hz1 : H1.objs.size = I + 1 := by rw [← hH1, Heap.size_push, hI]
  have hit1 : H1.IsListIter I l 0 := by rw [← hH1, ← hI]; exact ⟨_, Heap.get?_push_size _ rfl, rfl, rfl⟩
  have k1 : ∀ c o, s.heap.get? c = some o → H1.get? c = some o := fun c o e => by rw [← hH1]; exact Heap.get?_push_of_some _ e
  clear hH1
  rw [hz1]
  generalize hH2 : H1.push { cls := .type "list", dict := none, data := .seq ([] : List Value).toArray } = H2
  have hS2 : H2.get? (I + 1) = some { cls := .type "list", dict := none, data := .seq #[] 0, slots := #[] } := by rw [← hH2, ← hz1]; exact Heap.get?_push_size _ rfl
  have k2 : ∀ c o, H1.get? c = some o → H2.get? c = some o := fun c o e => by rw [← hH2]; exact Heap.get?_push_of_some _ e
  have hit2 : H2.IsListIter I l 0 := let ⟨o, ho, r⟩ := hit1; ⟨o, k2 _ _ ho, r⟩
  have K2 : ∀ c o, s.heap.get? c = some o → H2.get? c = some o := fun c o e => k2 c o (k1 c o e)
  clear hH2 hit1 k1 k2 hz1
  have nI : ∀ {c o}, s.heap.get? c = some o → c ≠ I := fun e => Nat.ne_of_lt (lt e)
  have nS : ∀ {c o}, s.heap.get? c = some o → c ≠ I + 1 := fun e => Nat.ne_of_lt (Nat.lt_succ_of_lt (lt e))
  have hIS : I ≠ I + 1 := Nat.ne_of_lt (Nat.lt_succ_self _)
  refine wpAny_pure ⟨plainId_quiet PySem.F.plain_min_loop _, ?_⟩
  -- the first
  refine codeAny_builtin PySem.F.entry_min_loop ?_
  rw [Around.under_plainId PySem.F.plain_min_loop _]
  show wpAny _ A.in1 (seqItems? (.ref (I + 1)) >>= _) _ _ _
  refine wpAny_bind (wpAny_seqItems (s := { s with heap := H2 }) hS2 rfl ?_)
  show wpAny _ A.in1 (tryCatch (pyNext (.ref I)) _ >>= _) _ _ _
  refine wpAny_bind (wpAny_tryCatch (wpAny_pyNext_list_item (s := { s with heap := H2 }) (x := .ref a) hit2 ⟨_, K2 _ _ hol, rfl, nn, rfl⟩ rfl fun H3 hit3 hs3 => ?_))
  have hS3 := hs3.extBut _ _ (Ne.symm hIS) hS2
  have K3 : ∀ c o, s.heap.get? c = some o → H3.get? c = some o := fun c o e => hs3.extBut c o (nI e) (K2 c o e)
  show wpAny _ A.in1 (updateSeq (I + 1) (fun _ => #[Value.ref a, Value.ref a]) >>= _) _ _ _
  refine wpAny_bind (wpAny_updateSeq (s := { s with heap := H3 }) hS3 rfl ?_)
  generalize hH4 : H3.update (I + 1) (Obj.mapSeq fun _ => #[Value.ref a, Value.ref a]) = H4
  have hS4 : H4.get? (I + 1) = some { cls := .type "list", dict := none, data := .seq #[Value.ref a, Value.ref a] 1, slots := #[] } := by rw [← hH4]; exact Heap.get?_update_self _ hS3 rfl
  have u4 : ∀ c o, c ≠ I + 1 → H3.get? c = some o → H4.get? c = some o := fun c o hc e => by rw [← hH4]; exact (Heap.get?_update_other _ _ (Ne.symm hc)).trans e
  have K4 : ∀ c o, s.heap.get? c = some o → H4.get? c = some o := fun c o e => u4 c o (nS e) (K3 c o e)
  have hit4 : H4.IsListIter I l 1 := let ⟨o, ho, r⟩ := hit3; ⟨o, u4 _ _ hIS ho, r⟩
  clear hH4 hit3 K3 hS3 hs3 u4 hit2 hS2 K2
  rw [hname]
  refine wpAny_pure ⟨plainId_quiet PySem.F.plain_min_loop _, ?_⟩
  -- the second
  refine codeAny_builtin PySem.F.entry_min_loop ?_
  rw [Around.under_plainId PySem.F.plain_min_loop _]
  show wpAny _ A.in1 (seqItems? (.ref (I + 1)) >>= _) _ _ _
  refine wpAny_bind (wpAny_seqItems (s := { s with heap := H4 }) hS4 rfl ?_)
  show wpAny _ A.in1 (tryCatch (pyNext (.ref I)) _ >>= _) _ _ _
  refine wpAny_bind (wpAny_tryCatch (wpAny_pyNext_list_item (s := { s with heap := H4 }) (x := .ref b) hit4 ⟨_, K4 _ _ hol, rfl, nn, rfl⟩ rfl fun H5 hit5 hs5 => ?_))
  have hS5 := hs5.extBut _ _ (Ne.symm hIS) hS4
  have K5 : ∀ c o, s.heap.get? c = some o → H5.get? c = some o := fun c o e => hs5.extBut c o (nI e) (K4 c o e)
  show wpAny _ A.in1 (tryCatch (holding [Value.ref b, Value.ref b] (richCompare .Lt (.ref b) (.ref a) >>= _)) _ >>= _) _ _ _
  refine wpAny_bind (wpAny_tryCatch (wpAny_holding (wpAny_bind (min_cmp (s := { s with heap := H5 }) (K5 _ _ hob) (K5 _ _ hoa) hy hx (by show A.units + 1 < cLine; omega) ?_))))
  refine wpAny_bind (wpAny_holding (wpAny_truthy_bool ?_))
  refine wpAny_bind (wpAny_letGo (wpAny_pure ?_))
  rw [hf]
  have fin : ∀ H tk, H.get? (I + 1) = some { cls := .type "list", dict := none, data := .seq #[Value.ref a, Value.ref a] 1, slots := #[] } → (∀ c o, s.heap.get? c = some o → H.get? c = some o) → H.IsListIter I l 2 →
      codeAny (model prog w) A (.builtin "min.loop" ⟨[.ref I, .none, .ref (I + 1)], []⟩) (fun r s' => match r with
        | .ok (.ret v) => Q v s'
        | .ok _ => False
        | .error e => E e s') { s with heap := H, toks := tk } := by
    intro H tk hS K hit
    refine codeAny_builtin PySem.F.entry_min_loop ?_
    rw [Around.under_plainId PySem.F.plain_min_loop _]
    show wpAny _ A.in1 (seqItems? (.ref (I + 1)) >>= _) _ _ _
    refine wpAny_bind (wpAny_seqItems (s := { s with heap := H, toks := tk }) hS rfl ?_)
    show wpAny _ A.in1 (tryCatch (pyNext (.ref I)) _ >>= _) _ _ _
    refine wpAny_bind (wpAny_tryCatch (wpAny_pyNext_list_end (s := { s with heap := H, toks := tk }) hh hit ⟨_, K _ _ hol, rfl, nn, rfl⟩ rfl fun H6 he6 => ?_))
    have hS6 := he6 _ _ (Ne.symm hIS) hS
    show wpAny _ A.in1 (updateSeq (I + 1) (fun _ => #[]) >>= _) _ _ _
    refine wpAny_bind ?_
    refine wpAny_updateSeq (s := { s with heap := H6, toks := tk }) hS6 rfl (wpAny_bind (wpAny_letGo (wpAny_pure ?_)))
    have K7 : ∀ c o, s.heap.get? c = some o → (H6.update (I + 1) (Obj.mapSeq fun _ => (#[] : Array Value))).get? c = some o := fun c o e => (Heap.get?_update_other _ _ (Ne.symm (nS e))).trans (he6 c o (nI e) (K c o e))
    exact h _ _ (F.keptAll K7) (fun p hp => ⟨K7 _ _ (N p hp).1, (N p hp).2⟩)
  simp only [Bool.false_eq_true, if_false]
  refine wpAny_bind (wpAny_letGo ?_)
  rw [hname]
  exact wpAny_pure ⟨plainId_quiet PySem.F.plain_min_loop _, fin H5 _ hS5 K5 hit5⟩
theorem max2_led {prog : Program} {w : World} {A : Around} {E : Value → Shared → Prop} {s : Shared} {h₀ : Heap} {L : Addr} {m : Str → Option Value} {news : Led} {l a b : Addr} {vs vs2 : List Value} {nn n n2 : Nat} {xs ys : List Str} {Q : Value → Shared → Prop} (hh : A.handled = none) (F : Fr h₀ L s.heap m) (N : News h₀ L s.heap news)
    (hm : (l, listOf [Value.ref a, Value.ref b].toArray nn) ∈ news) (ha : (a, listOf vs.toArray n) ∈ news) (hb : (b, listOf vs2.toArray n2) ∈ news) (hx : StrVs vs xs) (hy : StrVs vs2 ys) (hu : A.units + 10 < cLine)
    (hf : gtL ys xs = true) (h : ∀ h' tk', Fr h₀ L h' m → News h₀ L h' news → Q (.ref b) { s with heap := h', toks := tk' }) :
    wpAny (model prog w) A (call (.builtin "max") [.ref l]) Q E s := by
  have hname : (toString "max" ++ toString ".loop" : String) = "max.loop" := by decide
  have hol := (N _ hm).1
  have hoa := (N _ ha).1
  have hob := (N _ hb).1
  have hls : s.heap.IsList l #[Value.ref a, Value.ref b] := ⟨_, hol, rfl, nn, rfl⟩
  refine call_function_tree PySem.F.kind_max PySem.F.plain_max PySem.F.entry_max (PySem.F.args_max1 _) ?_
  show wpAny _ A.in1 (Builtin.Builtins.bindParams "max" ["key", "default"] 0 ⟨[], []⟩ >>= _) _ _ s
  refine wpAny_bind (wpAny_of_eq (show Builtin.Builtins.bindParams "max" ["key", "default"] 0 ⟨[], []⟩ = pure [none, none] from rfl) ?_)
  refine wpAny_bind (wpAny_pure ?_)
  refine wpAny_bind (wpAny_pyIter_list hls ?_)
  refine wpAny_bind (wpAny_newObj_type ?_)
  rw [hname]
  dsimp only
  have lt : ∀ {c o}, s.heap.get? c = some o → c < s.heap.objs.size := fun e => Heap.lt_size e
  generalize hI : s.heap.objs.size = I at lt ⊢
  generalize hH1 : s.heap.push { cls := .type "list_iterator", data := .fields #[.ref l, .int 0 0] } = H1
  have hz1 : H1.objs.size = I + 1 := by rw [← hH1, Heap.size_push, hI]
  have hit1 : H1.IsListIter I l 0 := by rw [← hH1, ← hI]; exact ⟨_, Heap.get?_push_size _ rfl, rfl, rfl⟩
  have k1 : ∀ c o, s.heap.get? c = some o → H1.get? c = some o := fun c o e => by rw [← hH1]; exact Heap.get?_push_of_some _ e
  clear hH1
  rw [hz1]
  generalize hH2 : H1.push { cls := .type "list", dict := none, data := .seq ([] : List Value).toArray } = H2
  have hS2 : H2.get? (I + 1) = some { cls := .type "list", dict := none, data := .seq #[] 0, slots := #[] } := by rw [← hH2, ← hz1]; exact Heap.get?_push_size _ rfl
  have k2 : ∀ c o, H1.get? c = some o → H2.get? c = some o := fun c o e => by rw [← hH2]; exact Heap.get?_push_of_some _ e
  have hit2 : H2.IsListIter I l 0 := let ⟨o, ho, r⟩ := hit1; ⟨o, k2 _ _ ho, r⟩
  have K2 : ∀ c o, s.heap.get? c = some o → H2.get? c = some o := fun c o e => k2 c o (k1 c o e)
  clear hH2 hit1 k1 k2 hz1
  have nI : ∀ {c o}, s.heap.get? c = some o → c ≠ I := fun e => Nat.ne_of_lt (lt e)
  have nS : ∀ {c o}, s.heap.get? c = some o → c ≠ I + 1 := fun e => Nat.ne_of_lt (Nat.lt_succ_of_lt (lt e))
  have hIS : I ≠ I + 1 := Nat.ne_of_lt (Nat.lt_succ_self _)
  refine wpAny_pure ⟨plainId_quiet PySem.F.plain_max_loop _, ?_⟩
  -- the first
  refine codeAny_builtin PySem.F.entry_max_loop ?_
  rw [Around.under_plainId PySem.F.plain_max_loop _]
  show wpAny _ A.in1 (seqItems? (.ref (I + 1)) >>= _) _ _ _
  refine wpAny_bind (wpAny_seqItems (s := { s with heap := H2 }) hS2 rfl ?_)
  show wpAny _ A.in1 (tryCatch (pyNext (.ref I)) _ >>= _) _ _ _
  refine wpAny_bind (wpAny_tryCatch (wpAny_pyNext_list_item (s := { s with heap := H2 }) (x := .ref a) hit2 ⟨_, K2 _ _ hol, rfl, nn, rfl⟩ rfl fun H3 hit3 hs3 => ?_))
  have hS3 := hs3.extBut _ _ (Ne.symm hIS) hS2
  have K3 : ∀ c o, s.heap.get? c = some o → H3.get? c = some o := fun c o e => hs3.extBut c o (nI e) (K2 c o e)
  show wpAny _ A.in1 (updateSeq (I + 1) (fun _ => #[Value.ref a, Value.ref a]) >>= _) _ _ _
  refine wpAny_bind (wpAny_updateSeq (s := { s with heap := H3 }) hS3 rfl ?_)
  generalize hH4 : H3.update (I + 1) (Obj.mapSeq fun _ => #[Value.ref a, Value.ref a]) = H4
  have hS4 : H4.get? (I + 1) = some { cls := .type "list", dict := none, data := .seq #[Value.ref a, Value.ref a] 1, slots := #[] } := by rw [← hH4]; exact Heap.get?_update_self _ hS3 rfl
  have u4 : ∀ c o, c ≠ I + 1 → H3.get? c = some o → H4.get? c = some o := fun c o hc e => by rw [← hH4]; exact (Heap.get?_update_other _ _ (Ne.symm hc)).trans e
  have K4 : ∀ c o, s.heap.get? c = some o → H4.get? c = some o := fun c o e => u4 c o (nS e) (K3 c o e)
  have hit4 : H4.IsListIter I l 1 := let ⟨o, ho, r⟩ := hit3; ⟨o, u4 _ _ hIS ho, r⟩
  clear hH4 hit3 K3 hS3 hs3 u4 hit2 hS2 K2
  rw [hname]
  refine wpAny_pure ⟨plainId_quiet PySem.F.plain_max_loop _, ?_⟩
  -- the second
  refine codeAny_builtin PySem.F.entry_max_loop ?_
  rw [Around.under_plainId PySem.F.plain_max_loop _]
  show wpAny _ A.in1 (seqItems? (.ref (I + 1)) >>= _) _ _ _
  refine wpAny_bind (wpAny_seqItems (s := { s with heap := H4 }) hS4 rfl ?_)
  show wpAny _ A.in1 (tryCatch (pyNext (.ref I)) _ >>= _) _ _ _
  refine wpAny_bind (wpAny_tryCatch (wpAny_pyNext_list_item (s := { s with heap := H4 }) (x := .ref b) hit4 ⟨_, K4 _ _ hol, rfl, nn, rfl⟩ rfl fun H5 hit5 hs5 => ?_))
  have hS5 := hs5.extBut _ _ (Ne.symm hIS) hS4
  have K5 : ∀ c o, s.heap.get? c = some o → H5.get? c = some o := fun c o e => hs5.extBut c o (nI e) (K4 c o e)
  show wpAny _ A.in1 (tryCatch (holding [Value.ref b, Value.ref b] (richCompare .Gt (.ref b) (.ref a) >>= _)) _ >>= _) _ _ _
  refine wpAny_bind (wpAny_tryCatch (wpAny_holding (wpAny_bind (max_cmp (s := { s with heap := H5 }) (K5 _ _ hob) (K5 _ _ hoa) hy hx (by show A.units + 1 < cLine; omega) ?_))))
  refine wpAny_bind (wpAny_holding (wpAny_truthy_bool ?_))
  refine wpAny_bind (wpAny_letGo (wpAny_pure ?_))
  rw [hf]
  have fin : ∀ H tk, H.get? (I + 1) = some { cls := .type "list", dict := none, data := .seq #[Value.ref b, Value.ref b] 1, slots := #[] } → (∀ c o, s.heap.get? c = some o → H.get? c = some o) → H.IsListIter I l 2 →
      codeAny (model prog w) A (.builtin "max.loop" ⟨[.ref I, .none, .ref (I + 1)], []⟩) (fun r s' => match r with
        | .ok (.ret v) => Q v s'
        | .ok _ => False
        | .error e => E e s') { s with heap := H, toks := tk } := by
    intro H tk hS K hit
    refine codeAny_builtin PySem.F.entry_max_loop ?_
    rw [Around.under_plainId PySem.F.plain_max_loop _]
    show wpAny _ A.in1 (seqItems? (.ref (I + 1)) >>= _) _ _ _
    refine wpAny_bind (wpAny_seqItems (s := { s with heap := H, toks := tk }) hS rfl ?_)
    show wpAny _ A.in1 (tryCatch (pyNext (.ref I)) _ >>= _) _ _ _
    refine wpAny_bind (wpAny_tryCatch (wpAny_pyNext_list_end (s := { s with heap := H, toks := tk }) hh hit ⟨_, K _ _ hol, rfl, nn, rfl⟩ rfl fun H6 he6 => ?_))
    have hS6 := he6 _ _ (Ne.symm hIS) hS
    show wpAny _ A.in1 (updateSeq (I + 1) (fun _ => #[]) >>= _) _ _ _
    refine wpAny_bind ?_
    refine wpAny_updateSeq (s := { s with heap := H6, toks := tk }) hS6 rfl (wpAny_bind (wpAny_letGo (wpAny_pure ?_)))
    have K7 : ∀ c o, s.heap.get? c = some o → (H6.update (I + 1) (Obj.mapSeq fun _ => (#[] : Array Value))).get? c = some o := fun c o e => (Heap.get?_update_other _ _ (Ne.symm (nS e))).trans (he6 c o (nI e) (K c o e))
    exact h _ _ (F.keptAll K7) (fun p hp => ⟨K7 _ _ (N p hp).1, (N p hp).2⟩)
  simp only [if_true]
  refine wpAny_bind ?_
  refine wpAny_updateSeq (s := { s with heap := H5 }) hS5 rfl (wpAny_bind (wpAny_letGo ?_))
  rw [hname]
  have u6 : ∀ c o, c ≠ I + 1 → H5.get? c = some o → (H5.update (I + 1) (Obj.mapSeq fun _ => #[Value.ref b, Value.ref b])).get? c = some o := fun c o hc e => (Heap.get?_update_other _ _ (Ne.symm hc)).trans e
  have e6 : (H5.update (I + 1) (Obj.mapSeq fun _ => #[Value.ref b, Value.ref b])).get? (I + 1) = some { cls := .type "list", dict := none, data := .seq #[Value.ref b, Value.ref b] 1, slots := #[] } := Heap.get?_update_self (Obj.mapSeq fun _ => #[Value.ref b, Value.ref b]) hS5 rfl
  exact wpAny_pure ⟨plainId_quiet PySem.F.plain_max_loop _, fin _ _ e6 (fun c o e => u6 c o (nS e) (K5 c o e)) (let ⟨o, ho, r⟩ := hit5; ⟨o, u6 _ _ hIS ho, r⟩)⟩
end
section
set_option maxRecDepth 100000
set_option maxHeartbeats 1000000
theorem fr_keepBut {h₀ h h' : Heap} {L d : Addr} {m : Str → Option Value} (F : Fr h₀ L h m) (hk : ∀ b o, b ≠ d → h.get? b = some o → h'.get? b = some o) (hL : d ≠ L) (hn : h₀.get? d = none) : Fr h₀ L h' m := by
  obtain ⟨oL, a1, a2, hoL, a3⟩ := F.ns
  refine ⟨⟨oL, a1, a2, hk L _ hL.symm hoL, a3⟩, fun b x e => hk b x ?_ (F.keep b x e), F.above⟩
  rintro rfl
  rw [hn] at e; cases e
theorem news_keepBut {h₀ h h' : Heap} {L d : Addr} {news : Led} (N : News h₀ L h news) (hk : ∀ b o, b ≠ d → h.get? b = some o → h'.get? b = some o) (hd : ∀ p ∈ news, p.1 ≠ d) : News h₀ L h' news :=
  fun p hp => ⟨hk _ _ (hd p hp) (N p hp).1, (N p hp).2⟩
theorem news_push {h₀ h : Heap} {L : Addr} {m : Str → Option Value} {news : Led} (F : Fr h₀ L h m) (N : News h₀ L h news) (o : Obj) (ho : o.isFreed = false := by rfl) (hnd : ∀ es n, o.data ≠ .dict es n := by intro _ _ e; cases e) : News h₀ L (h.push o) ((h.objs.size, o) :: news) := by
  refine News.more (F.keptAll fun b o e => Heap.get?_push_of_some _ e) (fun p hp => ⟨Heap.get?_push_of_some _ (N p hp).1, (N p hp).2⟩) (Heap.get?_push_size _ ho) hnd ?_
  cases hq : h₀.get? h.objs.size with
  | none => rfl
  | some x => exact absurd (Heap.lt_size (F.keep _ _ hq)) (Nat.lt_irrefl _)
section
variable {w : World} {A : Around} {E : Value → Shared → Prop} {s : Shared} {h₀ : Heap} {L : Addr} {m : Str → Option Value} {news : Led}
theorem map_led {prog : Program} {l : Addr} {f : Value} {vs : List Value} {nn : Nat} {Q : Value → Shared → Prop} (F : Fr h₀ L s.heap m := by k_asm) (N : News h₀ L s.heap news := by k_asm) (hm : (l, listOf vs.toArray nn) ∈ news := by tb_src)
    (h : ∀ it tt mm h', (∀ p ∈ news, p.1 < it) → it < tt → tt < mm → Fr h₀ L h' m →
      News h₀ L h' ((mm, ({ cls := .type "map", data := .fields #[.ref tt, f] } : Obj)) :: (tt, { cls := .type "tuple", data := .seq #[.ref it] }) :: (it, { cls := .type "list_iterator", data := .fields #[.ref l, .int 0 0] }) :: news) → Q (.ref mm) { s with heap := h' }) :
    wpAny (model prog w) A (call (.type "map") [f, .ref l]) Q E s := by
  have hl : s.heap.IsList l vs.toArray := ⟨_, (N _ hm).1, rfl, nn, rfl⟩
  refine call_map hl ?_
  have F1 : Fr h₀ L (s.heap.push { cls := .type "list_iterator", data := .fields #[.ref l, .int 0 0] }) m := F.keptAll fun b o e => Heap.get?_push_of_some _ e
  have N1 : News h₀ L _ ((s.heap.objs.size, ({ cls := .type "list_iterator", data := .fields #[.ref l, .int 0 0] } : Obj)) :: news) := news_push F N { cls := .type "list_iterator", data := .fields #[.ref l, .int 0 0] }
  have N2 := news_push F1 N1 { cls := .type "tuple", data := .seq #[.ref s.heap.objs.size] }
  have F2 : Fr h₀ L ((s.heap.push { cls := .type "list_iterator", data := .fields #[.ref l, .int 0 0] }).push { cls := .type "tuple", data := .seq #[.ref s.heap.objs.size] }) m := F1.keptAll fun b o e => Heap.get?_push_of_some _ e
  have N3 := news_push F2 N2 { cls := .type "map", data := .fields #[.ref (s.heap.objs.size + 1), f] }
  have F3 : Fr h₀ L (((s.heap.push { cls := .type "list_iterator", data := .fields #[.ref l, .int 0 0] }).push { cls := .type "tuple", data := .seq #[.ref s.heap.objs.size] }).push { cls := .type "map", data := .fields #[.ref (s.heap.objs.size + 1), f] }) m := F2.keptAll fun b o e => Heap.get?_push_of_some _ e
  simp only [Heap.size_push] at N3
  exact h s.heap.objs.size (s.heap.objs.size + 1) (s.heap.objs.size + 2) _ (fun p hp => Heap.lt_size (N p hp).1) (Nat.lt_succ_self _) (Nat.lt_succ_self _) F3 N3
theorem tuple_map_led {mean : ExcName → Option Value} {mg mb : Str → Option Value} {env : Env} {outer : List Env} {A₀ : Around} {base : Heap} {l mm tt it : Addr} {x y : Str} {t u : Tok} {nn : Nat} {Q : Value → Shared → Prop}
    (hh : A.handled = none := by z_run) (hA : A.frames = some (env :: outer) := by z_run) (hf : env.frame = some L := by z_run) (hk : env.scope.kind = .function := by z_run) (hdp : A.depth + 1 < recursionLimit := by z_go) (hu : A.units + 20 < cLine := by z_go)
    (B : Below A₀ base outer h₀ := by k_asm) (F : Fr h₀ L s.heap m := by k_asm) (X : (hd.heap_39 w.params).In h₀ := by k_asm)
    (N : News h₀ L s.heap ((mm, ({ cls := .type "map", data := .fields #[.ref tt, .ref 111] } : Obj)) :: (tt, { cls := .type "tuple", data := .seq #[.ref it] }) :: (it, { cls := .type "list_iterator", data := .fields #[.ref l, .int 0 0] }) :: news) := by k_asm)
    (T : Top topProg theLoose mean mg mb h₀ := by k_asm) (l1 : ∀ p ∈ news, p.1 < it := by assumption) (l2 : it < tt := by assumption) (l3 : tt < mm := by assumption) (hm : (l, listOf [Value.str x t, Value.str y u].toArray nn) ∈ news := by tb_src)
    (h : ∀ D t' u' h' tk', (∀ p ∈ news, p.1 < D) → Fr h₀ L h' m → News h₀ L h' ((D, ({ cls := .type "tuple", data := .seq #[.str x t', .str y u'] } : Obj)) :: news) → Q (.ref D) { s with heap := h', toks := tk' }) :
    wpAny (model Challenge.rw_pd0179_01.prog w) A (call (.type "tuple") [.ref mm]) Q E s := by
  have hlt : l < it := l1 _ hm
  have Nn : News h₀ L s.heap news := fun p hp => N p (.tail _ (.tail _ (.tail _ hp)))
  have hl : s.heap.IsList l [Value.str x t, Value.str y u].toArray := ⟨_, (Nn _ hm).1, rfl, nn, rfl⟩
  have n1 := N _ (.head _)
  have n2 := N _ (.tail _ (.head _))
  have n3 := N _ (.tail _ (.tail _ (.head _)))
  have hmap : MapAt s.heap mm tt it (.ref 111) := ⟨n1.1, n2.1⟩
  have hit : s.heap.IsListIter it l 0 := ⟨_, n3.1, rfl, rfl⟩
  have hnews : ∀ p ∈ news, p.1 ≠ it := fun p hp => Nat.ne_of_lt (l1 p hp)
  let P : Nat → Value → Prop := fun i v => (i = 0 → ∃ t', v = .str x t') ∧ (i = 1 → ∃ u', v = .str y u')
  refine callType_codes (Q₁ := fun obj s₁ => ∃ D t' u' h' tk', obj = .ref D ∧ s₁ = { s with heap := h', toks := tk' } ∧ (∀ p ∈ news, p.1 < D) ∧ Fr h₀ L h' m ∧ News h₀ L h' ((D, ({ cls := .type "tuple", data := .seq #[.str x t', .str y u'] } : Obj)) :: news))
    PySem.F.called_tuple (PySem.F.typeCall_tuple_1 _) PySem.F.entry_object_init ?_ ?_
  · refine codeAny_call_builtin PySem.F.called_tuple.plain PySem.F.entry_tuple_new (wpAny_of_eq (PySem.F.newCall_tuple_1 _) ?_)
    refine code_tuple_map (A := A.in1) (P := P) (items := [Value.str x t, Value.str y u].toArray) hh (Nat.ne_of_gt (Nat.lt_trans l2 l3)) (Nat.ne_of_gt l2) (Nat.ne_of_lt hlt) (by show (2 : Nat) ≤ sizeLine; decide) hmap hit hl ?_ ?_
    · intro i v h tk Q' E' hx hk' hq
      have F' := fr_keepBut F hk' n3.2.1 n3.2.2
      have N' := news_keepBut Nn hk' hnews
      have hu' : A.in1.in1.in1.in1.units + 8 * 1 < cLine := by show A.units + 1 + 1 + 1 + 1 + 8 * 1 < cLine; omega
      match i, hx with
      | 0, hx =>
        cases hx
        refine DT.use (fsp_DT w mean mg mb x) hh hA hf hk hdp hu' B F' X N' T (.cons (.str x t) .nil) trivial fun r tl h'' tk'' _ _ _ hs ho => ?_
        cases ho
        exact hq _ _ _ ⟨fun _ => ⟨_, rfl⟩, (fun e => absurd e (by decide))⟩ (hs trivial)
      | 1, hx =>
        cases hx
        refine DT.use (fsp_DT w mean mg mb y) hh hA hf hk hdp hu' B F' X N' T (.cons (.str y u) .nil) trivial fun r tl h'' tk'' _ _ _ hs ho => ?_
        cases ho
        exact hq _ _ _ ⟨(fun e => absurd e (by decide)), fun _ => ⟨_, rfl⟩⟩ (hs trivial)
      | n + 2, hx => simp at hx
    · intro h' tk' acc hk' hacc
      have F' := fr_keepBut F hk' n3.2.1 n3.2.2
      have N' := news_keepBut Nn hk' hnews
      obtain ⟨hs, hv⟩ := hacc
      have hs : acc.size = 2 := hs
      obtain ⟨⟨t', e0⟩, _⟩ : (∃ t', acc[0]? = some (.str x t')) ∧ True := by
        have e : acc[0]? = some acc[0] := Array.getElem?_eq_getElem (by omega)
        obtain ⟨t', e'⟩ := (hv 0 _ e).1 rfl
        exact ⟨⟨t', e.trans (congrArg some e')⟩, trivial⟩
      obtain ⟨⟨u', e1⟩, _⟩ : (∃ u', acc[1]? = some (.str y u')) ∧ True := by
        have e : acc[1]? = some acc[1] := Array.getElem?_eq_getElem (by omega)
        obtain ⟨t', e'⟩ := (hv 1 _ e).2 rfl
        exact ⟨⟨t', e.trans (congrArg some e')⟩, trivial⟩
      have ea : acc = #[.str x t', .str y u'] := by
        apply Array.ext
        · rw [hs]; rfl
        · intro i h1 h2
          match i, h1 with
          | 0, h1 => have := e0; rw [Array.getElem?_eq_getElem h1] at this; exact Option.some.inj this
          | 1, h1 => have := e1; rw [Array.getElem?_eq_getElem h1] at this; exact Option.some.inj this
          | n + 2, h1 => omega
      subst ea
      exact ⟨h'.objs.size, t', u', _, tk', rfl, rfl, fun p hp => Heap.lt_size (N' p hp).1, F'.keptAll fun b o e => Heap.get?_push_of_some _ e, news_push F' N' _⟩
  · rintro obj s₁ ⟨D, t', u', h', tk', rfl, rfl, h1, h2, h3⟩
    have hT : (⟨h', s.gens, s.drawn, tk', s.os⟩ : Shared).TypeIs (.ref D) "tuple" := ⟨_, (h3 _ (.head _)).1, rfl⟩
    exact ⟨hT, PySem.F.args_object_init_2 _ _, object_init_meets PySem.F.called_tuple.init.lookup PySem.F.called_tuple.made (by decide) _ w A.in1 _ _ ⟨hT, rfl, h D t' u' h' tk' h1 h2 h3⟩⟩
end
end
section
set_option maxRecDepth 100000
set_option maxHeartbeats 8000000
open PySem.Builtin.Re
/-! a pattern's search and fullmatch: the machine's run, as a plain term -/
theorem runFor_done {m : Sre.M} (h : m.outcome.isSome = true) : ∀ n, m.runFor n = m
  | 0 => rfl
  | n + 1 => by simp only [Sre.M.runFor, h, if_true]
theorem runFor_succ (n : Nat) (m : Sre.M) : m.runFor (n + 1) = if m.outcome.isSome then m else Sre.M.runFor n m.step := rfl
theorem runFor_add : ∀ (a b : Nat) (m : Sre.M), m.runFor (a + b) = (m.runFor a).runFor b
  | 0, b, m => by rw [Nat.zero_add]; rfl
  | a + 1, b, m => by
    rw [Nat.succ_add a b, runFor_succ, runFor_succ]
    split
    · rename_i h; rw [runFor_done h]
    · exact runFor_add a b _
section
variable {M : Model} {A : Around} {E : Value → Shared → Prop} {s : Shared}
theorem reDrive_run : ∀ (n k : Nat) (m : Sre.M) {Q : Sre.M → Shared → Prop}, k < n → (m.runFor (4 * k)).outcome.isSome = true → Q (m.runFor (4 * k)) s → wpAny M A (reDrive n m) Q E s
  | 0, k, m, Q, hk, _, _ => absurd hk (Nat.not_lt_zero _)
  | n + 1, 0, m, Q, _, ho, hq => by
    have ho' : m.outcome.isSome = true := ho
    unfold reDrive
    show wpAny M A (if (m.runFor reTurnSteps).outcome.isSome = true then pure (m.runFor reTurnSteps) else _) Q E s
    rw [runFor_done ho', if_pos ho']
    exact wpAny_pure hq
  | n + 1, k + 1, m, Q, hk, ho, hq => by
    have e : m.runFor (4 * (k + 1)) = (m.runFor 4).runFor (4 * k) := by rw [← runFor_add]; congr 1; omega
    rw [e] at ho hq
    unfold reDrive
    show wpAny M A (if (m.runFor 4).outcome.isSome = true then pure (m.runFor 4) else _) Q E s
    split
    · rename_i h
      rw [runFor_done h] at hq
      exact wpAny_pure hq
    · exact wpAny_bind (wpAny_rule (reDrive_run n k _ (by omega) ho hq))
theorem forIn_quiet {F : Nat → PUnit → Sem (ForInStep PUnit)} (hF : ∀ i u (Q : ForInStep PUnit → Shared → Prop), Q (.yield ⟨⟩) s → wpAny M A (F i u) Q E s) :
    ∀ (l : List Nat) {Q : PUnit → Shared → Prop}, Q ⟨⟩ s → wpAny M A (forIn l PUnit.unit F) Q E s
  | [], Q, h => wpAny_pure h
  | i :: l, Q, h => by
    rw [List.forIn_cons]
    exact wpAny_bind (hF i _ _ (forIn_quiet hF l h))
theorem reRun_some {m : Sre.M} {Q : Option Sre.M → Shared → Prop} (k : Nat) (hk : k < 2 ^ 64) (ho : (m.runFor (4 * k)).outcome = some .matched) (hq : Q (some (m.runFor (4 * k))) s) : wpAny M A (reRunToEnd m) Q E s := by
  unfold reRunToEnd
  refine wpAny_bind (reDrive_run _ k m hk (by rw [ho]; rfl) ?_)
  refine wpAny_bind (forIn_quiet (fun i u Q h => ?_) _ ?_)
  · split
    · exact wpAny_bind (wpAny_rule (wpAny_pure h))
    · exact wpAny_pure h
  · rw [ho]
    exact wpAny_pure hq
theorem reRun_none {m : Sre.M} {Q : Option Sre.M → Shared → Prop} (k : Nat) (hk : k < 2 ^ 64) (ho : (m.runFor (4 * k)).outcome = some .failed) (hq : Q none s) : wpAny M A (reRunToEnd m) Q E s := by
  unfold reRunToEnd
  refine wpAny_bind (reDrive_run _ k m hk (by rw [ho]; rfl) ?_)
  refine wpAny_bind (forIn_quiet (fun i u Q h => ?_) _ ?_)
  · split
    · exact wpAny_bind (wpAny_rule (wpAny_pure h))
    · exact wpAny_pure h
  · rw [ho]
    exact wpAny_pure hq
end
/-- the objects of a pattern and its code -/
noncomputable abbrev patObj (src : Value) (fl : Value) (gr : Int) (ca : Addr) (t : Tok) : Obj := { cls := .type "re.Pattern", data := .fields #[src, fl, .int gr t, .none, .none, .ref ca, .int 0 0] }
noncomputable abbrev tupObj (vs : List Value) (n : Nat := 0) : Obj := { cls := .type "tuple", data := .seq vs.toArray n }
theorem plainAttrs_pat : PlainAttrs "re.Pattern" :=
  ⟨⟨"object.__getattribute__", by rw [typeLookup_type, builtinLookup_eq_fast]; kernel_rfl, by decide +kernel⟩, by rw [typeLookup_type, builtinLookup_eq_fast]; kernel_rfl⟩
theorem slot_search : Slot "re.Pattern" "search" "re.Pattern.search" :=
  .of (owner := "re.Pattern") (n := "search") (by rw [typeLookup_type, builtinLookup_eq_fast]; kernel_rfl) (by decide +kernel) (by decide +kernel) (by decide +kernel)
    (by first | exact .inl (by decide +kernel) | exact .inr (by decide +kernel)) (by rw [isSubtype_type]; kernel_rfl)
theorem slot_fullm : Slot "re.Pattern" "fullmatch" "re.Pattern.fullmatch" :=
  .of (owner := "re.Pattern") (n := "fullmatch") (by rw [typeLookup_type, builtinLookup_eq_fast]; kernel_rfl) (by decide +kernel) (by decide +kernel) (by decide +kernel)
    (by first | exact .inl (by decide +kernel) | exact .inr (by decide +kernel)) (by rw [isSubtype_type]; kernel_rfl)
theorem entry_search : entryFor table "re.Pattern.search" = some Builtin.«re.Pattern.search» := entryFor_of_tree (by kernel_rfl)
theorem entry_fullm : entryFor table "re.Pattern.fullmatch" = some Builtin.«re.Pattern.fullmatch» := entryFor_of_tree (by kernel_rfl)
theorem args_search (a b : Value) : argsOk "re.Pattern.search" ⟨[a, b], []⟩ := by unfold argsOk; kernel_rfl
theorem args_fullm (a b : Value) : argsOk "re.Pattern.fullmatch" ⟨[a, b], []⟩ := by unfold argsOk; kernel_rfl
theorem type_search : typeOf (.builtin "re.Pattern.search") = pure (.type "method_descriptor") := by kernel_rfl
theorem type_fullm : typeOf (.builtin "re.Pattern.fullmatch") = pure (.type "method_descriptor") := by kernel_rfl
theorem getMethod_pat {M : Model} {A : Around} {E : Value → Shared → Prop} {s : Shared} {P : Addr} {o : Obj} {name : Str} {id : String} {pl : Sem Bool} {Q : Value × List Value → Shared → Prop} (slot : Slot "re.Pattern" name id) (hty : typeOf (.builtin id) = pure (.type "method_descriptor"))
    (ho : s.heap.get? P = some o) (hc : o.cls = .type "re.Pattern") (hd : o.dict = none) (h : Q (.builtin id, [.ref P]) s) : wpAny M A (getMethod (.ref P) name pl) Q E s :=
  getMethod_builtin ⟨o, ho, hc⟩ plainAttrs_pat slot hty (fun a e => by cases e; exact ⟨o, ho, hd⟩) h
noncomputable def codeOf (cs : List Value) : Array Nat := (cs.toArray.map reRawOf).map (·.toNat)
theorem reNamed_1 (id f : String) (x : Value) : reNamed id f ["string", "pos", "endpos"] 1 [x] [] = pure [some x, none, none] := rfl
section
variable {prog : Program} {w : World} {A : Around} {E : Value → Shared → Prop} {s : Shared} {P ca : Addr} {src fl : Value} {gr : Nat} {cs : List Value} {n : Nat} {t u : Tok} {x : Str}
theorem reTarget_str {id f : String} {Q : ReTarget → Shared → Prop} (ho : s.heap.get? P = some (patObj src fl gr ca t)) (hc : s.heap.get? ca = some (tupObj cs n))
    (hq : Q { pattern := .ref P, string := .str x u, code := codeOf cs, text := x.cps, kind := 0, groups := gr, pos := 0, lim := x.cps.size } s) (hx : x.cps.size < 2 ^ 63) :
    wpAny (model prog w) A (reTarget id f ⟨[.ref P, .str x u], []⟩) Q E s := by
  unfold reTarget
  dsimp only
  rw [reNamed_1]
  obtain ⟨h, g, d, tt, os⟩ := s
  repeat (any_goals (first | assumption | wp_step))
  have e1 : min (Int.toNat 0) x.cps.size = 0 := Nat.zero_min _
  have e3 : ((2 : Int) ^ 63 - 1).toNat = 2 ^ 63 - 1 := by decide +kernel
  have e2 : min ((2 : Int) ^ 63 - 1).toNat x.cps.size = x.cps.size := Nat.min_eq_right (by omega)
  dsimp only
  rw [e1, e2]
  exact hq
/-- what a match keeps of the machine -/
noncomputable def spansOf (gr : Nat) (m : Sre.M) : List Value := (List.range gr).flatMap fun g =>
    match if ((2 * g + 1 : Nat) : Int) ≤ m.lastmark then (m.marks.getD (2 * g) none, m.marks.getD (2 * g + 1) none) else (none, none) with
    | (some b, some e) => [rawInt b, rawInt e]
    | _ => [rawInt (-1), rawInt (-1)]
noncomputable def spansOk (gr : Nat) (m : Sre.M) : Bool := !(List.range gr).any (fun g => match m.marks.getD (2 * g) none, m.marks.getD (2 * g + 1) none with | some b, some e => ((2 * g + 1 : Nat) : Int) ≤ m.lastmark && e < b | _, _ => false)
noncomputable abbrev spObj (gr : Nat) (m : Sre.M) : Obj := { cls := .type "tuple", data := .seq (rawInt m.start :: rawInt m.handed :: spansOf gr m).toArray }
noncomputable abbrev matObj (string pattern : Value) (pos lim : Nat) (last : Int) (sp : Addr) : Obj := { cls := .type "re.Match", data := .fields #[string, pattern, rawInt pos, rawInt lim, rawInt last, .ref sp] }
theorem reNewMatch_N {h₀ : Heap} {L : Addr} {m₀ : Str → Option Value} {news : Led} {pat str : Value} {pos lim : Nat} {m : Sre.M} {Q : Value → Shared → Prop} (F : Fr h₀ L s.heap m₀) (N : News h₀ L s.heap news) (ok : spansOk gr m = true) (hg : gr ≤ 1)
    (hq : ∀ a b h', (∀ p ∈ news, p.1 < a) → a < b → Fr h₀ L h' m₀ → News h₀ L h' ((b, matObj str pat pos lim m.lastindex a) :: (a, spObj gr m) :: news) → Q (.ref b) { s with heap := h' }) :
    wpAny (model prog w) A (reNewMatch pat str gr pos lim m) Q E s := by
  unfold reNewMatch
  unfold spansOk at ok
  have ok' := Bool.not_eq_true' _ |>.mp ok
  dsimp only
  split
  · rename_i hc; exact absurd (ok'.symm.trans hc) Bool.false_ne_true
  have hsp : (spansOf gr m).length ≤ 2 := by
    unfold spansOf
    rcases Nat.lt_or_ge gr 1 with h | h
    · have : gr = 0 := by omega
      subst this; simp
    · have : gr = 1 := by omega
      subst this
      simp only [List.range_one, List.flatMap_cons, List.flatMap_nil, List.append_nil]
      split <;> simp
  refine wpAny_bind (newTuple_N F N (fun h₁ F₁ N₁ => ?_) (by show (rawInt _ :: rawInt _ :: spansOf gr m).length ≤ _; simp only [List.length_cons]; rw [sizeLine_eq]; omega))
  have l1 : ∀ p ∈ news, p.1 < s.heap.objs.size := fun p hp => Heap.lt_size (N p hp).1
  have l2 : s.heap.objs.size < h₁.objs.size := Heap.lt_size (N₁ _ (.head _)).1
  exact wpAny_newObj_type (hq _ _ _ l1 l2 (F₁.push _) (N₁.push F₁ _))
/-- the last machine state of a search -/
noncomputable def searchEnd (cs : List Value) (gr : Nat) (x : Str) (k : Nat) : Sre.M := Sre.M.runFor (4 * k) (Sre.forSearch (codeOf cs) x.cps gr 0 x.cps.size false)
noncomputable def fullEnd (cs : List Value) (gr : Nat) (x : Str) (k : Nat) : Sre.M := Sre.M.runFor (4 * k) (Sre.forMatch (codeOf cs) x.cps gr 0 x.cps.size true false)
theorem search_none {Q : Value → Shared → Prop} (ho : s.heap.get? P = some (patObj src fl gr ca t)) (hc : s.heap.get? ca = some (tupObj cs n)) (k : Nat) (hk : k < 2 ^ 64) (hx : x.cps.size < 2 ^ 63)
    (he : (searchEnd cs gr x k).outcome = some .failed) (hq : Q .none s) : wpAny (model prog w) A (call (.builtin "re.Pattern.search") [.ref P, .str x u]) Q E s := by
  refine wpAny_call (codeAny_call_builtin slot_search.plain entry_search (slot_search.check _ _ _ _ _ _ _ _ ⟨_, ho, rfl⟩ (args_search _ _) ?_))
  refine wpAny_bind (reTarget_str ho hc ?_ hx)
  refine wpAny_bind (reRun_none k hk he ?_)
  exact wpAny_pure hq
theorem search_some {Q : Value → Shared → Prop} {h₀ : Heap} {L : Addr} {m₀ : Str → Option Value} {news : Led} (F : Fr h₀ L s.heap m₀) (N : News h₀ L s.heap news) (ho : s.heap.get? P = some (patObj src fl gr ca t)) (hc : s.heap.get? ca = some (tupObj cs n)) (k : Nat) (hk : k < 2 ^ 64) (hx : x.cps.size < 2 ^ 63)
    (he : (searchEnd cs gr x k).outcome = some .matched) (ok : spansOk gr (searchEnd cs gr x k) = true) (hg : gr ≤ 1)
    (hq : ∀ a b h', (∀ p ∈ news, p.1 < a) → a < b → Fr h₀ L h' m₀ → News h₀ L h' ((b, matObj (.str x u) (.ref P) 0 x.cps.size (searchEnd cs gr x k).lastindex a) :: (a, spObj gr (searchEnd cs gr x k)) :: news) → Q (.ref b) { s with heap := h' }) :
    wpAny (model prog w) A (call (.builtin "re.Pattern.search") [.ref P, .str x u]) Q E s := by
  refine wpAny_call (codeAny_call_builtin slot_search.plain entry_search (slot_search.check _ _ _ _ _ _ _ _ ⟨_, ho, rfl⟩ (args_search _ _) ?_))
  refine wpAny_bind (reTarget_str ho hc ?_ hx)
  refine wpAny_bind (reRun_some k hk he ?_)
  exact wpAny_bind (reNewMatch_N F N ok hg fun a b h' l1 l2 F' N' => wpAny_pure (hq a b h' l1 l2 F' N'))
theorem full_some {Q : Value → Shared → Prop} {h₀ : Heap} {L : Addr} {m₀ : Str → Option Value} {news : Led} (F : Fr h₀ L s.heap m₀) (N : News h₀ L s.heap news) (ho : s.heap.get? P = some (patObj src fl gr ca t)) (hc : s.heap.get? ca = some (tupObj cs n)) (k : Nat) (hk : k < 2 ^ 64) (hx : x.cps.size < 2 ^ 63)
    (he : (fullEnd cs gr x k).outcome = some .matched) (ok : spansOk gr (fullEnd cs gr x k) = true) (hg : gr ≤ 1)
    (hq : ∀ a b h', (∀ p ∈ news, p.1 < a) → a < b → Fr h₀ L h' m₀ → News h₀ L h' ((b, matObj (.str x u) (.ref P) 0 x.cps.size (fullEnd cs gr x k).lastindex a) :: (a, spObj gr (fullEnd cs gr x k)) :: news) → Q (.ref b) { s with heap := h' }) :
    wpAny (model prog w) A (call (.builtin "re.Pattern.fullmatch") [.ref P, .str x u]) Q E s := by
  refine wpAny_call (codeAny_call_builtin slot_fullm.plain entry_fullm (slot_fullm.check _ _ _ _ _ _ _ _ ⟨_, ho, rfl⟩ (args_fullm _ _) ?_))
  refine wpAny_bind (reTarget_str ho hc ?_ hx)
  refine wpAny_bind (reRun_some k hk he ?_)
  exact wpAny_bind (reNewMatch_N F N ok hg fun a b h' l1 l2 F' N' => wpAny_pure (hq a b h' l1 l2 F' N'))
end
end
section
set_option maxRecDepth 100000
set_option maxHeartbeats 8000000
/-! the written part's patterns -/
section
variable {prog : Program} {w : World} {A : Around} {E : Value → Shared → Prop} {s : Shared} {K : Frag} {P ca : Addr} {src fl : Value} {gr : Nat} {cs : List Value} {n : Nat} {t u : Tok} {x : Str}
theorem getMethod_patK {o : Obj} {name : Str} {id : String} {pl : Sem Bool} {Q : Value × List Value → Shared → Prop} (slot : Slot "re.Pattern" name id) (hty : typeOf (.builtin id) = pure (.type "method_descriptor"))
    (X : K.In s.heap := by k_in) (e : K.lookup P = some o := by k_is) (hc : o.cls = .type "re.Pattern" := by rfl) (hd : o.dict = none := by rfl) (h : Q (.builtin id, [.ref P]) s) : wpAny (model prog w) A (getMethod (.ref P) name pl) Q E s :=
  getMethod_pat slot hty (X _ _ e) hc hd h
def Fails (cs : List Value) (gr : Nat) (x : Str) : Prop := ∃ k, k < 2 ^ 64 ∧ (searchEnd cs gr x k).outcome = some .failed
def Finds (cs : List Value) (gr : Nat) (x : Str) (m : Sre.M) : Prop := ∃ k, k < 2 ^ 64 ∧ searchEnd cs gr x k = m ∧ m.outcome = some .matched ∧ spansOk gr m = true
theorem search_noneK {Q : Value → Shared → Prop} (X : K.In s.heap := by k_in) (e : K.lookup P = some (patObj src fl gr ca t) := by k_is) (e2 : K.lookup ca = some (tupObj cs n) := by k_is) (hx : x.length < 2 ^ 63 := by omega) (he : Fails cs gr x := by assumption) (h : Q .none s) :
    wpAny (model prog w) A (call (.builtin "re.Pattern.search") [.ref P, .str x u]) Q E s :=
  let ⟨k, hk, ho⟩ := he
  search_none (X _ _ e) (X _ _ e2) k hk hx ho h
theorem search_someK {Q : Value → Shared → Prop} {h₀ : Heap} {L : Addr} {m₀ : Str → Option Value} {news : Led} {m : Sre.M} (X : K.In s.heap := by k_in) (e : K.lookup P = some (patObj src fl gr ca t) := by k_is) (e2 : K.lookup ca = some (tupObj cs n) := by k_is) (F : Fr h₀ L s.heap m₀ := by k_asm) (N : News h₀ L s.heap news := by k_asm) (hx : x.length < 2 ^ 63 := by omega)
    (he : Finds cs gr x m := by assumption) (hg : gr ≤ 1 := by decide)
    (h : ∀ a b h', (∀ p ∈ news, p.1 < a) → a < b → Fr h₀ L h' m₀ → News h₀ L h' ((b, matObj (.str x u) (.ref P) 0 x.length m.lastindex a) :: (a, spObj gr m) :: news) → Q (.ref b) { s with heap := h' }) :
    wpAny (model prog w) A (call (.builtin "re.Pattern.search") [.ref P, .str x u]) Q E s := by
  obtain ⟨k, hk, rfl, ho, ok⟩ := he
  exact search_some F N (X _ _ e) (X _ _ e2) k hk hx ho ok hg h
theorem none0 {Q : Value → Shared → Prop} (X : K.In s.heap := by k_in) (e : K.lookup P = some (patObj src fl (0 : Nat) ca t) := by k_is) (e2 : K.lookup ca = some (tupObj cs n) := by k_is) (hx : x.length < 2 ^ 63 := by omega) (he : Fails cs 0 x := by assumption) (h : Q .none s) :
    wpAny (model prog w) A (call (.builtin "re.Pattern.search") [.ref P, .str x u]) Q E s := search_noneK (gr := 0) X e e2 hx he h
theorem none1 {Q : Value → Shared → Prop} (X : K.In s.heap := by k_in) (e : K.lookup P = some (patObj src fl (1 : Nat) ca t) := by k_is) (e2 : K.lookup ca = some (tupObj cs n) := by k_is) (hx : x.length < 2 ^ 63 := by omega) (he : Fails cs 1 x := by assumption) (h : Q .none s) :
    wpAny (model prog w) A (call (.builtin "re.Pattern.search") [.ref P, .str x u]) Q E s := search_noneK (gr := 1) X e e2 hx he h
theorem some0 {Q : Value → Shared → Prop} {h₀ : Heap} {L : Addr} {m₀ : Str → Option Value} {news : Led} {m : Sre.M} (X : K.In s.heap := by k_in) (e : K.lookup P = some (patObj src fl (0 : Nat) ca t) := by k_is) (e2 : K.lookup ca = some (tupObj cs n) := by k_is) (F : Fr h₀ L s.heap m₀ := by k_asm) (N : News h₀ L s.heap news := by k_asm) (hx : x.length < 2 ^ 63 := by omega)
    (he : Finds cs 0 x m := by assumption)
    (h : ∀ a b h', (∀ p ∈ news, p.1 < a) → a < b → Fr h₀ L h' m₀ → News h₀ L h' ((b, matObj (.str x u) (.ref P) 0 x.length m.lastindex a) :: (a, spObj 0 m) :: news) → Q (.ref b) { s with heap := h' }) :
    wpAny (model prog w) A (call (.builtin "re.Pattern.search") [.ref P, .str x u]) Q E s := search_someK (gr := 0) X e e2 F N hx he (by decide) h
end
theorem truthy_match {prog : Program} {w : World} {A : Around} {E : Value → Shared → Prop} {s : Shared} {b : Addr} {o : Obj} {Q : Bool → Shared → Prop} (ho : s.heap.get? b = some o := by exact (News.get (by k_asm) (by k_mem))) (hc : o.cls = .type "re.Match" := by z_run) (h : Q true s) : wpAny (model prog w) A (truthy (.ref b)) Q E s := by
  have hq := h; clear h
  have hT : s.TypeIs (.ref b) "re.Match" := ⟨o, ho, hc⟩
  have f1 : typeLookup (.type "re.Match") "__bool__" = pure none := by rw [typeLookup_type, builtinLookup_eq_fast]; kernel_rfl
  have f2 : typeLookup (.type "re.Match") "__len__" = pure none := by rw [typeLookup_type, builtinLookup_eq_fast]; kernel_rfl
  obtain ⟨h, g, d, tt, os⟩ := s
  unfold truthy
  repeat (any_goals (first | assumption | wp_step))
end
section
set_option maxRecDepth 100000
set_option maxHeartbeats 8000000
open PySem.Builtin.Re
theorem plainAttrs_mat : PlainAttrs "re.Match" :=
  ⟨⟨"object.__getattribute__", by rw [typeLookup_type, builtinLookup_eq_fast]; kernel_rfl, by decide +kernel⟩, by rw [typeLookup_type, builtinLookup_eq_fast]; kernel_rfl⟩
theorem slot_span : Slot "re.Match" "span" "re.Match.span" :=
  .of (owner := "re.Match") (n := "span") (by rw [typeLookup_type, builtinLookup_eq_fast]; kernel_rfl) (by decide +kernel) (by decide +kernel) (by decide +kernel)
    (by first | exact .inl (by decide +kernel) | exact .inr (by decide +kernel)) (by rw [isSubtype_type]; kernel_rfl)
theorem slot_group : Slot "re.Match" "group" "re.Match.group" :=
  .of (owner := "re.Match") (n := "group") (by rw [typeLookup_type, builtinLookup_eq_fast]; kernel_rfl) (by decide +kernel) (by decide +kernel) (by decide +kernel)
    (by first | exact .inl (by decide +kernel) | exact .inr (by decide +kernel)) (by rw [isSubtype_type]; kernel_rfl)
theorem entry_span : entryFor table "re.Match.span" = some Builtin.«re.Match.span» := entryFor_of_tree (by kernel_rfl)
theorem entry_group : entryFor table "re.Match.group" = some Builtin.«re.Match.group» := entryFor_of_tree (by kernel_rfl)
theorem entry_string : entryFor table "re.Match.string" = some Builtin.«re.Match.string» := entryFor_of_tree (by kernel_rfl)
theorem args_span (a b : Value) : argsOk "re.Match.span" ⟨[a, b], []⟩ := by unfold argsOk; kernel_rfl
theorem args_group (a b : Value) : argsOk "re.Match.group" ⟨[a, b], []⟩ := by unfold argsOk; kernel_rfl
theorem type_span : typeOf (.builtin "re.Match.span") = pure (.type "method_descriptor") := by kernel_rfl
theorem type_group : typeOf (.builtin "re.Match.group") = pure (.type "method_descriptor") := by kernel_rfl
theorem getMethod_mat {M : Model} {A : Around} {E : Value → Shared → Prop} {s : Shared} {P : Addr} {o : Obj} {name : Str} {id : String} {pl : Sem Bool} {Q : Value × List Value → Shared → Prop} (slot : Slot "re.Match" name id) (hty : typeOf (.builtin id) = pure (.type "method_descriptor"))
    (ho : s.heap.get? P = some o) (hc : o.cls = .type "re.Match") (hd : o.dict = none) (h : Q (.builtin id, [.ref P]) s) : wpAny M A (getMethod (.ref P) name pl) Q E s :=
  getMethod_builtin ⟨o, ho, hc⟩ plainAttrs_mat slot hty (fun a e => by cases e; exact ⟨o, ho, hd⟩) h
section
variable {prog : Program} {w : World} {A : Around} {E : Value → Shared → Prop} {s : Shared} {b a : Addr} {str pat : Value} {pos lim : Nat} {last : Int} {e1 e2 g1 g2 : Int} {n : Nat} {t u : Tok} {x : Str}
noncomputable abbrev spO (e1 e2 g1 g2 : Int) : Obj := { cls := .type "tuple", data := .seq #[rawInt e1, rawInt e2, rawInt g1, rawInt g2] }
theorem map_raw : Array.map reRawOf ((some #[rawInt e1, rawInt e2, rawInt g1, rawInt g2]).getD #[]) = #[e1, e2, g1, g2] := by simp [reRawOf, rawInt]
theorem span_mat {Q : Value → Shared → Prop} {hp : Heap} {g : Array GenState} {d : Drawn} {tt : Nat} {os : OsState} (ho : hp.get? b = some (matObj str pat pos lim last a)) (hs : hp.get? a = some (spO e1 e2 g1 g2))
    (h : Q (.ref hp.objs.size) { heap := hp.push { cls := .type "tuple", data := .seq #[.int e1 tt, .int e2 (tt + 1)] }, gens := g, drawn := d, toks := tt + 1 + 1, os := os }) :
    wpAny (model prog w) A (call (.builtin "re.Match.span") [.ref b, .int 0 t]) Q E { heap := hp, gens := g, drawn := d, toks := tt, os := os } := by
  refine wpAny_call (codeAny_call_builtin slot_span.plain entry_span (slot_span.check _ _ _ _ _ _ _ _ ⟨_, ho, rfl⟩ (args_span _ _) ?_))
  unfold Builtin.«re.Match.span» reOneGroup
  repeat (any_goals (first | assumption | wp_step))
  rw [map_raw]
  exact h
theorem group_mat {Q : Value → Shared → Prop} {hp : Heap} {g : Array GenState} {d : Drawn} {tt : Nat} {os : OsState} {j1 j2 : Nat} (hz : x.length ≤ 1000) (ho : hp.get? b = some (matObj (.str x u) pat pos lim last a)) (hs : hp.get? a = some (spO e1 e2 (j1 : Nat) (j2 : Nat)))
    (h : Q (.str ⟨x.cps.extract j1 j2⟩ tt) { heap := hp, gens := g, drawn := d, toks := tt + 1, os := os }) :
    wpAny (model prog w) A (call (.builtin "re.Match.group") [.ref b, .int 1 t]) Q E { heap := hp, gens := g, drawn := d, toks := tt, os := os } := by
  refine wpAny_call (codeAny_call_builtin slot_group.plain entry_group (slot_group.check _ _ _ _ _ _ _ _ ⟨_, ho, rfl⟩ (args_group _ _) ?_))
  unfold Builtin.«re.Match.group»
  repeat (any_goals (first | assumption | wp_step))
  rw [map_raw]
  have hneg : ¬ ((decide ((j1 : Int) < 0) || decide ((j2 : Int) < 0)) = true) := by simp
  show wpAny _ _ (if (decide ((j1 : Int) < 0) || decide ((j2 : Int) < 0)) = true then _ else _) _ _ _
  rw [if_neg hneg]
  repeat (any_goals (first | assumption | wp_step))
  have hz' : ∀ i j, ¬ ((⟨x.cps.extract i j⟩ : Str).length > sizeLine) := by
    intro i j
    have h1 : (⟨x.cps.extract i j⟩ : Str).length ≤ x.length := by
      show (x.cps.extract i j).size ≤ x.cps.size
      rw [Array.size_extract]
      omega
    rw [sizeLine_eq]
    omega
  rw [if_neg (hz' _ _)]
  repeat (any_goals (first | assumption | wp_step))
end
end
section
set_option maxRecDepth 100000
set_option maxHeartbeats 400000
open PySem.Builtin.Re
section
variable {prog : Program} {w : World} {A : Around} {E : Value → Shared → Prop} {s : Shared} {b a : Addr} {str pat : Value} {pos lim : Nat} {last : Int} {e1 e2 g1 g2 : Int} {n : Nat} {t u : Tok} {x : Str}
theorem slot_mat_ga : Slot "re.Match" "__getattribute__" "object.__getattribute__" :=
  .of (owner := "object") (n := "__getattribute__") (by rw [typeLookup_type, builtinLookup_eq_fast]; kernel_rfl) (by decide +kernel) (by decide +kernel) (by decide +kernel)
    (by first | exact .inl (by decide +kernel) | exact .inr (by decide +kernel)) (by rw [isSubtype_type]; kernel_rfl)
theorem slot_memS : Slot "member_descriptor" "__set__" "member_descriptor.__set__" :=
  .of (owner := "member_descriptor") (n := "__set__") (by rw [typeLookup_type, builtinLookup_eq_fast]; kernel_rfl) (by decide +kernel) (by decide +kernel) (by decide +kernel)
    (by first | exact .inl (by decide +kernel) | exact .inr (by decide +kernel)) (by rw [isSubtype_type]; kernel_rfl)
theorem lk_mat_string : typeLookup (.type "re.Match") "string" = pure (some (.builtin "re.Match.string")) := by rw [typeLookup_type, builtinLookup_eq_fast]; kernel_rfl
theorem typeOf_mat_string : typeOf (.builtin "re.Match.string") = pure (.type "member_descriptor") := by kernel_rfl
theorem owner_mat_string : isSubtype (.type "re.Match") (.type (".".intercalate ("re.Match.string".cutAt '.').dropLast)) = pure true := by
  rw [show ".".intercalate ("re.Match.string".cutAt '.').dropLast = "re.Match" from by decide +kernel, isSubtype_type]; kernel_rfl
section
variable {hp : Heap} {g : Array GenState} {d : Drawn} {tt : Nat} {os : OsState}
theorem string_get {R : Result → Shared → Prop} (ho : hp.get? b = some (matObj str pat pos lim last a)) (hq : R (.ok (.ret str)) ⟨hp, g, d, tt, os⟩) :
    codeAny (model prog w) A (.call (.builtin "member_descriptor.__get__") ⟨[.builtin "re.Match.string", .ref b, .type "re.Match"], []⟩) R ⟨hp, g, d, tt, os⟩ := by
  have hT : (⟨hp, g, d, tt, os⟩ : Shared).TypeIs (.ref b) "re.Match" := ⟨_, ho, rfl⟩
  have hT5 : (⟨hp, g, d, tt, os⟩ : Shared).TypeIs (.builtin "re.Match.string") "member_descriptor" := typeOf_mat_string
  have f8 := owner_mat_string
  refine codeAny_call_builtin KF.slot_mem.plain KF.entry_mem (KF.slot_mem.check _ _ _ _ _ _ _ _ hT5 (KF.args_mem _ _ _) ?_)
  repeat (any_goals (first | assumption | wp_step))
  refine ⟨Code.quiet_builtin _ (by decide +kernel), codeAny_builtin entry_string ?_⟩
  unfold Builtin.«re.Match.string»
  repeat (any_goals (first | assumption | wp_step))
theorem string_entry {tk : Tok} {Q : Fin → Shared → Prop} (ho : hp.get? b = some (matObj str pat pos lim last a)) (hq : Q (.done (.ret str)) ⟨hp, g, d, tt, os⟩) :
    wpAny (model prog w) A (Builtin.«object.__getattribute__» ⟨[.ref b, .str "string" tk], []⟩) Q E ⟨hp, g, d, tt, os⟩ := by
  have hT : (⟨hp, g, d, tt, os⟩ : Shared).TypeIs (.ref b) "re.Match" := ⟨_, ho, rfl⟩
  have hT5 : (⟨hp, g, d, tt, os⟩ : Shared).TypeIs (.builtin "re.Match.string") "member_descriptor" := typeOf_mat_string
  have f4 := lk_mat_string
  have f5 := typeOf_mat_string
  have f6 := KF.slot_mem.lookup
  have f7 := slot_memS.lookup
  repeat (any_goals (first | assumption | wp_step))
  refine string_get ho ?_
  repeat (any_goals (first | assumption | wp_step))
theorem string_call {tk : Tok} {R : Result → Shared → Prop} (ho : hp.get? b = some (matObj str pat pos lim last a)) (hq : R (.ok (.ret str)) ⟨hp, g, d, tt, os⟩) :
    codeAny (model prog w) A (.call (.builtin "object.__getattribute__") ⟨[.ref b, .str "string" tk], []⟩) R ⟨hp, g, d, tt, os⟩ :=
  codeAny_call_builtin slot_mat_ga.plain PySem.F.entry_object_getattribute (slot_mat_ga.check _ _ _ _ _ _ _ _ ⟨_, ho, rfl⟩ (PySem.F.args_object_getattribute_2 _ _) (string_entry ho hq))
theorem string_by {tk : Tok} {expr : Bool} {Q : Value → Shared → Prop} (ho : hp.get? b = some (matObj (.str x u) pat pos lim last a)) (hq : Q (.str x u) ⟨hp, g, d, tt, os⟩) : wpAny (model prog w) A (getAttrBy (.ref b) (.str "string" tk) true expr) Q E ⟨hp, g, d, tt, os⟩ := by
  have hT : (⟨hp, g, d, tt, os⟩ : Shared).TypeIs (.ref b) "re.Match" := ⟨_, ho, rfl⟩
  have f2 := slot_mat_ga.lookup
  have f3 := slot_mat_ga.bind (.ref b)
  have f4 : typeLookup (.type "re.Match") "__getattr__" = pure none := by rw [typeLookup_type, builtinLookup_eq_fast]; kernel_rfl
  have hx0 : (expr && onTheHeap (Value.builtin "object.__getattribute__")) = false := by cases expr <;> rfl
  repeat (any_goals (first | assumption | wp_step))
  refine string_call ho ?_
  repeat (any_goals (first | assumption | wp_step))
theorem string_attr {expr : Bool} {Q : Value → Shared → Prop} (ho : hp.get? b = some (matObj (.str x u) pat pos lim last a)) (hq : Q (.str x u) ⟨hp, g, d, tt + 1, os⟩) : wpAny (model prog w) A (getAttr (.ref b) "string" expr) Q E ⟨hp, g, d, tt, os⟩ := by
  unfold getAttr
  repeat (any_goals (first | assumption | with_reducible apply string_by ho | wp_step))
end
section
variable {h₀ : Heap} {L : Addr} {m : Str → Option Value} {news : Led} {Q : Value → Shared → Prop}
theorem span_led (F : Fr h₀ L s.heap m := by k_asm) (N : News h₀ L s.heap news := by k_asm) (hb : (b, matObj str pat pos lim last a) ∈ news := by tb_src) (ha : (a, spO e1 e2 g1 g2) ∈ news := by tb_src)
    (h : ∀ D h' t1 t2 k, (∀ p ∈ news, p.1 < D) → Fr h₀ L h' m → News h₀ L h' ((D, ({ cls := .type "tuple", data := .seq #[.int e1 t1, .int e2 t2] } : Obj)) :: news) → Q (.ref D) { s with heap := h', toks := k }) :
    wpAny (model prog w) A (call (.builtin "re.Match.span") [.ref b, .int 0 t]) Q E s := by
  obtain ⟨hp, g, d, tt, os⟩ := s
  exact span_mat (N _ hb).1 (N _ ha).1 (h _ _ _ _ _ (fun p hp => Heap.lt_size (N p hp).1) (F.push _) (N.push F _))
theorem group_led {j1 j2 : Nat} (N : News h₀ L s.heap news := by k_asm) (hb : (b, matObj (.str x u) pat pos lim last a) ∈ news := by tb_src) (ha : (a, spO e1 e2 (j1 : Nat) (j2 : Nat)) ∈ news := by tb_src) (hz : x.length ≤ 1000 := by omega)
    (h : ∀ t k, Q (.str ⟨x.cps.extract j1 j2⟩ t) { s with toks := k }) : wpAny (model prog w) A (call (.builtin "re.Match.group") [.ref b, .int 1 t]) Q E s := by
  obtain ⟨hp, g, d, tt, os⟩ := s
  exact group_mat hz (N _ hb).1 (N _ ha).1 (h _ _)
theorem string_led {expr : Bool} (N : News h₀ L s.heap news := by k_asm) (hb : (b, matObj (.str x u) pat pos lim last a) ∈ news := by tb_src) (h : ∀ k, Q (.str x u) { s with toks := k }) : wpAny (model prog w) A (getAttr (.ref b) "string" expr) Q E s := by
  obtain ⟨hp, g, d, tt, os⟩ := s
  exact string_attr (N _ hb).1 (h _)
theorem method_led {o : Obj} {name : Str} {id : String} {pl : Sem Bool} {Q : Value × List Value → Shared → Prop} (slot : Slot "re.Match" name id) (hty : typeOf (.builtin id) = pure (.type "method_descriptor"))
    (N : News h₀ L s.heap news := by k_asm) (hb : (b, o) ∈ news := by tb_src) (hc : o.cls = .type "re.Match" := by rfl) (hd : o.dict = none := by rfl) (h : Q (.builtin id, [.ref b]) s) : wpAny (model prog w) A (getMethod (.ref b) name pl) Q E s :=
  getMethod_mat slot hty (N _ hb).1 hc hd h
end
end
end
local macro_rules | `(tactic| walk_at "call ref") => `(tactic| (k_here; ktf_call (fsp_DT _ _ _ _ _)))
local macro_rules | `(tactic| walk_at "call ref") => `(tactic| (k_here; ktf_call (sep_DT _ _ _ _ _)))
local macro_rules | `(tactic| walk_at "call ref") => `(tactic| (k_here; ktf_call (dir_DT _ _ _ _ _)))
local macro_rules | `(tactic| row_wit2 $a $b) => `(tactic| (k_here; k_dflt (refine getMethod_patK $a $b (h := ?_); k_whole)))
local macro_rules | `(tactic| walk_at "getMethod ref") => `(tactic| row_wit2 slot_search type_search)
local macro_rules | `(tactic| walk_at "getMethod ref") => `(tactic| row_wit2 slot_fullm type_fullm)
local macro_rules | `(tactic| walk_at "call builtin:re.Pattern.search") => `(tactic| row_wit1 none0)
local macro_rules | `(tactic| walk_at "call builtin:re.Pattern.search") => `(tactic| row_wit1 some0)
local macro_rules | `(tactic| walk_at "truthy ref") => `(tactic| row_wit1 truthy_match)
section
set_option maxRecDepth 100000
set_option maxHeartbeats 8000000
noncomputable abbrev ipCs : List Value := [14, 8, 1, 2, 4294967295, 1, 1, 46, 0, 16, 46, 24, 9, 1, 4294967295, 13, 4, 8, 0, 0, 1, 6, 5, 1].map fun i => Value.int i 0
theorem lib_DT0 (w : World) (mean : ExcName → Option Value) (mg mb : Str → Option Value) (x : Str) : DT True (x.length ≤ 1000 ∧ Fails ipCs 0 x) w mean mg mb 219 1 [.str x] (.bool true) := by
  refine DT.mk fun news vs hD hpre => ?_
  apply iv1s hD; intro t
  refine VT.enter [(Str.ofString "text", .str x t)] (H := ?_)
  intro A outer A₀ base g L s Q hh hA hdp hu B mf F X N T hret Mk vk
  have hfx := hpre.2
  have hx := hpre.1
  k_steps
  exact hret _ [] _ _ _ (by assumption) (cb_drop (by assumption) (by kcj_all)) (fun _ h => nomatch h) (.bool _)
theorem lib_DT1 (w : World) (mean : ExcName → Option Value) (mg mb : Str → Option Value) (x : Str) (mm : Sre.M) : DT True (x.length ≤ 1000 ∧ Finds ipCs 0 x mm) w mean mg mb 219 1 [.str x] (.bool false) := by
  refine DT.mk fun news vs hD hpre => ?_
  apply iv1s hD; intro t
  refine VT.enter [(Str.ofString "text", .str x t)] (H := ?_)
  intro A outer A₀ base g L s Q hh hA hdp hu B mf F X N T hret Mk vk
  have hfx := hpre.2
  have hx := hpre.1
  k_steps
  exact hret _ [] _ _ _ (by assumption) (cb_drop (by assumption) (by kcj_all)) (fun _ h => nomatch h) (.bool _)
end
section
set_option maxRecDepth 100000
set_option maxHeartbeats 8000000
open PySem.Sre
/-! the regex machine, step by step -/
noncomputable def K (code text : Array Nat) (lim ls start pc pos handed : Nat) (om : Bool) (mk : Array (Option Nat)) (lm li : Int) (fr : List Sre.Frame) (wt : Nat) (an : Option Bool) (sn : Sre.Seen) : Sre.M :=
  { code := code, text := text, lim := lim, start := start, lastStart := ls, wholeText := false, mustAdvance := false, pc := pc, pos := pos, handed := handed, outermost := om, marks := mk, lastmark := lm, lastindex := li, loops := #[], inner := none, frames := fr, weight := wt, answer := an, seen := sn, outcome := none }
noncomputable abbrev gbF (pc pos : Nat) (om : Bool) (count : Int) (lm li : Int) : Sre.Frame := { wait := .giveBack, pc := pc, pos := pos, outermost := om, count := count, kept := { lastmark := lm, lastindex := li, whole := false, marks := #[] } }
noncomputable abbrev nsF (pc pos : Nat) (om : Bool) : Sre.Frame := { wait := .nextStart, pc := pc, pos := pos, outermost := om }
noncomputable def repF (m : Sre.M) (least : Nat) (r : Except String (Nat × Sre.Seen)) : Sre.M := match r with
  | .error why => m.stick why
  | .ok (n, seen) => if n < least then { m with seen := seen }.say false else { m with seen := seen, pos := m.pos + n }.afterRun .giveBack n ({ m with seen := seen, pos := m.pos + n }.keep m.inner.isSome)
theorem exec_rep (m : Sre.M) (least most : Nat) (hop : ops[m.word 0]? = some .REPEAT_ONE) (h2 : m.word 2 = least) (h3 : m.word 3 = most) (hle : ¬ ((least : Int) > (m.lim : Int) - m.pos)) :
    m.exec = repF { m with seen := m.seen.add (m.word 0) } least (Sre.run m.code m.text (m.pc + 4) (min most ((m.lim : Int) - m.pos).toNat) m.pos 0 ((m.seen.add (m.word 0)).add (m.word 4))) := by
  unfold M.exec
  rw [hop]
  subst h2 h3
  exact (if_neg hle).trans rfl
theorem run_yes {code text : Array Nat} {i n p f : Nat} {sn sn' : Sre.Seen} (h : accepts code i (text.getD p 0) sn = .ok (true, sn')) : Sre.run code text i (n + 1) p f sn = Sre.run code text i n (p + 1) (f + 1) sn' := by
  conv => lhs; unfold Sre.run
  rw [h]
  rfl
theorem run_no {code text : Array Nat} {i n p f : Nat} {sn sn' : Sre.Seen} (h : accepts code i (text.getD p 0) sn = .ok (false, sn')) : Sre.run code text i (n + 1) p f sn = .ok (f, sn') := by
  conv => lhs; unfold Sre.run
  rw [h]
  rfl
theorem runFor_next {m m' : Sre.M} {n : Nat} (ho : m.outcome = none) (h : m.step = m') : m.runFor (n + 1) = m'.runFor n := by
  rw [runFor_succ, ho, h]
  rfl
section
variable {code text : Array Nat} {lim ls start pc pos handed : Nat} {om : Bool} {mk : Array (Option Nat)} {lm li : Int} {fr : List Sre.Frame} {wt : Nat} {sn : Sre.Seen}
theorem step_exec (hpc : pc < code.size) : M.step (K code text lim ls start pc pos handed om mk lm li fr wt none sn) = M.exec (K code text lim ls start pc pos handed om mk lm li fr wt none sn) := if_pos hpc
theorem rep_go {least most nx n : Nat} (hpc : pc < code.size) (hop : ops[code.getD (pc + 0) 0]? = some .REPEAT_ONE) (h2 : code.getD (pc + 2) 0 = least) (h3 : code.getD (pc + 3) 0 = most) (hnx : pc + 1 + code.getD (pc + 1) 0 = nx) (hw : wt < 100) (hp : pos + least ≤ lim) (hn : least ≤ n)
    (hr : ∀ sn, ∃ sn', Sre.run code text (pc + 4) (min most ((lim : Int) - pos).toNat) pos 0 sn = .ok (n, sn')) :
    ∃ sn', M.step (K code text lim ls start pc pos handed om mk lm li fr wt none sn) = K code text lim ls start nx (pos + n) (pos + n) om mk lm li (gbF pc (pos + n) om n lm li :: fr) (wt + 1 + 0) none sn' := by
  obtain ⟨sn', h⟩ := hr ((sn.add (code.getD (pc + 0) 0)).add (code.getD (pc + 4) 0))
  refine ⟨sn', ?_⟩
  rw [step_exec hpc, exec_rep (K code text lim ls start pc pos handed om mk lm li fr wt none sn) least most hop h2 h3 (show ¬ ((least : Int) > (lim : Int) - (pos : Int)) by omega)]
  show repF _ _ (Sre.run code text (pc + 4) (min most ((lim : Int) - pos).toNat) pos 0 ((sn.add (code.getD (pc + 0) 0)).add (code.getD (pc + 4) 0))) = _
  rw [h]
  subst hnx
  refine (if_neg (show ¬ (n < least) by omega)).trans ?_
  exact (if_neg (show ¬ (wt + 1 + 0 > 16777216) by omega)).trans rfl
theorem rep_short {least most n : Nat} (hpc : pc < code.size) (hop : ops[code.getD (pc + 0) 0]? = some .REPEAT_ONE) (h2 : code.getD (pc + 2) 0 = least) (h3 : code.getD (pc + 3) 0 = most) (hp : pos + least ≤ lim) (hn : n < least)
    (hr : ∀ sn, ∃ sn', Sre.run code text (pc + 4) (min most ((lim : Int) - pos).toNat) pos 0 sn = .ok (n, sn')) :
    ∃ sn', M.step (K code text lim ls start pc pos handed om mk lm li fr wt none sn) = K code text lim ls start pc pos handed om mk lm li fr wt (some false) sn' := by
  obtain ⟨sn', h⟩ := hr ((sn.add (code.getD (pc + 0) 0)).add (code.getD (pc + 4) 0))
  refine ⟨sn', ?_⟩
  rw [step_exec hpc, exec_rep (K code text lim ls start pc pos handed om mk lm li fr wt none sn) least most hop h2 h3 (show ¬ ((least : Int) > (lim : Int) - (pos : Int)) by omega)]
  show repF _ _ (Sre.run code text (pc + 4) (min most ((lim : Int) - pos).toNat) pos 0 ((sn.add (code.getD (pc + 0) 0)).add (code.getD (pc + 4) 0))) = _
  rw [h]
  exact (if_pos (show n < least by omega)).trans rfl
theorem rep_room {least most : Nat} (hpc : pc < code.size) (hop : ops[code.getD (pc + 0) 0]? = some .REPEAT_ONE) (h2 : code.getD (pc + 2) 0 = least) (hp : ((least : Int) > (lim : Int) - pos)) :
    M.step (K code text lim ls start pc pos handed om mk lm li fr wt none sn) = K code text lim ls start pc pos handed om mk lm li fr wt (some false) (sn.add (code.getD (pc + 0) 0)) := by
  rw [step_exec hpc]
  unfold M.exec
  rw [show ops[M.word (K code text lim ls start pc pos handed om mk lm li fr wt none sn) 0]? = some .REPEAT_ONE from hop]
  subst h2
  exact (if_pos hp).trans rfl
theorem back_gb {p q pc' : Nat} {cnt l1 l2 : Int} {om' : Bool} : M.step (K code text lim ls start pc' pos handed om mk lm li (gbF p q om' cnt l1 l2 :: fr) wt (some true) sn) = K code text lim ls start p q handed om' mk lm li fr (wt - (1 + 0)) (some true) sn := rfl
theorem back_ns {p q pc' : Nat} {om' : Bool} : M.step (K code text lim ls start pc' pos handed om mk lm li (nsF p q om' :: fr) wt (some true) sn) = K code text lim ls start p q handed om' mk lm li fr (wt - (1 + 0)) (some true) sn := rfl
theorem back_end {pc' : Nat} : M.step (K code text lim ls start pc' pos handed om mk lm li [] wt (some true) sn) = { K code text lim ls start pc' pos handed om mk lm li [] wt (some true) sn with outcome := some .matched } := rfl
theorem back_no {p q pc' least : Nat} {cnt l1 l2 : Int} {om' : Bool} (h2 : code.getD (p + 2) 0 = least) (hc : cnt - 1 < (least : Int)) : M.step (K code text lim ls start pc' pos handed om mk lm li (gbF p q om' cnt l1 l2 :: fr) wt (some false) sn) = K code text lim ls start p q handed om' mk l1 l2 fr (wt - (1 + 0)) (some false) sn := by
  subst h2
  exact (if_neg (Bool.false_ne_true)).trans ((if_pos hc).trans rfl)
noncomputable def litF (m : Sre.M) (r : Except String (Bool × Sre.Seen)) : Sre.M := match r with
  | .error why => m.stick why
  | .ok (false, seen) => { m with seen := seen }.say false
  | .ok (true, seen) => { m with seen := seen, pc := m.pc + itemWidth m.code m.pc, pos := m.pos + 1 }
theorem exec_lit (m : Sre.M) (hop : ops[m.word 0]? = some .LITERAL) (hp : ¬ m.pos ≥ m.lim) :
    m.exec = litF { m with seen := m.seen.add (m.word 0) } (accepts m.code m.pc (m.text.getD m.pos 0) (m.seen.add (m.word 0))) := by
  unfold M.exec
  rw [hop]
  exact (if_neg hp).trans rfl
theorem exec_end (m : Sre.M) (hop : ops[m.word 0]? = some .LITERAL) (hp : m.pos ≥ m.lim) : m.exec = { m with seen := m.seen.add (m.word 0) }.say false := by
  unfold M.exec
  rw [hop]
  exact (if_pos hp).trans rfl
theorem acc_lit {code : Array Nat} {pc c : Nat} {b : Bool} {sn : Sre.Seen} (hop : ops[code.getD (pc + 0) 0]? = some .LITERAL) (hb : (c == code.getD (pc + 1) 0) = b) : accepts code pc c sn = .ok (b, sn) := by
  unfold accepts
  rw [show code.getD pc 0 = code.getD (pc + 0) 0 from rfl, hop]
  exact congrArg (fun b => Except.ok (b, sn)) hb
theorem lit_yes (hpc : pc < code.size) (hop : ops[code.getD (pc + 0) 0]? = some .LITERAL) (hp : pos < lim) (hc : text.getD pos 0 = code.getD (pc + 1) 0) :
    ∃ sn', M.step (K code text lim ls start pc pos handed om mk lm li fr wt none sn) = K code text lim ls start (pc + 2) (pos + 1) handed om mk lm li fr wt none sn' := by
  refine ⟨sn.add (code.getD (pc + 0) 0), ?_⟩
  rw [step_exec hpc, exec_lit (K code text lim ls start pc pos handed om mk lm li fr wt none sn) hop (Nat.not_le.mpr hp)]
  refine (congrArg (litF _) (acc_lit (b := true) hop (beq_iff_eq.mpr hc))).trans ?_
  have hw : itemWidth code pc = 2 := by
    unfold itemWidth
    rw [show code.getD pc 0 = code.getD (pc + 0) 0 from rfl, hop]
  show K code text lim ls start (pc + itemWidth code pc) (pos + 1) handed om mk lm li fr wt none _ = _
  rw [hw]
  rfl
theorem lit_no (hpc : pc < code.size) (hop : ops[code.getD (pc + 0) 0]? = some .LITERAL) (hp : pos < lim) (hc : (text.getD pos 0 == code.getD (pc + 1) 0) = false) :
    ∃ sn', M.step (K code text lim ls start pc pos handed om mk lm li fr wt none sn) = K code text lim ls start pc pos handed om mk lm li fr wt (some false) sn' := by
  refine ⟨sn.add (code.getD (pc + 0) 0), ?_⟩
  rw [step_exec hpc, exec_lit (K code text lim ls start pc pos handed om mk lm li fr wt none sn) hop (Nat.not_le.mpr hp)]
  exact congrArg (litF _) (acc_lit hop hc)
theorem lit_end (hpc : pc < code.size) (hop : ops[code.getD (pc + 0) 0]? = some .LITERAL) (hp : lim ≤ pos) :
    ∃ sn', M.step (K code text lim ls start pc pos handed om mk lm li fr wt none sn) = K code text lim ls start pc pos handed om mk lm li fr wt (some false) sn' := by
  refine ⟨sn.add (code.getD (pc + 0) 0), ?_⟩
  exact (step_exec hpc).trans ((exec_end (K code text lim ls start pc pos handed om mk lm li fr wt none sn) hop hp).trans rfl)
theorem back_nx {p q pc' : Nat} {om' : Bool} (h : ¬ q < ls) : M.step (K code text lim ls start pc' pos handed om mk lm li (nsF p q om' :: fr) wt (some false) sn) = K code text lim ls start p q handed om' mk lm li fr (wt - (1 + 0)) (some false) sn :=
  (if_neg Bool.false_ne_true).trans ((if_neg h).trans rfl)
theorem back_out {pc' : Nat} : M.step (K code text lim ls start pc' pos handed om mk lm li [] wt (some false) sn) = { K code text lim ls start pc' pos handed om mk lm li [] wt (some false) sn with outcome := some .failed } := rfl
end
/-- what a sign is to a set -/
def Acc (code : Array Nat) (i c : Nat) (b : Bool) : Prop := ∀ sn, ∃ sn', accepts code i c sn = .ok (b, sn')
theorem run_n {code text : Array Nat} {i k : Nat} : ∀ {N p f : Nat} {sn : Sre.Seen}, k ≤ N → (∀ j, j < k → Acc code i (text.getD (p + j) 0) true) → (k < N → Acc code i (text.getD (p + k) 0) false) → ∃ sn', Sre.run code text i N p f sn = .ok (f + k, sn') := by
  induction k with
  | zero =>
    intro N p f sn _ _ h
    cases N with
    | zero => exact ⟨sn, rfl⟩
    | succ N =>
      obtain ⟨sn', h'⟩ := h (Nat.succ_pos _) sn
      exact ⟨sn', run_no h'⟩
  | succ k ih =>
    intro N p f sn hk h1 h2
    cases N with
    | zero => exact absurd hk (Nat.not_succ_le_zero _)
    | succ N =>
      obtain ⟨sn', h'⟩ := h1 0 (Nat.succ_pos _) sn
      have e : ∀ j, p + (j + 1) = p + 1 + j := fun j => by rw [Nat.add_assoc, Nat.add_comm 1 j]
      obtain ⟨sn2, h3⟩ := ih (N := N) (p := p + 1) (f := f + 1) (sn := sn') (Nat.le_of_succ_le_succ hk) (fun j hj => e j ▸ h1 (j + 1) (Nat.succ_lt_succ hj)) (fun hk' => e k ▸ h2 (Nat.succ_lt_succ hk'))
      exact ⟨sn2, (run_yes h').trans (h3.trans (by rw [Nat.add_assoc, Nat.add_comm 1 k]))⟩
theorem runFor_ex {m : Sre.M} {f : Sre.Seen → Sre.M} {P : Sre.M → Prop} {n : Nat} (ho : m.outcome = none) (h : ∃ sn', m.step = f sn') (k : ∀ sn', P ((f sn').runFor n)) : P (m.runFor (n + 1)) := by
  obtain ⟨sn', h⟩ := h
  rw [runFor_next ho h]
  exact k sn'
theorem runFor_eq {m m' : Sre.M} {P : Sre.M → Prop} {n : Nat} (ho : m.outcome = none) (h : m.step = m') (k : P (m'.runFor n)) : P (m.runFor (n + 1)) := by
  rw [runFor_next ho h]
  exact k
theorem room_ge {lim pos n : Nat} (h : pos + n ≤ lim) (hn : n ≤ 100) : ∃ N, min 4294967295 ((lim : Int) - pos).toNat = N + n := ⟨min 4294967295 ((lim : Int) - pos).toNat - n, by omega⟩
/-! the way over the starting places -/
def AtP (code text : Array Nat) (lim ls pc0 p : Nat) (m : Sre.M) : Prop := ∃ om mk sn, m = K code text lim ls p pc0 p p om mk (-1) (-1) [nsF pc0 p om] 1 none sn
def Rj (code text : Array Nat) (lim ls pc0 p : Nat) (m : Sre.M) : Prop := ∃ start om om0 mk sn pc pos handed lm li, m = K code text lim ls start pc pos handed om mk lm li [nsF pc0 p om0] 1 (some false) sn
section
variable {code text : Array Nat} {lim ls pc0 p : Nat} {m : Sre.M}
theorem Rj.el {P : Sre.M → Prop} (h : Rj code text lim ls pc0 p m) (H : ∀ start om om0 mk sn pc pos handed lm li, P (K code text lim ls start pc pos handed om mk lm li [nsF pc0 p om0] 1 (some false) sn)) : P m := by
  obtain ⟨start, om, om0, mk, sn, pc, pos, handed, lm, li, rfl⟩ := h
  exact H ..
theorem K_Rj {start pc pos handed : Nat} {om om0 : Bool} {mk : Array (Option Nat)} {lm li : Int} {sn : Sre.Seen} {wt : Nat} (hw : wt = 1) : Rj code text lim ls pc0 p (K code text lim ls start pc pos handed om mk lm li [nsF pc0 p om0] wt (some false) sn) := by
  subst hw
  exact ⟨_, _, _, _, _, _, _, _, _, _, rfl⟩
theorem AtP_K (h : AtP code text lim ls pc0 p m) : ∃ om mk sn, m = K code text lim ls p pc0 p p om mk (-1) (-1) [nsF pc0 p om] 1 none sn := h
theorem rj_eq {n : Nat} {m' : Sre.M} (ho : m.outcome = none) (h : m.step = m') (k : Rj code text lim ls pc0 p (m'.runFor n)) : Rj code text lim ls pc0 p (m.runFor (n + 1)) := runFor_eq (P := fun m => Rj code text lim ls pc0 p m) ho h k
theorem rj_ex {n : Nat} {f : Sre.Seen → Sre.M} (ho : m.outcome = none) (h : ∃ sn', m.step = f sn') (k : ∀ sn', Rj code text lim ls pc0 p ((f sn').runFor n)) : Rj code text lim ls pc0 p (m.runFor (n + 1)) := runFor_ex (P := fun m => Rj code text lim ls pc0 p m) ho h k
theorem Rj.next (hf : ∀ m : Sre.M, m.code = code → m.hasFirstSet = false) (h : Rj code text lim ls pc0 p m) (hp : p < ls) : AtP code text lim ls pc0 (p + 1) (m.runFor 1) :=
  h.el (P := fun m => AtP code text lim ls pc0 (p + 1) (m.runFor 1)) fun _ _ _ mk sn _ _ _ _ _ => ⟨false, mk, sn,
    (if_neg Bool.false_ne_true).trans ((if_pos hp).trans ((if_pos (by rw [hf _ rfl]; rfl)).trans rfl))⟩
theorem Rj.last (h : Rj code text lim ls pc0 p m) (hp : ¬ p < ls) : (m.runFor 2).outcome = some .failed :=
  h.el (P := fun m => (m.runFor 2).outcome = some .failed) fun _ _ _ _ _ _ _ _ _ _ => runFor_eq (P := fun m => m.outcome = some .failed) rfl (back_nx hp) (runFor_eq (P := fun m => m.outcome = some .failed) rfl back_out rfl)
theorem run_on {a b : Nat} {m : Sre.M} (h : a ≤ b) (ho : ((m.runFor a).outcome).isSome = true) : m.runFor b = m.runFor a := by
  rw [← Nat.add_sub_cancel' h, runFor_add, runFor_done ho]
theorem fails_from (hf : ∀ m : Sre.M, m.code = code → m.hasFirstSet = false) (J q : Nat) (hr : ∀ p m, q ≤ p → p ≤ ls → AtP code text lim ls pc0 p m → ∃ j, j ≤ J ∧ Rj code text lim ls pc0 p (m.runFor j)) (d : Nat) :
    ∀ (p : Nat) (m : Sre.M), p + d = ls → q ≤ p → AtP code text lim ls pc0 p m → ∃ k, k ≤ (d + 1) * (J + 2) ∧ (m.runFor k).outcome = some .failed := by
  induction d with
  | zero =>
    intro p m hp hq hm
    obtain ⟨j, hj, h⟩ := hr p m hq (Nat.le_of_eq hp) hm
    exact ⟨j + 2, by rw [Nat.one_mul]; exact Nat.add_le_add_right hj 2, by rw [runFor_add]; exact h.last (Nat.not_lt.mpr (Nat.le_of_eq hp.symm))⟩
  | succ d ih =>
    intro p m hp hq hm
    have hp' : p + 1 + d = ls := by rw [← hp, Nat.add_assoc, Nat.add_comm 1 d]
    obtain ⟨j, hj, h⟩ := hr p m hq (Nat.le.intro hp) hm
    obtain ⟨k, hk, ho⟩ := ih (p + 1) _ hp' (Nat.le_succ_of_le hq) (h.next hf (Nat.le.intro hp'))
    rw [← runFor_add, ← runFor_add, ← Nat.add_assoc] at ho
    exact ⟨j + 1 + k, by rw [Nat.succ_mul (d + 1), Nat.add_comm]; exact Nat.add_le_add hk (Nat.succ_le_succ (Nat.le_succ_of_le hj)), ho⟩
theorem fails_loop (hf : ∀ m : Sre.M, m.code = code → m.hasFirstSet = false) (J : Nat) (hr : ∀ p m, p ≤ ls → AtP code text lim ls pc0 p m → ∃ j, j ≤ J ∧ Rj code text lim ls pc0 p (m.runFor j)) (d p : Nat) (m : Sre.M) (hp : p + d = ls) (hm : AtP code text lim ls pc0 p m) : ∃ k, k ≤ (d + 1) * (J + 2) ∧ (m.runFor k).outcome = some .failed :=
  fails_from hf J 0 (fun p m _ => hr p m) d p m hp (Nat.zero_le _) hm
theorem reach_at (hf : ∀ m : Sre.M, m.code = code → m.hasFirstSet = false) (J q : Nat) (hq : q ≤ ls) (hr : ∀ p m, p < q → AtP code text lim ls pc0 p m → ∃ j, j ≤ J ∧ Rj code text lim ls pc0 p (m.runFor j)) (d : Nat) :
    ∀ (p : Nat) (m : Sre.M), p + d = q → AtP code text lim ls pc0 p m → ∃ k, k ≤ d * (J + 1) ∧ AtP code text lim ls pc0 q (m.runFor k) := by
  induction d with
  | zero =>
    intro p m hp hm
    subst hp
    exact ⟨0, Nat.zero_le _, hm⟩
  | succ d ih =>
    intro p m hp hm
    have hp' : p + 1 + d = q := by rw [← hp, Nat.add_assoc, Nat.add_comm 1 d]
    obtain ⟨j, hj, h⟩ := hr p m (Nat.le.intro hp') hm
    obtain ⟨k, hk, ho⟩ := ih (p + 1) _ hp' (h.next hf (Nat.lt_of_lt_of_le (Nat.le.intro hp') hq))
    rw [← runFor_add, ← runFor_add, ← Nat.add_assoc] at ho
    exact ⟨j + 1 + k, by rw [Nat.succ_mul d, Nat.add_comm]; exact Nat.add_le_add hk (Nat.succ_le_succ hj), ho⟩
end
noncomputable def fresh1 (code text : Array Nat) (groups pos lim : Nat) (mustAdvance : Bool) : Sre.M :=
  { code := code, text := text, lim := lim, start := pos, pc := (Sre.header code).2, pos := pos, handed := pos, marks := Array.replicate (2 * groups) none, mustAdvance := mustAdvance, seen := if (Sre.header code).2 == 0 then {} else ({} : Sre.Seen).add 14 }
theorem forSearch_is (code text : Array Nat) (groups pos lim : Nat) (ma : Bool) : Sre.forSearch code text groups pos lim ma =
    if pos > lim || lim - pos < (Sre.header code).1 then (fresh1 code text groups pos lim ma).say false
    else M.attemptFrom { fresh1 code text groups pos lim ma with lastStart := if (Sre.header code).1 > 1 && !((Sre.header code).2 != 0 && code.getD 2 0 &&& 5 != 0) then max pos (lim - ((Sre.header code).1 - 1)) else lim } pos true := rfl
theorem forSearch_go {code text : Array Nat} {groups pos lim mn ls : Nat} {ma : Bool} (hm : (Sre.header code).1 = mn) (h : pos + mn ≤ lim) (hl : (if mn > 1 && !((Sre.header code).2 != 0 && code.getD 2 0 &&& 5 != 0) then max pos (lim - (mn - 1)) else lim) = ls) :
    Sre.forSearch code text groups pos lim ma = M.attemptFrom { fresh1 code text groups pos lim ma with lastStart := ls } pos true := by
  subst hm hl
  rw [forSearch_is]
  exact if_neg (by rw [Bool.or_eq_true, decide_eq_true_eq, decide_eq_true_eq]; omega)
theorem forSearch_no {code text : Array Nat} {groups pos lim mn : Nat} {ma : Bool} (hm : (Sre.header code).1 = mn) (h : lim < pos + mn) : Sre.forSearch code text groups pos lim ma = (fresh1 code text groups pos lim ma).say false := by
  subst hm
  rw [forSearch_is]
  exact if_pos (by rw [Bool.or_eq_true, decide_eq_true_eq, decide_eq_true_eq]; omega)
/-! the pattern of a figure at the end -/
noncomputable abbrev ipA : Array Nat := #[14, 8, 1, 2, 4294967295, 1, 1, 46, 0, 16, 46, 24, 9, 1, 4294967295, 13, 4, 8, 0, 0, 1, 6, 5, 1]
theorem ipA_is : codeOf ipCs = ipA := by decide +kernel
theorem ip_noset (m : Sre.M) (h : m.code = ipA) : m.hasFirstSet = false := by
  unfold M.hasFirstSet
  rw [h]
  rfl
/-- no figure -/
def NoD (c : Nat) : Prop := Acc ipA 15 c false
theorem noD : ∀ c ∈ [45, 46, 97, 98, 99, 109, 111], NoD c :=
  fc (fun _ => ⟨_, rfl⟩) (fc (fun _ => ⟨_, rfl⟩) (fc (fun _ => ⟨_, rfl⟩) (fc (fun _ => ⟨_, rfl⟩) (fc (fun _ => ⟨_, rfl⟩) (fc (fun _ => ⟨_, rfl⟩) (fc (fun _ => ⟨_, rfl⟩) (fun _ h => nomatch h)))))))
theorem ip_7 : Acc ipA 15 55 true := fun _ => ⟨_, rfl⟩
theorem ip_rej {text : Array Nat} {p lim : Nat} {m : Sre.M} (hz : lim ≤ 1000) (hd : text[p]?.getD 0 = 46 → p + 1 < lim → NoD (text[p + 1]?.getD 0)) (h : AtP ipA text lim lim 9 p m) : ∃ j, j ≤ 2 ∧ Rj ipA text lim lim 9 p (m.runFor j) := by
  rw [← Array.getD_eq_getD_getElem?, ← Array.getD_eq_getD_getElem?] at hd
  obtain ⟨om, mk, sn, rfl⟩ := h
  by_cases hp : p < lim
  · by_cases h46 : text.getD p 0 = 46
    · refine ⟨2, Nat.le_refl _, rj_ex rfl (lit_yes (by decide) rfl hp h46) fun sn' => ?_⟩
      by_cases hr : p + 1 < lim
      · obtain ⟨N, hN⟩ := room_ge (lim := lim) (pos := p + 1) (n := 1) hr (by decide)
        exact rj_ex rfl (rep_short (least := 1) (most := 4294967295) (n := 0) (by decide) rfl rfl rfl hr (by decide) (fun sn => by
          rw [hN]
          exact run_n (k := 0) (N := N + 1) (f := 0) (Nat.zero_le _) (fun _ hj => absurd hj (Nat.not_lt_zero _)) (fun _ => hd h46 hr))) fun _ => K_Rj rfl
      · exact rj_eq rfl (rep_room (least := 1) (most := 4294967295) (by decide) rfl rfl (by omega)) (K_Rj rfl)
    · exact ⟨1, by decide, rj_ex rfl (lit_no (by decide) rfl hp (beq_eq_false_iff_ne.mpr h46)) fun _ => K_Rj rfl⟩
  · exact ⟨1, by decide, rj_ex rfl (lit_end (by decide) rfl (Nat.not_lt.mp hp)) fun _ => K_Rj rfl⟩
theorem ip_start {text : Array Nat} {lim : Nat} (h : 2 ≤ lim) : AtP ipA text lim lim 9 0 (Sre.forSearch ipA text 0 0 lim false) :=
  ⟨true, #[], ({} : Sre.Seen).add 14, (forSearch_go (mn := 2) rfl (by rwa [Nat.zero_add]) rfl).trans rfl⟩
theorem ip_fails (x : Str) (hz : x.cps.size ≤ 1000) (hd : ∀ p, x.cps[p]?.getD 0 = 46 → p + 1 < x.cps.size → NoD (x.cps[p + 1]?.getD 0)) : Fails ipCs 0 x := by
  unfold Fails searchEnd
  rw [ipA_is]
  generalize x.cps.size = lim at hz hd
  by_cases h : 2 ≤ lim
  · obtain ⟨k, hk, ho⟩ := fails_loop ip_noset 2 (fun p m _ => ip_rej hz (hd p)) lim 0 _ (Nat.zero_add _) (ip_start h)
    refine ⟨k, by omega, ?_⟩
    rw [run_on (a := k) (by omega) (by rw [ho]; rfl)]
    exact ho
  · exact ⟨1, by decide, by rw [forSearch_no (mn := 2) rfl (by rw [Nat.zero_add]; exact Nat.not_le.mp h)]; rfl⟩
section
variable {text : Array Nat} {ls start pos handed : Nat} {om : Bool} {mk : Array (Option Nat)} {lm li : Int} {fr : List Sre.Frame} {wt : Nat} {sn : Sre.Seen}
theorem ip_at : M.step (K ipA text pos ls start 21 pos handed om mk lm li fr wt none sn) = K ipA text pos ls start 23 pos handed om mk lm li fr wt none ((sn.add 6).add 48) :=
  (if_pos (c := (pos == pos || (pos + 1 == pos && text.getD pos 0 == 10)) = true) (by rw [beq_self_eq_true]; rfl)).trans rfl
theorem ip_ok : M.step (K ipA text pos ls start 23 pos handed om mk lm li fr wt none sn) = K ipA text pos ls start 23 pos pos om mk lm li fr wt (some true) (sn.add 1) := by cases om <;> rfl
end
theorem ip_hit {text : Array Nat} {p lim : Nat} {m : Sre.M} (hz : lim ≤ 1000) (h46 : text[p]?.getD 0 = 46) (hp : lim = p + 1 + 1) (hd : Acc ipA 15 (text[p + 1]?.getD 0) true) (h : AtP ipA text lim lim 9 p m) : (m.runFor 7).outcome = some .matched := by
  rw [← Array.getD_eq_getD_getElem?] at h46 hd
  obtain ⟨om, mk, sn, rfl⟩ := h
  subst hp
  obtain ⟨N, hN⟩ := room_ge (lim := p + 1 + 1) (pos := p + 1) (n := 1) (Nat.le_refl _) (by decide)
  have hN0 : N = 0 := by omega
  subst hN0
  refine runFor_ex (P := fun m => m.outcome = some .matched) rfl (lit_yes (by decide) rfl (Nat.lt_succ_of_lt (Nat.lt_succ_self _)) h46) fun sn1 => ?_
  refine runFor_ex (P := fun m => m.outcome = some .matched) rfl (rep_go (least := 1) (most := 4294967295) (nx := 21) (n := 1) (by decide) rfl rfl rfl rfl (by decide) (Nat.le_refl _) (Nat.le_refl _) fun sn => ?_) fun sn2 => ?_
  · rw [hN]
    exact run_n (k := 1) (N := 1) (f := 0) (Nat.le_refl _) (fun j hj => by obtain rfl := Nat.lt_one_iff.mp hj; exact hd) (fun h => absurd h (Nat.lt_irrefl _))
  refine runFor_eq (P := fun m => m.outcome = some .matched) rfl ip_at ?_
  refine runFor_eq (P := fun m => m.outcome = some .matched) rfl ip_ok ?_
  refine runFor_eq (P := fun m => m.outcome = some .matched) rfl back_gb ?_
  refine runFor_eq (P := fun m => m.outcome = some .matched) rfl back_ns ?_
  exact runFor_eq (P := fun m => m.outcome = some .matched) rfl back_end rfl
theorem ip_finds (x : Str) (q : Nat) (hz : x.cps.size ≤ 1000) (hq : q + 2 = x.cps.size) (h46 : x.cps[q]?.getD 0 = 46) (h7 : x.cps[q + 1]?.getD 0 = 55)
    (hd : ∀ p, p < q → x.cps[p]?.getD 0 = 46 → p + 1 < x.cps.size → NoD (x.cps[p + 1]?.getD 0)) : ∃ m, Finds ipCs 0 x m := by
  obtain ⟨k, hk, h⟩ := reach_at ip_noset 2 q (by omega) (fun p m hp => ip_rej hz (hd p hp)) q 0 _ (Nat.zero_add _) (ip_start (text := x.cps) (by omega))
  have ho := ip_hit hz h46 hq.symm (by rw [h7]; exact ip_7) h
  rw [← runFor_add] at ho
  refine ⟨_, k + 7, by omega, rfl, ?_, rfl⟩
  unfold searchEnd
  rw [ipA_is, run_on (a := k + 7) (by omega) (by rw [ho]; rfl)]
  exact ho
end
local macro_rules | `(tactic| walk_at "exec For Name Name cons nil") => `(tactic| row_wit1 For_open)
local macro_rules | `(tactic| walk_at "exec For Name Call cons nil") => `(tactic| row_wit1 For_open)
section
set_option maxRecDepth 100000
set_option maxHeartbeats 8000000
noncomputable def joinF (x y : Str) : Str :=
  if Txt.startswith y (Str.ofString "/") = true then y else if (x.length : Int) = 0 then y else if Txt.endswith x (Str.ofString "/") = true then x ++ y else x ++ (Str.ofString "/" ++ y)
theorem join_DT (w : World) (mean : ExcName → Option Value) (mg mb : Str → Option Value) (x y : Str) : DT False (x.length ≤ 1000 ∧ y.length ≤ 1000) w mean mg mb 132 2 [.str x, .str y] (.str (joinF x y)) := by
  refine DT.mk fun news vs hD hpre => ?_
  apply iv2ss hD; intro t u
  intro A env outer A₀ base h₀ L m s Q E hh hA hf hk hdp hu B F X N T hret
  have hpx := hpre.1
  have hpy := hpre.2
  refine wpAny_call ?_
  k_dflt (refine' kp_rest ?k1 ?k2 ?k3 ?k4 ?k5 ?kA ?kF ?kK ?k6 ?k7 ?k8 ?kV ?kP ?kG ?kB ?_ ?c2 ?c3 ?c4 ?c5; (case kA => assumption); (case kF => assumption); (case kK => assumption); (case k1 => assumption); (case k2 => assumption); (case k3 => assumption); (case k4 => assumption); (case k5 => assumption); (case k6 => k_is); (case k7 => k_is); (case k8 => omega); (case kV => kl_lit); (case kP => exact rfl); (case kG => exact fun _ => rfl); (case kB => exact fun _ => locs rfl); (case c5 => decide); (case c2 => exact rfl); (case c3 => exact rfl); (case c4 => exact rfl); k_whole; intro D' g' L' h' l1 FG' F' N' B' X' T'; (try k_lt l1); (try dsimp only); refine wpAny_noRaise ?_; refine fold3 ?_; intro qk ek sk)
  k_steps
  rename Fr _ _ _ _ => F9
  rename News _ _ _ _ => N9
  refine iter_tuple (vs := [Value.str y u]) (fun i m nx => (∀ p ∈ news, p ∈ nx) ∧ ∃ px tx ts, Kn m [(Str.ofString "path", .str px tx), (Str.ofString "sep", .str (Str.ofString "/") ts)] ∧ px = if i = 0 then x else joinF x y) hh (.head _) F9 N9 (fun _ _ _ _ _ h => go_name h) ⟨fun _ h => .tail _ h, _, _, _, ⟨rfl, rfl, trivial⟩, rfl⟩ ?turn ?done
  case turn =>
    intro I i v m₁ nx h tk oI hlt hv hJ100 hI hl F1 N1
    refine hide fun P9 hP9 => ?_
    obtain ⟨hsub, px, tx, ts, hkn, e⟩ := hJ100
    obtain rfl : i = 0 := by
      have := (List.getElem?_eq_some_iff.mp hv).1
      simp at this; exact this
    cases hv
    obtain rfl : px = x := e
    refine hP9 ?_
    clear P9 hP9
    have F2 := hkn.fr F1
    clear F1 hkn
    k_steps
    all_goals (
      (rename Fr _ _ _ _ => F8)
      (rename News _ _ _ _ => N8)
      refine EndT.next F8 N8 hI (fun p e => by cases e; exact hl) ⟨hsub, _, _, _, ⟨rfl, rfl, trivial⟩, ?_⟩
      simp only [joinF, *, if_true, if_false, Bool.false_eq_true, Nat.zero_add, Nat.one_ne_zero])
  case done =>
    intro m₁ nx h tk hJ94 hl F1 N1
    refine hide fun P9 hP9 => ?_
    obtain ⟨hsub, px, tx, ts, hkn, e⟩ := hJ94
    obtain rfl : px = joinF x y := e
    refine hP9 ?_
    clear P9 hP9
    have F2 := hkn.fr F1
    clear F1 hkn
    (try dsimp only)
    k_steps
    exact hret _ [] _ _ (by assumption) (cb_drop (by assumption) hsub) (fun _ h => nomatch h) (fun h => h.elim) (.str _ _)
end
local macro_rules | `(tactic| walk_at "call ref") => `(tactic| (k_here; ktf_call (join_DT _ _ _ _ _ _)))
section
set_option maxRecDepth 100000
set_option maxHeartbeats 8000000
/-! texts in lists -/
theorem datAll_strs {news : Led} {vs : List Value} {ns : List Str} (h : DatAll news vs (ns.map Dat.str)) {i : Nat} {v : Value} (hv : vs[i]? = some v) : ∃ n t, ns[i]? = some n ∧ v = .str n t := by
  induction ns generalizing vs i with
  | nil => cases h; cases hv
  | cons n r ih =>
    cases h with
    | cons h1 h2 =>
      cases i with
      | zero =>
        cases h1
        cases hv
        exact ⟨_, _, rfl, rfl⟩
      | succ i => exact ih h2 hv
theorem datAll_len {news : Led} {vs : List Value} {ns : List Str} (h : DatAll news vs (ns.map Dat.str)) : vs.length = ns.length := by rw [h.length, List.length_map]
noncomputable abbrev dS (ns : List Str) : Dat := .list (ns.map Dat.str)
theorem joinF_len (x y : Str) : (joinF x y).length ≤ x.length + y.length + 1 := by
  unfold joinF
  split
  · omega
  · split
    · omega
    · split
      · rw [Str.length_append]; omega
      · rw [Str.length_append, Str.length_append]
        have : (Str.ofString "/").length = 1 := by decide +kernel
        omega
noncomputable def lpathF (top : Str) (ns : List Str) : Str := ns.foldl joinF (Str.ofString "/" ++ top)
theorem lpath_DT (w : World) (mean : ExcName → Option Value) (mg mb : Str → Option Value) (top : Str) (ns : List Str) : DT True (top.length ≤ 10 ∧ ns.length ≤ 10 ∧ ∀ n ∈ ns, n.length ≤ 10) w mean mg mb 268 3 [.str top, dS ns] (.str (lpathF top ns)) := by
  refine DT.mk fun news vs0 hD hpre => ?_
  apply iv2sl hD; intro t a vs nn hm hvs
  refine VT.enter [(Str.ofString "names", .ref a), (Str.ofString "top", .str top t)] (H := ?_)
  intro A outer A₀ base g L s Q hh hA hdp hu B mf F X N T hret Mk vk
  have ht := hpre.1
  have hn := hpre.2.1
  have hns := hpre.2.2
  have hbase : (lpathF top (ns.take 0)).length ≤ 11 + 11 * 0 := by
    show (Str.ofString "/" ++ top).length ≤ _
    rw [Str.length_append]
    have : (Str.ofString "/").length = 1 := by decide +kernel
    omega
  k_steps
  rename Fr _ _ _ _ => F9
  rename News _ _ _ _ => N9
  refine iter_list (vs := vs) (fun i m nx => (∀ p ∈ news, p ∈ nx) ∧ ∃ px tx, Kn m [(Str.ofString "path", .str px tx)] ∧ px = lpathF top (ns.take i) ∧ px.length ≤ 11 + 11 * i) hh (by assumption) F9 N9 (fun _ _ _ _ _ h => go_name h) ⟨fun _ h => h, _, _, ⟨rfl, trivial⟩, rfl, hbase⟩ ?turn ?done
  case turn =>
    intro I i v m₁ nx h tk oI hlt hv hJ100 hI hl F1 N1
    refine hide fun P9 hP9 => ?_
    obtain ⟨hsub, px, tx, hkn, e, hpl⟩ := hJ100
    obtain ⟨nm, tn, hnm, rfl⟩ := datAll_strs hvs hv
    refine hP9 ?_
    clear P9 hP9
    have hi : i < ns.length := (List.getElem?_eq_some_iff.mp hnm).1
    have hnl : nm.length ≤ 10 := hns nm (List.mem_of_getElem? hnm)
    have F2 := hkn.fr F1
    clear F1 hkn
    k_steps
    rename Fr _ _ _ _ => F8
    rename News _ _ _ _ => N8
    refine EndT.next F8 N8 hI (fun p e => by cases e; exact hl) ⟨hsub, _, _, ⟨rfl, trivial⟩, ?_, ?_⟩
    · rw [e, List.take_add_one, hnm, lpathF, lpathF]
      simp only [Option.toList_some, List.foldl_append, List.foldl_cons, List.foldl_nil]
    · have := joinF_len px nm
      omega
  case done =>
    intro m₁ nx h tk hJ94 hl F1 N1
    refine hide fun P9 hP9 => ?_
    obtain ⟨hsub, px, tx, hkn, e, hpl⟩ := hJ94
    rw [datAll_len hvs, List.take_length] at e
    obtain rfl := e
    refine hP9 ?_
    clear P9 hP9
    have F2 := hkn.fr F1
    clear F1 hkn
    (try dsimp only)
    k_steps
    exact hret _ [] _ _ _ (by assumption) (cb_drop (by assumption) hsub) (fun _ h => nomatch h) (.str _ _)
end
section
open PySem.Builtin PySem.Builtin.Str
set_option maxRecDepth 100000
set_option maxHeartbeats 8000000
/-! plain facts of texts -/
noncomputable abbrev mkS (l : List Nat) : Str := ⟨l.toArray⟩
theorem mkS_len (l : List Nat) : (mkS l).length = l.length := by simp [Str.length]
theorem mkS_app (l k : List Nat) : mkS l ++ mkS k = mkS (l ++ k) := Str.ext' (by rw [Str.cps_append]; simp)
theorem slash_is : Str.ofString "/" = mkS [47] := by decide +kernel
theorem starts_1 (l : List Nat) (c : Nat) : Txt.startswith (mkS l) (mkS [c]) = decide (l[0]? = some c) := by
  have h := StrLaws.subAt_one (mkS l) c 0
  unfold Txt.startswith
  rw [Bool.eq_iff_iff, Bool.and_eq_true, decide_eq_true_eq, decide_eq_true_eq]
  simpa using h
theorem ends_1 (l : List Nat) (c : Nat) (hl : l ≠ []) : Txt.endswith (mkS l) (mkS [c]) = decide (l[l.length - 1]? = some c) := by
  have h := StrLaws.subAt_one (mkS l) c (l.length - 1)
  have hp : 0 < l.length := List.length_pos_iff.mpr hl
  unfold Txt.endswith
  rw [Bool.eq_iff_iff, Bool.and_eq_true, decide_eq_true_eq, decide_eq_true_eq]
  have e1 : (mkS l).length - (mkS [c]).length = l.length - 1 := by simp [Str.length]
  rw [e1]
  have e2 : (l.length - 1 + (⟨#[c]⟩ : Str).length ≤ (mkS l).length) ↔ (0 + (mkS [c]).length ≤ (mkS l).length) := by simp [Str.length]; omega
  constructor
  · rintro ⟨h1, h2⟩
    simpa using h.mp ⟨e2.mpr h1, h2⟩
  · intro h1
    have := h.mpr (by simpa using h1)
    exact ⟨e2.mp this.1, this.2⟩
theorem slice_to (l : List Nat) {k : Nat} (hk : k ≤ l.length) : Txt.slice (mkS l) none (some (k : Int)) = mkS (l.take k) := by
  have h := slice_closes_toL (x := mkS l) (j := (k : Int)) (by omega) (by rw [mkS_len]; omega)
  have h2 := eq_of_beq h
  rw [h2]
  simp
theorem rfind_1 (p q : List Nat) (c : Nat) (hq : c ∉ q) : Txt.rfind (mkS (p ++ c :: q)) (mkS [c]) = (p.length : Int) := by
  unfold Txt.rfind
  have hat : ∀ i, StrLaws.At (mkS (p ++ c :: q)) (mkS [c]) (mkS (p ++ c :: q)).length i ↔ (p ++ c :: q)[i]? = some c := fun i => by
    unfold StrLaws.At
    have := StrLaws.subAt_one (mkS (p ++ c :: q)) c i
    simpa using this
  rcases StrLaws.last_spec (mkS (p ++ c :: q)) (mkS [c]) with ⟨_, h⟩ | ⟨i, e, h1, h2⟩
  · exact absurd ((hat p.length).mpr (by simp)) (h _)
  · rw [e]
    have h1' := (hat i).mp h1
    have hi : i = p.length := by
      rcases Nat.lt_trichotomy i p.length with hlt | heq | hgt
      · exact absurd ((hat p.length).mpr (by simp)) (h2 _ hlt)
      · exact heq
      · exfalso
        rw [List.getElem?_append_right (by omega)] at h1'
        obtain ⟨j, hj⟩ : ∃ j, i - p.length = j + 1 := ⟨i - p.length - 1, by omega⟩
        rw [hj, List.getElem?_cons_succ] at h1'
        exact hq (List.mem_of_getElem? h1')
    subst hi
    rfl
theorem rstrip_1 (p : List Nat) (c : Nat) (hp : p ≠ []) (hl : p[p.length - 1]? ≠ some c) : Txt.rstripChars (mkS (p ++ [c])) (mkS [c]) = mkS p := by
  have hpos : 0 < p.length := List.length_pos_iff.mpr hp
  have hlen : (mkS (p ++ [c])).length = p.length + 1 := by simp [Str.length]
  have f := hi_facts (mkS [c]).cps.contains (mkS (p ++ [c])) 0 (Nat.zero_le _)
  obtain ⟨_, f1, f2, f3⟩ := f
  have hget : ∀ k, k < p.length → (mkS (p ++ [c])).cps.getD k 0 = p[k]?.getD 0 := fun k hk => by
    simp [List.getElem?_append_left hk]
  have hc : ∀ v, (mkS [c]).cps.contains v = true ↔ v = c := fun v => by simp
  have hh : stripHi (mkS [c]).cps.contains true (mkS (p ++ [c])) 0 = p.length := by
    rcases Nat.lt_trichotomy (stripHi (mkS [c]).cps.contains true (mkS (p ++ [c])) 0) p.length with hlt | heq | hgt
    · exfalso
      have h1 := f2 (p.length - 1) (by omega) (by rw [hlen]; omega)
      rw [hget _ (by omega), hc] at h1
      have h3 : p[p.length - 1]? = some (p[p.length - 1]'(by omega)) := List.getElem?_eq_getElem (by omega)
      rw [h3] at h1 hl
      exact hl (congrArg some h1)
    · exact heq
    · exfalso
      have he : stripHi (mkS [c]).cps.contains true (mkS (p ++ [c])) 0 = p.length + 1 := by omega
      rcases f3 with f3 | f3
      · omega
      · rw [he] at f3
        simp at f3
  unfold Txt.rstripChars Txt.stripBy
  have hlo : stripLo (mkS [c]).cps.contains false (mkS (p ++ [c])) = 0 := rfl
  have hs : stripSame (mkS [c]).cps.contains false true (mkS (p ++ [c])) = false := by
    unfold stripSame
    rw [hlo, hh, hlen]
    simp
  rw [hs]
  simp only [Bool.false_eq_true, if_false]
  unfold PySem.stripped
  rw [hlo, hh]
  refine StrLaws.mk_of_toList ?_
  rw [StrLaws.strSub_toList]
  simp
theorem mul_all (c : Nat) : ∀ (n : Nat) (acc : Array Nat), (∀ v ∈ acc.toList, v = c) → ∀ v ∈ ((List.replicate n #[c]).foldl (· ++ ·) acc).toList, v = c
  | 0, acc, h => h
  | n + 1, acc, h => by
    rw [List.replicate_succ, List.foldl_cons]
    refine mul_all c n _ fun v hv => ?_
    rw [Array.toList_append, List.mem_append] at hv
    rcases hv with hv | hv
    · exact h v hv
    · simpa using hv
theorem mul_1 (c : Nat) (n : Int) : ∀ v ∈ (Txt.mul (mkS [c]) n).cps.toList, v = c := by
  intro v hv
  unfold Txt.mul at hv
  split at hv
  · simp [Str.empty] at hv
  · split at hv
    · simpa using hv
    · exact mul_all c _ #[] (by simp) v hv
theorem dirF_path (p q : List Nat) (hp : p ≠ []) (hl : p[p.length - 1]? ≠ some 47) (hq : 47 ∉ q) : dirF (mkS (p ++ 47 :: q)) = mkS p := by
  have hpos : 0 < p.length := List.length_pos_iff.mpr hp
  have hh : dirHead (mkS (p ++ 47 :: q)) = mkS (p ++ [47]) := by
    unfold dirHead
    rw [slash_is, rfind_1 p q 47 hq]
    have e : ((p.length : Int) + 1) = ((p.length + 1 : Nat) : Int) := by omega
    rw [e, slice_to _ (by simp)]
    congr 2
    rw [List.take_append, List.take_of_length_le (by omega)]
    simp
  unfold dirF
  rw [hh]
  have h1 : ¬ (mkS (p ++ [47])).length = 0 := by rw [mkS_len]; simp
  rw [if_neg h1]
  have h2 : (mkS (p ++ [47]) != Txt.mul (Str.ofString "/") ((mkS (p ++ [47])).length : Int)) = true := by
    rw [bne_iff_ne]
    intro e
    rw [slash_is] at e
    have h3 : p[p.length - 1]? = some (p[p.length - 1]'(by omega)) := List.getElem?_eq_getElem (by omega)
    have h4 : p[p.length - 1]'(by omega) = 47 := by
      refine mul_1 47 ((mkS (p ++ [47])).length : Int) _ ?_
      rw [← e]
      simp
    exact hl (by rw [h3, h4])
  rw [if_pos h2, slash_is]
  exact rstrip_1 p 47 hp hl
/-! the three names, the paths, the hosts -/
inductive Nm | a | ab | ba
  deriving DecidableEq
noncomputable def Nm.cps : Nm → List Nat
  | .a => [97]
  | .ab => [97, 45, 98]
  | .ba => [98, 97]
noncomputable def Nm.str (x : Nm) : Str := mkS x.cps
noncomputable abbrev Node := List Nm
noncomputable def topL (b : Bool) : List Nat := if b then [55] else [99, 111, 109]
noncomputable def topS (b : Bool) : Str := mkS (topL b)
noncomputable def pathL (b : Bool) (n : Node) : List Nat := 47 :: (topL b ++ n.flatMap fun x => 47 :: x.cps)
noncomputable def pathS (b : Bool) (n : Node) : Str := mkS (pathL b n)
theorem topL_ne (b : Bool) : topL b ≠ [] := by cases b <;> simp [topL]
theorem topL_last (b : Bool) : (topL b)[(topL b).length - 1]? ≠ some 47 := by cases b <;> simp [topL]
theorem Nm.cps_ne (x : Nm) : x.cps ≠ [] := by cases x <;> simp [Nm.cps]
theorem Nm.cps_last (x : Nm) : x.cps[x.cps.length - 1]? ≠ some 47 := by cases x <;> simp [Nm.cps]
theorem Nm.cps_no (x : Nm) : 47 ∉ x.cps := by cases x <;> simp [Nm.cps]
theorem Nm.cps_no46 (x : Nm) : 46 ∉ x.cps := by cases x <;> simp [Nm.cps]
theorem Nm.len (x : Nm) : 1 ≤ x.cps.length ∧ x.cps.length ≤ 3 := by cases x <;> simp [Nm.cps]
theorem topL_len (b : Bool) : 1 ≤ (topL b).length ∧ (topL b).length ≤ 3 := by cases b <;> simp [topL]
theorem last_app {l k : List Nat} {c : Nat} (hk : k ≠ []) (h : k[k.length - 1]? ≠ some c) : (l ++ k)[(l ++ k).length - 1]? ≠ some c := by
  have : 0 < k.length := List.length_pos_iff.mpr hk
  rw [List.getElem?_append_right (by rw [List.length_append]; omega)]
  have e : (l ++ k).length - 1 - l.length = k.length - 1 := by rw [List.length_append]; omega
  rw [e]
  exact h
theorem pathL_snoc (b : Bool) (n : Node) (x : Nm) : pathL b (n ++ [x]) = pathL b n ++ 47 :: x.cps := by simp [pathL]
theorem pathL_ne (b : Bool) (n : Node) : pathL b n ≠ [] := by simp [pathL]
theorem pathL_last (b : Bool) (n : Node) : (pathL b n)[(pathL b n).length - 1]? ≠ some 47 := by
  rcases List.eq_nil_or_concat n with rfl | ⟨n, x, rfl⟩
  · have e : pathL b [] = [47] ++ topL b := by simp [pathL]
    rw [e]
    exact last_app (topL_ne b) (topL_last b)
  · rw [List.concat_eq_append, pathL_snoc]
    have e : pathL b n ++ 47 :: x.cps = (pathL b n ++ [47]) ++ x.cps := by simp
    rw [e]
    exact last_app x.cps_ne x.cps_last
theorem dir_pathS (b : Bool) (n : Node) (x : Nm) : dirF (pathS b (n ++ [x])) = pathS b n := by
  unfold pathS
  rw [pathL_snoc]
  exact dirF_path _ _ (pathL_ne b n) (pathL_last b n) x.cps_no
theorem join_pathS (b : Bool) (n : Node) (x : Nm) : joinF (pathS b n) x.str = pathS b (n ++ [x]) := by
  unfold joinF
  have h1 : Txt.startswith x.str (Str.ofString "/") = false := by
    rw [slash_is, Nm.str, starts_1]
    cases x <;> simp [Nm.cps]
  have h2 : ¬ ((pathS b n).length : Int) = 0 := by
    rw [pathS, mkS_len, pathL, List.length_cons]; omega
  have h3 : Txt.endswith (pathS b n) (Str.ofString "/") = false := by
    rw [slash_is, pathS, ends_1 _ _ (pathL_ne b n)]
    exact decide_eq_false (pathL_last b n)
  rw [h1, if_neg (by decide), if_neg h2, h3, if_neg (by decide), slash_is, pathS, pathS, Nm.str, mkS_app, mkS_app, pathL_snoc]
  rfl
theorem path_0 (b : Bool) : Str.ofString "/" ++ topS b = pathS b [] := by
  rw [slash_is, topS, mkS_app]
  simp [pathS, pathL]
theorem lpath_pathS (b : Bool) (n : Node) : lpathF (topS b) (n.map Nm.str) = pathS b n := by
  unfold lpathF
  rw [path_0]
  have : ∀ (k r : Node), (r.map Nm.str).foldl joinF (pathS b k) = pathS b (k ++ r) := by
    intro k r
    induction r generalizing k with
    | nil => simp
    | cons x r ih => rw [List.map_cons, List.foldl_cons, join_pathS, ih]; simp
  simpa using this [] n
theorem flat_len (n : Node) : (n.flatMap fun x => 47 :: x.cps).length ≤ 4 * n.length := by
  induction n with
  | nil => simp
  | cons x r ih =>
    rw [List.flatMap_cons, List.length_append, List.length_cons, List.length_cons]
    have := x.len
    omega
theorem pathS_len (b : Bool) (n : Node) : (pathS b n).length ≤ 4 + 4 * n.length := by
  rw [pathS, mkS_len, pathL, List.length_cons, List.length_append]
  have := flat_len n
  have := topL_len b
  omega
end
section
set_option maxRecDepth 100000
set_option maxHeartbeats 8000000
/-! split, reverse, join -/
theorem are_drop {vs : List Value} {ps : List Str} (h : StrsAre vs ps) (k : Nat) : StrsAre (vs.drop k) (ps.drop k) := by
  induction k generalizing vs ps with
  | zero => exact h
  | succ k ih => cases h with
    | nil => exact .nil
    | cons y t r => exact ih r
theorem are_app {vs ws : List Value} {ps qs : List Str} (h : StrsAre vs ps) (g : StrsAre ws qs) : StrsAre (vs ++ ws) (ps ++ qs) := by
  induction h with
  | nil => exact g
  | cons y t r ih => exact .cons y t ih
theorem are_rev {vs : List Value} {ps : List Str} (h : StrsAre vs ps) : StrsAre vs.reverse ps.reverse := by
  induction h with
  | nil => exact .nil
  | cons y t r ih => rw [List.reverse_cons, List.reverse_cons]; exact are_app ih (.cons y t .nil)
theorem StrVs.are {vs : List Value} {ps : List Str} (h : StrVs vs ps) : StrsAre vs ps := by
  induction h with
  | nil => exact .nil
  | cons r ih => exact .cons _ _ ih
theorem StrVs.ofAre {vs : List Value} {ps : List Str} (h : StrsAre vs ps) : StrVs vs ps := by
  induction h with
  | nil => exact .nil
  | cons y t r ih => exact .cons ih
theorem are_dat {news : Led} {vs : List Value} {ps : List Str} (h : StrsAre vs ps) : DatAll news vs (ps.map Dat.str) := by
  induction h with
  | nil => exact .nil
  | cons y t r ih => exact .cons (.str _ _) ih
section
variable {prog : Program} {w : World} {A : Around} {E : Value → Shared → Prop} {s : Shared} {h₀ : Heap} {L : Addr} {m : Str → Option Value} {news : Led} {value slice : Expr} {l : Addr} {vs : List Value} {nn : Nat} {u : Tok} {Q : Value → Shared → Prop}
theorem split_led {x y : Str} {ps : List Str} {t : Tok} (F : Fr h₀ L s.heap m := by k_asm) (N : News h₀ L s.heap news := by k_asm) (hy : (y.length == 0) = false := by decide) (e : Txt.split x y = ps := by with_reducible assumption) (hx : x.length ≤ 1000 := by omega)
    (h : ∀ D vs h' k, StrsAre vs ps → vs.length = ps.length → (∀ p ∈ news, p.1 < D) → Fr h₀ L h' m → News h₀ L h' ((D, listOf vs.toArray 0) :: news) → Q (.ref D) { s with heap := h', toks := k }) :
    wpAny (model prog w) A (call (.builtin "str.split") [.str x t, .str y u]) Q E s :=
  KSpl.split1 F N hy (fun D l h' k e1 a F' N' l1 => by
    rw [e1, e] at a
    exact h D _ h' k a a.length l1 F' N') (by rw [sizeLine_eq]; omega)
theorem rev_led {ops : List Value} (F : Fr h₀ L s.heap m) (N : News h₀ L s.heap news) (hm : (l, listOf vs.toArray nn) ∈ news) (hz : vs.length ≤ 1000)
    (h : ∀ D h', (∀ p ∈ news, p.1 < D) → Fr h₀ L h' m → News h₀ L h' ((D, listOf vs.reverse.toArray 0) :: news) → Q (.ref D) { s with heap := h' })
    (hs : subscripted slice false (.ref l) (.ref s.heap.objs.size) = operate ops (getItem (.ref l) (.ref s.heap.objs.size))) (ht : ∀ r, letTemporaryGo value (.ref l) r = pure ()) :
    wpAny (model prog w) A (subscriptTail value slice (.ref l) (.ref s.heap.objs.size)) Q E { s with heap := s.heap.push { cls := .type "slice", data := .fields #[.none, .none, .int (-1) u] } } :=
  krv_lit F N (isL N hm) (IsPart.int _ _) rfl (fun D h' F' N' l1 => h D h' l1 F' N') hs ht (by rw [sizeLine_eq, List.size_toArray]; omega)
theorem join_led {x : Str} {ys : List Str} (N : News h₀ L s.heap news := by k_asm) (hm : (l, listOf vs.toArray nn) ∈ news := by tb_src) (hi : StrsAre vs ys := by (repeat (first | assumption | apply are_rev | apply are_drop | apply are_app))) (hsep : x.length ≤ 16 := by decide) (hw : (ys.map (·.length)).sum + ys.length ≤ 1048576 := by z_lens)
    (h : ∀ t' k, Q (.str (Txt.join x ys) t') { s with toks := k }) : wpAny (model prog w) A (call (.builtin "str.join") [.str x u, .ref l]) Q E s :=
  join_listW (isL N hm) hi hsep hw h
end
section
variable {prog : Program} {w : World} {A : Around} {E : Value → Shared → Prop} {s : Shared} {hp h₀ : Heap} {L : Addr} {m : Str → Option Value} {news : Led} {value slice : Expr} {l : Addr} {vs : List Value} {nn : Nat} {k : Int} {u : Tok} {Q : Value → Shared → Prop}
theorem slice_toX {tk : Nat} (F : Fr h₀ L hp m := by k_asm) (N : News h₀ L hp news := by k_asm) (hm : (l, listOf vs.toArray nn) ∈ news := by tb_src) (h0 : 0 ≤ k := by omega) (hz : vs.length ≤ 1000 := by z_lens)
    (h : ∀ D h', (∀ p ∈ news, p.1 < D) → Fr h₀ L h' m → News h₀ L h' ((D, listOf (vs.take k.toNat).toArray 0) :: news) → Q (.ref D) { s with heap := h', toks := tk })
    (hs : subscripted slice false (.ref l) (.ref hp.objs.size) = operate [.ref hp.objs.size, .ref l] (getItem (.ref l) (.ref hp.objs.size)) := by with_unfolding_all rfl) (ht : ∀ r, letTemporaryGo value (.ref l) r = pure () := by (intro _; with_unfolding_all rfl)) :
    wpAny (model prog w) A (subscriptTail value slice (.ref l) (.ref hp.objs.size)) Q E { s with heap := hp.push { cls := .type "slice", data := .fields #[.none, .int k u, .none] }, toks := tk } :=
  slice_to_led (s := { s with heap := hp, toks := tk }) F N hm h0 hz h hs ht
theorem slice_fromX {tk : Nat} (F : Fr h₀ L hp m := by k_asm) (N : News h₀ L hp news := by k_asm) (hm : (l, listOf vs.toArray nn) ∈ news := by tb_src) (h0 : 0 ≤ k := by omega) (hz : vs.length ≤ 1000 := by z_lens)
    (h : ∀ D h', (∀ p ∈ news, p.1 < D) → Fr h₀ L h' m → News h₀ L h' ((D, listOf (vs.drop k.toNat).toArray 0) :: news) → Q (.ref D) { s with heap := h', toks := tk })
    (hs : subscripted slice false (.ref l) (.ref hp.objs.size) = operate [.ref hp.objs.size, .ref l] (getItem (.ref l) (.ref hp.objs.size)) := by with_unfolding_all rfl) (ht : ∀ r, letTemporaryGo value (.ref l) r = pure () := by (intro _; with_unfolding_all rfl)) :
    wpAny (model prog w) A (subscriptTail value slice (.ref l) (.ref hp.objs.size)) Q E { s with heap := hp.push { cls := .type "slice", data := .fields #[.int k u, .none, .none] }, toks := tk } :=
  slice_from_led (s := { s with heap := hp, toks := tk }) F N hm h0 hz h hs ht
theorem revX {tk : Nat} {ops : List Value} (F : Fr h₀ L hp m := by k_asm) (N : News h₀ L hp news := by k_asm) (hm : (l, listOf vs.toArray nn) ∈ news := by tb_src) (hz : vs.length ≤ 1000 := by z_lens)
    (h : ∀ D h', (∀ p ∈ news, p.1 < D) → Fr h₀ L h' m → News h₀ L h' ((D, listOf vs.reverse.toArray 0) :: news) → Q (.ref D) { s with heap := h', toks := tk })
    (hs : subscripted slice false (.ref l) (.ref hp.objs.size) = operate ops (getItem (.ref l) (.ref hp.objs.size)) := by with_unfolding_all rfl) (ht : ∀ r, letTemporaryGo value (.ref l) r = pure () := by (intro _; with_unfolding_all rfl)) :
    wpAny (model prog w) A (subscriptTail value slice (.ref l) (.ref hp.objs.size)) Q E { s with heap := hp.push { cls := .type "slice", data := .fields #[.none, .none, .int (-1) u] }, toks := tk } :=
  rev_led (s := { s with heap := hp, toks := tk }) F N hm hz h hs ht
end
end
local macro_rules | `(tactic| tb_src) => `(tactic| (repeat (first | assumption | exact List.Mem.head _ | refine List.Mem.tail _ ?_)))
local macro_rules | `(tactic| walk_at "subscriptTail") => `(tactic| row_wit1 item_led)
local macro_rules | `(tactic| walk_at "call builtin:len") => `(tactic| row_wit1 len_led)
local macro_rules | `(tactic| walk_at "binaryOp Add ref ref") => `(tactic| row_wit1 add_led)
local macro_rules | `(tactic| walk_at "subscriptTail Name BinOp ref int") => `(tactic| row_wit1 item_led)
local macro_rules | `(tactic| walk_at "subscriptTail Name Name ref int") => `(tactic| row_wit1 item_led)
section
set_option maxRecDepth 100000
set_option maxHeartbeats 8000000
noncomputable def rungsL (b : Bool) (n : Node) : List Str := (List.range (n.length + 1)).map fun i => pathS b (n.take i)
def rungsJ (b : Bool) (n : Node) (news : Led) (i : Nat) (m : Str → Option Value) (nx : Led) : Prop :=
  (∀ p ∈ news, p ∈ nx) ∧ ∃ a nn t' vs', Kn m [(Str.ofString "rungs", .ref a)] ∧ (∀ p ∈ news, p.1 < a) ∧ (a, listOf (Value.str (pathS b (n.take (n.length - i))) t' :: vs').toArray nn) ∈ nx ∧ DatAll nx vs' (((rungsL b n).drop (n.length - i + 1)).map Dat.str)
section
variable {b : Bool} {n : Node} {news nx : Led} {i : Nat} {m : Str → Option Value} {a : Addr} {nn t' : Nat} {vs' : List Value}
theorem rungsJ.mk' (h1 : ∀ p ∈ news, p ∈ nx) (h2 : m (Str.ofString "rungs") = some (.ref a)) (h3 : ∀ p ∈ news, p.1 < a) (h4 : (a, listOf (Value.str (pathS b (n.take (n.length - i))) t' :: vs').toArray nn) ∈ nx) (h5 : DatAll nx vs' (((rungsL b n).drop (n.length - i + 1)).map Dat.str)) : rungsJ b n news i m nx :=
  ⟨h1, a, nn, t', vs', ⟨h2, trivial⟩, h3, h4, h5⟩
theorem rungsJ.el {h₀ h : Heap} {L : Addr} {P : Prop} (H : rungsJ b n news i m nx) (F : Fr h₀ L h m) (h : ∀ a nn t' vs', Fr h₀ L h (upd (Str.ofString "rungs") (.ref a) m) → (∀ p ∈ news, p ∈ nx) → (∀ p ∈ news, p.1 < a) → (a, listOf (Value.str (pathS b (n.take (n.length - i))) t' :: vs').toArray nn) ∈ nx → DatAll nx vs' (((rungsL b n).drop (n.length - i + 1)).map Dat.str) → P) : P := by
  obtain ⟨h1, a, nn, t', vs', hk, h3, h4, h5⟩ := H
  exact h a nn t' vs' (hk.fr F) h1 h3 h4 h5
end
theorem range_small (n : Nat) (hn : n ≤ 1000) : Builtin.Range.small 0 n 1 = true := by
  unfold Builtin.Range.small Builtin.Range.rangeFitsLong Builtin.Range.rangeSize
  simp only [Bool.and_eq_true, decide_eq_true_eq]
  refine ⟨⟨⟨?_, ?_⟩, ?_⟩, ?_⟩ <;> (try split) <;> (try split) <;> simp <;> omega
theorem range_size (n : Nat) : Builtin.Range.rangeSize 0 n 1 = (n : Int) := by
  unfold Builtin.Range.rangeSize
  simp
  omega
theorem datAll_strs_any {nx nx' : Led} {vs : List Value} {ns : List Str} (h : DatAll nx vs (ns.map Dat.str)) : DatAll nx' vs (ns.map Dat.str) := by
  induction ns generalizing vs with
  | nil => cases h; exact .nil
  | cons n r ih =>
    cases h with
    | cons h1 h2 => cases h1; exact .cons (.str _ _) (ih h2)
theorem rungsL_get (b : Bool) (n : Node) {k : Nat} (hk : k ≤ n.length) : (rungsL b n).drop k = pathS b (n.take k) :: (rungsL b n).drop (k + 1) := by
  have hl : k < (rungsL b n).length := by simp [rungsL]; omega
  rw [List.drop_eq_getElem_cons hl]
  congr 1
  simp [rungsL]
theorem take_pred (n : Node) {i : Nat} (hi : i < n.length) : ∃ x, n.take (n.length - i) = n.take (n.length - (i + 1)) ++ [x] := by
  have hk : n.length - (i + 1) < n.length := by omega
  have e : n.length - i = n.length - (i + 1) + 1 := by omega
  exact ⟨n[n.length - (i + 1)], by rw [e, List.take_succ_eq_append_getElem hk]⟩
theorem dir_take (b : Bool) {n : Node} {i : Nat} (hi : i < n.length) : dirF (pathS b (n.take (n.length - i))) = pathS b (n.take (n.length - (i + 1))) := by
  obtain ⟨x, ex⟩ := take_pred n hi
  rw [ex]; exact dir_pathS b _ x
theorem rungs_DTF (w : World) (mean : ExcName → Option Value) (mg mb : Str → Option Value) (b : Bool) (n : Node) : DTF True (n.length ≤ 6) w mean mg mb 282 3 [.str (pathS b n), .int n.length] (dS (rungsL b n)) := by
  refine DTF.mk fun news vs hD hpre => ?_
  apply iv2si hD; intro t u
  refine VT.enter [(Str.ofString "count", .int n.length u), (Str.ofString "path", .str (pathS b n) t)] (H := ?_)
  intro A outer A₀ base g L s Q hh hA hdp hu B mf F X N T hret Mk vk
  have hpl := pathS_len b n
  k_steps
  rename Fr _ _ _ _ => F9
  rename News _ _ _ _ => N9
  rename IsRange _ _ _ _ _ _ _ _ => R9
  have hlen : (rungsL b n).length = n.length + 1 := by simp [rungsL]
  refine iter_range (n := n.length) (rungsJ b n news) hh R9 (range_small _ (by omega)) (range_size _) F9 N9 (fun _ _ _ _ _ h => go_name h) ?start ?turn ?done
  case start =>
    refine rungsJ.mk' (t' := t) (vs' := []) (nn := 0) (fun _ h => .tail _ h) rfl (by assumption) ?_ ?_
    · rw [Nat.sub_zero, List.take_length]; exact .head _
    · rw [Nat.sub_zero, List.drop_of_length_le (by omega)]; exact .nil
  case turn =>
    intro I i t₁ m₁ nx h tk oI hlt hi hJ100 hI F1 N1
    refine hJ100.el F1 fun a nn t' vs' F2 hsub hla hm hd => ?_
    clear F1 hJ100
    have hpl2 := pathS_len b (n.take (n.length - i))
    have hle : (n.take (n.length - i)).length ≤ n.length := by simp
    have hvl := hd.length
    rw [List.length_map, List.length_drop, hlen] at hvl
    k_steps
    rename Fr _ _ _ _ => F8
    rename News _ _ _ _ => N8
    rename ∀ p ∈ (_ :: _ :: nx), p.1 < _ => l8
    have e := dir_take b hi
    rw [e] at N8
    refine EndT.next F8 (nx := (_, _) :: nx) (cb_drop N8 (by kcj_all)) (fc (Nat.ne_of_gt (l8 (I, oI) (.tail _ (.head _)))) hI) (fun _ e => nomatch e) (rungsJ.mk' (fun p hp => .tail _ (hsub p hp)) rfl ?_ (.head _) ?_)
    · exact fun p hp => l8 p (.tail _ (.tail _ (hsub p hp)))
    · have e2 : n.length - (i + 1) + 1 = n.length - i := by omega
      rw [e2, rungsL_get b n (by omega), List.map_cons]
      exact .cons (.str _ _) (datAll_strs_any hd)
  case done =>
    intro m₁ nx h tk hJ94 F1 N1
    refine hJ94.el F1 fun a nn t' vs' F2 hsub hla hm hd => ?_
    clear F1 hJ94
    (try dsimp only)
    k_steps
    rw [Nat.sub_self] at hm hd
    refine hret _ [(a, listOf (Value.str (pathS b (n.take 0)) t' :: vs').toArray nn)] _ _ _ (by assumption) (cb_drop (by assumption) (fc hm hsub)) (fc hla fun _ h => nomatch h) (DatIn.list (.head _) (ds := (rungsL b n).map Dat.str) ?_)
    · have e0 := rungsL_get b n (Nat.zero_le _)
      rw [List.drop_zero] at e0
      rw [e0, List.map_cons]
      exact .cons (.str _ _) (datAll_strs_any hd)
theorem rungs_DT (w : World) (mean : ExcName → Option Value) (mg mb : Str → Option Value) (b : Bool) (n : Node) : DT True (n.length ≤ 6) w mean mg mb 282 3 [.str (pathS b n), .int n.length] (dS (rungsL b n)) := (rungs_DTF w mean mg mb b n).toDT
end
local macro_rules | `(tactic| walk_at "compareOp Lt ref ref") => `(tactic| row_wit1 lt_led)
local macro_rules | `(tactic| walk_at "compareOp Gt ref ref") => `(tactic| row_wit1 gt_led)
section
set_option maxRecDepth 100000
set_option maxHeartbeats 8000000
noncomputable def cmpL (xs ys : List Str) : Int := PyProof.Rows.b2i (gtL xs ys) - PyProof.Rows.b2i (ltL xs ys)
theorem cmp_DT (w : World) (mean : ExcName → Option Value) (mg mb : Str → Option Value) (xs ys : List Str) : DT True True w mean mg mb 247 1 [dS xs, dS ys] (.int (cmpL xs ys)) := by
  refine DT.mk fun news vs hD hpre => ?_
  apply iv2ll hD; intro a1 vs1 n1 a2 vs2 n2 hm1 hv1 hm2 hv2
  refine VT.enter [(Str.ofString "y", .ref a2), (Str.ofString "x", .ref a1)] (H := ?_)
  intro A outer A₀ base g L s Q hh hA hdp hu B mf F X N T hret Mk vk
  have hs1 := StrVs.of hv1
  have hs2 := StrVs.of hv2
  k_steps
  exact hret _ [] _ _ _ (by assumption) (cb_drop (by assumption) (by kcj_all)) (fun _ h => nomatch h) (.int _ _)
end
local macro_rules | `(tactic| walk_at "call ref") => `(tactic| (k_here; ktf_call (cmp_DT _ _ _ _ _ _)))
local macro_rules | `(tactic| walk_at "subscriptTail Name Slice ref ref") => `(tactic| row_wit1 revX)
local macro_rules | `(tactic| walk_at "subscriptTail Name Slice ref ref") => `(tactic| row_wit1 slice_fromX)
local macro_rules | `(tactic| walk_at "subscriptTail Name Slice ref ref") => `(tactic| row_wit1 slice_toX)
local macro_rules | `(tactic| walk_at "exec While BoolOp cons nil") => `(tactic| (k_here; refine halt ?_))
local macro_rules | `(tactic| walk_at "exec While Compare cons nil") => `(tactic| (k_here; refine halt ?_))
local macro_rules | `(tactic| walk_at "exec While Name cons nil") => `(tactic| (k_here; refine halt ?_))
local macro_rules | `(tactic| walk_at "exec While Constant cons nil") => `(tactic| (k_here; refine halt ?_))
section
set_option maxRecDepth 100000
set_option maxHeartbeats 8000000
noncomputable abbrev dLL (xss : List (List Str)) : Dat := .list (xss.map dS)
theorem datIn_ref {news : Led} {v : Value} {ds : List Dat} (h : DatIn news v (.list ds)) : ∃ a, v = .ref a := by cases h; exact ⟨_, rfl⟩
noncomputable def insK (rows : List (List Str)) (thing : List Str) : Nat → Nat
  | 0 => 0
  | k + 1 => if cmpL (rows[k]?.getD []) thing > 0 then insK rows thing k else k + 1
noncomputable def insL (rows : List (List Str)) (thing : List Str) : List (List Str) := rows.take (insK rows thing rows.length) ++ [thing] ++ rows.drop (insK rows thing rows.length)
theorem datAll_get {news : Led} {vs : List Value} {xss : List (List Str)} (h : DatAll news vs (xss.map dS)) {i : Nat} {xs : List Str} (hx : xss[i]? = some xs) : ∃ a, vs[i]? = some (.ref a) ∧ DatIn news (.ref a) (dS xs) := by
  induction xss generalizing vs i with
  | nil => cases hx
  | cons y r ih =>
    cases h with
    | cons h1 h2 =>
      cases i with
      | zero =>
        cases hx
        obtain ⟨a, rfl⟩ := datIn_ref h1
        exact ⟨a, rfl, h1⟩
      | succ i => exact ih h2 hx
theorem datAll_take {news : Led} {vs : List Value} {ds : List Dat} (h : DatAll news vs ds) (k : Nat) : DatAll news (vs.take k) (ds.take k) := by
  induction k generalizing vs ds with
  | zero => simp only [List.take_zero]; exact .nil
  | succ k ih =>
    cases h with
    | nil => simp only [List.take_nil]; exact .nil
    | cons h r => simp only [List.take_succ_cons]; exact .cons h (ih r)
theorem datAll_drop {news : Led} {vs : List Value} {ds : List Dat} (h : DatAll news vs ds) (k : Nat) : DatAll news (vs.drop k) (ds.drop k) := by
  induction k generalizing vs ds with
  | zero => simpa only [List.drop_zero] using h
  | succ k ih =>
    cases h with
    | nil => simp only [List.drop_nil]; exact .nil
    | cons h r => simp only [List.drop_succ_cons]; exact ih r
/-- the end of a call that hands back a list made last -/
theorem list_end {h₀ : Heap} {L : Addr} {news rest : Led} {s : Shared} {Q : Flow → Shared → Prop} {ds : List Dat} {D : Addr} {vs : List Value} {nn : Nat} {h' : Heap} {tk' : Nat} {m' : Str → Option Value}
    (hret : ∀ v tl h' tk' m', Fr h₀ L h' m' → News h₀ L h' (tl ++ news) → (∀ p ∈ tl, ∀ q ∈ news, q.1 < p.1) → DatIn (tl ++ news) v (.list ds) → Q (.ret v) { s with heap := h', toks := tk' })
    (F : Fr h₀ L h' m') (N : News h₀ L h' ((D, listOf vs.toArray nn) :: rest)) (hsub : ∀ p ∈ news, p ∈ rest) (hlt : ∀ p ∈ news, p.1 < D) (hd : DatAll ((D, listOf vs.toArray nn) :: news) vs ds) :
    Q (.ret (.ref D)) { s with heap := h', toks := tk' } :=
  hret _ [(D, listOf vs.toArray nn)] _ _ _ F (cb_drop N (fc (.head _) fun p hp => .tail _ (hsub p hp))) (fc hlt fun _ h => nomatch h) (.list (.head _) hd)
def insX (news : Led) (a1 a2 : Addr) (k : Nat) (m : Str → Option Value) (nx : Led) : Prop :=
  (∀ p ∈ news, p ∈ nx) ∧ ∃ t, Kn m [(Str.ofString "k", .int k t), (Str.ofString "row", .ref a1), (Str.ofString "thing", .ref a2)]
theorem insX.el {news : Led} {a1 a2 : Addr} {k : Nat} {m : Str → Option Value} {nx : Led} {P : Prop} {h₀ h : Heap} {L : Addr} (H : insX news a1 a2 k m nx) (F : Fr h₀ L h m)
    (h : ∀ t, Fr h₀ L h (upd (Str.ofString "k") (.int k t) (upd (Str.ofString "row") (.ref a1) (upd (Str.ofString "thing") (.ref a2) m))) → (∀ p ∈ news, p ∈ nx) → P) : P := by
  obtain ⟨hs, t, hk⟩ := H
  exact h t (hk.fr F) hs
def insJ (rows : List (List Str)) (thing : List Str) (news : Led) (a1 a2 : Addr) (n : Nat) (m : Str → Option Value) (nx : Led) : Prop :=
  insX news a1 a2 n m nx ∧ n ≤ rows.length ∧ insK rows thing n = insK rows thing rows.length
theorem insK_t {rows : List (List Str)} {thing : List Str} {j : Nat} (hj : j < rows.length) (hk : insK rows thing (j + 1) = insK rows thing rows.length) (hc : cmpL rows[j] thing > 0) : insK rows thing j = insK rows thing rows.length := by
  rw [← hk]; simp only [insK]; rw [List.getElem?_eq_getElem hj, Option.getD_some, if_pos hc]
theorem insK_f {rows : List (List Str)} {thing : List Str} {j : Nat} (hj : j < rows.length) (hk : insK rows thing (j + 1) = insK rows thing rows.length) (hc : ¬ cmpL rows[j] thing > 0) : insK rows thing rows.length = j + 1 := by
  rw [← hk]; simp only [insK]; rw [List.getElem?_eq_getElem hj, Option.getD_some, if_neg hc]
theorem ins_dat {rows : List (List Str)} {thing : List Str} {news : Led} {D : Addr} {vs : List Value} {nn : Nat} {v : Value} (hv1 : DatAll news vs (rows.map dS)) (h3 : DatIn news v (dS thing)) :
    DatAll ((D, listOf (vs.take (insK rows thing rows.length) ++ [v] ++ vs.drop (insK rows thing rows.length)).toArray nn) :: news) (vs.take (insK rows thing rows.length) ++ [v] ++ vs.drop (insK rows thing rows.length)) ((insL rows thing).map dS) := by
  unfold insL
  rw [List.map_append, List.map_append, List.map_take, List.map_drop]
  have hs9 : ∀ {x : Addr × Obj}, ∀ p ∈ news, p ∈ x :: news := fun p hp => .tail _ hp
  exact DatAll.append (DatAll.append (datAll_take (DatAll.mono hs9 hv1) _) (.one (DatIn.mono hs9 h3))) (datAll_drop (DatAll.mono hs9 hv1) _)
theorem ins_DT (w : World) (mean : ExcName → Option Value) (mg mb : Str → Option Value) (rows : List (List Str)) (thing : List Str) : DT True (rows.length ≤ 100) w mean mg mb 261 3 [dLL rows, dS thing] (dLL (insL rows thing)) := by
  refine DT.mk fun news vs hD hpre => ?_
  apply iv2ll hD; intro a1 vs1 n1 a2 ws n2 hm1 hv1 hm2 hv2
  refine VT.enter [(Str.ofString "thing", .ref a2), (Str.ofString "row", .ref a1)] (H := ?_)
  intro A outer A₀ base g L s Q hh hA hdp hu B mf F X N T hret Mk vk
  have hl1 := hv1.length
  rw [List.length_map] at hl1
  k_steps
  refine Halt.go ?_
  rename Fr _ _ _ _ => F9
  rename News _ _ _ _ => N9
  refine While_exit (insJ rows thing news a1 a2) (insX news a1 a2 (insK rows thing rows.length)) rows.length F9 N9 ⟨⟨fun _ h => h, _, ⟨by rw [← hl1]; rfl, rfl, rfl, trivial⟩⟩, Nat.le_refl _, rfl⟩ ?_ ?done
  case done =>
    intro m₁ nx h tk hJ94 F1 N1
    refine hJ94.el F1 fun t F2 hsub => ?_
    clear F1 hJ94
    have hm1' := hsub _ hm1
    have hm2' := hsub _ hm2
    (try dsimp only)
    k_steps
    rename ∀ p ∈ (_ :: _ :: _ :: _ :: nx), p.1 < _ => l8
    rename Fr _ _ _ _ => F8
    rename News _ _ _ _ => N8
    exact list_end (s := s) hret F8 N8 (fun p hp => .tail _ (.tail _ (.tail _ (.tail _ (hsub p hp))))) (fun q hq => l8 q (.tail _ (.tail _ (.tail _ (.tail _ (hsub q hq)))))) (ins_dat hv1 (.list hm2 hv2))
  intro n m₁ nx h tk hJ95 F1 N1
  refine hJ95.1.el F1 fun t F2 hsub => ?_
  have hn := hJ95.2.1
  have hk := hJ95.2.2
  clear F1 hJ95
  have hm1' := hsub _ hm1
  have h3' := DatIn.mono hsub (.list hm2 hv2 : DatIn news (.ref a2) (dS thing))
  cases n with
  | zero =>
    k_steps
    exact ExitW.mk F2 N1 ⟨hsub, _, ⟨by rw [← hk]; rfl, rfl, rfl, trivial⟩⟩
  | succ j =>
    have hj : j < rows.length := hn
    refine (datAll_get hv1 (List.getElem?_eq_getElem hj)).elim fun a3 h93 => ?_
    have hv3 := h93.1
    have hd3' := DatIn.mono hsub h93.2
    clear h93
    have hx : vs1[(((j + 1 : Nat) : Int) - 1).toNat]? = some (.ref a3) := by
      have e : (((j + 1 : Nat) : Int) - 1).toNat = j := by omega
      rw [e]; exact hv3
    k_steps
    · rename Fr _ _ _ _ => F8
      rename News _ _ _ _ => N8
      have e : ((j + 1 : Nat) : Int) - 1 = (j : Int) := by omega
      exact EndW.next F8 N8 ⟨j, Nat.lt_succ_self _, ⟨hsub, _, ⟨congrArg (fun z => some (Value.int z _)) e, rfl, rfl, trivial⟩⟩, Nat.le_of_lt hj, insK_t hj hk (by with_reducible assumption)⟩
    · have e := insK_f hj hk (by with_reducible assumption)
      exact ExitW.mk (by assumption) (by assumption) ⟨hsub, t, ⟨by rw [e]; rfl, rfl, rfl, trivial⟩⟩
end
section
set_option maxRecDepth 100000
set_option maxHeartbeats 8000000
/-! the order of nodes -/
noncomputable def Nm.rk : Nm → Nat
  | .a => 0
  | .ab => 1
  | .ba => 2
theorem rk_inj {x y : Nm} (h : x.rk = y.rk) : x = y := by cases x <;> cases y <;> first | rfl | (exact absurd h (by decide))
/-- ahead of -/
def LtN : Node → Node → Prop
  | [], [] => False
  | [], _ :: _ => True
  | _ :: _, [] => False
  | x :: n, y :: k => x.rk < y.rk ∨ (x = y ∧ LtN n k)
theorem LtN.irr : ∀ n, ¬ LtN n n
  | [], h => h
  | x :: n, h => by
    rcases h with h | ⟨_, h⟩
    · omega
    · exact LtN.irr n h
theorem LtN.trans : ∀ {a b c : Node}, LtN a b → LtN b c → LtN a c
  | [], [], _, h, _ => h.elim
  | [], _ :: _, [], _, h => h.elim
  | [], _ :: _, _ :: _, _, _ => trivial
  | _ :: _, [], _, h, _ => h.elim
  | _ :: _, _ :: _, [], _, h => h.elim
  | x :: a, y :: b, z :: c, h, g => by
    rcases h with h | ⟨rfl, h⟩
    · rcases g with g | ⟨rfl, g⟩
      · exact .inl (by omega)
      · exact .inl h
    · rcases g with g | ⟨rfl, g⟩
      · exact .inl g
      · exact .inr ⟨rfl, h.trans g⟩
theorem LtN.tri : ∀ (a b : Node), LtN a b ∨ a = b ∨ LtN b a
  | [], [] => .inr (.inl rfl)
  | [], _ :: _ => .inl trivial
  | _ :: _, [] => .inr (.inr trivial)
  | x :: a, y :: b => by
    rcases Nat.lt_trichotomy x.rk y.rk with h | h | h
    · exact .inl (.inl h)
    · have := rk_inj h
      subst this
      rcases LtN.tri a b with h | rfl | h
      · exact .inl (.inr ⟨rfl, h⟩)
      · exact .inr (.inl rfl)
      · exact .inr (.inr (.inr ⟨rfl, h⟩))
    · exact .inr (.inr (.inl h))
theorem lt_app (n r : Node) (h : r ≠ []) : LtN n (n ++ r) := by
  induction n with
  | nil =>
    cases r with
    | nil => exact absurd rfl h
    | cons x r => trivial
  | cons x n ih => exact .inr ⟨rfl, ih⟩
/-- between a place and one that hangs at it, all lie below the place -/
theorem between {p l : Node} {x : Nm} (h1 : p = l ∨ LtN p l) (h2 : LtN l (p ++ [x])) : ∃ s, l = p ++ s ∧ (s = [] ∨ ∃ y t, s = y :: t ∧ y.rk < x.rk) := by
  induction p generalizing l with
  | nil =>
    refine ⟨l, rfl, ?_⟩
    cases l with
    | nil => exact .inl rfl
    | cons y t =>
      refine .inr ⟨y, t, rfl, ?_⟩
      rcases h2 with h | ⟨_, h⟩
      · exact h
      · cases t <;> exact h.elim
  | cons z p ih =>
    cases l with
    | nil => rcases h1 with h | h <;> cases h
    | cons y l =>
      rcases h2 with h2 | ⟨rfl, h2⟩
      · exfalso
        rcases h1 with h | h
        · cases h; omega
        · rcases h with h | ⟨rfl, h⟩ <;> omega
      · have h1' : p = l ∨ LtN p l := by
          rcases h1 with h | h
          · cases h; exact .inl rfl
          · rcases h with h | ⟨_, h⟩
            · omega
            · exact .inr h
        obtain ⟨s, rfl, hs⟩ := ih h1' h2
        exact ⟨s, rfl, hs⟩
/-! the program's order is this one -/
theorem str_inj {x y : Nm} (h : x.str = y.str) : x = y := by cases x <;> cases y <;> first | rfl | (exact absurd h (by decide +kernel))
theorem str_lt (x y : Nm) : ltS x.str y.str = decide (x.rk < y.rk) := by cases x <;> cases y <;> decide +kernel
theorem str_beq (x y : Nm) : (x.str == y.str) = decide (x = y) := by cases x <;> cases y <;> decide +kernel
theorem ltL_iff : ∀ (n k : Node), ltL (n.map Nm.str) (k.map Nm.str) = true ↔ LtN n k
  | [], [] => by simp [ltL, LtN]
  | [], _ :: _ => by simp [ltL, LtN]
  | _ :: _, [] => by simp [ltL, LtN]
  | x :: n, y :: k => by
    have ih := ltL_iff n k
    simp only [List.map_cons, ltL, LtN, str_beq, str_lt]
    by_cases h : x = y
    · subst h; simp [ih]
    · simp [h]
theorem gtL_iff : ∀ (n k : Node), gtL (n.map Nm.str) (k.map Nm.str) = true ↔ LtN k n
  | [], [] => by simp [gtL, LtN]
  | [], _ :: _ => by simp [gtL, LtN]
  | _ :: _, [] => by simp [gtL, LtN]
  | x :: n, y :: k => by
    have ih := gtL_iff n k
    simp only [List.map_cons, gtL, LtN, str_beq, str_lt]
    by_cases h : x = y
    · subst h; simp [ih]
    · have h' : ¬ y = x := fun e => h e.symm
      simp [h, h']
theorem cmp_lt {n k : Node} (h : LtN n k) : cmpL (n.map Nm.str) (k.map Nm.str) = -1 := by
  have h1 := (ltL_iff n k).mpr h
  have h2 : gtL (n.map Nm.str) (k.map Nm.str) = false := by
    rw [← Bool.not_eq_true, gtL_iff]
    exact fun g => LtN.irr _ (h.trans g)
  unfold cmpL
  rw [h1, h2]
  rfl
theorem cmp_gt {n k : Node} (h : LtN k n) : cmpL (n.map Nm.str) (k.map Nm.str) = 1 := by
  have h1 := (gtL_iff n k).mpr h
  have h2 : ltL (n.map Nm.str) (k.map Nm.str) = false := by
    rw [← Bool.not_eq_true, ltL_iff]
    exact fun g => LtN.irr _ (h.trans g)
  unfold cmpL
  rw [h1, h2]
  rfl
theorem cmp_eq (n : Node) : cmpL (n.map Nm.str) (n.map Nm.str) = 0 := by
  have h1 : gtL (n.map Nm.str) (n.map Nm.str) = false := by
    rw [← Bool.not_eq_true, gtL_iff]
    exact LtN.irr _
  have h2 : ltL (n.map Nm.str) (n.map Nm.str) = false := by
    rw [← Bool.not_eq_true, ltL_iff]
    exact LtN.irr _
  unfold cmpL
  rw [h1, h2]
  rfl
end
section
set_option maxRecDepth 100000
set_option maxHeartbeats 8000000
/-! rows in order -/
abbrev Sorted (l : List Node) : Prop := l.Pairwise LtN
theorem sorted_uniq : ∀ {l k : List Node}, Sorted l → Sorted k → (∀ x, x ∈ l ↔ x ∈ k) → l = k
  | [], [], _, _, _ => rfl
  | [], y :: k, _, _, h => absurd ((h y).mpr (.head _)) (by simp)
  | x :: l, [], _, _, h => absurd ((h x).mp (.head _)) (by simp)
  | x :: l, y :: k, hl, hk, h => by
    rw [Sorted, List.pairwise_cons] at hl hk
    have e : x = y := by
      rcases List.mem_cons.mp ((h x).mp (.head _)) with e | hx
      · exact e
      rcases List.mem_cons.mp ((h y).mpr (.head _)) with e | hy
      · exact e.symm
      · exact absurd ((hl.1 y hy).trans (hk.1 x hx)) (LtN.irr _)
    subst e
    rw [sorted_uniq hl.2 hk.2 fun z => ?_]
    constructor
    · intro hz
      rcases List.mem_cons.mp ((h z).mp (.tail _ hz)) with e | h'
      · subst e; exact absurd (hl.1 _ hz) (LtN.irr _)
      · exact h'
    · intro hz
      rcases List.mem_cons.mp ((h z).mpr (.tail _ hz)) with e | h'
      · subst e; exact absurd (hk.1 _ hz) (LtN.irr _)
      · exact h'
noncomputable abbrev nS (n : Node) : List Str := n.map Nm.str
noncomputable abbrev nSS (l : List Node) : List (List Str) := l.map nS
theorem insK_le (rows : List (List Str)) (t : List Str) : ∀ k, insK rows t k ≤ k
  | 0 => Nat.le_refl _
  | k + 1 => by
    unfold insK
    split
    · exact Nat.le_succ_of_le (insK_le rows t k)
    · exact Nat.le_refl _
theorem insK_spec (l : List Node) (t : Node) : ∀ k, k ≤ l.length → (∀ i (h : i < l.length), insK (nSS l) (nS t) k ≤ i → i < k → LtN t l[i]) ∧ (∀ i (h : i < l.length), i + 1 = insK (nSS l) (nS t) k → ¬ LtN t l[i])
  | 0, _ => ⟨fun i _ _ h => absurd h (by omega), fun i _ h => by simp [insK] at h⟩
  | k + 1, hk => by
    have hg : (nSS l)[k]?.getD [] = nS (l[k]'(by omega)) := by simp [show k < l.length by omega]
    obtain ⟨h1, h2⟩ := insK_spec l t k (by omega)
    unfold insK
    rw [hg]
    by_cases h : LtN t (l[k]'(by omega))
    · have e : cmpL (nS (l[k]'(by omega))) (nS t) > 0 := by rw [cmp_gt h]; decide
      rw [if_pos e]
      refine ⟨fun i hi a b => ?_, h2⟩
      by_cases hik : i = k
      · subst hik; exact h
      · exact h1 i hi a (by omega)
    · have e : ¬ cmpL (nS (l[k]'(by omega))) (nS t) > 0 := by
        rcases LtN.tri (l[k]'(by omega)) t with g | g | g
        · rw [cmp_lt g]; decide
        · rw [g, cmp_eq]; decide
        · exact absurd g h
      rw [if_neg e]
      refine ⟨fun i hi a b => absurd a (by omega), fun i hi e => ?_⟩
      have : i = k := by omega
      subst this
      exact h
theorem ins_spec (l : List Node) (t : Node) (hs : Sorted l) (ht : t ∉ l) : ∃ k, insL (nSS l) (nS t) = nSS k ∧ Sorted k ∧ ∀ x, x ∈ k ↔ x = t ∨ x ∈ l := by
  have hle := insK_le (nSS l) (nS t) (nSS l).length
  rw [List.length_map] at hle
  obtain ⟨h1, h2⟩ := insK_spec l t l.length (Nat.le_refl _)
  have hlen : (nSS l).length = l.length := by simp
  generalize hi : insK (nSS l) (nS t) l.length = j at h1 h2 hle
  refine ⟨l.take j ++ [t] ++ l.drop j, ?_, ?_, ?_⟩
  · unfold insL
    rw [hlen, hi]
    simp [List.map_take, List.map_drop]
  · have hA : ∀ a ∈ l.take j, LtN a t := by
      intro a ha
      obtain ⟨i, hi1, e⟩ := List.mem_iff_getElem.mp ha
      rw [List.length_take] at hi1
      rw [List.getElem_take] at e
      have hj : 0 < j := by omega
      have hjl : j - 1 < l.length := by omega
      have hn := h2 (j - 1) hjl (by omega)
      have hlt : LtN (l[j - 1]'hjl) t := by
        rcases LtN.tri (l[j - 1]'hjl) t with g | g | g
        · exact g
        · exact absurd (g ▸ List.getElem_mem hjl) ht
        · exact absurd g hn
      by_cases hij : i = j - 1
      · subst hij; rw [← e]; exact hlt
      · rw [← e]
        exact (List.pairwise_iff_getElem.mp hs i (j - 1) (by omega) hjl (by omega)).trans hlt
    have hB : ∀ b ∈ l.drop j, LtN t b := by
      intro b hb
      obtain ⟨i, hi1, e⟩ := List.mem_iff_getElem.mp hb
      rw [List.length_drop] at hi1
      rw [List.getElem_drop] at e
      rw [← e]
      exact h1 (j + i) (by omega) (by omega) (by omega)
    unfold Sorted
    rw [List.append_assoc, List.pairwise_append]
    refine ⟨hs.sublist (List.take_sublist _ _), ?_, ?_⟩
    · rw [List.singleton_append, List.pairwise_cons]
      exact ⟨hB, hs.sublist (List.drop_sublist _ _)⟩
    · intro a ha b hb
      rcases List.mem_append.mp hb with hb | hb
      · rw [List.mem_singleton.mp hb]; exact hA a ha
      · exact (hA a ha).trans (hB b hb)
  · intro x
    simp only [List.mem_append, List.mem_singleton]
    constructor
    · rintro ((h | h) | h)
      · exact .inr (List.mem_of_mem_take h)
      · exact .inl h
      · exact .inr (List.mem_of_mem_drop h)
    · rintro (h | h)
      · exact .inl (.inr h)
      · rw [← List.take_append_drop j l] at h
        rcases List.mem_append.mp h with h | h
        · exact .inl (.inl h)
        · exact .inr h
end
section
set_option maxRecDepth 100000
set_option maxHeartbeats 1000000
/-! the law's own frame -/
noncomputable def lawBody : List Stmt := match Challenge.pw_pd0179_01.main.body.getLast? with
  | some (.FunctionDef _ _ body _ _ _ _ _ _ _) => body
  | _ => []
noncomputable def lawSc : Scope := match Challenge.pw_pd0179_01.main.body.getLast? with
  | some (.FunctionDef _ _ _ _ _ _ sc _ _ _) => sc
  | _ => default
noncomputable abbrev lawE (L fa : Addr) (cd : Value) : Env := envOfC (Str.ofString "law") lawSc L fa cd
noncomputable abbrev lawA (L fa : Addr) (cd : Value) : Around := callerA.deeper (lawE L fa cd)
/-- the cells, and what the top's own tables are -/
noncomputable abbrev cellsL (L : Addr) (c5 c4 c3 c2 c1 : Obj) : Led := [(L + 1 + 1 + 1 + 1 + 1, c5), (L + 1 + 1 + 1 + 1, c4), (L + 1 + 1 + 1, c3), (L + 1 + 1, c2), (L + 1, c1), (178, tabObj #[]), (195, tabObj #[])]
noncomputable abbrev cellsT (L : Addr) (c5 c4 c3 c2 c1 : Obj) (tl : Led) : Led := (L + 1 + 1 + 1 + 1 + 1, c5) :: (L + 1 + 1 + 1 + 1, c4) :: (L + 1 + 1 + 1, c3) :: (L + 1 + 1, c2) :: (L + 1, c1) :: (178, tabObj #[]) :: (195, tabObj #[]) :: tl
def NoSeq (o : Obj) : Prop := (∀ xs n, o ≠ ({ cls := .type "list", data := .seq xs n } : Obj)) ∧ ∀ xs n, o ≠ ({ cls := .type "tuple", data := .seq xs n } : Obj)
structure IsC (c5 c4 c3 c2 c1 : Obj) : Prop where
  h5 : NoSeq c5
  h4 : NoSeq c4
  h3 : NoSeq c3
  h2 : NoSeq c2
  h1 : NoSeq c1
theorem noSeq_cell {o : Obj} {v : Option Value} (h : o.data = .cell v) : NoSeq o := ⟨fun xs n e => (by rw [e] at h; cases h), fun xs n e => (by rw [e] at h; cases h)⟩
theorem noSeq_cls {o : Obj} (h1 : o.cls ≠ .type "list") (h2 : o.cls ≠ .type "tuple") : NoSeq o := ⟨fun xs n e => h1 (by rw [e]), fun xs n e => h2 (by rw [e])⟩
theorem noSeq_li {o : Obj} (h : o.cls = .type "list_iterator") : NoSeq o := noSeq_cls (by rw [h]; decide) (by rw [h]; decide)
theorem noSeq_ri {o : Obj} (h : o.cls = .type "range_iterator") : NoSeq o := noSeq_cls (by rw [h]; decide) (by rw [h]; decide)
theorem noSeq_tab : NoSeq (tabObj #[]) := noSeq_cls (by decide) (by decide)
theorem DatIn.drop {l l' : Led} (hs : ∀ p ∈ l, p ∈ l' ∨ NoSeq p.2) {v : Value} {d : Dat} (h : DatIn l v d) : DatIn l' v d :=
  DatIn.rec (motive_1 := fun v d _ => DatIn l' v d) (motive_2 := fun vs ds _ => DatAll l' vs ds) .none .bool .int .str .bytes
    (fun h _ r => .tuple ((hs _ h).resolve_right fun n => n.2 _ _ rfl) r) (fun h _ r => .list ((hs _ h).resolve_right fun n => n.1 _ _ rfl) r) .nil (fun _ _ a b => .cons a b) h
theorem DatAll.drop {l l' : Led} (hs : ∀ p ∈ l, p ∈ l' ∨ NoSeq p.2) {vs : List Value} {ds : List Dat} (h : DatAll l vs ds) : DatAll l' vs ds :=
  DatAll.rec (motive_1 := fun v d _ => DatIn l' v d) (motive_2 := fun vs ds _ => DatAll l' vs ds) .none .bool .int .str .bytes
    (fun h _ r => .tuple ((hs _ h).resolve_right fun n => n.2 _ _ rfl) r) (fun h _ r => .list ((hs _ h).resolve_right fun n => n.1 _ _ rfl) r) .nil (fun _ _ a b => .cons a b) h
/-- the cells bear no datum -/
theorem cells_drop {L : Addr} {c5 c4 c3 c2 c1 : Obj} (hc : IsC c5 c4 c3 c2 c1) {tl l' : Led} (h : ∀ p ∈ tl, p ∈ l' ∨ NoSeq p.2) : ∀ p ∈ cellsT L c5 c4 c3 c2 c1 tl, p ∈ l' ∨ NoSeq p.2 := by
  intro p hp
  simp only [cellsT, List.mem_cons] at hp
  rcases hp with rfl | rfl | rfl | rfl | rfl | rfl | rfl | hp
  · exact .inr hc.h5
  · exact .inr hc.h4
  · exact .inr hc.h3
  · exact .inr hc.h2
  · exact .inr hc.h1
  · exact .inr noSeq_tab
  · exact .inr noSeq_tab
  · exact h p hp
/-- what the law hands back -/
def QF (h₀ : Heap) (L : Addr) (s : Shared) (f : Flow) (s' : Shared) : Prop := f = .ret (.bool true) ∧ ∃ h tk m, s' = { s with heap := h, toks := tk } ∧ Fr h₀ L h m ∧ News h₀ L h [(178, tabObj #[]), (195, tabObj #[])]
structure LawG (w : World) (mean : ExcName → Option Value) (mg mb : Str → Option Value) (h₀ : Heap) (L : Addr) : Prop where
  X : (hd.heap_39 w.params).In h₀
  T : Top topProg theLoose mean mg mb h₀
  B : Below callerA h₀ [] h₀
  lo : (@LT.lt Nat _ 178 L) ∧ (@LT.lt Nat _ 195 L)
theorem news_dup {h₀ h : Heap} {L : Addr} {l : Led} {p : Addr × Obj} (N : News h₀ L h l) (hp : p ∈ l) : News h₀ L h (p :: l) := fun q hq => by
  rcases List.mem_cons.mp hq with rfl | hq
  · exact N _ hp
  · exact N _ hq
theorem cells_ne {L c : Addr} {c5 c4 c3 c2 c1 : Obj} (lo : 178 < L ∧ 195 < L) (h : L + 1 + 1 + 1 + 1 + 1 < c) : ∀ p ∈ cellsL L c5 c4 c3 c2 c1, p.1 ≠ c := by
  intro p hp
  have hc : @LT.lt Nat _ (L + 1 + 1 + 1 + 1 + 1) c := h
  have l1 : @LT.lt Nat _ 178 L := lo.1
  have l2 : @LT.lt Nat _ 195 L := lo.2
  simp only [cellsL, List.mem_cons, List.not_mem_nil, or_false] at hp
  rcases hp with rfl | rfl | rfl | rfl | rfl | rfl | rfl
  · show @Ne Nat (L + 1 + 1 + 1 + 1 + 1) c; omega
  · show @Ne Nat (L + 1 + 1 + 1 + 1) c; omega
  · show @Ne Nat (L + 1 + 1 + 1) c; omega
  · show @Ne Nat (L + 1 + 1) c; omega
  · show @Ne Nat (L + 1) c; omega
  · show @Ne Nat 178 c; omega
  · show @Ne Nat 195 c; omega
theorem dat_get {l : Led} {vs : List Value} {ds : List Dat} (h : DatAll l vs ds) {i : Nat} {v : Value} (hv : vs[i]? = some v) : ∃ d, ds[i]? = some d ∧ DatIn l v d := by
  have hl := h.length
  have hi := (List.getElem?_eq_some_iff.mp hv).1
  obtain ⟨v', hv', hd⟩ := h.get (k := i) (by omega)
  rw [hv] at hv'
  cases hv'
  exact ⟨_, List.getElem?_eq_getElem (by omega), hd⟩
theorem row_get {l : Led} {vs : List Value} {xss : List (List Str)} (h : DatAll l vs (xss.map dS)) {i : Nat} {v : Value} (hv : vs[i]? = some v) : ∃ xs, xss[i]? = some xs ∧ DatIn l v (dS xs) := by
  obtain ⟨d, hd, h2⟩ := dat_get h hv
  rw [List.getElem?_map] at hd
  cases e : xss[i]? with
  | none => rw [e] at hd; cases hd
  | some xs =>
    rw [e] at hd
    cases hd
    exact ⟨xs, rfl, h2⟩
theorem dat_ref {l : Led} {v : Value} {ds : List Dat} (h : DatIn l v (.list ds)) : ∃ a, v = .ref a := by
  cases h
  exact ⟨_, rfl⟩
theorem head_a {h₀ h : Heap} {L : Addr} {a : Addr} {o : Obj} {l : Led} (_ : News h₀ L h ((a, o) :: l)) : ∃ a', a' = a := ⟨_, rfl⟩
theorem fifth_o {h₀ h : Heap} {L : Addr} {p q r t : Addr × Obj} {a : Addr} {o : Obj} {l : Led} (_ : News h₀ L h (p :: q :: r :: t :: (a, o) :: l)) : ∃ o', o' = o := ⟨_, rfl⟩
theorem fourth_o {h₀ h : Heap} {L : Addr} {q r t : Addr × Obj} {a : Addr} {o : Obj} {l : Led} (_ : News h₀ L h (q :: r :: t :: (a, o) :: l)) : ∃ o', o' = o := ⟨_, rfl⟩
theorem tail_l {h₀ h : Heap} {L : Addr} {l r : Led} (_ : News h₀ L h (l ++ r)) : ∃ l', l' = l := ⟨_, rfl⟩
theorem cellsT_lt {L c : Addr} {c5 c4 c3 c2 c1 : Obj} {tl : Led} : (L + 1 + 1 + 1 + 1 + 1, c5) ∈ cellsT L c5 c4 c3 c2 c1 tl := .head _
theorem tstB (L fa : Addr) (cd : Value) : (lawE L fa cd).kindOf (Str.ofString "k") = some .cell := by rfl
theorem law_let {M : Model} {env : Env} {stmts : List Stmt} {Q : Flow → Shared → Prop} {E : Value → Shared → Prop} {s : Shared} (h : let Mk := M; let vk := env; let Ak := callerA.deeper vk; @Eq Nat Ak.depth 302 → @Eq Nat Ak.units 7 → @Eq Nat recursionLimit 1000 → @Eq Nat cLine 9900 → wpAny Mk Ak (execs stmts vk) Q E s) : wpAny M (callerA.deeper env) (execs stmts env) Q E s := h rfl rfl rfl rfl
theorem tstL : lawBody.length = 18 := by rfl
end
local macro_rules | `(tactic| walk_at "call ref") => `(tactic| (k_here; ktf_call (lib_DT0 _ _ _ _ _)))
local macro_rules | `(tactic| walk_at "call ref") => `(tactic| (k_here; ktf_call (lib_DT1 _ _ _ _ _ _)))
section
set_option maxRecDepth 100000
set_option maxHeartbeats 8000000
theorem hdn_DT1 (w : World) (mean : ExcName → Option Value) (mg mb : Str → Option Value) (x : Str) (mm : Sre.M) : DT True (x.length ≤ 1000 ∧ Finds ipCs 0 x mm) w mean mg mb 212 1 [.str x] (.bool false) := by
  refine DT.mk fun news vs hD hpre => ?_
  apply iv1s hD; intro t
  refine VT.enter [(Str.ofString "text", .str x t)] (H := ?_)
  intro A outer A₀ base g L s Q hh hA hdp hu B mf F X N T hret Mk vk
  have hx := hpre.1
  have hfx := hpre.2
  k_steps
  exact hret _ [] _ _ _ (by assumption) (cb_drop (by assumption) (by kcj_all)) (fun _ h => nomatch h) (.bool _)
def HdnOk (x : Str) : Prop := 1 ≤ x.length ∧ (x == Str.ofString "") = false ∧ (Txt.item x 0 == Str.ofString ".") = false ∧ (Txt.item x (-1) == Str.ofString ".") = false
theorem hdn_DT0 (w : World) (mean : ExcName → Option Value) (mg mb : Str → Option Value) (x : Str) : DT True (x.length ≤ 1000 ∧ Fails ipCs 0 x ∧ HdnOk x) w mean mg mb 212 1 [.str x] (.bool true) := by
  refine DT.mk fun news vs hD hpre => ?_
  apply iv1s hD; intro t
  refine VT.enter [(Str.ofString "text", .str x t)] (H := ?_)
  intro A outer A₀ base g L s Q hh hA hdp hu B mf F X N T hret Mk vk
  have hx := hpre.1
  have hfx := hpre.2.1
  have hx1 := hpre.2.2.1
  have hne := hpre.2.2.2.1
  have hi0 := hpre.2.2.2.2.1
  have hi1 := hpre.2.2.2.2.2
  k_steps
  exact hret _ [] _ _ _ (by assumption) (cb_drop (by assumption) (by kcj_all)) (fun _ h => nomatch h) (.bool _)
local macro_rules | `(tactic| walk_at "call ref") => `(tactic| (k_here; ktf_call (hdn_DT0 _ _ _ _ _)))
local macro_rules | `(tactic| walk_at "call ref") => `(tactic| (k_here; ktf_call (hdn_DT1 _ _ _ _ _ _)))
theorem udm_DT0 (w : World) (mean : ExcName → Option Value) (mg mb : Str → Option Value) (x y : Str) : DT True (x.length ≤ 1000 ∧ y.length ≤ 1000 ∧ (Txt.lower x).length ≤ 1000 ∧ (Txt.lower y).length ≤ 1000 ∧ Fails ipCs 0 (Txt.lower x) ∧ Fails ipCs 0 (Txt.lower y) ∧ Txt.startswith (Txt.lower y) (Str.ofString ".") = true) w mean mg mb 226 2 [.str x, .str y] (.bool (Txt.endswith (Txt.lower x) (Txt.lower y))) := by
  refine DT.mk fun news vs hD hpre => ?_
  apply iv2ss hD; intro t u
  refine VT.enter [(Str.ofString "B", .str y u), (Str.ofString "A", .str x t)] (H := ?_)
  intro A outer A₀ base g L s Q hh hA hdp hu B mf F X N T hret Mk vk
  have hx0 := hpre.1
  have hy0 := hpre.2.1
  have hx := hpre.2.2.1
  have hy := hpre.2.2.2.1
  have hfx := hpre.2.2.2.2.1
  have hfy := hpre.2.2.2.2.2.1
  have hs := hpre.2.2.2.2.2.2
  k_steps
  all_goals exact hret _ [] _ _ _ (by assumption) (cb_drop (by assumption) (by kcj_all)) (fun _ h => nomatch h) (dat_bool (Eq.symm (by assumption)))
theorem udm_DT1 (w : World) (mean : ExcName → Option Value) (mg mb : Str → Option Value) (x y : Str) (mm : Sre.M) : DT True (x.length ≤ 1000 ∧ y.length ≤ 1000 ∧ (Txt.lower x).length ≤ 1000 ∧ Finds ipCs 0 (Txt.lower x) mm ∧ (Txt.lower x == Txt.lower y) = false) w mean mg mb 226 2 [.str x, .str y] (.bool false) := by
  refine DT.mk fun news vs hD hpre => ?_
  apply iv2ss hD; intro t u
  refine VT.enter [(Str.ofString "B", .str y u), (Str.ofString "A", .str x t)] (H := ?_)
  intro A outer A₀ base g L s Q hh hA hdp hu B mf F X N T hret Mk vk
  have hx0 := hpre.1
  have hy0 := hpre.2.1
  have hx := hpre.2.2.1
  have hfx := hpre.2.2.2.1
  have hne := hpre.2.2.2.2
  k_steps
  exact hret _ [] _ _ _ (by assumption) (cb_drop (by assumption) (by kcj_all)) (fun _ h => nomatch h) (.bool _)
noncomputable abbrev reachB (x : Str) : Str := Txt.slice x (some (Txt.find x (Str.ofString ".") + 1)) none
noncomputable def reachF (x : Str) : Str := if 0 ≤ Txt.find x (Str.ofString ".") then (if 0 ≤ Txt.find (reachB x) (Str.ofString ".") then Str.ofString "." ++ reachB x else if (reachB x == Str.ofString "local") = true then Str.ofString "." ++ reachB x else x) else x
theorem reachF_1 {x : Str} (h1 : 0 ≤ Txt.find x (Str.ofString ".")) (h2 : 0 ≤ Txt.find (reachB x) (Str.ofString ".")) : Str.ofString "." ++ reachB x = reachF x := by
  unfold reachF; rw [if_pos h1, if_pos h2]
theorem reachF_2 {x : Str} (h1 : 0 ≤ Txt.find x (Str.ofString ".")) (h2 : ¬ 0 ≤ Txt.find (reachB x) (Str.ofString ".")) (h3 : (reachB x == Str.ofString "local") = true) : Str.ofString "." ++ reachB x = reachF x := by
  unfold reachF; rw [if_pos h1, if_neg h2, if_pos h3]
theorem reachF_3 {x : Str} (h1 : 0 ≤ Txt.find x (Str.ofString ".")) (h2 : ¬ 0 ≤ Txt.find (reachB x) (Str.ofString ".")) (h3 : (reachB x == Str.ofString "local") = false) : x = reachF x := by
  unfold reachF; rw [if_pos h1, if_neg h2, if_neg (by rw [h3]; decide)]
theorem reachF_4 {x : Str} (h1 : ¬ 0 ≤ Txt.find x (Str.ofString ".")) : x = reachF x := by
  unfold reachF; rw [if_neg h1]
theorem reach_DT0 (w : World) (mean : ExcName → Option Value) (mg mb : Str → Option Value) (x : Str) : DT True (x.length ≤ 1000 ∧ Fails ipCs 0 x ∧ HdnOk x) w mean mg mb 233 2 [.str x] (.str (reachF x)) := by
  refine DT.mk fun news vs hD hpre => ?_
  apply iv1s hD; intro t
  refine VT.enter [(Str.ofString "h", .str x t)] (H := ?_)
  intro A outer A₀ base g L s Q hh hA hdp hu B mf F X N T hret Mk vk
  have hx := hpre.1
  have hfx := hpre.2.1
  have hok := hpre.2.2
  k_steps
  all_goals refine hret _ [] _ _ _ (by assumption) (cb_drop (by assumption) (by kcj_all)) (fun _ h => nomatch h) (dat_str _ ?_)
  all_goals with_reducible (first | exact reachF_1 (by assumption) (by assumption) | exact reachF_2 (by assumption) (by assumption) (by assumption) | exact reachF_3 (by assumption) (by assumption) (by assumption) | exact reachF_4 (by assumption))
theorem reach_DT1 (w : World) (mean : ExcName → Option Value) (mg mb : Str → Option Value) (x : Str) (mm : Sre.M) : DT True (x.length ≤ 1000 ∧ Finds ipCs 0 x mm) w mean mg mb 233 2 [.str x] (.str x) := by
  refine DT.mk fun news vs hD hpre => ?_
  apply iv1s hD; intro t
  refine VT.enter [(Str.ofString "h", .str x t)] (H := ?_)
  intro A outer A₀ base g L s Q hh hA hdp hu B mf F X N T hret Mk vk
  have hx := hpre.1
  have hfx := hpre.2
  k_steps
  all_goals exact hret _ [] _ _ _ (by assumption) (cb_drop (by assumption) (by kcj_all)) (fun _ h => nomatch h) (.str _ _)
end
local macro_rules | `(tactic| walk_at "call builtin:str.split") => `(tactic| row_wit1 split_led)
local macro_rules | `(tactic| walk_at "call builtin:str.join") => `(tactic| row_wit1 join_led)
section
set_option maxRecDepth 100000
set_option maxHeartbeats 8000000
noncomputable def hostOf (ps : List Str) : Str := Txt.join (Str.ofString ".") (ps.drop 1).reverse
local macro_rules | `(tactic| walk_at "subscriptTail Subscript Call Slice Slice ref ref") => `(tactic| walk_at "last subscriptTail")
local macro_rules | `(tactic| walk_at "subscriptTail Call Attribute cons nil Slice ref ref") => `(tactic| walk_at "last subscriptTail")
theorem host_DT (w : World) (mean : ExcName → Option Value) (mg mb : Str → Option Value) (x : Str) (ps : List Str) : DT True (x.length ≤ 1000 ∧ Txt.split x (Str.ofString "/") = ps ∧ ps.length ≤ 1000 ∧ ((ps.drop 1).reverse.map (·.length)).sum + (ps.drop 1).reverse.length ≤ 1048576) w mean mg mb 275 1 [.str x] (.str (hostOf ps)) := by
  refine DT.mk fun news vs hD hpre => ?_
  apply iv1s hD; intro t
  refine VT.enter [(Str.ofString "path", .str x t)] (H := ?_)
  intro A outer A₀ base g L s Q hh hA hdp hu B mf F X N T hret Mk vk
  have hx := hpre.1
  have hps := hpre.2.1
  have hpl := hpre.2.2.1
  have hw := hpre.2.2.2
  k_steps
  exact hret _ [] _ _ _ (by assumption) (cb_drop (by assumption) (by kcj_all)) (fun _ h => nomatch h) (.str _ _)
end
section
open PySem.Builtin PySem.Builtin.Str
set_option maxRecDepth 100000
set_option maxHeartbeats 8000000
/-! cutting a text at a sign is the one way -/
noncomputable def joinL (c : Nat) : List (List Nat) → List Nat
  | [] => []
  | [p] => p
  | p :: q :: r => p ++ c :: joinL c (q :: r)
theorem cut_at {c : Nat} : ∀ {p q A B : List Nat}, c ∉ p → c ∉ q → p ++ c :: A = q ++ c :: B → p = q ∧ A = B
  | [], [], A, B, _, _, h => ⟨rfl, (List.cons.inj h).2⟩
  | [], y :: q, A, B, _, hq, h => by
    have := (List.cons.inj h).1
    exact absurd (this ▸ List.Mem.head _) hq
  | x :: p, [], A, B, hp, _, h => by
    have := (List.cons.inj h).1
    exact absurd (this ▸ List.Mem.head _) hp
  | x :: p, y :: q, A, B, hp, hq, h => by
    obtain ⟨h1, h2⟩ := List.cons.inj h
    obtain ⟨h3, h4⟩ := cut_at (fun m => hp (.tail _ m)) (fun m => hq (.tail _ m)) h2
    exact ⟨by rw [h1, h3], h4⟩
theorem joinL_uniq {c : Nat} : ∀ {ps qs : List (List Nat)}, ps ≠ [] → qs ≠ [] → (∀ p ∈ ps, c ∉ p) → (∀ q ∈ qs, c ∉ q) → joinL c ps = joinL c qs → ps = qs
  | [], _, h, _, _, _, _ => absurd rfl h
  | _, [], _, h, _, _, _ => absurd rfl h
  | [p], [q], _, _, _, _, h => by rw [show p = q from h]
  | [p], q :: q' :: r, _, _, hp, _, h => by
    have h' : p = q ++ c :: joinL c (q' :: r) := h
    exact absurd (by rw [h']; simp) (hp p (.head _))
  | p :: p' :: r, [q], _, _, _, hq, h => by
    have h' : p ++ c :: joinL c (p' :: r) = q := h
    exact absurd (by rw [← h']; simp) (hq q (.head _))
  | p :: p' :: r, q :: q' :: r', _, _, hp, hq, h => by
    obtain ⟨h1, h2⟩ := cut_at (hp p (.head _)) (hq q (.head _)) (show p ++ c :: joinL c (p' :: r) = q ++ c :: joinL c (q' :: r') from h)
    have := joinL_uniq (by simp) (by simp) (fun x hx => hp x (.tail _ hx)) (fun x hx => hq x (.tail _ hx)) h2
    rw [h1, this]
theorem join_cps (c : Nat) : ∀ ps : List Str, (Str.join (mkS [c]) ps).cps.toList = joinL c (ps.map fun p => p.cps.toList)
  | [] => rfl
  | [p] => rfl
  | p :: q :: r => by
    have ih := join_cps c (q :: r)
    show ((p ++ mkS [c]) ++ Str.join (mkS [c]) (q :: r)).cps.toList = p.cps.toList ++ c :: joinL c ((q :: r).map fun p => p.cps.toList)
    rw [Str.cps_append, Str.cps_append, ← ih]
    simp
theorem split_ne (x y : Str) : Txt.split x y ≠ [] := by
  unfold Txt.split
  split
  · simp
  split
  · simp
  unfold partsBetween
  intro h
  have h1 := congrArg List.length h
  simp only [List.length_map, List.length_zip, List.length_cons, List.length_append, List.length_nil] at h1
  omega
theorem split_is (x : Str) (c : Nat) (ls : List (List Nat)) (hne : ls ≠ []) (hf : ∀ p ∈ ls, c ∉ p) (hx : x.cps.toList = joinL c ls) : Txt.split x (mkS [c]) = ls.map mkS := by
  have h1 := StrLaws.join_split x (mkS [c])
  have h2 := join_cps c (Txt.split x (mkS [c]))
  rw [h1, hx] at h2
  have h3 := joinL_uniq hne (by simpa using split_ne x (mkS [c])) hf (fun q hq => by
    obtain ⟨p, hp, rfl⟩ := List.mem_map.mp hq
    exact StrLaws.split_free x c p hp) h2
  rw [h3, List.map_map]
  refine (List.map_id'' ?_ _).symm
  intro p
  exact Str.ext' (by simp)
/-! hosts -/
noncomputable def hostL (b : Bool) (n : Node) : List Nat := joinL 46 ((topL b :: n.map Nm.cps).reverse)
noncomputable def hostS (b : Bool) (n : Node) : Str := mkS (hostL b n)
theorem joinL_snoc (c : Nat) (q : List Nat) : ∀ (ps : List (List Nat)), ps ≠ [] → joinL c (ps ++ [q]) = joinL c ps ++ c :: q
  | [], h => absurd rfl h
  | [p], _ => rfl
  | p :: p' :: r, _ => by
    show p ++ c :: joinL c (p' :: r ++ [q]) = (p ++ c :: joinL c (p' :: r)) ++ c :: q
    rw [joinL_snoc c q (p' :: r) (by simp)]
    simp
theorem path_join (b : Bool) (n : Node) : pathL b n = joinL 47 ([] :: topL b :: n.map Nm.cps) := by
  have : ∀ (l : List Nat) (n : Node), joinL 47 (l :: n.map Nm.cps) = l ++ n.flatMap fun x => 47 :: x.cps := by
    intro l n
    induction n generalizing l with
    | nil => simp [joinL]
    | cons x r ih => rw [List.map_cons, joinL, ih]; simp
  rw [joinL, this]
  rfl
theorem split_path (b : Bool) (n : Node) : Txt.split (pathS b n) (Str.ofString "/") = mkS [] :: topS b :: n.map Nm.str := by
  rw [slash_is, split_is (pathS b n) 47 ([] :: topL b :: n.map Nm.cps) (by simp) ?_ ?_]
  · simp [topS, Nm.str]
  · intro p hp
    rcases List.mem_cons.mp hp with rfl | hp
    · simp
    rcases List.mem_cons.mp hp with rfl | hp
    · cases b <;> simp [topL]
    obtain ⟨x, _, rfl⟩ := List.mem_map.mp hp
    exact x.cps_no
  · rw [pathS, path_join]
theorem dot_is : Str.ofString "." = mkS [46] := by decide +kernel
theorem hostOf_path (b : Bool) (n : Node) : hostOf (mkS [] :: topS b :: n.map Nm.str) = hostS b n := by
  unfold hostOf
  show glued _ _ = _
  rw [StrLaws.glued_eq_join, dot_is]
  refine Str.ext' ?_
  refine Array.toList_inj.mp ?_
  rw [join_cps]
  simp [hostS, hostL, topS, List.map_reverse, Function.comp_def, Nm.str]
end
section
open PySem.Builtin PySem.Builtin.Str
set_option maxRecDepth 100000
set_option maxHeartbeats 8000000
/-! great and small letters -/
theorem placed_one (l : List Nat) (f : Nat → Nat → List Nat) (g : Nat → Nat) (h : ∀ i c, l[i]? = some c → f i c = [g c]) : placed (mkS l) f = (l.map g).toArray := by
  have e : (mkS l).cps.mapIdx (fun i c => (f i c).toArray) = (l.map fun c => #[g c]).toArray := by
    apply Array.ext
    · simp
    · intro i h1 h2
      simp only [Array.size_mapIdx, List.size_toArray] at h1
      simp only [Array.getElem_mapIdx, List.getElem_toArray, List.getElem_map]
      rw [h i _ (List.getElem?_eq_getElem h1)]
  unfold placed
  rw [e]
  apply Array.toList_inj.mp
  simp [Array.toList_flatten, List.map_map, Function.comp_def]
  clear e h
  induction l with
  | nil => rfl
  | cons x r ih => rw [List.map_cons, List.flatten_cons, ih]; rfl
noncomputable def upc (c : Nat) : Nat := if 97 ≤ c ∧ c ≤ 122 then c - 32 else c
noncomputable def loc (c : Nat) : Nat := if 65 ≤ c ∧ c ≤ 90 then c + 32 else c
abbrev HostC (c : Nat) : Prop := c ∈ [97, 98, 45, 46, 99, 111, 109, 55]
theorem up_c : ∀ c, HostC c → Unicode.upperOf c = [upc c] := by decide +kernel
theorem lo_c : ∀ c, HostC c → Unicode.lowerOf c = [c] := by decide +kernel
theorem lo_u : ∀ c, HostC c → Unicode.lowerOf (upc c) = [c] ∧ upc c ≠ 0x3A3 := by decide +kernel
theorem upper_host (l : List Nat) (h : ∀ c ∈ l, HostC c) : Txt.upper (mkS l) = mkS (l.map upc) := by
  unfold Txt.upper
  rw [placed_one l _ upc fun i c e => up_c c (h c (List.mem_of_getElem? e))]
theorem lower_host (l : List Nat) (h : ∀ c ∈ l, HostC c) : Txt.lower (mkS l) = mkS l := by
  unfold Txt.lower
  rw [placed_one l _ (fun c => c) fun i c e => ?_]
  · simp
  · have hc := h c (List.mem_of_getElem? e)
    unfold Unicode.lowerAt
    have e1 : (mkS l).cps[i]? = some c := by simpa using e
    rw [e1]
    have h2 : (c == 0x3A3) = false := by
      have : ∀ c, HostC c → (c == 0x3A3) = false := by decide +kernel
      exact this c hc
    simp only [h2, Bool.false_and, Bool.false_eq_true, if_false]
    exact lo_c c hc
theorem lower_upper_host (l : List Nat) (h : ∀ c ∈ l, HostC c) : Txt.lower (Txt.upper (mkS l)) = mkS l := by
  rw [upper_host l h]
  unfold Txt.lower
  rw [placed_one (l.map upc) _ loc fun i c e => ?_]
  · have : (l.map upc).map loc = l := by
      rw [List.map_map]
      refine (List.map_congr_left (g := _root_.id) fun c hc => ?_).trans (List.map_id _)
      have : ∀ c, HostC c → loc (upc c) = c := by decide +kernel
      exact this c (h c hc)
    rw [this]
  · obtain ⟨c0, hc0, rfl⟩ := List.mem_map.mp (List.mem_of_getElem? e)
    have hc := h c0 hc0
    unfold Unicode.lowerAt
    have e1 : (mkS (l.map upc)).cps[i]? = some (upc c0) := by simpa using e
    rw [e1]
    have h2 : ∀ c, HostC c → (upc c == 0x3A3) = false ∧ Unicode.lowerOf (upc c) = [loc (upc c)] := by decide +kernel
    simp only [(h2 c0 hc).1, Bool.false_and, Bool.false_eq_true, if_false]
    exact (h2 c0 hc).2
/-! hosts, sign by sign -/
theorem hostL_nil (b : Bool) : hostL b [] = topL b := rfl
theorem joinL_cons (c : Nat) (q : List Nat) {ps : List (List Nat)} (h : ps ≠ []) : joinL c (q :: ps) = q ++ c :: joinL c ps := by
  cases ps with
  | nil => exact absurd rfl h
  | cons p r => rfl
theorem hostL_snoc (b : Bool) (n : Node) (x : Nm) : hostL b (n ++ [x]) = x.cps ++ 46 :: hostL b n := by
  unfold hostL
  have e : (topL b :: (n ++ [x]).map Nm.cps).reverse = x.cps :: (topL b :: n.map Nm.cps).reverse := by simp
  rw [e, joinL_cons _ _ (by simp)]
theorem snoc_ind {P : Node → Prop} (h0 : P []) (h1 : ∀ n x, P n → P (n ++ [x])) (n : Node) : P n := by
  have : ∀ l : Node, P l.reverse := by
    intro l
    induction l with
    | nil => exact h0
    | cons x r ih => rw [List.reverse_cons]; exact h1 _ _ ih
  simpa using this n.reverse
theorem Nm.hostC (x : Nm) : ∀ c ∈ x.cps, HostC c := by cases x <;> decide
theorem topL_hostC (b : Bool) : ∀ c ∈ topL b, HostC c := by cases b <;> decide
theorem hostL_hostC (b : Bool) (n : Node) : ∀ c ∈ hostL b n, HostC c := by
  induction n using snoc_ind with
  | h0 => exact topL_hostC b
  | h1 n x ih =>
    intro c hc
    rw [hostL_snoc, List.mem_append, List.mem_cons] at hc
    rcases hc with hc | rfl | hc
    · exact x.hostC c hc
    · decide
    · exact ih c hc
theorem hostL_len (b : Bool) (n : Node) : (hostL b n).length ≤ 3 + 4 * n.length := by
  induction n using snoc_ind with
  | h0 => have := topL_len b; rw [hostL_nil]; simp; omega
  | h1 n x ih =>
    rw [hostL_snoc, List.length_append, List.length_cons, List.length_append]
    have := x.len
    simp only [List.length_singleton]
    omega
theorem hostL_ne (b : Bool) (n : Node) : hostL b n ≠ [] := by
  induction n using snoc_ind with
  | h0 => exact topL_ne b
  | h1 n x ih => rw [hostL_snoc]; simp
/-- no figure: the com hosts -/
theorem com_nodig (n : Node) : ∀ c ∈ hostL false n, c ∈ [45, 46, 97, 98, 99, 109, 111] := by
  induction n using snoc_ind with
  | h0 => decide
  | h1 n x ih =>
    intro c hc
    rw [hostL_snoc, List.mem_append, List.mem_cons] at hc
    rcases hc with hc | rfl | hc
    · revert c; cases x <;> decide
    · decide
    · exact ih c hc
theorem fails_nodig (l : List Nat) (hz : l.length ≤ 1000) (h : ∀ c ∈ l, c ∈ [45, 46, 97, 98, 99, 109, 111]) : Fails ipCs 0 (mkS l) := by
  refine ip_fails (mkS l) (by simpa using hz) fun p _ hp => ?_
  have hp' : p + 1 < l.length := by simpa using hp
  have e : (mkS l).cps[p + 1]? = some (l[p + 1]'hp') := by simp [hp']
  rw [e]
  exact noD _ (h _ (List.getElem_mem _))
theorem fails_7 : Fails ipCs 0 (mkS [55]) := ip_fails (mkS [55]) (by decide) fun p h hp => by
  exfalso
  have : p + 1 < 1 := hp
  omega
/-- the figure's hosts of two names and more: a stretch, a dot, 7 -/
theorem finds_7 (l : List Nat) (hz : l.length ≤ 900) (h : ∀ c ∈ l, c ∈ [45, 46, 97, 98, 99, 109, 111]) : ∃ m, Finds ipCs 0 (mkS (l ++ [46, 55])) m := by
  refine ip_finds (mkS (l ++ [46, 55])) l.length (by simp; omega) (by simp) (by simp) (by simp) fun p hp _ _ => ?_
  have e : (mkS (l ++ [46, 55])).cps[p + 1]? = (l ++ [46, 55])[p + 1]? := by simp
  rw [e]
  rcases Nat.lt_or_ge (p + 1) l.length with h1 | h1
  · rw [List.getElem?_append_left h1, List.getElem?_eq_getElem h1]
    exact noD _ (h _ (List.getElem_mem _))
  · have : p + 1 = l.length := by omega
    rw [this]
    simp
    exact noD 46 (by decide)
theorem host7_form (n : Node) (hn : n ≠ []) : ∃ l, hostL true n = l ++ [46, 55] ∧ (∀ c ∈ l, c ∈ [45, 46, 97, 98, 99, 109, 111]) ∧ l.length ≤ 4 * n.length := by
  induction n using snoc_ind with
  | h0 => exact absurd rfl hn
  | h1 n x ih =>
    by_cases h0 : n = []
    · subst h0
      refine ⟨x.cps, by rw [hostL_snoc]; rfl, ?_, ?_⟩
      · cases x <;> decide
      · have := x.len; simp; omega
    · obtain ⟨l, e, h1, h2⟩ := ih h0
      refine ⟨x.cps ++ 46 :: l, by rw [hostL_snoc, e]; simp, ?_, ?_⟩
      · intro c hc
        rw [List.mem_append, List.mem_cons] at hc
        rcases hc with hc | rfl | hc
        · revert c; cases x <;> decide
        · decide
        · exact h1 c hc
      · have := x.len
        simp only [List.length_append, List.length_cons, List.length_nil]
        omega
end
section
set_option maxRecDepth 100000
set_option maxHeartbeats 8000000
/-! the walk -/
noncomputable def walkN (nodes : List Node) : Nat → Node → List Node
  | 0, n => [n]
  | f + 1, n => n :: ([Nm.a, .ab, .ba].flatMap fun x => if n ++ [x] ∈ nodes then walkN nodes f (n ++ [x]) else [])
def Closed (nodes : List Node) : Prop := ∀ n x, n ++ [x] ∈ nodes → n ∈ nodes
theorem Closed.up {nodes : List Node} (h : Closed nodes) (n r : Node) : n ++ r ∈ nodes → n ∈ nodes := by
  induction r using snoc_ind with
  | h0 => simp
  | h1 r x ih => intro hm; rw [← List.append_assoc] at hm; exact ih (h _ _ hm)
theorem walk_mem {nodes : List Node} (hc : Closed nodes) (D : Nat) (hD : ∀ n ∈ nodes, n.length ≤ D) : ∀ (f : Nat) (n : Node), D ≤ n.length + f → ∀ m, m ∈ walkN nodes f n ↔ m = n ∨ (m ∈ nodes ∧ ∃ r, r ≠ [] ∧ m = n ++ r)
  | 0, n, hf, m => by
    simp only [walkN, List.mem_singleton]
    constructor
    · exact .inl
    · rintro (h | ⟨h, r, hr, rfl⟩)
      · exact h
      · have h1 := hD _ h
        have h2 := List.length_pos_iff.mpr hr
        rw [List.length_append] at h1
        omega
  | f + 1, n, hf, m => by
    have ih := fun x => walk_mem hc D hD f (n ++ [x]) (by simp; omega) m
    simp only [walkN, List.mem_cons, List.mem_flatMap]
    constructor
    · rintro (h | ⟨x, _, hx⟩)
      · exact .inl h
      · split at hx
        · rename_i hin
          rcases (ih x).mp hx with rfl | ⟨h, r, hr, rfl⟩
          · exact .inr ⟨hin, [x], by simp, rfl⟩
          · exact .inr ⟨h, x :: r, by simp, by simp⟩
        · cases hx
    · rintro (h | ⟨h, r, hr, rfl⟩)
      · exact .inl h
      · cases r with
        | nil => exact absurd rfl hr
        | cons x r =>
          refine .inr ⟨x, by cases x <;> simp, ?_⟩
          have e : n ++ x :: r = (n ++ [x]) ++ r := by simp
          have hin : n ++ [x] ∈ nodes := hc.up (n ++ [x]) r (by rw [← e]; exact h)
          rw [if_pos hin, ih x]
          by_cases h0 : r = []
          · subst h0; exact .inl rfl
          · exact .inr ⟨h, r, h0, e⟩
theorem lt_branch (n r s : Node) {x y : Nm} (h : x.rk < y.rk) : LtN (n ++ x :: r) (n ++ y :: s) := by
  induction n with
  | nil => exact .inl h
  | cons z n ih => exact .inr ⟨rfl, ih⟩
theorem walk_sorted {nodes : List Node} (hc : Closed nodes) (D : Nat) (hD : ∀ n ∈ nodes, n.length ≤ D) : ∀ (f : Nat) (n : Node), D ≤ n.length + f → Sorted (walkN nodes f n)
  | 0, n, _ => by simp [walkN, Sorted]
  | f + 1, n, hf => by
    have ih := fun x => walk_sorted hc D hD f (n ++ [x]) (by simp; omega)
    have hm : ∀ x m, m ∈ (if n ++ [x] ∈ nodes then walkN nodes f (n ++ [x]) else []) → ∃ r, m = n ++ x :: r := by
      intro x m h
      split at h
      · rcases (walk_mem hc D hD f (n ++ [x]) (by simp; omega) m).mp h with rfl | ⟨_, r, _, rfl⟩
        · exact ⟨[], rfl⟩
        · exact ⟨r, by simp⟩
      · cases h
    have hs : ∀ x, Sorted (if n ++ [x] ∈ nodes then walkN nodes f (n ++ [x]) else []) := by
      intro x
      split
      · exact ih x
      · exact .nil
    simp only [walkN, Sorted, List.pairwise_cons, List.flatMap_cons, List.flatMap_nil, List.append_nil]
    refine ⟨?_, ?_⟩
    · intro m h
      have : ∃ x r, m = n ++ x :: r := by
        rcases List.mem_append.mp h with h | h
        · exact ⟨_, hm _ m h⟩
        rcases List.mem_append.mp h with h | h
        · exact ⟨_, hm _ m h⟩
        · exact ⟨_, hm _ m h⟩
      obtain ⟨x, r, rfl⟩ := this
      exact lt_app n _ (by simp)
    · rw [List.pairwise_append, List.pairwise_append]
      refine ⟨hs _, ⟨hs _, hs _, ?_⟩, ?_⟩
      · intro a ha b hb
        obtain ⟨r, rfl⟩ := hm _ a ha
        obtain ⟨s, rfl⟩ := hm _ b hb
        exact lt_branch n r s (by decide)
      · intro a ha b hb
        obtain ⟨r, rfl⟩ := hm _ a ha
        rcases List.mem_append.mp hb with hb | hb <;> obtain ⟨s, rfl⟩ := hm _ b hb <;> exact lt_branch n r s (by decide)
theorem walk_is {nodes : List Node} (hc : Closed nodes) (h0 : [] ∈ nodes) (D : Nat) (hD : ∀ n ∈ nodes, n.length ≤ D) {l : List Node} (hs : Sorted l) (hl : ∀ x, x ∈ l ↔ x ∈ nodes) : l = walkN nodes D [] := by
  refine sorted_uniq hs (walk_sorted hc D hD D [] (by simp)) fun x => ?_
  rw [hl, walk_mem hc D hD D [] (by simp)]
  constructor
  · intro h
    by_cases hx : x = []
    · exact .inl hx
    · exact .inr ⟨h, x, hx, rfl⟩
  · rintro (rfl | ⟨h, _⟩)
    · exact h0
    · exact h
/-- what hangs where, in the row -/
theorem prev_is {nodes l : List Node} (hc : Closed nodes) (hs : Sorted l) (hl : ∀ x, x ∈ l ↔ x ∈ nodes) {k : Nat} (hk : k + 1 < l.length) :
    ∃ p x s, l[k + 1] = p ++ [x] ∧ l[k]'(by omega) = p ++ s ∧ (s = [] ∨ ∃ y t, s = y :: t ∧ y.rk < x.rk) := by
  have hord := fun i j (hi : i < l.length) (hj : j < l.length) (h : i < j) => List.pairwise_iff_getElem.mp hs i j hi hj h
  have hlt := hord k (k + 1) (by omega) hk (by omega)
  rcases List.eq_nil_or_concat (l[k + 1]'hk) with e | ⟨p, x, e⟩
  · rw [e] at hlt
    exfalso
    cases h : l[k]'(by omega) with
    | nil => rw [h] at hlt; exact hlt
    | cons y t => rw [h] at hlt; exact hlt
  · rw [List.concat_eq_append] at e
    have hp : p ∈ l := (hl p).mpr (hc p x (by rw [← e]; exact (hl _).mp (List.getElem_mem hk)))
    obtain ⟨i, hi, ei⟩ := List.mem_iff_getElem.mp hp
    have hple : p = l[k]'(by omega) ∨ LtN p (l[k]'(by omega)) := by
      rcases Nat.lt_trichotomy i k with h | h | h
      · right; rw [← ei]; exact hord i k hi (by omega) h
      · subst h; exact .inl ei.symm
      · exfalso
        have h1 : LtN p (l[k + 1]'hk) := by rw [e]; exact lt_app p [x] (by simp)
        by_cases h2 : i = k + 1
        · subst h2; rw [ei] at h1; exact LtN.irr _ h1
        · have := hord (k + 1) i hk hi (by omega)
          rw [ei] at this
          exact LtN.irr _ (h1.trans this)
    rw [e] at hlt
    obtain ⟨s, h1, h2⟩ := between hple hlt
    exact ⟨p, x, s, e, h1, h2⟩
end
section
open PySem.Builtin PySem.Builtin.Str
set_option maxRecDepth 100000
set_option maxHeartbeats 8000000
/-! zones: one host behind a dot at another's end -/
theorem ends_iff (l k : List Nat) : Txt.endswith (mkS l) (mkS k) = true ↔ ∃ p, l = p ++ k := by
  unfold Txt.endswith
  rw [Bool.and_eq_true, decide_eq_true_eq, StrLaws.subAt_eq, beq_iff_eq]
  simp only [Str.length, List.size_toArray, Nat.zero_add]
  constructor
  · rintro ⟨h1, h2⟩
    refine ⟨l.take (l.length - k.length), ?_⟩
    rw [List.take_of_length_le (by rw [List.length_drop]; omega)] at h2
    conv => lhs; rw [← List.take_append_drop (l.length - k.length) l, h2]
  · rintro ⟨p, rfl⟩
    refine ⟨by simp, ?_⟩
    have e : (p ++ k).length - k.length = p.length := by simp
    rw [e]
    simp
theorem cps_inj {x y : Nm} (h : x.cps = y.cps) : x = y := by cases x <;> cases y <;> first | rfl | (exact absurd h (by decide))
theorem map_cps_inj : ∀ {n k : Node}, n.map Nm.cps = k.map Nm.cps → n = k
  | [], [], _ => rfl
  | [], _ :: _, h => by cases h
  | _ :: _, [], h => by cases h
  | x :: n, y :: k, h => by
    obtain ⟨h1, h2⟩ := List.cons.inj h
    rw [cps_inj h1, map_cps_inj h2]
theorem pieces (c : Nat) (p : List Nat) : ∃ ps, ps ≠ [] ∧ (∀ q ∈ ps, c ∉ q) ∧ joinL c ps = p := by
  refine ⟨(Txt.split (mkS p) (mkS [c])).map fun q => q.cps.toList, by simpa using split_ne _ _, ?_, ?_⟩
  · intro q hq
    obtain ⟨r, hr, rfl⟩ := List.mem_map.mp hq
    exact StrLaws.split_free _ c r hr
  · rw [← join_cps, StrLaws.join_split]
theorem joinL_app (c : Nat) {ps qs : List (List Nat)} (hp : ps ≠ []) (hq : qs ≠ []) : joinL c (ps ++ qs) = joinL c ps ++ c :: joinL c qs := by
  induction ps with
  | nil => exact absurd rfl hp
  | cons p r ih =>
    by_cases h : r = []
    · subst h
      rw [List.singleton_append, joinL_cons _ _ hq]
      rfl
    · rw [List.cons_append, joinL_cons _ _ (by simp [h]), ih h, joinL_cons _ _ h]
      simp
theorem free46 (b : Bool) (n : Node) : ∀ q ∈ (topL b :: n.map Nm.cps).reverse, 46 ∉ q := by
  intro q hq
  rw [List.mem_reverse] at hq
  rcases List.mem_cons.mp hq with rfl | hq
  · cases b <;> decide
  obtain ⟨x, _, rfl⟩ := List.mem_map.mp hq
  exact x.cps_no46
theorem zone_iff (b : Bool) (k i : Node) : Txt.endswith (hostS b k) (mkS (46 :: hostL b i)) = true ↔ ∃ r, r ≠ [] ∧ k = i ++ r := by
  rw [hostS, ends_iff]
  constructor
  · rintro ⟨p, h⟩
    obtain ⟨ps, h1, h2, h3⟩ := pieces 46 p
    have h4 : joinL 46 (topL b :: k.map Nm.cps).reverse = joinL 46 (ps ++ (topL b :: i.map Nm.cps).reverse) := by
      rw [joinL_app _ h1 (by simp), h3]
      exact h
    have h5 := joinL_uniq (by simp) (by simp [h1]) (free46 b k) (fun q hq => by
      rcases List.mem_append.mp hq with hq | hq
      · exact h2 q hq
      · exact free46 b i q hq) h4
    have h6 := congrArg List.reverse h5
    rw [List.reverse_append, List.reverse_reverse, List.reverse_reverse, List.cons_append] at h6
    have h7 := (List.cons.inj h6).2
    have hl : i.length ≤ k.length := by
      have := congrArg List.length h7
      simp at this
      omega
    refine ⟨k.drop i.length, ?_, ?_⟩
    · intro hd
      have := congrArg List.length h7
      have h8 : k.length - i.length = 0 := by simpa using congrArg List.length hd
      have h9 : ps.length = 0 := by simp at this; omega
      exact h1 (List.length_eq_zero_iff.mp h9)
    · have h8 : (k.take i.length).map Nm.cps = i.map Nm.cps := by
        rw [List.map_take, h7, List.take_append_of_le_length (by simp), List.take_of_length_le (by simp)]
      have h9 := map_cps_inj h8
      conv => lhs; rw [← List.take_append_drop i.length k, h9]
  · rintro ⟨r, hr, rfl⟩
    refine ⟨joinL 46 (r.map Nm.cps).reverse, ?_⟩
    unfold hostL
    have e : (topL b :: (i ++ r).map Nm.cps).reverse = (r.map Nm.cps).reverse ++ (topL b :: i.map Nm.cps).reverse := by simp
    rw [e, joinL_app _ (by simpa using hr) (by simp)]
end
section
open PySem.Builtin PySem.Builtin.Str
set_option maxRecDepth 100000
set_option maxHeartbeats 8000000
/-! reach -/
theorem at_1 (l : List Nat) (c i : Nat) : StrLaws.At (mkS l) (mkS [c]) (mkS l).length i ↔ l[i]? = some c := by
  unfold StrLaws.At
  have := StrLaws.subAt_one (mkS l) c i
  simpa using this
theorem find_1 (p q : List Nat) (c : Nat) (hp : c ∉ p) : Txt.find (mkS (p ++ c :: q)) (mkS [c]) = (p.length : Int) := by
  unfold Txt.find
  rcases StrLaws.occ_head (mkS (p ++ c :: q)) (mkS [c]) 1 (Nat.le_refl _) with ⟨_, h⟩ | ⟨i, r, e, h1, h2⟩
  · exact absurd ((at_1 _ c p.length).mpr (by simp)) (h _)
  · rw [e]
    have h1' := (at_1 _ c i).mp h1
    have : i = p.length := by
      rcases Nat.lt_trichotomy i p.length with h | h | h
      · rw [List.getElem?_append_left h] at h1'
        exact absurd (List.mem_of_getElem? h1') hp
      · exact h
      · exact absurd ((at_1 _ c p.length).mpr (by simp)) (h2 _ h)
    subst this
    rfl
theorem find_0 (l : List Nat) (c : Nat) (hl : c ∉ l) : Txt.find (mkS l) (mkS [c]) = -1 := by
  unfold Txt.find
  rcases StrLaws.occ_head (mkS l) (mkS [c]) 1 (Nat.le_refl _) with ⟨e, _⟩ | ⟨i, r, e, h1, h2⟩
  · rw [e]
  · exact absurd (List.mem_of_getElem? ((at_1 _ c i).mp h1)) hl
theorem slice_from (l : List Nat) {k : Nat} (hk : k ≤ l.length) : Txt.slice (mkS l) (some (k : Int)) none = mkS (l.drop k) := by
  have h := slice_closes_fromL (x := mkS l) (i := (k : Int)) (b := (l.length : Int)) (by omega) (by rw [mkS_len]; omega) (by rw [mkS_len])
  have h2 := eq_of_beq h
  rw [h2]
  have e1 : ((k : Int)).toNat = k := by omega
  have e2 : ((l.length : Int) - (k : Int)).toNat = l.length - k := by omega
  rw [e1, e2]
  refine congrArg mkS ?_
  rw [List.take_of_length_le]
  simp
theorem top_no46 (b : Bool) : 46 ∉ topL b := by cases b <;> decide
theorem reach_host0 (b : Bool) : reachF (hostS b []) = hostS b [] := by
  unfold reachF
  rw [dot_is, hostS, hostL_nil, find_0 _ _ (top_no46 b), if_neg (by decide)]
theorem reachB_host (b : Bool) (n : Node) (x : Nm) : Txt.find (hostS b (n ++ [x])) (Str.ofString ".") = (x.cps.length : Int) ∧ reachB (hostS b (n ++ [x])) = hostS b n := by
  have e : Txt.find (hostS b (n ++ [x])) (Str.ofString ".") = (x.cps.length : Int) := by
    rw [dot_is, hostS, hostL_snoc, find_1 _ _ _ x.cps_no46]
  refine ⟨e, ?_⟩
  unfold reachB
  rw [e, hostS, hostL_snoc]
  have e2 : ((x.cps.length : Int) + 1) = ((x.cps.length + 1 : Nat) : Int) := by omega
  rw [e2, slice_from _ (by simp)]
  refine congrArg mkS ?_
  rw [List.drop_append]
  simp
theorem reach_host1 (x : Nm) : reachF (hostS false [x]) = hostS false [x] := by
  obtain ⟨h1, h2⟩ := reachB_host false [] x
  rw [List.nil_append] at h1 h2
  unfold reachF
  rw [h1, h2, if_pos (by omega)]
  have h3 : Txt.find (hostS false []) (Str.ofString ".") = -1 := by rw [dot_is, hostS, hostL_nil]; exact find_0 _ _ (top_no46 _)
  rw [h3, if_neg (by decide), if_neg (by decide +kernel)]
theorem reach_host2 (n : Node) (x y : Nm) : reachF (hostS false (n ++ [x] ++ [y])) = Str.ofString "." ++ hostS false (n ++ [x]) := by
  obtain ⟨h1, h2⟩ := reachB_host false (n ++ [x]) y
  obtain ⟨h3, _⟩ := reachB_host false n x
  unfold reachF
  rw [h1, h2, h3, if_pos (by omega), if_pos (by omega)]
theorem ofNat_is (l : List Nat) (hl : l ≠ []) : (mkS l == Str.ofString "") = false := by
  have e : Str.ofString "" = mkS [] := by decide +kernel
  rw [e, beq_eq_false_iff_ne]
  intro h
  have := congrArg (fun s : Str => s.cps.toList) h
  exact hl (by simpa using this)
theorem item_0 (c : Nat) (r : List Nat) : Txt.item (mkS (c :: r)) 0 = mkS [c] := by
  unfold Txt.item Txt.charAt
  simp [seqIndex?, Str.length]
theorem item_last (r : List Nat) (c : Nat) : Txt.item (mkS (r ++ [c])) (-1) = mkS [c] := by
  unfold Txt.item Txt.charAt
  have e : seqIndex? (-1) (mkS (r ++ [c])).length = some r.length := by
    have hl : (mkS (r ++ [c])).length = r.length + 1 := by simp [Str.length]
    unfold seqIndex?
    rw [hl]
    simp only [show ((-1 : Int) < 0) = True by simp, if_true]
    have e1 : (-1 : Int) + ((r.length + 1 : Nat) : Int) = (r.length : Int) := by omega
    rw [e1, if_pos (by simp; omega)]
    simp
  rw [e]
  simp
theorem one_ne (c : Nat) (h : c ≠ 46) : (mkS [c] == Str.ofString ".") = false := by
  rw [dot_is, beq_eq_false_iff_ne]
  intro e
  have := congrArg (fun s : Str => s.cps.toList) e
  exact h (by simpa using this)
theorem host_ends (b : Bool) (n : Node) : (∃ c r, hostL b n = c :: r ∧ c ≠ 46) ∧ (∃ r c, hostL b n = r ++ [c] ∧ c ≠ 46) := by
  induction n using snoc_ind with
  | h0 => cases b <;> exact ⟨⟨_, _, rfl, by decide⟩, (by first | exact ⟨[], 55, rfl, by decide⟩ | exact ⟨[99, 111], 109, rfl, by decide⟩)⟩
  | h1 n x ih =>
    obtain ⟨_, r, c, e, hc⟩ := ih
    refine ⟨?_, x.cps ++ 46 :: r, c, by rw [hostL_snoc, e]; simp, hc⟩
    rw [hostL_snoc]
    cases x <;> exact ⟨_, _, rfl, by decide⟩
theorem host_ok (b : Bool) (n : Node) : HdnOk (hostS b n) := by
  obtain ⟨⟨c, r, e, hc⟩, r', c', e', hc'⟩ := host_ends b n
  refine ⟨?_, ofNat_is _ (hostL_ne b n), ?_, ?_⟩
  · rw [hostS, mkS_len]
    exact List.length_pos_iff.mpr (hostL_ne b n)
  · rw [hostS, e, item_0]
    exact one_ne c hc
  · rw [hostS, e', item_last]
    exact one_ne c' hc'
end
section
open PySem.Builtin PySem.Builtin.Str
set_option maxRecDepth 100000
set_option maxHeartbeats 400000
/-! pairs of a name and a figure; the header -/
noncomputable abbrev Pr := Nm × Nat
noncomputable abbrev figS (n : Nat) : Str := mkS [48 + n]
noncomputable def prD (p : Pr) : Dat := .tuple [.str p.1.str, .str (figS p.2)]
noncomputable def itL (p : Pr) : List Nat := p.1.cps ++ [61, 48 + p.2]
noncomputable def itS (p : Pr) : Str := mkS (itL p)
noncomputable def hdrL : List Pr → List Nat
  | [] => []
  | [p] => itL p
  | p :: q :: r => itL p ++ 59 :: 32 :: hdrL (q :: r)
theorem semi_is : Str.ofString "; " = mkS [59, 32] := by decide +kernel
theorem comma_is : Str.ofString ", " = mkS [44, 32] := by decide +kernel
theorem hdr_cps : ∀ ps : List Pr, (Str.join (mkS [59, 32]) (ps.map itS)).cps.toList = hdrL ps
  | [] => rfl
  | [p] => rfl
  | p :: q :: r => by
    have ih := hdr_cps (q :: r)
    show ((itS p ++ mkS [59, 32]) ++ Str.join (mkS [59, 32]) ((q :: r).map itS)).cps.toList = itL p ++ 59 :: 32 :: hdrL (q :: r)
    rw [Str.cps_append, Str.cps_append, ← ih]
    simp [itS]
theorem hdr_is (ps : List Pr) : Txt.join (Str.ofString "; ") (ps.map itS) = mkS (hdrL ps) := by
  show glued _ _ = _
  rw [StrLaws.glued_eq_join, semi_is]
  exact Str.ext' (Array.toList_inj.mp (by rw [hdr_cps]))
theorem itL_len (p : Pr) : 3 ≤ (itL p).length ∧ (itL p).length ≤ 5 := by
  have := p.1.len
  unfold itL
  rw [List.length_append]
  simp only [List.length_cons, List.length_nil]
  omega
theorem hdrL_len : ∀ ps : List Pr, (hdrL ps).length ≤ 7 * ps.length
  | [] => by simp [hdrL]
  | [p] => by
    have := itL_len p
    simp only [hdrL, List.length_cons, List.length_nil]
    omega
  | p :: q :: r => by
    have h1 := hdrL_len (q :: r)
    have h2 := itL_len p
    simp only [hdrL, List.length_append, List.length_cons] at h1 ⊢
    omega
theorem join_one (y x : Str) : Txt.join y [x] = x := by
  show glued _ _ = _
  rw [StrLaws.glued_eq_join]
  rfl
theorem join_nil (y : Str) : Txt.join y [] = mkS [] := by
  show glued _ _ = _
  rw [StrLaws.glued_eq_join]
  rfl
theorem join_two (x y z : Str) : Txt.join x [y, z] = (y ++ x) ++ z := by
  show glued _ _ = _
  rw [StrLaws.glued_eq_join]
  rfl
theorem jhw_is (ps : List Pr) : Txt.join (Str.ofString ", ") (if ps = [] then [] else [mkS (hdrL ps)]) = mkS (hdrL ps) := by
  by_cases h : ps = []
  · rw [if_pos h, h, join_nil]
    rfl
  · rw [if_neg h, join_one]
theorem mkS_inj {l k : List Nat} (h : mkS l = mkS k) : l = k := by
  have := congrArg (fun s : Str => s.cps.toList) h
  simpa using this
theorem app_mk (l k : List Nat) : mkS l ++ mkS k = mkS (l ++ k) := mkS_app l k
/-- what unmatched leaves -/
theorem cut_head (l : List Nat) {k : Nat} (hk : k ≤ l.length) : Txt.slice (mkS l) none (some ((0 : Nat) : Int)) ++ Txt.slice (mkS l) (some (k : Int)) none = mkS (l.drop k) := by
  rw [slice_to l (Nat.zero_le _), slice_from l hk, mkS_app]
  rfl
theorem extract_is (l : List Nat) (a b : Nat) : (⟨(mkS l).cps.extract a b⟩ : Str) = mkS ((l.take b).drop a) := by
  refine Str.ext' (Array.toList_inj.mp ?_)
  simp [List.extract_eq_take_drop, List.drop_take]
theorem subn_is (l : List Nat) : Txt.join ⟨(mkS l).cps.extract 0 0⟩ [Str.ofString "", ⟨(mkS l).cps.extract 2 (mkS l).cps.size⟩] = mkS (l.drop 2) := by
  have e0 : Str.ofString "" = mkS [] := by decide +kernel
  rw [join_two, extract_is, extract_is, e0, mkS_app, mkS_app]
  refine congrArg mkS ?_
  simp
end
section
set_option maxRecDepth 100000
set_option maxHeartbeats 8000000
theorem rungs_len (b : Bool) (n : Node) : (rungsL b n).length = n.length + 1 := by simp [rungsL]
theorem rungs_take (b : Bool) (p s : Node) : (rungsL b (p ++ s)).take (p.length + 1) = rungsL b p := by
  refine List.ext_getElem (by simp [rungsL]) fun j h1 h2 => ?_
  simp only [rungsL, List.getElem_take, List.getElem_map, List.getElem_range]
  rw [rungs_len] at h2
  rw [List.take_append_of_le_length (by omega)]
theorem rungs_split (b : Bool) (p s : Node) : rungsL b (p ++ s) = rungsL b p ++ (rungsL b (p ++ s)).drop (p.length + 1) := by
  conv => lhs; rw [← List.take_append_drop (p.length + 1) (rungsL b (p ++ s)), rungs_take]
theorem rungs_snoc (b : Bool) (p : Node) (x : Nm) : rungsL b (p ++ [x]) = rungsL b p ++ [pathS b (p ++ [x])] := by
  conv => lhs; rw [rungs_split]
  congr 1
  have e : (p ++ [x]).length = p.length + 1 := by simp
  rw [← e, rungsL_get b (p ++ [x]) (Nat.le_refl _), List.take_length, List.drop_of_length_le (by rw [rungs_len]; omega)]
theorem nm_tw (x : Nm) (l : Node) : (x.cps ++ l.flatMap fun x => 47 :: x.cps).takeWhile (fun c => c != 47) = x.cps := by
  cases l with
  | nil => cases x <;> rfl
  | cons y r => cases x <;> rfl
theorem flat_inj {n k : Node} (h : (n.flatMap fun x => 47 :: x.cps) = (k.flatMap fun x => 47 :: x.cps)) : n = k := by
  induction n generalizing k with
  | nil =>
    cases k with
    | nil => rfl
    | cons y t => cases h
  | cons x r ih =>
    cases k with
    | nil => cases h
    | cons y t =>
      rw [List.flatMap_cons, List.flatMap_cons] at h
      have h' := (List.cons.inj h).2
      obtain rfl : x = y := cps_inj ((nm_tw x r).symm.trans ((congrArg _ h').trans (nm_tw y t)))
      rw [ih (List.append_cancel_left h')]
theorem pathS_inj {b : Bool} {n k : Node} (h : pathS b n = pathS b k) : n = k := by
  have h1 := mkS_inj h
  rw [pathL, pathL, List.cons.injEq] at h1
  exact flat_inj (List.append_cancel_left h1.2)
theorem rungs_nodup (b : Bool) (p s : Node) (x : Nm) (hs : s = [] ∨ ∃ y t, s = y :: t ∧ y ≠ x) : (rungsL b (p ++ s) ++ [pathS b (p ++ [x])]).Nodup := by
  rw [List.nodup_append]
  refine ⟨?_, by simp, ?_⟩
  · rw [rungsL, List.Nodup, List.pairwise_map]
    refine List.Pairwise.imp_of_mem (fun {i j} hi hj h e => ?_) List.pairwise_lt_range
    have h1 := congrArg List.length (pathS_inj e)
    have h2 := List.mem_range.mp hi
    have h3 := List.mem_range.mp hj
    rw [List.length_take, List.length_take] at h1
    omega
  · intro a ha c hc e
    rw [List.mem_singleton] at hc
    subst hc e
    obtain ⟨i, hi, e⟩ := List.mem_map.mp ha
    have h1 := pathS_inj e
    have h2 := List.mem_range.mp hi
    have hp : p ++ [x] <+: p ++ s := by rw [← h1]; exact List.take_prefix _ _
    have hp2 := (List.prefix_append_right_inj p).mp hp
    rcases hs with rfl | ⟨y, t, rfl, hy⟩
    · simp at hp2
    · rw [List.cons_prefix_cons] at hp2
      exact hy hp2.1.symm
end
section
set_option maxRecDepth 100000
set_option maxHeartbeats 400000
open PySem.Sre
/-! the token -/
noncomputable abbrev tokCs : List Value := [14, 4, 0, 1, 4294967295, 6, 0, 24, 9, 0, 4294967295, 13, 4, 8, 12, 0, 1, 17, 0, 24, 19, 1, 4294967295, 13, 14, 21, 9, 0, 671092736, 0, 0, 0, 0, 0, 0, 8, 12, 0, 1, 17, 1, 1].map fun i => Value.int i 0
noncomputable abbrev tokA : Array Nat := #[14, 4, 0, 1, 4294967295, 6, 0, 24, 9, 0, 4294967295, 13, 4, 8, 12, 0, 1, 17, 0, 24, 19, 1, 4294967295, 13, 14, 21, 9, 0, 671092736, 0, 0, 0, 0, 0, 0, 8, 12, 0, 1, 17, 1, 1]
theorem tokA_is : codeOf tokCs = tokA := by decide +kernel
section
variable {text : Array Nat} {lim ls start pos handed : Nat} {om : Bool} {mk : Array (Option Nat)} {lm li : Int} {fr : List Sre.Frame} {wt : Nat} {sn : Sre.Seen}
theorem tok_at : M.step (K tokA text lim ls start 5 0 handed om mk lm li fr wt none sn) = K tokA text lim ls start 7 0 handed om mk lm li fr wt none ((sn.add 6).add 43) := rfl
theorem tok_no : M.step (K tokA text lim ls start 5 (pos + 1) handed om mk lm li fr wt none sn) = K tokA text lim ls start 5 (pos + 1) handed om mk lm li fr wt (some false) ((sn.add 6).add 43) := rfl
theorem tok_3 {o1 o2 : Option Nat} : M.step (K tokA text lim ls start 17 pos handed om #[o1, o2] (-1) li fr wt none sn) = K tokA text lim ls start 19 pos handed om #[some pos, o2] 0 li fr wt none (sn.add 17) := rfl
theorem tok_5 {o1 o2 : Option Nat} : M.step (K tokA text lim ls start 39 pos handed om #[o1, o2] 0 li fr wt none sn) = K tokA text lim ls start 41 pos handed om #[o1, some pos] 1 1 fr wt none (sn.add 17) := by
  rw [show M.step (K tokA text lim ls start 39 pos handed om #[o1, o2] 0 li fr wt none sn) = M.mark (K tokA text lim ls start 39 pos handed om #[o1, o2] 0 li fr wt none (sn.add 17)) 1 from rfl]
  unfold M.mark
  rfl
theorem tok_6 : M.step (K tokA text lim ls start 41 pos handed true mk lm li fr wt none sn) = K tokA text lim ls start 41 pos pos true mk lm li fr wt (some true) (sn.add 1) := rfl
end
theorem tok_start {text : Array Nat} {lim : Nat} (h : 1 ≤ lim) : Sre.forSearch tokA text 1 0 lim false = K tokA text lim lim 0 5 0 0 true #[none, none] (-1) (-1) [nsF 5 0 true] 1 none (({} : Sre.Seen).add 14) :=
  (forSearch_go (code := tokA) (pos := 0) (lim := lim) (mn := 1) rfl (by rwa [Nat.zero_add]) (rfl)).trans rfl
theorem tok_sp : ∀ c ∈ [97, 98, 45, 59, 61], Acc tokA 11 c false := fc (fun _ => ⟨_, rfl⟩) (fc (fun _ => ⟨_, rfl⟩) (fc (fun _ => ⟨_, rfl⟩) (fc (fun _ => ⟨_, rfl⟩) (fc (fun _ => ⟨_, rfl⟩) ((fun _ h => nomatch h))))))
theorem tok_in : ∀ c ∈ [97, 98, 45], Acc tokA 23 c true := fc (fun _ => ⟨_, rfl⟩) (fc (fun _ => ⟨_, rfl⟩) (fc (fun _ => ⟨_, rfl⟩) ((fun _ h => nomatch h))))
theorem tok_out : ∀ c ∈ [59, 61], Acc tokA 23 c false := fc (fun _ => ⟨_, rfl⟩) (fc (fun _ => ⟨_, rfl⟩) ((fun _ h => nomatch h)))
theorem Nm.cps_at (x : Nm) (rest : List Nat) : (∀ j, j < x.cps.length → (x.cps ++ 61 :: rest).toArray.getD (0 + j) 0 ∈ [97, 98, 45]) ∧ (x.cps ++ 61 :: rest).toArray.getD (0 + x.cps.length) 0 = 61 := by
  cases x with
  | a => exact ⟨fun j hj => match j, hj with | 0, _ => (by show (97 : Nat) ∈ [97, 98, 45]; decide), rfl⟩
  | ab => exact ⟨fun j hj => match j, hj with
    | 0, _ => (by show (97 : Nat) ∈ [97, 98, 45]; decide)
    | 1, _ => (by show (45 : Nat) ∈ [97, 98, 45]; decide)
    | 2, _ => (by show (98 : Nat) ∈ [97, 98, 45]; decide), rfl⟩
  | ba => exact ⟨fun j hj => match j, hj with
    | 0, _ => (by show (98 : Nat) ∈ [97, 98, 45]; decide)
    | 1, _ => (by show (97 : Nat) ∈ [97, 98, 45]; decide), rfl⟩
/-- a run that has come to its end -/
structure Won (m : Sre.M) (s e : Nat) (g1 g2 : Nat) : Prop where
  out : m.outcome = some .matched
  start : m.start = s
  handed : m.handed = e
  marks : m.marks = #[some g1, some g2]
  last : m.lastmark = 1
theorem won_eq {m m' : Sre.M} {n s e g1 g2 : Nat} (ho : m.outcome = none) (h : m.step = m') (k : Won (m'.runFor n) s e g1 g2) : Won (m.runFor (n + 1)) s e g1 g2 := runFor_eq (P := fun m => Won m s e g1 g2) ho h k
theorem won_ex {m : Sre.M} {f : Sre.Seen → Sre.M} {n s e g1 g2 : Nat} (ho : m.outcome = none) (h : ∃ sn', m.step = f sn') (k : ∀ sn', Won ((f sn').runFor n) s e g1 g2) : Won (m.runFor (n + 1)) s e g1 g2 := runFor_ex (P := fun m => Won m s e g1 g2) ho h k
theorem tok_won (x : Nm) (rest : List Nat) : Won (M.runFor 10 (Sre.forSearch tokA (x.cps ++ 61 :: rest).toArray 1 0 (x.cps ++ 61 :: rest).length false)) 0 x.cps.length 0 x.cps.length := by
  have hl : x.cps.length + 1 ≤ (x.cps ++ 61 :: rest).length := by simp
  have hx := x.len
  obtain ⟨c1, c2⟩ := x.cps_at rest
  generalize x.cps ++ 61 :: rest = l at hl c1 c2
  rw [tok_start (by omega)]
  refine won_eq rfl tok_at ?_
  refine won_ex rfl (rep_go (least := 0) (most := 4294967295) (nx := 17) (n := 0) (by decide) rfl rfl rfl rfl (by omega) (by omega) (by omega) (fun sn => ?_)) (fun sn' => ?_)
  · obtain ⟨N, hN⟩ := room_ge (lim := l.length) (pos := 0) (n := 1) (by omega) (by omega)
    rw [hN]
    exact run_n (k := 0) (by omega) (fun j hj => absurd hj (by omega)) (fun _ => tok_sp _ (by have := c1 0 (by omega); revert this; generalize l.toArray.getD (0 + 0) 0 = c; intro h; simp at h ⊢; omega))
  refine won_eq rfl tok_3 ?_
  refine won_ex rfl (rep_go (least := 1) (most := 4294967295) (nx := 39) (n := x.cps.length) (by decide) rfl rfl rfl rfl (by omega) (by omega) (by omega) (fun sn => ?_)) (fun sn' => ?_)
  · obtain ⟨N, hN⟩ := room_ge (lim := l.length) (pos := 0) (n := x.cps.length + 1) (by omega) (by omega)
    rw [hN]
    have := run_n (code := tokA) (text := l.toArray) (i := 19 + 4) (k := x.cps.length) (N := N + (x.cps.length + 1)) (p := 0 + 0) (f := 0) (sn := sn) (by omega) (fun j hj => tok_in _ (c1 j hj)) (fun _ => tok_out _ (by rw [Nat.zero_add] at c2 ⊢; rw [c2]; decide))
    rwa [Nat.zero_add x.cps.length] at this
  refine won_eq rfl tok_5 ?_
  refine won_eq rfl tok_6 ?_
  refine won_eq rfl back_gb ?_
  refine won_eq rfl back_gb ?_
  refine won_eq rfl back_ns ?_
  refine won_eq rfl back_end ?_
  exact ⟨rfl, rfl, by show 0 + 0 + x.cps.length = _; omega, by show #[some (0 + 0), some (0 + 0 + x.cps.length)] = _; rw [Nat.zero_add, Nat.zero_add], rfl⟩
/-! the other patterns -/
noncomputable abbrev quoCs : List Value := [14, 4, 0, 3, 4294967295, 6, 0, 24, 9, 0, 4294967295, 13, 4, 8, 12, 0, 1, 16, 61, 24, 9, 0, 4294967295, 13, 4, 8, 12, 0, 1, 16, 34, 17, 0, 24, 12, 0, 4294967295, 13, 7, 21, 16, 34, 16, 92, 0, 1, 23, 19, 0, 4294967295, 16, 92, 2, 24, 12, 0, 4294967295, 13, 7, 21, 16, 34, 16, 92, 0, 1, 18, 17, 1, 16, 34, 1].map fun i => Value.int i 0
noncomputable abbrev quoA : Array Nat := #[14, 4, 0, 3, 4294967295, 6, 0, 24, 9, 0, 4294967295, 13, 4, 8, 12, 0, 1, 16, 61, 24, 9, 0, 4294967295, 13, 4, 8, 12, 0, 1, 16, 34, 17, 0, 24, 12, 0, 4294967295, 13, 7, 21, 16, 34, 16, 92, 0, 1, 23, 19, 0, 4294967295, 16, 92, 2, 24, 12, 0, 4294967295, 13, 7, 21, 16, 34, 16, 92, 0, 1, 18, 17, 1, 16, 34, 1]
theorem quoA_is : codeOf quoCs = quoA := by decide +kernel
noncomputable abbrev valCs : List Value := [14, 4, 0, 1, 4294967295, 6, 0, 24, 9, 0, 4294967295, 13, 4, 8, 12, 0, 1, 16, 61, 24, 9, 0, 4294967295, 13, 4, 8, 12, 0, 1, 17, 0, 24, 14, 0, 4294967295, 13, 9, 21, 8, 12, 16, 59, 16, 44, 0, 1, 17, 1, 1].map fun i => Value.int i 0
noncomputable abbrev valA : Array Nat := #[14, 4, 0, 1, 4294967295, 6, 0, 24, 9, 0, 4294967295, 13, 4, 8, 12, 0, 1, 16, 61, 24, 9, 0, 4294967295, 13, 4, 8, 12, 0, 1, 17, 0, 24, 14, 0, 4294967295, 13, 9, 21, 8, 12, 16, 59, 16, 44, 0, 1, 17, 1, 1]
theorem valA_is : codeOf valCs = valA := by decide +kernel
noncomputable abbrev twiCs : List Value := [14, 4, 0, 0, 4294967295, 6, 0, 24, 13, 0, 4294967295, 13, 8, 16, 61, 8, 12, 16, 59, 0, 1, 1].map fun i => Value.int i 0
noncomputable abbrev twiA : Array Nat := #[14, 4, 0, 0, 4294967295, 6, 0, 24, 13, 0, 4294967295, 13, 8, 16, 61, 8, 12, 16, 59, 0, 1, 1]
theorem twiA_is : codeOf twiCs = twiA := by decide +kernel
section
variable {text : Array Nat} {lim ls start pos handed : Nat} {om : Bool} {mk : Array (Option Nat)} {lm li : Int} {fr : List Sre.Frame} {wt : Nat} {sn : Sre.Seen}
theorem quo_at : M.step (K quoA text lim ls start 5 0 handed om mk lm li fr wt none sn) = K quoA text lim ls start 7 0 handed om mk lm li fr wt none ((sn.add 6).add 43) := rfl
theorem quo_no : M.step (K quoA text lim ls start 5 (pos + 1) handed om mk lm li fr wt none sn) = K quoA text lim ls start 5 (pos + 1) handed om mk lm li fr wt (some false) ((sn.add 6).add 43) := rfl
theorem val_at : M.step (K valA text lim ls start 5 0 handed om mk lm li fr wt none sn) = K valA text lim ls start 7 0 handed om mk lm li fr wt none ((sn.add 6).add 43) := rfl
theorem twi_at : M.step (K twiA text lim ls start 5 0 handed om mk lm li fr wt none sn) = K twiA text lim ls start 7 0 handed om mk lm li fr wt none ((sn.add 6).add 43) := rfl
theorem twi_no : M.step (K twiA text lim ls start 5 (pos + 1) handed om mk lm li fr wt none sn) = K twiA text lim ls start 5 (pos + 1) handed om mk lm li fr wt (some false) ((sn.add 6).add 43) := rfl
theorem val_3 {o1 o2 : Option Nat} : M.step (K valA text lim ls start 29 pos handed om #[o1, o2] (-1) li fr wt none sn) = K valA text lim ls start 31 pos handed om #[some pos, o2] 0 li fr wt none (sn.add 17) := rfl
theorem val_5 {o1 o2 : Option Nat} : M.step (K valA text lim ls start 46 pos handed om #[o1, o2] 0 li fr wt none sn) = K valA text lim ls start 48 pos handed om #[o1, some pos] 1 1 fr wt none (sn.add 17) := by
  rw [show M.step (K valA text lim ls start 46 pos handed om #[o1, o2] 0 li fr wt none sn) = M.mark (K valA text lim ls start 46 pos handed om #[o1, o2] 0 li fr wt none (sn.add 17)) 1 from rfl]
  unfold M.mark
  rfl
theorem val_6 : M.step (K valA text lim ls start 48 pos handed true mk lm li fr wt none sn) = K valA text lim ls start 48 pos pos true mk lm li fr wt (some true) (sn.add 1) := rfl
theorem twi_6 : M.step (K twiA text lim ls start 21 pos handed true mk lm li fr wt none sn) = K twiA text lim ls start 21 pos pos true mk lm li fr wt (some true) (sn.add 1) := rfl
end
theorem val_start {text : Array Nat} {lim : Nat} (h : 1 ≤ lim) : Sre.forSearch valA text 1 0 lim false = K valA text lim lim 0 5 0 0 true #[none, none] (-1) (-1) [nsF 5 0 true] 1 none (({} : Sre.Seen).add 14) :=
  (forSearch_go (code := valA) (pos := 0) (lim := lim) (mn := 1) rfl (by rwa [Nat.zero_add]) (rfl)).trans rfl
theorem twi_start {text : Array Nat} {lim pos : Nat} (h : pos ≤ lim) : Sre.forSearch twiA text 0 pos lim false = K twiA text lim lim pos 5 pos pos true #[] (-1) (-1) [nsF 5 pos true] 1 none (({} : Sre.Seen).add 14) :=
  (forSearch_go (code := twiA) (pos := pos) (lim := lim) (mn := 0) rfl (h) (rfl)).trans rfl
theorem quo_start {text : Array Nat} {lim : Nat} (h : 3 ≤ lim) : Sre.forSearch quoA text 1 0 lim false = K quoA text lim (lim - 2) 0 5 0 0 true #[none, none] (-1) (-1) [nsF 5 0 true] 1 none (({} : Sre.Seen).add 14) :=
  (forSearch_go (code := quoA) (pos := 0) (lim := lim) (mn := 3) rfl (by rwa [Nat.zero_add]) (Nat.zero_max _)).trans rfl
abbrev Dig (d : Nat) : Prop := d ∈ [48, 49, 50, 51, 52, 53, 54, 55, 56, 57]
theorem val_sp1 : ∀ c ∈ [61], Acc valA 11 c false := fc (fun _ => ⟨_, rfl⟩) ((fun _ h => nomatch h))
theorem val_sp2 : ∀ c, Dig c → Acc valA 23 c false := fc (fun _ => ⟨_, rfl⟩) (fc (fun _ => ⟨_, rfl⟩) (fc (fun _ => ⟨_, rfl⟩) (fc (fun _ => ⟨_, rfl⟩) (fc (fun _ => ⟨_, rfl⟩) (fc (fun _ => ⟨_, rfl⟩) (fc (fun _ => ⟨_, rfl⟩) (fc (fun _ => ⟨_, rfl⟩) (fc (fun _ => ⟨_, rfl⟩) (fc (fun _ => ⟨_, rfl⟩) ((fun _ h => nomatch h)))))))))))
theorem val_in : ∀ c, Dig c → Acc valA 35 c true := fc (fun _ => ⟨_, rfl⟩) (fc (fun _ => ⟨_, rfl⟩) (fc (fun _ => ⟨_, rfl⟩) (fc (fun _ => ⟨_, rfl⟩) (fc (fun _ => ⟨_, rfl⟩) (fc (fun _ => ⟨_, rfl⟩) (fc (fun _ => ⟨_, rfl⟩) (fc (fun _ => ⟨_, rfl⟩) (fc (fun _ => ⟨_, rfl⟩) (fc (fun _ => ⟨_, rfl⟩) ((fun _ h => nomatch h)))))))))))
theorem val_out : Acc valA 35 59 false := fun _ => ⟨_, rfl⟩
theorem quo_sp1 : Acc quoA 11 61 false := fun _ => ⟨_, rfl⟩
theorem quo_sp2 : ∀ c, Dig c → Acc quoA 23 c false := fc (fun _ => ⟨_, rfl⟩) (fc (fun _ => ⟨_, rfl⟩) (fc (fun _ => ⟨_, rfl⟩) (fc (fun _ => ⟨_, rfl⟩) (fc (fun _ => ⟨_, rfl⟩) (fc (fun _ => ⟨_, rfl⟩) (fc (fun _ => ⟨_, rfl⟩) (fc (fun _ => ⟨_, rfl⟩) (fc (fun _ => ⟨_, rfl⟩) (fc (fun _ => ⟨_, rfl⟩) ((fun _ h => nomatch h)))))))))))
theorem twi_in : ∀ c ∈ [59, 32], Acc twiA 11 c true := fc (fun _ => ⟨_, rfl⟩) (fc (fun _ => ⟨_, rfl⟩) ((fun _ h => nomatch h)))
theorem twi_out : ∀ c ∈ [97, 98], Acc twiA 11 c false := fc (fun _ => ⟨_, rfl⟩) (fc (fun _ => ⟨_, rfl⟩) ((fun _ h => nomatch h)))
theorem val_won (d : Nat) (hd : Dig d) (rest : List Nat) (hr : rest = [] ∨ ∃ r, rest = 59 :: r) : Won (M.runFor 13 (Sre.forSearch valA (61 :: d :: rest).toArray 1 0 (61 :: d :: rest).length false)) 0 2 1 2 := by
  have hl : (61 :: d :: rest).length = rest.length + 2 := rfl
  have c0 : (61 :: d :: rest).toArray.getD 0 0 = 61 := rfl
  have c1 : (61 :: d :: rest).toArray.getD 1 0 = d := rfl
  have c2 : rest.length = 0 ∨ (61 :: d :: rest).toArray.getD 2 0 = 59 := by
    rcases hr with rfl | ⟨r, rfl⟩
    · exact .inl rfl
    · exact .inr rfl
  generalize 61 :: d :: rest = l at hl c0 c1 c2
  rw [val_start (by omega)]
  refine won_eq rfl val_at ?_
  refine won_ex rfl (rep_go (least := 0) (most := 4294967295) (nx := 17) (n := 0) (by decide) rfl rfl rfl rfl (by omega) (by omega) (by omega) (fun sn => ?_)) (fun sn' => ?_)
  · obtain ⟨N, hN⟩ := room_ge (lim := l.length) (pos := 0) (n := 1) (by omega) (by omega)
    rw [hN]
    exact run_n (k := 0) (N := N + 1) (f := 0) (by omega) (fun j hj => absurd hj (by omega)) (fun _ => val_sp1 _ (by rw [Nat.add_zero, c0]; decide))
  refine won_ex rfl (lit_yes (by decide) rfl (by omega) c0) (fun sn' => ?_)
  refine won_ex rfl (rep_go (least := 0) (most := 4294967295) (nx := 29) (n := 0) (by decide) rfl rfl rfl rfl (by omega) (by omega) (by omega) (fun sn => ?_)) (fun sn' => ?_)
  · obtain ⟨N, hN⟩ := room_ge (lim := l.length) (pos := 1) (n := 1) (by omega) (by omega)
    rw [hN]
    exact run_n (k := 0) (N := N + 1) (f := 0) (by omega) (fun j hj => absurd hj (by omega)) (fun _ => val_sp2 _ (by rw [Nat.add_zero, c1]; exact hd))
  refine won_eq rfl val_3 ?_
  refine won_ex rfl (rep_go (least := 0) (most := 4294967295) (nx := 46) (n := 1) (by decide) rfl rfl rfl rfl (by omega) (by omega) (by omega) (fun sn => ?_)) (fun sn' => ?_)
  · obtain ⟨N, hN⟩ := room_ge (lim := l.length) (pos := 1) (n := 1) (by omega) (by omega)
    have hN2 : N = 0 ∨ l.toArray.getD 2 0 = 59 := by
      rcases c2 with h | h
      · left; omega
      · exact .inr h
    rw [hN]
    refine run_n (k := 1) (N := N + 1) (f := 0) (p := 1) (text := l.toArray) (by omega) ?_ ?_
    · intro j hj
      obtain rfl : j = 0 := by omega
      rw [Nat.add_zero, c1]
      exact val_in _ hd
    · intro hk
      rcases hN2 with h | h
      · omega
      · rw [show 1 + 1 = 2 from rfl, h]; exact val_out
  refine won_eq rfl val_5 ?_
  refine won_eq rfl val_6 ?_
  refine won_eq rfl back_gb ?_
  refine won_eq rfl back_gb ?_
  refine won_eq rfl back_gb ?_
  refine won_eq rfl back_ns ?_
  refine won_eq rfl back_end ?_
  exact ⟨rfl, rfl, rfl, rfl, rfl⟩
/-! what finds nothing -/
theorem tok_noset (m : Sre.M) (h : m.code = tokA) : m.hasFirstSet = false := by
  unfold M.hasFirstSet
  rw [h]
  rfl
theorem quo_noset (m : Sre.M) (h : m.code = quoA) : m.hasFirstSet = false := by
  unfold M.hasFirstSet
  rw [h]
  rfl
theorem twi_noset (m : Sre.M) (h : m.code = twiA) : m.hasFirstSet = false := by
  unfold M.hasFirstSet
  rw [h]
  rfl
theorem tok_3m {text : Array Nat} {lim ls start pos handed : Nat} {om : Bool} {mk : Array (Option Nat)} {li : Int} {fr : List Sre.Frame} {wt : Nat} {sn : Sre.Seen} : M.step (K tokA text lim ls start 17 pos handed om mk (-1) li fr wt none sn) = K tokA text lim ls start 19 pos handed om (mk.setIfInBounds 0 (some pos)) 0 li fr wt none (sn.add 17) := rfl
theorem tok_fails (r : List Nat) (hz : r.length ≤ 900) : Fails tokCs 1 (mkS (59 :: r)) := by
  have hl : (59 :: r).length = r.length + 1 := rfl
  have c0 : (59 :: r).toArray.getD 0 0 = 59 := rfl
  have hs : (mkS (59 :: r)).cps.size = (59 :: r).length := by simp
  unfold Fails searchEnd
  rw [tokA_is, hs]
  generalize 59 :: r = l at hl c0
  obtain ⟨k, hk, ho⟩ := fails_loop (lim := l.length) (text := l.toArray) tok_noset 5 (fun p m hp hm => by
    obtain ⟨om, mk, sn, rfl⟩ := AtP_K hm
    cases p with
    | succ p => exact ⟨1, by omega, rj_eq rfl tok_no (K_Rj rfl)⟩
    | zero =>
      refine ⟨5, by omega, ?_⟩
      refine rj_eq rfl tok_at ?_
      refine rj_ex rfl (rep_go (least := 0) (most := 4294967295) (nx := 17) (n := 0) (by decide) rfl rfl rfl rfl (by omega) (by omega) (by omega) (fun sn => ?_)) (fun sn' => ?_)
      · obtain ⟨N, hN⟩ := room_ge (lim := l.length) (pos := 0) (n := 1) (by omega) (by omega)
        rw [hN]
        exact run_n (k := 0) (N := N + 1) (f := 0) (by omega) (fun j hj => absurd hj (by omega)) (fun _ => tok_sp _ (by rw [Nat.add_zero, c0]; decide))
      refine rj_eq rfl tok_3m ?_
      refine rj_ex rfl (rep_short (least := 1) (most := 4294967295) (n := 0) (by decide) rfl rfl rfl (by omega) (by omega) (fun sn => ?_)) (fun sn' => ?_)
      · obtain ⟨N, hN⟩ := room_ge (lim := l.length) (pos := 0) (n := 1) (by omega) (by omega)
        rw [hN]
        exact run_n (k := 0) (N := N + 1) (f := 0) (by omega) (fun j hj => absurd hj (by omega)) (fun _ => tok_out _ (by rw [Nat.add_zero, c0]; decide))
      refine rj_eq rfl (back_no (least := 0) rfl (by decide)) (K_Rj rfl)) l.length 0 _ (Nat.zero_add _) ⟨true, #[none, none], _, tok_start (by omega)⟩
  refine ⟨k, by omega, ?_⟩
  rw [run_on (a := k) (by omega) (by rw [ho]; rfl)]
  exact ho
end
section
set_option maxRecDepth 100000
set_option maxHeartbeats 400000
open PySem.Sre
theorem quo_lit : ∀ c, Dig c → (c == 34) = false := by decide
theorem quo_fails (d : Nat) (hd : Dig d) (r : List Nat) (hz : r.length ≤ 900) : Fails quoCs 1 (mkS (61 :: d :: r)) := by
  have hl : (61 :: d :: r).length = r.length + 2 := rfl
  have c0 : (61 :: d :: r).toArray.getD 0 0 = 61 := rfl
  have c1 : (61 :: d :: r).toArray.getD 1 0 = d := rfl
  have hs : (mkS (61 :: d :: r)).cps.size = (61 :: d :: r).length := by simp
  unfold Fails searchEnd
  rw [quoA_is, hs]
  generalize 61 :: d :: r = l at hl c0 c1
  by_cases h3 : 3 ≤ l.length
  · obtain ⟨k, hk, ho⟩ := fails_loop (lim := l.length) (ls := l.length - 2) (text := l.toArray) quo_noset 7 (fun p m hp hm => by
      obtain ⟨om, mk, sn, rfl⟩ := AtP_K hm
      cases p with
      | succ p => exact ⟨1, by omega, rj_eq rfl quo_no (K_Rj rfl)⟩
      | zero =>
        refine ⟨7, by omega, ?_⟩
        refine rj_eq rfl quo_at ?_
        refine rj_ex rfl (rep_go (least := 0) (most := 4294967295) (nx := 17) (n := 0) (by decide) rfl rfl rfl rfl (by omega) (by omega) (by omega) (fun sn => ?_)) (fun sn' => ?_)
        · obtain ⟨N, hN⟩ := room_ge (lim := l.length) (pos := 0) (n := 1) (by omega) (by omega)
          rw [hN]
          exact run_n (k := 0) (N := N + 1) (f := 0) (by omega) (fun j hj => absurd hj (by omega)) (fun _ => by rw [Nat.add_zero, c0]; exact quo_sp1)
        refine rj_ex rfl (lit_yes (by decide) rfl (by omega) c0) (fun sn' => ?_)
        refine rj_ex rfl (rep_go (least := 0) (most := 4294967295) (nx := 29) (n := 0) (by decide) rfl rfl rfl rfl (by omega) (by omega) (by omega) (fun sn => ?_)) (fun sn' => ?_)
        · obtain ⟨N, hN⟩ := room_ge (lim := l.length) (pos := 1) (n := 1) (by omega) (by omega)
          rw [hN]
          exact run_n (k := 0) (N := N + 1) (f := 0) (by omega) (fun j hj => absurd hj (by omega)) (fun _ => quo_sp2 _ (by rw [Nat.add_zero, c1]; exact hd))
        refine rj_ex rfl (lit_no (by decide) rfl (by omega) (by show (l.toArray.getD 1 0 == 34) = false; rw [c1]; exact quo_lit d hd)) (fun sn' => ?_)
        refine rj_eq rfl (back_no (least := 0) rfl (by decide)) ?_
        refine rj_eq rfl (back_no (least := 0) rfl (by decide)) (K_Rj rfl)) (l.length - 2) 0 _ (Nat.zero_add _) ⟨true, #[none, none], _, quo_start h3⟩
    refine ⟨k, by omega, ?_⟩
    rw [run_on (a := k) (by omega) (by rw [ho]; rfl)]
    exact ho
  · refine ⟨1, by decide, ?_⟩
    rw [forSearch_no (mn := 3) rfl (by rw [Nat.zero_add]; exact Nat.not_le.mp h3)]
    rfl
structure Won0 (m : Sre.M) (s e : Nat) : Prop where
  out : m.outcome = some .matched
  start : m.start = s
  handed : m.handed = e
theorem won0_eq {m m' : Sre.M} {n s e : Nat} (ho : m.outcome = none) (h : m.step = m') (k : Won0 (m'.runFor n) s e) : Won0 (m.runFor (n + 1)) s e := runFor_eq (P := fun m => Won0 m s e) ho h k
theorem won0_ex {m : Sre.M} {f : Sre.Seen → Sre.M} {n s e : Nat} (ho : m.outcome = none) (h : ∃ sn', m.step = f sn') (k : ∀ sn', Won0 ((f sn').runFor n) s e) : Won0 (m.runFor (n + 1)) s e := runFor_ex (P := fun m => Won0 m s e) ho h k
theorem twi_won (c : Nat) (hc : c ∈ [97, 98]) (r : List Nat) : Won0 (M.runFor 6 (Sre.forSearch twiA (59 :: 32 :: c :: r).toArray 0 0 (59 :: 32 :: c :: r).length false)) 0 2 := by
  have hl : (59 :: 32 :: c :: r).length = r.length + 3 := rfl
  have c0 : (59 :: 32 :: c :: r).toArray.getD 0 0 = 59 := rfl
  have c1 : (59 :: 32 :: c :: r).toArray.getD 1 0 = 32 := rfl
  have c2 : (59 :: 32 :: c :: r).toArray.getD 2 0 = c := rfl
  generalize 59 :: 32 :: c :: r = l at hl c0 c1 c2
  rw [twi_start (by omega)]
  refine won0_eq rfl twi_at ?_
  refine won0_ex rfl (rep_go (least := 0) (most := 4294967295) (nx := 21) (n := 2) (by decide) rfl rfl rfl rfl (by omega) (by omega) (by omega) (fun sn => ?_)) (fun sn' => ?_)
  · obtain ⟨N, hN⟩ := room_ge (lim := l.length) (pos := 0) (n := 3) (by omega) (by omega)
    rw [hN]
    refine run_n (k := 2) (N := N + 3) (f := 0) (p := 0) (text := l.toArray) (by omega) ?_ ?_
    · intro j hj
      rcases (by omega : j = 0 ∨ j = 1) with rfl | rfl
      · rw [Nat.add_zero, c0]; exact twi_in _ (by decide)
      · rw [Nat.zero_add, c1]; exact twi_in _ (by decide)
    · intro hk
      rw [Nat.zero_add, c2]
      exact twi_out _ hc
  refine won0_eq rfl twi_6 ?_
  refine won0_eq rfl back_gb ?_
  refine won0_eq rfl back_ns ?_
  refine won0_eq rfl back_end ?_
  exact ⟨rfl, rfl, rfl⟩
/-- from the second sign on nothing is found -/
theorem twi_later (l : List Nat) (h2 : 2 ≤ l.length) (hz : l.length ≤ 900) : ∃ k, k ≤ 10000 ∧ (M.runFor k (Sre.forSearch twiA l.toArray 0 2 l.length false)).outcome = some .failed := by
  obtain ⟨k, hk, ho⟩ := fails_from (lim := l.length) (ls := l.length) (text := l.toArray) twi_noset 1 2 (fun p m hp _ hm => by
    obtain ⟨om, mk, sn, rfl⟩ := AtP_K hm
    cases p with
    | succ p => exact ⟨1, by omega, rj_eq rfl twi_no (K_Rj rfl)⟩
    | zero => omega) (l.length - 2) 2 _ (by omega) (Nat.le_refl _) ⟨true, #[], _, twi_start (by omega)⟩
  exact ⟨k, by omega, ho⟩
/-! what the searches find -/
theorem spans_of_won {m : Sre.M} {s e g1 g2 : Nat} (h : Won m s e g1 g2) (hg : g1 ≤ g2) : spansOf 1 m = [rawInt g1, rawInt g2] ∧ spansOk 1 m = true := by
  obtain ⟨h1, h2, h3, h4, h5⟩ := h
  refine ⟨?_, ?_⟩
  · unfold spansOf
    rw [h4, h5]
    rfl
  · unfold spansOk
    rw [h4, h5]
    have : ¬ (g2 < g1) := by omega
    simp [this]
def FindsAt (cs : List Value) (x : Str) (s e g1 g2 : Nat) : Prop := ∃ m, Finds cs 1 x m ∧ m.start = s ∧ m.handed = e ∧ spansOf 1 m = [rawInt g1, rawInt g2]
theorem finds_won {cs : List Value} {A : Array Nat} {l : List Nat} {n k s e g1 g2 : Nat} (hA : codeOf cs = A) (h : Won (M.runFor n (Sre.forSearch A l.toArray 1 0 l.length false)) s e g1 g2) (hn : n ≤ 4 * k) (hk : k < 2 ^ 64) (hg : g1 ≤ g2) : FindsAt cs (mkS l) s e g1 g2 := by
  have hs := spans_of_won h hg
  have e1 : searchEnd cs 1 (mkS l) k = M.runFor n (Sre.forSearch A l.toArray 1 0 l.length false) := by
    unfold searchEnd
    rw [hA]
    have : (mkS l).cps.size = l.length := by simp
    rw [this]
    exact run_on hn (by rw [h.out]; rfl)
  exact ⟨_, ⟨k, hk, e1, h.out, hs.2⟩, h.start, h.handed, hs.1⟩
theorem tok_finds (x : Nm) (rest : List Nat) : FindsAt tokCs (mkS (x.cps ++ 61 :: rest)) 0 x.cps.length 0 x.cps.length :=
  finds_won tokA_is (tok_won x rest) (k := 3) (by omega) (by decide) (Nat.zero_le _)
theorem val_finds (d : Nat) (hd : Dig d) (rest : List Nat) (hr : rest = [] ∨ ∃ r, rest = 59 :: r) : FindsAt valCs (mkS (61 :: d :: rest)) 0 2 1 2 :=
  finds_won valA_is (val_won d hd rest hr) (k := 4) (by omega) (by decide) (by omega)
noncomputable abbrev jtkCs : List Value := [14, 4, 0, 1, 4294967295, 24, 16, 1, 4294967295, 13, 11, 9, 0, 67071226, 3355443198, 1476395007, 0, 0, 0, 0, 0, 1, 1].map fun i => Value.int i 0
theorem jtk_full : ∀ d, Dig d → (fullEnd jtkCs 0 (mkS [d]) 4).outcome.isSome = true := by decide +kernel
theorem jtk_won : ∀ d, Dig d → (match (fullEnd jtkCs 0 (mkS [d]) 4).outcome with | some .matched => true | _ => false) = true := by decide +kernel
end
section
set_option maxRecDepth 100000
set_option maxHeartbeats 400000
open PySem.Builtin.Re
section
variable {prog : Program} {w : World} {A : Around} {E : Value → Shared → Prop} {s : Shared} {K : Frag} {P ca : Addr} {src fl : Value} {gr : Nat} {cs : List Value} {n : Nat} {t u : Tok} {x : Str}
theorem search_atK {Q : Value → Shared → Prop} {h₀ : Heap} {L : Addr} {m₀ : Str → Option Value} {news : Led} {s0 e0 g1 g2 : Nat} (X : K.In s.heap := by k_in) (e : K.lookup P = some (patObj src fl (1 : Nat) ca t) := by k_is) (e2 : K.lookup ca = some (tupObj cs n) := by k_is) (F : Fr h₀ L s.heap m₀ := by k_asm) (N : News h₀ L s.heap news := by k_asm) (hx : x.length < 2 ^ 63 := by omega)
    (he : FindsAt cs x s0 e0 g1 g2 := by assumption)
    (h : ∀ a b h' last, (∀ p ∈ news, p.1 < a) → a < b → Fr h₀ L h' m₀ → News h₀ L h' ((b, matObj (.str x u) (.ref P) 0 x.length last a) :: (a, spO s0 e0 g1 g2) :: news) → Q (.ref b) { s with heap := h' }) :
    wpAny (model prog w) A (call (.builtin "re.Pattern.search") [.ref P, .str x u]) Q E s := by
  obtain ⟨mm, hf, h1, h2, h3⟩ := he
  refine search_someK (gr := 1) X e e2 F N hx hf (by decide) fun a b h' l1 l2 F' N' => h a b h' mm.lastindex l1 l2 F' ?_
  have e3 : spObj 1 mm = spO s0 e0 g1 g2 := by
    show ({ cls := .type "tuple", data := .seq (rawInt mm.start :: rawInt mm.handed :: spansOf 1 mm).toArray } : Obj) = _
    rw [h1, h2, h3]
  rw [e3] at N'
  exact N'
theorem full_digK {Q : Value → Shared → Prop} {h₀ : Heap} {L : Addr} {m₀ : Str → Option Value} {news : Led} {d : Nat} (hd : Dig d := by assumption) (X : K.In s.heap := by k_in) (e : K.lookup P = some (patObj src fl (0 : Nat) ca t) := by k_is) (e2 : K.lookup ca = some (tupObj jtkCs n) := by k_is) (F : Fr h₀ L s.heap m₀ := by k_asm) (N : News h₀ L s.heap news := by k_asm)
    (h : ∀ b h' o, (∀ p ∈ news, p.1 < b) → o.cls = .type "re.Match" → Fr h₀ L h' m₀ → News h₀ L h' ((b, o) :: news) → Q (.ref b) { s with heap := h' }) :
    wpAny (model prog w) A (call (.builtin "re.Pattern.fullmatch") [.ref P, .str (mkS [d]) u]) Q E s := by
  have hw := jtk_won d hd
  have ho : (fullEnd jtkCs 0 (mkS [d]) 4).outcome = some .matched := by
    revert hw
    cases (fullEnd jtkCs 0 (mkS [d]) 4).outcome with
    | none => intro h; cases h
    | some o => cases o <;> intro h <;> first | rfl | cases h
  refine full_some (gr := 0) F N (X _ _ e) (X _ _ e2) 4 (by decide) (by show ([d].toArray).size < 2 ^ 63; simp) ho rfl (by decide) fun a b h' l1 l2 F' N' => h b h' (matObj (.str (mkS [d]) u) (.ref P) 0 (mkS [d]).cps.size (fullEnd jtkCs 0 (mkS [d]) 4).lastindex a) (fun p hp => Nat.lt_trans (l1 p hp) l2) rfl F' (cb_drop N' fun p hp => ?_)
  rcases List.mem_cons.mp hp with rfl | hp
  · exact .head _
  · exact .tail _ (.tail _ hp)
end
theorem slot_subn : Slot "re.Pattern" "subn" "re.Pattern.subn" :=
  .of (owner := "re.Pattern") (n := "subn") (by rw [typeLookup_type, builtinLookup_eq_fast]; kernel_rfl) (by decide +kernel) (by decide +kernel) (by decide +kernel)
    (by first | exact .inl (by decide +kernel) | exact .inr (by decide +kernel)) (by rw [isSubtype_type]; kernel_rfl)
theorem entry_subn : entryFor table "re.Pattern.subn" = some Builtin.«re.Pattern.subn» := entryFor_of_tree (by kernel_rfl)
theorem entry_subloop : entryFor table "re.Pattern.sub.loop" = some Builtin.«re.Pattern.sub.loop» := entryFor_of_tree (by kernel_rfl)
theorem args_subn (a b c : Value) : argsOk "re.Pattern.subn" ⟨[a, b, c], []⟩ := by unfold argsOk; kernel_rfl
theorem type_subn : typeOf (.builtin "re.Pattern.subn") = pure (.type "method_descriptor") := by kernel_rfl
theorem reNamed_2 (id f : String) (x y : Value) : reNamed id f ["repl", "string", "count"] 2 [x, y] [] = pure [some x, some y, none] := rfl
section
variable {prog : Program} {w : World} {A : Around} {E : Value → Shared → Prop} {P ca : Addr} {src fl : Value} {gr : Nat} {cs : List Value} {n : Nat} {t u v : Tok} {x : Str} {hp : Heap} {g : Array GenState} {d : Drawn} {tt : Nat} {os : OsState}
theorem reWhole_str {Q : ReTarget → Shared → Prop} (ho : hp.get? P = some (patObj src fl gr ca t)) (hc : hp.get? ca = some (tupObj cs n))
    (hq : Q { pattern := .ref P, string := .str x u, code := codeOf cs, text := x.cps, kind := 0, groups := gr, pos := 0, lim := x.cps.size } ⟨hp, g, d, tt, os⟩) :
    wpAny (model prog w) A (reWholeTarget (.ref P) (.str x u)) Q E ⟨hp, g, d, tt, os⟩ := by
  unfold reWholeTarget
  repeat (any_goals (first | assumption | wp_step))
theorem subn_start {Q : Value → Shared → Prop} (ho : hp.get? P = some (patObj src fl gr ca t)) (hc : hp.get? ca = some (tupObj cs n))
    (h : codeAny (model prog w) A (.builtin "re.Pattern.sub.loop" ⟨[.ref P, .str x u, .str (Str.ofString "") v, rawInt 0, rawInt 0, rawInt 0, rawInt 0, rawInt 0, .bool false, .ref hp.objs.size, .bool true], []⟩) (fun r s' => match r with
      | .ok (.ret v) => Q v s'
      | .ok _ => False
      | .error e => E e s') ⟨hp.push { cls := .type "list", data := .seq #[] }, g, d, tt, os⟩) :
    wpAny (model prog w) A (call (.builtin "re.Pattern.subn") [.ref P, .str (Str.ofString "") v, .str x u]) Q E ⟨hp, g, d, tt, os⟩ := by
  refine wpAny_call (codeAny_call_builtin slot_subn.plain entry_subn (slot_subn.check _ _ _ _ _ _ _ _ ⟨_, ho, rfl⟩ (args_subn _ _ _) ?_))
  unfold Builtin.«re.Pattern.subn» reSubstitute
  dsimp only
  rw [reNamed_2]
  have f1 : typeLookup (.type "str") "__call__" = pure none := by rw [typeLookup_type, builtinLookup_eq_fast]; kernel_rfl
  repeat (any_goals (first | assumption | wp_step))
  rw [if_pos (by decide +kernel)]
  refine wpAny_bind (wpAny_pure ?_)
  refine wpAny_bind (wpAny_holding (reWhole_str ho hc ?_))
  repeat (any_goals (first | assumption | wp_step))
  exact ⟨Code.quiet_builtin _ (by decide +kernel), h⟩
theorem reNext_some {A : Around} {E : Value → Shared → Prop} {tg : ReTarget} {start : Nat} {must : Bool} {mm : Sre.M} {Q : Option Sre.M → Shared → Prop} {s : Shared} (h : ∃ k, k < 2 ^ 64 ∧ Sre.M.runFor (4 * k) (Sre.forSearch tg.code tg.text tg.groups start tg.lim must) = mm ∧ mm.outcome = some .matched) (hq : Q (some mm) s) : wpAny (model prog w) A (reNextFound tg start must) Q E s := by
  obtain ⟨k, hk, rfl, ho⟩ := h
  exact reRun_some k hk ho hq
theorem reNext_none {A : Around} {E : Value → Shared → Prop} {tg : ReTarget} {start : Nat} {must : Bool} {Q : Option Sre.M → Shared → Prop} {s : Shared} (h : ∃ k, k < 2 ^ 64 ∧ (Sre.M.runFor (4 * k) (Sre.forSearch tg.code tg.text tg.groups start tg.lim must)).outcome = some .failed) (hq : Q none s) : wpAny (model prog w) A (reNextFound tg start must) Q E s := by
  obtain ⟨k, hk, ho⟩ := h
  exact reRun_none k hk ho hq
theorem noTurn {A : Around} {E : Value → Shared → Prop} {y : Str} {v : Tok} {Q : Unit → Shared → Prop} {s : Shared} (h : Q () s) : wpAny (model prog w) A (reLiteralCannotBeTurned (.str y v)) Q E s := by
  obtain ⟨hp, g, d, tt, os⟩ := s
  unfold reLiteralCannotBeTurned
  repeat (any_goals (first | assumption | wp_step))
theorem subloop_1 {D : Addr} {v : Tok} {nn : Nat} {R : Result → Shared → Prop} {mm : Sre.M} (ho : hp.get? P = some (patObj src fl gr ca t)) (hc : hp.get? ca = some (tupObj cs n)) (hD : hp.get? D = some { cls := .type "list", data := .seq #[] nn })
    (h : ∃ k, k < 2 ^ 64 ∧ Sre.M.runFor (4 * k) (Sre.forSearch (codeOf cs) x.cps gr 0 x.cps.size false) = mm ∧ mm.outcome = some .matched) (hst : mm.start = 0) (hhd : mm.handed = 2)
    (hR : codeAny (model prog w) A (.builtin "re.Pattern.sub.loop" ⟨[.ref P, .str x u, .str (Str.ofString "") v, rawInt 0, rawInt 0, rawInt 1, rawInt 2, rawInt 2, .bool false, .ref D, .bool true], []⟩) R ⟨hp.update D (Obj.mapSeq fun y => y.push (.str (Str.ofString "") v)), g, d, tt, os⟩) :
    codeAny (model prog w) A (.builtin "re.Pattern.sub.loop" ⟨[.ref P, .str x u, .str (Str.ofString "") v, rawInt 0, rawInt 0, rawInt 0, rawInt 0, rawInt 0, .bool false, .ref D, .bool true], []⟩) R ⟨hp, g, d, tt, os⟩ := by
  refine codeAny_builtin entry_subloop ?_
  unfold Builtin.«re.Pattern.sub.loop»
  refine wpAny_bind (reWhole_str ho hc ?_)
  dsimp only
  rw [if_pos (by decide)]
  refine wpAny_bind (noTurn ?_)
  rw [if_neg (by decide)]
  refine wpAny_bind (reNext_some h ?_)
  dsimp only
  rw [hst, hhd, if_neg (by decide), if_pos (by decide)]
  refine wpAny_bind (wpAny_pure ?_)
  have en : (Value.str (Str.ofString "") v != Value.none) = true := by simp
  rw [if_pos en]
  refine wpAny_bind (wpAny_updateSeq hD rfl ?_)
  exact wpAny_pure ⟨Code.quiet_builtin _ (by decide +kernel), hR⟩
theorem reSlice_str {A : Around} {E : Value → Shared → Prop} {b e : Nat} {Q : Value → Shared → Prop} (hz : x.length ≤ 1000) (hq : Q (.str ⟨x.cps.extract b e⟩ tt) ⟨hp, g, d, tt + 1, os⟩) : wpAny (model prog w) A (reSlice x.cps 0 b e) Q E ⟨hp, g, d, tt, os⟩ := by
  unfold reSlice
  rw [if_pos (by decide)]
  refine wpAny_mkStr hq ?_
  have h1 : (⟨x.cps.extract b e⟩ : Str).length ≤ x.length := by
    show (x.cps.extract b e).size ≤ x.cps.size
    rw [Array.size_extract]
    omega
  rw [sizeLine_eq]
  omega
theorem subloop_2 {D : Addr} {v : Tok} {nn : Nat} {R : Result → Shared → Prop} (ho : hp.get? P = some (patObj src fl gr ca t)) (hc : hp.get? ca = some (tupObj cs n)) (hD : hp.get? D = some { cls := .type "list", data := .seq #[.str (Str.ofString "") v] nn })
    (h : ∃ k, k < 2 ^ 64 ∧ (Sre.M.runFor (4 * k) (Sre.forSearch (codeOf cs) x.cps gr 2 x.cps.size false)).outcome = some .failed) (h2 : 2 < x.cps.size) (hz : x.length ≤ 1000)
    (hR : ∀ t' k, R (.ok (.ret (.ref (hp.update D (Obj.mapSeq fun y => y.push (.str ⟨x.cps.extract (Int.toNat 2) x.cps.size⟩ tt))).objs.size))) ⟨(hp.update D (Obj.mapSeq fun y => y.push (.str ⟨x.cps.extract (Int.toNat 2) x.cps.size⟩ tt))).push { cls := .type "tuple", data := .seq #[.str (Txt.join ⟨x.cps.extract 0 0⟩ [Str.ofString "", ⟨x.cps.extract 2 x.cps.size⟩]) t', .int 1 k] }, g, d, k + 1, os⟩) :
    codeAny (model prog w) A (.builtin "re.Pattern.sub.loop" ⟨[.ref P, .str x u, .str (Str.ofString "") v, rawInt 0, rawInt 0, rawInt 1, rawInt 2, rawInt 2, .bool false, .ref D, .bool true], []⟩) R ⟨hp, g, d, tt, os⟩ := by
  refine codeAny_builtin entry_subloop ?_
  unfold Builtin.«re.Pattern.sub.loop»
  refine wpAny_bind (reWhole_str ho hc ?_)
  dsimp only
  rw [if_pos (by decide)]
  refine wpAny_bind (noTurn ?_)
  rw [if_neg (by decide)]
  refine wpAny_bind (reNext_none h ?_)
  dsimp only
  rw [if_pos (show Int.toNat 2 < x.cps.size from h2)]
  refine wpAny_bind (reSlice_str hz ?_)
  refine wpAny_bind (wpAny_updateSeq hD rfl ?_)
  refine wpAny_bind (reSlice_str hz ?_)
  have hD2 := PySem.IsL.update hD (fun y => y.push (.str ⟨x.cps.extract (Int.toNat 2) x.cps.size⟩ tt))
  refine wpAny_bind (wpAny_seqItems hD2 rfl ?_)
  rw [if_neg (by simp)]
  have hl2 : ∀ b e, (⟨x.cps.extract b e⟩ : Str).length ≤ 1000 := by
    intro b e
    have h1 : (⟨x.cps.extract b e⟩ : Str).length ≤ x.length := by
      show (x.cps.extract b e).size ≤ x.cps.size
      rw [Array.size_extract]
      omega
    omega
  refine wpAny_bind (join_listW (x := ⟨x.cps.extract 0 0⟩) (ys := [Str.ofString "", ⟨x.cps.extract 2 x.cps.size⟩]) ⟨_, hD2, rfl, _, rfl⟩ (.cons _ _ (.cons _ _ .nil)) ?_ ?_ (fun t' k => ?_))
  · show (x.cps.extract 0 0).size ≤ 16
    simp
  · have h1 := hl2 2 x.cps.size
    have h2 : (Str.ofString "").length = 0 := by decide +kernel
    simp only [List.map_cons, List.map_nil, List.sum_cons, List.sum_nil, List.length_cons, List.length_nil]
    omega
  dsimp only
  rw [if_pos rfl]
  repeat (any_goals (first | assumption | wp_step))
  exact hR t' k
theorem subn_led {K : Frag} {s : Shared} {h₀ : Heap} {L : Addr} {m : Str → Option Value} {news : Led} {Q : Value → Shared → Prop} {Z : Str} {v : Tok} {mm : Sre.M} (X : K.In s.heap) (e : K.lookup P = some (patObj src fl (0 : Nat) ca t)) (e2 : K.lookup ca = some (tupObj cs n)) (F : Fr h₀ L s.heap m) (N : News h₀ L s.heap news) (hz : x.length ≤ 1000) (h2 : 2 < x.cps.size)
    (hf : ∃ k, k < 2 ^ 64 ∧ Sre.M.runFor (4 * k) (Sre.forSearch (codeOf cs) x.cps 0 0 x.cps.size false) = mm ∧ mm.outcome = some .matched) (hst : mm.start = 0) (hhd : mm.handed = 2)
    (hg : ∃ k, k < 2 ^ 64 ∧ (Sre.M.runFor (4 * k) (Sre.forSearch (codeOf cs) x.cps 0 2 x.cps.size false)).outcome = some .failed)
    (hZ : Txt.join ⟨x.cps.extract 0 0⟩ [Str.ofString "", ⟨x.cps.extract 2 x.cps.size⟩] = Z)
    (hq : ∀ T h' t1 t2 k, (∀ p ∈ news, p.1 < T) → Fr h₀ L h' m → News h₀ L h' ((T, ({ cls := .type "tuple", data := .seq #[.str Z t1, .int 1 t2] } : Obj)) :: news) → Q (.ref T) { s with heap := h', toks := k }) :
    wpAny (model prog w) A (call (.builtin "re.Pattern.subn") [.ref P, .str (Str.ofString "") v, .str x u]) Q E s := by
  subst hZ
  obtain ⟨hp, g, d, tt, os⟩ := s
  have hoP := X _ _ e
  have hoC := X _ _ e2
  have old : ∀ {b o}, hp.get? b = some o → b ≠ hp.objs.size := fun e q => Nat.lt_irrefl _ (q ▸ Heap.lt_size e)
  refine subn_start hoP hoC ?_
  have p1 : ∀ b o, hp.get? b = some o → (hp.push { cls := .type "list", data := .seq #[] }).get? b = some o := fun b o e => Heap.get?_push_of_some _ e
  have hD : (hp.push { cls := .type "list", data := .seq #[] }).get? hp.objs.size = some { cls := .type "list", data := .seq #[] } := Heap.get?_push_size _ rfl
  refine subloop_1 (p1 _ _ hoP) (p1 _ _ hoC) hD hf hst hhd ?_
  have hD2 := PySem.IsL.update hD (fun y => y.push (.str (Str.ofString "") v))
  have p2 : ∀ b o, hp.get? b = some o → ((hp.push { cls := .type "list", data := .seq #[] }).update hp.objs.size (Obj.mapSeq fun y => y.push (.str (Str.ofString "") v))).get? b = some o := fun b o e => (Heap.get?_update_ne _ _ _ _ (old e)).trans (p1 b o e)
  refine subloop_2 (p2 _ _ hoP) (p2 _ _ hoC) hD2 hg h2 hz fun t' k => ?_
  have hL0 : hp.objs.size ≠ L := fun q => by
    obtain ⟨o, _, _, ho, _⟩ := F.ns
    exact old ho q.symm
  have hn0 : h₀.get? hp.objs.size = none := next_is_new F
  have F3 := ((F.push { cls := .type "list", data := .seq #[] }).change (Heap.SameBut.update _ hp.objs.size (Obj.mapSeq fun y => y.push (.str (Str.ofString "") v))) hL0 hn0).change (Heap.SameBut.update _ hp.objs.size (Obj.mapSeq fun y => y.push (.str ⟨x.cps.extract (Int.toNat 2) x.cps.size⟩ tt))) hL0 hn0
  have N3 : News h₀ L (((hp.push { cls := .type "list", data := .seq #[] }).update hp.objs.size (Obj.mapSeq fun y => y.push (.str (Str.ofString "") v))).update hp.objs.size (Obj.mapSeq fun y => y.push (.str ⟨x.cps.extract (Int.toNat 2) x.cps.size⟩ tt))) news :=
    fun p hp9 => ⟨(Heap.get?_update_ne _ _ _ _ (old (N p hp9).1)).trans (p2 _ _ (N p hp9).1), (N p hp9).2⟩
  exact hq _ _ _ _ _ (fun p hp9 => Heap.lt_size (N3 p hp9).1) (F3.push _) (N3.push F3 _)
end
end
section
set_option maxRecDepth 100000
set_option maxHeartbeats 8000000
theorem DT.sure {kp pre : Prop} {w : World} {mean : ExcName → Option Value} {mg mb : Str → Option Value} {f : Addr} {sz : Nat} {args : List Dat} {out : Dat} (C : DT kp pre w mean mg mb f sz args out) (hp : pre) : DT kp True w mean mg mb f sz args out :=
  fun _ _ _ _ _ _ _ _ _ _ _ _ _ hh hA hf hk hdp hu B F X N T D _ ret => C _ _ _ _ _ _ _ _ _ _ _ _ _ hh hA hf hk hdp hu B F X N T D hp ret
theorem ok_nS (n : Node) : kqdOk 8 (dS (nS n)) = true := by
  simp only [kqdOk, List.all_eq_true, List.mem_map]
  rintro d ⟨s, ⟨x, _, rfl⟩, rfl⟩
  cases x <;> decide +kernel
theorem map_str_inj : ∀ {n k : Node}, n.map Nm.str = k.map Nm.str → n = k
  | [], [], _ => rfl
  | [], _ :: _, h => nomatch h
  | _ :: _, [], h => nomatch h
  | x :: n, y :: k, h => by
    obtain ⟨h1, h2⟩ := List.cons.inj h
    rw [str_inj h1, map_str_inj h2]
theorem map_dstr_inj : ∀ {n k : List Str}, n.map Dat.str = k.map Dat.str → n = k
  | [], [], _ => rfl
  | [], _ :: _, h => nomatch h
  | _ :: _, [], h => nomatch h
  | x :: n, y :: k, h => by
    obtain ⟨h1, h2⟩ := List.cons.inj h
    cases h1
    rw [map_dstr_inj h2]
theorem dS_inj {xs ys : List Str} (h : dS xs = dS ys) : xs = ys := map_dstr_inj (Dat.list.inj h)
theorem dnS_inj {n k : Node} (h : dS (nS n) = dS (nS k)) : n = k := map_str_inj (dS_inj h)
theorem dnS_mem {n : Node} {nodes : List Node} : dS (nS n) ∈ (nSS nodes).map dS ↔ n ∈ nodes := by
  constructor
  · intro h
    obtain ⟨xs, h1, h2⟩ := List.mem_map.mp h
    obtain ⟨k, h3, rfl⟩ := List.mem_map.mp h1
    rw [← dnS_inj h2]
    exact h3
  · exact fun h => List.mem_map.mpr ⟨_, List.mem_map.mpr ⟨_, h, rfl⟩, rfl⟩
section
open Classical
variable {prog : Program} {w : World} {A : Around} {E : Value → Shared → Prop} {s : Shared} {h₀ : Heap} {L a : Addr} {news : Led} {Q : Value → Shared → Prop} {x : Value} {n : Node} {nodes : List Node}
theorem in_yes (N : News h₀ L s.heap news) (D : DatIn news (.ref a) (dLL (nSS nodes))) (Dx : DatIn news x (dS (nS n))) (hu : A.units + 64 < cLine) (hin : n ∈ nodes) (h : Q (.bool true) s) : wpAny (model prog w) A (compareOp .In x (.ref a)) Q E s := by
  cases D with
  | list hm hv =>
    refine kqd_isIn N hm rfl rfl hv (fun _ h => h) Dx (fun _ h => h) ?_ (ok_nS n) hu ?_
    · intro d hd
      obtain ⟨xs, h1, rfl⟩ := List.mem_map.mp hd
      obtain ⟨k, h3, rfl⟩ := List.mem_map.mp h1
      exact ok_nS k
    · rw [decide_eq_true (dnS_mem.mpr hin)]
      exact h
theorem in_no (N : News h₀ L s.heap news) (D : DatIn news (.ref a) (dLL (nSS nodes))) (Dx : DatIn news x (dS (nS n))) (hu : A.units + 64 < cLine) (hin : ¬ n ∈ nodes) (h : Q (.bool false) s) : wpAny (model prog w) A (compareOp .In x (.ref a)) Q E s := by
  cases D with
  | list hm hv =>
    refine kqd_isIn N hm rfl rfl hv (fun _ h => h) Dx (fun _ h => h) ?_ (ok_nS n) hu ?_
    · intro d hd
      obtain ⟨xs, h1, rfl⟩ := List.mem_map.mp hd
      obtain ⟨k, h3, rfl⟩ := List.mem_map.mp h1
      exact ok_nS k
    · rw [decide_eq_false fun q => hin (dnS_mem.mp q)]
      exact h
end
local macro_rules | `(tactic| walk_at "exec For Name List cons nil") => `(tactic| row_wit1 For_open)
local macro_rules | `(tactic| walk_at "compareOp In ref ref") => `(tactic| (k_here; refine halt ?_))
local macro_rules | `(tactic| walk_at "call ref") => `(tactic| (k_here; refine halt ?_))
noncomputable def subs (nodes : List Node) (S : Nm → List Node) (n : Node) (l : List Nm) : List Node := n :: l.flatMap fun x => if n ++ [x] ∈ nodes then S x else []
theorem str_a : Nm.a.str = Str.ofString "a" := by decide +kernel
theorem str_ab : Nm.ab.str = Str.ofString "a-b" := by decide +kernel
theorem str_ba : Nm.ba.str = Str.ofString "ba" := by decide +kernel
def walkJ (nodes : List Node) (S : Nm → List Node) (n : Node) (news : Led) (a1 a2 l : Addr) (i : Nat) (m : Str → Option Value) (nx : Led) : Prop :=
  (∀ q ∈ news, q.1 < l) ∧ ∃ tl a, Kn m [(Str.ofString "row", .ref a), (Str.ofString "node", .ref a2), (Str.ofString "nodes", .ref a1)] ∧ (∀ p ∈ tl, ∀ q ∈ news, q.1 < p.1) ∧ (∀ p ∈ tl ++ news, p ∈ nx) ∧ DatIn (tl ++ news) (.ref a) (dLL (nSS (subs nodes S n ([Nm.a, .ab, .ba].take i))))
theorem nS_snoc (n : Node) (x : Nm) : (nS (n ++ [x])).map Dat.str = (nS n).map Dat.str ++ [Dat.str x.str] := by simp [nS]
theorem dat_at {h₀ h : Heap} {L : Addr} {led small : Led} {v : Value} {d : Dat} (_ : News h₀ L h led) (D : DatIn small v d) (hs : ∀ p ∈ small, p ∈ led) : DatIn led v d := DatIn.mono hs D
theorem mem_at {h₀ h : Heap} {L : Addr} {led small : Led} {q : Addr × Obj} (_ : News h₀ L h led) (D : q ∈ small) (hs : ∀ p ∈ small, p ∈ led) : q ∈ led := hs _ D
theorem nSS_app (l k : List Node) : (nSS (l ++ k)).map dS = (nSS l).map dS ++ (nSS k).map dS := by simp [nSS]
theorem subs_len (nodes : List Node) (S : Nm → List Node) (hS : ∀ x, (S x).length ≤ 300) (n : Node) (l : List Nm) : (subs nodes S n l).length ≤ 1 + 300 * l.length := by
  unfold subs
  rw [List.length_cons]
  suffices (l.flatMap fun x => if n ++ [x] ∈ nodes then S x else []).length ≤ 300 * l.length by omega
  induction l with
  | nil => simp
  | cons x r ih =>
    rw [List.flatMap_cons, List.length_append, List.length_cons]
    have := hS x
    split
    · omega
    · rw [List.length_nil]; omega
theorem subs_yes {nodes : List Node} {S : Nm → List Node} {n : Node} {l : List Nm} {i : Nat} {x : Nm} (hx : l[i]? = some x) (h : n ++ [x] ∈ nodes) : subs nodes S n (l.take (i + 1)) = subs nodes S n (l.take i) ++ S x := by
  unfold subs
  rw [List.take_add_one, hx, List.flatMap_append]
  simp [h]
theorem subs_no {nodes : List Node} {S : Nm → List Node} {n : Node} {l : List Nm} {i : Nat} {x : Nm} (hx : l[i]? = some x) (h : ¬ n ++ [x] ∈ nodes) : subs nodes S n (l.take (i + 1)) = subs nodes S n (l.take i) := by
  unfold subs
  rw [List.take_add_one, hx, List.flatMap_append]
  simp [h]
theorem skip_in {α : Type} {p a : α} : ∀ {X Y Z : List α}, p ∈ X ++ (Y ++ Z) → p ∈ X ++ (Y ++ a :: Z)
  | X, Y, Z, h => (List.mem_append.mp h).elim (fun h => List.mem_append_left _ h) fun h => List.mem_append_right _ ((List.mem_append.mp h).elim (fun h => List.mem_append_left _ h) fun h => List.mem_append_right _ (.tail _ h))
theorem skip_out {α : Type} {p a : α} : ∀ {X Y Z : List α}, p ∈ X ++ (Y ++ a :: Z) → p ∈ X ++ (Y ++ Z) ∨ p = a
  | X, Y, Z, h => (List.mem_append.mp h).elim (fun h => .inl (List.mem_append_left _ h)) fun h => (List.mem_append.mp h).elim (fun h => .inl (List.mem_append_right _ (List.mem_append_left _ h))) fun h => (List.mem_cons.mp h).elim .inr fun h => .inl (List.mem_append_right _ (List.mem_append_right _ h))
theorem walk_fin {g h' : Heap} {L I D : Addr} {oI oD : Obj} {tl9 mid tl news nx : Led} {pl : Addr × Obj} {P : Prop}
    (N8 : News g L h' ((D, oD) :: (tl9 ++ (mid ++ (I, oI) :: pl :: (tl ++ news)))))
    (l8 : ∀ p ∈ (tl9 ++ (mid ++ (I, oI) :: pl :: (tl ++ news))), p.1 < D)
    (l9 : ∀ p ∈ tl9, ∀ q ∈ (mid ++ (I, oI) :: pl :: (tl ++ news)), q.1 < p.1)
    (h1 : ∀ p ∈ mid, I < p.1) (hoI : NoDat oI) (hI : ∀ p ∈ nx, p.1 ≠ I) (hl : pl ∈ nx) (hsub : ∀ p ∈ tl ++ news, p ∈ nx)
    (htl : ∀ p ∈ tl, ∀ q ∈ news, q.1 < p.1) (hpl : ∀ q ∈ news, q.1 < pl.1) (hltI : ∀ q ∈ news, q.1 < I)
    (H : ∀ tl', News g L h' ((I, oI) :: (tl' ++ news)) → (∀ p ∈ tl' ++ news, p.1 ≠ I) → pl ∈ tl' ++ news → (D, oD) ∈ tl' → (∀ p ∈ tl', ∀ q ∈ news, q.1 < p.1) → (∀ p ∈ tl ++ news, p ∈ tl' ++ news) →
      (∀ vs ds, DatAll (tl9 ++ (mid ++ (I, oI) :: pl :: (tl ++ news))) vs ds → DatAll (tl' ++ news) vs ds) → P) : P := by
  have e : ((D, oD) :: (tl9 ++ (mid ++ pl :: tl))) ++ news = (D, oD) :: (tl9 ++ (mid ++ pl :: (tl ++ news))) := by simp
  have hIin : (I, oI) ∈ tl9 ++ (mid ++ (I, oI) :: pl :: (tl ++ news)) := List.mem_append_right _ (List.mem_append_right _ (.head _))
  have hm : ∀ p ∈ tl ++ news, p ∈ tl9 ++ (mid ++ pl :: (tl ++ news)) := fun p hp => List.mem_append_right _ (List.mem_append_right _ (.tail _ hp))
  have hq : ∀ q ∈ news, q ∈ mid ++ (I, oI) :: pl :: (tl ++ news) := fun q hq => List.mem_append_right _ (.tail _ (.tail _ (List.mem_append_right _ hq)))
  refine H ((D, oD) :: (tl9 ++ (mid ++ pl :: tl))) ?_ ?_ ?_ (.head _) ?_ ?_ ?_
  · rw [e]; exact cb_drop N8 (fc (.tail _ hIin) (fc (.head _) fun p hp => .tail _ (skip_in hp)))
  · rw [e]; exact fc (Nat.ne_of_gt (l8 _ hIin)) (fa (fun p hp => Nat.ne_of_gt (l9 p hp _ (List.mem_append_right _ (.head _)))) (fa (fun p hp => Nat.ne_of_gt (h1 p hp)) (fc (hI _ hl) fun p hp => hI _ (hsub p hp))))
  · rw [e]; exact .tail _ (List.mem_append_right _ (List.mem_append_right _ (.head _)))
  · exact fc (fun q h => l8 q (List.mem_append_right _ (hq q h))) (fa (fun p hp q h => l9 p hp q (hq q h)) (fa (fun p hp q h => Nat.lt_trans (hltI q h) (h1 p hp)) (fc hpl htl)))
  · rw [e]; exact fun p hp => .tail _ (hm p hp)
  · rw [e]; exact fun vs ds hd => DatAll.but (fun p hp => (skip_out hp).imp (fun h => .tail _ h) (fun (h : p = (I, oI)) => (by rw [h]; exact hoI))) hd
theorem nm_get {i : Nat} {v : Value} {t1 t2 t3 : Tok} {P : Value → Prop} (hv : [Value.str (Str.ofString "a") t1, Value.str (Str.ofString "a-b") t2, Value.str (Str.ofString "ba") t3][i]? = some v) (H : ∀ x t, [Nm.a, .ab, .ba][i]? = some x → P (.str x.str t)) : P v := by
  match i, hv with
  | 0, hv => cases hv; rw [← str_a]; exact H .a _ rfl
  | 1, hv => cases hv; rw [← str_ab]; exact H .ab _ rfl
  | 2, hv => cases hv; rw [← str_ba]; exact H .ba _ rfl
theorem walkJ.el {nodes : List Node} {S : Nm → List Node} {n : Node} {news nx : Led} {a1 a2 l : Addr} {i : Nat} {m : Str → Option Value} {h₀ h : Heap} {L : Addr} {P : Prop} (J : walkJ nodes S n news a1 a2 l i m nx) (F : Fr h₀ L h m)
    (H : ∀ tl a, Fr h₀ L h (upd (Str.ofString "row") (.ref a) (upd (Str.ofString "node") (.ref a2) (upd (Str.ofString "nodes") (.ref a1) m))) → (∀ q ∈ news, q.1 < l) → (∀ p ∈ tl, ∀ q ∈ news, q.1 < p.1) → (∀ p ∈ tl ++ news, p ∈ nx) → DatIn (tl ++ news) (.ref a) (dLL (nSS (subs nodes S n ([Nm.a, .ab, .ba].take i)))) → P) : P := by
  obtain ⟨hl, tl, a, hk, h1, h2, h3⟩ := J
  exact H tl a (hk.fr F) hl h1 h2 h3
theorem walkJ.mk' {nodes : List Node} {S : Nm → List Node} {n : Node} {news nx : Led} {a1 a2 l : Addr} {i : Nat} {m : Str → Option Value} (tl : Led) (a : Addr) (hk : Kn m [(Str.ofString "row", .ref a), (Str.ofString "node", .ref a2), (Str.ofString "nodes", .ref a1)]) (hl : ∀ q ∈ news, q.1 < l) (h1 : ∀ p ∈ tl, ∀ q ∈ news, q.1 < p.1) (h2 : ∀ p ∈ tl ++ news, p ∈ nx) (h3 : DatIn (tl ++ news) (.ref a) (dLL (nSS (subs nodes S n ([Nm.a, .ab, .ba].take i))))) : walkJ nodes S n news a1 a2 l i m nx := ⟨hl, tl, a, hk, h1, h2, h3⟩
theorem snoc_dat {l : Led} {vs : List Value} {n : Node} {x : Nm} {t : Tok} (h : DatAll l vs ((nS n).map Dat.str)) : DatAll l (vs ++ [.str x.str t]) ((nS (n ++ [x])).map Dat.str) := by
  rw [nS_snoc]; exact DatAll.append h (.one (.str _ _))
theorem walk_step (w : World) (mean : ExcName → Option Value) (mg mb : Str → Option Value) (nodes : List Node) (n : Node) (S : Nm → List Node) (sz : Nat)
    (H : ∀ x, n ++ [x] ∈ nodes → DT True True w mean mg mb 254 sz [dLL (nSS nodes), dS (nS (n ++ [x]))] (dLL (nSS (S x)))) (hS : ∀ x, (S x).length ≤ 300) :
    DT True (n.length ≤ 100) w mean mg mb 254 (sz + 70) [dLL (nSS nodes), dS (nS n)] (dLL (nSS (subs nodes S n [.a, .ab, .ba]))) := by
  refine DT.mk fun news vs hD hpre => ?_
  apply iv2ll hD; intro a1 vs1 n1 a2 vs2 n2 hm1 hv1 hm2 hv2
  refine VT.enter [(Str.ofString "node", .ref a2), (Str.ofString "nodes", .ref a1)] (H := ?_)
  intro A outer A₀ base g L s Q hh hA hdp hu B mf F X N T hret Mk vk
  have h1 : DatIn news (.ref a1) (dLL (nSS nodes)) := .list hm1 hv1
  k_steps
  (try dsimp only)
  k_steps
  rename Fr _ _ _ _ => F9
  rename News _ _ _ _ => N9
  rename _ ∧ AllLt _ news => lq
  rename_i la ha
  have hvl := hv2.length
  simp only [List.length_map] at hvl
  refine iter_listP (vs := [Value.str (Str.ofString "a") _, Value.str (Str.ofString "a-b") _, Value.str (Str.ofString "ba") _]) (walkJ nodes S n news a1 a2 la) hh (.head _) F9 N9 (fun _ _ _ _ _ h => go_name h) ?start ?turn ?done
  case start =>
    rename ∀ p ∈ news, p.1 < _ => l0
    exact walkJ.mk' [_] _ ⟨rfl, rfl, rfl, trivial⟩ (fun q hq => Nat.lt_trans (l0 q hq) lq.1) (fc l0 fun _ h => nomatch h) (fun _ h => .tail _ h) (DatIn.list (.head _) (.cons (DatIn.list (.tail _ hm2) (DatAll.mono (fun _ h => .tail _ h) hv2)) .nil))
  case turn =>
    intro I i v m₁ nx h tk oI hoI hlt hv hJ101 hI hl F1 N1
    apply nm_get hv; intro x t hx
    refine hJ101.el F1 fun tl a F2 hll htl hsub hrow => ?_
    have N2 := cb_drop N1 (news := (I, oI) :: (_, _) :: (tl ++ news)) (fc (.head _) (fc (.tail _ hl) fun p hp => .tail _ (hsub p hp)))
    clear F1 hJ101 N1 hv
    have hm2' := List.mem_append_right tl hm2
    have h1' := DatIn.mono (fun p hp => List.mem_append_right tl hp) h1
    k_steps
    refine Halt.go ?_
    rename Fr _ _ _ _ => F3
    rename News _ _ _ _ => N3
    rename I < _ ∧ _ ∧ _ => q1
    rename ∀ p ∈ (_ :: _ :: _ :: (tl ++ news)), p.1 < _ => q2
    by_cases hin : n ++ [x] ∈ nodes
    · refine in_yes (n := n ++ [x]) (nodes := nodes) N3 (dat_at N3 h1' (by intro p hp; tb_src)) (DatIn.list (.head _) (snoc_dat (DatAll.mono (fun p hp => .tail _ (.tail _ (.tail _ (.tail _ (List.mem_append_right _ hp))))) hv2))) ?_ hin ?_
      · ((try simp only [units_in1, units_deeper, Around.mark_units, units_caller]); omega)
      k_steps
      refine Halt.go ?_
      rename Fr _ _ _ _ => F4
      rename News _ _ _ _ => N4
      rename _ ∧ _ ∧ I < _ ∧ _ ∧ _ => q3
      rename ∀ p ∈ (_ :: _ :: _ :: _ :: _ :: (tl ++ news)), p.1 < _ => q4
      have hd1 := dat_at N4 h1' (by intro p hp; tb_src)
      have hd2 := dat_at N4 (DatIn.list (.head _) (snoc_dat (x := x) (t := t) (DatAll.mono (fun p hp => .tail _ (.tail _ (.tail _ (.tail _ (.tail _ (.tail _ (List.mem_append_right _ hp))))))) hv2))) (fun _ h => h)
      tbr_iter (H x hin)
      rename_i r9 tl9 h9 tk9 F9' N9' hl9 hs9 ho9
      apply ivl ho9; intro a9 vs9 n9 hm9 hv9
      refine ivr hrow fun vsr nr hmr hvr => ?_
      have hvl9 := hv9.length
      have hvlr := hvr.length
      simp only [List.length_map] at hvl9 hvlr
      have hsl := subs_len nodes S hS n ([Nm.a, .ab, .ba].take i)
      have hsx := hS x
      have hmr' := mem_at N9' hmr (by intro p hp; refine List.mem_append_right _ ?_; tb_src)
      have hti : ([Nm.a, .ab, .ba].take i).length ≤ 2 := by
        have := (List.getElem?_eq_some_iff.mp hx).1
        rw [List.length_take]
        simp only [List.length_cons, List.length_nil] at this
        omega
      k_steps
      rename Fr _ _ _ _ => F8
      rename News _ _ _ _ => N8
      rename ∀ p ∈ (tl9 ++ _), p.1 < _ => l8
      refine walk_fin (mid := [_, _, _, _]) N8 l8 hl9 (fc (q4 (I, oI) (by simp)) (fc q3.2.2.1 (fc (q2 (I, oI) (by simp)) (fc q1.1 fun _ h => nomatch h)))) (noDat_li hoI) hI hl hsub htl hll (fun q hq => hlt q (.tail _ (.tail _ hq))) fun tl' t1 t2 t3 t4 t5 t6 t7 => ?_
      refine EndT.next F8 t1 t2 (fun p e => by cases e; exact t3) (walkJ.mk' tl' _ ⟨rfl, rfl, rfl, trivial⟩ hll t5 (fun _ h => h) (DatIn.list (List.mem_append_left _ t4) ?_))
      rw [subs_yes hx hin, nSS_app]
      exact DatAll.append (DatAll.mono t6 hvr) (t7 _ _ hv9)
    · refine in_no (n := n ++ [x]) (nodes := nodes) N3 (dat_at N3 h1' (by intro p hp; tb_src)) (DatIn.list (.head _) (snoc_dat (DatAll.mono (fun p hp => .tail _ (.tail _ (.tail _ (.tail _ (List.mem_append_right _ hp))))) hv2))) ?_ hin ?_
      · ((try simp only [units_in1, units_deeper, Around.mark_units, units_caller]); omega)
      k_steps
      rename Fr _ _ _ _ => F8
      rename News _ _ _ _ => N8
      refine EndT.next F8 (nx := (_, _) :: (tl ++ news)) (cb_drop N8 (by intro p hp; rcases List.mem_cons.mp hp with rfl | hp <;> tb_src)) (fc (hI _ hl) fun p hp => hI _ (hsub _ hp)) (fun p e => by cases e; exact .head _) (walkJ.mk' tl _ ⟨rfl, rfl, rfl, trivial⟩ hll htl (fun _ h => .tail _ h) ?_)
      rw [subs_no hx hin]
      exact hrow
  case done =>
    intro m₁ nx h tk hJ94 hl F1 N1
    refine hJ94.el F1 fun tl a F2 hll htl hsub hrow => ?_
    clear F1 hJ94
    (try dsimp only)
    k_steps
    exact hret _ tl _ _ _ (by assumption) (cb_drop (by assumption) hsub) htl hrow
theorem walkN_subs (nodes : List Node) (f : Nat) (n : Node) : walkN nodes (f + 1) n = subs nodes (fun x => walkN nodes f (n ++ [x])) n [.a, .ab, .ba] := rfl
noncomputable def walkW : Nat → Nat
  | 0 => 1
  | f + 1 => 1 + 3 * walkW f
theorem walkN_len (nodes : List Node) : ∀ (f : Nat) (n : Node), (walkN nodes f n).length ≤ walkW f
  | 0, n => by simp [walkN, walkW]
  | f + 1, n => by
    have h : ∀ x, (if n ++ [x] ∈ nodes then walkN nodes f (n ++ [x]) else []).length ≤ walkW f := by
      intro x
      split
      · exact walkN_len nodes f _
      · simp
    have h1 := h .a
    have h2 := h .ab
    have h3 := h .ba
    simp only [walkN, walkW, List.length_cons, List.flatMap_cons, List.flatMap_nil, List.length_append, List.append_nil]
    omega
theorem walkW_le : ∀ f, f ≤ 4 → walkW f ≤ 300 := by decide
theorem walk_DT (w : World) (mean : ExcName → Option Value) (mg mb : Str → Option Value) (nodes : List Node) (D : Nat) (hD : ∀ k ∈ nodes, k.length ≤ D) : ∀ (f : Nat) (n : Node), f ≤ 5 → n.length + f ≤ 50 → D ≤ n.length + f →
    DT True True w mean mg mb 254 (70 * f + 70) [dLL (nSS nodes), dS (nS n)] (dLL (nSS (walkN nodes f n)))
  | 0, n, _, hn, hf => by
    have hno : ∀ x, ¬ n ++ [x] ∈ nodes := fun x h => by
      have := hD _ h
      rw [List.length_append, List.length_singleton] at this
      omega
    have e : walkN nodes 0 n = subs nodes (fun _ => []) n [.a, .ab, .ba] := by simp [walkN, subs]
    rw [e]
    exact (walk_step w mean mg mb nodes n (fun _ => []) 0 (fun x h => absurd h (hno x)) (fun _ => by simp)).sure (by omega)
  | f + 1, n, hf5, hn, hf => by
    rw [walkN_subs]
    exact (walk_step w mean mg mb nodes n (fun x => walkN nodes f (n ++ [x])) (70 * f + 70) (fun x _ => walk_DT w mean mg mb nodes D hD f (n ++ [x]) (by omega) (by rw [List.length_append, List.length_singleton]; omega) (by rw [List.length_append, List.length_singleton]; omega)) (fun x => Nat.le_trans (walkN_len _ _ _) (walkW_le f (by omega)))).sure (by omega)
end
section
set_option maxRecDepth 100000
set_option maxHeartbeats 8000000
theorem udm_DT2 (w : World) (mean : ExcName → Option Value) (mg mb : Str → Option Value) (x y : Str) (mm : Sre.M) : DT True (x.length ≤ 1000 ∧ y.length ≤ 1000 ∧ (Txt.lower x).length ≤ 1000 ∧ (Txt.lower y).length ≤ 1000 ∧ Fails ipCs 0 (Txt.lower x) ∧ Finds ipCs 0 (Txt.lower y) mm ∧ (Txt.lower x == Txt.lower y) = false) w mean mg mb 226 2 [.str x, .str y] (.bool false) := by
  refine DT.mk fun news vs hD hpre => ?_
  apply iv2ss hD; intro t u
  refine VT.enter [(Str.ofString "B", .str y u), (Str.ofString "A", .str x t)] (H := ?_)
  intro A outer A₀ base g L s Q hh hA hdp hu B mf F X N T hret Mk vk
  have hx0 := hpre.1
  have hy0 := hpre.2.1
  have hx := hpre.2.2.1
  have hy := hpre.2.2.2.1
  have hfx := hpre.2.2.2.2.1
  have hfy := hpre.2.2.2.2.2.1
  have hne := hpre.2.2.2.2.2.2
  k_steps
  exact hret _ [] _ _ _ (by assumption) (cb_drop (by assumption) (by kcj_all)) (fun _ h => nomatch h) (.bool _)
end
section
open PySem.Builtin PySem.Builtin.Str
set_option maxRecDepth 100000
set_option maxHeartbeats 8000000
/-! user_domain_match and reach on the hosts -/
noncomputable def under (b : Bool) (k i : Node) : Bool := !b && (i.isPrefixOf k && decide (i ≠ k))
theorem under_iff (k i : Node) : under false k i = true ↔ ∃ r, r ≠ [] ∧ k = i ++ r := by
  unfold under
  simp only [Bool.not_false, Bool.true_and, Bool.and_eq_true, List.isPrefixOf_iff_prefix, decide_eq_true_eq]
  constructor
  · rintro ⟨⟨r, rfl⟩, h⟩
    exact ⟨r, fun e => h (by rw [e]; simp), rfl⟩
  · rintro ⟨r, hr, rfl⟩
    exact ⟨⟨r, rfl⟩, fun e => hr (by simpa using e)⟩
theorem dot_host (b : Bool) (i : Node) : Str.ofString "." ++ hostS b i = mkS (46 :: hostL b i) := by
  rw [dot_is, hostS, mkS_app]
  rfl
theorem dot_hostC (b : Bool) (i : Node) : ∀ c ∈ 46 :: hostL b i, HostC c := by
  intro c hc
  rcases List.mem_cons.mp hc with rfl | hc
  · decide
  · exact hostL_hostC b i c hc
theorem host_not_dot (b : Bool) (k i : Node) : (hostS b k == mkS (46 :: hostL b i)) = false := by
  rw [beq_eq_false_iff_ne]
  intro e
  have h := congrArg (fun s : Str => s.cps.toList) e
  obtain ⟨⟨c, r, e1, hc⟩, _⟩ := host_ends b k
  simp only [hostS, e1] at h
  exact hc (List.cons.inj h).1
theorem dot7_finds (i : Node) (hi : i.length ≤ 100) : ∃ m, Finds ipCs 0 (mkS (46 :: hostL true i)) m := by
  by_cases h : i = []
  · subst h
    exact finds_7 [] (by simp) (by simp)
  · obtain ⟨l, e, h1, h2⟩ := host7_form i h
    rw [e]
    refine finds_7 (46 :: l) (by simp; omega) fun c hc => ?_
    rcases List.mem_cons.mp hc with rfl | hc
    · decide
    · exact h1 c hc
theorem udm_host (w : World) (mean : ExcName → Option Value) (mg mb : Str → Option Value) (b : Bool) (k i : Node) : DT True (k.length ≤ 100 ∧ i.length ≤ 100) w mean mg mb 226 2 [.str (Txt.upper (hostS b k)), .str (Str.ofString "." ++ hostS b i)] (.bool (under b k i)) := by
  intro A env outer A₀ base h₀ L m news s vs Q E hh hA hf hk hdp hu B F X N T hD hpre hret
  obtain ⟨hk1, hi1⟩ := hpre
  have lx : Txt.lower (Txt.upper (hostS b k)) = hostS b k := lower_upper_host _ (hostL_hostC b k)
  have ly : Txt.lower (Str.ofString "." ++ hostS b i) = mkS (46 :: hostL b i) := by rw [dot_host]; exact lower_host _ (dot_hostC b i)
  have z1 : (hostS b k).length ≤ 500 := by have := hostL_len b k; rw [hostS, mkS_len]; omega
  have z2 : (mkS (46 :: hostL b i)).length ≤ 500 := by have := hostL_len b i; rw [mkS_len, List.length_cons]; omega
  have z3 : (Txt.upper (hostS b k)).length ≤ 1000 := by rw [hostS, upper_host _ (hostL_hostC b k), mkS_len, List.length_map]; have := hostL_len b k; omega
  have z4 : (Str.ofString "." ++ hostS b i).length ≤ 1000 := by rw [dot_host]; omega
  cases b with
  | false =>
    have hu' : under false k i = Txt.endswith (hostS false k) (mkS (46 :: hostL false i)) := by
      rw [Bool.eq_iff_iff, under_iff, zone_iff]
    have C := udm_DT0 w mean mg mb (Txt.upper (hostS false k)) (Str.ofString "." ++ hostS false i)
    rw [lx, ly, ← hu'] at C
    refine C A env outer A₀ base h₀ L m news s vs Q E hh hA hf hk hdp hu B F X N T hD ⟨z3, z4, by omega, by omega, ?_, ?_, ?_⟩ hret
    · exact fails_nodig _ (by have := hostL_len false k; omega) (com_nodig k)
    · refine fails_nodig _ (by have := hostL_len false i; rw [List.length_cons]; omega) fun c hc => ?_
      rcases List.mem_cons.mp hc with rfl | hc
      · decide
      · exact com_nodig i c hc
    · rw [dot_is, starts_1]; simp
  | true =>
    by_cases h : k = []
    · subst h
      obtain ⟨mm, hm⟩ := dot7_finds i hi1
      have C := udm_DT2 w mean mg mb (Txt.upper (hostS true [])) (Str.ofString "." ++ hostS true i) mm
      rw [lx, ly] at C
      exact C A env outer A₀ base h₀ L m news s vs Q E hh hA hf hk hdp hu B F X N T hD ⟨z3, z4, by omega, by omega, fails_7, hm, host_not_dot _ _ _⟩ hret
    · obtain ⟨l, e, h1, h2⟩ := host7_form k h
      obtain ⟨mm, hm⟩ := finds_7 l (by omega) h1
      rw [← e] at hm
      have C := udm_DT1 w mean mg mb (Txt.upper (hostS true k)) (Str.ofString "." ++ hostS true i) mm
      rw [lx, ly] at C
      exact C A env outer A₀ base h₀ L m news s vs Q E hh hA hf hk hdp hu B F X N T hD ⟨z3, z4, by omega, hm, host_not_dot _ _ _⟩ hret
noncomputable def reachN (b : Bool) (n : Node) : Str := if !b && decide (1 < n.length) then Str.ofString "." ++ hostS b n.dropLast else hostS b n
theorem reach_host (w : World) (mean : ExcName → Option Value) (mg mb : Str → Option Value) (b : Bool) (n : Node) : DT True (n.length ≤ 100) w mean mg mb 233 2 [.str (hostS b n)] (.str (reachN b n)) := by
  intro A env outer A₀ base h₀ L m news s vs Q E hh hA hf hk hdp hu B F X N T hD hpre hret
  have z1 : (hostS b n).length ≤ 500 := by have := hostL_len b n; rw [hostS, mkS_len]; omega
  cases b with
  | false =>
    have e : reachF (hostS false n) = reachN false n := by
      rcases List.eq_nil_or_concat n with rfl | ⟨n, y, rfl⟩
      · exact reach_host0 false
      · rw [List.concat_eq_append]
        rcases List.eq_nil_or_concat n with rfl | ⟨n, x, rfl⟩
        · rw [List.nil_append, reach_host1]
          rfl
        · rw [List.concat_eq_append, reach_host2]
          unfold reachN
          simp
    have C := reach_DT0 w mean mg mb (hostS false n)
    rw [e] at C
    exact C A env outer A₀ base h₀ L m news s vs Q E hh hA hf hk hdp hu B F X N T hD ⟨by omega, fails_nodig _ (by have := hostL_len false n; omega) (com_nodig n), host_ok _ _⟩ hret
  | true =>
    have e1 : reachN true n = hostS true n := rfl
    rw [e1] at hret
    by_cases h : n = []
    · subst h
      have C := reach_DT0 w mean mg mb (hostS true [])
      rw [reach_host0] at C
      exact C A env outer A₀ base h₀ L m news s vs Q E hh hA hf hk hdp hu B F X N T hD ⟨by omega, fails_7, host_ok _ _⟩ hret
    · obtain ⟨l, e, h1, h2⟩ := host7_form n h
      obtain ⟨mm, hm⟩ := finds_7 l (by omega) h1
      rw [← e] at hm
      exact reach_DT1 w mean mg mb (hostS true n) mm A env outer A₀ base h₀ L m news s vs Q E hh hA hf hk hdp hu B F X N T hD ⟨by omega, hm⟩ hret
theorem host_path (w : World) (mean : ExcName → Option Value) (mg mb : Str → Option Value) (b : Bool) (n : Node) : DT True (n.length ≤ 100) w mean mg mb 275 1 [.str (pathS b n)] (.str (hostS b n)) := by
  intro A env outer A₀ base h₀ L m news s vs Q E hh hA hf hk hdp hu B F X N T hD hpre hret
  have C := host_DT w mean mg mb (pathS b n) (mkS [] :: topS b :: n.map Nm.str)
  rw [hostOf_path] at C
  refine C A env outer A₀ base h₀ L m news s vs Q E hh hA hf hk hdp hu B F X N T hD ⟨?_, split_path b n, ?_, ?_⟩ hret
  · have := pathS_len b n; omega
  · simp; omega
  · have hs : ((n.map Nm.str).map (·.length)).sum ≤ 3 * n.length := by
      clear hpre C hret hD
      induction n with
      | nil => simp
      | cons x r ih =>
        have := x.len
        simp only [List.map_cons, List.sum_cons, List.length_cons]
        have e : (Nm.str x).length = x.cps.length := by rw [Nm.str, mkS_len]
        omega
    have ht : (topS b).length ≤ 3 := by rw [topS, mkS_len]; exact (topL_len b).2
    simp only [List.drop_succ_cons, List.drop_zero, List.reverse_cons, List.map_append, List.sum_append, List.length_append, List.map_reverse, List.sum_reverse, List.length_reverse, List.length_map, List.map_cons, List.map_nil, List.sum_cons, List.sum_nil, List.length_singleton]
    omega
end
local macro_rules | `(tactic| k_all) => `(tactic| assumption)
local macro_rules | `(tactic| z_head) => `(tactic| (try ((rename ∀ p ∈ (_ : Led), p.1 < (_ : Addr) => lX9); have lY9 := lX9; k_lt lY9)))
local macro_rules | `(tactic| kst_allNe) => `(tactic| first | k_updF | (z_head; k_updF))
local macro_rules | `(tactic| walk_at "call builtin:list.append") => `(tactic| row_wit1 append_led)
local macro_rules | `(tactic| walk_at "call builtin:list.extend") => `(tactic| row_wit1 extend_led)
local macro_rules | `(tactic| walk_at "subscriptTail Name Slice ref ref") => `(tactic| (row_wit1 slice_fromX; z_head))
local macro_rules | `(tactic| walk_at "subscriptTail Name Slice ref ref") => `(tactic| (row_wit1 slice_toX; z_head))
section
set_option maxRecDepth 100000
set_option maxHeartbeats 8000000
section
variable {prog : Program} {w : World} {A : Around} {E : Value → Shared → Prop} {s : Shared} {h₀ : Heap} {L : Addr} {news : Led}
theorem item_out_led {value slice : PySem.Expr} {l : Addr} {vs : List Value} {nn : Nat} {k : Int} {u : Tok} {Q : Value → Shared → Prop} (hA : A.handled = none := by z_run) (N : News h₀ L s.heap news := by k_asm) (hm : (l, listOf vs.toArray nn) ∈ news := by tb_src) (hz : vs.length ≤ 1000 := by omega)
    (h0 : (vs.length : Int) ≤ k := by omega) (hk : k ≤ 1000 := by omega)
    (h : ∀ h' tk e, Heap.NewExc s.heap h' e "IndexError" → E (.ref e) { s with heap := h', toks := tk })
    (hs : subscripted slice false (.ref l) (.int k u) = operate [.ref l, .int k u] (getItem (.ref l) (.int k u)) := by with_unfolding_all rfl) :
    wpAny (model prog w) A (subscriptTail value slice (.ref l) (.int k u)) Q E s :=
  item_outK hA (isL N hm) (.inr (by simpa using h0)) (by omega) (by omega) h hs
end
local macro_rules | `(tactic| walk_at "subscriptTail") => `(tactic| row_wit1 item_out_led)
theorem str_at {news : Led} {vs : List Value} {ns : List Str} (h : DatAll news vs (ns.map Dat.str)) {i : Nat} {x : Str} (hx : ns[i]? = some x) : ∃ t, vs[i]? = some (.str x t) := by
  induction ns generalizing vs i with
  | nil => cases hx
  | cons n r ih =>
    cases h with
    | cons h1 h2 =>
      cases i with
      | zero =>
        cases hx
        cases h1
        exact ⟨_, rfl⟩
      | succ i => exact ih h2 hx
theorem nodup_ne {l : List Str} (h : l.Nodup) {i j : Nat} (hi : i < l.length) (hj : j < l.length) (hij : i ≠ j) : l[i] ≠ l[j] := by
  rcases Nat.lt_or_gt_of_ne hij with h1 | h1
  · exact List.pairwise_iff_getElem.mp h i j hi hj h1
  · exact fun e => List.pairwise_iff_getElem.mp h j i hj hi h1 e.symm
local macro_rules | `(tactic| walk_at "exec While Compare cons nil") => `(tactic| (k_here; k_dflt (refine whl_start 2 ?_)))
local macro_rules | `(tactic| walk_at "WhlIf") => `(tactic| (k_dflt (refine WhlIf.no (by with_reducible assumption) ?_)))
theorem off_new {news : Led} {L b : Addr} {oL : Obj} (h : ∀ p ∈ news, p.1 ≠ b) (hb : b ≠ L) : ∀ p ∈ news ++ [(L, oL)], p.1 ≠ b := fa h (fc (Ne.symm hb) fun _ h => nomatch h)
theorem tn0 (i : Nat) : ((i : Nat) : Int).toNat = i := rfl
theorem tn1 (i : Nat) : ((i : Int) + 1).toNat = i + 1 := rfl
theorem sld_drop {news : Led} {vs : List Value} {ps : List Str} (h : DatAll news vs (ps.map Dat.str)) (k : Nat) (qs : List Str) (e : ps.drop k = qs) : DatAll [] (vs.drop k) (qs.map Dat.str) := by
  have := datAll_drop h k
  rw [← List.map_drop, e] at this
  exact datAll_strs_any this
def sldJ (C M : List Str) (z : Str) (a1 a2 am au : Addr) (rest : Led) (n : Nat) (m : Str → Option Value) (nx : Led) : Prop :=
  ∃ (i j : Nat) (ti tj : Tok) (vm : List Value) (nm nu : Nat), nx = (au, listOf #[] nu) :: (am, listOf vm.toArray nm) :: rest ∧ Kn m [(Str.ofString "i", .int i ti), (Str.ofString "j", .int j tj), (Str.ofString "missing", .ref am), (Str.ofString "unexpected", .ref au), (Str.ofString "expected", .ref a1), (Str.ofString "actual", .ref a2)] ∧
    n + i = C.length + M.length ∧ ((i = j ∧ i < C.length ∧ vm = []) ∨ (j = C.length ∧ ∃ r, i = C.length + r ∧ r < M.length ∧ DatAll [] vm ((M.take r).map Dat.str)))
def sldX (L : Addr) (oL : Obj) (M : List Str) (z : Str) (am au : Addr) (news : Led) (m : Str → Option Value) (nx : Led) : Prop :=
  ∃ (vm vu : List Value) (nm nu : Nat) (sl : Array (Option Value)), nx = (au, listOf vu.toArray nu) :: (am, listOf vm.toArray nm) :: (news ++ [(L, { oL with slots := sl })]) ∧ Kn m [(Str.ofString "missing", .ref am), (Str.ofString "unexpected", .ref au)] ∧ DatAll [] vm (M.map Dat.str) ∧ DatAll [] vu [.str z]
section
variable {C M : List Str} {z : Str} {a1 a2 am au : Addr} {rest nx : Led} {n : Nat} {m : Str → Option Value}
noncomputable def sldK (a1 a2 am au : Addr) (i j : Int) (ti tj : Tok) : List (Str × Value) := [(Str.ofString "i", .int i ti), (Str.ofString "j", .int j tj), (Str.ofString "missing", .ref am), (Str.ofString "unexpected", .ref au), (Str.ofString "expected", .ref a1), (Str.ofString "actual", .ref a2)]
theorem sldJ.el {h₀ h : Heap} {L : Addr} {P : Prop} (J : sldJ C M z a1 a2 am au rest n m nx) (F : Fr h₀ L h m)
    (Ha : ∀ i ti tj nm nu, let mf := kstB m (sldK a1 a2 am au (i : Nat) (i : Nat) ti tj); Fr h₀ L h mf → n + i = C.length + M.length → i < C.length → nx = (au, listOf #[] nu) :: (am, listOf ([] : List Value).toArray nm) :: rest → P)
    (Hb : ∀ r ti tj vm nm nu, let mf := kstB m (sldK a1 a2 am au (C.length + r : Nat) (C.length : Nat) ti tj); Fr h₀ L h mf → n + (C.length + r) = C.length + M.length → r < M.length → DatAll [] vm ((M.take r).map Dat.str) → nx = (au, listOf #[] nu) :: (am, listOf vm.toArray nm) :: rest → P) : P := by
  obtain ⟨i, j, ti, tj, vm, nm, nu, e, hk, hn, hph⟩ := J
  rcases hph with ⟨rfl, hi, rfl⟩ | ⟨rfl, r, rfl, hr, hvm⟩
  · exact Ha i ti tj nm nu (hk.fr F) hn hi e
  · exact Hb r ti tj vm nm nu (hk.fr F) hn hr hvm e
theorem sldJ.nextA {i : Nat} {ti tj : Tok} {nm nu : Nat} (hn : n + i = C.length + M.length) (hlt : i + 1 < C.length + M.length) (hi : i < C.length) (k : Kn m (sldK a1 a2 am au ((i : Int) + 1) ((i : Int) + 1) ti tj)) :
    ∃ n', n' < n ∧ sldJ C M z a1 a2 am au rest n' m ((au, listOf #[] nu) :: (am, listOf ([] : List Value).toArray nm) :: rest) := by
  refine ⟨C.length + M.length - (i + 1), by omega, i + 1, i + 1, ti, tj, [], nm, nu, rfl, k, by omega, ?_⟩
  by_cases hic : i + 1 < C.length
  · exact .inl ⟨rfl, hic, rfl⟩
  · exact .inr ⟨by omega, 0, by omega, by omega, by rw [List.take_zero]; exact .nil⟩
theorem sldJ.nextB {r : Nat} {ti tj te : Tok} {nm nu : Nat} {vm : List Value} {e : Str} (hn : n + (C.length + r) = C.length + M.length) (hr1 : r + 1 < M.length) (hMr : M[r]? = some e) (hvm : DatAll [] vm ((M.take r).map Dat.str)) (k : Kn m (sldK a1 a2 am au (((C.length + r : Nat) : Int) + 1) (C.length : Nat) ti tj)) :
    ∃ n', n' < n ∧ sldJ C M z a1 a2 am au rest n' m ((au, listOf #[] nu) :: (am, listOf (vm ++ [Value.str e te]).toArray nm) :: rest) := by
  refine ⟨C.length + M.length - (C.length + r + 1), by omega, C.length + r + 1, C.length, ti, tj, _, nm, nu, rfl, k, by omega, .inr ⟨rfl, r + 1, by omega, hr1, ?_⟩⟩
  rw [List.take_add_one, hMr, List.map_append]
  exact DatAll.append hvm (.one (.str _ _))
theorem sldX.mk' {L : Addr} {oL : Obj} {news : Led} {vm vu : List Value} {nm nu : Nat} {sl : Array (Option Value)} (k : Kn m [(Str.ofString "missing", .ref am), (Str.ofString "unexpected", .ref au)]) (h1 : DatAll [] vm (M.map Dat.str)) (h2 : DatAll [] vu [.str z]) :
    sldX L oL M z am au news m ((au, listOf vu.toArray nu) :: (am, listOf vm.toArray nm) :: (news ++ [(L, { oL with slots := sl })])) := ⟨vm, vu, nm, nu, sl, rfl, k, h1, h2⟩
theorem sldX.el {L : Addr} {oL : Obj} {news : Led} {h₀ h : Heap} {L' : Addr} {P : Prop} (J : sldX L oL M z am au news m nx) (F : Fr h₀ L' h m) (H : ∀ vm vu nm nu sl, let mf := upd (Str.ofString "missing") (.ref am) (upd (Str.ofString "unexpected") (.ref au) m); Fr h₀ L' h mf → nx = (au, listOf vu.toArray nu) :: (am, listOf vm.toArray nm) :: (news ++ [(L, { oL with slots := sl })]) → DatAll [] vm (M.map Dat.str) → DatAll [] vu [.str z] → P) : P := by
  obtain ⟨vm, vu, nm, nu, sl, e, k, h1, h2⟩ := J
  exact H vm vu nm nu sl (k.fr F) e h1 h2
end
theorem sld_a {C M : List Str} {z : Str} {news : Led} {vs1 vs2 : List Value} {i : Nat} {P : Prop} (hv1 : DatAll news vs1 ((C ++ M).map Dat.str)) (hv2 : DatAll news vs2 ((C ++ [z]).map Dat.str)) (hd : (C ++ M ++ [z]).Nodup) (hi : i < C.length)
    (H : ∀ c a' t1 t2 t4, vs1[((i : Nat) : Int).toNat]? = some (.str c t1) → vs2[((i : Nat) : Int).toNat]? = some (.str c t2) → vs2[((i : Int) + 1).toNat]? = some (.str a' t4) → (a' == c) = false → (i + 1 < C.length + M.length → ∃ e' t3, vs1[((i : Int) + 1).toNat]? = some (.str e' t3) ∧ (e' == c) = false) → P) : P := by
  have hd1 : (C ++ M).Nodup := hd.sublist (List.sublist_append_left _ _)
  have hd2 : (C ++ [z]).Nodup := hd.sublist (List.Sublist.append (List.sublist_append_left _ _) (List.Sublist.refl _))
  obtain ⟨t1, g1⟩ := str_at hv1 (i := i) (x := C[i]) (by rw [List.getElem?_append_left hi]; exact List.getElem?_eq_getElem hi)
  obtain ⟨t2, g2⟩ := str_at hv2 (i := i) (x := C[i]) (by rw [List.getElem?_append_left hi]; exact List.getElem?_eq_getElem hi)
  have hi2 : i + 1 < (C ++ [z]).length := by rw [List.length_append, List.length_singleton]; omega
  obtain ⟨t4, g4⟩ := str_at hv2 (List.getElem?_eq_getElem hi2)
  refine H C[i] (C ++ [z])[i + 1] t1 t2 t4 g1 g2 g4 ?_ fun hlt => ?_
  · rw [beq_eq_false_iff_ne]
    have := nodup_ne hd2 hi2 (j := i) (by omega) (by omega)
    rwa [List.getElem_append_left hi] at this
  · have hi1 : i + 1 < (C ++ M).length := by rw [List.length_append]; omega
    obtain ⟨t3, g3⟩ := str_at hv1 (List.getElem?_eq_getElem hi1)
    refine ⟨_, t3, g3, ?_⟩
    rw [beq_eq_false_iff_ne]
    have := nodup_ne hd1 hi1 (j := i) (by omega) (by omega)
    rwa [List.getElem_append_left hi] at this
theorem sld_b {C M : List Str} {z : Str} {news : Led} {vs1 vs2 : List Value} {r : Nat} {P : Prop} (hv1 : DatAll news vs1 ((C ++ M).map Dat.str)) (hv2 : DatAll news vs2 ((C ++ [z]).map Dat.str)) (hd : (C ++ M ++ [z]).Nodup) (hr : r < M.length)
    (H : ∀ e t1 t2, vs1[((C.length + r : Nat) : Int).toNat]? = some (.str e t1) → vs2[((C.length : Nat) : Int).toNat]? = some (.str z t2) → e ≠ z → M[r]? = some e → (r + 1 < M.length → ∃ e' t3, vs1[(((C.length + r : Nat) : Int) + 1).toNat]? = some (.str e' t3) ∧ (e' == e) = false) → P) : P := by
  have hd1 : (C ++ M).Nodup := hd.sublist (List.sublist_append_left _ _)
  have hCr : C.length + r < (C ++ M).length := by rw [List.length_append]; omega
  obtain ⟨t1, g1⟩ := str_at hv1 (List.getElem?_eq_getElem hCr)
  obtain ⟨t2, g2⟩ := str_at hv2 (i := C.length) (x := z) (by simp)
  refine H _ t1 t2 g1 g2 ?_ ?_ fun h1 => ?_
  · have := nodup_ne hd (i := C.length + r) (j := C.length + M.length) (by simp; omega) (by simp) (by omega)
    rw [List.getElem_append_left hCr] at this
    simpa using this
  · rw [← List.getElem?_eq_getElem hCr, List.getElem?_append_right (by omega)]
    congr 1
    omega
  · have hi1 : C.length + r + 1 < (C ++ M).length := by rw [List.length_append]; omega
    obtain ⟨t3, g3⟩ := str_at hv1 (List.getElem?_eq_getElem hi1)
    exact ⟨_, t3, g3, beq_eq_false_iff_ne.mpr (nodup_ne hd1 hi1 hCr (by omega))⟩
theorem sld_end1 {M : List Str} {e : Str} {r : Nat} {C : List Str} {news : Led} {vs1 vm : List Value} {t : Tok} (hv1 : DatAll news vs1 ((C ++ M).map Dat.str)) (hMr : M[r]? = some e) (hvm : DatAll [] vm ((M.take r).map Dat.str)) : DatAll [] (vm ++ [.str e t] ++ vs1.drop (((C.length + r : Nat) : Int) + 1).toNat) (M.map Dat.str) := by
  have hM : M = M.take r ++ [e] ++ M.drop (r + 1) := by
    conv => lhs; rw [← List.take_append_drop (r + 1) M]
    rw [List.take_add_one, hMr]
    rfl
  have hdr : (C ++ M).drop (C.length + r + 1) = M.drop (r + 1) := by rw [List.drop_append]; simp [Nat.add_assoc]
  conv => arg 3; rw [hM, List.map_append, List.map_append]
  exact DatAll.append (DatAll.append hvm (.one (.str _ _))) (sld_drop hv1 _ _ hdr)
theorem sld_end2 {M : List Str} {r : Nat} {C : List Str} {news : Led} {vs1 vm : List Value} (hv1 : DatAll news vs1 ((C ++ M).map Dat.str)) (hvm : DatAll [] vm ((M.take r).map Dat.str)) : DatAll [] (vm ++ vs1.drop ((C.length + r : Nat) : Int).toNat) (M.map Dat.str) := by
  have hdr : (C ++ M).drop (C.length + r) = M.drop r := by rw [List.drop_append]; simp
  conv => arg 3; rw [← List.take_append_drop r M, List.map_append]
  exact DatAll.append hvm (sld_drop hv1 _ _ hdr)
theorem gt_of {e z : Str} (hez : e ≠ z) (hlt : ¬ e.cps.toList < z.cps.toList) : decide (z.cps.toList < e.cps.toList) = true := by
  refine decide_eq_true ?_
  apply Classical.byContradiction
  intro hn
  exact hez (Str.ext' (Array.toList_inj.mp (List.le_antisymm (List.not_lt.mp hn) (List.not_lt.mp hlt))))
theorem sld_DT (w : World) (mean : ExcName → Option Value) (mg mb : Str → Option Value) (C M : List Str) (z : Str) (hC : C ≠ []) (hz : C.length + M.length ≤ 100) (hd : (C ++ M ++ [z]).Nodup) :
    DT1 w mean mg mb 240 70 [dS (C ++ M), dS (C ++ [z])] (.tuple [dS M, dS [z]]) := by
  intro A env h₀ L m news s vs Q E hh hA hf hk hdp hu F X N T hD hret
  revert hret
  apply iv2ll hD; intro a1 vs1 n1 a2 vs2 n2 hm1 hv1 hm2 hv2 hret
  clear hD
  refine wpAny_call ?_
  k_dflt (refine' code_defT ?k1 ?k2 ?k3 ?k4 ?kA ?kF ?kK ?k6 ?k7 ?k8 ?k9 ?kB ?_ ?c2 ?c3 ?c4 ?c5; (case kA => assumption); (case kF => assumption); (case kK => assumption); (case k1 => assumption); (case k2 => assumption); (case k3 => assumption); (case k4 => assumption); (case k6 => k_is); (case k7 => k_is); (case k8 => omega); (case k9 => exact BindsTo.of_eq rfl); (case c5 => decide); (case kB => exact locs rfl); (case c2 => exact rfl); (case c3 => exact rfl); (case c4 => exact rfl); k_whole)
  intro L' oL h₁ hCa hFrs hneL hltL F1 N1
  (try dsimp only)
  refine fold3 ?_; intro qk ek sk
  k_steps
  refine Halt.go ?_
  rename Fr _ _ _ _ => F9
  rename News _ _ _ _ => N9
  rename _ < _ ∧ _ => lq
  rename ∀ p ∈ news ++ [(L, oL)], p.1 < _ => lq0
  have hCl : 0 < C.length := List.length_pos_iff.mpr hC
  have hvl1 := hv1.length
  have hvl2 := hv2.length
  simp only [List.length_map, List.length_append, List.length_singleton] at hvl1 hvl2
  rename_i am b1 b2 b3 b4 b5 au b6 b7 b8 b9 c1 c2 c3
  have hamL0 : am ≠ L := fun e => Nat.lt_irrefl L (e ▸ lq0 (L, oL) (by simp))
  have hauL0 : au ≠ L := fun e => by
    have h1 := lq0 (L, oL) (by simp)
    have h2 := lq.1
    rw [e] at h2
    exact absurd (Nat.lt_trans h1 h2) (Nat.lt_irrefl _)
  have n0m : ∀ p ∈ news, p.1 ≠ am := fun p hp => Nat.ne_of_lt (lq0 p (List.mem_append_left _ hp))
  have n0u : ∀ p ∈ news, p.1 ≠ au := fun p hp => Nat.ne_of_lt (Nat.lt_trans (lq0 p (List.mem_append_left _ hp)) lq.1)
  have n3' : @LT.lt Nat _ am au := lq.1
  refine While_brk (sldJ C M z a1 a2 am au (news ++ [(L, oL)])) (sldX L oL M z am au news) (C.length + M.length) F9 N9 ⟨0, 0, _, _, [], 0, 0, rfl, ⟨rfl, rfl, rfl, rfl, rfl, rfl, trivial⟩, rfl, .inl ⟨rfl, hCl, rfl⟩⟩ ?turn ?done
  case turn =>
    intro n m₁ nx h tk hJ F1 N1
    have hm1' : (a1, listOf vs1.toArray n1) ∈ news ++ [(L, oL)] := List.mem_append_left _ hm1
    have hm2' : (a2, listOf vs2.toArray n2) ∈ news ++ [(L, oL)] := List.mem_append_left _ hm2
    refine hJ.el F1 ?_ ?_
    · intro i ti tj nm nu mf F2 hn hi e
      subst e
      clear F1 hJ
      refine sld_a hv1 hv2 hd hi fun c a' t1 t2 t4 g1 g2 g4 gne2 hg => ?_
      have glt : decide (c.cps.toList < c.cps.toList) = false := decide_eq_false (List.lt_irrefl _)
      by_cases hlt : i + 1 < C.length + M.length
      · refine (hg hlt).elim fun e' h => h.elim fun t3 h => ?_
        have g3 := h.1
        have gne1 := h.2
        clear h hg
        k_steps
        rename Fr _ _ _ _ => F8
        rename News _ _ _ _ => N8
        exact EndB.next F8 N8 (sldJ.nextA hn hlt hi ⟨rfl, rfl, rfl, rfl, rfl, rfl, trivial⟩)
      · clear hg
        k_steps
        rename Heap.NewExc _ _ _ _ => xN
        rename Fr _ _ _ _ => F5
        rename News _ _ _ _ => N5
        refine noted_mine hA hFrs xN F5 N5 hauL0 hamL0 hneL ?_
        intro h6 sl hFrs6 H6
        (try dsimp only)
        refine ⟨ref_ne_byPass _, ?_⟩
        refine noted_again H6.held ?_
        intro F6 _
        refine TT.HeldNA.land H6 ?_
        intro h7 H7
        refine held_led H7 fun ob vs' tb otb tvs N7 c1 c2 c3 c4 c5 c6 c7 => ?_
        have F7 := H7.held.fr
        clear H6 H7 F6 xN F5 N5
        have hm1'' : (a1, listOf vs1.toArray n1) ∈ news ++ [(L, { oL with slots := sl })] := List.mem_append_left _ hm1
        have hm2'' : (a2, listOf vs2.toArray n2) ∈ news ++ [(L, { oL with slots := sl })] := List.mem_append_left _ hm2
        dsimp only at F7 N7 ⊢
        k_steps
        try dsimp only
        rename Fr _ _ _ _ => F8
        rename News _ _ _ _ => N8
        have H8 := held_back F8 N8 c1 c2 c3 c4 c5 c6 c7
        refine pass_on_heldN H8 ?_
        intro h9 H9
        clear H8 F8 N8
        (try dsimp only)
        refine noted_again H9.held ?_
        intro F9' _
        refine TT.HeldNA.land H9 ?_
        intro h10 H10
        clear H9 F9'
        with_unfolding_all refine TT.clause_hitTN H10 T (k := ?_) (hv := by boot_by_name)
        clear H10
        intro h11 F11 N11
        dsimp only at F11 N11 ⊢
        have n1' := off_new (oL := { oL with slots := sl }) n0m hamL0
        have n2' := off_new (oL := { oL with slots := sl }) n0u hauL0
        k_steps
        try dsimp only
        rename Fr _ _ _ _ => F8
        rename News _ _ _ _ => N8
        have hiC : i + 1 = C.length := by omega
        refine EndB.brk F8 (cb_drop N8 (fun p hp => .tail _ (.tail _ hp))) (sldX.mk' ⟨rfl, rfl, trivial⟩ ?_ ?_)
        · rw [tn1 i, hiC]; exact sld_drop hv1 C.length _ (by simp)
        · rw [tn1 i, hiC]; exact sld_drop hv2 C.length [z] (by simp)
    · intro r ti tj vm nm nu mf F2 hn hr hvm e
      subst e
      clear F1 hJ
      have hvml : vm.length = r := by rw [hvm.length, List.length_map, List.length_take]; omega
      refine sld_b hv1 hv2 hd hr fun e t1 t2 g1 g2 hez hMr hg1 => ?_
      by_cases hlt : e.cps.toList < z.cps.toList
      · have glt : decide (e.cps.toList < z.cps.toList) = true := decide_eq_true hlt
        have n1' := off_new (oL := oL) n0m hamL0
        have n2' := off_new (oL := oL) n0u hauL0
        by_cases hr1 : r + 1 < M.length
        · refine (hg1 hr1).elim fun e' h => h.elim fun t3 h => ?_
          have g3 := h.1
          have gne1 := h.2
          clear h hg1
          k_steps
          rename Fr _ _ _ _ => F8
          rename News _ _ _ _ => N8
          exact EndB.next F8 N8 (sldJ.nextB hn hr1 hMr hvm ⟨rfl, rfl, rfl, rfl, rfl, rfl, trivial⟩)
        · clear hg1
          k_steps
          rename Heap.NewExc _ _ _ _ => xN
          rename Fr _ _ _ _ => F5
          rename News _ _ _ _ => N5
          refine noted_mine hA hFrs xN F5 N5 hauL0 hamL0 hneL ?_
          intro h6 sl hFrs6 H6
          (try dsimp only)
          refine TT.HeldNA.land H6 ?_
          intro h7 H7
          clear H6
          with_unfolding_all refine TT.clause_hitTN H7 T (k := ?_) (hv := by boot_by_name)
          clear H7
          intro h11 F11 N11
          dsimp only at F11 N11 ⊢
          have hm1'' : (a1, listOf vs1.toArray n1) ∈ news ++ [(L, ({ oL with slots := sl } : Obj))] := List.mem_append_left _ hm1
          have hm2'' : (a2, listOf vs2.toArray n2) ∈ news ++ [(L, ({ oL with slots := sl } : Obj))] := List.mem_append_left _ hm2
          have n1' := off_new (oL := { oL with slots := sl }) n0m hamL0
          have n2' := off_new (oL := { oL with slots := sl }) n0u hauL0
          k_steps
          try dsimp only
          rename Fr _ _ _ _ => F8
          rename News _ _ _ _ => N8
          exact EndB.brk F8 (cb_drop N8 (fun p hp => .tail _ (.tail _ hp))) (sldX.mk' ⟨rfl, rfl, trivial⟩ (sld_end1 hv1 hMr hvm) (sld_drop hv2 C.length [z] (by simp)))
      · have glt : decide (e.cps.toList < z.cps.toList) = false := decide_eq_false hlt
        have ggt := gt_of hez hlt
        have n1' := off_new (oL := oL) n0m hamL0
        have n2' := off_new (oL := oL) n0u hauL0
        clear hg1
        k_steps
        rename Heap.NewExc _ _ _ _ => xN
        rename Fr _ _ _ _ => F5
        rename News _ _ _ _ => N5
        refine noted_mine hA hFrs xN F5 N5 hauL0 hamL0 hneL ?_
        intro h6 sl hFrs6 H6
        (try dsimp only)
        refine TT.HeldNA.land H6 ?_
        intro h7 H7
        clear H6
        with_unfolding_all refine TT.clause_hitTN H7 T (k := ?_) (hv := by boot_by_name)
        clear H7
        intro h11 F11 N11
        dsimp only at F11 N11 ⊢
        have hm1'' : (a1, listOf vs1.toArray n1) ∈ news ++ [(L, ({ oL with slots := sl } : Obj))] := List.mem_append_left _ hm1
        have hm2'' : (a2, listOf vs2.toArray n2) ∈ news ++ [(L, ({ oL with slots := sl } : Obj))] := List.mem_append_left _ hm2
        have n1' := off_new (oL := { oL with slots := sl }) n0m hamL0
        have n2' := off_new (oL := { oL with slots := sl }) n0u hauL0
        k_steps
        try dsimp only
        rename Fr _ _ _ _ => F8
        rename News _ _ _ _ => N8
        refine EndB.brk F8 (cb_drop N8 (fun p hp => .tail _ (.tail _ hp))) (sldX.mk' ⟨rfl, rfl, trivial⟩ (sld_end2 hv1 hvm) ?_)
        exact DatAll.append (.one (.str _ _)) (sld_drop hv2 (C.length + 1) [] (by simp))
  case done =>
    intro m₁ nx h tk hJ F1 N1
    refine hJ.el F1 ?_; intro vm vu nm nu sl mf F2 e hvm hvu
    subst e
    clear F1 hJ
    (try dsimp only)
    k_steps
    rename Fr _ _ _ _ => F8
    rename News _ _ _ _ => N8
    rename au < _ ∧ _ => lT
    have lL : L < am := lq0 (L, oL) (by simp)
    refine TLg.leave_back (new := _ :: _ :: _ :: news) hCa F8 N8 (allNe_mine (fc (fun e => absurd (Nat.lt_trans lL lT.2.1) (by rw [← e]; exact Nat.lt_irrefl _)) (fc hauL0 (fc hamL0 hneL)))) ?_
    intro F9 N9
    have lqn : ∀ q ∈ news, q.1 < am := fun q hq => lq0 q (List.mem_append_left _ hq)
    exact hret _ [_, _, _] _ _ F9 N9 (fc (fun q hq => Nat.lt_trans (lqn q hq) lT.2.1) (fc (fun q hq => Nat.lt_trans (lqn q hq) lq.1) (fc lqn fun _ h => nomatch h))) (DatIn.tuple (.head _) (.cons (DatIn.list (.tail _ (.tail _ (.head _))) (datAll_strs_any hvm)) (.cons (DatIn.list (.tail _ (.head _)) (datAll_strs_any (ns := [z]) hvu)) .nil)))
end
local macro_rules | `(tactic| row_wit2 $a $b) => `(tactic| (k_here; k_dflt (refine method_led $a $b (h := ?_); k_whole)))
local macro_rules | `(tactic| walk_at "getMethod ref") => `(tactic| row_wit2 slot_span type_span)
local macro_rules | `(tactic| walk_at "getMethod ref") => `(tactic| row_wit2 slot_group type_group)
local macro_rules | `(tactic| walk_at "getMethod ref") => `(tactic| row_wit2 slot_subn type_subn)
local macro_rules | `(tactic| walk_at "call builtin:re.Match.span") => `(tactic| row_wit1 span_led)
local macro_rules | `(tactic| walk_at "call builtin:re.Match.group") => `(tactic| row_wit1 group_led)
local macro_rules | `(tactic| walk_at "call builtin:re.Pattern.search") => `(tactic| row_wit1 none1)
local macro_rules | `(tactic| walk_at "call builtin:re.Pattern.search") => `(tactic| row_wit1 search_atK)
local macro_rules | `(tactic| walk_at "call builtin:re.Pattern.fullmatch") => `(tactic| row_wit1 full_digK)
local macro_rules | `(tactic| walk_at "getAttr ref") => `(tactic| row_wit1 string_led)
local macro_rules | `(tactic| walk_at "assign Tuple") => `(tactic| (row_wit1 unp_led; (try k_sweep)))
local macro_rules | `(tactic| walk_at "convS str") => `(tactic| row_wit1 conv_led)
local macro_rules | `(tactic| walk_at "truthy ref") => `(tactic| row_wit1 truthy_led_f)
local macro_rules | `(tactic| walk_at "truthy ref") => `(tactic| row_wit1 truthy_led_t)
local macro_rules | `(tactic| k_room) => `(tactic| z_go)
section
set_option maxRecDepth 100000
set_option maxHeartbeats 8000000
local macro_rules | `(tactic| walk_at "exec For Tuple Name cons nil") => `(tactic| row_wit1 For_open)
noncomputable def jhwL (ps : List Pr) : List Str := if ps = [] then [] else [mkS (hdrL ps)]
theorem jhwL_w (ps : List Pr) (h : ps.length ≤ 20) : ((jhwL ps).map (·.length)).sum + (jhwL ps).length ≤ 1048576 := by
  unfold jhwL
  split
  · simp
  · have := hdrL_len ps
    simp only [List.map_cons, List.map_nil, List.sum_cons, List.sum_nil, List.length_cons, List.length_nil, mkS_len]
    omega
theorem itS_w (ps : List Pr) (h : ps.length ≤ 20) : ((ps.map itS).map (·.length)).sum + (ps.map itS).length ≤ 1048576 := by
  have : ((ps.map itS).map (·.length)).sum ≤ 5 * ps.length := by
    clear h
    induction ps with
    | nil => simp
    | cons p r ih =>
      have := (itL_len p).2
      have e : (itS p).length = (itL p).length := by rw [itS, mkS_len]
      simp only [List.map_cons, List.sum_cons, List.length_cons]
      omega
  rw [List.length_map]
  omega
theorem prD_get {news : Led} {vs : List Value} {ps : List Pr} {P : Prop} (h : DatAll news vs (ps.map prD)) {i : Nat} {v : Value} (hv : vs[i]? = some v) (H : ∀ p a t1 t2 n, ps[i]? = some p → v = .ref a → (a, ({ cls := .type "tuple", data := .seq #[.str p.1.str t1, .str (mkS [48 + p.2]) t2] n } : Obj)) ∈ news → P) : P := by
  induction ps generalizing vs i with
  | nil => exact iv0 (R := fun vs => vs[i]? = some v → P) h (fun e => nomatch e) hv
  | cons p r ih =>
    refine ivc (R := fun vs => vs[i]? = some v → P) h (fun u ws h1 h2 e => ?_) hv
    cases i with
    | succ i => exact ih h2 e H
    | zero =>
      obtain rfl : u = v := Option.some.inj e
      refine ivt (P := fun u => (∀ p' a t1 t2 n, (p :: r)[0]? = some p' → u = .ref a → (a, ({ cls := .type "tuple", data := .seq #[.str p'.1.str t1, .str (mkS [48 + p'.2]) t2] n } : Obj)) ∈ news → P) → P) h1 (fun a xs n hm hd H => ?_) H
      revert hm
      exact iv2ss (R := fun xs => (a, ({ cls := .type "tuple", data := .seq xs.toArray n } : Obj)) ∈ news → P) hd fun t u hm => H p a t u n rfl rfl hm
theorem dig_of {n : Nat} (h : n ≤ 9) : Dig (48 + n) := by
  have : ∀ n, n ≤ 9 → Dig (48 + n) := by decide
  exact this n h
def jhA (ah : Addr) (news : Led) (l : List Str) (m : Str → Option Value) (nx : Led) : Prop := ∃ nh vh, nx = (ah, listOf vh.toArray nh) :: news ∧ m (Str.ofString "headers") = some (.ref ah) ∧ StrsAre vh l
theorem jhA.el {ah : Addr} {news nx : Led} {l : List Str} {m : Str → Option Value} {h₀ h : Heap} {L : Addr} {P : Prop} (J : jhA ah news l m nx) (F : Fr h₀ L h m) (H : ∀ nh vh, let mf := upd (Str.ofString "headers") (.ref ah) m; Fr h₀ L h mf → nx = (ah, listOf vh.toArray nh) :: news → StrsAre vh l → P) : P := by
  obtain ⟨nh, vh, e, hk, hv⟩ := J
  exact H nh vh (Kn.fr (ps := [(_, _)]) ⟨hk, trivial⟩ F) e hv
def jhB (ah I : Addr) (oI : Obj) (nh : Nat) (news : Led) (l : List Str) (m : Str → Option Value) (nx : Led) : Prop :=
  ∃ at' va na, I < at' ∧ ah < at' ∧ (∀ p ∈ news, p.1 < at') ∧ nx = (at', listOf va.toArray na) :: (I, oI) :: (ah, listOf #[] nh) :: news ∧ Kn m [(Str.ofString "attr", .ref at'), (Str.ofString "headers", .ref ah)] ∧ StrsAre va l
theorem jhB.el {ah I : Addr} {oI : Obj} {nh : Nat} {news nx : Led} {l : List Str} {m : Str → Option Value} {h₀ h : Heap} {L : Addr} {P : Prop} (J : jhB ah I oI nh news l m nx) (F : Fr h₀ L h m)
    (H : ∀ at' va na, let mf := upd (Str.ofString "attr") (.ref at') (upd (Str.ofString "headers") (.ref ah) m); Fr h₀ L h mf → @LT.lt Nat _ I at' → @LT.lt Nat _ ah at' → (∀ p ∈ news, p.1 < at') → nx = (at', listOf va.toArray na) :: (I, oI) :: (ah, listOf #[] nh) :: news → StrsAre va l → P) : P := by
  obtain ⟨at', va, na, q1, q2, q3, e, hk, hv⟩ := J
  exact H at' va na (hk.fr F) q1 q2 q3 e hv
theorem itS_eq (p : Pr) : Str.empty ++ p.1.str ++ Str.ofString "=" ++ mkS [48 + p.2] = itS p := by
  rw [show Str.empty = mkS [] from rfl, show Str.ofString "=" = mkS [61] by decide +kernel, Nm.str, mkS_app, mkS_app, mkS_app]
  simp [itS, itL]
theorem it_snoc {ps : List Pr} {j : Nat} {p : Pr} {va : List Value} {t : Tok} (hpj : ps[j]? = some p) (hva : StrsAre va ((ps.take j).map itS)) : StrsAre (va ++ [.str (Str.empty ++ p.1.str ++ Str.ofString "=" ++ mkS [48 + p.2]) t]) ((ps.take (j + 1)).map itS) := by
  rw [itS_eq, List.take_add_one, hpj, List.map_append]
  exact are_app hva (.cons _ _ .nil)
theorem jhwL_one {ps : List Pr} (hps : ¬ ps = []) (t : Tok) : StrsAre [.str (Txt.join (Str.ofString "; ") (ps.map itS)) t] (jhwL ps) := by
  rw [jhwL, if_neg hps, ← hdr_is]
  exact .cons _ _ .nil
theorem jhwL_none {ps : List Pr} (hps : ps = []) : StrsAre [] (jhwL ps) := by
  rw [jhwL, if_pos hps]
  exact .nil
theorem iv1ll {news : Led} {vs : List Value} {ds : List Dat} {R : List Value → Prop} (h : DatAll news vs [.list [.list ds]]) (H : ∀ a n b ws k, (a, listOf [Value.ref b].toArray n) ∈ news → (b, listOf ws.toArray k) ∈ news → DatAll news ws ds → R [.ref a]) : R vs :=
  iv1l h fun a _ n h1 h2 => by
    revert h1
    exact iv1l (R := fun ws => (a, listOf ws.toArray n) ∈ news → R [.ref a]) h2 fun b ws k h3 h4 h1 => H a n b ws k h1 h3 h4
theorem one_get {α : Type} {a : α} {i : Nat} {v : α} {P : Nat → α → Prop} (h : [a][i]? = some v) (H : P 0 a) : P i v := by
  cases i with
  | zero => cases h; exact H
  | succ i => cases h
theorem jhw_DT (w : World) (mean : ExcName → Option Value) (mg mb : Str → Option Value) (ps : List Pr) : DT False (ps.length ≤ 20 ∧ ∀ p ∈ ps, p.2 ≤ 9) w mean mg mb 200 70 [.list [.list (ps.map prD)]] (.str (mkS (hdrL ps))) := by
  refine DT.mk fun news vs hD hpre => ?_
  apply iv1ll hD; intro a1 n1 a2 vs2 n2 hm1 hm2 hv2
  refine VT.enter [(Str.ofString "lists", .ref a1)] (H := ?_)
  intro A outer A₀ base g L s Q hh hA hdp hu B mf F X N T hret Mk vk
  have hp1 := hpre.1
  have hp2 := hpre.2
  have hll := hv2.length
  rw [List.length_map] at hll
  k_steps
  rename Fr _ _ _ _ => F9
  rename News _ _ _ _ => N9
  rename ∀ p ∈ news, p.1 < _ => l0
  rename_i ah b1 b2 b3 b4 b5 b6 b7 b8 b9 c1 c2 c3 c4
  have hneh : ∀ p ∈ news, p.1 ≠ ah := fun p hp => Nat.ne_of_lt (l0 p hp)
  refine iter_list (vs := [Value.ref a2]) (fun i => jhA ah news (if i = 0 then [] else jhwL ps)) hh (.tail _ hm1) F9 N9 (fun _ _ _ _ _ h => go_name h) ⟨0, [], rfl, rfl, .nil⟩ ?turn ?done
  case turn =>
    intro I i v m₁ nx h tk oI hltI hv
    apply one_get hv
    intro hJ hI hl F1 N1
    refine hJ.el F1 ?_; intro nh vh mf F2 e hvh
    subst e
    cases hvh
    clear F1 hJ
    k_steps
    rename Fr _ _ _ _ => F3
    rename News _ _ _ _ => N3
    rename I < _ ∧ _ => q1
    refine iter_list (vs := vs2) (fun j => jhB ah I oI nh news ((ps.take j).map itS)) hh (.tail _ (.tail _ (.tail _ hm2))) F3 N3 (fun _ _ _ _ hi h => go_list hi h) ⟨_, [], 0, q1.1, q1.2.1, ktn_ltOf q1.2.2, rfl, ⟨rfl, rfl, trivial⟩, .nil⟩ ?turn2 ?done2
    case turn2 =>
      intro I2 j v m₂ nx h tk oI2 hltI2 hv hJ hI2 hl2 F4 N4
      refine hJ.el F4 ?_; intro at' va na mf F5 qI1 qI2 qn e hva
      subst e
      refine prD_get hv2 hv fun p t t1 t2 n hpj e hmt => ?_
      subst e
      have hdig := dig_of (hp2 p (List.mem_of_getElem? hpj))
      clear F4 hJ
      have hvl := hva.length
      have qI3 : @Ne Nat at' I2 := hI2 _ (.head _)
      have z1 : p.1.str.length ≤ 10 := by have := p.1.len; rw [Nm.str, mkS_len]; omega
      have z2 : (mkS [48 + p.2]).length ≤ 10 := by rw [mkS_len]; simp
      rw [List.length_map, List.length_take] at hvl
      have n1' : ∀ p ∈ news, p.1 ≠ at' := fun p hp => Nat.ne_of_lt (qn p hp)
      k_steps
      rename Fr _ _ _ _ => F8
      rename News _ _ _ _ => N8
      exact EndT.next F8 (nx := (at', _) :: (I, oI) :: (ah, _) :: news) (cb_drop N8 (fun q hq => .tail _ hq)) (fc qI3 fun q hq => hI2 _ (.tail _ hq)) (fun q e => by cases e; exact .tail _ (.tail _ (.tail _ hm2))) ⟨at', _, _, qI1, qI2, qn, rfl, ⟨rfl, rfl, trivial⟩, it_snoc hpj hva⟩
    case done2 =>
      intro m₂ nx h tk hJ hl2 F4 N4
      refine hJ.el F4 ?_; intro at' va na mf F5 qI1 qI2 qn e hva
      subst e
      clear F4 hJ
      rw [hll, List.take_length] at hva
      have hvw := itS_w ps hp1
      have hvl := hva.length
      rw [List.length_map] at hvl
      (try dsimp only)
      by_cases hps : ps = []
      · have hv0 : va.length = 0 := by rw [hvl, hps]; rfl
        k_steps
        rename Fr _ _ _ _ => F8
        rename News _ _ _ _ => N8
        exact EndT.next F8 (nx := (ah, _) :: news) (cb_drop N8 (fun q hq => .tail _ hq)) hI (fun q e => by cases e; exact .tail _ hm1) ⟨_, [], rfl, rfl, jhwL_none hps⟩
      · have hv0 : 0 < va.length := by rw [hvl]; exact List.length_pos_iff.mpr hps
        have qI4 : @Ne Nat ah I := hI _ (.head _)
        k_steps
        rename Fr _ _ _ _ => F8
        rename News _ _ _ _ => N8
        exact EndT.next F8 (nx := (ah, _) :: news) (cb_drop N8 (fun q hq => .tail _ hq)) (fc qI4 fun q hq => hI _ (.tail _ hq)) (fun q e => by cases e; exact .tail _ hm1) ⟨_, _, rfl, rfl, jhwL_one hps _⟩
  case done =>
    intro m₁ nx h tk hJ hl F1 N1
    refine hJ.el F1 ?_; intro nh vh mf F2 e hvh
    subst e
    clear F1 hJ
    have hvh' : StrsAre vh (jhwL ps) := hvh
    have hjw := jhwL_w ps hp1
    (try dsimp only)
    k_steps
    have e : Txt.join (Str.ofString ", ") (jhwL ps) = mkS (hdrL ps) := jhw_is ps
    exact hret _ [] _ _ _ (by assumption) (cb_drop (by assumption) (fun p hp => .tail _ hp)) (fun _ h => nomatch h) (dat_str _ e)
end
section
set_option maxRecDepth 100000
set_option maxHeartbeats 8000000
/-! what is left of a text behind a match -/
theorem unm_VT {w : World} {mean : ExcName → Option Value} {mg mb : Str → Option Value} {news : Led} {b a P : Addr} {x : Str} {u : Tok} {pos lim e1 g1 g2 : Nat} {last : Int}
    (hb : (b, matObj (.str x u) (.ref P) pos lim last a) ∈ news) (ha : (a, spO (0 : Nat) (e1 : Nat) (g1 : Nat) (g2 : Nat)) ∈ news) (hx : x.length ≤ 1000) (he : e1 ≤ x.length) :
    VT (fun tl news => tl ++ news) True w mean mg mb 156 2 news [.ref b] (.str (Txt.slice x none (some ((0 : Nat) : Int)) ++ Txt.slice x (some (e1 : Int)) none)) := by
  refine VT.enter [(Str.ofString "match", .ref b)] (H := ?_)
  intro A outer A₀ base g L s Q hh hA hdp hu B mf F X N T hret Mk vk
  k_steps
  exact hret _ [] _ _ _ (by assumption) (cb_drop (by assumption) (by kcj_all)) (fun _ h => nomatch h) (.str _ _)
theorem unm_call {w : World} {mean : ExcName → Option Value} {mg mb : Str → Option Value} {A : Around} {env : Env} {outer : List Env} {A₀ : Around} {base h₀ : Heap} {L : Addr} {m : Str → Option Value} {news : Led} {s : Shared} {Q E : Value → Shared → Prop}
    {b a P : Addr} {x : Str} {u : Tok} {pos lim e1 g1 g2 : Nat} {last : Int}
    (hh : A.handled = none := by z_run) (hA : A.frames = some (env :: outer) := by z_run) (hf : env.frame = some L := by z_run) (hk : env.scope.kind = .function := by z_run) (hdp : A.depth + 2 < recursionLimit := by z_go) (hu : A.units + 16 < cLine := by z_go)
    (B : Below A₀ base outer h₀ := by k_asm) (F : Fr h₀ L s.heap m := by k_asm) (X : (hd.heap_39 w.params).In h₀ := by k_asm) (N : News h₀ L s.heap news := by k_asm) (T : Top topProg theLoose mean mg mb h₀ := by k_asm)
    (hb : (b, matObj (.str x u) (.ref P) pos lim last a) ∈ news := by k_mem) (ha : (a, spO (0 : Nat) (e1 : Nat) (g1 : Nat) (g2 : Nat)) ∈ news := by k_mem) (hx : x.length ≤ 1000 := by z_lens) (he : e1 ≤ x.length := by first | omega | (rw [mkS_len]; z_lens))
    (h : ∀ t h' tk', Fr h₀ L h' m → News h₀ L h' news → Q (.str (Txt.slice x none (some ((0 : Nat) : Int)) ++ Txt.slice x (some (e1 : Int)) none) t) { s with heap := h', toks := tk' }) :
    wpAny (model Challenge.rw_pd0179_01.prog w) A (call (.ref 156) [.ref b]) Q E s :=
  unm_VT hb ha hx he A env outer A₀ base h₀ L m s Q E hh hA hf hk hdp hu B F X N T fun r _ h' tk' F N _ _ D => ivs (P := fun r => Q r { s with heap := h', toks := tk' }) D fun t => h t h' tk' F (cb_drop N fun _ hp => List.mem_append_right _ hp)
end
section
set_option maxRecDepth 100000
set_option maxHeartbeats 8000000
noncomputable def tlL (r : List Pr) : List Nat := if r = [] then [] else 59 :: 32 :: hdrL r
theorem hdr_cons (p : Pr) (r : List Pr) : hdrL (p :: r) = p.1.cps ++ 61 :: (48 + p.2) :: tlL r := by
  cases r with
  | nil => simp [hdrL, tlL, itL]
  | cons q r => simp [hdrL, tlL, itL]
theorem tl_ok (r : List Pr) : tlL r = [] ∨ ∃ k, tlL r = 59 :: k := by
  unfold tlL
  split
  · exact .inl rfl
  · exact .inr ⟨_, rfl⟩
noncomputable def txB (q : List Pr) : Bool → List Nat
  | false => hdrL q
  | true => 59 :: 32 :: hdrL q
theorem cutA (l k : List Nat) : Txt.slice (mkS (l ++ k)) none (some ((0 : Nat) : Int)) ++ Txt.slice (mkS (l ++ k)) (some ((l.length : Nat) : Int)) none = mkS k := by
  rw [cut_head _ (by simp), List.drop_left]
theorem cutB (a b : Nat) (k : List Nat) : Txt.slice (mkS (a :: b :: k)) none (some ((0 : Nat) : Int)) ++ Txt.slice (mkS (a :: b :: k)) (some ((2 : Nat) : Int)) none = mkS k := by
  rw [cut_head _ (by simp)]; rfl
theorem extA (l k : List Nat) : (⟨(mkS (l ++ k)).cps.extract 0 l.length⟩ : Str) = mkS l := by
  rw [extract_is, List.take_left]; rfl
theorem extB (a b : Nat) (k : List Nat) : (⟨(mkS (a :: b :: k)).cps.extract 1 2⟩ : Str) = mkS [b] := by
  rw [extract_is]; rfl
theorem extA' (l k : List Nat) : (⟨(l ++ k).toArray.extract 0 l.length⟩ : Str) = mkS l := extA l k
theorem extB' (a b : Nat) (k : List Nat) : (⟨(a :: b :: k).toArray.extract 1 2⟩ : Str) = mkS [b] := extB a b k
theorem twi_first (c : Nat) (hc : c ∈ [97, 98]) (r : List Nat) : Won0 (Sre.M.runFor (4 * 2) (Sre.forSearch (codeOf twiCs) (mkS (59 :: 32 :: c :: r)).cps 0 0 (mkS (59 :: 32 :: c :: r)).cps.size false)) 0 2 := by
  have h := twi_won c hc r
  have e : Sre.M.runFor (4 * 2) (Sre.forSearch twiA (59 :: 32 :: c :: r).toArray 0 0 (59 :: 32 :: c :: r).length false) = Sre.M.runFor 6 (Sre.forSearch twiA (59 :: 32 :: c :: r).toArray 0 0 (59 :: 32 :: c :: r).length false) := run_on (by decide) (by rw [h.out]; rfl)
  rw [twiA_is]
  rw [← e] at h
  exact h
theorem twi_next (l : List Nat) (h2 : 2 ≤ l.length) (hz : l.length ≤ 900) : ∃ k, k < 2 ^ 64 ∧ (Sre.M.runFor (4 * k) (Sre.forSearch (codeOf twiCs) (mkS l).cps 0 2 (mkS l).cps.size false)).outcome = some Sre.Outcome.failed := by
  obtain ⟨k, hk, h⟩ := twi_later l h2 hz
  refine ⟨k, by omega, ?_⟩
  rw [twiA_is]
  have e : Sre.M.runFor (4 * k) (Sre.forSearch twiA l.toArray 0 2 l.length false) = Sre.M.runFor k (Sre.forSearch twiA l.toArray 0 2 l.length false) := run_on (by omega) (by rw [h]; rfl)
  rw [← e] at h
  exact h
theorem rst_dig : ∀ d, Dig d → Txt.rstrip (mkS [d]) = mkS [d] := by decide +kernel
theorem semi_nc (l : List Nat) : Txt.startswith (Txt.lstrip (mkS (59 :: l))) (Str.ofString ",") = false := by
  have h : Txt.lstrip (mkS (59 :: l)) = mkS (59 :: l) := by
    unfold Txt.lstrip Txt.stripBy
    rw [if_pos]
    have e : Unicode.isSpace 59 = false := by decide +kernel
    simp [stripSame, stripLo, stripHi, e, List.takeWhile]
  rw [h]
  unfold Txt.startswith
  have : Builtin.Str.subAt (mkS (59 :: l)) (Str.ofString ",") 0 = false := by
    rw [show Str.ofString "," = mkS [44] by decide +kernel]
    unfold Builtin.Str.subAt
    simp [mkS_len]
  rw [this, Bool.and_false]
section
variable {w : World} {mean : ExcName → Option Value} {mg mb : Str → Option Value} {A : Around} {env : Env} {outer : List Env} {A₀ : Around} {base h₀ : Heap} {L : Addr} {m : Str → Option Value} {news : Led} {s : Shared} {Q E : Value → Shared → Prop}
    {b a P : Addr} {l k : List Nat} {c d : Nat} {u t : Tok} {pos lim g1 g2 : Nat} {last : Int} {pat : Value}
theorem unmA (hh : A.handled = none := by z_run) (hA : A.frames = some (env :: outer) := by z_run) (hf : env.frame = some L := by z_run) (hk : env.scope.kind = .function := by z_run) (hdp : A.depth + 2 < recursionLimit := by z_go) (hu : A.units + 16 < cLine := by z_go)
    (B : Below A₀ base outer h₀ := by k_asm) (F : Fr h₀ L s.heap m := by k_asm) (X : (hd.heap_39 w.params).In h₀ := by k_asm) (N : News h₀ L s.heap news := by k_asm) (T : Top topProg theLoose mean mg mb h₀ := by k_asm)
    (hb : (b, matObj (.str (mkS (l ++ k)) u) (.ref P) pos lim last a) ∈ news := by k_mem) (ha : (a, spO (0 : Nat) (l.length : Nat) (g1 : Nat) (g2 : Nat)) ∈ news := by k_mem) (hx : (mkS (l ++ k)).length ≤ 1000 := by with_reducible assumption)
    (h : ∀ t h' tk', Fr h₀ L h' m → News h₀ L h' news → Q (.str (mkS k) t) { s with heap := h', toks := tk' }) : wpAny (model Challenge.rw_pd0179_01.prog w) A (call (.ref 156) [.ref b]) Q E s :=
  unm_call hh hA hf hk hdp hu B F X N T hb ha hx (by rw [mkS_len, List.length_append]; omega) fun t h' tk' F' N' => by rw [cutA]; exact h t h' tk' F' N'
theorem unmB (hh : A.handled = none := by z_run) (hA : A.frames = some (env :: outer) := by z_run) (hf : env.frame = some L := by z_run) (hk : env.scope.kind = .function := by z_run) (hdp : A.depth + 2 < recursionLimit := by z_go) (hu : A.units + 16 < cLine := by z_go)
    (B : Below A₀ base outer h₀ := by k_asm) (F : Fr h₀ L s.heap m := by k_asm) (X : (hd.heap_39 w.params).In h₀ := by k_asm) (N : News h₀ L s.heap news := by k_asm) (T : Top topProg theLoose mean mg mb h₀ := by k_asm)
    (hb : (b, matObj (.str (mkS (c :: d :: k)) u) (.ref P) pos lim last a) ∈ news := by k_mem) (ha : (a, spO (0 : Nat) (2 : Nat) (g1 : Nat) (g2 : Nat)) ∈ news := by k_mem) (hx : (mkS (c :: d :: k)).length ≤ 1000 := by with_reducible assumption)
    (h : ∀ t h' tk', Fr h₀ L h' m → News h₀ L h' news → Q (.str (mkS k) t) { s with heap := h', toks := tk' }) : wpAny (model Challenge.rw_pd0179_01.prog w) A (call (.ref 156) [.ref b]) Q E s :=
  unm_call hh hA hf hk hdp hu B F X N T hb ha hx (by rw [mkS_len]; simp) fun t h' tk' F' N' => by rw [cutB]; exact h t h' tk' F' N'
theorem grpA {e1 e2 : Int} (N : News h₀ L s.heap news := by k_asm) (hb : (b, matObj (.str (mkS (l ++ k)) u) pat pos lim last a) ∈ news := by tb_src) (ha : (a, spO e1 e2 (0 : Nat) (l.length : Nat)) ∈ news := by tb_src) (hz : (mkS (l ++ k)).length ≤ 1000 := by with_reducible assumption)
    (h : ∀ t k, Q (.str (mkS l) t) { s with toks := k }) : wpAny (model Challenge.rw_pd0179_01.prog w) A (call (.builtin "re.Match.group") [.ref b, .int 1 t]) Q E s :=
  group_led N hb ha hz fun t k => by rw [extA]; exact h t k
theorem grpB {e1 e2 : Int} (N : News h₀ L s.heap news := by k_asm) (hb : (b, matObj (.str (mkS (c :: d :: k)) u) pat pos lim last a) ∈ news := by tb_src) (ha : (a, spO e1 e2 (1 : Nat) (2 : Nat)) ∈ news := by tb_src) (hz : (mkS (c :: d :: k)).length ≤ 1000 := by with_reducible assumption)
    (h : ∀ t k, Q (.str (mkS [d]) t) { s with toks := k }) : wpAny (model Challenge.rw_pd0179_01.prog w) A (call (.builtin "re.Match.group") [.ref b, .int 1 t]) Q E s :=
  group_led N hb ha hz fun t k => by rw [extB]; exact h t k
theorem ite_no {x y : Str} {p q : Prop} (hc : Txt.startswith x y = false := by with_reducible assumption) (h : q) : (if Txt.startswith x y = true then p else q) := by rw [hc]; exact h
theorem tru_mk {R : Bool → Shared → Prop} (h0 : 1 ≤ (mkS l).length := by with_reducible assumption) (h1 : (mkS l).length ≤ 1000 := by with_reducible assumption) (h : ∀ k, R true { s with toks := k }) : wpAny (model Challenge.rw_pd0179_01.prog w) A (PySem.truthy (Value.str (mkS l) t)) R E s :=
  KXt.truthy_pos (K := 1000) h0 h1 (by decide) h
theorem rst_dg (hd : Dig d := by with_reducible assumption) (h : ∀ t' k, Q (.str (mkS [d]) t') { s with toks := k }) : wpAny (model Challenge.rw_pd0179_01.prog w) A (call (.builtin "str.rstrip") [.str (mkS [d]) t]) Q E s :=
  KXw.rstrip (rst_dig _ hd) (by rw [sizeLine_eq, mkS_len]; simp) h
end
local macro_rules | `(tactic| walk_at "call ref") => `(tactic| row_wit1 unmA)
local macro_rules | `(tactic| walk_at "call ref") => `(tactic| row_wit1 unmB)
local macro_rules | `(tactic| walk_at "ite") => `(tactic| row_wit1 ite_no)
local macro_rules | `(tactic| walk_at "truthy str") => `(tactic| row_wit1 tru_mk)
local macro_rules | `(tactic| walk_at "call builtin:re.Match.group") => `(tactic| row_wit1 grpA)
local macro_rules | `(tactic| walk_at "call builtin:re.Match.group") => `(tactic| row_wit1 grpB)
local macro_rules | `(tactic| walk_at "call builtin:str.rstrip") => `(tactic| row_wit1 rst_dg)
theorem nm_head (x : Nm) : ∃ c k, x.cps = c :: k ∧ c ∈ [97, 98] := by
  cases x
  · exact ⟨_, _, rfl, .head _⟩
  · exact ⟨_, _, rfl, .head _⟩
  · exact ⟨_, _, rfl, .tail _ (.head _)⟩
theorem endA {h₀ h : Heap} {L : Addr} {D ap I ah : Addr} {tup lst oI l2 : Obj} {x1 x2 x3 x4 : Addr × Obj} {tl news : Led} (N : News h₀ L h ((D, tup) :: x1 :: x2 :: x3 :: x4 :: (ap, lst) :: (I, oI) :: (ah, l2) :: (tl ++ news))) : News h₀ L h ((ap, lst) :: (I, oI) :: (ah, l2) :: (D, tup) :: (tl ++ news)) :=
  cb_drop N fun p hp => by
    simp only [List.mem_cons] at hp ⊢
    rcases hp with h | h | h | h | h
    · exact .inr (.inr (.inr (.inr (.inr (.inl h)))))
    · exact .inr (.inr (.inr (.inr (.inr (.inr (.inl h))))))
    · exact .inr (.inr (.inr (.inr (.inr (.inr (.inr (.inl h)))))))
    · exact .inl h
    · exact .inr (.inr (.inr (.inr (.inr (.inr (.inr (.inr h)))))))
theorem htn_of {h₀ h : Heap} {L : Addr} {D ap I ah : Addr} {tup lst oI l2 : Obj} {tl news : Led} (_ : News h₀ L h ((ap, lst) :: (I, oI) :: (ah, l2) :: (D, tup) :: (tl ++ news))) (k1 : @LT.lt Nat _ ap D) (k2 : ∀ q ∈ news, q.1 < D) (ht : ∀ p ∈ tl, @LT.lt Nat _ ap p.1 ∧ ∀ q ∈ news, q.1 < p.1) :
    ∀ x ∈ (D, tup) :: tl, @LT.lt Nat _ ap x.1 ∧ ∀ q ∈ news, q.1 < x.1 := fun x hx => by
  rcases List.mem_cons.mp hx with rfl | hx
  · exact ⟨k1, k2⟩
  · exact ht x hx
theorem hdn_of {h₀ h : Heap} {L : Addr} {D ap I ah : Addr} {lst oI l2 : Obj} {tl news : Led} {x y : Str} {t1 t2 : Tok} {n : Nat} {vp : List Value} {ds : List Dat} (_ : News h₀ L h ((ap, lst) :: (I, oI) :: (ah, l2) :: (D, ({ cls := .type "tuple", data := .seq #[.str x t1, .str y t2] n } : Obj)) :: (tl ++ news))) (h : DatAll (tl ++ news) vp ds) :
    DatAll ((D, ({ cls := .type "tuple", data := .seq #[.str x t1, .str y t2] n } : Obj)) :: (tl ++ news)) (vp ++ [.ref D]) (ds ++ [.tuple [.str x, .str y]]) :=
  DatAll.append (DatAll.mono (fun _ hx => .tail _ hx) h) (.one (DatIn.tuple (vs := [.str x t1, .str y t2]) (.head _) (.cons (.str x t1) (.cons (.str y t2) .nil))))
theorem endB {h₀ h : Heap} {L : Addr} {ap I ah : Addr} {lst oI l2 : Obj} {tl news : Led} (N : News h₀ L h ((ap, lst) :: (I, oI) :: (ah, l2) :: (tl ++ news))) : News h₀ L h ((I, oI) :: (ah, l2) :: (((ap, lst) :: tl) ++ news)) :=
  cb_drop N fun p hp => by
    simp only [List.mem_cons, List.cons_append] at hp ⊢
    rcases hp with h | h | h | h
    · exact .inr (.inl h)
    · exact .inr (.inr (.inl h))
    · exact .inl h
    · exact .inr (.inr (.inr h))
def shwJ (I : Addr) (oI : Obj) (ah ap : Addr) (ps : List Pr) (news : Led) (n : Nat) (m : Str → Option Value) (nx : Led) : Prop :=
  ∃ tl j mid vp np u, (∀ p ∈ tl, @LT.lt Nat _ ap p.1 ∧ ∀ q ∈ news, q.1 < p.1) ∧ nx = (ap, listOf vp.toArray np) :: (I, oI) :: (ah, listOf #[] 0) :: (tl ++ news) ∧ Kn m [(Str.ofString "text", .str (mkS (txB (ps.drop j) mid)) u), (Str.ofString "pairs", .ref ap), (Str.ofString "result", .ref ah)] ∧ (mid = true → ps.drop j ≠ []) ∧ n = 2 * (ps.drop j).length + (if mid then 1 else 0) ∧ DatAll (tl ++ news) vp ((ps.take j).map prD)
theorem shw_kn {h₀ h : Heap} {L ah ap : Addr} {m : Str → Option Value} {x : Value} (F : Fr h₀ L h m) (k : Kn m [(Str.ofString "text", x), (Str.ofString "pairs", .ref ap), (Str.ofString "result", .ref ah)]) : Fr h₀ L h (upd (Str.ofString "text") x (upd (Str.ofString "pairs") (.ref ap) (upd (Str.ofString "result") (.ref ah) m))) := k.fr F
section
variable {I ah ap : Addr} {oI : Obj} {ps : List Pr} {news nx : Led} {n : Nat} {m : Str → Option Value}
theorem shwJ.el {h₀ h : Heap} {L : Addr} {P : Prop} (J : shwJ I oI ah ap ps news n m nx) (F : Fr h₀ L h m)
    (H0 : ∀ tl vp np u, let mf := upd (Str.ofString "text") (.str (mkS []) u) (upd (Str.ofString "pairs") (.ref ap) (upd (Str.ofString "result") (.ref ah) m)); Fr h₀ L h mf → (∀ p ∈ tl, @LT.lt Nat _ ap p.1 ∧ ∀ q ∈ news, q.1 < p.1) → nx = (ap, listOf vp.toArray np) :: (I, oI) :: (ah, listOf #[] 0) :: (tl ++ news) → DatAll (tl ++ news) vp (ps.map prD) → P)
    (HA : ∀ tl j p r vp np u, let mf := upd (Str.ofString "text") (.str (mkS (p.1.cps ++ 61 :: (48 + p.2) :: tlL r)) u) (upd (Str.ofString "pairs") (.ref ap) (upd (Str.ofString "result") (.ref ah) m)); Fr h₀ L h mf → (∀ p ∈ tl, @LT.lt Nat _ ap p.1 ∧ ∀ q ∈ news, q.1 < p.1) → nx = (ap, listOf vp.toArray np) :: (I, oI) :: (ah, listOf #[] 0) :: (tl ++ news) → ps.drop j = p :: r → n = 2 * (r.length + 1) → DatAll (tl ++ news) vp ((ps.take j).map prD) → P)
    (HB : ∀ tl j p r vp np u, let mf := upd (Str.ofString "text") (.str (mkS (59 :: 32 :: hdrL (p :: r))) u) (upd (Str.ofString "pairs") (.ref ap) (upd (Str.ofString "result") (.ref ah) m)); Fr h₀ L h mf → (∀ p ∈ tl, @LT.lt Nat _ ap p.1 ∧ ∀ q ∈ news, q.1 < p.1) → nx = (ap, listOf vp.toArray np) :: (I, oI) :: (ah, listOf #[] 0) :: (tl ++ news) → ps.drop j = p :: r → n = 2 * (r.length + 1) + 1 → DatAll (tl ++ news) vp ((ps.take j).map prD) → P) : P := by
  obtain ⟨tl, j, mid, vp, np, u, ht, e, hkn, hmid, hn, hvp⟩ := J
  cases hq : ps.drop j with
  | nil =>
    cases mid with
    | true => exact absurd hq (hmid rfl)
    | false =>
      rw [hq] at hkn
      rw [List.take_of_length_le (List.drop_eq_nil_iff.mp hq)] at hvp
      exact H0 tl vp np u (shw_kn F hkn) ht e hvp
  | cons p r =>
    rw [hq] at hkn hn
    cases mid with
    | false =>
      have k2 := shw_kn F hkn
      simp only [txB, hdr_cons] at k2
      exact HA tl j p r vp np u k2 ht e hq hn hvp
    | true => exact HB tl j p r vp np u (shw_kn F hkn) ht e hq hn hvp
theorem shwJ.nextA {tl : Led} {j : Nat} {p : Pr} {r : List Pr} {vp : List Value} {np : Nat} {u : Tok} (hq : ps.drop j = p :: r) (hn : n = 2 * (r.length + 1)) (ht : ∀ p ∈ tl, @LT.lt Nat _ ap p.1 ∧ ∀ q ∈ news, q.1 < p.1) (k : Kn m [(Str.ofString "text", .str (mkS (tlL r)) u), (Str.ofString "pairs", .ref ap), (Str.ofString "result", .ref ah)])
    (hd : DatAll (tl ++ news) vp ((ps.take j).map prD ++ [prD p])) : ∃ n', n' < n ∧ shwJ I oI ah ap ps news n' m ((ap, listOf vp.toArray np) :: (I, oI) :: (ah, listOf #[] 0) :: (tl ++ news)) := by
  have el : List.drop (j + 1) ps = r := by rw [← List.drop_drop, hq]; rfl
  have et : ps[j]? = some p := by
    have := congrArg (·[0]?) hq
    simpa using this
  have eT : (ps.take (j + 1)).map prD = (ps.take j).map prD ++ [prD p] := by rw [List.take_add_one, et, List.map_append]; rfl
  rw [← eT] at hd
  by_cases hr : r = []
  · refine ⟨2 * r.length, by omega, tl, j + 1, false, vp, np, u, ht, rfl, ?_, fun h => (nomatch h), by rw [el]; rfl, hd⟩
    rw [el, show txB r false = tlL r by rw [hr]; rfl]; exact k
  · refine ⟨2 * r.length + 1, by omega, tl, j + 1, true, vp, np, u, ht, rfl, ?_, fun _ => by rw [el]; exact hr, by rw [el]; rfl, hd⟩
    rw [el, show txB r true = tlL r by rw [tlL, if_neg hr]; rfl]; exact k
theorem shwJ.nextB {tl : Led} {j : Nat} {p : Pr} {r : List Pr} {vp : List Value} {np : Nat} {u : Tok} (hq : ps.drop j = p :: r) (hn : n = 2 * (r.length + 1) + 1) (ht : ∀ p ∈ tl, @LT.lt Nat _ ap p.1 ∧ ∀ q ∈ news, q.1 < p.1) (k : Kn m [(Str.ofString "text", .str (mkS (hdrL (p :: r))) u), (Str.ofString "pairs", .ref ap), (Str.ofString "result", .ref ah)])
    (hd : DatAll (tl ++ news) vp ((ps.take j).map prD)) : ∃ n', n' < n ∧ shwJ I oI ah ap ps news n' m ((ap, listOf vp.toArray np) :: (I, oI) :: (ah, listOf #[] 0) :: (tl ++ news)) := by
  refine ⟨2 * (r.length + 1), by omega, tl, j, false, vp, np, u, ht, rfl, ?_, fun h => (nomatch h), by rw [hq]; rfl, hd⟩
  rw [hq]; exact k
end
def shwX (I : Addr) (oI : Obj) (ah ap : Addr) (ps : List Pr) (news : Led) (m : Str → Option Value) (nx : Led) : Prop :=
  ∃ tl vp np, (∀ p ∈ tl, @LT.lt Nat _ ap p.1 ∧ ∀ q ∈ news, q.1 < p.1) ∧ nx = (ap, listOf vp.toArray np) :: (I, oI) :: (ah, listOf #[] 0) :: (tl ++ news) ∧ Kn m [(Str.ofString "pairs", .ref ap), (Str.ofString "result", .ref ah)] ∧ DatAll (tl ++ news) vp (ps.map prD)
theorem shwX.el {I ah ap : Addr} {oI : Obj} {ps : List Pr} {news nx : Led} {m : Str → Option Value} {h₀ h : Heap} {L : Addr} {P : Prop} (J : shwX I oI ah ap ps news m nx) (F : Fr h₀ L h m)
    (H : ∀ tl vp np, let mf := upd (Str.ofString "pairs") (.ref ap) (upd (Str.ofString "result") (.ref ah) m); Fr h₀ L h mf → (∀ p ∈ tl, @LT.lt Nat _ ap p.1 ∧ ∀ q ∈ news, q.1 < p.1) → nx = (ap, listOf vp.toArray np) :: (I, oI) :: (ah, listOf #[] 0) :: (tl ++ news) → DatAll (tl ++ news) vp (ps.map prD) → P) : P := by
  obtain ⟨tl, vp, np, ht, e, hk, hd⟩ := J
  exact H tl vp np (hk.fr F) ht e hd
def shwF (ah : Addr) (ps : List Pr) (news : Led) (i : Nat) (m : Str → Option Value) (nx : Led) : Prop :=
  if i = 0 then nx = (ah, listOf #[] 0) :: news ∧ m (Str.ofString "result") = some (.ref ah) else ∃ tl vh nh, nx = (ah, listOf vh.toArray nh) :: (tl ++ news) ∧ (∀ p ∈ tl, ∀ q ∈ news, q.1 < p.1) ∧ m (Str.ofString "result") = some (.ref ah) ∧ DatAll nx vh (if ps = [] then [] else [.list (ps.map prD)])
theorem shwF.el0 {ah : Addr} {ps : List Pr} {news nx : Led} {m : Str → Option Value} {h₀ h : Heap} {L : Addr} {P : Prop} (J : shwF ah ps news 0 m nx) (F : Fr h₀ L h m) (H : let mf := upd (Str.ofString "result") (.ref ah) m; Fr h₀ L h mf → nx = (ah, listOf #[] 0) :: news → P) : P :=
  H (Kn.fr (ps := [(_, _)]) ⟨J.2, trivial⟩ F) J.1
theorem shwF.el1 {ah : Addr} {ps : List Pr} {news nx : Led} {m : Str → Option Value} {h₀ h : Heap} {L : Addr} {P : Prop} (J : shwF ah ps news 1 m nx) (F : Fr h₀ L h m)
    (H : ∀ tl vh nh, let mf := upd (Str.ofString "result") (.ref ah) m; Fr h₀ L h mf → nx = (ah, listOf vh.toArray nh) :: (tl ++ news) → (∀ p ∈ tl, ∀ q ∈ news, q.1 < p.1) → DatAll ((ah, listOf vh.toArray nh) :: (tl ++ news)) vh (if ps = [] then [] else [.list (ps.map prD)]) → P) : P := by
  obtain ⟨tl, vh, nh, rfl, h1, h2, h3⟩ := J
  exact H tl vh nh (Kn.fr (ps := [(_, _)]) ⟨h2, trivial⟩ F) rfl h1 h3
theorem iv1ls {news : Led} {vs : List Value} {x : Str} {R : List Value → Prop} (h : DatAll news vs [.list [.str x]]) (H : ∀ a n t, (a, listOf [Value.str x t].toArray n) ∈ news → R [.ref a]) : R vs :=
  iv1l h fun a _ n h1 h2 => by
    revert h1
    exact iv1s (R := fun ws => (a, listOf ws.toArray n) ∈ news → R [.ref a]) h2 fun t h1 => H a n t h1
theorem tlL_len {r : List Pr} (h : r.length ≤ 20) : (tlL r).length ≤ 200 := by
  have hrl := hdrL_len r
  unfold tlL; split
  · simp
  · simp only [List.length_cons]; omega
theorem take1 (p : Pr) (r : List Pr) (hl : (p :: r).length ≤ 20) : (mkS (p.1.cps ++ 61 :: (48 + p.2) :: tlL r)).length ≤ 1000 ∧ 1 ≤ (mkS (p.1.cps ++ 61 :: (48 + p.2) :: tlL r)).length ∧ (mkS (61 :: (48 + p.2) :: tlL r)).length ≤ 1000 := by
  have z1 := p.1.len
  have := tlL_len (r := r) (by simp only [List.length_cons] at hl; omega)
  simp only [mkS_len, List.length_append, List.length_cons]
  omega
theorem take2 (p : Pr) (r : List Pr) (hl : (p :: r).length ≤ 20) : (59 :: 32 :: hdrL (p :: r)).length ≤ 900 ∧ 1 ≤ (mkS (59 :: 32 :: hdrL (p :: r))).length ∧ (mkS (59 :: 32 :: hdrL (p :: r))).length ≤ 1000 := by
  have := hdrL_len (p :: r)
  simp only [mkS_len, List.length_cons] at this hl ⊢
  omega
theorem twi_hd (p : Pr) (r : List Pr) : Won0 (Sre.M.runFor (4 * 2) (Sre.forSearch (codeOf twiCs) (mkS (59 :: 32 :: hdrL (p :: r))).cps 0 0 (mkS (59 :: 32 :: hdrL (p :: r))).cps.size false)) 0 2 := by
  obtain ⟨c, cr, hc1, hc2⟩ := nm_head p.1
  have hcl : hdrL (p :: r) = c :: (cr ++ 61 :: (48 + p.2) :: tlL r) := by rw [hdr_cons, hc1]; rfl
  rw [hcl]
  exact twi_first c hc2 (cr ++ 61 :: (48 + p.2) :: tlL r)
theorem hdr_pos (p : Pr) (r : List Pr) : 2 < (mkS (59 :: 32 :: hdrL (p :: r))).cps.size := by
  obtain ⟨c, cr, hc1, hc2⟩ := nm_head p.1
  have hcl : hdrL (p :: r) = c :: (cr ++ 61 :: (48 + p.2) :: tlL r) := by rw [hdr_cons, hc1]; rfl
  rw [hcl]; simp
theorem shw_DT (w : World) (mean : ExcName → Option Value) (mg mb : Str → Option Value) (ps : List Pr) : DT False (ps.length ≤ 20 ∧ ∀ p ∈ ps, p.2 ≤ 9) w mean mg mb 183 70 [.list [.str (mkS (hdrL ps))]] (.list (if ps = [] then [] else [.list (ps.map prD)])) := by
  refine DT.mk fun news vs hD hpre => ?_
  apply iv1ls hD; intro a1 n1 t3 hm1
  refine VT.enter [(Str.ofString "header_values", .ref a1)] (H := ?_)
  intro A outer A₀ base g L s Q hh hA hdp hu B mf F X N T hret Mk vk
  have hp1 := hpre.1
  have hp2 := hpre.2
  k_steps
  rename Fr _ _ _ _ => F9
  rename News _ _ _ _ => N9
  rename ∀ p ∈ news, p.1 < _ => l0
  rename_i ah b1 b2 b3 b4 b5 b6 b7 b8 b9 c1 c2 c3 c4
  have hneh : ∀ p ∈ news, p.1 ≠ ah := fun p hp => Nat.ne_of_lt (l0 p hp)
  refine iter_list (vs := [Value.str (mkS (hdrL ps)) t3]) (shwF ah ps news) hh (.tail _ hm1) F9 N9 (fun _ _ _ _ _ h => go_name h) ⟨rfl, rfl⟩ ?turn ?done
  case turn =>
    intro I i v m₁ nx h tk oI hltI hv
    apply one_get hv
    intro hJ hI hl F1 N1
    refine hJ.el0 F1 ?_; intro mf F2 e
    subst e
    clear F1 hJ
    k_steps
    rename Fr _ _ _ _ => F3
    rename News _ _ _ _ => N3
    rename I < _ ∧ _ => q1
    rename_i ap d1 d2 d3 d4 d5 d6 d7
    have qa1 : @LT.lt Nat _ I ap := q1.1
    have qa2 : @LT.lt Nat _ ah ap := q1.2.1
    have qa3 : ∀ p ∈ news, p.1 ≠ ap := fun p hp => Nat.ne_of_lt (ktn_ltOf q1.2.2 p hp)
    have qa4 : @Ne Nat ah I := hI _ (.head _)
    refine While_exit (shwJ I oI ah ap ps news) (shwX I oI ah ap ps news) (2 * ps.length) F3 N3 ⟨[], 0, false, [], 0, _, (fun _ h => nomatch h), rfl, ⟨rfl, rfl, rfl, trivial⟩, fun h => (nomatch h), rfl, .nil⟩ ?turn2 ?done2
    case turn2 =>
      clear F3 N3
      intro n m₃ nx h tk hJ F4 N4
      refine hJ.el F4 ?_ ?_ ?_
      · intro tl vp np u mf F5 ht e hvp
        subst e
        clear F4 hJ
        have y0 : (mkS []).length = 0 := by rw [mkS_len]; rfl
        k_steps
        exact ExitW.mk (by assumption) (by assumption) ⟨tl, vp, np, ht, rfl, ⟨rfl, rfl, trivial⟩, hvp⟩
      · intro tl j p r vp np u mf F5 ht e hq hn hvp
        subst e
        clear F4 hJ
        have hjl : (p :: r).length ≤ 20 := by rw [← hq, List.length_drop]; omega
        have hd : Dig (48 + p.2) := dig_of (hp2 p (List.mem_of_mem_drop (i := j) (by rw [hq]; exact .head _)))
        have qp : ∀ p ∈ tl ++ news, p.1 ≠ ap := fun p hp => (List.mem_append.mp hp).elim (fun h e => Nat.lt_irrefl _ (e ▸ (ht p h).1 : @LT.lt Nat _ ap ap)) (qa3 p)
        have hvl : vp.length ≤ 20 := by rw [hvp.length, List.length_map, List.length_take]; omega
        have f1 := tok_finds p.1 ((48 + p.2) :: tlL r)
        have f2 := quo_fails (48 + p.2) hd (tlL r) (Nat.le_trans (tlL_len (Nat.le_of_succ_le hjl)) (by decide))
        have f3 := val_finds (48 + p.2) hd (tlL r) (tl_ok r)
        have y1 := (take1 p r hjl).1
        have y0 := (take1 p r hjl).2.1
        have y2 := (take1 p r hjl).2.2
        k_steps
        rename Fr _ _ _ _ => F6
        rename News _ _ _ _ => N6
        rename _ ∧ _ ∧ _ ∧ _ ∧ _ ∧ _ ∧ _ ∧ AllLt _ (tl ++ news) => lt1
        have N7 := endA N6
        clear N6
        k_steps
        rename Fr _ _ _ _ => F8
        rename News _ _ _ _ => N8
        exact EndW.next F8 N8 (shwJ.nextA hq hn (htn_of N8 lt1.2.2.2.2.1 (fun q hq => ktn_ltOf lt1.2.2.2.2.2.2.2 q (List.mem_append_right _ hq)) ht) ⟨rfl, rfl, rfl, trivial⟩ (hdn_of N8 hvp))
      · intro tl j p r vp np u mf F5 ht e hq hn hvp
        subst e
        clear F4 hJ
        have hjl : (p :: r).length ≤ 20 := by rw [← hq, List.length_drop]; omega
        have hz9 := (take2 p r hjl).1
        have y0 := (take2 p r hjl).2.1
        have y1 := (take2 p r hjl).2.2
        have f1 := tok_fails (32 :: hdrL (p :: r)) (by rw [List.length_cons] at hz9; omega)
        have y3 := semi_nc (32 :: hdrL (p :: r))
        have tw := twi_hd p r
        k_steps
        refine subn_led (P := 149) (cs := twiCs) (mm := _) (Z := mkS (hdrL (p :: r))) (by k_in) (by k_is) (by k_is) (by k_asm) (by k_asm) y1 (hdr_pos p r) ⟨2, by decide, rfl, tw.out⟩ tw.start tw.handed (twi_next _ (by simp) hz9) (subn_is _) ?_
        intro T h' t1 t2 k hT F6 N6
        k_steps
        rename Fr _ _ _ _ => F7
        rename News _ _ _ _ => N7
        exact EndW.next F7 (cb_drop N7 (fun p hp => .tail _ hp)) (shwJ.nextB hq hn ht ⟨rfl, rfl, rfl, trivial⟩ hvp)
    case done2 =>
      clear F3 N3
      intro m₃ nx h tk hJ F4 N4
      refine hJ.el F4 ?_; intro tl vp np mf F5 ht e hvp
      subst e
      clear F4 hJ
      have hvl := hvp.length
      rw [List.length_map] at hvl
      have qh : ∀ p ∈ tl ++ news, p.1 ≠ ah := fun p hp => (List.mem_append.mp hp).elim (fun h e => Nat.lt_asymm qa2 (e ▸ (ht p h).1 : @LT.lt Nat _ ap ah)) (hneh p)
      have qI : ∀ p ∈ tl ++ news, p.1 ≠ I := fun p hp => (List.mem_append.mp hp).elim (fun h e => Nat.lt_asymm qa1 (e ▸ (ht p h).1 : @LT.lt Nat _ ap I)) (fun h => hI p (.tail _ h))
      have ht2 : ∀ p ∈ tl, ∀ q ∈ news, q.1 < p.1 := fun p hp => (ht p hp).2
      by_cases hps : ps = []
      · have hv0 : vp.length = 0 := by rw [hvl, hps]; rfl
        k_steps
        rename Fr _ _ _ _ => F6
        rename News _ _ _ _ => N6
        refine EndT.next F6 (nx := (ah, _) :: (tl ++ news)) (cb_drop N6 (fun p hp => .tail _ hp)) (fc qa4 qI) (fun q e => by cases e; exact .tail _ (List.mem_append_right _ hm1)) (?_ : shwF ah ps news 1 _ _)
        exact ⟨tl, [], _, rfl, ht2, rfl, by rw [if_pos hps]; exact .nil⟩
      · have hv0 : 0 < vp.length := by rw [hvl]; exact List.length_pos_iff.mpr hps
        k_steps
        rename Fr _ _ _ _ => F6
        rename News _ _ _ _ => N6
        refine EndT.next F6 (endB N6) (fc qa4 (fc (fun e => Nat.ne_of_gt qa1 e) qI)) (fun q e => by cases e; exact .tail _ (.tail _ (List.mem_append_right _ hm1))) (?_ : shwF ah ps news 1 _ _)
        exact ⟨(ap, listOf vp.toArray np) :: tl, [.ref ap], _, rfl, fc (ktn_ltOf q1.2.2) ht2, rfl, by rw [if_neg hps]; exact .cons (DatIn.list (.tail _ (.head _)) (DatAll.mono (fun p hp => .tail _ (.tail _ hp)) hvp)) .nil⟩
  case done =>
    intro m₁ nx h tk hJ hl F1 N1
    refine shwF.el1 hJ F1 ?_; intro tl vh nh mf F2 e ht hdv
    subst e
    clear F1 hJ
    (try dsimp only)
    k_steps
    exact hret _ ((ah, _) :: tl) _ _ _ (by assumption) (by assumption) (fc l0 ht) (DatIn.list (.head _) hdv)
end
section
set_option maxRecDepth 100000
set_option maxHeartbeats 8000000
/-! commonpath of two paths -/
local macro_rules | `(tactic| walk_at "call type:map") => `(tactic| row_wit1 map_led)
local macro_rules | `(tactic| walk_at "call type:tuple") => `(tactic| (row_wit1 tuple_map_led; z_head))
theorem try_no {prog : Program} {w : World} {A : Around} {E : Value → Shared → Prop} {s : Shared} {env : Env} {body orelse : List Stmt} {h₀ : ExceptHandler} {hs : List ExceptHandler} {pos : Pos} {Q : Flow → Shared → Prop}
    (h : wpAny (model prog w) A (execs body env) (nextQ (model prog w) A orelse env Q E) noE s) : wpAny (model prog w) A (exec (.Try body (h₀ :: hs) orelse [] pos) env) Q E s :=
  wpAny_Try_except (wpAny_noRaise h)
local macro_rules | `(tactic| walk_at "exec Try") => `(tactic| row_wit1 try_no)
local macro_rules | `(tactic| walk_at "exec Assign cons ListComp") => `(tactic| (k_here; refine halt ?_))
local macro_rules | `(tactic| walk_at "call builtin:min") => `(tactic| (k_here; refine halt ?_))
local macro_rules | `(tactic| walk_at "call builtin:max") => `(tactic| (k_here; refine halt ?_))
local macro_rules | `(tactic| walk_at "exec Assign cons SetComp") => `(tactic| (k_here; refine halt ?_))
theorem news_cons {h₀ h : Heap} {L : Addr} {l : Led} {p : Addr × Obj} (N : News h₀ L h l) (hp : p ∈ l) : News h₀ L h (p :: l) := fun q hq => by
  rcases List.mem_cons.mp hq with rfl | hq
  · exact N _ hp
  · exact N _ hq
theorem are_datX {news : Led} {vs : List Value} {ps : List Str} (h : StrsAre vs ps) : DatAll news vs (ps.map Dat.str) := by
  induction h with
  | nil => exact .nil
  | cons y t r ih => exact .cons (.str _ _) ih
theorem dat_are {news : Led} {ps : List Str} {vs : List Value} (h : DatAll news vs (ps.map Dat.str)) : StrsAre vs ps := by
  induction ps generalizing vs with
  | nil => exact iv0 (R := fun vs => StrsAre vs []) h .nil
  | cons x r ih => exact ivc (R := fun vs => StrsAre vs (x :: r)) h fun v ws h1 h2 => ivs (P := fun v => StrsAre (v :: ws) (x :: r)) h1 fun t => .cons _ t (ih h2)
theorem two_lists {nx : Led} {ys : List Value} {p q : List Str} {R : List Value → Prop} (h : DatAll nx ys [.list (p.map .str), .list (q.map .str)])
    (H : ∀ A1 A2 vs1 vs2 k1 k2, (A1, listOf vs1.toArray k1) ∈ nx → (A2, listOf vs2.toArray k2) ∈ nx → StrsAre vs1 p → StrsAre vs2 q → R [.ref A1, .ref A2]) : R ys :=
  iv2ll (R := R) h fun a vs n b ws k h1 h2 h3 h4 => H a b vs ws n k h1 h3 (dat_are h2) (dat_are h4)
theorem two_at {α β : Type} {a b : α} {c d : β} {i : Nat} {u : α} {v : β} {P : α → β → Prop} (h1 : [a, b][i]? = some u) (h2 : [c, d][i]? = some v) (Ha : P a c) (Hb : P b d) : P u v := by
  cases i with
  | zero => cases h1; cases h2; exact Ha
  | succ i => exact one_get (P := fun i u => [d][i]? = some v → P u v) h1 (fun h2 => by cases h2; exact Hb) h2
theorem two_of {α : Type} {a b : α} {i : Nat} {u : α} {P : α → Prop} (h1 : [a, b][i]? = some u) (Ha : P a) (Hb : P b) : P u := two_at (P := fun u _ => P u) h1 h1 Ha Hb
theorem news_pick {h₀ h : Heap} {L : Addr} {nx base : Led} {d p q : Addr × Obj} (N : News h₀ L h (d :: nx)) (hp : p ∈ nx) (hq : q ∈ nx) (hs : ∀ r ∈ base, r ∈ nx) : News h₀ L h (d :: p :: q :: base) := fun r hr => by
  rcases List.mem_cons.mp hr with rfl | hr
  · exact N _ (.head _)
  rcases List.mem_cons.mp hr with rfl | hr
  · exact N _ (.tail _ hp)
  rcases List.mem_cons.mp hr with rfl | hr
  · exact N _ (.tail _ hq)
  · exact N _ (.tail _ (hs r hr))
noncomputable def goodC (z : Str) : Bool := !(z.length == 0) && (z != Str.ofString ".")
theorem goodC_t {z : Str} (h : ((z.length : Nat) : Int) ≠ 0) (h2 : (z != Str.ofString ".") = true) : goodC z = true := by
  have : (z.length == 0) = false := by simp; omega
  simp [goodC, this, h2]
theorem goodC_f1 {z : Str} (h2 : (z != Str.ofString ".") = false) : goodC z = false := by simp [goodC, h2]
theorem goodC_f2 {z : Str} (h : z.length = 0) : goodC z = false := by simp [goodC, h]
noncomputable def segsC (x : Str) : List Str := (Txt.split x (Str.ofString "/")).filter goodC
theorem ltS_asymm {a z : Str} (h : ltS a z = true) : ltS z a = false := by
  unfold ltS at *
  simp only [decide_eq_true_eq, decide_eq_false_iff_not] at *
  intro h2
  exact List.lt_irrefl _ (List.lt_trans h h2)
theorem ltL_pre (p a b : List Str) : ltL (p ++ a) (p ++ b) = ltL a b := by
  induction p with
  | nil => rfl
  | cons x p ih => simp only [List.cons_append, ltL, beq_self_eq_true, if_true, ih]
theorem gtL_pre (p a b : List Str) : gtL (p ++ a) (p ++ b) = gtL a b := by
  induction p with
  | nil => rfl
  | cons x p ih => simp only [List.cons_append, gtL, beq_self_eq_true, if_true, ih]
theorem ltL_cp {p q : List Str} {z : Str} (hq : q = [] ∨ ∃ a r, q = a :: r ∧ a ≠ z ∧ ltS a z = true) : ltL (p ++ [z]) (p ++ q) = false := by
  rw [ltL_pre]
  rcases hq with rfl | ⟨a, r, rfl, hne, h⟩
  · rfl
  · have : (z == a) = false := beq_eq_false_iff_ne.mpr (Ne.symm hne)
    simp only [ltL, this, Bool.false_eq_true, if_false]
    exact ltS_asymm h
theorem gtL_cp {p q : List Str} {z : Str} (hq : q = [] ∨ ∃ a r, q = a :: r ∧ a ≠ z ∧ ltS a z = true) : gtL (p ++ [z]) (p ++ q) = true := by
  rw [gtL_pre]
  rcases hq with rfl | ⟨a, r, rfl, hne, h⟩
  · rfl
  · have : (z == a) = false := beq_eq_false_iff_ne.mpr (Ne.symm hne)
    simp only [gtL, this, Bool.false_eq_true, if_false]
    exact h
local macro_rules | `(tactic| walk_at "exec For Tuple Call cons nil") => `(tactic| row_wit1 For_open)
theorem Kn.eq {m : Str → Option Value} {ps : List (Str × Value)} (k : Kn m ps) : kstB m ps = m := by
  funext z
  exact kstB_eq k.all fun _ => rfl
theorem are_at {vs : List Value} {ps : List Str} (h : StrsAre vs ps) {i : Nat} {z : Str} (hz : ps[i]? = some z) : ∃ t, vs[i]? = some (.str z t) := by
  induction h generalizing i with
  | nil => simp at hz
  | cons y t r ih =>
    cases i with
    | zero => simp at hz; subst hz; exact ⟨_, rfl⟩
    | succ i => simpa using ih (by simpa using hz)
theorem are_take {vs : List Value} {ps : List Str} (h : StrsAre vs ps) (k : Nat) : StrsAre (vs.take k) (ps.take k) := by
  induction k generalizing vs ps with
  | zero => exact .nil
  | succ k ih => cases h with
    | nil => exact .nil
    | cons y t r => exact .cons y t (ih r)
theorem cells_of {h₀ h : Heap} {L : Addr} {a b c : Addr × Obj} {l : Led} (_ : News h₀ L h (a :: b :: c :: l)) : ∃ b' c', b' = b ∧ c' = c := ⟨_, _, rfl, rfl⟩
theorem iv1lss {news : Led} {vs : List Value} {x y : Str} {R : List Value → Prop} (h : DatAll news vs [.list [.str x, .str y]]) (H : ∀ a n t u, (a, listOf [Value.str x t, Value.str y u].toArray n) ∈ news → R [.ref a]) : R vs :=
  iv1l h fun a _ n h1 h2 => by
    revert h1
    exact iv2ss (R := fun ws => (a, listOf ws.toArray n) ∈ news → R [.ref a]) h2 fun t u h1 => H a n t u h1
theorem fr_one {h₀ h : Heap} {L : Addr} {m : Str → Option Value} {x : Str} {v : Value} {P : Prop} (F : Fr h₀ L h m) (hv : m x = some v) (H : ∀ M0, let mf := upd x v M0; Fr h₀ L h mf → P) : P :=
  H m (Kn.fr (ps := [(x, v)]) ⟨hv, trivial⟩ F)
theorem cp_DT (w : World) (mean : ExcName → Option Value) (mg mb : Str → Option Value) (x y : Str) (p q : List Str) (z : Str) : DT False ((x.length ≤ 1000 ∧ y.length ≤ 1000) ∧ (Txt.split x (Str.ofString "/")).length ≤ 100 ∧ (Txt.split y (Str.ofString "/")).length ≤ 100 ∧ (∀ c ∈ Txt.split x (Str.ofString "/"), c.length ≤ 1000) ∧ (∀ c ∈ Txt.split y (Str.ofString "/"), c.length ≤ 1000) ∧ (p.map (·.length)).sum + p.length ≤ 1048576 ∧ (Txt.join (Str.ofString "/") p).length ≤ 1000 ∧ Txt.startswith x (Str.ofString "/") = true ∧ Txt.startswith y (Str.ofString "/") = true ∧ segsC x = p ++ q ∧ segsC y = p ++ [z] ∧ (q = [] ∨ ∃ a r, q = a :: r ∧ a ≠ z ∧ ltS a z = true)) w mean mg mb 144 70 [.list [.str x, .str y]] (.str (Str.ofString "/" ++ Txt.join (Str.ofString "/") p)) := by
  refine DT.mk fun news vs hD hpre => ?_
  apply iv1lss hD; intro a1 n1 t3 t5 hm1
  intro A env outer A₀ base h₀ L m s Q E hh hA hf hk hdp hu B F X N T hret
  have hp1 := hpre.1.1
  have hp2 := hpre.1.2
  have hl1 := hpre.2.1
  have hl2 := hpre.2.2.1
  have hb1 := hpre.2.2.2.1
  have hb2 := hpre.2.2.2.2.1
  have hw := hpre.2.2.2.2.2.1
  have hj := hpre.2.2.2.2.2.2.1
  have hs1 := hpre.2.2.2.2.2.2.2.1
  have hs2 := hpre.2.2.2.2.2.2.2.2.1
  have hx := hpre.2.2.2.2.2.2.2.2.2.1
  have hy := hpre.2.2.2.2.2.2.2.2.2.2.1
  have hq := hpre.2.2.2.2.2.2.2.2.2.2.2
  refine wpAny_call ?_
  k_dflt (refine' code_defC ?k1 ?k2 ?k3 ?k4 ?k5 ?kA ?kF ?kK ?k6 ?k7 ?k8 ?k9 ?kB ?kD ?_ ?c2 ?c3 ?c4; (case kA => assumption); (case kF => assumption); (case kK => assumption); (case k1 => assumption); (case k2 => assumption); (case k3 => assumption); (case k4 => assumption); (case k5 => assumption); (case k6 => k_is); (case k7 => k_is); (case k8 => omega); (case k9 => exact BindsTo.of_eq rfl); (case kB => exact rfl); (case kD => decide +kernel); (case c2 => exact rfl); (case c3 => exact rfl); (case c4 => exact rfl); k_whole; intro g' L' h' tk' cells' FG' F' N' Y' B' X' T' l1; k_cells Y'; (have hc1 := fun p hp => Nat.ne_of_lt (Nat.lt_succ_of_lt (l1 p hp))); (have hc2 := fun p hp => Nat.ne_of_lt (Nat.lt_succ_of_lt (Nat.lt_succ_of_lt (l1 p hp)))); (try simp only [List.cons_append, List.nil_append] at N'); (try dsimp only); (refine wpAny_noRaise ?_); refine fold3 ?_; intro qk ek sk)
  rename Fr _ _ _ _ => F1
  refine fr_one (x := Str.ofString "paths") (v := .ref a1) F1 rfl ?_; intro M0 mf F2
  clear F1
  k_steps
  refine Halt.go ?_
  k_dflt (refine Assign_ListComp_T (by k_asm) (by rfl) (by with_unfolding_all rfl) (by with_unfolding_all rfl) (by decide) (by rfl) (by decide) (by rfl) (by rfl) (by rfl) ?_)
  k_steps
  rename Fr _ _ _ _ => F9
  rename News _ _ _ _ => N9
  refine hide fun P9 hP9 => ?_
  obtain ⟨cb, cc, ecb, ecc⟩ := cells_of N9
  refine hP9 ?_
  clear P9 hP9
  refine TSrc.intro hh F9 N9 (.head _) (by show (2 : Nat) ≤ sizeLine; decide) ?_
  intro gg
  refine comp_dat [.list ((Txt.split x (Str.ofString "/")).map .str), .list ((Txt.split y (Str.ofString "/")).map .str)] rfl ?turn1 ?fin1
  case turn1 =>
    intro i ys nx v I oI C oC D m₂ h tk E' d hd hsub hds hP hC hx' F N off ne
    clear F9 N9
    refine hide fun P9 hP9 => ?_
    obtain ⟨zz, tt, rfl, hz1, hz2⟩ : ∃ zz tt, v = .str zz tt ∧ zz.length ≤ 1000 ∧ d = .list ((Txt.split zz (Str.ofString "/")).map .str) := by
      match i, hd with
      | 0, hd => cases hd; cases hP; exact ⟨_, _, rfl, hp1, rfl⟩
      | 1, hd => cases hd; cases hP; exact ⟨_, _, rfl, hp2, rfl⟩
      | i + 2, hd => simp at hd
    refine hP9 ?_
    clear P9 hP9
    have hc1 := hsub _ (.tail _ (.tail _ (.head _)))
    have N2 := news_cons N (.tail _ (.tail _ (.tail _ hc1)))
    clear hc1
    have hlt8 : ∀ q ∈ (I, oI) :: (C, oC) :: (D, LCg.lst ys) :: nx, q.1 < h.objs.size := fun q hq => Heap.lt_size (N q hq).1
    clear N
    k_steps
    rename Fr _ _ _ _ => F8
    rename News _ _ _ _ => N8
    rename StrsAre _ _ => A8
    rename (List.map _ _ = _) => e8
    rw [e8] at A8
    subst hz2
    refine cend_list (k := 0) F8 (cb_drop N8 ?_) (newer hlt8) off (fun nx' hk => hk _ (hsub _ (.head _))) hsub hds hd (are_datX A8)
    intro p hp
    rcases List.mem_cons.mp hp with rfl | hp
    · exact .head _
    · exact .tail _ (.tail _ hp)
  case fin1 =>
    intro ys nx hsub hds
    unfold LCg.FinA
    intro D5 h5 tk5 F5 N5 o5
    clear F9 o5
    revert N5
    apply two_lists hds; intro A1 A2 vs1 vs2 k1 k2 hm1' hm2' hv1 hv2 N5
    have N6 : News _ _ _ ((D5, LCg.lst [Value.ref A1, Value.ref A2]) :: (A1, listOf vs1.toArray k1) :: (A2, listOf vs2.toArray k2) :: _) := news_pick N5 hm1' hm2' hsub
    clear N9 N5 hds hm1' hm2' hsub
    (try dsimp only)
    k_steps
    refine Halt.go ?_
    k_dflt (refine exec_SetOne (by k_asm) (by rfl) (by with_unfolding_all rfl) (by decide) (by rfl) (by decide) (by rfl) (by rfl) (by rfl) ?_)
    k_steps
    rename Fr _ _ _ _ => F9
    rename News _ _ _ _ => N9
    refine ⟨_, _, _, _, rfl, hh, F9, N9, .tail _ (.tail _ (.tail _ (.head _))), by show (0 : Nat) < 2; decide, ?el2, ?fin2⟩
    case el2 =>
      intro i v I oI C oC D oD m₂ h tk E' hi hC hx' F N off ne
      clear F9 N9
      refine hide fun P9 hP9 => ?_
      obtain ⟨zz, tt, rfl, hz1⟩ : ∃ zz tt, v = .str zz tt ∧ Txt.startswith zz (Str.ofString "/") = true := by
        match i, hi with
        | 0, hi => cases hi; exact ⟨_, _, rfl, hs1⟩
        | 1, hi => cases hi; exact ⟨_, _, rfl, hs2⟩
        | i + 2, hi => simp at hi
      refine hP9 ?_
      clear P9 hP9
      k_steps
      rename Fr _ _ _ _ => F8
      rename News _ _ _ _ => N8
      rw [hz1]
      exact LCg.CompEnd.intro F8 N8 _ (fun _ h => h) off trivial ⟨rfl, rfl⟩
    case fin2 =>
      intro h tk F6 N6
      clear F9 N9
      (try dsimp only)
      k_steps
      refine Halt.go ?_
      rename Fr _ _ _ _ => F9
      k_dflt (refine LCg.Assign_ListComp_U (F₀ := F9) (by rfl) (by with_unfolding_all rfl) (by with_unfolding_all rfl) (by decide) (by rfl) (by decide) (by rfl) (by rfl) (by rfl) ?_)
      k_steps
      rename News _ _ _ _ => N9
      refine LCg.CompSrc.ledger (its := #[Value.ref A1, Value.ref A2]) (k := 2) hh F9 N9 (List.Mem.head _) (by show (2 : Nat) ≤ sizeLine; decide) ?_
      intro gg
      refine comp_dat [.list ((segsC x).map .str), .list ((segsC y).map .str)] rfl ?turn3 ?fin3
      case turn3 =>
        intro i ys nx v I oI C oC D m₂ h tk E' d hd hsub hds hP hC hx' F N off ne
        clear F9 N9
        refine hide fun P9 hP9 => ?_
        obtain ⟨A8, vs8, k8, zz, rfl, hm8, hv8, hz1, hzb, rfl⟩ : ∃ A8 vs8 k8 zz, v = .ref A8 ∧ (A8, listOf vs8.toArray k8) ∈ nx ∧ StrsAre vs8 (Txt.split zz (Str.ofString "/")) ∧ (Txt.split zz (Str.ofString "/")).length ≤ 100 ∧ (∀ c ∈ Txt.split zz (Str.ofString "/"), c.length ≤ 1000) ∧ d = .list ((segsC zz).map .str) := by
          match i, hd with
          | 0, hd => cases hd; cases hP; exact ⟨_, _, _, _, rfl, hsub _ (.tail _ (.head _)), hv1, hl1, hb1, rfl⟩
          | 1, hd => cases hd; cases hP; exact ⟨_, _, _, _, rfl, hsub _ (.tail _ (.tail _ (.head _))), hv2, hl2, hb2, rfl⟩
          | i + 2, hd => simp at hd
        refine hP9 ?_
        clear P9 hP9
        have hc1 := hsub _ (.tail _ (.tail _ (.tail _ (.tail _ (.head _)))))
        have hlt8 : ∀ q ∈ (I, oI) :: (C, oC) :: (D, LCg.lst ys) :: nx, q.1 < h.objs.size := fun q hq => Heap.lt_size (N q hq).1
        have hl8 : vs8.length ≤ 100 := by rw [hv8.length]; exact hz1
        have N2 := news_cons (news_cons N (.tail _ (.tail _ (.tail _ hc1)))) (.tail _ (.tail _ (.tail _ (.tail _ hm8))))
        clear hc1 N
        k_dflt (refine LCt.ListComp_T (F₀ := F) (by with_unfolding_all rfl) (by decide) (by rfl) (by decide) (by rfl) ?_)
        k_steps
        refine LCt.CompSrcT.ledger (its := vs8.toArray) (k := k8) hh F N2 (List.Mem.head _) (by rw [sizeLine_eq]; simp; omega) ?_
        intro g2
        refine comp_sift goodC (by simp) hv8 (fun i v h => by simpa using h) ?turn4 ?fin4
        case turn4 =>
          intro ys' z' t' I2 oI2 C2 oC2 D2 m3 h3 tk3 E3 hz' hC2 hx2 F3 N4 off3 ne3
          clear N2 F
          have hbz := hzb _ hz'
          k_steps
          all_goals (
            (rename Fr _ _ _ _ => F8)
            (rename News _ _ _ _ => N8)
            refine LCg.CompEnd.intro F8 N8 _ (fun _ h => h) off3 (.inr ⟨_, .head _, rfl, _, rfl⟩) ?_)
          · exact ⟨goodC_t (by with_reducible assumption) (by with_reducible assumption), rfl, _, rfl⟩
          · exact ⟨goodC_f1 (by with_reducible assumption), rfl⟩
          · exact ⟨goodC_f2 (by omega), rfl⟩
        case fin4 =>
          intro ys' hys'
          unfold LCg.FinE
          intro D6 h6 tk6 F6 N6 o6
          refine cend_list (k := ys'.length) F6 (cb_drop N6 ?_) ⟨Ne.symm o6.2.2.1, Ne.symm o6.2.2.2.1, Ne.symm o6.2.2.2.2.1⟩ off (fun nx' hk => .inr ⟨_, hk _ (hsub _ (.head _)), rfl, _, rfl⟩) hsub hds hd (are_datX hys')
          intro p hp
          rcases List.mem_cons.mp hp with rfl | hp
          · exact .head _
          · exact .tail _ (.tail _ (.tail _ hp))
      case fin3 =>
        intro ys nx hsub hds
        unfold LCg.FinA
        intro D7 h7 tk7 F7 N7 o7
        clear F9 N9 o7
        revert N7
        apply two_lists hds; intro B1 B2 us1 us2 j1 j2 hm1' hm2' hu1 hu2 N7
        have N8 : News _ _ _ ((D7, LCg.lst [Value.ref B1, Value.ref B2]) :: (B1, listOf us1.toArray j1) :: (B2, listOf us2.toArray j2) :: _) := news_pick N7 hm1' hm2' hsub
        clear N7 hds hm1' hm2' hsub
        have hlt : ltL (segsC y) (segsC x) = false := by rw [hx, hy]; exact ltL_cp hq
        have hgt : gtL (segsC y) (segsC x) = true := by rw [hx, hy]; exact gtL_cp hq
        (try dsimp only)
        k_steps
        refine Halt.go ?_
        rename News _ _ _ _ => N9
        rename Fr _ _ _ _ => F9
        refine min2_led (a := B1) (b := B2) (nn := 2) hh F9 N9 (List.Mem.head _) (.tail _ (.head _)) (.tail _ (.tail _ (.head _))) (StrVs.ofAre hu1) (StrVs.ofAre hu2) (by ((try simp only [units_in1, units_deeper, Around.mark_units, units_caller]); omega)) hlt ?_
        intro h8 tk8 F8 N8
        clear F9 N9
        (try dsimp only)
        k_steps
        refine Halt.go ?_
        rename News _ _ _ _ => N9
        rename Fr _ _ _ _ => F9
        refine max2_led (a := B1) (b := B2) (nn := 2) hh F9 N9 (List.Mem.head _) (.tail _ (.head _)) (.tail _ (.tail _ (.head _))) (StrVs.ofAre hu1) (StrVs.ofAre hu2) (by ((try simp only [units_in1, units_deeper, Around.mark_units, units_caller]); omega)) hgt ?_
        intro h8 tk8 F8 N8
        clear F9 N9
        (try dsimp only)
        k_steps
        rename News _ _ _ _ => N9
        rename Fr _ _ _ _ => F9
        k_here
        k_whole
        refine enum_go hh F9 N9 (.tail _ (.head _)) (by rfl) (by rfl) (by rfl) (fun i m => Kn m [(Str.ofString "common", .ref B1), (Str.ofString "s2", .ref B2), (Str.ofString "s1", .ref B1), (Str.ofString "isabs", .bool true), (Str.ofString "paths", .ref _)] ∧ i ≤ p.length) ⟨⟨rfl, rfl, rfl, rfl, rfl, trivial⟩, Nat.zero_le _⟩ ?turn5 ?done5
        case turn5 =>
          intro i xv t m₁ h tk own hi hJ98 F6 N6
          refine hide fun P9 hP9 => ?_
          obtain ⟨hkn, hip⟩ := hJ98
          clear F9 N9
          rw [← Kn.eq hkn] at F6
          obtain ⟨c, t2, rfl, hc⟩ := are_get hu1 hi
          refine hP9 ?_
          clear P9 hP9
          have hyl : (segsC y).length = p.length + 1 := by rw [hy]; simp
          obtain ⟨c2, hc2⟩ : ∃ c2, (segsC y)[i]? = some c2 := ⟨_, List.getElem?_eq_getElem (by omega)⟩
          obtain ⟨t6, hv6⟩ := are_at hu2 hc2
          have hv7 : us2[((i : Nat) : Int).toNat]? = some (.str c2 t6) := by rw [Int.toNat_natCast]; exact hv6
          clear hv6
          have hlx : (segsC x).length ≤ 100 := Nat.le_trans (List.length_filter_le _ _) hl1
          have hly : (segsC y).length ≤ 100 := Nat.le_trans (List.length_filter_le _ _) hl2
          have hul1 : us1.length ≤ 100 := by rw [hu1.length]; exact hlx
          have hul2 : us2.length ≤ 100 := by rw [hu2.length]; exact hly
          have N7 := news_cons (news_cons N6 (List.mem_append_right _ (.tail _ (.head _)))) (.tail _ (List.mem_append_right _ (.tail _ (.tail _ (.head _)))))
          clear N6
          rw [hx] at hc
          rw [hy] at hc2
          have hb' : (c != c2) = true → i = p.length := fun hb => by
            by_cases hlt' : i < p.length
            · rw [List.getElem?_append_left hlt'] at hc hc2
              obtain rfl : c = c2 := Option.some.inj (hc.symm.trans hc2)
              simp at hb
            · omega
          have hn' : (c != c2) = false → i + 1 ≤ p.length := fun hb => by
            by_cases hlt' : i < p.length
            · omega
            · exfalso
              obtain rfl : i = p.length := by omega
              have e2 : z = c2 := by simpa using hc2
              rcases hq with rfl | ⟨a, r, rfl, hne, _⟩
              · simp at hc
              · have e1 : a = c := by simpa using hc
                subst e1 e2
                simp at hb
                exact hne hb
          k_steps
          · have hip' := hb' (by with_reducible assumption)
            have hA : StrsAre (List.take ((i : Nat) : Int).toNat us1) p := by
              rw [Int.toNat_natCast, hip']
              have := are_take hu1 p.length
              rwa [hx, List.take_left] at this
            rename Fr _ _ _ _ => F8
            rename News _ _ _ _ => N8
            have N9 : News _ _ _ (_ :: cb :: cc :: news) := cb_drop N8 (fun r hr => by
              rcases List.mem_cons.mp hr with rfl | hr
              · exact List.Mem.head _
              · refine .tail _ (.tail _ (.tail _ (List.mem_append_right _ ?_)))
                rcases List.mem_cons.mp hr with rfl | hr
                · rw [ecb]; iterate 7 apply List.Mem.tail
                  exact .head _
                rcases List.mem_cons.mp hr with rfl | hr
                · rw [ecc]; iterate 8 apply List.Mem.tail
                  exact .head _
                · iterate 9 apply List.Mem.tail
                  exact hr)
            rw [ecb, ecc] at N9
            clear N8
            dsimp only [EndE]
            k_steps
            exact hret _ [] _ _ (by assumption) (cb_drop (by assumption) (by kcj_all)) (fun _ h => nomatch h) (fun h => h.elim) (.str _ _)
          · have hip' := hn' (by with_reducible assumption)
            rename Fr _ _ _ _ => F8
            refine EndE.next F8 (cb_drop N7 (fun r hr => .tail _ (.tail _ hr))) ⟨⟨rfl, rfl, rfl, rfl, rfl, trivial⟩, hip'⟩
        case done5 =>
          intro m₁ h tk hJ93 F6 N6
          refine hide fun P9 hP9 => ?_
          obtain ⟨hkn, hip⟩ := hJ93
          refine hP9 ?_
          clear P9 hP9
          clear F9 N9
          have hpl : us1.length = p.length := by
            have := hu1.length
            rw [hx, List.length_append] at this
            omega
          have hqn : q = [] := by
            have := hu1.length
            rw [hx, List.length_append] at this
            exact List.eq_nil_of_length_eq_zero (by omega)
          have hA : StrsAre us1 p := by rw [hx, hqn, List.append_nil] at hu1; exact hu1
          have N9 : News _ _ _ ((B1, listOf us1.toArray j1) :: cb :: cc :: news) := cb_drop N6 (fun r hr => by
            rcases List.mem_cons.mp hr with rfl | hr
            · exact .tail _ (.head _)
            rcases List.mem_cons.mp hr with rfl | hr
            · rw [ecb]; iterate 7 apply List.Mem.tail
              exact .head _
            rcases List.mem_cons.mp hr with rfl | hr
            · rw [ecc]; iterate 8 apply List.Mem.tail
              exact .head _
            · iterate 9 apply List.Mem.tail
              exact hr)
          rw [ecb, ecc] at N9
          rw [← Kn.eq hkn] at F6
          clear N6 hkn
          (try dsimp only)
          k_steps
          exact hret _ [] _ _ (by assumption) (cb_drop (by assumption) (by kcj_all)) (fun _ h => nomatch h) (fun h => h.elim) (.str _ _)
end
section
open PySem.Builtin PySem.Builtin.Str
set_option maxRecDepth 100000
set_option maxHeartbeats 1000000
/-! commonpath of the paths -/
theorem goodC_mk {l : List Nat} (h1 : l ≠ []) (h2 : l ≠ [46]) : goodC (mkS l) = true := by
  unfold goodC
  rw [Bool.and_eq_true, dot_is]
  constructor
  · rw [mkS_len]
    simp [h1]
  · rw [bne_iff_ne]
    intro e
    have := congrArg (fun s : Str => s.cps.toList) e
    exact h2 (by simpa using this)
theorem goodC_nm (x : Nm) : goodC x.str = true := goodC_mk x.cps_ne (by cases x <;> simp [Nm.cps])
theorem segs_path (b : Bool) (n : Node) : segsC (pathS b n) = topS b :: n.map Nm.str := by
  unfold segsC
  rw [split_path]
  have h0 : goodC (mkS []) = false := by
    unfold goodC
    rw [mkS_len]
    rfl
  have h1 : goodC (topS b) = true := goodC_mk (topL_ne b) (by cases b <;> simp [topL])
  have h2 : (n.map Nm.str).filter goodC = n.map Nm.str := List.filter_eq_self.mpr fun z hz => by
    obtain ⟨x, _, rfl⟩ := List.mem_map.mp hz
    exact goodC_nm x
  rw [List.filter_cons, h0, List.filter_cons, h1]
  simp only [Bool.false_eq_true, if_false, if_true, h2]
theorem path_glue (b : Bool) (n : Node) : Str.ofString "/" ++ Txt.join (Str.ofString "/") (topS b :: n.map Nm.str) = pathS b n := by
  show _ ++ glued _ _ = _
  rw [StrLaws.glued_eq_join, slash_is, pathS, path_join]
  refine Str.ext' (Array.toList_inj.mp ?_)
  rw [Str.cps_append]
  simp only [Array.toList_append, join_cps]
  rw [joinL_cons 47 [] (by simp)]
  simp [topS, Nm.str, Function.comp_def]
theorem ltS_rk {x y : Nm} (h : x.rk < y.rk) : ltS x.str y.str = true := by
  cases x <;> cases y <;> first | (exact absurd h (by decide)) | (unfold ltS; decide)
theorem split_path_len (b : Bool) (n : Node) (hn : n.length ≤ 10) : (Txt.split (pathS b n) (Str.ofString "/")).length ≤ 100 ∧ ∀ c ∈ Txt.split (pathS b n) (Str.ofString "/"), c.length ≤ 1000 := by
  rw [split_path]
  refine ⟨by simp; omega, fun c hc => ?_⟩
  rcases List.mem_cons.mp hc with rfl | hc
  · rw [mkS_len]; simp
  rcases List.mem_cons.mp hc with rfl | hc
  · have := topL_len b
    rw [topS, mkS_len]; omega
  · obtain ⟨x, _, rfl⟩ := List.mem_map.mp hc
    have := x.len
    rw [Nm.str, mkS_len]; omega
theorem path_starts (b : Bool) (n : Node) : Txt.startswith (pathS b n) (Str.ofString "/") = true := by
  rw [slash_is, pathS, starts_1]
  simp [pathL]
theorem names_len (n : Node) : ((n.map Nm.str).map (·.length)).sum ≤ 3 * n.length := by
  induction n with
  | nil => simp
  | cons x r ih =>
    have := x.len
    have e : (Nm.str x).length = x.cps.length := by rw [Nm.str, mkS_len]
    simp only [List.map_cons, List.sum_cons, List.length_cons]
    omega
theorem cp_path (w : World) (mean : ExcName → Option Value) (mg mb : Str → Option Value) (b : Bool) (p s : Node) (x : Nm) (hs : s = [] ∨ ∃ y t, s = y :: t ∧ y.rk < x.rk) :
    DT False ((p ++ s).length ≤ 9) w mean mg mb 144 70 [.list [.str (pathS b (p ++ s)), .str (pathS b (p ++ [x]))]] (.str (pathS b p)) := by
  intro A env outer A₀ base h₀ L m news s₁ vs Q E hh hA hf hk hdp hu B F X N T hD hpre hret
  have C := cp_DT w mean mg mb (pathS b (p ++ s)) (pathS b (p ++ [x])) (topS b :: p.map Nm.str) (s.map Nm.str) x.str
  rw [path_glue] at C
  rw [List.length_append] at hpre
  have hl1 := pathS_len b (p ++ s)
  have hl2 := pathS_len b (p ++ [x])
  have hl3 := pathS_len b p
  rw [List.length_append] at hl1 hl2
  rw [List.length_singleton] at hl2
  obtain ⟨k1, k2⟩ := split_path_len b (p ++ s) (by rw [List.length_append]; omega)
  obtain ⟨k3, k4⟩ := split_path_len b (p ++ [x]) (by rw [List.length_append, List.length_singleton]; omega)
  have ht : (topS b).length ≤ 3 := by rw [topS, mkS_len]; exact (topL_len b).2
  have hj : (Txt.join (Str.ofString "/") (topS b :: p.map Nm.str)).length ≤ 1000 := by
    have e := congrArg Str.length (path_glue b p)
    rw [Str.length_append] at e
    omega
  refine C A env outer A₀ base h₀ L m news s₁ vs Q E hh hA hf hk hdp hu B F X N T hD ⟨⟨by omega, by omega⟩, k1, k3, k2, k4, ?_, hj, path_starts _ _, path_starts _ _, ?_, ?_, ?_⟩ hret
  · have := names_len p
    simp only [List.map_cons, List.sum_cons, List.length_cons, List.length_map]
    omega
  · rw [segs_path]; simp
  · rw [segs_path]; simp
  · rcases hs with rfl | ⟨y, t, rfl, h⟩
    · exact .inl rfl
    · refine .inr ⟨y.str, t.map Nm.str, rfl, ?_, ltS_rk h⟩
      intro e
      have h2 := ltS_rk h
      rw [e] at h2
      have h3 := ltS_asymm h2
      rw [h2] at h3
      cases h3
end
section
open PySem.Builtin PySem.Builtin.Str
set_option maxRecDepth 100000
set_option maxHeartbeats 1000000
section
variable {prog : Program} {w : World} {A : Around} {E : Value → Shared → Prop} {s : Shared} {h₀ : Heap} {L : Addr} {m : Str → Option Value} {news : Led}
theorem last_led {value slice : PySem.Expr} {l : Addr} {vs : List Value} {nn : Nat} {u : Tok} {v : Value} {Q : Value → Shared → Prop} (N : News h₀ L s.heap news := by k_asm) (hm : (l, listOf vs.toArray nn) ∈ news := by tb_src) (hx : vs.getLast? = some v := by z_run) (h : Q v s)
    (hs : subscripted slice false (.ref l) (.int (-1) u) = operate [.ref l, .int (-1) u] (getItem (.ref l) (.int (-1) u)) := by with_unfolding_all rfl) :
    wpAny (model prog w) A (subscriptTail value slice (.ref l) (.int (-1) u)) Q E s := by
  have hne : vs ≠ [] := fun e => by rw [e] at hx; cases hx
  have hp : 0 < vs.length := List.length_pos_iff.mpr hne
  refine tail_any (isL N hm).typeIs slot_list_getitem.lookup (wpAny_getItem_list_neg (isL N hm) (by decide) (by simp; omega) (by decide) ?_ h) hs
  rw [List.getLast?_eq_getElem?] at hx
  have e : ((-1 : Int) + (vs.toArray.size : Nat)).toNat = vs.length - 1 := by simp; omega
  rw [e]
  simpa using hx
end
theorem fig_int {n : Nat} (h : n ≤ 9) : PySem.intText? (figS n) = some (n : Int) := by
  have : ∀ n : Nat, n ≤ 9 → PySem.intText? (figS n) = some (n : Int) := by decide +kernel
  exact this n h
theorem fig_str {n : Nat} (h : n ≤ 9) : Str.ofString (toString (n : Int)) = figS n := by
  have : ∀ n : Nat, n ≤ 9 → Str.ofString (toString (n : Int)) = figS n := by decide +kernel
  exact this n h
theorem int_fig {prog : Program} {w : World} {A : Around} {E : Value → Shared → Prop} {s : Shared} {n : Nat} {t : Tok} {Q : Value → Shared → Prop} (hn : n ≤ 9 := by assumption) (h : ∀ t' k, Q (.int (n : Nat) t') { s with toks := k }) :
    wpAny (model prog w) A (call (.type "int") [.str (figS n) t]) Q E s :=
  KIN.call_text (fig_int hn) (by rw [mkS_len]; show (1 : Nat) ≤ 640; decide) (h _ _)
theorem are_last {vs : List Value} {ps : List Str} {z : Str} (h : StrsAre vs (ps ++ [z])) : ∃ t, vs.getLast? = some (.str z t) := by
  have hl := h.length
  rw [List.length_append, List.length_singleton] at hl
  obtain ⟨t, ht⟩ := are_at h (i := ps.length) (z := z) (by simp)
  exact ⟨t, by rw [List.getLast?_eq_getElem?, hl]; exact ht⟩
/-- from the place before to the next -/
def Stp (prev next : Node) (q : Pr) : Prop := ∃ p s, prev = p ++ s ∧ next = p ++ [q.1] ∧ q.2 = s.length ∧ (s = [] ∨ ∃ y t, s = y :: t ∧ y.rk < q.1.rk)
theorem listOf_inj {vs ws : List Value} {n k : Nat} (h : listOf vs.toArray n = listOf ws.toArray k) : vs = ws := by
  injection h with _ _ h _
  injection h with h _
  simpa using congrArg Array.toList h
theorem pr_but {l l' : Led} (hs : ∀ p ∈ l, p ∈ l' ∨ ∃ x t k, p.2 = listOf [Value.str x t].toArray k) {ps : List Pr} {vs : List Value} (h : DatAll l vs (ps.map prD)) : DatAll l' vs (ps.map prD) := by
  induction ps generalizing vs with
  | nil => exact iv0 (R := fun vs => DatAll l' vs []) h .nil
  | cons p r ih =>
    refine ivc (R := fun vs => DatAll l' vs ((p :: r).map prD)) h fun v ws h1 h2 => .cons (ivt (P := fun v => DatIn l' v (prD p)) h1 fun a xs n hm hd => ?_) (ih h2)
    revert hm
    exact iv2ss (R := fun xs => (a, ({ cls := .type "tuple", data := .seq xs.toArray n } : Obj)) ∈ l → DatIn l' (.ref a) (prD p)) hd fun t u hm =>
      .tuple ((hs _ hm).resolve_right fun ⟨x, t, k, e⟩ => absurd (Value.type.inj (congrArg Obj.cls e : Value.type "tuple" = Value.type "list")) (by decide)) (.cons (.str _ _) (.cons (.str _ _) .nil))
theorem hdr_out {l l' : Led} (hs : ∀ p ∈ l, p ∈ l' ∨ ∃ x t k, p.2 = listOf [Value.str x t].toArray k) {ps : List Pr} {a : Addr} {vs : List Value} {n : Nat} (hm : (a, listOf vs.toArray n) ∈ l) (hd : DatAll l vs (if ps = [] then [] else [Dat.list (ps.map prD)])) :
    (a, listOf vs.toArray n) ∈ l' ∧ ((ps = [] ∧ vs = []) ∨ ∃ a2 vs2 n2, ps ≠ [] ∧ vs = [.ref a2] ∧ (a2, listOf vs2.toArray n2) ∈ l' ∧ DatAll l' vs2 (ps.map prD)) := by
  by_cases hp : ps = []
  · rw [if_pos hp] at hd
    cases hd
    refine ⟨?_, .inl ⟨hp, rfl⟩⟩
    rcases hs _ hm with h | ⟨x, t, k, e⟩
    · exact h
    · exact absurd (listOf_inj e) (by simp)
  · rw [if_neg hp] at hd
    cases hd with
    | cons h1 h2 =>
      cases h2
      cases h1 with
      | list hm2 hd2 =>
        rename_i a2 vs2 n2
        refine ⟨?_, .inr ⟨a2, vs2, n2, hp, rfl, ?_, pr_but hs hd2⟩⟩
        · rcases hs _ hm with h | ⟨x, t, k, e⟩
          · exact h
          · exact absurd (listOf_inj e) (by simp)
        · rcases hs _ hm2 with h | ⟨x, t, k, e⟩
          · exact h
          · exfalso
            have := listOf_inj e
            subst this
            cases ps with
            | nil => exact hp rfl
            | cons p r =>
              cases hd2 with
              | cons k1 k2 => cases k1
end
section
set_option maxRecDepth 100000
set_option maxHeartbeats 1000000
theorem range_small1 (n : Nat) (hn : n ≤ 1000) : Builtin.Range.small 1 n 1 = true := by
  unfold Builtin.Range.small Builtin.Range.rangeFitsLong Builtin.Range.rangeSize
  simp only [Bool.and_eq_true, decide_eq_true_eq]
  refine ⟨⟨⟨?_, ?_⟩, ?_⟩, ?_⟩ <;> (try split) <;> (try split) <;> simp <;> omega
theorem range_size1 (n : Nat) : Builtin.Range.rangeSize 1 n 1 = ((n - 1 : Nat) : Int) := by
  unfold Builtin.Range.rangeSize
  simp
  omega
/-- the next ones' last names, each with the number of the rungs missing -/
noncomputable def psL (lst : List Node) : List Pr := (List.range (lst.length - 1)).map fun i => (((lst[i + 1]?.getD []).getLast?).getD .a, (lst[i]?.getD []).length + 1 - (lst[i + 1]?.getD []).length)
theorem psL_len (lst : List Node) : (psL lst).length = lst.length - 1 := by simp [psL]
theorem psL_get {lst : List Node} {i : Nat} (hi : i + 1 < lst.length) {p s : Node} {x : Nm} (e1 : lst[i]? = some (p ++ s)) (e2 : lst[i + 1]? = some (p ++ [x])) : (psL lst)[i]? = some (x, s.length) := by
  rw [psL, List.getElem?_map, List.getElem?_range (by omega)]
  simp only [Option.map_some, e1, e2, Option.getD_some, List.getLast?_append, List.getLast?_singleton, List.length_append, List.length_singleton]
  simp
theorem ps_all {nodes lst : List Node} (hc : Closed nodes) (hs : Sorted lst) (hl : ∀ x, x ∈ lst ↔ x ∈ nodes) {i : Nat} (hi : i + 1 < lst.length) : ∃ p s x, lst[i]? = some (p ++ s) ∧ lst[i + 1]? = some (p ++ [x]) ∧ (s = [] ∨ ∃ y t, s = y :: t ∧ y.rk < x.rk) ∧ (psL lst)[i]? = some (x, s.length) := by
  obtain ⟨p, x, s, e1, e2, e3⟩ := prev_is hc hs hl (k := i) hi
  have k1 : lst[i]? = some (p ++ s) := by rw [List.getElem?_eq_getElem (by omega), e2]
  have k2 : lst[i + 1]? = some (p ++ [x]) := by rw [List.getElem?_eq_getElem (by omega), e1]
  exact ⟨p, s, x, k1, k2, e3, psL_get hi k1 k2⟩
theorem ps_stp {nodes lst : List Node} (hc : Closed nodes) (hs : Sorted lst) (hl : ∀ x, x ∈ lst ↔ x ∈ nodes) : ∀ k q, (psL lst)[k]? = some q → ∃ prev next, lst[k]? = some prev ∧ lst[k + 1]? = some next ∧ Stp prev next q := by
  intro k q hq
  have hk := (List.getElem?_eq_some_iff.mp hq).1
  rw [psL_len] at hk
  obtain ⟨p, s, x, e1, e2, e3, e4⟩ := ps_all hc hs hl (i := k) (by omega)
  rw [e4] at hq
  cases hq
  exact ⟨_, _, e1, e2, p, s, rfl, rfl, rfl, e3⟩
theorem ps_ok {nodes lst : List Node} (hdep : ∀ n ∈ lst, n.length ≤ 5) (hc : Closed nodes) (hs : Sorted lst) (hl : ∀ x, x ∈ lst ↔ x ∈ nodes) : ∀ q ∈ psL lst, q.2 ≤ 9 := by
  intro q hq
  obtain ⟨k, hk, rfl⟩ := List.mem_iff_getElem.mp hq
  obtain ⟨prev, next, h1, h2, p, s, rfl, h4, h5, h6⟩ := ps_stp hc hs hl k _ (List.getElem?_eq_getElem hk)
  have := hdep _ (List.mem_of_getElem? h1)
  rw [List.length_append] at this
  omega
end
section
set_option maxRecDepth 100000
set_option maxHeartbeats 8000000
local macro_rules | `(tactic| walk_at "exec For Tuple Name cons nil") => `(tactic| row_wit1 For_open)
local macro_rules | `(tactic| walk_at "subscriptTail Name UnaryOp ref int") => `(tactic| row_wit1 last_led)
local macro_rules | `(tactic| walk_at "call type:int") => `(tactic| row_wit1 int_fig)
theorem one_dat {h₀ h : Heap} {L : Addr} {a : Addr} {x : Str} {t : Tok} {n : Nat} {l : Led} (_ : News h₀ L h ((a, listOf #[Value.str x t] n) :: l)) : DatAll ((a, listOf #[Value.str x t] n) :: l) [Value.ref a] [.list [.str x]] :=
  .cons (.list (vs := [Value.str x t]) (.head _) (.cons (.str _ _) .nil)) .nil
theorem two_dat {h₀ h : Heap} {L : Addr} {a : Addr} {x y : Str} {t u : Tok} {n : Nat} {l : Led} (_ : News h₀ L h ((a, listOf #[Value.str x t, Value.str y u] n) :: l)) : DatAll ((a, listOf #[Value.str x t, Value.str y u] n) :: l) [Value.ref a] [.list [.str x, .str y]] :=
  .cons (.list (vs := [Value.str x t, Value.str y u]) (.head _) (.cons (.str _ _) (.cons (.str _ _) .nil))) .nil
theorem DT.to {kp pre pre' : Prop} {w : World} {mean : ExcName → Option Value} {mg mb : Str → Option Value} {f : Addr} {sz : Nat} {args : List Dat} {out out' : Dat} (C : DT kp pre w mean mg mb f sz args out) (e : pre' → pre ∧ out = out') : DT kp pre' w mean mg mb f sz args out' := by
  intro A env outer A₀ base h₀ L m news s vs Q E a1 a2 a3 a4 a5 a6 a7 a8 a9 b1 b2 D hp ret
  obtain ⟨hp', rfl⟩ := e hp
  exact C A env outer A₀ base h₀ L m news s vs Q E a1 a2 a3 a4 a5 a6 a7 a8 a9 b1 b2 D hp' ret
theorem join_path (w : World) (mean : ExcName → Option Value) (mg mb : Str → Option Value) (b : Bool) (p : Node) (x : Nm) : DT False (p.length ≤ 6) w mean mg mb 132 2 [.str (pathS b p), .str x.str] (.str (pathS b (p ++ [x]))) :=
  (join_DT w mean mg mb (pathS b p) x.str).to fun h => ⟨⟨by have := pathS_len b p; omega, by have := x.len; rw [Nm.str, mkS_len]; omega⟩, by rw [join_pathS]⟩
theorem dir_path (w : World) (mean : ExcName → Option Value) (mg mb : Str → Option Value) (b : Bool) (n : Node) (k : Nat) : DT True (n.length ≤ 6 ∧ k < n.length) w mean mg mb 139 2 [.str (pathS b (n.take (n.length - k)))] (.str (pathS b (n.take (n.length - (k + 1))))) :=
  (dir_DT w mean mg mb (pathS b (n.take (n.length - k)))).to fun h => ⟨by have := pathS_len b (n.take (n.length - k)); rw [List.length_take] at this; omega, by rw [dir_take b h.2]⟩
local macro_rules | `(tactic| walk_at "call ref") => `(tactic| (k_here; refine halt ?_))
local macro_rules | `(tactic| walk_at "call ref") => `(tactic| (k_here; ktf_call (join_path _ _ _ _ _ _ _)))
local macro_rules | `(tactic| walk_at "call ref") => `(tactic| (k_here; ktf_call (dir_path _ _ _ _ _ _ _)))
def rdP (P : Addr) (rest : Led) (l : List Str) (m : Str → Option Value) (nx : Led) : Prop := ∃ np vp, nx = (P, listOf vp.toArray np) :: rest ∧ m (Str.ofString "paths") = some (.ref P) ∧ StrsAre vp l
theorem rdP.el {P : Addr} {rest nx : Led} {l : List Str} {m : Str → Option Value} {h₀ h : Heap} {L : Addr} {G : Prop} (J : rdP P rest l m nx) (F : Fr h₀ L h m) (H : ∀ np vp, let mf := upd (Str.ofString "paths") (.ref P) m; Fr h₀ L h mf → nx = (P, listOf vp.toArray np) :: rest → StrsAre vp l → G) : G := by
  obtain ⟨nh, vh, e, hk, hv⟩ := J
  exact H nh vh (Kn.fr (ps := [(_, _)]) ⟨hk, trivial⟩ F) e hv
def rdK (b : Bool) (n : Node) (P : Addr) (x : Str) (t1 : Tok) (base : Led) (k : Nat) (m : Str → Option Value) (nx : Led) : Prop :=
  nx = base ∧ ∃ tt, Kn m [(Str.ofString "place", .str (pathS b (n.take (n.length - k))) tt), (Str.ofString "paths", .ref P), (Str.ofString "name", .str x t1)]
theorem rdK.el {b : Bool} {n : Node} {P : Addr} {x : Str} {t1 : Tok} {base nx : Led} {k : Nat} {m : Str → Option Value} {h₀ h : Heap} {L : Addr} {G : Prop} (J : rdK b n P x t1 base k m nx) (F : Fr h₀ L h m)
    (H : ∀ tt, let mf := upd (Str.ofString "place") (.str (pathS b (n.take (n.length - k))) tt) (upd (Str.ofString "paths") (.ref P) (upd (Str.ofString "name") (.str x t1) m)); Fr h₀ L h mf → nx = base → G) : G := by
  obtain ⟨e, tt, hk⟩ := J
  exact H tt (hk.fr F) e
def rdO (l' : Led) (ps : List Pr) (vs : List Value) : Prop := (ps = [] ∧ vs = []) ∨ ∃ a2 vs2 n2, ps ≠ [] ∧ vs = [.ref a2] ∧ (a2, listOf vs2.toArray n2) ∈ l' ∧ DatAll l' vs2 (ps.map prD)
theorem rdO.arm {l' : Led} {ps : List Pr} {vs : List Value} {i : Nat} {v : Value} {R : Nat → List Value → Value → Prop} (O : rdO l' ps vs) (hv : vs[i]? = some v) (H : ∀ a2 vs2 n2, (a2, listOf vs2.toArray n2) ∈ l' → DatAll l' vs2 (ps.map prD) → R 0 [.ref a2] (.ref a2)) : R i vs v := by
  rcases O with ⟨_, rfl⟩ | ⟨a2, vs2, n2, _, rfl, hm, hd⟩
  · simp at hv
  · exact one_get (P := fun i v => R i [.ref a2] v) hv (H a2 vs2 n2 hm hd)
theorem rdO.fin {l' : Led} {ps : List Pr} {vs vp : List Value} {l : List Node} {b : Bool} (O : rdO l' ps vs) (hlen : l.length = ps.length + 1) (h : StrsAre vp ((if vs.length = 0 then l.take 1 else l).map (pathS b))) : StrsAre vp (l.map (pathS b)) := by
  rcases O with ⟨rfl, rfl⟩ | ⟨a2, vs2, n2, hps, rfl, _, _⟩
  · rwa [List.length_nil, if_pos rfl, List.take_of_length_le (by rw [hlen]; simp)] at h
  · rwa [if_neg (by simp)] at h
theorem rd_first {b : Bool} {l : List Node} (h0 : l[0]? = some []) (t : Tok) : StrsAre [.str (Str.ofString "/" ++ topS b) t] ((if (0 : Nat) = 0 then l.take 1 else l).map (pathS b)) := by
  have hl1 : l.take 1 = [[]] := by
    cases l with
    | nil => cases h0
    | cons x r => cases h0; rfl
  rw [if_pos rfl, hl1, List.map_cons, List.map_nil, path_0]
  exact .cons _ _ .nil
theorem swp {α : Type} {p a b : α} {l : List α} (h : p ∈ a :: b :: l) : p ∈ b :: a :: l :=
  (List.mem_cons.mp h).elim (fun e => e ▸ .tail _ (.head _)) fun h => (List.mem_cons.mp h).elim (fun e => e ▸ .head _) fun h => .tail _ (.tail _ h)
theorem rd_stp {l : List Node} {b : Bool} {j : Nat} {vp : List Value} {prev : Node} (e1 : l[j]? = some prev) (h : StrsAre vp ((l.take (j + 1)).map (pathS b))) : ∃ t, vp.getLast? = some (.str (pathS b prev) t) := by
  rw [List.take_add_one, e1, List.map_append] at h
  exact are_last h
theorem rd_snoc {l : List Node} {b : Bool} {j : Nat} {vp : List Value} {next : Node} {t : Tok} (e2 : l[j + 1]? = some next) (h : StrsAre vp ((l.take (j + 1)).map (pathS b))) : StrsAre (vp ++ [.str (pathS b next) t]) ((l.take (j + 1 + 1)).map (pathS b)) := by
  rw [List.take_add_one (i := j + 1), e2, List.map_append]
  exact are_app h (.cons _ _ .nil)
def StpAll (l : List Node) (ps : List Pr) : Prop := ∀ k q, ps[k]? = some q → ∃ prev next, l[k]? = some prev ∧ l[k + 1]? = some next ∧ Stp prev next q
theorem stp_fig {l : List Node} {ps : List Pr} (hst : StpAll l ps) (hn6 : ∀ n ∈ l, n.length ≤ 6) : ∀ q ∈ ps, q.2 ≤ 9 := fun q hq => by
  obtain ⟨k, hk, rfl⟩ := List.mem_iff_getElem.mp hq
  obtain ⟨prev, next, h1, h2, p, s', rfl, h4, h5, h6⟩ := hst k _ (List.getElem?_eq_getElem hk)
  have := hn6 _ (List.mem_of_getElem? h1)
  rw [List.length_append] at this
  omega
theorem stp_at {l : List Node} {ps : List Pr} {k : Nat} {q : Pr} {G : Prop} (hst : StpAll l ps) (h : ps[k]? = some q) (H : ∀ p sfx, l[k]? = some (p ++ sfx) → l[k + 1]? = some (p ++ [q.1]) → q.2 = sfx.length → (sfx = [] ∨ ∃ y t, sfx = y :: t ∧ y.rk < q.1.rk) → G) : G := by
  obtain ⟨prev, next, e1, e2, p, sfx, rfl, rfl, hq2, hlt⟩ := hst k q h
  exact H p sfx e1 e2 hq2 hlt
theorem read_DT (w : World) (mean : ExcName → Option Value) (mg mb : Str → Option Value) (b : Bool) (l : List Node) (ps : List Pr) :
    DT False ((∀ k q, ps[k]? = some q → ∃ prev next, l[k]? = some prev ∧ l[k + 1]? = some next ∧ Stp prev next q) ∧ l[0]? = some [] ∧ l.length = ps.length + 1 ∧ ps.length ≤ 6 ∧ (∀ n ∈ l, n.length ≤ 6)) w mean mg mb 289 200 [.str (topS b), .str (mkS (hdrL ps))] (dS (l.map (pathS b))) := by
  refine DT.mk fun news vs hD hpre => ?_
  apply iv2ss hD; intro t u
  refine VT.enter [(Str.ofString "header", .str (mkS (hdrL ps)) u), (Str.ofString "top", .str (topS b) t)] (H := ?_)
  intro A outer A₀ base g L s Q hh hA hdp hu B mf F X N T hret Mk vk
  have hst : StpAll l ps := hpre.1
  have h0 := hpre.2.1
  have hlen := hpre.2.2.1
  have hp6 := hpre.2.2.2.1
  have hn6 := hpre.2.2.2.2
  have zt : (topS b).length ≤ 3 := by rw [topS, mkS_len]; exact (topL_len b).2
  k_steps
  have hfig := stp_fig hst hn6
  rename News _ _ _ _ => N9
  have D9 := one_dat N9
  refine Halt.go ?_
  tbr_iter (shw_DT w mean mg mb ps)
  rename DatIn _ _ _ => ho9
  rename News _ _ _ _ => N9b
  rename Fr _ _ _ _ => F9
  rename (∀ p ∈ _, ∀ q ∈ _, _ < _) => hl9
  rename ∀ p ∈ news, p.1 < _ => lP
  clear D9 N9
  apply ivl ho9; intro ar vsr nr hm9 hd9
  rename_i P b1 b2 b3 b4 b5 b6 b7 b8 b9 c0 a3 c1 c2 c3 c4 tl9 c5 c6 c7
  have hneP : ∀ p ∈ tl9 ++ news, p.1 ≠ P := fa (fun p hp => Nat.ne_of_gt (hl9 p hp (P, _) (.tail _ (.head _)))) (fun p hp => Nat.ne_of_lt (lP p hp))
  have NB : News _ _ _ ((P, listOf #[Value.str (Str.ofString "/" ++ topS b) _] 0) :: (tl9 ++ news)) := cb_drop N9b (fc (List.mem_append_right _ (.tail _ (.head _))) (fa (fun _ hq => List.mem_append_left _ hq) fun _ hq => List.mem_append_right _ (.tail _ (.tail _ hq))))
  clear N9b
  refine fr_one (x := Str.ofString "paths") (v := .ref P) F9 rfl ?_; intro M0 mf0 F10
  clear F9
  have O := hdr_out (l' := tl9 ++ news) (fa (fun _ hp => .inl (List.mem_append_left _ hp)) (fc (.inr ⟨_, _, _, rfl⟩) (fc (.inr ⟨_, _, _, rfl⟩) fun _ hp => .inl (List.mem_append_right _ hp)))) hm9 hd9
  have hm10 := O.1
  have hd10 : rdO (tl9 ++ news) ps vsr := O.2
  clear O hm9 hd9
  k_steps
  rename Fr _ _ _ _ => F9
  rename News _ _ _ _ => N9
  refine iter_listP (fun i => rdP P (tl9 ++ news) ((if i = 0 then l.take 1 else l).map (pathS b))) hh (.tail _ hm10) F9 N9 (fun _ _ _ _ _ => go_name) ⟨_, _, rfl, rfl, rd_first h0 _⟩ ?turn ?done
  case turn =>
    intro I i v m₁ nx h tk oI hoI hltI hv
    clear F9 N9
    revert hm10
    apply hd10.arm hv; intro a2 vs2 n2 hm2 hd2 hm10 hJ hI hl F1 N1
    refine hJ.el F1 ?_; intro np vp mf F2 e hvp
    subst e
    clear F1 hJ hv
    rw [if_pos rfl] at hvp
    have hPI : @Ne Nat P I := hI _ (.head _)
    k_steps
    rename Fr _ _ _ _ => F3
    rename News _ _ _ _ => N3a
    have N3 : News _ _ _ ((P, listOf vp.toArray np) :: (I, oI) :: (tl9 ++ news)) := cb_drop N3a fun _ => swp
    clear N3a
    have hll : vs2.length = ps.length := by have := hd2.length; rwa [List.length_map] at this
    refine iter_listP (vs := vs2) (fun j => rdP P ((I, oI) :: (tl9 ++ news)) ((l.take (j + 1)).map (pathS b))) hh (.tail _ (.tail _ hm2)) F3 N3 (fun _ _ _ _ h => go_list h) ⟨_, _, rfl, rfl, hvp⟩ ?turn2 ?done2
    case turn2 =>
      intro I2 j v m₂ nx h tk oI2 hoI2 hltI2 hv hJ hI2 hl2 F4 N4
      clear F3 N3 hvp
      refine hJ.el F4 ?_; intro np vp mf F5 e hvp
      subst e
      refine prD_get hd2 hv fun q t t1 t2 n hpj e hmt => ?_
      subst e
      refine stp_at hst hpj fun p sfx e1 e2 hq2 hlt => ?_
      refine (rd_stp e1 hvp).elim fun tL hlast => ?_
      clear F4 hJ hv
      have hdig := hfig q (List.mem_of_getElem? hpj)
      have hpl := hn6 _ (List.mem_of_getElem? e1)
      have hPI2 : @Ne Nat P I2 := hI2 _ (.head _)
      have z1 : q.1.str.length ≤ 10 := by have := q.1.len; rw [Nm.str, mkS_len]; omega
      have hkl : q.2 ≤ (p ++ sfx).length := by rw [hq2, List.length_append]; omega
      k_steps
      rename Fr _ _ _ _ => F6
      rename News _ _ _ _ => N6
      rename IsRange _ _ _ _ _ _ _ _ => R6
      refine iter_rangeP (n := q.2) (rdK b (p ++ sfx) P q.1.str t1 ((I2, oI2) :: (P, listOf vp.toArray np) :: (I, oI) :: (tl9 ++ news))) hh R6 (range_small _ (by omega)) (range_size _) F6 N6 (fun _ _ _ _ h => go_name) ?start3 ?turn3 ?done3
      case start3 =>
        refine ⟨rfl, tL, ?_, rfl, rfl, trivial⟩
        rw [Nat.sub_zero, List.take_length]
        rfl
      case turn3 =>
        intro I3 k tk3 m₃ nx h tk oI3 hoI3 hltI3 hk3 hJ hI3 F7 N7
        refine hJ.el F7 ?_; intro tt mf F8 e
        subst e
        clear F7 F6 N6 hJ
        have hk4 : k < (p ++ sfx).length := Nat.lt_of_lt_of_le hk3 hkl
        k_steps
        rename Fr _ _ _ _ => F9
        rename News _ _ _ _ => N9
        exact EndT.next F9 N9 hI3 (fun _ e => nomatch e) ⟨rfl, _, rfl, rfl, rfl, trivial⟩
      case done3 =>
        intro m₃ nx h tk hJ F7 N7
        have ep : (p ++ sfx).take ((p ++ sfx).length - q.2) = p := by
          rw [hq2, List.length_append, Nat.add_sub_cancel, List.take_left]
        unfold rdK at hJ
        rw [ep] at hJ
        refine hJ.2.elim fun tt hk => ?_
        have e := hJ.1
        subst e
        clear hJ F6 N6
        have F8 := hk.fr F7
        clear F7 hk
        have z5 : p.length ≤ 6 := by rw [List.length_append] at hpl; omega
        (try dsimp only)
        k_steps
        rename Fr _ _ _ _ => F9
        rename News _ _ _ _ => N9
        have D9 := two_dat N9
        have hpp : (pathS b p != pathS b p) = false := by simp
        refine Halt.go ?_
        ktf_call (cp_path w mean mg mb b p sfx q.1 hlt)
        clear D9 F9 N9
        rename News _ _ _ _ => N10
        have N11 : News _ _ _ ((P, listOf vp.toArray np) :: (I2, oI2) :: (I, oI) :: (tl9 ++ news)) := cb_drop N10 (fc (.tail _ (.tail _ (.head _))) (fc (.tail _ (.head _)) fun _ hr => .tail _ (.tail _ (.tail _ hr))))
        clear N10
        have hvl : vp.length ≤ 20 := by rw [hvp.length, List.length_map, List.length_take]; omega
        k_steps
        rename Fr _ _ _ _ => F12
        rename News _ _ _ _ => N12
        exact EndT.next F12 (nx := (P, _) :: (I, oI) :: (tl9 ++ news)) (cb_drop N12 fun _ => swp) (fc hPI2 fun r hr => hI2 _ (.tail _ hr)) (fun r e => by cases e; exact .tail _ (.tail _ hm2)) ⟨_, _, rfl, rfl, rd_snoc e2 hvp⟩
    case done2 =>
      intro m₂ nx h tk hJ hl2 F4 N4
      clear F3 N3 hvp
      refine hJ.el F4 ?_; intro np vp mf F5 e hvp
      subst e
      clear F4 hJ
      rw [hll, ← hlen, List.take_length] at hvp
      (try dsimp only)
      k_steps
      exact EndT.next F5 (nx := (P, _) :: (tl9 ++ news)) (cb_drop N4 fun _ => swp) (fc hPI fun r hr => hI _ (.tail _ hr)) (fun r e => by cases e; exact .tail _ hm10) ⟨np, vp, rfl, rfl, hvp⟩
  case done =>
    intro m₁ nx h tk hJ hl F1 N1
    clear F9 N9
    refine hJ.el F1 ?_; intro np vp mf F5 e hvp
    subst e
    clear F1 hJ
    have hvp' := hd10.fin hlen hvp
    clear hvp
    (try dsimp only)
    k_steps
    exact hret _ ((P, listOf vp.toArray np) :: tl9) _ _ _ (by assumption) (cb_drop (by assumption) (fun r hr => hr)) (fc lP fun p hp q hq => hl9 p hp q (.tail _ (.tail _ hq))) (DatIn.list (.head _) (ds := (l.map (pathS b)).map Dat.str) (are_dat hvp'))
end
section
set_option maxRecDepth 100000
set_option maxHeartbeats 8000000
local macro_rules | `(tactic| walk_at "compareOp NotIn ref ref") => `(tactic| (k_here; refine halt ?_))
local macro_rules | `(tactic| walk_at "subscriptTail Name BinOp ref int") => `(tactic| (k_here; refine halt ?_))
local macro_rules | `(tactic| walk_at "subscriptTail List cons BinOp ref int") => `(tactic| (k_here; refine halt ?_))
abbrev NodesOk (nodes : List Node) : Prop := Closed nodes ∧ [] ∈ nodes ∧ nodes.Nodup ∧ nodes.length ≤ 6 ∧ ∀ n ∈ nodes, n.length ≤ 5
theorem ints_get {vs : List Value} {ns : List Int} (h : IntsAre vs ns) {i : Nat} {v : Value} (hv : vs[i]? = some v) : ∃ x t, v = .int x t ∧ ns[i]? = some x := by
  induction h generalizing i with
  | nil => simp at hv
  | cons y t r ih =>
    cases i with
    | zero => simp at hv; exact ⟨_, _, hv.symm, rfl⟩
    | succ i => simpa using ih (by simpa using hv)
theorem pick3 (t1 t2 t3 : Tok) {y : Int} (h0 : 0 ≤ y) (h3 : y < 3) : ∃ nm tn, [Value.str (Str.ofString "a") t1, .str (Str.ofString "a-b") t2, .str (Str.ofString "ba") t3][y.toNat]? = some (.str (Nm.str nm) tn) := by
  have e1 : Str.ofString "a" = Nm.a.str := by decide
  have e2 : Str.ofString "a-b" = Nm.ab.str := by decide
  have e3 : Str.ofString "ba" = Nm.ba.str := by decide
  rw [e1, e2, e3]
  have : y = 0 ∨ y = 1 ∨ y = 2 := by omega
  rcases this with rfl | rfl | rfl
  · exact ⟨_, _, rfl⟩
  · exact ⟨_, _, rfl⟩
  · exact ⟨_, _, rfl⟩
section
open Classical
variable {prog : Program} {w : World} {A : Around} {E : Value → Shared → Prop} {s : Shared} {h₀ : Heap} {L a : Addr} {news : Led} {Q : Value → Shared → Prop} {x : Value} {n : Node} {nodes : List Node}
theorem nin_yes (N : News h₀ L s.heap news) (D : DatIn news (.ref a) (dLL (nSS nodes))) (Dx : DatIn news x (dS (nS n))) (hu : A.units + 64 < cLine) (hin : n ∈ nodes) (h : Q (.bool false) s) : wpAny (model prog w) A (compareOp .NotIn x (.ref a)) Q E s := by
  cases D with
  | list hm hv =>
    refine kqd_notIn N hm rfl rfl hv (fun _ h => h) Dx (fun _ h => h) ?_ (ok_nS n) hu ?_
    · intro d hd
      obtain ⟨xs, h1, rfl⟩ := List.mem_map.mp hd
      obtain ⟨k, h3, rfl⟩ := List.mem_map.mp h1
      exact ok_nS k
    · rw [decide_eq_true (dnS_mem.mpr hin)]
      exact h
theorem nin_no (N : News h₀ L s.heap news) (D : DatIn news (.ref a) (dLL (nSS nodes))) (Dx : DatIn news x (dS (nS n))) (hu : A.units + 64 < cLine) (hin : ¬ n ∈ nodes) (h : Q (.bool true) s) : wpAny (model prog w) A (compareOp .NotIn x (.ref a)) Q E s := by
  cases D with
  | list hm hv =>
    refine kqd_notIn N hm rfl rfl hv (fun _ h => h) Dx (fun _ h => h) ?_ (ok_nS n) hu ?_
    · intro d hd
      obtain ⟨xs, h1, rfl⟩ := List.mem_map.mp hd
      obtain ⟨k, h3, rfl⟩ := List.mem_map.mp h1
      exact ok_nS k
    · rw [decide_eq_false fun q => hin (dnS_mem.mp q)]
      exact h
end
theorem sub_of {h₀ h : Heap} {L : Addr} {news tl : Led} (_ : News h₀ L h news) (hs : ∀ p ∈ tl, p ∈ news) : ∀ p ∈ tl, p ∈ news := hs
theorem mem_of {h₀ h : Heap} {L : Addr} {news : Led} {q : Addr × Obj} (_ : News h₀ L h news) (hs : q ∈ news) : q ∈ news := hs
theorem node_at {h₀ h : Heap} {L a : Addr} {vs : List Value} {n : Nat} {r : Led} {ds : List Dat} (_ : News h₀ L h ((a, listOf vs.toArray n) :: r)) (hd : DatAll ((a, listOf vs.toArray n) :: r) vs ds) : DatIn ((a, listOf vs.toArray n) :: r) (.ref a) (.list ds) := .list (.head _) hd
theorem head_of {h₀ h : Heap} {L : Addr} {a : Addr} {o : Obj} {l : Led} (_ : News h₀ L h ((a, o) :: l)) : ∃ a', a' = a := ⟨_, rfl⟩
theorem closed_snoc {nodes : List Node} {n : Node} {x : Nm} (hc : Closed nodes) (hn : n ∈ nodes) : Closed (nodes ++ [n ++ [x]]) := by
  intro k y hk
  rcases List.mem_append.mp hk with h | h
  · exact List.mem_append_left _ (hc k y h)
  · have e := List.mem_singleton.mp h
    have := (List.append_inj' e rfl).1
    subst this
    exact List.mem_append_left _ hn
theorem PH4 {w : World} {mean : ExcName → Option Value} {mg mb : Str → Option Value} {h₀ : Heap} {L fa : Addr} {cd : Value} (G : LawG w mean mg mb h₀ L) {b : Bool} {ns : List Int} (hns : ns.length ≤ 5) {Q : Flow → Shared → Prop} {s : Shared} {m : Str → Option Value} {D ND E0 : Addr} {t : Tok} {ws : List Value} {kw kn ke : Nat} {c5 c4 c3 c2 c1 : Obj}
    (F : Fr h₀ L s.heap m) (N : News h₀ L s.heap ((ND, listOf [Value.ref E0].toArray kn) :: (E0, listOf ([] : List Value).toArray ke) :: (D, listOf ws.toArray kw) :: cellsL L c5 c4 c3 c2 c1))
    (hws : IntsAre ws ns) (hc : c1.data = .cell (some (.str (topS b) t))) (hkn : Kn m [(Str.ofString "row", .ref D), (Str.ofString "nodes", .ref ND)]) (lD : L + 1 + 1 + 1 + 1 + 1 < D) (lE : D < E0) (lN : E0 < ND)
    (next : ∀ nodes tl m' h' tk', NodesOk nodes → Fr h₀ L h' m' → News h₀ L h' (cellsL L c5 c4 c3 c2 c1 ++ tl) → (∀ p ∈ tl, L + 1 + 1 + 1 + 1 + 1 < p.1) → Kn m' [(Str.ofString "nodes", .ref ND)] → DatIn tl (.ref ND) (dLL (nSS nodes)) →
      wpAny (model Challenge.rw_pd0179_01.prog w) (lawA L fa cd) (execs (lawBody.drop 5) (lawE L fa cd)) Q noE { s with heap := h', toks := tk' }) :
    wpAny (model Challenge.rw_pd0179_01.prog w) (lawA L fa cd) (execs (lawBody.drop 4) (lawE L fa cd)) Q noE s := by
  show wpAny _ (callerA.deeper (envOfC _ (Scope.mk _ _ _ _ _) _ _ _)) (execs (_ :: _) (envOfC _ (Scope.mk _ _ _ _ _) _ _ _)) _ _ _
  refine law_let ?_; intro Mk vk Ak hA1 hA2 hA3 hA4
  have X := G.X
  have T := G.T
  have B := G.B
  have lo := G.lo
  have F1 := hkn.fr F
  clear F
  revert X
  k_fill
  intro X
  k_steps
  refine iter_listP (fun i m nx => ∃ nodes tl vn kn, nx = (ND, listOf vn.toArray kn) :: (tl ++ (D, listOf ws.toArray kw) :: cellsL L c5 c4 c3 c2 c1) ∧ Kn m [(Str.ofString "row", .ref D), (Str.ofString "nodes", .ref ND)] ∧ DatAll tl vn ((nSS nodes).map dS) ∧ (∀ p ∈ tl, L + 1 + 1 + 1 + 1 + 1 < p.1 ∧ p.1 ≠ ND) ∧ Closed nodes ∧ [] ∈ nodes ∧ nodes.Nodup ∧ nodes.length ≤ i + 1 ∧ ∀ n ∈ nodes, n.length ≤ i) rfl (.tail _ (.tail _ (.head _))) F1 N (fun _ _ _ _ _ => go_name) ⟨[[]], [(E0, listOf ([] : List Value).toArray ke)], _, _, rfl, ⟨rfl, rfl, trivial⟩, .cons (.list (.head _) .nil) .nil, ?s1, ?s2, List.Mem.head _, ?s3, Nat.le_refl _, ?s4⟩ ?turn ?done
  case s1 =>
    intro p hp
    rw [List.mem_singleton.mp hp]
    exact ⟨Nat.lt_trans lD lE, Nat.ne_of_lt lN⟩
  case s2 =>
    intro n x hx
    rw [List.mem_singleton] at hx
    exact absurd hx (by simp)
  case s3 => exact by simp
  case s4 =>
    intro n hn
    rw [List.mem_singleton.mp hn]
    exact Nat.le_refl _
  case turn =>
    intro I i v m₁ nx h tk oI hoI hltI hv hJ101 hI hl F3 N3
    refine hide fun P9 hP9 => ?_
    obtain ⟨nodes, tl, vn, kn', rfl, hkn', hd, htl, hcl, h0, hnd, hlen, hdep⟩ := hJ101
    clear F1 N hkn
    obtain ⟨x, tx, rfl, hx⟩ := ints_get hws hv
    have hi5 : i < 5 := by
      have := (List.getElem?_eq_some_iff.mp hx).1
      omega
    have hvl : vn.length = nodes.length := by have := hd.length; simpa using this
    have hn1 : 0 < nodes.length := List.length_pos_iff.mpr (List.ne_nil_of_mem h0)
    have hj0 : 0 ≤ x.fmod (vn.length : Int) := Int.fmod_nonneg_of_pos _ (by omega)
    have hj1 : x.fmod (vn.length : Int) < (vn.length : Int) := Int.fmod_lt_of_pos _ (by omega)
    have hj2 : (x.fmod (vn.length : Int)).toNat < ((nSS nodes).map dS).length := by rw [List.length_map, List.length_map, ← hvl]; omega
    obtain ⟨v1, hv1, hd1⟩ := hd.get hj2
    obtain ⟨nd, hnd1, hd1'⟩ : ∃ nd, nd ∈ nodes ∧ DatIn tl v1 (dS (nS nd)) := by
      rw [List.getElem_map, List.getElem_map] at hd1
      exact ⟨_, List.getElem_mem _, hd1⟩
    have y0 : 0 ≤ (x.fdiv (vn.length : Int)).fmod 3 := Int.fmod_nonneg_of_pos _ (by omega)
    have y1 : (x.fdiv (vn.length : Int)).fmod 3 < 3 := Int.fmod_lt_of_pos _ (by omega)
    clear hd1
    cases hd1' with | list hm1 hs1 => ?_
    refine hP9 ?_
    clear P9 hP9
    rename_i a1 vs1 k1
    have hvl1 := hs1.length
    rw [List.length_map, List.length_map] at hvl1
    have hdn := hdep nd hnd1
    have N4 := news_dup N3 (.tail _ (.tail _ (List.mem_append_left _ hm1)))
    have F2 := hkn'.fr F3
    dsimp only [kstB] at F2
    clear F3 N3
    k_steps
    refine Halt.go ?_
    rename News _ _ _ _ => N9
    refine item_led (vs := vn) N9 (by tb_src) hj0 (by omega) hv1 ?_
    k_steps
    refine Halt.go ?_
    rename News _ _ _ _ => N9
    obtain ⟨nm, tn, hnm⟩ := pick3 _ _ _ y0 y1
    refine item_led (vs := [_, _, _]) N9 (List.Mem.head _) y0 (by omega) hnm ?_
    k_steps
    refine Halt.go ?_
    rename News _ _ _ _ => N10
    refine hide fun P9 hP9 => ?_
    obtain ⟨NW, eNW⟩ := head_of N10
    subst eNW
    refine hP9 ?_
    clear P9 hP9
    rename ∀ p ∈ _, _ < NW => lW
    have lW1 : ND < NW := lW (ND, listOf vn.toArray kn') (by tb_src)
    have lW2 : I < NW := lW (I, oI) (by tb_src)
    clear lW
    rename News _ _ _ _ => N10
    rename Fr _ _ _ _ => F10
    have hs2 : ∀ nx, (∀ p ∈ tl, p ∈ nx) → DatAll nx (vs1 ++ [Value.str nm.str tn]) ((nS (nd ++ [nm])).map Dat.str) := fun nx hk => by
      have e : (nS (nd ++ [nm])).map Dat.str = (nS nd).map Dat.str ++ [Dat.str nm.str] := by simp [nS]
      rw [e]
      exact (hs1.mono hk).append (.cons (.str _ _) .nil)
    have hk10 := sub_of (tl := tl) N10 (by (intro p hp; repeat (first | exact List.mem_append_left _ hp | apply List.Mem.tail)))
    have m10 := mem_of (q := (ND, listOf vn.toArray kn')) N10 (by tb_src)
    have Dx := node_at N10 (hs2 _ hk10)
    have Dn := DatIn.list m10 (hd.mono hk10)
    by_cases hin : nd ++ [nm] ∈ nodes
    · refine nin_yes N10 Dn Dx (by ((try simp only [units_in1, units_deeper, Around.mark_units, units_caller]); omega)) hin ?_
      clear Dn Dx
      k_steps
      refine EndT.next F10 (cb_drop N10 ?_) hI (fun p e => by cases e; exact hl) ⟨nodes, tl, vn, kn', rfl, ⟨rfl, rfl, trivial⟩, hd, htl, hcl, h0, hnd, by omega, fun n hn => by have := hdep n hn; omega⟩
      (intro p hp; rcases List.mem_cons.mp hp with rfl | hp)
      · tb_src
      · (repeat (first | exact hp | apply List.Mem.tail))
    · refine nin_no N10 Dn Dx (by ((try simp only [units_in1, units_deeper, Around.mark_units, units_caller]); omega)) hin ?_
      clear Dn Dx
      have N11 : News _ _ _ ((ND, listOf vn.toArray kn') :: (NW, listOf (vs1 ++ [Value.str nm.str tn]).toArray 0) :: (I, oI) :: (tl ++ (D, listOf ws.toArray kw) :: cellsL L c5 c4 c3 c2 c1)) := cb_drop N10 (fun p hp => by
        rcases List.mem_cons.mp hp with rfl | hp
        · exact m10
        rcases List.mem_cons.mp hp with rfl | hp
        · exact .head _
        rcases List.mem_cons.mp hp with rfl | hp
        · tb_src
        · repeat (first | exact hp | apply List.Mem.tail))
      have hNI : @Ne Nat ND I := hI _ (.head _)
      have hDN : @LT.lt Nat _ D ND := Nat.lt_trans lE lN
      have hneT : ∀ p ∈ tl ++ (D, listOf ws.toArray kw) :: cellsL L c5 c4 c3 c2 c1, p.1 ≠ ND := fun p hp => by
        rcases List.mem_append.mp hp with hp | hp
        · exact (htl p hp).2
        rcases List.mem_cons.mp hp with rfl | hp
        · exact Nat.ne_of_lt hDN
        · exact cells_ne G.lo (Nat.lt_trans lD hDN) p hp
      clear N10 m10 hk10
      have lW3 : @LT.lt Nat _ ND NW := lW1
      have hvl6 : vn.length ≤ 10 := by omega
      k_steps
      rename Fr _ _ _ _ => F12
      rename News _ _ _ _ => N12
      try rw [List.push_toArray] at N12
      refine EndT.next F12 (nx := (ND, _) :: (((NW, listOf (vs1 ++ [Value.str nm.str tn]).toArray 0) :: tl) ++ (D, listOf ws.toArray kw) :: cellsL L c5 c4 c3 c2 c1)) (cb_drop N12 (fun p hp => by
        rcases List.mem_cons.mp hp with rfl | hp
        · exact .tail _ (.tail _ (.head _))
        rcases List.mem_cons.mp hp with rfl | hp
        · exact .head _
        rcases List.mem_cons.mp hp with rfl | hp
        · exact .tail _ (.head _)
        · exact .tail _ (.tail _ (.tail _ hp)))) (fun p hp => by
        rcases List.mem_cons.mp hp with rfl | hp
        · exact hNI
        rcases List.mem_cons.mp hp with rfl | hp
        · exact Nat.ne_of_gt lW2
        · exact hI _ (.tail _ hp)) (fun p e => by cases e; exact .tail _ (.tail _ (List.mem_append_right _ (.head _)))) ⟨nodes ++ [nd ++ [nm]], (NW, listOf (vs1 ++ [Value.str nm.str tn]).toArray 0) :: tl, vn ++ [.ref NW], _, rfl, ⟨rfl, rfl, trivial⟩, ?d1, ?d2, closed_snoc hcl hnd1, List.mem_append_left _ h0, ?d3, ?d4, ?d5⟩
      case d1 =>
        have e : (nSS (nodes ++ [nd ++ [nm]])).map dS = (nSS nodes).map dS ++ [dS (nS (nd ++ [nm]))] := by simp [nSS]
        rw [e]
        exact (hd.mono fun p hp => .tail _ hp).append (.cons (.list (.head _) (hs2 _ fun p hp => .tail _ hp)) .nil)
      case d2 =>
        intro p hp
        rcases List.mem_cons.mp hp with rfl | hp
        · exact ⟨Nat.lt_trans lD (Nat.lt_trans hDN lW1), Nat.ne_of_gt lW1⟩
        · exact htl p hp
      case d3 =>
        rw [List.nodup_append]
        exact ⟨hnd, by simp, fun a ha b hb e => hin (by rw [← List.mem_singleton.mp hb, ← e]; exact ha)⟩
      case d4 =>
        rw [List.length_append, List.length_singleton]
        omega
      case d5 =>
        intro n hn
        rcases List.mem_append.mp hn with hn | hn
        · have := hdep n hn; omega
        · rw [List.mem_singleton.mp hn, List.length_append, List.length_singleton]
          omega
  case done =>
    intro m₁ nx h tk hJ94 hl F3 N3
    refine hide fun P9 hP9 => ?_
    obtain ⟨nodes, tl, vn, kn', rfl, hkn', hd, htl, hcl, h0, hnd, hlen, hdep⟩ := hJ94
    refine hP9 ?_
    clear P9 hP9
    have hwl : ws.length = ns.length := hws.length
    refine next nodes ((ND, listOf vn.toArray kn') :: tl) m₁ h tk ⟨hcl, h0, hnd, by omega, fun n hn => by have := hdep n hn; omega⟩ F3 (cb_drop N3 ?_) ?_ ⟨hkn'.2.1, trivial⟩ (.list (.head _) (hd.mono fun p hp => .tail _ hp))
    · intro p hp
      rcases List.mem_append.mp hp with hp | hp
      · exact .tail _ (List.mem_append_right _ (.tail _ hp))
      rcases List.mem_cons.mp hp with rfl | hp
      · exact .head _
      · exact .tail _ (List.mem_append_left _ hp)
    · intro p hp
      rcases List.mem_cons.mp hp with rfl | hp
      · exact Nat.lt_trans lD (Nat.lt_trans lE lN)
      · exact (htl p hp).1
end
section
set_option maxRecDepth 100000
set_option maxHeartbeats 8000000
local macro_rules | `(tactic| walk_at "call ref") => `(tactic| (k_here; refine halt ?_))
theorem news_cells {h₀ h : Heap} {L : Addr} {c5 c4 c3 c2 c1 : Obj} {X tl : Led} (N : News h₀ L h (X ++ cellsT L c5 c4 c3 c2 c1 tl)) : News h₀ L h (cellsT L c5 c4 c3 c2 c1 (X ++ tl)) := cb_drop N fun p hp => by
  have h1 : p ∈ cellsL L c5 c4 c3 c2 c1 ++ (X ++ tl) := hp
  show p ∈ X ++ (cellsL L c5 c4 c3 c2 c1 ++ tl)
  rcases List.mem_append.mp h1 with h | h
  · exact List.mem_append_right _ (List.mem_append_left _ h)
  rcases List.mem_append.mp h with h | h
  · exact List.mem_append_left _ h
  · exact List.mem_append_right _ (List.mem_append_right _ h)
theorem in_cells {L : Addr} {c5 c4 c3 c2 c1 : Obj} {tl : Led} {p : Addr × Obj} (hp : p ∈ tl) : p ∈ cellsT L c5 c4 c3 c2 c1 tl := .tail _ (.tail _ (.tail _ (.tail _ (.tail _ (.tail _ (.tail _ hp))))))
theorem nss_get {nodes : List Node} {i : Nat} {xs : List Str} (hxs : (nSS nodes)[i]? = some xs) : ∃ nd, nodes[i]? = some nd ∧ xs = nS nd := by
  rw [nSS, List.getElem?_map] at hxs
  cases e : nodes[i]? with
  | none => rw [e] at hxs; cases hxs
  | some nd => rw [e] at hxs; cases hxs; exact ⟨nd, rfl, rfl⟩
theorem news_cells2 {h₀ h : Heap} {L : Addr} {c5 c4 c3 c2 c1 : Obj} {X tl : Led} {q : Addr × Obj} (N : News h₀ L h (X ++ q :: cellsT L c5 c4 c3 c2 c1 tl)) : News h₀ L h (cellsT L c5 c4 c3 c2 c1 (q :: (X ++ tl))) := cb_drop N fun p hp => by
  have h1 : p ∈ cellsL L c5 c4 c3 c2 c1 ++ q :: (X ++ tl) := hp
  show p ∈ X ++ q :: (cellsL L c5 c4 c3 c2 c1 ++ tl)
  rcases List.mem_append.mp h1 with h | h
  · exact List.mem_append_right _ (.tail _ (List.mem_append_left _ h))
  rcases List.mem_cons.mp h with rfl | h
  · exact List.mem_append_right _ (.head _)
  rcases List.mem_append.mp h with h | h
  · exact List.mem_append_left _ h
  · exact List.mem_append_right _ (.tail _ (List.mem_append_right _ h))
theorem cellsT_c2 {L : Addr} {c5 c4 c3 c2 c2' c1 : Obj} {tl tl' : Led} {P : Addr → Prop} (h : ∀ p ∈ cellsT L c5 c4 c3 c2 c1 tl, P p.1) (h2 : ∀ p ∈ tl', P p.1) : ∀ p ∈ cellsT L c5 c4 c3 c2' c1 tl', P p.1 := by
  intro p hp
  simp only [cellsT, List.mem_cons] at hp
  rcases hp with rfl | rfl | rfl | rfl | rfl | rfl | rfl | hp
  · exact h _ (.head _)
  · exact h _ (.tail _ (.head _))
  · exact h _ (.tail _ (.tail _ (.head _)))
  · exact h (L + 1 + 1, c2) (.tail _ (.tail _ (.tail _ (.head _))))
  · exact h _ (.tail _ (.tail _ (.tail _ (.tail _ (.head _)))))
  · exact h _ (.tail _ (.tail _ (.tail _ (.tail _ (.tail _ (.head _))))))
  · exact h _ (.tail _ (.tail _ (.tail _ (.tail _ (.tail _ (.tail _ (.head _)))))))
  · exact h2 p hp
theorem take_not {α : Type} {l : List α} (hn : l.Nodup) {i : Nat} {x : α} (hx : l[i]? = some x) : x ∉ l.take i := by
  intro h
  obtain ⟨j, hj, e⟩ := List.mem_iff_getElem.mp h
  obtain ⟨hi, e2⟩ := List.getElem?_eq_some_iff.mp hx
  rw [List.length_take] at hj
  rw [List.getElem_take] at e
  exact List.pairwise_iff_getElem.mp hn j i (by omega) hi (by omega) (e.trans e2.symm)
theorem cells_news {h₀ h : Heap} {L : Addr} {c5 c4 c3 c2 c1 : Obj} {tl : Led} {q : Addr × Obj} (N : News h₀ L h (cellsT L c5 c4 c3 c2 c1 (q :: tl))) : News h₀ L h (q :: cellsT L c5 c4 c3 c2 c1 tl) := cb_drop N fun p hp => by
  show p ∈ cellsL L c5 c4 c3 c2 c1 ++ q :: tl
  rcases List.mem_cons.mp hp with rfl | hp
  · exact List.mem_append_right _ (.head _)
  have h1 : p ∈ cellsL L c5 c4 c3 c2 c1 ++ tl := hp
  rcases List.mem_append.mp h1 with h | h
  · exact List.mem_append_left _ h
  · exact List.mem_append_right _ (.tail _ h)
theorem ins_len (rows : List (List Str)) (t : List Str) : (insL rows t).length = rows.length + 1 := by
  have := congrArg List.length (List.take_append_drop (insK rows t rows.length) rows)
  rw [List.length_append] at this
  simp only [insL, List.length_append, List.length_cons, List.length_nil]
  omega
theorem nss_len (l : List Node) : (nSS l).length = l.length := by rw [nSS, List.length_map]
theorem PH5 {w : World} {mean : ExcName → Option Value} {mg mb : Str → Option Value} {h₀ : Heap} {L fa : Addr} {cd : Value} (G : LawG w mean mg mb h₀ L) {nodes : List Node} (hok : NodesOk nodes) {Q : Flow → Shared → Prop} {s : Shared} {m : Str → Option Value} {ND : Addr} {c5 c4 c3 c2 c1 : Obj} {tl : Led} {v2 : Option Value}
    (F : Fr h₀ L s.heap m) (N : News h₀ L s.heap (cellsT L c5 c4 c3 c2 c1 tl)) (hC : IsC c5 c4 c3 c2 c1) (htl : ∀ p ∈ tl, L + 1 + 1 + 1 + 1 + 1 < p.1) (hc2 : c2.data = .cell v2)
    (hkn : Kn m [(Str.ofString "nodes", .ref ND)]) (Dn : DatIn tl (.ref ND) (dLL (nSS nodes)))
    (next : ∀ lst tl' c2' LA m' h' tk', Sorted lst → (∀ x, x ∈ lst ↔ x ∈ nodes) → Fr h₀ L h' m' → News h₀ L h' (cellsT L c5 c4 c3 c2' c1 tl') → c2'.data = .cell (some (.ref LA)) → (∀ p ∈ tl', L + 1 + 1 + 1 + 1 + 1 < p.1) → Kn m' [(Str.ofString "nodes", .ref ND)] → DatIn tl' (.ref ND) (dLL (nSS nodes)) → DatIn tl' (.ref LA) (dLL (nSS lst)) →
      wpAny (model Challenge.rw_pd0179_01.prog w) (lawA L fa cd) (execs (lawBody.drop 7) (lawE L fa cd)) Q noE { s with heap := h', toks := tk' }) :
    wpAny (model Challenge.rw_pd0179_01.prog w) (lawA L fa cd) (execs (lawBody.drop 5) (lawE L fa cd)) Q noE s := by
  show wpAny _ (callerA.deeper (envOfC _ (Scope.mk _ _ _ _ _) _ _ _)) (execs (_ :: _ :: _) (envOfC _ (Scope.mk _ _ _ _ _) _ _ _)) _ _ _
  refine law_let ?_; intro Mk vk Ak hA1 hA2 hA3 hA4
  have X := G.X
  have T := G.T
  have B := G.B
  refine hide fun P9 hP9 => ?_
  obtain ⟨lo1, lo2⟩ := G.lo
  refine hP9 ?_
  clear P9 hP9
  have F1 := hkn.fr F
  dsimp only [kstB] at F1
  clear F
  revert X
  k_fill
  intro X
  have hn2 : ∀ p ∈ tl, p.1 ≠ L + 1 + 1 := fun p hp => Nat.ne_of_gt (Nat.lt_trans (Nat.lt_succ_of_lt (Nat.lt_succ_of_lt (Nat.lt_succ_self _))) (htl p hp))
  k_steps
  rename News _ _ _ _ => N1
  rename Fr _ _ _ _ => F2
  refine hide fun P9 hP9 => ?_
  obtain ⟨LA, eLA⟩ := head_a N1
  subst eLA
  obtain ⟨o2, eo2⟩ := fifth_o N1
  subst eo2
  rename Obj.data _ = Data.cell (some (Value.ref LA)) => hd2
  rename _ ∧ _ ∧ _ ∧ _ ∧ _ ∧ _ ∧ _ ∧ _ => ll
  cases Dn with | list hm hv => ?_
  refine hP9 ?_
  clear P9 hP9
  rename_i vn kn
  have NB := news_cells (X := [(LA, listOf ([] : List Value).toArray 0)]) N1
  dsimp only [List.singleton_append] at NB
  refine iter_listP (fun i m nx => ∃ lst tl' c2' LA', nx = cellsT L c5 c4 c3 c2' c1 tl' ∧ Kn m [(Str.ofString "nodes", .ref ND)] ∧ (∀ p ∈ tl', L + 1 + 1 + 1 + 1 + 1 < p.1) ∧ (∀ p ∈ tl, p ∈ tl') ∧ c2'.data = .cell (some (.ref LA')) ∧ DatIn tl' (.ref LA') (dLL (nSS lst)) ∧ Sorted lst ∧ (∀ x, x ∈ lst ↔ x ∈ nodes.take i) ∧ lst.length ≤ i) rfl (in_cells (.tail _ hm)) F2 NB (fun _ _ _ _ _ => go_name) ⟨[], _, o2, LA, rfl, ⟨rfl, trivial⟩, ?s1, fun p hp => .tail _ hp, hd2, .list (.head _) .nil, ?s2, ?s3, Nat.le_refl _⟩ ?turn ?done
  case s1 =>
    intro p hp
    rcases List.mem_cons.mp hp with rfl | hp
    · exact ll.1
    · exact htl p hp
  case s2 => exact .nil
  case s3 => intro x; simp
  case turn =>
    intro I i v m₁ nx h tk oI hoI hltI hv1 hJ101 hI hl F3 N3
    refine hide fun P9 hP9 => ?_
    obtain ⟨lst, tl', c2', LA', rfl, hkn', htl', hsub, hc2', DL, hso, hmem, hlen⟩ := hJ101
    clear F2 N1 NB hkn
    obtain ⟨xs, hxs, Dv⟩ := row_get hv hv1
    obtain ⟨nd, hnd, rfl⟩ := nss_get hxs
    obtain ⟨a1, rfl⟩ := dat_ref Dv
    refine hP9 ?_
    clear P9 hP9
    have hi6 : i < 6 := by
      have := (List.getElem?_eq_some_iff.mp hnd).1
      have := hok.2.2.2.1
      omega
    have F4 := hkn'.fr F3
    dsimp only [kstB] at F4
    clear F3
    k_steps
    refine Halt.go ?_
    rename News _ _ _ _ => N5
    rename Fr _ _ _ _ => F5
    have hnot : nd ∉ lst := fun q => take_not hok.2.2.1 hnd ((hmem nd).mp q)
    have D1 := dat_at N5 DL (fun p hp => .tail _ (in_cells hp))
    have D2 := dat_at N5 Dv (fun p hp => .tail _ (in_cells (hsub p hp)))
    have hl100 : (nSS lst).length ≤ 100 := by rw [nSS, List.length_map]; omega
    tbr_iter (ins_DT w mean mg mb (nSS lst) (nS nd))
    rename_i r9 tl9 h9 tk9 F9 N9 hl9 hs9 ho9
    clear D1 D2
    refine hide fun P9 hP9 => ?_
    obtain ⟨a9, rfl⟩ := dat_ref ho9
    obtain ⟨k9, ek9, hks, hkm⟩ := ins_spec lst nd hso hnot
    rw [ek9] at ho9
    have hlI : @LT.lt Nat _ (L + 1 + 1 + 1 + 1 + 1) I := hltI _ (.head _)
    have N10 := news_cells2 N9
    have hn9 : ∀ p ∈ tl9, I < p.1 ∧ @LT.lt Nat _ (L + 1 + 1 + 1 + 1 + 1) p.1 := fun p hp => ⟨hl9 p hp (I, oI) (.head _), hl9 p hp (_, c5) (.tail _ (.head _))⟩
    have hn2' : ∀ p ∈ (I, oI) :: (tl9 ++ tl'), p.1 ≠ L + 1 + 1 := fun p hp => by
      rcases List.mem_cons.mp hp with rfl | hp
      · show @Ne Nat I (L + 1 + 1); omega
      show @Ne Nat p.1 (L + 1 + 1)
      rcases List.mem_append.mp hp with hp | hp
      · have := (hn9 p hp).2; omega
      · have : @LT.lt Nat _ (L + 1 + 1 + 1 + 1 + 1) p.1 := htl' p hp
        omega
    obtain ⟨TL, hTL⟩ : ∃ TL, TL = (I, oI) :: (tl9 ++ tl') := ⟨_, rfl⟩
    refine hP9 ?_
    clear P9 hP9
    rw [← hTL] at N10 hn2'
    clear N9 N5 F5 N3
    k_steps
    rename Fr _ _ _ _ => F11
    rename News _ _ _ _ => N11
    refine hide fun P9 hP9 => ?_
    obtain ⟨o2, eo2⟩ := fourth_o N11
    subst eo2
    rename Obj.data _ = Data.cell (some (Value.ref a9)) => hd9
    subst hTL
    refine hP9 ?_
    clear P9 hP9
    refine EndT.next F11 (nx := cellsT L c5 c4 c3 o2 c1 (tl9 ++ tl')) (cells_news N11) (cellsT_c2 (P := fun a => a ≠ I) hI ?_) (fun p e => by cases e; exact in_cells (List.mem_append_right _ (hsub _ hm))) ⟨k9, tl9 ++ tl', o2, a9, rfl, ⟨rfl, trivial⟩, ?d1, fun p hp => List.mem_append_right _ (hsub p hp), hd9, ?d2, hks, ?d3, ?d4⟩
    · intro p hp
      rcases List.mem_append.mp hp with hp | hp
      · exact Nat.ne_of_gt (hn9 p hp).1
      · exact hI p (in_cells hp)
    case d1 =>
      intro p hp
      rcases List.mem_append.mp hp with hp | hp
      · exact (hn9 p hp).2
      · exact htl' p hp
    case d2 => exact DatIn.drop (fun p hp => by
        rcases List.mem_append.mp hp with hp | hp
        · exact .inl (List.mem_append_left _ hp)
        rcases List.mem_cons.mp hp with rfl | hp
        · exact .inr (noSeq_li hoI)
        exact cells_drop ⟨hC.h5, hC.h4, hC.h3, noSeq_cell hc2', hC.h1⟩ (fun p hp => .inl (List.mem_append_right _ hp)) p hp) ho9
    case d3 =>
      intro x
      rw [hkm, hmem, List.take_add_one, hnd, List.mem_append, Option.toList_some, List.mem_singleton]
      exact or_comm
    case d4 =>
      have e := ins_len (nSS lst) (nS nd)
      rw [ek9, nss_len, nss_len] at e
      omega
  case done =>
    intro m₁ nx h tk hJ94 hl F3 N3
    refine hide fun P9 hP9 => ?_
    obtain ⟨lst, tl', c2', LA', rfl, hkn', htl', hsub, hc2', DL, hso, hmem, hlen⟩ := hJ94
    refine hP9 ?_
    clear P9 hP9
    have hwl : vn.length = nodes.length := by have := hv.length; simpa [nSS] using this
    rw [hwl, List.take_length] at hmem
    exact next lst tl' c2' LA' m₁ h tk hso hmem F3 N3 hc2' htl' hkn' (.list (hsub _ hm) (hv.mono hsub)) DL
end
section
set_option maxRecDepth 100000
set_option maxHeartbeats 8000000
section
open Classical
variable {prog : Program} {w : World} {A : Around} {E : Value → Shared → Prop} {s : Shared} {h₀ : Heap} {L a b : Addr} {news : Led} {Q : Value → Shared → Prop} {ds : List Dat}
theorem ne_same (N : News h₀ L s.heap news) (Da : DatIn news (.ref a) (.list ds)) (Db : DatIn news (.ref b) (.list ds)) (ok : ∀ d ∈ ds, kqdOk 8 d = true) (hu : A.units + 64 < cLine) (h : Q (.bool false) s) : wpAny (model prog w) A (compareOp .NotEq (.ref a) (.ref b)) Q E s := by
  cases Da with
  | list hm hv =>
    cases Db with
    | list hm' hv' =>
      refine kqd_ne N hm rfl rfl hv (fun _ h => h) hm' rfl rfl hv' (fun _ h => h) ok ok hu ?_
      rw [decide_eq_true rfl]
      exact h
theorem eq_same (N : News h₀ L s.heap news) (Da : DatIn news (.ref a) (.list ds)) (Db : DatIn news (.ref b) (.list ds)) (ok : ∀ d ∈ ds, kqdOk 8 d = true) (hu : A.units + 64 < cLine) (h : Q (.bool true) s) : wpAny (model prog w) A (compareOp .Eq (.ref a) (.ref b)) Q E s := by
  cases Da with
  | list hm hv =>
    cases Db with
    | list hm' hv' =>
      refine kqd_eq N hm rfl rfl hv (fun _ h => h) hm' rfl rfl hv' (fun _ h => h) ok ok hu ?_
      rw [decide_eq_true rfl]
      exact h
end
theorem ok_nSS (l : List Node) : ∀ d ∈ (nSS l).map dS, kqdOk 8 d = true := by
  intro d hd
  obtain ⟨xs, h1, rfl⟩ := List.mem_map.mp hd
  obtain ⟨k, h3, rfl⟩ := List.mem_map.mp h1
  exact ok_nS k
local macro_rules | `(tactic| walk_at "call ref") => `(tactic| (k_here; refine halt ?_))
local macro_rules | `(tactic| walk_at "compareOp NotEq ref ref") => `(tactic| (k_here; refine halt ?_))
theorem PH7 {w : World} {mean : ExcName → Option Value} {mg mb : Str → Option Value} {h₀ : Heap} {L fa : Addr} {cd : Value} (G : LawG w mean mg mb h₀ L) {nodes lst : List Node} (hok : NodesOk nodes) (hso : Sorted lst) (hmem : ∀ x, x ∈ lst ↔ x ∈ nodes) {Q : Flow → Shared → Prop} {s : Shared} {m : Str → Option Value} {ND LA : Addr} {c5 c4 c3 c2 c1 : Obj} {tl : Led}
    (F : Fr h₀ L s.heap m) (N : News h₀ L s.heap (cellsT L c5 c4 c3 c2 c1 tl)) (hC : IsC c5 c4 c3 c2 c1) (htl : ∀ p ∈ tl, L + 1 + 1 + 1 + 1 + 1 < p.1) (hc2 : c2.data = .cell (some (.ref LA)))
    (hkn : Kn m [(Str.ofString "nodes", .ref ND)]) (Dn : DatIn tl (.ref ND) (dLL (nSS nodes))) (Dl : DatIn tl (.ref LA) (dLL (nSS lst)))
    (next : ∀ tl' m' h' tk', Fr h₀ L h' m' → News h₀ L h' (cellsT L c5 c4 c3 c2 c1 tl') → (∀ p ∈ tl', L + 1 + 1 + 1 + 1 + 1 < p.1) → DatIn tl' (.ref LA) (dLL (nSS lst)) →
      wpAny (model Challenge.rw_pd0179_01.prog w) (lawA L fa cd) (execs (lawBody.drop 8) (lawE L fa cd)) Q noE { s with heap := h', toks := tk' }) :
    wpAny (model Challenge.rw_pd0179_01.prog w) (lawA L fa cd) (execs (lawBody.drop 7) (lawE L fa cd)) Q noE s := by
  show wpAny _ (callerA.deeper (envOfC _ (Scope.mk _ _ _ _ _) _ _ _)) (execs (_ :: List.drop 8 lawBody) (envOfC _ (Scope.mk _ _ _ _ _) _ _ _)) _ _ _
  refine law_let ?_; intro Mk vk Ak hA1 hA2 hA3 hA4
  generalize List.drop 8 lawBody = rest at next ⊢
  have X := G.X
  have T := G.T
  have B := G.B
  refine hide fun P9 hP9 => ?_
  obtain ⟨lo1, lo2⟩ := G.lo
  refine hP9 ?_
  clear P9 hP9
  have F1 := hkn.fr F
  dsimp only [kstB] at F1
  clear F
  revert X
  k_fill
  intro X
  k_steps
  refine Halt.go ?_
  rename News _ _ _ _ => N1
  rename Fr _ _ _ _ => F2
  refine hide fun P9 hP9 => ?_
  obtain ⟨E0, eE0⟩ := head_a N1
  subst eE0
  refine hP9 ?_
  clear P9 hP9
  rename E0 > _ ∧ _ => ll
  have D1 := dat_at N1 Dn (fun p hp => .tail _ (in_cells hp))
  have D2 : DatIn ((E0, listOf ([] : List Value).toArray 0) :: cellsT L c5 c4 c3 c2 c1 tl) (.ref E0) (dS (nS [])) := .list (.head _) .nil
  tbr_iter (walk_DT w mean mg mb nodes 5 hok.2.2.2.2 5 [] (by omega) (by simp) (by simp))
  rename_i r9 tl9 h9 tk9 F9 N9 hl9 hs9 ho9
  clear D1 D2
  refine hide fun P9 hP9 => ?_
  obtain ⟨a9, rfl⟩ := dat_ref ho9
  refine hP9 ?_
  clear P9 hP9
  rw [← walk_is hok.1 hok.2.1 5 hok.2.2.2.2 hso hmem] at ho9
  clear N1 F2
  k_steps
  refine Halt.go ?_
  rename News _ _ _ _ => N2
  refine ne_same N2 (dat_at N2 Dl (fun p hp => List.mem_append_right _ (.tail _ (in_cells hp)))) ho9 (ok_nSS lst) (by ((try simp only [units_in1, units_deeper, Around.mark_units, units_caller]); omega)) ?_
  k_steps
  rename News _ _ _ _ => N3
  rename Fr _ _ _ _ => F3

  refine next ((E0, listOf ([] : List Value).toArray 0) :: (tl9 ++ tl)) _ _ _ F3 (news_cells2 N3) ?_ (Dl.mono fun p hp => .tail _ (List.mem_append_right _ hp))
  intro p hp
  rcases List.mem_cons.mp hp with rfl | hp
  · exact ll.1
  rcases List.mem_append.mp hp with hp | hp
  · exact hl9 p hp (_, c5) (.tail _ (.head _))
  · exact htl p hp
end
section
set_option maxRecDepth 100000
set_option maxHeartbeats 8000000
local macro_rules | `(tactic| walk_at "binaryOp Mult ref int") => `(tactic| (k_here; refine halt ?_))
local macro_rules | `(tactic| walk_at "call ref") => `(tactic| (k_here; refine halt ?_))
local macro_rules | `(tactic| walk_at "compareOp NotEq ref ref") => `(tactic| (k_here; refine halt ?_))
theorem dat_rep {l : Led} (x : Int) (t : Tok) : ∀ n, DatAll l (List.replicate n [Value.int x t]).flatten (List.replicate n (Dat.int x))
  | 0 => .nil
  | n + 1 => by
    rw [List.replicate_succ, List.replicate_succ, List.flatten_cons]
    exact .cons (.int _ _) (dat_rep x t n)
theorem rep_out {h₀ h : Heap} {L D : Addr} {x : Int} {t : Tok} {n k : Nat} {l : Led} (N : News h₀ L h ((D, listOf (List.replicate n [Value.int x t]).flatten.toArray k) :: l)) : ∃ ws, News h₀ L h ((D, listOf ws.toArray k) :: l) ∧ ws.length = n ∧ ∀ tl, DatAll tl ws (List.replicate n (.int x)) :=
  ⟨_, N, by simpa using (dat_rep (l := l) x t n).length, fun tl => dat_rep x t n⟩
theorem cmp_row {lst : List Node} (hs : Sorted lst) (i : Nat) (hi : i < lst.length) : lst.map (fun n => Dat.int (cmpL (nS lst[i]) (nS n))) = List.replicate i (.int 1) ++ [.int 0] ++ List.replicate (lst.length - 1 - i) (.int (-1)) := by
  have hord := fun i j (hi : i < lst.length) (hj : j < lst.length) (h : i < j) => List.pairwise_iff_getElem.mp hs i j hi hj h
  refine List.ext_getElem (by simp; omega) fun j h1 h2 => ?_
  rw [List.length_map] at h1
  rw [List.getElem_map]
  rcases Nat.lt_trichotomy j i with h | h | h
  · rw [List.getElem_append_left (by simp; omega), List.getElem_append_left (by simp; omega), List.getElem_replicate]
    exact congrArg Dat.int (cmp_gt (hord j i h1 hi h))
  · subst h
    rw [List.getElem_append_left (by simp), List.getElem_append_right (by simp)]
    simp only [List.length_replicate, Nat.sub_self, List.getElem_cons_zero]
    exact congrArg Dat.int (cmp_eq _)
  · rw [List.getElem_append_right (by simp; omega), List.getElem_replicate]
    exact congrArg Dat.int (cmp_lt (hord i j hi h1 h))
theorem ok_row (i k : Nat) : ∀ d ∈ List.replicate i (Dat.int 1) ++ [.int 0] ++ List.replicate k (.int (-1)), kqdOk 8 d = true := by
  intro d hd
  rcases List.mem_append.mp hd with hd | hd
  · rcases List.mem_append.mp hd with hd | hd
    · rw [(List.mem_replicate.mp hd).2]; rfl
    · rw [List.mem_singleton.mp hd]; rfl
  · rw [(List.mem_replicate.mp hd).2]; rfl
theorem row_at {h₀ h : Heap} {L D : Addr} {w1 w2 : List Value} {t : Tok} {n i k : Nat} {l : Led} (_ : News h₀ L h ((D, listOf (w1 ++ [Value.int 0 t] ++ w2).toArray n) :: l)) (h1 : ∀ tl, DatAll tl w1 (List.replicate i (.int 1))) (h2 : ∀ tl, DatAll tl w2 (List.replicate k (.int (-1)))) :
    DatIn ((D, listOf (w1 ++ [Value.int 0 t] ++ w2).toArray n) :: l) (.ref D) (.list (List.replicate i (.int 1) ++ [.int 0] ++ List.replicate k (.int (-1)))) := .list (.head _) (((h1 _).append (.cons (.int _ _) .nil)).append (h2 _))
theorem cells_mono {L : Addr} {c5 c4 c3 c2 c1 : Obj} {tl tl' : Led} (h : ∀ p ∈ tl, p ∈ tl') : ∀ p ∈ cellsT L c5 c4 c3 c2 c1 tl, p ∈ cellsT L c5 c4 c3 c2 c1 tl' := fun p hp => by
  have h1 : p ∈ cellsL L c5 c4 c3 c2 c1 ++ tl := hp
  show p ∈ cellsL L c5 c4 c3 c2 c1 ++ tl'
  rcases List.mem_append.mp h1 with h2 | h2
  · exact List.mem_append_left _ h2
  · exact List.mem_append_right _ (h p h2)
theorem cells_adr {L : Addr} {a5 a4 a3 a2 a1 c5 c4 c3 c2 c1 : Obj} {tl tl' : Led} {P : Addr → Prop} (h : ∀ p ∈ cellsT L a5 a4 a3 a2 a1 tl, P p.1) (h2 : ∀ p ∈ tl', P p.1) : ∀ p ∈ cellsT L c5 c4 c3 c2 c1 tl', P p.1 := by
  intro p hp
  simp only [cellsT, List.mem_cons] at hp
  rcases hp with rfl | rfl | rfl | rfl | rfl | rfl | rfl | hp
  · exact h (_, a5) (.head _)
  · exact h (_, a4) (.tail _ (.head _))
  · exact h (_, a3) (.tail _ (.tail _ (.head _)))
  · exact h (_, a2) (.tail _ (.tail _ (.tail _ (.head _))))
  · exact h (_, a1) (.tail _ (.tail _ (.tail _ (.tail _ (.head _)))))
  · exact h _ (.tail _ (.tail _ (.tail _ (.tail _ (.tail _ (.head _))))))
  · exact h _ (.tail _ (.tail _ (.tail _ (.tail _ (.tail _ (.tail _ (.head _)))))))
  · exact h2 p hp
theorem third_o {h₀ h : Heap} {L : Addr} {r t : Addr × Obj} {a : Addr} {o : Obj} {l : Led} (_ : News h₀ L h (r :: t :: (a, o) :: l)) : ∃ o', o' = o := ⟨_, rfl⟩
theorem PH8 {w : World} {mean : ExcName → Option Value} {mg mb : Str → Option Value} {h₀ : Heap} {L fa : Addr} {cd : Value} (G : LawG w mean mg mb h₀ L) {lst : List Node} (hlen : lst.length ≤ 6) (hso : Sorted lst) {Q : Flow → Shared → Prop} {s : Shared} {m : Str → Option Value} {LA : Addr} {c5 c4 c3 c2 c1 : Obj} {tl : Led} {v3 : Option Value}
    (F : Fr h₀ L s.heap m) (N : News h₀ L s.heap (cellsT L c5 c4 c3 c2 c1 tl)) (hC : IsC c5 c4 c3 c2 c1) (htl : ∀ p ∈ tl, L + 1 + 1 + 1 + 1 + 1 < p.1) (hc2 : c2.data = .cell (some (.ref LA))) (hc3 : c3.data = .cell v3)
    (Dl : DatIn tl (.ref LA) (dLL (nSS lst)))
    (next : ∀ c3' v3' tl' m' h' tk', c3'.data = .cell v3' → Fr h₀ L h' m' → News h₀ L h' (cellsT L c5 c4 c3' c2 c1 tl') → (∀ p ∈ tl', L + 1 + 1 + 1 + 1 + 1 < p.1) → DatIn tl' (.ref LA) (dLL (nSS lst)) →
      wpAny (model Challenge.rw_pd0179_01.prog w) (lawA L fa cd) (execs (lawBody.drop 9) (lawE L fa cd)) Q noE { s with heap := h', toks := tk' }) :
    wpAny (model Challenge.rw_pd0179_01.prog w) (lawA L fa cd) (execs (lawBody.drop 8) (lawE L fa cd)) Q noE s := by
  show wpAny _ (callerA.deeper (envOfC _ (Scope.mk _ _ _ _ _) _ _ _)) (execs (_ :: List.drop 9 lawBody) (envOfC _ (Scope.mk _ _ _ _ _) _ _ _)) _ _ _
  refine law_let ?_; intro Mk vk Ak hA1 hA2 hA3 hA4
  generalize List.drop 9 lawBody = rest at next ⊢
  have X := G.X
  have T := G.T
  have B := G.B
  refine hide fun P9 hP9 => ?_
  obtain ⟨lo1, lo2⟩ := G.lo
  cases Dl with | list hm hv => ?_
  refine hP9 ?_
  clear P9 hP9
  rename_i vl nl
  have hvl : vl.length = lst.length := by have := hv.length; simpa [nSS] using this
  have hvl6 : vl.length ≤ 6 := by omega
  have N0 := news_dup N (in_cells hm)
  clear N
  revert X
  k_fill
  intro X
  k_steps
  rename News _ _ _ _ => N1
  rename Fr _ _ _ _ => F2
  rename IsRange _ _ _ _ _ _ _ _ => R1
  have N2 : News _ _ _ (cellsT L c5 c4 c3 c2 c1 tl) := cb_drop N1 (fun p hp => .tail _ hp)
  clear N1
  refine iter_rangeP (n := vl.length) (fun i m nx => ∃ c3' v3' tl', nx = cellsT L c5 c4 c3' c2 c1 tl' ∧ c3'.data = .cell v3' ∧ (∀ p ∈ tl', L + 1 + 1 + 1 + 1 + 1 < p.1) ∧ (∀ p ∈ tl, p ∈ tl')) rfl R1 (range_small _ (by omega)) (range_size _) F2 N2 (fun _ _ _ _ h => go_name) ⟨c3, v3, tl, rfl, hc3, htl, fun p hp => hp⟩ ?turn ?done
  case done =>
    intro m₁ nx h tk hJ94 F3 N3
    refine hide fun P9 hP9 => ?_
    obtain ⟨c3', v3', tl', rfl, hc3', htl', hsub⟩ := hJ94
    refine hP9 ?_
    clear P9 hP9
    exact next c3' v3' tl' m₁ h tk hc3' F3 N3 htl' (.list (hsub _ hm) (hv.mono hsub))
  case turn =>
    intro I i ti m₁ nx h tk oI hoI hltI hi hJ101 hI F3 N3
    refine hide fun P9 hP9 => ?_
    obtain ⟨c3', v3', tl', rfl, hc3', htl', hsub⟩ := hJ101
    refine hP9 ?_
    clear P9 hP9
    have hlI : @LT.lt Nat _ (L + 1 + 1 + 1 + 1 + 1) I := hltI _ (.head _)
    have N4 : News _ _ _ (cellsT L c5 c4 c3' c2 c1 ((LA, listOf vl.toArray nl) :: (I, oI) :: tl')) := news_cells (X := [(LA, listOf vl.toArray nl), (I, oI)]) (news_dup N3 (.tail _ (in_cells (hsub _ hm))))
    have hn3 : ∀ p ∈ (LA, listOf vl.toArray nl) :: (I, oI) :: tl', p.1 ≠ L + 1 + 1 + 1 := fun p hp => by
      show @Ne Nat p.1 (L + 1 + 1 + 1)
      rcases List.mem_cons.mp hp with rfl | hp
      · have : @LT.lt Nat _ (L + 1 + 1 + 1 + 1 + 1) LA := htl _ hm
        show @Ne Nat LA (L + 1 + 1 + 1); omega
      rcases List.mem_cons.mp hp with rfl | hp
      · show @Ne Nat I (L + 1 + 1 + 1); omega
      · have : @LT.lt Nat _ (L + 1 + 1 + 1 + 1 + 1) p.1 := htl' p hp
        omega
    have l1 : @Ne Nat LA (L + 1 + 1 + 1) := hn3 _ (.head _)
    have l2 : @Ne Nat I (L + 1 + 1 + 1) := hn3 _ (.tail _ (.head _))
    have l3 : ∀ p ∈ tl', p.1 ≠ L + 1 + 1 + 1 := fun p hp => hn3 _ (.tail _ (.tail _ hp))
    clear N2 F2 N3 R1
    k_steps
    rename News _ _ _ _ => N5
    rename Fr _ _ _ _ => F5
    refine hide fun P9 hP9 => ?_
    obtain ⟨o3, eo3⟩ := third_o N5
    subst eo3
    rename Obj.data _ = Data.cell (some (Value.int _ ti)) => hk3
    rw [Int.zero_add] at hk3
    obtain ⟨vi, hvi, Dvi⟩ := hv.get (k := i) (by simp [nSS]; omega)
    rw [List.getElem_map] at Dvi
    simp only [nSS, List.getElem_map] at Dvi
    obtain ⟨ai, rfl⟩ := dat_ref Dvi
    refine hP9 ?_
    clear P9 hP9
    have hil : i < lst.length := by omega
    refine LCg.CompSrc.ledger (its := vl.toArray) (k := nl) rfl F5 N5 (in_cells (.head _)) (by rw [sizeLine_eq]; simp; omega) ?_
    intro gg
    refine comp_dat (lst.map fun n => .int (cmpL (nS lst[i]) (nS n))) (by simp; omega) ?turn1 ?fin1
    case turn1 =>
      intro j ys nx v I2 oI2 C oC D m₂ h tk E' d hd hsb hds hP hC2 hx' F N off ne
      clear F5 N5
      have hvj : vl[j]? = some v := by simpa using hP
      refine hide fun P9 hP9 => ?_
      obtain ⟨xs, hxs, Dv⟩ := row_get hv hvj
      obtain ⟨nd, hnd, rfl⟩ := nss_get hxs
      obtain ⟨aj, rfl⟩ := dat_ref Dv
      obtain rfl : d = .int (cmpL (nS lst[i]) (nS nd)) := by rw [List.getElem?_map, hnd] at hd; exact (Option.some.inj hd).symm
      refine hP9 ?_
      clear P9 hP9
      have N2 := news_dup (news_dup (news_dup N (.tail _ (.tail _ (.tail _ (hsb _ (.tail _ (.tail _ (.head _)))))))) (.tail _ (.tail _ (.tail _ (.tail _ (hsb _ (.tail _ (.tail _ (.tail _ (.head _))))))))))
        (.tail _ (.tail _ (.tail _ (.tail _ (.tail _ (hsb _ (in_cells (.head _))))))))
      clear N
      k_steps
      refine Halt.go ?_
      have hin : ∀ p ∈ tl, p ∈ nx := fun p hp => hsb _ (in_cells (.tail _ (.tail _ (hsub _ hp))))
      have D1 := dat_at N2 Dvi (fun p hp => .tail _ (.tail _ (.tail _ (.tail _ (.tail _ (.tail _ (hin p hp)))))))
      have D2 := dat_at N2 Dv (fun p hp => .tail _ (.tail _ (.tail _ (.tail _ (.tail _ (.tail _ (hin p hp)))))))
      tbr_iter (cmp_DT w mean mg mb (nS lst[i]) (nS nd))
      rename_i r9 tl9 h9 tk9 F9 N9 hl9 hs9 ho9
      refine hide fun P9 hP9 => ?_
      obtain ⟨t9, rfl⟩ : ∃ t, r9 = .int (cmpL (nS lst[i]) (nS nd)) t := by cases ho9; exact ⟨_, rfl⟩
      refine hP9 ?_
      clear P9 hP9
      clear D1 D2 N2
      k_steps
      refine cend_flat F9 N9 (fun p hp => List.mem_append_right _ (.tail _ (.tail _ (.tail _ hp)))) off (.inr ⟨_, hsb _ (in_cells (.head _)), rfl, _, rfl⟩) hsb hds hd (.int _ _)
    case fin1 =>
      intro ys nx hsb hds
      unfold LCg.FinE
      intro D5 h5 tk5 F6 N6 o5
      clear F5 o5
      have N7 := news_dup (news_dup (news_dup N6 (.tail _ (hsb _ (.tail _ (.tail _ (.head _)))))) (.tail _ (.tail _ (hsb _ (.tail _ (.tail _ (.tail _ (.head _))))))))
        (.tail _ (.tail _ (.tail _ (hsb _ (in_cells (.head _))))))
      clear N5 N6
      k_steps
      refine Halt.go ?_
      rename News _ _ _ _ => N8
      rename Fr _ _ _ _ => F8
      refine KMa.mul F8 N8 (isL N8 (List.Mem.head _)) (by omega) (by omega) (by simp; omega) rfl ?_
      intro B1 h8 F10 N10 lB1
      refine hide fun P9 hP9 => ?_
      obtain ⟨w1, N11, hwl1, Dw1⟩ := rep_out N10
      refine hP9 ?_
      clear P9 hP9
      rw [Int.toNat_natCast] at hwl1
      simp only [Int.toNat_natCast] at Dw1
      clear N8 N10 F8
      k_steps
      refine Halt.go ?_
      rename News _ _ _ _ => N12
      rename Fr _ _ _ _ => F12
      refine KMa.mul F12 N12 (isL N12 (List.Mem.head _)) (by omega) (by omega) (by simp; omega) rfl ?_
      intro B2 h9 F13 N13 lB2
      refine hide fun P9 hP9 => ?_
      obtain ⟨w2, N14, hwl2, Dw2⟩ := rep_out N13
      refine hP9 ?_
      clear P9 hP9
      have e2 : ((vl.length : Int) - 1 - (i : Int)).toNat = lst.length - 1 - i := by omega
      rw [e2] at hwl2
      simp only [e2] at Dw2
      clear N12 N13 F12
      (try dsimp only)
      walk1
      rename News _ _ _ _ => N15
      rename Fr _ _ _ _ => F15
      rw [cmp_row hso i hil] at hds
      refine ne_same N15 (.list (by tb_src) (hds.mono ?_)) (row_at N15 Dw1 Dw2) (ok_row _ _) (by ((try simp only [units_in1, units_deeper, Around.mark_units, units_caller]); omega)) ?_
      · intro p hp; repeat (first | exact hp | apply List.Mem.tail)
      k_steps
      rename News _ _ _ _ => N16
      rename Fr _ _ _ _ => F16
      refine EndT.next F16 (nx := cellsT L c5 c4 o3 c2 c1 tl') (cb_drop N16 ?_) ?_ (fun p e => by cases e) ⟨o3, _, tl', rfl, hk3, htl', hsub⟩
      · intro p hp
        have hnx : p ∈ nx := by
          rcases List.mem_cons.mp hp with rfl | hp
          · exact hsb _ (in_cells (.tail _ (.head _)))
          · exact hsb _ (cells_mono (fun p hp => .tail _ (.tail _ hp)) p hp)
        repeat (first | exact hnx | apply List.Mem.tail)
      · exact cells_adr (P := fun a => a ≠ I) hI (fun p hp => hI p (in_cells hp))
end
section
set_option maxRecDepth 100000
set_option maxHeartbeats 8000000
local macro_rules | `(tactic| walk_at "call ref") => `(tactic| (k_here; refine halt ?_))
theorem strs_of {l : Led} {vs : List Value} {xs : List Str} (h : DatAll l vs (xs.map Dat.str)) : StrsAre vs xs := dat_are h
/-- apart from the cells that are written later -/
def Apt (L a : Addr) : Prop := (@Ne Nat a (L + 1 + 1 + 1)) ∧ (@Ne Nat a (L + 1 + 1 + 1 + 1)) ∧ (@Ne Nat a (L + 1 + 1 + 1 + 1 + 1))
theorem Apt.gt {L a : Addr} (h : L + 1 + 1 + 1 + 1 + 1 < a) : Apt L a := by
  have h1 : @LT.lt Nat _ (L + 1 + 1 + 1 + 1 + 1) a := h
  refine ⟨?_, ?_, ?_⟩
  · show @Ne Nat a (L + 1 + 1 + 1); omega
  · show @Ne Nat a (L + 1 + 1 + 1 + 1); omega
  · show @Ne Nat a (L + 1 + 1 + 1 + 1 + 1); omega
theorem off1_mem {D : Addr} : ∀ {l : Led} {p : Addr × Obj}, LCg.Off1 D l → p ∈ l → @Ne Nat D p.1
  | _, _, o, .head _ => Ne.symm o.1
  | _, _, o, .tail _ h => off1_mem o.2 h
theorem Apt.off {L D : Addr} {c5 c4 c3 c2 c1 : Obj} {tl nx : Led} (o : LCg.Off1 D nx) (h : ∀ p ∈ cellsT L c5 c4 c3 c2 c1 tl, p ∈ nx) : Apt L D :=
  ⟨off1_mem o (h _ (.tail _ (.tail _ (.head _)))), off1_mem o (h _ (.tail _ (.head _))), off1_mem o (h _ (.head _))⟩
theorem second_o {h₀ h : Heap} {L : Addr} {t : Addr × Obj} {a : Addr} {o : Obj} {l : Led} (_ : News h₀ L h (t :: (a, o) :: l)) : ∃ o', o' = o := ⟨_, rfl⟩
theorem first_o {h₀ h : Heap} {L : Addr} {a : Addr} {o : Obj} {l : Led} (_ : News h₀ L h ((a, o) :: l)) : ∃ o', o' = o := ⟨_, rfl⟩
theorem PH9 {w : World} {mean : ExcName → Option Value} {mg mb : Str → Option Value} {h₀ : Heap} {L fa : Addr} {cd : Value} (G : LawG w mean mg mb h₀ L) {b : Bool} {lst : List Node} (hlen : lst.length ≤ 6) (hdep : ∀ n ∈ lst, n.length ≤ 5) {Q : Flow → Shared → Prop} {s : Shared} {m : Str → Option Value} {LA : Addr} {c5 c4 c3 c2 c1 : Obj} {tl : Led} {v4 : Option Value} {t1 : Tok}
    (F : Fr h₀ L s.heap m) (N : News h₀ L s.heap (cellsT L c5 c4 c3 c2 c1 tl)) (hC : IsC c5 c4 c3 c2 c1) (htl : ∀ p ∈ tl, Apt L p.1) (hc2 : c2.data = .cell (some (.ref LA))) (hc1 : c1.data = .cell (some (.str (topS b) t1))) (hc4 : c4.data = .cell v4)
    (Dl : DatIn tl (.ref LA) (dLL (nSS lst)))
    (next : ∀ c4' PA tl' m' h' tk', c4'.data = .cell (some (.ref PA)) → Fr h₀ L h' m' → News h₀ L h' (cellsT L c5 c4' c3 c2 c1 tl') → (∀ p ∈ tl', Apt L p.1) → DatIn tl' (.ref LA) (dLL (nSS lst)) → DatIn tl' (.ref PA) (dS (lst.map (pathS b))) →
      wpAny (model Challenge.rw_pd0179_01.prog w) (lawA L fa cd) (execs (lawBody.drop 10) (lawE L fa cd)) Q noE { s with heap := h', toks := tk' }) :
    wpAny (model Challenge.rw_pd0179_01.prog w) (lawA L fa cd) (execs (lawBody.drop 9) (lawE L fa cd)) Q noE s := by
  show wpAny _ (callerA.deeper (envOfC _ (Scope.mk _ _ _ _ _) _ _ _)) (execs (_ :: List.drop 10 lawBody) (envOfC _ (Scope.mk _ _ _ _ _) _ _ _)) _ _ _
  refine law_let ?_; intro Mk vk Ak hA1 hA2 hA3 hA4
  generalize List.drop 10 lawBody = rest at next ⊢
  have X := G.X
  have T := G.T
  have B := G.B
  refine hide fun P9 hP9 => ?_
  obtain ⟨lo1, lo2⟩ := G.lo
  cases Dl with | list hm hv => ?_
  refine hP9 ?_
  clear P9 hP9
  rename_i vl nl
  have hvl : vl.length = lst.length := by have := hv.length; simpa [nSS] using this
  have hvl6 : vl.length ≤ 6 := by omega
  revert X
  k_fill
  intro X
  k_steps
  rename News _ _ _ _ => N5
  rename Fr _ _ _ _ => F5
  refine LCg.CompSrc.ledger (its := vl.toArray) (k := nl) rfl F5 N5 (in_cells hm) (by rw [sizeLine_eq]; simp; omega) ?_
  intro gg
  refine comp_dat ((lst.map (pathS b)).map Dat.str) (by simp; omega) ?turn1 ?fin1
  case turn1 =>
    intro j ys nx v I2 oI2 C oC D m₂ h tk E' d hd hsb hds hP hC2 hx' F N off ne
    clear F5 N5
    have hvj : vl[j]? = some v := by simpa using hP
    refine hide fun P9 hP9 => ?_
    obtain ⟨xs, hxs, Dv⟩ := row_get hv hvj
    obtain ⟨nd, hnd, rfl⟩ := nss_get hxs
    obtain ⟨aj, rfl⟩ := dat_ref Dv
    obtain rfl : d = .str (pathS b nd) := by rw [List.getElem?_map, List.getElem?_map, hnd] at hd; exact (Option.some.inj hd).symm
    refine hP9 ?_
    clear P9 hP9
    have hdn := hdep nd (List.mem_of_getElem? hnd)
    have N2 := news_dup N (.tail _ (.tail _ (.tail _ (hsb (L + 1, c1) (.tail _ (.tail _ (.tail _ (.tail _ (.head _)))))))))
    clear N
    k_steps
    refine Halt.go ?_
    have D2 := dat_at N2 Dv (fun p hp => .tail _ (.tail _ (.tail _ (.tail _ (hsb _ (in_cells hp))))))
    have hP1 : (topS b).length ≤ 10 ∧ (nS nd).length ≤ 10 ∧ ∀ n ∈ nS nd, n.length ≤ 10 := by
      refine ⟨?_, ?_, ?_⟩
      · rw [topS, mkS_len]; exact Nat.le_trans (topL_len b).2 (by omega)
      · rw [List.length_map]; omega
      · intro n hn
        obtain ⟨x, _, rfl⟩ := List.mem_map.mp hn
        have := x.len
        rw [Nm.str, mkS_len]; omega
    tbr_iter (lpath_DT w mean mg mb (topS b) (nS nd))
    rename_i r9 tl9 h9 tk9 F9 N9 hl9 hs9 ho9
    rw [lpath_pathS] at ho9
    refine hide fun P9 hP9 => ?_
    obtain ⟨t9, rfl⟩ : ∃ t, r9 = .str (pathS b nd) t := by cases ho9; exact ⟨_, rfl⟩
    refine hP9 ?_
    clear P9 hP9
    clear D2 N2
    k_steps
    refine cend_flat F9 N9 (fun p hp => List.mem_append_right _ (.tail _ hp)) off (.inr ⟨_, hsb _ (in_cells hm), rfl, _, rfl⟩) hsb hds hd (.str _ _)
  case fin1 =>
    intro ys nx hsb hds
    unfold LCg.FinE
    intro D5 h5 tk5 F6 N6 o5
    clear F5 N5
    have aD := Apt.off o5 hsb
    have N7 : News _ _ _ (cellsT L c5 c4 c3 c2 c1 ((D5, LCg.lst ys) :: tl)) := news_cells (X := [(D5, LCg.lst ys)]) (cb_drop N6 (fun p hp => by
      rcases List.mem_cons.mp hp with rfl | hp
      · exact .head _
      · exact .tail _ (hsb p hp)))
    refine hide fun P9 hP9 => ?_
    obtain ⟨TL, hTL⟩ : ∃ TL, TL = (D5, LCg.lst ys) :: tl := ⟨_, rfl⟩
    refine hP9 ?_
    clear P9 hP9
    have hA : ∀ p ∈ TL, Apt L p.1 := fun p hp => by
      rw [hTL] at hp
      rcases List.mem_cons.mp hp with rfl | hp
      · exact aD
      · exact htl p hp
    have hn4 : ∀ p ∈ TL, p.1 ≠ L + 1 + 1 + 1 + 1 := fun p hp => (hA p hp).2.1
    rw [← hTL] at N7
    clear N6
    k_steps
    rename News _ _ _ _ => N8
    rename Fr _ _ _ _ => F8
    refine hide fun P9 hP9 => ?_
    obtain ⟨o4, eo4⟩ := second_o N8
    subst eo4
    rename Obj.data _ = Data.cell (some (Value.ref D5)) => hk4
    subst hTL
    refine hP9 ?_
    clear P9 hP9
    exact next o4 D5 _ _ _ _ hk4 F8 N8 hA (.list (.tail _ hm) (hv.mono fun p hp => .tail _ hp)) (.list (.head _) (are_dat (strs_of hds)))
end
section
set_option maxRecDepth 100000
set_option maxHeartbeats 8000000
local macro_rules | `(tactic| walk_at "eval ListComp") => `(tactic| (k_here; refine halt ?_))
local macro_rules | `(tactic| walk_at "call ref") => `(tactic| (k_here; refine halt ?_))
theorem map_str_get {g : Node → Str} {lst : List Node} {j : Nat} {d : Dat} (h : ((lst.map g).map Dat.str)[j]? = some d) : ∃ nd, lst[j]? = some nd ∧ d = .str (g nd) := by
  rw [List.getElem?_map, List.getElem?_map] at h
  cases e : lst[j]? with
  | none => rw [e] at h; cases h
  | some nd => rw [e] at h; cases h; exact ⟨nd, rfl, rfl⟩
theorem PH10 {w : World} {mean : ExcName → Option Value} {mg mb : Str → Option Value} {h₀ : Heap} {L fa : Addr} {cd : Value} (G : LawG w mean mg mb h₀ L) {b : Bool} {lst : List Node} (hlen : lst.length ≤ 6) (hdep : ∀ n ∈ lst, n.length ≤ 5) {Q : Flow → Shared → Prop} {s : Shared} {m : Str → Option Value} {LA PA : Addr} {c5 c4 c3 c2 c1 : Obj} {tl : Led} {v5 : Option Value}
    (F : Fr h₀ L s.heap m) (N : News h₀ L s.heap (cellsT L c5 c4 c3 c2 c1 tl)) (hC : IsC c5 c4 c3 c2 c1) (htl : ∀ p ∈ tl, Apt L p.1) (hc4 : c4.data = .cell (some (.ref PA))) (hc5 : c5.data = .cell v5)
    (Dl : DatIn tl (.ref LA) (dLL (nSS lst))) (Dp : DatIn tl (.ref PA) (dS (lst.map (pathS b))))
    (next : ∀ c5' HA tl' m' h' tk', c5'.data = .cell (some (.ref HA)) → Fr h₀ L h' m' → News h₀ L h' (cellsT L c5' c4 c3 c2 c1 tl') → (∀ p ∈ tl', Apt L p.1) → DatIn tl' (.ref LA) (dLL (nSS lst)) → DatIn tl' (.ref PA) (dS (lst.map (pathS b))) → DatIn tl' (.ref HA) (dS (lst.map (hostS b))) →
      wpAny (model Challenge.rw_pd0179_01.prog w) (lawA L fa cd) (execs (lawBody.drop 11) (lawE L fa cd)) Q noE { s with heap := h', toks := tk' }) :
    wpAny (model Challenge.rw_pd0179_01.prog w) (lawA L fa cd) (execs (lawBody.drop 10) (lawE L fa cd)) Q noE s := by
  show wpAny _ (callerA.deeper (envOfC _ (Scope.mk _ _ _ _ _) _ _ _)) (execs (_ :: List.drop 11 lawBody) (envOfC _ (Scope.mk _ _ _ _ _) _ _ _)) _ _ _
  refine law_let ?_; intro Mk vk Ak hA1 hA2 hA3 hA4
  generalize List.drop 11 lawBody = rest at next ⊢
  have X := G.X
  have T := G.T
  have B := G.B
  refine hide fun P9 hP9 => ?_
  obtain ⟨lo1, lo2⟩ := G.lo
  cases Dp with | list hm hv => ?_
  refine hP9 ?_
  clear P9 hP9
  rename_i vl nl
  have hvl : vl.length = lst.length := by have := hv.length; simpa using this
  have hvl6 : vl.length ≤ 6 := by omega
  revert X
  k_fill
  intro X
  k_steps
  refine Halt.go ?_
  refine LCg.ListComp_U (F₀ := F) (by with_unfolding_all rfl) (by decide) (by rfl) (by decide) (by rfl) ?_
  k_steps
  rename News _ _ _ _ => N5
  rename Fr _ _ _ _ => F5
  refine LCg.CompSrc.ledger (its := vl.toArray) (k := nl) rfl F5 N5 (in_cells hm) (by rw [sizeLine_eq]; simp; omega) ?_
  intro gg
  refine comp_dat ((lst.map (hostS b)).map Dat.str) (by simp; omega) ?turn1 ?fin1
  case turn1 =>
    intro j ys nx v I2 oI2 C oC D m₂ h tk E' d hd hsb hds hP hC2 hx' F N off ne
    clear F5 N5
    have hvj : vl[j]? = some v := by simpa using hP
    refine hide fun P9 hP9 => ?_
    obtain ⟨z, tz, rfl, hz⟩ := are_get (strs_of hv) hvj
    obtain ⟨nd, hnd, rfl⟩ := map_str_get hd
    rw [List.getElem?_map, hnd] at hz
    obtain rfl : pathS b nd = z := Option.some.inj hz
    refine hP9 ?_
    clear P9 hP9
    have hdn := hdep nd (List.mem_of_getElem? hnd)
    have hP1 : nd.length ≤ 100 := by omega
    k_steps
    refine Halt.go ?_
    tbr_iter (host_path w mean mg mb b nd)
    rename_i r9 tl9 h9 tk9 F9 N9 hl9 hs9 ho9
    refine hide fun P9 hP9 => ?_
    obtain ⟨t9, rfl⟩ : ∃ t, r9 = .str (hostS b nd) t := by cases ho9; exact ⟨_, rfl⟩
    refine hP9 ?_
    clear P9 hP9
    clear N
    k_steps
    refine cend_flat F9 N9 (fun p hp => List.mem_append_right _ hp) off (.inr ⟨_, hsb _ (in_cells hm), rfl, _, rfl⟩) hsb hds hd (.str _ _)
  case fin1 =>
    intro ys nx hsb hds
    unfold LCg.FinE
    intro D5 h5 tk5 F6 N6 o5
    clear F5 N5
    have aD := Apt.off o5 hsb
    have N7 : News _ _ _ (cellsT L c5 c4 c3 c2 c1 ((D5, LCg.lst ys) :: tl)) := news_cells (X := [(D5, LCg.lst ys)]) (cb_drop N6 (fun p hp => by
      rcases List.mem_cons.mp hp with rfl | hp
      · exact .head _
      · exact .tail _ (hsb p hp)))
    refine hide fun P9 hP9 => ?_
    obtain ⟨TL, hTL⟩ : ∃ TL, TL = (D5, LCg.lst ys) :: tl := ⟨_, rfl⟩
    refine hP9 ?_
    clear P9 hP9
    have hA : ∀ p ∈ TL, Apt L p.1 := fun p hp => by
      rw [hTL] at hp
      rcases List.mem_cons.mp hp with rfl | hp
      · exact aD
      · exact htl p hp
    have hn5 : ∀ p ∈ TL, p.1 ≠ L + 1 + 1 + 1 + 1 + 1 := fun p hp => (hA p hp).2.2
    rw [← hTL] at N7
    clear N6
    k_steps
    rename News _ _ _ _ => N8
    rename Fr _ _ _ _ => F8
    refine hide fun P9 hP9 => ?_
    obtain ⟨o4, eo4⟩ := first_o N8
    subst eo4
    rename Obj.data _ = Data.cell (some (Value.ref D5)) => hk4
    subst hTL
    refine hP9 ?_
    clear P9 hP9
    exact next o4 D5 _ _ _ _ hk4 F8 N8 hA (Dl.mono fun p hp => .tail _ hp) (.list (.tail _ hm) (hv.mono fun p hp => .tail _ hp)) (.list (.head _) (are_dat (strs_of hds)))
end
section
local macro_rules | `(tactic| walk_at "none W11") => `(tactic| skip)
set_option maxRecDepth 100000
set_option maxHeartbeats 8000000
local macro_rules | `(tactic| tbr_iter $c:term) => `(tactic| (refine DTF.use $c (h := ?_); intro r9 tl9 h9 tk9 F9 N9 hl9 hs9 ho9; (try dsimp only)))
local macro_rules | `(tactic| walk_at "call ref") => `(tactic| (k_here; refine halt ?_))
local macro_rules | `(tactic| walk_at "CompSrc") => `(tactic| (k_here; refine halt ?_))
theorem refs_of {l : Led} {vs : List Value} {xss : List (List Str)} (h : DatAll l vs (xss.map dS)) : ∀ y ∈ vs, ∃ a, y = .ref a := by
  induction xss generalizing vs with
  | nil => exact iv0 (R := fun vs => ∀ y ∈ vs, ∃ a, y = Value.ref a) h fun _ h => nomatch h
  | cons x r ih => exact ivc (R := fun vs => ∀ y ∈ vs, ∃ a, y = Value.ref a) h fun v _ h1 h2 => fc (dat_ref h1) (ih h2)
section
open Classical
noncomputable def apart (L : Addr) (nx : Led) : Led := nx.filter fun p => decide (Apt L p.1)
theorem apart_mem {L : Addr} {nx : Led} {p : Addr × Obj} : p ∈ apart L nx ↔ p ∈ nx ∧ Apt L p.1 := by simp [apart]
end
theorem news_uniq {h₀ h : Heap} {L a : Addr} {o o' : Obj} {nx : Led} (N : News h₀ L h nx) (h1 : (a, o) ∈ nx) (h2 : (a, o') ∈ nx) : o = o' := Option.some.inj ((N _ h1).1.symm.trans (N _ h2).1)
theorem apart_drop {h₀ h : Heap} {L : Addr} {c5 c4 c3 c2 c1 : Obj} {tl nx : Led} (N : News h₀ L h nx) (hsb : ∀ p ∈ cellsT L c5 c4 c3 c2 c1 tl, p ∈ nx) (hC : IsC c5 c4 c3 c2 c1) : ∀ p ∈ nx, p ∈ apart L nx ∨ NoSeq p.2 := by
  rintro ⟨a, o⟩ hp
  by_cases h : Apt L a
  · exact .inl (apart_mem.mpr ⟨hp, h⟩)
  refine .inr ?_
  by_cases h5 : a = L + 1 + 1 + 1 + 1 + 1
  · subst h5
    rw [news_uniq N hp (hsb _ (.head _))]; exact hC.h5
  by_cases h4 : a = L + 1 + 1 + 1 + 1
  · subst h4
    rw [news_uniq N hp (hsb _ (.tail _ (.head _)))]; exact hC.h4
  by_cases h3 : a = L + 1 + 1 + 1
  · subst h3
    rw [news_uniq N hp (hsb _ (.tail _ (.tail _ (.head _))))]; exact hC.h3
  exact absurd ⟨h3, h4, h5⟩ h
theorem PH11 {w : World} {mean : ExcName → Option Value} {mg mb : Str → Option Value} {h₀ : Heap} {L fa : Addr} {cd : Value} (G : LawG w mean mg mb h₀ L) {b : Bool} {lst : List Node} (hlen : lst.length ≤ 6) (hdep : ∀ n ∈ lst, n.length ≤ 5) {Q : Flow → Shared → Prop} {s : Shared} {m : Str → Option Value} {LA PA : Addr} {c5 c4 c3 c2 c1 : Obj} {tl : Led}
    (F : Fr h₀ L s.heap m) (N : News h₀ L s.heap (cellsT L c5 c4 c3 c2 c1 tl)) (hC : IsC c5 c4 c3 c2 c1) (htl : ∀ p ∈ tl, Apt L p.1) (hc2 : c2.data = .cell (some (.ref LA))) (hc4 : c4.data = .cell (some (.ref PA)))
    (Dl : DatIn tl (.ref LA) (dLL (nSS lst))) (Dp : DatIn tl (.ref PA) (dS (lst.map (pathS b))))
    (next : ∀ RA tl' m' h' tk', Fr h₀ L h' m' → Kn m' [(Str.ofString "rungs", .ref RA)] → News h₀ L h' (cellsT L c5 c4 c3 c2 c1 tl') → (∀ p ∈ tl, p ∈ tl') → (∀ p ∈ tl', Apt L p.1) → DatIn tl' (.ref RA) (dLL (lst.map (rungsL b))) →
      wpAny (model Challenge.rw_pd0179_01.prog w) (lawA L fa cd) (execs (lawBody.drop 12) (lawE L fa cd)) Q noE { s with heap := h', toks := tk' }) :
    wpAny (model Challenge.rw_pd0179_01.prog w) (lawA L fa cd) (execs (lawBody.drop 11) (lawE L fa cd)) Q noE s := by
  show wpAny _ (callerA.deeper (envOfC _ (Scope.mk _ _ _ _ _) _ _ _)) (execs (_ :: List.drop 12 lawBody) (envOfC _ (Scope.mk _ _ _ _ _) _ _ _)) _ _ _
  refine law_let ?_; intro Mk vk Ak hA1 hA2 hA3 hA4
  generalize List.drop 12 lawBody = rest at next ⊢
  have X := G.X
  have T := G.T
  have B := G.B
  refine hide fun P9 hP9 => ?_
  obtain ⟨lo1, lo2⟩ := G.lo
  have Dl' := Dl
  cases Dp with | list hm hv => ?_
  rename_i vp np
  have hvp : vp.length = lst.length := by have := hv.length; simpa using this
  have hvp6 : vp.length ≤ 6 := by omega
  cases Dl with | list hml hvl => ?_
  refine hP9 ?_
  clear P9 hP9
  rename_i vl nl
  have hvll : vl.length = lst.length := by have := hvl.length; simpa [nSS] using this
  have hvl6 : vl.length ≤ 6 := by omega
  have N0 := news_dup N (in_cells hm)
  clear N
  revert X
  k_fill
  intro X
  k_steps
  refine Halt.go ?_
  rename News _ _ _ _ => N5
  rename Fr _ _ _ _ => F5
  rename IsRange _ _ _ _ _ _ _ _ => R5
  have NB : News _ _ _ (cellsT L c5 c4 c3 c2 c1 tl) := cb_drop N5 (fun p hp => .tail _ hp)
  clear N5
  refine LCg.CompSrc.range rfl F5 NB R5 (range_small _ (by omega)) (range_size _) (by rw [sizeLine_eq]; omega) ?_
  intro gg
  refine comp_dat ((lst.map (rungsL b)).map dS) (by simp; omega) ?turn1 ?fin1
  case turn1 =>
    intro j ys nx v I2 oI2 C oC D m₂ h tk E' d hd hsb hds hP hC2 hx' F N off ne
    clear F5 NB
    refine hide fun P9 hP9 => ?_
    obtain ⟨tj, rfl⟩ := hP
    rw [Int.zero_add] at hx'
    have hjl : j < lst.length := by
      have := (List.getElem?_eq_some_iff.mp hd).1
      simpa using this
    obtain ⟨nd, hnd⟩ : ∃ nd, lst[j]? = some nd := ⟨_, List.getElem?_eq_getElem hjl⟩
    obtain rfl : d = dS (rungsL b nd) := by rw [List.getElem?_map, List.getElem?_map, hnd] at hd; exact (Option.some.inj hd).symm
    have hdn := hdep nd (List.mem_of_getElem? hnd)
    obtain ⟨tp, hvpj⟩ := are_at (strs_of hv) (i := j) (z := pathS b nd) (by rw [List.getElem?_map, hnd]; rfl)
    obtain ⟨vj, hvlj⟩ : ∃ vj, vl[j]? = some vj := ⟨_, List.getElem?_eq_getElem (by omega)⟩
    obtain ⟨xs, hxs, Dv⟩ := row_get hvl hvlj
    obtain ⟨nd', hnd', rfl⟩ := nss_get hxs
    obtain rfl : nd = nd' := by rw [hnd] at hnd'; exact Option.some.inj hnd'
    cases Dv with | list hmj hvj => ?_
    refine hP9 ?_
    clear P9 hP9
    rename_i aj us nj
    have huj : us.length = nd.length := by have := hvj.length; simpa using this
    have k1 := hsb _ (in_cells hm)
    have k2 := hsb _ (in_cells hml)
    have k3 := hsb _ (in_cells hmj)
    have k4 := hsb _ (.tail _ (.head _))
    have k5 := hsb _ (.tail _ (.tail _ (.tail _ (.head _))))
    have N2 : News _ _ _ ((PA, listOf vp.toArray np) :: (LA, listOf vl.toArray nl) :: (aj, listOf us.toArray nj) :: (L + 1 + 1 + 1 + 1, c4) :: (L + 1 + 1, c2) :: (I2, oI2) :: (C, oC) :: (D, LCg.lst ys) :: nx) := cb_drop N (fun p hp => by
      rcases List.mem_cons.mp hp with rfl | hp
      · exact .tail _ (.tail _ (.tail _ k1))
      rcases List.mem_cons.mp hp with rfl | hp
      · exact .tail _ (.tail _ (.tail _ k2))
      rcases List.mem_cons.mp hp with rfl | hp
      · exact .tail _ (.tail _ (.tail _ k3))
      rcases List.mem_cons.mp hp with rfl | hp
      · exact .tail _ (.tail _ (.tail _ k4))
      rcases List.mem_cons.mp hp with rfl | hp
      · exact .tail _ (.tail _ (.tail _ k5))
      · exact hp)
    clear N k1 k2 k3 k4 k5
    k_steps
    refine Halt.go ?_
    rw [huj]
    tbr_iter (rungs_DTF w mean mg mb b nd)
    rename_i r9 tl9 h9 tk9 F9 N9 hl9 hs9 ho9
    clear N2
    k_steps
    refine cend_tl (tl := tl9) F9 (cb_drop N9 ?_) (fun p hp => ⟨Nat.ne_of_gt (hl9 p hp (I2, oI2) (by tb_src)), Nat.ne_of_gt (hl9 p hp (C, oC) (by tb_src)), Nat.ne_of_gt (hl9 p hp (D, LCg.lst ys) (by tb_src))⟩) off (fun _ _ => trivial) hsb hds hd (ho9.mono fun p hp => List.mem_append_left _ hp)
    intro p hp
    rcases List.mem_append.mp hp with hp | hp
    · exact List.mem_append_left _ hp
    · exact List.mem_append_right _ (.tail _ (.tail _ (.tail _ (.tail _ (.tail _ hp)))))
  case fin1 =>
    intro ys nx hsb hds
    unfold LCg.FinA
    intro D5 h5 tk5 F6 N6 o5
    clear F5 NB
    have aD := Apt.off o5 hsb
    have N7 : News _ _ _ nx := cb_drop N6 (fun p hp => .tail _ hp)
    refine next D5 ((D5, LCg.lst ys) :: apart L nx) _ _ _ F6 ⟨if_pos rfl, trivial⟩ (cb_drop N6 ?_) ?_ ?_ (.list (.head _) ((DatAll.drop (apart_drop N7 hsb hC) hds).mono fun p hp => .tail _ hp))
    · intro p hp
      have h1 : p ∈ cellsL L c5 c4 c3 c2 c1 ++ (D5, LCg.lst ys) :: apart L nx := hp
      rcases List.mem_append.mp h1 with h | h
      · exact .tail _ (hsb p (List.mem_append_left _ h))
      rcases List.mem_cons.mp h with rfl | h
      · exact .head _
      · exact .tail _ (apart_mem.mp h).1
    · exact fun p hp => .tail _ (apart_mem.mpr ⟨hsb p (in_cells hp), htl p hp⟩)
    · intro p hp
      rcases List.mem_cons.mp hp with rfl | hp
      · exact aD
      · exact (apart_mem.mp hp).2
end
section
set_option maxRecDepth 100000
set_option maxHeartbeats 8000000
local macro_rules | `(tactic| walk_at "call ref") => `(tactic| (k_here; refine halt ?_))
local macro_rules | `(tactic| walk_at "compareOp NotEq ref ref") => `(tactic| (k_here; refine halt ?_))
noncomputable def overL (b : Bool) (l : List Node) (n : Node) (i j : Nat) : List Str := ((List.range j).filter fun q => decide (q = i) || under b n (l[q]?.getD [])).map fun q => pathS b (l[q]?.getD [])
theorem over_yes {b : Bool} {l : List Node} {n nd : Node} {i j : Nat} (hn : l[j]? = some nd) (h : j = i ∨ under b n nd = true) : overL b l n i (j + 1) = overL b l n i j ++ [pathS b nd] := by
  unfold overL
  rw [List.range_succ, List.filter_append, List.map_append]
  congr 1
  rw [List.filter_cons, List.filter_nil, hn, Option.getD_some]
  have : (decide (j = i) || under b n nd) = true := by
    rcases h with h | h
    · rw [decide_eq_true h, Bool.true_or]
    · rw [h, Bool.or_true]
  rw [if_pos this, List.map_cons, List.map_nil, hn, Option.getD_some]
theorem over_no {b : Bool} {l : List Node} {n nd : Node} {i j : Nat} (hn : l[j]? = some nd) (h1 : j ≠ i) (h : under b n nd = false) : overL b l n i (j + 1) = overL b l n i j := by
  unfold overL
  rw [List.range_succ, List.filter_append, List.map_append, List.filter_cons, List.filter_nil, hn, Option.getD_some, decide_eq_false h1, h, Bool.false_or, if_neg (by decide), List.map_nil, List.append_nil]
noncomputable def lawFor12 : List Stmt := match lawBody.drop 12 with
  | Stmt.For _ _ body _ _ :: _ => body
  | _ => []
theorem tst12 : lawFor12.length = 4 := by rfl
theorem top_t : topS true = Str.ofString "7" := by decide
theorem top_f : topS false = Str.ofString "com" := by decide
theorem ok_path (b : Bool) (n : Node) : PyData.strOk (pathS b n) = true := by
  have h1 : ∀ b, ∀ c ∈ topL b, c < 1114112 := by decide
  have h2 : ∀ x ∈ [Nm.a, .ab, .ba], ∀ c ∈ 47 :: x.cps, c < 1114112 := by decide
  have h : ∀ c ∈ pathL b n, c < 1114112 := by
    intro c hc
    rcases List.mem_cons.mp hc with rfl | hc
    · decide
    rcases List.mem_append.mp hc with hc | hc
    · exact h1 b c hc
    · obtain ⟨x, _, hx⟩ := List.mem_flatMap.mp hc
      exact h2 x (by cases x <;> simp) c hx
  simpa [PyData.strOk, pathS, mkS] using h
theorem ok_paths (b : Bool) (l : List Node) : ∀ d ∈ (l.map (pathS b)).map Dat.str, kqdOk 8 d = true := by
  intro d hd
  obtain ⟨z, hz, rfl⟩ := List.mem_map.mp hd
  obtain ⟨n, _, rfl⟩ := List.mem_map.mp hz
  exact ok_path b n
theorem ok_rungs (b : Bool) (n : Node) : ∀ d ∈ (rungsL b n).map Dat.str, kqdOk 8 d = true := by
  intro d hd
  obtain ⟨z, hz, rfl⟩ := List.mem_map.mp hd
  obtain ⟨i, _, rfl⟩ := List.mem_map.mp hz
  exact ok_path b _
theorem T12 {w : World} {mean : ExcName → Option Value} {mg mb : Str → Option Value} {h₀ : Heap} {L fa : Addr} {cd : Value} (G : LawG w mean mg mb h₀ L) {lst : List Node} (hlen : lst.length ≤ 6) (hdep : ∀ n ∈ lst, n.length ≤ 5) {R : Flow → Shared → Prop} {s : Shared} {m : Str → Option Value} {i : Nat} (hil : i < lst.length) {LA PA HA RA OA : Addr} {c5 c4 c3 c2 c1 : Obj} {tl : Led} {t1 ti : Tok} {vl vp vh vr ys : List Value} {nl np nh nr : Nat}
    (F : Fr h₀ L s.heap m) (N : News h₀ L s.heap (cellsT L c5 c4 c3 c2 c1 tl)) (hc1 : c1.data = .cell (some (.str (topS true) t1))) (hc2 : c2.data = .cell (some (.ref LA))) (hc3 : c3.data = .cell (some (.int (i : Nat) ti))) (hc4 : c4.data = .cell (some (.ref PA))) (hc5 : c5.data = .cell (some (.ref HA)))
    (hkn : Kn m [(Str.ofString "over", .ref OA), (Str.ofString "rungs", .ref RA)]) (hml : (LA, listOf vl.toArray nl) ∈ tl) (hvl : DatAll tl vl ((nSS lst).map dS)) (hm : (PA, listOf vp.toArray np) ∈ tl) (hv : StrsAre vp (lst.map (pathS true))) (hmh : (HA, listOf vh.toArray nh) ∈ tl) (hvh : StrsAre vh (lst.map (hostS true))) (hmr : (RA, listOf vr.toArray nr) ∈ tl) (hvr : DatAll tl vr ((lst.map (rungsL true)).map dS)) (hmo : (OA, LCg.lst ys) ∈ tl) (hys : StrsAre ys [pathS true lst[i]])
    (next : ∀ m' h' tk', Fr h₀ L h' m' → Kn m' [(Str.ofString "rungs", .ref RA)] → News h₀ L h' (cellsT L c5 c4 c3 c2 c1 tl) → R .next { s with heap := h', toks := tk' }) :
    wpAny (model Challenge.rw_pd0179_01.prog w) (lawA L fa cd) (execs (lawFor12.drop 1) (lawE L fa cd)) R noE s := by
  show wpAny _ (callerA.deeper (envOfC _ (Scope.mk _ _ _ _ _) _ _ _)) (execs (_ :: _) (envOfC _ (Scope.mk _ _ _ _ _) _ _ _)) _ _ _
  refine law_let ?_; intro Mk vk Ak hA1 hA2 hA3 hA4
  have X := G.X
  have T := G.T
  have B := G.B
  refine hide fun P9 hP9 => ?_
  obtain ⟨lo1, lo2⟩ := G.lo
  have F1 := hkn.fr F
  dsimp only [kstB] at F1
  clear F
  rw [top_t] at hc1
  have hvp : vp.length = lst.length := by have := hv.length; simpa using this
  have hvhl : vh.length = lst.length := by have := hvh.length; simpa using this
  obtain ⟨tp, hvpi⟩ := are_at hv (i := i) (z := pathS true lst[i]) (by rw [List.getElem?_map, List.getElem?_eq_getElem hil]; rfl)
  obtain ⟨th, hvhi⟩ := are_at hvh (i := i) (z := hostS true lst[i]) (by rw [List.getElem?_map, List.getElem?_eq_getElem hil]; rfl)
  refine hP9 ?_
  clear P9 hP9
  have hdi := hdep lst[i] (List.getElem_mem hil)
  have z2 : (hostS true lst[i]).length ≤ 500 := by have := hostL_len true lst[i]; rw [hostS, mkS_len]; omega
  have N0 := news_dup (news_dup N (in_cells hm)) (.tail _ (in_cells hmh))
  clear N
  revert X
  k_fill
  intro X
  k_steps
  refine Halt.go ?_
  rename News _ _ _ _ => N1
  refine hide fun P9 hP9 => ?_
  obtain ⟨E1, eE1⟩ := head_a N1
  subst eE1
  refine hP9 ?_
  clear P9 hP9
  have Da := dat_at N1 (DatIn.list hmo (are_dat hys)) (fun p hp => .tail _ (.tail _ (.tail _ (in_cells hp))))
  refine ne_same N1 Da (DatIn.list (.head _) (.cons (.str _ _) .nil)) (ok_paths true [lst[i]]) (by ((try simp only [units_in1, units_deeper, Around.mark_units, units_caller]); omega)) ?_
  clear Da
  k_steps
  refine Halt.go ?_
  have hP1 : lst[i].length ≤ 100 := by omega
  rename News _ _ _ _ => N2
  tbr_iter (reach_host w mean mg mb true lst[i])
  rename_i r9 tl9 h9 tk9 F9 N9 hl9 hs9 ho9
  have er : reachN true lst[i] = hostS true lst[i] := rfl
  rw [er] at ho9
  refine hide fun P9 hP9 => ?_
  obtain ⟨t9, rfl⟩ : ∃ t, r9 = .str (hostS true lst[i]) t := by cases ho9; exact ⟨_, rfl⟩
  refine hP9 ?_
  clear P9 hP9
  k_steps
  all_goals try (exfalso; rename (_ != _) = true => hb; simp at hb; done)
  exact next _ _ _ F9 ⟨rfl, trivial⟩ (cb_drop N9 (fun p hp => List.mem_append_right _ (.tail _ (.tail _ (.tail _ hp)))))
end
section
set_option maxRecDepth 100000
set_option maxHeartbeats 8000000
theorem over_filter {b : Bool} {l : List Node} {n : Node} {i : Nat} (hnd : l.Nodup) (hi : l[i]? = some n) : ∀ j, j ≤ l.length → overL b l n i j = ((l.take j).filter fun x => decide (x = n) || under b n x).map (pathS b)
  | 0, _ => rfl
  | j + 1, hj => by
    have ih := over_filter (b := b) hnd hi j (by omega)
    obtain ⟨nd, hn⟩ : ∃ nd, l[j]? = some nd := ⟨_, List.getElem?_eq_getElem (by omega)⟩
    rw [List.take_add_one, hn, Option.toList_some, List.filter_append, List.map_append, ← ih]
    have e : j = i ↔ nd = n := by
      constructor
      · rintro rfl; rw [hi] at hn; exact (Option.some.inj hn).symm
      · rintro rfl
        obtain ⟨h1, e1⟩ := List.getElem?_eq_some_iff.mp hn
        obtain ⟨h2, e2⟩ := List.getElem?_eq_some_iff.mp hi
        rcases Nat.lt_trichotomy j i with h | h | h
        · exact absurd (e1.trans e2.symm) (List.pairwise_iff_getElem.mp hnd j i h1 h2 h)
        · exact h
        · exact absurd (e2.trans e1.symm) (List.pairwise_iff_getElem.mp hnd i j h2 h1 h)
    by_cases h1 : j = i
    · rw [over_yes hn (.inl h1), List.filter_cons, decide_eq_true (e.mp h1), Bool.true_or, if_pos rfl]; rfl
    · have h1' : ¬ nd = n := fun h => h1 (e.mpr h)
      cases hu : under b n nd with
      | true => rw [over_yes hn (.inr hu), List.filter_cons, hu, Bool.or_true, if_pos rfl]; rfl
      | false => rw [over_no hn h1 hu, List.filter_cons, hu, decide_eq_false h1', Bool.or_false, if_neg (by decide)]; simp
theorem sorted_nodup {l : List Node} (hs : Sorted l) : l.Nodup := List.Pairwise.imp (fun {a b} h e => by subst e; exact LtN.irr _ h) hs
theorem over_t {l : List Node} (hs : Sorted l) {i : Nat} (hi : i < l.length) : overL true l l[i] i l.length = [pathS true l[i]] := by
  rw [over_filter (sorted_nodup hs) (List.getElem?_eq_getElem hi) _ (Nat.le_refl _), List.take_length]
  have : (l.filter fun x => decide (x = l[i]) || under true l[i] x) = [l[i]] := by
    refine sorted_uniq (List.Pairwise.filter _ hs) (List.pairwise_singleton _ _) fun x => ?_
    rw [List.mem_filter, List.mem_singleton]
    simp only [under, Bool.not_true, Bool.false_and, Bool.or_false, decide_eq_true_eq]
    constructor
    · exact fun h => h.2
    · rintro rfl; exact ⟨List.getElem_mem hi, rfl⟩
  rw [this]; rfl
theorem closed_take {nodes : List Node} (hc : Closed nodes) : ∀ (r n : Node), n ++ r ∈ nodes → n ∈ nodes := by
  intro r
  induction h : r.length generalizing r with
  | zero => intro n hn; rw [List.length_eq_zero_iff.mp h, List.append_nil] at hn; exact hn
  | succ k ih =>
    intro n hn
    rcases List.eq_nil_or_concat r with rfl | ⟨r', x, rfl⟩
    · simp at h
    · rw [List.concat_eq_append, ← List.append_assoc] at hn
      exact ih r' (by simpa using h) n (hc _ x hn)
theorem over_f {nodes l : List Node} (hc : Closed nodes) (hs : Sorted l) (hl : ∀ x, x ∈ l ↔ x ∈ nodes) {i : Nat} (hi : i < l.length) : overL false l l[i] i l.length = rungsL false l[i] := by
  rw [over_filter (sorted_nodup hs) (List.getElem?_eq_getElem hi) _ (Nat.le_refl _), List.take_length]
  have : (l.filter fun x => decide (x = l[i]) || under false l[i] x) = (List.range (l[i].length + 1)).map fun j => l[i].take j := by
    refine sorted_uniq (List.Pairwise.filter _ hs) ?_ fun x => ?_
    · rw [Sorted, List.pairwise_map]
      refine List.Pairwise.imp_of_mem (fun {a c} ha hc h => ?_) List.pairwise_lt_range
      have hc' := List.mem_range.mp hc
      have e : l[i].take c = l[i].take a ++ (l[i].take c).drop a := by
        have := List.take_append_drop a (l[i].take c)
        rw [List.take_take, Nat.min_eq_left (by omega)] at this
        exact this.symm
      rw [e]
      refine lt_app _ _ fun h0 => ?_
      have := congrArg List.length h0
      rw [List.length_drop, List.length_take, List.length_nil] at this
      omega
    · rw [List.mem_filter, List.mem_map, Bool.or_eq_true, decide_eq_true_eq, under_iff]
      constructor
      · rintro ⟨_, rfl | ⟨r, _, e⟩⟩
        · exact ⟨l[i].length, List.mem_range.mpr (by omega), List.take_length⟩
        · refine ⟨x.length, List.mem_range.mpr ?_, ?_⟩
          · rw [e, List.length_append]; omega
          · rw [e, List.take_left']; rfl
      · rintro ⟨j, hj, rfl⟩
        have ht := List.take_append_drop j l[i]
        refine ⟨(hl _).mpr (closed_take hc (l[i].drop j) _ (by rw [ht]; exact (hl _).mp (List.getElem_mem hi))), ?_⟩
        by_cases h : l[i].drop j = []
        · left; rw [h, List.append_nil] at ht; exact ht
        · exact .inr ⟨_, h, ht.symm⟩
  rw [this, List.map_map]; rfl
end
section
local macro_rules | `(tactic| walk_at "none V13") => `(tactic| skip)
set_option maxRecDepth 100000
set_option maxHeartbeats 8000000
local macro_rules | `(tactic| walk_at "call ref") => `(tactic| (k_here; refine halt ?_))
local macro_rules | `(tactic| walk_at "compareOp NotEq ref ref") => `(tactic| (k_here; refine halt ?_))
theorem F12 {w : World} {mean : ExcName → Option Value} {mg mb : Str → Option Value} {h₀ : Heap} {L fa : Addr} {cd : Value} (G : LawG w mean mg mb h₀ L) {lst : List Node} (hlen : lst.length ≤ 6) (hdep : ∀ n ∈ lst, n.length ≤ 5) {R : Flow → Shared → Prop} {s : Shared} {m : Str → Option Value} {i : Nat} (hil : i < lst.length) {LA PA HA RA OA : Addr} {c5 c4 c3 c2 c1 : Obj} {tl : Led} {t1 ti : Tok} {vl vp vh vr ys : List Value} {nl np nh nr : Nat}
    (F : Fr h₀ L s.heap m) (N : News h₀ L s.heap (cellsT L c5 c4 c3 c2 c1 tl)) (hc1 : c1.data = .cell (some (.str (topS false) t1))) (hc2 : c2.data = .cell (some (.ref LA))) (hc3 : c3.data = .cell (some (.int (i : Nat) ti))) (hc4 : c4.data = .cell (some (.ref PA))) (hc5 : c5.data = .cell (some (.ref HA)))
    (hkn : Kn m [(Str.ofString "over", .ref OA), (Str.ofString "rungs", .ref RA)]) (hml : (LA, listOf vl.toArray nl) ∈ tl) (hvl : DatAll tl vl ((nSS lst).map dS)) (hm : (PA, listOf vp.toArray np) ∈ tl) (hv : StrsAre vp (lst.map (pathS false))) (hmh : (HA, listOf vh.toArray nh) ∈ tl) (hvh : StrsAre vh (lst.map (hostS false))) (hmr : (RA, listOf vr.toArray nr) ∈ tl) (hvr : DatAll tl vr ((lst.map (rungsL false)).map dS)) (hmo : (OA, LCg.lst ys) ∈ tl) (hys : StrsAre ys (rungsL false lst[i]))
    (next : ∀ m' h' tk', Fr h₀ L h' m' → Kn m' [(Str.ofString "rungs", .ref RA)] → News h₀ L h' (cellsT L c5 c4 c3 c2 c1 tl) → R .next { s with heap := h', toks := tk' }) :
    wpAny (model Challenge.rw_pd0179_01.prog w) (lawA L fa cd) (execs (lawFor12.drop 1) (lawE L fa cd)) R noE s := by
  show wpAny _ (callerA.deeper (envOfC _ (Scope.mk _ _ _ _ _) _ _ _)) (execs (_ :: _) (envOfC _ (Scope.mk _ _ _ _ _) _ _ _)) _ _ _
  refine law_let ?_; intro Mk vk Ak hA1 hA2 hA3 hA4
  have X := G.X
  have T := G.T
  have B := G.B
  refine hide fun P9 hP9 => ?_
  obtain ⟨lo1, lo2⟩ := G.lo
  have F1 := hkn.fr F
  dsimp only [kstB] at F1
  clear F
  rw [top_f] at hc1
  have hvp : vp.length = lst.length := by have := hv.length; simpa using this
  have hvhl : vh.length = lst.length := by have := hvh.length; simpa using this
  obtain ⟨tp, hvpi⟩ := are_at hv (i := i) (z := pathS false lst[i]) (by rw [List.getElem?_map, List.getElem?_eq_getElem hil]; rfl)
  obtain ⟨th, hvhi⟩ := are_at hvh (i := i) (z := hostS false lst[i]) (by rw [List.getElem?_map, List.getElem?_eq_getElem hil]; rfl)
  have hdi := hdep lst[i] (List.getElem_mem hil)
  have z2 : (hostS false lst[i]).length ≤ 500 := by have := hostL_len false lst[i]; rw [hostS, mkS_len]; omega
  have hvll : vl.length = lst.length := by have := hvl.length; simpa [nSS] using this
  have hvrl : vr.length = lst.length := by have := hvr.length; simpa using this
  obtain ⟨vj, hvlj⟩ : ∃ vj, vl[i]? = some vj := ⟨_, List.getElem?_eq_getElem (by omega)⟩
  obtain ⟨xs, hxs, Dv⟩ := row_get hvl hvlj
  obtain ⟨nd, hnd, rfl⟩ := nss_get hxs
  obtain rfl : lst[i] = nd := by rw [List.getElem?_eq_getElem hil] at hnd; exact Option.some.inj hnd
  cases Dv with | list hmj hvj => ?_
  rename_i aj us nj
  have huj : us.length = lst[i].length := by have := hvj.length; simpa using this
  obtain ⟨vk, hvrk⟩ : ∃ vk, vr[i]? = some vk := ⟨_, List.getElem?_eq_getElem (by omega)⟩
  obtain ⟨zs, hzs, Dk⟩ := row_get hvr hvrk
  obtain rfl : rungsL false lst[i] = zs := by rw [List.getElem?_map, List.getElem?_eq_getElem hil] at hzs; exact Option.some.inj hzs
  obtain ⟨ak, rfl⟩ := dat_ref Dk
  refine hP9 ?_
  clear P9 hP9
  have N0 := news_dup (news_dup (news_dup (news_dup (news_dup N (in_cells hm)) (.tail _ (in_cells hmh))) (.tail _ (.tail _ (in_cells hml)))) (.tail _ (.tail _ (.tail _ (in_cells hmr))))) (.tail _ (.tail _ (.tail _ (.tail _ (in_cells hmj)))))
  have hin : ∀ {p : Addr × Obj} {q1 q2 q3 q4 q5 : Addr × Obj}, p ∈ tl → p ∈ q1 :: q2 :: q3 :: q4 :: q5 :: cellsT L c5 c4 c3 c2 c1 tl := fun hp => .tail _ (.tail _ (.tail _ (.tail _ (.tail _ (in_cells hp)))))
  clear N
  revert X
  k_fill
  intro X
  k_steps
  · refine Halt.go ?_
    rename (1 < ((us.length : Nat) : Int)) => h1
    have h1' : 1 < lst[i].length := by omega
    have er : reachN false lst[i] = Str.ofString "." ++ hostS false lst[i].dropLast := by
      unfold reachN
      rw [decide_eq_true h1']; rfl
    refine hide fun P9 hP9 => ?_
    obtain ⟨n', x, en⟩ : ∃ n' x, lst[i] = n' ++ [x] := by
      rcases List.eq_nil_or_concat lst[i] with e | ⟨n', x, e⟩
      · rw [e] at h1'; simp at h1'
      · exact ⟨n', x, by rw [e, List.concat_eq_append]⟩
    refine hP9 ?_
    clear P9 hP9
    have hdir : dirF (pathS false lst[i]) = pathS false lst[i].dropLast := by
      rw [en, List.dropLast_concat]; exact dir_pathS _ _ _
    have hP1 : lst[i].length ≤ 100 := by omega
    have hP2 : lst[i].dropLast.length ≤ 100 := by rw [List.length_dropLast]; omega
    have hP3 : (pathS false lst[i]).length ≤ 1000 := by have := pathS_len false lst[i]; omega
    tbr_iter (dir_DT w mean mg mb (pathS false lst[i]))
    rename_i r9 tl9 h9 tk9 F9 N9 hl9 hs9 ho9
    rw [hdir] at ho9
    refine hide fun P9 hP9 => ?_
    obtain ⟨t9, rfl⟩ : ∃ t, r9 = .str (pathS false lst[i].dropLast) t := by cases ho9; exact ⟨_, rfl⟩
    refine hP9 ?_
    clear P9 hP9
    rename News _ _ _ _ => N9
    k_steps
    refine Halt.go ?_
    tbr_iter (host_path w mean mg mb false lst[i].dropLast)
    rename_i r8 tl8 h8 tk8 F8 N8 hl8 hs8 ho8
    refine hide fun P9 hP9 => ?_
    obtain ⟨t8, rfl⟩ : ∃ t, r8 = .str (hostS false lst[i].dropLast) t := by cases ho8; exact ⟨_, rfl⟩
    refine hP9 ?_
    clear P9 hP9
    have z3 : (hostS false lst[i].dropLast).length ≤ 500 := by have := hostL_len false lst[i].dropLast; rw [hostS, mkS_len]; omega
    have NC := cb_drop N8 (fun p hp => List.mem_append_right _ (List.mem_append_right _ hp))
    clear N8 hl8 hs8 ho8 N9 hl9 hs9 ho9
    k_steps
    refine Halt.go ?_
    rename News _ _ _ _ => N1
    have Da := dat_at N1 (DatIn.list hmo (are_dat hys)) (fun p hp => by first | exact hin hp | (repeat (first | exact hin hp | refine List.mem_append_right _ ?_)))
    have Db := dat_at N1 Dk (fun p hp => by first | exact hin hp | (repeat (first | exact hin hp | refine List.mem_append_right _ ?_)))
    refine ne_same N1 Da Db (ok_rungs false lst[i]) (by ((try simp only [units_in1, units_deeper, Around.mark_units, units_caller]); omega)) ?_
    clear Da Db
    k_steps
    refine Halt.go ?_
    rename News _ _ _ _ => N2
    tbr_iter (reach_host w mean mg mb false lst[i])
    rename_i r9 tl9 h9 tk9 F9 N9 hl9 hs9 ho9
    rw [er] at ho9
    refine hide fun P9 hP9 => ?_
    obtain ⟨t9, rfl⟩ : ∃ t, r9 = .str _ t := by cases ho9; exact ⟨_, rfl⟩
    cases ho9
    refine hP9 ?_
    clear P9 hP9
    k_steps
    all_goals try (exfalso; rename (_ != _) = true => hb; simp at hb; done)
    · rename Fr _ _ _ _ => F9
      exact next _ _ _ F9 ⟨rfl, trivial⟩ (cb_drop N9 (fun p hp => by repeat (first | exact hp | apply List.Mem.tail | refine List.mem_append_right _ ?_)))
  · have h1' : ¬ 1 < lst[i].length := by omega
    have hP1 : lst[i].length ≤ 100 := by omega
    have er : reachN false lst[i] = hostS false lst[i] := by
      unfold reachN
      rw [decide_eq_false h1']; rfl
    refine Halt.go ?_
    rename News _ _ _ _ => N1
    have Da := dat_at N1 (DatIn.list hmo (are_dat hys)) (fun p hp => by first | exact hin hp | (repeat (first | exact hin hp | refine List.mem_append_right _ ?_)))
    have Db := dat_at N1 Dk (fun p hp => by first | exact hin hp | (repeat (first | exact hin hp | refine List.mem_append_right _ ?_)))
    refine ne_same N1 Da Db (ok_rungs false lst[i]) (by ((try simp only [units_in1, units_deeper, Around.mark_units, units_caller]); omega)) ?_
    clear Da Db
    k_steps
    refine Halt.go ?_
    rename News _ _ _ _ => N2
    tbr_iter (reach_host w mean mg mb false lst[i])
    rename_i r9 tl9 h9 tk9 F9 N9 hl9 hs9 ho9
    rw [er] at ho9
    refine hide fun P9 hP9 => ?_
    obtain ⟨t9, rfl⟩ : ∃ t, r9 = .str _ t := by cases ho9; exact ⟨_, rfl⟩
    cases ho9
    refine hP9 ?_
    clear P9 hP9
    k_steps
    all_goals try (exfalso; rename (_ != _) = true => hb; simp at hb; done)
    · rename Fr _ _ _ _ => F9
      exact next _ _ _ F9 ⟨rfl, trivial⟩ (cb_drop N9 (fun p hp => by repeat (first | exact hp | apply List.Mem.tail | refine List.mem_append_right _ ?_)))
end
section
set_option maxRecDepth 100000
set_option maxHeartbeats 8000000
local macro_rules | `(tactic| walk_at "exec Assign cons ListComp") => `(tactic| (k_here; refine halt ?_))
local macro_rules | `(tactic| walk_at "call ref") => `(tactic| (k_here; refine halt ?_))
local macro_rules | `(tactic| walk_at "CompSrcT") => `(tactic| (k_here; refine halt ?_))
local macro_rules | `(tactic| walk_at "CompSrc") => `(tactic| (k_here; refine halt ?_))
theorem PH12 {w : World} {mean : ExcName → Option Value} {mg mb : Str → Option Value} {h₀ : Heap} {L fa : Addr} {cd : Value} (G : LawG w mean mg mb h₀ L) {b : Bool} {lst : List Node} (hlen : lst.length ≤ 6) (hdep : ∀ n ∈ lst, n.length ≤ 5) {nodes : List Node} (hcl : Closed nodes) (hso : Sorted lst) (hmem : ∀ x, x ∈ lst ↔ x ∈ nodes) {Q : Flow → Shared → Prop} {s : Shared} {m : Str → Option Value} {LA PA HA RA : Addr} {c5 c4 c3 c2 c1 : Obj} {tl : Led} {v3 : Option Value} {t1 : Tok}
    (F : Fr h₀ L s.heap m) (N : News h₀ L s.heap (cellsT L c5 c4 c3 c2 c1 tl)) (hC : IsC c5 c4 c3 c2 c1) (htl : ∀ p ∈ tl, Apt L p.1) (hc1 : c1.data = .cell (some (.str (topS b) t1))) (hc2 : c2.data = .cell (some (.ref LA))) (hc3 : c3.data = .cell v3) (hc4 : c4.data = .cell (some (.ref PA))) (hc5 : c5.data = .cell (some (.ref HA)))
    (hkn : Kn m [(Str.ofString "rungs", .ref RA)]) (Dl : DatIn tl (.ref LA) (dLL (nSS lst))) (Dp : DatIn tl (.ref PA) (dS (lst.map (pathS b)))) (Dh : DatIn tl (.ref HA) (dS (lst.map (hostS b)))) (Dr : DatIn tl (.ref RA) (dLL (lst.map (rungsL b))))
    (next : ∀ c3' v3' m' h' tk', c3'.data = .cell v3' → Fr h₀ L h' m' → Kn m' [(Str.ofString "rungs", .ref RA)] → News h₀ L h' (cellsT L c5 c4 c3' c2 c1 tl) →
      wpAny (model Challenge.rw_pd0179_01.prog w) (lawA L fa cd) (execs (lawBody.drop 13) (lawE L fa cd)) Q noE { s with heap := h', toks := tk' }) :
    wpAny (model Challenge.rw_pd0179_01.prog w) (lawA L fa cd) (execs (lawBody.drop 12) (lawE L fa cd)) Q noE s := by
  show wpAny _ (callerA.deeper (envOfC _ (Scope.mk _ _ _ _ _) _ _ _)) (execs (_ :: List.drop 13 lawBody) (envOfC _ (Scope.mk _ _ _ _ _) _ _ _)) _ _ _
  refine law_let ?_; intro Mk vk Ak hA1 hA2 hA3 hA4
  generalize List.drop 13 lawBody = rest at next ⊢
  have X := G.X
  have T := G.T
  have B := G.B
  refine hide fun P9 hP9 => ?_
  obtain ⟨lo1, lo2⟩ := G.lo
  have F1 := hkn.fr F
  dsimp only [kstB] at F1
  clear F
  cases Dp with | list hm hv => ?_
  rename_i vp np
  have hvp : vp.length = lst.length := by have := hv.length; simpa using this
  have hvp6 : vp.length ≤ 6 := by omega
  cases Dh with | list hmh hvh => ?_
  rename_i vh nh
  have hvhl : vh.length = lst.length := by have := hvh.length; simpa using this
  cases Dl with | list hml hvl => ?_
  rename_i vl nl
  have hvll : vl.length = lst.length := by have := hvl.length; simpa [nSS] using this
  cases Dr with | list hmr hvr => ?_
  refine hP9 ?_
  clear P9 hP9
  rename_i vr nr
  have hvrl : vr.length = lst.length := by have := hvr.length; simpa using this
  have N0 := news_dup N (in_cells hm)
  clear N
  revert X
  k_fill
  intro X
  k_steps
  rename News _ _ _ _ => N1
  rename Fr _ _ _ _ => F2
  rename IsRange _ _ _ _ _ _ _ _ => R1
  have NB : News _ _ _ (cellsT L c5 c4 c3 c2 c1 tl) := cb_drop N1 (fun p hp => .tail _ hp)
  clear N1
  refine iter_rangeP (n := vp.length) (fun i m nx => ∃ c3' v3', nx = cellsT L c5 c4 c3' c2 c1 tl ∧ c3'.data = .cell v3' ∧ Kn m [(Str.ofString "rungs", .ref RA)]) rfl R1 (range_small _ (by omega)) (range_size _) F2 NB (fun _ _ _ _ h => go_name) ⟨c3, v3, rfl, hc3, ⟨rfl, trivial⟩⟩ ?turn ?done
  case done =>
    intro m₁ nx h tk hJ94 F3 N3
    refine hide fun P9 hP9 => ?_
    obtain ⟨c3', v3', rfl, hc3', hkn'⟩ := hJ94
    refine hP9 ?_
    clear P9 hP9
    exact next c3' v3' m₁ h tk hc3' F3 hkn' N3
  case turn =>
    intro I i ti m₁ nx h tk oI hoI hltI hi hJ101 hI F3 N3
    refine hide fun P9 hP9 => ?_
    obtain ⟨c3', v3', rfl, hc3', hkn'⟩ := hJ101
    refine hP9 ?_
    clear P9 hP9
    rw [Int.zero_add]
    have hlI : @LT.lt Nat _ (L + 1 + 1 + 1 + 1 + 1) I := hltI _ (.head _)
    have aI : Apt L I := Apt.gt hlI
    refine hide fun P9 hP9 => ?_
    obtain ⟨TL, hTL⟩ : ∃ TL, TL = (I, oI) :: tl := ⟨_, rfl⟩
    refine hP9 ?_
    clear P9 hP9
    have N4 := news_cells (L := L) (X := [(I, oI)]) N3
    dsimp only [List.singleton_append] at N4
    rw [← hTL] at N4
    have hA : ∀ p ∈ TL, Apt L p.1 := fun p hp => by
      rw [hTL] at hp
      rcases List.mem_cons.mp hp with rfl | hp
      · exact aI
      · exact htl p hp
    have hn3 : ∀ p ∈ TL, p.1 ≠ L + 1 + 1 + 1 := fun p hp => (hA p hp).1
    have F4 := hkn'.fr F3
    dsimp only [kstB] at F4
    clear R1 F2 NB N3 F3
    k_steps
    refine Halt.go ?_
    rename News _ _ _ _ => N5
    rename Fr _ _ _ _ => F5
    refine hide fun P9 hP9 => ?_
    obtain ⟨o3, eo3⟩ := third_o N5
    subst eo3
    refine hP9 ?_
    clear P9 hP9
    rename Obj.data _ = Data.cell (some (Value.int _ ti)) => hk3
    have N6 : News _ _ _ ((PA, listOf vp.toArray np) :: cellsT L c5 c4 o3 c2 c1 TL) := news_dup N5 (in_cells (by rw [hTL]; exact .tail _ hm))
    clear N5
    refine LCt.Assign_ListComp_T (F₀ := F5) (by rfl) (by with_unfolding_all rfl) (by with_unfolding_all rfl) (by decide) (by rfl) (by decide) (by rfl) (by rfl) (by rfl) ?_
    k_steps
    refine Halt.go ?_
    rename News _ _ _ _ => N7
    rename Fr _ _ _ _ => F7
    rename IsRange _ _ _ _ _ _ _ _ => R7
    have NB : News _ _ _ (cellsT L c5 c4 o3 c2 c1 TL) := cb_drop N7 (fun p hp => .tail _ hp)
    clear N7
    refine LCt.CompSrcT.range rfl F7 NB R7 (range_small _ (by omega)) (range_size _) (by rw [sizeLine_eq]; omega) ?_
    intro gg
    have hil : i < lst.length := by omega
    refine comp_invT (fun j ys nx => nx = cellsT L c5 c4 o3 c2 c1 TL ∧ StrsAre ys (overL b lst lst[i] i j)) ?turn2 ?fin2 _ 0 [] _ rfl ⟨rfl, .nil⟩
    case turn2 =>
      intro j ys nx v I2 oI2 C oC D m₂ h tk E' hj hJ104 hJ105 hC2 hx' F N off ne
      refine hide fun P9 hP9 => ?_
      obtain ⟨rfl, hys⟩ := hJ104
      obtain ⟨tj, rfl⟩ := hJ105
      clear F7 NB
      rw [Int.zero_add] at hx'
      have hjl : j < lst.length := by omega
      obtain ⟨nd, hnd⟩ : ∃ nd, lst[j]? = some nd := ⟨_, List.getElem?_eq_getElem hjl⟩
      have hdn := hdep nd (List.mem_of_getElem? hnd)
      have hdi := hdep lst[i] (List.getElem_mem hil)
      obtain ⟨tp, hvpj⟩ := are_at (strs_of hv) (i := j) (z := pathS b nd) (by rw [List.getElem?_map, hnd]; rfl)
      obtain ⟨th, hvhj⟩ := are_at (strs_of hvh) (i := j) (z := hostS b nd) (by rw [List.getElem?_map, hnd]; rfl)
      obtain ⟨tk1, hvhi⟩ := are_at (strs_of hvh) (i := i) (z := hostS b lst[i]) (by rw [List.getElem?_map, List.getElem?_eq_getElem hil]; rfl)
      refine hP9 ?_
      clear P9 hP9
      have z1 : (hostS b nd).length ≤ 500 := by have := hostL_len b nd; rw [hostS, mkS_len]; omega
      have z2 : (hostS b lst[i]).length ≤ 500 := by have := hostL_len b lst[i]; rw [hostS, mkS_len]; omega
      have hT : ∀ p ∈ tl, p ∈ cellsT L c5 c4 o3 c2 c1 TL := fun p hp => in_cells (by rw [hTL]; exact .tail _ hp)
      have N2 : News _ _ _ ((PA, listOf vp.toArray np) :: (HA, listOf vh.toArray nh) :: (L + 1 + 1 + 1 + 1 + 1, c5) :: (L + 1 + 1 + 1 + 1, c4) :: (L + 1 + 1 + 1, o3) :: (I2, oI2) :: (C, oC) :: (D, LCg.lst ys) :: cellsT L c5 c4 o3 c2 c1 TL) := cb_drop N (fun p hp => by
        rcases List.mem_cons.mp hp with rfl | hp
        · exact .tail _ (.tail _ (.tail _ (hT _ hm)))
        rcases List.mem_cons.mp hp with rfl | hp
        · exact .tail _ (.tail _ (.tail _ (hT _ hmh)))
        rcases List.mem_cons.mp hp with rfl | hp
        · exact .tail _ (.tail _ (.tail _ (.head _)))
        rcases List.mem_cons.mp hp with rfl | hp
        · exact .tail _ (.tail _ (.tail _ (.tail _ (.head _))))
        rcases List.mem_cons.mp hp with rfl | hp
        · exact .tail _ (.tail _ (.tail _ (.tail _ (.tail _ (.head _)))))
        · exact hp)
      clear N
      k_steps
      · rename (((j : Nat) : Int) = ((i : Nat) : Int)) => hji
        rename News _ _ _ _ => N9
        rename Fr _ _ _ _ => F9
        refine LCg.CompEnd.intro F9 N9 (cellsT L c5 c4 o3 c2 c1 TL) (fun p hp => .tail _ (.tail _ (.tail _ (.tail _ (.tail _ hp))))) off trivial ⟨rfl, ?_⟩
        rw [over_yes hnd (.inl (by omega))]
        exact are_app' hys (.cons _ _ .nil)
      · refine Halt.go ?_
        have hP1 : lst[i].length ≤ 100 ∧ nd.length ≤ 100 := ⟨by omega, by omega⟩
        tbr_iter (udm_host w mean mg mb b lst[i] nd)
        rename_i r9 tl9 h9 tk9 F9 N9 hl9 hs9 ho9
        rename ¬ (((j : Nat) : Int) = ((i : Nat) : Int)) => hji
        have hji' : j ≠ i := by omega
        obtain rfl : r9 = .bool (under b lst[i] nd) := by cases ho9; rfl
        have N10 : News _ _ _ ((PA, listOf vp.toArray np) :: (HA, listOf vh.toArray nh) :: (L + 1 + 1 + 1 + 1 + 1, c5) :: (L + 1 + 1 + 1 + 1, c4) :: (L + 1 + 1 + 1, o3) :: (I2, oI2) :: (C, oC) :: (D, LCg.lst ys) :: cellsT L c5 c4 o3 c2 c1 TL) := cb_drop N9 (fun p hp => List.mem_append_right _ hp)
        clear N2 N9 hl9 ho9 hs9
        cases hu : under b lst[i] nd with
        | true =>
          k_steps
          rename News _ _ _ _ => N9
          rename Fr _ _ _ _ => F9
          refine LCg.CompEnd.intro F9 N9 (cellsT L c5 c4 o3 c2 c1 TL) (fun p hp => .tail _ (.tail _ (.tail _ (.tail _ (.tail _ hp))))) off trivial ⟨rfl, ?_⟩
          rw [over_yes hnd (.inr hu)]
          exact are_app' hys (.cons _ _ .nil)
        | false =>
          k_steps
          rename News _ _ _ _ => N9
          rename Fr _ _ _ _ => F9
          refine LCg.CompEnd.intro F9 N9 (cellsT L c5 c4 o3 c2 c1 TL) (fun p hp => .tail _ (.tail _ (.tail _ (.tail _ (.tail _ hp))))) off trivial ⟨rfl, ?_⟩
          rw [over_no hnd hji' hu]
          exact hys
    case fin2 =>
      intro ys nx hJ92
      refine hide fun P9 hP9 => ?_
      obtain ⟨rfl, hys⟩ := hJ92
      refine hP9 ?_
      clear P9 hP9
      unfold LCg.FinA
      intro D5 h5 tk5 F6 N6 o5
      clear F7 NB
      have N7 : News h₀ L h5 (cellsT L c5 c4 o3 c2 c1 ((D5, LCg.lst ys) :: TL)) := news_cells (L := L) (X := [(D5, LCg.lst ys)]) N6
      clear N6
      have hvpl : vp.length + 0 = lst.length := by omega
      rw [hvpl] at hys
      have hin : ∀ {p}, p ∈ tl → p ∈ (D5, LCg.lst ys) :: TL := fun hp => by rw [hTL]; exact .tail _ (.tail _ hp)
      have hfin : ∀ (m' : Str → Option Value) (h' : Heap) (tk' : Nat), Fr h₀ L h' m' → Kn m' [(Str.ofString "rungs", .ref RA)] → News h₀ L h' (cellsT L c5 c4 o3 c2 c1 ((D5, LCg.lst ys) :: TL)) → News h₀ L h' ((I, oI) :: cellsT L c5 c4 o3 c2 c1 tl) := fun m' h' tk' F' K' N' => by
        refine cells_news (cb_drop N' (cells_mono fun p hp => ?_))
        rw [hTL]; exact .tail _ hp
      show wpAny _ _ (execs (lawFor12.drop 1) (lawE L fa cd)) _ _ _

      cases b with
      | true =>
        rw [over_t hso hil] at hys
        refine T12 G hlen hdep hil F6 N7 hc1 hc2 hk3 hc4 hc5 ⟨rfl, rfl, trivial⟩ (hin hml) (hvl.mono fun p hp => hin hp) (hin hm) (strs_of hv) (hin hmh) (strs_of hvh) (hin hmr) (hvr.mono fun p hp => hin hp) (.head _) hys fun m' h' tk' F' K' N' => ?_
        exact EndT.next F' (hfin m' h' tk' F' K' N') (cells_adr (P := fun a => a ≠ I) hI (fun p hp => hI p (in_cells hp))) (fun p e => by cases e) ⟨o3, _, rfl, hk3, K'⟩
      | false =>
        rw [over_f hcl hso hmem hil] at hys
        refine F12 G hlen hdep hil F6 N7 hc1 hc2 hk3 hc4 hc5 ⟨rfl, rfl, trivial⟩ (hin hml) (hvl.mono fun p hp => hin hp) (hin hm) (strs_of hv) (hin hmh) (strs_of hvh) (hin hmr) (hvr.mono fun p hp => hin hp) (.head _) hys fun m' h' tk' F' K' N' => ?_
        exact EndT.next F' (hfin m' h' tk' F' K' N') (cells_adr (P := fun a => a ≠ I) hI (fun p hp => hI p (in_cells hp))) (fun p e => by cases e) ⟨o3, _, rfl, hk3, K'⟩
end
section
set_option maxRecDepth 100000
set_option maxHeartbeats 8000000
local macro_rules | `(tactic| walk_at "compareOp NotEq ref ref") => `(tactic| (k_here; refine halt ?_))
local macro_rules | `(tactic| walk_at "call ref") => `(tactic| (k_here; refine halt ?_))
local macro_rules | `(tactic| walk_at "call builtin:list.append") => `(tactic| (k_here; refine halt ?_))
local macro_rules | `(tactic| walk_at "subscriptTail Subscript Slice ref ref") => `(tactic| walk_at "last subscriptTail")
local macro_rules | `(tactic| walk_at "subscriptTail Subscript Name BinOp Slice ref ref") => `(tactic| walk_at "last subscriptTail")
local macro_rules | `(tactic| walk_at "subscriptTail Name UnaryOp ref int") => `(tactic| (k_here; (with_unfolding_all refine last_led (h := ?_); k_whole)))
local macro_rules | `(tactic| walk_at "subscriptTail Subscript Name Name UnaryOp ref int") => `(tactic| (k_here; (with_unfolding_all refine last_led (h := ?_); k_whole)))
theorem allLt_to {d : Addr} {l : Led} (h : AllLt d l) : ∀ p ∈ l, p.1 < d := by
  induction l with
  | nil => intro p hp; cases hp
  | cons q r ih =>
    intro p hp
    cases hp with
    | head => exact h.1
    | tail _ hp => exact ih h.2 p hp
theorem head_ao {h₀ h : Heap} {L : Addr} {a : Addr} {o : Obj} {l : Led} (_ : News h₀ L h ((a, o) :: l)) : ∃ a' o', a' = a ∧ o' = o := ⟨_, _, rfl, rfl⟩
theorem app_led {h₀ h : Heap} {L : Addr} {q p a b c : Addr × Obj} {rest : Led} (N : News h₀ L h (q :: p :: a :: b :: c :: rest)) : News h₀ L h (p :: q :: rest) := cb_drop N fun r hr => by
  rcases List.mem_cons.mp hr with rfl | hr
  · exact .tail _ (.head _)
  rcases List.mem_cons.mp hr with rfl | hr
  · exact .head _
  · exact .tail _ (.tail _ (.tail _ (.tail _ (.tail _ hr))))
theorem at_list {h₀ h : Heap} {L : Addr} {nx : Led} {a : Addr} {vs : List Value} {n : Nat} {ds : List Dat} (_ : News h₀ L h nx) (hm : (a, listOf vs.toArray n) ∈ nx) (hd : DatAll nx vs ds) : DatIn nx (.ref a) (.list ds) := .list hm hd
theorem slice_at {h₀ h : Heap} {L D : Addr} {r : Led} {vs : List Value} {k n j : Nat} {ps qs : List Str} (_ : News h₀ L h ((D, listOf (vs.drop k).toArray n) :: r)) (hv : StrsAre vs ps) (hk : k = j) (hq : ps.drop j = qs) : DatIn ((D, listOf (vs.drop k).toArray n) :: r) (.ref D) (.list (qs.map Dat.str)) := by
  subst hk hq
  exact .list (.head _) (are_datX (are_drop hv _))
theorem one_at {h₀ h : Heap} {L D : Addr} {r : Led} {z : Str} {t : Tok} {n : Nat} (_ : News h₀ L h ((D, listOf #[Value.str z t] n) :: r)) : DatIn ((D, listOf #[Value.str z t] n) :: r) (.ref D) (.list ([z].map Dat.str)) := .list (vs := [Value.str z t]) (.head _) (.cons (.str _ _) .nil)
theorem ok_rdrop (b : Bool) (n : Node) (k : Nat) : ∀ d ∈ ((rungsL b n).drop k).map Dat.str, kqdOk 8 d = true := by
  intro d hd
  obtain ⟨z, hz, rfl⟩ := List.mem_map.mp hd
  exact ok_rungs b n _ (List.mem_map_of_mem (List.mem_of_mem_drop hz))
theorem ok_one (b : Bool) (n : Node) : ∀ d ∈ [pathS b n].map Dat.str, kqdOk 8 d = true := by
  intro d hd
  rw [List.map_singleton, List.mem_singleton] at hd
  subst hd
  exact ok_path b n
theorem iv_sld {nx : Led} {r : Value} {xs ys : List Dat} {P : Value → Prop} (h : DatIn nx r (.tuple [.list xs, .list ys]))
    (H : ∀ T am af n vm nm vf nf, (T, ({ cls := .type "tuple", data := .seq (List.toArray [Value.ref am, Value.ref af]) n } : Obj)) ∈ nx → (am, listOf vm.toArray nm) ∈ nx → DatAll nx vm xs → (af, listOf vf.toArray nf) ∈ nx → DatAll nx vf ys → P (.ref T)) : P r :=
  ivt h fun T ws n hm hd => by
    revert hm
    exact iv2ll (R := fun ws => (T, ({ cls := .type "tuple", data := .seq ws.toArray n } : Obj)) ∈ nx → P (.ref T)) hd fun a vs k c us l h1 h2 h3 h4 hm => H T a c n vs k us l hm h1 h2 h3 h4
theorem PH13 {w : World} {mean : ExcName → Option Value} {mg mb : Str → Option Value} {h₀ : Heap} {L fa : Addr} {cd : Value} (G : LawG w mean mg mb h₀ L) {b : Bool} {lst nodes : List Node} (hlen : lst.length ≤ 6) (hdep : ∀ n ∈ lst, n.length ≤ 5) (hcl : Closed nodes) (hso : Sorted lst) (hmem : ∀ x, x ∈ lst ↔ x ∈ nodes) {Q : Flow → Shared → Prop} {s : Shared} {m : Str → Option Value} {LA PA HA RA : Addr} {c5 c4 c3 c2 c1 : Obj} {tl : Led} {v3 : Option Value} {t1 : Tok}
    (F : Fr h₀ L s.heap m) (N : News h₀ L s.heap (cellsT L c5 c4 c3 c2 c1 tl)) (hC : IsC c5 c4 c3 c2 c1) (htl : ∀ p ∈ tl, Apt L p.1) (hc1 : c1.data = .cell (some (.str (topS b) t1))) (hc2 : c2.data = .cell (some (.ref LA))) (hc3 : c3.data = .cell v3) (hc4 : c4.data = .cell (some (.ref PA))) (hc5 : c5.data = .cell (some (.ref HA)))
    (hkn : Kn m [(Str.ofString "rungs", .ref RA)]) (Dl : DatIn tl (.ref LA) (dLL (nSS lst))) (Dp : DatIn tl (.ref PA) (dS (lst.map (pathS b)))) (Dr : DatIn tl (.ref RA) (dLL (lst.map (rungsL b))))
    (next : ∀ PR tl' c3' v3' m' h' tk', c3'.data = .cell v3' → Fr h₀ L h' m' → Kn m' [(Str.ofString "pairs", .ref PR)] → News h₀ L h' (cellsT L c5 c4 c3' c2 c1 tl') → (∀ p ∈ tl, p ∈ tl') → (∀ p ∈ tl', Apt L p.1) → DatIn tl' (.ref PR) (.list ((psL lst).map prD)) →
      wpAny (model Challenge.rw_pd0179_01.prog w) (lawA L fa cd) (execs (lawBody.drop 15) (lawE L fa cd)) Q noE { s with heap := h', toks := tk' }) :
    wpAny (model Challenge.rw_pd0179_01.prog w) (lawA L fa cd) (execs (lawBody.drop 13) (lawE L fa cd)) Q noE s := by
  show wpAny _ (callerA.deeper (envOfC _ (Scope.mk _ _ _ _ _) _ _ _)) (execs (_ :: _ :: List.drop 15 lawBody) (envOfC _ (Scope.mk _ _ _ _ _) _ _ _)) _ _ _
  refine law_let ?_; intro Mk vk Ak hA1 hA2 hA3 hA4
  generalize List.drop 15 lawBody = rest at next ⊢
  have X := G.X
  have T := G.T
  have B := G.B
  refine hide fun P9 hP9 => ?_
  obtain ⟨lo1, lo2⟩ := G.lo
  have F1 := hkn.fr F
  dsimp only [kstB] at F1
  clear F
  cases Dp with | list hm hv => ?_
  rename_i vp np
  have hvp : vp.length = lst.length := by have := hv.length; simpa using this
  have hvp6 : vp.length ≤ 6 := by omega
  cases Dl with | list hml hvl => ?_
  rename_i vl nl
  have hvll : vl.length = lst.length := by have := hvl.length; simpa [nSS] using this
  cases Dr with | list hmr hvr => ?_
  refine hP9 ?_
  clear P9 hP9
  rename_i vr nr
  have hvrl : vr.length = lst.length := by have := hvr.length; simpa using this
  have N0 := news_dup N (in_cells hm)
  clear N
  revert X
  k_fill
  intro X
  k_steps
  rename News _ _ _ _ => N1
  rename Fr _ _ _ _ => F2
  rename IsRange _ _ _ _ _ _ _ _ => R1
  refine hide fun P9 hP9 => ?_
  obtain ⟨PR, ePR⟩ := head_a N1
  subst ePR
  refine hP9 ?_
  clear P9 hP9
  rename PA < PR ∧ _ => ll

  have NB : News h₀ L _ (cellsT L c5 c4 c3 c2 c1 ((PR, listOf ([] : List Value).toArray 0) :: tl)) := news_cells (L := L) (X := [(PR, listOf ([] : List Value).toArray 0)]) (cb_drop N1 (fun p hp => by
    rcases List.mem_cons.mp hp with rfl | hp
    · exact .head _
    · exact .tail _ (.tail _ hp)))
  clear N1
  refine iter_rangeP (n := vp.length - 1) (fun i m nx => ∃ c3' v3' vq nq tq, nx = cellsT L c5 c4 c3' c2 c1 ((PR, listOf vq.toArray nq) :: (tq ++ tl)) ∧ c3'.data = .cell v3' ∧ Kn m [(Str.ofString "rungs", .ref RA), (Str.ofString "pairs", .ref PR)] ∧ (∀ p ∈ tq, Apt L p.1 ∧ p.1 ≠ PR) ∧ DatAll tq vq (((psL lst).take i).map prD)) rfl R1 (range_small1 _ (by omega)) (range_size1 _) F2 NB (fun _ _ _ _ h => go_name) ⟨c3, v3, [], 0, [], rfl, hc3, ⟨rfl, rfl, trivial⟩, (fun p hp => nomatch hp), .nil⟩ ?turn ?done
  case done =>
    intro m₁ nx h tk hJ94 F3 N3
    refine hide fun P9 hP9 => ?_
    obtain ⟨c3', v3', vq, nq, tq, rfl, hc3', hkn', htq, hdq⟩ := hJ94
    refine hP9 ?_
    clear P9 hP9
    rw [List.take_of_length_le (by rw [psL_len]; omega)] at hdq
    refine next PR _ c3' v3' m₁ h tk hc3' F3 ⟨hkn'.2.1, trivial⟩ N3 (fun p hp => .tail _ (List.mem_append_right _ hp)) ?_ (.list (.head _) (hdq.mono fun p hp => .tail _ (List.mem_append_left _ hp)))
    intro p hp
    rcases List.mem_cons.mp hp with rfl | hp
    · exact Apt.gt ll.2.1
    rcases List.mem_append.mp hp with hp | hp
    · exact (htq p hp).1
    · exact htl p hp
  case turn =>
    intro I i ti m₁ nx h tk oI hoI hltI hi hJ101 hI F3 N3
    refine hide fun P9 hP9 => ?_
    obtain ⟨c3', v3', vq, nq, tq, rfl, hc3', hkn', htq, hdq⟩ := hJ101
    refine hP9 ?_
    clear P9 hP9
    rw [show (1 : Int) + (i : Int) = ((i + 1 : Nat) : Int) by omega]
    have hlI : @LT.lt Nat _ (L + 1 + 1 + 1 + 1 + 1) I := hltI _ (.head _)
    have aI : Apt L I := Apt.gt hlI
    have aP : Apt L PR := Apt.gt ll.2.1
    refine hide fun P9 hP9 => ?_
    obtain ⟨TL, hTL⟩ : ∃ TL, TL = (I, oI) :: (PR, listOf vq.toArray nq) :: (tq ++ tl) := ⟨_, rfl⟩
    have N4 := news_cells (L := L) (X := [(I, oI)]) N3
    dsimp only [List.singleton_append] at N4
    rw [← hTL] at N4
    have hA : ∀ p ∈ TL, Apt L p.1 := by rw [hTL]; exact fc aI (fc aP (Mine.fa (fun p hp => (htq p hp).1) htl))
    have hin : ∀ {p}, p ∈ tl → p ∈ TL := fun hp => by rw [hTL]; exact .tail _ (.tail _ (List.mem_append_right _ hp))
    have hn3 : ∀ p ∈ TL, p.1 ≠ L + 1 + 1 + 1 := fun p hp => (hA p hp).1
    obtain ⟨p, x, sfx, e1, e2, e3⟩ := prev_is hcl hso hmem (k := i) (by omega)
    have hi1 : i < lst.length := by omega
    have hi2 : i + 1 < lst.length := by omega
    obtain ⟨a1, hvr1⟩ : ∃ a1, vr[(((i + 1 : Nat) : Int) - 1).toNat]? = some a1 := by
      rw [show (((i + 1 : Nat) : Int) - 1).toNat = i by omega]
      exact ⟨_, List.getElem?_eq_getElem (by omega)⟩
    obtain ⟨a2, hvr2⟩ : ∃ a2, vr[i + 1]? = some a2 := ⟨_, List.getElem?_eq_getElem (by omega)⟩
    have hvr1' := hvr1
    rw [show (((i + 1 : Nat) : Int) - 1).toNat = i by omega] at hvr1'
    obtain ⟨z1, hz1, D1⟩ := row_get hvr hvr1'
    obtain ⟨z2, hz2, D2⟩ := row_get hvr hvr2
    obtain rfl : rungsL b (p ++ sfx) = z1 := by rw [List.getElem?_map, List.getElem?_eq_getElem hi1, e2] at hz1; exact Option.some.inj hz1
    obtain rfl : rungsL b (p ++ [x]) = z2 := by rw [List.getElem?_map, List.getElem?_eq_getElem hi2, e1] at hz2; exact Option.some.inj hz2
    obtain ⟨b1, rfl⟩ := dat_ref D1
    obtain ⟨b2, rfl⟩ := dat_ref D2
    refine hP9 ?_
    clear P9 hP9
    have N5 := news_cells (L := L) (X := [(RA, listOf vr.toArray nr)]) (news_dup N4 (in_cells (hin hmr)))
    dsimp only [List.singleton_append] at N5
    have hRA : @Ne Nat RA (L + 1 + 1 + 1) := (htl _ hmr).1
    have F4 := hkn'.fr F3
    dsimp only [kstB] at F4
    clear R1 F2 NB N3 F3 N4
    k_steps
    refine Halt.go ?_
    rename News _ _ _ _ => N6
    rename Fr _ _ _ _ => F6
    refine hide fun P9 hP9 => ?_
    obtain ⟨o3, eo3⟩ := third_o N6
    subst eo3
    refine hP9 ?_
    clear P9 hP9
    rename Obj.data _ = Data.cell (some (Value.int _ ti)) => hk3
    have hnd := rungs_nodup b p sfx x (e3.imp id fun ⟨y, t, h1, h2⟩ => ⟨y, t, h1, fun e => by subst e; exact Nat.lt_irrefl _ h2⟩)
    have hdp1 := hdep _ (List.getElem_mem hi1)
    rw [e2, List.length_append] at hdp1
    rw [rungs_split] at D1 hnd
    rw [rungs_snoc] at D2
    have hCne : rungsL b p ≠ [] := fun h => by have := congrArg List.length h; rw [rungs_len] at this; simp at this
    have hz9 : (rungsL b p).length + ((rungsL b (p ++ sfx)).drop (p.length + 1)).length ≤ 100 := by
      rw [List.length_drop, rungs_len, rungs_len, List.length_append]; omega
    have D1' := dat_at N6 D1 (fun q hq => in_cells (.tail _ (hin hq)))
    have D2' := dat_at N6 D2 (fun q hq => in_cells (.tail _ (hin hq)))
    refine DT1.use (sld_DT w mean mg mb (rungsL b p) ((rungsL b (p ++ sfx)).drop (p.length + 1)) (pathS b (p ++ [x])) hCne hz9 hnd) rfl rfl rfl rfl (by omega) (by omega) F6 X N6 T (.cons D1' (.cons D2' .nil)) ?_
    intro r9 tl9 h9 tk9 F9 N9 hl9 ho9
    clear D1' D2' N6 F6
    revert hl9
    apply iv_sld ho9; intro at9 am af nt9 vm nm vf nf hm9 hmm hvm hmf hvf hl9
    refine hide fun P9 hP9 => ?_
    obtain ⟨vj, hvlj⟩ : ∃ vj, vl[i + 1]? = some vj := ⟨_, List.getElem?_eq_getElem (by omega)⟩
    obtain ⟨xs, hxs, Dv⟩ := row_get hvl hvlj
    obtain ⟨nd', hnd', rfl⟩ := nss_get hxs
    obtain rfl : p ++ [x] = nd' := by rw [List.getElem?_eq_getElem hi2, e1] at hnd'; exact Option.some.inj hnd'
    cases Dv with | list hmj hvj => ?_
    rename_i aj us nj
    have huj : us.length = p.length + 1 := by have := hvj.length; simpa using this
    obtain ⟨tp, hvpi⟩ := are_at (strs_of hv) (i := i + 1) (z := pathS b (p ++ [x])) (by rw [List.getElem?_map, List.getElem?_eq_getElem hi2, e1]; rfl)
    have hq : ∀ {q}, q ∈ cellsT L c5 c4 o3 c2 c1 ((RA, listOf vr.toArray nr) :: TL) → q ∈ tl9 ++ cellsT L c5 c4 o3 c2 c1 ((RA, listOf vr.toArray nr) :: TL) := fun h => List.mem_append_right _ h
    cases D1 with | list hm1 hv1 => ?_
    refine hP9 ?_
    clear P9 hP9
    rename_i v1 n1
    have hv1l : v1.length = p.length + sfx.length + 1 := by have := hv1.length; rw [List.length_map, ← rungs_split, rungs_len, List.length_append] at this; exact this
    have N10 : News h₀ L h9 ((at9, ({ cls := .type "tuple", data := .seq (List.toArray [Value.ref am, Value.ref af]) nt9 } : Obj)) :: (am, listOf vm.toArray nm) :: (af, listOf vf.toArray nf) :: (b1, listOf v1.toArray n1) :: (RA, listOf vr.toArray nr) :: (LA, listOf vl.toArray nl) :: (PA, listOf vp.toArray np) :: (aj, listOf us.toArray nj) :: cellsT L c5 c4 o3 c2 c1 TL) := cb_drop N9 (fc hm9 (fc hmm (fc hmf (fc (hq (in_cells (.tail _ (hin hm1)))) (fc (hq (in_cells (.head _))) (fc (hq (in_cells (.tail _ (hin hml)))) (fc (hq (in_cells (.tail _ (hin hm)))) (fc (hq (in_cells (.tail _ (hin hmj)))) fun q hq' => hq (cells_mono (fun p hp => .tail _ hp) q hq')))))))))
    clear N9
    (try dsimp only)
    clear hz9 hnd hCne hz1 hz2
    k_steps
    refine Halt.go ?_
    rename News _ _ _ _ => N11
    have hdr : List.drop (p.length + 1) (rungsL b p ++ List.drop (p.length + 1) (rungsL b (p ++ sfx))) = List.drop (p.length + 1) (rungsL b (p ++ sfx)) := by
      rw [← rungs_split]
    have Dm := at_list N11 (by tb_src) (are_datX (news := _) (dat_are hvm))
    have Ds := slice_at N11 (dat_are hv1) huj hdr
    refine ne_same N11 Dm Ds (ok_rdrop b _ _) (by ((try simp only [units_in1, units_deeper, Around.mark_units, units_caller]); omega)) ?_
    clear Dm Ds
    k_steps
    refine Halt.go ?_
    rename News _ _ _ _ => N12
    have Df := at_list N12 (by tb_src) (are_datX (news := _) (dat_are hvf))
    have Dp1 := one_at N12
    refine ne_same N12 Df Dp1 (ok_one b _) (by ((try simp only [units_in1, units_deeper, Around.mark_units, units_caller]); omega)) ?_
    clear Df Dp1
    have hne : ∀ q ∈ (I, oI) :: (tq ++ tl), q.1 ≠ PR := fc (hI _ (in_cells (.head _))).symm (Mine.fa (fun q hq => (htq q hq).2) fun q hq => Nat.ne_of_lt (allLt_to ll.2.2.2.2.2.2.2.2 q hq))
    have hvml : vm.length = sfx.length := by have := hvm.length; rw [List.length_map, List.length_drop, rungs_len, List.length_append] at this; omega
    refine hide fun P9 hP9 => ?_
    obtain ⟨tL, hlast⟩ := are_last (vs := us) (ps := nS p) (z := x.str) (by have h := dat_are hvj; rw [nS, List.map_append] at h; exact h)
    refine hP9 ?_
    clear P9 hP9
    have N13 : News h₀ L _ ((PR, listOf vq.toArray nq) :: (LA, listOf vl.toArray nl) :: (aj, listOf us.toArray nj) :: (am, listOf vm.toArray nm) :: cellsT L c5 c4 o3 c2 c1 ((I, oI) :: (tq ++ tl))) := cb_drop N12 (fc (by
      have h : (PR, listOf vq.toArray nq) ∈ cellsT L c5 c4 o3 c2 c1 TL := in_cells (by rw [hTL]; exact .tail _ (.head _))
      repeat (first | exact h | apply List.Mem.tail)) (fc (by tb_src) (fc (by tb_src) (fc (by tb_src) fun q hq' => by
      have h := cells_mono (L := L) (c5 := c5) (c4 := c4) (c3 := o3) (c2 := c2) (c1 := c1) (tl' := TL) (by rw [hTL]; exact fc (.head _) fun p hp => .tail _ (.tail _ hp)) q hq'
      repeat (first | exact h | apply List.Mem.tail)))))
    clear N12
    k_steps
    refine Halt.go ?_
    rename News _ _ _ _ => N14
    rename Fr _ _ _ _ => F14
    refine hide fun P9 hP9 => ?_
    obtain ⟨NT, oT, eNT, eoT⟩ := head_ao N14
    subst eNT
    refine hP9 ?_
    clear P9 hP9
    rename PR < NT ∧ _ => lN
    rw [← eoT] at N14
    rw [hvml, fig_str (n := sfx.length) (by omega)] at eoT
    have hlNT : @LT.lt Nat _ (L + 1 + 1 + 1 + 1 + 1) NT := lN.2.2.2.2.1
    have hlPN : @LT.lt Nat _ PR NT := lN.1
    have hlPR : @LT.lt Nat _ (L + 1 + 1 + 1 + 1 + 1) PR := ll.2.1
    have hINT : @LT.lt Nat _ I NT := lN.2.2.2.2.2.2.2.2.2.2.2.1
    have hneP : ∀ q ∈ (NT, oT) :: cellsT L c5 c4 o3 c2 c1 ((I, oI) :: (tq ++ tl)), q.1 ≠ PR :=
      fc (Nat.ne_of_gt hlPN) (show ∀ q ∈ cellsL L c5 c4 o3 c2 c1 ++ (I, oI) :: (tq ++ tl), q.1 ≠ PR from Mine.fa (cells_ne ⟨lo1, lo2⟩ hlPR) hne)
    refine append_led F14 (app_led N14) (.head hneP) (by have := hdq.length; simp [psL_len] at this; omega) ?_
    intro h8 n8 F15 N15
    clear N14 F14
    (try dsimp only)
    k_steps
    have hpsi : (psL lst).take (i + 1) = (psL lst).take i ++ [(x, sfx.length)] := by
      rw [List.take_add_one, psL_get hi2 (by rw [List.getElem?_eq_getElem hi1, e2]) (by rw [List.getElem?_eq_getElem hi2, e1])]; rfl
    refine EndT.next F15 (nx := cellsT L c5 c4 o3 c2 c1 ((PR, listOf (vq ++ [Value.ref NT]).toArray n8) :: (((NT, oT) :: tq) ++ tl))) (cb_drop N15 ?_) ?_ (fun p e => by cases e) ⟨o3, _, vq ++ [Value.ref NT], n8, (NT, oT) :: tq, rfl, hk3, ⟨rfl, rfl, trivial⟩, ?_, ?_⟩
    · intro q hq
      rcases List.mem_cons.mp hq with rfl | hq
      · exact .tail _ (.tail _ (in_cells (.head _)))
      have h1 : q ∈ cellsL L c5 c4 o3 c2 c1 ++ (PR, listOf (vq ++ [Value.ref NT]).toArray n8) :: (NT, oT) :: (tq ++ tl) := hq
      rcases List.mem_append.mp h1 with h | h
      · exact .tail _ (.tail _ (List.mem_append_left _ h))
      rcases List.mem_cons.mp h with rfl | h
      · exact .head _
      rcases List.mem_cons.mp h with rfl | h
      · exact .tail _ (.head _)
      · exact .tail _ (.tail _ (in_cells (.tail _ h)))
    · refine cells_adr (P := fun a => a ≠ I) hI fun q hq => ?_
      rcases List.mem_cons.mp hq with rfl | hq
      · exact hI (PR, listOf vq.toArray nq) (in_cells (.head _))
      rcases List.mem_cons.mp hq with rfl | hq
      · exact Nat.ne_of_gt hINT
      · exact hI q (in_cells (.tail _ hq))
    · intro q hq
      rcases List.mem_cons.mp hq with rfl | hq
      · exact ⟨Apt.gt hlNT, Nat.ne_of_gt hlPN⟩
      · exact htq q hq
    · rw [hpsi, List.map_append]
      refine (hdq.mono fun q hq => .tail _ hq).append (.cons ?_ .nil)
      rw [eoT]
      exact .tuple (vs := [_, _]) (.head _) (.cons (.str _ _) (.cons (.str _ _) .nil))
end
section
set_option maxRecDepth 100000
set_option maxHeartbeats 8000000
local macro_rules | `(tactic| walk_at "call ref") => `(tactic| (k_here; refine halt ?_))
local macro_rules | `(tactic| walk_at "CompSrc") => `(tactic| (k_here; refine halt ?_))
local macro_rules | `(tactic| walk_at "compareOp Eq ref ref") => `(tactic| (k_here; refine halt ?_))
local macro_rules | `(tactic| walk_at "subscriptTail Subscript Slice ref ref") => `(tactic| walk_at "last subscriptTail")
local macro_rules | `(tactic| walk_at "subscriptTail Name UnaryOp ref int") => `(tactic| (k_here; (with_unfolding_all refine last_led (h := ?_); k_whole)))
local macro_rules | `(tactic| walk_at "subscriptTail Subscript Name Name UnaryOp ref int") => `(tactic| (k_here; (with_unfolding_all refine last_led (h := ?_); k_whole)))
theorem pairs_at {h₀ h : Heap} {L a : Addr} {v : Value} {n : Nat} {l : Led} {d : Dat} (_ : News h₀ L h ((a, listOf #[v] n) :: l)) (hd : DatIn ((a, listOf #[v] n) :: l) v d) : DatAll ((a, listOf #[v] n) :: l) [Value.ref a] [.list [d]] := .cons (.list (vs := [v]) (.head _) (.cons hd .nil)) .nil
theorem due_is (x : Nm) (n : Nat) : x.str ++ Str.ofString "=" ++ figS n = itS (x, n) := by
  rw [show Str.ofString "=" = mkS [61] by decide +kernel, Nm.str, app_mk, app_mk, itS, itL]
  simp
theorem PH15 {w : World} {mean : ExcName → Option Value} {mg mb : Str → Option Value} {h₀ : Heap} {L fa : Addr} {cd : Value} (G : LawG w mean mg mb h₀ L) {b : Bool} {lst nodes : List Node} (hlen : lst.length ≤ 6) (hdep : ∀ n ∈ lst, n.length ≤ 5) (hcl : Closed nodes) (hso : Sorted lst) (hmem : ∀ x, x ∈ lst ↔ x ∈ nodes) (h0 : lst[0]? = some []) {Q : Flow → Shared → Prop} {s : Shared} {m : Str → Option Value} {LA PA PR : Addr} {c5 c4 c3 c2 c1 : Obj} {tl : Led} {t1 : Tok}
    (F : Fr h₀ L s.heap m) (N : News h₀ L s.heap (cellsT L c5 c4 c3 c2 c1 tl)) (hC : IsC c5 c4 c3 c2 c1) (htl : ∀ p ∈ tl, Apt L p.1) (hc1 : c1.data = .cell (some (.str (topS b) t1))) (hc2 : c2.data = .cell (some (.ref LA))) (hc4 : c4.data = .cell (some (.ref PA)))
    (hkn : Kn m [(Str.ofString "pairs", .ref PR)]) (Dl : DatIn tl (.ref LA) (dLL (nSS lst))) (Dp : DatIn tl (.ref PA) (dS (lst.map (pathS b)))) (Dr : DatIn tl (.ref PR) (.list ((psL lst).map prD)))
    (fin : ∀ h tk m, Fr h₀ L h m → News h₀ L h [(178, tabObj #[]), (195, tabObj #[])] → Q (.ret (.bool true)) { s with heap := h, toks := tk }) :
    wpAny (model Challenge.rw_pd0179_01.prog w) (lawA L fa cd) (execs (lawBody.drop 15) (lawE L fa cd)) Q noE s := by
  show wpAny _ (callerA.deeper (envOfC _ (Scope.mk _ _ _ _ _) _ _ _)) (execs [_, _, _] (envOfC _ (Scope.mk _ _ _ _ _) _ _ _)) _ _ _
  refine law_let ?_; intro Mk vk Ak hA1 hA2 hA3 hA4
  have X := G.X
  have T := G.T
  have B := G.B
  refine hide fun P9 hP9 => ?_
  obtain ⟨lo1, lo2⟩ := G.lo
  have F1 := hkn.fr F
  dsimp only [kstB] at F1
  clear F
  have hps := ps_ok hdep hcl hso hmem
  have hst := ps_stp hcl hso hmem
  have hpl := psL_len lst
  have Dl' := Dl
  have Dp' := Dp
  cases Dl with | list hml hvl => ?_
  refine hP9 ?_
  clear P9 hP9
  rename_i vl nl
  have hvll : vl.length = lst.length := by have := hvl.length; simpa [nSS] using this
  have hvl6 : vl.length ≤ 6 := by omega
  revert X
  k_fill
  intro X
  k_steps
  refine Halt.go ?_
  rename News _ _ _ _ => N1
  rename Fr _ _ _ _ => F2
  have D1 := pairs_at N1 (Dr.mono fun p hp => .tail _ (in_cells hp))
  tbr_iter (jhw_DT w mean mg mb (psL lst))
  rename_i r9 tl9 h9 tk9 F9 N9 hl9 hs9 ho9
  refine hide fun P9 hP9 => ?_
  obtain ⟨t9, rfl⟩ : ∃ t, r9 = .str (mkS (hdrL (psL lst))) t := by cases ho9; exact ⟨_, rfl⟩
  refine hP9 ?_
  clear P9 hP9
  have N2 : News h₀ L h9 ((LA, listOf vl.toArray nl) :: cellsT L c5 c4 c3 c2 c1 tl) := cb_drop N9 (fun p hp => List.mem_append_right _ (.tail _ (by
    rcases List.mem_cons.mp hp with rfl | hp
    · exact in_cells hml
    · exact hp)))
  clear D1 N1 N9 hl9 hs9 ho9
  k_steps
  refine Halt.go ?_
  rename News _ _ _ _ => N5
  rename Fr _ _ _ _ => F5
  rename IsRange _ _ _ _ _ _ _ _ => R5
  have NB : News _ _ _ (cellsT L c5 c4 c3 c2 c1 tl) := cb_drop N5 (fun p hp => .tail _ hp)
  clear N5
  refine LCg.CompSrc.range rfl F5 NB R5 (range_small1 _ (by omega)) (range_size1 _) (by rw [sizeLine_eq]; omega) ?_
  intro gg
  refine comp_dat (((psL lst).map itS).map .str) (by simp [psL_len]; omega) ?turn1 ?fin1
  case turn1 =>
    intro j ys nx v I2 oI2 C oC D m₂ h tk E' d hd hsb hds hP hC2 hx' F N off ne
    clear F5 NB
    refine hide fun P9 hP9 => ?_
    obtain ⟨tj, rfl⟩ := hP
    rw [show (1 : Int) + (j : Int) = ((j + 1 : Nat) : Int) by omega] at hx'
    have hjl : j + 1 < lst.length := by
      have := (List.getElem?_eq_some_iff.mp hd).1
      simp [psL_len] at this
      omega
    obtain ⟨p, sfx, x, e1, e2, e3, e4⟩ := ps_all hcl hso hmem hjl
    obtain rfl : d = .str (itS (x, sfx.length)) := by rw [List.getElem?_map, List.getElem?_map, e4] at hd; exact (Option.some.inj hd).symm
    have hdp := hdep _ (List.mem_of_getElem? e1)
    rw [List.length_append] at hdp
    obtain ⟨v1, hvl1⟩ : ∃ v1, vl[j]? = some v1 := ⟨_, List.getElem?_eq_getElem (by omega)⟩
    obtain ⟨v2, hvl2⟩ : ∃ v2, vl[j + 1]? = some v2 := ⟨_, List.getElem?_eq_getElem (by omega)⟩
    obtain ⟨xs1, hxs1, Dv1⟩ := row_get hvl hvl1
    obtain ⟨nd1, hnd1, rfl⟩ := nss_get hxs1
    obtain ⟨xs2, hxs2, Dv2⟩ := row_get hvl hvl2
    obtain ⟨nd2, hnd2, rfl⟩ := nss_get hxs2
    rw [e1] at hnd1
    rw [e2] at hnd2
    cases hnd1
    cases hnd2
    cases Dv1 with | list hm1 hv1 => ?_
    rename_i a1 us1 n1
    cases Dv2 with | list hm2 hv2 => ?_
    rename_i a2 us2 n2
    have hvl1' : vl[(((j + 1 : Nat) : Int) - 1).toNat]? = some (.ref a1) := by
      rw [show (((j + 1 : Nat) : Int) - 1).toNat = j by omega]
      exact hvl1
    have hu1 : us1.length = p.length + sfx.length := by have := hv1.length; simpa using this
    have hu2 : us2.length = p.length + 1 := by have := hv2.length; simpa using this
    obtain ⟨tL, hlast⟩ := are_last (vs := us2) (ps := nS p) (z := x.str) (by have h := dat_are hv2; rw [nS, List.map_append] at h; exact h)
    refine hP9 ?_
    clear P9 hP9
    have z1 : x.str.length ≤ 10 := by have := x.len; rw [Nm.str, mkS_len]; omega
    have k1 := hsb _ (in_cells hml)
    have k2 := hsb _ (in_cells hm2)
    have k3 := hsb _ (in_cells hm1)
    have k4 := hsb _ (.tail _ (.tail _ (.tail _ (.head _))))
    have N2 : News _ _ _ ((LA, listOf vl.toArray nl) :: (a2, listOf us2.toArray n2) :: (a1, listOf us1.toArray n1) :: (L + 1 + 1, c2) :: (I2, oI2) :: (C, oC) :: (D, LCg.lst ys) :: nx) := cb_drop N (fun p hp => by
      rcases List.mem_cons.mp hp with rfl | hp
      · exact .tail _ (.tail _ (.tail _ k1))
      rcases List.mem_cons.mp hp with rfl | hp
      · exact .tail _ (.tail _ (.tail _ k2))
      rcases List.mem_cons.mp hp with rfl | hp
      · exact .tail _ (.tail _ (.tail _ k3))
      rcases List.mem_cons.mp hp with rfl | hp
      · exact .tail _ (.tail _ (.tail _ k4))
      · exact hp)
    clear N k1 k2 k3 k4 hxs1 hxs2
    k_steps
    have e9 : x.str ++ Str.ofString "=" ++ Str.ofString (toString ((us1.length : Int) + 1 - (us2.length : Int))) = itS (x, sfx.length) := by
      rw [show ((us1.length : Int) + 1 - (us2.length : Int)) = ((sfx.length : Nat) : Int) by omega, fig_str (by omega)]
      exact due_is x _
    rw [e9]
    refine cend_flat F N2 (fun p hp => .tail _ (.tail _ (.tail _ (.tail _ hp)))) off trivial hsb hds hd (.str _ _)
  case fin1 =>
    intro ys nx hsb hds
    unfold LCg.FinA
    intro D5 h5 tk5 F6 N6 o5
    clear F5 NB
    have hys : StrsAre ys ((psL lst).map itS) := dat_are hds
    have jw := itS_w (psL lst) (by omega)
    have N7 : News h₀ L h5 ((D5, LCg.lst ys) :: (L + 1 + 1 + 1 + 1, c4) :: (L + 1, c1) :: cellsT L c5 c4 c3 c2 c1 tl) := cb_drop N6 (fun p hp => by
      rcases List.mem_cons.mp hp with rfl | hp
      · exact .head _
      rcases List.mem_cons.mp hp with rfl | hp
      · exact .tail _ (hsb _ (.tail _ (.head _)))
      rcases List.mem_cons.mp hp with rfl | hp
      · exact .tail _ (hsb _ (.tail _ (.tail _ (.tail _ (.tail _ (.head _))))))
      · exact .tail _ (hsb _ hp))
    clear N6
    k_steps
    · refine Halt.go ?_
      have hl1 : 0 < lst.length := (List.getElem?_eq_some_iff.mp h0).1
      have hpre : (∀ k q, (psL lst)[k]? = some q → ∃ prev next, lst[k]? = some prev ∧ lst[k + 1]? = some next ∧ Stp prev next q) ∧ lst[0]? = some [] ∧ lst.length = (psL lst).length + 1 ∧ (psL lst).length ≤ 6 ∧ (∀ n ∈ lst, n.length ≤ 6) := ⟨hst, h0, by rw [psL_len]; omega, by omega, fun n hn => Nat.le_succ_of_le (hdep n hn)⟩
      tbr_iter (read_DT w mean mg mb b lst (psL lst))
      rename_i r9 tl9 h9 tk9 F9 N9 hl9 hs9 ho9
      refine hide fun P9 hP9 => ?_
      obtain ⟨a9, rfl⟩ := dat_ref ho9
      refine hP9 ?_
      clear P9 hP9
      clear N7
      k_steps
      refine Halt.go ?_
      rename News _ _ _ _ => N10
      rename Fr _ _ _ _ => F10
      refine eq_same N10 ho9 (dat_at N10 Dp' (fun p hp => List.mem_append_right _ (.tail _ (.tail _ (.tail _ (in_cells hp)))))) (ok_paths b lst) (by ((try simp only [units_in1, units_deeper, Around.mark_units, units_caller]); omega)) ?_
      exact fin _ _ _ F10 (cb_drop N10 (fun p hp => List.mem_append_right _ (.tail _ (.tail _ (.tail _ (by
        rcases List.mem_cons.mp hp with rfl | hp
        · exact .tail _ (.tail _ (.tail _ (.tail _ (.tail _ (.head _)))))
        rcases List.mem_cons.mp hp with rfl | hp
        · exact .tail _ (.tail _ (.tail _ (.tail _ (.tail _ (.tail _ (.head _))))))
        · cases hp))))))
    · rename (_ == _) = false => hb
      rw [hdr_is] at hb
      simp at hb
end
section
set_option maxRecDepth 100000
set_option maxHeartbeats 8000000
theorem nodup_le : ∀ {l k : List Node}, l.Nodup → (∀ x ∈ l, x ∈ k) → l.length ≤ k.length := by
  intro l
  induction l with
  | nil => intro k _ _; exact Nat.zero_le _
  | cons x r ih =>
    intro k hn hs
    obtain ⟨a, c, rfl⟩ := List.append_of_mem (hs x (.head _))
    have hx := List.nodup_cons.mp hn
    have := ih (k := a ++ c) hx.2 fun y hy => by
      have h1 := hs y (.tail _ hy)
      rcases List.mem_append.mp h1 with h | h
      · exact List.mem_append_left _ h
      rcases List.mem_cons.mp h with rfl | h
      · exact absurd hy hx.1
      · exact List.mem_append_right _ h
    simp only [List.length_append, List.length_cons] at this ⊢
    omega
theorem first_is {lst : List Node} (hs : Sorted lst) (h0 : [] ∈ lst) : lst[0]? = some [] := by
  cases lst with
  | nil => cases h0
  | cons x r =>
    rcases List.mem_cons.mp h0 with e | h
    · rw [← e]; rfl
    · have := (List.pairwise_cons.mp hs).1 _ h
      cases x with
      | nil => rfl
      | cons y t => exact this.elim
theorem PHall {w : World} {mean : ExcName → Option Value} {mg mb : Str → Option Value} {h₀ : Heap} {L fa : Addr} {cd : Value} (G : LawG w mean mg mb h₀ L) {b : Bool} {ns : List Int} (hns : ns.length ≤ 5) {Q : Flow → Shared → Prop} {s : Shared} {m : Str → Option Value} {D ND E0 : Addr} {t : Tok} {ws : List Value} {kw kn ke : Nat} {c5 c4 c3 c2 c1 : Obj} {v5 v4 v3 v2 : Option Value}
    (F : Fr h₀ L s.heap m) (N : News h₀ L s.heap ((ND, listOf [Value.ref E0].toArray kn) :: (E0, listOf ([] : List Value).toArray ke) :: (D, listOf ws.toArray kw) :: cellsL L c5 c4 c3 c2 c1))
    (hws : IntsAre ws ns) (hc : c1.data = .cell (some (.str (topS b) t))) (hkn : Kn m [(Str.ofString "row", .ref D), (Str.ofString "nodes", .ref ND)]) (lD : L + 1 + 1 + 1 + 1 + 1 < D) (lE : D < E0) (lN : E0 < ND)
    (hc2 : c2.data = .cell v2) (hc3 : c3.data = .cell v3) (hc4 : c4.data = .cell v4) (hc5 : c5.data = .cell v5)
    (fin : ∀ h tk m, Fr h₀ L h m → News h₀ L h [(178, tabObj #[]), (195, tabObj #[])] → Q (.ret (.bool true)) { s with heap := h, toks := tk }) :
    wpAny (model Challenge.rw_pd0179_01.prog w) (lawA L fa cd) (execs (lawBody.drop 4) (lawE L fa cd)) Q noE s := by
  refine PH4 G hns (b := b) F N hws hc hkn lD lE lN fun nodes tl m1 h1 k1 hok F1 N1 htl1 hkn1 Dn1 => ?_
  refine PH5 G hok F1 N1 ⟨noSeq_cell hc5, noSeq_cell hc4, noSeq_cell hc3, noSeq_cell hc2, noSeq_cell hc⟩ htl1 hc2 hkn1 Dn1 fun lst tl2 d2 LA m2 h2 k2 hso hmem F2 N2 hd2 htl2 hkn2 Dn2 Dl2 => ?_
  refine PH7 G hok hso hmem F2 N2 ⟨noSeq_cell hc5, noSeq_cell hc4, noSeq_cell hc3, noSeq_cell hd2, noSeq_cell hc⟩ htl2 hd2 hkn2 Dn2 Dl2 fun tl3 m3 h3 k3 F3 N3 htl3 Dl3 => ?_
  have hlen : lst.length ≤ 6 := Nat.le_trans (nodup_le (sorted_nodup hso) fun x hx => (hmem x).mp hx) hok.2.2.2.1
  have hdep : ∀ n ∈ lst, n.length ≤ 5 := fun n hn => hok.2.2.2.2 n ((hmem n).mp hn)
  refine PH8 G hlen hso F3 N3 ⟨noSeq_cell hc5, noSeq_cell hc4, noSeq_cell hc3, noSeq_cell hd2, noSeq_cell hc⟩ htl3 hd2 hc3 Dl3 fun d3 w3 tl4 m4 h4 k4 hd3 F4 N4 htl4 Dl4 => ?_
  refine PH9 G (b := b) hlen hdep F4 N4 ⟨noSeq_cell hc5, noSeq_cell hc4, noSeq_cell hd3, noSeq_cell hd2, noSeq_cell hc⟩ (fun p hp => Apt.gt (htl4 p hp)) hd2 hc hc4 Dl4 fun d4 PA tl5 m5 h5 k5 hd4 F5 N5 htl5 Dl5 Dp5 => ?_
  refine PH10 G (b := b) hlen hdep F5 N5 ⟨noSeq_cell hc5, noSeq_cell hd4, noSeq_cell hd3, noSeq_cell hd2, noSeq_cell hc⟩ htl5 hd4 hc5 Dl5 Dp5 fun d5 HA tl6 m6 h6 k6 hd5 F6 N6 htl6 Dl6 Dp6 Dh6 => ?_
  refine PH11 G (b := b) hlen hdep F6 N6 ⟨noSeq_cell hd5, noSeq_cell hd4, noSeq_cell hd3, noSeq_cell hd2, noSeq_cell hc⟩ htl6 hd2 hd4 Dl6 Dp6 fun RA tl7 m7 h7 k7 F7 hkn7 N7 hsub7 htl7 Dr7 => ?_
  refine PH12 G (b := b) hlen hdep hok.1 hso hmem F7 N7 ⟨noSeq_cell hd5, noSeq_cell hd4, noSeq_cell hd3, noSeq_cell hd2, noSeq_cell hc⟩ htl7 hc hd2 hd3 hd4 hd5 hkn7 (Dl6.mono hsub7) (Dp6.mono hsub7) (Dh6.mono hsub7) Dr7 fun e3 w3' m8 h8 k8 he3 F8 hkn8 N8 => ?_
  refine PH13 G (b := b) hlen hdep hok.1 hso hmem F8 N8 ⟨noSeq_cell hd5, noSeq_cell hd4, noSeq_cell he3, noSeq_cell hd2, noSeq_cell hc⟩ htl7 hc hd2 he3 hd4 hd5 hkn8 (Dl6.mono hsub7) (Dp6.mono hsub7) Dr7 fun PR tl9 f3 w9 m9 h9 k9 hf3 F9 hkn9 N9 hsub9 htl9 Dr9 => ?_
  exact PH15 G (b := b) hlen hdep hok.1 hso hmem (first_is hso ((hmem []).mpr hok.2.1)) F9 N9 ⟨noSeq_cell hd5, noSeq_cell hd4, noSeq_cell hf3, noSeq_cell hd2, noSeq_cell hc⟩ htl9 hc hd2 hd4 hkn9 ((Dl6.mono hsub7).mono hsub9) ((Dp6.mono hsub7).mono hsub9) Dr9 fin
end
section
set_option maxRecDepth 100000
set_option maxHeartbeats 8000000
local macro_rules | `(tactic| walk_at "execs cons For cons") => `(tactic| (k_here; refine halt ?_))
theorem three_a {h₀ h : Heap} {L : Addr} {a b c : Addr} {o p q : Obj} {l : Led} (_ : News h₀ L h ((a, o) :: (b, p) :: (c, q) :: l)) : ∃ a' b' c', a' = a ∧ b' = b ∧ c' = c := ⟨_, _, _, rfl, rfl, rfl⟩
theorem fin_all : Challenge.rw_pd0179_01.Holds := hd (by
  k_go0
  (all_goals try k_fold)
  k_steps
  · refine Halt.go ?_
    refine wpAny_noRaise ?_
    rename Below _ _ _ _ => KK
    rename Top _ _ _ _ _ _ => TT
    rename (hd.heap_39 _).In _ => XX
    rename Fr _ _ _ _ => FF
    rename News _ _ _ _ => NN
    rename Obj.data _ = Data.cell (some (Value.str (Str.ofString "7") _)) => d7
    obtain ⟨ND, E0, D, e1, e2, e3⟩ := three_a NN
    subst e1 e2 e3
    rename _ < ND ∧ _ => l3
    rename _ < E0 ∧ _ => l2
    rename _ < D ∧ _ => l1
    rw [← top_t] at d7
    rename IntsAre _ (List.take _ _) => hI9
    refine PHall (b := true) ⟨XX, TT, KK, by assumption⟩ (List.length_take_le _ _) FF NN hI9 d7 ⟨rfl, rfl, trivial⟩ l1.1 l2.1 l3.1 (by assumption) (by assumption) (by assumption) (by assumption) ?_
    intro h8 t8 m8 F8 N8
    clear FF NN
    (try dsimp only)
    k_steps
  · refine Halt.go ?_
    refine wpAny_noRaise ?_
    rename Below _ _ _ _ => KK
    rename Top _ _ _ _ _ _ => TT
    rename (hd.heap_39 _).In _ => XX
    rename Fr _ _ _ _ => FF
    rename News _ _ _ _ => NN
    rename Obj.data _ = Data.cell (some (Value.str (Str.ofString "com") _)) => d7
    obtain ⟨ND, E0, D, e1, e2, e3⟩ := three_a NN
    subst e1 e2 e3
    rename _ < ND ∧ _ => l3
    rename _ < E0 ∧ _ => l2
    rename _ < D ∧ _ => l1
    rw [← top_f] at d7
    rename IntsAre _ (List.take _ _) => hI9
    refine PHall (b := false) ⟨XX, TT, KK, by assumption⟩ (List.length_take_le _ _) FF NN hI9 d7 ⟨rfl, rfl, trivial⟩ l1.1 l2.1 l3.1 (by assumption) (by assumption) (by assumption) (by assumption) ?_
    intro h8 t8 m8 F8 N8
    clear FF NN
    (try dsimp only)
    k_steps)
end
end Mine
end
set_option maxRecDepth 100000 in
set_option maxHeartbeats 8000000 in
theorem PySem.Challenge.cw_pd0179_01_holds : PySem.Challenge.rw_pd0179_01.Holds := by
  exact Mine.fin_all
