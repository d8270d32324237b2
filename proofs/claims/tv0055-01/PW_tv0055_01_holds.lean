import PyProof.Rows.All
import Wide.All
import OpenK.AllK
import Wide.FinOn
import PyProof.DictIter
import Lean
import PySem.Challenge.RW_tv0055_01
set_option compiler.extract_closed false
set_option genSizeOf false
set_option genInjectivity false
open PySem PySem.W PyProof.Rows
set_option Elab.async false
name_quick tw1962928258387122110 for S.findZ by S.findZ_eq
name_quick tw12172078356533094185 for S.findZ by S.findZ_eq
name_quick tw5721027456603625697 for S.findZ by S.findZ_eq
name_quick tw4011157648589011858 for S.findZ by S.findZ_eq
name_quick tw12767683915131110723 for S.findZ by S.findZ_eq
name_quick tw1092655722715705105 for S.findZ by S.findZ_eq
name_quick tw8119918657739134586 for S.findZ by S.findZ_eq
name_quick tw16296994325663420285 for S.findZ by S.findZ_eq
name_quick tw10942035263794033107 for S.findZ by S.findZ_eq
name_quick tw7198390536060210744 for S.findZ by S.findZ_eq
name_quick tw6929956602132211858 for S.findZ by S.findZ_eq
name_quick tw9862997608875712007 for S.findZ by S.findZ_eq
name_quick tw10424941004445345732 for S.findZ by S.findZ_eq
name_quick tw7323676302269181137 for S.findZ by S.findZ_eq
name_quick tw17975652961387846372 for S.findZ by S.findZ_eq
name_quick tw7788680626742099145 for S.findZ by S.findZ_eq
name_quick tw2711585505577850959 for S.findZ by S.findZ_eq
name_quick tw11420187438672877268 for S.findZ by S.findZ_eq
name_quick tw10706342367453228570 for S.findZ by S.findZ_eq
name_quick tw16548257151911338427 for S.findZ by S.findZ_eq
name_quick tw17434858337260393937 for S.findZ by S.findZ_eq
name_quick tw11161088081135249708 for S.findZ by S.findZ_eq
name_quick tw11788150170368784547 for S.findZ by S.findZ_eq
name_quick tw7745614565497352828 for S.findZ by S.findZ_eq
name_quick tw4558998842232669794 for S.findZ by S.findZ_eq
name_quick tw12825359941727978080 for S.findZ by S.findZ_eq
name_quick tw11452132507678324671 for S.findZ by S.findZ_eq
name_quick tw8098380416015320538 for S.findZ by S.findZ_eq
name_quick tw1258717718454355964 for S.findZ by S.findZ_eq
name_quick tw5978237884098788730 for S.findZ by S.findZ_eq
name_quick tw11994158751524154303 for S.findZ by S.findZ_eq
name_quick tw2627984346626558326 for S.findZ by S.findZ_eq
name_quick tw2408619945344806742 for S.findZ by S.findZ_eq
name_quick tw5732905514179830355 for S.findZ by S.findZ_eq
name_quick tw15560500314895047343 for S.findZ by S.findZ_eq
name_quick tw11130039905162102590 for S.findZ by S.findZ_eq
name_quick tw16241802466949684156 for S.findZ by S.findZ_eq
name_quick tw878741703135273975 for S.findZ by S.findZ_eq
name_quick tw14433975572909055671 for S.findZ by S.findZ_eq
name_quick tw11939915149646268982 for S.findZ by S.findZ_eq
name_quick tw3093977132361051618 for S.findZ by S.findZ_eq
name_quick tw12945451867199242903 for S.findZ by S.findZ_eq
name_quick tw16350708796919097252 for S.findZ by S.findZ_eq
name_quick tw5268983451555188008 for S.findZ by S.findZ_eq
name_quick tw14073706353221006472 for S.findZ by S.findZ_eq
name_quick tw10029231156530900338 for S.findZ by S.findZ_eq
name_quick tw9376109419431680627 for S.findZ by S.findZ_eq
name_quick tw5770868932273138760 for S.findZ by S.findZ_eq
name_quick tw704327219915372674 for S.findZ by S.findZ_eq
name_quick tw13335737130258781183 for S.findZ by S.findZ_eq
name_quick tw6711915476519705758 for S.findZ by S.findZ_eq
name_quick tw15323854079317868165 for S.findZ by S.findZ_eq
name_quick tw10948738476641704880 for S.findZ by S.findZ_eq
name_quick tw219737044198020058 for S.findZ by S.findZ_eq
name_quick tw4775785305629353868 for S.findZ by S.findZ_eq
name_quick tw10528696920762540405 for S.findZ by S.findZ_eq
name_quick tw13512673800721320934 for S.findZ by S.findZ_eq
name_quick tw11333186260410459676 for S.findZ by S.findZ_eq
name_quick tw6589095468515690095 for S.findZ by S.findZ_eq
name_quick tw16697116713213952808 for S.findZ by S.findZ_eq
name_quick tw5189142188285759775 for S.findZ by S.findZ_eq
name_quick tw10938465397075749097 for S.findZ by S.findZ_eq
name_quick tw7397068168572129948 for S.findZ by S.findZ_eq
name_quick tw16741492637210864865 for S.findZ by S.findZ_eq
name_quick tw11270796479367742343 for S.findZ by S.findZ_eq
name_quick tw12835720964997663042 for S.findZ by S.findZ_eq
name_quick tw4549333791460862111 for S.findZ by S.findZ_eq
name_quick tw4552823106982906706 for S.findZ by S.findZ_eq
name_quick tw1402947280878808549 for S.findZ by S.findZ_eq
name_quick tw1377046205977697930 for S.findZ by S.findZ_eq
name_quick tw4224760802259116069 for S.findZ by S.findZ_eq
name_quick tw7276740287692124622 for S.findZ by S.findZ_eq
name_quick tw5706481520468235054 for S.findZ by S.findZ_eq
name_quick tw5882768191206486792 for S.findZ by S.findZ_eq
name_quick tw12290603225136948437 for S.findZ by S.findZ_eq
name_quick tw17100903815162463580 for S.findZ by S.findZ_eq
name_quick tw9458956999447867950 for S.findZ by S.findZ_eq
name_quick tw1156252341971683116 for S.findZ by S.findZ_eq
name_quick tw2283851925072248500 for S.findZ by S.findZ_eq
name_quick tw17164873540382356111 for S.findZ by S.findZ_eq
name_quick tw5701610774189311196 for S.findZ by S.findZ_eq
name_quick tw9594665118957945026 for S.findZ by S.findZ_eq
name_quick tw7721631327575515661 for S.findZ by S.findZ_eq
name_quick tw17532440430192770315 for S.findZ by S.findZ_eq
name_quick tw4292500188555128830 for S.findZ by S.findZ_eq
name_quick tw8376441433122354887 for S.findZ by S.findZ_eq
name_quick tw6380047634161181297 for S.findZ by S.findZ_eq
name_quick tw3764465048917985505 for S.findZ by S.findZ_eq
name_quick tw2478078296215019888 for S.findZ by S.findZ_eq
name_quick tw7250012664060256230 for S.findZ by S.findZ_eq
name_quick tw11445135464325071761 for S.findZ by S.findZ_eq
name_quick tw1333364371103165705 for S.findZ by S.findZ_eq
name_quick tw18101931140130867144 for S.findZ by S.findZ_eq
name_quick tw682011567655089306 for S.findZ by S.findZ_eq
name_quick tw1355338860687761863 for S.findZ by S.findZ_eq
name_quick tw7496433998918960881 for S.findZ by S.findZ_eq
name_quick tw183835017167291270 for S.findZ by S.findZ_eq
name_quick tw9467589175468403638 for S.findZ by S.findZ_eq
name_quick tw17552769576498331613 for S.findZ by S.findZ_eq
name_quick tw11306939235166856333 for S.findZ by S.findZ_eq
name_quick tw8206430501311747189 for S.findZ by S.findZ_eq
name_quick tw2422670821966735624 for S.findZ by S.findZ_eq
name_quick tw4407734736301137906 for S.findZ by S.findZ_eq
name_quick tw3560238982266916124 for S.findZ by S.findZ_eq
name_quick tw6654550962395885724 for S.findZ by S.findZ_eq
name_quick tw16643379632663270332 for S.findZ by S.findZ_eq
name_quick tw5111356299099525756 for S.findZ by S.findZ_eq
name_quick tw13759679279233594173 for S.findZ by S.findZ_eq
name_quick tw9529234661008812162 for S.findZ by S.findZ_eq
name_quick tw9763268239775435451 for S.findZ by S.findZ_eq
name_quick tw17532718790514356516 for S.findZ by S.findZ_eq
name_quick tw505943868828395459 for S.findZ by S.findZ_eq
name_quick tw5349121933718820234 for S.findZ by S.findZ_eq
name_quick tw3039592710220408265 for S.findZ by S.findZ_eq
name_quick tw136631920214876835 for S.findZ by S.findZ_eq
name_quick tw900395245841561262 for S.findZ by S.findZ_eq
name_quick tw951843321253372498 for S.findZ by S.findZ_eq
name_quick tw5902227825499142635 for S.findZ by S.findZ_eq
name_quick tw16531745337717519161 for S.findZ by S.findZ_eq
name_quick tw3131671291697673992 for S.findZ by S.findZ_eq
name_quick tw13145125596335152023 for S.findZ by S.findZ_eq
name_quick tw8579058602437062094 for S.findZ by S.findZ_eq
name_quick tw8753696776887207221 for S.findZ by S.findZ_eq
name_quick tw6019396324639902685 for S.findZ by S.findZ_eq
name_quick tw3891137856419664920 for S.findZ by S.findZ_eq
name_quick tw4980102563643897964 for S.findZ by S.findZ_eq
name_quick tw9407582987413476825 for S.findZ by S.findZ_eq
name_quick tw8595292554425487202 for S.findZ by S.findZ_eq
name_quick tw2039238271031011813 for S.findZ by S.findZ_eq
name_quick tw3778451253796500701 for S.findZ by S.findZ_eq
name_quick tw667198328695590252 for S.findZ by S.findZ_eq
name_quick tw9564595351457756722 for S.findZ by S.findZ_eq
name_quick tw1702518465993881591 for S.findZ by S.findZ_eq
name_quick tw11964429278604863157 for S.findZ by S.findZ_eq
name_quick tw16593013826814733010 for S.findZ by S.findZ_eq
name_quick tw7035115661146626270 for S.findZ by S.findZ_eq
name_quick tw12233582284571471492 for S.findZ by S.findZ_eq
name_quick tw2862820112641550484 for S.findZ by S.findZ_eq
name_quick tw12866136484021002089 for S.findZ by S.findZ_eq
name_quick tw2354135333415324597 for S.findZ by S.findZ_eq
name_quick tw5357591511691535388 for S.findZ by S.findZ_eq
name_quick tw15766043655864335149 for S.findZ by S.findZ_eq
name_quick tw4075660801711882420 for S.findZ by S.findZ_eq
name_quick tw16846860572762119324 for S.findZ by S.findZ_eq
name_quick tw11588390666370768167 for S.findZ by S.findZ_eq
name_quick tw12237943961548833269 for S.findZ by S.findZ_eq
name_quick tw17497748084772794779 for S.findZ by S.findZ_eq
name_quick tw14168537005229113720 for S.findZ by S.findZ_eq
name_quick tw4978915544186085027 for S.findZ by S.findZ_eq
name_quick tw3577408171920636059 for S.findZ by S.findZ_eq
name_quick tw17730448691065144110 for S.findZ by S.findZ_eq
name_quick tw18345786424863182364 for S.findZ by S.findZ_eq
name_quick tw117213463901210413 for S.findZ by S.findZ_eq
name_quick tw16414604833108395602 for S.findZ by S.findZ_eq
name_quick tw15823609455315575823 for S.findZ by S.findZ_eq
name_quick tw14530364306720264245 for S.findZ by S.findZ_eq
name_quick tw14108194823987119177 for S.findZ by S.findZ_eq
name_quick tw5396446701170858492 for S.findZ by S.findZ_eq
name_quick tw17672482021469178181 for S.findZ by S.findZ_eq
name_quick tw11729385059970357855 for S.findZ by S.findZ_eq
name_quick tw6792406925840432001 for S.findZ by S.findZ_eq
name_quick tw1829445100760108279 for S.findZ by S.findZ_eq
name_quick tw13254397897704925713 for S.findZ by S.findZ_eq
name_quick tw8719427161674164953 for S.findZ by S.findZ_eq
name_quick tw16752143609539240740 for S.findZ by S.findZ_eq
name_quick tw18416463498863911781 for S.findZ by S.findZ_eq
name_quick tw6004533443673955352 for S.findZ by S.findZ_eq
name_quick tw4302124980754421698 for S.findZ by S.findZ_eq
name_quick tw11313170107247368264 for S.findZ by S.findZ_eq
name_quick tw17018628822417861297 for S.findZ by S.findZ_eq
name_quick tw347637069881736656 for S.findZ by S.findZ_eq
name_quick tw1291980286583624508 for S.findZ by S.findZ_eq
name_quick tw11636919720809706868 for S.findZ by S.findZ_eq
name_quick tw16643706677886111943 for S.findZ by S.findZ_eq
name_quick tw6122645084068987007 for S.findZ by S.findZ_eq
name_quick tw17954471519018878134 for S.findZ by S.findZ_eq
name_quick tw6683783046931543321 for S.findZ by S.findZ_eq
name_quick tw7275051467321613617 for S.findZ by S.findZ_eq
name_quick tw16439824349840649037 for S.findZ by S.findZ_eq
name_quick tw11277716924127702174 for S.findZ by S.findZ_eq
name_quick tw460243522976405022 for S.findZ by S.findZ_eq
name_quick tw3152983702415266003 for S.findZ by S.findZ_eq
name_quick tw3362959441861295915 for S.findZ by S.findZ_eq
name_quick tw724751600484774222 for S.findZ by S.findZ_eq
name_quick tw9787463984185863102 for S.findZ by S.findZ_eq
name_quick tw387338674003428930 for S.findZ by S.findZ_eq
name_quick tw470574548607681690 for S.findZ by S.findZ_eq
name_quick tw8727135674562949291 for S.findZ by S.findZ_eq
name_quick tw17001327861769816259 for S.findZ by S.findZ_eq
name_quick tw16349216596472256690 for S.findZ by S.findZ_eq
name_quick tw17888162413812561239 for S.findZ by S.findZ_eq
name_quick tw15278061642289888581 for S.findZ by S.findZ_eq
name_quick tw10010936943081839664 for S.findZ by S.findZ_eq
name_quick tw3766158894648301139 for S.findZ by S.findZ_eq
name_quick tw7232422423428716515 for S.findZ by S.findZ_eq
name_quick tw16349804527192203551 for S.findZ by S.findZ_eq
name_quick tw8537084889766193716 for S.findZ by S.findZ_eq
name_quick tw15475462885187679331 for S.findZ by S.findZ_eq
name_quick tw13789449189825218787 for S.findZ by S.findZ_eq
name_quick tw13236226663087606529 for S.findZ by S.findZ_eq
name_quick tw11317593695737139937 for S.findZ by S.findZ_eq
name_quick tw10470071008263537045 for S.findZ by S.findZ_eq
name_quick tw15663404670287596823 for S.findZ by S.findZ_eq
name_quick tw4039474712603431140 for S.findZ by S.findZ_eq
name_quick tw8703263022893421829 for S.findZ by S.findZ_eq
name_quick tw16049961110935095269 for S.findZ by S.findZ_eq
name_quick tw12734952128020822468 for S.findZ by S.findZ_eq
name_quick tw912392155897948271 for S.findZ by S.findZ_eq
name_quick tw14386061602966655976 for S.findZ by S.findZ_eq
name_quick tw1620339239838986703 for S.findZ by S.findZ_eq
name_quick tw6363645014702824404 for S.findZ by S.findZ_eq
name_quick tw11863081143760314161 for S.findZ by S.findZ_eq
name_quick tw16966814322356759819 for S.findZ by S.findZ_eq
name_quick tw15490439104401381959 for S.findZ by S.findZ_eq
name_quick tw14333388528381170442 for S.findZ by S.findZ_eq
name_quick tw8075568018651887793 for S.findZ by S.findZ_eq
name_quick tw14979626087600564940 for S.findZ by S.findZ_eq
name_quick tw9351635479285290257 for S.findZ by S.findZ_eq
name_quick tw6733733256287894996 for S.findZ by S.findZ_eq
name_quick tw17396691361947906945 for S.findZ by S.findZ_eq
name_quick tw16941818579946243069 for S.findZ by S.findZ_eq
name_quick tw8783367066174898617 for S.findZ by S.findZ_eq
name_quick tw6543886607769338821 for S.findZ by S.findZ_eq
name_quick tw7253563546036869354 for S.findZ by S.findZ_eq
name_quick tw9764882154061713095 for S.findZ by S.findZ_eq
name_quick tw17057272898397164401 for S.findZ by S.findZ_eq
name_quick tw18211773271919218964 for S.findZ by S.findZ_eq
name_quick tw1574873078441994576 for S.findZ by S.findZ_eq
name_quick tw17069979004554194336 for S.findZ by S.findZ_eq
name_quick tw8642067239939848140 for S.findZ by S.findZ_eq
name_quick tw8603108125212654177 for S.findZ by S.findZ_eq
name_quick tw10063671712614023339 for S.findZ by S.findZ_eq
name_quick tw3105397867545767578 for S.findZ by S.findZ_eq
name_quick tw14311459727803291754 for S.findZ by S.findZ_eq
name_quick tw12150249912526168084 for S.findZ by S.findZ_eq
name_quick tw9315938663221665524 for S.findZ by S.findZ_eq
name_quick tw18340240734955500558 for S.findZ by S.findZ_eq
name_quick tw16981483081396284153 for S.findZ by S.findZ_eq
name_quick tw7269565832213808900 for S.findZ by S.findZ_eq
name_quick tw6245536207120538393 for S.findZ by S.findZ_eq
name_quick tw43969757491396457 for S.findZ by S.findZ_eq
name_quick tw14834023430324568649 for S.findZ by S.findZ_eq
name_quick tw16804044748790271530 for S.findZ by S.findZ_eq
name_quick tw3619232141914619222 for S.findZ by S.findZ_eq
name_quick tw7299303143086499733 for S.findZ by S.findZ_eq
name_quick tw4797165386629745026 for S.findZ by S.findZ_eq
name_quick tw12635297910168745909 for S.findZ by S.findZ_eq
name_quick tw9697512110049397445 for S.findZ by S.findZ_eq
name_quick tw15480198773659482676 for S.findZ by S.findZ_eq
name_quick tw9136488742655976645 for S.findZ by S.findZ_eq
name_quick tw1184552218554016812 for S.findZ by S.findZ_eq
name_quick tw17070079461858475408 for S.findZ by S.findZ_eq
name_quick tw4658958612460137192 for S.findZ by S.findZ_eq
name_quick tw4748654258956052638 for S.findZ by S.findZ_eq
name_quick tw4444965560193506482 for S.findZ by S.findZ_eq
name_quick tw2334299552400917057 for S.findZ by S.findZ_eq
name_quick tw3820604794100220378 for S.findZ by S.findZ_eq
name_quick tw8400853705098224536 for S.findZ by S.findZ_eq
name_quick tw8494730868815754825 for S.findZ by S.findZ_eq
name_quick tw4527066259768149269 for S.findZ by S.findZ_eq
name_quick tw5135500740108067664 for S.findZ by S.findZ_eq
name_quick tw392140993173905013 for S.findZ by S.findZ_eq
name_quick tw12813236842856870187 for S.findZ by S.findZ_eq
name_quick tw14376985748213822385 for S.findZ by S.findZ_eq
name_quick tw15450981722951097364 for S.findZ by S.findZ_eq
name_quick tw13036272033356848781 for S.findZ by S.findZ_eq
name_quick tw3916196269025109296 for S.findZ by S.findZ_eq
name_quick tw13981391230805400906 for S.findZ by S.findZ_eq
name_quick tw13180171748994924942 for S.findZ by S.findZ_eq
name_quick tw2660918139993853925 for S.findZ by S.findZ_eq
name_quick tw10887116778572429059 for S.findZ by S.findZ_eq
name_quick tw12329403913580668285 for S.findZ by S.findZ_eq
name_quick tw7581352650102555174 for S.findZ by S.findZ_eq
name_quick tw9948023125614773506 for S.findZ by S.findZ_eq
name_quick tw5591276700874282246 for S.findZ by S.findZ_eq
name_quick tw4636218855388986860 for S.findZ by S.findZ_eq
name_quick tw6679490504615227074 for S.findZ by S.findZ_eq
name_quick tw4483890143940070358 for S.findZ by S.findZ_eq
name_quick tw3856783459128436802 for S.findZ by S.findZ_eq
name_quick tw10996506086634736982 for S.findZ by S.findZ_eq
name_quick tw10532037691210839823 for S.findZ by S.findZ_eq
name_quick tw16012088437097163121 for S.findZ by S.findZ_eq
name_quick tw10227693086864044499 for S.findZ by S.findZ_eq
name_quick tw4679858250743294509 for S.findZ by S.findZ_eq
name_quick tw13912434898499826684 for S.findZ by S.findZ_eq
name_quick tw18056578402003937789 for S.findZ by S.findZ_eq
name_quick tw15919542637913265678 for S.findZ by S.findZ_eq
name_quick tw4090926877573551719 for S.findZ by S.findZ_eq
name_quick tw9951705424602377420 for S.findZ by S.findZ_eq
name_quick tw10317580896714288900 for S.findZ by S.findZ_eq
name_quick tw2460228577881660442 for S.findZ by S.findZ_eq
name_quick tw14023627001141898710 for S.findZ by S.findZ_eq
name_quick tw13678640442995254988 for S.findZ by S.findZ_eq
name_quick tw11853533878840232495 for S.findZ by S.findZ_eq
name_quick tw12659028871203227004 for S.findZ by S.findZ_eq
name_quick tw14223099787259518943 for S.findZ by S.findZ_eq
name_quick tw4071324889030633612 for S.findZ by S.findZ_eq
name_quick tw4933834842325187142 for S.findZ by S.findZ_eq
name_quick tw9759809726879904816 for S.findZ by S.findZ_eq
name_quick tw12268644228514654432 for S.findZ by S.findZ_eq
name_quick tw17964007177503468958 for S.findZ by S.findZ_eq
name_quick tw2670528217467546775 for S.findZ by S.findZ_eq
name_quick tw16947794391021106201 for S.findZ by S.findZ_eq
name_quick tw1258299570235058372 for S.findZ by S.findZ_eq
name_quick tw16705588012109328328 for S.findZ by S.findZ_eq
name_quick tw12469489778152837 for S.findZ by S.findZ_eq
name_quick tw14112274594779413971 for S.findZ by S.findZ_eq
name_quick tw15194872280508774684 for S.findZ by S.findZ_eq
name_quick tw8796240567053077481 for S.findZ by S.findZ_eq
name_quick tw1414301608579184545 for S.findZ by S.findZ_eq
name_quick tw2244074263212557396 for S.findZ by S.findZ_eq
name_quick tw12177639751122801600 for S.findZ by S.findZ_eq
name_quick tw3282434896037501709 for S.findZ by S.findZ_eq
name_quick tw3636048126100218174 for S.findZ by S.findZ_eq
name_quick tw14326252917377295143 for S.findZ by S.findZ_eq
name_quick tw17846936440860909165 for S.findZ by S.findZ_eq
name_quick tw17828083071136270317 for S.findZ by S.findZ_eq
name_quick tw8424611434330503625 for S.findZ by S.findZ_eq
name_quick tw11566699232636054958 for S.findZ by S.findZ_eq
name_quick tw13002492023102617099 for S.findZ by S.findZ_eq
name_quick tw13640514254501968386 for S.findZ by S.findZ_eq
name_quick tw2381599553089736043 for S.findZ by S.findZ_eq
name_quick tw18220123701641295943 for S.findZ by S.findZ_eq
name_quick tw11985326045990495214 for S.findZ by S.findZ_eq
name_quick tw7365555872484859036 for S.findZ by S.findZ_eq
name_quick tw17863021456227041891 for S.findZ by S.findZ_eq
name_quick tw16979880578912567463 for S.findZ by S.findZ_eq
name_quick tw15168306246750427876 for S.findZ by S.findZ_eq
name_quick tw9908251947323293946 for S.findZ by S.findZ_eq
name_quick tw7299951869573292228 for S.findZ by S.findZ_eq
name_quick tw2664551874359636763 for S.findZ by S.findZ_eq
name_quick tw15263041282635125899 for S.findZ by S.findZ_eq
name_quick tw11625766737575182897 for S.findZ by S.findZ_eq
name_quick tw16817318245366136608 for S.findZ by S.findZ_eq
name_quick tw958810671402257542 for S.findZ by S.findZ_eq
name_quick tw2611137233208623240 for S.findZ by S.findZ_eq
name_quick tw16018607276475445134 for S.findZ by S.findZ_eq
name_quick tw12371321757623732685 for S.findZ by S.findZ_eq
name_quick tw14896874001708588922 for S.findZ by S.findZ_eq
name_quick tw17807336471464407845 for S.findZ by S.findZ_eq
name_quick tw1749818173716722547 for S.findZ by S.findZ_eq
name_quick tw9501820088010722379 for S.findZ by S.findZ_eq
name_quick tw15007238320947547705 for S.findZ by S.findZ_eq
name_quick tw5032809538720368765 for S.findZ by S.findZ_eq
name_quick tw2447775223705975068 for S.findZ by S.findZ_eq
name_quick tw15742981410569661332 for S.findZ by S.findZ_eq
name_quick tw11543547407058413889 for S.findZ by S.findZ_eq
name_quick tw8860024209350480642 for S.findZ by S.findZ_eq
name_quick tw14553827428707814869 for S.findZ by S.findZ_eq
name_quick tw8032284361305108907 for S.findZ by S.findZ_eq
name_quick tw6059929106960060952 for S.findZ by S.findZ_eq
name_quick tw9285146279643344392 for S.findZ by S.findZ_eq
namespace Mine
set_option maxRecDepth 100000 in
set_option maxHeartbeats 8000000 in
open_top hd for PySem.Challenge.rw_tv0055_01
end Mine

open PySem PySem.W PySem.Calls PySem.Spec PyProof.Rows
namespace Mine
def Stop (P : Prop) : Prop := P
theorem Stop.mk {P : Prop} (h : Stop P) : P := h
set_option maxRecDepth 100000 in
theorem fill0 : True := by
  w_top off
  have h := @hd
  revert h
  k_fill
  intro _
  trivial
-- LibG
section
set_option compiler.extract_closed false
theorem gfold {G : Prop} (h : ∀ q : Prop, (G → q) → q) : G := h G id
theorem ex2i {α β} {P : α → β → Prop} (a : α) (b : β) (h : P a b) : ∃ a b, P a b := ⟨a, b, h⟩
theorem ex3i {α β γ} {P : α → β → γ → Prop} (a : α) (b : β) (c : γ) (h : P a b c) : ∃ a b c, P a b c := ⟨a, b, c, h⟩
theorem ex4i {α β γ δ} {P : α → β → γ → δ → Prop} (a : α) (b : β) (c : γ) (d : δ) (h : P a b c d) : ∃ a b c d, P a b c d := ⟨a, b, c, d, h⟩
theorem ex5i {α β γ δ ε} {P : α → β → γ → δ → ε → Prop} (a : α) (b : β) (c : γ) (d : δ) (e : ε) (h : P a b c d e) : ∃ a b c d e, P a b c d e := ⟨a, b, c, d, e, h⟩
theorem ex6i {α β γ δ ε ζ} {P : α → β → γ → δ → ε → ζ → Prop} (a : α) (b : β) (c : γ) (d : δ) (e : ε) (f : ζ) (h : P a b c d e f) : ∃ a b c d e f, P a b c d e f := ⟨a, b, c, d, e, f, h⟩
abbrev HvK {A : Prop} (_ : A) (G : Prop) : Prop := A → G
section
open Lean Syntax
abbrev Sx := Lean.Syntax
def ndT (s : String) (l : List Sx) : Sx := node .none (.str `Lean.Parser.Tactic s) l.toArray
def ndE (s : String) (l : List Sx) : Sx := node .none (.str `Lean.Parser.Term s) l.toArray
def nl (l : List Sx) : Sx := node .none `null l.toArray
def aT (s : String) : Sx := atom .none s
def isT (x : Sx) (s : String) : Bool := x.isOfKind (.str `Lean.Parser.Tactic s)
def ndR (s : String) (l : List Sx) : Sx := node .none (.str `Lean.Parser.Tactic.rcasesPat s) l.toArray
def isR (x : Sx) (s : String) : Bool := x.isOfKind (.str `Lean.Parser.Tactic.rcasesPat s)
def mHN : Sx := Lean.mkIdent `hN
def mHM : Sx := Lean.mkIdent `hM
def mHK : Sx := Lean.mkIdent `hK
def sqs (l : List Sx) : List Sx := l.foldr (fun a r => a :: aT ";" :: r) []
def sqc (l : List Sx) : List Sx := l.foldr (fun a r => a :: aT "," :: r) []
def sq (l : List Sx) : Sx := ndT "paren" [aT "(", ndT "tacticSeq" [ndT "tacticSeq1Indented" [nl (sqs l)]], aT ")"]
def kx (s : String) : Sx := node .none `PySem.W.tacticK_extra_ #[aT "k_extra", mkStrLit s]
def ins (l : List Sx) : Sx := ndT "intros" [aT "intros", nl l]
def trS (x : Sx) : Sx := ndT "tacticTry_" [aT "try", ndT "tacticSeq" [ndT "tacticSeq1Indented" [nl [x]]]]
def clr (h : Sx) : Sx := ndT "clear" [aT "clear", nl [h]]
def rc (h l : Sx) : Sx := ndT "rcases" [aT "rcases", nl [ndT "elimTarget" [nl [], h]], nl [aT "with", l]]
def lo (p : Sx) : Sx := ndT "rcasesPatLo" [ndT "rcasesPatMed" [nl [p]], nl []]
def tup (l : List Sx) : Sx := lo (ndR "tuple" [aT "⟨", nl l, aT "⟩"])
def fst (l : List Sx) : Sx := ndT "first" [aT "first", nl (l.map fun t => node .none `group #[aT "|", ndT "tacticSeq" [ndT "tacticSeq1Indented" [nl [t]]]])]
def bth (a b : Sx) : Sx := ndT "tactic_<;>_" [a, aT "<;>", b]
def uns : MacroM Sx := Lean.Macro.throwUnsupported
def hvq (h : Sx) : MacroM Sx := do
  let h : Ident := ⟨h⟩
  `(tactic| refine ((?_ : Mine.HvK $h _) $h))
def mEx (s : Sx) : MacroM Sx := do
  let t := s[1]
  let l := t[1].getSepArgs.toList
  if !t.isOfKind `Lean.Parser.Term.anonymousCtor || l.length < 7 then return ← uns
  let f (k : Nat) (c : Name) : Sx := s.setArg 1 (ndE "app" [Lean.mkIdent c, nl (l.take k ++ [ndE "anonymousCtor" [aT "⟨", nl (sqc (l.drop k)), aT "⟩"]])])
  return fst [f 6 `Mine.ex6i, f 5 `Mine.ex5i, f 4 `Mine.ex4i, f 3 `Mine.ex3i, f 2 `Mine.ex2i]
def mOg (s : Sx) : MacroM Sx := do
  let p := s[1][0][0][0]
  let p := if isR p "paren" then p[1][0][0][0] else p
  if !isR p "tuple" || p[1].getSepArgs.size < 3 || s[2].getNumArgs != 0 then return ← uns
  let t : TSyntax `tactic := ⟨rc s[3][1][0] (lo p)⟩
  `(tactic| (refine Mine.gfold ?_; intros q hq; ($t:tactic); (all_goals (refine hq ?_; clear hq q))))
def kh (k : String) (h : Sx) : MacroM Sx := do
  let n : Sx := Lean.mkIdent `hLt9
  let x ← Lean.Macro.addMacroScope `hNd0
  return sq [← hvq h, ins [n], kx k, clr n, ndT "rename" [aT "rename", ← `(_), aT "=>", Lean.mkIdent x]]
end
end
local macro_rules (kind := Lean.Parser.Tactic.exact) | s => Mine.mEx s
local macro_rules (kind := Lean.Parser.Tactic.refine) | s => Mine.mEx s
local macro_rules (kind := Lean.Parser.Tactic.obtain) | s => Mine.mOg s
local macro_rules | `(tactic| omega) => `(tactic| first | lia | omega +splitDisjunctions)
-- Lib1
section
section
variable {prog : Program} {w : World} {A : Around} {E : Value → Shared → Prop} {R : Result → Shared → Prop} {s : Shared}

/-- the tests of a comprehension, as the semantics writes them -/
noncomputable abbrev tests (ifs : List Expr) (env : Env) : Sem Bool :=
  forIn ifs true fun c r => if r = true then do let ok ← isTrue c env (eval c env); pure (ForInStep.yield ok) else pure (ForInStep.yield r)

theorem tests_nil {env : Env} {Q : Bool → Shared → Prop} (h : Q true s) : wpAny (model prog w) A (tests [] env) Q E s := wpAny_tests_nil h
theorem tests_one {env : Env} {c : Expr} {Q : Bool → Shared → Prop} (h : wpAny (model prog w) A (isTrue c env (eval c env)) Q E s) : wpAny (model prog w) A (tests [c] env) Q E s := wpAny_tests_one h

/-- the loop of a list comprehension, any target -/
theorem compLoop_any {elt target iter : Expr} {ifs : List Expr} {scope : Scope} {pos : Pos} {it acc : Value} {env : Env} (I : Nat → Shared → Prop)
    (turn : ∀ n s, I n s → wpAny (model prog w) A (pyNext it) (fun r s₁ => match r with
      | none => R (.ok .next) s₁
      | some v => wpAny (model prog w) A (letOwnedTupleGo target it v) (fun _ s₁' => wpAny (model prog w) A (assign target env v) (fun _ s₂ =>
          wpAny (model prog w) A (tests ifs env) (fun ok s₃ =>
            if ok = true then wpAny (model prog w) A (eval elt env) (fun x s₄ =>
              wpAny (model prog w) A (call (.builtin "list.append") [acc, x]) (fun _ s₅ => ∃ m, m < n ∧ I m s₅) (fun _ _ => False) s₄) (fun _ _ => False) s₃
            else ∃ m, m < n ∧ I m s₃) (fun _ _ => False) s₂) (fun _ _ => False) s₁') (fun _ _ => False) s₁) (fun _ _ => False) s)
    (n : Nat) (h : I n s) : codeAny (model prog w) A (.compLoop (.ListComp elt [⟨target, iter, ifs, 0⟩] scope pos) 0 it acc env) R s := by
  refine codeAny_loop rfl I (fun n s hI => ?_) n h
  show wpAny _ A ((compTurn (.ListComp elt [⟨target, iter, ifs, 0⟩] scope pos) 0 it acc env).onRaise (fun x => do noteFrame x env; theTreesLotGoes x)) _ _ s
  have no : ∀ {α : Type} {t : Sem α} {Q : α → Shared → Prop} {E' : Value → Shared → Prop} {s : Shared}, wpAny (model prog w) A t Q (fun _ _ => False) s → wpAny (model prog w) A t Q E' s := fun x => wpAny_mono x (fun _ _ y => y) fun _ _ f => f.elim
  refine wpAny_noted ?_
  rw [compTurn_list]
  refine wpAny_bind (wpAny_standAt (wpAny_bind (no (wpAny_mono (turn n s hI) (fun r s₁ h₁ => ?_) fun _ _ h' => h'))))
  cases r with
  | none => exact wpAny_pure h₁
  | some v =>
    refine wpAny_bind (no (wpAny_mono h₁ (fun _ s₁' h₁' => wpAny_bind (no (wpAny_mono h₁' (fun _ s₂ h₂ => wpAny_bind (no (wpAny_mono h₂ (fun ok s₃ h₃ => ?_) fun _ _ h' => h'))) fun _ _ h' => h'))) fun _ _ h' => h'))
    cases ok with
    | false => exact wpAny_pure ⟨rfl, h₃⟩
    | true =>
      exact wpAny_bind (wpAny_bind (no (wpAny_mono h₃ (fun x s₄ h₄ => wpAny_bind (no (wpAny_mono h₄ (fun _ s₅ h₅ => wpAny_pure (wpAny_pure ⟨rfl, h₅⟩)) fun _ _ h' => h'))) fun _ _ h' => h')))

/-- what a turn of a comprehension leaves: the block's frame C, all else kept; its element, if it has one -/
noncomputable def TurnEnd (C : Addr) (p : Value → Bool) (G : Heap → Value → Value → Prop) (v : Value) (s : Shared) (r : Option Value) (s' : Shared) : Prop :=
  ∃ h tk m, s' = { s with heap := h, toks := tk } ∧ h.Ns C m ∧ (∀ b o, b ≠ C → s.heap.get? b = some o → h.get? b = some o) ∧
    match r with
    | none => p v = false
    | some y => p v = true ∧ ∀ hf : Heap, (∀ b o, s.heap.get? b = none → h.get? b = some o → hf.get? b = some o) → G hf v y

noncomputable def Turn (prog : Program) (w : World) (A : Around) (cenv : Env) (target : Expr) (ifs : List Expr) (elt : Expr) (C : Addr) (p : Value → Bool) (G : Heap → Value → Value → Prop) (v : Value) (s : Shared) : Prop :=
  wpAny (model prog w) A (assign target cenv v) (fun _ s₂ => wpAny (model prog w) A (tests ifs cenv) (fun ok s₃ =>
    if ok = true then wpAny (model prog w) A (eval elt cenv) (fun y s₄ => TurnEnd C p G v s (some y) s₄) (fun _ _ => False) s₃ else TurnEnd C p G v s none s₃) (fun _ _ => False) s₂) (fun _ _ => False) s

theorem paired_map {α β : Type} {F F' : α → β → Prop} (k : ∀ a b, F a b → F' a b) {l₁ : List α} {l₂ : List β} (x : Paired F l₁ l₂) : Paired F' l₁ l₂ := by
  induction x with
  | nil => exact .nil
  | cons a _ ih => exact .cons (k _ _ a) ih

/-- the element's fact, stable under what the loop itself turns -/
noncomputable def CLElt (G : Heap → Value → Value → Prop) (C D : Addr) (wr : List Addr) (h : Heap) (v y : Value) : Prop := ∀ hf : Heap, (∀ b o, b ≠ C → b ∉ wr → b ≠ D → h.get? b = some o → hf.get? b = some o) → G hf v y
inductive CLInv (s : Shared) (C D : Addr) (wr : List Addr) (n : Nat) (P : Nat → Value → Prop) (St : Nat → Heap → Prop) (p : Value → Bool) (G : Heap → Value → Value → Prop) : Nat → Shared → Prop
  | mk {h' tk m' ys} {vs : List Value} (hst : St vs.length h') (hacc : h'.PlainList D ys) (hn : h'.Ns C m') (hP : ∀ j v, vs[j]? = some v → P j v) (hF : Paired (CLElt G C D wr h') (vs.filter p) ys.toList) (hi : vs.length ≤ n)
      (hk : ∀ b o, b ≠ C → b ∉ wr → b ≠ D → s.heap.get? b = some o → h'.get? b = some o) : CLInv s C D wr n P St p G (n + 1 - vs.length) { s with heap := h', toks := tk }
theorem compLoop_walk {elt target iter : Expr} {ifs : List Expr} {scope : Scope} {pos : Pos} {I D : Addr} {fp wr : List Addr} {n : Nat} {P : Nat → Value → Prop} {St : Nat → Heap → Prop}
    {cenv : Env} {C : Addr} {m : Str → Option Value} (W : Walks prog w A I fp wr n P St) (hC : cenv.locals = C) (p : Value → Bool) (G : Heap → Value → Value → Prop)
    (hDC : D ≠ C) (hDf : D ∉ fp) (hCf : C ∉ fp) (hst : St 0 s.heap) (hacc : s.heap.PlainList D #[]) (hn : s.heap.Ns C m)
    (hlive : ∀ i h, St i h → ∀ b ∈ wr, ∃ o, h.get? b = some o)
    (hgo : ∀ i (s' : Shared) v (Q' : Unit → Shared → Prop), St i s'.heap → Q' () s' → wpAny (model prog w) A (letOwnedTupleGo target (.ref I) v) Q' (fun _ _ => False) s')
    (hturn : ∀ i v s₂ m₂, P i v → s₂.heap.Ns C m₂ → (∃ h tk, s₂ = { s with heap := h, toks := tk }) → (∀ b o, b ≠ C → b ∉ wr → b ≠ D → s.heap.get? b = some o → s₂.heap.get? b = some o) →
      Turn prog w A cenv target ifs elt C p G v s₂)
    (hR : ∀ h' tk m' ys (vs : List Value), h'.Ns C m' → h'.PlainList D ys → vs.length = n → (∀ j v, vs[j]? = some v → P j v) → (∀ hf : Heap, (∀ b o, b ≠ C → h'.get? b = some o → hf.get? b = some o) → Paired (G hf) (vs.filter p) ys.toList) →
      (∀ b o, b ≠ C → b ∉ wr → b ≠ D → s.heap.get? b = some o → h'.get? b = some o) → R (.ok .next) { s with heap := h', toks := tk })
    (hsz : n ≤ sizeLine := by size_fits) :
    codeAny (model prog w) A (.compLoop (.ListComp elt [⟨target, iter, ifs, 0⟩] scope pos) 0 (.ref I) (.ref D) cenv) R s := by
  subst hC
  have hCw : cenv.locals ∉ wr := fun h => hCf (W.sub _ h)
  have hDw : D ∉ wr := fun h => hDf (W.sub _ h)
  have gg : ∀ {h h' : Heap} {v y : Value}, CLElt G cenv.locals D wr h v y → (∀ b o, b ≠ cenv.locals → b ∉ wr → b ≠ D → h.get? b = some o → h'.get? b = some o) → CLElt G cenv.locals D wr h' v y :=
    fun g k hf kf => g hf fun b o h1 h2 h3 e => kf b o h1 h2 h3 (k b o h1 h2 h3 e)
  refine compLoop_any (CLInv s cenv.locals D wr n P St p G) ?_ (n + 1) (.mk (vs := []) (ys := #[]) (m' := m) hst hacc hn (fun j v e => nomatch e) .nil (Nat.zero_le _) fun _ _ _ _ _ e => e)
  intro k s' hI
  cases hI with | @mk H tk m' ys vs hst' hacc' hn' hP hF hi hk =>
  by_cases hlt : vs.length < n
  · refine W.item vs.length _ _ _ hlt hst' fun v h₁ tk₁ hPv hst₁ up₁ => ?_
    have hn₁ : h₁.Ns cenv.locals m' := hn'.at' fun o e => up₁ _ o hCw e
    refine hgo _ _ _ _ hst₁ ?_
    refine wpAny_mono (hturn vs.length v { s with heap := h₁, toks := tk₁ } m' hPv hn₁ ⟨_, _, rfl⟩ fun b o h1 h2 h3 e => up₁ b o h2 (hk b o h1 h2 h3 e)) (fun _ s₂ h₂ => wpAny_mono h₂ (fun ok s₃ h₃ => ?_) fun _ _ e => e) fun _ _ e => e
    have pv' : ∀ j v', (vs ++ [v])[j]? = some v' → P j v' := fun j v' e => by
      rcases Nat.lt_trichotomy j vs.length with hj | hj | hj
      · rw [List.getElem?_append_left hj] at e; exact hP j v' e
      · subst hj; rw [List.getElem?_concat_length] at e; cases e; exact hPv
      · rw [List.getElem?_eq_none (by rw [List.length_append]; exact hj)] at e; cases e
    have hlen : (vs ++ [v]).length ≤ n := by rw [List.length_append]; exact hlt
    have hltn : n + 1 - (vs ++ [v]).length < n + 1 - vs.length := by rw [List.length_append]; exact Nat.sub_lt_sub_left (Nat.lt_succ_of_lt hlt) (Nat.lt_succ_self _)
    cases ok with
    | false =>
      simp only [Bool.false_eq_true, if_false] at h₃ ⊢
      obtain ⟨h, tk₂, m₂, rfl, hn₂, hk₂, hp⟩ := h₃
      refine ⟨n + 1 - (vs ++ [v]).length, hltn, .mk (vs := vs ++ [v]) (ys := ys) ?_ ?_ hn₂ pv' ?_ hlen ?_⟩
      · rw [List.length_append]; exact W.frame _ _ _ hst₁ fun b hb o e => hk₂ b o (fun q => hCf (q ▸ hb)) e
      · exact hacc'.at fun o e => hk₂ D o hDC (up₁ D o hDw e)
      · rw [List.filter_append]
        simp only [List.filter_cons, hp, List.filter_nil, Bool.false_eq_true, if_false, List.append_nil]
        exact paired_map (fun _ _ g => gg g fun b o h1 h2 h3 e => hk₂ b o h1 (up₁ b o h2 e)) hF
      · exact fun b o h1 h2 h3 e => hk₂ b o h1 (up₁ b o h2 (hk b o h1 h2 h3 e))
    | true =>
      simp only [if_true] at h₃ ⊢
      refine wpAny_mono h₃ (fun y s₄ h₄ => ?_) fun _ _ e => e
      obtain ⟨h, tk₂, m₂, rfl, hn₂, hk₂, hp, hG⟩ := h₄
      have hys : ys.size ≤ sizeLine := by
        rw [← Array.length_toList, ← hF.length]
        exact Nat.le_trans (List.length_filter_le _ _) (Nat.le_trans hi hsz)
      have hacc₂ : h.PlainList D ys := hacc'.at fun o e => hk₂ D o hDC (up₁ D o hDw e)
      refine wpAny_list_append_plain (hsz := hys) hacc₂ fun h₅ hl₅ hs₅ => ?_
      refine ⟨n + 1 - (vs ++ [v]).length, hltn, .mk (vs := vs ++ [v]) (ys := ys.push y) ?_ hl₅ (hn₂.sameBut hs₅ (Ne.symm hDC)) pv' ?_ hlen ?_⟩
      · rw [List.length_append]
        exact W.frame _ _ _ hst₁ fun b hb o e => hs₅.extBut b o (fun q => hDf (q ▸ hb)) (hk₂ b o (fun q => hCf (q ▸ hb)) e)
      · rw [List.filter_append]
        simp only [List.filter_cons, hp, List.filter_nil, if_true, Array.toList_push]
        refine Paired.snoc (paired_map (fun _ _ g => gg g fun b o h1 h2 h3 e => hs₅.extBut b o h3 (hk₂ b o h1 (up₁ b o h2 e))) hF) ?_
        intro hf kf
        refine hG hf fun b o hnone e => ?_
        have c1 : b ≠ cenv.locals := fun q => by obtain ⟨o', _, _, ho', _⟩ := hn₁; rw [q] at hnone; dsimp only at hnone; rw [ho'] at hnone; cases hnone
        have c2 : b ∉ wr := fun q => by obtain ⟨o', ho'⟩ := hlive _ _ hst₁ b q; dsimp only at hnone; rw [ho'] at hnone; cases hnone
        have c3 : b ≠ D := fun q => by obtain ⟨nn, ho'⟩ := hacc'; rw [q] at hnone; dsimp only at hnone; rw [up₁ D _ hDw ho'] at hnone; cases hnone
        exact kf b o c1 c2 c3 (hs₅.extBut b o c3 e)
      · exact fun b o h1 h2 h3 e => hs₅.extBut b o h3 (hk₂ b o h1 (up₁ b o h2 (hk b o h1 h2 h3 e)))
  · have hin : vs.length = n := Nat.le_antisymm hi (Nat.not_lt.mp hlt)
    subst hin
    refine W.done _ _ _ hst' fun h₁ tk₁ hk₁ => ?_
    refine hR h₁ tk₁ m' ys vs (hn'.at' fun o e => hk₁ _ o hCw e) (hacc'.at fun o e => hk₁ _ o hDw e) rfl hP (fun hf kf => paired_map (fun v y g => g _ fun b o h1 h2 h3 e => kf b o h1 (hk₁ b o h2 e)) hF) fun b o h1 h2 h3 e => hk₁ b o h2 (hk b o h1 h2 h3 e)
end

section
variable {prog : Program} {w : World} {A : Around} {E : Value → Shared → Prop} {s : Shared} {env : Env}

/-- a list comprehension over a walk, any target, elements that may be objects made in the turn -/
theorem ListComp_walk {elt target iter : Expr} {ifs : List Expr} {scope : Scope} {cl : List (Str × Addr)} {pos : Pos} {Q : Value → Shared → Prop} (p : Value → Bool) (G : Heap → Value → Value → Prop)
    (hclos : closureFor scope env = pure cl) (hcell : ∀ y ∈ scope.names, y.2 ≠ .cell) (hkind : scope.kind = .function)
    (hnames : ∀ y ∈ scope.names, y.2 = .local → scope.names.lookup y.1 = some .local)
    (h : wpAny (model prog w) A (eval iter env) (fun xv s₁ => wpAny (model prog w) A (pyIter xv) (fun it s₂ => ∃ I fp wr n P St, it = .ref I ∧ Walks prog w A I fp wr n P St ∧ n ≤ sizeLine ∧ St 0 s₂.heap ∧ (∀ b ∈ fp, b < s₂.heap.objs.size) ∧
      (∀ i h, St i h → ∀ b ∈ wr, ∃ o, h.get? b = some o) ∧
      (∀ i (s' : Shared) v (Q' : Unit → Shared → Prop), St i s'.heap → Q' () s' → wpAny (model prog w) A (letOwnedTupleGo target (.ref I) v) Q' (fun _ _ => False) s') ∧
      (∀ C i v s₃ m₃, s₂.heap.objs.size ≤ C → P i v → s₃.heap.Ns C m₃ → (∃ h tk, s₃ = { s₂ with heap := h, toks := tk }) → (∀ b o, b ∉ wr → s₂.heap.get? b = some o → s₃.heap.get? b = some o) →
        Turn prog w A (compEnvC scope cl C env) target ifs elt C p G v s₃) ∧
      (∀ D h' tk (ys : List Value) k (vs : List Value), s₂.heap.objs.size ≤ D → h'.get? D = some (PySem.W.listOf ys.toArray k) → vs.length = n → (∀ j v, vs[j]? = some v → P j v) → Paired (G h') (vs.filter p) ys →
        (∀ b o, b ∉ wr → s₂.heap.get? b = some o → h'.get? b = some o) → Q (.ref D) { s₂ with heap := h', toks := tk })) E s₁) E s)
    (hs : ∀ x, foldedSetIterable iter env x = pure x := by intro _; rfl) :
    wpAny (model prog w) A (eval (.ListComp elt [⟨target, iter, ifs, 0⟩] scope pos) env) Q E s := by
  rw [eval_ListComp]
  refine wpAny_comprehension_free (use := none) rfl hs hclos hkind hnames (wpAny_mono h (fun xv s₁ h₁ => wpAny_mono h₁ (fun it s₂ h₂ => ?_) fun _ _ e => e) fun _ _ e => e)
  obtain ⟨I, fp, wr, n, P, St, rfl, W, hsz, hst, hfp, hlive, hgo, hq, hQ⟩ := h₂
  refine wpAny_newObj_type (wpAny_newFunctionEnv hcell (by intro y hy; simp at hy) (fun h₁ hns₁ hsb₁ => ?_) hkind)
  dsimp only at hns₁ hsb₁ ⊢
  generalize hH2 : s₂.heap.push { cls := .type "list", dict := none, data := .seq ([] : List Value).toArray } = H2 at hns₁ hsb₁ ⊢
  have hC : H2.objs.size = s₂.heap.objs.size + 1 := by rw [← hH2, Heap.size_push]
  have hDC : s₂.heap.objs.size ≠ H2.objs.size := by rw [hC]; exact Nat.ne_of_lt (Nat.lt_succ_self _)
  have hCle : s₂.heap.objs.size ≤ H2.objs.size := by rw [hC]; exact Nat.le_succ _
  have below : ∀ b, b < s₂.heap.objs.size → b ≠ H2.objs.size ∧ b ≠ s₂.heap.objs.size := fun b hb => ⟨by rw [hC]; exact Nat.ne_of_lt (Nat.lt_succ_of_lt hb), Nat.ne_of_lt hb⟩
  have hDf : s₂.heap.objs.size ∉ fp := fun hm => Nat.lt_irrefl _ (hfp _ hm)
  have hCf : H2.objs.size ∉ fp := fun hm => by have := hfp _ hm; rw [hC] at this; exact Nat.lt_irrefl _ (Nat.lt_of_succ_lt this)
  have old : ∀ b o, s₂.heap.get? b = some o → h₁.get? b = some o := fun b o e => hsb₁.extBut b o (below b (Heap.lt_size e)).1 (Heap.get?_push_of_some _ (hH2 ▸ Heap.get?_push_of_some _ e))
  have hacc : h₁.PlainList s₂.heap.objs.size #[] := ⟨_, hsb₁.extBut _ _ hDC (Heap.get?_push_of_some _ (hH2 ▸ Heap.get?_push_size _ rfl))⟩
  have hst₁ : St 0 h₁ := W.frame _ _ _ hst fun b _ o e => old b o e
  have loop : ∀ s₃ : Shared, s₃ = { s₂ with heap := h₁, toks := s₂.toks + ([] : List (Str × Value)).length } →
      codeAny (model prog w) A (.compLoop (.ListComp elt [⟨target, iter, ifs, 0⟩] scope pos) 0 (.ref I) (.ref s₂.heap.objs.size) (compEnvC scope cl H2.objs.size env))
        (compPost (model prog w) A E none Q (.ref s₂.heap.objs.size) H2.objs.size) s₃ := by
    rintro s₃ rfl
    refine compLoop_walk (hsz := hsz) (cenv := compEnvC scope cl H2.objs.size env) W rfl p G hDC hDf hCf hst₁ hacc hns₁ hlive hgo
      (fun i v s₃ m₃ hv hn hs₃ hk => hq _ i v s₃ m₃ hCle hv hn (by obtain ⟨a, b, rfl⟩ := hs₃; exact ⟨a, b, rfl⟩) fun b o hbf e => hk b o (below b (Heap.lt_size e)).1 hbf (below b (Heap.lt_size e)).2 (old b o e))
      fun h' tk m' ys vs hn ha hlen hP hF hk => ?_
    refine ⟨m', hn, fun h'' hs'' => ?_⟩
    obtain ⟨k, ha⟩ := ha
    have keepC : ∀ b o, b ≠ H2.objs.size → h'.get? b = some o → h''.get? b = some o := fun b o hb e => (hs''.2 b hb).trans e
    refine hQ _ h'' tk ys.toList k vs (Nat.le_refl _) ?_ hlen hP ?_ ?_
    · rw [Array.toArray_toList]; exact keepC _ _ hDC ha
    · exact hF h'' keepC
    · exact fun b o hbf e => keepC b o (below b (Heap.lt_size e)).1 (hk b o (below b (Heap.lt_size e)).1 hbf (below b (Heap.lt_size e)).2 (old b o e))
  exact codeAny_compStart_list (loop _ rfl) (W.self 0 _ _ _ hst₁ (loop _ rfl))

theorem paired_get {α β : Type} {F : α → β → Prop} {l₁ : List α} {l₂ : List β} (x : Paired F l₁ l₂) : ∀ (i : Nat) (a : α), l₁[i]? = some a → ∃ b, l₂[i]? = some b ∧ F a b := by
  induction x with
  | nil => intro i a e; cases e
  | cons h _ ih =>
    intro i a e
    cases i with
    | zero => cases e; exact ⟨_, rfl, h⟩
    | succ i => exact ih i a e

/-- over a list that stands -/
theorem ListComp_list {elt target iter : Expr} {ifs : List Expr} {scope : Scope} {cl : List (Str × Addr)} {pos : Pos} {Q : Value → Shared → Prop} (p : Value → Bool) (G : Heap → Value → Value → Prop)
    (hh : A.handled = none) (hclos : closureFor scope env = pure cl) (hcell : ∀ y ∈ scope.names, y.2 ≠ .cell) (hkind : scope.kind = .function)
    (hnames : ∀ y ∈ scope.names, y.2 = .local → scope.names.lookup y.1 = some .local)
    (h : wpAny (model prog w) A (eval iter env) (fun xv s₁ => ∃ l, ∃ vs : List Value, xv = .ref l ∧ s₁.heap.IsList l vs.toArray ∧ vs.length ≤ sizeLine ∧
      (∀ C (i : Nat) v s₃ m₃, s₁.heap.objs.size ≤ C → vs[i]? = some v → s₃.heap.Ns C m₃ → (∃ h tk, s₃ = { s₁ with heap := h, toks := tk }) → s₁.heap.StaysIn s₃.heap →
        Turn prog w A (compEnvC scope cl C env) target ifs elt C p G v s₃) ∧
      (∀ D h' tk (ys : List Value) k, s₁.heap.objs.size ≤ D → h'.get? D = some (PySem.W.listOf ys.toArray k) → Paired (G h') (vs.filter p) ys →
        s₁.heap.StaysIn h' → Q (.ref D) { s₁ with heap := h', toks := tk })) E s)
    (hs : ∀ x, foldedSetIterable iter env x = pure x := by intro _; rfl) :
    wpAny (model prog w) A (eval (.ListComp elt [⟨target, iter, ifs, 0⟩] scope pos) env) Q E s := by
  refine ListComp_walk p G hclos hcell hkind hnames (wpAny_mono h (fun xv s₁ h₁ => ?_) fun _ _ e => e) hs
  obtain ⟨l, vs, rfl, hl, hsz, ht, hQ⟩ := h₁
  obtain ⟨ol, hol, _⟩ := id hl
  have hlt : l < s₁.heap.objs.size := Heap.lt_size hol
  refine wpAny_pyIter_list hl ?_
  have W := Walks.list (prog := prog) (w := w) hh s₁.heap.objs.size l (Nat.ne_of_lt hlt) vs.toArray
  have hz : vs.toArray.size = vs.length := by simp
  have old : ∀ b o, s₁.heap.get? b = some o → b ∉ [s₁.heap.objs.size] := fun b o e q => Nat.lt_irrefl _ (List.mem_singleton.mp q ▸ Heap.lt_size e)
  refine ⟨_, _, _, _, _, _, rfl, W, by rw [hz]; exact hsz, ⟨⟨_, Heap.get?_push_size _ rfl, rfl, rfl⟩, hl.at fun o e => Heap.get?_push_of_some _ e⟩, ?_, ?_, fun i s' v Q' st q => letGo_listiter st.1 q, ?_, ?_⟩
  · intro b hb
    show b < (s₁.heap.push _).objs.size
    rw [Heap.size_push]
    rcases List.mem_cons.mp hb with rfl | hb
    · exact Nat.lt_succ_self _
    · rw [List.mem_singleton.mp hb]; exact Nat.lt_succ_of_lt hlt
  · intro i h st b hb
    obtain ⟨o, ho, _⟩ := st.1
    exact ⟨o, List.mem_singleton.mp hb ▸ ho⟩
  · intro C i v s₃ m₃ hC hP hn hs₃ hk
    refine ht C i v s₃ m₃ ?_ (by simpa using hP) hn (by obtain ⟨a, b, rfl⟩ := hs₃; exact ⟨a, b, rfl⟩) fun b o e => hk b o (old b o e) (Heap.get?_push_of_some _ e)
    have : (s₁.heap.push ({ cls := .type "list_iterator", data := .fields #[.ref l, .int (0 : Nat) 0] } : Obj)).objs.size ≤ C := hC
    rw [Heap.size_push] at this
    exact Nat.le_of_succ_le this
  · intro D h' tk ys k vs' hD hg hlen hP hF hk
    have e : vs' = vs := by
      refine List.ext_getElem? fun j => ?_
      by_cases hj : j < vs'.length
      · have := hP j vs'[j] (by simp [hj])
        rw [show vs'[j]? = some vs'[j] by simp [hj]]
        simpa using this.symm
      · rw [List.getElem?_eq_none (by omega), List.getElem?_eq_none (by omega)]
    subst e
    refine hQ D h' tk ys k ?_ hg hF fun b o q => hk b o (old b o q) (Heap.get?_push_of_some _ q)
    have : (s₁.heap.push ({ cls := .type "list_iterator", data := .fields #[.ref l, .int (0 : Nat) 0] } : Obj)).objs.size ≤ D := hD
    rw [Heap.size_push] at this
    exact Nat.le_of_succ_le this
end
end
-- Lib2
section
section
variable {prog : Program} {w : World} {A : Around} {E : Value → Shared → Prop} {s : Shared} {env : Env} {h₀ : Heap}

theorem noFalse {α : Type} {t : Sem α} {Q : α → Shared → Prop} {E' : Value → Shared → Prop} {s : Shared} (x : wpAny (model prog w) A t Q (fun _ _ => False) s) : wpAny (model prog w) A t Q E' s := wpAny_mono x (fun _ _ y => y) fun _ _ f => f.elim

/-- what a turn of a for loop leaves -/
noncomputable def StepEnd (h₀ : Heap) (L I : Addr) (io : Obj) (J : (Str → Option Value) → List (Addr × Obj) → Prop) (s : Shared) (Q : Flow → Shared → Prop) (f : Flow) (s' : Shared) : Prop :=
  match f with
  | .ret v => Q (.ret v) s'
  | .brk => Q .next s'
  | _ => ∃ h tk m news, s' = { s with heap := h, toks := tk } ∧ Fr h₀ L h m ∧ News h₀ L h ((I, io) :: news) ∧ (∀ p ∈ news, p.1 ≠ I) ∧ J m news

theorem forLoop_walk {target : Expr} {body orelse : List Stmt} {R : Result → Shared → Prop} {I : Addr} {fp : List Addr} {n : Nat} {P : Nat → Value → Prop} {St : Nat → Heap → Prop} {m : Str → Option Value} {news : List (Addr × Obj)}
    (J : Nat → (Str → Option Value) → List (Addr × Obj) → Prop) (W : Walks prog w A I fp [I] n P St) (hst : St 0 s.heap) (hI0 : h₀.get? I = none) (hIL : I ≠ env.locals) (hlive : ∀ i h, St i h → ∃ o, h.get? I = some o)
    (keep : ∀ i h h' m' news' io, St i h → h.get? I = some io → J i m' news' → Fr h₀ env.locals h' m' → News h₀ env.locals h' ((I, io) :: news') → St i h')
    (hgo : ∀ i (s' : Shared) v (Q' : Unit → Shared → Prop), St i s'.heap → Q' () s' → wpAny (model prog w) A (letOwnedTupleGo target (.ref I) v) Q' (fun _ _ => False) s')
    (F : Fr h₀ env.locals s.heap m) (N : News h₀ env.locals s.heap news) (hnI : ∀ p ∈ news, p.1 ≠ I) (h0 : J 0 m news)
    (step : ∀ i v m₁ news₁ h₁ tk₁ io, i < n → P i v → J i m₁ news₁ → (∀ p ∈ news₁, p.1 ≠ I) → Fr h₀ env.locals h₁ m₁ → News h₀ env.locals h₁ ((I, io) :: news₁) →
        wpAny (model prog w) A (assign target env v) (fun _ s₃ => wpAny (model prog w) A (execs body env) (StepEnd h₀ env.locals I io (J (i + 1)) { s with heap := h₁, toks := tk₁ } fun f s' => R (.ok f) s') (fun _ _ => False) s₃) (fun _ _ => False) { s with heap := h₁, toks := tk₁ })
    (done : ∀ h' tk m' news', Fr h₀ env.locals h' m' → News h₀ env.locals h' news' → J n m' news' → wpAny (model prog w) A (execs orelse env) (fun f s' => R (.ok f) s') (fun _ _ => False) { s with heap := h', toks := tk }) :
    codeAny (model prog w) A (.forLoop target (.ref I) body orelse env) R s := by
  refine codeAny_forLoop_any
    (fun k s' => ∃ h' tk m' news' i, s' = { s with heap := h', toks := tk } ∧ St i h' ∧ Fr h₀ env.locals h' m' ∧ News h₀ env.locals h' news' ∧ (∀ p ∈ news', p.1 ≠ I) ∧ J i m' news' ∧ i ≤ n ∧ k = n + 1 - i) ?_ (n + 1)
    ⟨s.heap, s.toks, m, news, 0, rfl, hst, F, N, hnI, h0, Nat.zero_le _, rfl⟩
  rintro k s' ⟨h', tk, m', news', i, rfl, hst', F', N', hnI', hJ, hi, rfl⟩
  have next : ∀ h₁ : Heap, (∀ b o, b ∉ [I] → h'.get? b = some o → h₁.get? b = some o) → Fr h₀ env.locals h₁ m' ∧ News h₀ env.locals h₁ news' := fun h₁ hk₁ =>
    ⟨⟨F'.ns.at' fun o e => hk₁ _ o (by simpa using Ne.symm hIL) e, fun b o e => hk₁ b o (by simp only [List.mem_singleton]; intro q; rw [q, hI0] at e; cases e) (F'.keep b o e), F'.above⟩,
      fun p hp => ⟨hk₁ _ _ (by simpa using hnI' p hp) (N' p hp).1, (N' p hp).2⟩⟩
  by_cases hlt : i < n
  · refine noFalse (W.item i _ _ _ hlt hst' fun v h₁ tk₁ hP hst₁ hk₁ => ?_)
    obtain ⟨F₁, N₁⟩ := next h₁ hk₁
    obtain ⟨io, hio⟩ := hlive _ _ hst₁
    have N₂ : News h₀ env.locals h₁ ((I, io) :: news') := fun p hp => by
      rcases List.mem_cons.mp hp with rfl | hp
      · exact ⟨hio, hIL, hI0⟩
      · exact N₁ p hp
    refine noFalse (hgo (i + 1) _ v _ hst₁ ?_)
    refine noFalse (wpAny_mono (step i v m' news' h₁ tk₁ io hlt hP hJ hnI' F₁ N₂) (fun _ s₃ h₃ => noFalse (wpAny_mono h₃ (fun f s₄ h₄ => ?_) fun _ _ e => e)) fun _ _ e => e)
    cases f with
    | ret v => exact h₄
    | brk => exact h₄
    | cont =>
      obtain ⟨h, tk', m₂, news₂, rfl, F₂, N₂', hn₂, hJ₂⟩ := h₄
      exact ⟨n + 1 - (i + 1), by omega, h, tk', m₂, news₂, i + 1, rfl, keep _ _ _ _ _ _ hst₁ hio hJ₂ F₂ N₂', F₂, fun p hp => N₂' p (.tail _ hp), hn₂, hJ₂, hlt, rfl⟩
    | next =>
      obtain ⟨h, tk', m₂, news₂, rfl, F₂, N₂', hn₂, hJ₂⟩ := h₄
      exact ⟨n + 1 - (i + 1), by omega, h, tk', m₂, news₂, i + 1, rfl, keep _ _ _ _ _ _ hst₁ hio hJ₂ F₂ N₂', F₂, fun p hp => N₂' p (.tail _ hp), hn₂, hJ₂, hlt, rfl⟩
  · have hin : i = n := by omega
    subst hin
    refine noFalse (W.done _ _ _ hst' fun h₁ tk₁ hk₁ => ?_)
    obtain ⟨F₁, N₁⟩ := next h₁ hk₁
    exact noFalse (done h₁ tk₁ m' news' F₁ N₁ hJ)

theorem fresh_none {h₀ h : Heap} {L : Addr} {m : Str → Option Value} (F : Fr h₀ L h m) : h₀.get? h.objs.size = none := by
  cases e : h₀.get? h.objs.size with
  | none => rfl
  | some o => exact absurd (Heap.lt_size (F.keep _ _ e)) (Nat.lt_irrefl _)

/-- what a for over a list asks, from where its list is there -/
noncomputable def ForList (prog : Program) (w : World) (A : Around) (env : Env) (h₀ : Heap) (target : Expr) (body orelse : List Stmt) (Q : Flow → Shared → Prop) (vs : List Value) (J : Nat → (Str → Option Value) → List (Addr × Obj) → Prop) (s : Shared) : Prop :=
  (∀ i v m₁ news₁ h₁ tk₁ I io, vs[i]? = some v → J i m₁ news₁ → (∀ p ∈ news₁, @Ne Nat p.1 I) → @Ne Nat I env.locals → Fr h₀ env.locals h₁ m₁ → News h₀ env.locals h₁ ((I, io) :: news₁) →
      wpAny (model prog w) A (assign target env v) (fun _ s₃ => wpAny (model prog w) A (execs body env) (StepEnd h₀ env.locals I io (J (i + 1)) { s with heap := h₁, toks := tk₁ } Q) (fun _ _ => False) s₃) (fun _ _ => False) { s with heap := h₁, toks := tk₁ }) ∧
  (∀ h' tk m' news', Fr h₀ env.locals h' m' → News h₀ env.locals h' news' → J vs.length m' news' → wpAny (model prog w) A (execs orelse env) Q (fun _ _ => False) { s with heap := h', toks := tk })

/-- ready for a loop over a list -/
noncomputable def ListReady (prog : Program) (w : World) (A : Around) (env : Env) (h₀ : Heap) (target : Expr) (body orelse : List Stmt) (Q : Flow → Shared → Prop) (xv : Value) (s₁ : Shared) : Prop :=
  ∃ l, ∃ vs : List Value, ∃ m news, ∃ J : Nat → (Str → Option Value) → List (Addr × Obj) → Prop, xv = .ref l ∧ Fr h₀ env.locals s₁.heap m ∧ News h₀ env.locals s₁.heap news ∧ J 0 m news ∧
      (∀ i m' news' h', J i m' news' → Fr h₀ env.locals h' m' → News h₀ env.locals h' news' → h'.IsList l vs.toArray) ∧ ForList prog w A env h₀ target body orelse Q vs J s₁
theorem For_list {target iter : Expr} {body orelse : List Stmt} {pos : Pos} {Q : Flow → Shared → Prop} {m₀ : Str → Option Value} (_F : Fr h₀ env.locals s.heap m₀) (hh : A.handled = none)
    (h : wpAny (model prog w) A (eval iter env) (fun xv s₁ => ListReady prog w A env h₀ target body orelse Q xv s₁) E s)
    (hs : ∀ x, foldedSetIterable iter env x = pure x := by intro _; rfl) :
    wpAny (model prog w) A (exec (.For target iter body orelse pos) env) Q E s := by
  refine wpAny_For (wpAny_mono h (fun xv s₁ h₁ => ?_) fun _ _ e => e) hs
  obtain ⟨l, vs, m, news, J, rfl, F, N, h0, kl, step, done⟩ := h₁
  have hl := kl 0 m news s₁.heap h0 F N
  obtain ⟨ol, hol, _⟩ := id hl
  have hlt : l < s₁.heap.objs.size := Heap.lt_size hol
  refine wpAny_pyIter_list hl ?_
  have W := Walks.list (prog := prog) (w := w) hh s₁.heap.objs.size l (Nat.ne_of_lt hlt) vs.toArray
  have hz : vs.toArray.size = vs.length := by simp
  rw [hz] at W
  have hIL : s₁.heap.objs.size ≠ env.locals := Nat.ne_of_gt F.ns.lt
  refine forLoop_walk (s := { s₁ with heap := s₁.heap.push _ }) (R := fun r s' => match r with | .ok f => Q f s' | .error e => cameBackBy (model prog w) A env E e s') J W
    ⟨⟨_, Heap.get?_push_size _ rfl, rfl, rfl⟩, hl.at fun o e => Heap.get?_push_of_some _ e⟩ (fresh_none F) hIL (fun i h st => let ⟨o, ho, _⟩ := st.1; ⟨o, ho⟩) ?_ (fun i s' v Q' st q => letGo_listiter st.1 q)
    (F.push _) (fun p hp => ⟨Heap.get?_push_of_some _ (N p hp).1, (N p hp).2⟩) (fun p hp => Nat.ne_of_lt (Heap.lt_size (N p hp).1)) h0 ?_ ?_
  · intro i h h' m' news' io st hio hJ F' N'
    refine ⟨?_, kl i m' news' h' hJ F' fun p hp => N' p (.tail _ hp)⟩
    obtain ⟨o, ho, hc, hd⟩ := st.1
    rw [hio] at ho
    cases ho
    exact ⟨io, (N' _ (.head _)).1, hc, hd⟩
  · intro i v m₁ news₁ h₁ tk₁ io hi hP hJ hn F₁ N₁
    exact step i v m₁ news₁ h₁ tk₁ _ io (by simpa using hP) hJ hn hIL F₁ N₁
  · intro h' tk m' news' F' N' hJ
    exact done h' tk m' news' F' N' hJ

/-- ready for a loop over a range -/
noncomputable def RangeReady (prog : Program) (w : World) (A : Around) (env : Env) (h₀ : Heap) (target : Expr) (body orelse : List Stmt) (Q : Flow → Shared → Prop) (xv : Value) (s₁ : Shared) : Prop :=
  ∃ r a n t u v m news, ∃ J : Nat → (Str → Option Value) → List (Addr × Obj) → Prop, xv = .ref r ∧ IsRange s₁.heap r a (a + (n : Nat)) 1 t u v ∧ Builtin.Range.small a (a + (n : Nat)) 1 = true ∧ Fr h₀ env.locals s₁.heap m ∧ News h₀ env.locals s₁.heap news ∧ J 0 m news ∧
      (∀ i v t m₁ news₁ h₁ tk₁ I io, i < n → v = a + (i : Nat) → J i m₁ news₁ → (∀ p ∈ news₁, @Ne Nat p.1 I) → @Ne Nat I env.locals → Fr h₀ env.locals h₁ m₁ → News h₀ env.locals h₁ ((I, io) :: news₁) →
        wpAny (model prog w) A (assign target env (.int v t)) (fun _ s₃ => wpAny (model prog w) A (execs body env) (StepEnd h₀ env.locals I io (J (i + 1)) { s₁ with heap := h₁, toks := tk₁ } Q) (fun _ _ => False) s₃) (fun _ _ => False) { s₁ with heap := h₁, toks := tk₁ }) ∧
      (∀ h' tk m' news', Fr h₀ env.locals h' m' → News h₀ env.locals h' news' → J n m' news' → wpAny (model prog w) A (execs orelse env) Q (fun _ _ => False) { s₁ with heap := h', toks := tk })
/-- a for over range(n) -/
theorem For_range {target iter : Expr} {body orelse : List Stmt} {pos : Pos} {Q : Flow → Shared → Prop} {m₀ : Str → Option Value} (_F : Fr h₀ env.locals s.heap m₀) (hh : A.handled = none)
    (h : wpAny (model prog w) A (eval iter env) (fun xv s₁ => RangeReady prog w A env h₀ target body orelse Q xv s₁) E s)
    (hs : ∀ x, foldedSetIterable iter env x = pure x := by intro _; rfl) (hgo : ∀ it v, letOwnedTupleGo target it v = pure () := by intro _ _; rfl) :
    wpAny (model prog w) A (exec (.For target iter body orelse pos) env) Q E s := by
  refine wpAny_For (wpAny_mono h (fun xv s₁ h₁ => ?_) fun _ _ e => e) hs
  obtain ⟨r, a, n, t, u, v, m, news, J, rfl, hr, hsm, F, N, h0, step, done⟩ := h₁
  refine wpAny_pyIter_range hr hsm ?_
  have hsize : Builtin.Range.rangeSize a (a + (n : Nat)) 1 = (n : Int) := by
    unfold Builtin.Range.rangeSize
    rw [if_pos (by decide)]
    split <;> omega
  have W := Walks.range (prog := prog) (w := w) hh s₁.heap.objs.size a 1 n
  have hIL : s₁.heap.objs.size ≠ env.locals := Nat.ne_of_gt F.ns.lt
  refine forLoop_walk (s := { s₁ with heap := s₁.heap.push _ }) (R := fun r s' => match r with | .ok f => Q f s' | .error e => cameBackBy (model prog w) A env E e s') J W
    ?_ (fresh_none F) hIL (fun i h st => ⟨_, st⟩) ?_ (fun i s' v Q' st q => by rw [hgo]; exact wpAny_pure q)
    (F.push _) (fun p hp => ⟨Heap.get?_push_of_some _ (N p hp).1, (N p hp).2⟩) (fun p hp => Nat.ne_of_lt (Heap.lt_size (N p hp).1)) h0 ?_ ?_
  · have := Heap.get?_push_size s₁.heap (o := ({ cls := .type "range_iterator", data := .fields #[rawInt a, rawInt (Builtin.Range.rangeSize a (a + (n : Nat)) 1), rawInt 1] } : Obj)) rfl
    rw [hsize] at this
    simpa [IsRangeIter, rawInt, hsize] using this
  · intro i h h' m' news' io st hio hJ F' N'
    have z : h.get? s₁.heap.objs.size = some _ := st
    rw [hio] at z
    cases z
    exact (N' _ (.head _)).1
  · intro i v m₁ news₁ h₁ tk₁ io hi hP hJ hn F₁ N₁
    obtain ⟨t', rfl⟩ := hP
    exact step i _ t' m₁ news₁ h₁ tk₁ _ io hi (by simp) hJ hn hIL F₁ N₁
  · intro h' tk m' news' F' N' hJ
    exact done h' tk m' news' F' N' hJ
end
end
-- Lib3
section
section
variable {prog : Program} {w : World} {A : Around} {E : Value → Shared → Prop} {s : Shared}

theorem strs_values {vs : List Value} {ss : List Str} (h : StrsAre vs ss) : ∃ l : List (Str × Tok), vs = strValues l ∧ l.map (·.1) = ss := by
  induction h with
  | nil => exact ⟨[], rfl, rfl⟩
  | cons y t _ ih => obtain ⟨l, rfl, rfl⟩ := ih; exact ⟨(y, t) :: l, rfl, rfl⟩

theorem StrsAre.snoc {vs : List Value} {ss : List Str} (h : StrsAre vs ss) (x : Str) (t : Tok) : StrsAre (vs ++ [.str x t]) (ss ++ [x]) := by
  induction h with
  | nil => exact .cons x t .nil
  | cons y t' _ ih => exact .cons y t' ih

theorem join_rule {D : Addr} {arr : Array Value} {k : Nat} {ss : List Str} {sep : Str} {t : Tok} {Q : Value → Shared → Prop} (B : Nat) (hg : s.heap.get? D = some (PySem.W.listOf arr k)) (hs : StrsAre arr.toList ss)
    (hB : ∀ y ∈ ss, y.length ≤ B) (hB' : B ≤ 1000) (hn' : ss.length ≤ 1000) (hsp : sep.length ≤ 1000) (h : ∀ t' k', Q (.str (Str.join sep ss) t') { s with toks := k' }) :
    wpAny (model prog w) A (call (.builtin "str.join") [.str sep t, .ref D]) Q E s := by
  obtain ⟨l, el, hl⟩ := strs_values hs
  have hn : ss.length * B + ss.length * sep.length ≤ 16777216 := by
    have h1 := Nat.mul_le_mul hn' hB'
    have h2 := Nat.mul_le_mul hn' hsp
    omega
  have ea : arr = (strValues l).toArray := by rw [← el]
  subst ea
  refine SC.join (l := l) ⟨_, hg, rfl, k, rfl⟩ hl ?_ fun t' k' => ?_
  · unfold JoinOk
    rw [StrLaws.joinFits hB hn]; rfl
  · have e : Txt.join sep ss = Str.join sep ss := StrLaws.glued_eq_join sep ss
    rw [e]; exact h t' k'

/-- the frame with two names told -/
theorem canon2 {m : Str → Option Value} {a b : Str} {x y : Option Value} (h1 : m a = x) (h2 : m b = y) : m = fun z => if z = a then x else if z = b then y else m z := by
  funext z
  by_cases e1 : z = a
  · subst e1; simp [h1]
  · by_cases e2 : z = b
    · subst e2; simp [h2, e1]
    · simp [e1, e2]
theorem canon1 {m : Str → Option Value} {a : Str} {x : Option Value} (h1 : m a = x) : m = fun z => if z = a then x else m z := by
  funext z
  by_cases e1 : z = a
  · subst e1; simp [h1]
  · simp [e1]
theorem canon3 {m : Str → Option Value} {a b c : Str} {x y v : Option Value} (h1 : m a = x) (h2 : m b = y) (h3 : m c = v) : m = fun z => if z = a then x else if z = b then y else if z = c then v else m z := by
  funext z
  by_cases e1 : z = a
  · subst e1; simp [h1]
  · by_cases e2 : z = b
    · subst e2; simp [h2, e1]
    · by_cases e3 : z = c
      · subst e3; simp [h3, e1, e2]
      · simp [e1, e2, e3]
end
end
-- LibH
section
set_option compiler.extract_closed false
theorem hen {X : Type} (S : X → Prop) (n : Nonempty X) (h : S (@Classical.epsilon X n fun x => ¬ S x)) (x : X) : S x := Classical.byContradiction fun k => Classical.epsilon_spec (p := fun x => ¬ S x) ⟨x, k⟩ h
def w0 : World := ⟨fun _ _ => 0, { strHash := fun _ => 0, shareClass := fun _ => 0, mergeTok := fun t => t, idOf := fun _ => 0, idOfShared := fun _ _ => 0, followText := fun _ => false, idOfImm := fun _ => 0 }⟩
end
local macro_rules (kind := PySem.W.tacticK_all) | s => return Mine.kx "k_all"
local macro_rules (kind := PySem.W.tacticK_mem) | s => return Mine.kx "k_mem"
local macro_rules (kind := PySem.W.tacticK_upd) | s => return Mine.kx "k_upd"
local macro_rules (kind := PySem.W.tacticK_updF) | s => return Mine.kx "k_updF"
local macro_rules (kind := PySem.W.tacticK_fold) | s => return Mine.kx "k_fold"
local macro_rules (kind := PySem.W.X.tacticX_close) | s => return Mine.kx "x_close"
local macro_rules (kind := PySem.W.tacticK_lt_) | s => Mine.kh "k_lt" s[1]
local macro_rules (kind := PySem.W.tacticK_lt2_) | s => Mine.kh "k_lt2" s[1]
-- Lib4
section
open PySem PySem.W PySem.W.X PySem.Calls PySem.Spec PyProof.Rows
noncomputable def boundApp (l : Addr) : Obj := { cls := .type "builtin_function_or_method", data := .fields #[.builtin "list.append", .ref l] }
theorem boundApp_eq (l : Addr) : ({ cls := .type "builtin_function_or_method", data := .fields #[.builtin (toString "list" ++ toString "." ++ toString (Str.ofString "append").toString), .ref l] } : Obj) = boundApp l := by
  unfold boundApp
  have : (toString "list" ++ toString "." ++ toString (Str.ofString "append").toString) = "list.append" := by decide +kernel
  rw [this]
section
variable {prog : Program} {w : World} {A : Around} {s : Shared} {Q E : Value → Shared → Prop} {l : Addr} {arr : Array Value} {n : Nat} {h₀ : Heap} {L : Addr} {m : Str → Option Value} {news : List (Addr × Obj)}
noncomputable def End1 (Q : Value → Shared → Prop) (s : Shared) (o : Obj) (k : Nat) : Prop := ∀ a h', Mem s.heap h' [] [(a, o)] → Q (.ref a) { s with heap := h', toks := s.toks + k }
theorem mem_obj {h h' : Heap} {a : Addr} {o o' : Obj} (e : o = o') (D : Mem h h' [] [(a, o)]) : Mem h h' [] [(a, o')] := e ▸ D
section
theorem rowsXLib4 : True := by
  k_with_none
  k_with "x_close" => ((with_reducible rename End1 _ _ _ _ => kE); exact kE _ _ (mem_obj (boundApp_eq _) (by assumption)))
  trivial
set_option maxRecDepth 100000 in
set_option maxHeartbeats 8000000 in
theorem getAttr_append0 (ho : s.heap.get? l = some { cls := .type "list", dict := none, data := .seq arr n, slots := #[] })
    (h : End1 Q s (boundApp l) 1) :
    wpAny (model prog w) A (getAttr (.ref l) (Str.ofString "append") true) Q E s := by
  refine x_fresh ?_
  with_unfolding_all refine x_load (a := l) ho ?_
  x_run
end
theorem mem_stays {h h' : Heap} {news : List (Addr × Obj)} (D : Mem h h' [] news) : h.StaysIn h' := fun b o e => D.keep b o e (by simp [away])
/-- written.append, as a value -/
theorem getAttr_append (F : Fr h₀ L s.heap m) (N : News h₀ L s.heap news) (hm : (l, PySem.W.listOf arr n) ∈ news)
    (h : ∀ a h', Fr h₀ L h' m → News h₀ L h' ((a, boundApp l) :: news) → (∀ p ∈ news, @Ne Nat p.1 a) → Q (.ref a) { s with heap := h', toks := s.toks + 1 }) :
    wpAny (model prog w) A (getAttr (.ref l) (Str.ofString "append") true) Q E s := by
  refine getAttr_append0 (N.get hm) fun a h' D => ?_
  have st := mem_stays D
  have hna : s.heap.get? a = none := (D.nw _ (.head _)).2
  have hL : a ≠ L := fun e => by obtain ⟨o, _, _, ho, _⟩ := F.ns; rw [e, ho] at hna; cases hna
  refine h a h' ⟨F.ns.at' fun o e => st _ o e, fun b o e => st b o (F.keep b o e), F.above⟩ (fun p hp => ?_) fun p hp e => ?_
  · rcases List.mem_cons.mp hp with rfl | hp
    · refine ⟨(D.nw _ (.head _)).1, hL, ?_⟩
      cases e : h₀.get? a with
      | none => rfl
      | some o => rw [F.keep _ _ e] at hna; cases hna
    · exact ⟨st _ _ (N p hp).1, (N p hp).2⟩
  · have := (N p hp).1
    rw [e, hna] at this; cases this

noncomputable def BoundAt (x l : Addr) (h : Heap) : Prop := h.get? x = some (boundApp l)
theorem callWith_bappF {pos : Pos} {u : Addr} {first : List Value} {args : List (Bool × Sem Value)} (hplain : args.any (·.1) = false)
    (h : wpAny (model prog w) A (evalArgs (.ref u) true args []) (fun x s₁ => BoundAt u l s₁.heap ∧ wpAny (model prog w) A (call (.ref u) (first ++ x.pos) x.kw) Q E s₁) E s) : wpAny (model prog w) A (callWith pos (.ref u) first args []) Q E s := by
  unfold callWith
  refine wpAny_bind (wpAny_holding (wpAny_mono h (fun x s₁ h₁ => wpAny_bind (wpAny_standAt ?_)) fun _ _ x => x))
  obtain ⟨ho, hcall⟩ := h₁
  simp only [hplain, List.any_nil, Bool.or_false]
  refine wpAny_bind (m := keeperOf (.ref u)) ?_
  unfold keeperOf
  refine wpAny_bind (wpAny_load ho ?_)
  simp only [boundApp, show (Value.type "builtin_function_or_method" != Value.type "method") = true by decide, show (Value.type "builtin_function_or_method" == Value.type "builtin_function_or_method" || Value.type "builtin_function_or_method" == Value.type "method-wrapper") = true by decide, if_true]
  refine wpAny_pure ?_
  exact wpAny_bind (wpAny_mono hcall (fun r s₂ hr => wpAny_bind (wpAny_holding (wpAny_point (wpAny_pure hr)))) fun _ _ x => x)
theorem callWith_bapp {pos : Pos} {u : Addr} {first : List Value} {env : Env} {e : Expr} {rest : List Expr} (_N : News h₀ L s.heap news) (_hm : (u, boundApp l) ∈ news)
    (h : wpAny (model prog w) A (spliced (backTo pos (starEach (e :: rest) env))) (fun vs s₁ => BoundAt u l s₁.heap ∧ wpAny (model prog w) A (call (.ref u) (first ++ vs)) Q E s₁) E s)
    (he : starEach (e :: rest) env = (false, eval e env) :: starEach rest env := by rfl) (hplain : (backTo pos (starEach rest env)).any (·.1) = false := by rfl) :
    wpAny (model prog w) A (callWith pos (.ref u) first (backTo pos (starEach (e :: rest) env)) []) Q E s := by
  rw [he] at h ⊢
  refine callWith_bappF (l := l) (by show (false || (backTo pos (starEach rest env)).any (·.1)) = false; rw [hplain]; rfl) ?_
  exact evalArgs_plain h

theorem quiet_append {as : Args} : (Code.builtin "list.append" as).quiet = true := Code.quiet_builtin _ (by decide +kernel)
theorem sig_append : Manifest.signature? "list.append" = some ⟨.oneArg, "list.append", "append", .self, [⟨"object", .posOnly, true⟩]⟩ := by
  rw [signature?_of (id := "list.append") (n := ['d', 'n', 'e', 'p', 'p', 'a']) (o := ['t', 's', 'i', 'l']) (by kernel_rfl) F.owner_list]; kernel_rfl
theorem kind_append : builtinKind "list.append" = some .method := by kernel_rfl
theorem check_bapp {M : Model} {v : Value} {P : Unit → Shared → Prop} (ho : s.heap.get? l = some (PySem.W.listOf arr n)) (h : P () s) : wpAny M A (checkBoundCall "list.append" ⟨[.ref l, v], []⟩) P E s := by
  have hT : s.TypeIs (.ref l) "list" := ⟨_, ho, rfl⟩
  unfold checkBoundCall
  rw [sig_append]
  dsimp only
  rw [kind_append]
  dsimp only
  rw [if_neg (by decide)]
  refine wpAny_bind (wpAny_isInstance hT (b := false) (by rw [isSubtype_type]; kernel_rfl) ?_)
  rw [if_neg (by rw [Bool.or_false]; decide +kernel)]
  refine wpAny_bind (m := isType (.ref l)) ?_
  unfold isType loadHead
  refine wpAny_bind (wpAny_loadPart ho ?_)
  refine wpAny_pure ?_
  dsimp only
  rw [if_neg (by decide)]
  refine wpAny_bind (wpAny_typeOf hT ?_)
  dsimp only
  exact wpAny_of_eq (a := ()) (by kernel_rfl) h
theorem call_bapp {u : Addr} {v : Value} {news' : List (Addr × Obj)} (F : Fr h₀ L s.heap m) (N : News h₀ L s.heap news) (hm : (u, boundApp l) ∈ news) (U : Upd l (PySem.W.listOf arr n) (PySem.W.listOf (arr.push v) (n + 1)) news news')
    (h : ∀ h', Fr h₀ L h' m → News h₀ L h' news' → Q .none { s with heap := h' }) (hsz : arr.size ≤ sizeLine := by size_fits) : wpAny (model prog w) A (call (.ref u) [v]) Q E s := by
  obtain ⟨pre, post, rfl, rfl, a, b⟩ := U.split
  have z := N (l, PySem.W.listOf arr n) (List.mem_append.mpr (.inr (.head _)))
  have ho := N.get hm
  refine wpAny_call (codeAny_of_tree ?_)
  show wpAny _ A.in1 (callAny (.ref u) ⟨[v], []⟩) _ _ s
  simp only [callAny]
  refine wpAny_bind (wpAny_load ho ?_)
  simp only [boundApp, show (Value.type "builtin_function_or_method" == Value.type "method" || Value.type "builtin_function_or_method" == Value.type "builtin_function_or_method" || Value.type "builtin_function_or_method" == Value.type "method-wrapper") = true by decide, if_true]
  show wpAny _ A.in1 (if (Value.type "builtin_function_or_method" != Value.type "method") = true then (do checkBoundCall "list.append" ⟨[.ref l, v], []⟩; again (.builtin "list.append" ⟨[.ref l, v], []⟩)) else again (.call (.builtin "list.append") ⟨[.ref l, v], []⟩)) _ _ s
  rw [if_pos (by decide)]
  refine wpAny_bind (check_bapp z.1 (wpAny_pure ⟨quiet_append, codeAny_builtin entry_list_append ?_⟩))
  show wpAny _ _ (updateSeq l (·.push v) >>= fun _ => ret .none) _ _ s
  refine wpAny_bind ?_
  refine wpAny_updateSeq z.1 rfl (wpAny_pure ?_)
  refine h _ (F.change (Heap.SameBut.update ..) z.2.1 z.2.2) (news_set N a b (Heap.SameBut.update ..) ?_)
  rw [Heap.get?_update_self _ z.1 (by rw [Obj.mapSeq_push_plain]; rfl), Obj.mapSeq_push_plain]
end
end
-- Base
local macro_rules | `(tactic| walk_at $s:str) => `(tactic| k_extra $s)
section
/-- what a call of a def that changes nothing old promises -/
noncomputable def PCall (prog : Program) (w : World) (f : Addr) (vs : List Value) (dN uN : Nat) (H : Heap → Prop) (P : Heap → Value → Heap → Prop) : Prop :=
  ∀ (p : Program) (loose : List Str) (mean : ExcName → Option Value) (mg mb : Str → Option Value) (dp un : Nat) (gd : Option (List Code)) (cn : Str) (cs : Scope) (a : Addr) (ccd : Value) (cl : List (Str × Addr)) (outer : List Env) (A₀ : Around) (base h₀ : Heap) (L : Addr) (m : Str → Option Value) (s : Shared) (Q E : Value → Shared → Prop),
    Below A₀ base outer h₀ → Fr h₀ L s.heap m → (hd.heap_39 w.params).In h₀ → Top p loose mean mg mb h₀ → cs.kind = .function → dp + dN < recursionLimit → un + uN < cLine → H s.heap →
    (∀ v h' tk', s.heap.StaysIn h' → P s.heap v h' → Q v { s with heap := h', toks := tk' }) →
    wpAny (model prog w) (ktrTop dp un gd cn cs L a ccd cl outer) (call (.ref f) vs) Q E s

section
variable {prog : Program} {w : World} {A A₀ : Around} {s : Shared} {K : Frag} {L : Addr} {h₀ base : Heap} {m mg mb : Str → Option Value} {p : Program} {loose : List Str} {mean : ExcName → Option Value}

theorem code_pure {env : Env} {outer : List Env} {R : Result → Shared → Prop} {name qual : Str} {params : Arguments} {body : List Stmt} {scope : Scope} {dV kV doc pm cdv ct oc : Value} {an od : Option Addr} {osl : Array (Option Value)} {f : Addr} {args : Args} {binds : List (Str × Value)}
    (B : Below A₀ base outer h₀) (F : Fr h₀ L s.heap m) (X₀ : K.In h₀) (T : Top p loose mean mg mb h₀) (hA : A.frames = some (env :: outer)) (hf : env.frame = some L) (hke : env.scope.kind = .function)
    (ho : K.lookup f = some ⟨oc, od, .func (fnOf name qual params body scope dV kV doc pm an cdv ct), osl⟩) (hcd : codeIn K cdv qual = true) (hroom : A.depth < recursionLimit)
    (hbind : BindsTo s (fnOf name qual params body scope dV kV doc pm an cdv ct) args binds) (hloc : ∀ y ∈ binds, scope.names.lookup y.1 = some .local)
    (h : ∀ L' h₁, Fr s.heap L' h₁ (fun y => binds.reverse.lookup y) → News s.heap L' h₁ [] → Below A base (env :: outer) s.heap → K.In s.heap → Top p loose mean mg mb s.heap →
      wpAny (model prog w) (A.deeper (envOf qual scope L' f cdv)) (execs body (envOf qual scope L' f cdv))
        (fun fl s' => LeaveK h₀ L m s.heap R (match fl with | .ret v => v | _ => .none) s')
        (fun e s' => wpAny (model prog w) (A.deeper (envOf qual scope L' f cdv)) (leaving (envOf qual scope L' f cdv) e) (fun _ s'' => R (.error e) s'') (fun e' s'' => R (.error e') s'') s')
        { s with heap := h₁, toks := s.toks + binds.length })
    (hco : scope.isCoroutine = false) (hgen : scope.isGenerator = false) (hk : scope.kind = .function)
    (hcell : ∀ x ∈ scope.names, x.2 ≠ .cell) : codeAny (model prog w) A (.call (.ref f) args) R s := by
  obtain ⟨FG, BG, st, lv⟩ := groundX (R := R) B F News.nil hA hf hke
  refine codeAny_call_def (fd := fnX name qual params body scope [] dV kV doc pm an cdv ct) (body := body) (binds := binds) hroom ((X₀.keeps F.keep) _ _ ho) rfl (T.nolimit.keeps F.keep) (codeRec_of (X₀.keeps F.keep) hcd) rfl hbind hcell hloc (fun h₁ hns hk₁ => ?_) hco hgen hk
  exact wpAny_mono (h s.heap.objs.size h₁ ⟨hns, fun b o e => hk₁ b o e, Nat.le_refl _⟩ News.nil BG (X₀.keeps F.keep) (T.keeps F.keep)) (fun fl s' hl => lv _ _ hl) fun _ _ y => y
end

section
variable {prog : Program} {w : World} {s : Shared} {L : Addr} {h₀ base : Heap} {m mg mb : Str → Option Value} {p : Program} {loose : List Str} {mean : ExcName → Option Value} {news : List (Addr × Obj)} {Q E : Value → Shared → Prop}
theorem use_pure {f : Addr} {vs : List Value} {dN uN : Nat} {H : Heap → Prop} {P : Heap → Value → Heap → Prop} (C : PCall prog w f vs dN uN H P)
    {dp un : Nat} {gd : Option (List Code)} {cn : Str} {cs : Scope} {a : Addr} {ccd : Value} {cl : List (Str × Addr)} {outer : List Env} {A₀ : Around}
    (B : Below A₀ base outer h₀) (F : Fr h₀ L s.heap m) (X : (hd.heap_39 w.params).In h₀) (N : News h₀ L s.heap news) (T : Top p loose mean mg mb h₀) (hk : cs.kind = .function) (hd' : dp + dN < recursionLimit) (hu : un + uN < cLine) (hH : H s.heap)
    (h : ∀ v h' tk', s.heap.StaysIn h' → P s.heap v h' → Fr h₀ L h' m → News h₀ L h' news → Q v { s with heap := h', toks := tk' }) :
    wpAny (model prog w) (ktrTop dp un gd cn cs L a ccd cl outer) (call (.ref f) vs) Q E s :=
  C p loose mean mg mb dp un gd cn cs a ccd cl outer A₀ base h₀ L m s Q E B F X T hk hd' hu hH fun v h' tk' st pv =>
    h v h' tk' st pv ⟨F.ns.at' fun o e => st _ o e, fun b o e => st b o (F.keep b o e), F.above⟩ fun q hq => ⟨st _ _ (N q hq).1, (N q hq).2⟩
end
end
-- BaseH
section
noncomputable abbrev PCallAt (p : Program) (loose : List Str) (mean : ExcName → Option Value) (mg : Str → Option Value) (mb : Str → Option Value) (dp : Nat) (un : Nat) (gd : Option (List Code)) (cn : Str) (cs : Scope) (a : Addr) (ccd : Value) (cl : List (Str × Addr)) (outer : List Env) (A₀ : Around) (base : Heap) (h₀ : Heap) (L : Addr) (m : Str → Option Value) (s : Shared) (Q : Value → Shared → Prop) (E : Value → Shared → Prop) (prog : Program) (w : World) (f : Addr) (vs : List Value) (dN uN : Nat) (H : Heap → Prop) (P : Heap → Value → Heap → Prop) : Prop :=
    Below A₀ base outer h₀ → Fr h₀ L s.heap m → (hd.heap_39 w.params).In h₀ → Top p loose mean mg mb h₀ → cs.kind = .function → dp + dN < recursionLimit → un + uN < cLine → H s.heap →
    (∀ v h' tk', s.heap.StaysIn h' → P s.heap v h' → Q v { s with heap := h', toks := tk' }) →
    wpAny (model prog w) (ktrTop dp un gd cn cs L a ccd cl outer) (call (.ref f) vs) Q E s

noncomputable abbrev QCallAt (p : Program) (loose : List Str) (mean : ExcName → Option Value) (mg : Str → Option Value) (mb : Str → Option Value) (dp : Nat) (un : Nat) (gd : Option (List Code)) (cn : Str) (cs : Scope) (a : Addr) (ccd : Value) (cl : List (Str × Addr)) (outer : List Env) (A₀ : Around) (base : Heap) (h₀ : Heap) (L : Addr) (m : Str → Option Value) (s : Shared) (Q : Value → Shared → Prop) (E : Value → Shared → Prop) (prog : Program) (w : World) (f : Addr) (vs : List Value) (dN uN : Nat) (sub : List (Addr × Obj)) (P : Heap → Value → Heap → Prop) : Prop :=
    Below A₀ base outer h₀ → Fr h₀ L s.heap m → (hd.heap_39 w.params).In h₀ → News h₀ L s.heap sub → Top p loose mean mg mb h₀ → cs.kind = .function → dp + dN < recursionLimit → un + uN < cLine →
    (∀ v h' tk', s.heap.StaysIn h' → P s.heap v h' → Q v { s with heap := h', toks := tk' }) →
    wpAny (model prog w) (ktrTop dp un gd cn cs L a ccd cl outer) (call (.ref f) vs) Q E s

noncomputable abbrev MCallAt (p : Program) (loose : List Str) (mean : ExcName → Option Value) (mg : Str → Option Value) (mb : Str → Option Value) (dp : Nat) (un : Nat) (gd : Option (List Code)) (cn : Str) (cs : Scope) (a : Addr) (ccd : Value) (cl : List (Str × Addr)) (outer : List Env) (A₀ : Around) (base : Heap) (h₀ : Heap) (L : Addr) (m : Str → Option Value) (s : Shared) (Q : Value → Shared → Prop) (E : Value → Shared → Prop) (prog : Program) (w : World) (f : Addr) (vs : List Value) (dN uN : Nat) (sub : List (Addr × Obj)) (H : Heap → Heap → Prop) (P : Heap → Value → Heap → Prop) : Prop :=
    Below A₀ base outer h₀ → Fr h₀ L s.heap m → (hd.heap_39 w.params).In h₀ → News h₀ L s.heap sub → Top p loose mean mg mb h₀ → cs.kind = .function → dp + dN < recursionLimit → un + uN < cLine → H h₀ s.heap →
    (∀ v h' tk' d', (∀ b o, s.heap.get? b = some o → b ∉ sub.map (·.1) → h'.get? b = some o) → P s.heap v h' → Q v { s with heap := h', toks := tk', drawn := d' }) →
    wpAny (model prog w) (ktrTop dp un gd cn cs L a ccd cl outer) (call (.ref f) vs) Q E s

noncomputable abbrev QCodeAt (p : Program) (loose : List Str) (mean : ExcName → Option Value) (mg : Str → Option Value) (mb : Str → Option Value) (dp : Nat) (un : Nat) (gd : Option (List Code)) (cn : Str) (cs : Scope) (a : Addr) (ccd : Value) (cl : List (Str × Addr)) (outer : List Env) (A₀ : Around) (base : Heap) (h₀ : Heap) (L : Addr) (m : Str → Option Value) (s : Shared) (Q : Value → Shared → Prop) (E : Value → Shared → Prop) (prog : Program) (w : World) (f : Addr) (vs : List Value) (dN uN : Nat) (sub : List (Addr × Obj)) (P : Heap → Value → Heap → Prop) : Prop :=
    Below A₀ base outer h₀ → Fr h₀ L s.heap m → (hd.heap_39 w.params).In h₀ → News h₀ L s.heap sub → Top p loose mean mg mb h₀ → cs.kind = .function → dp + dN < recursionLimit → un + uN < cLine →
    (∀ v h' tk', s.heap.StaysIn h' → P s.heap v h' → Q v { s with heap := h', toks := tk' }) →
    codeAny (model prog w) (ktrTop dp un gd cn cs L a ccd cl outer) (.call (.ref f) ⟨vs, []⟩) (fun r s' => match r with | .ok (.ret v) => Q v s' | .ok _ => False | .error e => E e s') s
end
-- Lib5
section
section
variable {prog : Program} {w : World} {A : Around} {E : Value → Shared → Prop} {s : Shared} {env : Env}
/-- the walk over a text's signs -/
theorem iter_str {x : Str} {t : Tok} {Q : Value → Shared → Prop} (hh : A.handled = none)
    (h : ∀ (o : Obj) (St : Nat → Heap → Prop), Walks prog w A s.heap.objs.size [s.heap.objs.size] [s.heap.objs.size] x.cps.size (SignAt x) St → St 0 (s.heap.push o) → (∀ i h, St i h → ∃ o, h.get? s.heap.objs.size = some o) →
      Q (.ref s.heap.objs.size) { s with heap := s.heap.push o }) : wpAny (model prog w) A (pyIter (.str x t)) Q E s := by
  cases ha : x.cps.all (· < 128)
  · exact wpAny_pyIter_wide ha (h _ _ (Walks.strWide hh _ x t) ⟨_, Heap.get?_push_size _ rfl, rfl, rfl⟩ fun i h st => let ⟨o, ho, _⟩ := st; ⟨o, ho⟩)
  · exact wpAny_pyIter_ascii ha (h _ _ (Walks.strAscii hh _ x t) ⟨_, Heap.get?_push_size _ rfl, rfl, rfl⟩ fun i h st => let ⟨o, ho, _⟩ := st; ⟨o, ho⟩)
theorem signs_are {x : Str} {vs : List Value} (hl : vs.length = x.cps.size) (h : ∀ j v, vs[j]? = some v → SignAt x j v) : StrsAre vs (x.cps.toList.map fun c => ⟨#[c]⟩) := by
  have gen : ∀ (cs : List Nat) (vs : List Value), vs.length = cs.length → (∀ (j : Nat) (v : Value), vs[j]? = some v → ∃ (c : Nat) (u : Tok), cs[j]? = some c ∧ v = Value.str ⟨#[c]⟩ u) → StrsAre vs (cs.map fun c => (⟨#[c]⟩ : Str)) := by
    intro cs
    induction cs with
    | nil => intro vs hl _; rw [List.length_eq_zero_iff.mp hl]; exact .nil
    | cons c cs ih =>
      intro vs hl h
      match vs, hl, h with
      | v :: vs, hl, h =>
        obtain ⟨c', u, e, rfl⟩ := h 0 v rfl
        simp only [List.getElem?_cons_zero, Option.some.injEq] at e
        subst e
        exact .cons _ _ (ih vs (by simpa using hl) fun j v e => h (j + 1) v (by simpa using e))
  exact gen _ _ (by simpa using hl) fun j v e => let ⟨c, u, e1, e2⟩ := h j v e; ⟨c, u, by simpa using e1, e2⟩
/-- ready for a comprehension over a text -/
noncomputable def StrReady (prog : Program) (w : World) (A : Around) (env : Env) (target : Expr) (ifs : List Expr) (elt : Expr) (scope : Scope) (cl : List (Str × Addr)) (p : Value → Bool) (G : Heap → Value → Value → Prop) (Q : Value → Shared → Prop) (xv : Value) (s₁ : Shared) : Prop :=
  ∃ x t, xv = .str x t ∧ x.cps.size ≤ sizeLine ∧
      (∀ C (i : Nat) c u s₃ m₃, s₁.heap.objs.size ≤ C → x.cps[i]? = some c → s₃.heap.Ns C m₃ → (∃ h tk, s₃ = { s₁ with heap := h, toks := tk }) → s₁.heap.StaysIn s₃.heap →
        Turn prog w A (compEnvC scope cl C env) target ifs elt C p G (.str ⟨#[c]⟩ u) s₃) ∧
      (∀ D h' tk (ys vs : List Value) k, s₁.heap.objs.size ≤ D → h'.get? D = some (PySem.W.listOf ys.toArray k) → StrsAre vs (x.cps.toList.map fun c => ⟨#[c]⟩) → Paired (G h') (vs.filter p) ys →
        s₁.heap.StaysIn h' → Q (.ref D) { s₁ with heap := h', toks := tk })
/-- ready for a comprehension over a list -/
noncomputable def CompReady (prog : Program) (w : World) (A : Around) (env : Env) (target : Expr) (ifs : List Expr) (elt : Expr) (scope : Scope) (cl : List (Str × Addr)) (p : Value → Bool) (G : Heap → Value → Value → Prop) (Q : Value → Shared → Prop) (xv : Value) (s₁ : Shared) : Prop :=
  ∃ l, ∃ vs : List Value, xv = .ref l ∧ s₁.heap.IsList l vs.toArray ∧ vs.length ≤ sizeLine ∧
      (∀ C (i : Nat) v s₃ m₃, s₁.heap.objs.size ≤ C → vs[i]? = some v → s₃.heap.Ns C m₃ → (∃ h tk, s₃ = { s₁ with heap := h, toks := tk }) → s₁.heap.StaysIn s₃.heap →
        Turn prog w A (compEnvC scope cl C env) target ifs elt C p G v s₃) ∧
      (∀ D h' tk (ys : List Value) k, s₁.heap.objs.size ≤ D → h'.get? D = some (PySem.W.listOf ys.toArray k) → Paired (G h') (vs.filter p) ys →
        s₁.heap.StaysIn h' → Q (.ref D) { s₁ with heap := h', toks := tk })
theorem ListComp_ready {elt target iter : Expr} {ifs : List Expr} {scope : Scope} {cl : List (Str × Addr)} {pos : Pos} {Q : Value → Shared → Prop} (p : Value → Bool) (G : Heap → Value → Value → Prop)
    (hh : A.handled = none) (hclos : closureFor scope env = pure cl) (hcell : ∀ y ∈ scope.names, y.2 ≠ .cell) (hkind : scope.kind = .function)
    (hnames : ∀ y ∈ scope.names, y.2 = .local → scope.names.lookup y.1 = some .local)
    (h : wpAny (model prog w) A (eval iter env) (fun xv s₁ => CompReady prog w A env target ifs elt scope cl p G Q xv s₁) E s)
    (hs : ∀ x, foldedSetIterable iter env x = pure x := by intro _; rfl) :
    wpAny (model prog w) A (eval (.ListComp elt [⟨target, iter, ifs, 0⟩] scope pos) env) Q E s := ListComp_list p G hh hclos hcell hkind hnames h hs
/-- over the signs of a text -/
theorem ListComp_str {elt target iter : Expr} {ifs : List Expr} {scope : Scope} {cl : List (Str × Addr)} {pos : Pos} {Q : Value → Shared → Prop} (p : Value → Bool) (G : Heap → Value → Value → Prop)
    (hh : A.handled = none) (hclos : closureFor scope env = pure cl) (hcell : ∀ y ∈ scope.names, y.2 ≠ .cell) (hkind : scope.kind = .function)
    (hnames : ∀ y ∈ scope.names, y.2 = .local → scope.names.lookup y.1 = some .local) (hgo : ∀ it v, letOwnedTupleGo target it v = pure ())
    (h : wpAny (model prog w) A (eval iter env) (fun xv s₁ => StrReady prog w A env target ifs elt scope cl p G Q xv s₁) E s)
    (hs : ∀ x, foldedSetIterable iter env x = pure x := by intro _; rfl) :
    wpAny (model prog w) A (eval (.ListComp elt [⟨target, iter, ifs, 0⟩] scope pos) env) Q E s := by
  refine ListComp_walk p G hclos hcell hkind hnames (wpAny_mono h (fun xv s₁ h₁ => ?_) fun _ _ e => e) hs
  obtain ⟨x, t, rfl, hsz, ht, hQ⟩ := h₁
  refine iter_str hh fun o St W hst hlv => ?_
  have old : ∀ b o, s₁.heap.get? b = some o → b ∉ [s₁.heap.objs.size] := fun b o e q => Nat.lt_irrefl _ (List.mem_singleton.mp q ▸ Heap.lt_size e)
  refine ⟨_, _, _, _, _, _, rfl, W, hsz, hst, ?_, ?_, fun i s' v Q' st q => by rw [hgo]; exact wpAny_pure q, ?_, ?_⟩
  · intro b hb
    show b < (s₁.heap.push _).objs.size
    rw [Heap.size_push, List.mem_singleton.mp hb]
    exact Nat.lt_succ_self _
  · intro i h st b hb
    rw [List.mem_singleton.mp hb]; exact hlv i h st
  · intro C i v s₃ m₃ hC hP hn hs₃ hk
    obtain ⟨c, u, hc, rfl⟩ := hP
    refine ht C i c u s₃ m₃ ?_ hc hn (by obtain ⟨a, b, rfl⟩ := hs₃; exact ⟨a, b, rfl⟩) fun b o e => hk b o (old b o e) (Heap.get?_push_of_some _ e)
    have : (s₁.heap.push o).objs.size ≤ C := hC
    rw [Heap.size_push] at this
    exact Nat.le_of_succ_le this
  · intro D h' tk ys k vs' hD hg hlen hP hF hk
    refine hQ D h' tk ys vs' k ?_ hg (signs_are hlen hP) hF fun b o q => hk b o (old b o q) (Heap.get?_push_of_some _ q)
    have : (s₁.heap.push o).objs.size ≤ D := hD
    rw [Heap.size_push] at this
    exact Nat.le_of_succ_le this
end
end
-- Lib6
section
/-- which test and relation the next comprehension is to keep -/
noncomputable def Gis (_ : Value → Bool) (_ : Heap → Value → Value → Prop) : Prop := True
noncomputable abbrev getP {p : Value → Bool} {G : Heap → Value → Value → Prop} (_ : Gis p G) : Value → Bool := p
noncomputable abbrev getG {p : Value → Bool} {G : Heap → Value → Value → Prop} (_ : Gis p G) : Heap → Value → Value → Prop := G
noncomputable def AllNe (d : Nat) : List (Addr × Obj) → Prop
  | [] => True
  | p :: r => @Ne Nat p.1 d ∧ AllNe d r
theorem allNe_of {d : Addr} : ∀ {l : List (Addr × Obj)}, (∀ p ∈ l, p.1 ≠ d) → AllNe d l
  | [], _ => trivial
  | p :: r, h => ⟨h p (.head _), allNe_of fun q hq => h q (.tail _ hq)⟩
theorem allNe_mem {d : Addr} : ∀ {l : List (Addr × Obj)}, AllNe d l → ∀ p ∈ l, p.1 ≠ d
  | [], _, q, hq => by cases hq
  | p :: r, h, q, hq => (List.mem_cons.mp hq).elim (fun e => e ▸ h.1) fun hq => allNe_mem h.2 q hq
section
variable {prog : Program} {w : World} {A : Around} {E : Value → Shared → Prop} {s s₁ : Shared} {env : Env} {h₀ : Heap} {L C : Addr} {m m₃ : Str → Option Value} {news : List (Addr × Obj)} {scope : Scope} {cl : List (Str × Addr)}

/-- what the element's own tree leaves -/
noncomputable def EltEnd (p : Value → Bool) (G : Heap → Value → Value → Prop) (v : Value) (s : Shared) (y : Value) (s₄ : Shared) : Prop :=
  ∃ h tk, s₄ = { s with heap := h, toks := tk } ∧ s.heap.StaysIn h ∧ p v = true ∧ ∀ hf : Heap, (∀ b o, s.heap.get? b = none → h.get? b = some o → hf.get? b = some o) → G hf v y

theorem block_ground {h' : Heap} (F : Fr h₀ L s₁.heap m) (N : News h₀ L s₁.heap news) (hC : s₁.heap.objs.size ≤ C) (st : ∀ b o, b ≠ C → s₁.heap.get? b = some o → h'.get? b = some o) (hn : h'.Ns C m₃) :
    ∃ oC, LCg.NsObj oC m₃ ∧ Fr h₀ L h' m ∧ News h₀ L h' ((C, oC) :: news) ∧ AllNe C news ∧ @Ne Nat C L := by
  obtain ⟨oC, heC, hoC⟩ := LCg.ns_obj hn
  have hlt : ∀ b o, s₁.heap.get? b = some o → b ≠ C := fun b o e => Nat.ne_of_lt (Nat.lt_of_lt_of_le (Heap.lt_size e) hC)
  have st' : s₁.heap.StaysIn h' := fun b o e => st b o (hlt b o e) e
  have hL : C ≠ L := by
    obtain ⟨o', _, _, ho', _⟩ := F.ns
    exact Ne.symm (hlt _ _ ho')
  refine ⟨oC, hoC, ⟨F.ns.at' fun o e => st' _ o e, fun b o e => st' b o (F.keep b o e), F.above⟩, fun q hq => ?_, allNe_of fun q hq => hlt _ _ (N q hq).1, hL⟩
  rcases List.mem_cons.mp hq with rfl | hq
  · refine ⟨heC, hL, ?_⟩
    cases e : h₀.get? C with
    | none => rfl
    | some o => exact absurd rfl (hlt _ _ (F.keep _ _ e))
  · exact ⟨st' _ _ (N q hq).1, (N q hq).2⟩

/-- a turn with one name -/
theorem turn_name {elt : Expr} {x : Str} {pos : Pos} {v : Value} {p : Value → Bool} {G : Heap → Value → Value → Prop} (F : Fr h₀ L s₁.heap m) (N : News h₀ L s₁.heap news) (hC : s₁.heap.objs.size ≤ C) (st : s₁.heap.StaysIn s.heap) (hn : s.heap.Ns C m₃)
    (hx : scope.names.lookup x = some .local) (hkind : scope.kind = .function)
    (h : ∀ h' tk oC m₂, LCg.NsObj oC m₂ → m₂ x = some v → Fr h₀ L h' m → News h₀ L h' ((C, oC) :: news) → s₁.heap.StaysIn h' → AllNe C news → @Ne Nat C L →
      wpAny (model prog w) A (eval elt (compEnvC scope cl C env)) (EltEnd p G v { s with heap := h', toks := tk }) (fun _ _ => False) { s with heap := h', toks := tk }) :
    Turn prog w A (compEnvC scope cl C env) (.Name x pos) [] elt C p G v s := by
  refine wpAny_assign_Name (wpAny_storeName_local (lookup_relabel_local hx) hn (fun h₂ hn₂ hs₂ => ?_) (by simp [compEnvC, relabel, hkind]))
  refine tests_nil ?_
  simp only [if_true]
  obtain ⟨oC, hoC, F', N', hne, hL⟩ := block_ground F N hC (fun b o hb e => hs₂.extBut b o hb (st b o e)) hn₂
  refine wpAny_mono (h h₂ _ oC _ hoC (by simp) F' N' (fun b o e => hs₂.extBut b o (Nat.ne_of_lt (Nat.lt_of_lt_of_le (Heap.lt_size e) hC)) (st b o e)) hne hL) (fun y s₄ h₄ => ?_) fun _ _ e => e
  obtain ⟨h', tk, rfl, st', hp, hG⟩ := h₄
  have hnone : ∀ b, s.heap.get? b = none → h₂.get? b = none := fun b e => by
    by_cases hb : b = C
    · rw [hb] at e
      obtain ⟨o', _, _, ho', _⟩ := hn
      rw [ho'] at e; cases e
    · exact (hs₂.2 b hb).trans e
  exact ⟨h', tk, _, rfl, hn₂.at' fun o e => st' _ o e, fun b o hb e => st' b o (hs₂.extBut b o hb e), hp, fun hf kf => hG hf fun b o e1 e2 => by
    refine kf b o ?_ e2
    by_cases hb : b = C
    · obtain ⟨o', _, _, ho', _⟩ := hn₂
      rw [hb] at e1; dsimp only at e1; erw [ho'] at e1; cases e1
    · exact (hs₂.2 b hb).symm.trans e1⟩

/-- a turn with two names, over tuples -/
theorem turn_pair {elt : Expr} {a b : Str} {pa pb tp : Pos} {kk : Nat} {T : Addr} {x y : Value} {p : Value → Bool} {G : Heap → Value → Value → Prop} (hh : A.handled = none) (F : Fr h₀ L s₁.heap m) (N : News h₀ L s₁.heap news) (hC : s₁.heap.objs.size ≤ C) (st : s₁.heap.StaysIn s.heap) (hn : s.heap.Ns C m₃)
    (ht : s₁.heap.IsTuple T #[x, y]) (ha : scope.names.lookup a = some .local) (hb : scope.names.lookup b = some .local) (hkind : scope.kind = .function) (hab : a ≠ b)
    (h : ∀ h' tk oC m₂, LCg.NsObj oC m₂ → m₂ a = some x → m₂ b = some y → Fr h₀ L h' m → News h₀ L h' ((C, oC) :: news) → s₁.heap.StaysIn h' → AllNe C news → @Ne Nat C L →
      wpAny (model prog w) A (eval elt (compEnvC scope cl C env)) (EltEnd p G (.ref T) { s with heap := h', toks := tk }) (fun _ _ => False) { s with heap := h', toks := tk }) :
    Turn prog w A (compEnvC scope cl C env) (.Tuple [.Name a pa, .Name b pb] kk tp) [] elt C p G (.ref T) s := by
  refine kcp_assign (env := compEnvC scope cl C env) hh (ht.at fun o e => st _ o e) (lookup_relabel_local ha) (lookup_relabel_local hb) (by simp [compEnvC, relabel, hkind]) hn fun h₄ tk₄ hn₄ hs₄ => ?_
  refine tests_nil ?_
  simp only [if_true]
  obtain ⟨oC, hoC, F', N', hne, hL⟩ := block_ground F N hC (fun b o hb e => hs₄ b o hb (st b o e)) hn₄
  have stt : s₁.heap.StaysIn h₄ := fun b o e => hs₄ b o (Nat.ne_of_lt (Nat.lt_of_lt_of_le (Heap.lt_size e) hC)) (st b o e)
  refine wpAny_mono (h h₄ tk₄ oC _ hoC (by simp [hab]) (by simp) F' N' stt hne hL) (fun y s₄ h₄' => ?_) fun _ _ e => e
  obtain ⟨h', tk, rfl, st', hp, hG⟩ := h₄'
  refine ⟨h', tk, _, rfl, hn₄.at' fun o e => st' _ o e, fun b o hb e => st' b o (hs₄ b o hb e), hp, fun hf kf => hG hf fun b o e1 e2 => kf b o ?_ e2⟩
  cases e : s.heap.get? b with
  | none => rfl
  | some o' =>
    by_cases hb : b = C
    · obtain ⟨o', _, _, ho', _⟩ := hn₄
      rw [hb] at e1; dsimp only at e1; erw [ho'] at e1; cases e1
    · dsimp only at e1; rw [hs₄ b o' hb e] at e1; cases e1

theorem paired_strs {f : Str → Str} {vs ys : List Value} {ss : List Str} (h : Paired (fun v y => ∃ x t t', v = Value.str x t ∧ y = Value.str (f x) t') vs ys) (k : StrsAre vs ss) : StrsAre ys (ss.map f) := by
  induction k generalizing ys with
  | nil => cases h; exact .nil
  | cons x t k ih =>
    cases h with
    | cons h r =>
      obtain ⟨x', t1, t2, e1, rfl⟩ := h
      cases e1
      exact .cons _ _ (ih r)
theorem filter_true {α : Type} : ∀ (l : List α), l.filter (fun _ => true) = l := fun l => List.filter_eq_self.mpr fun _ _ => rfl
/-- a new list onto the ledger, by its size -/
theorem on_size {D : Addr} {o : Obj} {h' : Heap} (F : Fr h₀ L s₁.heap m) (N : News h₀ L s₁.heap news) (hD : s₁.heap.objs.size ≤ D) (hg : h'.get? D = some o) (st : s₁.heap.StaysIn h') :
    Fr h₀ L h' m ∧ News h₀ L h' ((D, o) :: news) ∧ AllNe D news ∧ @Ne Nat D L := by
  have hne : ∀ b o, s₁.heap.get? b = some o → b ≠ D := fun b o e => Nat.ne_of_lt (Nat.lt_of_lt_of_le (Heap.lt_size e) hD)
  have hL : D ≠ L := by
    obtain ⟨o', _, _, ho', _⟩ := F.ns
    exact Ne.symm (hne _ _ ho')
  refine ⟨⟨F.ns.at' fun o e => st _ o e, fun b o e => st b o (F.keep b o e), F.above⟩, fun q hq => ?_, allNe_of fun q hq => hne _ _ (N q hq).1, hL⟩
  rcases List.mem_cons.mp hq with rfl | hq
  · refine ⟨hg, hL, ?_⟩
    cases e : h₀.get? D with
    | none => rfl
    | some o => exact absurd rfl (hne _ _ (F.keep _ _ e))
  · exact ⟨st _ _ (N q hq).1, (N q hq).2⟩
end
end
-- LibU
section
/-- the addresses are apart, and those of the tail apart from them -/
structure NdL (as : List Nat) (tl : List (Addr × Obj)) : Prop where
  nd : as.Nodup
  tl : ∀ p ∈ tl, p.1 ∉ as
/-- the ledger has these addresses ahead, then the tail -/
structure Led (tl : List (Addr × Obj)) (as : List Nat) (l : List (Addr × Obj)) : Prop where
  e : l.map (·.1) = as ++ tl.map (·.1)
  mem : ∀ p ∈ l, p.1 ∈ as ∨ p ∈ tl
  tl : ∀ p ∈ tl, p ∈ l
inductive UpdR (d : Addr) (o o' : Obj) : List Nat → List (Addr × Obj) → List (Addr × Obj) → Prop
  | head {as r} : UpdR d o o' (d :: as) ((d, o) :: r) ((d, o') :: r)
  | tail {a as q r r'} : UpdR d o o' as r r' → UpdR d o o' (a :: as) ((a, q) :: r) ((a, q) :: r')
inductive UpdS (d : Addr) (o : Obj) : List Nat → List (Addr × Obj) → (Obj → List (Addr × Obj)) → Prop
  | head {as r} : UpdS d o (d :: as) ((d, o) :: r) (fun o' => (d, o') :: r)
  | tail {a as q r g} : UpdS d o as r g → UpdS d o (a :: as) ((a, q) :: r) (fun o' => (a, q) :: g o')
theorem UpdR.mem {d : Addr} {o o' : Obj} {as : List Nat} {l l' : List (Addr × Obj)} (r : UpdR d o o' as l l') : d ∈ as := by
  induction r with
  | head => exact .head _
  | tail _ ih => exact .tail _ ih
theorem UpdS.mem {d : Addr} {o : Obj} {as : List Nat} {l : List (Addr × Obj)} {g : Obj → List (Addr × Obj)} (r : UpdS d o as l g) : d ∈ as := by
  induction r with
  | head => exact .head _
  | tail _ ih => exact .tail _ ih
theorem led_of {tl : List (Addr × Obj)} {as : List Nat} {l : List (Addr × Obj)} (e : (l.take as.length).map (·.1) = as) (f : l.drop as.length = tl) : Led tl as l := by
  subst f
  exact ⟨by rw [← congrArg (· ++ _) e, ← List.map_append, List.take_append_drop], fun p hp => (List.mem_append.mp ((List.take_append_drop as.length l).symm ▸ hp : p ∈ l.take as.length ++ l.drop as.length)).imp (fun h => e ▸ List.mem_map_of_mem (f := (·.1)) h) id, fun p hp => List.mem_of_mem_drop hp⟩
theorem Led.notIn {tl : List (Addr × Obj)} {d : Addr} (ht : ∀ p ∈ tl, p.1 ≠ d) {as : List Nat} {l : List (Addr × Obj)} (L : Led tl as l) (hd : d ∉ as) (p : Addr × Obj) (hp : p ∈ l) : p.1 ≠ d :=
  (L.mem p hp).elim (fun h e => hd (e ▸ h)) (ht p)
theorem notIn_map {d : Addr} {l : List (Addr × Obj)} (h : d ∉ l.map (·.1)) (p : Addr × Obj) (hp : p ∈ l) : p.1 ≠ d := fun e => h (e ▸ List.mem_map_of_mem hp)
theorem updR_upd {d : Addr} {o o' : Obj} {as : List Nat} {l l' : List (Addr × Obj)} (r : UpdR d o o' as l l') (ms : List Nat) (hm : d ∉ ms) (hn : as.Nodup) (e : l.map (·.1) = as ++ ms) : Upd d o o' l l' := by
  induction r with
  | head => exact .head (notIn_map (by rw [List.map_cons] at e; rw [(List.cons.inj e).2]; exact fun h => (List.mem_append.mp h).elim (List.nodup_cons.mp hn).1 hm))
  | @tail a _ _ _ _ r ih => exact .tail (fun q => (List.nodup_cons.mp hn).1 ((show a = d from q) ▸ r.mem)) (ih (List.nodup_cons.mp hn).2 (List.cons.inj e).2)
theorem updS_updF {d : Addr} {o : Obj} {as : List Nat} {l : List (Addr × Obj)} {g : Obj → List (Addr × Obj)} (r : UpdS d o as l g) (ms : List Nat) (hm : d ∉ ms) (hn : as.Nodup) (e : l.map (·.1) = as ++ ms) : UpdF d o l g := by
  induction r with
  | head => exact .head (notIn_map (by rw [List.map_cons] at e; rw [(List.cons.inj e).2]; exact fun h => (List.mem_append.mp h).elim (List.nodup_cons.mp hn).1 hm))
  | @tail a _ _ _ _ r ih => exact .tail (fun q => (List.nodup_cons.mp hn).1 ((show a = d from q) ▸ r.mem)) (ih (List.nodup_cons.mp hn).2 (List.cons.inj e).2)
theorem NdL.off {as : List Nat} {tl : List (Addr × Obj)} {d : Nat} (h : NdL as tl) (hd : d ∈ as) : d ∉ tl.map (·.1) := fun hm => Exists.elim (List.mem_map.mp hm) fun p hp => h.tl p hp.1 (hp.2 ▸ hd)
theorem upd_of {as : List Nat} {tl l l' : List (Addr × Obj)} {d : Addr} {o o' : Obj} (h : NdL as tl) (e : (l.take as.length).map (·.1) = as) (f : l.drop as.length = tl) (r : UpdR d o o' as l l') : Upd d o o' l l' :=
  updR_upd r _ (h.off r.mem) h.nd (led_of e f).e
theorem updF_of {as : List Nat} {tl l : List (Addr × Obj)} {g : Obj → List (Addr × Obj)} {d : Addr} {o : Obj} (h : NdL as tl) (e : (l.take as.length).map (·.1) = as) (f : l.drop as.length = tl) (r : UpdS d o as l g) : UpdF d o l g :=
  updS_updF r _ (h.off r.mem) h.nd (led_of e f).e
theorem Led.as {tl : List (Addr × Obj)} {as : List Nat} {l : List (Addr × Obj)} (L : Led tl as l) (z : Nat) (hz : z ∈ as) : ∃ p, p ∈ l ∧ p.1 = z := List.mem_map.mp (L.e ▸ List.mem_append_left _ hz)
theorem Led.lt {tl : List (Addr × Obj)} {d : Addr} {as : List Nat} {l : List (Addr × Obj)} (L : Led tl as l) (h : ∀ p ∈ l, @LT.lt Nat _ p.1 d) : d ∉ as ∧ ∀ p ∈ tl, @LT.lt Nat _ p.1 d :=
  ⟨fun hm => Exists.elim (L.as _ hm) fun p hp => Nat.lt_irrefl _ (hp.2 ▸ h p hp.1), fun p hp => h p (L.tl p hp)⟩
/-- a new object -/
theorem nd_cons {as : List Nat} {tl l : List (Addr × Obj)} {d : Addr} (h : NdL as tl) (e : (l.take as.length).map (·.1) = as) (f : l.drop as.length = tl) (lt : ∀ p ∈ l, @LT.lt Nat _ p.1 d) : NdL (d :: as) tl :=
  ⟨List.nodup_cons.mpr ⟨((led_of e f).lt lt).1, h.nd⟩, fun p hp hm => by
    rcases List.mem_cons.mp hm with e' | hm
    · exact Nat.lt_irrefl _ (e' ▸ ((led_of e f).lt lt).2 p hp)
    · exact h.tl p hp hm⟩
theorem nd_x {as : List Nat} {tl l : List (Addr × Obj)} {d x : Addr} (h : NdL (d :: as) tl) (e : (l.take as.length).map (·.1) = as) (f : l.drop as.length = tl) (lt : ∀ p ∈ l, @LT.lt Nat _ p.1 d) (l2 : @LT.lt Nat _ d x) : NdL (x :: d :: as) tl :=
  nd_cons (l := (d, { cls := .none, data := .plain }) :: l) h (by rw [List.length_cons, List.take_succ_cons, List.map_cons, e]) (by rw [List.length_cons, List.drop_succ_cons]; exact f) fun p hp => by
    rcases List.mem_cons.mp hp with rfl | hp
    · exact l2
    · exact Nat.lt_trans (lt p hp) l2
theorem Led.ne {tl : List (Addr × Obj)} {d : Addr} {as : List Nat} {l : List (Addr × Obj)} (L : Led tl as l) (h : ∀ p ∈ l, @Ne Nat p.1 d) : d ∉ as ∧ ∀ p ∈ tl, @Ne Nat p.1 d :=
  ⟨fun hm => Exists.elim (L.as _ hm) fun p hp => h p hp.1 hp.2, fun p hp => h p (L.tl p hp)⟩
theorem nd_ne {as : List Nat} {tl l : List (Addr × Obj)} {d : Addr} (h : NdL as tl) (e : (l.take as.length).map (·.1) = as) (f : l.drop as.length = tl) (lt : ∀ p ∈ l, @Ne Nat p.1 d) : NdL (d :: as) tl :=
  ⟨List.nodup_cons.mpr ⟨((led_of e f).ne lt).1, h.nd⟩, fun p hp hm => by
    rcases List.mem_cons.mp hm with e' | hm
    · exact ((led_of e f).ne lt).2 p hp e'
    · exact h.tl p hp hm⟩
theorem nd_allNe {as : List Nat} {tl l : List (Addr × Obj)} {d : Addr} (h : NdL as tl) (e : (l.take as.length).map (·.1) = as) (f : l.drop as.length = tl) (lt : AllNe d l) : NdL (d :: as) tl := nd_ne h e f (allNe_mem lt)
theorem nd_nil {tl : List (Addr × Obj)} : NdL [] tl := ⟨List.nodup_nil, fun _ _ => List.not_mem_nil⟩
theorem nd_push {as : List Nat} {tl : List (Addr × Obj)} {d : Addr} {o : Obj} (h : NdL (d :: as) tl) : NdL as ((d, o) :: tl) :=
  ⟨(List.nodup_cons.mp h.nd).2, fun p hp hm => by
    rcases List.mem_cons.mp hp with rfl | hp
    · exact (List.nodup_cons.mp h.nd).1 hm
    · exact h.tl p hp (.tail _ hm)⟩
theorem Led.ex {tl : List (Addr × Obj)} {as : List Nat} {l : List (Addr × Obj)} (L : Led tl as l) (z : Nat) (hz : z ∈ as) : ∃ o, (z, o) ∈ l :=
  Exists.elim (L.as z hz) fun p hp => ⟨p.2, hp.2 ▸ hp.1⟩
/-- another tail, of places that were free -/
theorem nd_fresh {as : List Nat} {tl tx l : List (Addr × Obj)} {g H : Heap} {L : Addr} (h : NdL as tl) (e : (l.take as.length).map (·.1) = as) (f : l.drop as.length = tl) (N : News g L H l) (ht : ∀ q ∈ tx, H.get? q.1 = none) : NdL as tx :=
  ⟨h.nd, fun p hp hm => by
    obtain ⟨o, ho⟩ := (led_of e f).ex _ hm
    have := (N _ ho).1
    rw [ht p hp] at this; cases this⟩
theorem nd_join {as bs : List Nat} {tl news : List (Addr × Obj)} (h : NdL as (tl ++ news)) (k : NdL bs []) (e : news.map (·.1) = bs) (ap : ∀ p ∈ tl, ∀ q ∈ news, @Ne Nat q.1 p.1) : NdL (as ++ bs) tl := by
  subst e
  refine ⟨List.nodup_append.mpr ⟨h.nd, k.nd, fun a ha b hb e => ?_⟩, fun p hp hm => ?_⟩
  · obtain ⟨q, hq, e'⟩ := List.mem_map.mp hb
    exact h.tl q (List.mem_append_right _ hq) (by rw [e', ← e]; exact ha)
  · rcases List.mem_append.mp hm with hm | hm
    · exact h.tl p (List.mem_append_left _ hp) hm
    · obtain ⟨q, hq, e'⟩ := List.mem_map.mp hm
      exact ap p hp q hq e'
theorem nd_pack {as bs : List Nat} {tl : List (Addr × Obj)} (h : NdL (as ++ bs) []) (e : tl.map (·.1) = bs) : NdL as tl := by
  subst e
  obtain ⟨n1, _, n3⟩ := List.nodup_append.mp h.nd
  exact ⟨n1, fun p hp hm => n3 _ hm _ (List.mem_map_of_mem hp) rfl⟩
theorem nd_more {as : List Nat} {X tl : List (Addr × Obj)} (h : NdL as tl) (hx : ∀ p ∈ X, p.1 ∉ as) : NdL as (X ++ tl) := ⟨h.nd, fun p hp => (List.mem_append.mp hp).elim (hx p) (h.tl p)⟩
theorem nd_into {as bs : List Nat} {X tl : List (Addr × Obj)} (h : NdL (as ++ bs) tl) (e : X.map (·.1) = bs) : NdL as (X ++ tl) := by
  subst e
  obtain ⟨n1, _, n3⟩ := List.nodup_append.mp h.nd
  exact nd_more ⟨n1, fun p hp hm => h.tl p hp (List.mem_append_left _ hm)⟩ fun p hp hm => n3 _ hm _ (List.mem_map_of_mem hp) rfl
theorem nd_dup {as : List Nat} {X : Addr × Obj} {tl : List (Addr × Obj)} (h : NdL as tl) (hx : X ∈ tl) : NdL as (X :: tl) := ⟨h.nd, fun p hp => (List.mem_cons.mp hp).elim (fun e => e ▸ h.tl X hx) (h.tl p)⟩
theorem nd_above {as : List Nat} {X tl tl' l : List (Addr × Obj)} (hx : ∀ q ∈ X, ∀ p ∈ l, @LT.lt Nat _ p.1 q.1) (h : NdL as tl') (e : (l.take as.length).map (·.1) = as) (f : l.drop as.length = tl) : NdL as (X ++ tl') :=
  nd_more h fun q hq hm => Exists.elim ((led_of e f).ex q.1 hm) fun o ho => Nat.lt_irrefl _ (hx q hq (q.1, o) ho)
theorem nd_notIn {as : List Nat} {I : Nat} {tl l : List (Addr × Obj)} (h : NdL (I :: as) tl) (e : (l.take as.length).map (·.1) = as) (f : l.drop as.length = tl) : ∀ p ∈ l, @Ne Nat p.1 I :=
  (led_of e f).notIn (fun p hp q => h.tl p hp (q ▸ .head _)) (List.nodup_cons.mp h.nd).1
/-- some of them, in another order -/
theorem NdL.pick {as bs : List Nat} {tl : List (Addr × Obj)} (h : NdL as tl) (ix : List Nat) (hx : ix.Nodup) (e : ix.map (as[·]?) = bs.map some) : NdL bs tl := by
  have hmem : ∀ b ∈ bs, b ∈ as := fun b hb => by
    have : some b ∈ ix.map (as[·]?) := e ▸ List.mem_map_of_mem hb
    obtain ⟨i, _, hi⟩ := List.mem_map.mp this
    exact List.mem_of_getElem? hi
  refine ⟨?_, fun p hp hm => h.tl p hp (hmem _ hm)⟩
  have h1 : (bs.map some).Pairwise (· ≠ ·) := by
    rw [← e]
    refine List.pairwise_map.mpr (List.Pairwise.imp_of_mem (fun {i j} hi hj hij q => hij ?_) hx)
    have : (as[i]?) ∈ bs.map some := e ▸ List.mem_map_of_mem hi
    obtain ⟨b, _, hb⟩ := List.mem_map.mp this
    exact (List.getElem?_inj (List.getElem?_eq_some_iff.mp hb.symm).1 h.nd).mp q
  exact (List.pairwise_map.mp h1).imp fun hab q => hab (congrArg some q)
theorem NdL.ne {as : List Nat} {tl : List (Addr × Obj)} (h : NdL as tl) (i j : Nat) {a b : Nat} (hi : as[i]? = some a) (hj : as[j]? = some b) (hij : i ≠ j) : @Ne Nat a b := fun e => by
  subst e
  exact hij ((List.getElem?_inj (List.getElem?_eq_some_iff.mp hi).1 h.nd).mp (by rw [hi, hj]))
theorem pick_mem {as bs : List Nat} (ix : List Nat) (e : ix.map (as[·]?) = bs.map some) : ∀ b ∈ bs, b ∈ as := fun b hb => by
  have : some b ∈ ix.map (as[·]?) := e ▸ List.mem_map_of_mem hb
  obtain ⟨i, _, hi⟩ := List.mem_map.mp this
  exact List.mem_of_getElem? hi
theorem led_off {as : List Nat} {tl l : List (Addr × Obj)} {g H : Heap} {L : Addr} {as' : List Nat} (_ : NdL as' tl) (e : (l.take as'.length).map (·.1) = as') (f : l.drop as'.length = tl) (N : News g L H l) (ix : List Nat) (ei : ix.map (as'[·]?) = as.map some) : ∀ z ∈ as, @Ne Nat z L ∧ g.get? z = none := fun z hz => by
  obtain ⟨o, ho⟩ := (led_of e f).ex _ (pick_mem ix ei z hz)
  exact (N _ ho).2
/-- a frame of which some names are told -/
noncomputable abbrev lk (l : List (Str × Option Value)) (um : Str → Option Value) : Str → Option Value := fun z => (l.lookup z).getD (um z)
theorem lk_eq {m : Str → Option Value} : ∀ {l : List (Str × Option Value)}, (∀ p ∈ l, m p.1 = p.2) → ∀ z, (l.lookup z).getD (m z) = m z
  | [], _, _ => rfl
  | (a, v) :: r, h, z => by
    rw [List.lookup_cons]
    cases e : z == a with
    | true => rw [eq_of_beq e]; exact (h _ (.head _)).symm
    | false => exact lk_eq (fun p hp => h p (.tail _ hp)) z
theorem frL {h₀ h : Heap} {L : Addr} {m : Str → Option Value} (F : Fr h₀ L h m) (l : List (Str × Option Value)) (hl : ∀ p ∈ l, m p.1 = p.2) : ∃ um, Fr h₀ L h (lk l um) := ⟨m, (congrArg (Fr h₀ L h) (funext (lk_eq hl))).mpr F⟩
noncomputable abbrev tokL (l : List Tok) : Nat → Tok := fun i => l.getD i 0
end
-- Base2
section
/-- a new list of values, seen from the heap H -/
noncomputable abbrev NewL (H : Heap) (v : Value) (h' : Heap) (P : List Value → Prop) : Prop := ∃ l vs n, v = .ref l ∧ H.get? l = none ∧ h'.get? l = some (W.listOf vs.toArray n) ∧ P vs
theorem newL {H : Heap} {L' : Addr} {h' : Heap} {news : List (Addr × Obj)} {l : Addr} {arr : Array Value} {n : Nat} {P : List Value → Prop} (N : News H L' h' news) (hm : (l, W.listOf arr n) ∈ news) (hP : P arr.toList) : NewL H (.ref l) h' P :=
  ⟨l, arr.toList, n, rfl, (N _ hm).2.2, by rw [Array.toArray_toList]; exact (N _ hm).1, hP⟩
section
variable {prog : Program} {w : World} {A A₀ : Around} {s : Shared} {K : Frag} {L : Addr} {h₀ base : Heap} {m mg mb : Str → Option Value} {p : Program} {loose : List Str} {mean : ExcName → Option Value}
theorem code_pureC {env : Env} {outer : List Env} {R : Result → Shared → Prop} {name qual : Str} {params : Arguments} {body : List Stmt} {scope : Scope} {dV kV doc pm cdv ct oc : Value} {an od : Option Addr} {osl : Array (Option Value)} {f : Addr} {args : Args} {binds : List (Str × Value)}
    (B : Below A₀ base outer h₀) (F : Fr h₀ L s.heap m) (X₀ : K.In h₀) (T : Top p loose mean mg mb h₀) (hA : A.frames = some (env :: outer)) (hf : env.frame = some L) (hke : env.scope.kind = .function)
    (ho : K.lookup f = some ⟨oc, od, .func (fnOf name qual params body scope dV kV doc pm an cdv ct), osl⟩) (hcd : codeIn K cdv qual = true) (hroom : A.depth < recursionLimit)
    (hbind : BindsTo s (fnOf name qual params body scope dV kV doc pm an cdv ct) args binds) (hkind : (binds.all fun y => scope.names.lookup y.1 == some .local || scope.names.lookup y.1 == some .cell) = true)
    (hnd : ((cellsFrom 0 scope.names []).map (·.1)).Nodup)
    (h : ∀ L' h₁ tk cells, Fr s.heap L' h₁ (bindL (envOfC qual scope L' f cdv).kindOf binds fun _ => none) → News s.heap L' h₁ cells →
      CellsAre (bindC (envOfC qual scope L' f cdv).kindOf binds fun _ => none) (cellsFrom (L' + 1) scope.names []) cells → Below A base (env :: outer) s.heap → K.In s.heap → Top p loose mean mg mb s.heap →
      wpAny (model prog w) (A.deeper (envOfC qual scope L' f cdv)) (execs body (envOfC qual scope L' f cdv))
        (fun fl s' => LeaveK h₀ L m s.heap R (match fl with | .ret v => v | _ => .none) s')
        (fun e s' => wpAny (model prog w) (A.deeper (envOfC qual scope L' f cdv)) (leaving (envOfC qual scope L' f cdv) e) (fun _ s'' => R (.error e) s'') (fun e' s'' => R (.error e') s'') s')
        { s with heap := h₁, toks := tk })
    (hco : scope.isCoroutine = false) (hgen : scope.isGenerator = false) (hk : scope.kind = .function) : codeAny (model prog w) A (.call (.ref f) args) R s := by
  obtain ⟨FG, BG, st, lv⟩ := groundX (R := R) B F News.nil hA hf hke
  refine codeAny_call_function (fd := fnX name qual params body scope [] dV kV doc pm an cdv ct) hroom ((X₀.keeps F.keep) _ _ ho) rfl hco hgen rfl (codeRec_of (X₀.keeps F.keep) hcd) (hbind _ _ _ _ ?_)
  refine wpAny_newFunctionEnv_cells hk (kindsX hkind _) fun env' he s' x => ?_
  subst he
  refine ⟨(T.nolimit.keeps F.keep).keeps x.toInCall.keep, codeAny_func ?_⟩
  obtain ⟨h₁, tk, rfl, _⟩ := x.done
  have hk₁ := x.toInCall.keep
  obtain ⟨cells, NC, Y⟩ := Cl.news (h₀ := s.heap) (Nat.le_refl _) fun n c hm => ⟨x.cell n c (lookup_of_mem_nodup (cellsFrom_names scope.names 0 (s.heap.objs.size + 1) [] [] rfl ▸ hnd) hm), x.above n c hm⟩
  exact wpAny_mono (h s.heap.objs.size h₁ tk cells ⟨x.toInCall.ns, fun b o e => hk₁ b o e, Nat.le_refl _⟩ NC Y BG (X₀.keeps F.keep) (T.keeps F.keep)) (fun fl s' hl => lv _ _ hl) fun _ _ y => y
end
section
variable {prog : Program} {w : World} {s : Shared} {L : Addr} {h₀ base : Heap} {m mg mb : Str → Option Value} {p : Program} {loose : List Str} {mean : ExcName → Option Value} {news : List (Addr × Obj)} {Q E : Value → Shared → Prop}
/-- a new object onto the ledger -/
theorem on_ledger {h' : Heap} {l : Addr} {o : Obj} (F : Fr h₀ L s.heap m) (N : News h₀ L s.heap news) (hl : s.heap.get? l = none) (hg : h'.get? l = some o) (N' : News h₀ L h' news) :
    News h₀ L h' ((l, o) :: news) ∧ AllNe l news ∧ @Ne Nat l L := by
  have hL : l ≠ L := fun e => by
    obtain ⟨o', _, _, ho', _⟩ := F.ns
    rw [e, ho'] at hl; cases hl
  refine ⟨fun q hq => ?_, allNe_of fun q hq e => ?_, hL⟩
  · rcases List.mem_cons.mp hq with rfl | hq
    · refine ⟨hg, hL, ?_⟩
      cases e : h₀.get? l with
      | none => rfl
      | some o => rw [F.keep _ _ e] at hl; cases hl
    · exact N' q hq
  · rw [← e, (N q hq).1] at hl; cases hl
theorem use_pureL {f : Addr} {vs : List Value} {dN uN : Nat} {H : Heap → Prop} {P : Heap → Heap → List Value → Prop} (C : PCall prog w f vs dN uN H fun H v h' => NewL H v h' (P H h'))
    {dp un : Nat} {gd : Option (List Code)} {cn : Str} {cs : Scope} {a : Addr} {ccd : Value} {cl : List (Str × Addr)} {outer : List Env} {A₀ : Around}
    (B : Below A₀ base outer h₀) (F : Fr h₀ L s.heap m) (X : (hd.heap_39 w.params).In h₀) (N : News h₀ L s.heap news) (T : Top p loose mean mg mb h₀) (hk : cs.kind = .function) (hd' : dp + dN < recursionLimit) (hu : un + uN < cLine) (hH : H s.heap)
    (h : ∀ l vs n h' tk', s.heap.StaysIn h' → P s.heap h' vs → Fr h₀ L h' m → News h₀ L h' ((l, W.listOf vs.toArray n) :: news) → AllNe l news → @Ne Nat l L → Q (.ref l) { s with heap := h', toks := tk' }) :
    wpAny (model prog w) (ktrTop dp un gd cn cs L a ccd cl outer) (call (.ref f) vs) Q E s := by
  refine use_pure C B F X N T hk hd' hu hH ?_
  rintro v h' tk' st ⟨l, vs', n, rfl, hl, hg, hP⟩ F' N'
  obtain ⟨N₂, hn, hL⟩ := on_ledger F N hl hg N'
  exact h l vs' n h' tk' st hP F' N₂ hn hL
end
end
-- Wr0
section
open PySem PySem.W PySem.W.X PySem.Calls PySem.Spec PyProof.Rows
theorem dictAt_K {prog : Program} {w : World} {K : Frag} {h : Heap} {a : Addr} {es : Array DictEntry} {n : Nat} {kvs : List (Str × Value)} (X : K.In h) (hl : K.lookup a = some ⟨.type "dict", none, .dict es n, #[]⟩) (hk : KeysLit w.params es.toList) (hp : Pairs (PySem.strKind prog w) es.toList kvs) (hn : (kvs.map (·.1)).Nodup) : h.DictAt (PySem.strKind prog w) a kvs n :=
  ⟨_, es, X _ _ hl, ⟨rfl, rfl, rfl⟩, rfl, fun e he => by
    obtain ⟨x, t, e1, e2⟩ := hk.all e (Array.mem_toList_iff.mpr he)
    exact ⟨x, by rw [e1]; exact strKind_is prog w x t, e2⟩, hp, hn⟩
noncomputable def keyStr : Value → Str
  | .str x _ => x
  | _ => Str.empty
theorem pairs_of {prog : Program} {w : World} : ∀ {l : List DictEntry}, KeysLit w.params l → Pairs (PySem.strKind prog w) l (l.map fun e => (keyStr e.key, e.val))
  | [], _ => .nil
  | e :: r, ⟨⟨x, t, e1, _⟩, h⟩ => .cons (by show (PySem.strKind prog w).is (keyStr e.key) e.key = true; rw [e1]; exact strKind_is prog w x t) rfl (pairs_of h)
theorem list_K {prog : Program} {w : World} {A : Around} {s : Shared} {Q E : Value → Shared → Prop} {K : Frag} {a d : Addr} {es : Array DictEntry} {n : Nat} (ks : List Str) (hh : A.handled = none) (X : K.In s.heap) (hl : K.lookup d = some ⟨.type "dict", none, .dict es n, #[]⟩) (hk : KeysLit w.params es.toList) (e : es.toList.map (fun e => keyStr e.key) = ks) (hn : ks.Nodup) (hz : ks.length ≤ 100)
    (ho : s.heap.get? a = some { cls := Value.type "dict_items", dict := none, data := Data.fields #[Value.ref d], slots := #[] })
    (h : ∀ a h' tk, s.heap.StaysIn h' → Q (.ref a) { s with heap := h', toks := tk }) : wpAny (model prog w) A (call (.type "list") [.ref a]) Q E s := by
  have e2 : ((es.toList.map fun e => (keyStr e.key, e.val)).map (·.1)) = ks := by rw [List.map_map]; exact e
  have hm := dictAt_K (prog := prog) X hl hk (pairs_of hk) (by rw [e2]; exact hn)
  refine kdx_call hh ⟨_, ho, rfl, rfl⟩ hm ?_ fun h' tk acc c as hk _ _ _ _ => h _ h' tk hk
  have := congrArg List.length e2
  rw [List.length_map] at this
  rw [this, sizeLine_eq]; omega
set_option maxRecDepth 100000 in
theorem list69 {prog : Program} {w : World} {A : Around} {s : Shared} {Q E : Value → Shared → Prop} (hA : A.handled = none) (X : (hd.heap_39 w.params).In s.heap) {a : Addr} (ho : s.heap.get? a = some { cls := Value.type "dict_items", dict := none, data := Data.fields #[Value.ref 69], slots := #[] })
    (h : ∀ a h' tk, s.heap.StaysIn h' → Q (.ref a) { s with heap := h', toks := tk }) : wpAny (model prog w) A (call (.type "list") [.ref a]) Q E s := by
  refine' list_K (d := 69) ["http://www.w3.org/XML/1998/namespace", "http://www.w3.org/1999/xhtml", "http://www.w3.org/1999/02/22-rdf-syntax-ns#", "http://schemas.xmlsoap.org/wsdl/", "http://www.w3.org/2001/XMLSchema", "http://www.w3.org/2001/XMLSchema-instance", "http://purl.org/dc/elements/1.1/"] hA X ?hl ?hk ?e ?hn ?hz ho h
  case hl => k_is
  case hk => k_keys
  case e => rfl
  case hn => decide +kernel
  case hz => exact Nat.le_of_ble_eq_true rfl
section
variable {prog : Program} {w : World} {A : Around} {s : Shared} {Q E : Value → Shared → Prop}
noncomputable def EndI (Q : Value → Shared → Prop) (s : Shared) : Prop := ∀ a h', s.heap.StaysIn h' → s.heap.get? a = none → h'.get? a = some { cls := Value.type "dict_items", dict := none, data := Data.fields #[Value.ref 69], slots := #[] } → Q (.ref a) { s with heap := h' }
theorem rowsXWr0 : True := by
  k_with_none
  k_with "x_close" => ((with_reducible rename EndI _ _ => kE); (with_reducible rename Mem _ _ _ _ => kM); exact kE _ _ (mem_stays kM) (kM.nw _ (.head _)).2 (kM.nw _ (.head _)).1)
  trivial
theorem obj_of {K : Frag} {h : Heap} {a : Addr} {o : Obj} (X : K.In h) (e : K.lookup a = some o) (hc : o.cls = .type "dict") (hd : o.dict = none) : ∃ o, h.get? a = some o ∧ o.cls = .type "dict" ∧ o.dict = none := ⟨o, X _ _ e, hc, hd⟩
set_option maxRecDepth 100000 in
theorem d69 {h : Heap} (X : (hd.heap_39 w.params).In h) : ∃ o, h.get? 69 = some o ∧ o.cls = .type "dict" ∧ o.dict = none := by
  refine' obj_of X ?h ?a ?b
  case h => k_is
  case a => rfl
  case b => rfl
theorem meth69 {pl : Sem Bool} {Q : Value × List Value → Shared → Prop} (X : (hd.heap_39 w.params).In s.heap) (h : Q (.builtin "dict.items", [.ref 69]) s) : wpAny (model prog w) A (getMethod (.ref 69) (Str.ofString "items") pl) Q E s := by
  obtain ⟨o, ho, hc, hd⟩ := d69 X
  exact getMethod_builtin ⟨_, ho, hc⟩ PySem.F.plainAttrs_dict PySem.F.slot_dict_items PySem.F.type_dict_items (fun a e => by cases e; exact ⟨_, ho, hd⟩) h
set_option maxRecDepth 100000 in
set_option maxHeartbeats 8000000 in
theorem items69 (X : (hd.heap_39 w.params).In s.heap) (h : EndI Q s) : wpAny (model prog w) A (call (.builtin "dict.items") [.ref 69]) Q E s := by
  x_run
end
noncomputable def view69 : Obj := { cls := Value.type "dict_items", dict := none, data := Data.fields #[Value.ref 69], slots := #[] }
section
variable {prog : Program} {w : World} {A : Around} {s : Shared} {Q E : Value → Shared → Prop} {h₀ : Heap} {L : Addr} {m : Str → Option Value} {news : List (Addr × Obj)}
theorem items69K (X : (hd.heap_39 w.params).In h₀) (F : Fr h₀ L s.heap m) (N : News h₀ L s.heap news)
    (h : ∀ a h', Fr h₀ L h' m → News h₀ L h' ((a, view69) :: news) → AllNe a news → Q (.ref a) { s with heap := h' }) : wpAny (model prog w) A (call (.builtin "dict.items") [.ref 69]) Q E s := by
  refine items69 (X.keeps F.keep) fun a h' st hn hg => ?_
  have F' : Fr h₀ L h' m := ⟨F.ns.at' fun o e => st _ o e, fun b o e => st b o (F.keep b o e), F.above⟩
  obtain ⟨N', hne, _⟩ := on_ledger F N hn hg fun p hp => ⟨st _ _ (N p hp).1, (N p hp).2⟩
  exact h a h' F' N' hne
theorem list69K {a : Addr} (hA : A.handled = none) (X : (hd.heap_39 w.params).In h₀) (F : Fr h₀ L s.heap m) (N : News h₀ L s.heap news) (hm : (a, view69) ∈ news)
    (h : ∀ a h' tk, Fr h₀ L h' m → News h₀ L h' news → Q (.ref a) { s with heap := h', toks := tk }) : wpAny (model prog w) A (call (.type "list") [.ref a]) Q E s := by
  refine list69 hA (X.keeps F.keep) (N.get hm) fun a h' tk st => ?_
  exact h a h' tk ⟨F.ns.at' fun o e => st _ o e, fun b o e => st b o (F.keep b o e), F.above⟩ fun p hp => ⟨st _ _ (N p hp).1, (N p hp).2⟩
end
end
-- Lib7
section
theorem storedAll_mono {K : Type} [DecidableEq K] {FK : Value → K → Prop} {FV FV' : Value → Value → Prop} (h : ∀ v y, FV v y → FV' v y) {l : List Value} {kvs : List (K × Value)} (x : StoredAll FK FV l kvs) : StoredAll FK FV' l kvs := by
  induction x with
  | nil => exact .nil
  | snoc _ k y ih => exact .snoc ih k (h _ _ y)
section
variable {prog : Program} {w : World} {A : Around} {E : Value → Shared → Prop} {R : Result → Shared → Prop} {s : Shared}

/-- the loop of a dict comprehension, any target -/
theorem compLoopD_any {kx vx target iter : Expr} {ifs : List Expr} {scope : Scope} {pos : Pos} {it : Value} {D : Addr} {env : Env} (I : Nat → Shared → Prop)
    (turn : ∀ n s, I n s → wpAny (model prog w) A (pyNext it) (fun r s₁ => match r with
      | none => R (.ok .next) s₁
      | some v => wpAny (model prog w) A (letOwnedTupleGo target it v) (fun _ s₁' => wpAny (model prog w) A (assign target env v) (fun _ s₂ =>
          wpAny (model prog w) A (tests ifs env) (fun ok s₃ =>
            if ok = true then wpAny (model prog w) A (eval kx env) (fun kv s₄ => wpAny (model prog w) A (eval vx env) (fun vv s₅ =>
              wpAny (model prog w) A (dictSet D kv vv) (fun _ s₆ => ∃ m, m < n ∧ I m s₆) (fun _ _ => False) s₅) (fun _ _ => False) s₄) (fun _ _ => False) s₃
            else ∃ m, m < n ∧ I m s₃) (fun _ _ => False) s₂) (fun _ _ => False) s₁') (fun _ _ => False) s₁) (fun _ _ => False) s)
    (n : Nat) (h : I n s) : codeAny (model prog w) A (.compLoop (.DictComp kx vx [⟨target, iter, ifs, 0⟩] scope pos) 0 it (.ref D) env) R s := by
  refine codeAny_loop rfl I (fun n s hI => ?_) n h
  show wpAny _ A ((compTurn (.DictComp kx vx [⟨target, iter, ifs, 0⟩] scope pos) 0 it (.ref D) env).onRaise (fun x => do noteFrame x env; theTreesLotGoes x)) _ _ s
  have no : ∀ {α : Type} {t : Sem α} {Q : α → Shared → Prop} {E' : Value → Shared → Prop} {s : Shared}, wpAny (model prog w) A t Q (fun _ _ => False) s → wpAny (model prog w) A t Q E' s := fun x => wpAny_mono x (fun _ _ y => y) fun _ _ f => f.elim
  refine wpAny_noted ?_
  rw [compTurn_dict]
  refine wpAny_bind (wpAny_standAt (wpAny_bind (no (wpAny_mono (turn n s hI) (fun r s₁ h₁ => ?_) fun _ _ h' => h'))))
  cases r with
  | none => exact wpAny_pure h₁
  | some v =>
    refine wpAny_bind (no (wpAny_mono h₁ (fun _ s₁' h₁' => wpAny_bind (no (wpAny_mono h₁' (fun _ s₂ h₂ => wpAny_bind (no (wpAny_mono h₂ (fun ok s₃ h₃ => ?_) fun _ _ h' => h'))) fun _ _ h' => h'))) fun _ _ h' => h'))
    cases ok with
    | false => exact wpAny_pure ⟨rfl, h₃⟩
    | true =>
      exact wpAny_bind (wpAny_bind (no (wpAny_mono h₃ (fun kv s₄ h₄ => wpAny_bind (wpAny_holding (no (wpAny_mono h₄ (fun vv s₅ h₅ => wpAny_bind (wpAny_standAt (wpAny_holding (no (wpAny_mono h₅ (fun _ s₆ h₆ => wpAny_pure ⟨rfl, h₆⟩) fun _ _ h' => h'))))) fun _ _ h' => h')))) fun _ _ h' => h')))
end
section
variable {prog : Program} {w : World} {A : Around} {E : Value → Shared → Prop} {s : Shared} {env : Env} {K : Type} [DecidableEq K] {knd : KeyKind prog w K}

noncomputable def TurnEndD (knd : KeyKind prog w K) (C : Addr) (p : Value → Bool) (FK : Value → K → Prop) (G : Heap → Value → Value → Prop) (v : Value) (s : Shared) (r : Option (Value × Value)) (s' : Shared) : Prop :=
  ∃ h tk m, s' = { s with heap := h, toks := tk } ∧ h.Ns C m ∧ (∀ b o, b ≠ C → s.heap.get? b = some o → h.get? b = some o) ∧
    match r with
    | none => p v = false
    | some (key, y) => p v = true ∧ (∃ k, knd.is k key = true ∧ FK v k) ∧ ∀ hf : Heap, (∀ b o, s.heap.get? b = none → h.get? b = some o → hf.get? b = some o) → G hf v y
noncomputable def TurnD (knd : KeyKind prog w K) (A : Around) (cenv : Env) (target : Expr) (ifs : List Expr) (kx vx : Expr) (C : Addr) (p : Value → Bool) (FK : Value → K → Prop) (G : Heap → Value → Value → Prop) (v : Value) (s : Shared) : Prop :=
  wpAny (model prog w) A (assign target cenv v) (fun _ s₂ => wpAny (model prog w) A (tests ifs cenv) (fun ok s₃ =>
    if ok = true then wpAny (model prog w) A (eval kx cenv) (fun key s₄ => wpAny (model prog w) A (eval vx cenv) (fun y s₅ => TurnEndD knd C p FK G v s (some (key, y)) s₅) (fun _ _ => False) s₄) (fun _ _ => False) s₃ else TurnEndD knd C p FK G v s none s₃) (fun _ _ => False) s₂) (fun _ _ => False) s

inductive CDInv {K : Type} [DecidableEq K] (knd : KeyKind prog w K) (s : Shared) (C D : Addr) (wr : List Addr) (n : Nat) (P : Nat → Value → Prop) (St : Nat → Heap → Prop) (p : Value → Bool) (FK : Value → K → Prop) (G : Heap → Value → Value → Prop) : Nat → Shared → Prop
  | mk {h' tk m' kvs} {vs : List Value} (hst : St vs.length h') (hacc : h'.DictOf knd D kvs) (hn : h'.Ns C m') (hP : ∀ j v, vs[j]? = some v → P j v) (hF : StoredAll FK (CLElt G C D wr h') (vs.filter p) kvs) (hi : vs.length ≤ n)
      (hk : ∀ b o, b ≠ C → b ∉ wr → b ≠ D → s.heap.get? b = some o → h'.get? b = some o) : CDInv knd s C D wr n P St p FK G (n + 1 - vs.length) { s with heap := h', toks := tk }
theorem compLoopD_walk {kx vx target iter : Expr} {ifs : List Expr} {scope : Scope} {pos : Pos} {I D : Addr} {fp wr : List Addr} {n : Nat} {P : Nat → Value → Prop} {St : Nat → Heap → Prop} {R : Result → Shared → Prop}
    {cenv : Env} {C : Addr} {m : Str → Option Value} (W : Walks prog w A I fp wr n P St) (hC : cenv.locals = C) (p : Value → Bool) (FK : Value → K → Prop) (G : Heap → Value → Value → Prop)
    (hDC : D ≠ C) (hDf : D ∉ fp) (hCf : C ∉ fp) (hst : St 0 s.heap) (hacc : s.heap.DictOf knd D []) (hn : s.heap.Ns C m)
    (hlive : ∀ i h, St i h → ∀ b ∈ wr, ∃ o, h.get? b = some o)
    (hgo : ∀ i (s' : Shared) v (Q' : Unit → Shared → Prop), St i s'.heap → Q' () s' → wpAny (model prog w) A (letOwnedTupleGo target (.ref I) v) Q' (fun _ _ => False) s')
    (hturn : ∀ i v s₂ m₂, P i v → s₂.heap.Ns C m₂ → (∃ h tk, s₂ = { s with heap := h, toks := tk }) → (∀ b o, b ≠ C → b ∉ wr → b ≠ D → s.heap.get? b = some o → s₂.heap.get? b = some o) →
      TurnD knd A cenv target ifs kx vx C p FK G v s₂)
    (hR : ∀ h' tk m' kvs (vs : List Value), h'.Ns C m' → h'.DictOf knd D kvs → vs.length = n → (∀ j v, vs[j]? = some v → P j v) → (∀ hf : Heap, (∀ b o, b ≠ C → h'.get? b = some o → hf.get? b = some o) → StoredAll FK (G hf) (vs.filter p) kvs) →
      (∀ b o, b ≠ C → b ∉ wr → b ≠ D → s.heap.get? b = some o → h'.get? b = some o) → R (.ok .next) { s with heap := h', toks := tk })
    (hsz : n ≤ sizeLine := by size_fits) :
    codeAny (model prog w) A (.compLoop (.DictComp kx vx [⟨target, iter, ifs, 0⟩] scope pos) 0 (.ref I) (.ref D) cenv) R s := by
  subst hC
  have hCw : cenv.locals ∉ wr := fun h => hCf (W.sub _ h)
  have hDw : D ∉ wr := fun h => hDf (W.sub _ h)
  have gg : ∀ {h h' : Heap} {v y : Value}, CLElt G cenv.locals D wr h v y → (∀ b o, b ≠ cenv.locals → b ∉ wr → b ≠ D → h.get? b = some o → h'.get? b = some o) → CLElt G cenv.locals D wr h' v y :=
    fun g k hf kf => g hf fun b o h1 h2 h3 e => kf b o h1 h2 h3 (k b o h1 h2 h3 e)
  refine compLoopD_any (CDInv knd s cenv.locals D wr n P St p FK G) ?_ (n + 1) (.mk (vs := []) (kvs := []) (m' := m) hst hacc hn (fun j v e => nomatch e) .nil (Nat.zero_le _) fun _ _ _ _ _ e => e)
  intro k s' hI
  cases hI with | @mk H tk m' kvs vs hst' hacc' hn' hP hF hi hk =>
  by_cases hlt : vs.length < n
  · refine W.item vs.length _ _ _ hlt hst' fun v h₁ tk₁ hPv hst₁ up₁ => ?_
    have hn₁ : h₁.Ns cenv.locals m' := hn'.at' fun o e => up₁ _ o hCw e
    refine hgo _ _ _ _ hst₁ ?_
    have pv' : ∀ j v', (vs ++ [v])[j]? = some v' → P j v' := fun j v' e => by
      rcases Nat.lt_trichotomy j vs.length with hj | hj | hj
      · rw [List.getElem?_append_left hj] at e; exact hP j v' e
      · subst hj; rw [List.getElem?_concat_length] at e; cases e; exact hPv
      · rw [List.getElem?_eq_none (by rw [List.length_append]; exact hj)] at e; cases e
    have hlen : (vs ++ [v]).length ≤ n := by rw [List.length_append]; exact hlt
    have hltn : n + 1 - (vs ++ [v]).length < n + 1 - vs.length := by rw [List.length_append]; exact Nat.sub_lt_sub_left (Nat.lt_succ_of_lt hlt) (Nat.lt_succ_self _)
    refine wpAny_mono (hturn vs.length v { s with heap := h₁, toks := tk₁ } m' hPv hn₁ ⟨_, _, rfl⟩ fun b o h1 h2 h3 e => up₁ b o h2 (hk b o h1 h2 h3 e)) (fun _ s₂ h₂ => wpAny_mono h₂ (fun ok s₃ h₃ => ?_) fun _ _ e => e) fun _ _ e => e
    cases ok with
    | false =>
      simp only [Bool.false_eq_true, if_false] at h₃ ⊢
      obtain ⟨h, tk₂, m₂, rfl, hn₂, hk₂, hp⟩ := h₃
      refine ⟨n + 1 - (vs ++ [v]).length, hltn, .mk (vs := vs ++ [v]) (kvs := kvs) ?_ ?_ hn₂ pv' ?_ hlen ?_⟩
      · rw [List.length_append]; exact W.frame _ _ _ hst₁ fun b hb o e => hk₂ b o (fun q => hCf (q ▸ hb)) e
      · exact hacc'.at fun o e => hk₂ D o hDC (up₁ D o hDw e)
      · rw [List.filter_append]
        simp only [List.filter_cons, hp, List.filter_nil, Bool.false_eq_true, if_false, List.append_nil]
        exact storedAll_mono (fun _ _ g => gg g fun b o h1 h2 h3 e => hk₂ b o h1 (up₁ b o h2 e)) hF
      · exact fun b o h1 h2 h3 e => hk₂ b o h1 (up₁ b o h2 (hk b o h1 h2 h3 e))
    | true =>
      simp only [if_true] at h₃ ⊢
      refine wpAny_mono h₃ (fun key s₄ h₄ => wpAny_mono h₄ (fun y s₅ h₅ => ?_) fun _ _ e => e) fun _ _ e => e
      obtain ⟨h, tk₂, m₂, rfl, hn₂, hk₂, hp, ⟨kk, hkk, hFk⟩, hG⟩ := h₅
      have hkv : kvs.length ≤ sizeLine := by
        exact Nat.le_trans hF.length_le (Nat.le_trans (List.length_filter_le _ _) (Nat.le_trans hi hsz))
      have hacc₂ : h.DictOf knd D kvs := hacc'.at fun o e => hk₂ D o hDC (up₁ D o hDw e)
      refine wpAny_dictSet_pairs (hsz := hkv) hkk hacc₂ fun h₆ hl₆ hs₆ => ?_
      refine ⟨n + 1 - (vs ++ [v]).length, hltn, .mk (vs := vs ++ [v]) (kvs := stored kvs kk y) ?_ hl₆ (hn₂.sameBut hs₆ (Ne.symm hDC)) pv' ?_ hlen ?_⟩
      · rw [List.length_append]
        exact W.frame _ _ _ hst₁ fun b hb o e => hs₆.extBut b o (fun q => hDf (q ▸ hb)) (hk₂ b o (fun q => hCf (q ▸ hb)) e)
      · rw [List.filter_append]
        simp only [List.filter_cons, hp, List.filter_nil, if_true]
        refine StoredAll.snoc (storedAll_mono (fun _ _ g => gg g fun b o h1 h2 h3 e => hs₆.extBut b o h3 (hk₂ b o h1 (up₁ b o h2 e))) hF) hFk ?_
        intro hf kf
        refine hG hf fun b o hnone e => ?_
        have c1 : b ≠ cenv.locals := fun q => by obtain ⟨o', _, _, ho', _⟩ := hn₁; rw [q] at hnone; dsimp only at hnone; rw [ho'] at hnone; cases hnone
        have c2 : b ∉ wr := fun q => by obtain ⟨o', ho'⟩ := hlive _ _ hst₁ b q; dsimp only at hnone; rw [ho'] at hnone; cases hnone
        have c3 : b ≠ D := fun q => by obtain ⟨o', ho', _⟩ := Heap.dictOf_iff.mp hacc'; rw [q] at hnone; dsimp only at hnone; rw [up₁ D _ hDw ho'] at hnone; cases hnone
        exact kf b o c1 c2 c3 (hs₆.extBut b o c3 e)
      · exact fun b o h1 h2 h3 e => hs₆.extBut b o h3 (hk₂ b o h1 (up₁ b o h2 (hk b o h1 h2 h3 e)))
  · have hin : vs.length = n := Nat.le_antisymm hi (Nat.not_lt.mp hlt)
    subst hin
    refine W.done _ _ _ hst' fun h₁ tk₁ hk₁ => ?_
    refine hR h₁ tk₁ m' kvs vs (hn'.at' fun o e => hk₁ _ o hCw e) (hacc'.at fun o e => hk₁ _ o hDw e) rfl hP (fun hf kf => storedAll_mono (fun v y g => g _ fun b o h1 h2 h3 e => kf b o h1 (hk₁ b o h2 e)) hF) fun b o h1 h2 h3 e => hk₁ b o h2 (hk b o h1 h2 h3 e)

/-- a dict comprehension over a walk, any target -/
theorem DictComp_walk {kx vx target iter : Expr} {ifs : List Expr} {scope : Scope} {cl : List (Str × Addr)} {pos : Pos} {Q : Value → Shared → Prop} (knd : KeyKind prog w K) (p : Value → Bool) (FK : Value → K → Prop) (G : Heap → Value → Value → Prop)
    (hclos : closureFor scope env = pure cl) (hcell : ∀ y ∈ scope.names, y.2 ≠ .cell) (hkind : scope.kind = .function)
    (hnames : ∀ y ∈ scope.names, y.2 = .local → scope.names.lookup y.1 = some .local)
    (h : wpAny (model prog w) A (eval iter env) (fun xv s₁ => wpAny (model prog w) A (pyIter xv) (fun it s₂ => ∃ I fp wr n P St, it = .ref I ∧ Walks prog w A I fp wr n P St ∧ n ≤ sizeLine ∧ St 0 s₂.heap ∧ (∀ b ∈ fp, b < s₂.heap.objs.size) ∧
      (∀ i h, St i h → ∀ b ∈ wr, ∃ o, h.get? b = some o) ∧
      (∀ i (s' : Shared) v (Q' : Unit → Shared → Prop), St i s'.heap → Q' () s' → wpAny (model prog w) A (letOwnedTupleGo target (.ref I) v) Q' (fun _ _ => False) s') ∧
      (∀ C i v s₃ m₃, s₂.heap.objs.size ≤ C → P i v → s₃.heap.Ns C m₃ → (∃ h tk, s₃ = { s₂ with heap := h, toks := tk }) → (∀ b o, b ∉ wr → s₂.heap.get? b = some o → s₃.heap.get? b = some o) →
        TurnD knd A (compEnvC scope cl C env) target ifs kx vx C p FK G v s₃) ∧
      (∀ D h' tk kvs (vs : List Value), s₂.heap.objs.size ≤ D → h'.DictOf knd D kvs → vs.length = n → (∀ j v, vs[j]? = some v → P j v) → StoredAll FK (G h') (vs.filter p) kvs →
        (∀ b o, b ∉ wr → s₂.heap.get? b = some o → h'.get? b = some o) → Q (.ref D) { s₂ with heap := h', toks := tk })) E s₁) E s)
    (hs : ∀ x, foldedSetIterable iter env x = pure x := by intro _; rfl) :
    wpAny (model prog w) A (eval (.DictComp kx vx [⟨target, iter, ifs, 0⟩] scope pos) env) Q E s := by
  rw [arm_eval_DictComp]
  refine wpAny_comprehension_free (use := none) rfl hs hclos hkind hnames (wpAny_mono h (fun xv s₁ h₁ => wpAny_mono h₁ (fun it s₂ h₂ => ?_) fun _ _ e => e) fun _ _ e => e)
  obtain ⟨I, fp, wr, n, P, St, rfl, W, hsz, hst, hfp, hlive, hgo, hq, hQ⟩ := h₂
  refine wpAny_newObj_type (wpAny_newFunctionEnv hcell (by intro y hy; simp at hy) (fun h₁ hns₁ hsb₁ => ?_) hkind)
  dsimp only at hns₁ hsb₁ ⊢
  have hnew : (s₂.heap.push { cls := .type "dict", dict := none, data := .dict #[] }).DictOf knd s₂.heap.objs.size [] := Heap.DictOf.new s₂.heap
  generalize hH2 : s₂.heap.push { cls := .type "dict", dict := none, data := .dict #[] } = H2 at hns₁ hsb₁ hnew ⊢
  have hC : H2.objs.size = s₂.heap.objs.size + 1 := by rw [← hH2, Heap.size_push]
  have hDC : s₂.heap.objs.size ≠ H2.objs.size := by rw [hC]; exact Nat.ne_of_lt (Nat.lt_succ_self _)
  have hCle : s₂.heap.objs.size ≤ H2.objs.size := by rw [hC]; exact Nat.le_succ _
  have below : ∀ b, b < s₂.heap.objs.size → b ≠ H2.objs.size ∧ b ≠ s₂.heap.objs.size := fun b hb => ⟨by rw [hC]; exact Nat.ne_of_lt (Nat.lt_succ_of_lt hb), Nat.ne_of_lt hb⟩
  have hDf : s₂.heap.objs.size ∉ fp := fun hm => Nat.lt_irrefl _ (hfp _ hm)
  have hCf : H2.objs.size ∉ fp := fun hm => by have := hfp _ hm; rw [hC] at this; exact Nat.lt_irrefl _ (Nat.lt_of_succ_lt this)
  have old : ∀ b o, s₂.heap.get? b = some o → h₁.get? b = some o := fun b o e => hsb₁.extBut b o (below b (Heap.lt_size e)).1 (Heap.get?_push_of_some _ (hH2 ▸ Heap.get?_push_of_some _ e))
  have hacc : h₁.DictOf knd s₂.heap.objs.size [] := hnew.at fun o e => hsb₁.extBut _ _ hDC (Heap.get?_push_of_some _ e)
  have hst₁ : St 0 h₁ := W.frame _ _ _ hst fun b _ o e => old b o e
  have loop : ∀ s₃ : Shared, s₃ = { s₂ with heap := h₁, toks := s₂.toks + ([] : List (Str × Value)).length } →
      codeAny (model prog w) A (.compLoop (.DictComp kx vx [⟨target, iter, ifs, 0⟩] scope pos) 0 (.ref I) (.ref s₂.heap.objs.size) (compEnvC scope cl H2.objs.size env))
        (compPost (model prog w) A E none Q (.ref s₂.heap.objs.size) H2.objs.size) s₃ := by
    rintro s₃ rfl
    refine compLoopD_walk (hsz := hsz) (cenv := compEnvC scope cl H2.objs.size env) W rfl p FK G hDC hDf hCf hst₁ hacc hns₁ hlive hgo
      (fun i v s₃ m₃ hv hn hs₃ hk => hq _ i v s₃ m₃ hCle hv hn (by obtain ⟨a, b, rfl⟩ := hs₃; exact ⟨a, b, rfl⟩) fun b o hbf e => hk b o (below b (Heap.lt_size e)).1 hbf (below b (Heap.lt_size e)).2 (old b o e))
      fun h' tk m' kvs vs hn ha hlen hP hF hk => ?_
    refine ⟨m', hn, fun h'' hs'' => ?_⟩
    have keepC : ∀ b o, b ≠ H2.objs.size → h'.get? b = some o → h''.get? b = some o := fun b o hb e => (hs''.2 b hb).trans e
    refine hQ _ h'' tk kvs vs (Nat.le_refl _) (ha.at fun o e => keepC _ _ hDC e) hlen hP (hF h'' keepC) ?_
    exact fun b o hbf e => keepC b o (below b (Heap.lt_size e)).1 (hk b o (below b (Heap.lt_size e)).1 hbf (below b (Heap.lt_size e)).2 (old b o e))
  exact codeAny_compStart_dict (loop _ rfl) (W.self 0 _ _ _ hst₁ (loop _ rfl))

/-- ready for a dict comprehension over a list -/
noncomputable def CompReadyD (knd : KeyKind prog w K) (A : Around) (env : Env) (target : Expr) (ifs : List Expr) (kx vx : Expr) (scope : Scope) (cl : List (Str × Addr)) (p : Value → Bool) (FK : Value → K → Prop) (G : Heap → Value → Value → Prop) (Q : Value → Shared → Prop) (xv : Value) (s₁ : Shared) : Prop :=
  ∃ l, ∃ vs : List Value, xv = .ref l ∧ s₁.heap.IsList l vs.toArray ∧ vs.length ≤ sizeLine ∧
      (∀ C (i : Nat) v s₃ m₃, s₁.heap.objs.size ≤ C → vs[i]? = some v → s₃.heap.Ns C m₃ → (∃ h tk, s₃ = { s₁ with heap := h, toks := tk }) → s₁.heap.StaysIn s₃.heap →
        TurnD knd A (compEnvC scope cl C env) target ifs kx vx C p FK G v s₃) ∧
      (∀ D h' tk kvs, s₁.heap.objs.size ≤ D → h'.DictOf knd D kvs → StoredAll FK (G h') (vs.filter p) kvs →
        s₁.heap.StaysIn h' → Q (.ref D) { s₁ with heap := h', toks := tk })
theorem DictComp_list {kx vx target iter : Expr} {ifs : List Expr} {scope : Scope} {cl : List (Str × Addr)} {pos : Pos} {Q : Value → Shared → Prop} (knd : KeyKind prog w K) (p : Value → Bool) (FK : Value → K → Prop) (G : Heap → Value → Value → Prop)
    (hh : A.handled = none) (hclos : closureFor scope env = pure cl) (hcell : ∀ y ∈ scope.names, y.2 ≠ .cell) (hkind : scope.kind = .function)
    (hnames : ∀ y ∈ scope.names, y.2 = .local → scope.names.lookup y.1 = some .local)
    (h : wpAny (model prog w) A (eval iter env) (fun xv s₁ => CompReadyD knd A env target ifs kx vx scope cl p FK G Q xv s₁) E s)
    (hs : ∀ x, foldedSetIterable iter env x = pure x := by intro _; rfl) :
    wpAny (model prog w) A (eval (.DictComp kx vx [⟨target, iter, ifs, 0⟩] scope pos) env) Q E s := by
  refine DictComp_walk knd p FK G hclos hcell hkind hnames (wpAny_mono h (fun xv s₁ h₁ => ?_) fun _ _ e => e) hs
  obtain ⟨l, vs, rfl, hl, hsz, ht, hQ⟩ := h₁
  obtain ⟨ol, hol, _⟩ := id hl
  have hlt : l < s₁.heap.objs.size := Heap.lt_size hol
  refine wpAny_pyIter_list hl ?_
  have W := Walks.list (prog := prog) (w := w) hh s₁.heap.objs.size l (Nat.ne_of_lt hlt) vs.toArray
  have hz : vs.toArray.size = vs.length := by simp
  have old : ∀ b o, s₁.heap.get? b = some o → b ∉ [s₁.heap.objs.size] := fun b o e q => Nat.lt_irrefl _ (List.mem_singleton.mp q ▸ Heap.lt_size e)
  refine ⟨_, _, _, _, _, _, rfl, W, by rw [hz]; exact hsz, ⟨⟨_, Heap.get?_push_size _ rfl, rfl, rfl⟩, hl.at fun o e => Heap.get?_push_of_some _ e⟩, ?_, ?_, fun i s' v Q' st q => letGo_listiter st.1 q, ?_, ?_⟩
  · intro b hb
    show b < (s₁.heap.push _).objs.size
    rw [Heap.size_push]
    rcases List.mem_cons.mp hb with rfl | hb
    · exact Nat.lt_succ_self _
    · rw [List.mem_singleton.mp hb]; exact Nat.lt_succ_of_lt hlt
  · intro i h st b hb
    obtain ⟨o, ho, _⟩ := st.1
    exact ⟨o, List.mem_singleton.mp hb ▸ ho⟩
  · intro C i v s₃ m₃ hC hP hn hs₃ hk
    refine ht C i v s₃ m₃ ?_ (by simpa using hP) hn (by obtain ⟨a, b, rfl⟩ := hs₃; exact ⟨a, b, rfl⟩) fun b o e => hk b o (old b o e) (Heap.get?_push_of_some _ e)
    have : (s₁.heap.push ({ cls := .type "list_iterator", data := .fields #[.ref l, .int (0 : Nat) 0] } : Obj)).objs.size ≤ C := hC
    rw [Heap.size_push] at this
    exact Nat.le_of_succ_le this
  · intro D h' tk kvs vs' hD hg hlen hP hF hk
    have e : vs' = vs := by
      refine List.ext_getElem? fun j => ?_
      by_cases hj : j < vs'.length
      · have := hP j vs'[j] (by simp [hj])
        rw [show vs'[j]? = some vs'[j] by simp [hj]]
        simpa using this.symm
      · rw [List.getElem?_eq_none (by omega), List.getElem?_eq_none (by omega)]
    subst e
    refine hQ D h' tk kvs ?_ hg hF fun b o q => hk b o (old b o q) (Heap.get?_push_of_some _ q)
    have : (s₁.heap.push ({ cls := .type "list_iterator", data := .fields #[.ref l, .int (0 : Nat) 0] } : Obj)).objs.size ≤ D := hD
    rw [Heap.size_push] at this
    exact Nat.le_of_succ_le this
end
end
-- Base3
section
/-- what a call promises that changes nothing old, seen through the ledger sub -/
noncomputable def QCall (prog : Program) (w : World) (f : Addr) (vs : List Value) (dN uN : Nat) (sub : List (Addr × Obj)) (P : Heap → Value → Heap → Prop) : Prop :=
  ∀ (p : Program) (loose : List Str) (mean : ExcName → Option Value) (mg mb : Str → Option Value) (dp un : Nat) (gd : Option (List Code)) (cn : Str) (cs : Scope) (a : Addr) (ccd : Value) (cl : List (Str × Addr)) (outer : List Env) (A₀ : Around) (base h₀ : Heap) (L : Addr) (m : Str → Option Value) (s : Shared) (Q E : Value → Shared → Prop),
    Below A₀ base outer h₀ → Fr h₀ L s.heap m → (hd.heap_39 w.params).In h₀ → News h₀ L s.heap sub → Top p loose mean mg mb h₀ → cs.kind = .function → dp + dN < recursionLimit → un + uN < cLine →
    (∀ v h' tk', s.heap.StaysIn h' → P s.heap v h' → Q v { s with heap := h', toks := tk' }) →
    wpAny (model prog w) (ktrTop dp un gd cn cs L a ccd cl outer) (call (.ref f) vs) Q E s
end
local macro_rules | `(tactic| k_room) => `(tactic| ktr_room)
section
section
variable {g : Heap} {L' L : Addr} {h₀ h' : Heap} {m' : Str → Option Value} {s : Shared} {sub news' : List (Addr × Obj)}
theorem stays_of (N : News h₀ L s.heap sub) (G : GSub s.heap g (sub.map (·.1))) (F' : Fr g L' h' m') (N' : News g L' h' news') (hs : ∀ p ∈ sub, p ∈ news') : s.heap.StaysIn h' :=
  elt_after (InElt.start _) G N F' N' hs
theorem fresh_of {l : Addr} {o : Obj} (G : GSub s.heap g (sub.map (·.1))) (N' : News g L' h' news') (hm : (l, o) ∈ news') (hne : AllNe l sub) : s.heap.get? l = none := by
  cases e : s.heap.get? l with
  | none => rfl
  | some o' =>
    have := G l o' e fun hq => by
      obtain ⟨p, hp, e⟩ := List.mem_map.mp hq
      exact allNe_mem hne p hp e
    rw [(N' _ hm).2.2] at this; cases this
theorem newQ {l : Addr} {arr : Array Value} {n : Nat} {P : List Value → Prop} (G : GSub s.heap g (sub.map (·.1))) (N' : News g L' h' news') (hm : (l, W.listOf arr n) ∈ news') (hne : AllNe l sub) (hP : P arr.toList) : NewL s.heap (.ref l) h' P :=
  ⟨l, arr.toList, n, rfl, fresh_of G N' hm hne, by rw [Array.toArray_toList]; exact (N' _ hm).1, hP⟩
end
section
variable {prog : Program} {w : World} {A : Around} {E : Value → Shared → Prop} {s : Shared} {K : Frag} {x C L : Addr} {h₀ : Heap} {m : Str → Option Value} {ox : Obj} {es : List DictEntry} {n : Nat} {name : Str} {v : Value}
theorem findObj_shadow {od : Obj} {a g : Value} (hh : hasDictIn K C = true) (ha : findIn K (.ref C) name = some (some a)) (hg : specialIn K a "__get__" = some (some g)) (ht : takesIn K a = some false) (hl : lookIn name od = some (some v)) :
    findObj K C (some od) name = some (.value v) := by
  obtain ⟨cd, hc, hd⟩ := any_some hh
  unfold findObj
  rw [hc, Option.bind_some, ha, Option.bind_some]
  have ho : W.ownOf cd (some od) name = some (some v) := by unfold W.ownOf; rw [if_pos hd]; exact hl
  simp [hg, ht, ho]
/-- a method's name that stands in the instance's own dict -/
theorem method_own {pl : Sem Bool} {Q : Value × List Value → Shared → Prop} {f : Addr} {g : Value} (F : Fr h₀ L s.heap m) (X₀ : K.In h₀) (I : InstAt s.heap x ox C (some (dictOf es n))) (hg : plainGet K C name = true) (hh : hasDictIn K C = true)
    (hf : findIn K (.ref C) name = some (some (.ref f))) (ht : isFn K (.ref f) = true) (hsp : specialIn K (.ref f) "__get__" = some (some g)) (htk : takesIn K (.ref f) = some false) (hl : getL name es = some (some v)) (hv : handedIn v = true)
    (h : Q (v, []) { s with toks := s.toks + 1 }) : wpAny (model prog w) A (getMethod (.ref x) name pl) Q E s := by
  have X := X₀.keeps F.keep
  obtain ⟨hga, hk⟩ := plainGet_of hg
  have hcan := PySem.F.canon_object_ga
  have use : wpAny (model prog w) A (do return (← getAttr (.ref x) name, [])) Q E s := wpAny_bind (get_value X I hga (findObj_shadow hh hf hsp htk hl) hv (wpAny_pure h))
  unfold getMethod specialOf
  refine wpAny_bind (wpAny_bind (I.type.here ((looks_findIn X hga).here ?_)))
  dsimp only
  rw [hcan, if_neg (by decide)]
  refine wpAny_bind (wpAny_bind (I.type.here ((looks_findIn X hk).here ?_)))
  refine wpAny_bind (wpAny_bind (I.type.here ((looks_findIn X hf).here (wpAny_bind ((looks_typeIn X (beq_iff_eq.mp ht)).here ?_)))))
  rw [if_neg (by decide +kernel)]
  refine wpAny_bind (wpAny_loadPart I.at_ ?_)
  have hd := I.dict
  cases e : ox.dict with
  | none => rw [e] at hd; cases hd
  | some dx =>
    rw [e] at hd
    refine wpAny_bind (wpAny_bind (wpAny_loadPart hd ?_))
    rw [nsLook_of (show lookIn name (dictOf es n) = some (some v) from hl)]
    refine wpAny_pure ?_
    exact use
end
noncomputable def SubL : List (Addr × Obj) → List (Addr × Obj) → Prop
  | [], _ => True
  | p :: r, n => p ∈ n ∧ SubL r n
theorem subL_mem : ∀ {a b : List (Addr × Obj)}, SubL a b → ∀ p ∈ a, p ∈ b
  | [], _, _, p, hp => by cases hp
  | q :: r, b, h, p, hp => (List.mem_cons.mp hp).elim (fun e => e ▸ h.1) fun hp => subL_mem h.2 p hp
section
variable {prog : Program} {w : World} {s : Shared} {L : Addr} {h₀ base : Heap} {m mg mb : Str → Option Value} {p : Program} {loose : List Str} {mean : ExcName → Option Value} {news sub : List (Addr × Obj)} {Q E : Value → Shared → Prop}
theorem use_q {f : Addr} {vs : List Value} {dN uN : Nat} {P : Heap → Value → Heap → Prop} (C : QCall prog w f vs dN uN sub P)
    {dp un : Nat} {gd : Option (List Code)} {cn : Str} {cs : Scope} {a : Addr} {ccd : Value} {cl : List (Str × Addr)} {outer : List Env} {A₀ : Around}
    (B : Below A₀ base outer h₀) (F : Fr h₀ L s.heap m) (X : (hd.heap_39 w.params).In h₀) (N : News h₀ L s.heap news) (T : Top p loose mean mg mb h₀) (hk : cs.kind = .function) (hd' : dp + dN < recursionLimit) (hu : un + uN < cLine) (hs : SubL sub news)
    (h : ∀ v h' tk', s.heap.StaysIn h' → P s.heap v h' → Fr h₀ L h' m → News h₀ L h' news → Q v { s with heap := h', toks := tk' }) :
    wpAny (model prog w) (ktrTop dp un gd cn cs L a ccd cl outer) (call (.ref f) vs) Q E s :=
  C p loose mean mg mb dp un gd cn cs a ccd cl outer A₀ base h₀ L m s Q E B F X (fun q hq => N q (subL_mem hs q hq)) T hk hd' hu fun v h' tk' st pv =>
    h v h' tk' st pv ⟨F.ns.at' fun o e => st _ o e, fun b o e => st b o (F.keep b o e), F.above⟩ fun q hq => ⟨st _ _ (N q hq).1, (N q hq).2⟩
theorem use_qL {f : Addr} {vs : List Value} {dN uN : Nat} {P : Heap → Heap → List Value → Prop} (C : QCall prog w f vs dN uN sub fun H v h' => NewL H v h' (P H h'))
    {dp un : Nat} {gd : Option (List Code)} {cn : Str} {cs : Scope} {a : Addr} {ccd : Value} {cl : List (Str × Addr)} {outer : List Env} {A₀ : Around}
    (B : Below A₀ base outer h₀) (F : Fr h₀ L s.heap m) (X : (hd.heap_39 w.params).In h₀) (N : News h₀ L s.heap news) (T : Top p loose mean mg mb h₀) (hk : cs.kind = .function) (hd' : dp + dN < recursionLimit) (hu : un + uN < cLine) (hs : SubL sub news)
    (h : ∀ l vs n h' tk', s.heap.StaysIn h' → P s.heap h' vs → Fr h₀ L h' m → News h₀ L h' ((l, W.listOf vs.toArray n) :: news) → AllNe l news → @Ne Nat l L → Q (.ref l) { s with heap := h', toks := tk' }) :
    wpAny (model prog w) (ktrTop dp un gd cn cs L a ccd cl outer) (call (.ref f) vs) Q E s := by
  refine use_q C B F X N T hk hd' hu hs ?_
  rintro v h' tk' st ⟨l, vs', n, rfl, hl, hg, hP⟩ F' N'
  obtain ⟨N₂, hn, hL⟩ := on_ledger F N hl hg N'
  exact h l vs' n h' tk' st hP F' N₂ hn hL
end
end
-- LibE
section
open PySem PySem.W PySem.Calls PySem.Spec PyProof.Rows PySem.SeqAt
theorem all_strs {va vb : List Value} {aw bw : List Str} (hA : StrsAre va aw) (hB : StrsAre vb bw) (hs : va.length = vb.length) {A : Around} {s : Shared} :
    ∃ e : Nat → Bool, (∀ j (h1 : j < va.toArray.size) (h2 : j < vb.toArray.size), EqAt A s va.toArray[j] vb.toArray[j] (e j)) ∧ (List.range va.toArray.size).all e = decide (aw = bw) := by
  have la := hA.length
  have lb := hB.length
  refine ⟨fun j => aw.getD j Str.empty == bw.getD j Str.empty, fun j h1 h2 => ?_, ?_⟩
  · have h1' : j < aw.length := by simpa [la] using h1
    have h2' : j < bw.length := by simpa [lb] using h2
    obtain ⟨t, e1⟩ := hA.get j aw[j] (by simp [h1'])
    obtain ⟨u, e2⟩ := hB.get j bw[j] (by simp [h2'])
    have e1' : va.toArray[j] = Value.str aw[j] t := by
      obtain ⟨_, q⟩ := List.getElem?_eq_some_iff.mp e1
      simpa using q
    have e2' : vb.toArray[j] = Value.str bw[j] u := by
      obtain ⟨_, q⟩ := List.getElem?_eq_some_iff.mp e2
      simpa using q
    rw [e1', e2']
    have := EqAt.str_str (A := A) (s := s) aw[j] t bw[j] u
    simpa [h1', h2'] using this
  · rw [Bool.eq_iff_iff, List.all_eq_true, decide_eq_true_iff]
    constructor
    · intro h
      refine List.ext_getElem (by omega) fun i h1 h2 => ?_
      have := h i (by simp; omega)
      simpa [h1, h2] using this
    · intro h i hi
      rw [h]; simp
theorem all_ints {va vb : List Value} {aw bw : List Int} (hA : IntsAre va aw) (hB : IntsAre vb bw) (hs : va.length = vb.length) {A : Around} {s : Shared} :
    ∃ e : Nat → Bool, (∀ j (h1 : j < va.toArray.size) (h2 : j < vb.toArray.size), EqAt A s va.toArray[j] vb.toArray[j] (e j)) ∧ (List.range va.toArray.size).all e = decide (aw = bw) := by
  have la := hA.length
  have lb := hB.length
  refine ⟨fun j => aw.getD j 0 == bw.getD j 0, fun j h1 h2 => ?_, ?_⟩
  · have h1' : j < aw.length := by simpa [la] using h1
    have h2' : j < bw.length := by simpa [lb] using h2
    obtain ⟨t, e1⟩ := hA.get j aw[j] (by simp [h1'])
    obtain ⟨u, e2⟩ := hB.get j bw[j] (by simp [h2'])
    have e1' : va.toArray[j] = Value.int aw[j] t := by
      obtain ⟨_, q⟩ := List.getElem?_eq_some_iff.mp e1
      simpa using q
    have e2' : vb.toArray[j] = Value.int bw[j] u := by
      obtain ⟨_, q⟩ := List.getElem?_eq_some_iff.mp e2
      simpa using q
    rw [e1', e2']
    have := EqAt.int_int (A := A) (s := s) aw[j] t bw[j] u
    simpa [h1', h2'] using this
  · rw [Bool.eq_iff_iff, List.all_eq_true, decide_eq_true_iff]
    constructor
    · intro h
      refine List.ext_getElem (by omega) fun i h1 h2 => ?_
      have := h i (by simp; omega)
      simpa [h1, h2] using this
    · intro h i hi
      rw [h]; simp
section
variable {A : Around} {s : Shared} {l b : Addr} {va vb : List Value}
theorem rc_strs {aw bw : List Str} (hl : s.heap.IsList l va.toArray) (hb : s.heap.IsList b vb.toArray) (hA : StrsAre va aw) (hB : StrsAre vb bw) (hu : A.units < cLine) : RcAt A s (.ref l) (.ref b) (decide (aw = bw)) := by
  have la := hA.length
  have lb := hB.length
  by_cases hs : va.length = vb.length
  · obtain ⟨e, he, hd⟩ := all_strs hA hB hs (A := A.in1) (s := s)
    rw [← hd]
    exact RcAt.lists hl hb (by simpa using hs) hu he
  · rw [show decide (aw = bw) = false from by rw [decide_eq_false_iff_not]; intro e; exact hs (by rw [la, lb, e])]
    exact RcAt.lists_lengths hl hb (by simpa using hs) hu
theorem rc_ints {aw bw : List Int} (hl : s.heap.IsList l va.toArray) (hb : s.heap.IsList b vb.toArray) (hA : IntsAre va aw) (hB : IntsAre vb bw) (hu : A.units < cLine) : RcAt A s (.ref l) (.ref b) (decide (aw = bw)) := by
  have la := hA.length
  have lb := hB.length
  by_cases hs : va.length = vb.length
  · obtain ⟨e, he, hd⟩ := all_ints hA hB hs (A := A.in1) (s := s)
    rw [← hd]
    exact RcAt.lists hl hb (by simpa using hs) hu he
  · rw [show decide (aw = bw) = false from by rw [decide_eq_false_iff_not]; intro e; exact hs (by rw [la, lb, e])]
    exact RcAt.lists_lengths hl hb (by simpa using hs) hu
theorem rcNe_strs {aw bw : List Str} (hl : s.heap.IsList l va.toArray) (hb : s.heap.IsList b vb.toArray) (hA : StrsAre va aw) (hB : StrsAre vb bw) (hu : A.units < cLine) : RcNeAt A s (.ref l) (.ref b) (!decide (aw = bw)) := by
  have la := hA.length
  have lb := hB.length
  by_cases hs : va.length = vb.length
  · obtain ⟨e, he, hd⟩ := all_strs hA hB hs (A := A.in1) (s := s)
    rw [← hd]
    exact RcNeAt.lists hl hb (by simpa using hs) hu he
  · rw [show decide (aw = bw) = false from by rw [decide_eq_false_iff_not]; intro e; exact hs (by rw [la, lb, e])]
    exact RcNeAt.lists_lengths hl hb (by simpa using hs) hu
theorem strs_uniq {h : Heap} {vs us : List Value} {aw bw : List Str} (h1 : h.IsList l vs.toArray) (h2 : h.IsList l us.toArray) (hA : StrsAre vs aw) (hB : StrsAre us bw) : aw = bw := by
  obtain ⟨o, ho, _, n, hd⟩ := h1
  obtain ⟨o', ho', _, n', hd'⟩ := h2
  rw [ho] at ho'; cases ho'
  rw [hd] at hd'; injection hd' with e1 _
  have e2 : vs = us := by simpa using e1
  subst e2
  clear hd ho e1
  induction hA generalizing bw with
  | nil => cases hB; rfl
  | cons x t _ ih => cases hB with | cons y u h => rw [ih h]
theorem ints_uniq {h : Heap} {vs us : List Value} {aw bw : List Int} (h1 : h.IsList l vs.toArray) (h2 : h.IsList l us.toArray) (hA : IntsAre vs aw) (hB : IntsAre us bw) : aw = bw := by
  obtain ⟨o, ho, _, n, hd⟩ := h1
  obtain ⟨o', ho', _, n', hd'⟩ := h2
  rw [ho] at ho'; cases ho'
  rw [hd] at hd'; injection hd' with e1 _
  have e2 : vs = us := by simpa using e1
  subst e2
  clear hd ho e1
  induction hA generalizing bw with
  | nil => cases hB; rfl
  | cons x t _ ih => cases hB with | cons y u h => rw [ih h]
theorem eqAt_strs {aw bw : List Str} (hl : s.heap.IsList l va.toArray) (hb : s.heap.IsList b vb.toArray) (hA : StrsAre va aw) (hB : StrsAre vb bw) (hu : A.units < cLine) : EqAt A s (.ref l) (.ref b) (decide (aw = bw)) := by
  by_cases e : l = b
  · subst e
    rw [decide_eq_true (strs_uniq hl hb hA hB)]
    exact EqAt.same _
  · exact EqAt.of_refs e (rc_strs hl hb hA hB hu)
theorem eqAt_ints {aw bw : List Int} (hl : s.heap.IsList l va.toArray) (hb : s.heap.IsList b vb.toArray) (hA : IntsAre va aw) (hB : IntsAre vb bw) (hu : A.units < cLine) : EqAt A s (.ref l) (.ref b) (decide (aw = bw)) := by
  by_cases e : l = b
  · subst e
    rw [decide_eq_true (ints_uniq hl hb hA hB)]
    exact EqAt.same _
  · exact EqAt.of_refs e (rc_ints hl hb hA hB hu)
/-- (texts, numbers) != (texts, numbers) -/
theorem rcNe_pair {a c q r : Addr} {v1 v2 u1 u2 : List Value} {x1 x2 : List Str} {y1 y2 : List Int} (hq : s.heap.IsTuple q #[.ref l, .ref a]) (hr : s.heap.IsTuple r #[.ref b, .ref c])
    (h1 : s.heap.IsList l v1.toArray) (h2 : s.heap.IsList a u1.toArray) (h3 : s.heap.IsList b v2.toArray) (h4 : s.heap.IsList c u2.toArray) (i1 : StrsAre v1 x1) (i2 : IntsAre u1 y1) (i3 : StrsAre v2 x2) (i4 : IntsAre u2 y2)
    (hu : A.in1.units < cLine) (hu' : A.units < cLine) : RcNeAt A s (.ref q) (.ref r) (!(decide (x1 = x2) && decide (y1 = y2))) := by
  have := RcNeAt.tuples (A := A) (s := s) (e := fun j => if j = 0 then decide (x1 = x2) else decide (y1 = y2)) hq hr hu' (fun j h1' h2' => ?_)
  · simpa [List.range, List.range.loop, Bool.and_comm] using this
  · match j, h1', h2' with
    | 0, _, _ => exact eqAt_strs h1 h3 i1 i3 hu
    | 1, _, _ => exact eqAt_ints h2 h4 i2 i4 hu
theorem of_rcNe {prog : Program} {w : World} {E : Value → Shared → Prop} {Q : Value → Shared → Prop} {a b : Value} {k : Bool} (h : RcNeAt A s a b k) (hq : Q (.bool k) s) : wpAny (model prog w) A (compareOp .NotEq a b) Q E s := h prog w E Q hq
theorem of_rcEq {prog : Program} {w : World} {E : Value → Shared → Prop} {Q : Value → Shared → Prop} {a b : Value} {k : Bool} (h : RcAt A s a b k) (hq : Q (.bool k) s) : wpAny (model prog w) A (compareOp .Eq a b) Q E s := h prog w E Q hq
end
end
-- LibS
section
set_option maxRecDepth 100000
/-- an equation that the walk leaves alone -/
structure Is {α : Type} (x y : α) : Prop where
  eq : x = y
/-- a slice of words -/
noncomputable def cut {α : Type} (ss : List α) (lo hi : Option Int) : List α := (ss.drop (kms_lo lo ss.length)).take (kms_hi hi ss.length - kms_lo lo ss.length)
theorem cut_mem {α : Type} {ss : List α} {lo hi : Option Int} {x : α} (h : x ∈ cut ss lo hi) : x ∈ ss := List.mem_of_mem_drop (List.mem_of_mem_take h)
theorem cut_from {α : Type} (ss : List α) (k : Nat) : cut ss (some (k : Int)) none = ss.drop k := by
  unfold cut kms_lo kms_hi
  dsimp only
  rw [if_neg (by omega), Int.toNat_natCast]
  rcases Nat.le_total k ss.length with h | h
  · rw [Nat.min_eq_left h, List.take_of_length_le (by simp)]
  · rw [Nat.min_eq_right h, List.drop_eq_nil_of_le h, List.drop_eq_nil_of_le (Nat.le_refl _)]; simp
theorem cut_all {α : Type} (ss : List α) : cut ss none none = ss := by
  unfold cut kms_lo kms_hi
  dsimp only
  simp
theorem cut_upto_neg {α : Type} (ss : List α) (k : Nat) (h : 0 < k) : cut ss none (some (-(k : Int))) = ss.take (ss.length - k) := by
  unfold cut kms_lo kms_hi
  dsimp only
  rw [if_pos (by omega)]
  simp
noncomputable def cutN (lo hi : Option Int) (n : Nat) : Nat := min (kms_hi hi n - kms_lo lo n) (n - kms_lo lo n)
theorem cut_cutN {α : Type} (ss : List α) (lo hi : Option Int) : (cut ss lo hi).length = cutN lo hi ss.length := by unfold cut cutN; simp
theorem cutN_from (k n : Nat) : cutN (some (k : Int)) none n = n - k := by
  unfold cutN kms_lo kms_hi
  dsimp only
  rw [if_neg (by omega), Int.toNat_natCast]; omega
theorem cutN_all (n : Nat) : cutN none none n = n := by
  unfold cutN kms_lo kms_hi
  dsimp only; omega
theorem cutN_neg {p : Int} (h : p < 0) (n : Nat) : cutN none (some p) n = n - (-p).toNat := by
  unfold cutN kms_lo kms_hi
  dsimp only
  rw [if_pos h]; omega
section
variable {prog : Program} {w : World} {A : Around} {E : Value → Shared → Prop} {s : Shared} {h₀ : Heap} {L l : Addr} {m : Str → Option Value} {news : List (Addr × Obj)} {value slice : PySem.Expr} {vs : List Value} {ss : List Str} {vl vu : Value} {lo hi : Option Int} {Q : Value → Shared → Prop}
theorem slice_strs (F : Fr h₀ L s.heap m) (N : News h₀ L s.heap news) (hl : s.heap.IsList l vs.toArray) (hi' : StrsAre vs ss) (pl : IsPart vl lo) (pu : IsPart vu hi)
    (h : ∀ D ws zs h', zs = cut ss lo hi → zs.length = cutN lo hi ss.length → Fr h₀ L h' m → News h₀ L h' ((D, W.listOf (List.toArray ws) 0) :: news) → (∀ p ∈ news, p.1 < D) → StrsAre ws zs → Q (.ref D) { s with heap := h' })
    (hs : subscripted slice false (.ref l) (.ref s.heap.objs.size) = operate [.ref s.heap.objs.size, .ref l] (getItem (.ref l) (.ref s.heap.objs.size))) (ht : ∀ r, letTemporaryGo value (.ref l) r = pure ()) (hz : ss.length ≤ 1000) :
    wpAny (model prog w) A (subscriptTail value slice (.ref l) (.ref s.heap.objs.size)) Q E { s with heap := s.heap.push { cls := .type "slice", data := .fields #[vl, vu, .none] } } := by
  have hlen := hi'.length
  refine kmk_slice F N hl pl pu (fun D h' F' N' l1 => h D (kms_pick vs lo hi) _ h' rfl (cut_cutN _ _ _) F' ?_ l1 ?_) hs ht ?_
  · rw [kms_pick_eq] at N'
    exact N'
  · unfold kms_pick cut
    rw [hlen]
    exact (hi'.drop' _).take' _
  · have e : sizeLine = 2 ^ 24 := sizeLine_eq
    simp; omega
theorem item_strs {k : Int} {u : Tok} (hl : s.heap.IsList l vs.toArray) (hi' : StrsAre vs ss) (h1 : -(ss.length : Int) ≤ k) (h2 : k < ss.length) (hz : ss.length ≤ 1000)
    (h : ∀ x t, Is x (ss.getD (if k < 0 then k + ss.length else k).toNat Str.empty) → Q (.str x t) s)
    (hs : subscripted slice false (.ref l) (.int k u) = operate [.ref l, .int k u] (getItem (.ref l) (.int k u))) :
    wpAny (model prog w) A (subscriptTail value slice (.ref l) (.int k u)) Q E s := by
  have hlen := hi'.length
  refine tail_any hl.typeIs slot_list_getitem.lookup ?_ hs
  by_cases hk : k < 0
  · rw [if_pos hk] at h
    have hlt : (k + ss.length).toNat < ss.length := by omega
    have e : ss[(k + ss.length).toNat]? = some (ss.getD (k + ss.length).toNat Str.empty) := by simp [List.getD, hlt]
    obtain ⟨t, ht⟩ := hi'.get _ _ e
    exact wpAny_getItem_list_neg hl hk (by simp; omega) (by omega) (by simp only [List.size_toArray, hlen]; simpa using ht) (h _ t ⟨rfl⟩)
  · rw [if_neg hk] at h
    have hlt : k.toNat < ss.length := by omega
    have e : ss[k.toNat]? = some (ss.getD k.toNat Str.empty) := by simp [List.getD, hlt]
    obtain ⟨t, ht⟩ := hi'.get _ _ e
    exact wpAny_getItem_list hl (by omega) (by omega) (by simpa using ht) (h _ t ⟨rfl⟩)
theorem truthy_strs {Q : Bool → Shared → Prop} (hl : s.heap.IsList l vs.toArray) (hi' : StrsAre vs ss) (hz : ss.length ≤ 1000) (h : Q (decide (0 < ss.length)) { s with toks := s.toks + 1 + 1 }) : wpAny (model prog w) A (truthy (.ref l)) Q E s := by
  have hlen := hi'.length
  refine wpAny_truthy_list hl (by simp; omega) ?_
  have e : (!vs.toArray.isEmpty) = decide (0 < ss.length) := by
    cases hi' with
    | nil => rfl
    | cons _ _ _ => simp
  rw [e]; exact h
end
end
-- LibQ
section
set_option maxRecDepth 100000
theorem set_congr {prog : Program} {w : World} {h : Heap} {a : Addr} {S S' : Str → Bool} {n : Nat} (hS : h.SetOf (PySem.strKind prog w) a S n) (e : ∀ k, S k = S' k) : h.SetOf (PySem.strKind prog w) a S' n := by
  have : S = S' := funext e
  subst this; exact hS
/-- a set of the words ss, each once -/
theorem strs_snoc {vs : List Value} {ss : List Str} (h : StrsAre vs ss) (x : Str) (t : Tok) : StrsAre (vs ++ [.str x t]) (ss ++ [x]) := by
  induction h with
  | nil => exact .cons x t .nil
  | cons y t' _ ih => exact .cons y t' ih
/-- a set of the words ss, each once -/
noncomputable def SetUp (prog : Program) (w : World) (h : Heap) (a : Addr) (ss : List Str) : Prop :=
  ∃ o es ep t ks, h.get? a = some o ∧ o.ExactSet ∧ o.data = .set es ep t ∧ ElemsOf (PySem.strKind prog w) es.toList ∧ StrsAre (es.toList.map (·.2)) ks ∧ ks.Perm ss ∧ t.fits es.size = true ∧ (0 < es.size → t.plain = false)
theorem SetUp.at' {prog : Program} {w : World} {h h' : Heap} {a : Addr} {ss : List Str} (x : SetUp prog w h a ss) (e : ∀ o, h.get? a = some o → h'.get? a = some o) : SetUp prog w h' a ss := by
  obtain ⟨o, es, ep, t, ks, ho, r⟩ := x
  exact ⟨o, es, ep, t, ks, e _ ho, r⟩
theorem strs_mem (prog : Program) (w : World) {vs : List Value} {ss : List Str} (h : StrsAre vs ss) (k : Str) : (∃ v ∈ vs, Value.isStrOf k v = true) ↔ k ∈ ss := by
  induction h with
  | nil => simp
  | cons x t _ ih =>
    simp only [List.mem_cons, exists_eq_or_imp, ih]
    have : Value.isStrOf k (.str x t) = true ↔ k = x := by
      constructor
      · intro q
        obtain ⟨t', e⟩ := Value.isStrOf_shape q
        injection e with e1 _
        exact e1.symm
      · rintro rfl; exact strKind_is prog w _ t
    rw [this]
theorem SetUp.setOf {prog : Program} {w : World} {h : Heap} {a : Addr} {ss : List Str} (x : SetUp prog w h a ss) (hb : ss.length < scanBound) : h.SetOf (PySem.strKind prog w) a (fun k => decide (k ∈ ss)) ss.length := by
  obtain ⟨o, es, ep, t, ks, ho, hex, hd, hel, hks, hp, hf, _⟩ := x
  have hn : es.size = ss.length := by
    have h1 := hks.length
    rw [List.length_map, Array.length_toList, hp.length_eq] at h1; exact h1
  refine ⟨o, es, ep, t, ho, hex, hd, hel, fun k => ?_, by omega, hf, hn⟩
  rw [decide_eq_true_iff, ← hp.mem_iff, ← strs_mem prog w hks k]
  simp only [List.mem_map]
  constructor
  · rintro ⟨v, ⟨e, he, rfl⟩, hk⟩; exact ⟨e, he, hk⟩
  · rintro ⟨e, he, hk⟩; exact ⟨_, ⟨e, he, rfl⟩, hk⟩
theorem strs_perm {l l' : List Value} (hp : l'.Perm l) {ss : List Str} (h : StrsAre l ss) : ∃ ss', StrsAre l' ss' ∧ ss'.Perm ss := by
  induction hp generalizing ss with
  | nil => cases h; exact ⟨[], .nil, .refl _⟩
  | cons x _ ih =>
    cases h with
    | cons y t h => obtain ⟨q, h1, h2⟩ := ih h; exact ⟨y :: q, .cons _ _ h1, h2.cons _⟩
  | swap x y l =>
    cases h with
    | cons a t h => cases h with
      | cons b u h => exact ⟨_, .cons _ _ (.cons _ _ h), .swap _ _ _⟩
  | trans _ _ ih1 ih2 =>
    obtain ⟨q, h1, h2⟩ := ih2 h
    obtain ⟨q', h3, h4⟩ := ih1 h1
    exact ⟨q', h3, h4.trans h2⟩
theorem relay_plain (t : SetTable) (es : Array (Int × Value)) (n : Nat) (h : t.plain = false) : (relayAll t es n).2.1.plain = false := by
  unfold relayAll
  split
  · rename_i t' order hr
    dsimp only
    split
    · unfold SetTable.relaid SetTable.laid at hr
      simp only [Option.bind_eq_bind, Option.pure_def, Option.bind_eq_some_iff] at hr
      obtain ⟨_, _, hr⟩ := hr
      injection hr with hr
      injection hr with h1 _
      rw [← h1]; exact h
    · rfl
  · rfl
section
variable {prog : Program} {w : World} {A : Around} {E : Value → Shared → Prop} {s : Shared}
/-- the end of an adding: what is laid is laid -/
theorem tail_plain {g : Bool → Sem Unit} (hg : ∀ (b : Bool) (s₁ : Shared) (Q' : Unit → Shared → Prop), Q' () s₁ → wpAny (model prog w) A (g b) Q' E s₁)
    {a : Addr} {o : Obj} {es : Array (Int × Value)} {ep : Nat} {t : SetTable} (ho : s.heap.get? a = some o) (hex : o.ExactSet) (hd : o.data = .set es ep t)
    {es1 : Array (Int × Value)} {t2 : SetTable} {ss ks : List Str} (hel1 : ElemsOf (PySem.strKind prog w) es1.toList) (hks : StrsAre (es1.toList.map (·.2)) ks) (hp1 : ks.Perm ss)
    (hb1 : es1.size < scanBound) (hf2 : t2.fits es1.size = true) (hpl : t2.plain = false) {wasDummy : Bool} {R : Option Bool → Shared → Prop}
    (h : ∀ h', Heap.SameBut a s.heap h' → SetUp prog w h' a ss → R (some true) { s with heap := h' }) :
    wpAny (model prog w) A (do
        storeSet a es1 t2
        if (!wasDummy && t2.tooFull) = true then do
            g (relayAll t2 es1 (SetTable.grown es1.size)).2.2
            storeSet a (relayAll t2 es1 (SetTable.grown es1.size)).1 (relayAll t2 es1 (SetTable.grown es1.size)).2.1
            pure (some true)
          else pure (some true)) R E s := by
  refine wpAny_bind (wpAny_storeSet_of ho hd ?_ (fits_of_scanBound hb1))
  have ho1 : (s.heap.update a (Obj.putSet es1 t2)).get? a = some { o with data := .set es1 (ep + 1) t2 } := by
    have := Heap.get?_update_self (Obj.putSet es1 t2) ho (by rw [putSet_of es1 t2 hd]; rfl)
    rw [putSet_of es1 t2 hd] at this; exact this
  have hsb1 := Heap.SameBut.update s.heap a (Obj.putSet es1 t2)
  split
  · have hp := relayAll_perm t2 es1 (SetTable.grown es1.size)
    have hfr := relayAll_fits t2 es1 (SetTable.grown es1.size)
    have hpr := relay_plain t2 es1 (SetTable.grown es1.size) hpl
    generalize relayAll t2 es1 (SetTable.grown es1.size) = Rl at hp hfr hpr ⊢
    obtain ⟨es2, t3, gave2⟩ := Rl
    dsimp only at hp hfr hpr ⊢
    have hel2 : ElemsOf (PySem.strKind prog w) es2.toList := hel1.perm hp
    obtain ⟨ks2, hks2, hp2⟩ := strs_perm (hp.map (·.2)) hks
    have hsz : es2.size = es1.size := by rw [← Array.length_toList, hp.length_eq, Array.length_toList]
    refine wpAny_bind (hg _ _ _ ?_)
    refine wpAny_bind (wpAny_storeSet_of ho1 rfl ?_ (fits_of_scanBound (by rw [hsz]; exact hb1)))
    refine wpAny_pure (h _ (hsb1.trans (Heap.SameBut.update _ a _)) ⟨{ o with data := .set es2 (ep + 1 + 1) t3 }, es2, _, t3, ks2, ?_, hex, rfl, hel2, hks2, hp2.trans hp1, hfr, fun _ => hpr⟩)
    have := Heap.get?_update_self (Obj.putSet es2 t3) ho1 (by rw [putSet_of es2 t3 rfl]; rfl)
    rw [putSet_of es2 t3 rfl] at this; exact this
  · exact wpAny_pure (h _ hsb1 ⟨_, es1, _, t2, ks, ho1, hex, rfl, hel1, hks, hp1, hf2, fun _ => hpl⟩)
end
namespace Hset_add_new
noncomputable abbrev hTy := Program × World × Around × (Value → Shared → Prop) × Shared × Addr × List Str × Str × Tok × (Bool → Shared → Prop)
noncomputable def hSt (c : hTy) : Prop := (fun (prog : Program) (w : World) (A : Around) (E : Value → Shared → Prop) (s : Shared) (a : Addr) (ss : List Str) (y : Str) (u : Tok) (Q : Bool → Shared → Prop) => ∀ (hS : SetUp prog w s.heap a ss) (hy : y ∉ ss) (hb : ss.length + 1 < scanBound) (h : ∀ h', Heap.SameBut a s.heap h' → SetUp prog w h' a (ss ++ [y]) → Q true { s with heap := h' }), (wpAny (model prog w) A (setAddHashed a (.str y u) (hashStr w y)) Q E s : Prop)) c.1 c.2.1 c.2.2.1 c.2.2.2.1 c.2.2.2.2.1 c.2.2.2.2.2.1 c.2.2.2.2.2.2.1 c.2.2.2.2.2.2.2.1 c.2.2.2.2.2.2.2.2.1 c.2.2.2.2.2.2.2.2.2
theorem hNe : Nonempty hTy := ⟨default, w0, {}, (fun _ => (fun _ => False)), {}, (0 : Nat), [], Str.empty, (0 : Nat), (fun _ => (fun _ => False))⟩
noncomputable def hCc : hTy := @Classical.epsilon hTy hNe fun x => ¬ hSt x
@[irreducible] noncomputable def prog : Program := hCc.1
@[irreducible] noncomputable def w : World := hCc.2.1
@[irreducible] noncomputable def A : Around := hCc.2.2.1
@[irreducible] noncomputable def E : Value → Shared → Prop := hCc.2.2.2.1
@[irreducible] noncomputable def s : Shared := hCc.2.2.2.2.1
@[irreducible] noncomputable def a : Addr := hCc.2.2.2.2.2.1
@[irreducible] noncomputable def ss : List Str := hCc.2.2.2.2.2.2.1
@[irreducible] noncomputable def y : Str := hCc.2.2.2.2.2.2.2.1
@[irreducible] noncomputable def u : Tok := hCc.2.2.2.2.2.2.2.2.1
@[irreducible] noncomputable def Q : Bool → Shared → Prop := hCc.2.2.2.2.2.2.2.2.2
theorem hMain (hS : SetUp prog w s.heap a ss) (hy : y ∉ ss) (hb : ss.length + 1 < scanBound) (h : ∀ h', Heap.SameBut a s.heap h' → SetUp prog w h' a (ss ++ [y]) → Q true { s with heap := h' }) : wpAny (model prog w) A (setAddHashed a (.str y u) (hashStr w y)) Q E s := by
  obtain ⟨o, es, ep, t, ks, ho, hex, hd, hel, hks, hkp, hf, hpl⟩ := hS
  have hkey : (PySem.strKind prog w).is y (.str y u) = true := strKind_is prog w y u
  have hsc : (Value.str y u).scannable = true := rfl
  have hn : es.size = ss.length := by
    have h1 := hks.length
    rw [List.length_map, Array.length_toList, hkp.length_eq] at h1; exact h1
  have hbe : es.size < scanBound := by omega
  show wpAny (model prog w) A (setAddHashed a (.str y u) ((PySem.strKind prog w).hash y)) Q E s
  unfold setAddHashed setAddHashedIn
  refine wpAny_holding (wpAny_bind (wpAny_setState_of ho hd hf ?_))
  dsimp only
  rw [byScan_of hsc hbe hel]
  simp only [↓reduceIte]
  unfold setAddByScan
  refine wpAny_bind ?_
  refine wpAny_bind (wpAny_rule ?_)
  refine wpAny_bind (wpAny_setScan_of hkey ho hd hf hel ?_)
  cases hr : List.findIdx? (fun e => (PySem.strKind prog w).is y e.2) es.toList with
  | some j =>
    obtain ⟨hj, hpj, _⟩ := List.findIdx?_eq_some_iff_getElem.mp hr
    exact absurd (hkp.mem_iff.mp ((strs_mem prog w hks y).mp ⟨_, List.mem_map_of_mem (List.getElem_mem hj), hpj⟩)) hy
  | none =>
    dsimp only
    have hgw : ∀ (b : Bool) {s₁ : Shared} {Q' : Unit → Shared → Prop}, Q' () s₁ → wpAny (model prog w) A (match b with | true => rule "set.scan.the-table-gave-way" | false => pure ()) Q' E s₁ :=
      fun b s₁ Q' hq => by cases b <;> first | exact wpAny_pure hq | exact wpAny_rule hq
    have hperm := layNew_perm t es ((PySem.strKind prog w).hash y) (.str y u)
    have hfits := layNew_fits t es ((PySem.strKind prog w).hash y) (.str y u)
    generalize layNew t es ((PySem.strKind prog w).hash y) (.str y u) = Lx at hperm hfits ⊢
    obtain ⟨es1, t1, wasDummy, gave⟩ := Lx
    dsimp only at hperm hfits ⊢
    rw [Array.toList_push] at hperm
    have hel1 : ElemsOf (PySem.strKind prog w) es1.toList := (hel.push hkey hsc).perm hperm
    have hsn : StrsAre ((es.toList ++ [((PySem.strKind prog w).hash y, Value.str y u)]).map (·.2)) (ks ++ [y]) := by
      rw [List.map_append]; exact strs_snoc hks _ _
    obtain ⟨ks1, hks1, hkp1⟩ := strs_perm (hperm.map (·.2)) hsn
    have hkp2 : ks1.Perm (ss ++ [y]) := hkp1.trans (hkp.append_right _)
    have hb1' : es1.size < scanBound := by rw [← Array.length_toList, hperm.length_eq, List.length_append, Array.length_toList]; simpa [hn] using hb
    refine wpAny_bind (hgw _ ?_)
    split
    · refine wpAny_bind ?_
      rw [hashByValue_scannable 8 hsc]
      refine wpAny_pure ?_
      refine tail_plain ?_ ho hex hd hel1 hks1 hkp2 hb1' ?_ ?_ ?_
      · intro b s₁ Q' hq; cases b <;> first | exact wpAny_pure hq | exact wpAny_rule hq
      · split
        · exact hfits
        · exact SetTable.fits_plain_off hfits
      · rw [if_neg (by simp [plainKind])]
      · intro h' hsb hS'; dsimp only; exact wpAny_pure (h h' hsb hS')
    · rename_i hnp
      refine wpAny_bind (wpAny_pure ?_)
      simp only [↓reduceIte]
      refine tail_plain ?_ ho hex hd hel1 hks1 hkp2 hb1' hfits (by simpa using hnp) ?_
      · intro b s₁ Q' hq; cases b <;> first | exact wpAny_pure hq | exact wpAny_rule hq
      · intro h' hsb hS'; dsimp only; exact wpAny_pure (h h' hsb hS')
end Hset_add_new
section
variable {prog : Program} {w : World} {A : Around} {E : Value → Shared → Prop} {s : Shared}
theorem set_add_new {a : Addr} {ss : List Str} {y : Str} {u : Tok} {Q : Bool → Shared → Prop} (hS : SetUp prog w s.heap a ss) (hy : y ∉ ss) (hb : ss.length + 1 < scanBound) (h : ∀ h', Heap.SameBut a s.heap h' → SetUp prog w h' a (ss ++ [y]) → Q true { s with heap := h' }) : wpAny (model prog w) A (setAddHashed a (.str y u) (hashStr w y)) Q E s := hen Hset_add_new.hSt Hset_add_new.hNe (by with_unfolding_all exact Hset_add_new.hMain) (prog, w, A, E, s, a, ss, y, u, Q) hS hy hb h
end
section
variable {prog : Program} {w : World} {A : Around} {R : Result → Shared → Prop} {I : Addr} {fp wr : List Addr} {G : Array GenState → Array GenState → Prop} {n : Nat} {P : Nat → Value → Prop} {St : Nat → Shared → Prop}
theorem set_loop (W : WalksS prog w A.in1 I fp wr G n P St) (S : Addr) (hSf : S ∉ fp) (pre0 : List Str) (val : Nat → Str) (hval : ∀ i v, P i v → ∃ t, v = .str (val i) t) (hb : pre0.length + n + 1 < scanBound) (hnd : (pre0 ++ (List.range n).map val).Nodup) :
    ∀ (k i : Nat) (s : Shared), n - i = k → i ≤ n → St i s → SetUp prog w s.heap S (pre0 ++ (List.range i).map val) →
      (∀ s', Moved (S :: wr) G s s' → SetUp prog w s'.heap S (pre0 ++ (List.range n).map val) → R (.ok (.ret .none)) s') →
      codeAny (model prog w) A (.builtin "set.update.loop" ⟨[.ref S, .ref I], []⟩) R s := by
  have hSw : S ∉ wr := fun h => hSf (W.sub _ h)
  have hsub : ∀ b ∈ wr, b ∈ S :: wr := fun b hb => List.mem_cons_of_mem _ hb
  intro k
  induction k with
  | zero =>
    intro i s hk hi hst hS hR
    have hin : i = n := by omega
    subst hin
    refine codeAny_builtin PyProof.Rows.F.entry_set_update_loop ?_
    rw [Around.under_plainId PyProof.Rows.F.plain_set_update_loop _]
    show wpAny _ A.in1 (pyNext (.ref I) >>= _) _ _ s
    refine wpAny_bind (W.done s _ _ hst fun s' hm => ?_)
    show wpAny _ A.in1 (ret Value.none) _ _ s'
    exact wpAny_pure (hR s' (hm.mono hsub) (hS.at' fun o e => hm.heap S _ hSw e))
  | succ k ih =>
    intro i s hk hi hst hS hR
    have hlt : i < n := by omega
    refine codeAny_builtin PyProof.Rows.F.entry_set_update_loop ?_
    rw [Around.under_plainId PyProof.Rows.F.plain_set_update_loop _]
    show wpAny _ A.in1 (pyNext (.ref I) >>= _) _ _ s
    refine wpAny_bind (W.item i s _ _ hlt hst fun v s' hP hst' hm => ?_)
    obtain ⟨t, rfl⟩ := hval i v hP
    have hS' : SetUp prog w s'.heap S (pre0 ++ (List.range i).map val) := hS.at' fun o e => hm.heap S _ hSw e
    show wpAny _ A.in1 (holding [Value.str (val i) t] (setAdd S (.str (val i) t)) >>= _) _ _ s'
    refine wpAny_bind (wpAny_holding ?_)
    unfold setAdd
    refine wpAny_holding ?_
    have hks : (PySem.strKind prog w).is (val i) (.str (val i) t) = true := strKind_is prog w _ _
    refine wpAny_bind ((PySem.strKind prog w).pyHash (k := val i) hks ?_)
    have hlen : (pre0 ++ (List.range i).map val).length = pre0.length + i := by simp
    have hnew : val i ∉ pre0 ++ (List.range i).map val := fun hm => by
      have e : (List.range n).map val = (List.range i).map val ++ val i :: ((List.range' (i + 1) (n - (i + 1))).map val) := by
        have : List.range n = List.range i ++ i :: List.range' (i + 1) (n - (i + 1)) := by
          have e2 := @List.range'_append_1 0 i (n - (i + 1) + 1)
          rw [Nat.zero_add] at e2
          rw [List.range_eq_range', List.range_eq_range', ← List.range'_succ, e2]; congr 1; omega
        rw [this]; simp
      rw [e, ← List.append_assoc] at hnd
      exact (List.nodup_append.mp hnd).2.2 _ hm _ (.head _) rfl
    refine set_add_new (s := { s' with toks := s'.toks + 1 }) hS' hnew (by omega) fun h' hsb hS2 => ?_
    have hSi : SetUp prog w h' S (pre0 ++ (List.range (i + 1)).map val) := by
      rw [List.range_succ, List.map_append, ← List.append_assoc]
      exact hS2
    refine wpAny_pure ⟨plainId_quiet PyProof.Rows.F.plain_set_update_loop _, ih (i + 1) _ (by omega) hlt (W.frame _ s' _ _ hst' (Nat.le_succ _) fun b hb o e => ?_) hSi fun s'' hm'' hS'' => ?_⟩
    · rw [hsb.2 b (fun h : b = S => hSf (by rw [← h]; exact hb))]; exact e
    · refine hR s'' (Moved.trans W.gtrans ((hm.mono hsub).then_heap (Nat.le_succ _) fun b o hb e => ?_) hm'') hS''
      rw [hsb.2 b (fun h : b = S => hb (by rw [h]; exact List.mem_cons_self))]; exact e
end
theorem range_vals {ss : List Str} : (List.range ss.length).map (fun i => ss.getD i Str.empty) = ss := by
  refine List.ext_getElem (by simp) fun i h1 h2 => ?_
  simp [List.getD, h2]
theorem strs_val {vs : List Value} {ss : List Str} (h : StrsAre vs ss) (i : Nat) (v : Value) (e : vs.toArray[i]? = some v) : ∃ t, v = .str (ss.getD i Str.empty) t := by
  have e' : vs[i]? = some v := by simpa using e
  have hi : i < ss.length := by
    rcases Nat.lt_or_ge i vs.length with q | q
    · rw [← h.length]; exact q
    · rw [List.getElem?_eq_none q] at e'; cases e'
  obtain ⟨t, ht⟩ := h.get i ss[i] (by simp [hi])
  rw [e'] at ht
  exact ⟨t, by injection ht with ht; rw [ht]; simp [List.getD, hi]⟩
section
variable {prog : Program} {w : World} {A : Around} {E : Value → Shared → Prop} {s : Shared}
end
namespace Hcall_set_strs
noncomputable abbrev hTy := Program × World × Around × (Value → Shared → Prop) × Shared × Addr × List Value × List Str × (Value → Shared → Prop)
noncomputable def hSt (c : hTy) : Prop := (fun (prog : Program) (w : World) (A : Around) (E : Value → Shared → Prop) (s : Shared) (l : Addr) (vs : List Value) (ss : List Str) (Q : Value → Shared → Prop) => ∀ (hh : A.handled = none) (hl : s.heap.IsList l vs.toArray) (hi : StrsAre vs ss) (hb : ss.length + 1 < scanBound) (hnd : ss.Nodup) (h : ∀ (h' : Heap) (tk : Nat), SetUp prog w h' s.heap.objs.size ss → (∀ b o, b < s.heap.objs.size → s.heap.get? b = some o → h'.get? b = some o) → Q (.ref s.heap.objs.size) { s with heap := h', toks := tk }), (wpAny (model prog w) A (call (.type "set") [.ref l]) Q E s : Prop)) c.1 c.2.1 c.2.2.1 c.2.2.2.1 c.2.2.2.2.1 c.2.2.2.2.2.1 c.2.2.2.2.2.2.1 c.2.2.2.2.2.2.2.1 c.2.2.2.2.2.2.2.2
theorem hNe : Nonempty hTy := ⟨default, w0, {}, (fun _ => (fun _ => False)), {}, (0 : Nat), [], [], (fun _ => (fun _ => False))⟩
noncomputable def hCc : hTy := @Classical.epsilon hTy hNe fun x => ¬ hSt x
@[irreducible] noncomputable def prog : Program := hCc.1
@[irreducible] noncomputable def w : World := hCc.2.1
@[irreducible] noncomputable def A : Around := hCc.2.2.1
@[irreducible] noncomputable def E : Value → Shared → Prop := hCc.2.2.2.1
@[irreducible] noncomputable def s : Shared := hCc.2.2.2.2.1
@[irreducible] noncomputable def l : Addr := hCc.2.2.2.2.2.1
@[irreducible] noncomputable def vs : List Value := hCc.2.2.2.2.2.2.1
@[irreducible] noncomputable def ss : List Str := hCc.2.2.2.2.2.2.2.1
@[irreducible] noncomputable def Q : Value → Shared → Prop := hCc.2.2.2.2.2.2.2.2
set_option maxHeartbeats 3200000 in
theorem hMain (hh : A.handled = none) (hl : s.heap.IsList l vs.toArray) (hi : StrsAre vs ss) (hb : ss.length + 1 < scanBound) (hnd : ss.Nodup) (h : ∀ (h' : Heap) (tk : Nat), SetUp prog w h' s.heap.objs.size ss → (∀ b o, b < s.heap.objs.size → s.heap.get? b = some o → h'.get? b = some o) → Q (.ref s.heap.objs.size) { s with heap := h', toks := tk }) : wpAny (model prog w) A (call (.type "set") [.ref l]) Q E s := by
  k_with "wq" => (first | with_reducible (first | refine wpAny_pure ?_ | refine wpAny_bind ?_ | refine wpAny_call ?_ | refine wpAny_runValue ?_ | refine wpAny_run ?_) | ((with_reducible apply wpAny_ite_false); focus (rfl; done)) | ((with_reducible apply wpAny_ite_true); focus (rfl; done)) | with_reducible (first | refine wpAny_typeOf (by assumption) ?_ | refine wpAny_isInstance_val (by assumption) (by assumption) ?_ | refine wpAny_isInstance (by assumption) (by assumption) ?_) | wp_delta | wp_step)
  obtain ⟨c, tl, hmro⟩ := PySem.F.called_set.mro
  have hmade := PySem.F.called_set.made
  have hsub := PySem.F.called_set.sub
  refine wpAny_call (codeAny_of_tree ?_)
  show wpAny _ _ (callAny (.type "set") _) _ _ _
  refine wpAny_pure ⟨Code.quiet_builtin _ (by decide +kernel), codeAny_builtin PySem.F.entry_type_call ?_⟩
  rw [Around.under_plain (weight_type_call_type "set" [.ref l] []) rfl]
  have h1 := PySem.F.called_set.notType
  have h2 := PySem.F.called_set.canCreate
  have hct := PySem.F.typeCall_set_1 (.ref l)
  repeat (any_goals (first | assumption | wp_step))
  refine codeAny_mono (code_set_new_1 (.ref l) (E := E) (Q₁ := fun obj s₁ => ∃ led : Bool, obj = .ref s.heap.objs.size ∧ s₁ = { s with heap := s.heap.push { cls := .type "set", dict := none, data := .set #[] 0 (.fresh 0 0 led) } }) fun led => ⟨led, rfl, rfl⟩) fun r s₁ hr => ?_
  cases r with
  | error e => exact hr
  | ok fl =>
    cases fl with
    | ret obj =>
      obtain ⟨led, rfl, rfl⟩ := hr
      have hS : (s.heap.push { cls := .type "set", dict := none, data := .set #[] 0 (.fresh 0 0 led) }).get? s.heap.objs.size = some { cls := .type "set", dict := none, data := .set #[] 0 (.fresh 0 0 led) } := Heap.get?_push_size _ rfl
      have hT : Shared.TypeIs { s with heap := s.heap.push { cls := .type "set", dict := none, data := .set #[] 0 (.fresh 0 0 led) } } (.ref s.heap.objs.size) "set" := ⟨_, hS, rfl⟩
      have hli := PySem.F.called_set.init.lookup
      have hbi := PySem.F.called_set.init.bind (.ref s.heap.objs.size)
      repeat (any_goals (first | assumption | wp_step))
      refine codeAny_mono (codeAny_call_builtin (R := wants (fun r s₂ => r = .none ∧ ∃ h' tk, s₂ = { s with heap := h', toks := tk } ∧ SetUp prog w h' s.heap.objs.size ss ∧
          (∀ b o, b < s.heap.objs.size → s.heap.get? b = some o → h'.get? b = some o)) E) PySem.F.called_set.init.plain PySem.F.entry_set_init (check_set_init_1 hT ?_)) fun r₂ s₂ hr₂ => ?_
      · obtain ⟨ol, hol, hcl, nl, hdl⟩ := hl
        obtain ⟨ocls, odict, odata, oslots⟩ := ol
        simp only at hcl hdl
        subst hcl; subst hdl
        have hol' : (s.heap.push { cls := .type "set", dict := none, data := .set #[] 0 (.fresh 0 0 led) }).get? l = some { cls := .type "list", dict := odict, data := .seq vs.toArray nl, slots := oslots } := Heap.get?_push_of_some _ hol
        have hsls := PySem.F.sub_list_set
        have hslf := PySem.F.sub_list_frozenset
        have hne : (Value.type "list" == Value.type "dict") = false := by decide
        have hl1 : (s.heap.push { cls := .type "set", dict := none, data := .set #[] 0 (.fresh 0 0 led) }).IsList l vs.toArray := ⟨_, hol', rfl, nl, rfl⟩
        unfold Builtin.«set.__init__» noKeywords Builtin.Frozenset.updateFrom
        generalize hPI : pyIter = PI
        repeat k_extra "wq"
        subst hPI
        refine wpAny_pyIter_list hl1 ?_
        refine wpAny_bind (wpAny_runValue ?_)
        have hlS : l < s.heap.objs.size := Heap.lt_size hol
        have hh3 : A.in1.in1.in1.handled = none := by simp [hh]
        have hneI : l ≠ (s.heap.push { cls := .type "set", dict := none, data := .set #[] 0 (.fresh 0 0 led) }).objs.size := by
          rw [Heap.size_push]; exact Nat.ne_of_lt (Nat.lt_succ_of_lt hlS)
        have hSf : s.heap.objs.size ∉ [(s.heap.push { cls := .type "set", dict := none, data := .set #[] 0 (.fresh 0 0 led) }).objs.size, l] := by
          rw [Heap.size_push]; simp only [List.mem_cons, List.not_mem_nil, or_false, not_or]
          exact ⟨Nat.ne_of_lt (Nat.lt_succ_self _), Nat.ne_of_gt hlS⟩
        have hsz : vs.toArray.size = ss.length := by simp [hi.length]
        have WL := (Walks.list (prog := prog) (w := w) hh3 _ l hneI vs.toArray).toS
        rw [hsz] at WL
        refine set_loop WL s.heap.objs.size hSf [] (fun i => ss.getD i Str.empty) (fun i v hv => strs_val hi i v hv) (by simpa using hb) (by rw [List.nil_append, range_vals]; exact hnd) (ss.length - 0) 0 _ (by omega) (Nat.zero_le _)
          ⟨⟨_, Heap.get?_push_size _ rfl, rfl, rfl⟩, (hl1.push _)⟩ ?hS0 ?hR
        case hS0 =>
          have hget : ((s.heap.push { cls := .type "set", dict := none, data := .set #[] 0 (.fresh 0 0 led) }).push { cls := .type "list_iterator", data := .fields #[.ref l, .int 0 0] }).get? s.heap.objs.size
              = some { cls := .type "set", dict := none, data := .set #[] 0 (.fresh 0 0 led) } := Heap.get?_push_of_some _ hS
          exact ⟨_, #[], 0, _, [], hget, ⟨rfl, rfl, rfl⟩, rfl, (fun e he => by simp at he), .nil, (by simp), rfl, fun q => by simp at q⟩
        case hR =>
          intro s' hm hS'
          rw [List.nil_append, range_vals] at hS'
          obtain ⟨h', g', d', tk', os'⟩ := s'
          have eg : g' = s.gens := hm.gens
          have ed : d' = s.drawn := hm.drawn
          have eo : os' = s.os := hm.os
          subst eg; subst ed; subst eo
          show wpAny _ _ _ _ _ _
          refine wpAny_pure ?_
          show wpAny _ _ (ret Value.none) _ _ _
          refine wpAny_pure ⟨rfl, h', tk', rfl, hS', fun b o hb e => ?_⟩
          have hb1 : b ≠ s.heap.objs.size := Nat.ne_of_lt hb
          have hb2 : b ≠ (s.heap.push { cls := .type "set", dict := none, data := .set #[] 0 (.fresh 0 0 led) }).objs.size := by
            rw [Heap.size_push]; exact Nat.ne_of_lt (Nat.lt_succ_of_lt hb)
          exact hm.heap b o (by simp only [List.mem_cons, List.not_mem_nil, or_false, not_or]; exact ⟨hb1, hb2⟩) (Heap.get?_push_of_some _ (Heap.get?_push_of_some _ e))
      · cases r₂ with
        | error e => exact hr₂
        | ok fl₂ =>
          cases fl₂ with
          | ret r =>
            obtain ⟨rfl, h', tk, rfl, hS', hk'⟩ := hr₂
            repeat (any_goals (first | assumption | wp_step))
            exact h _ _ hS' hk'
          | _ => exact hr₂.elim
    | _ => exact hr.elim
end Hcall_set_strs
section
variable {prog : Program} {w : World} {A : Around} {E : Value → Shared → Prop} {s : Shared}
theorem call_set_strs {l : Addr} {vs : List Value} {ss : List Str} {Q : Value → Shared → Prop} (hh : A.handled = none) (hl : s.heap.IsList l vs.toArray) (hi : StrsAre vs ss) (hb : ss.length + 1 < scanBound) (hnd : ss.Nodup) (h : ∀ (h' : Heap) (tk : Nat), SetUp prog w h' s.heap.objs.size ss → (∀ b o, b < s.heap.objs.size → s.heap.get? b = some o → h'.get? b = some o) → Q (.ref s.heap.objs.size) { s with heap := h', toks := tk }) : wpAny (model prog w) A (call (.type "set") [.ref l]) Q E s := hen Hcall_set_strs.hSt Hcall_set_strs.hNe (by with_unfolding_all exact Hcall_set_strs.hMain) (prog, w, A, E, s, l, vs, ss, Q) hh hl hi hb hnd h
end
end
-- LibQ2
section
set_option maxRecDepth 100000
theorem laid_free {m i p f : Nat} (hi : i < m + 1) : SetTable.layClean.free m (Array.replicate (m + 1) none) (f + 1) i p = some i := by
  unfold SetTable.layClean.free
  have hr : 1 ≤ SetTable.runEnd m i + 1 - i := by unfold SetTable.runEnd; split <;> omega
  have e : List.range (SetTable.runEnd m i + 1 - i) = 0 :: (List.range (SetTable.runEnd m i + 1 - i - 1)).map Nat.succ := by
    obtain ⟨q, hq⟩ : ∃ q, SetTable.runEnd m i + 1 - i = q + 1 := ⟨SetTable.runEnd m i + 1 - i - 1, by omega⟩
    rw [hq, List.range_succ_eq_map]; rfl
  have h0 : ((Array.replicate (m + 1) (none : Option Nat)).getD (i + 0) (some 0)).isNone = true := by
    simp [Array.getD, hi]
  rw [e, List.find?_cons_of_pos (by exact h0)]
  rfl
theorem live_one : ∀ m ∈ [7, 15, 31], ∀ j, j < m + 1 → (List.range (m + 1)).filterMap (fun k => (((Array.replicate (m + 1) (none : Option Nat)).setIfInBounds j (some 0)).getD k none).map (k, ·)) = [(j, 0)] := by decide +kernel
theorem laid_one {m fg mv : Nat} {led pl : Bool} {x : Int} (hm : m ∈ [7, 15, 31]) : ∃ t : SetTable, SetTable.laid m fg mv led pl #[x] = some (t, #[0]) ∧ t.plain = pl ∧ t.fits 1 = true := by
  have hj : SetTable.bits x % (m + 1) < m + 1 := Nat.mod_lt _ (by omega)
  have hf : SetTable.layClean m #[x] = some ((Array.replicate (m + 1) none).setIfInBounds (SetTable.bits x % (m + 1)) (some 0)) := by
    unfold SetTable.layClean
    have h1 : SetTable.layClean.free m (Array.replicate (m + 1) none) (SetTable.turns m) (SetTable.bits x % (m + 1)) (SetTable.bits x) = some (SetTable.bits x % (m + 1)) := laid_free (f := m + 14) hj
    simp [h1]
  unfold SetTable.laid
  rw [hf]
  have hl := live_one m hm _ hj
  simp only [Option.bind_eq_bind, Option.bind_some, Option.pure_def, hl]
  refine ⟨_, rfl, rfl, ?_⟩
  simp [SetTable.fits, SetTable.fill]
  rcases List.mem_cons.mp hm with rfl | hm
  · decide
  · rcases List.mem_cons.mp hm with rfl | hm
    · decide
    · rw [List.mem_singleton.mp hm]; decide
theorem above_small : ∀ n, n ≤ 8 → SetTable.sizeAbove ((1 + n) * 2) - 1 ∈ [7, 15, 31] ∧ SetTable.sizeAbove ((1 + n) * 2) ≤ 32 := by decide +kernel
section
variable {prog : Program} {w : World} {A : Around} {E : Value → Shared → Prop} {s : Shared}
theorem room_one {S : Addr} {y : Str} {n : Nat} {Q : Unit → Shared → Prop} (hS : SetUp prog w s.heap S [y]) (hn : n ≤ 8)
    (h : ∀ h', Heap.SameBut S s.heap h' → SetUp prog w h' S [y] → Q () { s with heap := h' }) : wpAny (model prog w) A (setRoomFor S n) Q E s := by
  obtain ⟨o, es, ep, t, ks, ho, hex, hd, hel, hks, hkp, hf, hpl⟩ := id hS
  have h1 : es.size = 1 := by
    have h1 := hks.length
    rw [List.length_map, Array.length_toList, hkp.length_eq] at h1; exact h1
  have hps : t.place.size = 1 := by
    have := hf
    unfold SetTable.fits at this
    rw [h1] at this
    simp only [Bool.and_eq_true, beq_iff_eq] at this
    exact this.1
  unfold setRoomFor
  refine wpAny_bind (wpAny_setState_of ho hd hf ?_)
  dsimp only
  unfold SetTable.roomFor
  split
  · rename_i wanted hw
    split at hw
    · injection hw with hw
      rw [hps] at hw
      subst hw
      obtain ⟨a1, a2⟩ := above_small n hn
      unfold setRelay
      refine wpAny_bind (wpAny_setState_of ho hd hf ?_)
      dsimp only
      rw [if_neg (by have := sizeLine_eq; omega)]
      obtain ⟨e0, he0⟩ : ∃ e0, es = #[e0] := by
        refine ⟨es[0], ?_⟩
        apply Array.ext
        · simpa using h1
        · intro i h2 h3
          have : i = 0 := by omega
          subst this; rfl
      subst he0
      obtain ⟨t', ht', hp', hf'⟩ := laid_one (m := SetTable.sizeAbove ((1 + n) * 2) - 1) (fg := t.finger) (mv := t.movedTo (SetTable.sizeAbove ((1 + n) * 2) - 1)) (led := t.led) (pl := t.plain) (x := e0.1) a1
      have hr : t.relaid ((#[e0] : Array (Int × Value)).map (·.1)) ((1 + n) * 2) = some (t', #[0]) := by
        unfold SetTable.relaid; simpa using ht'
      rw [hr]
      refine wpAny_bind (wpAny_pure ?_)
      dsimp only
      have ho1 : (s.heap.update S (Obj.putSet #[e0] t')).get? S = some { o with data := .set #[e0] (ep + 1) t' } := by
        have := Heap.get?_update_self (Obj.putSet #[e0] t') ho (by rw [putSet_of #[e0] t' hd]; rfl)
        rw [putSet_of #[e0] t' hd] at this; exact this
      refine wpAny_storeSet_of ho hd (h _ (Heap.SameBut.update s.heap S _) ⟨_, #[e0], _, t', ks, ho1, hex, rfl, hel, hks, hkp, hf', fun q => by rw [hp']; exact hpl q⟩) ?_
      have := sizeLine_eq
      show 1 ≤ _; omega
    · cases hw
  · exact wpAny_pure (by
      have e : s = { s with heap := s.heap } := by cases s; rfl
      rw [e]; exact h _ (Heap.SameBut.refl S s.heap) hS)
theorem star_loop {S d : Addr} {o : Obj} {es : Array DictEntry} {ep : Nat} {y : Str} {kvs : List (Str × Value)} (hd : o.data = .dict es ep) (hk : KeysOf (PySem.strKind prog w) es) (hp : Pairs (PySem.strKind prog w) es.toList kvs)
    (hnd : (y :: kvs.map (·.1)).Nodup) (hn : kvs.length ≤ 8) (hSd : S ≠ d) {f : Nat → PUnit → Sem (ForInStep PUnit)}
    (hf : ∀ i (P : Shared → Prop) (s : Shared), s.heap.get? d = some o → (∀ e, es[i]? = some e → wpAny (model prog w) A (setAddHashed S e.key e.hash) (fun _ s' => s'.heap.get? d = some o ∧ P s') E s) → i < es.size → wpAny (model prog w) A (f i PUnit.unit) (fun st s' => st = .yield PUnit.unit ∧ P s') E s) :
    ∀ (r i : Nat) (s : Shared) (Q : PUnit → Shared → Prop), i + r = es.size → s.heap.get? d = some o → SetUp prog w s.heap S (y :: (kvs.take i).map (·.1)) →
      (∀ h', Heap.SameBut S s.heap h' → SetUp prog w h' S (y :: kvs.map (·.1)) → Q PUnit.unit { s with heap := h' }) →
      wpAny (model prog w) A (forIn (List.range' i r 1) PUnit.unit f) Q E s
  | 0, i, s, Q, hi, _, hS, h => by
    show wpAny _ _ (forIn ([] : List Nat) PUnit.unit f) Q E s
    rw [List.forIn_nil]
    have hl := hp.length
    rw [Array.length_toList] at hl
    rw [List.take_of_length_le (by omega)] at hS
    refine wpAny_pure ?_
    have e : s = { s with heap := s.heap } := by cases s; rfl
    rw [e]; exact h _ (Heap.SameBut.refl S s.heap) hS
  | r + 1, i, s, Q, hi, hod, hS, h => by
    have hl := hp.length
    rw [Array.length_toList] at hl
    have hik : i < kvs.length := by omega
    rw [List.range'_succ, List.forIn_cons]
    have hpi : ∀ e, es[i]? = some e → ∃ u, e.key = .str kvs[i].1 u ∧ e.hash = hashStr w kvs[i].1 := fun e he => by
      have he' : es.toList[i]? = some e := by simpa using he
      have gen : ∀ {l : List DictEntry} {k : List (Str × Value)} (_ : Pairs (PySem.strKind prog w) l k) (i : Nat) (hi : i < k.length) (e : DictEntry), l[i]? = some e → (PySem.strKind prog w).is k[i].1 e.key = true := by
        intro l k x
        induction x with
        | nil => intro i hi; simp at hi
        | cons a b c ih =>
          intro i hi e he
          cases i with
          | zero => simp at he; subst he; exact a
          | succ i => simp at he; exact ih i (by simpa using hi) e he
      have hkey := gen hp i hik e he'
      obtain ⟨u, hu⟩ := Value.isStrOf_shape hkey
      obtain ⟨k, hk1, hk2⟩ := hk e (Array.mem_of_getElem? he)
      refine ⟨u, hu, ?_⟩
      rw [hk2, (PySem.strKind prog w).inj _ _ _ hk1 hkey]; rfl
    have htk : (kvs.take (i + 1)).map (·.1) = (kvs.take i).map (·.1) ++ [kvs[i].1] := by
      rw [List.take_add_one, List.getElem?_eq_getElem hik, Option.toList_some, List.map_append]; rfl
    refine wpAny_bind (wpAny_mono (hf i (fun s' => wpAny (model prog w) A (forIn (List.range' (i + 1) r 1) PUnit.unit f) Q E s') s hod (fun e he => ?_) (by omega)) (fun st s' hst => ?_) fun _ _ x => x)
    · obtain ⟨u, e1, e2⟩ := hpi e he
      rw [e1, e2]
      have hnew : kvs[i].1 ∉ y :: (kvs.take i).map (·.1) := fun hm => by
        have e3 : y :: kvs.map (·.1) = (y :: (kvs.take i).map (·.1)) ++ kvs[i].1 :: (kvs.drop (i + 1)).map (·.1) := by
          have : (kvs.take i).map (·.1) ++ kvs[i].1 :: (kvs.drop (i + 1)).map (·.1) = kvs.map (·.1) := by
            rw [← List.map_cons (f := fun q : Str × Value => q.1), ← List.map_append, ← List.drop_eq_getElem_cons hik, List.take_append_drop]
          rw [List.cons_append, this]
        rw [e3] at hnd
        exact (List.nodup_append.mp hnd).2.2 _ hm _ (.head _) rfl
      refine set_add_new hS hnew (by simp [scanBound]; omega) fun h' hsb hS2 => ?_
      have hod' : h'.get? d = some o := (hsb.2 d (Ne.symm hSd)).trans hod
      refine ⟨hod', star_loop hd hk hp hnd hn hSd hf r (i + 1) _ Q (by omega) hod' (by rw [htk, ← List.cons_append]; exact hS2) fun h2 hsb2 hS3 => h h2 (hsb.trans hsb2) hS3⟩
    · obtain ⟨rfl, hq⟩ := hst
      exact hq
end
namespace Hstar_dict
noncomputable abbrev hTy := Program × World × Around × (Value → Shared → Prop) × Shared × Addr × Addr × Str × (List (Str × Value)) × (Unit → Shared → Prop)
noncomputable def hSt (c : hTy) : Prop := (fun (prog : Program) (w : World) (A : Around) (E : Value → Shared → Prop) (s : Shared) (S : Addr) (d : Addr) (y : Str) (kvs : List (Str × Value)) (Q : Unit → Shared → Prop) => ∀ (hh : A.handled = none) (hd : s.heap.DictOf (PySem.strKind prog w) d kvs) (hdm : (d == sysModules) = false) (hS : SetUp prog w s.heap S [y]) (hSd : S ≠ d) (hnd : (y :: kvs.map (·.1)).Nodup) (hn : kvs.length ≤ 8) (h : ∀ h' tk, (∀ b o, b ≠ S → s.heap.get? b = some o → h'.get? b = some o) → SetUp prog w h' S (y :: kvs.map (·.1)) → Q () { s with heap := h', toks := tk }), (wpAny (model prog w) A (setDisplayStar S (.ref d)) Q E s : Prop)) c.1 c.2.1 c.2.2.1 c.2.2.2.1 c.2.2.2.2.1 c.2.2.2.2.2.1 c.2.2.2.2.2.2.1 c.2.2.2.2.2.2.2.1 c.2.2.2.2.2.2.2.2.1 c.2.2.2.2.2.2.2.2.2
theorem hNe : Nonempty hTy := ⟨default, w0, {}, (fun _ => (fun _ => False)), {}, (0 : Nat), (0 : Nat), Str.empty, [], (fun _ => (fun _ => False))⟩
noncomputable def hCc : hTy := @Classical.epsilon hTy hNe fun x => ¬ hSt x
@[irreducible] noncomputable def prog : Program := hCc.1
@[irreducible] noncomputable def w : World := hCc.2.1
@[irreducible] noncomputable def A : Around := hCc.2.2.1
@[irreducible] noncomputable def E : Value → Shared → Prop := hCc.2.2.2.1
@[irreducible] noncomputable def s : Shared := hCc.2.2.2.2.1
@[irreducible] noncomputable def S : Addr := hCc.2.2.2.2.2.1
@[irreducible] noncomputable def d : Addr := hCc.2.2.2.2.2.2.1
@[irreducible] noncomputable def y : Str := hCc.2.2.2.2.2.2.2.1
@[irreducible] noncomputable def kvs : List (Str × Value) := hCc.2.2.2.2.2.2.2.2.1
@[irreducible] noncomputable def Q : Unit → Shared → Prop := hCc.2.2.2.2.2.2.2.2.2
theorem hMain (hh : A.handled = none) (hd : s.heap.DictOf (PySem.strKind prog w) d kvs) (hdm : (d == sysModules) = false) (hS : SetUp prog w s.heap S [y]) (hSd : S ≠ d) (hnd : (y :: kvs.map (·.1)).Nodup) (hn : kvs.length ≤ 8) (h : ∀ h' tk, (∀ b o, b ≠ S → s.heap.get? b = some o → h'.get? b = some o) → SetUp prog w h' S (y :: kvs.map (·.1)) → Q () { s with heap := h', toks := tk }) : wpAny (model prog w) A (setDisplayStar S (.ref d)) Q E s := by
  obtain ⟨o, es, ep, ho, hex, hdat, hkeys, hpairs, hnodup⟩ := id hd
  have hT : s.TypeIs (.ref d) "dict" := ⟨o, ho, hex.1⟩
  have hl := hpairs.length
  rw [Array.length_toList] at hl
  obtain ⟨oS, _, _, _, _, hoS, _⟩ := id hS
  unfold setDisplayStar
  refine wpAny_bind (wpAny_isInstance hT PySem.F.sub_dict_set ?_)
  simp only [Bool.false_eq_true, if_false]
  refine wpAny_bind (wpAny_isInstance hT PySem.F.sub_dict_frozenset ?_)
  refine wpAny_bind (wpAny_askSetting ?_)
  dsimp only
  cases hb : (model prog w).w.params.followText "set-display-star-reads-storage" with
  | true =>
    simp only [if_true]
    refine wpAny_bind (wpAny_pyIter_dict (ep := ep) hdm ⟨o, es, ho, hex, hdat, hkeys, hpairs, hnodup⟩ ?_)
    have hne : d ≠ s.heap.objs.size := Nat.ne_of_lt (Heap.lt_size ho)
    have hSI : S ≠ s.heap.objs.size := Nat.ne_of_lt (Heap.lt_size hoS)
    have WD := (Walks.dictKeys (prog := prog) (w := w) (knd := PySem.strKind prog w) (A := A.in1) (by simp [hh]) s.heap.objs.size d hne kvs ep).toS
    refine wpAny_bind (wpAny_runValue ?_)
    refine set_loop WD S (by simp only [List.mem_cons, List.not_mem_nil, or_false, not_or]; exact ⟨hSI, hSd⟩) [y] (fun i => (kvs.getD i (Str.empty, Value.none)).1) (fun i v hv => ?_) (by simp [scanBound]; omega) ?_ (kvs.length - 0) 0 _ (by omega) (Nat.zero_le _) ?_ ?_ ?_
    · obtain ⟨k, x, e1, e2⟩ := hv
      obtain ⟨u, rfl⟩ := Value.isStrOf_shape e2
      exact ⟨u, by simp [List.getD, e1]⟩
    · have : (List.range kvs.length).map (fun i => (kvs.getD i (Str.empty, Value.none)).1) = kvs.map (·.1) := List.ext_getElem (by simp) fun i h1 h2 => by simp at h1; simp [List.getD, h1]
      rw [this]; exact hnd
    · refine ⟨⟨_, Heap.get?_push_size _ rfl, rfl, rfl⟩, ⟨o, es, Heap.get?_push_of_some _ ho, hex, hdat, hkeys, hpairs, hnodup⟩⟩
    · simpa using hS.at' fun o e => Heap.get?_push_of_some _ e
    · intro s' hm hS'
      have : (List.range kvs.length).map (fun i => (kvs.getD i (Str.empty, Value.none)).1) = kvs.map (·.1) := List.ext_getElem (by simp) fun i h1 h2 => by simp at h1; simp [List.getD, h1]
      rw [this] at hS'
      obtain ⟨h', g', d', tk', os'⟩ := s'
      have eg : g' = s.gens := hm.gens
      have ed : d' = s.drawn := hm.drawn
      have eo : os' = s.os := hm.os
      subst eg; subst ed; subst eo
      show wpAny _ _ _ _ _ _
      refine wpAny_pure (h h' tk' (fun b o hb e => hm.heap b o ?_ (Heap.get?_push_of_some _ e)) hS')
      simp only [List.mem_cons, List.not_mem_nil, or_false, not_or]
      exact ⟨hb, Nat.ne_of_lt (Heap.lt_size e)⟩
  | false =>
    simp only [Bool.false_eq_true, if_false]
    refine wpAny_bind (wpAny_typeOf hT ?_)
    rw [if_pos (by rfl)]
    refine wpAny_bind (wpAny_rule ?_)
    rw [hdm]
    simp only [Bool.false_eq_true, if_false]
    refine wpAny_bind (wpAny_dictEpoch ho hdat ?_)
    refine wpAny_bind (wpAny_dictEntries ho hdat ?_)
    refine wpAny_bind (room_one hS (by omega) fun h1 hsb1 hS1 => ?_)
    have ho1 : h1.get? d = some o := (hsb1.2 d (Ne.symm hSd)).trans ho
    rw [Std.Legacy.Range.forIn_eq_forIn_range']
    have hsz : ([:es.size] : Std.Legacy.Range).size = es.size := by simp [Std.Legacy.Range.size]
    show wpAny _ _ (forIn (List.range' 0 ([:es.size] : Std.Legacy.Range).size 1) PUnit.unit _ >>= _) _ _ _
    rw [hsz]
    refine wpAny_bind (star_loop (s := { s with heap := h1 }) hdat hkeys hpairs hnd hn hSd (fun i P s₂ hod hP hi => ?_) es.size 0 _ (by omega) ho1 (by simpa using hS1) fun h2 hsb2 hS2 => ?_)
    · refine wpAny_bind (wpAny_dictEntries hod hdat ?_)
      have he : es[i]? = some es[i] := by simp [hi]
      rw [he]
      dsimp only
      refine wpAny_bind (wpAny_holding (wpAny_bind (wpAny_mono (hP _ he) (fun _ s3 h3 => ?_) fun _ _ x => x)))
      obtain ⟨hod3, hP3⟩ := h3
      refine wpAny_pure ?_
      refine wpAny_bind (wpAny_dictEpoch hod3 hdat ?_)
      simp only [bne_self_eq_false, Bool.false_eq_true, if_false]
      first | exact wpAny_pure ⟨rfl, hP3⟩ | exact wpAny_bind (wpAny_pure (wpAny_pure ⟨rfl, hP3⟩))
    · refine wpAny_pure ?_
      exact h h2 s.toks (fun b o hb e => (hsb2.2 b hb).trans ((hsb1.2 b hb).trans e)) hS2
end Hstar_dict
section
variable {prog : Program} {w : World} {A : Around} {E : Value → Shared → Prop} {s : Shared}
theorem star_dict {S d : Addr} {y : Str} {kvs : List (Str × Value)} {Q : Unit → Shared → Prop} (hh : A.handled = none) (hd : s.heap.DictOf (PySem.strKind prog w) d kvs) (hdm : (d == sysModules) = false) (hS : SetUp prog w s.heap S [y]) (hSd : S ≠ d) (hnd : (y :: kvs.map (·.1)).Nodup) (hn : kvs.length ≤ 8) (h : ∀ h' tk, (∀ b o, b ≠ S → s.heap.get? b = some o → h'.get? b = some o) → SetUp prog w h' S (y :: kvs.map (·.1)) → Q () { s with heap := h', toks := tk }) : wpAny (model prog w) A (setDisplayStar S (.ref d)) Q E s := hen Hstar_dict.hSt Hstar_dict.hNe (by with_unfolding_all exact Hstar_dict.hMain) (prog, w, A, E, s, S, d, y, kvs, Q) hh hd hdm hS hSd hnd hn h
end
end
-- LibQ3
section
set_option maxRecDepth 100000
noncomputable abbrev freshSet (led : Bool) : Obj := { cls := .type "set", dict := none, data := .set #[] 0 (.fresh 0 0 led) }
theorem setUp_fresh {prog : Program} {w : World} {h : Heap} {a : Addr} {led : Bool} (hg : h.get? a = some (freshSet led)) : SetUp prog w h a [] :=
  ⟨_, #[], 0, _, [], hg, ⟨rfl, rfl, rfl⟩, rfl, (fun e he => by simp at he), .nil, .refl _, rfl, fun q => by simp at q⟩
section
variable {prog : Program} {w : World} {A : Around} {E : Value → Shared → Prop} {s : Shared} {h₀ : Heap} {L : Addr} {m : Str → Option Value} {news : List (Addr × Obj)} {env : Env}
noncomputable def StarB (prog : Program) (w : World) (h₀ : Heap) (L : Addr) (m : Str → Option Value) (news : List (Addr × Obj)) (s : Shared) (D : Addr) (o2 : Obj) (y : Str) (Q : Value → Shared → Prop) (v2 : Value) (s2 : Shared) : Prop :=
  ∃ d kvs h3 tk3, v2 = .ref d ∧ s2 = { s with heap := h3, toks := tk3 } ∧ Fr h₀ L h3 m ∧ News h₀ L h3 ((D, o2) :: news) ∧ h3.DictOf (PySem.strKind prog w) d kvs ∧ (d == sysModules) = false ∧ @Ne Nat D d ∧ (y :: kvs.map (·.1)).Nodup ∧ kvs.length ≤ 8 ∧
    ∀ h4 tk4 o4, Fr h₀ L h4 m → News h₀ L h4 ((D, o4) :: news) → SetUp prog w h4 D (y :: kvs.map (·.1)) → Q (.ref D) { s with heap := h4, toks := tk4 }
noncomputable def StarA (prog : Program) (w : World) (A : Around) (E : Value → Shared → Prop) (env : Env) (e2 : Expr) (h₀ : Heap) (L : Addr) (m : Str → Option Value) (news : List (Addr × Obj)) (s : Shared) (D : Addr) (led : Bool) (Q : Value → Shared → Prop) (v1 : Value) (s1 : Shared) : Prop :=
  ∃ y u h1 tk1, v1 = .str y u ∧ s1 = { s with heap := h1, toks := tk1 } ∧ Fr h₀ L h1 m ∧ News h₀ L h1 ((D, freshSet led) :: news) ∧
    ∀ h2 tk2 o2, Fr h₀ L h2 m → News h₀ L h2 ((D, o2) :: news) → SetUp prog w h2 D [y] → wpAny (model prog w) A (eval e2 env) (fun v2 s2 => StarB prog w h₀ L m news s D o2 y Q v2 s2) E { s with heap := h2, toks := tk2 }
end
namespace Heval_set_star
noncomputable abbrev hTy := Program × World × Around × (Value → Shared → Prop) × Shared × Heap × Addr × (Str → Option Value) × (List (Addr × Obj)) × Env × Frag × Str × Str × Pos × Pos × Pos × Pos × (Value → Shared → Prop)
noncomputable def hSt (c : hTy) : Prop := (fun (prog : Program) (w : World) (A : Around) (E : Value → Shared → Prop) (s : Shared) (h₀ : Heap) (L : Addr) (m : Str → Option Value) (news : List (Addr × Obj)) (env : Env) (K : Frag) (x1 : Str) (x2 : Str) (q1 : Pos) (q2 : Pos) (p1 : Pos) (pos : Pos) (Q : Value → Shared → Prop) => ∀ (hh : A.handled = none) (F : Fr h₀ L s.heap m) (N : News h₀ L s.heap news) (X : K.In h₀) (hc : kdsCode K env.code = true) (h : ∀ D h' (led : Bool), Fr h₀ L h' m → News h₀ L h' ((D, freshSet led) :: news) → (∀ p ∈ news, p.1 < D) →
      wpAny (model prog w) A (eval (.Name x1 q1) env) (fun v1 s1 => StarA prog w A E env (.Name x2 q2) h₀ L m news s D led Q v1 s1) E { s with heap := h' }), (wpAny (model prog w) A (eval (.Set [.Name x1 q1, .Starred (.Name x2 q2) p1] 0 pos) env) Q E s : Prop)) c.1 c.2.1 c.2.2.1 c.2.2.2.1 c.2.2.2.2.1 c.2.2.2.2.2.1 c.2.2.2.2.2.2.1 c.2.2.2.2.2.2.2.1 c.2.2.2.2.2.2.2.2.1 c.2.2.2.2.2.2.2.2.2.1 c.2.2.2.2.2.2.2.2.2.2.1 c.2.2.2.2.2.2.2.2.2.2.2.1 c.2.2.2.2.2.2.2.2.2.2.2.2.1 c.2.2.2.2.2.2.2.2.2.2.2.2.2.1 c.2.2.2.2.2.2.2.2.2.2.2.2.2.2.1 c.2.2.2.2.2.2.2.2.2.2.2.2.2.2.2.1 c.2.2.2.2.2.2.2.2.2.2.2.2.2.2.2.2.1 c.2.2.2.2.2.2.2.2.2.2.2.2.2.2.2.2.2
theorem hNe : Nonempty hTy := ⟨default, w0, {}, (fun _ => (fun _ => False)), {}, default, (0 : Nat), (fun _ => none), [], default, [], Str.empty, Str.empty, default, default, default, default, (fun _ => (fun _ => False))⟩
noncomputable def hCc : hTy := @Classical.epsilon hTy hNe fun x => ¬ hSt x
@[irreducible] noncomputable def prog : Program := hCc.1
@[irreducible] noncomputable def w : World := hCc.2.1
@[irreducible] noncomputable def A : Around := hCc.2.2.1
@[irreducible] noncomputable def E : Value → Shared → Prop := hCc.2.2.2.1
@[irreducible] noncomputable def s : Shared := hCc.2.2.2.2.1
@[irreducible] noncomputable def h₀ : Heap := hCc.2.2.2.2.2.1
@[irreducible] noncomputable def L : Addr := hCc.2.2.2.2.2.2.1
@[irreducible] noncomputable def m : Str → Option Value := hCc.2.2.2.2.2.2.2.1
@[irreducible] noncomputable def news : List (Addr × Obj) := hCc.2.2.2.2.2.2.2.2.1
@[irreducible] noncomputable def env : Env := hCc.2.2.2.2.2.2.2.2.2.1
@[irreducible] noncomputable def K : Frag := hCc.2.2.2.2.2.2.2.2.2.2.1
@[irreducible] noncomputable def x1 : Str := hCc.2.2.2.2.2.2.2.2.2.2.2.1
@[irreducible] noncomputable def x2 : Str := hCc.2.2.2.2.2.2.2.2.2.2.2.2.1
@[irreducible] noncomputable def q1 : Pos := hCc.2.2.2.2.2.2.2.2.2.2.2.2.2.1
@[irreducible] noncomputable def q2 : Pos := hCc.2.2.2.2.2.2.2.2.2.2.2.2.2.2.1
@[irreducible] noncomputable def p1 : Pos := hCc.2.2.2.2.2.2.2.2.2.2.2.2.2.2.2.1
@[irreducible] noncomputable def pos : Pos := hCc.2.2.2.2.2.2.2.2.2.2.2.2.2.2.2.2.1
@[irreducible] noncomputable def Q : Value → Shared → Prop := hCc.2.2.2.2.2.2.2.2.2.2.2.2.2.2.2.2.2
theorem hMain (hh : A.handled = none) (F : Fr h₀ L s.heap m) (N : News h₀ L s.heap news) (X : K.In h₀) (hc : kdsCode K env.code = true) (h : ∀ D h' (led : Bool), Fr h₀ L h' m → News h₀ L h' ((D, freshSet led) :: news) → (∀ p ∈ news, p.1 < D) →
      wpAny (model prog w) A (eval (.Name x1 q1) env) (fun v1 s1 => StarA prog w A E env (.Name x2 q2) h₀ L m news s D led Q v1 s1) E { s with heap := h' }) : wpAny (model prog w) A (eval (.Set [.Name x1 q1, .Starred (.Name x2 q2) p1] 0 pos) env) Q E s := by
  rw [arm_eval_Set]
  refine wpAny_bind (wpAny_standAt ?_)
  refine wpAny_bind (kds_main (X.keeps F.keep) hc fun b => ?_)
  show wpAny (model prog w) A (setDisplay DisplayRoad.oneByOne b [(false, do let v ← eval (.Name x1 q1) env; standAt pos; pure v), (true, do let v ← eval (.Name x2 q2) env; standAt pos; pure v)]) Q E s
  unfold setDisplay
  try dsimp only
  rw [if_neg (by decide)]
  refine wpAny_bind (wpAny_newSet_of (knd := PySem.intKind prog w) fun led _ => ?_)
  dsimp only
  have hlt : ∀ p ∈ news, p.1 < s.heap.objs.size := fun p hp => Heap.lt_size (N p hp).1
  have h1 := h s.heap.objs.size (s.heap.push (freshSet led)) led (F.push _) (News.push F N _ rfl) hlt
  show wpAny _ _ (holding [Value.ref s.heap.objs.size] (evalAll [do let v ← eval (.Name x1 q1) env; standAt pos; pure v] >>= fun first => _) >>= _) _ _ _
  refine wpAny_bind (wpAny_holding ?_)
  refine wpAny_bind ?_
  show wpAny _ _ ((eval (.Name x1 q1) env >>= fun v => standAt pos >>= fun _ => pure v) >>= fun v => holding [v] (evalAll []) >>= fun r => pure (v :: r)) _ _ _
  refine wpAny_bind (wpAny_bind (wpAny_mono h1 (fun v1 s1 hA => ?_) fun _ _ x => x))
  obtain ⟨y, u, g1, tk1, rfl, rfl, F1, N1, hA2⟩ := hA
  refine wpAny_bind (wpAny_standAt (wpAny_pure ?_))
  refine wpAny_bind (wpAny_holding (wpAny_pure (wpAny_pure ?_)))
  refine wpAny_bind (wpAny_holding ?_)
  rw [List.forIn_cons]
  have hD1 := N1 _ (.head _)
  have hlt' : ∀ p ∈ news, @Ne Nat p.1 s.heap.objs.size := fun p hp => Nat.ne_of_lt (hlt p hp)
  refine wpAny_bind (wpAny_bind (wpAny_bind ?_))
  unfold setAdd
  refine wpAny_holding (wpAny_bind ((PySem.strKind prog w).pyHash (k := y) (strKind_is prog w y u) ?_))
  refine set_add_new (s := { s with heap := g1, toks := tk1 + 1 }) (setUp_fresh hD1.1) (by simp) (by simp [scanBound]) fun g2 hsb hS2 => ?_
  have F2 : Fr h₀ L g2 m := F1.change hsb hD1.2.1 hD1.2.2
  obtain ⟨o2, hg2⟩ : ∃ o2, g2.get? s.heap.objs.size = some o2 := by
    obtain ⟨o, _, _, _, _, ho, _⟩ := hS2; exact ⟨o, ho⟩
  have N2 : News h₀ L g2 ((s.heap.objs.size, o2) :: news) := fun p hp => by
    rcases List.mem_cons.mp hp with rfl | hp
    · exact ⟨hg2, hD1.2⟩
    · have := N1 p (.tail _ hp)
      exact ⟨(hsb.2 _ (hlt' p hp)).trans this.1, this.2⟩
  refine wpAny_pure ?_
  dsimp only
  rw [List.forIn_nil]
  refine wpAny_pure ?_
  rw [if_neg (by decide)]
  refine wpAny_pure ?_
  show wpAny _ _ (forIn [(true, do let v ← eval (.Name x2 q2) env; standAt pos; pure v)] PUnit.unit _ >>= _) _ _ _
  rw [List.forIn_cons]
  refine wpAny_bind (wpAny_bind ?_)
  dsimp only
  refine wpAny_bind (wpAny_bind (wpAny_mono (hA2 g2 (tk1 + 1) o2 F2 N2 (by simpa using hS2)) (fun v2 s2 hB => ?_) fun _ _ x => x))
  obtain ⟨d, kvs, g3, tk3, rfl, rfl, F3, N3, hd, hdm, hDd, hnd, hn8, hQ⟩ := hB
  refine wpAny_bind (wpAny_standAt (wpAny_pure ?_))
  simp only [if_true]
  have hD3 := N3 _ (.head _)
  have hS3 : SetUp prog w g3 s.heap.objs.size [y] := by
    have : SetUp prog w g2 s.heap.objs.size [y] := by simpa using hS2
    refine this.at' fun o e => ?_
    rw [hg2] at e; cases e; exact hD3.1
  refine wpAny_bind (wpAny_holding (star_dict (s := { s with heap := g3, toks := tk3 }) hh hd hdm hS3 hDd hnd hn8 fun g4 tk4 hk4 hS4 => ?_))
  obtain ⟨o4, hg4⟩ : ∃ o4, g4.get? s.heap.objs.size = some o4 := by
    obtain ⟨o, _, _, _, _, ho, _⟩ := hS4; exact ⟨o, ho⟩
  have F4 : Fr h₀ L g4 m := ⟨F3.ns.at' fun o e => hk4 L o hD3.2.1.symm e, fun b o e => hk4 b o (fun q => by rw [q, hD3.2.2] at e; cases e) (F3.keep b o e), F3.above⟩
  have N4 : News h₀ L g4 ((s.heap.objs.size, o4) :: news) := fun p hp => by
    rcases List.mem_cons.mp hp with rfl | hp
    · exact ⟨hg4, hD3.2⟩
    · have := N3 p (.tail _ hp)
      exact ⟨hk4 _ _ (hlt' p hp) this.1, this.2⟩
  have fin := hQ g4 tk4 o4 F4 N4 hS4
  refine wpAny_pure ?_
  dsimp only
  rw [List.forIn_nil]
  first
    | exact wpAny_pure (wpAny_pure fin)
    | exact wpAny_pure fin
    | exact wpAny_pure (wpAny_pure (wpAny_pure fin))
    | trace_state
end Heval_set_star
section
variable {prog : Program} {w : World} {A : Around} {E : Value → Shared → Prop} {s : Shared} {h₀ : Heap} {L : Addr} {m : Str → Option Value} {news : List (Addr × Obj)} {env : Env}
theorem eval_set_star {K : Frag} {x1 x2 : Str} {q1 q2 p1 pos : Pos} {Q : Value → Shared → Prop} (hh : A.handled = none) (F : Fr h₀ L s.heap m) (N : News h₀ L s.heap news) (X : K.In h₀) (hc : kdsCode K env.code = true) (h : ∀ D h' (led : Bool), Fr h₀ L h' m → News h₀ L h' ((D, freshSet led) :: news) → (∀ p ∈ news, p.1 < D) →
      wpAny (model prog w) A (eval (.Name x1 q1) env) (fun v1 s1 => StarA prog w A E env (.Name x2 q2) h₀ L m news s D led Q v1 s1) E { s with heap := h' }) : wpAny (model prog w) A (eval (.Set [.Name x1 q1, .Starred (.Name x2 q2) p1] 0 pos) env) Q E s := hen Heval_set_star.hSt Heval_set_star.hNe (by with_unfolding_all exact Heval_set_star.hMain) (prog, w, A, E, s, h₀, L, m, news, env, K, x1, x2, q1, q2, p1, pos, Q) hh F N X hc h
end
end
-- LibQ4
section
set_option maxRecDepth 100000
theorem owner_set_iterator : Manifest.owners.lookup (String.ofList ['r', 'o', 't', 'a', 'r', 'e', 't', 'i', '_', 't', 'e', 's'].reverse) = some Manifest.sig_set_iterator := by kernel_rfl
theorem slot_set_iterator_next : Slot "set_iterator" "__next__" "set_iterator.__next__" :=
  .of (owner := "set_iterator") (n := "__next__") (by rw [typeLookup_type, builtinLookup_eq_fast]; kernel_rfl) (by decide +kernel) (by decide +kernel) (by decide +kernel)
    (by first | exact .inl (by decide +kernel) | exact .inr (by decide +kernel)) (by rw [isSubtype_type]; kernel_rfl)
theorem entry_set_iterator_next : entryFor table "set_iterator.__next__" = some Builtin.«set_iterator.__next__» := entryFor_of_tree (by kernel_rfl)
theorem args_set_iterator_next_1 (a : Value) : argsOk "set_iterator.__next__" ⟨[a], []⟩ := by
  unfold argsOk; rw [signature?_of (id := "set_iterator.__next__") (n := ['_', '_', 't', 'x', 'e', 'n', '_', '_']) (o := ['r', 'o', 't', 'a', 'r', 'e', 't', 'i', '_', 't', 'e', 's']) (by kernel_rfl) owner_set_iterator]; kernel_rfl
theorem slot_set_iterator_iter : Slot "set_iterator" "__iter__" "set_iterator.__iter__" :=
  .of (owner := "set_iterator") (n := "__iter__") (by rw [typeLookup_type, builtinLookup_eq_fast]; kernel_rfl) (by decide +kernel) (by decide +kernel) (by decide +kernel)
    (by first | exact .inl (by decide +kernel) | exact .inr (by decide +kernel)) (by rw [isSubtype_type]; kernel_rfl)
theorem entry_set_iterator_iter : entryFor table "set_iterator.__iter__" = some Builtin.«dict_keyiterator.__iter__» :=
  entryFor_alias (id' := "dict_keyiterator.__iter__") (by kernel_rfl) rfl (by decide +kernel) (by kernel_rfl)
theorem args_set_iterator_iter_1 (a : Value) : argsOk "set_iterator.__iter__" ⟨[a], []⟩ := by
  unfold argsOk; rw [signature?_of (id := "set_iterator.__iter__") (n := ['_', '_', 'r', 'e', 't', 'i', '_', '_']) (o := ['r', 'o', 't', 'a', 'r', 'e', 't', 'i', '_', 't', 'e', 's']) (by kernel_rfl) owner_set_iterator]; kernel_rfl
theorem entry_set_iter : entryFor table "set.__iter__" = some Builtin.«frozenset.__iter__» :=
  entryFor_alias (id' := "frozenset.__iter__") (by kernel_rfl) rfl (by decide +kernel) (by kernel_rfl)
theorem entry_set_len : entryFor table "set.__len__" = some Builtin.«frozenset.__len__» :=
  entryFor_alias (id' := "frozenset.__len__") (by kernel_rfl) rfl (by decide +kernel) (by kernel_rfl)
section
variable {prog : Program} {w : World} {A : Around} {E : Value → Shared → Prop} {s : Shared}
theorem wpAny_choose {M : Model} {src : Source} {n : Nat} {Q : Nat → Shared → Prop} (hn : n ≠ 0) (h : ∀ k d, k < n → Q k { s with drawn := d }) : wpAny M A (choose src n) Q E s := fun Γ p _ =>
  ⟨hn, h _ _ (Nat.mod_lt _ (Nat.pos_of_ne_zero hn))⟩
theorem draw_order {α : Type} : ∀ (n : Nat) (xs : List α) (s : Shared) (Q : List α → Shared → Prop), xs.length = n → (∀ ys d, ys.Perm xs → Q ys { s with drawn := d }) → wpAny (model prog w) A (drawOrder n xs) Q E s
  | 0, xs, s, Q, hl, h => by
    rw [List.length_eq_zero_iff.mp hl] at h ⊢
    unfold drawOrder
    refine wpAny_pure ?_
    exact h [] s.drawn (.refl _)
  | n + 1, [], s, Q, hl, h => by simp at hl
  | n + 1, x :: xs, s, Q, hl, h => by
    unfold drawOrder
    refine wpAny_bind (wpAny_choose (by simp) fun k d hk => ?_)
    have hk' : k < (x :: xs).length := hk
    rw [List.getElem?_eq_getElem hk']
    dsimp only
    refine wpAny_bind (draw_order n ((x :: xs).eraseIdx k) { s with drawn := d } _ (by rw [List.length_eraseIdx_of_lt hk']; simp at hl ⊢; omega) fun ys d2 hp => ?_)
    refine wpAny_pure (h _ d2 ?_)
    have e : (x :: xs).Perm ((x :: xs)[k] :: (x :: xs).eraseIdx k) := by
      have hl2 : x :: xs = (x :: xs).take k ++ (x :: xs)[k] :: (x :: xs).drop (k + 1) := by rw [← List.drop_eq_getElem_cons hk', List.take_append_drop]
      rw [List.eraseIdx_eq_take_drop_succ]
      exact (List.Perm.of_eq hl2).trans List.perm_middle
    exact (hp.cons _).trans e.symm
theorem pick_go {α : Type} (next : Nat → Nat) : ∀ (f k : Nat) (l : List α) (out : Array α), l.length = f → (pickOrder.go next f k l out).toList.Perm (out.toList ++ l)
  | 0, k, l, out, h => by
    rw [List.length_eq_zero_iff.mp h, List.append_nil]
    unfold pickOrder.go
    exact .refl _
  | f + 1, k, l, out, h => by
    unfold pickOrder.go
    have hk : next k % l.length < l.length := Nat.mod_lt _ (by omega)
    rw [List.getElem?_eq_getElem hk]
    dsimp only
    refine (pick_go next f (k + 1) _ _ (by rw [List.length_eraseIdx_of_lt hk]; omega)).trans ?_
    rw [Array.toList_push, List.append_assoc]
    refine List.Perm.append_left _ ?_
    have hl2 : l = l.take (next k % l.length) ++ l[next k % l.length] :: l.drop (next k % l.length + 1) := by rw [← List.drop_eq_getElem_cons hk, List.take_append_drop]
    rw [List.eraseIdx_eq_take_drop_succ]
    exact ((List.Perm.of_eq hl2).trans List.perm_middle).symm
theorem pick_perm {α : Type} (next : Nat → Nat) (xs : Array α) : (pickOrder next xs).toList.Perm xs.toList := by
  have := pick_go next xs.size 0 xs.toList #[] (by simp)
  simpa [pickOrder] using this
/-- a set's iterator -/
noncomputable def IsSetIter (h : Heap) (I : Addr) (first : Value) (i : Nat) (S : Addr) (n ep : Nat) : Prop :=
  ∃ o, h.get? I = some o ∧ o.cls = .type "set_iterator" ∧ o.data = .fields #[first, rawInt (i : Int), .ref S, rawInt (n : Int), rawInt (ep : Int)]
theorem IsSetIter.at' {h h' : Heap} {I S : Addr} {first : Value} {i n ep : Nat} (x : IsSetIter h I first i S n ep) (e : ∀ o, h.get? I = some o → h'.get? I = some o) : IsSetIter h' I first i S n ep :=
  let ⟨o, ho, r⟩ := x; ⟨o, e _ ho, r⟩
end
end
-- LibQ5
section
set_option maxRecDepth 100000
section
variable {prog : Program} {w : World} {A : Around} {E : Value → Shared → Prop} {s : Shared}
theorem next_item {I S T : Addr} {i n ep : Nat} {oS oT : Obj} {es : Array (Int × Value)} {tb : SetTable} {places : Array Value} {m : Nat} {p : Nat} {h1 : Int} {x : Value} {Q : Option Value → Shared → Prop}
    (hit : IsSetIter s.heap I (.ref T) i S n ep) (hS : s.heap.get? S = some oS) (hd : oS.data = .set es ep tb) (hf : tb.fits es.size = true) (hn : es.size = n) (hT : s.heap.get? T = some oT) (hdT : oT.data = .seq places m)
    (hp : places[i]? = some (rawInt (p : Int))) (hx : es[p]? = some (h1, x))
    (hQ : ∀ h', IsSetIter h' I (.ref T) (i + 1) S n ep → Heap.SameBut I s.heap h' → Q (some x) { s with heap := h' }) : wpAny (model prog w) A (pyNext (.ref I)) Q E s := by
  obtain ⟨o, ho, hc, hdat⟩ := id hit
  have hTy : s.TypeIs (.ref I) "set_iterator" := ⟨o, ho, hc⟩
  unfold pyNext
  refine wpAny_bind (wpAny_attempt (wpAny_callSpecial?_slot (name := Str.ofString "__next__") hTy slot_set_iterator_next
    (wpAny_call_entry slot_set_iterator_next hTy entry_set_iterator_next ?_ (args_set_iterator_next_1 _))))
  unfold Builtin.«set_iterator.__next__»
  refine wpAny_bind (m := slotArgs _ _ _) (wpAny_pure ?_)
  dsimp only
  refine wpAny_bind (wpAny_fieldsOf ho hdat ?_)
  dsimp only [rawInt]
  unfold setEntries
  refine wpAny_bind (wpAny_bind (wpAny_setState_of hS hd hf (wpAny_pure ?_)))
  rw [if_neg (by simp [hn])]
  unfold seqItems?
  refine wpAny_bind (wpAny_bind (wpAny_load hT ?_))
  rw [hdT]
  refine wpAny_pure ?_
  dsimp only
  rw [Int.toNat_natCast, hp]
  dsimp only [rawInt]
  unfold setNextDrawn
  refine wpAny_bind (wpAny_bind (wpAny_setState_of hS hd hf ?_))
  dsimp only
  rw [if_neg (by simp)]
  first | refine wpAny_bind (wpAny_pure ?_) | skip
  rw [Int.toNat_natCast, hx]
  dsimp only
  refine wpAny_pure ?_
  refine wpAny_bind (wpAny_setField ho hdat (by simp) ?_)
  have hit' : IsSetIter (s.heap.update I (Obj.mapFields (·.setIfInBounds 1 (rawInt ((i : Int) + 1))))) I (.ref T) (i + 1) S n ep :=
    ⟨_, Heap.get?_update_self _ ho (Obj.isFreed_of_fields (Obj.data_mapFields hdat _)), (Obj.cls_mapFields ..).trans hc, by rw [Obj.data_mapFields hdat]; simp [rawInt]⟩
  exact wpAny_pure ⟨_, rfl, wpAny_pure (hQ _ hit' (Heap.SameBut.update ..))⟩
theorem next_end {I S T : Addr} {n ep : Nat} {oS oT : Obj} {es : Array (Int × Value)} {tb : SetTable} {places : Array Value} {m i : Nat} {Q : Option Value → Shared → Prop} (hh : A.handled = none)
    (hit : IsSetIter s.heap I (.ref T) i S n ep) (hS : s.heap.get? S = some oS) (hd : oS.data = .set es ep tb) (hf : tb.fits es.size = true) (hn : es.size = n) (hT : s.heap.get? T = some oT) (hdT : oT.data = .seq places m)
    (hp : places[i]? = none) (hQ : ∀ h', Heap.ExtBut I s.heap h' → Q none { s with heap := h' }) : wpAny (model prog w) A (pyNext (.ref I)) Q E s := by
  obtain ⟨o, ho, hc, hdat⟩ := id hit
  have hTy : s.TypeIs (.ref I) "set_iterator" := ⟨o, ho, hc⟩
  unfold pyNext
  refine wpAny_bind (wpAny_attempt (wpAny_callSpecial?_slot (name := Str.ofString "__next__") hTy slot_set_iterator_next
    (wpAny_call_entry slot_set_iterator_next hTy entry_set_iterator_next ?_ (args_set_iterator_next_1 _))))
  unfold Builtin.«set_iterator.__next__»
  refine wpAny_bind (m := slotArgs _ _ _) (wpAny_pure ?_)
  dsimp only
  refine wpAny_bind (wpAny_fieldsOf ho hdat ?_)
  dsimp only [rawInt]
  unfold setEntries
  refine wpAny_bind (wpAny_bind (wpAny_setState_of hS hd hf (wpAny_pure ?_)))
  rw [if_neg (by simp [hn])]
  unfold seqItems?
  refine wpAny_bind (wpAny_bind (wpAny_load hT ?_))
  rw [hdT]
  refine wpAny_pure ?_
  dsimp only
  rw [Int.toNat_natCast, hp]
  dsimp only [rawInt]
  refine wpAny_bind (wpAny_setField ho hdat (by simp) ?_)
  have h1 := Heap.get?_update_self (Obj.mapFields (·.setIfInBounds 0 (Value.int 0 0))) ho (Obj.isFreed_of_fields (Obj.data_mapFields hdat _))
  refine wpAny_bind (wpAny_setField h1 (Obj.data_mapFields hdat _) (by simp) ?_)
  refine wpAny_bind ?_
  simp only [newExc, newTuple]
  refine wpAny_bind (wpAny_newObj_type ?_ (by size_fits))
  refine wpAny_bind (m := firstArgMember _ _) (wpAny_of_eq (a := Value.none) (by first | rfl | (simp only [firstArgMember]; rfl)) ?_)
  refine wpAny_newObj_type ?_ (by size_fits)
  simp only [raiseNew]
  refine wpAny_bind (wpAny_handled ?_)
  rw [show A.in1.handled = none from hh]
  refine wpAny_bind (wpAny_pure (wpAny_throw ?_))
  refine wpAny_bind (wpAny_isInstance (T := "StopIteration") (b := true) ⟨_, Heap.get?_push_size _ rfl, rfl⟩ isSubtype_stop ?_)
  exact wpAny_pure (hQ _ ((((Heap.SameBut.update ..).trans (Heap.SameBut.update ..)).extBut.push _).push _))
theorem set_next_text {S : Addr} {given ep : Nat} {oS : Obj} {es : Array (Int × Value)} {tb : SetTable} {Q : Option (Value × Nat) → Shared → Prop} (hb : w.params.followText "set-order" = true) (hS : s.heap.get? S = some oS) (hd : oS.data = .set es ep tb) (hf : tb.fits es.size = true)
    (h : Q (((pickOrder (w.params.setOrder S ep) es)[given]?).map fun e => (e.2, 0)) s) : wpAny (model prog w) A (setNext S 0 given ep) Q E s := by
  unfold setNext
  refine wpAny_bind (wpAny_setState_of hS hd hf ?_)
  dsimp only
  unfold setsByText
  refine wpAny_bind (wpAny_bind (wpAny_askSetting (wpAny_pure ?_)))
  rw [if_pos (by exact hb)]
  rw [if_neg (by simp)]
  first | refine wpAny_bind (wpAny_pure ?_) | skip
  unfold setWalk
  refine wpAny_bind (wpAny_bind (wpAny_setState_of hS hd hf ?_))
  dsimp only
  unfold setsByText
  refine wpAny_bind (wpAny_bind (wpAny_askSetting (wpAny_pure ?_)))
  rw [if_pos (by exact hb)]
  refine wpAny_bind (wpAny_askSetting (wpAny_pure ?_))
  exact wpAny_pure h
theorem nextT_item {I S : Addr} {i n ep : Nat} {oS : Obj} {es : Array (Int × Value)} {tb : SetTable} {h1 : Int} {x : Value} {Q : Option Value → Shared → Prop} (hb : w.params.followText "set-order" = true)
    (hit : IsSetIter s.heap I (rawInt 0) i S n ep) (hS : s.heap.get? S = some oS) (hd : oS.data = .set es ep tb) (hf : tb.fits es.size = true) (hn : es.size = n)
    (hx : (pickOrder (w.params.setOrder S ep) es)[i]? = some (h1, x))
    (hQ : ∀ h', IsSetIter h' I (rawInt 0) (i + 1) S n ep → Heap.SameBut I s.heap h' → Q (some x) { s with heap := h' }) : wpAny (model prog w) A (pyNext (.ref I)) Q E s := by
  obtain ⟨o, ho, hc, hdat⟩ := id hit
  have hTy : s.TypeIs (.ref I) "set_iterator" := ⟨o, ho, hc⟩
  unfold pyNext
  refine wpAny_bind (wpAny_attempt (wpAny_callSpecial?_slot (name := Str.ofString "__next__") hTy slot_set_iterator_next
    (wpAny_call_entry slot_set_iterator_next hTy entry_set_iterator_next ?_ (args_set_iterator_next_1 _))))
  unfold Builtin.«set_iterator.__next__»
  refine wpAny_bind (m := slotArgs _ _ _) (wpAny_pure ?_)
  dsimp only
  refine wpAny_bind (wpAny_fieldsOf ho hdat ?_)
  dsimp only [rawInt]
  unfold setEntries
  refine wpAny_bind (wpAny_bind (wpAny_setState_of hS hd hf (wpAny_pure ?_)))
  rw [if_neg (by simp [hn])]
  rw [Int.toNat_natCast, Int.toNat_natCast]
  refine wpAny_bind (set_next_text hb hS hd hf ?_)
  rw [hx]
  dsimp only [Option.map_some]
  refine wpAny_bind (wpAny_setField ho hdat (by simp) ?_)
  have g1 := Heap.get?_update_self (Obj.mapFields (·.setIfInBounds 0 (rawInt (0 : Int)))) ho (Obj.isFreed_of_fields (Obj.data_mapFields hdat _))
  have d1 := Obj.data_mapFields hdat (·.setIfInBounds 0 (rawInt (0 : Int)))
  refine wpAny_bind (wpAny_setField g1 d1 (by simp) ?_)
  have hit' : IsSetIter ((s.heap.update I (Obj.mapFields (·.setIfInBounds 0 (rawInt (0 : Int))))).update I (Obj.mapFields (·.setIfInBounds 1 (rawInt ((i : Int) + 1))))) I (rawInt 0) (i + 1) S n ep :=
    ⟨_, Heap.get?_update_self _ g1 (Obj.isFreed_of_fields (Obj.data_mapFields d1 _)), (Obj.cls_mapFields ..).trans ((Obj.cls_mapFields ..).trans hc), by rw [Obj.data_mapFields d1]; simp [rawInt]⟩
  exact wpAny_pure ⟨_, rfl, wpAny_pure (hQ _ hit' ((Heap.SameBut.update ..).trans (Heap.SameBut.update ..)))⟩
theorem nextT_end {I S : Addr} {i n ep : Nat} {oS : Obj} {es : Array (Int × Value)} {tb : SetTable} {Q : Option Value → Shared → Prop} (hh : A.handled = none) (hb : w.params.followText "set-order" = true)
    (hit : IsSetIter s.heap I (rawInt 0) i S n ep) (hS : s.heap.get? S = some oS) (hd : oS.data = .set es ep tb) (hf : tb.fits es.size = true) (hn : es.size = n)
    (hx : (pickOrder (w.params.setOrder S ep) es)[i]? = none) (hQ : ∀ h', Heap.ExtBut I s.heap h' → Q none { s with heap := h' }) : wpAny (model prog w) A (pyNext (.ref I)) Q E s := by
  obtain ⟨o, ho, hc, hdat⟩ := id hit
  have hTy : s.TypeIs (.ref I) "set_iterator" := ⟨o, ho, hc⟩
  unfold pyNext
  refine wpAny_bind (wpAny_attempt (wpAny_callSpecial?_slot (name := Str.ofString "__next__") hTy slot_set_iterator_next
    (wpAny_call_entry slot_set_iterator_next hTy entry_set_iterator_next ?_ (args_set_iterator_next_1 _))))
  unfold Builtin.«set_iterator.__next__»
  refine wpAny_bind (m := slotArgs _ _ _) (wpAny_pure ?_)
  dsimp only
  refine wpAny_bind (wpAny_fieldsOf ho hdat ?_)
  dsimp only [rawInt]
  unfold setEntries
  refine wpAny_bind (wpAny_bind (wpAny_setState_of hS hd hf (wpAny_pure ?_)))
  rw [if_neg (by simp [hn])]
  rw [Int.toNat_natCast, Int.toNat_natCast]
  refine wpAny_bind (set_next_text hb hS hd hf ?_)
  rw [hx]
  dsimp only [Option.map_none]
  refine wpAny_bind (wpAny_setField ho hdat (by simp) ?_)
  refine wpAny_bind ?_
  simp only [newExc, newTuple]
  refine wpAny_bind (wpAny_newObj_type ?_ (by size_fits))
  refine wpAny_bind (m := firstArgMember _ _) (wpAny_of_eq (a := Value.none) (by first | rfl | (simp only [firstArgMember]; rfl)) ?_)
  refine wpAny_newObj_type ?_ (by size_fits)
  simp only [raiseNew]
  refine wpAny_bind (wpAny_handled ?_)
  rw [show A.in1.handled = none from hh]
  refine wpAny_bind (wpAny_pure (wpAny_throw ?_))
  refine wpAny_bind (wpAny_isInstance (T := "StopIteration") (b := true) ⟨_, Heap.get?_push_size _ rfl, rfl⟩ isSubtype_stop ?_)
  exact wpAny_pure (hQ _ (((Heap.SameBut.update ..).extBut.push _).push _))
end
end
-- LibQ6
section
set_option maxRecDepth 100000
section
variable {prog : Program} {w : World} {A : Around} {E : Value → Shared → Prop} {s : Shared}
theorem self_setiter {I S : Addr} {first : Value} {i n ep : Nat} {Q : Value → Shared → Prop} (hit : IsSetIter s.heap I first i S n ep) (h : Q (.ref I) s) : wpAny (model prog w) A (pyIter (.ref I)) Q E s := by
  obtain ⟨o, ho, hc, _⟩ := id hit
  have hTy : s.TypeIs (.ref I) "set_iterator" := ⟨o, ho, hc⟩
  refine wpAny_pyIter_slot hTy slot_set_iterator_iter (wpAny_call_entry slot_set_iterator_iter hTy entry_set_iterator_iter ?_ (args_set_iterator_iter_1 _))
  show wpAny _ _ (ret (.ref I)) _ _ s
  exact wpAny_pure ⟨_, rfl, "set_iterator", _, hTy, slot_set_iterator_next.lookup, h⟩
theorem walks_drawn (hh : A.handled = none) {I S T : Addr} {n ep : Nat} {oS oT : Obj} {es : Array (Int × Value)} {tb : SetTable} {ys : List Nat} {m : Nat} (hSI : S ≠ I) (hTI : T ≠ I) (hd : oS.data = .set es ep tb) (hf : tb.fits es.size = true) (hn : es.size = n)
    (hdT : oT.data = .seq (ys.map fun i : Nat => rawInt (i : Int)).toArray m) (hy : ys.Perm (List.range n)) :
    Walks prog w A I [I, S, T] [I] n (fun i v => (ys.map fun p => (es.getD p (0, Value.none)).2)[i]? = some v) (fun i h => IsSetIter h I (.ref T) i S n ep ∧ h.get? S = some oS ∧ h.get? T = some oT) where
  sub := fun b hb => by simp at hb; simp [hb]
  frame := fun _ _ _ st hk => ⟨st.1.at' fun o e => hk I (by simp) o e, hk S (by simp) _ st.2.1, hk T (by simp) _ st.2.2⟩
  item := fun i s Q E hi st hQ => by
    have hl : ys.length = n := by rw [hy.length_eq, List.length_range]
    have hi' : i < ys.length := by omega
    have hp : ys[i] < n := List.mem_range.mp (hy.mem_iff.mp (List.getElem_mem hi'))
    refine next_item (p := ys[i]) (h1 := (es.getD ys[i] (0, Value.none)).1) (x := (es.getD ys[i] (0, Value.none)).2) st.1 st.2.1 hd hf hn st.2.2 hdT (by simp [hi']) (by simp [Array.getD, show ys[i] < es.size from by omega]) fun h' hit' hs' => ?_
    refine hQ _ h' s.toks (by simp [hi']) ⟨hit', (hs'.2 S hSI).trans st.2.1, (hs'.2 T hTI).trans st.2.2⟩ fun b o hb e => (hs'.2 b (fun q => hb (by simp [q]))).trans e
  done := fun s Q E st hQ => by
    have hl : ys.length = n := by rw [hy.length_eq, List.length_range]
    exact next_end hh st.1 st.2.1 hd hf hn st.2.2 hdT (by simp [hl]) fun h' he' => hQ h' s.toks fun b o hb e => he' b o (fun q => hb (by simp [q])) e
  self := fun _ _ _ _ st hQ => self_setiter st.1 hQ
theorem walks_text (hh : A.handled = none) {I S : Addr} {n ep : Nat} {oS : Obj} {es : Array (Int × Value)} {tb : SetTable} (hb : w.params.followText "set-order" = true) (hSI : S ≠ I) (hd : oS.data = .set es ep tb) (hf : tb.fits es.size = true) (hn : es.size = n) :
    Walks prog w A I [I, S] [I] n (fun i v => ((pickOrder (w.params.setOrder S ep) es).toList.map (·.2))[i]? = some v) (fun i h => IsSetIter h I (rawInt 0) i S n ep ∧ h.get? S = some oS) where
  sub := fun b hb => by simp at hb; simp [hb]
  frame := fun _ _ _ st hk => ⟨st.1.at' fun o e => hk I (by simp) o e, hk S (by simp) _ st.2⟩
  item := fun i s Q E hi st hQ => by
    have hl : (pickOrder (w.params.setOrder S ep) es).size = n := by rw [← Array.length_toList, (pick_perm _ es).length_eq, Array.length_toList, hn]
    have hi' : i < (pickOrder (w.params.setOrder S ep) es).size := by omega
    refine nextT_item (h1 := (pickOrder (w.params.setOrder S ep) es)[i].1) (x := (pickOrder (w.params.setOrder S ep) es)[i].2) hb st.1 st.2 hd hf hn (by simp [hi']) fun h' hit' hs' => ?_
    refine hQ _ h' s.toks (by simp [hi']) ⟨hit', (hs'.2 S hSI).trans st.2⟩ fun b o hb e => (hs'.2 b (fun q => hb (by simp [q]))).trans e
  done := fun s Q E st hQ => by
    have hl : (pickOrder (w.params.setOrder S ep) es).size = n := by rw [← Array.length_toList, (pick_perm _ es).length_eq, Array.length_toList, hn]
    exact nextT_end hh hb st.1 st.2 hd hf hn (by simp [hl]) fun h' he' => hQ h' s.toks fun b o hb e => he' b o (fun q => hb (by simp [q])) e
  self := fun _ _ _ _ st hQ => self_setiter st.1 hQ
/-- what the walk of a set promises -/
noncomputable def SetWalk (prog : Program) (w : World) (h : Heap) (h' : Heap) (S I : Addr) (ss : List Str) (xs : List Value) : Prop :=
  ∃ ks fp St, (∀ A' : Around, A'.handled = none → Walks prog w A' I fp [I] ss.length (fun i v => xs[i]? = some v) St) ∧ St 0 h' ∧ StrsAre xs ks ∧ ks.Perm ss ∧ (∀ b ∈ fp, b = S ∨ h.objs.size ≤ b) ∧ (∀ b ∈ fp, b < h'.objs.size) ∧ h.objs.size ≤ I ∧ (∀ b o, h.get? b = some o → h'.get? b = some o)
end
namespace Hiter_set
noncomputable abbrev hTy := Program × World × Around × (Value → Shared → Prop) × Shared × Addr × List Str × (Value → Shared → Prop)
noncomputable def hSt (c : hTy) : Prop := (fun (prog : Program) (w : World) (A : Around) (E : Value → Shared → Prop) (s : Shared) (S : Addr) (ss : List Str) (Q : Value → Shared → Prop) => ∀ (hS : SetUp prog w s.heap S ss) (h2 : 2 ≤ ss.length) (hb : ss.length < scanBound) (h : ∀ I h' d xs, SetWalk prog w s.heap h' S I ss xs → Q (.ref I) { s with heap := h', drawn := d }), (wpAny (model prog w) A (pyIter (.ref S)) Q E s : Prop)) c.1 c.2.1 c.2.2.1 c.2.2.2.1 c.2.2.2.2.1 c.2.2.2.2.2.1 c.2.2.2.2.2.2.1 c.2.2.2.2.2.2.2
theorem hNe : Nonempty hTy := ⟨default, w0, {}, (fun _ => (fun _ => False)), {}, (0 : Nat), [], (fun _ => (fun _ => False))⟩
noncomputable def hCc : hTy := @Classical.epsilon hTy hNe fun x => ¬ hSt x
@[irreducible] noncomputable def prog : Program := hCc.1
@[irreducible] noncomputable def w : World := hCc.2.1
@[irreducible] noncomputable def A : Around := hCc.2.2.1
@[irreducible] noncomputable def E : Value → Shared → Prop := hCc.2.2.2.1
@[irreducible] noncomputable def s : Shared := hCc.2.2.2.2.1
@[irreducible] noncomputable def S : Addr := hCc.2.2.2.2.2.1
@[irreducible] noncomputable def ss : List Str := hCc.2.2.2.2.2.2.1
@[irreducible] noncomputable def Q : Value → Shared → Prop := hCc.2.2.2.2.2.2.2
theorem hMain (hS : SetUp prog w s.heap S ss) (h2 : 2 ≤ ss.length) (hb : ss.length < scanBound) (h : ∀ I h' d xs, SetWalk prog w s.heap h' S I ss xs → Q (.ref I) { s with heap := h', drawn := d }) : wpAny (model prog w) A (pyIter (.ref S)) Q E s := by
  obtain ⟨o, es, ep, t, ks, ho, hex, hd, hel, hks, hkp, hf, hpl⟩ := id hS
  have hT : s.TypeIs (.ref S) "set" := ⟨o, ho, hex.1⟩
  have hn : es.size = ss.length := by
    have h1 := hks.length
    rw [List.length_map, Array.length_toList, hkp.length_eq] at h1; exact h1
  have hlt := Heap.lt_size ho
  refine wpAny_pyIter_slot hT PySem.F.slot_set_iter (wpAny_call_entry PySem.F.slot_set_iter hT entry_set_iter ?_ (PySem.F.args_set_iter_1 _))
  unfold Builtin.«frozenset.__iter__»
  refine wpAny_bind (m := Builtin.Frozenset.slot0 _ _) (wpAny_bind (m := slotArgs _ _ _) (wpAny_pure ?_))
  show wpAny _ _ (pure S) _ _ s
  refine wpAny_pure ?_
  unfold Builtin.Frozenset.sizeOf setEntries
  refine wpAny_bind (wpAny_bind (wpAny_bind (wpAny_setState_of ho hd hf (wpAny_pure (wpAny_pure ?_)))))
  unfold setDrawn
  refine wpAny_bind (wpAny_bind (wpAny_setState_of ho hd hf ?_))
  dsimp only
  unfold setsByText
  refine wpAny_bind (wpAny_bind (wpAny_askSetting (wpAny_pure ?_)))
  refine wpAny_pure ?_
  cases hbt : w.params.followText "set-order" with
  | true =>
    rw [if_neg (by show ¬ ((!(w.params.followText "set-order") && _) = true); rw [hbt]; simp)]
    refine wpAny_bind (wpAny_pure ?_)
    unfold setEpoch
    refine wpAny_bind (wpAny_bind (wpAny_setState_of ho hd hf (wpAny_pure ?_)))
    refine wpAny_bind (wpAny_newObj_type (wpAny_pure ⟨_, rfl, "set_iterator", _, ⟨_, Heap.get?_push_size _ rfl, rfl⟩, slot_set_iterator_next.lookup, ?_⟩))
    refine h _ _ s.drawn ((pickOrder (w.params.setOrder S ep) es).toList.map (·.2)) ?_
    obtain ⟨ks', hks', hkp'⟩ := strs_perm ((pick_perm (w.params.setOrder S ep) es).map (·.2)) hks
    refine ⟨ks', _, _, fun A' hA' => walks_text hA' hbt (Nat.ne_of_lt hlt) hd hf hn, ⟨⟨_, Heap.get?_push_size _ rfl, rfl, by first | (simp [hn]; done) | (simp [hn]; rfl)⟩, Heap.get?_push_of_some _ ho⟩, hks', hkp'.trans hkp, ?_, ?_, Nat.le_refl _, fun b o e => Heap.get?_push_of_some _ e⟩
    · intro b hb'
      simp only [List.mem_cons, List.not_mem_nil, or_false] at hb'
      rcases hb' with rfl | rfl
      · exact .inr (Nat.le_refl _)
      · exact .inl rfl
    · intro b hb'
      rw [Heap.size_push]
      simp only [List.mem_cons, List.not_mem_nil, or_false] at hb'
      rcases hb' with rfl | rfl
      · exact Nat.lt_succ_self _
      · exact Nat.lt_succ_of_lt hlt
  | false =>
    rw [if_pos (by show (!(w.params.followText "set-order") && (!t.plain && decide (es.size > 1))) = true; rw [hbt, hpl (by omega)]; simp; omega)]
    refine wpAny_bind (draw_order es.size (List.range es.size) s _ (by simp) fun ys d hy => ?_)
    have hys : (ys.map fun i : Nat => rawInt (i : Int)).length ≤ sizeLine := by have := sizeLine_eq; have := hy.length_eq; simp at this ⊢; simp [scanBound] at hb; omega
    refine wpAny_bind (wpAny_newTuple ?_ hys)
    unfold setEpoch
    have ho1 : (s.heap.push ({ cls := .type "tuple", data := .seq (ys.map fun i : Nat => rawInt (i : Int)).toArray } : Obj)).get? S = some o := Heap.get?_push_of_some _ ho
    refine wpAny_bind (wpAny_bind (wpAny_setState_of (s := { s with heap := s.heap.push ({ cls := .type "tuple", data := .seq (ys.map fun i : Nat => rawInt (i : Int)).toArray } : Obj), drawn := d }) ho1 hd hf (wpAny_pure ?_)))
    refine wpAny_bind (wpAny_newObj_type (wpAny_pure ⟨_, rfl, "set_iterator", _, ⟨_, Heap.get?_push_size _ rfl, rfl⟩, slot_set_iterator_next.lookup, ?_⟩))
    refine h _ _ d (ys.map fun p => (es.getD p (0, Value.none)).2) ?_
    have hxp : (ys.map fun p => (es.getD p (0, Value.none)).2).Perm (es.toList.map (·.2)) := by
      refine (hy.map _).trans (List.Perm.of_eq ?_)
      refine List.ext_getElem (by simp) fun i h1 h2 => ?_
      simp at h1
      simp [Array.getD, h1]
    obtain ⟨ks', hks', hkp'⟩ := strs_perm hxp hks
    have hTs : (s.heap.push ({ cls := .type "tuple", data := .seq (ys.map fun i : Nat => rawInt (i : Int)).toArray } : Obj)).get? s.heap.objs.size = some ({ cls := .type "tuple", data := .seq (ys.map fun i : Nat => rawInt (i : Int)).toArray } : Obj) := Heap.get?_push_size _ rfl
    have hz : (s.heap.push ({ cls := .type "tuple", data := .seq (ys.map fun i : Nat => rawInt (i : Int)).toArray } : Obj)).objs.size = s.heap.objs.size + 1 := Heap.size_push _ _
    refine ⟨ks', _, _, fun A' hA' => walks_drawn (T := s.heap.objs.size) hA' (by show S ≠ _; rw [hz]; exact Nat.ne_of_lt (Nat.lt_succ_of_lt hlt)) (by rw [hz]; exact Nat.ne_of_lt (Nat.lt_succ_self _)) hd hf hn rfl (by rw [← hn]; exact hy),
      ⟨⟨_, Heap.get?_push_size _ rfl, rfl, by first | (simp [hn]; done) | (simp [hn]; rfl)⟩, Heap.get?_push_of_some _ ho1, Heap.get?_push_of_some _ hTs⟩, hks', hkp'.trans hkp, ?_, ?_, by rw [hz]; exact Nat.le_succ _, fun b o e => Heap.get?_push_of_some _ (Heap.get?_push_of_some _ e)⟩
    · intro b hb'
      simp only [List.mem_cons, List.not_mem_nil, or_false] at hb'
      rcases hb' with rfl | rfl | rfl
      · exact .inr (by rw [hz]; exact Nat.le_succ _)
      · exact .inl rfl
      · exact .inr (Nat.le_refl _)
    · intro b hb'
      rw [Heap.size_push, hz]
      simp only [List.mem_cons, List.not_mem_nil, or_false] at hb'
      rcases hb' with rfl | rfl | rfl
      · rw [hz]; exact Nat.lt_succ_self _
      · exact Nat.lt_succ_of_lt (Nat.lt_succ_of_lt hlt)
      · exact Nat.lt_succ_of_lt (Nat.lt_succ_self _)
end Hiter_set
section
variable {prog : Program} {w : World} {A : Around} {E : Value → Shared → Prop} {s : Shared}
theorem iter_set {S : Addr} {ss : List Str} {Q : Value → Shared → Prop} (hS : SetUp prog w s.heap S ss) (h2 : 2 ≤ ss.length) (hb : ss.length < scanBound) (h : ∀ I h' d xs, SetWalk prog w s.heap h' S I ss xs → Q (.ref I) { s with heap := h', drawn := d }) : wpAny (model prog w) A (pyIter (.ref S)) Q E s := hen Hiter_set.hSt Hiter_set.hNe (by with_unfolding_all exact Hiter_set.hMain) (prog, w, A, E, s, S, ss, Q) hS h2 hb h
end
end
-- LibQ7
section
set_option maxRecDepth 100000
section
variable {prog : Program} {w : World} {A : Around} {E : Value → Shared → Prop} {s : Shared}
theorem hint_set {S : Addr} {o : Obj} {Q : Bool → Shared → Prop} (ho : s.heap.get? S = some o) (hc : o.cls = .type "set") (h : Q false s) : wpAny (model prog w) A (Builtin.List.listLengthHint (.ref S)) Q E s := by
  have hT : s.TypeIs (.ref S) "set" := ⟨o, ho, hc⟩
  unfold Builtin.List.listLengthHint
  refine wpAny_bind (wpAny_specialOf hT PySem.F.slot_set_len.lookup ?_)
  generalize hid : ("set.__len__" : String) = id0
  wp_delta
  rw [show splitId id0 = some ("set", "__len__") from by subst hid; decide +kernel]
  subst hid
  refine wpAny_bind (wpAny_isInstance (T := "set") (b := true) hT sub_set_self ?_)
  refine wpAny_ite_split (fun hab => absurd hab (by decide)) (fun _ => ?_)
  refine wpAny_ite_split (fun _ => ?_) (fun hab => absurd (by decide +kernel) hab)
  refine wpAny_bind (wpAny_typeOf hT ?_)
  exact wpAny_pure h
end
namespace Hcollect_set
noncomputable abbrev hTy := Program × World × Around × (Value → Shared → Prop) × Shared × Addr × List Str × (List Value → Shared → Prop)
noncomputable def hSt (c : hTy) : Prop := (fun (prog : Program) (w : World) (A : Around) (E : Value → Shared → Prop) (s : Shared) (S : Addr) (ss : List Str) (Q : List Value → Shared → Prop) => ∀ (hh : A.handled = none) (hS : SetUp prog w s.heap S ss) (h2 : 2 ≤ ss.length) (hb : ss.length < scanBound) (h : ∀ h' tk d xs ks, StrsAre xs ks → ks.Perm ss → (∀ b o, s.heap.get? b = some o → h'.get? b = some o) → Q xs { s with heap := h', toks := tk, drawn := d }), (wpAny (model prog w) A (collect (.ref S)) Q E s : Prop)) c.1 c.2.1 c.2.2.1 c.2.2.2.1 c.2.2.2.2.1 c.2.2.2.2.2.1 c.2.2.2.2.2.2.1 c.2.2.2.2.2.2.2
theorem hNe : Nonempty hTy := ⟨default, w0, {}, (fun _ => (fun _ => False)), {}, (0 : Nat), [], (fun _ => (fun _ => False))⟩
noncomputable def hCc : hTy := @Classical.epsilon hTy hNe fun x => ¬ hSt x
@[irreducible] noncomputable def prog : Program := hCc.1
@[irreducible] noncomputable def w : World := hCc.2.1
@[irreducible] noncomputable def A : Around := hCc.2.2.1
@[irreducible] noncomputable def E : Value → Shared → Prop := hCc.2.2.2.1
@[irreducible] noncomputable def s : Shared := hCc.2.2.2.2.1
@[irreducible] noncomputable def S : Addr := hCc.2.2.2.2.2.1
@[irreducible] noncomputable def ss : List Str := hCc.2.2.2.2.2.2.1
@[irreducible] noncomputable def Q : List Value → Shared → Prop := hCc.2.2.2.2.2.2.2
theorem hMain (hh : A.handled = none) (hS : SetUp prog w s.heap S ss) (h2 : 2 ≤ ss.length) (hb : ss.length < scanBound) (h : ∀ h' tk d xs ks, StrsAre xs ks → ks.Perm ss → (∀ b o, s.heap.get? b = some o → h'.get? b = some o) → Q xs { s with heap := h', toks := tk, drawn := d }) : wpAny (model prog w) A (collect (.ref S)) Q E s := by
  obtain ⟨o, es, ep, t, ks, ho, hex, hd, hel, hks, hkp, hf, hpl⟩ := id hS
  have hlt := Heap.lt_size ho
  unfold collect
  refine wpAny_bind (wpAny_runValue (codeAny_builtin PySem.F.entry_proto_collect ?_))
  rw [Around.under_plainId PySem.F.plain_proto_collect _]
  show wpAny _ A.in1 (do again (.builtin "list.__iadd__" ⟨[← newList [], .ref S], []⟩)) _ _ s
  refine wpAny_bind (wpAny_newList (wpAny_pure ⟨plainId_quiet PySem.F.plain_list_iadd _, codeAny_builtin PySem.F.entry_list_iadd ?_⟩))
  rw [Around.under_plainId PySem.F.plain_list_iadd _]
  show wpAny _ A.in1 (Builtin.List.listExtendWith (.ref s.heap.objs.size) (.ref S) (.ref s.heap.objs.size)) _ _ { s with heap := s.heap.push (seqObj "list" #[] 0) }
  have ho' : (s.heap.push (seqObj "list" #[] 0)).get? S = some o := Heap.get?_push_of_some _ ho
  have hSr : s.heap.objs.size ≠ S := Nat.ne_of_gt hlt
  unfold Builtin.List.listExtendWith
  refine wpAny_bind (wpAny_typeOf (T := "set") ⟨o, ho', hex.1⟩ ?_)
  have h1 : Builtin.List.listSameRef (.ref s.heap.objs.size) (.ref S) = false := by simp [Builtin.List.listSameRef, hSr]
  have h2' : (Value.type "set" == Value.type "list") = false := by decide
  have h3 : (Value.type "set" == Value.type "tuple") = false := by decide
  simp only [h1, h2', h3, Bool.or_false, Bool.false_eq_true, if_false]
  refine wpAny_bind (iter_set (s := { s with heap := s.heap.push (seqObj "list" #[] 0) }) (hS.at' fun o e => Heap.get?_push_of_some _ e) h2 hb fun I g d xs hw => ?_)
  obtain ⟨ks', fp, St, W, hst, hxs, hkp', hfp, hfl, hI, hkeep⟩ := hw
  have hgS : g.get? S = some o := hkeep _ _ ho'
  have hS0 : g.get? s.heap.objs.size = some (seqObj "list" #[] 0) := hkeep _ _ (Heap.get?_push_size _ rfl)
  have hz : (s.heap.push (seqObj "list" #[] 0)).objs.size = s.heap.objs.size + 1 := size_push' _ _
  have hSf : s.heap.objs.size ∉ fp := fun hm => by
    rcases hfp _ hm with e | e
    · exact hSr e
    · have : (s.heap.push (seqObj "list" #[] 0)).objs.size ≤ s.heap.objs.size := e
      rw [hz] at this; omega
  refine wpAny_bind (wpAny_holding (hint_set (s := { s with heap := g, drawn := d }) hgS hex.1 ?_))
  show wpAny _ A.in1 (rule "list.extend.makes-room" >>= fun _ => Builtin.List.listTouch (.ref s.heap.objs.size) >>= fun _ =>
    again (.builtin "list.extend.loop" ⟨[.ref s.heap.objs.size, .ref I, .ref s.heap.objs.size], []⟩)) _ _ _
  refine wpAny_bind (wpAny_rule ?_)
  refine wpAny_bind ?_
  show wpAny _ A.in1 (updateSeq s.heap.objs.size (·.push .none) >>= fun _ => updateSeq s.heap.objs.size (·.pop)) _ _ _
  refine wpAny_bind (wpAny_updateSeq (s := { s with heap := g, drawn := d }) hS0 rfl ?_)
  have hS₂ := Heap.get?_update_self (Obj.mapSeq (·.push Value.none)) hS0 rfl
  refine wpAny_updateSeq (s := { s with heap := g.update s.heap.objs.size (Obj.mapSeq (·.push Value.none)), drawn := d }) hS₂ rfl ?_
  have hS₃ := Heap.get?_update_self (Obj.mapSeq (·.pop)) hS₂ rfl
  have oth : ∀ b o, b ≠ s.heap.objs.size → g.get? b = some o → ((g.update s.heap.objs.size (Obj.mapSeq (·.push Value.none))).update s.heap.objs.size (Obj.mapSeq (·.pop))).get? b = some o :=
    fun b o hb e => (Heap.get?_update_other _ _ (Ne.symm hb)).trans ((Heap.get?_update_other _ _ (Ne.symm hb)).trans e)
  have hlen : ss.length ≤ sizeLine := by have := sizeLine_eq; simp [scanBound] at hb; omega
  have WS := (W A.in1 hh).toS
  refine wpAny_pure ⟨plainId_quiet PySem.F.plain_extend_loop _, codeAny_extend_loopS WS hlen _ hSf _ ss.length 0 _ _ _ rfl (Nat.zero_le _) ((W A.in1 hh).frame _ _ _ hst fun b hb o e => oth b o (fun h => hSf (h ▸ hb)) e) hS₃ (ItemsOf.nil _) fun s' acc' c' hm hS' hacc => ?_⟩
  show wpAny _ A (load s.heap.objs.size >>= _) _ _ s'
  refine wpAny_bind (wpAny_load hS' ?_)
  have hacc' : acc'.toList = xs := by
    have hxl := hxs.length
    refine List.ext_getElem? fun j => ?_
    by_cases hj : j < acc'.size
    · have e1 : acc'[j]? = some acc'[j] := by simp [hj]
      have e2 := hacc.2 j _ e1
      rw [Array.getElem?_toList, e1, e2]
    · have e3 : acc'.toList[j]? = none := by simp; omega
      have e4 : xs[j]? = none := by
        rw [List.getElem?_eq_none]
        rw [hxl, hkp'.length_eq, ← hacc.1]; omega
      rw [e3, e4]
  obtain ⟨h', g', d', tk', os'⟩ := s'
  have eg : g' = s.gens := hm.gens
  have ed : d' = d := hm.drawn
  have eo : os' = s.os := hm.os
  subst eg; subst ed; subst eo
  have hold : ∀ b o, s.heap.get? b = some o → h'.get? b = some o := fun b o e => by
    have hbl := Heap.lt_size e
    refine hm.heap b o ?_ (oth b o (Nat.ne_of_lt hbl) (hkeep _ _ (Heap.get?_push_of_some _ e)))
    simp only [List.mem_cons, List.not_mem_nil, or_false, not_or]
    refine ⟨Nat.ne_of_lt hbl, fun q => ?_⟩
    have h9 : (s.heap.push (seqObj "list" #[] 0)).objs.size ≤ I := hI
    rw [hz] at h9
    exact Nat.lt_irrefl _ (Nat.lt_of_lt_of_le (Nat.lt_of_lt_of_le (Nat.lt_succ_of_lt hbl) h9) (Nat.le_of_eq q.symm))
  refine wpAny_pure ?_
  rw [hacc']
  exact h h' tk' _ xs ks' hxs hkp' hold
end Hcollect_set
section
variable {prog : Program} {w : World} {A : Around} {E : Value → Shared → Prop} {s : Shared}
theorem collect_set {S : Addr} {ss : List Str} {Q : List Value → Shared → Prop} (hh : A.handled = none) (hS : SetUp prog w s.heap S ss) (h2 : 2 ≤ ss.length) (hb : ss.length < scanBound) (h : ∀ h' tk d xs ks, StrsAre xs ks → ks.Perm ss → (∀ b o, s.heap.get? b = some o → h'.get? b = some o) → Q xs { s with heap := h', toks := tk, drawn := d }) : wpAny (model prog w) A (collect (.ref S)) Q E s := hen Hcollect_set.hSt Hcollect_set.hNe (by with_unfolding_all exact Hcollect_set.hMain) (prog, w, A, E, s, S, ss, Q) hh hS h2 hb h
end
end
-- LibQ8
section
open PySem PySem.W PySem.Calls PySem.Spec PyProof.Rows PySem.SeqAt PySem.MeetsSeq3 PySem.MeetsSeq
set_option maxRecDepth 100000
section
variable {prog : Program} {w : World} {A : Around} {E : Value → Shared → Prop} {s : Shared}
theorem lt_loop_one {a b : Addr} {x y : Str} {t u : Tok} (hne : x ≠ y) (items items2 : Array Value) (n n2 : Nat) (dd dd2 : Option Addr) (sl sl2 : Array (Option Value)) (hi1 : items[((0 : Nat) : Int).toNat]? = some (.str x t)) (hi2 : items2[((0 : Nat) : Int).toNat]? = some (.str y u)) :
    Meets (Builtin.«list.__eq__.loop» ⟨[.ref a, .ref b, rawInt ((0 : Nat) : Int), rawInt 0], []⟩)
      (fun A R s => s.heap.get? a = some { cls := .type "list", dict := dd, data := .seq items n, slots := sl } ∧ s.heap.get? b = some { cls := .type "list", dict := dd2, data := .seq items2 n2, slots := sl2 } ∧
        R (.ok (.ret (.bool (decide (x.cps.toList < y.cps.toList))))) s) := by
  intro prog w A R s h
  obtain ⟨hp, g, d, tk, os⟩ := s; obtain ⟨hl, hb, h⟩ := h
  wp_walk using AutoSeq1.wpAny_loadPart' hl, AutoSeq1.wpAny_loadPart' hb
  rw [hi1, hi2]
  dsimp only
  refine wpAny_bind ((EqAt.str_str x t y u) prog w _ _ ?_)
  rw [show (x == y) = false from by simpa using hne]
  wp_walk using AutoSeq1.wpAny_loadPart' hl, AutoSeq1.wpAny_loadPart' hb
  rw [hi1, hi2]
  dsimp only
  refine wpAny_bind (show wpAny _ _ (richCompare .Lt (.str x t) (.str y u)) _ _ _ from lt_str ?_)
  exact wpAny_pure h
theorem list_lt_one {a b : Addr} {x y : Str} {t u : Tok} (hne : x ≠ y) (items items2 : Array Value) (n n2 : Nat) (dd dd2 : Option Addr) (sl sl2 : Array (Option Value)) (hi1 : items[((0 : Nat) : Int).toNat]? = some (.str x t)) (hi2 : items2[((0 : Nat) : Int).toNat]? = some (.str y u)) :
    Meets (Builtin.«list.__lt__» ⟨[.ref a, .ref b], []⟩)
      (fun A R s => s.heap.get? a = some { cls := .type "list", dict := dd, data := .seq items n, slots := sl } ∧ s.heap.get? b = some { cls := .type "list", dict := dd2, data := .seq items2 n2, slots := sl2 } ∧
        R (.ok (.ret (.bool (decide (x.cps.toList < y.cps.toList))))) s) := by
  intro prog w A R s h
  obtain ⟨hp, g, d, tk, os⟩ := s; obtain ⟨hl, hb, h⟩ := h
  have f3 := AutoSeq1.sub_list_list
  wp_walk using AutoSeq1.wpAny_loadPart' hl, AutoSeq1.wpAny_loadPart' hb
  exact ⟨plainId_quiet plain_eq_loop _, codeAny_builtin entry_eq_loop (by
    rw [Around.under_plainId plain_eq_loop _]
    exact lt_loop_one hne items items2 n n2 dd dd2 sl sl2 hi1 hi2 prog w A R _ ⟨hl, hb, h⟩)⟩
theorem oneLt_list {a b : Addr} {x y : Str} {t u : Tok} {Q : Bool → Shared → Prop} (hne : x ≠ y) (ha : s.heap.IsList a #[.str x t]) (hb : s.heap.IsList b #[.str y u]) (hu : A.units < cLine) (h : Q (decide (x.cps.toList < y.cps.toList)) s) :
    wpAny (model prog w) A (oneLt' true (.ref a) (.ref b)) Q E s := by
  obtain ⟨⟨cls, dd, data, sl⟩, ho, hc, n, hd⟩ := id ha
  obtain ⟨⟨cls2, dd2, data2, sl2⟩, ho2, hc2, n2, hd2⟩ := id hb
  simp only at hc hd hc2 hd2
  subst hc hd hc2 hd2
  have hT : s.TypeIs (.ref a) "list" := ⟨_, ho, rfl⟩
  rw [oneLt'_eq]
  simp only [if_true]
  refine wpAny_bind (wpAny_cRoomFor hu ?_)
  refine wpAny_bind (wpAny_callSpecialIfBound?_slot hT PySem.F.slot_list_lt (call_meets PySem.F.slot_list_lt hT PySem.F.entry_list_lt (PySem.F.args_list_lt_2 _ _) (list_lt_one hne _ _ n n2 dd dd2 sl sl2 rfl rfl) ⟨ho, ho2, ?_⟩))
  exact wpAny_truthy_bool h
end
end
-- Sort1
section
/-- what a run of the sort's questions comes to, the answers told by lt -/
noncomputable def KP {α : Type} (lt : Nat → Nat → Bool) (n : Nat) (R : α → Prop) : KasT α → Prop
  | .ret a => R a
  | .ask i j k => i < n ∧ j < n ∧ i ≠ j ∧ KP lt n R (k (lt i j))
theorem KP_bind {α β : Type} {lt : Nat → Nat → Bool} {n : Nat} {R : β → Prop} {f : α → KasT β} : ∀ {t : KasT α}, KP lt n (fun a => KP lt n R (f a)) t → KP lt n R (t.bind f)
  | .ret _, h => h
  | .ask _ _ _, h => ⟨h.1, h.2.1, h.2.2.1, KP_bind h.2.2.2⟩
theorem KP_mono {α : Type} {lt : Nat → Nat → Bool} {n : Nat} {R R' : α → Prop} (hr : ∀ a, R a → R' a) : ∀ {t : KasT α}, KP lt n R t → KP lt n R' t
  | .ret _, h => hr _ h
  | .ask _ _ _, h => ⟨h.1, h.2.1, h.2.2.1, KP_mono hr h.2.2.2⟩
theorem KP_wp {α : Type} {lt : Nat → Nat → Bool} {n : Nat} {R : α → Prop} {I : Shared → Prop} {cmp : Nat → Nat → (Bool → Shared → Prop) → Shared → Prop} {Q : α → Shared → Prop}
    (hc : ∀ i j C s, i < n → j < n → i ≠ j → I s → (∀ s', I s' → C (lt i j) s') → cmp i j C s) (hQ : ∀ a s, R a → I s → Q a s) : ∀ (t : KasT α) (s : Shared), KP lt n R t → I s → t.kasWp cmp Q s
  | .ret a, s, h, hs => hQ a s h hs
  | .ask i j k, s, h, hs => hc i j _ s h.1 h.2.1 h.2.2.1 hs fun s' hs' => KP_wp hc hQ (k (lt i j)) s' h.2.2.2 hs'

structure Ord (lt : Nat → Nat → Bool) (n : Nat) : Prop where
  trans : ∀ a b c, lt a b = true → lt b c = true → lt a c = true
  tot : ∀ a b, a < n → b < n → a ≠ b → lt a b = false → lt b a = true

noncomputable abbrev at' (p : Array Nat) (i : Nat) : Nat := p.getD i 0
noncomputable def IsPerm (p : Array Nat) (n : Nat) : Prop := p.toList.Perm (List.range n)
noncomputable def Srt (lt : Nat → Nat → Bool) (p : Array Nat) (k : Nat) : Prop := ∀ i j, i < j → j < k → lt (at' p i) (at' p j) = true
noncomputable def Dsc (lt : Nat → Nat → Bool) (p : Array Nat) (k : Nat) : Prop := ∀ i j, i < j → j < k → lt (at' p j) (at' p i) = true

theorem IsPerm.size {p : Array Nat} {n : Nat} (h : IsPerm p n) : p.size = n := by
  have := h.length_eq; simpa using this
theorem at_get {p : Array Nat} {i : Nat} (hi : i < p.size) : at' p i = p[i] := by simp [at', Array.getD, hi]
theorem at_opt (p : Array Nat) (i : Nat) : at' p i = (p[i]?).getD 0 := by
  by_cases hi : i < p.size
  · rw [at_get hi]; simp [hi]
  · simp [at', Array.getD, hi]
theorem IsPerm.lt {p : Array Nat} {n i : Nat} (h : IsPerm p n) (hi : i < n) : at' p i < n := by
  have hs : i < p.size := by rw [h.size]; exact hi
  rw [at_get hs]
  have : p[i] ∈ p.toList := by simp
  exact List.mem_range.mp (h.mem_iff.mp this)
theorem IsPerm.inj {p : Array Nat} {n i j : Nat} (h : IsPerm p n) (hi : i < n) (hj : j < n) (hij : i ≠ j) : at' p i ≠ at' p j := by
  have hs : i < p.size := by rw [h.size]; exact hi
  have hs' : j < p.size := by rw [h.size]; exact hj
  rw [at_get hs, at_get hs']
  have hnd : p.toList.Nodup := h.nodup_iff.mpr List.nodup_range
  intro e
  apply hij
  have := (List.getElem_inj (i := i) (j := j) (h₀ := by simpa using hs) (h₁ := by simpa using hs') hnd).mp (by simpa using e)
  exact this

section
variable {lt : Nat → Nat → Bool} {n : Nat}
theorem srt_snoc {p : Array Nat} {k : Nat} (O : Ord lt n) (hs : Srt lt p k) (h1 : 1 ≤ k) (h : lt (at' p (k - 1)) (at' p k) = true) : Srt lt p (k + 1) := by
  intro i j hij hj
  by_cases e : j = k
  · subst e
    by_cases e2 : i = j - 1
    · subst e2; exact h
    · exact O.trans _ _ _ (hs i (j - 1) (by omega) (by omega)) h
  · exact hs i j hij (by omega)
theorem dsc_snoc {p : Array Nat} {k : Nat} (O : Ord lt n) (hs : Dsc lt p k) (h1 : 1 ≤ k) (h : lt (at' p k) (at' p (k - 1)) = true) : Dsc lt p (k + 1) := by
  intro i j hij hj
  by_cases e : j = k
  · subst e
    by_cases e2 : i = j - 1
    · subst e2; exact h
    · exact O.trans _ _ _ h (hs i (j - 1) (by omega) (by omega))
  · exact hs i j hij (by omega)

theorem asc_run {p : Array Nat} (O : Ord lt n) (hp : IsPerm p n) : ∀ (f k : Nat), 1 ≤ k → k + f ≤ n → Srt lt p k →
    KP lt n (fun m => k ≤ m ∧ m ≤ k + f ∧ Srt lt p m ∧ (m < k + f → lt (at' p m) (at' p (m - 1)) = true)) (kas_asc p f k)
  | 0, k, h1, hk, hs => ⟨Nat.le_refl _, Nat.le_refl _, hs, fun h => absurd h (Nat.lt_irrefl _)⟩
  | f + 1, k, h1, hk, hs => by
    refine ⟨hp.lt (by omega), hp.lt (by omega), hp.inj (by omega) (by omega) (by omega), ?_⟩
    cases hc : lt (p.getD k 0) (p.getD (k - 1) 0) with
    | true => exact ⟨Nat.le_refl _, by omega, hs, fun _ => hc⟩
    | false =>
      simp only [Bool.false_eq_true, if_false]
      have hlt := O.tot _ _ (hp.lt (by omega)) (hp.lt (by omega)) (hp.inj (i := k) (j := k - 1) (by omega) (by omega) (by omega)) hc
      refine KP_mono (fun m hm => ?_) (asc_run O hp f (k + 1) (by omega) (by omega) (srt_snoc O hs h1 hlt))
      exact ⟨by omega, by omega, hm.2.2.1, fun h => hm.2.2.2 (by omega)⟩

theorem desc_run {p : Array Nat} (O : Ord lt n) (hp : IsPerm p n) : ∀ (f k : Nat), 1 ≤ k → k + f ≤ n → Dsc lt p k →
    KP lt n (fun r => r.1 = p ∧ r.2.2 = 0 ∧ k ≤ r.2.1 ∧ r.2.1 ≤ k + f ∧ Dsc lt p r.2.1) (kas_desc f p k 0)
  | 0, k, h1, hk, hs => ⟨rfl, rfl, Nat.le_refl _, Nat.le_refl _, hs⟩
  | f + 1, k, h1, hk, hs => by
    refine ⟨hp.lt (by omega), hp.lt (by omega), hp.inj (by omega) (by omega) (by omega), ?_⟩
    cases hc : lt (p.getD k 0) (p.getD (k - 1) 0) with
    | true =>
      simp only [if_true, Nat.lt_irrefl, if_false]
      refine KP_mono (fun r hr => ?_) (desc_run O hp f (k + 1) (by omega) (by omega) (dsc_snoc O hs h1 hc))
      exact ⟨hr.1, hr.2.1, by omega, by omega, hr.2.2.2.2⟩
    | false =>
      simp only [Bool.false_eq_true, if_false]
      have hlt := O.tot _ _ (hp.lt (by omega)) (hp.lt (by omega)) (hp.inj (i := k) (j := k - 1) (by omega) (by omega) (by omega)) hc
      refine ⟨hp.lt (by omega), hp.lt (by omega), hp.inj (by omega) (by omega) (by omega), ?_⟩
      rw [show lt (p.getD (k - 1) 0) (p.getD k 0) = true from hlt]
      exact ⟨rfl, rfl, Nat.le_refl _, by show k ≤ k + (f + 1); omega, hs⟩

theorem rev_perm {p : Array Nat} (hp : IsPerm p n) (i j : Nat) : IsPerm (kas_rev p i j) n := by
  have h := mirror_perm p i j ((j - i) / 2)
  exact (Array.perm_iff_toList_perm.mp h).trans hp
theorem rev_srt {p : Array Nat} {k : Nat} (hp : IsPerm p n) (hk : k ≤ n) (hs : Dsc lt p k) : Srt lt (kas_rev p 0 k) k := by
  have e : ∀ x, x < k → at' (kas_rev p 0 k) x = at' p (k - 1 - x) := fun x hx => by
    rw [at_opt, at_opt]
    unfold kas_rev
    rw [getElem?_mirror_all (by rw [hp.size]; exact hk), if_pos ⟨Nat.zero_le _, hx⟩, Nat.zero_add]
  intro i j hij hj
  rw [e i (by omega), e j hj]
  exact hs _ _ (by omega) (by omega)

theorem count_run {p : Array Nat} (O : Ord lt n) (hp : IsPerm p n) (h1 : 1 ≤ n) : KP lt n (fun r => IsPerm r.2 n ∧ 1 ≤ r.1 ∧ r.1 ≤ n ∧ Srt lt r.2 r.1) (kas_count n p) := by
  have tail3 : ∀ (q : Array Nat) k, IsPerm q n → 1 ≤ k → k ≤ n → Dsc lt q k → KP lt n (fun r => IsPerm r.2 n ∧ 1 ≤ r.1 ∧ r.1 ≤ n ∧ Srt lt r.2 r.1) (kas_tail3 k n q) := by
    intro q k hq hk1 hk hd
    refine KP_bind (KP_mono (fun m hm => ?_) (asc_run O (rev_perm hq 0 k) (n - k) k hk1 (by omega) (rev_srt hq hk hd)))
    exact ⟨rev_perm hq 0 k, by omega, by omega, hm.2.2.1⟩
  refine KP_bind (KP_mono (fun m hm => ?_) (asc_run O hp (n - 1) 1 (Nat.le_refl _) (by omega) fun i j hij hj => absurd hj (by omega)))
  obtain ⟨hm1, hm2, hs, hstop⟩ := hm
  by_cases e : m = n
  · rw [if_pos (by simpa using e)]; exact ⟨hp, by show 1 ≤ m; omega, by show m ≤ n; omega, hs⟩
  · rw [if_neg (by simpa using e)]
    by_cases e2 : m > 1
    · rw [if_pos e2]
      refine ⟨hp.lt (by omega), hp.lt (by omega), hp.inj (by omega) (by omega) (by omega), ?_⟩
      rw [show lt (p.getD 0 0) (p.getD (m - 1) 0) = true from hs 0 (m - 1) (by omega) (by omega)]
      exact ⟨hp, hm1, by show m ≤ n; omega, hs⟩
    · rw [if_neg e2]
      have em : m = 1 := by omega
      subst em
      have hd := hstop (by omega)
      refine KP_bind (KP_mono (fun r hr => ?_) (desc_run O hp (n - (1 + 1)) (1 + 1) (by omega) (by omega) (dsc_snoc O (k := 1) (fun i j hij hj => absurd hj (by omega)) (Nat.le_refl _) hd)))
      rw [hr.2.1, if_neg (Nat.lt_irrefl _), hr.1]
      exact tail3 p _ hp (by omega) (by omega) hr.2.2.2.2

theorem place_run {p : Array Nat} {k : Nat} (O : Ord lt n) (hp : IsPerm p n) (hk : k < n) (hs : Srt lt p k) : ∀ (f l r : Nat), l ≤ r → r ≤ k → r - l ≤ f → (∀ i, i < l → lt (at' p i) (at' p k) = true) → (∀ i, r ≤ i → i < k → lt (at' p k) (at' p i) = true) →
    KP lt n (fun m => m ≤ k ∧ (∀ i, i < m → lt (at' p i) (at' p k) = true) ∧ (∀ i, m ≤ i → i < k → lt (at' p k) (at' p i) = true)) (kas_place p k f l r)
  | 0, l, r, hlr, hr, hf, h1, h2 => ⟨by omega, h1, fun i hi => h2 i (by omega)⟩
  | f + 1, l, r, hlr, hr, hf, h1, h2 => by
    unfold kas_place
    by_cases hge : l ≥ r
    · rw [if_pos hge]; exact ⟨by omega, h1, fun i hi => h2 i (by omega)⟩
    · rw [if_neg hge]
      refine ⟨hp.lt hk, hp.lt (by omega), hp.inj hk (by omega) (by omega), ?_⟩
      cases hc : lt (p.getD k 0) (p.getD ((l + r) / 2) 0) with
      | true =>
        simp only [if_true]
        refine place_run O hp hk hs f l ((l + r) / 2) (by omega) (by omega) (by omega) h1 fun i hi hik => ?_
        by_cases e : i = (l + r) / 2
        · rw [e]; exact hc
        · exact O.trans _ _ _ hc (hs _ i (by omega) hik)
      | false =>
        simp only [Bool.false_eq_true, if_false]
        have hlt := O.tot _ _ (hp.lt hk) (hp.lt (by omega)) (hp.inj (i := k) (j := (l + r) / 2) hk (by omega) (by omega)) hc
        refine place_run O hp hk hs f ((l + r) / 2 + 1) r (by omega) hr (by omega) (fun i hi => ?_) h2
        by_cases e : i = (l + r) / 2
        · rw [e]; exact hlt
        · exact O.trans _ _ _ (hs i _ (by omega) (by omega)) hlt

theorem bin_run (O : Ord lt n) : ∀ (f : Nat) (p : Array Nat) (k : Nat), IsPerm p n → k + f = n → Srt lt p k → KP lt n (fun q => IsPerm q n ∧ Srt lt q n) (kas_bin f p k)
  | 0, p, k, hp, hk, hs => ⟨hp, hk ▸ hs⟩
  | f + 1, p, k, hp, hk, hs => by
    refine KP_bind (KP_mono (fun l hl => ?_) (place_run O hp (by omega) hs k 0 k (Nat.zero_le _) (Nat.le_refl _) (by omega) (fun i hi => absurd hi (Nat.not_lt_zero _)) fun i h1 h2 => absurd h2 (by omega)))
    obtain ⟨hlk, h1, h2⟩ := hl
    have hperm : IsPerm (bubble p k (k - l)) n := (Array.perm_iff_toList_perm.mp (bubble_perm p k (k - l))).trans hp
    refine bin_run O f (bubble p k (k - l)) (k + 1) hperm (by omega) ?_
    have e : ∀ x, at' (bubble p k (k - l)) x = if x = l then at' p k else if l < x ∧ x ≤ k then at' p (x - 1) else at' p x := fun x => by
      rw [at_opt, getElem?_bubble (by rw [hp.size]; omega) _ (by omega), show k - (k - l) = l by omega]
      split
      · rw [at_opt]
      · split <;> rw [at_opt]
    intro i j hij hj
    rw [e i, e j]
    by_cases ei : i = l
    · rw [if_pos ei, if_neg (by omega), if_pos (by omega)]
      exact h2 _ (by omega) (by omega)
    · rw [if_neg ei]
      by_cases ej : j = l
      · rw [if_pos ej, if_neg (by omega)]
        exact h1 _ (by omega)
      · rw [if_neg ej]
        by_cases ci : l < i ∧ i ≤ k
        · rw [if_pos ci, if_pos (by omega)]
          exact hs _ _ (by omega) (by omega)
        · rw [if_neg ci]
          by_cases cj : l < j ∧ j ≤ k
          · rw [if_pos cj]
            exact hs _ _ (by omega) (by omega)
          · rw [if_neg cj]
            exact hs _ _ hij (by omega)

/-- the sort's questions, answered by a strict order on n different things, end with them in order -/
theorem sort_run (O : Ord lt n) (h1 : 1 ≤ n) : KP lt n (fun p => IsPerm p n ∧ Srt lt p n) (kas_sort n) := by
  have hp : IsPerm (List.toArray (List.range n)) n := by unfold IsPerm; simp
  refine KP_bind (KP_mono (fun r hr => ?_) (count_run O hp h1))
  obtain ⟨hp, h1, h2, hs⟩ := hr
  by_cases e : r.1 < n
  · rw [if_pos e, Nat.max_eq_left h1]
    exact bin_run O _ _ _ hp (by omega) hs
  · rw [if_neg e]
    have : r.1 = n := by omega
    exact ⟨hp, this ▸ hs⟩
end
end
-- Sort2
section
/-- values that are refs of pairs (text, text) -/
noncomputable def PairVal (h : Heap) (v : Value) (p : Str × Str) : Prop := ∃ a t t', v = Value.ref a ∧ h.IsTuple a #[.str p.1 t, .str p.2 t']
noncomputable abbrev TupsAt (h : Heap) (vs : List Value) (its : List (Str × Str)) : Prop := Paired (PairVal h) vs its
theorem PairVal.keeps {h h' : Heap} {v : Value} {p : Str × Str} (x : PairVal h v p) (k : h.StaysIn h') : PairVal h' v p :=
  let ⟨a, t, t', e, ht⟩ := x; ⟨a, t, t', e, ht.at fun o e => k _ o e⟩
theorem TupsAt.keeps {h h' : Heap} {vs : List Value} {its : List (Str × Str)} (x : TupsAt h vs its) (k : h.StaysIn h') : TupsAt h' vs its := paired_map (fun _ _ y => y.keeps k) x
theorem paired_len {α β : Type} {F : α → β → Prop} {l₁ : List α} {l₂ : List β} (h : Paired F l₁ l₂) : l₁.length = l₂.length := by
  induction h with
  | nil => rfl
  | cons _ _ ih => simp [ih]
noncomputable abbrev strLt (a b : Str) : Prop := a.cps.toList < b.cps.toList
noncomputable def nm (its : List (Str × Str)) (i : Nat) : Str := (its.getD i (Str.empty, Str.empty)).1
noncomputable def ltI (its : List (Str × Str)) (i j : Nat) : Bool := decide ((nm its i).cps.toList < (nm its j).cps.toList)
theorem str_ext {a b : Str} (h : a.cps.toList = b.cps.toList) : a = b := by
  cases a; cases b; congr; exact Array.toList_inj.mp h
theorem nm_inj {its : List (Str × Str)} (hd : (its.map (·.1)).Nodup) {i j : Nat} (hi : i < its.length) (hj : j < its.length) (h : i ≠ j) : nm its i ≠ nm its j := by
  intro e
  apply h
  have e1 : nm its i = (its.map (·.1))[i]'(by simpa using hi) := by simp [nm, hi]
  have e2 : nm its j = (its.map (·.1))[j]'(by simpa using hj) := by simp [nm, hj]
  rw [e1, e2] at e
  exact (List.getElem_inj (h₀ := by simpa using hi) (h₁ := by simpa using hj) hd).mp e
theorem ltI_ord {its : List (Str × Str)} (hd : (its.map (·.1)).Nodup) : Ord (ltI its) its.length where
  trans a b c h1 h2 := decide_eq_true (List.lt_trans (of_decide_eq_true h1) (of_decide_eq_true h2))
  tot a b ha hb hab h := by
    have h' := of_decide_eq_false h
    rcases Decidable.em ((nm its b).cps.toList < (nm its a).cps.toList) with q | q
    · exact decide_eq_true q
    · exact absurd (str_ext (List.le_antisymm (List.not_lt.mp q) (List.not_lt.mp h'))) (nm_inj hd ha hb hab)
theorem katTups_of {h : Heap} {vs : List Value} {its : List (Str × Str)} (x : TupsAt h vs its) : ∃ fs, KatTups h vs fs ∧ fs.length = its.length ∧ ∀ v ∈ fs, ∃ y t, v = Value.str y t := by
  induction x with
  | nil => exact ⟨[], .nil, rfl, fun _ h => by cases h⟩
  | cons hp _ ih =>
    obtain ⟨a, t, t', rfl, o, ho, hc, n, hd⟩ := hp
    obtain ⟨fs, hk, hl, hs⟩ := ih
    exact ⟨_ :: fs, KatTups.cons ho hc hd rfl hk, by simp [hl], fun v hv => (List.mem_cons.mp hv).elim (fun e => ⟨_, _, e⟩) (hs v)⟩
section
variable {prog : Program} {w : World} {A : Around} {E : Value → Shared → Prop} {s : Shared} {h₀ : Heap} {L : Addr} {m : Str → Option Value} {news : List (Addr × Obj)} {vs : List Value} {its : List (Str × Str)}
/-- sorted over a list of pairs with different first texts -/
theorem sorted_pairs {l : Addr} {Q : Value → Shared → Prop} (F : Fr h₀ L s.heap m) (N : News h₀ L s.heap news) (hl : s.heap.IsList l vs.toArray) (h2 : 2 ≤ its.length) (h64 : its.length < 64)
    (ht : ∀ h, Fr h₀ L h m → News h₀ L h news → TupsAt h vs its) (hd : (its.map (·.1)).Nodup)
    (h : ∀ D e h' (p : Array Nat), IsPerm p its.length → Srt (ltI its) p its.length → Fr h₀ L h' m → News h₀ L h' ((D, W.listOf (p.toList.map fun i => vs.getD i Value.none).toArray e) :: news) → AllNe D news → Q (.ref D) { s with heap := h' }) :
    wpAny (model prog w) A (call (.builtin "sorted") [.ref l]) Q E s := by
  have hlen : vs.length = its.length := paired_len (ht _ F N)
  refine kat_sorted F N hl (by omega) (by omega) fun D e1 h' F' N' hlt => ?_
  have hne : AllNe D news := allNe_of fun q hq => Nat.ne_of_lt (hlt q hq)
  have tt := ht h' F' fun q hq => N' q (.tail _ hq)
  obtain ⟨fs, hk, hfl, hfs⟩ := katTups_of tt
  refine kat_kind (T := .type "str") hk (by omega) (fun v hv => ?_) (by decide) ?_
  · obtain ⟨y, t, rfl⟩ := hfs v hv
    exact Looks.now
  · rw [hlen]
    refine KP_wp (I := fun s' => s' = { s with heap := h' }) (fun i j C s' hi hj hij hs hC => ?_) (fun p s' hp hs => ?_) _ _ (sort_run (ltI_ord hd) (by omega)) rfl
    · subst hs
      unfold kas_ask
      have gi : ∀ i, i < its.length → ∃ a t t', vs.getD i Value.none = .ref a ∧ h'.IsTuple a #[.str (nm its i) t, .str (its.getD i (Str.empty, Str.empty)).2 t'] := by
        intro i hi
        obtain ⟨b, hb, a, t, t', e, ht⟩ := paired_get tt i vs[i] (by simp [hlen, hi])
        have eb : its.getD i (Str.empty, Str.empty) = b := by simp [List.getD, hb]
        refine ⟨a, t, t', by simp [hlen, hi, ← e], ?_⟩
        unfold nm; rw [eb]; exact ht
      obtain ⟨a, t, t', e1, o, ho, hc, n, hdd⟩ := gi i hi
      obtain ⟨a', u, u', e2, o', ho', hc', n', hdd'⟩ := gi j hj
      rw [e1, e2]
      refine kat_lt ho hdd ho' hdd' (kat_cons ?_)
      refine eqBool_str ?_
      rw [show (nm its i == nm its j) = false from by simpa using nm_inj hd hi hj hij]
      exact kat_no (oneLt_str (hC _ rfl))
    · subst hs
      exact KasFin.intro F' N' (UpdF.head (fun q hq => Nat.ne_of_lt (hlt q hq))) fun h'' c F'' N'' => h D c h'' p hp.1 hp.2 F'' N'' hne
end
theorem PairVal.uniq {h : Heap} {v : Value} {p q : Str × Str} (x : PairVal h v p) (y : PairVal h v q) : p = q := by
  obtain ⟨a, t, t', e, o, ho, _, n, hd⟩ := x
  obtain ⟨a', u, u', e', o', ho', _, n', hd'⟩ := y
  rw [e] at e'
  cases e'
  rw [ho] at ho'
  cases ho'
  rw [hd] at hd'
  injection hd' with e1 e2
  simp only [Array.mk.injEq, List.cons.injEq, Value.str.injEq] at e1
  exact Prod.ext e1.1.1 e1.2.1.1
theorem tups_strs {h : Heap} {f : Str × Str → Str} {vs ys : List Value} {its : List (Str × Str)} (x : TupsAt h vs its) (y : Paired (fun v y => ∀ p, PairVal h v p → ∃ t, y = Value.str (f p) t) vs ys) : StrsAre ys (its.map f) := by
  induction x generalizing ys with
  | nil => cases y; exact .nil
  | cons hp _ ih =>
    cases y with
    | cons k r =>
      obtain ⟨t, rfl⟩ := k _ hp
      exact .cons _ _ (ih r)
theorem join_len {B : Nat} {sep : Str} {ss : List Str} (h : ∀ y ∈ ss, y.length ≤ B) : (Str.join sep ss).length ≤ ss.length * B + ss.length * sep.length := by
  rw [← StrLaws.glued_eq_join, size_glued]
  have h1 := StrLaws.sumLen_le ss h
  have h2 : (ss.length - 1) * sep.length ≤ ss.length * sep.length := Nat.mul_le_mul_right _ (Nat.sub_le _ _)
  omega
/-- the order of a sorted arrangement -/
noncomputable def arr (its : List (Str × Str)) (p : Array Nat) : List (Str × Str) := p.toList.map fun i => its.getD i (Str.empty, Str.empty)
theorem arr_perm {its : List (Str × Str)} {p : Array Nat} (hp : IsPerm p its.length) : (arr its p).Perm its := by
  have h1 : (arr its p).Perm ((List.range its.length).map fun i => its.getD i (Str.empty, Str.empty)) := List.Perm.map _ hp
  have e : ((List.range its.length).map fun i => its.getD i (Str.empty, Str.empty)) = its := by
    refine List.ext_getElem? fun j => ?_
    by_cases hj : j < its.length
    · simp [hj]
    · simp [hj]
  rwa [e] at h1
theorem arr_sorted {its : List (Str × Str)} {p : Array Nat} (hp : IsPerm p its.length) (hs : Srt (ltI its) p its.length) : (arr its p).Pairwise fun a b => strLt a.1 b.1 := by
  unfold arr
  rw [List.pairwise_map, List.pairwise_iff_getElem]
  intro i j hi hj hij
  have hz := hp.size
  simp only [Array.length_toList] at hi hj
  have := hs i j hij (by omega)
  rw [at_get hi, at_get hj] at this
  have h2 : (nm its p[i]).cps.toList < (nm its p[j]).cps.toList := of_decide_eq_true this
  simpa [Array.getElem_toList, nm] using h2
theorem arr_tups {h : Heap} {vs : List Value} {its : List (Str × Str)} {p : Array Nat} (hp : IsPerm p its.length) (x : TupsAt h vs its) : TupsAt h (p.toList.map fun i => vs.getD i Value.none) (arr its p) := by
  have hlt : ∀ i ∈ p.toList, i < its.length := fun i hi => List.mem_range.mp (hp.mem_iff.mp hi)
  unfold arr
  generalize p.toList = l at hlt
  induction l with
  | nil => exact .nil
  | cons i l ih =>
    refine .cons ?_ (ih fun j hj => hlt j (.tail _ hj))
    have hi := hlt i (.head _)
    have hlen := paired_len x
    obtain ⟨b, hb, hp⟩ := paired_get x i vs[i] (by simp [hlen, hi])
    have eb : its.getD i (Str.empty, Str.empty) = b := by simp [List.getD, hb]
    show PairVal h (vs.getD i Value.none) (its.getD i (Str.empty, Str.empty))
    rw [eb, show vs.getD i Value.none = vs[i] by simp [hlen, hi]]
    exact hp
end
-- LibQ9
section
set_option maxRecDepth 100000
/-- a word that the key leaves whole -/
noncomputable def NoBr (x : Str) : Prop := x.length ≤ 100 ∧ Txt.splitMax x "}" 1 = [x]
/-- a key: a list of one word -/
noncomputable def KeyAt (h : Heap) (v : Value) (x : Str) : Prop := ∃ a t, v = .ref a ∧ h.IsList a #[.str x t]
theorem paired_snoc {α β : Type} {F : α → β → Prop} {l₁ : List α} {l₂ : List β} {a : α} {b : β} (h : Paired F l₁ l₂) (k : F a b) : Paired F (l₁ ++ [a]) (l₂ ++ [b]) := by
  induction h with
  | nil => exact .cons k .nil
  | cons x _ ih => exact .cons x ih
section
variable {prog : Program} {w : World} {A : Around} {E : Value → Shared → Prop} {s : Shared} {h₀ : Heap} {L : Addr} {m : Str → Option Value} {news : List (Addr × Obj)}
/-- what a key function promises -/
noncomputable def KeyCall (prog : Program) (w : World) (A : Around) (h₀ : Heap) (L : Addr) (m : Str → Option Value) (news : List (Addr × Obj)) (f : Value) : Prop :=
  ∀ x t (s1 : Shared) (Q' : Value → Shared → Prop), NoBr x → Fr h₀ L s1.heap m → News h₀ L s1.heap news → (∀ l n t' h2 tk2, s1.heap.StaysIn h2 → s1.heap.get? l = none → h2.get? l = some (W.listOf #[.str x t'] n) → Q' (.ref l) { s1 with heap := h2, toks := tk2 }) → wpAny (model prog w) A (call f [.str x t]) Q' (fun _ _ => False) s1
noncomputable def KeyIn (ex : List (Addr × Obj)) (v : Value) (x : Str) : Prop := ∃ a t n, v = .ref a ∧ (a, W.listOf #[.str x t] n) ∈ ex
theorem keys_all {f : Value} {kS D : Addr} {oD : Obj} {Fin : List Value → Nat → Shared → Prop} (hf : KeyCall prog w A h₀ L m news f) (hDk : @Ne Nat D kS) (hn : ∀ q ∈ news, @Ne Nat q.1 kS) :
    ∀ (r : List Value) (rs : List Str) (ks : List Value) (xs : List Str) (ex : List (Addr × Obj)) (e : Nat) (s : Shared), StrsAre r rs → (∀ y ∈ rs, NoBr y) → Paired (KeyIn ex) ks xs → (∀ q ∈ ex, @Ne Nat q.1 kS ∧ @Ne Nat q.1 D) → Fr h₀ L s.heap m → News h₀ L s.heap ((kS, seqObj "list" (List.toArray ks) e) :: (D, oD) :: (ex ++ news)) →
      (∀ ks' ex' e' h' tk, Paired (KeyIn ex') ks' (xs ++ rs) → (∀ q ∈ ex', @Ne Nat q.1 kS ∧ @Ne Nat q.1 D) → Fr h₀ L h' m → News h₀ L h' ((kS, seqObj "list" (List.toArray ks') e') :: (D, oD) :: (ex' ++ news)) → Fin ks' e' { s with heap := h', toks := tk }) →
      KatKeys prog w A h₀ L m kS f Fin r ks e s
  | [], rs, ks, xs, ex, e, s, hr, hb, hp, hx, F, N, h => by
    cases hr
    exact KatKeys.nil (h ks ex e s.heap s.toks (by rw [List.append_nil]; exact hp) hx F N)
  | v :: r, rs, ks, xs, ex, e, s, hr, hb, hp, hx, F, N, h => by
    cases hr with
    | @cons x t _ ys hr =>
      refine KatKeys.cons (hf x t s _ (hb x (.head _)) F (fun p hp => N p (.tail _ (.tail _ (List.mem_append_right _ hp)))) fun l n t' h2 tk2 st hl hg => ?_)
      have F2 : Fr h₀ L h2 m := ⟨F.ns.at' fun o e => st _ o e, fun b o e => st b o (F.keep b o e), F.above⟩
      obtain ⟨Nl, hne, hLl⟩ := on_ledger F N hl hg fun p hp => ⟨st _ _ (N p hp).1, (N p hp).2⟩
      have hlk : @Ne Nat l kS := fun q => by have := (N _ (.head _)).1; rw [← q, hl] at this; cases this
      have hlD : @Ne Nat l D := fun q => by have := (N _ (.tail _ (.head _))).1; rw [← q, hl] at this; cases this
      have N2 : News h₀ L h2 ((kS, seqObj "list" (List.toArray ks) e) :: (D, oD) :: (((l, W.listOf #[.str x t'] n) :: ex) ++ news)) := fun p hp => by
        rcases List.mem_cons.mp hp with rfl | hp
        · exact Nl _ (.tail _ (.head _))
        · rcases List.mem_cons.mp hp with rfl | hp
          · exact Nl _ (.tail _ (.tail _ (.head _)))
          · rcases List.mem_cons.mp hp with rfl | hp
            · exact Nl _ (.head _)
            · exact Nl _ (.tail _ (.tail _ (.tail _ hp)))
      have hx2 : ∀ q ∈ (l, W.listOf #[.str x t'] n) :: ex, @Ne Nat q.1 kS ∧ @Ne Nat q.1 D := fun q hq => (List.mem_cons.mp hq).elim (fun e => e ▸ ⟨hlk, hlD⟩) (hx q)
      refine KatBack.intro (s := { s with heap := h2, toks := tk2 }) F2 N2 (UpdF.head fun q hq => ?_) fun h3 c F3 N3 => ?_
      · rcases List.mem_cons.mp hq with rfl | hq
        · exact hDk
        · rcases List.mem_append.mp hq with hq | hq
          · exact (hx2 q hq).1
          · exact hn q hq
      · refine keys_all hf hDk hn r ys (ks ++ [.ref l]) (xs ++ [x]) ((l, W.listOf #[.str x t'] n) :: ex) c { s with heap := h3, toks := tk2 } hr (fun y hy => hb y (.tail _ hy)) ?_ hx2 F3 N3 fun ks' ex' e' h' tk hp' hx' F' N' => h ks' ex' e' h' tk (by rw [List.append_assoc] at hp'; exact hp') hx' F' N'
        refine paired_snoc (paired_map (fun v y ⟨a, t, n, e1, e2⟩ => ⟨a, t, n, e1, .tail _ e2⟩) hp) ⟨l, t', n, rfl, .head _⟩
end
namespace Hsorted_set
noncomputable abbrev hTy := Program × World × Around × (Value → Shared → Prop) × Shared × Heap × Addr × (Str → Option Value) × (List (Addr × Obj)) × Addr × List Str × Value × (List (Str × Value)) × (Value → Shared → Prop)
noncomputable def hSt (c : hTy) : Prop := (fun (prog : Program) (w : World) (A : Around) (E : Value → Shared → Prop) (s : Shared) (h₀ : Heap) (L : Addr) (m : Str → Option Value) (news : List (Addr × Obj)) (S : Addr) (ss : List Str) (f : Value) (kw : List (Str × Value)) (Q : Value → Shared → Prop) => ∀ (hh : A.handled = none) (F : Fr h₀ L s.heap m) (N : News h₀ L s.heap news) (hS : SetUp prog w s.heap S ss) (h2 : 2 ≤ ss.length) (h64 : ss.length < 64) (hnd : ss.Nodup) (hlen : ∀ y ∈ ss, NoBr y) (hu : A.in1.in1.units < cLine) (ha1 : argsOk "sorted" ⟨[.ref S], kw⟩) (ha2 : ∀ x, argsOk "list.sort" ⟨[.ref x], kw⟩) (ht : ∀ x, Builtin.«list.sort» ⟨[.ref x], kw⟩ = ksk_tree x f false) (hf : KeyCall prog w A.in1.in1 h₀ L m news f) (h : ∀ D e h' tk d ys ks, StrsAre ys ks → ks.Perm ss → Fr h₀ L h' m → News h₀ L h' ((D, W.listOf ys.toArray e) :: news) → AllNe D news → Q (.ref D) { s with heap := h', toks := tk, drawn := d }), (wpAny (model prog w) A (call (.builtin "sorted") [.ref S] kw) Q E s : Prop)) c.1 c.2.1 c.2.2.1 c.2.2.2.1 c.2.2.2.2.1 c.2.2.2.2.2.1 c.2.2.2.2.2.2.1 c.2.2.2.2.2.2.2.1 c.2.2.2.2.2.2.2.2.1 c.2.2.2.2.2.2.2.2.2.1 c.2.2.2.2.2.2.2.2.2.2.1 c.2.2.2.2.2.2.2.2.2.2.2.1 c.2.2.2.2.2.2.2.2.2.2.2.2.1 c.2.2.2.2.2.2.2.2.2.2.2.2.2
theorem hNe : Nonempty hTy := ⟨default, w0, {}, (fun _ => (fun _ => False)), {}, default, (0 : Nat), (fun _ => none), [], (0 : Nat), [], default, [], (fun _ => (fun _ => False))⟩
noncomputable def hCc : hTy := @Classical.epsilon hTy hNe fun x => ¬ hSt x
@[irreducible] noncomputable def prog : Program := hCc.1
@[irreducible] noncomputable def w : World := hCc.2.1
@[irreducible] noncomputable def A : Around := hCc.2.2.1
@[irreducible] noncomputable def E : Value → Shared → Prop := hCc.2.2.2.1
@[irreducible] noncomputable def s : Shared := hCc.2.2.2.2.1
@[irreducible] noncomputable def h₀ : Heap := hCc.2.2.2.2.2.1
@[irreducible] noncomputable def L : Addr := hCc.2.2.2.2.2.2.1
@[irreducible] noncomputable def m : Str → Option Value := hCc.2.2.2.2.2.2.2.1
@[irreducible] noncomputable def news : List (Addr × Obj) := hCc.2.2.2.2.2.2.2.2.1
@[irreducible] noncomputable def S : Addr := hCc.2.2.2.2.2.2.2.2.2.1
@[irreducible] noncomputable def ss : List Str := hCc.2.2.2.2.2.2.2.2.2.2.1
@[irreducible] noncomputable def f : Value := hCc.2.2.2.2.2.2.2.2.2.2.2.1
@[irreducible] noncomputable def kw : List (Str × Value) := hCc.2.2.2.2.2.2.2.2.2.2.2.2.1
@[irreducible] noncomputable def Q : Value → Shared → Prop := hCc.2.2.2.2.2.2.2.2.2.2.2.2.2
theorem hMain (hh : A.handled = none) (F : Fr h₀ L s.heap m) (N : News h₀ L s.heap news) (hS : SetUp prog w s.heap S ss) (h2 : 2 ≤ ss.length) (h64 : ss.length < 64) (hnd : ss.Nodup) (hlen : ∀ y ∈ ss, NoBr y) (hu : A.in1.in1.units < cLine) (ha1 : argsOk "sorted" ⟨[.ref S], kw⟩) (ha2 : ∀ x, argsOk "list.sort" ⟨[.ref x], kw⟩) (ht : ∀ x, Builtin.«list.sort» ⟨[.ref x], kw⟩ = ksk_tree x f false) (hf : KeyCall prog w A.in1.in1 h₀ L m news f) (h : ∀ D e h' tk d ys ks, StrsAre ys ks → ks.Perm ss → Fr h₀ L h' m → News h₀ L h' ((D, W.listOf ys.toArray e) :: news) → AllNe D news → Q (.ref D) { s with heap := h', toks := tk, drawn := d }) : wpAny (model prog w) A (call (.builtin "sorted") [.ref S] kw) Q E s := by
  refine call_function_entry_kw kind_sorted plain_sorted entry_sorted ha1 ?_
  unfold Builtin.«sorted»
  refine wpAny_bind (m := checkCount "sorted" 1 1 _) (wpAny_pure ?_)
  refine wpAny_bind (collect_set (A := A.in1) hh hS h2 (by simp [scanBound]; omega) fun g tk d xs ks hxs hkp hold => ?_)
  have hl : xs.length = ss.length := by rw [hxs.length, hkp.length_eq]
  refine wpAny_bind (wpAny_newList ?_ (by rw [sizeLine_eq]; omega))
  have hoL : (g.push (seqObj "list" xs.toArray 0)).get? g.objs.size = some (seqObj "list" xs.toArray 0) := Heap.get?_push_size _ rfl
  have keep : ∀ b o, s.heap.get? b = some o → (g.push (seqObj "list" xs.toArray 0)).get? b = some o := fun b o e => Heap.get?_push_of_some _ (hold b o e)
  have hLg : L < g.objs.size := (F.kept hold).ns.lt
  refine wpAny_bind (wpAny_holding (wpAny_call_entry_kw slot_list_sort ⟨_, hoL, rfl⟩ entry_list_sort ?body (ha2 _)))
  case body =>
    show wpAny (model prog w) A.in1.in1 (Builtin.«list.sort» ⟨[.ref g.objs.size], kw⟩) _ _ _
    rw [ht]
    have F1 : Fr h₀ L (g.push (seqObj "list" xs.toArray 0)) m := F.kept keep
    have N1 : News h₀ L (g.push (seqObj "list" xs.toArray 0)) news := N.grown keep
    have hne0 : ∀ q ∈ news, q.1 ≠ g.objs.size := fun q hq => Nat.ne_of_lt (Heap.lt_size (hold _ _ (N q hq).1))
    refine kat_keyed (s := { s with heap := g.push (seqObj "list" xs.toArray 0), toks := tk, drawn := d }) F1 N1 hoL (Nat.ne_of_gt hLg) (Heap.get?_none_of_le (Nat.le_trans F.above (Nat.le_of_lt hLg))) hne0 (by omega) (by omega) fun kS e1 h' F' N' l0 l1 => ?_
    refine keys_all hf (Nat.ne_of_lt l0) (fun q hq => Nat.ne_of_lt (l1 q hq)) xs ks [] [] [] 0 _ hxs (fun y hy => hlen y (hkp.mem_iff.mp hy)) .nil (fun q hq => by cases hq) F' N' fun ks' ex' e' h3 tk3 hp' hx' F3 N3 => ?_
    rw [List.nil_append] at hp'
    have hl' : ks'.length = xs.length := by rw [paired_len hp', ← hxs.length]
    have at3 : ∀ i, i < ks'.length → ∃ a t, ks'.getD i Value.none = .ref a ∧ h3.IsList a #[.str (ks.getD i Str.empty) t] := fun i hi => by
      obtain ⟨b, hb, a, t, n, e1, e2⟩ := paired_get hp' i ks'[i] (by simp [hi])
      refine ⟨a, t, by simp [hi, ← e1], ?_⟩
      have eb : ks.getD i Str.empty = b := by simp [List.getD, hb]
      rw [eb]
      exact (PySem.IsL.isList (N3 _ (.tail _ (.tail _ (List.mem_append_left _ e2)))).1)
    refine kas_kind (T := .type "list") (by omega) (fun v hv => ?_) (by decide) (by decide) ?_
    · obtain ⟨i, hi, rfl⟩ := List.getElem_of_mem hv
      obtain ⟨a, t, e, ol, ho, hc, _⟩ := at3 i hi
      have e' : ks'[i] = .ref a := by simpa [hi] using e
      rw [e']
      exact fun A' Q' E' s2 k q => wpAny_typeOf ⟨ol, k _ _ ho, hc⟩ q
    · have hkl : ks.length = xs.length := hxs.length.symm
      have hknd : ((ks.map fun x => (x, x)).map (·.1)).Nodup := by
        rw [List.map_map, show ((fun x : Str × Str => x.1) ∘ fun x => (x, x)) = id from rfl, List.map_id]
        exact hkp.nodup_iff.mpr hnd
      have hil : (ks.map fun x => (x, x)).length = ks.length := by simp
      have hnm : ∀ i, i < ks.length → nm (ks.map fun x => (x, x)) i = ks.getD i Str.empty := fun i hi => by simp [nm, List.getD, hi]
      have run := sort_run (ltI_ord hknd) (by omega)
      rw [hil, hkl] at run
      refine KP_wp (I := fun s' => s' = { s with heap := h3, toks := tk3, drawn := d }) (fun i j C s' hi hj hij hs hC => ?_) (fun p s' hp hs => ?_) _ _ run rfl
      · subst hs
        unfold kas_ask
        obtain ⟨a, t, e1, hla⟩ := at3 i (by omega)
        obtain ⟨b, u, e2, hlb⟩ := at3 j (by omega)
        show wpAny _ _ (keyLt' oneType' (ks'.getD i Value.none) (ks'.getD j Value.none)) _ _ _
        rw [e1, e2, keyLt'_oneType]
        have hne : ks.getD i Str.empty ≠ ks.getD j Str.empty := by
          rw [← hnm i (by omega), ← hnm j (by omega)]
          exact nm_inj hknd (by omega) (by omega) hij
        refine oneLt_list hne hla hlb hu ?_
        have hc := hC _ rfl
        unfold ltI at hc
        rw [hnm i (by omega), hnm j (by omega)] at hc
        exact hc
      · subst hs
        have hdk : @Ne Nat g.objs.size kS := Nat.ne_of_lt l0
        have hUk : ∀ q ∈ ((g.objs.size, seqObj "list" #[] e1) :: (ex' ++ news) : List (Addr × Obj)), @Ne Nat q.1 kS := fun q hq => by
          rcases List.mem_cons.mp hq with rfl | hq
          · exact hdk
          · rcases List.mem_append.mp hq with hq | hq
            · exact (hx' q hq).1
            · exact Nat.ne_of_lt (l1 q hq)
        have hUd : ∀ q ∈ (ex' ++ news : List (Addr × Obj)), @Ne Nat q.1 g.objs.size := fun q hq => by
          rcases List.mem_append.mp hq with hq | hq
          · exact (hx' q hq).2
          · exact hne0 q hq
        refine KatFin.intro (s := { s with heap := h3, toks := tk3, drawn := d }) F3 N3 (UpdF.head hUk) fun h4 c F4 N4 => ?_
        refine KasFin.intro (s := { s with heap := h4, toks := tk3, drawn := d }) F4 N4 (UpdF.tail hdk.symm (UpdF.head hUd)) fun h5 c2 F5 N5 => ?_
        have hpl : p.toList.Perm (List.range xs.length) := hp.1
        have hys : (p.toList.map fun i => xs.getD i Value.none).Perm xs := by
          refine (hpl.map _).trans (List.Perm.of_eq ?_)
          refine List.ext_getElem (by simp) fun i h1 h2 => ?_
          simp [h2]
        obtain ⟨zs, hzs, hzp⟩ := strs_perm hys hxs
        refine ⟨_, rfl, wpAny_pure ⟨_, rfl, h g.objs.size c2 h5 tk3 d _ zs hzs (hzp.trans hkp) F5 (fun q hq => ?_) (allNe_of fun q hq => hne0 q hq)⟩⟩
        rcases List.mem_cons.mp hq with rfl | hq
        · exact N5 _ (.tail _ (.head _))
        · exact N5 _ (.tail _ (.tail _ (List.mem_append_right _ hq)))
end Hsorted_set
section
variable {prog : Program} {w : World} {A : Around} {E : Value → Shared → Prop} {s : Shared} {h₀ : Heap} {L : Addr} {m : Str → Option Value} {news : List (Addr × Obj)}
theorem sorted_set {S : Addr} {ss : List Str} {f : Value} {kw : List (Str × Value)} {Q : Value → Shared → Prop} (hh : A.handled = none) (F : Fr h₀ L s.heap m) (N : News h₀ L s.heap news) (hS : SetUp prog w s.heap S ss) (h2 : 2 ≤ ss.length) (h64 : ss.length < 64) (hnd : ss.Nodup) (hlen : ∀ y ∈ ss, NoBr y) (hu : A.in1.in1.units < cLine) (ha1 : argsOk "sorted" ⟨[.ref S], kw⟩) (ha2 : ∀ x, argsOk "list.sort" ⟨[.ref x], kw⟩) (ht : ∀ x, Builtin.«list.sort» ⟨[.ref x], kw⟩ = ksk_tree x f false) (hf : KeyCall prog w A.in1.in1 h₀ L m news f) (h : ∀ D e h' tk d ys ks, StrsAre ys ks → ks.Perm ss → Fr h₀ L h' m → News h₀ L h' ((D, W.listOf ys.toArray e) :: news) → AllNe D news → Q (.ref D) { s with heap := h', toks := tk, drawn := d }) : wpAny (model prog w) A (call (.builtin "sorted") [.ref S] kw) Q E s := hen Hsorted_set.hSt Hsorted_set.hNe (by with_unfolding_all exact Hsorted_set.hMain) (prog, w, A, E, s, h₀, L, m, news, S, ss, f, kw, Q) hh F N hS h2 h64 hnd hlen hu ha1 ha2 ht hf h
end
end
-- BaseM
section
/-- what a call promises that changes what stands in the ledger sub -/
noncomputable def MCall (prog : Program) (w : World) (f : Addr) (vs : List Value) (dN uN : Nat) (sub : List (Addr × Obj)) (H : Heap → Heap → Prop) (P : Heap → Value → Heap → Prop) : Prop :=
  ∀ (p : Program) (loose : List Str) (mean : ExcName → Option Value) (mg mb : Str → Option Value) (dp un : Nat) (gd : Option (List Code)) (cn : Str) (cs : Scope) (a : Addr) (ccd : Value) (cl : List (Str × Addr)) (outer : List Env) (A₀ : Around) (base h₀ : Heap) (L : Addr) (m : Str → Option Value) (s : Shared) (Q E : Value → Shared → Prop),
    Below A₀ base outer h₀ → Fr h₀ L s.heap m → (hd.heap_39 w.params).In h₀ → News h₀ L s.heap sub → Top p loose mean mg mb h₀ → cs.kind = .function → dp + dN < recursionLimit → un + uN < cLine → H h₀ s.heap →
    (∀ v h' tk' d', (∀ b o, s.heap.get? b = some o → b ∉ sub.map (·.1) → h'.get? b = some o) → P s.heap v h' → Q v { s with heap := h', toks := tk', drawn := d' }) →
    wpAny (model prog w) (ktrTop dp un gd cn cs L a ccd cl outer) (call (.ref f) vs) Q E s
section
variable {prog : Program} {w : World} {A A₀ : Around} {s : Shared} {K : Frag} {L : Addr} {h₀ base : Heap} {m mg mb : Str → Option Value} {p : Program} {loose : List Str} {mean : ExcName → Option Value} {news : List (Addr × Obj)}
theorem code_defGC {env : Env} {outer : List Env} {R : Result → Shared → Prop} {name qual : Str} {params : Arguments} {body : List Stmt} {scope : Scope} {dV kV doc pm cdv ct oc : Value} {an od : Option Addr} {osl : Array (Option Value)} {f : Addr} {args : Args} {binds : List (Str × Value)}
    (B : Below A₀ base outer h₀) (F : Fr h₀ L s.heap m) (X₀ : K.In h₀) (N : News h₀ L s.heap news) (T : Top p loose mean mg mb h₀) (hA : A.frames = some (env :: outer)) (hf : env.frame = some L) (hke : env.scope.kind = .function)
    (ho : K.lookup f = some ⟨oc, od, .func (fnOf name qual params body scope dV kV doc pm an cdv ct), osl⟩) (hcd : codeIn K cdv qual = true) (hroom : A.depth < recursionLimit)
    (hbind : BindsTo s (fnOf name qual params body scope dV kV doc pm an cdv ct) args binds) (hkind : (binds.all fun y => scope.names.lookup y.1 == some .local || scope.names.lookup y.1 == some .cell) = true)
    (hnd : ((cellsFrom 0 scope.names []).map (·.1)).Nodup)
    (h : ∀ g L' h₁ tk cells, Fr h₀ L g m → Fr g L' h₁ (bindL (envOfC qual scope L' f cdv).kindOf binds fun _ => none) → News g L' h₁ (cells ++ news) →
      CellsAre (bindC (envOfC qual scope L' f cdv).kindOf binds fun _ => none) (cellsFrom (L' + 1) scope.names []) cells → Below A base (env :: outer) g → K.In g → Top p loose mean mg mb g → GSub s.heap g (news.map (·.1)) → h₀.StaysIn g → (∀ p ∈ news, p.1 < L') →
      wpAny (model prog w) (A.deeper (envOfC qual scope L' f cdv)) (execs body (envOfC qual scope L' f cdv))
        (fun fl s' => LeaveK h₀ L m g R (match fl with | .ret v => v | _ => .none) s')
        (fun e s' => wpAny (model prog w) (A.deeper (envOfC qual scope L' f cdv)) (leaving (envOfC qual scope L' f cdv) e) (fun _ s'' => R (.error e) s'') (fun e' s'' => R (.error e') s'') s')
        { s with heap := h₁, toks := tk })
    (hco : scope.isCoroutine = false) (hgen : scope.isGenerator = false) (hk : scope.kind = .function) : codeAny (model prog w) A (.call (.ref f) args) R s := by
  obtain ⟨FG, BG, st, lv⟩ := groundX (R := R) B F N hA hf hke
  refine codeAny_call_function (fd := fnX name qual params body scope [] dV kV doc pm an cdv ct) hroom ((X₀.keeps F.keep) _ _ ho) rfl hco hgen rfl (codeRec_of (X₀.keeps F.keep) hcd) (hbind _ _ _ _ ?_)
  refine wpAny_newFunctionEnv_cells hk (kindsX hkind _) fun env' he s' x => ?_
  subst he
  refine ⟨(T.nolimit.keeps F.keep).keeps x.toInCall.keep, codeAny_func ?_⟩
  obtain ⟨h₁, tk, rfl, _⟩ := x.done
  have hk₁ := x.toInCall.keep
  obtain ⟨cells, NC, Y⟩ := Cl.news (h₀ := s.heap) (Nat.le_refl _) fun n c hm => ⟨x.cell n c (lookup_of_mem_nodup (cellsFrom_names scope.names 0 (s.heap.objs.size + 1) [] [] rfl ▸ hnd) hm), x.above n c hm⟩
  refine wpAny_mono (h _ s.heap.objs.size h₁ tk cells FG ⟨x.toInCall.ns, fun b o e => hk₁ b o (of_hideAll _ e), Nat.le_of_eq (hideAll_size _ _)⟩ (fun p hp => ?_) Y BG (X₀.keeps st) (T.keeps st) (fun b o e n => hideAll_get _ e n) st (fun p hp => Heap.lt_size (N p hp).1)) (fun fl s' hl => lv _ _ hl) fun _ _ y => y
  rcases List.mem_append.mp hp with hp | hp
  · refine ⟨(NC p hp).1, (NC p hp).2.1, ?_⟩
    cases q : (hideAll s.heap (news.map (·.1))).get? p.1 with
    | none => rfl
    | some o => have := of_hideAll _ q; rw [(NC p hp).2.2] at this; cases this
  · exact ⟨hk₁ _ _ (N p hp).1, Nat.ne_of_lt (Heap.lt_size (N p hp).1), hideAll_none _ (List.mem_map_of_mem hp)⟩
theorem kla_codeP {env : Env} {outer : List Env} {R : Result → Shared → Prop} {name qual : Str} {params : Arguments} {body : Expr} {scope : Scope} {pm ctv : Value} {c' : Addr} {f : Addr} {args : Args} {binds : List (Str × Value)}
    (B : Below A₀ base outer h₀) (F : Fr h₀ L s.heap m) (X₀ : K.In h₀) (T : Top p loose mean mg mb h₀) (hA : A.frames = some (env :: outer)) (hf : env.frame = some L) (hke : env.scope.kind = .function)
    (ho : s.heap.get? f = some (kla_obj name qual params body scope [] pm c' ctv)) (hcd : s.heap.CodeRec (.ref c') qual) (hroom : A.depth < recursionLimit)
    (hbind : bindArgs (kla_fn name qual params body scope [] pm (.ref c') ctv) args = pure binds) (hloc : ∀ y ∈ binds, scope.names.lookup y.1 = some .local)
    (h : ∀ L' h₁, Fr s.heap L' h₁ (fun y => binds.reverse.lookup y) → News s.heap L' h₁ [] → Below A base (env :: outer) s.heap → K.In s.heap → Top p loose mean mg mb s.heap →
      wpAny (model prog w) (A.deeper (envOf qual scope L' f (.ref c'))) (eval body (envOf qual scope L' f (.ref c')))
        (fun v s' => LeaveK h₀ L m s.heap R v s')
        (fun e s' => wpAny (model prog w) (A.deeper (envOf qual scope L' f (.ref c'))) (leaving (envOf qual scope L' f (.ref c')) e) (fun _ s'' => R (.error e) s'') (fun e' s'' => R (.error e') s'') s')
        { s with heap := h₁, toks := s.toks + binds.length })
    (hco : scope.isCoroutine = false) (hgen : scope.isGenerator = false) (hk : scope.kind = .function)
    (hcell : ∀ x ∈ scope.names, x.2 ≠ .cell) : codeAny (model prog w) A (.call (.ref f) args) R s := by
  obtain ⟨FG, BG, st, lv⟩ := groundX (R := R) B F News.nil hA hf hke
  refine kla_callFunE hroom ho rfl hco hgen rfl hcd ?_
  rw [hbind]
  refine wpAny_pure (wpAny_newFunctionEnv hcell hloc (fun h₁ hns hsb => ⟨((T.nolimit).keeps F.keep).fresh _ hsb, ?_⟩) hk)
  show codeAny _ _ (.expr body (envOf qual scope s.heap.objs.size f (.ref c'))) _ _
  have hk₁ : ∀ b o, s.heap.get? b = some o → h₁.get? b = some o := fun b o e => hsb.extBut b o (Nat.ne_of_lt (Heap.lt_size e)) (Heap.get?_push_of_some _ e)
  exact kla_codeExpr (wpAny_mono (h s.heap.objs.size h₁ ⟨hns, fun b o e => hk₁ b o e, Nat.le_refl _⟩ News.nil BG (X₀.keeps F.keep) (T.keeps F.keep)) (fun v s' hl => lv _ _ hl) fun _ _ y => y)
end
end
-- LibT
section
set_option maxRecDepth 100000
section
variable {prog : Program} {w : World} {A : Around} {E : Value → Shared → Prop} {s : Shared} {x y a b : Str} {t u v : Tok} {k : Int} {h₀ : Heap} {L : Addr} {m : Str → Option Value} {news : List (Addr × Obj)} {Q : Value → Shared → Prop}
end
theorem one_pair {l : List (Str × Tok)} {a : Str} (e : l.map (·.1) = [a]) : ∃ t, l = [(a, t)] := by
  obtain ⟨p, l1, rfl, rfl, e1⟩ := List.map_eq_cons_iff.mp e
  rw [List.map_eq_nil_iff.mp e1]
  exact ⟨p.2, rfl⟩
theorem two_pairs {l : List (Str × Tok)} {a b : Str} (e : l.map (·.1) = [a, b]) : ∃ t1 t2, l = [(a, t1), (b, t2)] := by
  obtain ⟨p, l1, rfl, rfl, e1⟩ := List.map_eq_cons_iff.mp e
  obtain ⟨t, rfl⟩ := one_pair e1
  exact ⟨p.2, t, rfl⟩
section
variable {prog : Program} {w : World} {A : Around} {E : Value → Shared → Prop} {s : Shared} {x y a b : Str} {t u v : Tok} {k : Int} {h₀ : Heap} {L : Addr} {m : Str → Option Value} {news : List (Addr × Obj)} {Q : Value → Shared → Prop}
theorem split_two (F : Fr h₀ L s.heap m) (N : News h₀ L s.heap news) (hy : (y.length == 0) = false) (e : Txt.splitMax x y 1 = [a, b]) (hsz : x.length ≤ 1000)
    (h : ∀ D h' tk t1 t2, Fr h₀ L h' m → News h₀ L h' ((D, W.listOf #[.str a t1, .str b t2] 0) :: news) → (∀ p ∈ news, p.1 < D) → Q (.ref D) { s with heap := h', toks := tk }) :
    wpAny (model prog w) A (call (.builtin "str.split") [.str x t, .str y u, .int 1 v]) Q E s := by
  refine splitN2A F N hy (by decide) (fun l h' tk el _ _ _ F' N' => ?_) (by have := sizeLine_eq; omega)
  rw [e] at el
  obtain ⟨t1, t2, rfl⟩ := two_pairs el
  exact h _ h' tk t1 t2 F' N' fun p hp => Heap.lt_size (N p hp).1
theorem split_self (F : Fr h₀ L s.heap m) (N : News h₀ L s.heap news) (hy : (y.length == 0) = false) (e : Txt.splitMax x y 1 = [x]) (hsz : x.length ≤ 1000)
    (h : ∀ D h' tk t1, Fr h₀ L h' m → News h₀ L h' ((D, W.listOf #[.str x t1] 0) :: news) → (∀ p ∈ news, p.1 < D) → Q (.ref D) { s with heap := h', toks := tk }) :
    wpAny (model prog w) A (call (.builtin "str.split") [.str x t, .str y u, .int 1 v]) Q E s := by
  refine splitN2A F N hy (by decide) (fun l h' tk el _ _ _ F' N' => ?_) (by have := sizeLine_eq; omega)
  rw [e] at el
  obtain ⟨t1, rfl⟩ := one_pair el
  exact h _ h' tk t1 F' N' fun p hp => Heap.lt_size (N p hp).1
theorem post_toks {s : Shared} {c : Prop} [Decidable c] {y z : Str} {t : Tok} {Q : Value → Shared → Prop} (h : (if c then y else z).length ≤ sizeLine ∧ ∀ t' k, s.toks ≤ k → Q (.str (if c then y else z) t') { s with toks := k }) :
    (if c then Made.val (.str y t) else Made.str z).post Q s := by
  by_cases hc : c
  · rw [if_pos hc]; have h' := h.2 t s.toks (Nat.le_refl _); rw [if_pos hc] at h'; exact h'
  · rw [if_neg hc]; have h' := h.2 s.toks (s.toks + 1) (Nat.le_succ _); have h1 := h.1; rw [if_neg hc] at h' h1; exact ⟨h1, h'⟩
theorem slice_ns_k {value slice : Expr} {j : Int} {uj : Tok} (hF : Fr h₀ L s.heap m) (hN : News h₀ L s.heap news) (h : ∀ h' t' k, s.toks ≤ k → Fr h₀ L h' m → News h₀ L h' news → Q (.str (Txt.slice x none (some j)) t') { s with heap := h', toks := k })
    (hs : subscripted slice false (.str x t) (.ref s.heap.objs.size) = operate [.ref s.heap.objs.size, .str x t] (getItem (.str x t) (.ref s.heap.objs.size)))
    (ht : ∀ r, letTemporaryGo value (.str x t) r = pure ()) (hsz : x.length ≤ 1000) :
    wpAny (model prog w) A (subscriptTail value slice (.str x t) (.ref s.heap.objs.size)) Q E { s with heap := s.heap.push { cls := .type "slice", data := .fields #[.none, .int j uj, .none] } } :=
  tail_of_ItemOn ⟨"str", _, PySem.F.slot_str_getitem.lookup, typeIs_str _ _ _, wpAny_getItem_str_slice (l := none) (u := some (j, uj)) (st := none) ⟨_, Heap.get?_push_size _ rfl, rfl, rfl⟩ rfl
    (post_toks ⟨Nat.le_trans (Txt.slice_le x _ _) (by have := sizeLine_eq; omega), fun t' k hk => h _ t' k hk (Fr.pushS hF _) (fun p hp => ⟨Heap.get?_push_of_some _ (hN p hp).1, (hN p hp).2⟩)⟩)⟩ hs ht
theorem rep_k {z : Str} (hu : u ≠ 0) (hv : v ≠ 0) (huv : u ≠ v) (hyz : (y == z) = false) (hx : x.length ≤ 1000) (hz : z.length ≤ 14)
    (hq : ∀ t' k, s.toks ≤ k → Q (.str (Txt.replace x y z) t') { s with toks := k }) : wpAny (model prog w) A (call (.builtin "str.replace") [.str x t, .str y u, .str z v]) Q E s := by
  have e : (2 : Nat) ^ 24 = 16777216 := by decide
  have hb : x.length + (x.length + 1) * z.length ≤ 16777216 := by
    have h1 : (x.length + 1) * z.length ≤ (x.length + 1) * 14 := Nat.mul_le_mul_left _ hz
    omega
  have hl : Builtin.Str.tooLong (x.length + (Builtin.Str.occurrences x y 0 x.length (x.length + 1)).length * z.length) = false := by
    have h1 := StrLaws.occ_length_le x y 0 x.length (x.length + 1)
    have h2 : (Builtin.Str.occurrences x y 0 x.length (x.length + 1)).length * z.length ≤ (x.length + 1) * z.length := Nat.mul_le_mul_right _ h1
    unfold Builtin.Str.tooLong sizeLine
    exact decide_eq_false (by omega)
  refine call_gives PySem.F.slot_str_replace (typeIs_str _ _ _) PySem.F.entry_str_replace (PySem.F.args_str_replace_3 _ _ _)
    (gives_str_replace x y z t u v fun _ => ⟨by simp [hu, hv], by simp [huv], hyz, hl⟩) ?_
  have hq' := hq
  unfold Txt.replace at hq'
  cases hc : ((Builtin.Str.occurrences x y 0 x.length (x.length + 1)).isEmpty || (y.length == 0 && z.length == 0))
  · rw [hc] at hq'
    simp only [Bool.false_eq_true, if_false] at hq' ⊢
    exact ⟨fits_replaced y hb, hq' _ _ (Nat.le_succ _)⟩
  · rw [hc] at hq'
    simp only [if_true] at hq' ⊢
    exact hq' t s.toks (Nat.le_refl _)
theorem split_one {ps : List Str} (F : Fr h₀ L s.heap m) (N : News h₀ L s.heap news) (hy : (y.length == 0) = false) (e : Txt.split x y = ps) (hsz : x.length ≤ 10000)
    (h : ∀ D ws h' tk, Fr h₀ L h' m → News h₀ L h' ((D, W.listOf (List.toArray ws) 0) :: news) → (∀ p ∈ news, p.1 < D) → StrsAre ws ps → Q (.ref D) { s with heap := h', toks := tk }) :
    wpAny (model prog w) A (call (.builtin "str.split") [.str x t, .str y u]) Q E s := by
  refine splitN1A F N hy (fun l h' tk el hs _ _ F' N' => ?_) (by have := sizeLine_eq; omega)
  rw [e] at el
  rw [el] at hs
  exact h _ (strValues l) h' tk F' N' (fun p hp => Heap.lt_size (N p hp).1) hs
end
end
-- Lib8
section
section
variable {prog : Program} {w : World} {A : Around} {E : Value → Shared → Prop} {s s₁ : Shared} {env : Env} {h₀ : Heap} {L C : Addr} {m m₃ : Str → Option Value} {news : List (Addr × Obj)} {scope : Scope} {cl : List (Str × Addr)} {K : Type} [DecidableEq K] {knd : KeyKind prog w K}
/-- what the trees of key and value leave -/
noncomputable def EltEndD (knd : KeyKind prog w K) (p : Value → Bool) (FK : Value → K → Prop) (G : Heap → Value → Value → Prop) (v : Value) (s : Shared) (key y : Value) (s₄ : Shared) : Prop :=
  ∃ h tk, s₄ = { s with heap := h, toks := tk } ∧ s.heap.StaysIn h ∧ p v = true ∧ (∃ k, knd.is k key = true ∧ FK v k) ∧ ∀ hf : Heap, (∀ b o, s.heap.get? b = none → h.get? b = some o → hf.get? b = some o) → G hf v y
theorem turnD_name {kx vx : Expr} {x : Str} {pos : Pos} {v : Value} {p : Value → Bool} {FK : Value → K → Prop} {G : Heap → Value → Value → Prop} (F : Fr h₀ L s₁.heap m) (N : News h₀ L s₁.heap news) (hC : s₁.heap.objs.size ≤ C) (st : s₁.heap.StaysIn s.heap) (hn : s.heap.Ns C m₃)
    (hx : scope.names.lookup x = some .local) (hkind : scope.kind = .function)
    (h : ∀ h' tk oC m₂, LCg.NsObj oC m₂ → m₂ x = some v → Fr h₀ L h' m → News h₀ L h' ((C, oC) :: news) → s₁.heap.StaysIn h' → AllNe C news → @Ne Nat C L →
      wpAny (model prog w) A (eval kx (compEnvC scope cl C env)) (fun key s₄ => wpAny (model prog w) A (eval vx (compEnvC scope cl C env)) (fun y s₅ => EltEndD knd p FK G v { s with heap := h', toks := tk } key y s₅) (fun _ _ => False) s₄) (fun _ _ => False) { s with heap := h', toks := tk }) :
    TurnD knd A (compEnvC scope cl C env) (.Name x pos) [] kx vx C p FK G v s := by
  refine wpAny_assign_Name (wpAny_storeName_local (lookup_relabel_local hx) hn (fun h₂ hn₂ hs₂ => ?_) (by simp [compEnvC, relabel, hkind]))
  refine tests_nil ?_
  simp only [if_true]
  obtain ⟨oC, hoC, F', N', hne, hL⟩ := block_ground F N hC (fun b o hb e => hs₂.extBut b o hb (st b o e)) hn₂
  refine wpAny_mono (h h₂ _ oC _ hoC (by simp) F' N' (fun b o e => hs₂.extBut b o (Nat.ne_of_lt (Nat.lt_of_lt_of_le (Heap.lt_size e) hC)) (st b o e)) hne hL) (fun key s₄ h₄ => wpAny_mono h₄ (fun y s₅ h₅ => ?_) fun _ _ e => e) fun _ _ e => e
  obtain ⟨h', tk, rfl, st', hp, hk, hG⟩ := h₅
  refine ⟨h', tk, _, rfl, hn₂.at' fun o e => st' _ o e, fun b o hb e => st' b o (hs₂.extBut b o hb e), hp, hk, fun hf kf => hG hf fun b o e1 e2 => ?_⟩
  refine kf b o ?_ e2
  by_cases hb : b = C
  · obtain ⟨o', _, _, ho', _⟩ := hn₂
    rw [hb] at e1; dsimp only at e1; erw [ho'] at e1; cases e1
  · exact (hs₂.2 b hb).symm.trans e1
theorem turnD_pair {kx vx : Expr} {a b : Str} {pa pb tp : Pos} {kk : Nat} {T : Addr} {x y : Value} {p : Value → Bool} {FK : Value → K → Prop} {G : Heap → Value → Value → Prop} (hh : A.handled = none) (F : Fr h₀ L s₁.heap m) (N : News h₀ L s₁.heap news) (hC : s₁.heap.objs.size ≤ C) (st : s₁.heap.StaysIn s.heap) (hn : s.heap.Ns C m₃)
    (ht : s₁.heap.IsTuple T #[x, y]) (ha : scope.names.lookup a = some .local) (hb : scope.names.lookup b = some .local) (hkind : scope.kind = .function) (hab : a ≠ b)
    (h : ∀ h' tk oC m₂, LCg.NsObj oC m₂ → m₂ a = some x → m₂ b = some y → Fr h₀ L h' m → News h₀ L h' ((C, oC) :: news) → s₁.heap.StaysIn h' → AllNe C news → @Ne Nat C L →
      wpAny (model prog w) A (eval kx (compEnvC scope cl C env)) (fun key s₄ => wpAny (model prog w) A (eval vx (compEnvC scope cl C env)) (fun y s₅ => EltEndD knd p FK G (.ref T) { s with heap := h', toks := tk } key y s₅) (fun _ _ => False) s₄) (fun _ _ => False) { s with heap := h', toks := tk }) :
    TurnD knd A (compEnvC scope cl C env) (.Tuple [.Name a pa, .Name b pb] kk tp) [] kx vx C p FK G (.ref T) s := by
  refine kcp_assign (env := compEnvC scope cl C env) hh (ht.at fun o e => st _ o e) (lookup_relabel_local ha) (lookup_relabel_local hb) (by simp [compEnvC, relabel, hkind]) hn fun h₄ tk₄ hn₄ hs₄ => ?_
  refine tests_nil ?_
  simp only [if_true]
  obtain ⟨oC, hoC, F', N', hne, hL⟩ := block_ground F N hC (fun b o hb e => hs₄ b o hb (st b o e)) hn₄
  have stt : s₁.heap.StaysIn h₄ := fun b o e => hs₄ b o (Nat.ne_of_lt (Nat.lt_of_lt_of_le (Heap.lt_size e) hC)) (st b o e)
  refine wpAny_mono (h h₄ tk₄ oC _ hoC (by simp [hab]) (by simp) F' N' stt hne hL) (fun key s₄ h₄' => wpAny_mono h₄' (fun y s₅ h₅ => ?_) fun _ _ e => e) fun _ _ e => e
  obtain ⟨h', tk, rfl, st', hp, hk, hG⟩ := h₅
  refine ⟨h', tk, _, rfl, hn₄.at' fun o e => st' _ o e, fun b o hb e => st' b o (hs₄ b o hb e), hp, hk, fun hf kf => hG hf fun b o e1 e2 => kf b o ?_ e2⟩
  cases e : s.heap.get? b with
  | none => rfl
  | some o' =>
    by_cases hb : b = C
    · obtain ⟨o', _, _, ho', _⟩ := hn₄
      rw [hb] at e1; dsimp only at e1; erw [ho'] at e1; cases e1
    · dsimp only at e1; rw [hs₄ b o' hb e] at e1; cases e1
end
end
-- Lib9
section
section
variable {prog : Program} {w : World} {A : Around} {E : Value → Shared → Prop} {s : Shared} {env : Env} {K : Type} [DecidableEq K] {knd : KeyKind prog w K}
/-- a relation that a change at X leaves -/
noncomputable def Off (X : Addr) (G : Heap → Value → Value → Prop) (h : Heap) (v y : Value) : Prop := ∀ h' : Heap, (∀ b o, b ≠ X → h.get? b = some o → h'.get? b = some o) → G h' v y
theorem setback_out (h₃ : Heap) (L : Addr) (oL : Obj) : ∀ b o, b ≠ L → (h₃.update L fun _ => oL).get? b = some o → h₃.get? b = some o := fun b o hb e => by
  rw [Heap.get?_update_other h₃ _ (Ne.symm hb)] at e; exact e
theorem setback_in {h' h₃ : Heap} {L C : Addr} {oL oL3 : Obj} (up : ∀ b o, b ≠ L → b ≠ C → h'.get? b = some o → h₃.get? b = some o) (e : h'.get? L = some oL) (e3 : h₃.get? L = some oL3) :
    ∀ b o, b ≠ C → h'.get? b = some o → (h₃.update L fun _ => oL).get? b = some o := fun b o hb q => by
  by_cases h : b = L
  · subst h
    rw [e] at q; cases q
    exact Heap.get?_update_self _ e3 (Heap.get?_some_iff.mp e).2
  · rw [Heap.get?_update_other h₃ _ (Ne.symm h)]; exact up b o h hb q
theorem turnD_off {X : Addr} {cenv : Env} {target : Expr} {ifs : List Expr} {kx vx : Expr} {C : Addr} {p : Value → Bool} {FK : Value → K → Prop} {G : Heap → Value → Value → Prop} {v : Value} (hX : ∃ o, s.heap.get? X = some o) (h : TurnD knd A cenv target ifs kx vx C p FK G v s) : TurnD knd A cenv target ifs kx vx C p FK (Off X G) v s := by
  have key : ∀ r s', TurnEndD knd C p FK G v s r s' → TurnEndD knd C p FK (Off X G) v s r s' := by
    rintro r s' ⟨h, tk, m, rfl, hn, hk, hr⟩
    refine ⟨h, tk, m, rfl, hn, hk, ?_⟩
    match r, hr with
    | none, hr => exact hr
    | some (key, y), ⟨hp, hkey, hG⟩ =>
      refine ⟨hp, hkey, fun hf kf h' kh => hG h' fun b o e1 e2 => kh b o (fun q => ?_) (kf b o e1 e2)⟩
      obtain ⟨o', ho'⟩ := hX
      rw [q, ho'] at e1; cases e1
  refine wpAny_mono h (fun _ s₂ h₂ => wpAny_mono h₂ (fun ok s₃ h₃ => ?_) fun _ _ e => e) fun _ _ e => e
  cases ok with
  | false => simp only [Bool.false_eq_true, if_false] at h₃ ⊢; exact key _ _ h₃
  | true => simp only [if_true] at h₃ ⊢; exact wpAny_mono h₃ (fun k s₄ h₄ => wpAny_mono h₄ (fun y s₅ h₅ => key _ _ h₅) fun _ _ e => e) fun _ _ e => e
theorem turn_off {X : Addr} {cenv : Env} {target : Expr} {ifs : List Expr} {elt : Expr} {C : Addr} {p : Value → Bool} {G : Heap → Value → Value → Prop} {v : Value} (hX : ∃ o, s.heap.get? X = some o) (h : Turn prog w A cenv target ifs elt C p G v s) : Turn prog w A cenv target ifs elt C p (Off X G) v s := by
  have key : ∀ r s', TurnEnd C p G v s r s' → TurnEnd C p (Off X G) v s r s' := by
    rintro r s' ⟨h, tk, m, rfl, hn, hk, hr⟩
    refine ⟨h, tk, m, rfl, hn, hk, ?_⟩
    match r, hr with
    | none, hr => exact hr
    | some y, ⟨hp, hG⟩ =>
      refine ⟨hp, fun hf kf h' kh => hG h' fun b o e1 e2 => kh b o (fun q => ?_) (kf b o e1 e2)⟩
      obtain ⟨o', ho'⟩ := hX
      rw [q, ho'] at e1; cases e1
  refine wpAny_mono h (fun _ s₂ h₂ => wpAny_mono h₂ (fun ok s₃ h₃ => ?_) fun _ _ e => e) fun _ _ e => e
  cases ok with
  | false => simp only [Bool.false_eq_true, if_false] at h₃ ⊢; exact key _ _ h₃
  | true => simp only [if_true] at h₃ ⊢; exact wpAny_mono h₃ (fun y s₄ h₄ => key _ _ h₄) fun _ _ e => e
theorem dict_block {kx vx target iter : Expr} {ifs : List Expr} {scope : Scope} {cl : List (Str × Addr)} {pos : Pos} {s₂ : Shared} {RR : Value → Addr → Result → Shared → Prop} (knd : KeyKind prog w K) (p : Value → Bool) (FK : Value → K → Prop) (G : Heap → Value → Value → Prop)
    (hcell : ∀ y ∈ scope.names, y.2 ≠ .cell) (hkind : scope.kind = .function)
    {I : Addr} {fp wr : List Addr} {n : Nat} {P : Nat → Value → Prop} {St : Nat → Heap → Prop} (W : Walks prog w A I fp wr n P St) (hsz : n ≤ sizeLine) (hst : St 0 s₂.heap) (hfp : ∀ b ∈ fp, b < s₂.heap.objs.size)
    (hlive : ∀ i h, St i h → ∀ b ∈ wr, ∃ o, h.get? b = some o)
    (hgo : ∀ i (s' : Shared) v (Q' : Unit → Shared → Prop), St i s'.heap → Q' () s' → wpAny (model prog w) A (letOwnedTupleGo target (.ref I) v) Q' (fun _ _ => False) s')
    (hq : ∀ C i v s₃ m₃, s₂.heap.objs.size ≤ C → P i v → s₃.heap.Ns C m₃ → (∃ h tk, s₃ = { s₂ with heap := h, toks := tk }) → (∀ b o, b ∉ wr → s₂.heap.get? b = some o → s₃.heap.get? b = some o) →
        TurnD knd A (compEnvC scope cl C env) target ifs kx vx C p FK G v s₃)
    (hRR : ∀ D C h' tk m' kvs (vs : List Value), s₂.heap.objs.size ≤ D → s₂.heap.objs.size ≤ C → D ≠ C → h'.Ns C m' → h'.DictOf knd D kvs → vs.length = n → (∀ j v, vs[j]? = some v → P j v) → (∀ hf : Heap, (∀ b o, b ≠ C → h'.get? b = some o → hf.get? b = some o) → StoredAll FK (G hf) (vs.filter p) kvs) →
        (∀ b o, b ∉ wr → s₂.heap.get? b = some o → h'.get? b = some o) → RR (.ref D) C (.ok .next) { s₂ with heap := h', toks := tk }) :
    wpAny (model prog w) A (newObj (.type "dict") (.dict #[])) (fun acc s₃ => wpAny (model prog w) A (newFunctionEnv scope env.globals cl [] env.qual none .none (some env)) (fun cenv s₄ =>
        codeAny (model prog w) A (.compStart (.DictComp kx vx [⟨target, iter, ifs, 0⟩] scope pos) 0 (.ref I) acc { cenv with scope := relabel scope env }) (RR acc cenv.locals) s₄) E s₃) E s₂ := by
  refine wpAny_newObj_type (wpAny_newFunctionEnv hcell (by intro y hy; simp at hy) (fun h₁ hns₁ hsb₁ => ?_) hkind)
  dsimp only at hns₁ hsb₁ ⊢
  have hnew : (s₂.heap.push { cls := .type "dict", dict := none, data := .dict #[] }).DictOf knd s₂.heap.objs.size [] := Heap.DictOf.new s₂.heap
  generalize hH2 : s₂.heap.push { cls := .type "dict", dict := none, data := .dict #[] } = H2 at hns₁ hsb₁ hnew ⊢
  have hC : H2.objs.size = s₂.heap.objs.size + 1 := by rw [← hH2, Heap.size_push]
  have hDC : s₂.heap.objs.size ≠ H2.objs.size := by rw [hC]; exact Nat.ne_of_lt (Nat.lt_succ_self _)
  have hCle : s₂.heap.objs.size ≤ H2.objs.size := by rw [hC]; exact Nat.le_succ _
  have below : ∀ b, b < s₂.heap.objs.size → b ≠ H2.objs.size ∧ b ≠ s₂.heap.objs.size := fun b hb => ⟨by rw [hC]; exact Nat.ne_of_lt (Nat.lt_succ_of_lt hb), Nat.ne_of_lt hb⟩
  have hDf : s₂.heap.objs.size ∉ fp := fun hm => Nat.lt_irrefl _ (hfp _ hm)
  have hCf : H2.objs.size ∉ fp := fun hm => by have := hfp _ hm; rw [hC] at this; exact Nat.lt_irrefl _ (Nat.lt_of_succ_lt this)
  have old : ∀ b o, s₂.heap.get? b = some o → h₁.get? b = some o := fun b o e => hsb₁.extBut b o (below b (Heap.lt_size e)).1 (Heap.get?_push_of_some _ (hH2 ▸ Heap.get?_push_of_some _ e))
  have hacc : h₁.DictOf knd s₂.heap.objs.size [] := hnew.at fun o e => hsb₁.extBut _ _ hDC (Heap.get?_push_of_some _ e)
  have hst₁ : St 0 h₁ := W.frame _ _ _ hst fun b _ o e => old b o e
  have loop : ∀ s₃ : Shared, s₃ = { s₂ with heap := h₁, toks := s₂.toks + ([] : List (Str × Value)).length } →
      codeAny (model prog w) A (.compLoop (.DictComp kx vx [⟨target, iter, ifs, 0⟩] scope pos) 0 (.ref I) (.ref s₂.heap.objs.size) (compEnvC scope cl H2.objs.size env))
        (RR (.ref s₂.heap.objs.size) H2.objs.size) s₃ := by
    rintro s₃ rfl
    refine compLoopD_walk (hsz := hsz) (cenv := compEnvC scope cl H2.objs.size env) W rfl p FK G hDC hDf hCf hst₁ hacc hns₁ hlive hgo
      (fun i v s₃ m₃ hv hn hs₃ hk => hq _ i v s₃ m₃ hCle hv hn (by obtain ⟨a, b, rfl⟩ := hs₃; exact ⟨a, b, rfl⟩) fun b o hbf e => hk b o (below b (Heap.lt_size e)).1 hbf (below b (Heap.lt_size e)).2 (old b o e))
      fun h' tk m' kvs vs hn ha hlen hP hF hk => ?_
    refine hRR _ _ h' tk m' kvs vs (Nat.le_refl _) hCle hDC hn ha hlen hP hF ?_
    exact fun b o hbf e => hk b o (below b (Heap.lt_size e)).1 hbf (below b (Heap.lt_size e)).2 (old b o e)
  exact codeAny_compStart_dict (loop _ rfl) (W.self 0 _ _ _ hst₁ (loop _ rfl))


theorem list_block {elt target iter : Expr} {ifs : List Expr} {scope : Scope} {cl : List (Str × Addr)} {pos : Pos} {s₂ : Shared} {RR : Value → Addr → Result → Shared → Prop} (p : Value → Bool) (G : Heap → Value → Value → Prop)
    (hcell : ∀ y ∈ scope.names, y.2 ≠ .cell) (hkind : scope.kind = .function)
    {I : Addr} {fp wr : List Addr} {n : Nat} {P : Nat → Value → Prop} {St : Nat → Heap → Prop} (W : Walks prog w A I fp wr n P St) (hsz : n ≤ sizeLine) (hst : St 0 s₂.heap) (hfp : ∀ b ∈ fp, b < s₂.heap.objs.size)
    (hlive : ∀ i h, St i h → ∀ b ∈ wr, ∃ o, h.get? b = some o)
    (hgo : ∀ i (s' : Shared) v (Q' : Unit → Shared → Prop), St i s'.heap → Q' () s' → wpAny (model prog w) A (letOwnedTupleGo target (.ref I) v) Q' (fun _ _ => False) s')
    (hq : ∀ C i v s₃ m₃, s₂.heap.objs.size ≤ C → P i v → s₃.heap.Ns C m₃ → (∃ h tk, s₃ = { s₂ with heap := h, toks := tk }) → (∀ b o, b ∉ wr → s₂.heap.get? b = some o → s₃.heap.get? b = some o) →
        Turn prog w A (compEnvC scope cl C env) target ifs elt C p G v s₃)
    (hRR : ∀ D C h' tk m' ys (vs : List Value), s₂.heap.objs.size ≤ D → s₂.heap.objs.size ≤ C → D ≠ C → h'.Ns C m' → h'.PlainList D ys → vs.length = n → (∀ j v, vs[j]? = some v → P j v) → (∀ hf : Heap, (∀ b o, b ≠ C → h'.get? b = some o → hf.get? b = some o) → Paired (G hf) (vs.filter p) ys.toList) →
        (∀ b o, b ∉ wr → s₂.heap.get? b = some o → h'.get? b = some o) → RR (.ref D) C (.ok .next) { s₂ with heap := h', toks := tk }) :
    wpAny (model prog w) A (newList []) (fun acc s₃ => wpAny (model prog w) A (newFunctionEnv scope env.globals cl [] env.qual none .none (some env)) (fun cenv s₄ =>
        codeAny (model prog w) A (.compStart (.ListComp elt [⟨target, iter, ifs, 0⟩] scope pos) 0 (.ref I) acc { cenv with scope := relabel scope env }) (RR acc cenv.locals) s₄) E s₃) E s₂ := by
  refine wpAny_newObj_type (wpAny_newFunctionEnv hcell (by intro y hy; simp at hy) (fun h₁ hns₁ hsb₁ => ?_) hkind)
  dsimp only at hns₁ hsb₁ ⊢
  generalize hH2 : s₂.heap.push { cls := .type "list", dict := none, data := .seq ([] : List Value).toArray } = H2 at hns₁ hsb₁ ⊢
  have hC : H2.objs.size = s₂.heap.objs.size + 1 := by rw [← hH2, Heap.size_push]
  have hDC : s₂.heap.objs.size ≠ H2.objs.size := by rw [hC]; exact Nat.ne_of_lt (Nat.lt_succ_self _)
  have hCle : s₂.heap.objs.size ≤ H2.objs.size := by rw [hC]; exact Nat.le_succ _
  have below : ∀ b, b < s₂.heap.objs.size → b ≠ H2.objs.size ∧ b ≠ s₂.heap.objs.size := fun b hb => ⟨by rw [hC]; exact Nat.ne_of_lt (Nat.lt_succ_of_lt hb), Nat.ne_of_lt hb⟩
  have hDf : s₂.heap.objs.size ∉ fp := fun hm => Nat.lt_irrefl _ (hfp _ hm)
  have hCf : H2.objs.size ∉ fp := fun hm => by have := hfp _ hm; rw [hC] at this; exact Nat.lt_irrefl _ (Nat.lt_of_succ_lt this)
  have old : ∀ b o, s₂.heap.get? b = some o → h₁.get? b = some o := fun b o e => hsb₁.extBut b o (below b (Heap.lt_size e)).1 (Heap.get?_push_of_some _ (hH2 ▸ Heap.get?_push_of_some _ e))
  have hacc : h₁.PlainList s₂.heap.objs.size #[] := ⟨_, hsb₁.extBut _ _ hDC (Heap.get?_push_of_some _ (hH2 ▸ Heap.get?_push_size _ rfl))⟩
  have hst₁ : St 0 h₁ := W.frame _ _ _ hst fun b _ o e => old b o e
  have loop : ∀ s₃ : Shared, s₃ = { s₂ with heap := h₁, toks := s₂.toks + ([] : List (Str × Value)).length } →
      codeAny (model prog w) A (.compLoop (.ListComp elt [⟨target, iter, ifs, 0⟩] scope pos) 0 (.ref I) (.ref s₂.heap.objs.size) (compEnvC scope cl H2.objs.size env))
        (RR (.ref s₂.heap.objs.size) H2.objs.size) s₃ := by
    rintro s₃ rfl
    refine compLoop_walk (hsz := hsz) (cenv := compEnvC scope cl H2.objs.size env) W rfl p G hDC hDf hCf hst₁ hacc hns₁ hlive hgo
      (fun i v s₃ m₃ hv hn hs₃ hk => hq _ i v s₃ m₃ hCle hv hn (by obtain ⟨a, b, rfl⟩ := hs₃; exact ⟨a, b, rfl⟩) fun b o hbf e => hk b o (below b (Heap.lt_size e)).1 hbf (below b (Heap.lt_size e)).2 (old b o e))
      fun h' tk m' ys vs hn ha hlen hP hF hk => ?_
    refine hRR _ _ h' tk m' ys vs (Nat.le_refl _) hCle hDC hn ha hlen hP hF ?_
    exact fun b o hbf e => hk b o (below b (Heap.lt_size e)).1 hbf (below b (Heap.lt_size e)).2 (old b o e)
  exact codeAny_compStart_list (loop _ rfl) (W.self 0 _ _ _ hst₁ (loop _ rfl))


/-- ready for an assigned dict comprehension over a list -/
noncomputable def CompReadyDA (knd : KeyKind prog w K) (A : Around) (env : Env) (target : Expr) (ifs : List Expr) (kx vx : Expr) (scope : Scope) (cl : List (Str × Addr)) (p : Value → Bool) (FK : Value → K → Prop) (G : Heap → Value → Value → Prop) (y : Str) (Q : Flow → Shared → Prop) (xv : Value) (s₁ : Shared) : Prop :=
  ∃ l, ∃ vs : List Value, ∃ (h₀ : Heap) (m : Str → Option Value) (news : List (Addr × Obj)), xv = .ref l ∧ s₁.heap.IsList l vs.toArray ∧ vs.length ≤ sizeLine ∧ Fr h₀ env.locals s₁.heap m ∧ News h₀ env.locals s₁.heap news ∧
      (∀ C (i : Nat) v s₃ m₃, s₁.heap.objs.size ≤ C → vs[i]? = some v → s₃.heap.Ns C m₃ → (∃ h tk, s₃ = { s₁ with heap := h, toks := tk }) → s₁.heap.StaysIn s₃.heap →
        TurnD knd A (compEnvC scope cl C env) target ifs kx vx C p FK G v s₃) ∧
      (∀ D oD h' tk kvs, oD.IsDictOf knd kvs → StoredAll FK (G h') (vs.filter p) kvs → Fr h₀ env.locals h' (fun z => if z = y then some (.ref D) else m z) → News h₀ env.locals h' ((D, oD) :: news) → AllNe D news → s₁.heap.objs.size ≤ D →
        (∀ b o, b ≠ env.locals → s₁.heap.get? b = some o → h'.get? b = some o) → Q .next { s₁ with heap := h', toks := tk })
noncomputable def CompReadyA (A : Around) (prog : Program) (w : World) (env : Env) (target : Expr) (ifs : List Expr) (elt : Expr) (scope : Scope) (cl : List (Str × Addr)) (p : Value → Bool) (G : Heap → Value → Value → Prop) (y : Str) (Q : Flow → Shared → Prop) (xv : Value) (s₁ : Shared) : Prop :=
  ∃ l, ∃ vs : List Value, ∃ (h₀ : Heap) (m : Str → Option Value) (news : List (Addr × Obj)), xv = .ref l ∧ s₁.heap.IsList l vs.toArray ∧ vs.length ≤ sizeLine ∧ Fr h₀ env.locals s₁.heap m ∧ News h₀ env.locals s₁.heap news ∧
      (∀ C (i : Nat) v s₃ m₃, s₁.heap.objs.size ≤ C → vs[i]? = some v → s₃.heap.Ns C m₃ → (∃ h tk, s₃ = { s₁ with heap := h, toks := tk }) → s₁.heap.StaysIn s₃.heap →
        Turn prog w A (compEnvC scope cl C env) target ifs elt C p G v s₃) ∧
      (∀ D h' tk (ys : List Value) k, Paired (G h') (vs.filter p) ys → Fr h₀ env.locals h' (fun z => if z = y then some (.ref D) else m z) → News h₀ env.locals h' ((D, PySem.W.listOf ys.toArray k) :: news) → AllNe D news → s₁.heap.objs.size ≤ D →
        (∀ b o, b ≠ env.locals → s₁.heap.get? b = some o → h'.get? b = some o) → Q .next { s₁ with heap := h', toks := tk })
theorem Assign_DictComp_list {kx vx target iter : Expr} {ifs : List Expr} {y : Str} {py : Pos} {scope : Scope} {cl : List (Str × Addr)} {pos spos : Pos} {Q : Flow → Shared → Prop} (knd : KeyKind prog w K) (p : Value → Bool) (FK : Value → K → Prop) (G : Heap → Value → Value → Prop)
    (hsw : swapsWith (.DictComp kx vx [⟨target, iter, ifs, 0⟩] scope pos) (some (.Name y py)) spos.line env = pure true)
    (hh : A.handled = none) (hclos : closureFor scope env = pure cl) (hcell : ∀ y ∈ scope.names, y.2 ≠ .cell) (hkind : scope.kind = .function)
    (hnames : ∀ y ∈ scope.names, y.2 = .local → scope.names.lookup y.1 = some .local)
    (hy : env.kindOf y = some .local) (hp : (env.scope.kind == .class || (env.scope.kind == .module && env.locals != env.globals)) = false)
    (h : wpAny (model prog w) A (eval iter env) (fun xv s₁ => CompReadyDA knd A env target ifs kx vx scope cl p FK G y Q xv s₁) E s)
    (hs : ∀ x, foldedSetIterable iter env x = pure x := by intro _; rfl) :
    wpAny (model prog w) A (exec (.Assign [.Name y py] (.DictComp kx vx [⟨target, iter, ifs, 0⟩] scope pos) spos) env) Q E s := by
  rw [exec_Assign_Name_used _ _ _ _ hsw]
  refine wpAny_bind (wpAny_standAt (wpAny_bind ?_))
  show wpAny _ A (do let _ ← comprehension (.DictComp kx vx [⟨target, iter, ifs, 0⟩] scope pos) scope env _ (newObj (.type "dict") (.dict #[])) false (eval iter env) (some (assign (.Name y py) env))) _ _ s
  refine wpAny_bind (wpAny_mono (wpAny_comprehension_free (use := some (assign (.Name y py) env)) (Q := fun _ s' => Q .next s') rfl hs hclos hkind hnames
    (wpAny_mono h (fun xv s₁ h₁ => ?_) fun _ _ e => e)) (fun _ s' hq => wpAny_pure (wpAny_pure hq)) fun _ _ e => e)
  obtain ⟨l, vs, h₀, m, news, rfl, hl, hsz, F, N, ht, hQ⟩ := h₁
  obtain ⟨ol, hol, _⟩ := id hl
  have hlt : l < s₁.heap.objs.size := Heap.lt_size hol
  refine wpAny_pyIter_list hl ?_
  have W := Walks.list (prog := prog) (w := w) hh s₁.heap.objs.size l (Nat.ne_of_lt hlt) vs.toArray
  have hz : vs.toArray.size = vs.length := by simp
  have old : ∀ b o, s₁.heap.get? b = some o → b ∉ [s₁.heap.objs.size] := fun b o e q => Nat.lt_irrefl _ (List.mem_singleton.mp q ▸ Heap.lt_size e)
  have hsize : ∀ C, (s₁.heap.push ({ cls := .type "list_iterator", data := .fields #[.ref l, .int (0 : Nat) 0] } : Obj)).objs.size ≤ C → s₁.heap.objs.size ≤ C := fun C hC => by
    rw [Heap.size_push] at hC
    exact Nat.le_of_succ_le hC
  refine dict_block (RR := fun acc C => compPost (model prog w) A E (some (assign (.Name y py) env)) (fun _ s' => Q .next s') acc C) knd p FK (Off env.locals G) hcell hkind W (by rw [hz]; exact hsz) ⟨⟨_, Heap.get?_push_size _ rfl, rfl, rfl⟩, hl.at fun o e => Heap.get?_push_of_some _ e⟩ ?_ ?_ (fun i s' v Q' st q => letGo_listiter st.1 q) ?_ ?_
  · intro b hb
    show b < (s₁.heap.push _).objs.size
    rw [Heap.size_push]
    rcases List.mem_cons.mp hb with rfl | hb
    · exact Nat.lt_succ_self _
    · rw [List.mem_singleton.mp hb]; exact Nat.lt_succ_of_lt hlt
  · intro i h st b hb
    obtain ⟨o, ho, _⟩ := st.1
    exact ⟨o, List.mem_singleton.mp hb ▸ ho⟩
  · intro C i v s₃ m₃ hC hP hn hs₃ hk
    have st3 : s₁.heap.StaysIn s₃.heap := fun b o e => hk b o (old b o e) (Heap.get?_push_of_some _ e)
    obtain ⟨oL, _, _, hoL, _⟩ := F.ns
    exact turnD_off ⟨_, st3 _ _ hoL⟩ (ht C i v s₃ m₃ (hsize C hC) (by simpa using hP) hn (by obtain ⟨a, b, rfl⟩ := hs₃; exact ⟨a, b, rfl⟩) st3)
  · intro D C h' tk m' kvs vs' hD hC hDC hnC hg hlen hP hF hk
    have e : vs' = vs := by
      refine List.ext_getElem? fun j => ?_
      by_cases hj : j < vs'.length
      · have := hP j vs'[j] (by simp [hj])
        rw [show vs'[j]? = some vs'[j] by simp [hj]]
        simpa using this.symm
      · rw [List.getElem?_eq_none (by omega), List.getElem?_eq_none (by omega)]
    subst e
    have hD := hsize D hD
    have hC := hsize C hC
    have up : s₁.heap.StaysIn h' := fun b o q => hk b o (old b o q) (Heap.get?_push_of_some _ q)
    have F' : Fr h₀ env.locals h' m := ⟨F.ns.at' fun o e => up _ o e, fun b o e => up b o (F.keep b o e), F.above⟩
    have hlt : ∀ b o, s₁.heap.get? b = some o → b < s₁.heap.objs.size := fun b o e => Heap.lt_size e
    obtain ⟨oL, _, _, hoL, _⟩ := F.ns
    have hLs := hlt _ _ hoL
    have hLC : env.locals ≠ C := Nat.ne_of_lt (Nat.lt_of_lt_of_le hLs hC)
    have hLD : env.locals ≠ D := Nat.ne_of_lt (Nat.lt_of_lt_of_le hLs hD)
    show wpAny _ A (assign (.Name y py) env (.ref D)) _ _ _
    refine wpAny_assign_Name (wpAny_storeName_local hy F'.ns (fun h₂ hn₂ hs₂ => ?_) hp)
    refine ⟨m', hnC.sameBut hs₂ (Ne.symm hLC), fun h₃ hs₃ => ?_⟩
    have up3 : ∀ b o, b ≠ env.locals → b ≠ C → h'.get? b = some o → h₃.get? b = some o := fun b o h1 h2 e => hs₃.extBut b o h2 (hs₂.extBut b o h1 e)
    have up1 : ∀ b o, b ≠ env.locals → s₁.heap.get? b = some o → h₃.get? b = some o := fun b o h1 e => up3 b o h1 (Nat.ne_of_lt (Nat.lt_of_lt_of_le (hlt _ _ e) hC)) (up b o e)
    obtain ⟨oD, hoD, hisD⟩ := Heap.dictOf_iff.mp hg
    obtain ⟨oL', _, _, hoL', _⟩ := F'.ns
    obtain ⟨oL3, _, _, hoL3, _⟩ := hn₂.sameBut hs₃ hLC
    have hD3 : h₃.get? D = some oD := up3 _ _ (Ne.symm hLD) hDC hoD
    have hDn : s₁.heap.get? D = none := Heap.get?_none_of_le hD
    refine hQ D oD h₃ _ kvs hisD ?_ ⟨hn₂.sameBut hs₃ hLC, fun b o e => up1 b o (Nat.ne_of_lt (Nat.lt_of_lt_of_le (Heap.lt_size e) F.above)) (F.keep b o e), F.above⟩ (fun q hq => ?_) (allNe_of fun q hq => Nat.ne_of_lt (Nat.lt_of_lt_of_le (hlt _ _ (N q hq).1) hD)) hD up1
    · exact storedAll_mono (fun v y g => g h₃ (setback_out h₃ _ _)) (hF (h₃.update env.locals fun _ => oL') (setback_in up3 hoL' hoL3))
    · rcases List.mem_cons.mp hq with rfl | hq
      · refine ⟨hD3, Ne.symm hLD, ?_⟩
        cases e : h₀.get? D with
        | none => rfl
        | some o => exact absurd (Nat.lt_of_lt_of_le (hlt _ _ (F.keep _ _ e)) hD) (Nat.lt_irrefl _)
      · exact ⟨up1 _ _ (N q hq).2.1 (N q hq).1, (N q hq).2⟩
end
namespace HAssign_ListComp_list
noncomputable abbrev hTy := Program × World × Around × (Value → Shared → Prop) × Shared × Env × Expr × Expr × Expr × List Expr × Str × Pos × Scope × (List (Str × Addr)) × Pos × Pos × (Flow → Shared → Prop) × (Value → Bool) × (Heap → Value → Value → Prop)
noncomputable def hSt (c : hTy) : Prop := (fun (prog : Program) (w : World) (A : Around) (E : Value → Shared → Prop) (s : Shared) (env : Env) (elt : Expr) (target : Expr) (iter : Expr) (ifs : List Expr) (y : Str) (py : Pos) (scope : Scope) (cl : List (Str × Addr)) (pos : Pos) (spos : Pos) (Q : Flow → Shared → Prop) (p : Value → Bool) (G : Heap → Value → Value → Prop) => ∀ (hsw : swapsWith (.ListComp elt [⟨target, iter, ifs, 0⟩] scope pos) (some (.Name y py)) spos.line env = pure true) (hh : A.handled = none) (hclos : closureFor scope env = pure cl) (hcell : ∀ y ∈ scope.names, y.2 ≠ .cell) (hkind : scope.kind = .function) (hnames : ∀ y ∈ scope.names, y.2 = .local → scope.names.lookup y.1 = some .local) (hy : env.kindOf y = some .local) (hp : (env.scope.kind == .class || (env.scope.kind == .module && env.locals != env.globals)) = false) (h : wpAny (model prog w) A (eval iter env) (fun xv s₁ => CompReadyA A prog w env target ifs elt scope cl p G y Q xv s₁) E s) (hs : ∀ x, foldedSetIterable iter env x = pure x), (wpAny (model prog w) A (exec (.Assign [.Name y py] (.ListComp elt [⟨target, iter, ifs, 0⟩] scope pos) spos) env) Q E s : Prop)) c.1 c.2.1 c.2.2.1 c.2.2.2.1 c.2.2.2.2.1 c.2.2.2.2.2.1 c.2.2.2.2.2.2.1 c.2.2.2.2.2.2.2.1 c.2.2.2.2.2.2.2.2.1 c.2.2.2.2.2.2.2.2.2.1 c.2.2.2.2.2.2.2.2.2.2.1 c.2.2.2.2.2.2.2.2.2.2.2.1 c.2.2.2.2.2.2.2.2.2.2.2.2.1 c.2.2.2.2.2.2.2.2.2.2.2.2.2.1 c.2.2.2.2.2.2.2.2.2.2.2.2.2.2.1 c.2.2.2.2.2.2.2.2.2.2.2.2.2.2.2.1 c.2.2.2.2.2.2.2.2.2.2.2.2.2.2.2.2.1 c.2.2.2.2.2.2.2.2.2.2.2.2.2.2.2.2.2.1 c.2.2.2.2.2.2.2.2.2.2.2.2.2.2.2.2.2.2
theorem hNe : Nonempty hTy := ⟨default, w0, {}, (fun _ => (fun _ => False)), {}, default, default, default, default, [], Str.empty, default, default, [], default, default, (fun _ => (fun _ => False)), (fun _ => false), (fun _ => (fun _ => (fun _ => False)))⟩
noncomputable def hCc : hTy := @Classical.epsilon hTy hNe fun x => ¬ hSt x
@[irreducible] noncomputable def prog : Program := hCc.1
@[irreducible] noncomputable def w : World := hCc.2.1
@[irreducible] noncomputable def A : Around := hCc.2.2.1
@[irreducible] noncomputable def E : Value → Shared → Prop := hCc.2.2.2.1
@[irreducible] noncomputable def s : Shared := hCc.2.2.2.2.1
@[irreducible] noncomputable def env : Env := hCc.2.2.2.2.2.1
@[irreducible] noncomputable def elt : Expr := hCc.2.2.2.2.2.2.1
@[irreducible] noncomputable def target : Expr := hCc.2.2.2.2.2.2.2.1
@[irreducible] noncomputable def iter : Expr := hCc.2.2.2.2.2.2.2.2.1
@[irreducible] noncomputable def ifs : List Expr := hCc.2.2.2.2.2.2.2.2.2.1
@[irreducible] noncomputable def y : Str := hCc.2.2.2.2.2.2.2.2.2.2.1
@[irreducible] noncomputable def py : Pos := hCc.2.2.2.2.2.2.2.2.2.2.2.1
@[irreducible] noncomputable def scope : Scope := hCc.2.2.2.2.2.2.2.2.2.2.2.2.1
@[irreducible] noncomputable def cl : List (Str × Addr) := hCc.2.2.2.2.2.2.2.2.2.2.2.2.2.1
@[irreducible] noncomputable def pos : Pos := hCc.2.2.2.2.2.2.2.2.2.2.2.2.2.2.1
@[irreducible] noncomputable def spos : Pos := hCc.2.2.2.2.2.2.2.2.2.2.2.2.2.2.2.1
@[irreducible] noncomputable def Q : Flow → Shared → Prop := hCc.2.2.2.2.2.2.2.2.2.2.2.2.2.2.2.2.1
@[irreducible] noncomputable def p : Value → Bool := hCc.2.2.2.2.2.2.2.2.2.2.2.2.2.2.2.2.2.1
@[irreducible] noncomputable def G : Heap → Value → Value → Prop := hCc.2.2.2.2.2.2.2.2.2.2.2.2.2.2.2.2.2.2
theorem hMain (hsw : swapsWith (.ListComp elt [⟨target, iter, ifs, 0⟩] scope pos) (some (.Name y py)) spos.line env = pure true) (hh : A.handled = none) (hclos : closureFor scope env = pure cl) (hcell : ∀ y ∈ scope.names, y.2 ≠ .cell) (hkind : scope.kind = .function) (hnames : ∀ y ∈ scope.names, y.2 = .local → scope.names.lookup y.1 = some .local) (hy : env.kindOf y = some .local) (hp : (env.scope.kind == .class || (env.scope.kind == .module && env.locals != env.globals)) = false) (h : wpAny (model prog w) A (eval iter env) (fun xv s₁ => CompReadyA A prog w env target ifs elt scope cl p G y Q xv s₁) E s) (hs : ∀ x, foldedSetIterable iter env x = pure x) : wpAny (model prog w) A (exec (.Assign [.Name y py] (.ListComp elt [⟨target, iter, ifs, 0⟩] scope pos) spos) env) Q E s := by
  rw [exec_Assign_Name_used _ _ _ _ hsw]
  refine wpAny_bind (wpAny_standAt (wpAny_bind ?_))
  show wpAny _ A (do let _ ← comprehension (.ListComp elt [⟨target, iter, ifs, 0⟩] scope pos) scope env _ (newList []) false (eval iter env) (some (assign (.Name y py) env))) _ _ s
  refine wpAny_bind (wpAny_mono (wpAny_comprehension_free (use := some (assign (.Name y py) env)) (Q := fun _ s' => Q .next s') rfl hs hclos hkind hnames
    (wpAny_mono h (fun xv s₁ h₁ => ?_) fun _ _ e => e)) (fun _ s' hq => wpAny_pure (wpAny_pure hq)) fun _ _ e => e)
  obtain ⟨l, vs, h₀, m, news, rfl, hl, hsz, F, N, ht, hQ⟩ := h₁
  obtain ⟨ol, hol, _⟩ := id hl
  have hlt : l < s₁.heap.objs.size := Heap.lt_size hol
  refine wpAny_pyIter_list hl ?_
  have W := Walks.list (prog := prog) (w := w) hh s₁.heap.objs.size l (Nat.ne_of_lt hlt) vs.toArray
  have hz : vs.toArray.size = vs.length := by simp
  have old : ∀ b o, s₁.heap.get? b = some o → b ∉ [s₁.heap.objs.size] := fun b o e q => Nat.lt_irrefl _ (List.mem_singleton.mp q ▸ Heap.lt_size e)
  have hsize : ∀ C, (s₁.heap.push ({ cls := .type "list_iterator", data := .fields #[.ref l, .int (0 : Nat) 0] } : Obj)).objs.size ≤ C → s₁.heap.objs.size ≤ C := fun C hC => by
    rw [Heap.size_push] at hC
    exact Nat.le_of_succ_le hC
  refine list_block (RR := fun acc C => compPost (model prog w) A E (some (assign (.Name y py) env)) (fun _ s' => Q .next s') acc C) p (Off env.locals G) hcell hkind W (by rw [hz]; exact hsz) ⟨⟨_, Heap.get?_push_size _ rfl, rfl, rfl⟩, hl.at fun o e => Heap.get?_push_of_some _ e⟩ ?_ ?_ (fun i s' v Q' st q => letGo_listiter st.1 q) ?_ ?_
  · intro b hb
    show b < (s₁.heap.push _).objs.size
    rw [Heap.size_push]
    rcases List.mem_cons.mp hb with rfl | hb
    · exact Nat.lt_succ_self _
    · rw [List.mem_singleton.mp hb]; exact Nat.lt_succ_of_lt hlt
  · intro i h st b hb
    obtain ⟨o, ho, _⟩ := st.1
    exact ⟨o, List.mem_singleton.mp hb ▸ ho⟩
  · intro C i v s₃ m₃ hC hP hn hs₃ hk
    have st3 : s₁.heap.StaysIn s₃.heap := fun b o e => hk b o (old b o e) (Heap.get?_push_of_some _ e)
    obtain ⟨oL, _, _, hoL, _⟩ := F.ns
    exact turn_off ⟨_, st3 _ _ hoL⟩ (ht C i v s₃ m₃ (hsize C hC) (by simpa using hP) hn (by obtain ⟨a, b, rfl⟩ := hs₃; exact ⟨a, b, rfl⟩) st3)
  · intro D C h' tk m' ys vs' hD hC hDC hnC hg hlen hP hF hk
    have e : vs' = vs := by
      refine List.ext_getElem? fun j => ?_
      by_cases hj : j < vs'.length
      · have := hP j vs'[j] (by simp [hj])
        rw [show vs'[j]? = some vs'[j] by simp [hj]]
        simpa using this.symm
      · rw [List.getElem?_eq_none (by omega), List.getElem?_eq_none (by omega)]
    subst e
    have hD := hsize D hD
    have hC := hsize C hC
    have up : s₁.heap.StaysIn h' := fun b o q => hk b o (old b o q) (Heap.get?_push_of_some _ q)
    have F' : Fr h₀ env.locals h' m := ⟨F.ns.at' fun o e => up _ o e, fun b o e => up b o (F.keep b o e), F.above⟩
    have hlt : ∀ b o, s₁.heap.get? b = some o → b < s₁.heap.objs.size := fun b o e => Heap.lt_size e
    obtain ⟨oL, _, _, hoL, _⟩ := F.ns
    have hLs := hlt _ _ hoL
    have hLC : env.locals ≠ C := Nat.ne_of_lt (Nat.lt_of_lt_of_le hLs hC)
    have hLD : env.locals ≠ D := Nat.ne_of_lt (Nat.lt_of_lt_of_le hLs hD)
    show wpAny _ A (assign (.Name y py) env (.ref D)) _ _ _
    refine wpAny_assign_Name (wpAny_storeName_local hy F'.ns (fun h₂ hn₂ hs₂ => ?_) hp)
    refine ⟨m', hnC.sameBut hs₂ (Ne.symm hLC), fun h₃ hs₃ => ?_⟩
    have up3 : ∀ b o, b ≠ env.locals → b ≠ C → h'.get? b = some o → h₃.get? b = some o := fun b o h1 h2 e => hs₃.extBut b o h2 (hs₂.extBut b o h1 e)
    have up1 : ∀ b o, b ≠ env.locals → s₁.heap.get? b = some o → h₃.get? b = some o := fun b o h1 e => up3 b o h1 (Nat.ne_of_lt (Nat.lt_of_lt_of_le (hlt _ _ e) hC)) (up b o e)
    obtain ⟨k, hoD⟩ := hg
    obtain ⟨oL', _, _, hoL', _⟩ := F'.ns
    obtain ⟨oL3, _, _, hoL3, _⟩ := hn₂.sameBut hs₃ hLC
    have hD3 := up3 _ _ (Ne.symm hLD) hDC hoD
    have hDn : s₁.heap.get? D = none := Heap.get?_none_of_le hD
    refine hQ D h₃ _ ys.toList k ?_ ⟨hn₂.sameBut hs₃ hLC, fun b o e => up1 b o (Nat.ne_of_lt (Nat.lt_of_lt_of_le (Heap.lt_size e) F.above)) (F.keep b o e), F.above⟩ (fun q hq => ?_) (allNe_of fun q hq => Nat.ne_of_lt (Nat.lt_of_lt_of_le (hlt _ _ (N q hq).1) hD)) hD up1
    · exact paired_map (fun v y g => g h₃ (setback_out h₃ _ _)) (hF (h₃.update env.locals fun _ => oL') (setback_in up3 hoL' hoL3))
    · rcases List.mem_cons.mp hq with rfl | hq
      · refine ⟨by rw [Array.toArray_toList]; exact hD3, Ne.symm hLD, ?_⟩
        cases e : h₀.get? D with
        | none => rfl
        | some o => exact absurd (Nat.lt_of_lt_of_le (hlt _ _ (F.keep _ _ e)) hD) (Nat.lt_irrefl _)
      · exact ⟨up1 _ _ (N q hq).2.1 (N q hq).1, (N q hq).2⟩
end HAssign_ListComp_list
section
variable {prog : Program} {w : World} {A : Around} {E : Value → Shared → Prop} {s : Shared} {env : Env} {K : Type} [DecidableEq K] {knd : KeyKind prog w K}
theorem Assign_ListComp_list {elt target iter : Expr} {ifs : List Expr} {y : Str} {py : Pos} {scope : Scope} {cl : List (Str × Addr)} {pos spos : Pos} {Q : Flow → Shared → Prop} (p : Value → Bool) (G : Heap → Value → Value → Prop) (hsw : swapsWith (.ListComp elt [⟨target, iter, ifs, 0⟩] scope pos) (some (.Name y py)) spos.line env = pure true) (hh : A.handled = none) (hclos : closureFor scope env = pure cl) (hcell : ∀ y ∈ scope.names, y.2 ≠ .cell) (hkind : scope.kind = .function) (hnames : ∀ y ∈ scope.names, y.2 = .local → scope.names.lookup y.1 = some .local) (hy : env.kindOf y = some .local) (hp : (env.scope.kind == .class || (env.scope.kind == .module && env.locals != env.globals)) = false) (h : wpAny (model prog w) A (eval iter env) (fun xv s₁ => CompReadyA A prog w env target ifs elt scope cl p G y Q xv s₁) E s) (hs : ∀ x, foldedSetIterable iter env x = pure x := by intro _; rfl) : wpAny (model prog w) A (exec (.Assign [.Name y py] (.ListComp elt [⟨target, iter, ifs, 0⟩] scope pos) spos) env) Q E s := hen HAssign_ListComp_list.hSt HAssign_ListComp_list.hNe (by with_unfolding_all exact HAssign_ListComp_list.hMain) (prog, w, A, E, s, env, elt, target, iter, ifs, y, py, scope, cl, pos, spos, Q, p, G) hsw hh hclos hcell hkind hnames hy hp h hs
end
end
-- LibD
section
/-- a tuple of two texts -/
noncomputable abbrev tup2 (p : Str × Str) (t t' : Tok) (n : Nat) : Obj := { cls := .type "tuple", data := .seq #[.str p.1 t, .str p.2 t'] n }
/-- a value that is a ref of such a tuple in a list of objects -/
noncomputable def PairIn (tl : List (Addr × Obj)) (v : Value) (p : Str × Str) : Prop := ∃ a t t' n, v = .ref a ∧ (a, tup2 p t t' n) ∈ tl
theorem PairIn.at {tl : List (Addr × Obj)} {v : Value} {p : Str × Str} {h₀ h : Heap} {L : Addr} (x : PairIn tl v p) (N : News h₀ L h tl) : PairVal h v p :=
  let ⟨a, t, t', _, e, hm⟩ := x; ⟨a, t, t', e, _, (N _ hm).1, rfl, _, rfl⟩
theorem PairIn.mono {tl tl' : List (Addr × Obj)} {v : Value} {p : Str × Str} (x : PairIn tl v p) (k : ∀ q ∈ tl, q ∈ tl') : PairIn tl' v p :=
  let ⟨a, t, t', n, e, hm⟩ := x; ⟨a, t, t', n, e, k _ hm⟩
/-- items of a dict: name and a text -/
noncomputable abbrev KvIs (kvs : List (Str × Value)) (its : List (Str × Str)) : Prop := Paired (fun p q => p.1 = q.1 ∧ ∃ t, p.2 = Value.str q.2 t) kvs its
section
variable {prog : Program} {w : World} {A : Around} {E : Value → Shared → Prop} {s : Shared} {h₀ : Heap} {L : Addr} {m : Str → Option Value} {news : List (Addr × Obj)} {its : List (Str × Str)} {kvs : List (Str × Value)}
theorem list_choose {α β : Type} {R : Nat → α → β → Prop} : ∀ (l : List α) (k : Nat), (∀ (j : Nat) a, l[j]? = some a → ∃ b, R (k + j) a b) → ∃ bs : List β, bs.length = l.length ∧ ∀ (j : Nat) a, l[j]? = some a → ∃ b, bs[j]? = some b ∧ R (k + j) a b
  | [], _, _ => ⟨[], rfl, fun j a e => by simp at e⟩
  | x :: l, k, h => by
    obtain ⟨b, hb⟩ := h 0 x rfl
    obtain ⟨bs, hl, hr⟩ := list_choose l (k + 1) fun j a e => by
      have := h (j + 1) a (by simpa using e)
      rwa [show k + (j + 1) = k + 1 + j by omega] at this
    refine ⟨b :: bs, by simp [hl], fun j a e => ?_⟩
    cases j with
    | zero => simp at e; subst e; exact ⟨b, rfl, hb⟩
    | succ j =>
      obtain ⟨b', e', r⟩ := hr j a (by simpa using e)
      exact ⟨b', by simpa using e', by rwa [show k + (j + 1) = k + 1 + j by omega]⟩
theorem paired_of_get {α β : Type} {F : α → β → Prop} : ∀ {l₁ : List α} {l₂ : List β}, l₁.length = l₂.length → (∀ (j : Nat) a, l₁[j]? = some a → ∃ b, l₂[j]? = some b ∧ F a b) → Paired F l₁ l₂
  | [], [], _, _ => .nil
  | [], _ :: _, h, _ => by simp at h
  | _ :: _, [], h, _ => by simp at h
  | a :: l₁, b :: l₂, hl, h => by
    obtain ⟨b', e, f⟩ := h 0 a rfl
    simp at e; subst e
    exact .cons f (paired_of_get (by simpa using hl) fun j a e => by
      obtain ⟨b', e', f⟩ := h (j + 1) a (by simpa using e)
      exact ⟨b', by simpa using e', f⟩)
theorem kdx_tups {h : Heap} {lo : Addr} {as : List Addr} (hG : KdxG (PySem.strKind prog w) kvs lo h as) (hl : as.length = kvs.length) (hk : KvIs kvs its) :
    ∃ tl : List (Addr × Obj), Paired (PairIn tl) (as.map Value.ref) its ∧ ∀ q ∈ tl, lo < q.1 ∧ h.get? q.1 = some q.2 := by
  obtain ⟨tl, hl2, hR⟩ := list_choose (R := fun j a (q : Addr × Obj) => ∀ p, its[j]? = some p → (∃ t t', q = (a, tup2 p t t' 0)) ∧ lo < q.1 ∧ h.get? q.1 = some q.2) as 0 (fun j a e => by
    obtain ⟨key, k, x, e1, e2, e3⟩ := hG.pairs j a e
    obtain ⟨t, rfl⟩ := Value.isStrOf_shape e2
    obtain ⟨q, e4, e5, t', e6⟩ := paired_get hk j _ e1
    dsimp only at e5 e6
    subst e6
    subst e5
    refine ⟨(a, tup2 q t t' 0), fun p hp => ?_⟩
    rw [Nat.zero_add] at hp
    rw [e4] at hp; cases hp
    exact ⟨⟨t, t', rfl⟩, hG.above a (List.mem_of_getElem? e), e3⟩)
  have hil : its.length = as.length := by rw [hl, paired_len hk]
  refine ⟨tl, paired_of_get (by simp [hil]) fun j v e => ?_, fun q hq => ?_⟩
  · rw [List.getElem?_map, Option.map_eq_some_iff] at e
    obtain ⟨a, ea, rfl⟩ := e
    have hj : j < its.length := by rw [hil]; exact (List.getElem?_eq_some_iff.mp ea).1
    obtain ⟨q, eq, r⟩ := hR j a ea
    rw [Nat.zero_add] at r
    obtain ⟨⟨t, t', e⟩, _⟩ := r its[j] (List.getElem?_eq_getElem hj)
    exact ⟨its[j], List.getElem?_eq_getElem hj, a, t, t', 0, rfl, e ▸ List.mem_of_getElem? eq⟩
  · obtain ⟨j, hj⟩ := List.mem_iff_getElem?.mp hq
    have hj' : j < as.length := by rw [← hl2]; exact (List.getElem?_eq_some_iff.mp hj).1
    obtain ⟨q', eq, r⟩ := hR j as[j] (List.getElem?_eq_getElem hj')
    rw [eq] at hj; cases hj
    rw [Nat.zero_add] at r
    exact (r its[j] (List.getElem?_eq_getElem (by omega))).2
theorem arr_in {tl : List (Addr × Obj)} {vs : List Value} {p : Array Nat} (hp : IsPerm p its.length) (x : Paired (PairIn tl) vs its) : Paired (PairIn tl) (p.toList.map fun i => vs.getD i Value.none) (arr its p) := by
  have hlt : ∀ i ∈ p.toList, i < its.length := fun i hi => List.mem_range.mp (hp.mem_iff.mp hi)
  unfold arr
  generalize p.toList = l at hlt
  induction l with
  | nil => exact .nil
  | cons i l ih =>
    refine .cons ?_ (ih fun j hj => hlt j (.tail _ hj))
    have hi := hlt i (.head _)
    have hlen := paired_len x
    obtain ⟨b, hb, hp⟩ := paired_get x i vs[i] (by simp [hlen, hi])
    have eb : its.getD i (Str.empty, Str.empty) = b := by simp [List.getD, hb]
    show PairIn tl (vs.getD i Value.none) (its.getD i (Str.empty, Str.empty))
    rw [eb, show vs.getD i Value.none = vs[i] by simp [hlen, hi]]
    exact hp
/-- sorted over the items of a dict of texts -/
theorem sorted_items {v d : Addr} {od : Obj} {Q : Value → Shared → Prop} (hh : A.handled = none) (F : Fr h₀ L s.heap m) (N : News h₀ L s.heap news) (hvw : (v, { cls := .type "dict_items", data := .fields #[.ref d] }) ∈ news) (hmd : (d, od) ∈ news) (hod : od.IsDictOf (PySem.strKind prog w) kvs)
    (hk : KvIs kvs its) (h2 : 2 ≤ its.length) (h64 : its.length < 64) (hd : (its.map (·.1)).Nodup)
    (h : ∀ D e h' tk vs' its' tl, its'.Perm its → its'.Pairwise (fun a b => strLt a.1 b.1) → Paired (PairIn tl) vs' its' → Fr h₀ L h' m → News h₀ L h' ((D, W.listOf vs'.toArray e) :: (tl ++ news)) → (∀ q ∈ tl ++ news, q.1 ≠ D) → (∀ q ∈ tl, ∀ p ∈ news, p.1 < q.1) → Q (.ref D) { s with heap := h', toks := tk }) :
    wpAny (model prog w) A (call (.builtin "sorted") [.ref v]) Q E s := by
  obtain ⟨ep, hat⟩ := KdkAt.of hod
  have hlk : kvs.length = its.length := paired_len hk
  refine call_function_entry kind_sorted plain_sorted entry_sorted (args_sorted1 _) ?_
  unfold Builtin.«sorted»
  refine wpAny_bind (m := checkCount "sorted" 1 1 _) (wpAny_pure ?_)
  refine wpAny_bind (kdx_collect (A := A.in1) (knd := PySem.strKind prog w) (kvs := kvs) (ep := ep) hh ⟨_, (N _ hvw).1, rfl, rfl⟩ (hat.dictAt (N _ hmd).1) (by rw [sizeLine_eq]; omega) fun g tk as hold hl hG => ?_)
  obtain ⟨tl, hP, hT⟩ := kdx_tups hG hl hk
  generalize hvs : as.map Value.ref = vs at hP
  have hvl : vs.length = its.length := paired_len hP
  have Ng : News h₀ L g (tl ++ news) := fun q hq => by
    rcases List.mem_append.mp hq with hq | hq
    · exact ⟨(hT q hq).2, kdx_fresh F (Nat.le_of_lt (hT q hq).1)⟩
    · exact ⟨hold _ _ (N q hq).1, (N q hq).2⟩
  have Fg : Fr h₀ L g m := F.kept hold
  refine wpAny_bind (wpAny_newList ?_ (by rw [sizeLine_eq]; omega))
  have hoL : (g.push (seqObj "list" vs.toArray 0)).get? g.objs.size = some (seqObj "list" vs.toArray 0) := Heap.get?_push_size _ rfl
  have keep : ∀ b o, g.get? b = some o → (g.push (seqObj "list" vs.toArray 0)).get? b = some o := fun b o e => Heap.get?_push_of_some _ e
  have hLg : L < g.objs.size := Fg.ns.lt
  refine wpAny_bind (wpAny_holding (wpAny_call_entry slot_list_sort ⟨_, hoL, rfl⟩ entry_list_sort ?body (args_list_sort _)))
  case body =>
    have hna : ∀ q ∈ tl ++ news, q.1 ≠ g.objs.size := fun q hq => Nat.ne_of_lt (Heap.lt_size (Ng q hq).1)
    refine kat_list_sort (s := { s with heap := g.push (seqObj "list" vs.toArray 0), toks := tk }) (Fg.kept keep) (Ng.grown keep) hoL (Nat.ne_of_gt hLg) (Heap.get?_none_of_le (Nat.le_trans F.above (Nat.le_of_lt hLg))) hna (by omega) (by omega) fun e1 h' F' N' => ?_
    have NT : News h₀ L h' tl := fun q hq => N' q (.tail _ (List.mem_append_left _ hq))
    have tt : TupsAt h' vs its := paired_map (fun _ _ x => x.at NT) hP
    obtain ⟨fs, hkt, hfl, hfs⟩ := katTups_of tt
    refine kat_kind (T := .type "str") hkt (by omega) (fun v hv => ?_) (by decide) ?_
    · obtain ⟨y, t, rfl⟩ := hfs v hv
      exact Looks.now
    · rw [hvl]
      refine KP_wp (I := fun s' => s' = { s with heap := h', toks := tk }) (fun i j C s' hi hj hij hs hC => ?_) (fun p s' hp hs => ?_) _ _ (sort_run (ltI_ord hd) (by omega)) rfl
      · subst hs
        unfold kas_ask
        have gi : ∀ i, i < its.length → ∃ a t t', vs.getD i Value.none = .ref a ∧ h'.IsTuple a #[.str (nm its i) t, .str (its.getD i (Str.empty, Str.empty)).2 t'] := by
          intro i hi
          obtain ⟨b, hb, a, t, t', e, ht⟩ := paired_get tt i vs[i] (by simp [hvl, hi])
          have eb : its.getD i (Str.empty, Str.empty) = b := by simp [List.getD, hb]
          refine ⟨a, t, t', by simp [hvl, hi, ← e], ?_⟩
          unfold nm; rw [eb]; exact ht
        obtain ⟨a, t, t', e1, o, ho, hc, n, hdd⟩ := gi i hi
        obtain ⟨a', u, u', e2, o', ho', hc', n', hdd'⟩ := gi j hj
        rw [e1, e2]
        refine kat_lt ho hdd ho' hdd' (kat_cons ?_)
        refine eqBool_str ?_
        rw [show (nm its i == nm its j) = false from by simpa using nm_inj hd hi hj hij]
        exact kat_no (oneLt_str (hC _ rfl))
      · subst hs
        exact KasFin.intro F' N' (UpdF.head hna) fun h'' c F'' N'' => ⟨_, rfl, wpAny_pure ⟨_, rfl, h g.objs.size c h'' tk _ (arr its p) tl (arr_perm hp.1) (arr_sorted hp.1 hp.2) (arr_in hp.1 hP) F'' N'' hna
          fun q hq p hp => Nat.lt_of_lt_of_le (Heap.lt_size (N p hp).1) (Nat.le_of_lt (hT q hq).1)⟩⟩
end
section
variable {K : Type} [DecidableEq K] {FK : Value → K → Prop} {FV : Value → Value → Prop} {l : List Value} {kvs : List (K × Value)}
theorem valueAt_stored (kvs : List (K × Value)) (k k' : K) (y : Value) : valueAt (stored kvs k y) k' = if k' = k then some y else valueAt kvs k' := by
  unfold stored valueAt
  by_cases ha : kvs.any (fun kv => decide (kv.1 = k)) = true
  · rw [if_pos ha]
    induction kvs with
    | nil => simp at ha
    | cons p r ih =>
      obtain ⟨a, b⟩ := p
      by_cases e : a = k
      · subst e
        by_cases e2 : a = k'
        · subst e2; simp
        · have e3 : ¬ k' = a := fun q => e2 q.symm
          simp only [List.map_cons, if_true, List.find?_cons, decide_eq_false e2, if_neg e3]
          congr 1
          clear ih ha
          induction r with
          | nil => rfl
          | cons p r ih =>
            obtain ⟨c, d⟩ := p
            by_cases e4 : c = a
            · subst e4; simp only [List.map_cons, if_true, List.find?_cons, decide_eq_false e2]; exact ih
            · simp only [List.map_cons, if_neg e4, List.find?_cons]
              cases decide (c = k') with
              | true => rfl
              | false => exact ih
      · have ha' : r.any (fun kv => decide (kv.1 = k)) = true := by simpa [e] using ha
        have := ih ha'
        simp only [List.map_cons, if_neg e, List.find?_cons]
        by_cases e2 : a = k'
        · subst e2; simp [e]
        · simp only [decide_eq_false e2]; exact this
  · rw [if_neg ha]
    rw [List.find?_append]
    have hn : ∀ p ∈ kvs, p.1 ≠ k := fun p hp e => ha (by rw [List.any_eq_true]; exact ⟨p, hp, decide_eq_true e⟩)
    by_cases e2 : k' = k
    · subst e2
      have : kvs.find? (fun kv => decide (kv.1 = k')) = none := List.find?_eq_none.mpr fun p hp => by simpa using hn p hp
      rw [this]; simp
    · have e3 : ¬ k = k' := fun q => e2 q.symm
      rw [if_neg e2]
      cases kvs.find? (fun kv => decide (kv.1 = k')) <;> simp [e3]
/-- what stands at a key after a comprehension -/
theorem stored_at (hk : ∀ v k k', FK v k → FK v k' → k = k') (h : StoredAll FK FV l kvs) : ∀ v ∈ l, ∀ k, FK v k → ∃ v' y, v' ∈ l ∧ FK v' k ∧ valueAt kvs k = some y ∧ FV v' y := by
  induction h with
  | nil => intro v hv; cases hv
  | @snoc l kvs v₀ k₀ y₀ _ hf hg ih =>
    intro v hv k hk'
    rw [valueAt_stored]
    by_cases e : k = k₀
    · subst e; rw [if_pos rfl]; exact ⟨v₀, y₀, by simp, hf, rfl, hg⟩
    · rw [if_neg e]
      rcases List.mem_append.mp hv with hv | hv
      · obtain ⟨v', y, hm, a, b, c⟩ := ih v hv k hk'
        exact ⟨v', y, List.mem_append_left _ hm, a, b, c⟩
      · exact absurd (hk _ _ _ hk' (List.mem_singleton.mp hv ▸ hf)) e
/-- keys all new: the pairs in order -/
theorem stored_new (hk : ∀ v k k', FK v k → FK v k' → k = k') (h : StoredAll FK FV l kvs) : ∀ ks : List K, Paired FK l ks → ks.Nodup → Paired (fun v (p : K × Value) => FK v p.1 ∧ FV v p.2) l kvs ∧ kvs.map (·.1) = ks := by
  induction h with
  | nil => intro ks hp _; cases hp; exact ⟨.nil, rfl⟩
  | @snoc l kvs v₀ k₀ y₀ _ hf hg ih =>
    intro ks hp hnd
    have hlen := paired_len hp
    obtain ⟨ks', k1, rfl⟩ : ∃ ks' k1, ks = ks' ++ [k1] := by
      refine ⟨ks.dropLast, ks.getLast (fun e => by subst e; simp at hlen), (List.dropLast_concat_getLast _).symm⟩
    have hp' : Paired FK l ks' := by
      refine paired_of_get (by simpa using hlen) fun j a e => ?_
      have hj : j < l.length := (List.getElem?_eq_some_iff.mp e).1
      have hj2 : j < ks'.length := by simp at hlen; omega
      obtain ⟨b, hb, f⟩ := paired_get hp j a (by rw [List.getElem?_append_left hj]; exact e)
      rw [List.getElem?_append_left hj2] at hb
      exact ⟨b, hb, f⟩
    have hk1 : FK v₀ k1 := by
      obtain ⟨b, hb, f⟩ := paired_get hp l.length v₀ (by simp)
      have : l.length = ks'.length := by simpa using hlen
      rw [this] at hb
      simp at hb; rw [hb]; exact f
    have e0 : k₀ = k1 := hk _ _ _ hf hk1
    subst e0
    obtain ⟨a, b⟩ := ih ks' hp' (List.nodup_append.mp hnd).1
    have hnk : k₀ ∉ ks' := fun q => (List.nodup_append.mp hnd).2.2 _ q _ (.head _) rfl
    have hany : kvs.any (fun kv => decide (kv.1 = k₀)) = false := by
      rw [List.any_eq_false]
      intro p hp q
      exact hnk (b ▸ of_decide_eq_true q ▸ List.mem_map_of_mem hp)
    have es : stored kvs k₀ y₀ = kvs ++ [(k₀, y₀)] := by unfold stored; rw [hany]; rfl
    rw [es]
    exact ⟨a.snoc ⟨hf, hg⟩, by simp [b]⟩
end
end
-- FnL
section
noncomputable abbrev lamParams : Arguments := { posonlyargs := [], args := [{ arg := "n", annotation := none, pos := ⟨246, 78, 246, 79⟩ : PySem.Arg }], vararg := none, kwonlyargs := [], kw_defaults := [], kwarg := none, defaults := [] }
noncomputable abbrev lamBody : Expr := .Call (func := (.Attribute (.Name "n" ⟨246, 81, 246, 82⟩) "split" ⟨246, 81, 246, 88⟩)) (args := [.Constant (.str "}") 0 ⟨246, 89, 246, 92⟩, .Constant (.int 1) 0 ⟨246, 94, 246, 95⟩]) (keywords := []) (pos := ⟨246, 81, 246, 96⟩)
noncomputable abbrev lamScope : Scope := { kind := .function, names := [(Str.ofString "n", .local)], isGenerator := false, isCoroutine := false, more := [] }
section
theorem rowsFnL0 : True := by
  k_with_none
  k_with "call builtin:str.split" => (k_here; (k_dflt (refine' split_self (by k_asm) (by k_asm) (by rfl) (by assumption) (by omega) ?_; k_whole); intro D' h' tk' t1' F' N' l1; (try k_lt l1); (try k_sweep); (try dsimp only)))
  trivial
set_option maxRecDepth 100000 in
set_option maxHeartbeats 4000000 in
theorem c_lam {prog : Program} {w : World} {p : Program} {loose : List Str} {mean : ExcName → Option Value} {mg mb : Str → Option Value} {dp un : Nat} {gd : Option (List Code)} {cn : Str} {cs : Scope} {a : Addr} {ccd : Value} {cl : List (Str × Addr)} {outer : List Env} {A₀ : Around} {base h₀ : Heap} {L : Addr} {m : Str → Option Value} {news : List (Addr × Obj)} {f c' : Addr} {qual : Str} {pm ctv : Value}
    (B : Below A₀ base outer h₀) (X : (hd.heap_39 w.params).In h₀) (T : Top p loose mean mg mb h₀) (hk : cs.kind = .function) (hd' : dp + 3 < recursionLimit) (hu : un + 20 < cLine)
    (hf : (f, kla_obj "<lambda>" qual lamParams lamBody lamScope [] pm c' ctv) ∈ news) (hc : ∀ h, Fr h₀ L h m → News h₀ L h news → h.CodeRec (.ref c') qual) :
    KeyCall prog w (ktrTop dp un gd cn cs L a ccd cl outer) h₀ L m news (.ref f) := by
  intro x t s Q hx F N hQ
  obtain ⟨hxl, hxs⟩ := hx
  refine wpAny_call (kla_codeP (binds := [("n", Value.str x t)]) B F X T rfl rfl hk (N _ hf).1 (hc _ F N) (by show dp < _; omega) rfl (by intro y hy; cases hy with | head => rfl | tail _ hy => cases hy) ?_ rfl rfl rfl (by decide))
  intro L' h₁ F' N' B' X' T'
  k_steps
  (with_reducible rename News s.heap _ _ _ => Nx)
  (with_reducible rename Fr s.heap _ _ _ => Fx)
  exact hQ _ _ _ _ _ (fun b o e => Fx.keep b o e) (Nx _ (.head _)).2.2 (Nx _ (.head _)).1
end
end
-- LibW
section
section
variable {prog : Program} {w : World} {A : Around} {E : Value → Shared → Prop} {Q : Flow → Shared → Prop} {s : Shared} {env : Env} {h₀ : Heap} {L : Addr}
/-- a place where a frame and a ledger are as X says -/
noncomputable def At (h₀ : Heap) (L : Addr) (s : Shared) (X : (Str → Option Value) → List (Addr × Obj) → Prop) (s₂ : Shared) : Prop :=
  ∃ h' tk m₂ news₂, s₂ = { s with heap := h', toks := tk } ∧ Fr h₀ L h' m₂ ∧ News h₀ L h' news₂ ∧ X m₂ news₂
/-- what a turn of a while asks, from where it starts -/
noncomputable def WhTurn (prog : Program) (w : World) (A : Around) (E : Value → Shared → Prop) (env : Env) (h₀ : Heap) (L : Addr) (test : Expr) (body : List Stmt) (J : Nat → (Str → Option Value) → List (Addr × Obj) → Prop) (X : (Str → Option Value) → List (Addr × Obj) → Prop) (s : Shared) : Prop :=
  ∀ n m₁ news₁ h₁ tk₁, Fr h₀ L h₁ m₁ → News h₀ L h₁ news₁ → J n m₁ news₁ →
      wpAny (model prog w) A (isTrue test env (eval test env)) (fun b s₂ =>
        WhlIf b (wpAny (model prog w) A (execs body env) (WhileStep h₀ L s J n) E s₂) (At h₀ L s X s₂)) E { s with heap := h₁, toks := tk₁ }
/-- ready for a while -/
noncomputable def WhReady (prog : Program) (w : World) (A : Around) (E : Value → Shared → Prop) (env : Env) (h₀ : Heap) (L : Addr) (test : Expr) (body : List Stmt) (Q : Flow → Shared → Prop) (s : Shared) : Prop :=
  ∃ m news, ∃ J : Nat → (Str → Option Value) → List (Addr × Obj) → Prop, ∃ X : (Str → Option Value) → List (Addr × Obj) → Prop, ∃ n₀, Fr h₀ L s.heap m ∧ News h₀ L s.heap news ∧ J n₀ m news ∧ WhTurn prog w A E env h₀ L test body J X s ∧
    ∀ h' tk m₂ news₂, Fr h₀ L h' m₂ → News h₀ L h' news₂ → X m₂ news₂ → Q .next { s with heap := h', toks := tk }
theorem While_ready {test : Expr} {body : List Stmt} {pos : Pos} {m₀ : Str → Option Value} (_F : Fr h₀ L s.heap m₀)
    (hE : PassesOwn (model prog w) A env E) (h : WhReady prog w A E env h₀ L test body Q s) : wpAny (model prog w) A (exec (.While test body [] pos) env) Q E s := by
  obtain ⟨m, news, J, X, n₀, F, N, hJ, turn, done⟩ := h
  refine While_inv J F N hJ (fun n m₁ news₁ h₁ tk₁ F₁ N₁ J₁ => wpAny_mono (turn n m₁ news₁ h₁ tk₁ F₁ N₁ J₁) (fun b s₂ h₂ => ?_) fun _ _ y => y) hE
  cases b with
  | true => unfold WhlIf at h₂; rw [if_pos rfl] at h₂; exact h₂
  | false =>
    unfold WhlIf at h₂
    rw [if_neg Bool.false_ne_true] at h₂
    obtain ⟨h', tk, m₂, news₂, rfl, F₂, N₂, x⟩ := h₂
    exact done h' tk m₂ news₂ F₂ N₂ x
end
theorem news_sub' {h₀ h : Heap} {L : Addr} {a b : List (Addr × Obj)} (N : News h₀ L h b) (hs : ∀ p ∈ a, p ∈ b) : News h₀ L h a := fun p hp => N p (hs p hp)
theorem news_two {h₀ h : Heap} {L : Addr} {x y z : Addr × Obj} (N : News h₀ L h [x, y, z]) : News h₀ L h [x, y] := news_sub' N fun q hq => by
  simp only [List.mem_cons, List.not_mem_nil, or_false] at hq ⊢
  exact hq.elim .inl fun h => .inr (.inl h)
end
-- Pl1
section
open PySem.StrLaws PySem.Builtin PySem.Builtin.Str
/-- the signs of a text -/
noncomputable abbrev chars (x : Str) : List Nat := x.cps.toList
theorem chars_app (x y : Str) : chars (x ++ y) = chars x ++ chars y := by simp [chars, Str.cps_append]
theorem chars_inj {x y : Str} (h : chars x = chars y) : x = y := Str.ext' (Array.toList_inj.mp h)
theorem chars_len (x : Str) : (chars x).length = x.length := by simp [chars, Str.length]
theorem at_char {x y : Str} {c0 i : Nat} (hy : (chars y)[0]? = some c0) (h : StrLaws.At x y x.length i) : (chars x)[i]? = some c0 := by
  have h2 := h.2
  rw [subAt_eq] at h2
  have h3 : ((chars x).drop i).take y.length = chars y := eq_of_beq h2
  rw [← h3] at hy
  have hl : 0 < y.length := by
    cases hq : y.length with
    | zero => rw [hq] at hy; simp at hy
    | succ n => exact Nat.succ_pos _
  rw [List.getElem?_take_of_lt hl, List.getElem?_drop] at hy
  simpa using hy
theorem at_of {x y : Str} {pre post : List Nat} (h : chars x = pre ++ chars y ++ post) : StrLaws.At x y x.length pre.length := by
  refine ⟨?_, ?_⟩
  · rw [← chars_len x, h, ← chars_len y]; simp only [List.length_append]; omega
  · rw [subAt_eq]
    show (((chars x).drop pre.length).take y.length == chars y) = true
    have e : ((chars x).drop pre.length).take y.length = chars y := by rw [h, List.append_assoc, List.drop_left, ← chars_len y, List.take_left]
    rw [e]; exact beq_self_eq_true (chars y)
theorem sub_mid {x : Str} {pre mid post : List Nat} (h : chars x = pre ++ mid ++ post) {a b : Nat} (ha : a = pre.length) (hb : b = pre.length + mid.length) : chars (strSub x a b) = mid := by
  subst ha hb
  show (strSub x _ _).cps.toList = mid
  rw [strSub_toList]
  show ((chars x).drop pre.length).take (pre.length + mid.length - pre.length) = mid
  rw [h, List.append_assoc, List.drop_left, Nat.add_sub_cancel_left, List.take_left]
theorem join_cons2 (y p q : Str) (r : List Str) : Str.join y (p :: q :: r) = p ++ y ++ Str.join y (q :: r) := rfl
theorem parts_join {x y : Str} {c0 : Nat} (hy : (chars y)[0]? = some c0) : ∀ (ps : List Str) (pre : List Nat) (cuts : List Nat) (f : Nat), ps ≠ [] → chars x = pre ++ chars (Str.join y ps) → (∀ p ∈ ps, c0 ∉ chars p) →
    ChainG x y x.length pre.length cuts f → (∀ k, f ≤ k → ¬ StrLaws.At x y x.length k) → partsFrom x y.length pre.length cuts = ps
  | [], _, _, _, h, _, _, _, _ => absurd rfl h
  | [p], pre, cuts, f, _, hx, hf, hc, hn => by
    have hx' : chars x = pre ++ chars p := hx
    match cuts, hc with
    | [], _ =>
      show [strSub x pre.length x.length] = [p]
      congr 1
      refine chars_inj (sub_mid (post := []) (by rw [hx', List.append_nil]) rfl ?_)
      rw [← chars_len x, hx']; simp
    | c :: r, hc =>
      have h1 := at_char hy hc.2.1
      rw [hx', List.getElem?_append_right hc.1] at h1
      exact absurd (List.mem_of_getElem? h1) (hf p (.head _))
  | p :: q :: r, pre, cuts, f, _, hx, hf, hc, hn => by
    have hx1 : chars x = (pre ++ chars p) ++ chars y ++ chars (Str.join y (q :: r)) := by rw [hx, join_cons2, chars_app, chars_app]; simp only [List.append_assoc]
    have hA := at_of hx1
    rw [List.length_append] at hA
    match cuts, hc with
    | [], hc =>
      have e : f = pre.length := hc
      exact absurd hA (hn _ (by omega))
    | c :: cs, hc =>
      have h1 := at_char hy hc.2.1
      have hle : c ≤ pre.length + (chars p).length := by
        refine Nat.le_of_not_lt fun hlt => ?_
        exact hc.2.2.1 _ (Nat.le_add_right _ _) hlt hA
      have hge : pre.length + (chars p).length ≤ c := by
        refine Nat.le_of_not_lt fun hlt => ?_
        have hc1 : pre.length ≤ c := hc.1
        rw [hx1, List.append_assoc, List.append_assoc, List.getElem?_append_right hc1, List.getElem?_append_left (by omega)] at h1
        exact absurd (List.mem_of_getElem? h1) (hf p (.head _))
      have ec : c = pre.length + (chars p).length := Nat.le_antisymm hle hge
      subst ec
      show strSub x pre.length (pre.length + (chars p).length) :: partsFrom x y.length (pre.length + (chars p).length + y.length) cs = _
      congr 1
      · exact chars_inj (sub_mid (post := chars y ++ chars (Str.join y (q :: r))) (by rw [hx1]; simp only [List.append_assoc]) rfl rfl)
      · have el : (pre ++ chars p ++ chars y).length = pre.length + (chars p).length + y.length := by rw [← chars_len y]; simp only [List.length_append]
        have := parts_join hy (q :: r) (pre ++ chars p ++ chars y) cs f (by simp) hx1 (fun z hz => hf z (.tail _ hz)) (by rw [el]; exact hc.2.2.2) hn
        rwa [el] at this
theorem kind_pos (x : Str) : 1 ≤ Str.strKind x := by unfold Str.strKind; split <;> (try split) <;> omega
theorem split_join {y : Str} {c0 : Nat} (hy : (chars y)[0]? = some c0) (hk : Str.strKind y = 1) {ps : List Str} (h0 : ps ≠ []) (hf : ∀ p ∈ ps, c0 ∉ chars p) : Txt.split (Str.join y ps) y = ps := by
  have hyl : 1 ≤ y.length := by
    rw [← chars_len]
    cases hq : chars y with
    | nil => rw [hq] at hy; simp at hy
    | cons a b => simp
  obtain ⟨f, hG, hn⟩ := occ_tight (Str.join y ps) y hyl
  have hparts := parts_join hy ps [] _ f h0 rfl hf hG hn
  unfold Txt.split
  split
  · rename_i hc
    rw [Bool.or_eq_true, decide_eq_true_eq, decide_eq_true_eq] at hc
    rcases hc with hc | hc
    · match ps, h0, hc with
      | [p], _, _ => rfl
      | p :: q :: r, _, hc => rw [join_cons2, Str.length_append, Str.length_append] at hc; omega
    · have := kind_pos (Str.join y ps); omega
  · split
    · rename_i he
      rw [List.isEmpty_iff.mp he] at hparts
      have e : partsFrom (Str.join y ps) y.length ([] : List Nat).length [] = [Str.join y ps] := by
        show [strSub (Str.join y ps) 0 (Str.join y ps).length] = _
        rw [sub_whole]
      exact e.symm.trans hparts
    · rw [partsBetween_eq]; exact hparts
theorem splitMax_two {x y : Str} {c0 : Nat} {a b : Str} (hy : (chars y)[0]? = some c0) (hk : Str.strKind y = 1) (hx : chars x = chars a ++ chars y ++ chars b) (hf : c0 ∉ chars a) : Txt.splitMax x y 1 = [a, b] := by
  have hA := at_of hx
  have hlen : a.length + y.length + b.length = x.length := by rw [← chars_len x, hx, ← chars_len a, ← chars_len y, ← chars_len b]; simp only [List.length_append]
  unfold Txt.splitMax
  rw [if_neg (by
    intro hc
    rw [Bool.or_eq_true, decide_eq_true_eq, decide_eq_true_eq] at hc
    rcases hc with hc | hc
    · omega
    · have := kind_pos x; omega)]
  have hl := occ_length_le x y 0 x.length (limitOf x 1)
  have e1 : limitOf x 1 = 1 := rfl
  rw [e1] at hl ⊢
  rcases occ_head x y 1 (Nat.le_refl _) with ⟨_, hn⟩ | ⟨i, r, e, hi, hm⟩
  · exact absurd hA (hn _)
  · rw [e] at hl ⊢
    have hr : r = [] := List.length_eq_zero_iff.mp (by simpa using hl)
    subst hr
    have hc := at_char hy hi
    have ei : i = (chars a).length := by
      refine Nat.le_antisymm (Nat.le_of_not_lt fun h => hm _ h hA) (Nat.le_of_not_lt fun h => ?_)
      rw [hx, List.append_assoc, List.getElem?_append_left h] at hc
      exact hf (List.mem_of_getElem? hc)
    subst ei
    rw [if_neg (by simp), partsBetween_eq]
    show [strSub x 0 (chars a).length, strSub x ((chars a).length + y.length) x.length] = [a, b]
    congr 1
    · exact chars_inj (sub_mid (pre := []) (post := chars y ++ chars b) (by rw [hx]; simp) rfl (by simp))
    · congr 1
      exact chars_inj (sub_mid (pre := chars a ++ chars y) (post := []) (by rw [hx]; simp) (by rw [List.length_append, chars_len y]) (by rw [List.length_append, chars_len, chars_len, chars_len]; omega))
theorem splitMax_none {x y : Str} {c0 : Nat} (hy : (chars y)[0]? = some c0) (hf : c0 ∉ chars x) : Txt.splitMax x y 1 = [x] := by
  unfold Txt.splitMax
  split
  · rfl
  · rcases occ_head x y 1 (Nat.le_refl _) with ⟨e, hn⟩ | ⟨i, r, e, hi, hm⟩
    · rw [show limitOf x 1 = 1 from rfl, e]; rfl
    · exact absurd (List.mem_of_getElem? (at_char hy hi)) hf
theorem slice_mid {x : Str} {pre mid post : List Nat} (h : chars x = pre ++ mid ++ post) (hp : pre.length = 3) (hq : post.length = 5) : chars (Txt.slice x (some 3) (some (-5))) = mid := by
  have hn : x.length = mid.length + 8 := by rw [← chars_len, h]; simp only [List.length_append]; omega
  have e : strSliceIndices (some 3) (some (-5)) 1 x.length = (List.range mid.length).map (fun k => 3 + k) := by
    rw [hn]
    refine Eq.trans ?_ (strSliceIndices_plain (a := 3) (b := 3 + mid.length) (by omega) (by omega) : strSliceIndices (some ((3 : Nat) : Int)) (some ((3 + mid.length : Nat) : Int)) 1 (mid.length + 8) = _) |>.trans (by rw [Nat.add_sub_cancel_left])
    unfold strSliceIndices
    simp only [show (1 : Int) > 0 by decide, if_true]
    congr 1
    all_goals omega
  unfold Txt.slice
  rw [e]
  rw [if_neg (by simp; omega)]
  show (List.filterMap _ _).toArray.toList = mid
  rw [show (fun i : Nat => x.cps[i]?) = (fun i : Nat => (chars x)[i]?) from funext fun i => by simp [chars]]
  rw [picks _ _ _ (by rw [h]; simp only [List.length_append]; omega), h, ← hp, List.append_assoc, List.drop_left, List.take_left]
end
-- LibI
section
section
variable {prog : Program} {w : World} {A : Around} {E : Value → Shared → Prop} {s : Shared} {env : Env} {R : Result → Shared → Prop}
/-- only C has changed -/
noncomputable def OnlyC (C : Addr) (s s' : Shared) : Prop := ∃ h tk m, s' = { s with heap := h, toks := tk } ∧ h.Ns C m ∧ (∀ b o, b ≠ C → s.heap.get? b = some o → h.get? b = some o)
/-- a turn of a dict comprehension over items: keeps a pair as it is, or leaves it out -/
noncomputable def TurnI (prog : Program) (w : World) (A : Around) (cenv : Env) (target : Expr) (ifs : List Expr) (kx vx : Expr) (C : Addr) (keep : Str → Bool) (k : Str) (x : Value) (T : Addr) (s : Shared) : Prop :=
  wpAny (model prog w) A (assign target cenv (.ref T)) (fun _ s₂ => wpAny (model prog w) A (tests ifs cenv) (fun ok s₃ =>
    if ok = true then wpAny (model prog w) A (eval kx cenv) (fun key s₄ => wpAny (model prog w) A (eval vx cenv) (fun y s₅ => keep k = true ∧ (PySem.strKind prog w).is k key = true ∧ y = x ∧ OnlyC C s s₅) (fun _ _ => False) s₄) (fun _ _ => False) s₃ else keep k = false ∧ OnlyC C s s₃) (fun _ _ => False) s₂) (fun _ _ => False) s
theorem stored_fresh {kvs : List (Str × Value)} {k : Str} {y : Value} (h : k ∉ kvs.map (·.1)) : stored kvs k y = kvs ++ [(k, y)] := by
  have hany : kvs.any (fun kv => decide (kv.1 = k)) = false := by
    rw [List.any_eq_false]
    intro p hp q
    exact h (of_decide_eq_true q ▸ List.mem_map_of_mem hp)
  unfold stored; rw [hany]; rfl
theorem take_fresh {kvs : List (Str × Value)} (hnd : (kvs.map (·.1)).Nodup) {i : Nat} {k : Str} {x : Value} (hi : kvs[i]? = some (k, x)) : k ∉ (kvs.take i).map (·.1) := by
  intro hm
  have hlt : i < kvs.length := (List.getElem?_eq_some_iff.mp hi).1
  have e : kvs.map (·.1) = (kvs.take i).map (·.1) ++ k :: (kvs.drop (i + 1)).map (·.1) := by
    have := (List.take_append_drop i kvs).symm
    rw [List.drop_eq_getElem_cons hlt, (List.getElem?_eq_some_iff.mp hi).2] at this
    have h2 := congrArg (List.map (·.1)) this
    simpa using h2
  rw [e] at hnd
  exact (List.nodup_append.mp hnd).2.2 _ hm _ (.head _) rfl
inductive CIInv (prog : Program) (w : World) (s : Shared) (C D I d : Addr) (kvs : List (Str × Value)) (ep : Nat) (keep : Str → Bool) : Nat → Shared → Prop
  | mk {h' tk m' i ok ov} (hit : IsItemIter h' I d i kvs.length ep ok ov) (hat : h'.DictAt (PySem.strKind prog w) d kvs ep) (hacc : h'.DictOf (PySem.strKind prog w) D ((kvs.take i).filter fun p => keep p.1)) (hn : h'.Ns C m') (hi : i ≤ kvs.length)
      (hk : ∀ b o, b ≠ C → b ≠ I → b ≠ D → s.heap.get? b = some o → h'.get? b = some o) : CIInv prog w s C D I d kvs ep keep (kvs.length + 1 - i) { s with heap := h', toks := tk }
end
namespace HcompLoop_items
noncomputable abbrev hTy := Program × World × Around × Shared × (Result → Shared → Prop) × Expr × Expr × Expr × List Expr × List Expr × Nat × Pos × Scope × Pos × Addr × Addr × Addr × (List (Str × Value)) × Nat × Value × Value × Env × (Str → Option Value) × (Str → Bool)
noncomputable def hSt (c : hTy) : Prop := (fun (prog : Program) (w : World) (A : Around) (s : Shared) (R : Result → Shared → Prop) (kx : Expr) (vx : Expr) (iter : Expr) (ifs : List Expr) (elts : List Expr) (kk : Nat) (tp : Pos) (scope : Scope) (pos : Pos) (I : Addr) (D : Addr) (d : Addr) (kvs : List (Str × Value)) (ep : Nat) (ok : Value) (ov : Value) (cenv : Env) (m : Str → Option Value) (keep : Str → Bool) => ∀ (C : Addr) (hh : A.handled = none) (hC : cenv.locals = C) (hdI : d ≠ I) (hDC : D ≠ C) (hDI : D ≠ I) (hCI : C ≠ I) (hdD : d ≠ D) (hdC : d ≠ C) (hnd : (kvs.map (·.1)).Nodup) (hsz : kvs.length ≤ sizeLine) (hit : IsItemIter s.heap I d 0 kvs.length ep ok ov) (hat : s.heap.DictAt (PySem.strKind prog w) d kvs ep) (hacc : s.heap.DictOf (PySem.strKind prog w) D []) (hn : s.heap.Ns C m) (hturn : ∀ (i : Nat) k x key T s₂ m₂, kvs[i]? = some (k, x) → s₂.heap.Ns C m₂ → (PySem.strKind prog w).is k key = true → s₂.heap.IsTuple T #[key, x] → (∃ h tk, s₂ = { s with heap := h, toks := tk }) → (∀ b o, b ≠ C → b ≠ I → b ≠ D → s.heap.get? b = some o → s₂.heap.get? b = some o) →
      TurnI prog w A cenv (.Tuple elts kk tp) ifs kx vx C keep k x T s₂) (hR : ∀ h' tk m', h'.Ns C m' → h'.DictOf (PySem.strKind prog w) D (kvs.filter fun p => keep p.1) → (∀ b o, b ≠ C → b ≠ I → b ≠ D → s.heap.get? b = some o → h'.get? b = some o) → R (.ok .next) { s with heap := h', toks := tk }), (codeAny (model prog w) A (.compLoop (.DictComp kx vx [⟨.Tuple elts kk tp, iter, ifs, 0⟩] scope pos) 0 (.ref I) (.ref D) cenv) R s : Prop)) c.1 c.2.1 c.2.2.1 c.2.2.2.1 c.2.2.2.2.1 c.2.2.2.2.2.1 c.2.2.2.2.2.2.1 c.2.2.2.2.2.2.2.1 c.2.2.2.2.2.2.2.2.1 c.2.2.2.2.2.2.2.2.2.1 c.2.2.2.2.2.2.2.2.2.2.1 c.2.2.2.2.2.2.2.2.2.2.2.1 c.2.2.2.2.2.2.2.2.2.2.2.2.1 c.2.2.2.2.2.2.2.2.2.2.2.2.2.1 c.2.2.2.2.2.2.2.2.2.2.2.2.2.2.1 c.2.2.2.2.2.2.2.2.2.2.2.2.2.2.2.1 c.2.2.2.2.2.2.2.2.2.2.2.2.2.2.2.2.1 c.2.2.2.2.2.2.2.2.2.2.2.2.2.2.2.2.2.1 c.2.2.2.2.2.2.2.2.2.2.2.2.2.2.2.2.2.2.1 c.2.2.2.2.2.2.2.2.2.2.2.2.2.2.2.2.2.2.2.1 c.2.2.2.2.2.2.2.2.2.2.2.2.2.2.2.2.2.2.2.2.1 c.2.2.2.2.2.2.2.2.2.2.2.2.2.2.2.2.2.2.2.2.2.1 c.2.2.2.2.2.2.2.2.2.2.2.2.2.2.2.2.2.2.2.2.2.2.1 c.2.2.2.2.2.2.2.2.2.2.2.2.2.2.2.2.2.2.2.2.2.2.2
theorem hNe : Nonempty hTy := ⟨default, w0, {}, {}, (fun _ => (fun _ => False)), default, default, default, [], [], 0, default, default, default, (0 : Nat), (0 : Nat), (0 : Nat), [], 0, default, default, default, (fun _ => none), (fun _ => false)⟩
noncomputable def hCc : hTy := @Classical.epsilon hTy hNe fun x => ¬ hSt x
@[irreducible] noncomputable def prog : Program := hCc.1
@[irreducible] noncomputable def w : World := hCc.2.1
@[irreducible] noncomputable def A : Around := hCc.2.2.1
@[irreducible] noncomputable def s : Shared := hCc.2.2.2.1
@[irreducible] noncomputable def R : Result → Shared → Prop := hCc.2.2.2.2.1
@[irreducible] noncomputable def kx : Expr := hCc.2.2.2.2.2.1
@[irreducible] noncomputable def vx : Expr := hCc.2.2.2.2.2.2.1
@[irreducible] noncomputable def iter : Expr := hCc.2.2.2.2.2.2.2.1
@[irreducible] noncomputable def ifs : List Expr := hCc.2.2.2.2.2.2.2.2.1
@[irreducible] noncomputable def elts : List Expr := hCc.2.2.2.2.2.2.2.2.2.1
@[irreducible] noncomputable def kk : Nat := hCc.2.2.2.2.2.2.2.2.2.2.1
@[irreducible] noncomputable def tp : Pos := hCc.2.2.2.2.2.2.2.2.2.2.2.1
@[irreducible] noncomputable def scope : Scope := hCc.2.2.2.2.2.2.2.2.2.2.2.2.1
@[irreducible] noncomputable def pos : Pos := hCc.2.2.2.2.2.2.2.2.2.2.2.2.2.1
@[irreducible] noncomputable def I : Addr := hCc.2.2.2.2.2.2.2.2.2.2.2.2.2.2.1
@[irreducible] noncomputable def D : Addr := hCc.2.2.2.2.2.2.2.2.2.2.2.2.2.2.2.1
@[irreducible] noncomputable def d : Addr := hCc.2.2.2.2.2.2.2.2.2.2.2.2.2.2.2.2.1
@[irreducible] noncomputable def kvs : List (Str × Value) := hCc.2.2.2.2.2.2.2.2.2.2.2.2.2.2.2.2.2.1
@[irreducible] noncomputable def ep : Nat := hCc.2.2.2.2.2.2.2.2.2.2.2.2.2.2.2.2.2.2.1
@[irreducible] noncomputable def ok : Value := hCc.2.2.2.2.2.2.2.2.2.2.2.2.2.2.2.2.2.2.2.1
@[irreducible] noncomputable def ov : Value := hCc.2.2.2.2.2.2.2.2.2.2.2.2.2.2.2.2.2.2.2.2.1
@[irreducible] noncomputable def cenv : Env := hCc.2.2.2.2.2.2.2.2.2.2.2.2.2.2.2.2.2.2.2.2.2.1
@[irreducible] noncomputable def m : Str → Option Value := hCc.2.2.2.2.2.2.2.2.2.2.2.2.2.2.2.2.2.2.2.2.2.2.1
@[irreducible] noncomputable def keep : Str → Bool := hCc.2.2.2.2.2.2.2.2.2.2.2.2.2.2.2.2.2.2.2.2.2.2.2
theorem hMain (C : Addr) (hh : A.handled = none) (hC : cenv.locals = C) (hdI : d ≠ I) (hDC : D ≠ C) (hDI : D ≠ I) (hCI : C ≠ I) (hdD : d ≠ D) (hdC : d ≠ C) (hnd : (kvs.map (·.1)).Nodup) (hsz : kvs.length ≤ sizeLine) (hit : IsItemIter s.heap I d 0 kvs.length ep ok ov) (hat : s.heap.DictAt (PySem.strKind prog w) d kvs ep) (hacc : s.heap.DictOf (PySem.strKind prog w) D []) (hn : s.heap.Ns C m) (hturn : ∀ (i : Nat) k x key T s₂ m₂, kvs[i]? = some (k, x) → s₂.heap.Ns C m₂ → (PySem.strKind prog w).is k key = true → s₂.heap.IsTuple T #[key, x] → (∃ h tk, s₂ = { s with heap := h, toks := tk }) → (∀ b o, b ≠ C → b ≠ I → b ≠ D → s.heap.get? b = some o → s₂.heap.get? b = some o) →
      TurnI prog w A cenv (.Tuple elts kk tp) ifs kx vx C keep k x T s₂) (hR : ∀ h' tk m', h'.Ns C m' → h'.DictOf (PySem.strKind prog w) D (kvs.filter fun p => keep p.1) → (∀ b o, b ≠ C → b ≠ I → b ≠ D → s.heap.get? b = some o → h'.get? b = some o) → R (.ok .next) { s with heap := h', toks := tk }) : codeAny (model prog w) A (.compLoop (.DictComp kx vx [⟨.Tuple elts kk tp, iter, ifs, 0⟩] scope pos) 0 (.ref I) (.ref D) cenv) R s := by
  subst hC
  have W := kti_itemsTurns (knd := PySem.strKind prog w) (elts := elts) (kk := kk) (pos := tp) hh I d hdI kvs ep
  refine compLoopD_any (CIInv prog w s cenv.locals D I d kvs ep keep) ?_ (kvs.length + 1) (.mk (i := 0) (m' := m) hit hat hacc hn (Nat.zero_le _) fun _ _ _ _ _ e => e)
  intro k s' hI
  cases hI with | @mk H tk m' i ok1 ov1 hit' hat' hacc' hn' hi hk =>
  by_cases hlt : i < kvs.length
  · have hltn : kvs.length + 1 - (i + 1) < kvs.length + 1 - i := Nat.sub_lt_sub_left (Nat.lt_succ_of_lt hlt) (Nat.lt_succ_self _)
    refine W.item i _ _ _ hlt ⟨⟨_, _, hit'⟩, hat'⟩ fun v h₂ tk₂ hMd hk₂ => ?_
    refine W.go i v _ _ _ hMd fun h₃ hP hst₃ hk₃ => ?_
    obtain ⟨T, key, kv, x, rfl, hx, hkey, hT⟩ := hP
    have up₃ : ∀ c o, c ≠ I → H.get? c = some o → h₃.get? c = some o := fun c o hc e => hk₃ c o (by simpa using hc) (hk₂ c o (by simpa using hc) e)
    have hn₃ : h₃.Ns cenv.locals m' := hn'.at' fun o e => up₃ _ o hCI e
    obtain ⟨⟨ok', ov', hI₃⟩, hat₃⟩ := hst₃
    have htk : (kvs.take (i + 1)) = kvs.take i ++ [(kv, x)] := by rw [List.take_add_one, hx]; rfl
    refine wpAny_mono (hturn i kv x key T { s with heap := h₃, toks := tk₂ } m' hx hn₃ hkey hT ⟨_, _, rfl⟩ fun b o h1 h2 h3 e => up₃ b o h2 (hk b o h1 h2 h3 e)) (fun _ s₂ h₂' => wpAny_mono h₂' (fun okb s₃ h₃' => ?_) fun _ _ e => e) fun _ _ e => e
    cases okb with
    | false =>
      simp only [Bool.false_eq_true, if_false] at h₃' ⊢
      obtain ⟨hkp, h, tk₃, m₃, rfl, hn₄, hk₄⟩ := h₃'
      refine ⟨kvs.length + 1 - (i + 1), hltn, .mk (i := i + 1) (hk₄ I _ (Ne.symm hCI) hI₃) (hat₃.at fun o e => hk₄ d o hdC e) ?_ hn₄ hlt fun b o h1 h2 h3 e => hk₄ b o h1 (up₃ b o h2 (hk b o h1 h2 h3 e))⟩
      rw [htk, List.filter_append]
      simp only [List.filter_cons, hkp, List.filter_nil, Bool.false_eq_true, if_false, List.append_nil]
      exact hacc'.at fun o e => hk₄ D o hDC (up₃ D o hDI e)
    | true =>
      simp only [if_true] at h₃' ⊢
      refine wpAny_mono h₃' (fun key' s₄ h₄ => wpAny_mono h₄ (fun y s₅ h₅ => ?_) fun _ _ e => e) fun _ _ e => e
      obtain ⟨hkp, hkey', rfl, h, tk₃, m₃, rfl, hn₄, hk₄⟩ := h₅
      have hacc₂ : h.DictOf (PySem.strKind prog w) D ((kvs.take i).filter fun p => keep p.1) := hacc'.at fun o e => hk₄ D o hDC (up₃ D o hDI e)
      have hle : ((kvs.take i).filter fun p => keep p.1).length ≤ sizeLine := Nat.le_trans (List.length_filter_le _ _) (Nat.le_trans (by rw [List.length_take]; exact Nat.min_le_right _ _) hsz)
      refine wpAny_dictSet_pairs (hsz := hle) hkey' hacc₂ fun h₆ hl₆ hs₆ => ?_
      refine ⟨kvs.length + 1 - (i + 1), hltn, .mk (i := i + 1) (hs₆.extBut I _ (Ne.symm hDI) (hk₄ I _ (Ne.symm hCI) hI₃)) (hat₃.at fun o e => hs₆.extBut d o hdD (hk₄ d o hdC e)) ?_ (hn₄.sameBut hs₆ (Ne.symm hDC)) hlt fun b o h1 h2 h3 e => hs₆.extBut b o h3 (hk₄ b o h1 (up₃ b o h2 (hk b o h1 h2 h3 e)))⟩
      rw [htk, List.filter_append]
      simp only [List.filter_cons, hkp, List.filter_nil, if_true]
      rw [stored_fresh fun hm => take_fresh hnd hx (by
        obtain ⟨q, hq, e⟩ := List.mem_map.mp hm
        exact List.mem_map.mpr ⟨q, (List.mem_filter.mp hq).1, e⟩)] at hl₆
      exact hl₆
  · have hin : i = kvs.length := Nat.le_antisymm hi (Nat.not_lt.mp hlt)
    subst hin
    refine W.done _ _ _ ⟨⟨_, _, hit'⟩, hat'⟩ fun h₁ tk₁ hk₁ => ?_
    have up : ∀ c o, c ≠ I → H.get? c = some o → h₁.get? c = some o := fun c o hc e => hk₁ c o (by simpa using hc) e
    refine hR h₁ tk₁ m' (hn'.at' fun o e => up _ o hCI e) ?_ fun b o h1 h2 h3 e => up b o h2 (hk b o h1 h2 h3 e)
    rw [List.take_length] at hacc'
    exact hacc'.at fun o e => up D o hDI e
end HcompLoop_items
section
variable {prog : Program} {w : World} {A : Around} {E : Value → Shared → Prop} {s : Shared} {env : Env} {R : Result → Shared → Prop}
theorem compLoop_items {kx vx iter : Expr} {ifs elts : List Expr} {kk : Nat} {tp : Pos} {scope : Scope} {pos : Pos} {I D C d : Addr} {kvs : List (Str × Value)} {ep : Nat} {ok ov : Value} {cenv : Env} {m : Str → Option Value} (keep : Str → Bool) (hh : A.handled = none) (hC : cenv.locals = C) (hdI : d ≠ I) (hDC : D ≠ C) (hDI : D ≠ I) (hCI : C ≠ I) (hdD : d ≠ D) (hdC : d ≠ C) (hnd : (kvs.map (·.1)).Nodup) (hsz : kvs.length ≤ sizeLine) (hit : IsItemIter s.heap I d 0 kvs.length ep ok ov) (hat : s.heap.DictAt (PySem.strKind prog w) d kvs ep) (hacc : s.heap.DictOf (PySem.strKind prog w) D []) (hn : s.heap.Ns C m) (hturn : ∀ (i : Nat) k x key T s₂ m₂, kvs[i]? = some (k, x) → s₂.heap.Ns C m₂ → (PySem.strKind prog w).is k key = true → s₂.heap.IsTuple T #[key, x] → (∃ h tk, s₂ = { s with heap := h, toks := tk }) → (∀ b o, b ≠ C → b ≠ I → b ≠ D → s.heap.get? b = some o → s₂.heap.get? b = some o) →
      TurnI prog w A cenv (.Tuple elts kk tp) ifs kx vx C keep k x T s₂) (hR : ∀ h' tk m', h'.Ns C m' → h'.DictOf (PySem.strKind prog w) D (kvs.filter fun p => keep p.1) → (∀ b o, b ≠ C → b ≠ I → b ≠ D → s.heap.get? b = some o → h'.get? b = some o) → R (.ok .next) { s with heap := h', toks := tk }) : codeAny (model prog w) A (.compLoop (.DictComp kx vx [⟨.Tuple elts kk tp, iter, ifs, 0⟩] scope pos) 0 (.ref I) (.ref D) cenv) R s := hen HcompLoop_items.hSt HcompLoop_items.hNe (by with_unfolding_all exact HcompLoop_items.hMain) (prog, w, A, s, R, kx, vx, iter, ifs, elts, kk, tp, scope, pos, I, D, d, kvs, ep, ok, ov, cenv, m, keep) C hh hC hdI hDC hDI hCI hdD hdC hnd hsz hit hat hacc hn hturn hR
/-- ready for an assigned dict comprehension over the items of a dict -/
noncomputable def CompReadyI (prog : Program) (w : World) (A : Around) (env : Env) (target : Expr) (ifs : List Expr) (kx vx : Expr) (scope : Scope) (cl : List (Str × Addr)) (keep : Str → Bool) (y : Str) (Q : Flow → Shared → Prop) (xv : Value) (s₁ : Shared) : Prop :=
  ∃ (v d : Addr) (od : Obj) (kvs : List (Str × Value)) (h₀ : Heap) (m : Str → Option Value) (news : List (Addr × Obj)), xv = .ref v ∧ Fr h₀ env.locals s₁.heap m ∧ News h₀ env.locals s₁.heap news ∧ (v, { cls := .type "dict_items", data := .fields #[.ref d] }) ∈ news ∧ (d, od) ∈ news ∧ od.IsDictOf (PySem.strKind prog w) kvs ∧
      kvs.length ≤ 1000 ∧ (kvs.map (·.1)).Nodup ∧
      (∀ C (i : Nat) k x key T s₃ m₃, s₁.heap.objs.size ≤ C → kvs[i]? = some (k, x) → s₃.heap.Ns C m₃ → (PySem.strKind prog w).is k key = true → s₃.heap.IsTuple T #[key, x] → (∃ h tk, s₃ = { s₁ with heap := h, toks := tk }) → s₁.heap.StaysIn s₃.heap →
        TurnI prog w A (compEnvC scope cl C env) target ifs kx vx C keep k x T s₃) ∧
      (∀ D oD h' tk, oD.IsDictOf (PySem.strKind prog w) (kvs.filter fun p => keep p.1) → Fr h₀ env.locals h' (fun z => if z = y then some (.ref D) else m z) → News h₀ env.locals h' ((D, oD) :: news) → AllNe D news → s₁.heap.objs.size ≤ D →
        (∀ b o, b ≠ env.locals → s₁.heap.get? b = some o → h'.get? b = some o) → Q .next { s₁ with heap := h', toks := tk })
end
namespace HAssign_DictComp_items
noncomputable abbrev hTy := Program × World × Around × (Value → Shared → Prop) × Shared × Env × Expr × Expr × Expr × List Expr × List Expr × Nat × Pos × Str × Pos × Scope × (List (Str × Addr)) × Pos × Pos × (Flow → Shared → Prop) × (Str → Bool)
noncomputable def hSt (c : hTy) : Prop := (fun (prog : Program) (w : World) (A : Around) (E : Value → Shared → Prop) (s : Shared) (env : Env) (kx : Expr) (vx : Expr) (iter : Expr) (ifs : List Expr) (elts : List Expr) (kk : Nat) (tp : Pos) (y : Str) (py : Pos) (scope : Scope) (cl : List (Str × Addr)) (pos : Pos) (spos : Pos) (Q : Flow → Shared → Prop) (keep : Str → Bool) => ∀ (hsw : swapsWith (.DictComp kx vx [⟨.Tuple elts kk tp, iter, ifs, 0⟩] scope pos) (some (.Name y py)) spos.line env = pure true) (hh : A.handled = none) (hclos : closureFor scope env = pure cl) (hcell : ∀ y ∈ scope.names, y.2 ≠ .cell) (hkind : scope.kind = .function) (hnames : ∀ y ∈ scope.names, y.2 = .local → scope.names.lookup y.1 = some .local) (hy : env.kindOf y = some .local) (hp : (env.scope.kind == .class || (env.scope.kind == .module && env.locals != env.globals)) = false) (h : wpAny (model prog w) A (eval iter env) (fun xv s₁ => CompReadyI prog w A env (.Tuple elts kk tp) ifs kx vx scope cl keep y Q xv s₁) E s) (hs : ∀ x, foldedSetIterable iter env x = pure x), (wpAny (model prog w) A (exec (.Assign [.Name y py] (.DictComp kx vx [⟨.Tuple elts kk tp, iter, ifs, 0⟩] scope pos) spos) env) Q E s : Prop)) c.1 c.2.1 c.2.2.1 c.2.2.2.1 c.2.2.2.2.1 c.2.2.2.2.2.1 c.2.2.2.2.2.2.1 c.2.2.2.2.2.2.2.1 c.2.2.2.2.2.2.2.2.1 c.2.2.2.2.2.2.2.2.2.1 c.2.2.2.2.2.2.2.2.2.2.1 c.2.2.2.2.2.2.2.2.2.2.2.1 c.2.2.2.2.2.2.2.2.2.2.2.2.1 c.2.2.2.2.2.2.2.2.2.2.2.2.2.1 c.2.2.2.2.2.2.2.2.2.2.2.2.2.2.1 c.2.2.2.2.2.2.2.2.2.2.2.2.2.2.2.1 c.2.2.2.2.2.2.2.2.2.2.2.2.2.2.2.2.1 c.2.2.2.2.2.2.2.2.2.2.2.2.2.2.2.2.2.1 c.2.2.2.2.2.2.2.2.2.2.2.2.2.2.2.2.2.2.1 c.2.2.2.2.2.2.2.2.2.2.2.2.2.2.2.2.2.2.2.1 c.2.2.2.2.2.2.2.2.2.2.2.2.2.2.2.2.2.2.2.2
theorem hNe : Nonempty hTy := ⟨default, w0, {}, (fun _ => (fun _ => False)), {}, default, default, default, default, [], [], 0, default, Str.empty, default, default, [], default, default, (fun _ => (fun _ => False)), (fun _ => false)⟩
noncomputable def hCc : hTy := @Classical.epsilon hTy hNe fun x => ¬ hSt x
@[irreducible] noncomputable def prog : Program := hCc.1
@[irreducible] noncomputable def w : World := hCc.2.1
@[irreducible] noncomputable def A : Around := hCc.2.2.1
@[irreducible] noncomputable def E : Value → Shared → Prop := hCc.2.2.2.1
@[irreducible] noncomputable def s : Shared := hCc.2.2.2.2.1
@[irreducible] noncomputable def env : Env := hCc.2.2.2.2.2.1
@[irreducible] noncomputable def kx : Expr := hCc.2.2.2.2.2.2.1
@[irreducible] noncomputable def vx : Expr := hCc.2.2.2.2.2.2.2.1
@[irreducible] noncomputable def iter : Expr := hCc.2.2.2.2.2.2.2.2.1
@[irreducible] noncomputable def ifs : List Expr := hCc.2.2.2.2.2.2.2.2.2.1
@[irreducible] noncomputable def elts : List Expr := hCc.2.2.2.2.2.2.2.2.2.2.1
@[irreducible] noncomputable def kk : Nat := hCc.2.2.2.2.2.2.2.2.2.2.2.1
@[irreducible] noncomputable def tp : Pos := hCc.2.2.2.2.2.2.2.2.2.2.2.2.1
@[irreducible] noncomputable def y : Str := hCc.2.2.2.2.2.2.2.2.2.2.2.2.2.1
@[irreducible] noncomputable def py : Pos := hCc.2.2.2.2.2.2.2.2.2.2.2.2.2.2.1
@[irreducible] noncomputable def scope : Scope := hCc.2.2.2.2.2.2.2.2.2.2.2.2.2.2.2.1
@[irreducible] noncomputable def cl : List (Str × Addr) := hCc.2.2.2.2.2.2.2.2.2.2.2.2.2.2.2.2.1
@[irreducible] noncomputable def pos : Pos := hCc.2.2.2.2.2.2.2.2.2.2.2.2.2.2.2.2.2.1
@[irreducible] noncomputable def spos : Pos := hCc.2.2.2.2.2.2.2.2.2.2.2.2.2.2.2.2.2.2.1
@[irreducible] noncomputable def Q : Flow → Shared → Prop := hCc.2.2.2.2.2.2.2.2.2.2.2.2.2.2.2.2.2.2.2.1
@[irreducible] noncomputable def keep : Str → Bool := hCc.2.2.2.2.2.2.2.2.2.2.2.2.2.2.2.2.2.2.2.2
theorem hMain (hsw : swapsWith (.DictComp kx vx [⟨.Tuple elts kk tp, iter, ifs, 0⟩] scope pos) (some (.Name y py)) spos.line env = pure true) (hh : A.handled = none) (hclos : closureFor scope env = pure cl) (hcell : ∀ y ∈ scope.names, y.2 ≠ .cell) (hkind : scope.kind = .function) (hnames : ∀ y ∈ scope.names, y.2 = .local → scope.names.lookup y.1 = some .local) (hy : env.kindOf y = some .local) (hp : (env.scope.kind == .class || (env.scope.kind == .module && env.locals != env.globals)) = false) (h : wpAny (model prog w) A (eval iter env) (fun xv s₁ => CompReadyI prog w A env (.Tuple elts kk tp) ifs kx vx scope cl keep y Q xv s₁) E s) (hs : ∀ x, foldedSetIterable iter env x = pure x) : wpAny (model prog w) A (exec (.Assign [.Name y py] (.DictComp kx vx [⟨.Tuple elts kk tp, iter, ifs, 0⟩] scope pos) spos) env) Q E s := by
  rw [exec_Assign_Name_used _ _ _ _ hsw]
  refine wpAny_bind (wpAny_standAt (wpAny_bind ?_))
  show wpAny _ A (do let _ ← comprehension (.DictComp kx vx [⟨.Tuple elts kk tp, iter, ifs, 0⟩] scope pos) scope env _ (newObj (.type "dict") (.dict #[])) false (eval iter env) (some (assign (.Name y py) env))) _ _ s
  refine wpAny_bind (wpAny_mono (wpAny_comprehension_free (use := some (assign (.Name y py) env)) (Q := fun _ s' => Q .next s') rfl hs hclos hkind hnames
    (wpAny_mono h (fun xv s₁ h₁ => ?_) fun _ _ e => e)) (fun _ s' hq => wpAny_pure (wpAny_pure hq)) fun _ _ e => e)
  obtain ⟨v, d, od, kvs, h₀, m, news, rfl, F, N, hvw, hmd, hod, hsz, hnd, ht, hQ⟩ := h₁
  obtain ⟨ep, hat⟩ := KdkAt.of hod
  have hD := hat.dictAt (N _ hmd).1
  refine wpAny_pyIter_items ⟨_, (N _ hvw).1, rfl, rfl⟩ hD ?_
  generalize hIo : ({ cls := .type "dict_itemiterator", data := .fields #[.none, .bool false, .ref d, .int 0 0, .int kvs.length 0, .int ep 0, .none, .none] } : Obj) = oI
  have hIlt : s₁.heap.objs.size < (s₁.heap.push oI).objs.size := by rw [Heap.size_push]; exact Nat.lt_succ_self _
  have hit0 : (s₁.heap.push oI).get? s₁.heap.objs.size = some oI := Heap.get?_push_size _ (by rw [← hIo]; rfl)
  have old0 : ∀ b o, s₁.heap.get? b = some o → (s₁.heap.push oI).get? b = some o := fun b o e => Heap.get?_push_of_some _ e
  have hdlt : d < s₁.heap.objs.size := Heap.lt_size (N _ hmd).1
  generalize hS0 : s₁.heap.push oI = S0 at hIlt hit0 old0 ⊢
  refine wpAny_newObj_type (wpAny_newFunctionEnv hcell (by intro y hy; simp at hy) (fun h₁ hns₁ hsb₁ => ?_) hkind)
  dsimp only at hns₁ hsb₁ ⊢
  have hnew : (S0.push { cls := .type "dict", dict := none, data := .dict #[] }).DictOf (PySem.strKind prog w) S0.objs.size [] := Heap.DictOf.new S0
  generalize hH2 : S0.push { cls := .type "dict", dict := none, data := .dict #[] } = H2 at hns₁ hsb₁ hnew ⊢
  have hC : H2.objs.size = S0.objs.size + 1 := by rw [← hH2, Heap.size_push]
  have hDC : S0.objs.size ≠ H2.objs.size := by rw [hC]; exact Nat.ne_of_lt (Nat.lt_succ_self _)
  have hS1 : S0.objs.size = s₁.heap.objs.size + 1 := by rw [← hS0, Heap.size_push]
  have below : ∀ b, b < S0.objs.size → b ≠ H2.objs.size ∧ b ≠ S0.objs.size := fun b hb => ⟨by rw [hC]; exact Nat.ne_of_lt (Nat.lt_succ_of_lt hb), Nat.ne_of_lt hb⟩
  have old : ∀ b o, S0.get? b = some o → h₁.get? b = some o := fun b o e => hsb₁.extBut b o (below b (Heap.lt_size e)).1 (Heap.get?_push_of_some _ (hH2 ▸ Heap.get?_push_of_some _ e))
  have hacc : h₁.DictOf (PySem.strKind prog w) S0.objs.size [] := hnew.at fun o e => hsb₁.extBut _ _ hDC (Heap.get?_push_of_some _ e)
  have hlt : ∀ (b : Nat) o, s₁.heap.get? b = some o → @LT.lt Nat _ b s₁.heap.objs.size := fun b o e => Heap.lt_size e
  have apart : ∀ (b : Nat) o, s₁.heap.get? b = some o → @Ne Nat b H2.objs.size ∧ @Ne Nat b s₁.heap.objs.size ∧ @Ne Nat b S0.objs.size := fun b o e => by
    have h9 := hlt b o e
    exact ⟨Nat.ne_of_lt (by omega), Nat.ne_of_lt h9, Nat.ne_of_lt (by omega)⟩
  have hitc : IsItemIter h₁ s₁.heap.objs.size d 0 kvs.length ep .none .none := by rw [IsItemIter, old _ _ hit0, ← hIo]; rfl
  have hdlt' : @LT.lt Nat _ d s₁.heap.objs.size := hdlt
  suffices loop : ∀ s₃ : Shared, s₃ = { s₁ with heap := h₁, toks := s₁.toks + ([] : List (Str × Value)).length } → codeAny (model prog w) A (.compLoop (.DictComp kx vx [⟨.Tuple elts kk tp, iter, ifs, 0⟩] scope pos) 0 (.ref s₁.heap.objs.size) (.ref S0.objs.size) (compEnvC scope cl H2.objs.size env)) (compPost (model prog w) A E (some (assign (.Name y py) env)) (fun _ s' => Q .next s') (.ref S0.objs.size) H2.objs.size) s₃ from codeAny_compStart_dict (loop _ rfl) (kcp_self hitc (loop _ rfl))
  rintro s₃ rfl
  refine compLoop_items (kvs := kvs) (ep := ep) (ok := .none) (ov := .none) (d := d) (C := H2.objs.size) keep hh rfl (Nat.ne_of_lt hdlt) hDC (Nat.ne_of_gt hIlt) (Nat.ne_of_gt (by omega)) (Nat.ne_of_lt (by omega)) (Nat.ne_of_lt (by omega)) hnd (by rw [sizeLine_eq]; omega)
    hitc (hat.dictAt (old _ _ (old0 _ _ (N _ hmd).1))) hacc hns₁
    (fun i k x key T s₂ m₂ hx hn hk hT hs₂ kp => ht _ i k x key T s₂ m₂ (by omega) hx hn hk hT (by obtain ⟨a, b, rfl⟩ := hs₂; exact ⟨a, b, rfl⟩) fun b o e => kp b o (apart b o e).1 (apart b o e).2.1 (apart b o e).2.2 (old b o (old0 b o e))) ?_
  intro h' tk m' hnC hg hk
  have up : s₁.heap.StaysIn h' := fun b o q => hk b o (apart b o q).1 (apart b o q).2.1 (apart b o q).2.2 (old b o (old0 b o q))
  have F' : Fr h₀ env.locals h' m := ⟨F.ns.at' fun o e => up _ o e, fun b o e => up b o (F.keep b o e), F.above⟩
  obtain ⟨oL, _, _, hoL, _⟩ := F.ns
  have hLs := hlt _ _ hoL
  have hLC : env.locals ≠ H2.objs.size := Nat.ne_of_lt (by omega)
  have hLD : env.locals ≠ S0.objs.size := Nat.ne_of_lt (by omega)
  show wpAny _ A (assign (.Name y py) env (.ref S0.objs.size)) _ _ _
  refine wpAny_assign_Name (wpAny_storeName_local hy F'.ns (fun h₂ hn₂ hs₂ => ?_) hp)
  refine ⟨m', hnC.sameBut hs₂ (Ne.symm hLC), fun h₃ hs₃ => ?_⟩
  have up3 : ∀ b o, b ≠ env.locals → b ≠ H2.objs.size → h'.get? b = some o → h₃.get? b = some o := fun b o h1 h2 e => hs₃.extBut b o h2 (hs₂.extBut b o h1 e)
  have up1 : ∀ b o, b ≠ env.locals → s₁.heap.get? b = some o → h₃.get? b = some o := fun b o h1 e => up3 b o h1 (apart b o e).1 (up b o e)
  obtain ⟨oD, hoD, hisD⟩ := Heap.dictOf_iff.mp hg
  have hD3 : h₃.get? S0.objs.size = some oD := up3 _ _ (Ne.symm hLD) hDC hoD
  refine hQ S0.objs.size oD h₃ _ hisD ⟨hn₂.sameBut hs₃ hLC, fun b o e => up1 b o (Nat.ne_of_lt (Nat.lt_of_lt_of_le (Heap.lt_size e) F.above)) (F.keep b o e), F.above⟩ (fun q hq => ?_) (allNe_of fun q hq => (apart _ _ (N q hq).1).2.2) (by omega) up1
  rcases List.mem_cons.mp hq with rfl | hq
  · refine ⟨hD3, Ne.symm hLD, ?_⟩
    cases e : h₀.get? S0.objs.size with
    | none => rfl
    | some o => exact absurd (hlt _ _ (F.keep _ _ e)) (by show ¬ S0.objs.size < _; omega)
  · exact ⟨up1 _ _ (N q hq).2.1 (N q hq).1, (N q hq).2⟩
end HAssign_DictComp_items
section
variable {prog : Program} {w : World} {A : Around} {E : Value → Shared → Prop} {s : Shared} {env : Env} {R : Result → Shared → Prop}
theorem Assign_DictComp_items {kx vx iter : Expr} {ifs elts : List Expr} {kk : Nat} {tp : Pos} {y : Str} {py : Pos} {scope : Scope} {cl : List (Str × Addr)} {pos spos : Pos} {Q : Flow → Shared → Prop} (keep : Str → Bool) (hsw : swapsWith (.DictComp kx vx [⟨.Tuple elts kk tp, iter, ifs, 0⟩] scope pos) (some (.Name y py)) spos.line env = pure true) (hh : A.handled = none) (hclos : closureFor scope env = pure cl) (hcell : ∀ y ∈ scope.names, y.2 ≠ .cell) (hkind : scope.kind = .function) (hnames : ∀ y ∈ scope.names, y.2 = .local → scope.names.lookup y.1 = some .local) (hy : env.kindOf y = some .local) (hp : (env.scope.kind == .class || (env.scope.kind == .module && env.locals != env.globals)) = false) (h : wpAny (model prog w) A (eval iter env) (fun xv s₁ => CompReadyI prog w A env (.Tuple elts kk tp) ifs kx vx scope cl keep y Q xv s₁) E s) (hs : ∀ x, foldedSetIterable iter env x = pure x := by intro _; rfl) : wpAny (model prog w) A (exec (.Assign [.Name y py] (.DictComp kx vx [⟨.Tuple elts kk tp, iter, ifs, 0⟩] scope pos) spos) env) Q E s := hen HAssign_DictComp_items.hSt HAssign_DictComp_items.hNe (by with_unfolding_all exact HAssign_DictComp_items.hMain) (prog, w, A, E, s, env, kx, vx, iter, ifs, elts, kk, tp, y, py, scope, cl, pos, spos, Q, keep) hsw hh hclos hcell hkind hnames hy hp h hs
end
end
-- Fn4a
section
noncomputable def flagNames : List Str := ["OPTIMIZED", "NEWLOCALS", "VARARGS", "VARKEYWORDS", "NESTED", "GENERATOR", "NOFREE", "COROUTINE", "ITERABLE_COROUTINE", "ASYNC_GENERATOR"]
noncomputable def flagName (i : Nat) : Str := flagNames.getD i (baseText "0x" 16 ((2 ^ i : Nat) : Int))

theorem pow2_0 : ∀ {i : Nat}, i < 32 → (1 * 2 ^ ((i : Int)).toNat : Int) = 1 → i = 0 := by decide
theorem pow2_1 : ∀ {i : Nat}, i < 32 → (1 * 2 ^ ((i : Int)).toNat : Int) = 2 → i = 1 := by decide
theorem pow2_2 : ∀ {i : Nat}, i < 32 → (1 * 2 ^ ((i : Int)).toNat : Int) = 4 → i = 2 := by decide
theorem pow2_3 : ∀ {i : Nat}, i < 32 → (1 * 2 ^ ((i : Int)).toNat : Int) = 8 → i = 3 := by decide
theorem pow2_4 : ∀ {i : Nat}, i < 32 → (1 * 2 ^ ((i : Int)).toNat : Int) = 16 → i = 4 := by decide
theorem pow2_5 : ∀ {i : Nat}, i < 32 → (1 * 2 ^ ((i : Int)).toNat : Int) = 32 → i = 5 := by decide
theorem pow2_6 : ∀ {i : Nat}, i < 32 → (1 * 2 ^ ((i : Int)).toNat : Int) = 64 → i = 6 := by decide
theorem pow2_7 : ∀ {i : Nat}, i < 32 → (1 * 2 ^ ((i : Int)).toNat : Int) = 128 → i = 7 := by decide
theorem pow2_8 : ∀ {i : Nat}, i < 32 → (1 * 2 ^ ((i : Int)).toNat : Int) = 256 → i = 8 := by decide
theorem pow2_9 : ∀ {i : Nat}, i < 32 → (1 * 2 ^ ((i : Int)).toNat : Int) = 512 → i = 9 := by decide
theorem flagName_hi {i : Nat} (h : 10 ≤ i) : flagName i = baseText "0x" 16 (1 * 2 ^ ((i : Int)).toNat) := by
  unfold flagName
  rw [List.getD_eq_getElem?_getD, List.getElem?_eq_none (show flagNames.length ≤ i from h)]
  show baseText "0x" 16 _ = _
  congr 1
  rw [Int.one_mul, Int.toNat_natCast]
  exact Int.natCast_pow 2 i
set_option maxRecDepth 100000 in
set_option maxHeartbeats 8000000 in
theorem get_flag {prog : Program} {w : World} {A : Around} {p : Program} {loose : List Str} {mean : ExcName → Option Value} {mg mb : Str → Option Value} {h₀ : Heap} {L : Addr} {m : Str → Option Value} {news : List (Addr × Obj)} {s : Shared} {Q E : Value → Shared → Prop}
    (X : (hd.heap_39 w.params).In h₀) (F : Fr h₀ L s.heap m) (N : News h₀ L s.heap news) (T : Top p loose mean mg mb h₀) (i : Nat) (hi : i < 32) (t t' : Tok)
    (h : ∀ t'' tk', Q (.str (flagName i) t'') { s with toks := tk' }) :
    wpAny (model prog w) A (call (.builtin "dict.get") [.ref 39, .int (1 * 2 ^ (i : Int).toNat) t, .str (baseText "0x" 16 (1 * 2 ^ (i : Int).toNat)) t']) Q E s := by
  k_steps
  all_goals first
    | (obtain rfl := pow2_0 hi (by assumption); exact h _ _)
    | (obtain rfl := pow2_1 hi (by assumption); exact h _ _)
    | (obtain rfl := pow2_2 hi (by assumption); exact h _ _)
    | (obtain rfl := pow2_3 hi (by assumption); exact h _ _)
    | (obtain rfl := pow2_4 hi (by assumption); exact h _ _)
    | (obtain rfl := pow2_5 hi (by assumption); exact h _ _)
    | (obtain rfl := pow2_6 hi (by assumption); exact h _ _)
    | (obtain rfl := pow2_7 hi (by assumption); exact h _ _)
    | (obtain rfl := pow2_8 hi (by assumption); exact h _ _)
    | (obtain rfl := pow2_9 hi (by assumption); exact h _ _)
    | (have hge : 10 ≤ i := Nat.le_of_not_lt fun hlt => by
        rcases (show i = 0 ∨ i = 1 ∨ i = 2 ∨ i = 3 ∨ i = 4 ∨ i = 5 ∨ i = 6 ∨ i = 7 ∨ i = 8 ∨ i = 9 by omega) with rfl | rfl | rfl | rfl | rfl | rfl | rfl | rfl | rfl | rfl <;> first | exact absurd rfl ‹¬ _ = (1 : Int)› | exact absurd rfl ‹¬ _ = (2 : Int)› | exact absurd rfl ‹¬ _ = (4 : Int)› | exact absurd rfl ‹¬ _ = (8 : Int)› | exact absurd rfl ‹¬ _ = (16 : Int)› | exact absurd rfl ‹¬ _ = (32 : Int)› | exact absurd rfl ‹¬ _ = (64 : Int)› | exact absurd rfl ‹¬ _ = (128 : Int)› | exact absurd rfl ‹¬ _ = (256 : Int)› | exact absurd rfl ‹¬ _ = (512 : Int)›
       rw [← flagName_hi hge]; exact h _ _)

/-- the flags that are left at turn i, the names so far -/
noncomputable def flLeft (x i : Nat) : Nat := x / 2 ^ i * 2 ^ i
noncomputable def flNames (x i : Nat) : List Str := ((List.range i).filter (x.testBit ·)).map flagName
theorem flNames_len (x i : Nat) : (flNames x i).length ≤ i := by
  unfold flNames
  rw [List.length_map]
  exact Nat.le_trans (List.length_filter_le _ _) (by simp)
theorem hex_size {i : Nat} (hi : i < 32) : (baseText "0x" 16 (1 * 2 ^ ((i : Int)).toNat)).length ≤ sizeLine := by
  have : ∀ i : Nat, i < 32 → (baseText "0x" 16 (1 * 2 ^ ((i : Int)).toNat)).length ≤ 100 := by decide +kernel
  exact Nat.le_trans (this i hi) (by decide)

theorem pow_cast (i : Nat) : (1 * 2 ^ ((i : Int)).toNat : Int) = ((2 ^ i : Nat) : Int) := by rw [Int.one_mul, Int.toNat_natCast]; exact (Int.natCast_pow 2 i).symm
theorem bitAnd_nat (a b : Nat) : Builtin.bitAnd (a : Int) (b : Int) = ((a &&& b : Nat) : Int) := by
  unfold Builtin.bitAnd
  rw [decide_eq_true (Int.natCast_nonneg a), decide_eq_true (Int.natCast_nonneg b)]
  simp
theorem flLeft_testBit (x i j : Nat) : (flLeft x i).testBit j = (decide (i ≤ j) && x.testBit j) := by
  have : flLeft x i = (x >>> i) <<< i := by rw [Nat.shiftLeft_eq, Nat.shiftRight_eq_div_pow]; rfl
  rw [this, Nat.testBit_shiftLeft]
  by_cases h : i ≤ j
  · simp [h, Nat.testBit_shiftRight, Nat.add_sub_cancel' h]
  · simp [h]
theorem and_pow2 (a i : Nat) : a &&& 2 ^ i = if a.testBit i = true then 2 ^ i else 0 := by
  apply Nat.eq_of_testBit_eq
  intro j
  rw [Nat.testBit_and, Nat.testBit_two_pow]
  by_cases h : i = j
  · subst h
    by_cases q : a.testBit i = true <;> simp [q, Nat.testBit_two_pow]
  · by_cases q : a.testBit i = true <;> simp [h, q, Nat.testBit_two_pow]
theorem flag_and (x i : Nat) : Builtin.bitAnd (flLeft x i : Int) (1 * 2 ^ ((i : Int)).toNat) = if x.testBit i = true then ((2 ^ i : Nat) : Int) else 0 := by
  rw [pow_cast, bitAnd_nat, and_pow2, flLeft_testBit]
  by_cases h : x.testBit i = true <;> simp [h]
theorem flLeft_step {x i : Nat} (h : x.testBit i = true) : flLeft x i = flLeft x (i + 1) + 2 ^ i := by
  unfold flLeft
  have h2 : x / 2 ^ i % 2 = 1 := by
    have := Nat.testBit_eq_decide_div_mod_eq (x := x) (i := i)
    rw [h] at this
    simpa using this.symm
  have e : x / 2 ^ (i + 1) = x / 2 ^ i / 2 := by rw [Nat.pow_succ, Nat.div_div_eq_div_mul]
  rw [e, Nat.pow_succ]
  generalize x / 2 ^ i = q at *
  generalize 2 ^ i = b
  have : q = q / 2 * 2 + 1 := by omega
  conv => lhs; rw [this]
  rw [Nat.add_mul, Nat.one_mul, Nat.mul_assoc, Nat.mul_comm 2 b]
theorem flag_xor {x i : Nat} (h : x.testBit i = true) : Builtin.bitXor (flLeft x i : Int) (1 * 2 ^ ((i : Int)).toNat) = (flLeft x (i + 1) : Int) := by
  rw [bitXor_and, flag_and, if_pos h, pow_cast, flLeft_step h]
  simp only [Int.natCast_add]
  omega
theorem flLeft_same {x i : Nat} (h : x.testBit i = false) : flLeft x (i + 1) = flLeft x i := by
  apply Nat.eq_of_testBit_eq
  intro j
  rw [flLeft_testBit, flLeft_testBit]
  rcases Nat.lt_trichotomy i j with hj | hj | hj
  · simp [Nat.le_of_lt hj, Nat.succ_le_of_lt hj]
  · subst hj; simp [h]
  · simp [Nat.not_le.mpr hj, Nat.not_le.mpr (Nat.lt_succ_of_lt hj)]
theorem flNames_succ (x i : Nat) : flNames x (i + 1) = flNames x i ++ (if x.testBit i = true then [flagName i] else []) := by
  unfold flNames
  rw [List.range_succ, List.filter_append, List.map_append]
  by_cases h : x.testBit i = true <;> simp [h]
end
-- LibR
section
set_option maxRecDepth 100000
theorem ints_of (F : Nat → Int) : ∀ (vs : List Value) (n a : Nat), vs.length = n → (∀ (j : Nat) (v : Value), vs[j]? = some v → ∃ t, v = Value.int (F (a + j)) t) → IntsAre vs ((List.range' a n).map F)
  | [], n, a, h, _ => by subst h; exact .nil
  | v :: vs, n, a, h, k => by
    subst h
    obtain ⟨t, e⟩ := k 0 v rfl
    rw [e]
    rw [List.length_cons, List.range'_succ, List.map_cons]
    exact .cons _ _ (ints_of F vs _ (a + 1) rfl fun j v e => by
      have := k (j + 1) v (by simpa using e)
      rwa [show a + (j + 1) = a + 1 + j from by omega] at this)
theorem small_upto {n : Nat} (h : n ≤ 1000) : Builtin.Range.small 0 ((0 : Int) + (n : Int)) 1 = true := by
  rw [Int.zero_add]
  have hn : Builtin.Range.rangeSize 0 (n : Int) 1 = (n : Int) := by
    unfold Builtin.Range.rangeSize
    rw [if_pos (by decide)]
    split <;> omega
  unfold Builtin.Range.small
  simp [Builtin.Range.rangeFitsLong, hn]
  omega
theorem len_is {x : Str} {ss : List Str} {k : Nat} {b : Nat} (h : Is x (ss.getD k Str.empty)) (hb : ∀ y ∈ ss, y.length ≤ b) : x.length ≤ b := by
  rw [h.eq]
  by_cases q : k < ss.length
  · have : ss.getD k Str.empty = ss[k] := by simp [List.getD, q]
    rw [this]; exact hb _ (List.getElem_mem q)
  · have : ss.getD k Str.empty = Str.empty := by simp [List.getD, q]
    rw [this]; exact Nat.zero_le _
section
variable {prog : Program} {w : World} {A : Around} {E : Value → Shared → Prop} {s : Shared} {h₀ : Heap} {L l r : Addr} {m : Str → Option Value} {news : List (Addr × Obj)} {vs : List Value} {ss : List Str} {t₀ u₀ v₀ : Tok} {n : Nat} {Q : Value → Shared → Prop}
theorem len_strs (hl : s.heap.IsList l vs.toArray) (hi' : StrsAre vs ss) (hz : ss.length ≤ 1000) (h : Q (.int ss.length (s.toks + 1)) { s with toks := s.toks + 1 + 1 }) : wpAny (model prog w) A (call (.builtin "len") [.ref l]) Q E s := by
  have hlen := hi'.length
  refine len_list hl (by simp; omega) ?_
  rw [List.size_toArray, hlen]; exact h
/-- list(range(2, 2 * (n + 1), 2)) -/
theorem list_evens {b : Int} (hh : A.handled = none) (F : Fr h₀ L s.heap m) (N : News h₀ L s.heap news) (hr : IsRange s.heap r 2 b 2 t₀ u₀ v₀) (hb : b = 2 * ((n : Int) + 1)) (hz : n ≤ 1000)
    (h : ∀ D us c h' tk, Fr h₀ L h' m → News h₀ L h' ((D, W.listOf (List.toArray us) c) :: news) → (∀ p ∈ news, p.1 < D) → IntsAre us ((List.range' 0 n).map fun i : Nat => (2 : Int) + (i : Int) * 2) → Q (.ref D) { s with heap := h', toks := tk }) :
    wpAny (model prog w) A (call (.type "list") [.ref r]) Q E s := by
  have hn : Builtin.Range.rangeSize 2 b 2 = (n : Int) := by
    unfold Builtin.Range.rangeSize
    rw [if_pos (by decide)]
    split <;> omega
  have hsmall : Builtin.Range.small 2 b 2 = true := by
    unfold Builtin.Range.small
    simp [Builtin.Range.rangeFitsLong, hn]
    omega
  refine call_list_range hh hr hsmall hn (by omega) fun h' tk acc c hk hD hI => ?_
  have hD' : h'.get? s.heap.objs.size = some (W.listOf (List.toArray acc.toList) c) := by
    rw [Array.toArray_toList]
    exact hD
  refine h _ acc.toList c h' tk (F.keeps hk) (news_pushed F N hk hD' rfl) (fun p hp => Heap.lt_size (N p hp).1) ?_
  refine ints_of _ _ n 0 (by rw [Array.length_toList]; exact hI.1) fun j v hj => ?_
  have := hI.2 j v (by rw [← hj, Array.getElem?_toList])
  simpa using this
end
end
-- Fn1
section
theorem rowsFn10 : True := by
  k_with_none
  k_with "mine enter" => (refine' code_pure (by k_asm) (by k_asm) (by k_asm) (by k_asm) (by exact rfl) (by exact rfl) (by assumption) (by k_is) (by k_is) (by ktr_room) (by exact BindsTo.of_eq rfl) (by exact locs rfl) ?_ (by exact rfl) (by exact rfl) (by exact rfl) (by decide); k_whole; intro L' h' F' N' B' X' T'; (try dsimp only); (try k_fold))
  trivial
set_option maxRecDepth 100000 in
set_option maxHeartbeats 8000000 in
theorem c_sub {prog : Program} {w : World} (x y : Str) (tx ty : Tok) (hx : x.length ≤ 100) (hy : y.length ≤ 100) :
    PCall prog w 56 [.str x tx, .str y ty] 1 8 (fun _ => True) (fun _ v _ => ∃ t, v = .int (if x = y then 0 else if Txt.lower x = Txt.lower y then 1 else 2) t) := by
  intro p loose mean mg mb dp un gd cn cs a ccd cl outer A₀ base h₀ L m s Q E B F X T hk hd hu hH hQ
  refine wpAny_call ?_
  k_dflt walk_at "mine enter"
  k_steps
  · refine hQ _ _ _ (fun b o e => Fr.keep (by assumption) b o e) ⟨_, congrArg (Value.int · _) ?_⟩; simp_all
  · refine hQ _ _ _ (fun b o e => Fr.keep (by assumption) b o e) ⟨_, congrArg (Value.int · _) ?_⟩; simp_all
  · refine hQ _ _ _ (fun b o e => Fr.keep (by assumption) b o e) ⟨_, congrArg (Value.int · _) ?_⟩; simp_all
end
-- LevP
section
/-- how many words two lists have alike at the front -/
noncomputable def pre : List Str → List Str → Nat
  | x :: a, y :: b => if x = y then pre a b + 1 else 0
  | _, _ => 0
theorem pre_le : ∀ a b : List Str, pre a b ≤ a.length ∧ pre a b ≤ b.length
  | [], _ => by simp [pre]
  | _ :: _, [] => by simp [pre]
  | x :: a, y :: b => by
    have := pre_le a b
    unfold pre
    split <;> simp <;> omega
theorem pre_cons (x y : Str) (a b : List Str) : pre (x :: a) (y :: b) = if x = y then pre a b + 1 else 0 := by rw [pre]
theorem pre_nil_r (a : List Str) : pre a [] = 0 := by cases a <;> simp [pre]
theorem pre_nil_l (b : List Str) : pre [] b = 0 := by cases b <;> simp [pre]
theorem pre_drop : ∀ (k : Nat) (a b : List Str), k ≤ pre a b → pre a b = k + pre (a.drop k) (b.drop k)
  | 0, _, _, _ => by simp
  | k + 1, [], _, h => by simp [pre] at h
  | k + 1, _ :: _, [], h => by simp [pre] at h
  | k + 1, x :: a, y :: b, h => by
    rw [pre_cons] at h
    simp only [List.drop_succ_cons]
    rw [pre_cons]
    by_cases e : x = y
    · rw [if_pos e] at h ⊢
      have ih := pre_drop k a b (by omega)
      omega
    · rw [if_neg e] at h; omega
theorem pre_go {k : Nat} {a b : List Str} (h : k ≤ pre a b) (ha : k < a.length) (hb : k < b.length) (e : a[k] = b[k]) : k + 1 ≤ pre a b := by
  rw [pre_drop k a b h, List.drop_eq_getElem_cons ha, List.drop_eq_getElem_cons hb]
  rw [pre_cons, if_pos e]; omega
theorem pre_stop {k : Nat} {a b : List Str} (h : k ≤ pre a b) (e : ∀ (ha : k < a.length) (hb : k < b.length), a[k] ≠ b[k]) : k = pre a b := by
  rw [pre_drop k a b h]
  by_cases ha : k < a.length
  · by_cases hb : k < b.length
    · rw [List.drop_eq_getElem_cons ha, List.drop_eq_getElem_cons hb]
      rw [pre_cons, if_neg (e ha hb)]; rfl
    · rw [List.drop_eq_nil_of_le (Nat.le_of_not_lt hb), pre_nil_r]; rfl
  · rw [List.drop_eq_nil_of_le (Nat.le_of_not_lt ha), pre_nil_l]; rfl
theorem rev_at {A : List Str} {k : Nat} {p : Int} (hp : p = -(k : Int)) (h : k < A.length) : A.getD (if p - 1 < 0 then p - 1 + (A.length : Int) else p - 1).toNat Str.empty = A.reverse[k]'(by simpa using h) := by
  rw [if_pos (by omega), List.getElem_reverse]
  have e : (p - 1 + (A.length : Int)).toNat = A.length - 1 - k := by omega
  rw [e]
  have h2 : A.length - 1 - k < A.length := by omega
  simp [List.getD, h2]
theorem fwd_at {A : List Str} {k : Nat} (h : k < A.length) : A.getD (if (k : Int) < 0 then (k : Int) + (A.length : Int) else (k : Int)).toNat Str.empty = A[k] := by
  rw [if_neg (by omega), Int.toNat_natCast]; simp [List.getD, h]
theorem pre_go' {a b : List Str} {k : Nat} {x y : Str} (h : k ≤ pre a b) (ha : k < a.length) (hb : k < b.length) (hx : Is x (a.getD (if (k : Int) < 0 then (k : Int) + (a.length : Int) else (k : Int)).toNat Str.empty)) (hy : Is y (b.getD (if (k : Int) < 0 then (k : Int) + (b.length : Int) else (k : Int)).toNat Str.empty)) (g : (x == y) = true) : k + 1 ≤ pre a b := by
  have hx := hx.eq
  rw [fwd_at ha] at hx
  have hy := hy.eq
  rw [fwd_at hb] at hy
  exact pre_go h ha hb (by rw [← hx, ← hy]; exact eq_of_beq g)
theorem pre_stop' {a b : List Str} {k : Nat} {x y : Str} (h : k ≤ pre a b) (ha : k < a.length) (hb : k < b.length) (hx : Is x (a.getD (if (k : Int) < 0 then (k : Int) + (a.length : Int) else (k : Int)).toNat Str.empty)) (hy : Is y (b.getD (if (k : Int) < 0 then (k : Int) + (b.length : Int) else (k : Int)).toNat Str.empty)) (g : (x == y) = false) : k = pre a b := by
  have hx := hx.eq
  rw [fwd_at ha] at hx
  have hy := hy.eq
  rw [fwd_at hb] at hy
  exact pre_stop h fun _ _ e => by rw [hx, hy, e] at g; simp at g
theorem pre_end {a b : List Str} {k : Nat} (h : k ≤ pre a b) (e : ¬ (k < a.length ∧ k < b.length)) : k = pre a b := pre_stop h fun ha hb => absurd ⟨ha, hb⟩ e
theorem pre_go_r {A B : List Str} {k : Nat} {p : Int} {x y : Str} (hp : p = -(k : Int)) (h : k ≤ pre A.reverse B.reverse) (ha : k < A.length) (hb : k < B.length) (hx : Is x (A.getD (if p - 1 < 0 then p - 1 + (A.length : Int) else p - 1).toNat Str.empty)) (hy : Is y (B.getD (if p - 1 < 0 then p - 1 + (B.length : Int) else p - 1).toNat Str.empty)) (g : (x == y) = true) : k + 1 ≤ pre A.reverse B.reverse := by
  have hx := hx.eq
  rw [rev_at hp ha] at hx
  have hy := hy.eq
  rw [rev_at hp hb] at hy
  exact pre_go h (by simpa using ha) (by simpa using hb) (by rw [← hx, ← hy]; exact eq_of_beq g)
theorem pre_stop_r {A B : List Str} {k : Nat} {p : Int} {x y : Str} (hp : p = -(k : Int)) (h : k ≤ pre A.reverse B.reverse) (ha : k < A.length) (hb : k < B.length) (hx : Is x (A.getD (if p - 1 < 0 then p - 1 + (A.length : Int) else p - 1).toNat Str.empty)) (hy : Is y (B.getD (if p - 1 < 0 then p - 1 + (B.length : Int) else p - 1).toNat Str.empty)) (g : (x == y) = false) : k = pre A.reverse B.reverse := by
  have hx := hx.eq
  rw [rev_at hp ha] at hx
  have hy := hy.eq
  rw [rev_at hp hb] at hy
  exact pre_stop h fun _ _ e => by rw [hx, hy, e] at g; simp at g
theorem pre_end_r {A B : List Str} {k : Nat} (h : k ≤ pre A.reverse B.reverse) (e : ¬ (k < A.length ∧ k < B.length)) : k = pre A.reverse B.reverse := pre_stop h fun ha hb => absurd ⟨by simpa using ha, by simpa using hb⟩ e
/-- two lists of words without what they have alike at the front and at the end -/
noncomputable def trimmed (aw bw : List Str) : List Str × List Str :=
  ((aw.drop (pre aw bw)).take ((aw.drop (pre aw bw)).length - pre (aw.drop (pre aw bw)).reverse (bw.drop (pre aw bw)).reverse),
   (bw.drop (pre aw bw)).take ((bw.drop (pre aw bw)).length - pre (aw.drop (pre aw bw)).reverse (bw.drop (pre aw bw)).reverse))
/-- what two words cost -/
noncomputable def cost (x y : Str) : Int := if x = y then 0 else if Txt.lower x = Txt.lower y then 1 else 2
structure St where
  d : Int
  r : Int
  low : Int
  row : List Int
/-- the smaller one, as min finds it -/
noncomputable def mn (x y : Int) : Int := if y < x then y else x
/-- one place of a row -/
noncomputable def inS (bc x : Str) (i : Nat) (s : St) : St :=
  { d := s.row.getD i 0, r := mn (mn s.r (s.row.getD i 0) + 2) (s.d + cost bc x),
    low := mn s.low (mn (mn s.r (s.row.getD i 0) + 2) (s.d + cost bc x)), row := s.row.set i (mn (mn s.r (s.row.getD i 0) + 2) (s.d + cost bc x)) }
/-- a row, up to a place -/
noncomputable def inn (bc : Str) (a : List Str) (row : List Int) (d0 : Int) : Nat → St
  | 0 => ⟨d0, d0, 9223372036854775807, row⟩
  | i + 1 => inS bc (a.getD i Str.empty) i (inn bc a row d0 i)
theorem inn_next {bc x : Str} {a : List Str} {row0 row : List Int} {d0 d r lo q : Int} {i : Nat} (hσ : St.mk d r lo row = inn bc a row0 d0 i) (hx : Is x (a.getD (if (i : Int) < 0 then (i : Int) + (a.length : Int) else (i : Int)).toNat Str.empty))
    (hq : q = mn lo (mn (mn r (row.getD i 0) + 2) (d + cost bc x))) :
    St.mk (row.getD i 0) (mn (mn r (row.getD i 0) + 2) (d + cost bc x)) q (row.set i (mn (mn r (row.getD i 0) + 2) (d + cost bc x))) = inn bc a row0 d0 (i + 1) := by
  have e := hx.eq
  rw [if_neg (by omega), Int.toNat_natCast] at e
  rw [hq, e]
  show _ = inS bc _ i (inn bc a row0 d0 i)
  rw [← hσ]; rfl
theorem inn_len (bc : Str) (a : List Str) (row : List Int) (d0 : Int) : ∀ i, (inn bc a row d0 i).row.length = row.length
  | 0 => rfl
  | i + 1 => by
    show ((inn bc a row d0 i).row.set _ _).length = _
    rw [List.length_set]; exact inn_len bc a row d0 i
noncomputable def rowAt (a b : List Str) : Nat → List Int
  | 0 => (List.range' 0 a.length).map fun i : Nat => (2 : Int) + (i : Int) * 2
  | j + 1 => (inn (b.getD j Str.empty) a (rowAt a b j) ((j : Int) * 2) a.length).row
theorem rowAt_len (a b : List Str) : ∀ j, (rowAt a b j).length = a.length
  | 0 => by simp [rowAt]
  | j + 1 => by
    show (inn _ _ _ _ _).row.length = _
    rw [inn_len]; exact rowAt_len a b j
/-- what is known at the end of a row -/
noncomputable def endAt (a b : List Str) (j : Nat) : St := inn (b.getD j Str.empty) a (rowAt a b j) ((j : Int) * 2) a.length
noncomputable def resAt (a b : List Str) : Nat → Int
  | 0 => 0
  | j + 1 => (endAt a b j).r
/-- what the distance tells of two lists of words, the shorter one first -/
noncomputable def LevOut (mx : Int) (a b : List Str) (r : Int) : Prop :=
  (mx < ((b.length : Int) - (a.length : Int)) * 2 ∧ r = mx + 1) ∨ (¬ mx < ((b.length : Int) - (a.length : Int)) * 2 ∧ ((∃ j, j < b.length ∧ mx < (endAt a b j).low ∧ r = mx + 1) ∨ r = resAt a b b.length))
noncomputable def LevPost (mx : Int) (aw bw : List Str) (r : Int) : Prop :=
  ∃ a b, a.length ≤ b.length ∧ ((a = (trimmed aw bw).1 ∧ b = (trimmed aw bw).2) ∨ (a = (trimmed aw bw).2 ∧ b = (trimmed aw bw).1)) ∧ LevOut mx a b r
end
-- LevQ
section
theorem mn_le_l (x y : Int) : mn x y ≤ x := by unfold mn; split <;> omega
theorem mn_le_r (x y : Int) : mn x y ≤ y := by unfold mn; split <;> omega
theorem le_mn {x y z : Int} (h1 : z ≤ x) (h2 : z ≤ y) : z ≤ mn x y := by unfold mn; split <;> omega
/-- the value that is laid at a place of a row -/
noncomputable def vAt (bc : Str) (a : List Str) (row : List Int) (d0 : Int) : Nat → Int
  | 0 => mn (mn d0 (row.getD 0 0) + 2) (d0 + cost bc (a.getD 0 Str.empty))
  | i + 1 => mn (mn (vAt bc a row d0 i) (row.getD (i + 1) 0) + 2) (row.getD i 0 + cost bc (a.getD (i + 1) Str.empty))
theorem getD_mid {l r : List Int} {x : Int} {i : Nat} (h : l.length = i) : (l ++ x :: r).getD i 0 = x := by
  subst h; simp [List.getD]
theorem set_mid {l r : List Int} {x y : Int} {i : Nat} (h : l.length = i) : (l ++ x :: r).set i y = l ++ y :: r := by
  subst h; simp
theorem inn_form (bc : Str) (a : List Str) (row : List Int) (d0 : Int) : ∀ i, i ≤ row.length →
    (inn bc a row d0 i).row = (List.range i).map (vAt bc a row d0) ++ row.drop i ∧ (inn bc a row d0 i).d = (match i with | 0 => d0 | k + 1 => row.getD k 0) ∧
    (inn bc a row d0 i).r = (match i with | 0 => d0 | k + 1 => vAt bc a row d0 k) ∧ ∀ k, k < i → (inn bc a row d0 i).low ≤ vAt bc a row d0 k
  | 0, _ => ⟨by simp [inn], rfl, rfl, fun k h => absurd h (Nat.not_lt_zero k)⟩
  | i + 1, h => by
    obtain ⟨h1, h2, h3, h4⟩ := inn_form bc a row d0 i (by omega)
    have hl : ((List.range i).map (vAt bc a row d0)).length = i := by simp
    have hd : row.drop i = row.getD i 0 :: row.drop (i + 1) := by
      rw [List.drop_eq_getElem_cons (by omega)]; simp [List.getD, show i < row.length from by omega]
    have hg : (inn bc a row d0 i).row.getD i 0 = row.getD i 0 := by rw [h1, hd, getD_mid hl]
    have hv : mn (mn (inn bc a row d0 i).r ((inn bc a row d0 i).row.getD i 0) + 2) ((inn bc a row d0 i).d + cost bc (a.getD i Str.empty)) = vAt bc a row d0 i := by
      rw [hg, h2, h3]
      cases i with
      | zero => rfl
      | succ k => rfl
    have e : inn bc a row d0 (i + 1) = inS bc (a.getD i Str.empty) i (inn bc a row d0 i) := rfl
    rw [e]
    unfold inS
    dsimp only
    rw [hv, hg]
    refine ⟨?_, rfl, rfl, fun k hk => ?_⟩
    · rw [h1, hd, set_mid hl, List.range_succ, List.map_append]; simp
    · by_cases q : k = i
      · rw [q]; exact mn_le_r _ _
      · exact Int.le_trans (mn_le_l _ _) (h4 k (by omega))
/-- the distance of the first j words and the first i words, as the program has it -/
noncomputable def Dc (a b : List Str) (j i : Nat) : Int :=
  match i with
  | 0 => (j : Int) * 2
  | k + 1 => (rowAt a b j).getD k 0
theorem getD_map_range {f : Nat → Int} {n i : Nat} {r : List Int} (h : i < n) : ((List.range n).map f ++ r).getD i 0 = f i := by
  simp [List.getD, List.getElem?_append, h]
theorem row_val (a b : List Str) (j i : Nat) (hi : i < a.length) : (rowAt a b (j + 1)).getD i 0 = vAt (b.getD j Str.empty) a (rowAt a b j) ((j : Int) * 2) i := by
  have h := (inn_form (b.getD j Str.empty) a (rowAt a b j) ((j : Int) * 2) a.length (by rw [rowAt_len]; exact Nat.le_refl _)).1
  show ((inn (b.getD j Str.empty) a (rowAt a b j) ((j : Int) * 2) a.length).row).getD i 0 = _
  rw [h, getD_map_range hi]
/-- what stands to the left, as the program has it -/
noncomputable def leftOf (a b : List Str) (j : Nat) : Nat → Int
  | 0 => (j : Int) * 2
  | k + 1 => Dc a b (j + 1) (k + 1)
/-- the step of the table -/
theorem Dc_step (a b : List Str) (j i : Nat) (hi : i < a.length) :
    Dc a b (j + 1) (i + 1) = mn (mn (leftOf a b j i) (Dc a b j (i + 1)) + 2) (Dc a b j i + cost (b.getD j Str.empty) (a.getD i Str.empty)) := by
  show (rowAt a b (j + 1)).getD i 0 = _
  rw [row_val a b j i hi]
  cases i with
  | zero => rfl
  | succ k =>
    show mn (mn (vAt _ a _ _ k) _ + 2) _ = mn (mn ((rowAt a b (j + 1)).getD k 0) _ + 2) _
    rw [row_val a b j k (by omega)]; rfl
theorem low_le (a b : List Str) (j i : Nat) (hi : i < a.length) : (endAt a b j).low ≤ Dc a b (j + 1) (i + 1) := by
  have h := (inn_form (b.getD j Str.empty) a (rowAt a b j) ((j : Int) * 2) a.length (by rw [rowAt_len]; exact Nat.le_refl _)).2.2.2 i hi
  show _ ≤ (rowAt a b (j + 1)).getD i 0
  rw [row_val a b j i hi]
  exact h
theorem res_eq (a b : List Str) (j : Nat) (ha : 0 < a.length) : resAt a b (j + 1) = Dc a b (j + 1) a.length := by
  have h := (inn_form (b.getD j Str.empty) a (rowAt a b j) ((j : Int) * 2) a.length (by rw [rowAt_len]; exact Nat.le_refl _)).2.2.1
  obtain ⟨k, hk⟩ : ∃ k, a.length = k + 1 := ⟨a.length - 1, by omega⟩
  show (inn (b.getD j Str.empty) a (rowAt a b j) ((j : Int) * 2) a.length).r = _
  rw [h, hk]
  show _ = (rowAt a b (j + 1)).getD k 0
  rw [row_val a b j k (by omega)]
theorem Dc_zero (a b : List Str) (i : Nat) (hi : i ≤ a.length) : Dc a b 0 i = 2 * (i : Int) := by
  cases i with
  | zero => simp [Dc]
  | succ k =>
    show (rowAt a b 0).getD k 0 = _
    simp only [rowAt]
    simp [List.getD, List.getElem?_range', show k < a.length from by omega]
    omega
theorem cost_cases (x y : Str) : (cost x y = 0 ∧ x = y) ∨ (1 ≤ cost x y ∧ cost x y ≤ 2) := by
  unfold cost
  split
  · exact .inl ⟨rfl, by assumption⟩
  · split <;> exact .inr (by omega)
/-- how many of the first i words of a stand nowhere in b -/
noncomputable def gN (a b : List Str) (i : Nat) : Nat := ((a.take i).filter fun x => decide (x ∉ b)).length
theorem gN_succ (a b : List Str) (i : Nat) (h : i < a.length) : gN a b (i + 1) = gN a b i + if a.getD i Str.empty ∈ b then 0 else 1 := by
  unfold gN
  have e : a.getD i Str.empty = a[i] := by simp [List.getD, h]
  rw [List.take_add_one, List.getElem?_eq_getElem h, Option.toList_some, List.filter_append, List.length_append, e]
  congr 1
  by_cases q : a[i] ∈ b <;> simp [q]
theorem gN_le (a b : List Str) (i : Nat) : gN a b i ≤ i := by
  unfold gN
  exact Nat.le_trans (List.length_filter_le _ _) (by simp; omega)
theorem lower_bound (a b : List Str) : ∀ (j : Nat), j ≤ b.length → ∀ (i : Nat), i ≤ a.length → 2 * ((j : Int) - i) + gN a b i ≤ Dc a b j i
  | 0, _, i, hi => by
    rw [Dc_zero a b i hi]
    have := gN_le a b i
    omega
  | j + 1, hj, i, hi => by
    induction i with
    | zero =>
      have h0 : gN a b 0 = 0 := by simp [gN]
      show _ ≤ ((j + 1 : Nat) : Int) * 2
      rw [h0]; omega
    | succ i ih =>
      have ih := ih (by omega)
      have hs := gN_succ a b i (by omega)
      have up := lower_bound a b j (by omega) (i + 1) hi
      have dg := lower_bound a b j (by omega) i (by omega)
      rw [Dc_step a b j i (by omega)]
      refine le_mn ?_ ?_
      · have : 2 * (((j + 1 : Nat) : Int) - ((i + 1 : Nat) : Int)) + (gN a b (i + 1) : Int) - 2 ≤ mn (leftOf a b j i) (Dc a b j (i + 1)) := by
          refine le_mn ?_ (by split at hs <;> omega)
          cases i with
          | zero =>
            have := gN_le a b (0 + 1)
            show _ ≤ (j : Int) * 2; omega
          | succ k =>
            show _ ≤ Dc a b (j + 1) (k + 1)
            split at hs <;> omega
        omega
      · have hb : b.getD j Str.empty ∈ b := by
          have : b.getD j Str.empty = b[j] := by simp [List.getD, show j < b.length from by omega]
          rw [this]; exact List.getElem_mem _
        rcases cost_cases (b.getD j Str.empty) (a.getD i Str.empty) with ⟨c0, ce⟩ | ⟨c1, _⟩
        · rw [← ce, if_pos hb] at hs
          omega
        · split at hs <;> omega
end
-- LevU
section
theorem pre_comm : ∀ a b : List Str, pre a b = pre b a
  | [], b => by rw [pre_nil_l, pre_nil_r]
  | _ :: _, [] => by rw [pre_nil_l, pre_nil_r]
  | x :: a, y :: b => by
    rw [pre_cons, pre_cons, pre_comm a b]
    by_cases h : x = y
    · rw [if_pos h, if_pos h.symm]
    · rw [if_neg h, if_neg (Ne.symm h)]
theorem trimmed_comm (a b : List Str) : trimmed b a = ((trimmed a b).2, (trimmed a b).1) := by
  unfold trimmed
  rw [pre_comm b a, pre_comm (b.drop _).reverse]
theorem pre_take : ∀ a b : List Str, a.take (pre a b) = b.take (pre a b)
  | [], b => by rw [pre_nil_l]; simp
  | _ :: _, [] => by rw [pre_nil_r]; simp
  | x :: a, y :: b => by
    rw [pre_cons]
    split
    · rename_i h
      rw [List.take_succ_cons, List.take_succ_cons, pre_take a b, h]
    · rfl
theorem suf_drop (a b : List Str) : a.drop (a.length - pre a.reverse b.reverse) = b.drop (b.length - pre a.reverse b.reverse) := by
  have h := congrArg List.reverse (pre_take a.reverse b.reverse)
  rwa [List.take_reverse, List.take_reverse, List.reverse_reverse, List.reverse_reverse] at h
/-- what is cut off stands in both -/
theorem trim_spec (a b : List Str) : ∃ c d, a = c ++ (trimmed a b).1 ++ d ∧ b = c ++ (trimmed a b).2 ++ d := by
  refine ⟨a.take (pre a b), (a.drop (pre a b)).drop ((a.drop (pre a b)).length - pre (a.drop (pre a b)).reverse (b.drop (pre a b)).reverse), ?_, ?_⟩
  · unfold trimmed
    rw [List.append_assoc, List.take_append_drop, List.take_append_drop]
  · rw [suf_drop, pre_take]
    unfold trimmed
    rw [List.append_assoc, List.take_append_drop, List.take_append_drop]
/-- the words of two rows: u tells the one, v the other; they are the same at the places from ten on -/
structure Words (u v : Nat → Str) (W : List Nat) : Prop where
  same : ∀ p ∈ W, ∀ q ∈ W, u p = v q → p = q ∧ 10 ≤ p
  hex : ∀ p ∈ W, 10 ≤ p → u p = v p
  low : ∀ p ∈ W, p < 10 → Txt.lower (u p) = Txt.lower (v p)
noncomputable def lows (K : List Nat) : Nat := (K.filter fun p => decide (p < 10)).length
theorem lows_app (a b : List Nat) : lows (a ++ b) = lows a + lows b := by unfold lows; rw [List.filter_append, List.length_append]
theorem lows_zero {a : List Nat} (h : ∀ p ∈ a, 10 ≤ p) : lows a = 0 := by
  unfold lows
  rw [List.length_eq_zero_iff, List.filter_eq_nil_iff]
  intro p hp
  have := h p hp
  simp; omega
theorem lows_le (a : List Nat) : lows a ≤ a.length := List.length_filter_le _ _
theorem same_front {u v : Nat → Str} {W : List Nat} (hw : Words u v W) : ∀ {C D : List Nat}, (∀ p ∈ C, p ∈ W) → (∀ p ∈ D, p ∈ W) → C.map u = D.map v → C = D ∧ ∀ p ∈ C, 10 ≤ p
  | [], [], _, _, _ => ⟨rfl, fun _ h => absurd h List.not_mem_nil⟩
  | [], _ :: _, _, _, h => by simp at h
  | _ :: _, [], _, _, h => by simp at h
  | p :: C, q :: D, hC, hD, h => by
    rw [List.map_cons, List.map_cons, List.cons.injEq] at h
    obtain ⟨e1, e2⟩ := hw.same p (hC p (.head _)) q (hD q (.head _)) h.1
    obtain ⟨e3, e4⟩ := same_front hw (fun x hx => hC x (.tail _ hx)) (fun x hx => hD x (.tail _ hx)) h.2
    exact ⟨by rw [e1, e3], fun x hx => (List.mem_cons.mp hx).elim (fun e => e ▸ e2) (e4 x)⟩
theorem map_split {f : Nat → Str} {l : List Nat} {a b c : List Str} (h : l.map f = a ++ b ++ c) : ∃ A B C, l = A ++ B ++ C ∧ A.map f = a ∧ B.map f = b ∧ C.map f = c := by
  obtain ⟨X, C, rfl, h1, h2⟩ := List.map_eq_append_iff.mp h
  obtain ⟨A, B, rfl, h3, h4⟩ := List.map_eq_append_iff.mp h1
  exact ⟨A, B, C, rfl, h3, h4, h2⟩
/-- the trimmed rows are again rows of this kind, and cost the same -/
theorem trim_words {u v : Nat → Str} {W : List Nat} {keep : Nat → Bool} (hw : Words u v W) : ∃ W' : List Nat, (∀ p ∈ W', p ∈ W) ∧ (trimmed (W.map u) ((W.filter keep).map v)).1 = W'.map u ∧ (trimmed (W.map u) ((W.filter keep).map v)).2 = (W'.filter keep).map v ∧
    lows (W.filter keep) = lows (W'.filter keep) ∧ W.length + (W'.filter keep).length = W'.length + (W.filter keep).length := by
  obtain ⟨c, d, h1, h2⟩ := trim_spec (W.map u) ((W.filter keep).map v)
  obtain ⟨A, B, C, hW, eA, eB, eC⟩ := map_split h1
  obtain ⟨A', B', C', hK, eA', eB', eC'⟩ := map_split h2
  have hmW : ∀ p, p ∈ A ∨ p ∈ B ∨ p ∈ C → p ∈ W := fun p hp => by rw [hW, List.mem_append, List.mem_append, or_assoc]; exact hp
  have hmK : ∀ p, p ∈ A' ∨ p ∈ B' ∨ p ∈ C' → p ∈ W.filter keep := fun p hp => by rw [hK, List.mem_append, List.mem_append, or_assoc]; exact hp
  have hmKW : ∀ p, p ∈ A' ∨ p ∈ B' ∨ p ∈ C' → p ∈ W := fun p hp => (List.mem_filter.mp (hmK p hp)).1
  obtain ⟨e1, e2⟩ := same_front hw (fun p hp => hmW p (.inl hp)) (fun p hp => hmKW p (.inl hp)) (eA.trans eA'.symm)
  obtain ⟨e3, e4⟩ := same_front hw (fun p hp => hmW p (.inr (.inr hp))) (fun p hp => hmKW p (.inr (.inr hp))) (eC.trans eC'.symm)
  subst e1 e3
  have kA : A.filter keep = A := List.filter_eq_self.mpr fun p hp => (List.mem_filter.mp (hmK p (.inl hp))).2
  have kC : C.filter keep = C := List.filter_eq_self.mpr fun p hp => (List.mem_filter.mp (hmK p (.inr (.inr hp)))).2
  have eK : W.filter keep = A ++ B.filter keep ++ C := by
    conv => lhs; rw [hW]
    rw [List.filter_append, List.filter_append, kA, kC]
  have eB2 : B' = B.filter keep := List.append_cancel_left (List.append_cancel_right (hK.symm.trans eK))
  refine ⟨B, fun p hp => hmW p (.inr (.inl hp)), eB.symm, by rw [← eB', eB2], ?_, ?_⟩
  · rw [eK, lows_app, lows_app, lows_zero e2, lows_zero e4]; omega
  · rw [eK]
    conv => lhs; rw [hW]
    simp only [List.length_append]; omega
/-- the alignment that is evident -/
theorem upper_bound {u v : Nat → Str} {W : List Nat} {keep : Nat → Bool} (hw : Words u v W) : ∀ j, j ≤ W.length →
    Dc ((W.filter keep).map v) (W.map u) j ((W.take j).filter keep).length ≤ 2 * ((j : Int) - ((W.take j).filter keep).length) + lows ((W.take j).filter keep)
  | 0, _ => by
    simp only [List.take_zero, List.filter_nil, List.length_nil]
    show ((0 : Nat) : Int) * 2 ≤ _
    simp
  | j + 1, hj => by
    have ih := upper_bound hw (keep := keep) j (by omega)
    have hjl : j < W.length := by omega
    have et : W.take (j + 1) = W.take j ++ [W[j]] := by rw [List.take_add_one, List.getElem?_eq_getElem hjl]; rfl
    have eW : W = W.take j ++ W[j] :: W.drop (j + 1) := by rw [← List.drop_eq_getElem_cons hjl, List.take_append_drop]
    have hmem : W[j] ∈ W := List.getElem_mem _
    have eb : (W.map u).getD j Str.empty = u W[j] := by simp [List.getD, hjl]
    have eK : W.filter keep = (W.take j).filter keep ++ ([W[j]].filter keep ++ (W.drop (j + 1)).filter keep) := by
      conv => lhs; rw [eW]
      rw [List.filter_append, List.filter_cons, List.filter_cons]
      split <;> rfl
    rw [et, List.filter_append]
    generalize hI : (W.take j).filter keep = I at ih eK ⊢
    by_cases hk : keep W[j] = true
    · have e1 : [W[j]].filter keep = [W[j]] := by rw [List.filter_cons, if_pos hk]; rfl
      rw [e1] at eK ⊢
      rw [List.length_append, lows_app]
      show Dc _ _ (j + 1) (I.length + 1) ≤ 2 * (((j + 1 : Nat) : Int) - ((I.length + 1 : Nat) : Int)) + _
      have hlt : I.length < ((W.filter keep).map v).length := by rw [List.length_map, eK]; simp
      have ea : ((W.filter keep).map v).getD I.length Str.empty = v W[j] := by
        rw [eK]
        simp [List.getD, List.map_append]
      rw [Dc_step _ _ j I.length hlt, eb, ea]
      refine Int.le_trans (mn_le_r _ _) ?_
      have hc : cost (u W[j]) (v W[j]) ≤ (lows [W[j]] : Int) := by
        by_cases h10 : 10 ≤ W[j]
        · rw [hw.hex _ hmem h10]
          unfold cost
          rw [if_pos rfl]; omega
        · have hl := hw.low _ hmem (by omega)
          have e2 : lows [W[j]] = 1 := by
            unfold lows
            rw [List.filter_cons, if_pos (decide_eq_true (by omega))]; rfl
          rw [e2]
          unfold cost
          rw [if_pos hl]
          split <;> omega
      omega
    · have e1 : [W[j]].filter keep = [] := by rw [List.filter_cons, if_neg hk]; rfl
      rw [e1] at eK ⊢
      rw [List.append_nil]
      match hq : I.length with
      | 0 =>
        show ((j + 1 : Nat) : Int) * 2 ≤ _
        omega
      | k + 1 =>
        have hq : I.length = k + 1 := hq
        rw [hq] at ih
        have hlt : k < ((W.filter keep).map v).length := by rw [List.length_map, eK]; simp; omega
        rw [Dc_step _ _ j k hlt]
        refine Int.le_trans (mn_le_l _ _) ?_
        have := mn_le_r (leftOf ((W.filter keep).map v) (W.map u) j k) (Dc ((W.filter keep).map v) (W.map u) j (k + 1))
        omega
theorem filter_take_le (W : List Nat) (keep : Nat → Bool) (j : Nat) : 2 * (((min j W.length : Nat) : Int) - ((W.take j).filter keep).length) + lows ((W.take j).filter keep) ≤ 2 * ((W.length : Int) - (W.filter keep).length) + lows (W.filter keep) := by
  have e : W.filter keep = (W.take j).filter keep ++ (W.drop j).filter keep := by rw [← List.filter_append, List.take_append_drop]
  have h1 := List.length_filter_le keep (W.drop j)
  rw [List.length_drop] at h1
  rw [e, List.length_append, lows_app]
  have := Nat.min_le_left j W.length
  omega
/-- no row is dearer than the whole -/
theorem low_bound {u v : Nat → Str} {W : List Nat} {keep : Nat → Bool} (hw : Words u v W) (h0 : 0 < (W.filter keep).length) {j : Nat} (hj : j < W.length) :
    (endAt ((W.filter keep).map v) (W.map u) j).low ≤ 2 * ((W.length : Int) - (W.filter keep).length) + lows (W.filter keep) := by
  have hf := filter_take_le W keep (j + 1)
  rw [Nat.min_eq_left (by omega)] at hf
  have hu := upper_bound hw (keep := keep) (j + 1) (by omega)
  have hl : (((W.take (j + 1)).filter keep)).length ≤ (W.filter keep).length := ((List.take_sublist _ _).filter _).length_le
  match hq : (((W.take (j + 1)).filter keep)).length with
  | 0 =>
    have h1 := low_le ((W.filter keep).map v) (W.map u) j 0 (by rw [List.length_map]; exact h0)
    refine Int.le_trans h1 ?_
    rw [Dc_step _ _ j 0 (by rw [List.length_map]; exact h0)]
    refine Int.le_trans (mn_le_r _ _) ?_
    have hc : Dc ((W.filter keep).map v) (W.map u) j 0 = (j : Int) * 2 := rfl
    rw [hc]
    rw [hq] at hf
    have := cost_cases ((W.map u).getD j Str.empty) (((W.filter keep).map v).getD 0 Str.empty)
    have e0 : lows ((W.take (j + 1)).filter keep) = 0 := by have := lows_le ((W.take (j + 1)).filter keep); omega
    rcases this with ⟨h, _⟩ | ⟨_, h⟩ <;> omega
  | k + 1 =>
    have hq : (((W.take (j + 1)).filter keep)).length = k + 1 := hq
    rw [hq] at hu hf hl
    have h1 := low_le ((W.filter keep).map v) (W.map u) j k (by rw [List.length_map]; omega)
    omega
theorem lev_value {u v : Nat → Str} {W : List Nat} {keep : Nat → Bool} (hw : Words u v W) (h0 : 0 < (W.filter keep).length) : resAt ((W.filter keep).map v) (W.map u) (W.map u).length = 2 * ((W.length : Int) - (W.filter keep).length) + lows (W.filter keep) := by
  have hle := List.length_filter_le keep W
  obtain ⟨n, hn⟩ : ∃ n, W.length = n + 1 := ⟨W.length - 1, by omega⟩
  have hup := upper_bound hw (keep := keep) W.length (Nat.le_refl _)
  rw [List.take_length] at hup
  have hlo := lower_bound ((W.filter keep).map v) (W.map u) W.length (by rw [List.length_map]; exact Nat.le_refl _) (W.filter keep).length (by rw [List.length_map]; exact Nat.le_refl _)
  have hg : gN ((W.filter keep).map v) (W.map u) (W.filter keep).length = lows (W.filter keep) := by
    unfold gN lows
    have e : ((W.filter keep).map v).take (W.filter keep).length = (W.filter keep).map v := List.take_of_length_le (by rw [List.length_map]; exact Nat.le_refl _)
    rw [e, List.filter_map, List.length_map]
    congr 1
    refine List.filter_congr fun p hp => ?_
    have hpW := (List.mem_filter.mp hp).1
    simp only [Function.comp, decide_eq_decide]
    constructor
    · intro q
      refine Nat.lt_of_not_le fun h10 => q ?_
      exact List.mem_map.mpr ⟨p, hpW, hw.hex p hpW h10⟩
    · intro q h
      obtain ⟨r, hr, e⟩ := List.mem_map.mp h
      have := hw.same r hr p hpW e
      omega
  rw [hg] at hlo
  rw [List.length_map, hn, res_eq _ _ n (by rw [List.length_map]; exact h0), List.length_map, ← hn]
  omega
theorem lev_out {u v : Nat → Str} {W : List Nat} {keep : Nat → Bool} (hw : Words u v W) (h0 : 0 < (W.filter keep).length) {mx r pr : Int} (hpr : pr = 2 * ((W.length : Int) - (W.filter keep).length) + lows (W.filter keep)) (hb : mx < 0 ∨ pr - 1 ≤ mx)
    (h : LevOut mx ((W.filter keep).map v) (W.map u) r) : r = if mx < 0 then mx + 1 else pr := by
  have hle := List.length_filter_le keep W
  unfold LevOut at h
  rw [List.length_map, List.length_map] at h
  rcases h with ⟨h1, h2⟩ | ⟨h1, h2⟩
  · split <;> omega
  · rw [if_neg (by omega)]
    rcases h2 with ⟨j, hj, h3, h4⟩ | h2
    · have := low_bound hw h0 hj
      omega
    · rw [h2, hpr]
      have := lev_value hw h0
      rwa [List.length_map] at this
end
-- Sort3
section
noncomputable def pairOf (ns : List Str) : List (Str × Str) := ns.map fun y => (y, Str.empty)
theorem nm_pair {ns : List Str} (i : Nat) : nm (pairOf ns) i = ns.getD i Str.empty := by
  unfold nm pairOf
  simp only [List.getD, List.getElem?_map]
  cases ns[i]? <;> rfl
theorem pair_fst {ns : List Str} : (pairOf ns).map (·.1) = ns := by
  unfold pairOf
  rw [List.map_map]
  exact List.map_id _
theorem strs_arr {vs : List Value} {ns : List Str} (x : StrsAre vs ns) {p : List Nat} (hp : ∀ i ∈ p, i < ns.length) : StrsAre (p.map fun i => vs.getD i Value.none) (p.map fun i => ns.getD i Str.empty) := by
  induction p with
  | nil => exact .nil
  | cons i l ih =>
    have hi := hp i (.head _)
    obtain ⟨t, ht⟩ := x.get i ns[i] (by simp [hi])
    have e1 : vs.getD i Value.none = Value.str (ns.getD i Str.empty) t := by
      simp [List.getD, ht, hi]
    rw [List.map_cons, List.map_cons, e1]
    exact .cons _ _ (ih fun j hj => hp j (.tail _ hj))
section
variable {prog : Program} {w : World} {A : Around} {E : Value → Shared → Prop} {s : Shared} {h₀ : Heap} {L : Addr} {m : Str → Option Value} {news : List (Addr × Obj)} {vs : List Value} {ns : List Str}
/-- sorted over a list of different texts -/
theorem sorted_strs {l : Addr} {Q : Value → Shared → Prop} (F : Fr h₀ L s.heap m) (N : News h₀ L s.heap news) (hl : s.heap.IsList l vs.toArray) (hA : StrsAre vs ns) (h2 : 2 ≤ ns.length) (h64 : ns.length < 64) (hd : ns.Nodup)
    (h : ∀ D e h' ys zs, StrsAre ys zs → zs.Perm ns → zs.Pairwise strLt → Fr h₀ L h' m → News h₀ L h' ((D, W.listOf ys.toArray e) :: news) → AllNe D news → Q (.ref D) { s with heap := h' }) :
    wpAny (model prog w) A (call (.builtin "sorted") [.ref l]) Q E s := by
  have hlen : vs.length = ns.length := hA.length
  have hpl : (pairOf ns).length = ns.length := List.length_map _
  have hd' : ((pairOf ns).map (·.1)).Nodup := by rw [pair_fst]; exact hd
  have gi : ∀ i, i < ns.length → ∃ t, vs.getD i Value.none = .str (nm (pairOf ns) i) t := by
    intro i hi
    obtain ⟨t, ht⟩ := hA.get i ns[i] (by simp [hi])
    exact ⟨t, by rw [nm_pair]; simp [List.getD, ht, hi]⟩
  refine kas_sorted (T := .type "str") F N hl (by omega) (by omega) (fun h _ _ v hv => ?_) (by decide) fun D e1 h' F' N' hlt => ?_
  · obtain ⟨i, hi, rfl⟩ := List.getElem_of_mem hv
    obtain ⟨t, ht⟩ := gi i (by omega)
    have : vs[i] = .str (nm (pairOf ns) i) t := by rw [← ht]; simp [hi]
    rw [this]
    exact Looks.now
  have hne : AllNe D news := allNe_of fun q hq => Nat.ne_of_lt (hlt q hq)
  rw [hlen, ← hpl]
  refine KP_wp (I := fun s' => s' = { s with heap := h' }) (fun i j C s' hi hj hij hs hC => ?_) (fun p s' hp hs => ?_) _ _ (sort_run (ltI_ord hd') (by omega)) rfl
  · subst hs
    unfold kas_ask
    obtain ⟨t, e1⟩ := gi i (by omega)
    obtain ⟨u, e2⟩ := gi j (by omega)
    rw [e1, e2]
    exact kas_lt_str (hC _ rfl)
  · subst hs
    refine KasFin.intro F' N' (UpdF.head (fun q hq => Nat.ne_of_lt (hlt q hq))) fun h'' c F'' N'' => ?_
    have hlt : ∀ i ∈ p.toList, i < ns.length := fun i hi => by
      have := List.mem_range.mp (hp.1.mem_iff.mp hi)
      omega
    have e : (arr (pairOf ns) p).map (·.1) = p.toList.map fun i => ns.getD i Str.empty := by
      unfold arr
      rw [List.map_map]
      exact List.map_congr_left fun i _ => nm_pair i
    refine h D c h'' _ (p.toList.map fun i => ns.getD i Str.empty) (strs_arr hA hlt) ?_ ?_ F'' N'' hne
    · rw [← e]
      have := (arr_perm hp.1).map (·.1)
      rwa [pair_fst] at this
    · rw [← e, List.pairwise_map]
      exact arr_sorted hp.1 hp.2
end
end
-- LibRg
section
section
variable {prog : Program} {w : World} {A : Around} {E : Value → Shared → Prop} {s : Shared} {env : Env}
theorem Walks_bound {I : Addr} {fp wr : List Addr} {n : Nat} {P : Nat → Value → Prop} {St : Nat → Heap → Prop} (W : Walks prog w A I fp wr n P St) : Walks prog w A I fp wr n (fun i v => i < n ∧ P i v) St where
  sub := W.sub
  frame := W.frame
  item := fun i s Q E hi st hQ => W.item i s Q E hi st fun v h' tk hv => hQ v h' tk ⟨hi, hv⟩
  done := W.done
  self := W.self
/-- ready for an assigned comprehension over a range that goes down to nought -/
noncomputable def CompReadyR (A : Around) (prog : Program) (w : World) (env : Env) (target : Expr) (ifs : List Expr) (elt : Expr) (scope : Scope) (cl : List (Str × Addr)) (p : Value → Bool) (G : Heap → Value → Value → Prop) (y : Str) (Q : Flow → Shared → Prop) (xv : Value) (s₁ : Shared) : Prop :=
  ∃ r a n t u v, ∃ (h₀ : Heap) (m : Str → Option Value) (news : List (Addr × Obj)), xv = .ref r ∧ IsRange s₁.heap r a (-1) (-1) t u v ∧ Builtin.Range.small a (-1) (-1) = true ∧ Builtin.Range.rangeSize a (-1) (-1) = ((n : Nat) : Int) ∧ n ≤ sizeLine ∧ Fr h₀ env.locals s₁.heap m ∧ News h₀ env.locals s₁.heap news ∧
      (∀ C (i : Nat) v s₃ m₃, s₁.heap.objs.size ≤ C → (i < n ∧ ∃ t, v = .int (a + (i : Nat) * (-1)) t) → s₃.heap.Ns C m₃ → (∃ h tk, s₃ = { s₁ with heap := h, toks := tk }) → s₁.heap.StaysIn s₃.heap →
        Turn prog w A (compEnvC scope cl C env) target ifs elt C p G v s₃) ∧
      (∀ D h' tk (ys : List Value) k (vs : List Value), vs.length = n → (∀ j v, vs[j]? = some v → j < n ∧ ∃ t, v = .int (a + (j : Nat) * (-1)) t) → Paired (G h') (vs.filter p) ys → Fr h₀ env.locals h' (fun z => if z = y then some (.ref D) else m z) → News h₀ env.locals h' ((D, PySem.W.listOf ys.toArray k) :: news) → AllNe D news → s₁.heap.objs.size ≤ D →
        (∀ b o, b ≠ env.locals → s₁.heap.get? b = some o → h'.get? b = some o) → Q .next { s₁ with heap := h', toks := tk })
end
namespace HAssign_ListComp_down
noncomputable abbrev hTy := Program × World × Around × (Value → Shared → Prop) × Shared × Env × Expr × Expr × Expr × List Expr × Str × Pos × Scope × (List (Str × Addr)) × Pos × Pos × (Flow → Shared → Prop) × (Value → Bool) × (Heap → Value → Value → Prop)
noncomputable def hSt (c : hTy) : Prop := (fun (prog : Program) (w : World) (A : Around) (E : Value → Shared → Prop) (s : Shared) (env : Env) (elt : Expr) (target : Expr) (iter : Expr) (ifs : List Expr) (y : Str) (py : Pos) (scope : Scope) (cl : List (Str × Addr)) (pos : Pos) (spos : Pos) (Q : Flow → Shared → Prop) (p : Value → Bool) (G : Heap → Value → Value → Prop) => ∀ (hsw : swapsWith (.ListComp elt [⟨target, iter, ifs, 0⟩] scope pos) (some (.Name y py)) spos.line env = pure true) (hh : A.handled = none) (hclos : closureFor scope env = pure cl) (hcell : ∀ y ∈ scope.names, y.2 ≠ .cell) (hkind : scope.kind = .function) (hnames : ∀ y ∈ scope.names, y.2 = .local → scope.names.lookup y.1 = some .local) (hy : env.kindOf y = some .local) (hp : (env.scope.kind == .class || (env.scope.kind == .module && env.locals != env.globals)) = false) (h : wpAny (model prog w) A (eval iter env) (fun xv s₁ => CompReadyR A prog w env target ifs elt scope cl p G y Q xv s₁) E s) (hs : ∀ x, foldedSetIterable iter env x = pure x) (hgo : ∀ it v, letOwnedTupleGo target it v = pure ()), (wpAny (model prog w) A (exec (.Assign [.Name y py] (.ListComp elt [⟨target, iter, ifs, 0⟩] scope pos) spos) env) Q E s : Prop)) c.1 c.2.1 c.2.2.1 c.2.2.2.1 c.2.2.2.2.1 c.2.2.2.2.2.1 c.2.2.2.2.2.2.1 c.2.2.2.2.2.2.2.1 c.2.2.2.2.2.2.2.2.1 c.2.2.2.2.2.2.2.2.2.1 c.2.2.2.2.2.2.2.2.2.2.1 c.2.2.2.2.2.2.2.2.2.2.2.1 c.2.2.2.2.2.2.2.2.2.2.2.2.1 c.2.2.2.2.2.2.2.2.2.2.2.2.2.1 c.2.2.2.2.2.2.2.2.2.2.2.2.2.2.1 c.2.2.2.2.2.2.2.2.2.2.2.2.2.2.2.1 c.2.2.2.2.2.2.2.2.2.2.2.2.2.2.2.2.1 c.2.2.2.2.2.2.2.2.2.2.2.2.2.2.2.2.2.1 c.2.2.2.2.2.2.2.2.2.2.2.2.2.2.2.2.2.2
theorem hNe : Nonempty hTy := ⟨default, w0, {}, (fun _ => (fun _ => False)), {}, default, default, default, default, [], Str.empty, default, default, [], default, default, (fun _ => (fun _ => False)), (fun _ => false), (fun _ => (fun _ => (fun _ => False)))⟩
noncomputable def hCc : hTy := @Classical.epsilon hTy hNe fun x => ¬ hSt x
@[irreducible] noncomputable def prog : Program := hCc.1
@[irreducible] noncomputable def w : World := hCc.2.1
@[irreducible] noncomputable def A : Around := hCc.2.2.1
@[irreducible] noncomputable def E : Value → Shared → Prop := hCc.2.2.2.1
@[irreducible] noncomputable def s : Shared := hCc.2.2.2.2.1
@[irreducible] noncomputable def env : Env := hCc.2.2.2.2.2.1
@[irreducible] noncomputable def elt : Expr := hCc.2.2.2.2.2.2.1
@[irreducible] noncomputable def target : Expr := hCc.2.2.2.2.2.2.2.1
@[irreducible] noncomputable def iter : Expr := hCc.2.2.2.2.2.2.2.2.1
@[irreducible] noncomputable def ifs : List Expr := hCc.2.2.2.2.2.2.2.2.2.1
@[irreducible] noncomputable def y : Str := hCc.2.2.2.2.2.2.2.2.2.2.1
@[irreducible] noncomputable def py : Pos := hCc.2.2.2.2.2.2.2.2.2.2.2.1
@[irreducible] noncomputable def scope : Scope := hCc.2.2.2.2.2.2.2.2.2.2.2.2.1
@[irreducible] noncomputable def cl : List (Str × Addr) := hCc.2.2.2.2.2.2.2.2.2.2.2.2.2.1
@[irreducible] noncomputable def pos : Pos := hCc.2.2.2.2.2.2.2.2.2.2.2.2.2.2.1
@[irreducible] noncomputable def spos : Pos := hCc.2.2.2.2.2.2.2.2.2.2.2.2.2.2.2.1
@[irreducible] noncomputable def Q : Flow → Shared → Prop := hCc.2.2.2.2.2.2.2.2.2.2.2.2.2.2.2.2.1
@[irreducible] noncomputable def p : Value → Bool := hCc.2.2.2.2.2.2.2.2.2.2.2.2.2.2.2.2.2.1
@[irreducible] noncomputable def G : Heap → Value → Value → Prop := hCc.2.2.2.2.2.2.2.2.2.2.2.2.2.2.2.2.2.2
theorem hMain (hsw : swapsWith (.ListComp elt [⟨target, iter, ifs, 0⟩] scope pos) (some (.Name y py)) spos.line env = pure true) (hh : A.handled = none) (hclos : closureFor scope env = pure cl) (hcell : ∀ y ∈ scope.names, y.2 ≠ .cell) (hkind : scope.kind = .function) (hnames : ∀ y ∈ scope.names, y.2 = .local → scope.names.lookup y.1 = some .local) (hy : env.kindOf y = some .local) (hp : (env.scope.kind == .class || (env.scope.kind == .module && env.locals != env.globals)) = false) (h : wpAny (model prog w) A (eval iter env) (fun xv s₁ => CompReadyR A prog w env target ifs elt scope cl p G y Q xv s₁) E s) (hs : ∀ x, foldedSetIterable iter env x = pure x) (hgo : ∀ it v, letOwnedTupleGo target it v = pure ()) : wpAny (model prog w) A (exec (.Assign [.Name y py] (.ListComp elt [⟨target, iter, ifs, 0⟩] scope pos) spos) env) Q E s := by
  rw [exec_Assign_Name_used _ _ _ _ hsw]
  refine wpAny_bind (wpAny_standAt (wpAny_bind ?_))
  show wpAny _ A (do let _ ← comprehension (.ListComp elt [⟨target, iter, ifs, 0⟩] scope pos) scope env _ (newList []) false (eval iter env) (some (assign (.Name y py) env))) _ _ s
  refine wpAny_bind (wpAny_mono (wpAny_comprehension_free (use := some (assign (.Name y py) env)) (Q := fun _ s' => Q .next s') rfl hs hclos hkind hnames
    (wpAny_mono h (fun xv s₁ h₁ => ?_) fun _ _ e => e)) (fun _ s' hq => wpAny_pure (wpAny_pure hq)) fun _ _ e => e)
  obtain ⟨r, a, n, t, u, v, h₀, m, news, rfl, hr, hsm, hsize, hsz, F, N, ht, hQ⟩ := h₁
  refine wpAny_pyIter_range hr hsm ?_
  have W := Walks_bound (Walks.range (prog := prog) (w := w) hh s₁.heap.objs.size a (-1) n)
  have old : ∀ b o, s₁.heap.get? b = some o → b ∉ [s₁.heap.objs.size] := fun b o e q => Nat.lt_irrefl _ (List.mem_singleton.mp q ▸ Heap.lt_size e)
  have hsize2 : ∀ C, (s₁.heap.push ({ cls := .type "range_iterator", data := .fields #[rawInt a, rawInt (Builtin.Range.rangeSize a (-1) (-1)), rawInt (-1)] } : Obj)).objs.size ≤ C → s₁.heap.objs.size ≤ C := fun C hC => by
    rw [Heap.size_push] at hC
    exact Nat.le_of_succ_le hC
  refine list_block (RR := fun acc C => compPost (model prog w) A E (some (assign (.Name y py) env)) (fun _ s' => Q .next s') acc C) p (Off env.locals G) hcell hkind W hsz ?_ ?_ ?_ (fun i s' v Q' st q => by rw [hgo]; exact wpAny_pure q) ?_ ?_
  · have := Heap.get?_push_size s₁.heap (o := ({ cls := .type "range_iterator", data := .fields #[rawInt a, rawInt (Builtin.Range.rangeSize a (-1) (-1)), rawInt (-1)] } : Obj)) rfl
    rw [hsize] at this
    simpa [IsRangeIter, rawInt, hsize] using this
  · intro b hb
    show b < (s₁.heap.push _).objs.size
    rw [Heap.size_push]
    rw [List.mem_singleton.mp hb]; exact Nat.lt_succ_self _
  · intro i h st b hb
    exact ⟨_, List.mem_singleton.mp hb ▸ st⟩
  · intro C i v s₃ m₃ hC hP hn hs₃ hk
    have st3 : s₁.heap.StaysIn s₃.heap := fun b o e => hk b o (old b o e) (Heap.get?_push_of_some _ e)
    obtain ⟨oL, _, _, hoL, _⟩ := F.ns
    exact turn_off ⟨_, st3 _ _ hoL⟩ (ht C i v s₃ m₃ (hsize2 C hC) hP hn (by obtain ⟨a, b, rfl⟩ := hs₃; exact ⟨a, b, rfl⟩) st3)
  · intro D C h' tk m' ys vs' hD hC hDC hnC hg hlen hP hF hk
    have hD := hsize2 D hD
    have hC := hsize2 C hC
    have up : s₁.heap.StaysIn h' := fun b o q => hk b o (old b o q) (Heap.get?_push_of_some _ q)
    have F' : Fr h₀ env.locals h' m := ⟨F.ns.at' fun o e => up _ o e, fun b o e => up b o (F.keep b o e), F.above⟩
    have hlt : ∀ b o, s₁.heap.get? b = some o → b < s₁.heap.objs.size := fun b o e => Heap.lt_size e
    obtain ⟨oL, _, _, hoL, _⟩ := F.ns
    have hLs := hlt _ _ hoL
    have hLC : env.locals ≠ C := Nat.ne_of_lt (Nat.lt_of_lt_of_le hLs hC)
    have hLD : env.locals ≠ D := Nat.ne_of_lt (Nat.lt_of_lt_of_le hLs hD)
    show wpAny _ A (assign (.Name y py) env (.ref D)) _ _ _
    refine wpAny_assign_Name (wpAny_storeName_local hy F'.ns (fun h₂ hn₂ hs₂ => ?_) hp)
    refine ⟨m', hnC.sameBut hs₂ (Ne.symm hLC), fun h₃ hs₃ => ?_⟩
    have up3 : ∀ b o, b ≠ env.locals → b ≠ C → h'.get? b = some o → h₃.get? b = some o := fun b o h1 h2 e => hs₃.extBut b o h2 (hs₂.extBut b o h1 e)
    have up1 : ∀ b o, b ≠ env.locals → s₁.heap.get? b = some o → h₃.get? b = some o := fun b o h1 e => up3 b o h1 (Nat.ne_of_lt (Nat.lt_of_lt_of_le (hlt _ _ e) hC)) (up b o e)
    obtain ⟨k, hoD⟩ := hg
    obtain ⟨oL', _, _, hoL', _⟩ := F'.ns
    obtain ⟨oL3, _, _, hoL3, _⟩ := hn₂.sameBut hs₃ hLC
    have hD3 := up3 _ _ (Ne.symm hLD) hDC hoD
    have hDn : s₁.heap.get? D = none := Heap.get?_none_of_le hD
    refine hQ D h₃ _ ys.toList k vs' hlen hP ?_ ⟨hn₂.sameBut hs₃ hLC, fun b o e => up1 b o (Nat.ne_of_lt (Nat.lt_of_lt_of_le (Heap.lt_size e) F.above)) (F.keep b o e), F.above⟩ (fun q hq => ?_) (allNe_of fun q hq => Nat.ne_of_lt (Nat.lt_of_lt_of_le (hlt _ _ (N q hq).1) hD)) hD up1
    · exact paired_map (fun v y g => g h₃ (setback_out h₃ _ _)) (hF (h₃.update env.locals fun _ => oL') (setback_in up3 hoL' hoL3))
    · rcases List.mem_cons.mp hq with rfl | hq
      · refine ⟨by rw [Array.toArray_toList]; exact hD3, Ne.symm hLD, ?_⟩
        cases e : h₀.get? D with
        | none => rfl
        | some o => exact absurd (Nat.lt_of_lt_of_le (hlt _ _ (F.keep _ _ e)) hD) (Nat.lt_irrefl _)
      · exact ⟨up1 _ _ (N q hq).2.1 (N q hq).1, (N q hq).2⟩
end HAssign_ListComp_down
section
variable {prog : Program} {w : World} {A : Around} {E : Value → Shared → Prop} {s : Shared} {env : Env}
theorem Assign_ListComp_down {elt target iter : Expr} {ifs : List Expr} {y : Str} {py : Pos} {scope : Scope} {cl : List (Str × Addr)} {pos spos : Pos} {Q : Flow → Shared → Prop} (p : Value → Bool) (G : Heap → Value → Value → Prop) (hsw : swapsWith (.ListComp elt [⟨target, iter, ifs, 0⟩] scope pos) (some (.Name y py)) spos.line env = pure true) (hh : A.handled = none) (hclos : closureFor scope env = pure cl) (hcell : ∀ y ∈ scope.names, y.2 ≠ .cell) (hkind : scope.kind = .function) (hnames : ∀ y ∈ scope.names, y.2 = .local → scope.names.lookup y.1 = some .local) (hy : env.kindOf y = some .local) (hp : (env.scope.kind == .class || (env.scope.kind == .module && env.locals != env.globals)) = false) (h : wpAny (model prog w) A (eval iter env) (fun xv s₁ => CompReadyR A prog w env target ifs elt scope cl p G y Q xv s₁) E s) (hs : ∀ x, foldedSetIterable iter env x = pure x := by intro _; rfl) (hgo : ∀ it v, letOwnedTupleGo target it v = pure () := by intro _ _; rfl) : wpAny (model prog w) A (exec (.Assign [.Name y py] (.ListComp elt [⟨target, iter, ifs, 0⟩] scope pos) spos) env) Q E s := hen HAssign_ListComp_down.hSt HAssign_ListComp_down.hNe (by with_unfolding_all exact HAssign_ListComp_down.hMain) (prog, w, A, E, s, env, elt, target, iter, ifs, y, py, scope, cl, pos, spos, Q, p, G) hsw hh hclos hcell hkind hnames hy hp h hs hgo
end
theorem down_size {n : Nat} (h : 1 ≤ n) : Builtin.Range.rangeSize ((n : Int) - 1) (-1) (-1) = ((n : Nat) : Int) := by
  unfold Builtin.Range.rangeSize
  rw [if_neg (by decide), if_pos (by omega), show -(-1 : Int) = 1 from rfl, Int.ediv_one]; omega
theorem down_small {n : Nat} (h : 1 ≤ n) (h2 : n ≤ 1000) : Builtin.Range.small ((n : Int) - 1) (-1) (-1) = true :=
  PySem.W.small_down (by omega) (by omega) (by decide) (by decide)
end
-- LibN
section
set_option compiler.extract_closed false
noncomputable def hc {α : Type} (n : Nonempty α) (P : α → Prop) : α := @Classical.epsilon α n fun x => ¬ P x
theorem hc_all {α : Type} (n : Nonempty α) {P : α → Prop} (h : P (hc n P)) : ∀ x, P x := hen P n h
theorem hc_ex {α : Type} (n : Nonempty α) {P : α → Prop} (h : ∃ x, P x) : P (@Classical.epsilon α n P) := Classical.epsilon_spec h
abbrev AllOf {α : Type} (P : α → Prop) : Prop := ∀ x, P x
abbrev ExK {α : Type} {A : α → Prop} (_ : ∃ x, A x) (G : Prop) : Prop := ∀ x, A x → G
abbrev AndK {A B : Prop} (_ : A ∧ B) (G : Prop) : Prop := A → B → G
theorem pf {A : Prop} (h : A) : A := h
abbrev AllP2 {α β : Type} (P : α → β → Prop) : Prop := ∀ x y, P x y
abbrev AllP3 {α β γ : Type} (P : α → β → γ → Prop) : Prop := ∀ x y z, P x y z
abbrev AllP4 {α β γ δ : Type} (P : α → β → γ → δ → Prop) : Prop := ∀ x y z t, P x y z t
theorem nPr {α β : Type} (n : Nonempty α) (m : Nonempty β) : Nonempty (α × β) := n.elim fun a => m.elim fun b => ⟨(a, b)⟩
noncomputable def hc2 {α β : Type} (n : Nonempty α) (m : Nonempty β) (P : α → β → Prop) : α × β := hc (nPr n m) fun x => P x.1 x.2
noncomputable def hc3 {α β γ : Type} (n : Nonempty α) (m : Nonempty β) (k : Nonempty γ) (P : α → β → γ → Prop) : α × β × γ := hc (nPr n (nPr m k)) fun x => P x.1 x.2.1 x.2.2
noncomputable def hc4 {α β γ δ : Type} (n : Nonempty α) (m : Nonempty β) (k : Nonempty γ) (l : Nonempty δ) (P : α → β → γ → δ → Prop) : α × β × γ × δ := hc (nPr n (nPr m (nPr k l))) fun x => P x.1 x.2.1 x.2.2.1 x.2.2.2
theorem hc_all2 {α β : Type} (n : Nonempty α) (m : Nonempty β) {P : α → β → Prop} (h : P (hc2 n m P).1 (hc2 n m P).2) : ∀ x y, P x y := fun x y => hen (fun x : α × β => P x.1 x.2) _ h (x, y)
theorem hc_all3 {α β γ : Type} (n : Nonempty α) (m : Nonempty β) (k : Nonempty γ) {P : α → β → γ → Prop} (h : P (hc3 n m k P).1 (hc3 n m k P).2.1 (hc3 n m k P).2.2) : ∀ x y z, P x y z := fun x y z => hen (fun x : α × β × γ => P x.1 x.2.1 x.2.2) _ h (x, y, z)
theorem hc_all4 {α β γ δ : Type} (n : Nonempty α) (m : Nonempty β) (k : Nonempty γ) (l : Nonempty δ) {P : α → β → γ → δ → Prop} (h : P (hc4 n m k l P).1 (hc4 n m k l P).2.1 (hc4 n m k l P).2.2.1 (hc4 n m k l P).2.2.2) : ∀ x y z t, P x y z t := fun x y z t => hen (fun x : α × β × γ × δ => P x.1 x.2.1 x.2.2.1 x.2.2.2) _ h (x, y, z, t)
section
open Lean Syntax
def mRc (s : Sx) : MacroM Sx := do
  let h := s[1][0][1]
  let l := s[2][1]
  let m := l[0][0]
  let p := m[0]
  if !h.isIdent || 3 < m.getNumArgs then return ← uns
  if m.getNumArgs == 3 then
    let h : Ident := ⟨h⟩
    let a : TSyntax `tactic := ⟨sq [ins [mHK], trS (clr h), rc mHK (lo m[0])]⟩
    let b : TSyntax `tactic := ⟨sq [ins [mHK], trS (clr h), rc mHK (lo m[2])]⟩
    return ← `(tactic| (refine Or.elim $h ?a ?b; (case' b => $b:tactic); (case' a => $a:tactic)))
  if isR p "one" then
    if p[0].getId == `rfl then return ndT "subst" [aT "subst", nl [h]]
    return sq [← hvq h, ins [p[0]], trS (clr h)]
  if isR p "ignore" then return sq [← hvq h, ins [← `(_)], trS (clr h)]
  if isR p "clear" then return clr h
  if isR p "paren" then return rc h p[1]
  if !isR p "tuple" then return ← uns
  match p[1].getSepArgs.toList with
  | [q] => return rc h q
  | q :: qs =>
    let ph : Sx ← `(($(⟨h⟩)))
    let raw := rc ph l
    if h.getId != `hN then return fst [sq [← hvq h, ins [mHN], trS (clr h), rc mHN l], raw]
    let c := if q[0][0].getNumArgs == 1 then q[0][0][0] else mHN
    let b := isR c "one" && c[0].getId != `rfl
    let i := isR c "ignore"
    let u ← `(_)
    let k := ins [if b then c[0] else if i then u else mHM, mHK]
    let k2 := [clr mHN, ndT "rename" [aT "rename", u, aT "=>", mHN]]
    let r := rc mHN (tup (sqc qs))
    let r := if b || i then r else bth (rc mHM q) r
    return fst [sq (kx "hcX" :: k :: k2 ++ [r]), sq [kx "hcC", ndT "rintro" [aT "rintro", nl ((q :: qs).map fun x => node .none `Lean.Parser.Tactic.rintroPat.one #[ndR "paren" [aT "(", x, aT ")"]]), nl []]], raw]
  | _ => uns
def nmR (q : Sx) : Option Sx :=
  if q.isOfKind `Lean.Parser.Tactic.rintroPat.one then
    let c := q[0]
    let c := if isR c "paren" && c[1][0][0].getNumArgs == 1 then c[1][0][0][0] else c
    if isR c "one" && c[0].getId != `rfl then some c[0] else if isR c "ignore" then some (node .none `Lean.Parser.Term.hole #[aT "_"]) else none
  else none
def mRi (s : Sx) : MacroM Sx := do
  let l := s[1].getArgs.toList
  let g := l.takeWhile fun q => (nmR q).isSome
  let rest := fun (qs : List Sx) (t : Sx) => if qs.isEmpty then t else bth t (ndT "rintro" [aT "rintro", nl qs, nl []])
  if !g.isEmpty then return rest (l.drop g.length) (ndT "intro" [aT "intro", nl (g.filterMap nmR)])
  match l with
  | [] => uns
  | q :: qs =>
    if !q.isOfKind `Lean.Parser.Tactic.rintroPat.one then return ← uns
    return rest qs (sq [ins [mHN], rc mHN (lo q[0])])
def inT (l : List Sx) : List Sx := if l.isEmpty then [] else [ndT "intro" [aT "intro", nl l]]
def inK (k : Nat) (s : String) (l : List Sx) : List Sx :=
  if l.length < k then [] else [sq (kx s :: ndT "withUnfoldingAll" [aT "with_unfolding_all", ndT "tacticSeq" [ndT "tacticSeq1Indented" [nl [ins (l.take k)]]]] :: inT (l.drop k))]
def mIn (s : Sx) : MacroM Sx := do
  let l := s[1].getArgs.toList
  let g := l.takeWhile fun x => x.isIdent || x.isOfKind `Lean.Parser.Term.hole
  match l with
  | [] => uns
  | [x] => if g.isEmpty then uns else return sq [trS (kx "hcI"), ins [x]]
  | x :: r =>
    if g.isEmpty then return sq (inT [x] ++ inT r)
    if g.length < l.length then return sq (inT g ++ inT (l.drop g.length))
    return fst (inK 4 "hcI4" l ++ inK 3 "hcI3" l ++ inK 2 "hcI2" l ++ [sq (trS (kx "hcI") :: ins [x] :: inT r)])
def mOb (s : Sx) : MacroM Sx := do
  let p := s[1][0][0][0]
  let e := s[3][1][0]
  if !isR p "tuple" then return ← uns
  let t := if e.isIdent && s[2].getNumArgs == 0 then rc e (lo p)
    else sq [ndT "tacticHave__" [aT "have", ndE "letConfig" [nl []], ndE "letDecl" [ndE "letIdDecl" [ndE "letId" [mHN], nl [], nl (if s[2].getNumArgs == 0 then [] else [node .none `Lean.Parser.Term.typeSpec s[2].getArgs]), aT ":=", e]]], rc mHN (lo p)]
  return fst [sq [kx "hcOn", t], s.setArg 1 (nl [ndT "rcasesPatMed" [nl [ndR "paren" [aT "(", lo p, aT ")"]]]])]
def repl (h : Sx) : Sx := ndT "replace" [aT "replace", ndE "letDecl" [ndE "letIdDecl" [ndE "letId" [h], nl [], nl [], aT ":=", h]]]
def mRw (s : Sx) : MacroM Sx := do
  let h := s[3][0][1][0][0]
  if !h.isIdent then return ← uns
  return sq [repl h, node .none `Lean.Parser.Tactic.rewriteSeq (s.setArg 0 (aT "rewrite")).getArgs]
def mSi (s : Sx) : MacroM Sx := do
  let h := s[5][0][1][0][0]
  if !h.isIdent || s[1][0].getNumArgs != 0 || s[3].getNumArgs == 0 then return ← uns
  return sq [repl h, s.setArg 1 (ndT "optConfig" [nl [ndT "configItem" [ndT "posConfigItem" [aT "+", Lean.mkIdent `zeta]]]])]
end
end
local macro_rules (kind := Lean.Parser.Tactic.intro) | s => Mine.mIn s
local macro_rules (kind := Lean.Parser.Tactic.rintro) | s => Mine.mRi s
local macro_rules (kind := Lean.Parser.Tactic.rcases) | s => Mine.mRc s
local macro_rules (kind := Lean.Parser.Tactic.obtain) | s => Mine.mOb s
local macro_rules (kind := Lean.Parser.Tactic.rwSeq) | s => Mine.mRw s
local macro_rules (kind := Lean.Parser.Tactic.simp) | s => Mine.mSi s
-- LibP
section
noncomputable abbrev PcT := Program × List Str × (ExcName → Option Value) × (Str → Option Value) × (Str → Option Value) × Nat × Nat × Option (List Code) × Str × Scope × Addr × Value × List (Str × Addr) × List Env × Around × Heap × Heap × Addr × (Str → Option Value) × Shared × (Value → Shared → Prop) × (Value → Shared → Prop)
noncomputable abbrev PcAll (P : Program → List Str → (ExcName → Option Value) → (Str → Option Value) → (Str → Option Value) → Nat → Nat → Option (List Code) → Str → Scope → Addr → Value → List (Str × Addr) → List Env → Around → Heap → Heap → Addr → (Str → Option Value) → Shared → (Value → Shared → Prop) → (Value → Shared → Prop) → Prop) : Prop :=
  ∀ p loose mean mg mb dp un gd cn cs a ccd cl outer A₀ base h₀ L m s Q E, P p loose mean mg mb dp un gd cn cs a ccd cl outer A₀ base h₀ L m s Q E
theorem pcNe : Nonempty PcT := ⟨default, [], (fun _ => none), (fun _ => none), (fun _ => none), 0, 0, none, Str.empty, default, (0 : Nat), default, [], [], {}, default, default, (0 : Nat), (fun _ => none), {}, (fun _ _ => False), (fun _ _ => False)⟩
noncomputable def pc (P : Program → List Str → (ExcName → Option Value) → (Str → Option Value) → (Str → Option Value) → Nat → Nat → Option (List Code) → Str → Scope → Addr → Value → List (Str × Addr) → List Env → Around → Heap → Heap → Addr → (Str → Option Value) → Shared → (Value → Shared → Prop) → (Value → Shared → Prop) → Prop) : PcT :=
  hc pcNe fun (p, loose, mean, mg, mb, dp, un, gd, cn, cs, a, ccd, cl, outer, A₀, base, h₀, L, m, s, Q, E) => P p loose mean mg mb dp un gd cn cs a ccd cl outer A₀ base h₀ L m s Q E
theorem pc_all {P : Program → List Str → (ExcName → Option Value) → (Str → Option Value) → (Str → Option Value) → Nat → Nat → Option (List Code) → Str → Scope → Addr → Value → List (Str × Addr) → List Env → Around → Heap → Heap → Addr → (Str → Option Value) → Shared → (Value → Shared → Prop) → (Value → Shared → Prop) → Prop}
    (h : P (pc P).1 (pc P).2.1 (pc P).2.2.1 (pc P).2.2.2.1 (pc P).2.2.2.2.1 (pc P).2.2.2.2.2.1 (pc P).2.2.2.2.2.2.1 (pc P).2.2.2.2.2.2.2.1 (pc P).2.2.2.2.2.2.2.2.1 (pc P).2.2.2.2.2.2.2.2.2.1 (pc P).2.2.2.2.2.2.2.2.2.2.1 (pc P).2.2.2.2.2.2.2.2.2.2.2.1 (pc P).2.2.2.2.2.2.2.2.2.2.2.2.1 (pc P).2.2.2.2.2.2.2.2.2.2.2.2.2.1 (pc P).2.2.2.2.2.2.2.2.2.2.2.2.2.2.1 (pc P).2.2.2.2.2.2.2.2.2.2.2.2.2.2.2.1 (pc P).2.2.2.2.2.2.2.2.2.2.2.2.2.2.2.2.1 (pc P).2.2.2.2.2.2.2.2.2.2.2.2.2.2.2.2.2.1 (pc P).2.2.2.2.2.2.2.2.2.2.2.2.2.2.2.2.2.2.1 (pc P).2.2.2.2.2.2.2.2.2.2.2.2.2.2.2.2.2.2.2.1 (pc P).2.2.2.2.2.2.2.2.2.2.2.2.2.2.2.2.2.2.2.2.1 (pc P).2.2.2.2.2.2.2.2.2.2.2.2.2.2.2.2.2.2.2.2.2) : PcAll P :=
  fun p loose mean mg mb dp un gd cn cs a ccd cl outer A₀ base h₀ L m s Q E => hen (fun (p, loose, mean, mg, mb, dp, un, gd, cn, cs, a, ccd, cl, outer, A₀, base, h₀, L, m, s, Q, E) => P p loose mean mg mb dp un gd cn cs a ccd cl outer A₀ base h₀ L m s Q E) pcNe h (p, loose, mean, mg, mb, dp, un, gd, cn, cs, a, ccd, cl, outer, A₀, base, h₀, L, m, s, Q, E)
end
-- FnE
section
section
theorem rowsFnE0 : True := by
  k_with_none
  k_with "hcOn" => skip
  k_with "hcN" => (first | exact ⟨default⟩ | exact ⟨{}⟩ | exact ⟨Mine.w0⟩ | exact ⟨[]⟩ | exact ⟨⟨default, default, default, default⟩⟩ | (refine Nonempty.intro ?_; constructor <;> first | exact default | exact {} | exact [] | exact #[]))
  k_with "hcI" => (refine (Mine.hc_all ?_ ((?_ : Mine.AllOf _) _) : Mine.AllOf _); k_extra "hcN")
  k_with "hcI2" => (((fail_if_success (fail_if_success (with_reducible refine (?_ : Mine.AllP2 _)))); refine (Mine.hc_all2 ?_ ?_ ((?_ : Mine.AllP2 _) _ _) : Mine.AllP2 _); k_extra "hcN"; k_extra "hcN"))
  k_with "hcI3" => (((fail_if_success (fail_if_success (with_reducible refine (?_ : Mine.AllP3 _)))); refine (Mine.hc_all3 ?_ ?_ ?_ ((?_ : Mine.AllP3 _) _ _ _) : Mine.AllP3 _); k_extra "hcN"; k_extra "hcN"; k_extra "hcN"))
  k_with "hcI4" => (((fail_if_success (fail_if_success (with_reducible refine (?_ : Mine.AllP4 _)))); refine (Mine.hc_all4 ?_ ?_ ?_ ?_ ((?_ : Mine.AllP4 _) _ _ _ _) : Mine.AllP4 _); k_extra "hcN"; k_extra "hcN"; k_extra "hcN"; k_extra "hcN"))
  k_with "hcX" => (first | (refine ((?_ : Mine.AndK hN _) (And.left hN) (And.right hN))) | (refine ((?_ : Mine.ExK hN _) _ (Mine.hc_ex ?_ hN)); rotate_left; k_extra "hcN") | (refine ((?_ : Mine.ExK hN _) default (Mine.hc_ex ?_ hN)); rotate_left; k_extra "hcN"))
  k_with "hcC" => (refine (Mine.pf hN).casesOn ?_; clear hN)
  k_with "k_fold" => skip
  k_with "mine enterG" => (refine' code_defG (by k_asm) (by k_asm) (by k_asm) (by k_asm) (by k_asm) (by exact rfl) (by exact rfl) (by assumption) (by k_is) (by k_is) (by ktr_room) (by first | exact BindsTo.of_eq rfl | exact binds_K (by k_in) rfl (by k_is) rfl rfl rfl) (by exact locs rfl) ?_ (by exact rfl) (by exact rfl) (by exact rfl) (by decide); k_whole; intro g' L' h' FG' F' N' B' X' T' G'; (try dsimp only); (try k_fold))
  k_with "exec For" => (k_here; k_dflt (refine' For_list (by k_asm) rfl ?_))
  trivial
set_option maxRecDepth 100000 in
set_option maxHeartbeats 8000000 in
theorem c_walk : ∀ {prog : Program} {w : World} (stk l1 l2 t0 : Addr) (n1 n2 n3 : Nat), QCall prog w 231 [.ref stk] 2 30 [(stk, W.listOf #[.ref l1, .ref l2] n3), (l1, W.listOf #[.ref t0] n1), (l2, W.listOf #[] n2)] fun H v h' => NewL H v h' fun vs => vs = [.ref t0] := by
  intro prog w stk l1 l2 t0 n1 n2 n3
  refine (pc_all ((?g : PcAll _) _ _ _ _ _ _ _ _ _ _ _ _ _ _ _ _ _ _ _ _ _ _) : PcAll _)
  intros p loose mean mg mb dp un gd cn cs a ccd cl outer A₀ base h₀ L m s Q E
  intro B F X N T hk hd hu hQ
  refine wpAny_call ?_
  k_dflt walk_at "mine enterG"
  k_steps
  rename_i l' h1 l1' h1b D h2 F2 N2 lt2
  refine ⟨D, [.ref l2, .ref l1], _, _, fun i m' news' => m' (Str.ofString "pairs") = some (.ref l') ∧ ∃ n, news' = (D, W.listOf #[Value.ref l2, Value.ref l1] 0) :: (l', W.listOf (if i < 2 then #[] else #[.ref t0]) n) :: [(stk, W.listOf #[.ref l1, .ref l2] n3), (l1, W.listOf #[.ref t0] n1), (l2, W.listOf #[] n2)], rfl, by assumption, by assumption, ⟨rfl, _, rfl⟩, ?_, ?_, ?_⟩
  · rintro i m' news' h' ⟨_, n, rfl⟩ F' N'
    exact ⟨_, (N' _ (.head _)).1, rfl, _, rfl⟩
  · rintro i v m₁ news₁ h₁ tk₁ I io hi ⟨e1, n, rfl⟩ hnI hIL F3 N3
    rw [canon1 e1] at F3
    generalize m₁ = u at F3
    have hI1 : @Ne Nat D I := hnI _ (.head _)
    have hI2 : @Ne Nat l' I := hnI _ (.tail _ (.head _))
    have hI3 : @Ne Nat stk I := hnI _ (.tail _ (.tail _ (.head _)))
    have hI4 : @Ne Nat l1 I := hnI _ (.tail _ (.tail _ (.tail _ (.head _))))
    have hI5 : @Ne Nat l2 I := hnI _ (.tail _ (.tail _ (.tail _ (.tail _ (.head _)))))
    match i, hi with
    | 0, hi =>
      cases hi
      simp only [Nat.zero_lt_succ, if_true] at N3
      k_steps
      refine ⟨_, _, _, _, rfl, by assumption, by assumption, ?_, rfl, _, rfl⟩
      intro p hp
      exact hnI p (by simpa using hp)
    | 1, hi =>
      cases hi
      simp only [Nat.lt_succ_self, if_true] at N3
      k_steps
      refine ⟨_, _, _, _, rfl, by assumption, by assumption, ?_, rfl, _, rfl⟩
      intro p hp
      simp only [List.mem_cons, List.not_mem_nil, or_false] at hp
      rcases hp with rfl | rfl | rfl | rfl | rfl <;> (dsimp only; assumption)
  · intro h' tk m' news' F' N' hJ
    obtain ⟨e1, n, rfl⟩ := hJ
    rw [canon1 e1] at F'
    generalize m' = u at F'
    k_steps
    refine hQ _ _ _ (stays_of N (by assumption) (by assumption) (by assumption) ?_) (newQ (by assumption) (by assumption) (by k_mem) ?_ ?_)
    · exact fun p hp => List.mem_cons_of_mem _ (List.mem_cons_of_mem _ hp)
    · exact ⟨Nat.ne_of_lt l1'.1, Nat.ne_of_lt l1'.2.1, Nat.ne_of_lt l1'.2.2, trivial⟩
    · rfl
end
end
-- Wr2
section
noncomputable abbrev wEnt (w : World) (n : Str) (t : Tok) (v : Value) : DictEntry := { hash := PyData.keyHash w.params n, key := Value.str n t, val := v }
/-- the writer's own names -/
structure WSt where
  a : Addr
  dl : Addr
  ex : Value
  dst : Addr
  nst : Addr
  pm : Addr
  ps : Addr
  rs : Value
  rd : Value
  ig : Value
  t : Nat → Tok
  k : Nat
noncomputable abbrev wDict (w : World) (S : WSt) : Obj := dictOf [wEnt w "_write" (S.t 0) (.ref S.a), wEnt w "_data" (S.t 1) (.ref S.dl), wEnt w "_with_comments" (S.t 2) (.bool false), wEnt w "_strip_text" (S.t 3) (.bool false), wEnt w "_exclude_attrs" (S.t 4) S.ex,
  wEnt w "_exclude_tags" (S.t 5) .none, wEnt w "_rewrite_prefixes" (S.t 6) (.bool false), wEnt w "_qname_aware_tags" (S.t 7) .none, wEnt w "_find_qname_aware_attrs" (S.t 8) .none, wEnt w "_declared_ns_stack" (S.t 9) (.ref S.dst),
  wEnt w "_ns_stack" (S.t 10) (.ref S.nst), wEnt w "_prefix_map" (S.t 11) (.ref S.pm), wEnt w "_preserve_space" (S.t 12) (.ref S.ps), wEnt w "_pending_start" (S.t 13) .none, wEnt w "_root_seen" (S.t 14) S.rs,
  wEnt w "_root_done" (S.t 15) S.rd, wEnt w "_ignored_depth" (S.t 16) S.ig, wEnt w "_iter_namespaces" (S.t 17) (.ref 231)] S.k

/-- as QCall, for the code of the call -/
noncomputable def QCode (prog : Program) (w : World) (f : Addr) (vs : List Value) (dN uN : Nat) (sub : List (Addr × Obj)) (P : Heap → Value → Heap → Prop) : Prop :=
  ∀ (p : Program) (loose : List Str) (mean : ExcName → Option Value) (mg mb : Str → Option Value) (dp un : Nat) (gd : Option (List Code)) (cn : Str) (cs : Scope) (a : Addr) (ccd : Value) (cl : List (Str × Addr)) (outer : List Env) (A₀ : Around) (base h₀ : Heap) (L : Addr) (m : Str → Option Value) (s : Shared) (Q E : Value → Shared → Prop),
    Below A₀ base outer h₀ → Fr h₀ L s.heap m → (hd.heap_39 w.params).In h₀ → News h₀ L s.heap sub → Top p loose mean mg mb h₀ → cs.kind = .function → dp + dN < recursionLimit → un + uN < cLine →
    (∀ v h' tk', s.heap.StaysIn h' → P s.heap v h' → Q v { s with heap := h', toks := tk' }) →
    codeAny (model prog w) (ktrTop dp un gd cn cs L a ccd cl outer) (.call (.ref f) ⟨vs, []⟩) (fun r s' => match r with | .ok (.ret v) => Q v s' | .ok _ => False | .error e => E e s') s
theorem QCode.call {prog : Program} {w : World} {f : Addr} {vs : List Value} {dN uN : Nat} {sub : List (Addr × Obj)} {P : Heap → Value → Heap → Prop} (C : QCode prog w f vs dN uN sub P) : QCall prog w f vs dN uN sub P :=
  fun p loose mean mg mb dp un gd cn cs a ccd cl outer A₀ base h₀ L m s Q E B F X N T hk hd hu hQ => wpAny_call (C p loose mean mg mb dp un gd cn cs a ccd cl outer A₀ base h₀ L m s Q E B F X N T hk hd hu hQ)
section
variable {prog : Program} {w : World} {s : Shared} {L : Addr} {h₀ base : Heap} {m mg mb : Str → Option Value} {p : Program} {loose : List Str} {mean : ExcName → Option Value} {news sub : List (Addr × Obj)} {Q E : Value → Shared → Prop}
/-- a bound method called -/
theorem use_qc {f qm : Addr} {self : Value} {vs : List Value} {dN uN : Nat} {P : Heap → Value → Heap → Prop} (C : QCode prog w f (self :: vs) dN uN sub P)
    {dp un : Nat} {gd : Option (List Code)} {cn : Str} {cs : Scope} {a : Addr} {ccd : Value} {cl : List (Str × Addr)} {outer : List Env} {A₀ : Around}
    (B : Below A₀ base outer h₀) (F : Fr h₀ L s.heap m) (X : (hd.heap_39 w.params).In h₀) (N : News h₀ L s.heap news) (T : Top p loose mean mg mb h₀) (hk : cs.kind = .function) (hd' : dp + dN < recursionLimit) (hu : un + uN < cLine) (hs : SubL sub news) (hm : (qm, methodObj (.ref f) self) ∈ news)
    (h : ∀ v h' tk', s.heap.StaysIn h' → P s.heap v h' → Fr h₀ L h' m → News h₀ L h' news → Q v { s with heap := h', toks := tk' }) :
    wpAny (model prog w) (ktrTop dp un gd cn cs L a ccd cl outer) (call (.ref qm) vs) Q E s :=
  call_meth N hm (C p loose mean mg mb dp un gd cn cs a ccd cl outer A₀ base h₀ L m s Q E B F X (fun q hq => N q (subL_mem hs q hq)) T hk hd' hu fun v h' tk' st pv =>
    h v h' tk' st pv ⟨F.ns.at' fun o e => st _ o e, fun b o e => st b o (F.keep b o e), F.above⟩ fun q hq => ⟨st _ _ (N q hq).1, (N q hq).2⟩)
end
noncomputable abbrev subW (w : World) (x d l1 l2 t0 : Addr) (S : WSt) (n1 n2 n3 nt : Nat) (u u' : Tok) : List (Addr × Obj) :=
  [(S.dst, W.listOf #[.ref l1, .ref l2] n3), (l1, W.listOf #[.ref t0] n1), (l2, W.listOf #[] n2), (t0, { cls := .type "tuple", data := .seq #[.str "http://www.w3.org/XML/1998/namespace" u, .str "xml" u'] nt }), (x, instObj 175 d), (d, wDict w S)]
section
theorem rowsWr20 : True := by
  k_with_none
  k_with "hcOn" => skip
  k_with "hcN" => (first | exact ⟨default⟩ | exact ⟨{}⟩ | exact ⟨Mine.w0⟩ | exact ⟨[]⟩ | exact ⟨⟨default, default, default, default⟩⟩ | (refine Nonempty.intro ?_; constructor <;> first | exact default | exact {} | exact [] | exact #[]))
  k_with "hcI" => (refine (Mine.hc_all ?_ ((?_ : Mine.AllOf _) _) : Mine.AllOf _); k_extra "hcN")
  k_with "hcI2" => (((fail_if_success (fail_if_success (with_reducible refine (?_ : Mine.AllP2 _)))); refine (Mine.hc_all2 ?_ ?_ ((?_ : Mine.AllP2 _) _ _) : Mine.AllP2 _); k_extra "hcN"; k_extra "hcN"))
  k_with "hcI3" => (((fail_if_success (fail_if_success (with_reducible refine (?_ : Mine.AllP3 _)))); refine (Mine.hc_all3 ?_ ?_ ?_ ((?_ : Mine.AllP3 _) _ _ _) : Mine.AllP3 _); k_extra "hcN"; k_extra "hcN"; k_extra "hcN"))
  k_with "hcI4" => (((fail_if_success (fail_if_success (with_reducible refine (?_ : Mine.AllP4 _)))); refine (Mine.hc_all4 ?_ ?_ ?_ ?_ ((?_ : Mine.AllP4 _) _ _ _ _) : Mine.AllP4 _); k_extra "hcN"; k_extra "hcN"; k_extra "hcN"; k_extra "hcN"))
  k_with "hcX" => (first | (refine ((?_ : Mine.AndK hN _) (And.left hN) (And.right hN))) | (refine ((?_ : Mine.ExK hN _) _ (Mine.hc_ex ?_ hN)); rotate_left; k_extra "hcN") | (refine ((?_ : Mine.ExK hN _) default (Mine.hc_ex ?_ hN)); rotate_left; k_extra "hcN"))
  k_with "hcC" => (refine (Mine.pf hN).casesOn ?_; clear hN)
  k_with "k_fold" => skip
  k_with "mine enterG" => (refine' code_defG (by k_asm) (by k_asm) (by k_asm) (by k_asm) (by k_asm) (by exact rfl) (by exact rfl) (by assumption) (by k_is) (by k_is) (by ktr_room) (by first | exact BindsTo.of_eq rfl | exact binds_K (by k_in) rfl (by k_is) rfl rfl rfl) (by exact locs rfl) ?_ (by exact rfl) (by exact rfl) (by exact rfl) (by decide); k_whole; intro _ _ _ _ _ _ _ _ _ _; (try dsimp only))
  k_with "exec For" => (k_here; k_dflt (refine' For_list (by k_asm) rfl ?_))
  k_with "getMethod ref" => (k_here; (with_reducible show wpAny _ _ (getMethod (Value.ref _) (PySem.Str.ofString "_iter_namespaces") _) _ _ _); k_dflt (refine' method_own (by k_asm) (by k_asm) (by k_inst) (by k_is) (by k_is) (by k_is) (by k_is) (by k_is) (by k_is) (by k_get) (by k_handed) ?_; k_whole))
  k_with "call ref" => (k_here; (with_reducible show wpAny _ _ (call (Value.ref 231) _) _ _ _); k_dflt (refine' use_qL (c_walk _ _ _ _ _ _ _) (by k_asm) (by k_asm) (by k_asm) (by k_asm) (by k_asm) (by exact rfl) (by ktr_room) (by ktr_units) (by exact ⟨by k_mem, by k_mem, by k_mem, trivial⟩) ?_; k_whole; intro _ _ _ _ _ _ rwPq _ _ rwl1 _; (try simp only [AllNe, and_true] at rwl1); subst rwPq; (try k_sweep)))
  trivial
namespace Hc_qnameC
noncomputable abbrev hTy := Program × World × Addr × Addr × Addr × Addr × Addr × Nat × Nat × Nat × Nat × Tok × Tok × Tok × Program × List Str × (ExcName → Option Value) × (Str → Option Value) × (Str → Option Value) × Nat × Nat × Option (List Code) × Str × Scope × Addr × Value × (List (Str × Addr)) × List Env × Around × Heap × Heap × Addr × (Str → Option Value) × Shared × (Value → Shared → Prop) × (Value → Shared → Prop)
noncomputable def hSt (c : hTy) : Prop := (fun (prog : Program) (w : World) (x : Addr) (d : Addr) (l1 : Addr) (l2 : Addr) (t0 : Addr) (n1 : Nat) (n2 : Nat) (n3 : Nat) (nt : Nat) (u : Tok) (u' : Tok) (tx : Tok) (p : Program) (loose : List Str) (mean : ExcName → Option Value) (mg : Str → Option Value) (mb : Str → Option Value) (dp : Nat) (un : Nat) (gd : Option (List Code)) (cn : Str) (cs : Scope) (a : Addr) (ccd : Value) (cl : List (Str × Addr)) (outer : List Env) (A₀ : Around) (base : Heap) (h₀ : Heap) (L : Addr) (m : Str → Option Value) (s : Shared) (Q : Value → Shared → Prop) (E : Value → Shared → Prop) => ∀ (S : WSt) (tag : Str) (htl : tag.length ≤ 100) (ht0 : 1 ≤ tag.length) (hb : (Txt.slice tag none (some 1) == "{") = false), (QCodeAt p loose mean mg mb dp un gd cn cs a ccd cl outer A₀ base h₀ L m s Q E prog w 115 [.ref x, .str tag tx] 3 40 (subW w x d l1 l2 t0 S n1 n2 n3 nt u u') fun H v h' => ∃ q a b c n, v = .ref q ∧ H.get? q = none ∧ h'.get? q = some { cls := .type "tuple", data := .seq #[.str tag a, .str tag b, .str "" c] n } : Prop)) c.1 c.2.1 c.2.2.1 c.2.2.2.1 c.2.2.2.2.1 c.2.2.2.2.2.1 c.2.2.2.2.2.2.1 c.2.2.2.2.2.2.2.1 c.2.2.2.2.2.2.2.2.1 c.2.2.2.2.2.2.2.2.2.1 c.2.2.2.2.2.2.2.2.2.2.1 c.2.2.2.2.2.2.2.2.2.2.2.1 c.2.2.2.2.2.2.2.2.2.2.2.2.1 c.2.2.2.2.2.2.2.2.2.2.2.2.2.1 c.2.2.2.2.2.2.2.2.2.2.2.2.2.2.1 c.2.2.2.2.2.2.2.2.2.2.2.2.2.2.2.1 c.2.2.2.2.2.2.2.2.2.2.2.2.2.2.2.2.1 c.2.2.2.2.2.2.2.2.2.2.2.2.2.2.2.2.2.1 c.2.2.2.2.2.2.2.2.2.2.2.2.2.2.2.2.2.2.1 c.2.2.2.2.2.2.2.2.2.2.2.2.2.2.2.2.2.2.2.1 c.2.2.2.2.2.2.2.2.2.2.2.2.2.2.2.2.2.2.2.2.1 c.2.2.2.2.2.2.2.2.2.2.2.2.2.2.2.2.2.2.2.2.2.1 c.2.2.2.2.2.2.2.2.2.2.2.2.2.2.2.2.2.2.2.2.2.2.1 c.2.2.2.2.2.2.2.2.2.2.2.2.2.2.2.2.2.2.2.2.2.2.2.1 c.2.2.2.2.2.2.2.2.2.2.2.2.2.2.2.2.2.2.2.2.2.2.2.2.1 c.2.2.2.2.2.2.2.2.2.2.2.2.2.2.2.2.2.2.2.2.2.2.2.2.2.1 c.2.2.2.2.2.2.2.2.2.2.2.2.2.2.2.2.2.2.2.2.2.2.2.2.2.2.1 c.2.2.2.2.2.2.2.2.2.2.2.2.2.2.2.2.2.2.2.2.2.2.2.2.2.2.2.1 c.2.2.2.2.2.2.2.2.2.2.2.2.2.2.2.2.2.2.2.2.2.2.2.2.2.2.2.2.1 c.2.2.2.2.2.2.2.2.2.2.2.2.2.2.2.2.2.2.2.2.2.2.2.2.2.2.2.2.2.1 c.2.2.2.2.2.2.2.2.2.2.2.2.2.2.2.2.2.2.2.2.2.2.2.2.2.2.2.2.2.2.1 c.2.2.2.2.2.2.2.2.2.2.2.2.2.2.2.2.2.2.2.2.2.2.2.2.2.2.2.2.2.2.2.1 c.2.2.2.2.2.2.2.2.2.2.2.2.2.2.2.2.2.2.2.2.2.2.2.2.2.2.2.2.2.2.2.2.1 c.2.2.2.2.2.2.2.2.2.2.2.2.2.2.2.2.2.2.2.2.2.2.2.2.2.2.2.2.2.2.2.2.2.1 c.2.2.2.2.2.2.2.2.2.2.2.2.2.2.2.2.2.2.2.2.2.2.2.2.2.2.2.2.2.2.2.2.2.2.1 c.2.2.2.2.2.2.2.2.2.2.2.2.2.2.2.2.2.2.2.2.2.2.2.2.2.2.2.2.2.2.2.2.2.2.2
theorem hNe : Nonempty hTy := ⟨default, w0, (0 : Nat), (0 : Nat), (0 : Nat), (0 : Nat), (0 : Nat), 0, 0, 0, 0, (0 : Nat), (0 : Nat), (0 : Nat), default, [], (fun _ => none), (fun _ => none), (fun _ => none), 0, 0, none, Str.empty, default, (0 : Nat), default, [], [], {}, default, default, (0 : Nat), (fun _ => none), {}, (fun _ => (fun _ => False)), (fun _ => (fun _ => False))⟩
noncomputable def hCc : hTy := @Classical.epsilon hTy hNe fun x => ¬ hSt x
@[irreducible] noncomputable def prog : Program := hCc.1
@[irreducible] noncomputable def w : World := hCc.2.1
@[irreducible] noncomputable def x : Addr := hCc.2.2.1
@[irreducible] noncomputable def d : Addr := hCc.2.2.2.1
@[irreducible] noncomputable def l1 : Addr := hCc.2.2.2.2.1
@[irreducible] noncomputable def l2 : Addr := hCc.2.2.2.2.2.1
@[irreducible] noncomputable def t0 : Addr := hCc.2.2.2.2.2.2.1
@[irreducible] noncomputable def n1 : Nat := hCc.2.2.2.2.2.2.2.1
@[irreducible] noncomputable def n2 : Nat := hCc.2.2.2.2.2.2.2.2.1
@[irreducible] noncomputable def n3 : Nat := hCc.2.2.2.2.2.2.2.2.2.1
@[irreducible] noncomputable def nt : Nat := hCc.2.2.2.2.2.2.2.2.2.2.1
@[irreducible] noncomputable def u : Tok := hCc.2.2.2.2.2.2.2.2.2.2.2.1
@[irreducible] noncomputable def u' : Tok := hCc.2.2.2.2.2.2.2.2.2.2.2.2.1
@[irreducible] noncomputable def tx : Tok := hCc.2.2.2.2.2.2.2.2.2.2.2.2.2.1
@[irreducible] noncomputable def p : Program := hCc.2.2.2.2.2.2.2.2.2.2.2.2.2.2.1
@[irreducible] noncomputable def loose : List Str := hCc.2.2.2.2.2.2.2.2.2.2.2.2.2.2.2.1
@[irreducible] noncomputable def mean : ExcName → Option Value := hCc.2.2.2.2.2.2.2.2.2.2.2.2.2.2.2.2.1
@[irreducible] noncomputable def mg : Str → Option Value := hCc.2.2.2.2.2.2.2.2.2.2.2.2.2.2.2.2.2.1
@[irreducible] noncomputable def mb : Str → Option Value := hCc.2.2.2.2.2.2.2.2.2.2.2.2.2.2.2.2.2.2.1
@[irreducible] noncomputable def dp : Nat := hCc.2.2.2.2.2.2.2.2.2.2.2.2.2.2.2.2.2.2.2.1
@[irreducible] noncomputable def un : Nat := hCc.2.2.2.2.2.2.2.2.2.2.2.2.2.2.2.2.2.2.2.2.1
@[irreducible] noncomputable def gd : Option (List Code) := hCc.2.2.2.2.2.2.2.2.2.2.2.2.2.2.2.2.2.2.2.2.2.1
@[irreducible] noncomputable def cn : Str := hCc.2.2.2.2.2.2.2.2.2.2.2.2.2.2.2.2.2.2.2.2.2.2.1
@[irreducible] noncomputable def cs : Scope := hCc.2.2.2.2.2.2.2.2.2.2.2.2.2.2.2.2.2.2.2.2.2.2.2.1
@[irreducible] noncomputable def a : Addr := hCc.2.2.2.2.2.2.2.2.2.2.2.2.2.2.2.2.2.2.2.2.2.2.2.2.1
@[irreducible] noncomputable def ccd : Value := hCc.2.2.2.2.2.2.2.2.2.2.2.2.2.2.2.2.2.2.2.2.2.2.2.2.2.1
@[irreducible] noncomputable def cl : List (Str × Addr) := hCc.2.2.2.2.2.2.2.2.2.2.2.2.2.2.2.2.2.2.2.2.2.2.2.2.2.2.1
@[irreducible] noncomputable def outer : List Env := hCc.2.2.2.2.2.2.2.2.2.2.2.2.2.2.2.2.2.2.2.2.2.2.2.2.2.2.2.1
@[irreducible] noncomputable def A₀ : Around := hCc.2.2.2.2.2.2.2.2.2.2.2.2.2.2.2.2.2.2.2.2.2.2.2.2.2.2.2.2.1
@[irreducible] noncomputable def base : Heap := hCc.2.2.2.2.2.2.2.2.2.2.2.2.2.2.2.2.2.2.2.2.2.2.2.2.2.2.2.2.2.1
@[irreducible] noncomputable def h₀ : Heap := hCc.2.2.2.2.2.2.2.2.2.2.2.2.2.2.2.2.2.2.2.2.2.2.2.2.2.2.2.2.2.2.1
@[irreducible] noncomputable def L : Addr := hCc.2.2.2.2.2.2.2.2.2.2.2.2.2.2.2.2.2.2.2.2.2.2.2.2.2.2.2.2.2.2.2.1
@[irreducible] noncomputable def m : Str → Option Value := hCc.2.2.2.2.2.2.2.2.2.2.2.2.2.2.2.2.2.2.2.2.2.2.2.2.2.2.2.2.2.2.2.2.1
@[irreducible] noncomputable def s : Shared := hCc.2.2.2.2.2.2.2.2.2.2.2.2.2.2.2.2.2.2.2.2.2.2.2.2.2.2.2.2.2.2.2.2.2.1
@[irreducible] noncomputable def Q : Value → Shared → Prop := hCc.2.2.2.2.2.2.2.2.2.2.2.2.2.2.2.2.2.2.2.2.2.2.2.2.2.2.2.2.2.2.2.2.2.2.1
@[irreducible] noncomputable def E : Value → Shared → Prop := hCc.2.2.2.2.2.2.2.2.2.2.2.2.2.2.2.2.2.2.2.2.2.2.2.2.2.2.2.2.2.2.2.2.2.2.2
set_option maxRecDepth 100000 in
set_option maxHeartbeats 8000000 in
theorem hMain : ∀ (S : WSt) (tag : Str) (htl : tag.length ≤ 100) (ht0 : 1 ≤ tag.length) (hb : (Txt.slice tag none (some 1) == "{") = false), QCodeAt p loose mean mg mb dp un gd cn cs a ccd cl outer A₀ base h₀ L m s Q E prog w 115 [.ref x, .str tag tx] 3 40 (subW w x d l1 l2 t0 S n1 n2 n3 nt u u') fun H v h' => ∃ q a b c n, v = .ref q ∧ H.get? q = none ∧ h'.get? q = some { cls := .type "tuple", data := .seq #[.str tag a, .str tag b, .str "" c] n } := by
  intro S tag htl ht0 hb
  intro B F X N T hk hd hu hQ
  unfold subW at N
  k_dflt walk_at "mine enterG"
  k_steps
  rename_i D h1 ld1 h2 h3 h4 d2 h5 led hsi hss ld2 h6 l n h7 tk7 st F2 neL N2
  refine ⟨l, [.ref t0], _, _, fun i m' news' => m' (Str.ofString "prefixes_seen") = some (.ref d2) ∧ m' (Str.ofString "tag") = some (.str tag tx) ∧ (∃ tu, m' (Str.ofString "uri") = some (.str "" tu)) ∧ m' (Str.ofString "self") = some (.ref x) ∧
    ∃ td, (i = 0 ∧ news' = [(l, W.listOf #[Value.ref t0] n), (d2, { cls := Value.type "set", data := Data.set #[] 0 (SetTable.fresh 0 0 led) }), (D, { cls := Value.type "tuple", data := Data.seq #[Value.str "" td, Value.str tag tx] }), (S.dst, W.listOf #[Value.ref l1, Value.ref l2] n3), (l1, W.listOf #[Value.ref t0] n1), (l2, W.listOf #[] n2), (t0, { cls := Value.type "tuple", data := Data.seq #[Value.str "http://www.w3.org/XML/1998/namespace" u, Value.str "xml" u'] nt }), (x, instObj 175 d), (d, wDict w S)]) ∨ (i = 1 ∧ ∃ o mem z, Obj.SetObjOf (PySem.strKind prog w) o mem z ∧ mem "" = false ∧ z ≤ 1 ∧ news' = [(l, W.listOf #[Value.ref t0] n), (d2, o), (D, { cls := Value.type "tuple", data := Data.seq #[Value.str "" td, Value.str tag tx] }), (S.dst, W.listOf #[Value.ref l1, Value.ref l2] n3), (l1, W.listOf #[Value.ref t0] n1), (l2, W.listOf #[] n2), (t0, { cls := Value.type "tuple", data := Data.seq #[Value.str "http://www.w3.org/XML/1998/namespace" u, Value.str "xml" u'] nt }), (x, instObj 175 d), (d, wDict w S)]),
    rfl, F2, N2, ⟨rfl, rfl, ⟨_, rfl⟩, rfl, _, .inl ⟨rfl, rfl⟩⟩, ?_, ?_, ?_⟩
  · rintro i m' news' h' ⟨_, _, _, _, td, ⟨_, rfl⟩ | ⟨_, o, mem, z, _, _, _, rfl⟩⟩ F' N'
    · exact ⟨_, (N' _ (.head _)).1, rfl, _, rfl⟩
    · exact ⟨_, (N' _ (.head _)).1, rfl, _, rfl⟩
  · rintro i v m₁ news₁ h₁ tk₁ I io hi ⟨e1, e2, ⟨tu, e3⟩, e4, td, hJ⟩ hnI hIL F3 N3
    rcases hJ with ⟨rfl, rfl⟩ | ⟨rfl, _⟩
    rotate_left
    · cases hi
    rw [canon1 e1] at F3
    rw [canon3 e2 e3 e4] at F3
    generalize m₁ = um at F3
    have hI1 : @Ne Nat l I := hnI _ (.head _)
    have hI2 : @Ne Nat d2 I := hnI _ (.tail _ (.head _))
    have hI3 : @Ne Nat D I := hnI _ (.tail _ (.tail _ (.head _)))
    have hI4 : @Ne Nat S.dst I := hnI _ (.tail _ (.tail _ (.tail _ (.head _))))
    have hI5 : @Ne Nat l1 I := hnI _ (.tail _ (.tail _ (.tail _ (.tail _ (.head _)))))
    have hI6 : @Ne Nat l2 I := hnI _ (.tail _ (.tail _ (.tail _ (.tail _ (.tail _ (.head _))))))
    have hI7 : @Ne Nat t0 I := hnI _ (.tail _ (.tail _ (.tail _ (.tail _ (.tail _ (.tail _ (.head _)))))))
    have hI8 : @Ne Nat x I := hnI _ (.tail _ (.tail _ (.tail _ (.tail _ (.tail _ (.tail _ (.tail _ (.head _))))))))
    have hI9 : @Ne Nat d I := hnI _ (.tail _ (.tail _ (.tail _ (.tail _ (.tail _ (.tail _ (.tail _ (.tail _ (.head _)))))))))
    cases hi
    k_steps
    refine ⟨_, _, _, _, rfl, by assumption, by assumption, ?_, rfl, rfl, ⟨_, rfl⟩, rfl, td, ?_⟩
    rotate_left
    · exact .inr ⟨by trivial, _, _, _, by assumption, by decide, by decide, rfl⟩
    intro p hp
    simp only [List.mem_cons, List.not_mem_nil, or_false] at hp
    rcases hp with rfl | rfl | rfl | rfl | rfl | rfl | rfl | rfl | rfl <;> (dsimp only; assumption)
  · intro h' tk' m' news' F' N' hJ
    obtain ⟨e1, e2, ⟨tu, e3⟩, e4, td, hJ⟩ := hJ
    rcases hJ with ⟨h0, _⟩ | ⟨_, o, mem, z, hso, hm0, hz, rfl⟩
    · cases h0
    rw [canon1 e1] at F'
    rw [canon3 e2 e3 e4] at F'
    generalize m' = um at F'
    k_steps
    refine hQ _ _ _ (stays_of N (by assumption) (by assumption) (by assumption) ?_) ⟨_, _, _, _, _, rfl, fresh_of (by assumption) (by assumption) (.head _) ?_, News.get (by assumption) (.head _)⟩
    · exact fun p hp => List.mem_cons_of_mem _ (List.mem_cons_of_mem _ (List.mem_cons_of_mem _ (List.mem_cons_of_mem _ hp)))
    · simp only [AllNe, and_true]; omega
end Hc_qnameC
theorem c_qnameC {prog : Program} {w : World} (x d l1 l2 t0 : Addr) (S : WSt) (n1 n2 n3 nt : Nat) (u u' : Tok) (tag : Str) (tx : Tok) (htl : tag.length ≤ 100) (ht0 : 1 ≤ tag.length) (hb : (Txt.slice tag none (some 1) == "{") = false) : QCode prog w 115 [.ref x, .str tag tx] 3 40 (subW w x d l1 l2 t0 S n1 n2 n3 nt u u') fun H v h' => ∃ q a b c n, v = .ref q ∧ H.get? q = none ∧ h'.get? q = some { cls := .type "tuple", data := .seq #[.str tag a, .str tag b, .str "" c] n } := fun p loose mean mg mb dp un gd cn cs a ccd cl outer A₀ base h₀ L m s Q E => hen Hc_qnameC.hSt Hc_qnameC.hNe (by with_unfolding_all exact Hc_qnameC.hMain) (prog, w, x, d, l1, l2, t0, n1, n2, n3, nt, u, u', tx, p, loose, mean, mg, mb, dp, un, gd, cn, cs, a, ccd, cl, outer, A₀, base, h₀, L, m, s, Q, E) S tag htl ht0 hb
theorem c_qname {prog : Program} {w : World} (x d l1 l2 t0 : Addr) (S : WSt) (n1 n2 n3 nt : Nat) (u u' : Tok) (tag : Str) (tx : Tok) (htl : tag.length ≤ 100) (ht0 : 1 ≤ tag.length) (hb : (Txt.slice tag none (some 1) == "{") = false) :
    QCall prog w 115 [.ref x, .str tag tx] 3 40 (subW w x d l1 l2 t0 S n1 n2 n3 nt u u') fun H v h' => ∃ q a b c n, v = .ref q ∧ H.get? q = none ∧ h'.get? q = some { cls := .type "tuple", data := .seq #[.str tag a, .str tag b, .str "" c] n } :=
  (c_qnameC x d l1 l2 t0 S n1 n2 n3 nt u u' tag tx htl ht0 hb).call
end
end
-- FnB
section
noncomputable abbrev noOcc (x : Str) (y : Str) : Prop := (Builtin.Str.occurrences x y 0 x.length 1).isEmpty = true
section
theorem rowsFnB0 : True := by
  k_with_none
  k_with "hcOn" => skip
  k_with "hcN" => (first | exact ⟨default⟩ | exact ⟨{}⟩ | exact ⟨Mine.w0⟩ | exact ⟨[]⟩ | exact ⟨⟨default, default, default, default⟩⟩ | (refine Nonempty.intro ?_; constructor <;> first | exact default | exact {} | exact [] | exact #[]))
  k_with "hcI" => (refine (Mine.hc_all ?_ ((?_ : Mine.AllOf _) _) : Mine.AllOf _); k_extra "hcN")
  k_with "hcI2" => (((fail_if_success (fail_if_success (with_reducible refine (?_ : Mine.AllP2 _)))); refine (Mine.hc_all2 ?_ ?_ ((?_ : Mine.AllP2 _) _ _) : Mine.AllP2 _); k_extra "hcN"; k_extra "hcN"))
  k_with "hcI3" => (((fail_if_success (fail_if_success (with_reducible refine (?_ : Mine.AllP3 _)))); refine (Mine.hc_all3 ?_ ?_ ?_ ((?_ : Mine.AllP3 _) _ _ _) : Mine.AllP3 _); k_extra "hcN"; k_extra "hcN"; k_extra "hcN"))
  k_with "hcI4" => (((fail_if_success (fail_if_success (with_reducible refine (?_ : Mine.AllP4 _)))); refine (Mine.hc_all4 ?_ ?_ ?_ ?_ ((?_ : Mine.AllP4 _) _ _ _ _) : Mine.AllP4 _); k_extra "hcN"; k_extra "hcN"; k_extra "hcN"; k_extra "hcN"))
  k_with "hcX" => (first | (refine ((?_ : Mine.AndK hN _) (And.left hN) (And.right hN))) | (refine ((?_ : Mine.ExK hN _) _ (Mine.hc_ex ?_ hN)); rotate_left; k_extra "hcN") | (refine ((?_ : Mine.ExK hN _) default (Mine.hc_ex ?_ hN)); rotate_left; k_extra "hcN"))
  k_with "hcC" => (refine (Mine.pf hN).casesOn ?_; clear hN)
  k_with "k_fold" => skip
  k_with "mine enter" => (refine' code_pure (by k_asm) (by k_asm) (by k_asm) (by k_asm) (by exact rfl) (by exact rfl) (by assumption) (by k_is) (by k_is) (by ktr_room) (by exact BindsTo.of_eq rfl) (by exact locs rfl) ?_ (by exact rfl) (by exact rfl) (by exact rfl) (by decide); k_whole; intro L' h' F' N' B' X' T'; (try dsimp only))
  k_with "execs cons" => ((with_reducible refine wpAny_execs_cons ?_); try dsimp only)
  trivial
set_option maxRecDepth 100000 in
set_option maxHeartbeats 8000000 in
theorem c_esc0 : ∀ {prog : Program} {w : World} (x : Str) (tx : Tok) (g0 : noOcc x "&") (g1 : noOcc x "<") (g2 : noOcc x "\"") (g3 : noOcc x "\t") (g4 : noOcc x "\n") (g5 : noOcc x "\x0d"), PCall prog w 193 [.str x tx] 1 8 (fun _ => True) fun _ v _ => ∃ t, v = .str x t := by
  intro prog w x tx g0 g1 g2 g3 g4 g5
  refine (pc_all ((?g : PcAll _) _ _ _ _ _ _ _ _ _ _ _ _ _ _ _ _ _ _ _ _ _ _) : PcAll _)
  intros p loose mean mg mb dp un gd cn cs a ccd cl outer A₀ base h₀ L m s Q E
  intro B F X T hk hd hu hH hQ
  refine wpAny_call ?_
  walk_at "mine enter"
  unfold noOcc at *
  k_steps
  exact hQ _ _ _ (fun b o e => Fr.keep (by assumption) b o e) ⟨_, rfl⟩
set_option maxRecDepth 100000 in
set_option maxHeartbeats 8000000 in
theorem c_esc1 : ∀ {prog : Program} {w : World} (x : Str) (tx : Tok) (hx : x.length ≤ 3) (h1 : (Builtin.Str.occurrences x "&" 0 x.length 1).isEmpty = false) (g1 : noOcc (Txt.replace x "&" "&amp;") "<") (g2 : noOcc (Txt.replace x "&" "&amp;") "\"") (g3 : noOcc (Txt.replace x "&" "&amp;") "\t") (g4 : noOcc (Txt.replace x "&" "&amp;") "\n") (g5 : noOcc (Txt.replace x "&" "&amp;") "\x0d"), PCall prog w 193 [.str x tx] 1 8 (fun _ => True) fun _ v _ => ∃ t, v = .str (Txt.replace x "&" "&amp;") t := by
  intro prog w x tx hx h1 g1 g2 g3 g4 g5
  refine (pc_all ((?g : PcAll _) _ _ _ _ _ _ _ _ _ _ _ _ _ _ _ _ _ _ _ _ _ _) : PcAll _)
  intros p loose mean mg mb dp un gd cn cs a ccd cl outer A₀ base h₀ L m s Q E
  intro B F X T hk hd hu hH hQ
  refine wpAny_call ?_
  walk_at "mine enter"
  unfold noOcc at *
  k_steps
  exact hQ _ _ _ (fun b o e => Fr.keep (by assumption) b o e) ⟨_, rfl⟩
set_option maxRecDepth 100000 in
set_option maxHeartbeats 8000000 in
theorem c_esc2 : ∀ {prog : Program} {w : World} (x : Str) (tx : Tok) (hx : x.length ≤ 3) (g0 : noOcc x "&") (h1 : (Builtin.Str.occurrences x "<" 0 x.length 1).isEmpty = false) (g2 : noOcc (Txt.replace x "<" "&lt;") "\"") (g3 : noOcc (Txt.replace x "<" "&lt;") "\t") (g4 : noOcc (Txt.replace x "<" "&lt;") "\n") (g5 : noOcc (Txt.replace x "<" "&lt;") "\x0d"), PCall prog w 193 [.str x tx] 1 8 (fun _ => True) fun _ v _ => ∃ t, v = .str (Txt.replace x "<" "&lt;") t := by
  intro prog w x tx hx g0 h1 g2 g3 g4 g5
  refine (pc_all ((?g : PcAll _) _ _ _ _ _ _ _ _ _ _ _ _ _ _ _ _ _ _ _ _ _ _) : PcAll _)
  intros p loose mean mg mb dp un gd cn cs a ccd cl outer A₀ base h₀ L m s Q E
  intro B F X T hk hd hu hH hQ
  refine wpAny_call ?_
  walk_at "mine enter"
  unfold noOcc at *
  k_steps
  exact hQ _ _ _ (fun b o e => Fr.keep (by assumption) b o e) ⟨_, rfl⟩
end
noncomputable def opW : List Str := Txt.split "( ) [ ] : , ; + - * / | & < > = . % { } == != <= >= ~ ^ << >> ** += -= *= /= %= &= |= ^= <<= >>= **= // //= @ @= -> ... := !" " "
noncomputable def opWord (i : Nat) : Str := opW.getD i Str.empty
noncomputable def spell (x : Str) : Str := Txt.replace (Txt.replace x "&" "&amp;") "<" "&lt;"
theorem opW_len : opW.length = 48 := by decide +kernel
theorem esc_cases : ∀ i, i < 48 → ((noOcc (opWord i) "&" ∧ noOcc (opWord i) "<" ∧ noOcc (opWord i) "\"" ∧ noOcc (opWord i) "\t" ∧ noOcc (opWord i) "\n" ∧ noOcc (opWord i) "\x0d") ∧ spell (opWord i) = opWord i) ∨
    (((opWord i).length ≤ 3 ∧ (Builtin.Str.occurrences (opWord i) "&" 0 (opWord i).length 1).isEmpty = false ∧ noOcc (Txt.replace (opWord i) "&" "&amp;") "<" ∧ noOcc (Txt.replace (opWord i) "&" "&amp;") "\"" ∧ noOcc (Txt.replace (opWord i) "&" "&amp;") "\t" ∧ noOcc (Txt.replace (opWord i) "&" "&amp;") "\n" ∧ noOcc (Txt.replace (opWord i) "&" "&amp;") "\x0d") ∧ spell (opWord i) = Txt.replace (opWord i) "&" "&amp;") ∨
    (((opWord i).length ≤ 3 ∧ noOcc (opWord i) "&" ∧ (Builtin.Str.occurrences (opWord i) "<" 0 (opWord i).length 1).isEmpty = false ∧ noOcc (Txt.replace (opWord i) "<" "&lt;") "\"" ∧ noOcc (Txt.replace (opWord i) "<" "&lt;") "\t" ∧ noOcc (Txt.replace (opWord i) "<" "&lt;") "\n" ∧ noOcc (Txt.replace (opWord i) "<" "&lt;") "\x0d") ∧ spell (opWord i) = Txt.replace (opWord i) "<" "&lt;") := by decide +kernel
theorem c_esc : ∀ {prog : Program} {w : World} (i : Nat) (hi : i < 48) (tx : Tok), PCall prog w 193 [.str (opWord i) tx] 1 8 (fun _ => True) fun _ v _ => ∃ t, v = .str (spell (opWord i)) t := by
  intro prog w i hi tx
  rcases esc_cases i hi with ⟨⟨a, b, c, d, e, f⟩, q⟩ | ⟨⟨a, b, c, d, e, f, g⟩, q⟩ | ⟨⟨a, b, c, d, e, f, g⟩, q⟩
  · rw [q]; exact c_esc0 _ _ a b c d e f
  · rw [q]; exact c_esc1 _ _ a b c d e f g
  · rw [q]; exact c_esc2 _ _ a b c d e f g
end
-- FnC
section
noncomputable def spellS (x : Str) : Str := if x = "&" then "&amp;" else if x = "<" then "&lt;" else x
theorem sign_ne {c : Nat} {n : Nat} (h : c ≠ n) : (⟨#[n]⟩ : Str) ≠ ⟨#[c]⟩ := fun e => h (by injection e with e; injection e with e; injection e with e; exact e.symm)
theorem spellS_other (c : Nat) (h1 : c ≠ 38) (h2 : c ≠ 60) : spellS ⟨#[c]⟩ = ⟨#[c]⟩ := by
  unfold spellS
  rw [if_neg (show (⟨#[c]⟩ : Str) ≠ Str.ofString "&" from Ne.symm (sign_ne h1)), if_neg (show (⟨#[c]⟩ : Str) ≠ Str.ofString "<" from Ne.symm (sign_ne h2))]
theorem spellS_len (c : Nat) : (spellS ⟨#[c]⟩).length ≤ 5 := by
  by_cases h1 : c = 38
  · subst h1; decide
  by_cases h2 : c = 60
  · subst h2; decide
  rw [spellS_other c h1 h2]; exact (by decide : 1 ≤ 5)
theorem spell_other (c : Nat) (h1 : c ≠ 38) (h2 : c ≠ 60) (b1 b2 : PyData) : Spec.lookup (PyData.str ⟨#[c]⟩) [(.str "&", b1), (.str "<", b2)] = none := by
  have e1 : Spec.same (.str "&") (.str ⟨#[c]⟩) = false := by
    rw [PyProof.V.same_str]; exact decide_eq_false (sign_ne h1)
  have e2 : Spec.same (.str "<") (.str ⟨#[c]⟩) = false := by
    rw [PyProof.V.same_str]; exact decide_eq_false (sign_ne h2)
  unfold Spec.lookup; rw [e1]; unfold Spec.lookup; rw [e2]; rfl
section
theorem rowsFnC0 : True := by
  k_with_none
  k_with "hcOn" => skip
  k_with "hcN" => (first | exact ⟨default⟩ | exact ⟨{}⟩ | exact ⟨Mine.w0⟩ | exact ⟨[]⟩ | exact ⟨⟨default, default, default, default⟩⟩ | (refine Nonempty.intro ?_; constructor <;> first | exact default | exact {} | exact [] | exact #[]))
  k_with "hcI" => (refine (Mine.hc_all ?_ ((?_ : Mine.AllOf _) _) : Mine.AllOf _); k_extra "hcN")
  k_with "hcI2" => (((fail_if_success (fail_if_success (with_reducible refine (?_ : Mine.AllP2 _)))); refine (Mine.hc_all2 ?_ ?_ ((?_ : Mine.AllP2 _) _ _) : Mine.AllP2 _); k_extra "hcN"; k_extra "hcN"))
  k_with "hcI3" => (((fail_if_success (fail_if_success (with_reducible refine (?_ : Mine.AllP3 _)))); refine (Mine.hc_all3 ?_ ?_ ?_ ((?_ : Mine.AllP3 _) _ _ _) : Mine.AllP3 _); k_extra "hcN"; k_extra "hcN"; k_extra "hcN"))
  k_with "hcI4" => (((fail_if_success (fail_if_success (with_reducible refine (?_ : Mine.AllP4 _)))); refine (Mine.hc_all4 ?_ ?_ ?_ ?_ ((?_ : Mine.AllP4 _) _ _ _ _) : Mine.AllP4 _); k_extra "hcN"; k_extra "hcN"; k_extra "hcN"; k_extra "hcN"))
  k_with "hcX" => (first | (refine ((?_ : Mine.AndK hN _) (And.left hN) (And.right hN))) | (refine ((?_ : Mine.ExK hN _) _ (Mine.hc_ex ?_ hN)); rotate_left; k_extra "hcN") | (refine ((?_ : Mine.ExK hN _) default (Mine.hc_ex ?_ hN)); rotate_left; k_extra "hcN"))
  k_with "hcC" => (refine (Mine.pf hN).casesOn ?_; clear hN)
  k_with "k_fold" => skip
  k_with "mine enterC" => (refine' code_pureC (by k_asm) (by k_asm) (by k_asm) (by k_asm) (by exact rfl) (by exact rfl) (by assumption) (by k_is) (by k_is) (by ktr_room) (by exact BindsTo.of_eq rfl) (by exact rfl) (by decide +kernel) ?_ (by exact rfl) (by exact rfl) (by exact rfl); k_whole; intro L' h' tk' cells' F' N' Y' B' X' T'; k_cells Y'; (try simp only [List.cons_append, List.nil_append] at N'); (try dsimp only); (try k_fold))
  k_with "call builtin:str.join" => (k_here; k_dflt (refine' join_rule 5 (by exact News.get (by k_asm) (by k_mem)) (by first | assumption | (simp only [Array.toList_push, List.toList_toArray]; exact StrsAre.snoc (by assumption) _ _)) (by assumption) (by decide) (by (simp only [List.length_map] at *; omega)) (by decide) ?_; k_whole; intro t' k'))
  k_with "eval ListComp" => (k_dflt (refine' ListComp_str (cl := _) (fun _ => true) (fun _ v y => ∃ x t t', v = Value.str x t ∧ y = Value.str (spellS x) t') rfl (by rfl) (by decide) rfl (by decide) (fun _ _ => rfl) ?_))
  trivial
set_option maxRecDepth 100000 in
set_option maxHeartbeats 8000000 in
theorem c_spelled : ∀ {prog : Program} {w : World} (x : Str) (tx : Tok) (hx : x.length ≤ 3), PCall prog w 205 [.str x tx] 1 8 (fun _ => True) fun _ v _ => ∃ t, v = .str (Str.join "" ((x.cps.toList.map fun c => (⟨#[c]⟩ : Str)).map spellS)) t := by
  intro prog w x tx hx
  refine (pc_all ((?g : PcAll _) _ _ _ _ _ _ _ _ _ _ _ _ _ _ _ _ _ _ _ _ _ _) : PcAll _)
  intros p loose mean mg mb dp un gd cn cs a ccd cl outer A₀ base h₀ L m s Q E
  intro B F X T hk hd hu hH hQ
  refine wpAny_call ?_
  k_dflt walk_at "mine enterC"
  k_steps
  refine ⟨x, tx, rfl, ?_, ?_, ?_⟩
  · have : x.length = x.cps.size := rfl
    have e : sizeLine = 2 ^ 24 := sizeLine_eq
    omega
  · rintro C i c u s₃ m₃ hC hi hn ⟨h₃, tk₃, rfl⟩ st
    refine turn_name (by assumption) (by assumption) hC st hn rfl rfl ?_
    intro h4 tk4 oC m₂ hoC hm2 F4 N4 st4 hne hL
    simp only [AllNe, and_true] at hne
    have hz : sizeLine = 2 ^ 24 := sizeLine_eq
    by_cases h38 : c = 38
    · subst h38
      k_steps
      · exact ⟨_, _, rfl, fun _ _ e => e, rfl, fun hf _ => ⟨_, _, _, rfl, congrArg (Value.str · _) (show Str.ofString "&amp;" = spellS ⟨#[38]⟩ by decide)⟩⟩
      · (with_reducible rename Option.isSome _ = false => ha); exact absurd (show true = false from ha) (by decide)
    by_cases h60 : c = 60
    · subst h60
      k_steps
      · exact ⟨_, _, rfl, fun _ _ e => e, rfl, fun hf _ => ⟨_, _, _, rfl, congrArg (Value.str · _) (show Str.ofString "&lt;" = spellS ⟨#[60]⟩ by decide)⟩⟩
      · (with_reducible rename Option.isSome _ = false => ha); exact absurd (show true = false from ha) (by decide)
    k_steps
    · (with_reducible rename Option.isSome _ = true => ha)
      exact absurd ((congrArg Option.isSome (spell_other c h38 h60 _ _)).symm.trans ha) (by decide)
    · exact ⟨_, _, rfl, fun _ _ e => e, rfl, fun hf _ => ⟨_, _, _, rfl, congrArg (Value.str · _) (spellS_other c h38 h60).symm⟩⟩
  · intro D h' tk ys vs k hD hg hvs hp st
    obtain ⟨F1, N1, hne, hL⟩ := on_size (by assumption) (by assumption) hD hg st
    rw [filter_true] at hp
    have hys := paired_strs hp hvs
    simp only [AllNe, and_true] at hne
    have hlen : (List.map (fun c => (⟨#[c]⟩ : Str)) x.cps.toList).length ≤ 3 := by simpa using (show x.cps.size ≤ 3 from hx)
    have hB : ∀ y ∈ List.map spellS (List.map (fun c => (⟨#[c]⟩ : Str)) x.cps.toList), y.length ≤ 5 := by
      intro y hy
      rw [List.map_map] at hy
      obtain ⟨c, _, rfl⟩ := List.mem_map.mp hy
      exact spellS_len c
    k_steps
    exact hQ _ _ _ (fun b o e => Fr.keep (by assumption) b o e) ⟨_, rfl⟩
end
theorem spell_eq : ∀ i, i < 48 → Str.join "" (((opWord i).cps.toList.map fun c => (⟨#[c]⟩ : Str)).map spellS) = spell (opWord i) := by decide +kernel
theorem opWord_len : ∀ i, i < 48 → (opWord i).length ≤ 3 := by decide +kernel
theorem c_spell {prog : Program} {w : World} (i : Nat) (hi : i < 48) (tx : Tok) : PCall prog w 205 [.str (opWord i) tx] 1 8 (fun _ => True) fun _ v _ => ∃ t, v = .str (spell (opWord i)) t := by
  rw [← spell_eq i hi]; exact c_spelled _ _ (opWord_len i hi)
end
-- FnD
section
noncomputable def OpW (x : Str) : Prop := ∃ i, i < 48 ∧ x = opWord i
theorem c_spell' {prog : Program} {w : World} (x : Str) (hx : OpW x) (tx : Tok) : PCall prog w 205 [.str x tx] 1 8 (fun _ => True) fun _ v _ => ∃ t, v = .str (spell x) t := by
  obtain ⟨i, hi, e⟩ := hx
  rw [e]; exact c_spell i hi tx
theorem spell_len {x : Str} (hx : OpW x) : (spell x).length ≤ 15 := by
  obtain ⟨i, hi, e⟩ := hx
  rw [e]
  have : ∀ i, i < 48 → (spell (opWord i)).length ≤ 15 := by decide +kernel
  exact this i hi
noncomputable def itemText (p : Str × Str) : Str := Str.ofString " " ++ p.1 ++ "=\"" ++ spell p.2 ++ "\""
noncomputable def textOf (its : List (Str × Str)) : Str := Str.ofString "<s" ++ Str.join "" (its.map itemText) ++ "></s>"
theorem app_len (a b : Str) : (a ++ b).length = a.length + b.length := by
  show (a.cps ++ b.cps).size = a.cps.size + b.cps.size
  simp
theorem itemText_len {p : Str × Str} (h1 : p.1.length ≤ 40) (h2 : (spell p.2).length ≤ 15) : (itemText p).length ≤ 100 := by
  unfold itemText
  rw [app_len, app_len, app_len, app_len]
  have e1 : (Str.ofString " ").length = 1 := by decide
  have e2 : (Str.ofString "=\"").length = 2 := by decide
  have e3 : (Str.ofString "\"").length = 1 := by decide
  omega
structure OkIts (its : List (Str × Str)) : Prop where
  two : 2 ≤ its.length
  few : its.length ≤ 40
  nd : (its.map (·.1)).Nodup
  ok : ∀ p ∈ its, p.1.length ≤ 40 ∧ OpW p.2
section
theorem rowsFnD0 : True := by
  k_with_none
  k_with "hcOn" => skip
  k_with "hcN" => (first | exact ⟨default⟩ | exact ⟨{}⟩ | exact ⟨Mine.w0⟩ | exact ⟨[]⟩ | exact ⟨⟨default, default, default, default⟩⟩ | (refine Nonempty.intro ?_; constructor <;> first | exact default | exact {} | exact [] | exact #[]))
  k_with "hcI" => (refine (Mine.hc_all ?_ ((?_ : Mine.AllOf _) _) : Mine.AllOf _); k_extra "hcN")
  k_with "hcI2" => (((fail_if_success (fail_if_success (with_reducible refine (?_ : Mine.AllP2 _)))); refine (Mine.hc_all2 ?_ ?_ ((?_ : Mine.AllP2 _) _ _) : Mine.AllP2 _); k_extra "hcN"; k_extra "hcN"))
  k_with "hcI3" => (((fail_if_success (fail_if_success (with_reducible refine (?_ : Mine.AllP3 _)))); refine (Mine.hc_all3 ?_ ?_ ?_ ((?_ : Mine.AllP3 _) _ _ _) : Mine.AllP3 _); k_extra "hcN"; k_extra "hcN"; k_extra "hcN"))
  k_with "hcI4" => (((fail_if_success (fail_if_success (with_reducible refine (?_ : Mine.AllP4 _)))); refine (Mine.hc_all4 ?_ ?_ ?_ ?_ ((?_ : Mine.AllP4 _) _ _ _ _) : Mine.AllP4 _); k_extra "hcN"; k_extra "hcN"; k_extra "hcN"; k_extra "hcN"))
  k_with "hcX" => (first | (refine ((?_ : Mine.AndK hN _) (And.left hN) (And.right hN))) | (refine ((?_ : Mine.ExK hN _) _ (Mine.hc_ex ?_ hN)); rotate_left; k_extra "hcN") | (refine ((?_ : Mine.ExK hN _) default (Mine.hc_ex ?_ hN)); rotate_left; k_extra "hcN"))
  k_with "hcC" => (refine (Mine.pf hN).casesOn ?_; clear hN)
  k_with "k_fold" => skip
  k_with "mine enter" => (refine' code_pure (by k_asm) (by k_asm) (by k_asm) (by k_asm) (by exact rfl) (by exact rfl) (by assumption) (by k_is) (by k_is) (by ktr_room) (by exact BindsTo.of_eq rfl) (by exact locs rfl) ?_ (by exact rfl) (by exact rfl) (by exact rfl) (by decide); k_whole; intro _ _ _ _ _ _ _; (try dsimp only); (try k_fold))
  k_with "call builtin:str.join" => (k_here; k_dflt (refine' join_rule 100 (by exact News.get (by k_asm) (by k_mem)) (by assumption) (by assumption) (by decide) (by assumption) (by decide) ?_; k_whole; intro _ _))
  k_with "call ref" => (k_here; (with_reducible show wpAny _ _ (call (Value.ref 205) _) _ _ _); k_dflt (refine' use_pure (c_spell' _ (by assumption) _) (by k_asm) (by k_asm) (by k_asm) (by k_asm) (by k_asm) (by exact rfl) (by ktr_room) (by ktr_units) (by trivial) ?_; k_whole; intro _ _ _ _ rwPq _ _; obtain ⟨_, rwPq⟩ := rwPq; subst rwPq))
  k_with "call builtin:sorted" => (k_here; k_dflt (refine' sorted_pairs (by k_asm) (by k_asm) (by first | assumption | exact Heap.IsList.at (by assumption) fun o e => Fr.keep (by assumption) _ o e) (by assumption) (by assumption) (fun _ G _ => TupsAt.keeps (by assumption) G.keep) (by assumption) ?_; intro _ _ _ _ _ _ _ _ _))
  k_with "eval ListComp" => (k_here; refine Stop.mk ?_)
  trivial
set_option maxRecDepth 100000 in
set_option maxHeartbeats 8000000 in
theorem c_text : ∀ {prog : Program} {w : World} (l : Addr) (vs : List Value) (its : List (Str × Str)) (ok : OkIts its), PCall prog w 224 [.ref l] 3 30 (fun H => H.IsList l vs.toArray ∧ TupsAt H vs its) fun _ v _ => ∃ its' t, its'.Perm its ∧ (its'.Pairwise fun a b => strLt a.1 b.1) ∧ v = .str (textOf its') t := by
  intro prog w l vs its ok
  refine (pc_all ((?g : PcAll _) _ _ _ _ _ _ _ _ _ _ _ _ _ _ _ _ _ _ _ _ _ _) : PcAll _)
  intros p loose mean mg mb dp un gd cn cs a ccd cl outer A₀ base h₀ L m s Q E
  intro B F X T hk hd hu hH hQ
  obtain ⟨hl, ht⟩ := hH
  obtain ⟨h2, h40, hnd, hok⟩ := ok
  have h64 : its.length < 64 := by omega
  refine wpAny_call ?_
  k_dflt walk_at "mine enter"
  k_steps
  unfold Stop
  k_dflt (refine' ListComp_ready (cl := _) (fun _ => true) (fun _ v y => ∀ p, PairVal s.heap v p → ∃ t, y = Value.str (itemText p) t) rfl (by rfl) (by decide) rfl (by decide) ?_)
  k_steps
  rename_i D e1 h2' pp hpp hss F2 N2 l1
  have tup2 : TupsAt h2' ((pp.toList.map fun i => vs.getD i Value.none)) (arr its pp) := arr_tups hpp (ht.keeps F2.keep)
  have okp : ∀ p ∈ arr its pp, p.1.length ≤ 40 ∧ OpW p.2 := fun p hp => hok p ((arr_perm hpp).mem_iff.mp hp)
  have hln : (arr its pp).length = its.length := (arr_perm hpp).length_eq
  have hlv := paired_len tup2
  refine ⟨_, _, rfl, ⟨_, (N2 _ (.head _)).1, rfl, _, rfl⟩, ?_, ?_, ?_⟩
  · have e : sizeLine = 2 ^ 24 := sizeLine_eq
    omega
  · rintro C i v s₃ m₃ hC hi hn ⟨h₃, tk₃, rfl⟩ st
    obtain ⟨p, hpi, hpv⟩ := paired_get (arr_tups hpp ht) i v hi
    obtain ⟨a, t, t', rfl, hta⟩ := id hpv
    replace hta : h2'.IsTuple a #[.str p.1 t, .str p.2 t'] := hta.at fun o e => F2.keep _ o e
    have hmem : p ∈ arr its pp := List.mem_of_getElem? hpi
    obtain ⟨hpl, hpo⟩ := okp p hmem
    have hsl := spell_len hpo
    refine turn_pair rfl F2 N2 hC st hn hta rfl rfl rfl (by decide) ?_
    intro h4 tk4 oC m₂ hoC hm2 hm3 F4 N4 st4 hne hL
    simp only [AllNe, and_true] at hne l1
    k_steps
    refine ⟨_, _, rfl, by first | exact fun _ _ e => e | assumption, rfl, ?_⟩
    intro hf _ q hq
    rw [hq.uniq hpv]; exact ⟨_, rfl⟩
  · intro D2 h' tk' ys k hD hg hp st
    obtain ⟨F3, N3, hne, hL⟩ := on_size F2 N2 hD hg st
    rw [filter_true] at hp
    simp only [AllNe, and_true] at hne
    have hys : StrsAre ys ((arr its pp).map itemText) := tups_strs (arr_tups hpp ht) hp
    have hlen : (List.map itemText (arr its pp)).length ≤ 1000 := by simpa using (by omega)
    have hB : ∀ y ∈ List.map itemText (arr its pp), y.length ≤ 100 := by
      intro y hy
      obtain ⟨q, hq, rfl⟩ := List.mem_map.mp hy
      have h1 := (okp q hq).1
      have h2 := spell_len (okp q hq).2
      exact itemText_len h1 h2
    have hj : (Str.join "" (List.map itemText (arr its pp))).length ≤ 4000 := by
      have h1 := join_len (sep := "") hB
      have h2 : (Str.ofString "").length = 0 := by decide
      rw [List.length_map, h2] at h1
      omega
    k_steps
    exact hQ _ _ _ (fun b o e => Fr.keep (by assumption) b o e) ⟨arr its pp, _, arr_perm hpp, arr_sorted hpp hss, rfl⟩
end
end
-- FnS0
theorem noneHcFnS0 : True := by
  k_with_none
  trivial
section
/-- which test and relations the next dict comprehension is to keep -/
noncomputable def GisD (_ : Value → Bool) (_ : Value → Str → Prop) (_ : Heap → Value → Value → Prop) : Prop := True
noncomputable abbrev getDP {p : Value → Bool} {F : Value → Str → Prop} {G : Heap → Value → Value → Prop} (_ : GisD p F G) : Value → Bool := p
noncomputable abbrev getDF {p : Value → Bool} {F : Value → Str → Prop} {G : Heap → Value → Value → Prop} (_ : GisD p F G) : Value → Str → Prop := F
noncomputable abbrev getDG {p : Value → Bool} {F : Value → Str → Prop} {G : Heap → Value → Value → Prop} (_ : GisD p F G) : Heap → Value → Value → Prop := G
/-- the triple that _qname gives back -/
noncomputable abbrev qTup (x : Str) (a b c : Tok) (n : Nat) : Obj := { cls := .type "tuple", data := .seq #[.str x a, .str x b, .str "" c] n }
noncomputable def QTup (g : Heap) (zs : List Nat) (h : Heap) (v y : Value) : Prop := ∀ x t, v = .str x t → ∃ q a b c n, y = .ref q ∧ g.get? q = none ∧ (∀ z ∈ zs, @Ne Nat q z) ∧ h.get? q = some (qTup x a b c n)
theorem fresh_not {g H : Heap} {L q : Addr} {m : Str → Option Value} (F : Fr g L H m) (hq : H.get? q = none) : g.get? q = none := by
  cases e : g.get? q with
  | none => rfl
  | some o => rw [F.keep _ _ e] at hq; cases hq
theorem fresh_zs {H : Heap} {q : Addr} {zs : List Nat} (hz : ∀ z ∈ zs, ∃ o, H.get? z = some o) (hq : H.get? q = none) : ∀ z ∈ zs, @Ne Nat q z := fun z hm e => by
  obtain ⟨o, ho⟩ := hz z hm
  rw [← e, hq] at ho; cases ho
/-- the writer's ledger, with the table of the lambda and the dict of attributes ahead -/
noncomputable abbrev subS (w : World) (x d l1 l2 t0 wl : Addr) (S : WSt) (n1 n2 n3 nt nw np nn : Nat) (u u' : Tok) (ws ps ls : List Value) (tb : Array Value) : List (Addr × Obj) :=
  [(wl, W.listOf ws.toArray nw), (S.ps, W.listOf ps.toArray np), (S.nst, W.listOf ls.toArray nn), (148, tabObj tb), (S.a, boundApp wl), (S.dst, W.listOf #[.ref l1, .ref l2] n3), (l1, W.listOf #[.ref t0] n1), (l2, W.listOf #[] n2), (t0, { cls := .type "tuple", data := .seq #[.str "http://www.w3.org/XML/1998/namespace" u, .str "xml" u'] nt }), (x, instObj 175 d), (d, wDict w S)]
/-- the table of the lambda: empty, or with its code -/
noncomputable def LamTab (h : Heap) (adr : List Nat) (tb : Array Value) : Prop := tb = #[] ∨ ∃ c', tb = #[rawInt 246, rawInt 71, .ref c'] ∧ h.CodeRec (.ref c') "C14NWriterTarget._start.<locals>.<lambda>" ∧ c' ∉ adr
/-- what _start leaves -/
noncomputable def StartOut (w : World) (tb : Array Value) (x d e1 e2 t0 wl m0 m1 : Addr) (S : WSt) (n1 n2 n3 nt : Nat) (u u' : Tok) (its : List (Str × Str)) (H : Heap) (v : Value) (h' : Heap) : Prop :=
  v = .none ∧ ∃ (nx : Addr) (nw np nn ns : Nat) (c2 : Addr) (ty tz tx : Tok) (ss : List (Str × Str)), H.get? nx = none ∧ ss.Perm its ∧ ss.Pairwise (fun a b => strLt a.1 b.1) ∧ h'.CodeRec (.ref c2) "C14NWriterTarget._start.<locals>.<lambda>" ∧ (tb = #[rawInt 246, rawInt 71, .ref c2] ∨ H.get? c2 = none) ∧ h'.get? nx = some (W.listOf #[] ns) ∧
    ∀ q ∈ subS w x d e1 e2 t0 wl ⟨S.a, S.dl, S.ex, S.dst, S.nst, S.pm, S.ps, .bool true, S.rd, S.ig, S.t, S.k⟩ n1 n2 n3 nt nw np nn u u' [.str (Str.ofString "<" ++ Str.ofString "s") ty, .str (Str.join "" (ss.map itemText)) tz, .str ">" tx] [.bool false, .bool false] [.ref m0, .ref m1, .ref nx] #[rawInt 246, rawInt 71, .ref c2], h'.get? q.1 = some q.2
theorem tl_of {g h : Heap} {zs : List Nat} {pk : List (Str × Value)} : ∀ (names : List Str), (∀ k ∈ names, ∃ q a b c n, valueAt pk k = some (.ref q) ∧ g.get? q = none ∧ (∀ z ∈ zs, @Ne Nat q z) ∧ h.get? q = some (qTup k a b c n)) →
    ∃ tl : List (Addr × Obj), (∀ k ∈ names, ∃ q a b c n, valueAt pk k = some (.ref q) ∧ (q, qTup k a b c n) ∈ tl) ∧ ∀ p ∈ tl, g.get? p.1 = none ∧ (∀ z ∈ zs, @Ne Nat p.1 z) ∧ h.get? p.1 = some p.2
  | [], _ => ⟨[], (fun k hk => by cases hk), (fun p hp => by cases hp)⟩
  | y :: r, hx => by
    obtain ⟨tl, h1, h2⟩ := tl_of r fun k hk => hx k (.tail _ hk)
    obtain ⟨q, a, b, c, n, e1, e2, e3, e4⟩ := hx y (.head _)
    refine ⟨(q, qTup y a b c n) :: tl, fun k hk => ?_, fun p hp => ?_⟩
    · rcases List.mem_cons.mp hk with rfl | hk
      · exact ⟨q, a, b, c, n, e1, .head _⟩
      · obtain ⟨q', a', b', c', n', f1, f2⟩ := h1 k hk
        exact ⟨q', a', b', c', n', f1, .tail _ f2⟩
    · rcases List.mem_cons.mp hp with rfl | hp
      · exact ⟨e2, e3, e4⟩
      · exact h2 p hp
theorem strs_mem_str {vs : List Value} {ss : List Str} (h : StrsAre vs ss) (k : Str) (hk : k ∈ ss) : ∃ t, Value.str k t ∈ vs := by
  induction h with
  | nil => cases hk
  | cons x t _ ih => exact (List.mem_cons.mp hk).elim (fun e => ⟨t, e ▸ .head _⟩) fun q => Exists.elim (ih q) fun t' m => ⟨t', .tail _ m⟩
theorem strs_get_str {vs : List Value} {ss : List Str} (h : StrsAre vs ss) (v : Value) (hv : v ∈ vs) : ∃ k t, v = Value.str k t ∧ k ∈ ss := by
  induction h with
  | nil => cases hv
  | cons x t _ ih => exact (List.mem_cons.mp hv).elim (fun e => ⟨x, t, e, .head _⟩) fun q => Exists.elim (ih q) fun k m => Exists.elim m fun t' m => ⟨k, t', m.1, .tail _ m.2⟩
theorem stored_tl {g h : Heap} {zs : List Nat} {pk : List (Str × Value)} {ys : List Value} {ks names : List Str} (hY : StrsAre ys ks) (hP : ks.Perm names) (hS : StoredAll (fun v k => ∃ t, v = Value.str k t) (QTup g zs h) (ys.filter fun _ => true) pk) :
    ∃ tl : List (Addr × Obj), (∀ k ∈ names, ∃ q a b c n, valueAt pk k = some (.ref q) ∧ (q, qTup k a b c n) ∈ tl) ∧ ∀ p ∈ tl, g.get? p.1 = none ∧ (∀ z ∈ zs, @Ne Nat p.1 z) ∧ h.get? p.1 = some p.2 := by
  refine tl_of names fun k hk => ?_
  obtain ⟨t, ht⟩ := strs_mem_str hY k (hP.mem_iff.mpr hk)
  have e : ys.filter (fun _ => true) = ys := List.filter_eq_self.mpr fun _ _ => rfl
  rw [e] at hS
  obtain ⟨v', y, hm, ⟨t', rfl⟩, hv, hG⟩ := stored_at (fun v k k' ⟨t, e⟩ ⟨t', e'⟩ => by rw [e] at e'; cases e'; rfl) hS _ ht k ⟨t, rfl⟩
  obtain ⟨q, a, b, c, n, rfl, r⟩ := hG k t' rfl
  exact ⟨q, a, b, c, n, hv, r⟩
theorem news_cons {h₀ h : Heap} {L : Addr} {p : Addr × Obj} {r : List (Addr × Obj)} (hp : h.get? p.1 = some p.2 ∧ p.1 ≠ L ∧ h₀.get? p.1 = none) (N : News h₀ L h r) : News h₀ L h (p :: r) := fun q hq => by
  rcases List.mem_cons.mp hq with rfl | hq
  · exact hp
  · exact N q hq
theorem truthy_kvs {prog : Program} {w : World} {A : Around} {E : Value → Shared → Prop} {s : Shared} {h₀ : Heap} {L d : Addr} {news : List (Addr × Obj)} {o : Obj} {kvs : List (Str × Value)} {Q : Bool → Shared → Prop} (N : News h₀ L s.heap news) (hp : (d, o) ∈ news) (hd : o.IsDictOf (PySem.strKind prog w) kvs) (lo : (d == sysModules) = false) (h1 : 1 ≤ kvs.length) (h8 : kvs.length ≤ 1000)
    (h : ∀ tk, Q true { s with toks := tk }) : wpAny (model prog w) A (truthy (.ref d)) Q E s := by
  refine wpAny_truthy_dict lo (Heap.dictOf_iff.mpr ⟨o, (N _ hp).1, hd⟩) (by omega) ?_
  have : (!kvs.isEmpty) = true := by cases kvs with
    | nil => simp at h1
    | cons a b => rfl
  rw [this]; exact h _
theorem truthy_some {prog : Program} {w : World} {A : Around} {E : Value → Shared → Prop} {s : Shared} {h₀ : Heap} {L l : Addr} {news : List (Addr × Obj)} {vs : List Value} {n : Nat} {Q : Bool → Shared → Prop} (N : News h₀ L s.heap news) (hp : (l, W.listOf vs.toArray n) ∈ news) (h1 : 1 ≤ vs.length) (h8 : vs.length ≤ 1000)
    (h : ∀ tk, Q true { s with toks := tk }) : wpAny (model prog w) A (truthy (.ref l)) Q E s := by
  refine wpAny_truthy_list (PySem.IsL.isList (News.get N hp)) (by simp; omega) ?_
  have : (!vs.toArray.isEmpty) = true := by cases vs with
    | nil => simp at h1
    | cons a b => simp
  rw [this]; exact h _
theorem c_esc' {prog : Program} {w : World} (x : Str) (hx : OpW x) (tx : Tok) : PCall prog w 193 [.str x tx] 1 8 (fun _ => True) fun _ v _ => ∃ t, v = .str (spell x) t := by
  obtain ⟨i, hi, e⟩ := hx
  rw [e]; exact c_esc i hi tx
theorem valueAt_none {k : Str} : ∀ {kvs : List (Str × Value)}, k ∉ kvs.map (·.1) → valueAt kvs k = none := fun {kvs} h => by
  unfold valueAt
  have : kvs.find? (fun kv => decide (kv.1 = k)) = none := List.find?_eq_none.mpr fun p hp => by
    simp only [decide_eq_true_eq]
    exact fun e => h (e ▸ List.mem_map_of_mem hp)
  rw [this]; rfl
theorem put_seen {w : World} {t0 t1 t2 t3 t4 t5 t6 t7 t8 t9 t10 t11 t12 t13 t14 t15 t16 t17 : Tok} {a dl dst nst pm ps : Addr} {ex rs rd ig : Value} {hk : Int} (k : Value) (v : Value) (n : Nat) : (putL (Str.ofString "_root_seen") hk k v [wEnt w "_write" t0 (.ref a), wEnt w "_data" t1 (.ref dl), wEnt w "_with_comments" t2 (.bool false), wEnt w "_strip_text" t3 (.bool false), wEnt w "_exclude_attrs" t4 ex, wEnt w "_exclude_tags" t5 .none, wEnt w "_rewrite_prefixes" t6 (.bool false), wEnt w "_qname_aware_tags" t7 .none, wEnt w "_find_qname_aware_attrs" t8 .none, wEnt w "_declared_ns_stack" t9 (.ref dst), wEnt w "_ns_stack" t10 (.ref nst), wEnt w "_prefix_map" t11 (.ref pm), wEnt w "_preserve_space" t12 (.ref ps), wEnt w "_pending_start" t13 .none, wEnt w "_root_seen" t14 rs, wEnt w "_root_done" t15 rd, wEnt w "_ignored_depth" t16 ig, wEnt w "_iter_namespaces" t17 (.ref 231)], putN (Str.ofString "_root_seen") [wEnt w "_write" t0 (.ref a), wEnt w "_data" t1 (.ref dl), wEnt w "_with_comments" t2 (.bool false), wEnt w "_strip_text" t3 (.bool false), wEnt w "_exclude_attrs" t4 ex, wEnt w "_exclude_tags" t5 .none, wEnt w "_rewrite_prefixes" t6 (.bool false), wEnt w "_qname_aware_tags" t7 .none, wEnt w "_find_qname_aware_attrs" t8 .none, wEnt w "_declared_ns_stack" t9 (.ref dst), wEnt w "_ns_stack" t10 (.ref nst), wEnt w "_prefix_map" t11 (.ref pm), wEnt w "_preserve_space" t12 (.ref ps), wEnt w "_pending_start" t13 .none, wEnt w "_root_seen" t14 rs, wEnt w "_root_done" t15 rd, wEnt w "_ignored_depth" t16 ig, wEnt w "_iter_namespaces" t17 (.ref 231)] n) = ([wEnt w "_write" t0 (.ref a), wEnt w "_data" t1 (.ref dl), wEnt w "_with_comments" t2 (.bool false), wEnt w "_strip_text" t3 (.bool false), wEnt w "_exclude_attrs" t4 ex, wEnt w "_exclude_tags" t5 .none, wEnt w "_rewrite_prefixes" t6 (.bool false), wEnt w "_qname_aware_tags" t7 .none, wEnt w "_find_qname_aware_attrs" t8 .none, wEnt w "_declared_ns_stack" t9 (.ref dst), wEnt w "_ns_stack" t10 (.ref nst), wEnt w "_prefix_map" t11 (.ref pm), wEnt w "_preserve_space" t12 (.ref ps), wEnt w "_pending_start" t13 .none, wEnt w "_root_seen" t14 v, wEnt w "_root_done" t15 rd, wEnt w "_ignored_depth" t16 ig, wEnt w "_iter_namespaces" t17 (.ref 231)], n) := by
  kernel_rfl
noncomputable def ExOk (prog : Program) (w : World) (H : Heap) (adr : List Nat) (ex : Value) (its0 its : List (Str × Str)) : Prop :=
  (ex = .none ∧ its = its0) ∨ ∃ X ms, ex = .ref X ∧ SetUp prog w H X ms ∧ ms.length ≤ 20 ∧ X ∉ adr ∧ its = its0.filter (fun p => decide (p.1 ∉ ms))
theorem notin_yes {prog : Program} {w : World} {A : Around} {E : Value → Shared → Prop} {s : Shared} {X : Addr} {ms : List Str} {k : Str} {t : Tok} {Q : Value → Shared → Prop} (hU : SetUp prog w s.heap X ms) (hml : ms.length ≤ 20) (hk : k ∈ ms) (h : Q (.bool false) { s with toks := s.toks + 1 }) : wpAny (model prog w) A (compareOp .NotIn (.str k t) (.ref X)) Q E s := by
  refine wpAny_notInSet_of (knd := PySem.strKind prog w) (strKind_is _ _ _ _) rfl (hU.setOf (by simp [scanBound]; omega)) ?_
  simpa [hk] using h
theorem notin_no {prog : Program} {w : World} {A : Around} {E : Value → Shared → Prop} {s : Shared} {X : Addr} {ms : List Str} {k : Str} {t : Tok} {Q : Value → Shared → Prop} (hU : SetUp prog w s.heap X ms) (hml : ms.length ≤ 20) (hk : k ∉ ms) (h : Q (.bool true) { s with toks := s.toks + 1 }) : wpAny (model prog w) A (compareOp .NotIn (.str k t) (.ref X)) Q E s := by
  refine wpAny_notInSet_of (knd := PySem.strKind prog w) (strKind_is _ _ _ _) rfl (hU.setOf (by simp [scanBound]; omega)) ?_
  simpa [hk] using h
theorem kv_filter {f : Str → Bool} {kvs : List (Str × Value)} {its : List (Str × Str)} (x : KvIs kvs its) : KvIs (kvs.filter fun p => f p.1) (its.filter fun p => f p.1) := by
  induction x with
  | nil => exact .nil
  | @cons a b _ _ h _ ih =>
    rw [List.filter_cons, List.filter_cons, h.1]
    cases f b.1 with
    | true => exact .cons h ih
    | false => exact ih
theorem kv_names : ∀ {kvs : List (Str × Value)} {its : List (Str × Str)}, KvIs kvs its → kvs.map (·.1) = its.map (·.1)
  | _, _, .nil => rfl
  | _, _, .cons h r => by simp only [List.map_cons]; rw [kv_names r, h.1]
end
-- LibX
theorem noneHcLibX : True := by
  k_with_none
  trivial
section
theorem text_join (j : Str) : Str.join "" [Str.ofString "<" ++ Str.ofString "s", j, Str.ofString ">", Str.empty ++ "</" ++ "s" ++ ">"] = Str.ofString "<s" ++ j ++ "></s>" := by
  rw [join_cons2, join_cons2, join_cons2]
  refine chars_inj ?_
  show chars (_ ++ _ ++ (_ ++ _ ++ (_ ++ _ ++ (_ ++ _ ++ _ ++ _)))) = _
  simp only [chars_app]
  rw [show chars (Str.ofString "<") = [60] from by decide, show chars (Str.ofString "s") = [115] from by decide, show chars (Str.ofString "") = [] from by decide, show chars (Str.ofString ">") = [62] from by decide, show chars Str.empty = [] from by decide, show chars (Str.ofString "</") = [60, 47] from by decide, show chars (Str.ofString "<s") = [60, 115] from by decide, show chars (Str.ofString "></s>") = [62, 60, 47, 115, 62] from by decide]
  simp
/-- what _law_written gives: the text of the sorted items; the table of the lambda then has its code -/
noncomputable def WrittenOut (its : List (Str × Str)) (tb : Array Value) (H : Heap) (v : Value) (h' : Heap) : Prop :=
  ∃ (ss : List (Str × Str)) (c2 : Addr) (tx : Tok), ss.Perm its ∧ ss.Pairwise (fun a b => strLt a.1 b.1) ∧ v = .str (textOf ss) tx ∧ h'.get? 148 = some (tabObj #[rawInt 246, rawInt 71, .ref c2]) ∧ LamTab h' [148] #[rawInt 246, rawInt 71, .ref c2] ∧ (tb = #[rawInt 246, rawInt 71, .ref c2] ∨ H.get? c2 = none)
theorem lam_ne {s H : Heap} {tb : Array Value} {c9 : Addr} (hT : LamTab s [148] tb) (h148 : ∃ o, H.get? 148 = some o) (hf : tb = #[rawInt 246, rawInt 71, .ref c9] ∨ H.get? c9 = none) : c9 ∉ ([148] : List Nat) := by
  rcases hf with rfl | hn
  · rcases hT with e | ⟨c', e, _, hn⟩
    · simp at e
    · have : c9 = c' := by simpa using e
      rw [this]; exact hn
  · intro hm
    obtain ⟨o, ho⟩ := h148
    rw [List.mem_singleton.mp hm, ho] at hn; cases hn
/-- which attributes are left out: none, or those of a list of texts -/
noncomputable def LoOk (H : Heap) (lo : Value) (its0 its : List (Str × Str)) : Prop :=
  (lo = .none ∧ its = its0) ∨ ∃ ll vsm ms, lo = .ref ll ∧ H.IsList ll vsm.toArray ∧ StrsAre vsm ms ∧ ms.Nodup ∧ 1 ≤ ms.length ∧ ms.length ≤ 20 ∧ @Ne Nat ll 148 ∧ its = its0.filter (fun p => decide (p.1 ∉ ms))
/-- the writer's set (if any) stands in tl -/
structure ExTl (prog : Program) (w : World) (tl : List (Addr × Obj)) (ex : Value) (its0 its : List (Str × Str)) : Prop where
  ok : ∀ H adr, (∀ q ∈ tl, H.get? q.1 = some q.2) → (∀ q ∈ tl, q.1 ∉ adr) → ExOk prog w H adr ex its0 its
theorem set_strs_led {prog : Program} {w : World} {A : Around} {s : Shared} {L : Addr} {h₀ : Heap} {m : Str → Option Value} {news : List (Addr × Obj)} {E : Value → Shared → Prop} {l : Addr} {vs : List Value} {ss : List Str} {Q : Value → Shared → Prop} (hh : A.handled = none) (F : Fr h₀ L s.heap m) (N : News h₀ L s.heap news) (hl : s.heap.IsList l vs.toArray) (hi : StrsAre vs ss) (hb : ss.length ≤ 20) (hnd : ss.Nodup)
    (h : ∀ (X : Addr) (o : Obj) (h' : Heap) (tk : Nat), Fr h₀ L h' m → News h₀ L h' ((X, o) :: news) → (∀ h2 : Heap, h2.get? X = some o → SetUp prog w h2 X ss) → (∀ p ∈ news, p.1 < X) → Q (.ref X) { s with heap := h', toks := tk }) :
    wpAny (model prog w) A (call (.type "set") [.ref l]) Q E s := by
  refine call_set_strs hh hl hi (by simp [scanBound]; omega) hnd fun h' tk hS hk => ?_
  have st : s.heap.StaysIn h' := fun b o e => hk b o (Heap.lt_size e) e
  obtain ⟨o, _, _, _, _, ho, _⟩ := id hS
  obtain ⟨F', N', -, -⟩ := on_size F N (Nat.le_refl _) ho st
  exact h _ o h' tk F' N' (fun h2 e => hS.at' fun o' e' => by rw [ho] at e'; cases e'; exact e) fun p hp => Heap.lt_size (N p hp).1
theorem truthy_base {prog : Program} {w : World} {A : Around} {E : Value → Shared → Prop} {s : Shared} {g0 g1 : Heap} {L L1 l : Addr} {m m1 : Str → Option Value} {vs : List Value} {Q : Bool → Shared → Prop} (F : Fr g1 L s.heap m) (F1 : Fr g0 L1 g1 m1) (hl : g0.IsList l vs.toArray) (h1 : 1 ≤ vs.length) (h8 : vs.length ≤ 1000)
    (h : ∀ tk, Q true { s with toks := tk }) : wpAny (model prog w) A (truthy (.ref l)) Q E s := by
  refine wpAny_truthy_list (hl.at fun o e => F.keep _ o (F1.keep _ o e)) (by simp; omega) ?_
  have : (!vs.toArray.isEmpty) = true := by cases vs with
    | nil => simp at h1
    | cons a b => simp
  rw [this]; exact h _
theorem news_app {h₀ h : Heap} {L : Addr} {a b : List (Addr × Obj)} (h1 : News h₀ L h a) (h2 : News h₀ L h b) : News h₀ L h (a ++ b) := fun q hq => (List.mem_append.mp hq).elim (h1 q) (h2 q)
theorem list_base {h g0 g1 : Heap} {L L1 l : Addr} {m m1 : Str → Option Value} {vs : Array Value} (F : Fr g1 L h m) (F1 : Fr g0 L1 g1 m1) (hl : g0.IsList l vs) : h.IsList l vs := hl.at fun o e => F.keep _ o (F1.keep _ o e)
end
-- LibM
theorem noneHcLibM : True := by
  k_with_none
  trivial
section
section
variable {prog : Program} {w : World} {s : Shared} {L : Addr} {h₀ base : Heap} {m mg mb : Str → Option Value} {p : Program} {loose : List Str} {mean : ExcName → Option Value} {news sub : List (Addr × Obj)} {Q E : Value → Shared → Prop}
theorem use_m {f : Addr} {vs : List Value} {dN uN : Nat} {H : Heap → Heap → Prop} {P : Heap → Value → Heap → Prop} (C : MCall prog w f vs dN uN sub H P)
    {dp un : Nat} {gd : Option (List Code)} {cn : Str} {cs : Scope} {a : Addr} {ccd : Value} {cl : List (Str × Addr)} {outer : List Env} {A₀ : Around}
    (B : Below A₀ base outer h₀) (F : Fr h₀ L s.heap m) (X : (hd.heap_39 w.params).In h₀) (N : News h₀ L s.heap news) (T : Top p loose mean mg mb h₀) (hk : cs.kind = .function) (hd' : dp + dN < recursionLimit) (hu : un + uN < cLine) (hs : SubL sub news) (hH : H h₀ s.heap)
    (h : ∀ v h' tk' d', P s.heap v h' → Fr h₀ L h' m → (∀ b o, s.heap.get? b = some o → b ∉ sub.map (·.1) → h'.get? b = some o) → Q v { s with heap := h', toks := tk', drawn := d' }) :
    wpAny (model prog w) (ktrTop dp un gd cn cs L a ccd cl outer) (call (.ref f) vs) Q E s :=
  C p loose mean mg mb dp un gd cn cs a ccd cl outer A₀ base h₀ L m s Q E B F X (fun q hq => N q (subL_mem hs q hq)) T hk hd' hu hH fun v h' tk' d' st pv => by
    have off : ∀ b, (∀ q ∈ sub, q.1 ≠ b) → b ∉ sub.map (·.1) := fun b hb hm => by
      obtain ⟨q, hq, e⟩ := List.mem_map.mp hm
      exact hb q hq e
    refine h v h' tk' d' pv ⟨F.ns.at' fun o e => st _ o e (off _ fun q hq => (N q (subL_mem hs q hq)).2.1), fun b o e => st b o (F.keep b o e) (off _ fun q hq e' => ?_), F.above⟩ st
    have := (N q (subL_mem hs q hq)).2.2
    rw [e', e] at this; cases this
end
theorem upd148 {g h h' : Heap} {L : Addr} {o o' : Obj} {cells tl : List (Addr × Obj)} (N : News g L h (cells ++ (148, o) :: tl)) (hk : ∀ b o, h.get? b = some o → b ∉ ([148] : List Nat) → h'.get? b = some o) (h148 : h'.get? 148 = some o') (hc : ∀ q ∈ cells, @Ne Nat q.1 148) (ht : ∀ q ∈ tl, @Ne Nat q.1 148) : News g L h' (cells ++ (148, o') :: tl) := fun q hq => by
  rcases List.mem_append.mp hq with hq | hq
  · have := N q (List.mem_append_left _ hq)
    exact ⟨hk _ _ this.1 (fun hm => hc q hq (List.mem_singleton.mp hm)), this.2⟩
  · rcases List.mem_cons.mp hq with rfl | hq
    · exact ⟨h148, (N (148, o) (List.mem_append_right _ (.head _))).2⟩
    · have := N q (List.mem_append_right _ (.tail _ hq))
      exact ⟨hk _ _ this.1 (fun hm => ht q hq (List.mem_singleton.mp hm)), this.2⟩
theorem lam_cell {h : Heap} {c10 : Addr} (hL : LamTab h [148] #[rawInt 246, rawInt 71, .ref c10]) : ∃ oc, h.get? c10 = some oc ∧ (∀ h2 : Heap, h2.get? c10 = some oc → LamTab h2 [148] #[rawInt 246, rawInt 71, .ref c10]) ∧ @Ne Nat c10 148 := by
  rcases hL with e | ⟨c', e, ⟨c, oc, vs, t, e', g1, g2, g3⟩, hn⟩
  · simp at e
  · cases e'
    have : c10 = c' := by simpa using e
    subst this
    exact ⟨oc, g1, fun h2 h => .inr ⟨_, rfl, ⟨_, oc, vs, t, rfl, h, g2, g3⟩, hn⟩, fun e => hn (by rw [e]; exact .head _)⟩
end
-- Fn2
section
/-- a turn of the first loop, of the second -/
noncomputable def stepM (p : List Int × List Int) (x : Int) : List Int × List Int :=
  if x.fmod 32 ∈ p.1 then p else (p.1 ++ [x.fmod 32], if (x.fdiv 32).fmod 2 = 1 then p.2 ++ [x.fmod 32] else p.2)
noncomputable def stepT (m t : List Int) (x : Int) : List Int := if x.fmod 32 ∈ m ++ t then t else t ++ [x.fmod 32]
noncomputable def mt (xs : List Int) (i : Nat) : List Int × List Int := (xs.take i).foldl stepM ([], [])
theorem any_fmod {m : List Int} {y : Int} : (m.any fun z => z == y) = decide (y ∈ m) := by
  rw [Bool.eq_iff_iff, List.any_eq_true, decide_eq_true_iff]
  exact ⟨fun ⟨z, h, e⟩ => eq_of_beq e ▸ h, fun h => ⟨y, h, beq_self_eq_true y⟩⟩
theorem stepM_in {p : List Int × List Int} {x : Int} (h : (p.1.any fun z => z == x.fmod 32) = true) : stepM p x = p := by
  rw [any_fmod, decide_eq_true_eq] at h; unfold stepM; rw [if_pos h]
theorem stepM_odd {p : List Int × List Int} {x : Int} (h : (p.1.any fun z => z == x.fmod 32) = false) (h2 : (x.fdiv 32).fmod 2 = 1) : stepM p x = (p.1 ++ [x.fmod 32], p.2 ++ [x.fmod 32]) := by
  rw [any_fmod, decide_eq_false_iff_not] at h; unfold stepM; rw [if_neg h, if_pos h2]
theorem stepM_even {p : List Int × List Int} {x : Int} (h : (p.1.any fun z => z == x.fmod 32) = false) (h2 : (x.fdiv 32).fmod 2 ≠ 1) : stepM p x = (p.1 ++ [x.fmod 32], p.2) := by
  rw [any_fmod, decide_eq_false_iff_not] at h; unfold stepM; rw [if_neg h, if_neg h2]
theorem stepM_len (p : List Int × List Int) (x : Int) : (stepM p x).1.length ≤ p.1.length + 1 ∧ (stepM p x).2.length ≤ p.2.length + 1 := by
  unfold stepM
  split
  · exact ⟨by omega, by omega⟩
  · refine ⟨by simp, ?_⟩
    dsimp only
    split <;> simp
theorem mt_succ {xs : List Int} {i : Nat} {x : Int} (h : xs[i]? = some x) : mt xs (i + 1) = stepM (mt xs i) x := by
  unfold mt
  rw [List.take_add_one, h, Option.toList_some, List.foldl_append]; rfl
theorem mt_len (xs : List Int) : ∀ i, (mt xs i).1.length ≤ i ∧ (mt xs i).2.length ≤ i
  | 0 => by simp [mt]
  | i + 1 => by
    have ih := mt_len xs i
    cases h : xs[i]? with
    | none =>
      have e : mt xs (i + 1) = mt xs i := by unfold mt; rw [List.take_add_one, h]; simp
      rw [e]; omega
    | some x =>
      have := stepM_len (mt xs i) x
      rw [mt_succ h]; omega
theorem ints_get {vs : List Value} {ns : List Int} (h : IntsAre vs ns) {i : Nat} {v : Value} (e : vs[i]? = some v) : ∃ x t, v = .int x t ∧ ns[i]? = some x := by
  induction h generalizing i with
  | nil => simp at e
  | cons x t _ ih =>
    cases i with
    | zero => simp at e; exact ⟨x, t, e.symm, rfl⟩
    | succ i => simp at e; exact ih e
theorem IntsAre.snoc' {vs : List Value} {ns : List Int} (h : IntsAre vs ns) (x : Int) (t : Tok) : IntsAre (vs ++ [.int x t]) (ns ++ [x]) := by
  induction h with
  | nil => exact .cons x t .nil
  | cons y t' _ ih => exact .cons y t' ih
noncomputable def tt (m t ys : List Int) (i : Nat) : List Int := (ys.take i).foldl (stepT m) t
theorem tt_succ {m t ys : List Int} {i : Nat} {x : Int} (h : ys[i]? = some x) : tt m t ys (i + 1) = stepT m (tt m t ys i) x := by
  unfold tt
  rw [List.take_add_one, h, Option.toList_some, List.foldl_append]; rfl
theorem stepT_in {m t : List Int} {x : Int} (h : ((m ++ t).any fun z => z == x.fmod 32) = true) : stepT m t x = t := by
  rw [any_fmod, decide_eq_true_eq] at h; unfold stepT; rw [if_pos h]
theorem stepT_out {m t : List Int} {x : Int} (h : ((m ++ t).any fun z => z == x.fmod 32) = false) : stepT m t x = t ++ [x.fmod 32] := by
  rw [any_fmod, decide_eq_false_iff_not] at h; unfold stepT; rw [if_neg h]
theorem stepT_len (m t : List Int) (x : Int) : (stepT m t x).length ≤ t.length + 1 := by
  unfold stepT; split
  · omega
  · simp
theorem tt_len (m t ys : List Int) : ∀ i, (tt m t ys i).length ≤ t.length + i
  | 0 => by simp [tt]
  | i + 1 => by
    have ih := tt_len m t ys i
    cases h : ys[i]? with
    | none =>
      have e : tt m t ys (i + 1) = tt m t ys i := by unfold tt; rw [List.take_add_one, h]; simp
      rw [e]; omega
    | some x =>
      have := stepT_len m (tt m t ys i) x
      rw [tt_succ h]; omega
theorem news_sub {h₀ h : Heap} {L : Addr} {a b : List (Addr × Obj)} (N : News h₀ L h b) (hs : ∀ p ∈ a, p ∈ b) : News h₀ L h a := fun p hp => N p (hs p hp)
noncomputable def mineL (ns : List Int) : List Int := (mt ([42, 13, 3] ++ ns.take 4) ([42, 13, 3] ++ ns.take 4).length).1
noncomputable def theirsL (ns : List Int) : List Int := tt (mineL ns) (mt ([42, 13, 3] ++ ns.take 4) ([42, 13, 3] ++ ns.take 4).length).2 (List.take (min 7 ns.length - 4) (List.drop 4 ns)) (List.take (min 7 ns.length - 4) (List.drop 4 ns)).length
/-- what _law_places gives back -/
noncomputable def PlacesOut (H : Heap) (v : Value) (h' : Heap) (ml tl : List Int) : Prop :=
  ∃ q la lb n va vb na nb ma mb, v = Value.ref q ∧ H.get? q = none ∧ H.get? la = none ∧ H.get? lb = none ∧ h'.get? q = some ({ cls := .type "tuple", data := .seq #[.ref la, .ref lb] n } : Obj) ∧ h'.get? la = some (W.listOf (List.toArray va) na) ∧ h'.get? lb = some (W.listOf (List.toArray vb) nb) ∧
    IntsAre va ma ∧ ma.Perm ml ∧ ma.Pairwise (· ≤ ·) ∧ IntsAre vb mb ∧ mb.Perm tl ∧ mb.Pairwise (· ≤ ·) ∧ @Ne Nat q la ∧ @Ne Nat q lb ∧ @Ne Nat la lb
theorem placesOut {H h' : Heap} {L' : Addr} {news : List (Addr × Obj)} {q la lb : Addr} {n na nb : Nat} {va vb : List Value} {ma mb ml tl : List Int} (N : News H L' h' news) (h1 : (q, ({ cls := .type "tuple", data := .seq #[.ref la, .ref lb] n } : Obj)) ∈ news)
    (h2 : (la, W.listOf (List.toArray va) na) ∈ news) (h3 : (lb, W.listOf (List.toArray vb) nb) ∈ news) (i1 : IntsAre va ma) (p1 : ma.Perm ml) (s1 : ma.Pairwise (· ≤ ·)) (i2 : IntsAre vb mb) (p2 : mb.Perm tl) (s2 : mb.Pairwise (· ≤ ·)) (n1 : @Ne Nat q la) (n2 : @Ne Nat q lb) (n3 : @Ne Nat la lb) : PlacesOut H (.ref q) h' ml tl :=
  ⟨q, la, lb, n, va, vb, na, nb, ma, mb, rfl, (N _ h1).2.2, (N _ h2).2.2, (N _ h3).2.2, (N _ h1).1, (N _ h2).1, (N _ h3).1, i1, p1, s1, i2, p2, s2, n1, n2, n3⟩
section
theorem rowsFn20 : True := by
  k_with_none
  k_with "hcOn" => skip
  k_with "hcN" => (first | exact ⟨default⟩ | exact ⟨{}⟩ | exact ⟨Mine.w0⟩ | exact ⟨[]⟩ | exact ⟨⟨default, default, default, default⟩⟩ | (refine Nonempty.intro ?_; constructor <;> first | exact default | exact {} | exact [] | exact #[]))
  k_with "hcI" => (refine (Mine.hc_all ?_ ((?_ : Mine.AllOf _) _) : Mine.AllOf _); k_extra "hcN")
  k_with "hcI2" => (((fail_if_success (fail_if_success (with_reducible refine (?_ : Mine.AllP2 _)))); refine (Mine.hc_all2 ?_ ?_ ((?_ : Mine.AllP2 _) _ _) : Mine.AllP2 _); k_extra "hcN"; k_extra "hcN"))
  k_with "hcI3" => (((fail_if_success (fail_if_success (with_reducible refine (?_ : Mine.AllP3 _)))); refine (Mine.hc_all3 ?_ ?_ ?_ ((?_ : Mine.AllP3 _) _ _ _) : Mine.AllP3 _); k_extra "hcN"; k_extra "hcN"; k_extra "hcN"))
  k_with "hcI4" => (((fail_if_success (fail_if_success (with_reducible refine (?_ : Mine.AllP4 _)))); refine (Mine.hc_all4 ?_ ?_ ?_ ?_ ((?_ : Mine.AllP4 _) _ _ _ _) : Mine.AllP4 _); k_extra "hcN"; k_extra "hcN"; k_extra "hcN"; k_extra "hcN"))
  k_with "hcX" => (first | (refine ((?_ : Mine.AndK hN _) (And.left hN) (And.right hN))) | (refine ((?_ : Mine.ExK hN _) _ (Mine.hc_ex ?_ hN)); rotate_left; k_extra "hcN") | (refine ((?_ : Mine.ExK hN _) default (Mine.hc_ex ?_ hN)); rotate_left; k_extra "hcN"))
  k_with "hcC" => (refine (Mine.pf hN).casesOn ?_; clear hN)
  k_with "k_fold" => skip
  k_with "mine enter" => (refine' code_pure (by k_asm) (by k_asm) (by k_asm) (by k_asm) (by exact rfl) (by exact rfl) (by assumption) (by k_is) (by k_is) (by ktr_room) (by exact BindsTo.of_eq rfl) (by exact locs rfl) ?_ (by exact rfl) (by exact rfl) (by exact rfl) (by decide); k_whole; intro L' h' F' N' B' X' T'; (try dsimp only))
  k_with "exec For" => (k_here; k_dflt (refine' For_list (by k_asm) rfl ?_))
  trivial
namespace Hc_places
noncomputable abbrev hTy := Program × World × Addr × List Value × List Int × Program × List Str × (ExcName → Option Value) × (Str → Option Value) × (Str → Option Value) × Nat × Nat × Option (List Code) × Str × Scope × Addr × Value × (List (Str × Addr)) × List Env × Around × Heap × Heap × Addr × (Str → Option Value) × Shared × (Value → Shared → Prop) × (Value → Shared → Prop)
noncomputable def hSt (c : hTy) : Prop := (fun (prog : Program) (w : World) (l : Addr) (vs : List Value) (ns : List Int) (p : Program) (loose : List Str) (mean : ExcName → Option Value) (mg : Str → Option Value) (mb : Str → Option Value) (dp : Nat) (un : Nat) (gd : Option (List Code)) (cn : Str) (cs : Scope) (a : Addr) (ccd : Value) (cl : List (Str × Addr)) (outer : List Env) (A₀ : Around) (base : Heap) (h₀ : Heap) (L : Addr) (m : Str → Option Value) (s : Shared) (Q : Value → Shared → Prop) (E : Value → Shared → Prop) => ∀ (hI : IntsAre vs ns) (hn : ns.length ≤ 63), (PCallAt p loose mean mg mb dp un gd cn cs a ccd cl outer A₀ base h₀ L m s Q E prog w 219 [.ref l] 2 30 (fun H => H.IsList l vs.toArray) (fun H v h' => PlacesOut H v h' (mineL ns) (theirsL ns)) : Prop)) c.1 c.2.1 c.2.2.1 c.2.2.2.1 c.2.2.2.2.1 c.2.2.2.2.2.1 c.2.2.2.2.2.2.1 c.2.2.2.2.2.2.2.1 c.2.2.2.2.2.2.2.2.1 c.2.2.2.2.2.2.2.2.2.1 c.2.2.2.2.2.2.2.2.2.2.1 c.2.2.2.2.2.2.2.2.2.2.2.1 c.2.2.2.2.2.2.2.2.2.2.2.2.1 c.2.2.2.2.2.2.2.2.2.2.2.2.2.1 c.2.2.2.2.2.2.2.2.2.2.2.2.2.2.1 c.2.2.2.2.2.2.2.2.2.2.2.2.2.2.2.1 c.2.2.2.2.2.2.2.2.2.2.2.2.2.2.2.2.1 c.2.2.2.2.2.2.2.2.2.2.2.2.2.2.2.2.2.1 c.2.2.2.2.2.2.2.2.2.2.2.2.2.2.2.2.2.2.1 c.2.2.2.2.2.2.2.2.2.2.2.2.2.2.2.2.2.2.2.1 c.2.2.2.2.2.2.2.2.2.2.2.2.2.2.2.2.2.2.2.2.1 c.2.2.2.2.2.2.2.2.2.2.2.2.2.2.2.2.2.2.2.2.2.1 c.2.2.2.2.2.2.2.2.2.2.2.2.2.2.2.2.2.2.2.2.2.2.1 c.2.2.2.2.2.2.2.2.2.2.2.2.2.2.2.2.2.2.2.2.2.2.2.1 c.2.2.2.2.2.2.2.2.2.2.2.2.2.2.2.2.2.2.2.2.2.2.2.2.1 c.2.2.2.2.2.2.2.2.2.2.2.2.2.2.2.2.2.2.2.2.2.2.2.2.2.1 c.2.2.2.2.2.2.2.2.2.2.2.2.2.2.2.2.2.2.2.2.2.2.2.2.2.2
theorem hNe : Nonempty hTy := ⟨default, w0, (0 : Nat), [], [], default, [], (fun _ => none), (fun _ => none), (fun _ => none), 0, 0, none, Str.empty, default, (0 : Nat), default, [], [], {}, default, default, (0 : Nat), (fun _ => none), {}, (fun _ => (fun _ => False)), (fun _ => (fun _ => False))⟩
noncomputable def hCc : hTy := @Classical.epsilon hTy hNe fun x => ¬ hSt x
@[irreducible] noncomputable def prog : Program := hCc.1
@[irreducible] noncomputable def w : World := hCc.2.1
@[irreducible] noncomputable def l : Addr := hCc.2.2.1
@[irreducible] noncomputable def vs : List Value := hCc.2.2.2.1
@[irreducible] noncomputable def ns : List Int := hCc.2.2.2.2.1
@[irreducible] noncomputable def p : Program := hCc.2.2.2.2.2.1
@[irreducible] noncomputable def loose : List Str := hCc.2.2.2.2.2.2.1
@[irreducible] noncomputable def mean : ExcName → Option Value := hCc.2.2.2.2.2.2.2.1
@[irreducible] noncomputable def mg : Str → Option Value := hCc.2.2.2.2.2.2.2.2.1
@[irreducible] noncomputable def mb : Str → Option Value := hCc.2.2.2.2.2.2.2.2.2.1
@[irreducible] noncomputable def dp : Nat := hCc.2.2.2.2.2.2.2.2.2.2.1
@[irreducible] noncomputable def un : Nat := hCc.2.2.2.2.2.2.2.2.2.2.2.1
@[irreducible] noncomputable def gd : Option (List Code) := hCc.2.2.2.2.2.2.2.2.2.2.2.2.1
@[irreducible] noncomputable def cn : Str := hCc.2.2.2.2.2.2.2.2.2.2.2.2.2.1
@[irreducible] noncomputable def cs : Scope := hCc.2.2.2.2.2.2.2.2.2.2.2.2.2.2.1
@[irreducible] noncomputable def a : Addr := hCc.2.2.2.2.2.2.2.2.2.2.2.2.2.2.2.1
@[irreducible] noncomputable def ccd : Value := hCc.2.2.2.2.2.2.2.2.2.2.2.2.2.2.2.2.1
@[irreducible] noncomputable def cl : List (Str × Addr) := hCc.2.2.2.2.2.2.2.2.2.2.2.2.2.2.2.2.2.1
@[irreducible] noncomputable def outer : List Env := hCc.2.2.2.2.2.2.2.2.2.2.2.2.2.2.2.2.2.2.1
@[irreducible] noncomputable def A₀ : Around := hCc.2.2.2.2.2.2.2.2.2.2.2.2.2.2.2.2.2.2.2.1
@[irreducible] noncomputable def base : Heap := hCc.2.2.2.2.2.2.2.2.2.2.2.2.2.2.2.2.2.2.2.2.1
@[irreducible] noncomputable def h₀ : Heap := hCc.2.2.2.2.2.2.2.2.2.2.2.2.2.2.2.2.2.2.2.2.2.1
@[irreducible] noncomputable def L : Addr := hCc.2.2.2.2.2.2.2.2.2.2.2.2.2.2.2.2.2.2.2.2.2.2.1
@[irreducible] noncomputable def m : Str → Option Value := hCc.2.2.2.2.2.2.2.2.2.2.2.2.2.2.2.2.2.2.2.2.2.2.2.1
@[irreducible] noncomputable def s : Shared := hCc.2.2.2.2.2.2.2.2.2.2.2.2.2.2.2.2.2.2.2.2.2.2.2.2.1
@[irreducible] noncomputable def Q : Value → Shared → Prop := hCc.2.2.2.2.2.2.2.2.2.2.2.2.2.2.2.2.2.2.2.2.2.2.2.2.2.1
@[irreducible] noncomputable def E : Value → Shared → Prop := hCc.2.2.2.2.2.2.2.2.2.2.2.2.2.2.2.2.2.2.2.2.2.2.2.2.2.2
set_option maxRecDepth 100000 in
set_option maxHeartbeats 8000000 in
theorem hMain (hI : IntsAre vs ns) (hn : ns.length ≤ 63) : PCallAt p loose mean mg mb dp un gd cn cs a ccd cl outer A₀ base h₀ L m s Q E prog w 219 [.ref l] 2 30 (fun H => H.IsList l vs.toArray) (fun H v h' => PlacesOut H v h' (mineL ns) (theirsL ns)) := by
  intro B F X T hk hd hu hH hQ
  refine wpAny_call ?_
  k_dflt walk_at "mine enter"
  k_steps
  rename_i lm ha q1 hb tka lt hc q2 hdd lc he q3 D1 ws1 hf hI1 hC1 hL1 q4 D2 ws2 hg F2 N2 hI2 q5
  have hlx : ([42, 13, 3] ++ List.take 4 ns : List Int).length ≤ 7 := by simp; omega
  obtain ⟨xs, hxs⟩ : ∃ z, z = [42, 13, 3] ++ List.take 4 ns := ⟨_, rfl⟩
  rw [← hxs] at hI2 hlx
  refine ⟨D2, ws2, _, _, fun i m' news' => m' (Str.ofString "mine") = some (.ref lm) ∧ m' (Str.ofString "theirs") = some (.ref lt) ∧ m' (Str.ofString "script") = some (.ref l) ∧
    ∃ am at' km kt lit, IntsAre am (mt xs i).1 ∧ IntsAre at' (mt xs i).2 ∧
      news' = [(D2, W.listOf ws2.toArray 0), (D1, W.listOf ws1.toArray 0), (lc, lit), (lt, W.listOf (List.toArray at') kt), (lm, W.listOf (List.toArray am) km)],
    rfl, F2, N2, ⟨rfl, rfl, rfl, [], [], 0, 0, _, .nil, .nil, rfl⟩, ?_, ?_, ?_⟩
  · rintro i m' news' h' ⟨_, _, _, am, at', km, kt, lit, _, _, rfl⟩ F' N'
    exact ⟨_, (N' _ (.head _)).1, rfl, _, rfl⟩
  · rintro i v m₁ news₁ h₁ tk₁ I io hi ⟨e1, e2, e3, am, at', km, kt, lit, hm, ht, rfl⟩ hnI hIL F3 N3
    obtain ⟨x, tx, rfl, hx⟩ := ints_get hI2 hi
    have hI_1 : @Ne Nat D2 I := hnI _ (.head _)
    have hI_2 : @Ne Nat D1 I := hnI _ (.tail _ (.head _))
    have hI_3 : @Ne Nat lc I := hnI _ (.tail _ (.tail _ (.head _)))
    have hI_4 : @Ne Nat lt I := hnI _ (.tail _ (.tail _ (.tail _ (.head _))))
    have hI_5 : @Ne Nat lm I := hnI _ (.tail _ (.tail _ (.tail _ (.tail _ (.head _)))))
    rw [canon3 e1 e2 e3] at F3
    generalize m₁ = um at F3
    have hil : i < 7 := by
      have : i < xs.length := by
        rcases Nat.lt_or_ge i xs.length with q | q
        · exact q
        · rw [List.getElem?_eq_none q] at hx; cases hx
      omega
    have hs' := mt_succ hx
    have hml := mt_len xs i
    obtain ⟨mi, hmi⟩ : ∃ z, z = mt xs i := ⟨_, rfl⟩
    rw [← hmi] at hm ht hml hs'
    have hal := hm.length
    have htl := ht.length
    k_steps
    · refine ⟨_, _, _, _, rfl, by assumption, by assumption, ?_, rfl, rfl, rfl, am, at', _, _, lit, ?_, ?_, rfl⟩
      · intro p hp
        exact hnI p hp
      · rw [hs', stepM_in (by assumption)]; exact hm
      · rw [hs', stepM_in (by assumption)]; exact ht
    · refine ⟨_, _, _, _, rfl, by assumption, by assumption, ?_, rfl, rfl, rfl, am ++ [_], at' ++ [_], _, _, lit, ?_, ?_, by rw [List.push_toArray, List.push_toArray]⟩
      · intro p hp
        simp only [List.mem_cons, List.not_mem_nil, or_false] at hp
        rcases hp with rfl | rfl | rfl | rfl | rfl <;> (dsimp only; assumption)
      · rw [hs', stepM_odd (by assumption) (by assumption)]; exact IntsAre.snoc' hm _ _
      · rw [hs', stepM_odd (by assumption) (by assumption)]; exact IntsAre.snoc' ht _ _
    · refine ⟨_, _, _, _, rfl, by assumption, by assumption, ?_, rfl, rfl, rfl, am ++ [_], at', _, _, lit, ?_, ?_, by rw [List.push_toArray]⟩
      · intro p hp
        simp only [List.mem_cons, List.not_mem_nil, or_false] at hp
        rcases hp with rfl | rfl | rfl | rfl | rfl <;> (dsimp only; assumption)
      · rw [hs', stepM_even (by assumption) (by assumption)]; exact IntsAre.snoc' hm _ _
      · rw [hs', stepM_even (by assumption) (by assumption)]; exact ht
  · intro h' tk' m' news' F' N' hJ
    obtain ⟨e1, e2, e3, am, at', km, kt, lit, hm, ht, rfl⟩ := hJ
    have hwl := hI2.length
    rw [canon3 e1 e2 e3] at F'
    generalize m' = um at F'
    have hml := mt_len xs ws2.length
    obtain ⟨mi, hmi⟩ : ∃ z, z = mt xs ws2.length := ⟨_, rfl⟩
    rw [← hmi] at hm ht hml
    have hal := hm.length
    have htl := ht.length
    k_steps
    rename_i D3 ws3 h3 F3 N3 hC3 hL3 hI3 q6
    obtain ⟨ys, hys⟩ : ∃ z, z = List.take (min 7 ns.length - 4) (List.drop 4 ns) := ⟨_, rfl⟩
    rw [← hys] at hI3 hC3 hL3
    have hyl : ys.length ≤ 3 := by omega
    refine ⟨D3, ws3, _, [(D3, W.listOf ws3.toArray 0), (lt, W.listOf (List.toArray at') kt), (lm, W.listOf (List.toArray am) km)], fun i m' news' => m' (Str.ofString "mine") = some (.ref lm) ∧ m' (Str.ofString "theirs") = some (.ref lt) ∧
      ∃ bt kb, IntsAre bt (tt mi.1 mi.2 ys i) ∧ news' = [(D3, W.listOf ws3.toArray 0), (lt, W.listOf (List.toArray bt) kb), (lm, W.listOf (List.toArray am) km)],
      rfl, F3, news_sub N3 (by simp), ⟨rfl, rfl, at', kt, ht, rfl⟩, ?_, ?_, ?_⟩
    · rintro i m' news' h' ⟨_, _, bt, kb, _, rfl⟩ F' N'
      exact ⟨_, (N' _ (.head _)).1, rfl, _, rfl⟩
    · rintro i v m₁ news₁ h₁ tk₁ I io hi ⟨e1, e2, bt, kb, hbt, rfl⟩ hnI hIL F3 N3
      obtain ⟨x, tx, rfl, hx⟩ := ints_get hI3 hi
      have hI_1 : @Ne Nat D3 I := hnI _ (.head _)
      have hI_2 : @Ne Nat lt I := hnI _ (.tail _ (.head _))
      have hI_3 : @Ne Nat lm I := hnI _ (.tail _ (.tail _ (.head _)))
      rw [canon2 e1 e2] at F3
      generalize m₁ = um at F3
      have hil : i < 3 := by
        have : i < ys.length := by
          rcases Nat.lt_or_ge i ys.length with q | q
          · exact q
          · rw [List.getElem?_eq_none q] at hx; cases hx
        omega
      have hs' := tt_succ (m := mi.1) (t := mi.2) hx
      have htl' := tt_len mi.1 mi.2 ys i
      obtain ⟨ti, hti⟩ : ∃ z, z = tt mi.1 mi.2 ys i := ⟨_, rfl⟩
      rw [← hti] at hbt hs' htl'
      have hbl := hbt.length
      k_steps
      · (with_reducible rename News _ _ _ _ => N9)
        refine ⟨_, _, _, [(D3, W.listOf ws3.toArray 0), (lt, W.listOf (List.toArray bt) kb), (lm, W.listOf (List.toArray am) km)], rfl, by assumption, news_sub N9 fun p hp => List.mem_cons_of_mem _ hp, hnI, rfl, rfl, bt, _, ?_, rfl⟩
        rw [hs', stepT_in (by assumption)]; exact hbt
      · (with_reducible rename News _ _ _ _ => N9)
        rw [List.push_toArray] at N9
        refine ⟨_, _, _, _, rfl, by assumption, news_sub N9 fun p hp => List.mem_cons_of_mem _ hp, ?_, rfl, rfl, bt ++ [_], _, ?_, rfl⟩
        · intro p hp
          simp only [List.mem_cons, List.not_mem_nil, or_false] at hp
          rcases hp with rfl | rfl | rfl <;> (dsimp only; assumption)
        · rw [hs', stepT_out (by assumption)]; exact IntsAre.snoc' hbt _ _
    · intro h' tk' m' news' F' N' hJ
      obtain ⟨e1, e2, bt, kb, hbt, rfl⟩ := hJ
      have hwl3 := hI3.length
      rw [canon2 e1 e2] at F'
      generalize m' = um at F'
      have htl' := tt_len mi.1 mi.2 ys ws3.length
      obtain ⟨ti, hti⟩ : ∃ z, z = tt mi.1 mi.2 ys ws3.length := ⟨_, rfl⟩
      rw [← hti] at hbt htl'
      have hbl := hbt.length
      k_steps
      have em : mi.1 = mineL ns := by rw [hmi, hwl, hxs]; rfl
      have et : ti = theirsL ns := by rw [hti, hwl3, hys, em, hmi, hwl, hxs]; rfl
      rw [← em, ← et] at hQ
      refine hQ _ _ _ (fun b o e => Fr.keep (by assumption) b o e) (placesOut (by assumption) (.head _) (by k_mem) (by k_mem) (by assumption) (by assumption) (by assumption) (by assumption) (by assumption) (by assumption) (by k_ne) (by k_ne) (by k_ne))
end Hc_places
theorem c_places {prog : Program} {w : World} (l : Addr) (vs : List Value) (ns : List Int) (hI : IntsAre vs ns) (hn : ns.length ≤ 63) : PCall prog w 219 [.ref l] 2 30 (fun H => H.IsList l vs.toArray) (fun H v h' => PlacesOut H v h' (mineL ns) (theirsL ns)) := fun p loose mean mg mb dp un gd cn cs a ccd cl outer A₀ base h₀ L m s Q E => hen Hc_places.hSt Hc_places.hNe (by with_unfolding_all exact Hc_places.hMain) (prog, w, l, vs, ns, p, loose, mean, mg, mb, dp, un, gd, cn, cs, a, ccd, cl, outer, A₀, base, h₀, L, m, s, Q, E) hI hn
end
end
-- Fn4
section
/-- the names that pretty_flags tells -/
noncomputable def prettyL (x : Nat) : List Str := flNames x 32 ++ (if x / 2 ^ 32 = 0 then [] else [baseText "0x" 16 (flLeft x 32 : Int)])
theorem flLeft_zero {x i j : Nat} (h : flLeft x i = 0) (hij : i ≤ j) : flNames x j = flNames x i := by
  induction j with
  | zero => rw [Nat.le_zero.mp hij]
  | succ k ih =>
    by_cases e : i = k + 1
    · rw [e]
    · have hk : i ≤ k := by omega
      rw [flNames_succ, ih hk]
      have : x.testBit k = false := by
        have := flLeft_testBit x i k
        rw [h, Nat.zero_testBit, decide_eq_true hk] at this
        simpa using this.symm
      simp [this]
theorem flLeft_div {x i : Nat} : flLeft x i = 0 ↔ x / 2 ^ i = 0 := by
  unfold flLeft
  rw [Nat.mul_eq_zero]
  exact ⟨fun h => h.resolve_right (Nat.pos_iff_ne_zero.mp (Nat.two_pow_pos i)), .inl⟩
theorem prettyL_brk {x i : Nat} (hi : i ≤ 32) (h : flLeft x i = 0) : prettyL x = flNames x i := by
  have h32 : x / 2 ^ 32 = 0 := by
    have h1 := flLeft_div.mp h
    have h2 : x < 2 ^ i := by
      rcases Nat.div_eq_zero_iff.mp h1 with q | q
      · exact absurd q (Nat.pos_iff_ne_zero.mp (Nat.two_pow_pos i))
      · exact q
    exact Nat.div_eq_of_lt (Nat.lt_of_lt_of_le h2 (Nat.pow_le_pow_right (by decide) hi))
  unfold prettyL
  rw [if_pos h32, List.append_nil, flLeft_zero h hi]
theorem hex_hi {x : Nat} (hy : x < 2 ^ 34) : (baseText "0x" 16 (flLeft x 32 : Int)).length ≤ 100 := by
  have h : x / 2 ^ 32 < 4 := by omega
  have : ∀ q, q < 4 → (baseText "0x" 16 ((q * 2 ^ 32 : Nat) : Int)).length ≤ 100 := by decide +kernel
  exact this _ h
theorem flagName_len {i : Nat} (hi : i < 32) : (flagName i).length ≤ 100 := by
  have : ∀ i, i < 32 → (flagName i).length ≤ 100 := by decide +kernel
  exact this i hi
theorem flB {x i : Nat} (hi : i ≤ 32) {z : Str} (hz : z.length ≤ 100) : ∀ y ∈ flNames x i ++ [z], y.length ≤ 100 := by
  intro y hy
  rcases List.mem_append.mp hy with h | h
  · unfold flNames at h
    obtain ⟨j, hj, rfl⟩ := List.mem_map.mp h
    exact flagName_len (Nat.lt_of_lt_of_le (List.mem_range.mp (List.mem_filter.mp hj).1) hi)
  · rw [List.mem_singleton.mp h]; exact hz
section
theorem rowsFn40 : True := by
  k_with_none
  k_with "hcOn" => skip
  k_with "hcN" => (first | exact ⟨default⟩ | exact ⟨{}⟩ | exact ⟨Mine.w0⟩ | exact ⟨[]⟩ | exact ⟨⟨default, default, default, default⟩⟩ | (refine Nonempty.intro ?_; constructor <;> first | exact default | exact {} | exact [] | exact #[]))
  k_with "hcI" => (refine (Mine.hc_all ?_ ((?_ : Mine.AllOf _) _) : Mine.AllOf _); k_extra "hcN")
  k_with "hcI2" => (((fail_if_success (fail_if_success (with_reducible refine (?_ : Mine.AllP2 _)))); refine (Mine.hc_all2 ?_ ?_ ((?_ : Mine.AllP2 _) _ _) : Mine.AllP2 _); k_extra "hcN"; k_extra "hcN"))
  k_with "hcI3" => (((fail_if_success (fail_if_success (with_reducible refine (?_ : Mine.AllP3 _)))); refine (Mine.hc_all3 ?_ ?_ ?_ ((?_ : Mine.AllP3 _) _ _ _) : Mine.AllP3 _); k_extra "hcN"; k_extra "hcN"; k_extra "hcN"))
  k_with "hcI4" => (((fail_if_success (fail_if_success (with_reducible refine (?_ : Mine.AllP4 _)))); refine (Mine.hc_all4 ?_ ?_ ?_ ?_ ((?_ : Mine.AllP4 _) _ _ _ _) : Mine.AllP4 _); k_extra "hcN"; k_extra "hcN"; k_extra "hcN"; k_extra "hcN"))
  k_with "hcX" => (first | (refine ((?_ : Mine.AndK hN _) (And.left hN) (And.right hN))) | (refine ((?_ : Mine.ExK hN _) _ (Mine.hc_ex ?_ hN)); rotate_left; k_extra "hcN") | (refine ((?_ : Mine.ExK hN _) default (Mine.hc_ex ?_ hN)); rotate_left; k_extra "hcN"))
  k_with "hcC" => (refine (Mine.pf hN).casesOn ?_; clear hN)
  k_with "k_fold" => skip
  k_with "mine enter" => (refine' code_pure (by k_asm) (by k_asm) (by k_asm) (by k_asm) (by exact rfl) (by exact rfl) (by assumption) (by k_is) (by k_is) (by ktr_room) (by exact BindsTo.of_eq rfl) (by exact locs rfl) ?_ (by exact rfl) (by exact rfl) (by exact rfl) (by decide); k_whole; intro L' h' F' N' B' X' T'; (try dsimp only))
  k_with "call builtin:str.join" => (k_here; k_dflt (refine' join_rule 100 (by exact News.get (by k_asm) (by k_mem)) (by first | assumption | (simp only [Array.toList_push, List.toList_toArray]; exact StrsAre.snoc (by assumption) _ _)) (by assumption) (by decide) (by (simp only [List.length_append, List.length_cons, List.length_nil]; omega)) (by decide) ?_; k_whole; intro t' k'))
  k_with "exec For" => (refine' For_range (by k_asm) rfl ?_)
  k_with "call builtin:dict.get" => (k_here; (with_reducible show wpAny _ _ (call (Value.builtin "dict.get") [Value.ref 39, _, _]) _ _ _); k_dflt (refine' get_flag (by k_asm) (by k_asm) (by k_asm) (by k_asm) _ (by assumption) _ _ ?_; k_whole; intro t' tk'))
  trivial
set_option maxRecDepth 100000 in
set_option maxHeartbeats 8000000 in
theorem c_pretty : ∀ {prog : Program} {w : World} (x : Nat) (tx : Tok) (hx0 : x ≠ 0) (hy : x < 2 ^ 34), PCall prog w 46 [.int x tx] 1 8 (fun _ => True) (fun _ v _ => ∃ t, v = .str (Str.join ", " (prettyL x)) t) := by
  intro prog w x tx hx0 hy
  refine (pc_all ((?g : PcAll _) _ _ _ _ _ _ _ _ _ _ _ _ _ _ _ _ _ _ _ _ _ _) : PcAll _)
  intros p loose mean mg mb dp un gd cn cs a ccd cl outer A₀ base h₀ L m s Q E
  intro B F X T hk hd hu hH hQ
  refine wpAny_call ?_
  k_dflt walk_at "mine enter"
  k_steps
  rename_i l1 h1 hl1 h2 F1 N1 h3 tk3 t1 t2 t3 hr F2 N2 hk2
  refine ⟨_, 0, 32, _, _, _, _, _, fun i m' news' => ∃ tf its k, m' (Str.ofString "flags") = some (.int (flLeft x i) tf) ∧ m' (Str.ofString "names") = some (.ref l1) ∧ news' = [(l1, PySem.W.listOf (List.toArray its) k)] ∧ StrsAre its (flNames x i) ∧ flLeft x i ≠ 0, rfl, hr, by decide, F2, N2, ?_, ?_, ?_⟩
  · have e : flLeft x 0 = x := by unfold flLeft; simp
    refine ⟨tx, [], 0, ?_, ?_, rfl, .nil, by rw [e]; exact hx0⟩
    · rw [e]; rfl
    · rfl
  · rintro i v t m₁ news₁ h4 tk4 I io hi rfl ⟨tf, its, k, e1, e2, rfl, hss, hne⟩ hnI hIL F3 N3
    rw [canon2 e1 e2] at F3
    generalize m₁ = u at F3
    have hI : @Ne Nat l1 I := hnI _ (.head _)
    have hhx := hex_size hi
    have hlen : its.length ≤ 32 := by have := hss.length; have := flNames_len x i; omega
    simp only [Int.zero_add]
    k_steps
    · (with_reducible rename Builtin.bitAnd _ _ ≠ 0 => hb); (with_reducible rename Builtin.bitXor _ _ ≠ 0 => hb2)
      have htb : x.testBit i = true := by
        rw [flag_and] at hb
        exact Decidable.byContradiction fun q => hb (if_neg q)
      rw [flag_xor htb] at hb2
      refine ⟨_, _, _, [(l1, _)], rfl, by assumption, by assumption, ?_, _, its ++ [.str (flagName i) _], k + 1, congrArg (fun z => some (Value.int z _)) (flag_xor htb), rfl, congrArg (fun a => [(l1, PySem.W.listOf a (k + 1))]) (List.push_toArray _ _), ?_, ?_⟩
      · intro p hp; rw [List.mem_singleton.mp hp]; exact hI
      · rw [flNames_succ, if_pos htb]; exact StrsAre.snoc hss _ _
      · intro q; rw [q] at hb2; exact hb2 rfl
    · (with_reducible rename Builtin.bitAnd _ _ ≠ 0 => hb); (with_reducible rename Builtin.bitXor _ _ = 0 => hb2)
      have htb : x.testBit i = true := by
        rw [flag_and] at hb
        exact Decidable.byContradiction fun q => hb (if_neg q)
      rw [flag_xor htb] at hb2
      have hB := flB (x := x) (i := i) (Nat.le_of_lt hi) (flagName_len hi)
      have hlen2 := flNames_len x i
      have hsep : (Str.ofString ", ").length = 2 := rfl
      dsimp only [StepEnd]
      k_steps
      have hz : flLeft x (i + 1) = 0 := by omega
      refine hQ _ _ _ (fun b o e => Fr.keep (by assumption) b o e) ⟨_, congrArg (Value.str · _) ?_⟩
      rw [prettyL_brk (Nat.succ_le_of_lt hi) hz, flNames_succ, if_pos htb]
    · (with_reducible rename Builtin.bitAnd _ _ = 0 => hb)
      have htb : x.testBit i = false := by
        rw [flag_and] at hb
        cases q : x.testBit i with
        | false => rfl
        | true => rw [if_pos q] at hb; exact absurd hb (by have := Nat.two_pow_pos i; omega)
      refine ⟨_, _, _, [(l1, _)], rfl, by assumption, by assumption, ?_, _, its, k, congrArg (fun z : Nat => some (Value.int z tf)) (flLeft_same htb).symm, rfl, rfl, ?_, ?_⟩
      · intro p hp; rw [List.mem_singleton.mp hp]; exact hI
      · rw [flNames_succ, htb]; simpa using hss
      · rw [flLeft_same htb]; exact hne
  · rintro h4 tk4 m₁ news₁ F3 N3 ⟨tf, its, k, e1, e2, rfl, hss, hne⟩
    rw [canon2 e1 e2] at F3
    generalize m₁ = u at F3
    have hlen : its.length ≤ 32 := by have := hss.length; have := flNames_len x 32; omega
    have hhx := hex_hi hy
    have hB := flB (x := x) (i := 32) (Nat.le_refl _) hhx
    have hlen2 := flNames_len x 32
    have hsep : (Str.ofString ", ").length = 2 := rfl
    k_steps
    refine hQ _ _ _ (fun b o e => Fr.keep (by assumption) b o e) ⟨_, congrArg (Value.str · _) ?_⟩
    unfold prettyL
    rw [if_neg (fun q => hne (flLeft_div.mpr q))]
end
end
-- Fn5
section
theorem strs_eq {ws : List Value} {zs xs : List Str} (h : StrsAre ws zs) (e : zs = xs) : StrsAre ws xs := e ▸ h
section
theorem rowsFn50 : True := by
  k_with_none
  k_with "hcOn" => skip
  k_with "hcN" => (first | exact ⟨default⟩ | exact ⟨{}⟩ | exact ⟨Mine.w0⟩ | exact ⟨[]⟩ | exact ⟨⟨default, default, default, default⟩⟩ | (refine Nonempty.intro ?_; constructor <;> first | exact default | exact {} | exact [] | exact #[]))
  k_with "hcI" => (refine (Mine.hc_all ?_ ((?_ : Mine.AllOf _) _) : Mine.AllOf _); k_extra "hcN")
  k_with "hcI2" => (((fail_if_success (fail_if_success (with_reducible refine (?_ : Mine.AllP2 _)))); refine (Mine.hc_all2 ?_ ?_ ((?_ : Mine.AllP2 _) _ _) : Mine.AllP2 _); k_extra "hcN"; k_extra "hcN"))
  k_with "hcI3" => (((fail_if_success (fail_if_success (with_reducible refine (?_ : Mine.AllP3 _)))); refine (Mine.hc_all3 ?_ ?_ ?_ ((?_ : Mine.AllP3 _) _ _ _) : Mine.AllP3 _); k_extra "hcN"; k_extra "hcN"; k_extra "hcN"))
  k_with "hcI4" => (((fail_if_success (fail_if_success (with_reducible refine (?_ : Mine.AllP4 _)))); refine (Mine.hc_all4 ?_ ?_ ?_ ?_ ((?_ : Mine.AllP4 _) _ _ _ _) : Mine.AllP4 _); k_extra "hcN"; k_extra "hcN"; k_extra "hcN"; k_extra "hcN"))
  k_with "hcX" => (first | (refine ((?_ : Mine.AndK hN _) (And.left hN) (And.right hN))) | (refine ((?_ : Mine.ExK hN _) _ (Mine.hc_ex ?_ hN)); rotate_left; k_extra "hcN") | (refine ((?_ : Mine.ExK hN _) default (Mine.hc_ex ?_ hN)); rotate_left; k_extra "hcN"))
  k_with "hcC" => (refine (Mine.pf hN).casesOn ?_; clear hN)
  k_with "k_fold" => skip
  k_with "mine enter" => (refine' code_pure (by k_asm) (by k_asm) (by k_asm) (by k_asm) (by exact rfl) (by exact rfl) (by assumption) (by k_is) (by k_is) (by ktr_room) (by exact BindsTo.of_eq rfl) (by exact locs rfl) ?_ (by exact rfl) (by exact rfl) (by exact rfl) (by decide); k_whole; intro _ _ _ _ _ _ _; (try dsimp only))
  k_with "ks" => repeat' (first | (k_unfold; (try dsimp only); skip) | (k_end; wrow_close) | walk1 | (dsimp only; walk1) | (leave1; walk_say "STEP leave1"; try dsimp only) | fail "no step")
  k_with "exec For" => (k_here; k_dflt (refine' For_range (by k_asm) rfl ?_))
  k_with "exec For Name Call cons nil" => (k_here; k_dflt (refine' For_range (by k_asm) rfl ?_))
  k_with "exec While BoolOp" => (k_here; k_dflt (refine' While_ready (by k_asm) (by first | passes_own | with_unfolding_all passes_own) ?_))
  k_with "compareOp Eq ref ref" => (k_here; k_dflt (refine' of_rcEq (rc_strs (by first | exact Heap.IsList.at (by assumption) (fun o e => Fr.keep (by assumption) _ o e)) (by exact Heap.IsList.at (by assumption) (fun o e => Fr.keep (by assumption) _ o e)) (by assumption) (by assumption) (by ktr_units)) ?_))
  k_with "subscriptTail Name Slice ref ref" => (k_here; k_dflt (refine' slice_strs (by k_asm) (by k_asm) (by kmk_list) (by assumption) (by kmk_part) (by kmk_part) ?_ (by with_unfolding_all rfl) (by kmk_pure) (by (first | assumption | omega))); intro _ _ _ _ rwhZq rwhCq _ _ rwl1 _; (try k_lt rwl1); (try simp only [cut_from, cut_all] at rwhZq); (first | rw [cutN_from] at rwhCq | rw [cutN_all] at rwhCq | rw [cutN_neg (by omega)] at rwhCq | skip); (try k_sweep); (try dsimp only))
  k_with "subscriptTail" => (k_here; (with_reducible show wpAny _ _ (subscriptTail _ _ (Value.ref _) (Value.int _ _)) _ _ _); (k_dflt (refine' item_strs (by kmk_list) (by assumption) (by omega) (by omega) (by omega) ?_ (by with_unfolding_all rfl); k_whole); intro _ _ _; (try dsimp only)))
  k_with "subscriptTail Name Name ref int" => (k_here; (with_reducible show wpAny _ _ (subscriptTail _ _ (Value.ref _) (Value.int _ _)) _ _ _); (k_dflt (refine' item_strs (by kmk_list) (by assumption) (by omega) (by omega) (by omega) ?_ (by with_unfolding_all rfl); k_whole); intro _ _ _; (try dsimp only)))
  k_with "subscriptTail Name BinOp ref int" => (k_here; (with_reducible show wpAny _ _ (subscriptTail _ _ (Value.ref _) (Value.int _ _)) _ _ _); (k_dflt (refine' item_strs (by kmk_list) (by assumption) (by omega) (by omega) (by omega) ?_ (by with_unfolding_all rfl); k_whole); intro _ _ _; (try dsimp only)))
  k_with "truthy ref" => (k_here; k_dflt (refine' truthy_strs (by kmk_list) (by assumption) (by omega) ?_; k_whole; (try dsimp only)))
  k_with "call builtin:len" => (k_here; k_dflt (refine' len_strs (by kmk_list) (by assumption) (by omega) ?_; k_whole; (try dsimp only)))
  k_with "call type:list" => (k_here; (with_reducible rename IsRange _ _ _ _ _ _ _ _ => hRg); k_dflt (refine' list_evens (by exact rfl) (by k_asm) (by k_asm) (by with_unfolding_all exact hRg) (by rfl) (by omega) ?_; k_whole); intro _ _ _ _ _ _ _ rwl1 _; (try k_lt rwl1); (try k_sweep); (try dsimp only))
  k_with "call ref" => (k_here; (with_reducible show wpAny _ _ (call (Value.ref 56) _) _ _ _); k_dflt (refine' use_pure (c_sub _ _ _ _ (by exact len_is (by assumption) (by assumption)) (by exact len_is (by assumption) (by assumption))) (by k_asm) (by k_asm) (by k_asm) (by k_asm) (by k_asm) (by exact rfl) (by ktr_room) (by ktr_units) (by trivial) ?_; k_whole; intro _ _ _ _ rwPq _ _; obtain ⟨_, rwPq⟩ := rwPq; subst rwPq; (try k_sweep); (try dsimp only)))
  trivial
namespace Hc_lev
noncomputable abbrev hTy := Program × World × Addr × Addr × List Value × List Value × List Str × List Str × Int × Tok × Program × List Str × (ExcName → Option Value) × (Str → Option Value) × (Str → Option Value) × Nat × Nat × Option (List Code) × Str × Scope × Addr × Value × (List (Str × Addr)) × List Env × Around × Heap × Heap × Addr × (Str → Option Value) × Shared × (Value → Shared → Prop) × (Value → Shared → Prop)
noncomputable def hSt (c : hTy) : Prop := (fun (prog : Program) (w : World) (la : Addr) (lb : Addr) (va : List Value) (vb : List Value) (aw : List Str) (bw : List Str) (mx : Int) (tm : Tok) (p : Program) (loose : List Str) (mean : ExcName → Option Value) (mg : Str → Option Value) (mb : Str → Option Value) (dp : Nat) (un : Nat) (gd : Option (List Code)) (cn : Str) (cs : Scope) (a : Addr) (ccd : Value) (cl : List (Str × Addr)) (outer : List Env) (A₀ : Around) (base : Heap) (h₀ : Heap) (L : Addr) (m : Str → Option Value) (s : Shared) (Q : Value → Shared → Prop) (E : Value → Shared → Prop) => ∀ (hA : StrsAre va aw) (hB : StrsAre vb bw) (hna : aw.length ≤ 40) (hnb : bw.length ≤ 40) (hla : ∀ x ∈ aw, x.length ≤ 100) (hlb : ∀ x ∈ bw, x.length ≤ 100) (hab : aw ≠ bw) (hta : 0 < (trimmed aw bw).1.length) (htb : 0 < (trimmed aw bw).2.length), (PCallAt p loose mean mg mb dp un gd cn cs a ccd cl outer A₀ base h₀ L m s Q E prog w 63 [.ref la, .ref lb, .int mx tm] 3 40 (fun H => H.IsList la va.toArray ∧ H.IsList lb vb.toArray) (fun _ v _ => ∃ t r, v = .int r t ∧ LevPost mx aw bw r) : Prop)) c.1 c.2.1 c.2.2.1 c.2.2.2.1 c.2.2.2.2.1 c.2.2.2.2.2.1 c.2.2.2.2.2.2.1 c.2.2.2.2.2.2.2.1 c.2.2.2.2.2.2.2.2.1 c.2.2.2.2.2.2.2.2.2.1 c.2.2.2.2.2.2.2.2.2.2.1 c.2.2.2.2.2.2.2.2.2.2.2.1 c.2.2.2.2.2.2.2.2.2.2.2.2.1 c.2.2.2.2.2.2.2.2.2.2.2.2.2.1 c.2.2.2.2.2.2.2.2.2.2.2.2.2.2.1 c.2.2.2.2.2.2.2.2.2.2.2.2.2.2.2.1 c.2.2.2.2.2.2.2.2.2.2.2.2.2.2.2.2.1 c.2.2.2.2.2.2.2.2.2.2.2.2.2.2.2.2.2.1 c.2.2.2.2.2.2.2.2.2.2.2.2.2.2.2.2.2.2.1 c.2.2.2.2.2.2.2.2.2.2.2.2.2.2.2.2.2.2.2.1 c.2.2.2.2.2.2.2.2.2.2.2.2.2.2.2.2.2.2.2.2.1 c.2.2.2.2.2.2.2.2.2.2.2.2.2.2.2.2.2.2.2.2.2.1 c.2.2.2.2.2.2.2.2.2.2.2.2.2.2.2.2.2.2.2.2.2.2.1 c.2.2.2.2.2.2.2.2.2.2.2.2.2.2.2.2.2.2.2.2.2.2.2.1 c.2.2.2.2.2.2.2.2.2.2.2.2.2.2.2.2.2.2.2.2.2.2.2.2.1 c.2.2.2.2.2.2.2.2.2.2.2.2.2.2.2.2.2.2.2.2.2.2.2.2.2.1 c.2.2.2.2.2.2.2.2.2.2.2.2.2.2.2.2.2.2.2.2.2.2.2.2.2.2.1 c.2.2.2.2.2.2.2.2.2.2.2.2.2.2.2.2.2.2.2.2.2.2.2.2.2.2.2.1 c.2.2.2.2.2.2.2.2.2.2.2.2.2.2.2.2.2.2.2.2.2.2.2.2.2.2.2.2.1 c.2.2.2.2.2.2.2.2.2.2.2.2.2.2.2.2.2.2.2.2.2.2.2.2.2.2.2.2.2.1 c.2.2.2.2.2.2.2.2.2.2.2.2.2.2.2.2.2.2.2.2.2.2.2.2.2.2.2.2.2.2.1 c.2.2.2.2.2.2.2.2.2.2.2.2.2.2.2.2.2.2.2.2.2.2.2.2.2.2.2.2.2.2.2
theorem hNe : Nonempty hTy := ⟨default, w0, (0 : Nat), (0 : Nat), [], [], [], [], 0, (0 : Nat), default, [], (fun _ => none), (fun _ => none), (fun _ => none), 0, 0, none, Str.empty, default, (0 : Nat), default, [], [], {}, default, default, (0 : Nat), (fun _ => none), {}, (fun _ => (fun _ => False)), (fun _ => (fun _ => False))⟩
noncomputable def hCc : hTy := @Classical.epsilon hTy hNe fun x => ¬ hSt x
@[irreducible] noncomputable def prog : Program := hCc.1
@[irreducible] noncomputable def w : World := hCc.2.1
@[irreducible] noncomputable def la : Addr := hCc.2.2.1
@[irreducible] noncomputable def lb : Addr := hCc.2.2.2.1
@[irreducible] noncomputable def va : List Value := hCc.2.2.2.2.1
@[irreducible] noncomputable def vb : List Value := hCc.2.2.2.2.2.1
@[irreducible] noncomputable def aw : List Str := hCc.2.2.2.2.2.2.1
@[irreducible] noncomputable def bw : List Str := hCc.2.2.2.2.2.2.2.1
@[irreducible] noncomputable def mx : Int := hCc.2.2.2.2.2.2.2.2.1
@[irreducible] noncomputable def tm : Tok := hCc.2.2.2.2.2.2.2.2.2.1
@[irreducible] noncomputable def p : Program := hCc.2.2.2.2.2.2.2.2.2.2.1
@[irreducible] noncomputable def loose : List Str := hCc.2.2.2.2.2.2.2.2.2.2.2.1
@[irreducible] noncomputable def mean : ExcName → Option Value := hCc.2.2.2.2.2.2.2.2.2.2.2.2.1
@[irreducible] noncomputable def mg : Str → Option Value := hCc.2.2.2.2.2.2.2.2.2.2.2.2.2.1
@[irreducible] noncomputable def mb : Str → Option Value := hCc.2.2.2.2.2.2.2.2.2.2.2.2.2.2.1
@[irreducible] noncomputable def dp : Nat := hCc.2.2.2.2.2.2.2.2.2.2.2.2.2.2.2.1
@[irreducible] noncomputable def un : Nat := hCc.2.2.2.2.2.2.2.2.2.2.2.2.2.2.2.2.1
@[irreducible] noncomputable def gd : Option (List Code) := hCc.2.2.2.2.2.2.2.2.2.2.2.2.2.2.2.2.2.1
@[irreducible] noncomputable def cn : Str := hCc.2.2.2.2.2.2.2.2.2.2.2.2.2.2.2.2.2.2.1
@[irreducible] noncomputable def cs : Scope := hCc.2.2.2.2.2.2.2.2.2.2.2.2.2.2.2.2.2.2.2.1
@[irreducible] noncomputable def a : Addr := hCc.2.2.2.2.2.2.2.2.2.2.2.2.2.2.2.2.2.2.2.2.1
@[irreducible] noncomputable def ccd : Value := hCc.2.2.2.2.2.2.2.2.2.2.2.2.2.2.2.2.2.2.2.2.2.1
@[irreducible] noncomputable def cl : List (Str × Addr) := hCc.2.2.2.2.2.2.2.2.2.2.2.2.2.2.2.2.2.2.2.2.2.2.1
@[irreducible] noncomputable def outer : List Env := hCc.2.2.2.2.2.2.2.2.2.2.2.2.2.2.2.2.2.2.2.2.2.2.2.1
@[irreducible] noncomputable def A₀ : Around := hCc.2.2.2.2.2.2.2.2.2.2.2.2.2.2.2.2.2.2.2.2.2.2.2.2.1
@[irreducible] noncomputable def base : Heap := hCc.2.2.2.2.2.2.2.2.2.2.2.2.2.2.2.2.2.2.2.2.2.2.2.2.2.1
@[irreducible] noncomputable def h₀ : Heap := hCc.2.2.2.2.2.2.2.2.2.2.2.2.2.2.2.2.2.2.2.2.2.2.2.2.2.2.1
@[irreducible] noncomputable def L : Addr := hCc.2.2.2.2.2.2.2.2.2.2.2.2.2.2.2.2.2.2.2.2.2.2.2.2.2.2.2.1
@[irreducible] noncomputable def m : Str → Option Value := hCc.2.2.2.2.2.2.2.2.2.2.2.2.2.2.2.2.2.2.2.2.2.2.2.2.2.2.2.2.1
@[irreducible] noncomputable def s : Shared := hCc.2.2.2.2.2.2.2.2.2.2.2.2.2.2.2.2.2.2.2.2.2.2.2.2.2.2.2.2.2.1
@[irreducible] noncomputable def Q : Value → Shared → Prop := hCc.2.2.2.2.2.2.2.2.2.2.2.2.2.2.2.2.2.2.2.2.2.2.2.2.2.2.2.2.2.2.1
@[irreducible] noncomputable def E : Value → Shared → Prop := hCc.2.2.2.2.2.2.2.2.2.2.2.2.2.2.2.2.2.2.2.2.2.2.2.2.2.2.2.2.2.2.2
set_option maxRecDepth 100000 in
set_option maxHeartbeats 8000000 in
theorem hMain (hA : StrsAre va aw) (hB : StrsAre vb bw) (hna : aw.length ≤ 40) (hnb : bw.length ≤ 40) (hla : ∀ x ∈ aw, x.length ≤ 100) (hlb : ∀ x ∈ bw, x.length ≤ 100) (hab : aw ≠ bw) (hta : 0 < (trimmed aw bw).1.length) (htb : 0 < (trimmed aw bw).2.length) : PCallAt p loose mean mg mb dp un gd cn cs a ccd cl outer A₀ base h₀ L m s Q E prog w 63 [.ref la, .ref lb, .int mx tm] 3 40 (fun H => H.IsList la va.toArray ∧ H.IsList lb vb.toArray) (fun _ v _ => ∃ t r, v = .int r t ∧ LevPost mx aw bw r) := by
  intro B F X T hk hd hu hH hQ
  obtain ⟨hHa, hHb⟩ := hH
  refine wpAny_call ?_
  k_dflt walk_at "mine enter"
  rename_i Lf hf Ff Nf Bf Xf Tf
  k_extra "ks"
  all_goals (try (exact absurd (by assumption : aw = bw) hab))
  have hpl := pre_le aw bw
  refine ⟨_, _, fun n m' news' => m' (Str.ofString "a") = some (.ref la) ∧ m' (Str.ofString "b") = some (.ref lb) ∧ m' (Str.ofString "max_cost") = some (.int mx tm) ∧ news' = [] ∧ ∃ (k : Nat) (t : Tok), m' (Str.ofString "pre") = some (.int (k : Int) t) ∧ k ≤ pre aw bw ∧ n + k = 100,
    fun m' news' => m' (Str.ofString "a") = some (.ref la) ∧ m' (Str.ofString "b") = some (.ref lb) ∧ m' (Str.ofString "max_cost") = some (.int mx tm) ∧ news' = [] ∧ ∃ (t : Tok), m' (Str.ofString "pre") = some (.int (pre aw bw : Nat) t), 100, by assumption, by assumption, ⟨rfl, rfl, rfl, rfl, 0, _, rfl, Nat.zero_le _, rfl⟩, ?_, ?_⟩
  · rintro n m₁ news₁ h₁ tk₁ F₁ N₁ ⟨e1, e2, e3, rfl, k, t, e4, hk1, hk2⟩
    rw [canon2 e1 e2] at F₁
    rw [canon2 e3 e4] at F₁
    generalize m₁ = um at F₁
    k_extra "ks"
    · have hlt : k + 1 ≤ pre aw bw := pre_go' hk1 (by omega) (by omega) (by assumption) (by assumption) (by assumption)
      exact ⟨rfl, _, _, _, _, 100 - (k + 1), rfl, by assumption, news_sub' (by assumption) (fun p hp => by cases hp), by omega, rfl, rfl, rfl, rfl, k + 1, _, rfl, hlt, by omega⟩
    all_goals have hs : k = pre aw bw := by first | exact pre_stop' hk1 (by omega) (by omega) (by assumption) (by assumption) (by assumption) | exact pre_end hk1 (by omega)
    all_goals exact ⟨_, _, _, _, rfl, by assumption, news_sub' (by assumption) (fun p hp => by cases hp), rfl, rfl, rfl, rfl, _, by rw [← hs]; rfl⟩
  · rintro h₂ tk₂ m₂ news₂ F₂ N₂ ⟨e1, e2, e3, rfl, t, e4⟩
    rw [canon2 e1 e2] at F₂
    rw [canon2 e3 e4] at F₂
    generalize m₂ = um at F₂
    k_extra "ks"
    revert rwhCq rwl1 rwhZq
    intro hne hB1 hC2
    revert rwhCq rwl1 rwhZq
    intro q0 hA1 hC1
    rename_i D1 ws1 A1 h3 hS1 h3b tkA D2 ws2 B1 h4 hS2 h5 h6 F4 N4
    have hpq := pre_le A1.reverse B1.reverse
    rw [List.length_reverse, List.length_reverse] at hpq
    refine ⟨_, _, fun n m' news' => m' (Str.ofString "a") = some (.ref D1) ∧ m' (Str.ofString "b") = some (.ref D2) ∧ m' (Str.ofString "max_cost") = some (.int mx tm) ∧ news' = [(D2, W.listOf ws2.toArray 0), (D1, W.listOf ws1.toArray 0)] ∧ ∃ (k : Nat) (p : Int) (t : Tok), m' (Str.ofString "post") = some (.int p t) ∧ p = -(k : Int) ∧ k ≤ pre A1.reverse B1.reverse ∧ n + k = 100,
      fun m' news' => m' (Str.ofString "a") = some (.ref D1) ∧ m' (Str.ofString "b") = some (.ref D2) ∧ m' (Str.ofString "max_cost") = some (.int mx tm) ∧ news' = [(D2, W.listOf ws2.toArray 0), (D1, W.listOf ws1.toArray 0)] ∧ ∃ (p : Int) (t : Tok), m' (Str.ofString "post") = some (.int p t) ∧ p = -(pre A1.reverse B1.reverse : Nat), 100, by assumption, by assumption, ⟨rfl, rfl, rfl, rfl, 0, 0, _, rfl, rfl, Nat.zero_le _, rfl⟩, ?_, ?_⟩
    · rintro n m₁ news₁ h₁ tk₁ F₁ N₁ ⟨e1, e2, e3, rfl, k, p, t, e4, hp, hk1, hk2⟩
      rw [canon2 e1 e2] at F₁
      rw [canon2 e3 e4] at F₁
      generalize m₁ = um at F₁
      k_extra "ks"
      all_goals first
        | (exfalso; omega)
        | (have hlt : k + 1 ≤ pre A1.reverse B1.reverse := pre_go_r hp hk1 (by omega) (by omega) (by assumption) (by assumption) (by assumption)
           exact ⟨rfl, _, _, _, _, 100 - (k + 1), rfl, by assumption, news_sub' (by assumption) (fun q hq => List.mem_cons_of_mem _ (List.mem_cons_of_mem _ hq)), by omega, rfl, rfl, rfl, rfl, k + 1, _, _, rfl, by omega, hlt, by omega⟩)
        | (have hs : k = pre A1.reverse B1.reverse := by first | exact pre_stop_r hp hk1 (by omega) (by omega) (by assumption) (by assumption) (by assumption) | exact pre_end_r hk1 (by omega)
           exact ⟨_, _, _, _, rfl, by assumption, news_sub' (by assumption) (fun q hq => by first | exact List.mem_cons_of_mem _ (List.mem_cons_of_mem _ hq) | exact List.mem_cons_of_mem _ hq), rfl, rfl, rfl, rfl, _, _, rfl, by omega⟩)
    · rintro h₂ tk₂ m₂ news₂ F₂ N₂ ⟨e1, e2, e3, rfl, p, t, e4, hp⟩
      rw [canon2 e1 e2] at F₂
      rw [canon2 e3 e4] at F₂
      generalize m₂ = um at F₂
      obtain ⟨A2, hA2⟩ : ∃ z, z = A1.take (A1.length - pre A1.reverse B1.reverse) := ⟨_, rfl⟩
      obtain ⟨B2, hB2⟩ : ∃ z, z = B1.take (B1.length - pre A1.reverse B1.reverse) := ⟨_, rfl⟩
      have hA2l : A2.length = A1.length - pre A1.reverse B1.reverse := by rw [hA2]; simp
      have hB2l : B2.length = B1.length - pre A1.reverse B1.reverse := by rw [hB2]; simp
      have cA : p < 0 → cut A1 none (some p) = A2 := fun h => by rw [hp, cut_upto_neg _ _ (by omega), hA2]
      have cB : p < 0 → cut B1 none (some p) = B2 := fun h => by rw [hp, cut_upto_neg _ _ (by omega), hB2]
      have cA0 : p = 0 → A1 = A2 := fun h => by rw [hA2, List.take_of_length_le (by omega)]
      have cB0 : p = 0 → B1 = B2 := fun h => by rw [hB2, List.take_of_length_le (by omega)]
      dsimp only
      refine wpAny_execs_cons (wpAny_mono (Q := fun f s1 => f = Flow.next ∧ At s.heap Lf s (fun m' news' => ∃ D3 ws3, m' (Str.ofString "a") = some (.ref D3) ∧ m' (Str.ofString "b") = some (.ref D2) ∧ m' (Str.ofString "max_cost") = some (.int mx tm) ∧ m' (Str.ofString "post") = some (.int p t) ∧ StrsAre ws3 A2 ∧ news' = [(D3, W.listOf (List.toArray ws3) 0), (D2, W.listOf ws2.toArray 0)] ∧ @Ne Nat D3 D2) s1) ?_ ?_ (fun _ _ y => y))
      · k_extra "ks"
        all_goals (with_reducible rename StrsAre _ _ => S9)
        all_goals exact ⟨_, _, _, [(_, W.listOf (List.toArray _) 0), (D2, W.listOf ws2.toArray 0)], rfl, by assumption, news_two (by assumption), _, _, rfl, rfl, rfl, rfl, strs_eq S9 (by first | exact (by assumption : _ = cut A1 none (some p)).trans (cA (by omega)) | exact (by assumption : _ = A1).trans (cA0 (by omega))), rfl, by k_ne⟩
      rintro f s₂ ⟨rfl, h₄, tk₄, m₄, news₄, rfl, F₄, N₄, D3, ws3, e1, e2, e3, e4, hS3, rfl, hn3⟩
      rw [canon2 e1 e2] at F₄
      rw [canon2 e3 e4] at F₄
      generalize m₄ = um at F₄
      dsimp only
      refine wpAny_execs_cons (wpAny_mono (Q := fun f s1 => f = Flow.next ∧ At s.heap Lf s (fun m' news' => ∃ D4 ws4, m' (Str.ofString "a") = some (.ref D3) ∧ m' (Str.ofString "b") = some (.ref D4) ∧ m' (Str.ofString "max_cost") = some (.int mx tm) ∧ StrsAre ws4 B2 ∧ news' = [(D4, W.listOf (List.toArray ws4) 0), (D3, W.listOf ws3.toArray 0)] ∧ @Ne Nat D4 D3) s1) ?_ ?_ (fun _ _ y => y))
      · k_extra "ks"
        all_goals (with_reducible rename StrsAre _ _ => S9)
        all_goals exact ⟨_, _, _, [(_, W.listOf (List.toArray _) 0), (D3, W.listOf ws3.toArray 0)], rfl, by assumption, news_two (by assumption), _, _, rfl, rfl, rfl, strs_eq S9 (by first | exact (by assumption : _ = cut B1 none (some p)).trans (cB (by omega)) | exact (by assumption : _ = B1).trans (cB0 (by omega))), rfl, by k_ne⟩
      rintro f s₂ ⟨rfl, h₅, tk₅, m₅, news₅, rfl, F₅, N₅, D4, ws4, e1, e2, e3, hS4, rfl, hn4⟩
      rw [canon3 e1 e2 e3] at F₅
      generalize m₅ = um at F₅
      have hA2l' : A2.length ≤ 40 := by omega
      have hB2l' : B2.length ≤ 40 := by omega
      clear hS1 hS2 F₄ N₄ F₂ N₂ cA cB cA0 cB0 hpq e1 e2 e3 e4
      have g1 : 0 < A2.length := by rw [hA2, hA1, hB1]; exact hta
      have g2 : 0 < B2.length := by rw [hB2, hA1, hB1]; exact htb
      dsimp only
      refine wpAny_execs_cons (wpAny_mono (Q := fun f s1 => f = Flow.next ∧ At s.heap Lf s (fun m' news' => m' (Str.ofString "a") = some (.ref D3) ∧ m' (Str.ofString "b") = some (.ref D4) ∧ m' (Str.ofString "max_cost") = some (.int mx tm) ∧ news' = [(D4, W.listOf (List.toArray ws4) 0), (D3, W.listOf ws3.toArray 0)]) s1) ?_ ?_ (fun _ _ y => y))
      · k_extra "ks"
        exact ⟨_, _, _, _, rfl, by assumption, by assumption, rfl, rfl, rfl, rfl⟩
      clear F₅ N₅
      rintro f s₂ ⟨rfl, h₅, tk₅, m₅, news₅, rfl, F₅, N₅, e1, e2, e3, rfl⟩
      rw [canon3 e1 e2 e3] at F₅
      generalize m₅ = um at F₅
      dsimp only
      refine wpAny_execs_cons (wpAny_mono (Q := fun f s1 => f = Flow.next ∧ At s.heap Lf s (fun m' news' => m' (Str.ofString "a") = some (.ref D3) ∧ m' (Str.ofString "b") = some (.ref D4) ∧ m' (Str.ofString "max_cost") = some (.int mx tm) ∧ news' = [(D4, W.listOf (List.toArray ws4) 0), (D3, W.listOf ws3.toArray 0)]) s1) ?_ ?_ (fun _ _ y => y))
      · k_extra "ks"
        exact ⟨_, _, _, _, rfl, by assumption, by assumption, rfl, rfl, rfl, rfl⟩
      clear F₅ N₅ e1 e2 e3
      rintro f s₂ ⟨rfl, h₅, tk₅, m₅, news₅, rfl, F₅, N₅, e1, e2, e3, rfl⟩
      rw [canon3 e1 e2 e3] at F₅
      generalize m₅ = um at F₅
      dsimp only
      refine wpAny_execs_cons (wpAny_mono (Q := fun f s1 => f = Flow.next ∧ At s.heap Lf s (fun m' news' => ∃ DA DB wa wb XA XB, m' (Str.ofString "a") = some (.ref DA) ∧ m' (Str.ofString "b") = some (.ref DB) ∧ m' (Str.ofString "max_cost") = some (.int mx tm) ∧ StrsAre wa XA ∧ StrsAre wb XB ∧ XA.length ≤ XB.length ∧ ((XA = A2 ∧ XB = B2) ∨ (XA = B2 ∧ XB = A2)) ∧ @Ne Nat DB DA ∧ news' = [(DB, W.listOf (List.toArray wb) 0), (DA, W.listOf (List.toArray wa) 0)]) s1) ?_ ?_ (fun _ _ y => y))
      · k_extra "ks"
        · exact ⟨_, _, _, [(D3, W.listOf (List.toArray ws3) 0), (D4, W.listOf (List.toArray ws4) 0)], rfl, by assumption, news_sub' (by assumption) (by intro q hq; simp only [List.mem_cons, List.not_mem_nil, or_false] at hq ⊢; rcases hq with rfl | rfl <;> simp), _, _, ws4, ws3, B2, A2, rfl, rfl, rfl, by assumption, by assumption, by omega, .inr ⟨rfl, rfl⟩, Ne.symm hn4, rfl⟩
        · exact ⟨_, _, _, _, rfl, by assumption, by assumption, _, _, ws3, ws4, A2, B2, rfl, rfl, rfl, by assumption, by assumption, by omega, .inl ⟨rfl, rfl⟩, hn4, rfl⟩
      clear F₅ N₅ e1 e2 e3
      rintro f s₂ ⟨rfl, h₅, tk₅, m₅, news₅, rfl, F₅, N₅, DA, DB, wa, wb, XA, XB, e1, e2, e3, hSA, hSB, hle, hXX, hnD, rfl⟩
      rw [canon3 e1 e2 e3] at F₅
      generalize m₅ = um at F₅
      have hXA : 0 < XA.length ∧ XA.length ≤ 40 := by rcases hXX with ⟨rfl, rfl⟩ | ⟨rfl, rfl⟩ <;> omega
      have hXB : 0 < XB.length ∧ XB.length ≤ 40 := by rcases hXX with ⟨rfl, rfl⟩ | ⟨rfl, rfl⟩ <;> omega
      have hXAb : ∀ y ∈ XA, y.length ≤ 100 := fun y hy => by
        rcases hXX with ⟨rfl, rfl⟩ | ⟨rfl, rfl⟩
        · rw [hA2, hA1] at hy; exact hla y (List.mem_of_mem_drop (List.mem_of_mem_take hy))
        · rw [hB2, hB1] at hy; exact hlb y (List.mem_of_mem_drop (List.mem_of_mem_take hy))
      have hXBb : ∀ y ∈ XB, y.length ≤ 100 := fun y hy => by
        rcases hXX with ⟨rfl, rfl⟩ | ⟨rfl, rfl⟩
        · rw [hB2, hB1] at hy; exact hlb y (List.mem_of_mem_drop (List.mem_of_mem_take hy))
        · rw [hA2, hA1] at hy; exact hla y (List.mem_of_mem_drop (List.mem_of_mem_take hy))
      have hXX' : (XA = (trimmed aw bw).1 ∧ XB = (trimmed aw bw).2) ∨ (XA = (trimmed aw bw).2 ∧ XB = (trimmed aw bw).1) := by rw [hA2, hB2, hA1, hB1] at hXX; exact hXX
      clear hA2l hB2l hA2l' hB2l' hC1 hC2 hS3 hS4 hp e1 e2 e3
      dsimp only
      k_extra "ks"
      · exact hQ _ _ _ (fun b o e => Fr.keep (by assumption) b o e) ⟨_, _, rfl, XA, XB, hle, hXX', .inl ⟨by assumption, rfl⟩⟩
      rename_i DR us c0 h7 tk7 hIR h8 h9 F7 N7 h10 tk10 t1 t2 t3 hr F8 N8 hk8
      clear F7 N7
      refine ⟨_, 0, XB.length, _, _, _, _, _, fun j m' news' => m' (Str.ofString "a") = some (.ref DA) ∧ m' (Str.ofString "b") = some (.ref DB) ∧ m' (Str.ofString "max_cost") = some (.int mx tm) ∧ m' (Str.ofString "row") = some (.ref DR) ∧
        ∃ t rs c, m' (Str.ofString "result") = some (.int (resAt XA XB j) t) ∧ IntsAre rs (rowAt XA XB j) ∧ news' = [(DR, W.listOf (List.toArray rs) c), (DB, W.listOf (List.toArray wb) 0), (DA, W.listOf (List.toArray wa) 0)],
        rfl, by rw [Int.zero_add]; exact hr, small_upto (by omega), F8, N8, ⟨rfl, rfl, rfl, rfl, _, us, c0, rfl, hIR, rfl⟩, ?_, ?_⟩
      · rintro j v t m₁ news₁ h₁ tk₁ I io hj rfl ⟨e1, e2, e3, e4, t5, rs, c, e5, hrs, rfl⟩ hnI hIL F3 N3
        rw [canon2 e1 e2] at F3
        rw [canon3 e3 e4 e5] at F3
        generalize m₁ = um at F3
        have hI1 : @Ne Nat DR I := hnI _ (.head _)
        have hI2 : @Ne Nat DB I := hnI _ (.tail _ (.head _))
        have hI3 : @Ne Nat DA I := hnI _ (.tail _ (.tail _ (.head _)))
        have hrl : (rowAt XA XB j).length = XA.length := rowAt_len _ _ _
        simp only [Int.zero_add]
        k_extra "ks"
        rename_i bc tb hBC q1 q3 q4 q6 F9 N9 h11 tk11 t7 t8 t9 hr2 F10 N10 hk11
        clear F9 N9
        have ebc : bc = XB.getD j Str.empty := by rw [hBC.eq, if_neg (by omega), Int.toNat_natCast]
        refine ⟨_, 0, XA.length, _, _, _, _, _, fun i m' news' => m' (Str.ofString "a") = some (.ref DA) ∧ m' (Str.ofString "b") = some (.ref DB) ∧ m' (Str.ofString "max_cost") = some (.int mx tm) ∧ m' (Str.ofString "row") = some (.ref DR) ∧ m' (Str.ofString "bchar") = some (.str bc tb) ∧
          ∃ σ td tr tl rs c, σ = inn bc XA (rowAt XA XB j) ((j : Int) * 2) i ∧ m' (Str.ofString "distance") = some (.int σ.d td) ∧ m' (Str.ofString "result") = some (.int σ.r tr) ∧ m' (Str.ofString "minimum") = some (.int σ.low tl) ∧ IntsAre rs σ.row ∧
            news' = [(I, io), (DR, W.listOf (List.toArray rs) c), (DB, W.listOf (List.toArray wb) 0), (DA, W.listOf (List.toArray wa) 0)],
          rfl, by rw [Int.zero_add]; exact hr2, small_upto (by omega), F10, N10, ⟨rfl, rfl, rfl, rfl, rfl, _, _, _, _, rs, c, rfl, rfl, rfl, rfl, hrs, rfl⟩, ?_, ?_⟩
        · clear hk11 F10 N10 hr2 F3 N3 hk8 hr
          rintro i v t m₁ news₁ h₁ tk₁ I2 io2 hi rfl ⟨e1, e2, e3, e4, e5, σ, td, tr, tl, rs, c, hσ, e6, e7, e8, hrs, rfl⟩ hnI hIL F3 N3
          obtain ⟨d, r, lo, row, rfl⟩ : ∃ d r lo row, σ = St.mk d r lo row := ⟨_, _, _, _, rfl⟩
          dsimp only at e6 e7 e8 hrs
          rw [canon2 e1 e2] at F3
          rw [canon3 e3 e4 e5] at F3
          rw [canon3 e6 e7 e8] at F3
          generalize m₁ = um at F3
          have hJ0 : @Ne Nat I I2 := hnI _ (.head _)
          have hJ1 : @Ne Nat DR I2 := hnI _ (.tail _ (.head _))
          have hJ2 : @Ne Nat DB I2 := hnI _ (.tail _ (.tail _ (.head _)))
          have hJ3 : @Ne Nat DA I2 := hnI _ (.tail _ (.tail _ (.tail _ (.head _))))
          have hrl' : row.length = XA.length := by rw [show row = (inn bc XA (rowAt XA XB j) ((j : Int) * 2) i).row from by rw [← hσ], inn_len]; exact hrl
          simp only [Int.zero_add]
          k_extra "ks"
          all_goals (with_reducible rename Is _ (XA.getD _ _) => hX)
          all_goals rename IntsAre _ _ => hrs2
          · exact ⟨_, _, _, [(I, io), (DR, _), (DB, W.listOf (List.toArray wb) 0), (DA, W.listOf (List.toArray wa) 0)], rfl, by assumption, by assumption, (by intro p hp; simp only [List.mem_cons, List.not_mem_nil, or_false] at hp; rcases hp with rfl | rfl | rfl | rfl <;> (dsimp only; assumption)), rfl, rfl, rfl, rfl, rfl, _, _, _, _, _, _, inn_next hσ hX (if_pos (by assumption)).symm, rfl, rfl, rfl, hrs2, rfl⟩
          · exact ⟨_, _, _, [(I, io), (DR, _), (DB, W.listOf (List.toArray wb) 0), (DA, W.listOf (List.toArray wa) 0)], rfl, by assumption, by assumption, (by intro p hp; simp only [List.mem_cons, List.not_mem_nil, or_false] at hp; rcases hp with rfl | rfl | rfl | rfl <;> (dsimp only; assumption)), rfl, rfl, rfl, rfl, rfl, _, _, _, _, _, _, inn_next hσ hX (if_neg (by assumption)).symm, rfl, rfl, rfl, hrs2, rfl⟩
        · clear hk11 F10 N10 hr2 F3 N3 hk8 hr
          rintro h₁ tk₁ m₁ news₁ F3 N3 ⟨e1, e2, e3, e4, e5, σ, td, tr, tl, rs, c, hσ, e6, e7, e8, hrs, rfl⟩
          obtain ⟨d, r, lo, row, rfl⟩ : ∃ d r lo row, σ = St.mk d r lo row := ⟨_, _, _, _, rfl⟩
          dsimp only at e6 e7 e8 hrs
          rw [canon2 e1 e2] at F3
          rw [canon3 e3 e4 e5] at F3
          rw [canon3 e6 e7 e8] at F3
          generalize m₁ = um at F3
          rw [ebc] at hσ
          have hσ' : St.mk d r lo row = endAt XA XB j := hσ
          k_extra "ks"
          · dsimp only [StepEnd]
            k_extra "ks"
            exact hQ _ _ _ (fun b o e => Fr.keep (by assumption) b o e) ⟨_, _, rfl, XA, XB, hle, hXX', .inr ⟨by assumption, .inl ⟨j, hj, by rw [← hσ']; assumption, rfl⟩⟩⟩
          · exact ⟨_, _, _, [(DR, _), (DB, W.listOf (List.toArray wb) 0), (DA, W.listOf (List.toArray wa) 0)], rfl, by assumption, by assumption, (by intro p hp; simp only [List.mem_cons, List.not_mem_nil, or_false] at hp; rcases hp with rfl | rfl | rfl <;> (dsimp only; assumption)), rfl, rfl, rfl, rfl, _, rs, c, (by show _ = some (Value.int (endAt XA XB j).r _); rw [← hσ']; rfl), (by show IntsAre _ (endAt XA XB j).row; rw [← hσ']; exact hrs), rfl⟩
      · rintro h₁ tk₁ m₁ news₁ F3 N3 ⟨e1, e2, e3, e4, t5, rs, c, e5, hrs, rfl⟩
        rw [canon2 e1 e2] at F3
        rw [canon3 e3 e4 e5] at F3
        generalize m₁ = um at F3
        k_extra "ks"
        exact hQ _ _ _ (fun b o e => Fr.keep (by assumption) b o e) ⟨_, _, rfl, XA, XB, hle, hXX', .inr ⟨by assumption, .inr rfl⟩⟩
end Hc_lev
theorem c_lev {prog : Program} {w : World} (la lb : Addr) (va vb : List Value) (aw bw : List Str) (hA : StrsAre va aw) (hB : StrsAre vb bw) (hna : aw.length ≤ 40) (hnb : bw.length ≤ 40) (hla : ∀ x ∈ aw, x.length ≤ 100) (hlb : ∀ x ∈ bw, x.length ≤ 100) (mx : Int) (tm : Tok) (hab : aw ≠ bw) (hta : 0 < (trimmed aw bw).1.length) (htb : 0 < (trimmed aw bw).2.length) : PCall prog w 63 [.ref la, .ref lb, .int mx tm] 3 40 (fun H => H.IsList la va.toArray ∧ H.IsList lb vb.toArray) (fun _ v _ => ∃ t r, v = .int r t ∧ LevPost mx aw bw r) := fun p loose mean mg mb dp un gd cn cs a ccd cl outer A₀ base h₀ L m s Q E => hen Hc_lev.hSt Hc_lev.hNe (by with_unfolding_all exact Hc_lev.hMain) (prog, w, la, lb, va, vb, aw, bw, mx, tm, p, loose, mean, mg, mb, dp, un, gd, cn, cs, a, ccd, cl, outer, A₀, base, h₀, L, m, s, Q, E) hA hB hna hnb hla hlb hab hta htb
end
end
-- FnA
section
theorem rowsFnA0 : True := by
  k_with_none
  k_with "hcOn" => skip
  k_with "hcN" => (first | exact ⟨default⟩ | exact ⟨{}⟩ | exact ⟨Mine.w0⟩ | exact ⟨[]⟩ | exact ⟨⟨default, default, default, default⟩⟩ | (refine Nonempty.intro ?_; constructor <;> first | exact default | exact {} | exact [] | exact #[]))
  k_with "hcI" => (refine (Mine.hc_all ?_ ((?_ : Mine.AllOf _) _) : Mine.AllOf _); k_extra "hcN")
  k_with "hcI2" => (((fail_if_success (fail_if_success (with_reducible refine (?_ : Mine.AllP2 _)))); refine (Mine.hc_all2 ?_ ?_ ((?_ : Mine.AllP2 _) _ _) : Mine.AllP2 _); k_extra "hcN"; k_extra "hcN"))
  k_with "hcI3" => (((fail_if_success (fail_if_success (with_reducible refine (?_ : Mine.AllP3 _)))); refine (Mine.hc_all3 ?_ ?_ ?_ ((?_ : Mine.AllP3 _) _ _ _) : Mine.AllP3 _); k_extra "hcN"; k_extra "hcN"; k_extra "hcN"))
  k_with "hcI4" => (((fail_if_success (fail_if_success (with_reducible refine (?_ : Mine.AllP4 _)))); refine (Mine.hc_all4 ?_ ?_ ?_ ?_ ((?_ : Mine.AllP4 _) _ _ _ _) : Mine.AllP4 _); k_extra "hcN"; k_extra "hcN"; k_extra "hcN"; k_extra "hcN"))
  k_with "hcX" => (first | (refine ((?_ : Mine.AndK hN _) (And.left hN) (And.right hN))) | (refine ((?_ : Mine.ExK hN _) _ (Mine.hc_ex ?_ hN)); rotate_left; k_extra "hcN") | (refine ((?_ : Mine.ExK hN _) default (Mine.hc_ex ?_ hN)); rotate_left; k_extra "hcN"))
  k_with "hcC" => (refine (Mine.pf hN).casesOn ?_; clear hN)
  k_with "k_fold" => skip
  k_with "mine enter" => (refine' code_pure (by k_asm) (by k_asm) (by k_asm) (by k_asm) (by exact rfl) (by exact rfl) (by assumption) (by k_is) (by k_is) (by ktr_room) (by exact BindsTo.of_eq rfl) (by exact locs rfl) ?_ (by exact rfl) (by exact rfl) (by exact rfl) (by decide); k_whole; intro L' h' F' N' B' X' T'; (try dsimp only); (try k_fold))
  trivial
set_option maxRecDepth 100000 in
set_option maxHeartbeats 8000000 in
theorem c_ops : ∀ {prog : Program} {w : World}, PCall prog w 200 [] 1 8 (fun _ => True) fun H v h' => NewL H v h' fun vs => StrsAre vs (Txt.split "( ) [ ] : , ; + - * / | & < > = . % { } == != <= >= ~ ^ << >> ** += -= *= /= %= &= |= ^= <<= >>= **= // //= @ @= -> ... := !" " ") := by
  intro prog w
  refine (pc_all ((?g : PcAll _) _ _ _ _ _ _ _ _ _ _ _ _ _ _ _ _ _ _ _ _ _ _) : PcAll _)
  intros p loose mean mg mb dp un gd cn cs a ccd cl outer A₀ base h₀ L m s Q E
  intro B F X T hk hd hu hH hQ
  refine wpAny_call ?_
  k_dflt walk_at "mine enter"
  k_steps
  refine hQ _ _ _ (fun b o e => Fr.keep (by assumption) b o e) (newL (by assumption) (by k_mem) ?_)
  (with_reducible rename StrsAre _ _ => hs); (with_reducible rename List.map _ _ = Txt.split _ _ => he)
  rw [he] at hs; simpa using hs

noncomputable def nm10 : List Str := [{ cps := #[79, 80, 84, 73, 77, 73, 90, 69, 68] }, { cps := #[78, 69, 87, 76, 79, 67, 65, 76, 83] }, { cps := #[86, 65, 82, 65, 82, 71, 83] }, { cps := #[86, 65, 82, 75, 69, 89, 87, 79, 82, 68, 83] }, { cps := #[78, 69, 83, 84, 69, 68] }, { cps := #[71, 69, 78, 69, 82, 65, 84, 79, 82] }, { cps := #[78, 79, 70, 82, 69, 69] }, { cps := #[67, 79, 82, 79, 85, 84, 73, 78, 69] }, { cps := #[73, 84, 69, 82, 65, 66, 76, 69, 95, 67, 79, 82, 79, 85, 84, 73, 78, 69] }, { cps := #[65, 83, 89, 78, 67, 95, 71, 69, 78, 69, 82, 65, 84, 79, 82] }]
theorem nm10_eq : ∀ y : Nat, y < 10 → nm10.getD (y : Int).toNat Str.empty = flagName y := by decide +kernel
theorem nm22_eq : ∀ y : Nat, y < 32 → ¬ y < 10 → Str.ofString "0x" ++ Txt.item (Str.ofString "1248") ((y : Int).fmod 4) ++ Txt.mul (Str.ofString "0") ((y : Int).fdiv 4) = flagName y := by decide +kernel
set_option maxRecDepth 100000 in
set_option maxHeartbeats 8000000 in
theorem c_name : ∀ {prog : Program} {w : World} (x : Nat) (tx : Tok) (hx : x < 32), PCall prog w 212 [.int x tx] 1 8 (fun _ => True) fun _ v _ => ∃ t, v = .str (flagName x) t := by
  intro prog w x tx hx
  refine (pc_all ((?g : PcAll _) _ _ _ _ _ _ _ _ _ _ _ _ _ _ _ _ _ _ _ _ _ _) : PcAll _)
  intros p loose mean mg mb dp un gd cn cs a ccd cl outer A₀ base h₀ L m s Q E
  intro B F X T hk hd hu hH hQ
  refine wpAny_call ?_
  k_dflt walk_at "mine enter"
  have h1 : (x : Int).fdiv 4 ≤ 7 := by rw [Int.fdiv_eq_ediv]; omega
  have h2 : 0 ≤ (x : Int).fdiv 4 := by rw [Int.fdiv_eq_ediv]; omega
  k_steps
  · exact hQ _ _ _ (fun b o e => Fr.keep (by assumption) b o e) ⟨_, congrArg (Value.str · _) (nm10_eq x (by omega))⟩
  · exact hQ _ _ _ (fun b o e => Fr.keep (by assumption) b o e) ⟨_, congrArg (Value.str · _) (nm22_eq x hx (by omega))⟩
end
-- FnG
theorem noneHcFnG : True := by
  k_with_none
  trivial
section
set_option maxRecDepth 100000 in
theorem tok_tab {w : World} (i : Nat) (hi : i < 48) : nsIn (hd.heap_39 w.params) 47 (opWord i) = some (some (.int ((i : Int) + 7) (332 + 2 * i))) := by
  have h : (List.range 48).map (fun i => nsIn (hd.heap_39 w.params) 47 (opWord i)) = (List.range 48).map (fun i => some (some (.int (((i : Nat) : Int) + 7) (332 + 2 * i)))) := by kernel_rfl
  have h2 : ∀ l l' : List (Option (Option Value)), l = l' → l[i]? = l'[i]? := fun _ _ e => by rw [e]
  replace h2 := h2 _ _ h
  rw [List.getElem?_map, List.getElem?_map, List.getElem?_range hi] at h2
  exact Option.some.inj h2
set_option maxRecDepth 100000 in
set_option maxHeartbeats 8000000 in
theorem get_tok {prog : Program} {w : World} {A : Around} {p : Program} {loose : List Str} {mean : ExcName → Option Value} {mg mb : Str → Option Value} {h₀ : Heap} {L : Addr} {m : Str → Option Value} {news : List (Addr × Obj)} {s : Shared} {Q E : Value → Shared → Prop}
    (X : (hd.heap_39 w.params).In h₀) (F : Fr h₀ L s.heap m) (N : News h₀ L s.heap news) (T : Top p loose mean mg mb h₀) (i : Nat) (hi : i < 48) (t : Tok) (h : ∀ t' k, Q (.int ((i : Int) + 7) t') { s with toks := k }) :
    wpAny (model prog w) A (getItem (.ref 47) (.str (opWord i) t)) Q E s := by
  refine' topGetDict_K F X ?l ?k (tok_tab i hi) (h _ _)
  case l => k_is
  case k => k_keys
end
-- FnR
section
noncomputable def valOf (i : Nat) : Str := spell (opWord i) ++ "\""
noncomputable def partOf (p : Str × Nat) : Str := p.1 ++ "=\"" ++ valOf p.2
theorem unspell : ∀ i, i < 48 → Txt.replace (Txt.replace (Txt.slice (valOf i) none (some (-1))) "&lt;" "<") "&amp;" "&" = opWord i ∧ (valOf i).length ≤ 20 ∧ (Txt.slice (valOf i) none (some (-1))).length ≤ 20 ∧ (Txt.replace (Txt.slice (valOf i) none (some (-1))) "&lt;" "<").length ≤ 20 := by decide +kernel
theorem strs_at {vs : List Value} {ss : List Str} (h : StrsAre vs ss) {i : Nat} {v : Value} (e : vs[i]? = some v) : ∃ x t, v = .str x t ∧ ss[i]? = some x := by
  induction h generalizing i with
  | nil => simp at e
  | cons x t _ ih =>
    cases i with
    | zero => simp at e; exact ⟨x, t, e.symm, rfl⟩
    | succ i => simp at e; exact ih e
theorem slice_le (x : Str) (l u : Option Int) : (Txt.slice x l u).length ≤ x.length := PyProof.Txt.length_slice_le x l u
theorem obj_at {K : Frag} {h : Heap} {a : Addr} {o : Obj} (X : K.In h) (e : K.lookup a = some o) (hc : o.cls = .type "dict") : ∃ o, h.get? a = some o ∧ o.cls = .type "dict" := ⟨o, X _ _ e, hc⟩
set_option maxRecDepth 100000 in
theorem d47 {w : World} {h : Heap} (X : (hd.heap_39 w.params).In h) : ∃ o, h.get? 47 = some o ∧ o.cls = .type "dict" := by
  refine' obj_at X ?a ?b
  case a => rfl
  case b => rfl
theorem sub47 {prog : Program} {w : World} {A : Around} {p : Program} {loose : List Str} {mean : ExcName → Option Value} {mg mb : Str → Option Value} {h₀ : Heap} {L : Addr} {m : Str → Option Value} {news : List (Addr × Obj)} {s : Shared} {Q E : Value → Shared → Prop} {value slice : Expr} {y : Str} {t : Tok}
    (X : (hd.heap_39 w.params).In h₀) (F : Fr h₀ L s.heap m) (N : News h₀ L s.heap news) (T : Top p loose mean mg mb h₀) {i : Nat} (hy : y = opWord i) (hi : i < 48) (h : ∀ t' k, Q (.int ((i : Int) + 7) t') { s with toks := k })
    (hs : subscripted slice false (.ref 47) (.str y t) = operate [.ref 47, .str y t] (getItem (.ref 47) (.str y t))) : wpAny (model prog w) A (subscriptTail value slice (.ref 47) (.str y t)) Q E s := by
  obtain ⟨o, ho, hc⟩ := d47 (X.keeps F.keep)
  refine tail_any (T := "dict") ⟨o, ho, hc⟩ PySem.F.slot_dict_getitem.lookup ?_ hs
  rw [hy]
  exact get_tok X F N T i hi t h
theorem IntsAre.snoc'' {vs : List Value} {ns : List Int} (h : IntsAre vs ns) (x : Int) (t : Tok) : IntsAre (vs ++ [.int x t]) (ns ++ [x]) := by
  induction h with
  | nil => exact .cons x t .nil
  | cons y t' _ ih => exact .cons y t' ih
/-- what _law_read gives back -/
noncomputable def ReadOut (H : Heap) (v : Value) (h' : Heap) (ns : List Str) (ps : List Int) : Prop :=
  ∃ q la lb n va vb na nb mb, v = Value.ref q ∧ H.get? q = none ∧ H.get? la = none ∧ H.get? lb = none ∧ h'.get? q = some ({ cls := .type "tuple", data := .seq #[.ref la, .ref lb] n } : Obj) ∧ h'.get? la = some (W.listOf (List.toArray va) na) ∧ h'.get? lb = some (W.listOf (List.toArray vb) nb) ∧
    StrsAre va ns ∧ IntsAre vb mb ∧ mb.Perm ps ∧ mb.Pairwise (· ≤ ·) ∧ @Ne Nat q la ∧ @Ne Nat q lb ∧ @Ne Nat la lb
theorem readOut {H h' : Heap} {L' : Addr} {news : List (Addr × Obj)} {q la lb : Addr} {n na nb : Nat} {va vb : List Value} {ns : List Str} {mb ps : List Int} (N : News H L' h' news) (h1 : (q, ({ cls := .type "tuple", data := .seq #[.ref la, .ref lb] n } : Obj)) ∈ news)
    (h2 : (la, W.listOf (List.toArray va) na) ∈ news) (h3 : (lb, W.listOf (List.toArray vb) nb) ∈ news) (i1 : StrsAre va ns) (i2 : IntsAre vb mb) (p2 : mb.Perm ps) (s2 : mb.Pairwise (· ≤ ·)) (n1 : @Ne Nat q la) (n2 : @Ne Nat q lb) (n3 : @Ne Nat la lb) : ReadOut H (.ref q) h' ns ps :=
  ⟨q, la, lb, n, va, vb, na, nb, mb, rfl, (N _ h1).2.2, (N _ h2).2.2, (N _ h3).2.2, (N _ h1).1, (N _ h2).1, (N _ h3).1, i1, i2, p2, s2, n1, n2, n3⟩
section
theorem rowsFnR0 : True := by
  k_with_none
  k_with "hcOn" => skip
  k_with "hcN" => (first | exact ⟨default⟩ | exact ⟨{}⟩ | exact ⟨Mine.w0⟩ | exact ⟨[]⟩ | exact ⟨⟨default, default, default, default⟩⟩ | (refine Nonempty.intro ?_; constructor <;> first | exact default | exact {} | exact [] | exact #[]))
  k_with "hcI" => (refine (Mine.hc_all ?_ ((?_ : Mine.AllOf _) _) : Mine.AllOf _); k_extra "hcN")
  k_with "hcI2" => (((fail_if_success (fail_if_success (with_reducible refine (?_ : Mine.AllP2 _)))); refine (Mine.hc_all2 ?_ ?_ ((?_ : Mine.AllP2 _) _ _) : Mine.AllP2 _); k_extra "hcN"; k_extra "hcN"))
  k_with "hcI3" => (((fail_if_success (fail_if_success (with_reducible refine (?_ : Mine.AllP3 _)))); refine (Mine.hc_all3 ?_ ?_ ?_ ((?_ : Mine.AllP3 _) _ _ _) : Mine.AllP3 _); k_extra "hcN"; k_extra "hcN"; k_extra "hcN"))
  k_with "hcI4" => (((fail_if_success (fail_if_success (with_reducible refine (?_ : Mine.AllP4 _)))); refine (Mine.hc_all4 ?_ ?_ ?_ ?_ ((?_ : Mine.AllP4 _) _ _ _ _) : Mine.AllP4 _); k_extra "hcN"; k_extra "hcN"; k_extra "hcN"; k_extra "hcN"))
  k_with "hcX" => (first | (refine ((?_ : Mine.AndK hN _) (And.left hN) (And.right hN))) | (refine ((?_ : Mine.ExK hN _) _ (Mine.hc_ex ?_ hN)); rotate_left; k_extra "hcN") | (refine ((?_ : Mine.ExK hN _) default (Mine.hc_ex ?_ hN)); rotate_left; k_extra "hcN"))
  k_with "hcC" => (refine (Mine.pf hN).casesOn ?_; clear hN)
  k_with "k_fold" => skip
  k_with "mine enter" => (refine' code_pure (by k_asm) (by k_asm) (by k_asm) (by k_asm) (by exact rfl) (by exact rfl) (by assumption) (by k_is) (by k_is) (by ktr_room) (by exact BindsTo.of_eq rfl) (by exact locs rfl) ?_ (by exact rfl) (by exact rfl) (by exact rfl) (by decide); k_whole; intro _ _ _ _ _ _ _; (try dsimp only))
  k_with "exec For" => (k_here; k_dflt (refine' For_list (by k_asm) rfl ?_))
  k_with "exec For Name Call cons nil" => (k_here; k_dflt (refine' For_list (by k_asm) rfl ?_))
  k_with "execs cons" => ((with_reducible refine wpAny_execs_cons ?_); try dsimp only)
  k_with "call builtin:str.split" => (k_here; first
  | (k_dflt (refine' split_two (by k_asm) (by k_asm) (by rfl) (by assumption) (by omega) ?_; k_whole); intro D q8 tk8 _ _ F8 N8 rwl1; (try k_lt rwl1); (try k_sweep); (try dsimp only))
  | (k_dflt (refine' split_one (by k_asm) (by k_asm) (by rfl) (by assumption) (by exact Nat.le_trans (slice_le _ _ _) (by omega)) ?_; k_whole); intro D _ q8 tk8 F8 N8 rwl1 _; (try k_lt rwl1); (try k_sweep); (try dsimp only)))
  k_with "subscriptTail Name Slice str ref" => (k_here; (with_reducible show wpAny _ _ (subscriptTail _ (Expr.Slice none (some _) none _) _ _) _ _ _); (with_unfolding_all refine' slice_ns_k (s := ⟨_, _, _, _, _⟩) (by k_asm) (by k_asm) ?_ (by with_unfolding_all rfl) (by (intro _; with_unfolding_all rfl)) (by omega); k_whole); intro _ _ _ rwhkq _ _; (try k_sweep); (try dsimp only at rwhkq); (try dsimp only))
  k_with "call builtin:str.replace" => (k_here; k_dflt (refine' rep_k (by (show @Ne Nat _ 0; omega)) (by (show @Ne Nat _ 0; omega)) (by (show @Ne Nat _ _; omega)) (by decide) (by omega) (by decide) ?_; k_whole); intro _ _ rwhkq; (try dsimp only at rwhkq); (try dsimp only))
  k_with "subscriptTail" => (k_here; (with_reducible show wpAny _ _ (subscriptTail _ _ (Value.ref 47) (Value.str _ _)) _ _ _); k_dflt (refine' sub47 (by k_asm) (by k_asm) (by k_asm) (by k_asm) (by assumption) (by assumption) ?_ (by with_unfolding_all rfl); k_whole); intro _ _; (try dsimp only))
  k_with "subscriptTail Name Call ref str" => (k_here; (with_reducible show wpAny _ _ (subscriptTail _ _ (Value.ref 47) (Value.str _ _)) _ _ _); k_dflt (refine' sub47 (by k_asm) (by k_asm) (by k_asm) (by k_asm) (by assumption) (by assumption) ?_ (by with_unfolding_all rfl); k_whole); intro _ _; (try dsimp only))
  k_with "subscriptTail Name Call" => (k_here; (with_reducible show wpAny _ _ (subscriptTail _ _ (Value.ref 47) (Value.str _ _)) _ _ _); k_dflt (refine' sub47 (by k_asm) (by k_asm) (by k_asm) (by k_asm) (by assumption) (by assumption) ?_ (by with_unfolding_all rfl); k_whole); intro _ _; (try dsimp only))
  trivial
set_option maxRecDepth 100000 in
set_option maxHeartbeats 8000000 in
theorem c_read : ∀ {prog : Program} {w : World} (x : Str) (tx : Tok) (its : List (Str × Nat)) (hx : Txt.split (Txt.slice x (some 3) (some (-5))) " " = its.map partOf) (hlen : its.length ≤ 40) (hi : ∀ p ∈ its, p.2 < 48 ∧ p.1.length ≤ 40) (hs : ∀ p ∈ its, Txt.splitMax (partOf p) "=\"" 1 = [p.1, valOf p.2]) (hxl : x.length ≤ 5000), PCall prog w 243 [.str x tx] 2 30 (fun _ => True) (fun H v h' => ReadOut H v h' (its.map (·.1)) (its.map fun p => (p.2 : Int))) := by
  intro prog w x tx its hx hlen hi hs hxl
  refine (pc_all ((?g : PcAll _) _ _ _ _ _ _ _ _ _ _ _ _ _ _ _ _ _ _ _ _ _ _) : PcAll _)
  intros p loose mean mg mb dp un gd cn cs a ccd cl outer A₀ base h₀ L m s Q E
  intro B F X T hk hd hu hH hQ
  refine wpAny_call ?_
  k_dflt walk_at "mine enter"
  rename_i Lf hf Ff Nf Bf Xf Tf
  k_steps
  rename_i ln q1 q2 q3 lp q4 q5 q6 q6b t1 q7 q8a ws hS
  have hwl : ws.length = its.length := by rw [hS.length]; simp
  clear hx
  refine ⟨D, ws, _, _, fun i m' news' => m' (Str.ofString "names") = some (.ref ln) ∧ m' (Str.ofString "places") = some (.ref lp) ∧
    ∃ vs us kn kp, StrsAre vs ((its.take i).map (·.1)) ∧ IntsAre us ((its.take i).map fun p => (p.2 : Int)) ∧ news' = [(D, W.listOf (List.toArray ws) 0), (lp, W.listOf (List.toArray us) kp), (ln, W.listOf (List.toArray vs) kn)],
    rfl, F8, N8, ⟨rfl, rfl, [], [], 0, 0, .nil, .nil, rfl⟩, ?_, ?_, ?_⟩
  · rintro i m' news' h' ⟨_, _, vs, us, kn, kp, _, _, rfl⟩ F' N'
    exact ⟨_, (N' _ (.head _)).1, rfl, _, rfl⟩
  · rintro i v m₁ news₁ h₁ tk₁ I io hv ⟨e1, e2, vs, us, kn, kp, hvs, hus, rfl⟩ hnI hIL F3 N3
    obtain ⟨y, ty, rfl, hy⟩ := strs_at hS hv
    rw [List.getElem?_map] at hy
    obtain ⟨pp, hpp, rfl⟩ := Option.map_eq_some_iff.mp hy
    have hmem : pp ∈ its := List.mem_of_getElem? hpp
    obtain ⟨hp1, hp2⟩ := hi pp hmem
    have hsp := hs pp hmem
    obtain ⟨hu1, hu2, hu3, hu4⟩ := unspell pp.2 hp1
    have hpl : (partOf pp).length ≤ 100 := by
      unfold partOf
      rw [app_len, app_len]
      have e2 : (Str.ofString "=\"").length = 2 := by decide
      omega
    rw [canon2 e1 e2] at F3
    generalize m₁ = um at F3
    have hI1 : @Ne Nat D I := hnI _ (.head _)
    have hI2 : @Ne Nat lp I := hnI _ (.tail _ (.head _))
    have hI3 : @Ne Nat ln I := hnI _ (.tail _ (.tail _ (.head _)))
    have hvl := hvs.length
    have hul := hus.length
    rw [List.length_map, List.length_take] at hvl hul
    k_steps
    (with_reducible rename News _ _ _ _ => N9)
    rw [List.push_toArray, List.push_toArray] at N9
    have tk1 : ∀ {β : Type} (f : Str × Nat → β), (its.take (i + 1)).map f = (its.take i).map f ++ [f pp] := fun f => by
      rw [List.take_add_one, hpp, Option.toList_some, List.map_append]; rfl
    refine ⟨_, _, _, _, rfl, by assumption, fun q hq => N9 q (.tail _ hq), ?_, rfl, rfl, vs ++ [_], us ++ [_], _, _, ?_, ?_, rfl⟩
    · intro q hq
      simp only [List.mem_cons, List.not_mem_nil, or_false] at hq
      rcases hq with rfl | rfl | rfl <;> (dsimp only; assumption)
    · rw [tk1]; exact StrsAre.snoc hvs _ _
    · rw [tk1, show ((pp.2 : Int) + 7 - 7) = (pp.2 : Int) from by omega]; exact IntsAre.snoc'' hus _ _
  · rintro h' tk' m' news' F' N' ⟨e1, e2, vs, us, kn, kp, hvs, hus, rfl⟩
    rw [hwl, List.take_length] at hvs hus
    rw [canon2 e1 e2] at F'
    generalize m' = um at F'
    have hul := hus.length
    rw [List.length_map] at hul
    k_steps
    exact hQ _ _ _ (fun b o e => Fr.keep (by assumption) b o e) (readOut (by assumption) (.head _) (by k_mem) (by k_mem) hvs (by assumption) (by assumption) (by assumption) (by k_ne) (by k_ne) (by k_ne))
end
end
-- LibY
theorem noneHcLibY : True := by
  k_with_none
  trivial
section
section
variable {prog : Program} {w : World} {s : Shared} {L : Addr} {h₀ base : Heap} {m mg mb : Str → Option Value} {p : Program} {loose : List Str} {mean : ExcName → Option Value} {news : List (Addr × Obj)} {Q E : Value → Shared → Prop}
theorem three_on {h' : Heap} {q la lb : Addr} {a b c : Obj} (F : Fr h₀ L s.heap m) (N : News h₀ L s.heap news) (st : s.heap.StaysIn h') (hq : s.heap.get? q = none) (ha : s.heap.get? la = none) (hb : s.heap.get? lb = none) (gq : h'.get? q = some a) (ga : h'.get? la = some b) (gb : h'.get? lb = some c) :
    Fr h₀ L h' m ∧ News h₀ L h' ((q, a) :: (la, b) :: (lb, c) :: news) ∧ AllNe q news ∧ AllNe la news ∧ AllNe lb news ∧ @Ne Nat q L ∧ @Ne Nat la L ∧ @Ne Nat lb L := by
  have N' : News h₀ L h' news := fun p hp => ⟨st _ _ (N p hp).1, (N p hp).2⟩
  obtain ⟨n1, b1, c1⟩ := on_ledger F N hq gq N'
  obtain ⟨n2, b2, c2⟩ := on_ledger F N ha ga N'
  obtain ⟨n3, b3, c3⟩ := on_ledger F N hb gb N'
  refine ⟨⟨F.ns.at' fun o e => st _ o e, fun b o e => st b o (F.keep b o e), F.above⟩, fun p hp => ?_, b1, b2, b3, c1, c2, c3⟩
  rcases List.mem_cons.mp hp with rfl | hp
  · exact n1 _ (.head _)
  rcases List.mem_cons.mp hp with rfl | hp
  · exact n2 _ (.head _)
  · exact n3 _ hp
theorem use_places {l : Addr} {vs : List Value} {ns : List Int} (hI : IntsAre vs ns) (hn : ns.length ≤ 63)
    {dp un : Nat} {gd : Option (List Code)} {cn : Str} {cs : Scope} {a : Addr} {ccd : Value} {cl : List (Str × Addr)} {outer : List Env} {A₀ : Around}
    (B : Below A₀ base outer h₀) (F : Fr h₀ L s.heap m) (X : (hd.heap_39 w.params).In h₀) (N : News h₀ L s.heap news) (T : Top p loose mean mg mb h₀) (hk : cs.kind = .function) (hd' : dp + 2 < recursionLimit) (hu : un + 30 < cLine) (hH : s.heap.IsList l vs.toArray)
    (h : ∀ q la lb n va vb na nb ma mb' h' tk', IntsAre va ma → ma.Perm (mineL ns) → ma.Pairwise (· ≤ ·) → IntsAre vb mb' → mb'.Perm (theirsL ns) → mb'.Pairwise (· ≤ ·) → Fr h₀ L h' m → News h₀ L h' ((q, ({ cls := .type "tuple", data := .seq #[.ref la, .ref lb] n } : Obj)) :: (la, W.listOf (List.toArray va) na) :: (lb, W.listOf (List.toArray vb) nb) :: news) → AllNe q news → AllNe la news → AllNe lb news → @Ne Nat q la ∧ @Ne Nat q lb ∧ @Ne Nat la lb → Q (.ref q) { s with heap := h', toks := tk' }) :
    wpAny (model prog w) (ktrTop dp un gd cn cs L a ccd cl outer) (call (.ref 219) [.ref l]) Q E s := by
  refine use_pure (c_places l vs ns hI hn) B F X N T hk hd' hu hH ?_
  intros v h' tk' st hh F' N'
  refine gfold ?_
  intros qq hqq
  rcases (hh) with ⟨q, la, lb, n, va, vb, na, nb, ma, mb', rfl, hq, ha, hb, gq, ga, gb, i1, p1, s1, i2, p2, s2, n1, n2, n3⟩
  refine hqq ?_
  clear hqq qq
  obtain ⟨F2, N2, a1, a2, a3, -, -, -⟩ := three_on F N st hq ha hb gq ga gb
  exact h q la lb n va vb na nb ma mb' h' tk' i1 p1 s1 i2 p2 s2 F2 N2 a1 a2 a3 ⟨n1, n2, n3⟩
theorem use_read {x : Str} {tx : Tok} {its : List (Str × Nat)} (hx : Txt.split (Txt.slice x (some 3) (some (-5))) " " = its.map partOf) (hlen : its.length ≤ 40) (hi : ∀ p ∈ its, p.2 < 48 ∧ p.1.length ≤ 40)
    (hs : ∀ p ∈ its, Txt.splitMax (partOf p) "=\"" 1 = [p.1, valOf p.2]) (hxl : x.length ≤ 5000)
    {dp un : Nat} {gd : Option (List Code)} {cn : Str} {cs : Scope} {a : Addr} {ccd : Value} {cl : List (Str × Addr)} {outer : List Env} {A₀ : Around}
    (B : Below A₀ base outer h₀) (F : Fr h₀ L s.heap m) (X : (hd.heap_39 w.params).In h₀) (N : News h₀ L s.heap news) (T : Top p loose mean mg mb h₀) (hk : cs.kind = .function) (hd' : dp + 2 < recursionLimit) (hu : un + 30 < cLine)
    (h : ∀ q la lb n va vb na nb mb' h' tk', StrsAre va (its.map (·.1)) → IntsAre vb mb' → mb'.Perm (its.map fun p => (p.2 : Int)) → mb'.Pairwise (· ≤ ·) → Fr h₀ L h' m → News h₀ L h' ((q, ({ cls := .type "tuple", data := .seq #[.ref la, .ref lb] n } : Obj)) :: (la, W.listOf (List.toArray va) na) :: (lb, W.listOf (List.toArray vb) nb) :: news) → AllNe q news → AllNe la news → AllNe lb news → @Ne Nat q la ∧ @Ne Nat q lb ∧ @Ne Nat la lb → Q (.ref q) { s with heap := h', toks := tk' }) :
    wpAny (model prog w) (ktrTop dp un gd cn cs L a ccd cl outer) (call (.ref 243) [.str x tx]) Q E s := by
  refine use_pure (c_read x tx its hx hlen hi hs hxl) B F X N T hk hd' hu trivial ?_
  intros v h' tk' st hh F' N'
  refine gfold ?_
  intros qq hqq
  rcases (hh) with ⟨q, la, lb, n, va, vb, na, nb, mb', rfl, hq, ha, hb, gq, ga, gb, i1, i2, p2, s2, n1, n2, n3⟩
  refine hqq ?_
  clear hqq qq
  obtain ⟨F2, N2, a1, a2, a3, -, -, -⟩ := three_on F N st hq ha hb gq ga gb
  exact h q la lb n va vb na nb mb' h' tk' i1 i2 p2 s2 F2 N2 a1 a2 a3 ⟨n1, n2, n3⟩
end
theorem pow_int (p : Nat) : (1 * 2 ^ ((p : Int)).toNat : Int) = ((2 ^ p : Nat) : Int) := by simp
/-- the relation of the shifts -/
noncomputable def ShiftIs (_ : Heap) (v y : Value) : Prop := ∀ p : Nat, (∃ t, v = Value.int (p : Int) t) → ∃ t, y = Value.int ((2 ^ p : Nat) : Int) t
theorem shift_end {p : Nat} {t t' : Tok} {hf : Heap} : ShiftIs hf (.int (p : Int) t) (.int (1 * 2 ^ ((p : Int)).toNat) t') := by
  rintro q ⟨t2, e⟩
  have h : p = q := by have := (Value.int.inj e).1; omega
  subst h
  exact ⟨t', by rw [pow_int]⟩
theorem ints_pow {H : Heap} {vs ys : List Value} {ms : List Nat} (hi : IntsAre vs (ms.map fun p : Nat => (p : Int))) (hp : Paired (ShiftIs H) vs ys) : IntsAre ys (ms.map fun p => ((2 ^ p : Nat) : Int)) := by
  induction ms generalizing vs ys with
  | nil => cases hi; cases hp; exact .nil
  | cons p ms ih =>
    cases hi with
    | cons _ t hi =>
      cases hp with
      | cons h hr =>
        obtain ⟨t', rfl⟩ := h p ⟨t, rfl⟩
        exact .cons _ _ (ih hi hr)
theorem item_at {prog : Program} {w : World} {A : Around} {E : Value → Shared → Prop} {s : Shared} {L : Addr} {h₀ : Heap} {news : List (Addr × Obj)} {value slice : Expr} {a : Addr} {vs : List Value} {n p : Nat} {u : Tok} {x : Value} {Q : Value → Shared → Prop} (N : News h₀ L s.heap news) (hm : (a, W.listOf vs.toArray n) ∈ news) (hx : vs[p]? = some x) (hp : p < 1000) (h : Q x s)
    (hs : subscripted slice false (.ref a) (.int (p : Int) u) = operate [.ref a, .int (p : Int) u] (getItem (.ref a) (.int (p : Int) u))) (hg : ∀ r, letTemporaryGo value (.ref a) r = pure ()) :
    wpAny (model prog w) A (subscriptTail value slice (.ref a) (.int (p : Int) u)) Q E s :=
  item_listL (PySem.IsL.isList (News.get N hm)) (by omega) (by omega) (by simpa using hx) h hs hg
theorem word_at {prog : Program} {w : World} {A : Around} {E : Value → Shared → Prop} {s : Shared} {L : Addr} {h₀ : Heap} {news : List (Addr × Obj)} {value slice : Expr} {a : Addr} {vs : List Value} {n p : Nat} {u : Tok} {Q : Value → Shared → Prop} (N : News h₀ L s.heap news) (hm : (a, W.listOf vs.toArray n) ∈ news) (hS : StrsAre vs opW) (hp : p < 32) (h : ∀ t', Q (.str (opWord p) t') s)
    (hs : subscripted slice false (.ref a) (.int (p : Int) u) = operate [.ref a, .int (p : Int) u] (getItem (.ref a) (.int (p : Int) u))) (hg : ∀ r, letTemporaryGo value (.ref a) r = pure ()) :
    wpAny (model prog w) A (subscriptTail value slice (.ref a) (.int (p : Int) u)) Q E s := by
  have hl := opW_len
  have e : opW[p]? = some (opWord p) := by simp [opWord, List.getD, show p < opW.length by omega]
  obtain ⟨t, ht⟩ := hS.at e
  exact item_at N hm ht (by omega) (h t) hs hg
theorem len_at {prog : Program} {w : World} {A : Around} {E : Value → Shared → Prop} {s : Shared} {L : Addr} {h₀ : Heap} {news : List (Addr × Obj)} {a : Addr} {vs : List Value} {c n : Nat} {Q : Value → Shared → Prop} (N : News h₀ L s.heap news) (hm : (a, W.listOf vs.toArray c) ∈ news) (hs : vs.length = n) (hf : n ≤ 1000) (h : Q (.int (n : Nat) (s.toks + 1)) { s with toks := s.toks + 1 + 1 }) :
    wpAny (model prog w) A (call (.builtin "len") [.ref a]) Q E s := by
  refine len_list (PySem.IsL.isList (News.get N hm)) (by rw [List.size_toArray]; omega) ?_
  rw [List.size_toArray, hs]; exact h
end
-- PlN
theorem noneHcPlN : True := by
  k_with_none
  trivial
section
noncomputable def bits (ms : List Nat) : Nat := (ms.map (2 ^ ·)).sum
theorem bits_cons (a : Nat) (r : List Nat) : bits (a :: r) = 2 ^ a + bits r := by simp [bits]
theorem bits_down {l : List Nat} : ∀ {n : Nat}, l.Pairwise (· > ·) → (∀ p ∈ l, p < n) → bits l < 2 ^ n := by
  induction l with
  | nil => intro n _ _; exact Nat.two_pow_pos n
  | cons a r ih =>
    intro n h hl
    have h1 := ih (List.pairwise_cons.mp h).2 (List.pairwise_cons.mp h).1
    have h2 : a < n := hl a (.head _)
    have h3 : 2 ^ (a + 1) ≤ 2 ^ n := Nat.pow_le_pow_right (by decide) h2
    rw [Nat.pow_succ] at h3
    rw [bits_cons]; omega
theorem one_bit (i : Nat) : Nat.testBit 1 i = decide (i = 0) := by
  cases i with
  | zero => rfl
  | succ n => simp [Nat.testBit_succ]
theorem bit_down {l : List Nat} (h : l.Pairwise (· > ·)) (i : Nat) : (bits l).testBit i = decide (i ∈ l) := by
  induction l with
  | nil => simp [bits]
  | cons a r ih =>
    have hp := List.pairwise_cons.mp h
    have h1 := bits_down hp.2 hp.1
    have e : bits (a :: r) = 2 ^ a * 1 + bits r := by rw [bits_cons]; omega
    rw [e, Nat.testBit_two_pow_mul_add _ h1]
    by_cases hi : i < a
    · rw [if_pos hi, ih hp.2, Bool.eq_iff_iff]
      simp only [decide_eq_true_iff, List.mem_cons]
      exact ⟨.inr, fun q => q.resolve_left (by omega)⟩
    · rw [if_neg hi, Bool.eq_iff_iff, decide_eq_true_iff, one_bit, decide_eq_true_iff, List.mem_cons]
      refine ⟨fun q => .inl (by omega), fun q => ?_⟩
      rcases q with q | q
      · omega
      · have := hp.1 i q; omega
theorem bits_rev (ms : List Nat) : bits ms.reverse = bits ms := by
  unfold bits
  rw [List.map_reverse, List.sum_reverse]
theorem rev_down {ms : List Nat} (h : ms.Pairwise (· < ·)) : ms.reverse.Pairwise (· > ·) := List.pairwise_reverse.mpr h
theorem bits_lt {ms : List Nat} (h : ms.Pairwise (· < ·)) (hl : ∀ p ∈ ms, p < 32) : bits ms < 2 ^ 32 := by
  rw [← bits_rev]
  exact bits_down (rev_down h) fun p hp => hl p (List.mem_reverse.mp hp)
theorem bits_bit {ms : List Nat} (h : ms.Pairwise (· < ·)) (i : Nat) : (bits ms).testBit i = decide (i ∈ ms) := by
  rw [← bits_rev, bit_down (rev_down h), Bool.eq_iff_iff, decide_eq_true_iff, decide_eq_true_iff, List.mem_reverse]
theorem sorted_ext {a b : List Nat} (ha : a.Pairwise (· < ·)) (hb : b.Pairwise (· < ·)) (h : ∀ x, x ∈ a ↔ x ∈ b) : a = b := by
  have na : a.Nodup := ha.imp fun q e => by omega
  have nb : b.Nodup := hb.imp fun q e => by omega
  exact (List.perm_ext_iff_of_nodup na nb |>.mpr h).eq_of_pairwise (fun x y _ _ h1 h2 => absurd h1 (by omega)) ha hb
theorem range_sorted (n : Nat) : (List.range n).Pairwise (· < ·) := List.pairwise_lt_range
theorem places_range {ms : List Nat} (h : ms.Pairwise (· < ·)) (hl : ∀ p ∈ ms, p < 32) : (List.range 32).filter (fun p => decide (p ∈ ms)) = ms :=
  sorted_ext ((range_sorted 32).filter _) h fun x => by
    rw [List.mem_filter, List.mem_range, decide_eq_true_iff]
    exact ⟨fun q => q.2, fun q => ⟨hl x q, q⟩⟩
theorem len_32 {ms : List Nat} (h : ms.Pairwise (· < ·)) (hl : ∀ p ∈ ms, p < 32) : ms.length ≤ 32 := by
  rw [← places_range h hl]
  exact Nat.le_trans (List.length_filter_le _ _) (by simp)
noncomputable def hiName (h : Nat) : Str := baseText "0x" 16 ((h * 2 ^ 32 : Nat) : Int)
theorem pretty_bits {ms : List Nat} (h : ms.Pairwise (· < ·)) (hl : ∀ p ∈ ms, p < 32) (k : Nat) : prettyL (bits ms + k * 2 ^ 32) = ms.map flagName ++ if k = 0 then [] else [hiName k] := by
  have hb := bits_lt h hl
  have hd : (bits ms + k * 2 ^ 32) / 2 ^ 32 = k := by
    rw [Nat.add_mul_div_right _ _ (Nat.two_pow_pos 32), Nat.div_eq_of_lt hb, Nat.zero_add]
  have hn : flNames (bits ms + k * 2 ^ 32) 32 = ms.map flagName := by
    unfold flNames
    congr 1
    refine (List.filter_congr fun i hi => ?_).trans (places_range h hl)
    rw [Nat.add_comm, Nat.mul_comm, Nat.testBit_two_pow_mul_add _ hb, if_pos (List.mem_range.mp hi), bits_bit h]
  unfold prettyL
  rw [hn, hd]
  unfold flLeft
  rw [hd]; rfl
/-- the places: what holds of the loops -/
structure InvM (p : List Int × List Int) : Prop where
  n1 : p.1.Nodup
  n2 : p.2.Nodup
  r : ∀ x ∈ p.1, 0 ≤ x ∧ x < 32
  sub : ∀ x ∈ p.2, x ∈ p.1
  a10 : (10 : Int) ∈ p.1
  a13 : (13 : Int) ∈ p.1
  a3 : (3 : Int) ∈ p.1
  b10 : (10 : Int) ∈ p.2
  b13 : (13 : Int) ∉ p.2
  b3 : (3 : Int) ∉ p.2
theorem fmod32 (x : Int) : 0 ≤ x.fmod 32 ∧ x.fmod 32 < 32 := ⟨Int.fmod_nonneg_of_pos x (by decide), Int.fmod_lt_of_pos x (by decide)⟩
theorem nodup_snoc {l : List Int} {y : Int} (h : l.Nodup) (hy : y ∉ l) : (l ++ [y]).Nodup :=
  List.nodup_append.mpr ⟨h, by simp, fun a ha b hb e => hy (by rw [List.mem_singleton.mp hb] at e; exact e ▸ ha)⟩
theorem invM_step {p : List Int × List Int} (I : InvM p) (x : Int) : InvM (stepM p x) := by
  unfold stepM
  split
  · exact I
  · rename_i hx
    have hx2 : x.fmod 32 ∉ p.2 := fun q => hx (I.sub _ q)
    refine ⟨nodup_snoc I.n1 hx, ?_, fun y hy => ?_, fun y hy => ?_, List.mem_append_left _ I.a10, List.mem_append_left _ I.a13, List.mem_append_left _ I.a3, ?_, fun q => ?_, fun q => ?_⟩
    · dsimp only; split
      · exact nodup_snoc I.n2 hx2
      · exact I.n2
    · rcases List.mem_append.mp hy with hy | hy
      · exact I.r y hy
      · rw [List.mem_singleton.mp hy]; exact fmod32 x
    · dsimp only at hy ⊢
      split at hy
      · rcases List.mem_append.mp hy with hy | hy
        · exact List.mem_append_left _ (I.sub y hy)
        · exact List.mem_append_right _ hy
      · exact List.mem_append_left _ (I.sub y hy)
    · dsimp only; split
      · exact List.mem_append_left _ I.b10
      · exact I.b10
    · dsimp only at q
      split at q
      · rcases List.mem_append.mp q with q | q
        · exact I.b13 q
        · exact hx (by rw [← List.mem_singleton.mp q]; exact I.a13)
      · exact I.b13 q
    · dsimp only at q
      split at q
      · rcases List.mem_append.mp q with q | q
        · exact I.b3 q
        · exact hx (by rw [← List.mem_singleton.mp q]; exact I.a3)
      · exact I.b3 q
theorem invM_fold {p : List Int × List Int} (I : InvM p) : ∀ xs : List Int, InvM (xs.foldl stepM p)
  | [] => I
  | x :: r => invM_fold (invM_step I x) r
theorem invM_mt (ns : List Int) : InvM (mt ([42, 13, 3] ++ ns.take 4) ([42, 13, 3] ++ ns.take 4).length) := by
  unfold mt
  rw [List.take_length, List.foldl_append]
  refine invM_fold ?_ _
  have e : List.foldl stepM ([], []) [42, 13, 3] = ([10, 13, 3], [10]) := by decide +kernel
  rw [e]
  exact ⟨by decide, by decide, by decide, by decide, by decide, by decide, by decide, by decide, by decide, by decide⟩
theorem mineL_len (ns : List Int) : (mineL ns).length ≤ 7 := by
  have := (mt_len ([42, 13, 3] ++ ns.take 4) ([42, 13, 3] ++ ns.take 4).length).1
  have h2 : ([42, 13, 3] ++ ns.take 4).length ≤ 7 := by simp; omega
  unfold mineL; omega
structure InvT (m t : List Int) : Prop where
  n : t.Nodup
  r : ∀ x ∈ t, 0 ≤ x ∧ x < 32
  b10 : (10 : Int) ∈ t
  b13 : (13 : Int) ∉ t
  b3 : (3 : Int) ∉ t
theorem invT_step {m t : List Int} (a13 : (13 : Int) ∈ m) (a3 : (3 : Int) ∈ m) (I : InvT m t) (x : Int) : InvT m (stepT m t x) := by
  unfold stepT
  split
  · exact I
  · rename_i hx
    have hm : x.fmod 32 ∉ m := fun q => hx (List.mem_append_left _ q)
    have ht : x.fmod 32 ∉ t := fun q => hx (List.mem_append_right _ q)
    refine ⟨nodup_snoc I.n ht, fun y hy => ?_, List.mem_append_left _ I.b10, fun q => ?_, fun q => ?_⟩
    · rcases List.mem_append.mp hy with hy | hy
      · exact I.r y hy
      · rw [List.mem_singleton.mp hy]; exact fmod32 x
    · rcases List.mem_append.mp q with q | q
      · exact I.b13 q
      · exact hm (by rw [← List.mem_singleton.mp q]; exact a13)
    · rcases List.mem_append.mp q with q | q
      · exact I.b3 q
      · exact hm (by rw [← List.mem_singleton.mp q]; exact a3)
theorem invT_fold {m t : List Int} (a13 : (13 : Int) ∈ m) (a3 : (3 : Int) ∈ m) (I : InvT m t) : ∀ xs : List Int, InvT m (xs.foldl (stepT m) t)
  | [] => I
  | x :: r => invT_fold a13 a3 (invT_step a13 a3 I x) r
theorem invT_theirs (ns : List Int) : InvT (mineL ns) (theirsL ns) := by
  have I := invM_mt ns
  unfold theirsL tt
  exact invT_fold I.a13 I.a3 ⟨I.n2, fun x hx => I.r x (I.sub x hx), I.b10, I.b13, I.b3⟩ _
theorem theirsL_len (ns : List Int) : (theirsL ns).length ≤ 10 := by
  have h1 := (mt_len ([42, 13, 3] ++ ns.take 4) ([42, 13, 3] ++ ns.take 4).length).2
  have h2 : ([42, 13, 3] ++ ns.take 4).length ≤ 7 := by simp; omega
  have h3 := tt_len (mineL ns) (mt ([42, 13, 3] ++ ns.take 4) ([42, 13, 3] ++ ns.take 4).length).2 (List.take (min 7 ns.length - 4) (List.drop 4 ns)) (List.take (min 7 ns.length - 4) (List.drop 4 ns)).length
  have h4 : (List.take (min 7 ns.length - 4) (List.drop 4 ns)).length ≤ 3 := by rw [List.length_take]; omega
  unfold theirsL; omega
/-- different ints from nought up, in order: as natural numbers -/
theorem nats_of {ma l : List Int} (h : ma.Perm l) (s : ma.Pairwise (· ≤ ·)) (hn : l.Nodup) (hr : ∀ x ∈ l, 0 ≤ x ∧ x < 32) :
    ∃ ms : List Nat, ma = ms.map (fun p : Nat => (p : Int)) ∧ ms.Pairwise (· < ·) ∧ (∀ p ∈ ms, p < 32) ∧ ms.length = l.length ∧ ∀ p : Nat, p ∈ ms ↔ (p : Int) ∈ l := by
  have hr2 : ∀ x ∈ ma, 0 ≤ x ∧ x < 32 := fun x hx => hr x (h.mem_iff.mp hx)
  have hn2 : ma.Nodup := h.nodup_iff.mpr hn
  have e : ma = (ma.map Int.toNat).map (fun p : Nat => (p : Int)) := by
    rw [List.map_map]
    conv => lhs; rw [← List.map_id ma]
    exact List.map_congr_left fun x hx => (Int.toNat_of_nonneg (hr2 x hx).1).symm
  refine ⟨ma.map Int.toNat, e, ?_, fun p hp => ?_, by rw [List.length_map, h.length_eq], fun p => ?_⟩
  · rw [List.pairwise_map]
    refine List.Pairwise.imp_of_mem (R := fun a b => a ≤ b ∧ a ≠ b) (fun {a b} ha hb q => ?_) (s.and hn2)
    have := hr2 a ha
    have := hr2 b hb
    omega
  · obtain ⟨x, hx, rfl⟩ := List.mem_map.mp hp
    have := hr2 x hx
    omega
  · rw [← h.mem_iff, List.mem_map]
    constructor
    · rintro ⟨x, hx, rfl⟩
      rw [Int.toNat_of_nonneg (hr2 x hx).1]; exact hx
    · intro q
      exact ⟨_, q, Int.toNat_natCast p⟩
structure MsOk (ms : List Nat) : Prop where
  sorted : ms.Pairwise (· < ·)
  lt : ∀ p ∈ ms, p < 32
  len : ms.length ≤ 7
  h3 : 3 ∈ ms
  h10 : 10 ∈ ms
  h13 : 13 ∈ ms
structure TsOk (ts : List Nat) : Prop where
  sorted : ts.Pairwise (· < ·)
  lt : ∀ p ∈ ts, p < 32
  len : ts.length ≤ 10
  h10 : 10 ∈ ts
  h3 : 3 ∉ ts
  h13 : 13 ∉ ts
theorem mine_nat {ns ma : List Int} (h : ma.Perm (mineL ns)) (s : ma.Pairwise (· ≤ ·)) : ∃ ms : List Nat, ma = ms.map (fun p : Nat => (p : Int)) ∧ MsOk ms := by
  have I := invM_mt ns
  obtain ⟨ms, e, h1, h2, h3, h4⟩ := nats_of h s I.n1 I.r
  exact ⟨ms, e, h1, h2, by rw [h3]; exact mineL_len ns, (h4 3).mpr I.a3, (h4 10).mpr I.a10, (h4 13).mpr I.a13⟩
theorem theirs_nat {ns ma : List Int} (h : ma.Perm (theirsL ns)) (s : ma.Pairwise (· ≤ ·)) : ∃ ts : List Nat, ma = ts.map (fun p : Nat => (p : Int)) ∧ TsOk ts := by
  have I := invT_theirs ns
  obtain ⟨ms, e, h1, h2, h3, h4⟩ := nats_of h s I.n I.r
  exact ⟨ms, e, h1, h2, by rw [h3]; exact theirsL_len ns, (h4 10).mpr I.b10, fun q => I.b3 ((h4 3).mp q), fun q => I.b13 ((h4 13).mp q)⟩
end
-- PlU
theorem noneHcPlU : True := by
  k_with_none
  trivial
section
noncomputable def nameOf (h p : Nat) : Str := if p = 47 then hiName h else flagName p
noncomputable def uni : List Nat := List.range 32 ++ [47]
noncomputable def ordU : Nat → List Nat
  | 0 => [47, 12, 16, 20, 24, 28, 13, 17, 21, 25, 29, 10, 14, 18, 22, 26, 30, 11, 15, 19, 23, 27, 31, 9, 7, 5, 8, 4, 1, 6, 0, 2, 3]
  | 1 => [12, 16, 20, 24, 28, 47, 13, 17, 21, 25, 29, 10, 14, 18, 22, 26, 30, 11, 15, 19, 23, 27, 31, 9, 7, 5, 8, 4, 1, 6, 0, 2, 3]
  | _ => [12, 16, 20, 24, 28, 13, 17, 21, 25, 29, 47, 10, 14, 18, 22, 26, 30, 11, 15, 19, 23, 27, 31, 9, 7, 5, 8, 4, 1, 6, 0, 2, 3]
theorem ord_perm : ∀ h, h < 3 → (ordU h).Perm uni := by decide +kernel
noncomputable def chain (f : Nat → Str) : List Nat → Bool
  | a :: b :: r => decide (strLt (f a) (f b)) && chain f (b :: r)
  | _ => true
theorem strLt_trans {a b c : Str} (h1 : strLt a b) (h2 : strLt b c) : strLt a c := List.lt_trans h1 h2
theorem chain_pair {f : Nat → Str} : ∀ {l : List Nat}, chain f l = true → l.Pairwise fun p q => strLt (f p) (f q)
  | [], _ => .nil
  | [a], _ => List.pairwise_singleton _ _
  | a :: b :: r, h => by
    unfold chain at h
    rw [Bool.and_eq_true, decide_eq_true_iff] at h
    have ih := chain_pair h.2
    refine List.pairwise_cons.mpr ⟨fun c hc => ?_, ih⟩
    rcases List.mem_cons.mp hc with rfl | hc
    · exact h.1
    · exact strLt_trans h.1 ((List.pairwise_cons.mp ih).1 c hc)
theorem ord_hi : ∀ h, h < 3 → chain (nameOf h) (ordU h) = true := by decide +kernel
theorem ord_lo : ∀ h, h < 3 → chain (fun p => Txt.lower (nameOf h p)) (ordU h) = true := by decide +kernel
structure NmOk (x : Str) : Prop where
  le : x.length ≤ 40
  ge : 1 ≤ x.length
  br : (Txt.slice x none (some 1) == "{") = false
  c61 : 61 ∉ chars x
  c32 : 32 ∉ chars x
  c44 : 44 ∉ chars x
  c125 : 125 ∉ chars x
  ns : x ≠ "s"
noncomputable def nmOk (x : Str) : Bool := decide (x.length ≤ 40) && decide (1 ≤ x.length) && !(Txt.slice x none (some 1) == "{") && !((chars x).contains 61) && !((chars x).contains 32) && !((chars x).contains 44) && !((chars x).contains 125) && !(x == Str.ofString "s")
theorem nmOk_ok {x : Str} (h : nmOk x = true) : NmOk x := by
  unfold nmOk at h
  simp only [Bool.and_eq_true, decide_eq_true_iff, Bool.not_eq_true', List.contains_eq_mem, decide_eq_false_iff_not] at h
  obtain ⟨⟨⟨⟨⟨⟨⟨h1, h2⟩, h3⟩, h4⟩, h5⟩, h6⟩, h7⟩, h8⟩ := h
  exact ⟨h1, h2, h3, h4, h5, h6, h7, by simpa using h8⟩
theorem nm_all : ∀ h, h < 3 → uni.all (fun p => nmOk (nameOf h p) && nmOk (Txt.lower (nameOf h p))) = true := by decide +kernel
theorem nm_hi {h p : Nat} (h3 : h < 3) (hp : p ∈ uni) : NmOk (nameOf h p) := nmOk_ok (Bool.and_eq_true_iff.mp (List.all_eq_true.mp (nm_all h h3) p hp)).1
theorem nm_lo {h p : Nat} (h3 : h < 3) (hp : p ∈ uni) : NmOk (Txt.lower (nameOf h p)) := nmOk_ok (Bool.and_eq_true_iff.mp (List.all_eq_true.mp (nm_all h h3) p hp)).2
/-- a name in small letters is none of the names, but the numbers -/
theorem low_all : ∀ h, h < 3 → uni.all (fun p => if 10 ≤ p then Txt.lower (nameOf h p) == nameOf h p else uni.all fun q => !(nameOf h q == Txt.lower (nameOf h p))) = true := by decide +kernel
theorem low_hex {h p : Nat} (h3 : h < 3) (hp : p ∈ uni) (h10 : 10 ≤ p) : Txt.lower (nameOf h p) = nameOf h p := by
  have := List.all_eq_true.mp (low_all h h3) p hp
  rw [if_pos h10] at this
  exact eq_of_beq this
theorem low_named {h p q : Nat} (h3 : h < 3) (hp : p ∈ uni) (h10 : p < 10) (hq : q ∈ uni) : nameOf h q ≠ Txt.lower (nameOf h p) := by
  have := List.all_eq_true.mp (low_all h h3) p hp
  rw [if_neg (by omega)] at this
  have := List.all_eq_true.mp this q hq
  intro e
  rw [e] at this
  simp at this
end
-- PlV
theorem noneHcPlV : True := by
  k_with_none
  trivial
section
theorem strLt_irrefl (a : Str) : ¬ strLt a a := List.lt_irrefl _
theorem ord_inj {f : Nat → Str} {l : List Nat} (h : l.Pairwise fun p q => strLt (f p) (f q)) {p q : Nat} (hp : p ∈ l) (hq : q ∈ l) (e : f p = f q) : p = q := by
  obtain ⟨i, hi, rfl⟩ := List.getElem_of_mem hp
  obtain ⟨j, hj, rfl⟩ := List.getElem_of_mem hq
  rw [List.pairwise_iff_getElem] at h
  rcases Nat.lt_trichotomy i j with g | g | g
  · exact absurd (e ▸ h i j hi hj g) (strLt_irrefl _)
  · subst g; rfl
  · exact absurd (e ▸ h j i hj hi g) (strLt_irrefl _)
theorem in_ord {h p : Nat} (h3 : h < 3) (hp : p ∈ uni) : p ∈ ordU h := (ord_perm h h3).mem_iff.mpr hp
theorem hi_inj {h p q : Nat} (h3 : h < 3) (hp : p ∈ uni) (hq : q ∈ uni) (e : nameOf h p = nameOf h q) : p = q := ord_inj (chain_pair (ord_hi h h3)) (in_ord h3 hp) (in_ord h3 hq) e
theorem lo_inj {h p q : Nat} (h3 : h < 3) (hp : p ∈ uni) (hq : q ∈ uni) (e : Txt.lower (nameOf h p) = Txt.lower (nameOf h q)) : p = q := ord_inj (f := fun p => Txt.lower (nameOf h p)) (chain_pair (ord_lo h h3)) (in_ord h3 hp) (in_ord h3 hq) e
theorem nm_same {h p q : Nat} (h3 : h < 3) (hp : p ∈ uni) (hq : q ∈ uni) (e : nameOf h p = Txt.lower (nameOf h q)) : p = q ∧ 10 ≤ p := by
  by_cases h10 : 10 ≤ q
  · rw [low_hex h3 hq h10] at e
    have := hi_inj h3 hp hq e
    exact ⟨this, by omega⟩
  · exact absurd e (low_named h3 hq (by omega) hp)
theorem uni_low {p : Nat} (hp : p < 32) : p ∈ uni := List.mem_append_left _ (List.mem_range.mpr hp)
theorem uni_47 : 47 ∈ uni := List.mem_append_right _ (.head _)
theorem uni_lt {p : Nat} (hp : p ∈ uni) : p < 48 := by
  rcases List.mem_append.mp hp with h | h
  · have := List.mem_range.mp h; omega
  · have := List.mem_singleton.mp h; omega
theorem uni_nd : uni.Nodup := by decide +kernel
theorem nd_map {f : Nat → Str} (hf : ∀ p ∈ uni, ∀ q ∈ uni, f p = f q → p = q) : ∀ {l : List Nat}, l.Nodup → (∀ p ∈ l, p ∈ uni) → (l.map f).Nodup
  | [], _, _ => .nil
  | a :: r, h, hs => by
    have hn := List.nodup_cons.mp h
    refine List.nodup_cons.mpr ⟨fun q => ?_, nd_map hf hn.2 fun p hp => hs p (.tail _ hp)⟩
    obtain ⟨b, hb, e⟩ := List.mem_map.mp q
    exact hn.1 (hf b (hs b (.tail _ hb)) a (hs a (.head _)) e ▸ hb)
theorem hi_hi : ∀ h, h < 3 → ∀ o, o < 3 → Txt.lower (hiName h) = Txt.lower (hiName o) → h = o := by decide +kernel
theorem nameOf_low {h p : Nat} (hp : p < 32) : nameOf h p = flagName p := by rw [nameOf, if_neg (by omega)]
theorem nameOf_47 {h : Nat} : nameOf h 47 = hiName h := if_pos rfl
/-- the words told -/
noncomputable def toldL (k : Nat) (ms : List Nat) : List Str := ms.map flagName ++ if k = 0 then [] else [hiName k]
theorem told_in {o h p : Nat} {ts : List Nat} (o3 : o < 3) (h3 : h < 3) (hl : ∀ p ∈ ts, p < 32) (hp : p < 32) : Txt.lower (nameOf h p) ∈ (toldL o ts).map Txt.lower ↔ p ∈ ts := by
  unfold toldL
  rw [List.map_append, List.mem_append, List.map_map, nameOf_low hp]
  constructor
  · rintro (q | q)
    · obtain ⟨r, hr, e⟩ := List.mem_map.mp q
      have e : Txt.lower (flagName r) = Txt.lower (flagName p) := e
      rw [← nameOf_low (h := h) (hl r hr), ← nameOf_low (h := h) hp] at e
      exact lo_inj h3 (uni_low (hl r hr)) (uni_low hp) e ▸ hr
    · split at q
      · cases q
      · have e := List.mem_singleton.mp q
        rw [← nameOf_low (h := o) hp, ← nameOf_47] at e
        have := lo_inj o3 (uni_low hp) uni_47 e
        omega
  · exact fun q => .inl (List.mem_map.mpr ⟨p, q, rfl⟩)
theorem told_47 {o h : Nat} {ts : List Nat} (o3 : o < 3) (h3 : h < 3) (h0 : h ≠ 0) (hl : ∀ p ∈ ts, p < 32) : Txt.lower (nameOf h 47) ∈ (toldL o ts).map Txt.lower ↔ h = o := by
  unfold toldL
  rw [List.map_append, List.mem_append, List.map_map, nameOf_47]
  constructor
  · rintro (q | q)
    · obtain ⟨r, hr, e⟩ := List.mem_map.mp q
      have e : Txt.lower (flagName r) = Txt.lower (hiName h) := e
      rw [← nameOf_low (h := h) (hl r hr), ← nameOf_47] at e
      have := lo_inj h3 (uni_low (hl r hr)) uni_47 e
      have := hl r hr
      omega
    · split at q
      · cases q
      · exact hi_hi h h3 o o3 (List.mem_singleton.mp q)
  · rintro rfl
    right
    rw [if_neg h0]; exact .head _
end
-- PlC
theorem noneHcPlC : True := by
  k_with_none
  trivial
section
theorem told_form {k : Nat} {ms : List Nat} (hl : ∀ p ∈ ms, p < 32) : toldL k ms = (ms ++ if k = 0 then [] else [47]).map (nameOf k) := by
  unfold toldL
  rw [List.map_append]
  congr 1
  · exact List.map_congr_left fun p hp => (nameOf_low (hl p hp)).symm
  · split <;> rfl
theorem app_uni {k : Nat} {ms : List Nat} (hl : ∀ p ∈ ms, p < 32) {c : Prop} [Decidable c] : ∀ p ∈ ms ++ (if c then [] else [47]), p ∈ uni := by
  intro p hp
  rcases List.mem_append.mp hp with h | h
  · exact uni_low (hl p h)
  · split at h
    · cases h
    · rw [List.mem_singleton.mp h]; exact uni_47
theorem app_nodup {ms : List Nat} (hs : ms.Pairwise (· < ·)) (hl : ∀ p ∈ ms, p < 32) {c : Prop} [Decidable c] : (ms ++ (if c then [] else [47])).Nodup := by
  have h1 : ms.Nodup := hs.imp fun q e => by omega
  split
  · rw [List.append_nil]; exact h1
  · refine List.nodup_append.mpr ⟨h1, by simp, fun a ha b hb => ?_⟩
    have := hl a ha
    rw [List.mem_singleton.mp hb]; omega
theorem app_sorted {ms : List Nat} (hs : ms.Pairwise (· < ·)) (hl : ∀ p ∈ ms, p < 32) {c : Prop} [Decidable c] : (ms ++ (if c then [] else [47])).Pairwise (· < ·) := by
  split
  · rw [List.append_nil]; exact hs
  · refine List.pairwise_append.mpr ⟨hs, List.pairwise_singleton _ _, fun a ha b hb => ?_⟩
    have := hl a ha
    rw [List.mem_singleton.mp hb]; omega
theorem told_nm {k : Nat} {ms : List Nat} (hl : ∀ p ∈ ms, p < 32) (hk : k < 3) : ∀ x ∈ toldL k ms, NmOk x := by
  intro x hx
  rw [told_form hl] at hx
  obtain ⟨p, hp, rfl⟩ := List.mem_map.mp hx
  exact nm_hi hk (app_uni (k := k) hl p hp)
theorem told_num {o : Nat} {ts : List Nat} : (toldL o ts).length ≤ ts.length + 1 := by
  unfold toldL
  rw [List.length_append, List.length_map]
  split <;> simp
theorem told_ne {k : Nat} {ms : List Nat} (h0 : ms ≠ []) : toldL k ms ≠ [] := by
  unfold toldL
  intro e
  exact h0 (List.map_eq_nil_iff.mp (List.append_eq_nil_iff.mp e).1)
theorem comma : (chars ", ")[0]? = some 44 ∧ Builtin.Str.strKind ", " = 1 := by decide +kernel
theorem told_split {ms : List Nat} {k : Nat} (h : ms.Pairwise (· < ·)) (hl : ∀ p ∈ ms, p < 32) (h0 : ms ≠ []) (hk : k < 3) : Txt.split (Str.join ", " (prettyL (bits ms + k * 2 ^ 32))) ", " = toldL k ms := by
  rw [pretty_bits h hl k]
  exact split_join comma.1 comma.2 (told_ne h0) fun x hx => (told_nm hl hk x hx).c44
theorem told_len {ms : List Nat} {k : Nat} (h : ms.Pairwise (· < ·)) (hl : ∀ p ∈ ms, p < 32) (hk : k < 3) : (Str.join ", " (prettyL (bits ms + k * 2 ^ 32))).length ≤ 10000 := by
  rw [pretty_bits h hl k]
  have h1 := join_len (sep := ", ") (B := 40) (ss := toldL k ms) fun y hy => (told_nm hl hk y hy).le
  have h2 : (toldL k ms).length ≤ 33 := by
    have := len_32 h hl
    have := told_num (o := k) (ts := ms)
    omega
  have h3 : Str.length ", " = 2 := by decide +kernel
  rw [h3] at h1
  have h4 : (Str.join ", " (toldL k ms)).length ≤ 10000 := by omega
  exact h4
noncomputable def upM (h : Nat) : List Nat := if h = 0 then [] else [47]
noncomputable def upK (h o : Nat) : List Nat := if h = 0 ∨ h = o then [] else [47]
noncomputable def numK (h o : Nat) : Nat := if h = 0 ∨ h = o then 0 else h
/-- the items, the places that are kept, the kept items -/
noncomputable def itsL (h : Nat) (ms : List Nat) : List (Str × Str) := (ms ++ upM h).map fun p => (nameOf h p, opWord p)
noncomputable def restP (h o : Nat) (ms ts : List Nat) : List Nat := ms.filter (fun p => decide (p ∉ ts)) ++ upK h o
noncomputable def keptL (h o : Nat) (ms ts : List Nat) : List (Str × Str) := (restP h o ms ts).map fun p => (Txt.lower (nameOf h p), opWord p)
/-- the places that are left -/
noncomputable abbrev stay (ms ts : List Nat) : List Nat := ms.filter fun p => decide (p ∉ ts)
theorem stay_sorted {ms ts : List Nat} (hM : MsOk ms) : (stay ms ts).Pairwise (· < ·) := hM.sorted.filter _
theorem stay_lt {ms ts : List Nat} (hM : MsOk ms) : ∀ p ∈ stay ms ts, p < 32 := fun p hp => hM.lt p (List.mem_filter.mp hp).1
/-- a list of places -/
structure Plc (P : List Nat) : Prop where
  nd : P.Nodup
  u : ∀ p ∈ P, p ∈ uni
  l8 : P.length ≤ 8
theorem plc_its {h : Nat} {ms : List Nat} (hM : MsOk ms) : Plc (ms ++ upM h) := by
  refine ⟨app_nodup hM.sorted hM.lt, app_uni (k := h) hM.lt, ?_⟩
  have := hM.len
  unfold upM
  rw [List.length_append]
  split <;> simp <;> omega
theorem plc_rest {h o : Nat} {ms ts : List Nat} (hM : MsOk ms) : Plc (restP h o ms ts) := by
  refine ⟨app_nodup (stay_sorted hM) (stay_lt hM), app_uni (k := h) (stay_lt hM), ?_⟩
  have := hM.len
  have h2 : (ms.filter (fun p => decide (p ∉ ts))).length ≤ ms.length := List.length_filter_le _ _
  unfold restP upK
  rw [List.length_append]
  split
  · rw [List.length_nil]; omega
  · rw [List.length_singleton]; omega
theorem Plc.rev {P : List Nat} (h : Plc P) : Plc P.reverse := ⟨P.reverse_perm.nodup_iff.mpr h.nd, fun p hp => h.u p (List.mem_reverse.mp hp), by rw [List.length_reverse]; exact h.l8⟩
/-- the names, as they are or in small letters -/
structure Nms (f : Nat → Str) : Prop where
  inj : ∀ p ∈ uni, ∀ q ∈ uni, f p = f q → p = q
  ok : ∀ p ∈ uni, NmOk (f p)
theorem nms_hi {h : Nat} (h3 : h < 3) : Nms (nameOf h) := ⟨fun _ hp _ hq e => hi_inj h3 hp hq e, fun _ hp => nm_hi h3 hp⟩
theorem nms_lo {h : Nat} (h3 : h < 3) : Nms (fun p => Txt.lower (nameOf h p)) := ⟨fun _ hp _ hq e => lo_inj h3 hp hq e, fun _ hp => nm_lo h3 hp⟩
/-- what _law_written asks of its items -/
structure OkW (its : List (Str × Str)) : Prop where
  l8 : its.length ≤ 8
  nd : (Str.ofString "s" :: its.map (·.1)).Nodup
  nb : ∀ p ∈ its, NoBr p.1 ∧ 1 ≤ p.1.length ∧ (Txt.slice p.1 none (some 1) == "{") = false
  wd : ∀ p ∈ its, OpW p.2
  nl : ∀ p ∈ its, p.1.length ≤ 40
theorem brace : (chars "}")[0]? = some 125 := by decide +kernel
theorem map_fst {f : Nat → Str} {P : List Nat} : (P.map fun p => (f p, opWord p)).map (·.1) = P.map f := by rw [List.map_map]; rfl
theorem okW_of {f : Nat → Str} {P : List Nat} (hP : Plc P) (hf : Nms f) : OkW (P.map fun p => (f p, opWord p)) := by
  refine ⟨by rw [List.length_map]; exact hP.l8, ?_, fun x hx => ?_, fun x hx => ?_, fun x hx => ?_⟩
  · rw [map_fst]
    refine List.nodup_cons.mpr ⟨fun q => ?_, nd_map hf.inj hP.nd hP.u⟩
    obtain ⟨p, hp, e⟩ := List.mem_map.mp q
    exact (hf.ok p (hP.u p hp)).ns e
  · obtain ⟨p, hp, rfl⟩ := List.mem_map.mp hx
    have k := hf.ok p (hP.u p hp)
    exact ⟨⟨Nat.le_trans k.le (by decide), splitMax_none brace k.c125⟩, k.ge, k.br⟩
  · obtain ⟨p, hp, rfl⟩ := List.mem_map.mp hx
    exact ⟨p, uni_lt (hP.u p hp), by dsimp only⟩
  · obtain ⟨p, hp, rfl⟩ := List.mem_map.mp hx
    exact (hf.ok p (hP.u p hp)).le
noncomputable def lowI (its : List (Str × Str)) : List (Str × Str) := its.map fun p => (Txt.lower p.1, p.2)
theorem low_form {h : Nat} {P : List Nat} : lowI ((P.map fun p => (nameOf h p, opWord p)).reverse) = P.reverse.map fun p => (Txt.lower (nameOf h p), opWord p) := by
  unfold lowI
  rw [← List.map_reverse, List.map_map]
  exact List.map_congr_left fun p _ => by dsimp only [Function.comp]
theorem okW_items {h : Nat} {ms : List Nat} (hM : MsOk ms) (h3 : h < 3) : OkW (itsL h ms).reverse := by
  unfold itsL
  rw [← List.map_reverse]
  exact okW_of (plc_its hM).rev (nms_hi h3)
theorem okW_low {h : Nat} {ms : List Nat} (hM : MsOk ms) (h3 : h < 3) : OkW (lowI (itsL h ms).reverse) := by
  unfold itsL
  rw [low_form]
  exact okW_of (f := fun p => Txt.lower (nameOf h p)) (plc_its hM).rev (nms_lo h3)
theorem two_of {P : List Nat} {a b : Nat} (ha : a ∈ P) (hb : b ∈ P) (h : a ≠ b) : 2 ≤ P.length := by
  match P with
  | [] => cases ha
  | [c] => exact absurd ((List.mem_singleton.mp ha).trans (List.mem_singleton.mp hb).symm) h
  | _ :: _ :: _ => simp
theorem stay_3 {ms ts : List Nat} (hM : MsOk ms) (hT : TsOk ts) : 3 ∈ stay ms ts := List.mem_filter.mpr ⟨hM.h3, decide_eq_true hT.h3⟩
theorem stay_13 {ms ts : List Nat} (hM : MsOk ms) (hT : TsOk ts) : 13 ∈ stay ms ts := List.mem_filter.mpr ⟨hM.h13, decide_eq_true hT.h13⟩
theorem its_two {h : Nat} {ms : List Nat} (hM : MsOk ms) : 2 ≤ (itsL h ms).reverse.length := by
  unfold itsL
  rw [List.length_reverse, List.length_map]
  exact two_of (a := 3) (b := 13) (List.mem_append_left _ hM.h3) (List.mem_append_left _ hM.h13) (by decide)
theorem rest_two {h o : Nat} {ms ts : List Nat} (hM : MsOk ms) (hT : TsOk ts) : 2 ≤ (restP h o ms ts).length := two_of (a := 3) (b := 13) (List.mem_append_left _ (stay_3 hM hT)) (List.mem_append_left _ (stay_13 hM hT)) (by decide)
theorem kept_two {h o : Nat} {ms ts : List Nat} (hM : MsOk ms) (hT : TsOk ts) : 2 ≤ (keptL h o ms ts).reverse.length := by
  unfold keptL
  rw [List.length_reverse, List.length_map]
  exact rest_two hM hT
theorem masks_low {o : Nat} {ts : List Nat} (hT : TsOk ts) (h3 : o < 3) : ((toldL o ts).map Txt.lower).Nodup ∧ 1 ≤ ((toldL o ts).map Txt.lower).length ∧ ((toldL o ts).map Txt.lower).length ≤ 20 := by
  have hl := told_num (o := o) (ts := ts)
  have h10 := hT.len
  rw [List.length_map]
  refine ⟨?_, ?_, by omega⟩
  · rw [told_form hT.lt, List.map_map]
    exact nd_map (f := fun p => Txt.lower (nameOf o p)) (fun p hp q hq e => lo_inj h3 hp hq e) (app_nodup hT.sorted hT.lt) (app_uni (k := o) hT.lt)
  · refine List.length_pos_iff.mpr (told_ne fun e => ?_)
    have := hT.h10
    rw [e] at this; cases this
theorem left_filter {h o : Nat} {ms ts : List Nat} (hM : MsOk ms) (hT : TsOk ts) (h3 : h < 3) (o3 : o < 3) : (keptL h o ms ts).reverse = (lowI (itsL h ms).reverse).filter (fun p => decide (p.1 ∉ (toldL o ts).map Txt.lower)) := by
  unfold itsL keptL
  rw [low_form, List.filter_map, List.filter_reverse, ← List.map_reverse]
  congr 2
  unfold restP
  rw [List.filter_append]
  congr 1
  · refine List.filter_congr fun p hp => ?_
    simp only [Function.comp, decide_eq_decide]
    rw [told_in o3 h3 hT.lt (hM.lt p hp)]
  · unfold upK upM
    by_cases h0 : h = 0
    · rw [if_pos (.inl h0), if_pos h0]; rfl
    · rw [if_neg h0]
      by_cases ho : h = o
      · rw [if_pos (.inr ho), List.filter_cons, if_neg]
        · rfl
        · simp only [Function.comp]
          rw [decide_eq_true_iff]
          exact fun q => q ((told_47 o3 h3 h0 hT.lt).mpr ho)
      · rw [if_neg (by omega), List.filter_cons, if_pos]
        · rfl
        · simp only [Function.comp]
          rw [decide_eq_true_iff]
          exact fun q => ho ((told_47 o3 h3 h0 hT.lt).mp q)
theorem told_40 {o : Nat} {ts : List Nat} (hl : ∀ p ∈ ts, p < 32) (h3 : o < 3) : ∀ x ∈ toldL o ts, x.length ≤ 40 := fun x hx => (told_nm hl h3 x hx).le
theorem strLt_asymm {a b : Str} (h1 : strLt a b) (h2 : strLt b a) : False := strLt_irrefl a (strLt_trans h1 h2)
theorem sorted_one {a b : List (Str × Str)} (h1 : a.Pairwise fun x y => strLt x.1 y.1) (h2 : b.Pairwise fun x y => strLt x.1 y.1) (hp : a.Perm b) : a = b :=
  hp.eq_of_pairwise (fun _ _ _ _ g1 g2 => (strLt_asymm g1 g2).elim) h1 h2
theorem sorted_strs_one {a b : List Str} (h1 : a.Pairwise strLt) (h2 : b.Pairwise strLt) (hp : a.Perm b) : a = b :=
  hp.eq_of_pairwise (fun _ _ _ _ g1 g2 => (strLt_asymm g1 g2).elim) h1 h2
theorem okI_of {f : Nat → Str} {P : List Nat} (hP : Plc P) (h2 : 2 ≤ P.length) (hf : Nms f) : OkIts (P.map fun p => (f p, opWord p)) := by
  have hW := okW_of hP hf
  refine ⟨by rw [List.length_map]; exact h2, Nat.le_trans hW.l8 (by decide), (List.nodup_cons.mp hW.nd).2, fun p hp => ⟨hW.nl p hp, hW.wd p hp⟩⟩
theorem okI_items {h : Nat} {ms : List Nat} (hM : MsOk ms) (h3 : h < 3) : OkIts (itsL h ms) :=
  okI_of (plc_its hM) (by have := its_two (h := h) hM; unfold itsL at this; rwa [List.length_reverse, List.length_map] at this) (nms_hi h3)
theorem okI_kept {h o : Nat} {ms ts : List Nat} (hM : MsOk ms) (hT : TsOk ts) (h3 : h < 3) (o3 : o < 3) : OkIts (keptL h o ms ts) :=
  okI_of (f := fun p => Txt.lower (nameOf h p)) (plc_rest hM) (rest_two hM hT) (nms_lo h3)
end
-- PlD
theorem noneHcPlD : True := by
  k_with_none
  trivial
section
/-- what _law_read asks of its text -/
structure RdOk (x : Str) (its : List (Str × Nat)) : Prop where
  hx : Txt.split (Txt.slice x (some 3) (some (-5))) " " = its.map partOf
  hlen : its.length ≤ 40
  hi : ∀ p ∈ its, p.2 < 48 ∧ p.1.length ≤ 40
  hs : ∀ p ∈ its, Txt.splitMax (partOf p) "=\"" 1 = [p.1, valOf p.2]
  hxl : x.length ≤ 5000
/-- a word of a row -/
noncomputable def wordOf (p : Str × Str) : Str := p.1 ++ "=\"" ++ (spell p.2 ++ "\"")
theorem item_word (p : Str × Str) : chars (itemText p) = chars (Str.ofString " ") ++ chars (wordOf p) := by
  unfold itemText wordOf
  simp only [chars_app, List.append_assoc]
theorem chars_nil : chars (Str.ofString "") = [] := by decide
theorem join_words : ∀ {ss : List (Str × Str)}, ss ≠ [] → chars (Str.join "" (ss.map itemText)) = chars (Str.ofString " ") ++ chars (Str.join " " (ss.map wordOf))
  | [], h => absurd rfl h
  | [p], _ => item_word p
  | p :: q :: r, _ => by
    have ih := join_words (ss := q :: r) (by simp)
    rw [List.map_cons, List.map_cons, List.map_cons, List.map_cons, join_cons2, join_cons2, chars_app, chars_app, chars_app, chars_app, item_word, chars_nil, List.append_nil]
    rw [List.map_cons, List.map_cons] at ih
    rw [ih]
    simp only [List.append_assoc]
theorem slice_text {ss : List (Str × Str)} (h : ss ≠ []) : Txt.slice (textOf ss) (some 3) (some (-5)) = Str.join " " (ss.map wordOf) := by
  refine chars_inj (slice_mid (pre := chars (Str.ofString "<s") ++ chars (Str.ofString " ")) (post := chars (Str.ofString "></s>")) ?_ (by decide) (by decide))
  unfold textOf
  rw [chars_app, chars_app, join_words h]
  simp only [List.append_assoc]
theorem blank : (chars " ")[0]? = some 32 ∧ Builtin.Str.strKind " " = 1 := by decide +kernel
theorem eqs : (chars "=\"")[0]? = some 61 ∧ Builtin.Str.strKind "=\"" = 1 := by decide +kernel
theorem spell_32 : ∀ i, i < 48 → 32 ∉ chars (spell (opWord i)) := by decide +kernel
theorem word_32 {x : Str} {i : Nat} (h : 32 ∉ chars x) (hi : i < 48) : 32 ∉ chars (wordOf (x, opWord i)) := by
  unfold wordOf
  simp only [chars_app, List.mem_append, not_or]
  exact ⟨⟨h, by decide⟩, spell_32 i hi, by decide⟩
theorem split_text {ss : List (Str × Str)} (h : ss ≠ []) (h2 : ∀ p ∈ ss, 32 ∉ chars p.1 ∧ OpW p.2) : Txt.split (Txt.slice (textOf ss) (some 3) (some (-5))) " " = ss.map wordOf := by
  rw [slice_text h]
  refine split_join blank.1 blank.2 (by simpa using h) fun x hx => ?_
  obtain ⟨⟨n, v⟩, hp, rfl⟩ := List.mem_map.mp hx
  obtain ⟨h3, i, hi, e⟩ := h2 _ hp
  have e : v = opWord i := e
  rw [e]
  exact word_32 h3 hi
theorem text_len {ss : List (Str × Str)} (h8 : ss.length ≤ 8) (h2 : ∀ p ∈ ss, p.1.length ≤ 40 ∧ OpW p.2) : (textOf ss).length ≤ 5000 := by
  have hB : ∀ y ∈ ss.map itemText, y.length ≤ 100 := fun y hy => by
    obtain ⟨q, hq, rfl⟩ := List.mem_map.mp hy
    exact itemText_len (h2 q hq).1 (spell_len (h2 q hq).2)
  have h1 := join_len (sep := "") hB
  have h3 : (Str.ofString "").length = 0 := by decide
  have h4 : (Str.ofString "<s").length = 2 := by decide
  have h5 : (Str.ofString "></s>").length = 5 := by decide
  rw [List.length_map, h3] at h1
  unfold textOf
  rw [app_len, app_len, h4, h5]
  omega
theorem perm_ne {α : Type} {a b : List α} (h : a.Perm b) (h2 : 2 ≤ b.length) : a ≠ [] := by
  rintro rfl
  have := h.length_eq
  rw [List.length_nil] at this; omega
theorem its_mem {h : Nat} {ms : List Nat} {ss : List (Str × Str)} (hM : MsOk ms) (h3 : h < 3) (hp : ss.Perm (itsL h ms).reverse) : ∀ p ∈ ss, ∃ i, i ∈ uni ∧ p = (nameOf h i, opWord i) := by
  intro p hq
  have h1 := List.mem_reverse.mp (hp.mem_iff.mp hq)
  obtain ⟨i, hi, e⟩ := List.mem_map.mp h1
  exact ⟨i, (plc_its hM).u i hi, e.symm⟩
theorem kept_mem {h o : Nat} {ms ts : List Nat} {ss : List (Str × Str)} (hM : MsOk ms) (h3 : h < 3) (hp : ss.Perm (keptL h o ms ts).reverse) : ∀ p ∈ ss, ∃ i, i ∈ uni ∧ p = (Txt.lower (nameOf h i), opWord i) := by
  intro p hq
  have h1 := List.mem_reverse.mp (hp.mem_iff.mp hq)
  obtain ⟨i, hi, e⟩ := List.mem_map.mp h1
  exact ⟨i, (plc_rest hM).u i hi, e.symm⟩
theorem opW_uni {i : Nat} (h : i ∈ uni) : OpW (opWord i) := ⟨i, uni_lt h, Eq.refl (opWord i)⟩
theorem split_whole {h : Nat} {ms : List Nat} {ss : List (Str × Str)} (hM : MsOk ms) (h3 : h < 3) (hp : ss.Perm (itsL h ms).reverse) :
    Txt.split (Txt.slice (textOf ss) (some 3) (some (-5))) " " = ss.map wordOf :=
  split_text (perm_ne hp (its_two hM)) fun p hq => by
    obtain ⟨i, hi, e⟩ := its_mem hM h3 hp p hq
    rw [e]
    refine ⟨(nm_hi h3 hi).c32, ?_⟩
    dsimp only
    exact opW_uni hi
theorem text_le {h : Nat} {ms : List Nat} {ss : List (Str × Str)} (hM : MsOk ms) (h3 : h < 3) (hp : ss.Perm (itsL h ms).reverse) : (textOf ss).length ≤ 5000 :=
  text_len (by rw [hp.length_eq]; exact (okW_items hM h3).l8) fun p hq => by
    obtain ⟨i, hi, e⟩ := its_mem hM h3 hp p hq
    rw [e]
    refine ⟨?_, ?_⟩ <;> dsimp only
    · exact (nm_hi h3 hi).le
    · exact opW_uni hi
theorem perm_of_map {α β : Type} {f : α → β} : ∀ {l : List α} {ss : List β}, ss.Perm (l.map f) → ∃ l' : List α, l'.Perm l ∧ ss = l'.map f
  | [], _, h => ⟨[], .nil, List.perm_nil.mp h⟩
  | a :: r, ss, h => by
    obtain ⟨s1, s2, rfl⟩ := List.append_of_mem (h.mem_iff.mpr (List.mem_cons_self : f a ∈ f a :: r.map f))
    have h2 : (s1 ++ s2).Perm (r.map f) := (List.perm_cons (f a)).mp (List.perm_middle.symm.trans h)
    obtain ⟨l', hl, e⟩ := perm_of_map h2
    obtain ⟨l1, l2, rfl, e1, e2⟩ := List.map_eq_append_iff.mp e.symm
    exact ⟨l1 ++ a :: l2, List.perm_middle.trans (hl.cons a), by rw [List.map_append, List.map_cons, e1, e2]⟩
theorem part_split {h i : Nat} (h3 : h < 3) (hi : i ∈ uni) : Txt.splitMax (partOf (Txt.lower (nameOf h i), i)) "=\"" 1 = [Txt.lower (nameOf h i), valOf i] := by
  refine splitMax_two eqs.1 eqs.2 ?_ (nm_lo h3 hi).c61
  unfold partOf
  rw [chars_app, chars_app]
theorem part_word (n : Str) (i : Nat) : partOf (n, i) = wordOf (n, opWord i) := by
  unfold partOf wordOf valOf
  dsimp only
theorem read_left {h o : Nat} {ms ts : List Nat} {ss : List (Str × Str)} (hM : MsOk ms) (hT : TsOk ts) (h3 : h < 3) (hp : ss.Perm (keptL h o ms ts).reverse) :
    ∃ its : List (Str × Nat), RdOk (textOf ss) its ∧ its.map (·.1) = ss.map (·.1) ∧ its.map partOf = ss.map wordOf ∧ (its.map fun p => (p.2 : Int)).Perm ((restP h o ms ts).map fun p : Nat => (p : Int)) := by
  have hm := kept_mem hM h3 hp
  have hp2 := hp.trans (keptL h o ms ts).reverse_perm
  obtain ⟨l', hl, e⟩ := perm_of_map hp2
  have hu : ∀ p ∈ l', p ∈ uni := fun p hq => (plc_rest hM).u p (hl.mem_iff.mp hq)
  have hpt : (l'.map fun p => (Txt.lower (nameOf h p), p)).map partOf = ss.map wordOf := by
    rw [e, List.map_map, List.map_map]
    refine List.map_congr_left fun p _ => ?_
    simp only [Function.comp]
    exact part_word _ _
  refine ⟨l'.map fun p => (Txt.lower (nameOf h p), p), ⟨?_, ?_, fun q hq => ?_, fun q hq => ?_, ?_⟩, ?_, hpt, ?_⟩
  · rw [hpt]
    refine split_text (perm_ne hp (kept_two hM hT)) fun p hq => ?_
    obtain ⟨i, hi, e⟩ := hm p hq
    rw [e]
    refine ⟨(nm_lo h3 hi).c32, ?_⟩
    dsimp only
    exact opW_uni hi
  · rw [List.length_map, hl.length_eq]
    exact Nat.le_trans (plc_rest hM).l8 (by decide)
  · obtain ⟨i, hi, rfl⟩ := List.mem_map.mp hq
    exact ⟨uni_lt (hu i hi), (nm_lo h3 (hu i hi)).le⟩
  · obtain ⟨i, hi, rfl⟩ := List.mem_map.mp hq
    exact part_split h3 (hu i hi)
  · refine text_len (by rw [e, List.length_map, hl.length_eq]; exact (plc_rest hM).l8) fun p hq => ?_
    obtain ⟨i, hi, e⟩ := hm p hq
    rw [e]
    refine ⟨?_, ?_⟩ <;> dsimp only
    · exact (nm_lo h3 hi).le
    · exact opW_uni hi
  · rw [e, List.map_map, List.map_map]
    exact List.map_congr_left fun p _ => Eq.refl (Txt.lower (nameOf h p))
  · rw [List.map_map]
    exact hl.map fun p : Nat => (p : Int)
theorem rest_sorted {h o : Nat} {ms ts : List Nat} (hM : MsOk ms) : ((restP h o ms ts).map fun p : Nat => (p : Int)).Pairwise (· ≤ ·) := by
  have h1 : (restP h o ms ts).Pairwise (· < ·) := app_sorted (stay_sorted hM) (stay_lt hM)
  rw [List.pairwise_map]
  exact h1.imp fun q => by omega
theorem told_rest {h o : Nat} {ms ts : List Nat} (hl : ∀ p ∈ ms, p < 32) : toldL (numK h o) (stay ms ts) = (restP h o ms ts).map (nameOf h) := by
  have h1 : ∀ p ∈ stay ms ts, p < 32 := fun p hp => hl p (List.mem_filter.mp hp).1
  unfold toldL restP numK upK
  rw [List.map_append]
  congr 1
  · exact List.map_congr_left fun p hp => (nameOf_low (h1 p hp)).symm
  · by_cases hh : h = 0 ∨ h = o
    · rw [if_pos hh, if_pos hh]; rfl
    · rw [if_neg hh, if_neg hh, if_neg (by omega)]; rfl
structure NamesOk (ns : List Str) : Prop where
  nd : ns.Nodup
  two : 2 ≤ ns.length
  few : ns.length < 64
theorem names_ok {h o : Nat} {ms ts : List Nat} (hM : MsOk ms) (hT : TsOk ts) (h3 : h < 3) : NamesOk ((toldL (numK h o) (stay ms ts)).map Txt.lower) := by
  rw [told_rest hM.lt, List.map_map]
  have P := plc_rest (h := h) (o := o) (ts := ts) hM
  refine ⟨nd_map (f := fun p => Txt.lower (nameOf h p)) (fun p hp q hq e => lo_inj h3 hp hq e) P.nd P.u, ?_, ?_⟩
  · rw [List.length_map]; exact rest_two hM hT
  · rw [List.length_map]; exact Nat.lt_of_le_of_lt P.l8 (by decide)
theorem names_eq {h o : Nat} {ms ts : List Nat} {ss : List (Str × Str)} {zs : List Str} (hM : MsOk ms) (hp : ss.Perm (keptL h o ms ts).reverse) (hs : ss.Pairwise fun a b => strLt a.1 b.1)
    (zp : zs.Perm ((toldL (numK h o) (stay ms ts)).map Txt.lower)) (zs' : zs.Pairwise strLt) : ss.map (·.1) = zs := by
  refine sorted_strs_one (List.pairwise_map.mpr hs) zs' ?_
  refine (hp.map (·.1)).trans (List.Perm.trans ?_ zp.symm)
  rw [told_rest hM.lt, List.map_map]
  refine ((keptL h o ms ts).reverse_perm.map (·.1)).trans ?_
  unfold keptL
  rw [List.map_map]
  exact .of_eq (List.map_congr_left fun p _ => Eq.refl (Txt.lower (nameOf h p)))
/-- the price of the two rows -/
noncomputable def priceL (h o : Nat) (ms ts : List Nat) : Int := 2 * (((itsL h ms).length : Int) - ((keptL h o ms ts).length : Int)) + (((restP h o ms ts).filter fun p => decide (p < 10)).length : Int)
structure LevFacts (aw bw : List Str) (price : Int) : Prop where
  ne : aw ≠ bw
  ta : 0 < (trimmed aw bw).1.length
  tb : 0 < (trimmed aw bw).2.length
  la : aw.length ≤ 40
  lb : bw.length ≤ 40
  wa : ∀ x ∈ aw, x.length ≤ 100
  wb : ∀ x ∈ bw, x.length ≤ 100
  law : ∀ b r : Int, (b < 0 ∨ price - 1 ≤ b) → LevPost b aw bw r → r = if b < 0 then b + 1 else price
theorem rest_sub {h o : Nat} {ms ts : List Nat} : ∀ p ∈ restP h o ms ts, p ∈ ms ++ upM h := by
  intro p hp
  rcases List.mem_append.mp hp with q | q
  · exact List.mem_append_left _ (List.mem_filter.mp q).1
  · refine List.mem_append_right _ ?_
    unfold upK at q
    unfold upM
    split at q
    · cases q
    · rename_i hh
      rw [if_neg (by omega)]; exact q
theorem nodup_sub : ∀ {a b : List Nat}, a.Nodup → (∀ p ∈ a, p ∈ b) → a.length ≤ b.length
  | [], _, _, _ => Nat.zero_le _
  | x :: r, b, ha, h => by
    obtain ⟨b1, b2, rfl⟩ := List.append_of_mem (h x (.head _))
    have hn := List.nodup_cons.mp ha
    have h2 := nodup_sub (b := b1 ++ b2) hn.2 fun p hp => by
      have h3 := h p (.tail _ hp)
      rw [List.mem_append, List.mem_cons] at h3
      rw [List.mem_append]
      rcases h3 with h3 | h3 | h3
      · exact .inl h3
      · exact absurd (h3 ▸ hp) hn.1
      · exact .inr h3
    rw [List.length_append] at h2 ⊢
    rw [List.length_cons, List.length_cons]
    omega
theorem rest_len {h o : Nat} {ms ts : List Nat} (hM : MsOk ms) : (restP h o ms ts).length ≤ (ms ++ upM h).length := nodup_sub (plc_rest hM).nd rest_sub
theorem rest_less {h o : Nat} {ms ts : List Nat} (hM : MsOk ms) (hT : TsOk ts) : (restP h o ms ts).length < (ms ++ upM h).length := by
  have h1 : (10 :: restP h o ms ts).Nodup := by
    refine List.nodup_cons.mpr ⟨fun q => ?_, (plc_rest hM).nd⟩
    rcases List.mem_append.mp q with q | q
    · exact (of_decide_eq_true (List.mem_filter.mp q).2) hT.h10
    · unfold upK at q
      split at q
      · cases q
      · exact absurd (List.mem_singleton.mp q) (by decide)
  have h2 : ∀ p ∈ 10 :: restP h o ms ts, p ∈ ms ++ upM h := fun p hp => by
    rcases List.mem_cons.mp hp with e | q
    · rw [e]; exact List.mem_append_left _ hM.h10
    · exact rest_sub p q
  exact nodup_sub h1 h2
theorem price_bounds {h o : Nat} {ms ts : List Nat} (hM : MsOk ms) : 0 ≤ priceL h o ms ts ∧ priceL h o ms ts < 1000 := by
  have h1 := rest_len (h := h) (o := o) (ts := ts) hM
  have h2 := (plc_its (h := h) hM).l8
  have h3 : ((restP h o ms ts).filter fun p => decide (p < 10)).length ≤ (restP h o ms ts).length := List.length_filter_le _ _
  unfold priceL itsL keptL
  rw [List.length_map, List.length_map]
  omega
/-- the places in the order of their names -/
noncomputable def inOrd (h : Nat) (P : List Nat) : List Nat := (ordU h).filter fun p => decide (p ∈ P)
theorem ord_nd {h : Nat} (h3 : h < 3) : (ordU h).Nodup := (ord_perm h h3).nodup_iff.mpr uni_nd
theorem inOrd_perm {h : Nat} {P : List Nat} (h3 : h < 3) (hP : Plc P) : (inOrd h P).Perm P := by
  unfold inOrd
  refine (List.perm_ext_iff_of_nodup ((ord_nd h3).filter _) hP.nd).mpr fun p => ?_
  rw [List.mem_filter, decide_eq_true_iff]
  exact ⟨fun q => q.2, fun q => ⟨in_ord h3 (hP.u p q), q⟩⟩
theorem ord_form {f : Nat → Str} {h : Nat} {P : List Nat} {ss : List (Str × Str)} (h3 : h < 3) (hP : Plc P) (hc : chain f (ordU h) = true) (hp : ss.Perm (P.map fun p => (f p, opWord p)).reverse) (hs : ss.Pairwise fun a b => strLt a.1 b.1) :
    ss = (inOrd h P).map fun p => (f p, opWord p) := by
  refine sorted_one hs (List.pairwise_map.mpr ?_) (hp.trans ((List.reverse_perm _).trans ((inOrd_perm h3 hP).map _).symm))
  exact (chain_pair hc).filter _
theorem front_inj {a b r s : List Nat} {c : Nat} : c ∉ a → c ∉ b → a ++ c :: r = b ++ c :: s → a = b := by
  induction a generalizing b with
  | nil =>
    intro _ hb h
    cases b with
    | nil => rfl
    | cons y t =>
      rw [List.nil_append, List.cons_append, List.cons.injEq] at h
      exact absurd (h.1 ▸ List.mem_cons_self) hb
  | cons x t ih =>
    intro ha hb h
    cases b with
    | nil =>
      rw [List.nil_append, List.cons_append, List.cons.injEq] at h
      exact absurd (h.1 ▸ List.mem_cons_self) ha
    | cons y u =>
      rw [List.cons_append, List.cons_append, List.cons.injEq] at h
      rw [h.1, ih (fun q => ha (.tail _ q)) (fun q => hb (.tail _ q)) h.2]
theorem word_inj {x y v z : Str} (hx : 61 ∉ chars x) (hy : 61 ∉ chars y) (h : wordOf (x, v) = wordOf (y, z)) : x = y := by
  have h2 := congrArg chars h
  unfold wordOf at h2
  have e : chars "=\"" = [61, 34] := by decide +kernel
  simp only [chars_app, e, List.append_assoc, List.cons_append] at h2
  exact chars_inj (front_inj hx hy h2)
theorem word_low : ∀ p, p < 10 → Txt.lower (wordOf (flagName p, opWord p)) = Txt.lower (wordOf (Txt.lower (flagName p), opWord p)) := by decide +kernel
theorem words_ok {h : Nat} {W : List Nat} (h3 : h < 3) (hW : ∀ p ∈ W, p ∈ uni) : Words (fun p => wordOf (nameOf h p, opWord p)) (fun p => wordOf (Txt.lower (nameOf h p), opWord p)) W := by
  refine ⟨fun p hp q hq e => ?_, fun p hp h10 => ?_, fun p hp h10 => ?_⟩
  · exact nm_same h3 (hW p hp) (hW q hq) (word_inj (nm_hi h3 (hW p hp)).c61 (nm_lo h3 (hW q hq)).c61 e)
  · rw [low_hex h3 (hW p hp) h10]
  · have e : nameOf h p = flagName p := nameOf_low (by omega)
    rw [e]
    exact word_low p h10
theorem word_len {x : Str} {i : Nat} (h : x.length ≤ 40) (hi : i ∈ uni) : (wordOf (x, opWord i)).length ≤ 100 := by
  have h1 := spell_len (opW_uni hi)
  have e2 : (Str.ofString "=\"").length = 2 := by decide
  have e3 : (Str.ofString "\"").length = 1 := by decide
  unfold wordOf
  dsimp only
  rw [app_len, app_len, app_len, e2, e3]
  omega
theorem lev_facts {h o : Nat} {ms ts : List Nat} {sw sl : List (Str × Str)} (hM : MsOk ms) (hT : TsOk ts) (h3 : h < 3) (hp : sw.Perm (itsL h ms).reverse) (hpl : sl.Perm (keptL h o ms ts).reverse)
    (hs : sw.Pairwise fun a b => strLt a.1 b.1) (hsl : sl.Pairwise fun a b => strLt a.1 b.1) : LevFacts (sw.map wordOf) (sl.map wordOf) (priceL h o ms ts) ∧ LevFacts (sl.map wordOf) (sw.map wordOf) (priceL h o ms ts) := by
  have P := plc_its (h := h) hM
  have K := plc_rest (h := h) (o := o) (ts := ts) hM
  have eW := ord_form h3 P (ord_hi h h3) hp hs
  have eK := ord_form (f := fun p => Txt.lower (nameOf h p)) h3 K (ord_lo h h3) hpl hsl
  have eF : inOrd h (restP h o ms ts) = (inOrd h (ms ++ upM h)).filter fun p => decide (p ∈ restP h o ms ts) := by
    unfold inOrd
    rw [List.filter_filter]
    refine List.filter_congr fun p _ => ?_
    rw [Bool.eq_iff_iff, Bool.and_eq_true, decide_eq_true_iff, decide_eq_true_iff]
    exact ⟨fun q => ⟨q, rest_sub p q⟩, fun q => q.1⟩
  have pW := inOrd_perm h3 P
  have pK := inOrd_perm h3 K
  have wW : sw.map wordOf = (inOrd h (ms ++ upM h)).map fun p => wordOf (nameOf h p, opWord p) := by rw [eW, List.map_map]; exact List.map_congr_left fun p _ => Eq.refl (wordOf (nameOf h p, opWord p))
  have wK : sl.map wordOf = (inOrd h (restP h o ms ts)).map fun p => wordOf (Txt.lower (nameOf h p), opWord p) := by rw [eK, List.map_map]; exact List.map_congr_left fun p _ => Eq.refl (wordOf (Txt.lower (nameOf h p), opWord p))
  have hless := rest_less (h := h) (o := o) hM hT
  have lW := pW.length_eq
  have lK := pK.length_eq
  have hlows : lows (inOrd h (restP h o ms ts)) = ((restP h o ms ts).filter fun p => decide (p < 10)).length := (pK.filter _).length_eq
  have hUW : ∀ p ∈ inOrd h (ms ++ upM h), p ∈ uni := fun p hq => P.u p (pW.mem_iff.mp hq)
  have hUK : ∀ p ∈ inOrd h (restP h o ms ts), p ∈ uni := fun p hq => K.u p (pK.mem_iff.mp hq)
  have hp0 : priceL h o ms ts = 2 * (((inOrd h (ms ++ upM h)).length : Int) - (inOrd h (restP h o ms ts)).length) + lows (inOrd h (restP h o ms ts)) := by
    unfold priceL itsL keptL
    rw [List.length_map, List.length_map, lW, lK, hlows]
  have h3K : 3 ∈ inOrd h (restP h o ms ts) := pK.mem_iff.mpr (List.mem_append_left _ (stay_3 hM hT))
  have hlow1 : 1 ≤ lows (inOrd h (restP h o ms ts)) := by
    unfold lows
    exact List.length_pos_iff.mpr (List.ne_nil_of_mem (List.mem_filter.mpr ⟨h3K, rfl⟩))
  generalize inOrd h (ms ++ upM h) = W at *
  rw [eF] at lK wK hlow1 hp0 hUK
  have hw := words_ok h3 hUW
  obtain ⟨W', sub, e1, e2, e3, e4⟩ := trim_words (keep := fun p => decide (p ∈ restP h o ms ts)) hw
  have hw' : Words (fun p => wordOf (nameOf h p, opWord p)) (fun p => wordOf (Txt.lower (nameOf h p), opWord p)) W' := words_ok h3 fun p hq => hUW p (sub p hq)
  generalize hk : (fun p => decide (p ∈ restP h o ms ts)) = keep at *
  have hl8 := P.l8
  rw [← wW, ← wK] at e1 e2
  have h0 : 0 < (W'.filter keep).length := Nat.lt_of_lt_of_le (by omega) (lows_le _)
  have h0W := List.length_filter_le keep W'
  have h5 : (W'.filter keep).length < W'.length := by omega
  have hp1 : priceL h o ms ts = 2 * ((W'.length : Int) - (W'.filter keep).length) + lows (W'.filter keep) := by rw [hp0, ← e3]; omega
  have lenW : (sw.map wordOf).length = W.length := by rw [wW, List.length_map]
  have lenK : (sl.map wordOf).length = (W.filter keep).length := by rw [wK, List.length_map]
  have b1 : ∀ x ∈ sw.map wordOf, x.length ≤ 100 := fun x hx => by
    rw [wW] at hx
    obtain ⟨p, hq, rfl⟩ := List.mem_map.mp hx
    exact word_len (nm_hi h3 (hUW p hq)).le (hUW p hq)
  have b2 : ∀ x ∈ sl.map wordOf, x.length ≤ 100 := fun x hx => by
    rw [wK] at hx
    obtain ⟨p, hq, rfl⟩ := List.mem_map.mp hx
    exact word_len (nm_lo h3 (hUK p hq)).le (hUK p hq)
  have hne : sw.map wordOf ≠ sl.map wordOf := fun e => by
    have := congrArg List.length e
    omega
  have ta : 0 < (trimmed (sw.map wordOf) (sl.map wordOf)).1.length := by rw [e1, List.length_map]; omega
  have tb : 0 < (trimmed (sw.map wordOf) (sl.map wordOf)).2.length := by rw [e2, List.length_map]; omega
  have law1 : ∀ b r : Int, (b < 0 ∨ priceL h o ms ts - 1 ≤ b) → LevPost b (sw.map wordOf) (sl.map wordOf) r → r = if b < 0 then b + 1 else priceL h o ms ts := by
    rintro b r hb ⟨x, y, hxy, hor, hout⟩
    rcases hor with ⟨rfl, rfl⟩ | ⟨rfl, rfl⟩
    · rw [e1, e2, List.length_map, List.length_map] at hxy; omega
    · rw [e1, e2] at hout
      exact lev_out hw' h0 hp1 hb hout
  have tc := trimmed_comm (sw.map wordOf) (sl.map wordOf)
  refine ⟨⟨hne, ta, tb, by omega, by omega, b1, b2, law1⟩, ⟨Ne.symm hne, by rw [tc]; exact tb, by rw [tc]; exact ta, by omega, by omega, b2, b1, ?_⟩⟩
  rintro b r hb ⟨x, y, hxy, hor, hout⟩
  rw [tc] at hor
  exact law1 b r hb ⟨x, y, hxy, hor.symm, hout⟩
end
-- PlA
theorem noneHcPlA : True := by
  k_with_none
  trivial
section
theorem fmod3 (x : Int) : ∃ h : Nat, x.fmod 3 = h ∧ h < 3 := by
  have h1 := Int.fmod_nonneg_of_pos x (b := 3) (by decide)
  have h2 := Int.fmod_lt_of_pos x (b := 3) (by decide)
  exact ⟨(x.fmod 3).toNat, by omega, by omega⟩
structure PArg (ms : List Nat) (k : Nat) : Prop where
  h0 : bits ms + k * 2 ^ 32 ≠ 0
  h1 : bits ms + k * 2 ^ 32 < 2 ^ 34
theorem pArg {ms : List Nat} {k : Nat} (h : ms.Pairwise (· < ·)) (hl : ∀ p ∈ ms, p < 32) (h0 : ms ≠ []) (hk : k < 3) : PArg ms k := by
  refine ⟨?_, ?_⟩
  · obtain ⟨p, r, rfl⟩ := List.exists_cons_of_ne_nil h0
    have := Nat.two_pow_pos p
    simp only [bits, List.map_cons, List.sum_cons]; omega
  · have := bits_lt h hl
    omega
theorem arg_bits (ms : List Nat) (k : Nat) : (ms.map fun p => ((2 ^ p : Nat) : Int)).sum + (k : Int) * 2 ^ Int.toNat 32 = ((bits ms + k * 2 ^ 32 : Nat) : Int) := by
  have h : ∀ l : List Nat, (l.map fun p => ((2 ^ p : Nat) : Int)).sum = ((bits l : Nat) : Int) := by
    intro l
    induction l with
    | nil => rfl
    | cons a r ih =>
      simp only [bits, List.map_cons, List.sum_cons] at ih ⊢
      rw [ih]
      rfl
  rw [h ms]
  rfl
section
variable {prog : Program} {w : World} {s : Shared} {L : Addr} {h₀ base : Heap} {m mg mb : Str → Option Value} {p : Program} {loose : List Str} {mean : ExcName → Option Value} {news : List (Addr × Obj)} {Q E : Value → Shared → Prop}
theorem use_pretty {ms : List Nat} {k : Nat} {tx : Tok} (hP : PArg ms k)
    {dp un : Nat} {gd : Option (List Code)} {cn : Str} {cs : Scope} {a : Addr} {ccd : Value} {cl : List (Str × Addr)} {outer : List Env} {A₀ : Around}
    (B : Below A₀ base outer h₀) (F : Fr h₀ L s.heap m) (X : (hd.heap_39 w.params).In h₀) (N : News h₀ L s.heap news) (T : Top p loose mean mg mb h₀) (hk : cs.kind = .function) (hd' : dp + 1 < recursionLimit) (hu : un + 8 < cLine)
    (h : ∀ t h' tk', Fr h₀ L h' m → News h₀ L h' news → Q (.str (Str.join ", " (prettyL (bits ms + k * 2 ^ 32))) t) { s with heap := h', toks := tk' }) :
    wpAny (model prog w) (ktrTop dp un gd cn cs L a ccd cl outer) (call (.ref 46) [.int ((ms.map fun p => ((2 ^ p : Nat) : Int)).sum + (k : Int) * 2 ^ Int.toNat 32) tx]) Q E s := by
  rw [arg_bits]
  refine use_pure (c_pretty _ tx hP.h0 hP.h1) B F X N T hk hd' hu trivial ?_
  rintro v h' tk' st ⟨t, rfl⟩ F' N'
  exact h t h' tk' F' N'
end
theorem its_low {h : Nat} {ms : List Nat} (hl : ∀ p ∈ ms, p < 32) : ms.map (fun p => (nameOf h p, opWord p)) = ms.map (fun p => (flagName p, opWord p)) :=
  List.map_congr_left fun p hp => by rw [nameOf, if_neg (by have := hl p hp; omega)]
theorem kept_low {h : Nat} {ms : List Nat} (hl : ∀ p ∈ ms, p < 32) : ms.map (fun p => (Txt.lower (nameOf h p), opWord p)) = ms.map (fun p => (Txt.lower (flagName p), opWord p)) :=
  List.map_congr_left fun p hp => by rw [nameOf, if_neg (by have := hl p hp; omega)]
theorem sum_bits (l : List Nat) : (l.map fun p => ((2 ^ p : Nat) : Int)).sum = ((bits l : Nat) : Int) := by
  have := arg_bits l 0
  simpa using this
theorem num_none {h o : Nat} (l : List Nat) (hh : h = 0 ∨ h = o) : (l.map fun p => ((2 ^ p : Nat) : Int)).sum = ((bits l + numK h o * 2 ^ 32 : Nat) : Int) := by
  rw [sum_bits, numK, if_pos hh]; simp
theorem num_some {h o : Nat} (l : List Nat) (hh : ¬ (h = 0 ∨ h = o)) : (l.map fun p => ((2 ^ p : Nat) : Int)).sum + (h : Int) * 2 ^ Int.toNat 32 = ((bits l + numK h o * 2 ^ 32 : Nat) : Int) := by
  rw [arg_bits, numK, if_neg hh]
theorem hi_txt1 : hiName 1 = Str.ofString "0x100000000" ∧ Txt.lower (hiName 1) = Str.ofString "0x100000000" := by decide +kernel
theorem hi_txt2 : hiName 2 = Str.ofString "0x200000000" ∧ Txt.lower (hiName 2) = Str.ofString "0x200000000" := by decide +kernel
theorem word47 : opWord 47 = Str.ofString "!" := by decide +kernel
theorem its_no {ms : List Nat} (hl : ∀ p ∈ ms, p < 32) : itsL 0 ms = ms.map fun p => (flagName p, opWord p) := by
  unfold itsL upM; rw [if_pos rfl, List.append_nil, its_low hl]
theorem its_hi {h : Nat} {ms : List Nat} (hl : ∀ p ∈ ms, p < 32) (hh : h ≠ 0) : itsL h ms = (ms.map fun p => (flagName p, opWord p)) ++ [(hiName h, Str.ofString "!")] := by
  unfold itsL upM; rw [if_neg hh, List.map_append, its_low hl, ← word47]; rfl
theorem kept_no {h o : Nat} {ms ts : List Nat} (hl : ∀ p ∈ ms, p < 32) (hh : h = 0 ∨ h = o) : keptL h o ms ts = (ms.filter fun p => decide (p ∉ ts)).map fun p => (Txt.lower (flagName p), opWord p) := by
  unfold keptL restP upK; rw [if_pos hh, List.append_nil, kept_low fun p hp => hl p (List.mem_filter.mp hp).1]
theorem kept_hi {h o : Nat} {ms ts : List Nat} (hl : ∀ p ∈ ms, p < 32) (hh : ¬ (h = 0 ∨ h = o)) : keptL h o ms ts = ((ms.filter fun p => decide (p ∉ ts)).map fun p => (Txt.lower (flagName p), opWord p)) ++ [(Txt.lower (hiName h), Str.ofString "!")] := by
  unfold keptL restP upK; rw [if_neg hh, List.map_append, kept_low fun p hp => hl p (List.mem_filter.mp hp).1, ← word47]; rfl
theorem rest_no {h o : Nat} {ms ts : List Nat} (hh : h = 0 ∨ h = o) : restP h o ms ts = ms.filter fun p => decide (p ∉ ts) := by
  unfold restP upK; rw [if_pos hh, List.append_nil]
theorem rest_hi {h o : Nat} {ms ts : List Nat} (hh : ¬ (h = 0 ∨ h = o)) : restP h o ms ts = (ms.filter fun p => decide (p ∉ ts)) ++ [47] := by
  unfold restP upK; rw [if_neg hh]
theorem told_eq {h : Nat} {ms : List Nat} (hl : ∀ p ∈ ms, p < 32) : toldL h ms = (itsL h ms).map (·.1) := by
  unfold toldL itsL upM
  rw [List.map_map, List.map_append]
  congr 1
  · exact List.map_congr_left fun p hp => by simp only [Function.comp]; rw [nameOf, if_neg (by have := hl p hp; omega)]
  · split <;> rfl
theorem its_len {h : Nat} {ms : List Nat} : (itsL h ms).length ≤ ms.length + 1 := by
  unfold itsL upM
  rw [List.length_map, List.length_append]
  split <;> simp
section
variable {prog : Program} {w : World} {s : Shared} {L : Addr} {h₀ base : Heap} {m mg mb : Str → Option Value} {p : Program} {loose : List Str} {mean : ExcName → Option Value} {news : List (Addr × Obj)} {Q E : Value → Shared → Prop}
theorem use_text {l : Addr} {vs : List Value} {c : Nat} {its ss : List (Str × Str)} (N : News h₀ L s.heap news) (hm : (l, W.listOf vs.toArray c) ∈ news) (hT : TupsAt s.heap vs its) (ok : OkIts its) (hp : ss.Perm its.reverse) (hs : ss.Pairwise fun a b => strLt a.1 b.1)
    {dp un : Nat} {gd : Option (List Code)} {cn : Str} {cs : Scope} {a : Addr} {ccd : Value} {cl : List (Str × Addr)} {outer : List Env} {A₀ : Around}
    (B : Below A₀ base outer h₀) (F : Fr h₀ L s.heap m) (X : (hd.heap_39 w.params).In h₀) (T : Top p loose mean mg mb h₀) (hk : cs.kind = .function) (hd' : dp + 3 < recursionLimit) (hu : un + 30 < cLine)
    (h : ∀ t h' tk', Fr h₀ L h' m → News h₀ L h' news → Q (.str (textOf ss) t) { s with heap := h', toks := tk' }) :
    wpAny (model prog w) (ktrTop dp un gd cn cs L a ccd cl outer) (call (.ref 224) [.ref l]) Q E s := by
  refine use_pure (c_text l vs its ok) B F X N T hk hd' hu ⟨PySem.IsL.isList (News.get N hm), hT⟩ ?_
  rintro v h' tk' st ⟨its', t, hp', hs', rfl⟩ F' N'
  rw [sorted_one hs' hs (hp'.trans (hp.trans its.reverse_perm).symm)]
  exact h t h' tk' F' N'
end
end
-- PlB
theorem noneHcPlB : True := by
  k_with_none
  trivial
section
theorem slice_10 {x : Str} {l u : Option Int} (h : x.length ≤ 5000) : (Txt.slice x l u).length ≤ 10000 := Nat.le_trans (slice_le _ _ _) (by omega)
theorem sorted_ints {a b : List Int} (h : a.Perm b) (ha : a.Pairwise (· ≤ ·)) (hb : b.Pairwise (· ≤ ·)) : a = b := h.eq_of_pairwise (fun x y _ _ h1 h2 => Int.le_antisymm h1 h2) ha hb
theorem numK_lt {h o : Nat} (h3 : h < 3) : numK h o < 3 := by unfold numK; split <;> omega
theorem stay_ne {ms ts : List Nat} (hM : MsOk ms) (hT : TsOk ts) : stay ms ts ≠ [] := by
  intro e
  have : 3 ∈ stay ms ts := List.mem_filter.mpr ⟨hM.h3, decide_eq_true hT.h3⟩
  rw [e] at this; cases this
theorem fmod2 (x : Int) : ∃ h : Nat, x.fmod 2 = h ∧ h < 2 := by
  have h1 := Int.fmod_nonneg_of_pos x (b := 2) (by decide)
  have h2 := Int.fmod_lt_of_pos x (b := 2) (by decide)
  exact ⟨(x.fmod 2).toNat, by omega, by omega⟩
theorem two_bounds {p b x : Int} {t u : Tok} {i : Nat} {v : Value} (h3 : 0 ≤ x) (hp : 0 ≤ p) (hb : b < 0) (hb2 : -500 < b) (h : [Value.int (p - 1 + x) t, Value.int b u][i]? = some v) : ∃ c t', v = Value.int c t' ∧ (c < 0 ∨ p - 1 ≤ c) ∧ -500 < c := by
  match i, h with
  | 0, h => exact ⟨_, _, (Option.some.inj h).symm, .inr (by omega), by omega⟩
  | 1, h => exact ⟨_, _, (Option.some.inj h).symm, .inl hb, hb2⟩
/-- the two rows, either way round -/
theorem pick_rows {DA DB : Addr} {wsA wsB : List Value} {aA aB : List Str} {pr : Int} {sd : Nat} (h : sd < 2) (iA : StrsAre wsA aA) (iB : StrsAre wsB aB) (h1 : LevFacts aA aB pr) (h2 : LevFacts aB aA pr) :
    ∃ DX DY wsX wsY aX aY, [Value.ref DA, Value.ref DB][sd]? = some (Value.ref DX) ∧ [Value.ref DA, Value.ref DB][1 - sd]? = some (Value.ref DY) ∧ ((DX, W.listOf (List.toArray wsX) 0) ∈ [(DB, W.listOf (List.toArray wsB) 0), (DA, W.listOf (List.toArray wsA) 0)]) ∧
      ((DY, W.listOf (List.toArray wsY) 0) ∈ [(DB, W.listOf (List.toArray wsB) 0), (DA, W.listOf (List.toArray wsA) 0)]) ∧ StrsAre wsX aX ∧ StrsAre wsY aY ∧ LevFacts aX aY pr := by
  match sd, h with
  | 0, _ => exact ⟨DA, DB, wsA, wsB, aA, aB, rfl, rfl, .tail _ (.head _), .head _, iA, iB, h1⟩
  | 1, _ => exact ⟨DB, DA, wsB, wsA, aB, aA, rfl, rfl, .head _, .tail _ (.head _), iB, iA, h2⟩
section
variable {prog : Program} {w : World} {s : Shared} {L : Addr} {h₀ base : Heap} {m mg mb : Str → Option Value} {p : Program} {loose : List Str} {mean : ExcName → Option Value} {news : List (Addr × Obj)} {Q E : Value → Shared → Prop}
theorem use_pretty' {ms : List Nat} {k : Nat} {tx : Tok} (hP : PArg ms k)
    {dp un : Nat} {gd : Option (List Code)} {cn : Str} {cs : Scope} {a : Addr} {ccd : Value} {cl : List (Str × Addr)} {outer : List Env} {A₀ : Around}
    (B : Below A₀ base outer h₀) (F : Fr h₀ L s.heap m) (X : (hd.heap_39 w.params).In h₀) (N : News h₀ L s.heap news) (T : Top p loose mean mg mb h₀) (hk : cs.kind = .function) (hd' : dp + 1 < recursionLimit) (hu : un + 8 < cLine)
    (h : ∀ t h' tk', Fr h₀ L h' m → News h₀ L h' news → Q (.str (Str.join ", " (prettyL (bits ms + k * 2 ^ 32))) t) { s with heap := h', toks := tk' }) :
    wpAny (model prog w) (ktrTop dp un gd cn cs L a ccd cl outer) (call (.ref 46) [.int ((bits ms + k * 2 ^ 32 : Nat) : Int) tx]) Q E s := by
  refine use_pure (c_pretty _ tx hP.h0 hP.h1) B F X N T hk hd' hu trivial ?_
  rintro v h' tk' st ⟨t, rfl⟩ F' N'
  exact h t h' tk' F' N'
theorem use_read' {x : Str} {tx : Tok} {its : List (Str × Nat)} (R : RdOk x its)
    {dp un : Nat} {gd : Option (List Code)} {cn : Str} {cs : Scope} {a : Addr} {ccd : Value} {cl : List (Str × Addr)} {outer : List Env} {A₀ : Around}
    (B : Below A₀ base outer h₀) (F : Fr h₀ L s.heap m) (X : (hd.heap_39 w.params).In h₀) (N : News h₀ L s.heap news) (T : Top p loose mean mg mb h₀) (hk : cs.kind = .function) (hd' : dp + 2 < recursionLimit) (hu : un + 30 < cLine)
    (h : ∀ q la lb n va vb na nb mb' h' tk', StrsAre va (its.map (·.1)) → IntsAre vb mb' → mb'.Perm (its.map fun p => (p.2 : Int)) → mb'.Pairwise (· ≤ ·) → Fr h₀ L h' m → News h₀ L h' ((q, ({ cls := .type "tuple", data := .seq #[.ref la, .ref lb] n } : Obj)) :: (la, W.listOf (List.toArray va) na) :: (lb, W.listOf (List.toArray vb) nb) :: news) → AllNe q news → AllNe la news → AllNe lb news → @Ne Nat q la ∧ @Ne Nat q lb ∧ @Ne Nat la lb → Q (.ref q) { s with heap := h', toks := tk' }) :
    wpAny (model prog w) (ktrTop dp un gd cn cs L a ccd cl outer) (call (.ref 243) [.str x tx]) Q E s :=
  use_read R.hx R.hlen R.hi R.hs R.hxl B F X N T hk hd' hu h
theorem slice_nn_k {A : Around} {value slice : Expr} {x : Str} {t : Tok} {i j : Int} {ui uj : Tok} (hF : Fr h₀ L s.heap m) (hN : News h₀ L s.heap news) (h : ∀ h' t' k, s.toks ≤ k → Fr h₀ L h' m → News h₀ L h' news → Q (.str (Txt.slice x (some i) (some j)) t') { s with heap := h', toks := k })
    (hs : subscripted slice false (.str x t) (.ref s.heap.objs.size) = operate [.ref s.heap.objs.size, .str x t] (getItem (.str x t) (.ref s.heap.objs.size)))
    (ht : ∀ r, letTemporaryGo value (.str x t) r = pure ()) (hsz : x.length ≤ 5000) :
    wpAny (model prog w) A (subscriptTail value slice (.str x t) (.ref s.heap.objs.size)) Q E { s with heap := s.heap.push { cls := .type "slice", data := .fields #[.int i ui, .int j uj, .none] } } :=
  tail_of_ItemOn ⟨"str", _, PySem.F.slot_str_getitem.lookup, typeIs_str _ _ _, wpAny_getItem_str_slice (l := some (i, ui)) (u := some (j, uj)) (st := none) ⟨_, Heap.get?_push_size _ rfl, rfl, rfl⟩ rfl
    (post_toks ⟨Nat.le_trans (Mine.slice_le x _ _) (by have := sizeLine_eq; omega), fun t' k hk => h _ t' k hk (Fr.pushS hF _) (fun p hp => ⟨Heap.get?_push_of_some _ (hN p hp).1, (hN p hp).2⟩)⟩)⟩ hs ht
theorem newList_two {A : Around} {x y : Value} (F : Fr h₀ L s.heap m) (N : News h₀ L s.heap news) (h : ∀ l h', Fr h₀ L h' m → News h₀ L h' ((l, W.listOf [x, y].toArray 0) :: news) → AllNe l news → Q (.ref l) { s with heap := h' }) :
    wpAny (model prog w) A (newList [x, y]) Q E s :=
  newList_K F N (fun l h' F' N' hl => h l h' F' N' (allNe_of fun q hq => Nat.ne_of_lt (hl q hq))) (by rw [sizeLine_eq]; simp)
theorem newList_nil {A : Around} (F : Fr h₀ L s.heap m) (N : News h₀ L s.heap news) (h : ∀ l h', Fr h₀ L h' m → News h₀ L h' ((l, W.listOf ([] : List Value).toArray 0) :: news) → AllNe l news → Q (.ref l) { s with heap := h' }) :
    wpAny (model prog w) A (newList []) Q E s :=
  newList_K F N (fun l h' F' N' hl => h l h' F' N' (allNe_of fun q hq => Nat.ne_of_lt (hl q hq))) (by rw [sizeLine_eq]; simp)
theorem ne_ints {A : Around} {l b : Addr} {va vb : List Value} {aw bw : List Int} (hl : s.heap.IsList l va.toArray) (hb : s.heap.IsList b vb.toArray) (hA : IntsAre va aw) (hB : IntsAre vb bw) (hu : A.units < cLine) (hq : Q (.bool (!decide (aw = bw))) s) : wpAny (model prog w) A (compareOp .NotEq (.ref l) (.ref b)) Q E s := by
  refine of_rcNe ?_ hq
  have la := hA.length
  have lb := hB.length
  by_cases hs : va.length = vb.length
  · obtain ⟨e, he, hd⟩ := all_ints hA hB hs (A := A.in1) (s := s)
    rw [← hd]
    exact PySem.SeqAt.RcNeAt.lists hl hb (by simpa using hs) hu he
  · rw [show decide (aw = bw) = false from by rw [decide_eq_false_iff_not]; intro e; exact hs (by rw [la, lb, e])]
    exact PySem.SeqAt.RcNeAt.lists_lengths hl hb (by simpa using hs) hu
theorem ne_ints_yes {A : Around} {l b : Addr} {va vb : List Value} {aw bw : List Int} (hl : s.heap.IsList l va.toArray) (hb : s.heap.IsList b vb.toArray) (hA : IntsAre va aw) (hB : IntsAre vb bw) (hu : A.units < cLine) (e : aw ≠ bw) (hq : Q (.bool true) s) : wpAny (model prog w) A (compareOp .NotEq (.ref l) (.ref b)) Q E s :=
  ne_ints hl hb hA hB hu (by rw [decide_eq_false e]; exact hq)
theorem ne_ints_no {A : Around} {l b : Addr} {va vb : List Value} {aw bw : List Int} (hl : s.heap.IsList l va.toArray) (hb : s.heap.IsList b vb.toArray) (hA : IntsAre va aw) (hB : IntsAre vb bw) (hu : A.units < cLine) (e : aw = bw) (hq : Q (.bool false) s) : wpAny (model prog w) A (compareOp .NotEq (.ref l) (.ref b)) Q E s :=
  ne_ints hl hb hA hB hu (by rw [decide_eq_true e]; exact hq)
theorem item_in {A : Around} {value slice : Expr} {a : Addr} {vs : List Value} {p : Nat} {u : Tok} {x : Value} {g : Heap} (F : Fr g L s.heap m) (hl : g.IsList a vs.toArray) (hx : vs[p]? = some x) (hp : p < 1000) (h : Q x s)
    (hs : subscripted slice false (.ref a) (.int (p : Int) u) = operate [.ref a, .int (p : Int) u] (getItem (.ref a) (.int (p : Int) u))) (hg : ∀ r, letTemporaryGo value (.ref a) r = pure ()) :
    wpAny (model prog w) A (subscriptTail value slice (.ref a) (.int (p : Int) u)) Q E s :=
  item_listL (hl.at fun o e => F.keep _ o e) (by omega) (by omega) (by simpa using hx) h hs hg
theorem use_lev {DX DY : Addr} {wsX wsY : List Value} {cX cY : Nat} {sm : List (Addr × Obj)} {aX aY : List Str} {pr b due : Int} {tb : Tok} (hL : LevFacts aX aY pr) (iX : StrsAre wsX aX) (iY : StrsAre wsY aY) (hb : b < 0 ∨ pr - 1 ≤ b) (hdue : (if b < 0 then b + 1 else pr) = due)
    {dp un : Nat} {gd : Option (List Code)} {cn : Str} {cs : Scope} {a : Addr} {ccd : Value} {cl : List (Str × Addr)} {outer : List Env} {A₀ : Around}
    (B : Below A₀ base outer h₀) (F : Fr h₀ L s.heap m) (X : (hd.heap_39 w.params).In h₀) (N : News h₀ L s.heap news) (T : Top p loose mean mg mb h₀) (hk : cs.kind = .function) (hd' : dp + 3 < recursionLimit) (hu : un + 40 < cLine)
    (mX : (DX, W.listOf wsX.toArray cX) ∈ sm) (mY : (DY, W.listOf wsY.toArray cY) ∈ sm) (ms : ∀ q ∈ sm, q ∈ news)
    (h : ∀ t h' tk', Fr h₀ L h' m → News h₀ L h' news → Q (.int due t) { s with heap := h', toks := tk' }) :
    wpAny (model prog w) (ktrTop dp un gd cn cs L a ccd cl outer) (call (.ref 63) [.ref DX, .ref DY, .int b tb]) Q E s := by
  refine use_pure (c_lev DX DY wsX wsY aX aY iX iY hL.la hL.lb hL.wa hL.wb b tb hL.ne hL.ta hL.tb) B F X N T hk hd' hu ⟨PySem.IsL.isList (News.get N (ms _ mX)), PySem.IsL.isList (News.get N (ms _ mY))⟩ ?_
  rintro v h' tk' st ⟨t, r, rfl, hr⟩ F' N'
  rw [hL.law b r hb hr, hdue]
  exact h t h' tk' F' N'
theorem item_sub {A : Around} {value slice : Expr} {a : Addr} {vs : List Value} {n p : Nat} {k : Int} {u : Tok} {x : Value} (N : News h₀ L s.heap news) (hm : (a, W.listOf vs.toArray n) ∈ news) (e : k = (p : Int)) (hx : vs[p]? = some x) (hp : p < 1000) (h : Q x s)
    (hs : subscripted slice false (.ref a) (.int k u) = operate [.ref a, .int k u] (getItem (.ref a) (.int k u))) (hg : ∀ r, letTemporaryGo value (.ref a) r = pure ()) :
    wpAny (model prog w) A (subscriptTail value slice (.ref a) (.int k u)) Q E s := by
  subst e
  exact item_at N hm hx hp h hs hg
theorem str_int {A : Around} {x : Int} {t : Tok} (h1 : -1000 < x) (h2 : x < 1000) (h : Q (.str (toString x) s.toks) { s with toks := s.toks + 1 }) : wpAny (model prog w) A (call (.type "str") [.int x t]) Q E s :=
  PySem.P.str_of_int (PyProof.Rows.shown (N := 1000) h1 h2 (by decide +kernel)) h
theorem len_in {A : Around} {a : Addr} {vs : List Value} {n : Nat} {g : Heap} (F : Fr g L s.heap m) (hl : g.IsList a vs.toArray) (hs : vs.length = n) (hf : n ≤ 1000) (h : Q (.int (n : Nat) (s.toks + 1)) { s with toks := s.toks + 1 + 1 }) :
    wpAny (model prog w) A (call (.builtin "len") [.ref a]) Q E s := by
  refine len_list (hl.at fun o e => F.keep _ o e) (by rw [List.size_toArray]; omega) ?_
  rw [List.size_toArray, hs]; exact h
theorem ne_pair {A : Around} {l a b c q r : Addr} {v1 v2 u1 u2 : List Value} {x1 x2 : List Str} {y1 y2 : List Int} (hq : s.heap.IsTuple q #[.ref l, .ref a]) (hr : s.heap.IsTuple r #[.ref b, .ref c])
    (h1 : s.heap.IsList l v1.toArray) (h2 : s.heap.IsList a u1.toArray) (h3 : s.heap.IsList b v2.toArray) (h4 : s.heap.IsList c u2.toArray) (i1 : StrsAre v1 x1) (i2 : IntsAre u1 y1) (i3 : StrsAre v2 x2) (i4 : IntsAre u2 y2)
    (hu : A.in1.units < cLine) (hu' : A.units < cLine) (e1 : x1 = x2) (e2 : y1 = y2) (h : Q (.bool false) s) : wpAny (model prog w) A (compareOp .NotEq (.ref q) (.ref r)) Q E s :=
  of_rcNe (rcNe_pair hq hr h1 h2 h3 h4 i1 i2 i3 i4 hu hu') (by rw [decide_eq_true e1, decide_eq_true e2]; exact h)
end
end
-- LibZ2
theorem noneHcLibZ2 : True := by
  k_with_none
  trivial
section
section
variable {prog : Program} {w : World} {A : Around} {E : Value → Shared → Prop} {s s₁ : Shared} {env : Env} {h₀ : Heap} {L C : Addr} {m m₃ : Str → Option Value} {news : List (Addr × Obj)} {scope : Scope} {cl : List (Str × Addr)}
/-- a turn with one name and a test -/
theorem turn_name_if {elt c : Expr} {x : Str} {pos : Pos} {v : Value} {p : Value → Bool} {G : Heap → Value → Value → Prop} (F : Fr h₀ L s₁.heap m) (N : News h₀ L s₁.heap news) (hC : s₁.heap.objs.size ≤ C) (st : s₁.heap.StaysIn s.heap) (hn : s.heap.Ns C m₃)
    (hx : scope.names.lookup x = some .local) (hkind : scope.kind = .function)
    (h : ∀ h' tk oC m₂, LCg.NsObj oC m₂ → m₂ x = some v → Fr h₀ L h' m → News h₀ L h' ((C, oC) :: news) → s₁.heap.StaysIn h' → AllNe C news → @Ne Nat C L →
      wpAny (model prog w) A (isTrue c (compEnvC scope cl C env) (eval c (compEnvC scope cl C env))) (fun ok s₃ => if ok = true then wpAny (model prog w) A (eval elt (compEnvC scope cl C env)) (EltEnd p G v { s with heap := h', toks := tk }) (fun _ _ => False) s₃
        else ∃ h2 tk2, s₃ = { s with heap := h2, toks := tk2 } ∧ h'.StaysIn h2 ∧ p v = false) (fun _ _ => False) { s with heap := h', toks := tk }) :
    Turn prog w A (compEnvC scope cl C env) (.Name x pos) [c] elt C p G v s := by
  refine wpAny_assign_Name (wpAny_storeName_local (lookup_relabel_local hx) hn (fun h₂ hn₂ hs₂ => ?_) (by simp [compEnvC, relabel, hkind]))
  refine tests_one ?_
  obtain ⟨oC, hoC, F', N', hne, hL⟩ := block_ground F N hC (fun b o hb e => hs₂.extBut b o hb (st b o e)) hn₂
  refine wpAny_mono (h h₂ _ oC _ hoC (by simp) F' N' (fun b o e => hs₂.extBut b o (Nat.ne_of_lt (Nat.lt_of_lt_of_le (Heap.lt_size e) hC)) (st b o e)) hne hL) (fun ok s₃ h₃ => ?_) fun _ _ e => e
  cases ok with
  | false =>
    simp only [Bool.false_eq_true, if_false] at h₃ ⊢
    obtain ⟨h2, tk2, rfl, st2, hp⟩ := h₃
    exact ⟨h2, tk2, _, rfl, hn₂.at' fun o e => st2 _ o e, fun b o hb e => st2 b o (hs₂.extBut b o hb e), hp⟩
  | true =>
    simp only [if_true] at h₃ ⊢
    refine wpAny_mono h₃ (fun y s₄ h₄ => ?_) fun _ _ e => e
    obtain ⟨h', tk, rfl, st', hp, hG⟩ := h₄
    exact ⟨h', tk, _, rfl, hn₂.at' fun o e => st' _ o e, fun b o hb e => st' b o (hs₂.extBut b o hb e), hp, fun hf kf => hG hf fun b o e1 e2 => by
      refine kf b o ?_ e2
      by_cases hb : b = C
      · obtain ⟨o', _, _, ho', _⟩ := hn₂
        rw [hb] at e1; dsimp only at e1; erw [ho'] at e1; cases e1
      · exact (hs₂.2 b hb).symm.trans e1⟩
end
/-- the ints of a list that pass a test -/
noncomputable def intP (f : Nat → Bool) : Value → Bool
  | .int x _ => f x.toNat
  | _ => true
theorem ints_filter {f : Nat → Bool} {vs : List Value} {ms : List Nat} (h : IntsAre vs (ms.map fun p : Nat => (p : Int))) : IntsAre (vs.filter (intP f)) ((ms.filter f).map fun p : Nat => (p : Int)) := by
  induction ms generalizing vs with
  | nil => cases h; exact .nil
  | cons p ms ih =>
    cases h with
    | cons _ t hi =>
      have e : intP f (.int (p : Int) t) = f p := rfl
      rw [List.filter_cons, List.filter_cons, e]
      cases f p with
      | true => exact .cons _ _ (ih hi)
      | false => exact ih hi
theorem ints_paired {vs : List Value} {ms : List Nat} (h : IntsAre vs (ms.map fun p : Nat => (p : Int))) : Paired (fun v (p : Nat) => ∃ t, v = Value.int (p : Int) t) vs ms := by
  induction ms generalizing vs with
  | nil => cases h; exact .nil
  | cons p ms ih => cases h with | cons _ t hi => exact .cons ⟨t, rfl⟩ (ih hi)
theorem paired_comp {α β γ : Type} {F : α → β → Prop} {G : α → γ → Prop} {H : γ → β → Prop} (k : ∀ a b c, F a b → G a c → H c b) {as : List α} {bs : List β} (x : Paired F as bs) : ∀ {cs : List γ}, Paired G as cs → Paired H cs bs := by
  induction x with
  | nil => intro cs y; cases y; exact .nil
  | cons h _ ih => intro cs y; cases y with | cons g r => exact .cons (k _ _ _ h g) (ih r)
theorem new_tups {α : Type} {g h : Heap} {zs : List Nat} {W : α → Str × Str} {ys : List Value} {ps : List α} (x : Paired (fun y p => ∃ a t t' n, y = Value.ref a ∧ g.get? a = none ∧ (∀ z ∈ zs, @Ne Nat a z) ∧ h.get? a = some (tup2 (W p) t t' n)) ys ps) :
    ∃ tl : List (Addr × Obj), Paired (PairIn tl) ys (ps.map W) ∧ ∀ q ∈ tl, g.get? q.1 = none ∧ (∀ z ∈ zs, @Ne Nat q.1 z) ∧ h.get? q.1 = some q.2 ∧ q.2.cls = .type "tuple" := by
  induction x with
  | nil => exact ⟨[], .nil, fun _ hq => nomatch hq⟩
  | cons hv _ ih =>
    obtain ⟨tl, h1, h2⟩ := ih
    obtain ⟨a, t1, t2, n, rfl, e1, e2, e3⟩ := hv
    exact ⟨(a, tup2 _ t1 t2 n) :: tl, .cons ⟨a, t1, t2, n, rfl, .head _⟩ (paired_map (fun v p x => x.mono fun q hq => .tail _ hq) h1), fun q hq => (List.mem_cons.mp hq).elim (fun e => e ▸ ⟨e1, e2, e3, rfl⟩) (h2 q)⟩
theorem same_list {vs ys : List Value} (h : Paired (fun v y => y = v) vs ys) : ys = vs := by
  induction h with
  | nil => rfl
  | cons h _ ih => rw [h, ih]
/-- the new tuple of a turn -/
noncomputable def PairG (g : Heap) (zs : List Nat) (nm wd : Nat → Str) (h : Heap) (v y : Value) : Prop := ∀ p : Nat, (∃ t, v = .int (p : Int) t) → ∃ a t t' n, y = .ref a ∧ g.get? a = none ∧ (∀ z ∈ zs, @Ne Nat a z) ∧ h.get? a = some (tup2 (nm p, wd p) t t' n)
theorem pairG_tail {g h : Heap} {zs : List Nat} {nm wd : Nat → Str} {vs ys : List Value} {ms : List Nat} (hi : IntsAre vs (ms.map fun p : Nat => (p : Int))) (hr : Paired (PairG g zs nm wd h) vs ys) :
    ∃ tl : List (Addr × Obj), Paired (PairIn tl) ys (ms.map fun p => (nm p, wd p)) ∧ ∀ q ∈ tl, g.get? q.1 = none ∧ (∀ z ∈ zs, @Ne Nat q.1 z) ∧ h.get? q.1 = some q.2 ∧ q.2.cls = .type "tuple" :=
  new_tups (W := fun p => (nm p, wd p)) (paired_comp (fun _ p _ f k => k p f) (ints_paired hi) hr)
theorem any_cast {ts : List Nat} {p : Nat} : ((ts.map fun p : Nat => (p : Int)).any fun x => x == (p : Int)) = decide (p ∈ ts) := by
  rw [Bool.eq_iff_iff, List.any_eq_true, decide_eq_true_iff]
  constructor
  · rintro ⟨z, hz, e⟩
    obtain ⟨q, hq, rfl⟩ := List.mem_map.mp hz
    have : q = p := by have := eq_of_beq e; omega
    exact this ▸ hq
  · exact fun h => ⟨_, List.mem_map_of_mem h, beq_self_eq_true _⟩
theorem intP_out {ts : List Nat} {p : Nat} {t : Tok} (h : ((ts.map fun p : Nat => (p : Int)).any fun x => x == (p : Int)) = true) : intP (fun p => decide (p ∉ ts)) (.int (p : Int) t) = false := by
  rw [any_cast, decide_eq_true_iff] at h
  simpa [intP] using h
theorem intP_in {ts : List Nat} {p : Nat} {t : Tok} (h : ((ts.map fun p : Nat => (p : Int)).any fun x => x == (p : Int)) = false) : intP (fun p => decide (p ∉ ts)) (.int (p : Int) t) = true := by
  rw [any_cast, decide_eq_false_iff_not] at h
  simpa [intP] using h
theorem tuple_turn {prog : Program} {w : World} {A : Around} {E : Value → Shared → Prop} {s s5 : Shared} {h₀ : Heap} {L : Addr} {m : Str → Option Value} {news : List (Addr × Obj)} {zs : List Nat} {nm wd : Nat → Str} {pp : Value → Bool} {p : Nat} {t0 t t' : Tok} {x y : Str}
    (F : Fr h₀ L s5.heap m) (N : News h₀ L s5.heap news) (hs5 : ∃ h tk, s5 = { s with heap := h, toks := tk }) (st : s.heap.StaysIn s5.heap) (hp : pp (.int (p : Int) t0) = true) (hz : ∀ z ∈ zs, ∃ o, s5.heap.get? z = some o) (hx : x = nm p) (hy : y = wd p) :
    wpAny (model prog w) A (newTuple [.str x t, .str y t']) (fun v s' => EltEnd pp (PairG h₀ zs nm wd) (.int (p : Int) t0) s v s') E s5 := by
  subst hx hy
  refine newTuple_NK F N (fun h6 F6 N6 st6 => ?_) (by rw [sizeLine_eq]; simp)
  obtain ⟨h5, tk5, rfl⟩ := hs5
  refine ⟨h6, tk5, rfl, fun b o e => st6 b o (st b o e), hp, fun hf kf q hq => ?_⟩
  obtain ⟨t2, e⟩ := hq
  have h : p = q := by have := (Value.int.inj e).1; omega
  subst h
  refine ⟨_, t, t', 0, rfl, (N6 _ (.head _)).2.2, fun z hz' e => ?_, kf _ _ ?_ (N6 _ (.head _)).1⟩
  · obtain ⟨o, ho⟩ := hz z hz'
    exact absurd (Heap.lt_size ho) (by rw [← e]; exact Nat.lt_irrefl _)
  · cases e : s.heap.get? h5.objs.size with
    | none => rfl
    | some o => exact absurd (Heap.lt_size (st _ _ e)) (Nat.lt_irrefl _)
/-- a tail of new tuples onto the ledger -/
theorem tail_news {g h : Heap} {H : Heap} {L : Addr} {m : Str → Option Value} {zs : List Nat} {tl : List (Addr × Obj)} (hL : L ∈ zs) (ht : ∀ q ∈ tl, g.get? q.1 = none ∧ (∀ z ∈ zs, @Ne Nat q.1 z) ∧ h.get? q.1 = some q.2 ∧ q.2.cls = .type "tuple") : News g L h tl :=
  fun q hq => ⟨(ht q hq).2.2.1, (ht q hq).2.1 L hL, (ht q hq).1⟩
/-- a list is no tuple -/
theorem tail_off {h : Heap} {D : Addr} {a : Array Value} {n : Nat} {tl : List (Addr × Obj)} (hD : h.get? D = some (W.listOf a n)) (ht : ∀ q ∈ tl, h.get? q.1 = some q.2 ∧ q.2.cls = .type "tuple") : ∀ q ∈ tl, q.1 ≠ D := fun q hq e => by
  obtain ⟨h1, h2⟩ := ht q hq
  rw [e, hD] at h1
  rw [← Option.some.inj h1] at h2
  exact absurd (show Value.type "list" = Value.type "tuple" from h2) (by decide)
theorem news_tl {h₀ h : Heap} {L : Addr} {a : Addr × Obj} {r : List (Addr × Obj)} (N : News h₀ L h (a :: r)) : News h₀ L h r := fun q hq => N q (.tail _ hq)
/-- two equal lists of texts told apart -/
theorem ne_same {prog : Program} {w : World} {A : Around} {E : Value → Shared → Prop} {s : Shared} {l b : Addr} {va vb : List Value} {aw bw : List Str} {Q : Value → Shared → Prop} (hl : s.heap.IsList l va.toArray) (hb : s.heap.IsList b vb.toArray) (hA : StrsAre va aw) (hB : StrsAre vb bw) (hu : A.units < cLine) (e : aw = bw) (hq : Q (.bool false) s) : wpAny (model prog w) A (compareOp .NotEq (.ref l) (.ref b)) Q E s :=
  of_rcNe (rcNe_strs hl hb hA hB hu) (by rw [decide_eq_true e]; exact hq)
theorem tail_tup {g h : Heap} {L : Addr} {news tl : List (Addr × Obj)} {v : Value} {p : Str × Str} (N : News g L h news) (x : PairIn tl v p) (hs : ∀ q ∈ tl, q ∈ news) : PairVal h v p := by
  obtain ⟨a, t, t', n, rfl, hm⟩ := x
  exact ⟨a, t, t', rfl, ⟨_, (N _ (hs _ hm)).1, rfl, n, rfl⟩⟩
theorem tups_of {g h : Heap} {L : Addr} {news tl : List (Addr × Obj)} {vs : List Value} {its : List (Str × Str)} (N : News g L h news) (x : Paired (PairIn tl) vs its) (hs : ∀ q ∈ tl, q ∈ news) : TupsAt h vs its := paired_map (fun v p y => tail_tup N y hs) x
noncomputable def ItemOf (wI : List Value) (_ : Heap) (v y : Value) : Prop := ∀ k : Nat, (∃ t, v = Value.int (k : Int) t) → wI[k]? = some y
theorem item_end {wI : List Value} {k : Nat} {t : Tok} {y : Value} {hf : Heap} (h : wI[k]? = some y) : ItemOf wI hf (.int (k : Int) t) y := by
  rintro q ⟨t2, e⟩
  have h2 : k = q := by have := (Value.int.inj e).1; omega
  exact h2 ▸ h
theorem rev_of {H : Heap} {wI vs ys : List Value} {a : Int} (ha : a = (wI.length : Int) - 1) (hl : vs.length = wI.length) (hv : ∀ (j : Nat) v, vs[j]? = some v → j < wI.length ∧ ∃ t, v = Value.int (a + (j : Nat) * (-1)) t) (h : Paired (ItemOf wI H) vs ys) : ys = wI.reverse := by
  have hyl := paired_len h
  refine List.ext_getElem? fun j => ?_
  by_cases hj : j < vs.length
  · obtain ⟨y, hy, hI⟩ := paired_get h j vs[j] (List.getElem?_eq_getElem hj)
    obtain ⟨h1, t, ht⟩ := hv j vs[j] (List.getElem?_eq_getElem hj)
    rw [hy]
    have := hI (wI.length - 1 - j) ⟨t, by rw [ht]; congr 1; omega⟩
    rw [List.getElem?_reverse (by omega)]
    exact this.symm
  · rw [List.getElem?_eq_none (by omega), List.getElem?_eq_none (by rw [List.length_reverse]; omega)]
theorem paired_rev {α β : Type} {F : α → β → Prop} {l₁ : List α} {l₂ : List β} (x : Paired F l₁ l₂) : Paired F l₁.reverse l₂.reverse := by
  induction x with
  | nil => exact .nil
  | cons h _ ih => rw [List.reverse_cons, List.reverse_cons]; exact paired_snoc ih h
noncomputable abbrev heapOf {h : Heap} {vs : List Value} {its : List (Str × Str)} (_ : TupsAt h vs its) : Heap := h
/-- the new tuple of a turn over tuples -/
noncomputable def PairT (g : Heap) (zs : List Nat) (f : Str → Str) (h0 : Heap) (h : Heap) (v y : Value) : Prop := ∀ p, PairVal h0 v p → ∃ a t t' n, y = .ref a ∧ g.get? a = none ∧ (∀ z ∈ zs, @Ne Nat a z) ∧ h.get? a = some (tup2 (f p.1, p.2) t t' n)
theorem pairT_tail {g h h0 : Heap} {zs : List Nat} {f : Str → Str} {vs ys : List Value} {its : List (Str × Str)} (hi : TupsAt h0 vs its) (hr : Paired (PairT g zs f h0 h) vs ys) :
    ∃ tl : List (Addr × Obj), Paired (PairIn tl) ys (its.map fun p => (f p.1, p.2)) ∧ ∀ q ∈ tl, g.get? q.1 = none ∧ (∀ z ∈ zs, @Ne Nat q.1 z) ∧ h.get? q.1 = some q.2 ∧ q.2.cls = .type "tuple" :=
  new_tups (W := fun p : Str × Str => (f p.1, p.2)) (paired_comp (fun _ p _ x k => k p x) hi hr)
theorem tuple_turn2 {prog : Program} {w : World} {A : Around} {E : Value → Shared → Prop} {s s5 : Shared} {h₀ h0 : Heap} {L : Addr} {m : Str → Option Value} {news : List (Addr × Obj)} {zs : List Nat} {f : Str → Str} {pp : Value → Bool} {p : Str × Str} {v0 : Value} {t t' : Tok} {x y : Str}
    (F : Fr h₀ L s5.heap m) (N : News h₀ L s5.heap news) (hs5 : ∃ h tk, s5 = { s with heap := h, toks := tk }) (st : s.heap.StaysIn s5.heap) (hp : pp v0 = true) (hz : ∀ z ∈ zs, ∃ o, s5.heap.get? z = some o) (hv : PairVal h0 v0 p) (hx : x = f p.1) (hy : y = p.2) :
    wpAny (model prog w) A (newTuple [.str x t, .str y t']) (fun v s' => EltEnd pp (PairT h₀ zs f h0) v0 s v s') E s5 := by
  subst hx hy
  refine newTuple_NK F N (fun h6 F6 N6 st6 => ?_) (by rw [sizeLine_eq]; simp)
  obtain ⟨h5, tk5, rfl⟩ := hs5
  refine ⟨h6, tk5, rfl, fun b o e => st6 b o (st b o e), hp, fun hf kf q hq => ?_⟩
  rw [hq.uniq hv]
  refine ⟨_, t, t', 0, rfl, (N6 _ (.head _)).2.2, fun z hz' e => ?_, kf _ _ ?_ (N6 _ (.head _)).1⟩
  · obtain ⟨o, ho⟩ := hz z hz'
    exact absurd (Heap.lt_size ho) (by rw [← e]; exact Nat.lt_irrefl _)
  · cases e : s.heap.get? h5.objs.size with
    | none => rfl
    | some o => exact absurd (Heap.lt_size (st _ _ e)) (Nat.lt_irrefl _)
theorem ns_ne2 {g H : Heap} {L q : Addr} {m : Str → Option Value} (F : Fr g L H m) (hq : H.get? q = none) : q ≠ L := fun e => by
  obtain ⟨oL, _, _, hoL, _⟩ := F.ns
  rw [← e, hq] at hoL; cases hoL
end
-- LibK
theorem noneHcLibK : True := by
  k_with_none
  trivial
-- FnS1
section
noncomputable abbrev startM (ts : Tok) (ad e2 : Addr) : Str → Option Value := fun y => if y = "qname_text" then some .none else if y = "new_namespaces" then some (.ref e2) else if y = "attrs" then some (.ref ad) else if y = "tag" then some (.str "s" ts) else none
theorem startM_set (ts : Tok) (ad e2 D : Addr) : (fun y => if y = Str.ofString "attrs" then some (Value.ref D) else startM ts ad e2 y) = startM ts D e2 := by
  funext y
  by_cases h : y = Str.ofString "attrs"
  · subst h; rfl
  · simp only [startM, if_neg h]
/-- the place after the exclusions -/
inductive StA (prog : Program) (w : World) (g : Heap) (Lf e2 : Addr) (ts : Tok) (its : List (Str × Str)) (c1 c2 : Obj) (led : List (Addr × Obj)) (as : List Nat) (tS : List (Addr × Obj)) (gs : Array GenState) (os : OsState) : Shared → Prop
  | mk (h : Heap) (tk : Nat) (dr : Drawn) (AD : Addr) (OD : Obj) (kvs : List (Str × Value)) (F : Fr g Lf h (startM ts AD e2)) (N : News g Lf h ((Lf + 1 + 1, c1) :: (Lf + 1, c2) :: (AD, OD) :: (led ++ tS)))
    (hD : OD.IsDictOf (PySem.strKind prog w) kvs) (hK : KvIs kvs its) (hs : (AD == sysModules) = false) (nd : NdL ((Lf + 1 + 1) :: (Lf + 1) :: AD :: as) tS) : StA prog w g Lf e2 ts its c1 c2 led as tS gs os ⟨h, gs, dr, tk, os⟩
/-- the place after the lambda is made -/
inductive LamAt (g : Heap) (Lf : Addr) (m : Str → Option Value) (tb : Array Value) (ads as : List Nat) (pre post tQ : List (Addr × Obj)) (gs : Array GenState) (os : OsState) : Value → Shared → Prop
  | mk (h : Heap) (tk : Nat) (dr : Drawn) (f c2 : Addr) (pm ctv : Value) (tL : List (Addr × Obj)) (F : Fr g Lf h m) (N : News g Lf h ((f, kla_obj "<lambda>" "C14NWriterTarget._start.<locals>.<lambda>" lamParams lamBody lamScope [] pm c2 ctv) :: (pre ++ (148, tabObj #[rawInt 246, rawInt 71, .ref c2]) :: (post ++ (tL ++ tQ)))))
    (hcr : ∀ h m, Fr g Lf h m → News g Lf h tL → h.CodeRec (.ref c2) "C14NWriterTarget._start.<locals>.<lambda>") (hc2 : tb = #[rawInt 246, rawInt 71, .ref c2] ∨ ((∃ oc, (c2, oc) ∈ tL) ∧ ∀ z ∈ ads, @Ne Nat z c2)) (nd : NdL (f :: as) (tL ++ tQ)) : LamAt g Lf m tb ads as pre post tQ gs os (.ref f) ⟨h, gs, dr, tk, os⟩
/-- the place after the names are parsed -/
inductive StB (prog : Program) (w : World) (g : Heap) (Lf e2 AD : Addr) (ts : Tok) (its : List (Str × Str)) (tb : Array Value) (ads as : List Nat) (pre post tQ : List (Addr × Obj)) (gs : Array GenState) (os : OsState) : Shared → Prop
  | mk (h : Heap) (tk : Nat) (dr : Drawn) (PQ c2 : Addr) (OP : Obj) (pk : List (Str × Value)) (tB : List (Addr × Obj)) (um : Str → Option Value) (F : Fr g Lf h (lk [("tag", some (.str "s" ts)), ("attrs", some (.ref AD)), ("new_namespaces", some (.ref e2)), ("qname_text", some .none), ("qattrs", some .none), ("parsed_qnames", some (.ref PQ))] um))
    (hOP : OP.IsDictOf (PySem.strKind prog w) pk) (sm : (PQ == sysModules) = false) (hsub : ∀ q ∈ tQ, q ∈ tB) (hq : ∀ k ∈ Str.ofString "s" :: its.map (·.1), ∃ q a b c n, valueAt pk k = some (.ref q) ∧ (q, qTup k a b c n) ∈ tB)
    (hcr : ∀ h m, Fr g Lf h m → News g Lf h tB → h.CodeRec (.ref c2) "C14NWriterTarget._start.<locals>.<lambda>") (hc2 : tb = #[rawInt 246, rawInt 71, .ref c2] ∨ ((∃ oc, (c2, oc) ∈ tB) ∧ ∀ z ∈ ads, @Ne Nat z c2)) (hmP : (PQ, OP) ∈ tB)
    (N : News g Lf h (pre ++ (148, tabObj #[rawInt 246, rawInt 71, .ref c2]) :: (post ++ tB))) (nd : NdL as tB) : StB prog w g Lf e2 AD ts its tb ads as pre post tQ gs os ⟨h, gs, dr, tk, os⟩
/-- the loop over the attributes -/
inductive LoopAt (AL AD PQ : Addr) (ts : Tok) (ss : List (Str × Str)) (led : List (Addr × Obj)) (as : List Nat) (tT : List (Addr × Obj)) (i : Nat) : (Str → Option Value) → List (Addr × Obj) → Prop
  | mk (na : Nat) (va : List Value) (tX : List (Addr × Obj)) (um : Str → Option Value) (hva : Paired (PairIn tX) va (ss.take i)) (hsub : ∀ q ∈ tT, q ∈ tX) (nd : NdL (AL :: as) tX) :
    LoopAt AL AD PQ ts ss led as tT i (lk [("tag", some (.str "s" ts)), ("attrs", some (.ref AD)), ("qname_text", some .none), ("qattrs", some .none), ("parsed_qnames", some (.ref PQ)), ("attr_list", some (.ref AL))] um) ((AL, W.listOf va.toArray na) :: (led ++ tX))
structure Halt2 : Prop where
  x : True
section
theorem rowsFnS10 : True := by
  k_with_none
  k_with "hcOn" => skip
  k_with "hcN" => (first | exact ⟨default⟩ | exact ⟨{}⟩ | exact ⟨Mine.w0⟩ | exact ⟨[]⟩ | exact ⟨⟨default, default, default, default⟩⟩ | (refine Nonempty.intro ?_; constructor <;> first | exact default | exact {} | exact [] | exact #[]))
  k_with "hcI" => (refine (Mine.hc_all ?_ ((?_ : Mine.AllOf _) _) : Mine.AllOf _); k_extra "hcN")
  k_with "hcI2" => (((fail_if_success (fail_if_success (with_reducible refine (?_ : Mine.AllP2 _)))); refine (Mine.hc_all2 ?_ ?_ ((?_ : Mine.AllP2 _) _ _) : Mine.AllP2 _); k_extra "hcN"; k_extra "hcN"))
  k_with "hcI3" => (((fail_if_success (fail_if_success (with_reducible refine (?_ : Mine.AllP3 _)))); refine (Mine.hc_all3 ?_ ?_ ?_ ((?_ : Mine.AllP3 _) _ _ _) : Mine.AllP3 _); k_extra "hcN"; k_extra "hcN"; k_extra "hcN"))
  k_with "hcI4" => (((fail_if_success (fail_if_success (with_reducible refine (?_ : Mine.AllP4 _)))); refine (Mine.hc_all4 ?_ ?_ ?_ ?_ ((?_ : Mine.AllP4 _) _ _ _ _) : Mine.AllP4 _); k_extra "hcN"; k_extra "hcN"; k_extra "hcN"; k_extra "hcN"))
  k_with "hcX" => (first | (refine ((?_ : Mine.AndK hN _) (And.left hN) (And.right hN))) | (refine ((?_ : Mine.ExK hN _) _ (Mine.hc_ex ?_ hN)); rotate_left; k_extra "hcN") | (refine ((?_ : Mine.ExK hN _) default (Mine.hc_ex ?_ hN)); rotate_left; k_extra "hcN"))
  k_with "hcC" => (refine (Mine.pf hN).casesOn ?_; clear hN)
  k_with "k_fold" => skip
  k_with "k_upd" => (refine' upd_of (by assumption) (by rfl) (by rfl) (by (repeat (first | exact UpdR.head | apply UpdR.tail))))
  k_with "k_updF" => (refine' updF_of (by assumption) (by rfl) (by rfl) (by (repeat (first | exact UpdS.head | apply UpdS.tail))))
  k_with "k_lt" => ((with_reducible rename NdL _ _ => hNd0); first | replace hNd0 := nd_cons hNd0 rfl rfl hLt9 | replace hNd0 := nd_ne hNd0 rfl rfl hLt9 | replace hNd0 := nd_allNe hNd0 rfl rfl hLt9)
  k_with "k_lt2" => ((with_reducible rename NdL _ _ => hNd0); replace hNd0 := nd_x hNd0 rfl rfl (by assumption) hLt9)
  k_with "setAttr ref" => (k_here; k_dflt (refine' set_dict (by k_asm) (by k_asm) (by k_asm) (by k_inst) rfl (by k_is) (by k_is) (by k_is) (by k_is) (by k_get) (by k_put) (by k_upd) (Nat.le_of_ble_eq_true rfl) ?_); intro _ _ rwNq; (try dsimp only at rwNq); (try k_sweep))
  k_with "getAttr ref" => (k_here; (with_reducible show wpAny _ _ (getAttr (Value.ref _) (PySem.Str.ofString "append") true) _ _ _); k_dflt (refine' getAttr_append (by k_asm) (by k_asm) (by k_mem) ?_); intro _ _ _ _ rwl1; (try k_lt rwl1); (try k_sweep))
  k_with "callWith ref" => (k_here; k_dflt (refine' callWith_bapp (by k_asm) (by k_mem) ?_))
  k_with "And" => ((with_reducible show BoundAt _ _ _ ∧ _); refine ⟨by k_dflt (exact News.get (by k_asm) (by k_mem)), ?_⟩; (try dsimp only [List.nil_append, List.cons_append]))
  k_with "call ref" => (k_here; k_dflt (refine' call_bapp (by k_asm) (by k_asm) (by k_mem) (by k_upd) ?_ (by size_fits)); intro _ _ _; (try k_sweep))
  k_with "eval Lambda" => (k_here; (fail_if_success (have hX : Halt2 := by assumption)); refine Stop.mk ?_)
  trivial
theorem rowsMFnS11 : True := by
  k_with "k_mem" => assumption
  trivial
theorem rowsFnS11 : True := by
  k_with "eval Set" => (k_here; k_dflt (refine' eval_set_star (by exact rfl) (by k_asm) (by k_asm) (by k_asm) (by exact rfl) ?_; k_whole); intro _ _ _ _ _ rwl1; (try k_lt rwl1); (try k_sweep))
  k_with "exec Assign cons DictComp" => (k_here; refine Stop.mk ?_)
  k_with "call ref" => (k_here; k_dflt (refine' use_qc (f := 115) (c_qnameC _ _ _ _ _ _ _ _ _ _ _ _ _ _ (by assumption) (by assumption) (by assumption)) (by k_asm) (by k_asm) (by k_asm) (by k_asm) (by k_asm) (by exact rfl) (by ktr_room) (by ktr_units) (by (refine ⟨?_, ?_, ?_, ?_, ?_, ?_, trivial⟩; rotate_left 4; k_mem; k_mem; k_mem; k_mem; k_mem; k_mem)) (by k_mem) ?_; k_whole; intro _ _ _ _ rwPq _ _; obtain ⟨_, _, _, _, _, rwP1q, _, _⟩ := rwPq; subst rwP1q; (try k_sweep); (try dsimp only)))
  trivial
theorem rowsMFnS12 : True := by
  k_with "k_all" => assumption
  trivial
theorem rowsFnS12 : True := by
  k_with "truthy ref" => (k_here; k_dflt (refine' truthy_kvs (by k_asm) (by k_mem) (by assumption) (by assumption) (by omega) (by omega) ?_; k_whole); intro _; (try dsimp only))
  k_with "truthy ref" => (k_here; k_dflt (refine' truthy_some (by k_asm) (by k_mem) (by omega) (by omega) ?_; k_whole); intro _; (try dsimp only))
  k_with "call builtin:dict.get" => (k_here; k_dflt (refine' kdg_get1 (knd := PySem.strKind _ _) (by k_asm) (by k_mem) (by assumption) (by assumption) (strKind_is _ _ _ _) none (by assumption) ?_; k_whole); (try dsimp only [Option.getD]))
  k_with "compareOp NotIn" => (k_here; (with_reducible show wpAny _ _ (compareOp CmpOp.NotIn (Value.str _ _) (Value.ref _)) _ _ _); k_dflt ((first | (refine' notin_yes (by ((with_reducible rename SetUp _ _ _ _ _ => hU); exact hU.at' (fun o e => Fr.keep (by k_asm) _ o e))) (by assumption) (by assumption) ?_) | (refine' notin_no (by ((with_reducible rename SetUp _ _ _ _ _ => hU); exact hU.at' (fun o e => Fr.keep (by k_asm) _ o e))) (by assumption) (by assumption) ?_)); k_whole))
  k_with "call ref" => (k_here; (with_reducible show wpAny _ _ (call (Value.ref 193) _) _ _ _); k_dflt (refine' use_pure (c_esc' _ (by assumption) _) (by k_asm) (by k_asm) (by k_asm) (by k_asm) (by k_asm) (by exact rfl) (by ktr_room) (by ktr_units) (by trivial) ?_; k_whole; intro _ _ _ _ rwPq _ _; obtain ⟨_, rwPq⟩ := rwPq; subst rwPq))
  k_with "call builtin:str.join" => (k_here; k_dflt (refine' join_rule 100 (by exact News.get (by k_asm) (by k_mem)) (by assumption) (by assumption) (by decide) (by assumption) (by decide) ?_; k_whole; intro _ _))
  k_with "eval ListComp" => (k_here; refine Stop.mk ?_)
  k_with "call builtin:list.append" => (k_here; (with_reducible show wpAny _ _ (call (Value.builtin _) [Value.ref _, _]) _ _ _); k_dflt (refine' append_K (by k_asm) (by k_asm) (by k_upd) ?_ (by assumption); k_whole); intro _ _ _; (try k_sweep))
  k_with "exec For" => (k_here; k_dflt (refine' For_list (by k_asm) rfl ?_))
  k_with "subscriptTail Name Name ref str" => (k_here; k_dflt (refine' kda_item (knd := PySem.strKind _ _) (by k_asm) (by k_mem) (by assumption) (strKind_is _ _ _ _) (by assumption) ?_ (by with_unfolding_all rfl) (by (intro _; with_unfolding_all rfl)); k_whole; (try dsimp only)))
  k_with "call builtin:sorted" => (k_here; k_dflt (refine' sorted_items (by exact rfl) (by k_asm) (by k_asm) (by k_mem) (by k_mem) (by assumption) (by assumption) (by omega) (by omega) (by assumption) ?_; k_whole); intro _ _ _ _ _ _ _ _ _ _ _ _ _ _; (try dsimp only))
  k_with "call builtin:sorted" => (k_here; ksk_kw; ksk_show; k_dflt (refine' sorted_set (by exact rfl) (by k_asm) (by k_asm) (by (with_reducible rename SetUp _ _ _ _ _ => hU); (with_reducible rename Is _ _ => hI); exact hU.at' (fun o e => by rw [hI.eq] at e; cases e; exact News.get (by k_asm) (by k_mem))) (by (simp only [List.length_cons, List.length_map]; omega)) (by (simp only [List.length_cons, List.length_map]; omega)) (by assumption) (by assumption) (by ktr_units) (by ksk_a1) (by (intro rwxq; ksk_a2)) (by (intro rwxq; ksk_a3)) (by (refine' c_lam (by k_asm) (by k_asm) (by k_asm) rfl (by ktr_room) (by ktr_units) (by k_mem) (by exact (fun h F N => (by assumption : ∀ (h : Heap) (m : Str → Option Value), Fr _ _ h m → News _ _ h _ → h.CodeRec _ _) h _ F fun q hq => N q (List.mem_of_mem_drop (i := 6) (List.mem_append_left _ hq)))))) ?_; k_whole); intro _ _ _ _ _ _ _ _ _ _ _ rwl1; (try k_lt rwl1); (try k_sweep))
  k_with "setAttr ref" => (k_here; k_dflt (refine' set_dict (by k_asm) (by k_asm) (by k_asm) (by k_inst) (by exact rfl) (by k_is) (by k_is) (by k_is) (by k_is) (by k_get) (by exact put_seen _ _ _) (by k_upd) (by exact Nat.le_of_ble_eq_true rfl) ?_; k_whole; intro _ _ _; (try k_sweep)))
  trivial
noncomputable abbrev WAll (P : WSt → Prop) : Prop := ∀ a dl ex dst nst pm ps rs rd ig t k, P ⟨a, dl, ex, dst, nst, pm, ps, rs, rd, ig, t, k⟩
theorem wst_all (n : Nonempty WSt) {P : WSt → Prop} (h : P ⟨(hc n P).a, (hc n P).dl, (hc n P).ex, (hc n P).dst, (hc n P).nst, (hc n P).pm, (hc n P).ps, (hc n P).rs, (hc n P).rd, (hc n P).ig, (hc n P).t, (hc n P).k⟩) : ∀ S, P S := hc_all n h
namespace Hc_start
noncomputable abbrev hTy := Program × World × Addr × Addr × Addr × Addr × Addr × Addr × Addr × Addr × Addr × Nat × Nat × Nat × Nat × Nat × Nat × Nat × Tok × Tok × Tok × Obj × (List (Str × Value)) × Program × List Str × (ExcName → Option Value) × (Str → Option Value) × (Str → Option Value) × Nat × Nat × Option (List Code) × Str × Scope × Addr × Value × (List (Str × Addr)) × List Env × Around × Heap × Heap × Addr × (Str → Option Value) × Shared × (Value → Shared → Prop) × (Value → Shared → Prop)
noncomputable def hSt (c : hTy) : Prop := (fun (prog : Program) (w : World) (x : Addr) (d : Addr) (e1 : Addr) (e2 : Addr) (t0 : Addr) (wl : Addr) (ad : Addr) (m0 : Addr) (m1 : Addr) (n1 : Nat) (n2 : Nat) (n3 : Nat) (nt : Nat) (nw : Nat) (np : Nat) (nn : Nat) (u : Tok) (u' : Tok) (ts : Tok) (oD : Obj) (kvs : List (Str × Value)) (p : Program) (loose : List Str) (mean : ExcName → Option Value) (mg : Str → Option Value) (mb : Str → Option Value) (dp : Nat) (un : Nat) (gd : Option (List Code)) (cn : Str) (cs : Scope) (a : Addr) (ccd : Value) (cl : List (Str × Addr)) (outer : List Env) (A₀ : Around) (base : Heap) (h₀ : Heap) (L : Addr) (m : Str → Option Value) (s : Shared) (Q : Value → Shared → Prop) (E : Value → Shared → Prop) => ∀ (S : WSt) (tb : Array Value) (its0 : List (Str × Str)) (its : List (Str × Str)) (hOD : oD.IsDictOf (PySem.strKind prog w) kvs) (hKI : KvIs kvs its0) (h08 : its0.length ≤ 8) (hn0 : (its0.map (·.1)).Nodup) (hi1 : 2 ≤ its.length) (hi8 : its.length ≤ 8) (hadm : (ad == sysModules) = false) (hknd : (Str.ofString "s" :: its.map (·.1)).Nodup) (hnb : ∀ p ∈ its, NoBr p.1 ∧ 1 ≤ p.1.length ∧ (Txt.slice p.1 none (some 1) == "{") = false) (hwd : ∀ p ∈ its, OpW p.2) (hnl : ∀ p ∈ its, p.1.length ≤ 40), (MCallAt p loose mean mg mb dp un gd cn cs a ccd cl outer A₀ base h₀ L m s Q E prog w 151 [.ref x, .str "s" ts, .ref ad, .ref e2] 8 100 ((ad, oD) :: subS w x d e1 e2 t0 wl S n1 n2 n3 nt nw np nn u u' [] [.bool false] [.ref m0, .ref m1] tb) (fun h₀ H => CodeHd h₀ 150 148 ∧ LamTab H [ad, wl, S.ps, S.nst, 148, S.a, S.dst, e1, e2, t0, x, d] tb ∧ ExOk prog w H [ad, wl, S.ps, S.nst, 148, S.a, S.dst, e1, e2, t0, x, d] S.ex its0 its ∧ ([ad, wl, S.ps, S.nst, 148, S.a, S.dst, e1, e2, t0, x, d] : List Nat).Nodup) (StartOut w tb x d e1 e2 t0 wl m0 m1 S n1 n2 n3 nt u u' its) : Prop)) c.1 c.2.1 c.2.2.1 c.2.2.2.1 c.2.2.2.2.1 c.2.2.2.2.2.1 c.2.2.2.2.2.2.1 c.2.2.2.2.2.2.2.1 c.2.2.2.2.2.2.2.2.1 c.2.2.2.2.2.2.2.2.2.1 c.2.2.2.2.2.2.2.2.2.2.1 c.2.2.2.2.2.2.2.2.2.2.2.1 c.2.2.2.2.2.2.2.2.2.2.2.2.1 c.2.2.2.2.2.2.2.2.2.2.2.2.2.1 c.2.2.2.2.2.2.2.2.2.2.2.2.2.2.1 c.2.2.2.2.2.2.2.2.2.2.2.2.2.2.2.1 c.2.2.2.2.2.2.2.2.2.2.2.2.2.2.2.2.1 c.2.2.2.2.2.2.2.2.2.2.2.2.2.2.2.2.2.1 c.2.2.2.2.2.2.2.2.2.2.2.2.2.2.2.2.2.2.1 c.2.2.2.2.2.2.2.2.2.2.2.2.2.2.2.2.2.2.2.1 c.2.2.2.2.2.2.2.2.2.2.2.2.2.2.2.2.2.2.2.2.1 c.2.2.2.2.2.2.2.2.2.2.2.2.2.2.2.2.2.2.2.2.2.1 c.2.2.2.2.2.2.2.2.2.2.2.2.2.2.2.2.2.2.2.2.2.2.1 c.2.2.2.2.2.2.2.2.2.2.2.2.2.2.2.2.2.2.2.2.2.2.2.1 c.2.2.2.2.2.2.2.2.2.2.2.2.2.2.2.2.2.2.2.2.2.2.2.2.1 c.2.2.2.2.2.2.2.2.2.2.2.2.2.2.2.2.2.2.2.2.2.2.2.2.2.1 c.2.2.2.2.2.2.2.2.2.2.2.2.2.2.2.2.2.2.2.2.2.2.2.2.2.2.1 c.2.2.2.2.2.2.2.2.2.2.2.2.2.2.2.2.2.2.2.2.2.2.2.2.2.2.2.1 c.2.2.2.2.2.2.2.2.2.2.2.2.2.2.2.2.2.2.2.2.2.2.2.2.2.2.2.2.1 c.2.2.2.2.2.2.2.2.2.2.2.2.2.2.2.2.2.2.2.2.2.2.2.2.2.2.2.2.2.1 c.2.2.2.2.2.2.2.2.2.2.2.2.2.2.2.2.2.2.2.2.2.2.2.2.2.2.2.2.2.2.1 c.2.2.2.2.2.2.2.2.2.2.2.2.2.2.2.2.2.2.2.2.2.2.2.2.2.2.2.2.2.2.2.1 c.2.2.2.2.2.2.2.2.2.2.2.2.2.2.2.2.2.2.2.2.2.2.2.2.2.2.2.2.2.2.2.2.1 c.2.2.2.2.2.2.2.2.2.2.2.2.2.2.2.2.2.2.2.2.2.2.2.2.2.2.2.2.2.2.2.2.2.1 c.2.2.2.2.2.2.2.2.2.2.2.2.2.2.2.2.2.2.2.2.2.2.2.2.2.2.2.2.2.2.2.2.2.2.1 c.2.2.2.2.2.2.2.2.2.2.2.2.2.2.2.2.2.2.2.2.2.2.2.2.2.2.2.2.2.2.2.2.2.2.2.1 c.2.2.2.2.2.2.2.2.2.2.2.2.2.2.2.2.2.2.2.2.2.2.2.2.2.2.2.2.2.2.2.2.2.2.2.2.1 c.2.2.2.2.2.2.2.2.2.2.2.2.2.2.2.2.2.2.2.2.2.2.2.2.2.2.2.2.2.2.2.2.2.2.2.2.2.1 c.2.2.2.2.2.2.2.2.2.2.2.2.2.2.2.2.2.2.2.2.2.2.2.2.2.2.2.2.2.2.2.2.2.2.2.2.2.2.1 c.2.2.2.2.2.2.2.2.2.2.2.2.2.2.2.2.2.2.2.2.2.2.2.2.2.2.2.2.2.2.2.2.2.2.2.2.2.2.2.1 c.2.2.2.2.2.2.2.2.2.2.2.2.2.2.2.2.2.2.2.2.2.2.2.2.2.2.2.2.2.2.2.2.2.2.2.2.2.2.2.2.1 c.2.2.2.2.2.2.2.2.2.2.2.2.2.2.2.2.2.2.2.2.2.2.2.2.2.2.2.2.2.2.2.2.2.2.2.2.2.2.2.2.2.1 c.2.2.2.2.2.2.2.2.2.2.2.2.2.2.2.2.2.2.2.2.2.2.2.2.2.2.2.2.2.2.2.2.2.2.2.2.2.2.2.2.2.2.1 c.2.2.2.2.2.2.2.2.2.2.2.2.2.2.2.2.2.2.2.2.2.2.2.2.2.2.2.2.2.2.2.2.2.2.2.2.2.2.2.2.2.2.2.1 c.2.2.2.2.2.2.2.2.2.2.2.2.2.2.2.2.2.2.2.2.2.2.2.2.2.2.2.2.2.2.2.2.2.2.2.2.2.2.2.2.2.2.2.2
theorem hNe : Nonempty hTy := ⟨default, w0, (0 : Nat), (0 : Nat), (0 : Nat), (0 : Nat), (0 : Nat), (0 : Nat), (0 : Nat), (0 : Nat), (0 : Nat), 0, 0, 0, 0, 0, 0, 0, (0 : Nat), (0 : Nat), (0 : Nat), default, [], default, [], (fun _ => none), (fun _ => none), (fun _ => none), 0, 0, none, Str.empty, default, (0 : Nat), default, [], [], {}, default, default, (0 : Nat), (fun _ => none), {}, (fun _ => (fun _ => False)), (fun _ => (fun _ => False))⟩
noncomputable def hCc : hTy := @Classical.epsilon hTy hNe fun x => ¬ hSt x
@[irreducible] noncomputable def prog : Program := hCc.1
@[irreducible] noncomputable def w : World := hCc.2.1
@[irreducible] noncomputable def x : Addr := hCc.2.2.1
@[irreducible] noncomputable def d : Addr := hCc.2.2.2.1
@[irreducible] noncomputable def e1 : Addr := hCc.2.2.2.2.1
@[irreducible] noncomputable def e2 : Addr := hCc.2.2.2.2.2.1
@[irreducible] noncomputable def t0 : Addr := hCc.2.2.2.2.2.2.1
@[irreducible] noncomputable def wl : Addr := hCc.2.2.2.2.2.2.2.1
@[irreducible] noncomputable def ad : Addr := hCc.2.2.2.2.2.2.2.2.1
@[irreducible] noncomputable def m0 : Addr := hCc.2.2.2.2.2.2.2.2.2.1
@[irreducible] noncomputable def m1 : Addr := hCc.2.2.2.2.2.2.2.2.2.2.1
@[irreducible] noncomputable def n1 : Nat := hCc.2.2.2.2.2.2.2.2.2.2.2.1
@[irreducible] noncomputable def n2 : Nat := hCc.2.2.2.2.2.2.2.2.2.2.2.2.1
@[irreducible] noncomputable def n3 : Nat := hCc.2.2.2.2.2.2.2.2.2.2.2.2.2.1
@[irreducible] noncomputable def nt : Nat := hCc.2.2.2.2.2.2.2.2.2.2.2.2.2.2.1
@[irreducible] noncomputable def nw : Nat := hCc.2.2.2.2.2.2.2.2.2.2.2.2.2.2.2.1
@[irreducible] noncomputable def np : Nat := hCc.2.2.2.2.2.2.2.2.2.2.2.2.2.2.2.2.1
@[irreducible] noncomputable def nn : Nat := hCc.2.2.2.2.2.2.2.2.2.2.2.2.2.2.2.2.2.1
@[irreducible] noncomputable def u : Tok := hCc.2.2.2.2.2.2.2.2.2.2.2.2.2.2.2.2.2.2.1
@[irreducible] noncomputable def u' : Tok := hCc.2.2.2.2.2.2.2.2.2.2.2.2.2.2.2.2.2.2.2.1
@[irreducible] noncomputable def ts : Tok := hCc.2.2.2.2.2.2.2.2.2.2.2.2.2.2.2.2.2.2.2.2.1
@[irreducible] noncomputable def oD : Obj := hCc.2.2.2.2.2.2.2.2.2.2.2.2.2.2.2.2.2.2.2.2.2.1
@[irreducible] noncomputable def kvs : List (Str × Value) := hCc.2.2.2.2.2.2.2.2.2.2.2.2.2.2.2.2.2.2.2.2.2.2.1
@[irreducible] noncomputable def p : Program := hCc.2.2.2.2.2.2.2.2.2.2.2.2.2.2.2.2.2.2.2.2.2.2.2.1
@[irreducible] noncomputable def loose : List Str := hCc.2.2.2.2.2.2.2.2.2.2.2.2.2.2.2.2.2.2.2.2.2.2.2.2.1
@[irreducible] noncomputable def mean : ExcName → Option Value := hCc.2.2.2.2.2.2.2.2.2.2.2.2.2.2.2.2.2.2.2.2.2.2.2.2.2.1
@[irreducible] noncomputable def mg : Str → Option Value := hCc.2.2.2.2.2.2.2.2.2.2.2.2.2.2.2.2.2.2.2.2.2.2.2.2.2.2.1
@[irreducible] noncomputable def mb : Str → Option Value := hCc.2.2.2.2.2.2.2.2.2.2.2.2.2.2.2.2.2.2.2.2.2.2.2.2.2.2.2.1
@[irreducible] noncomputable def dp : Nat := hCc.2.2.2.2.2.2.2.2.2.2.2.2.2.2.2.2.2.2.2.2.2.2.2.2.2.2.2.2.1
@[irreducible] noncomputable def un : Nat := hCc.2.2.2.2.2.2.2.2.2.2.2.2.2.2.2.2.2.2.2.2.2.2.2.2.2.2.2.2.2.1
@[irreducible] noncomputable def gd : Option (List Code) := hCc.2.2.2.2.2.2.2.2.2.2.2.2.2.2.2.2.2.2.2.2.2.2.2.2.2.2.2.2.2.2.1
@[irreducible] noncomputable def cn : Str := hCc.2.2.2.2.2.2.2.2.2.2.2.2.2.2.2.2.2.2.2.2.2.2.2.2.2.2.2.2.2.2.2.1
@[irreducible] noncomputable def cs : Scope := hCc.2.2.2.2.2.2.2.2.2.2.2.2.2.2.2.2.2.2.2.2.2.2.2.2.2.2.2.2.2.2.2.2.1
@[irreducible] noncomputable def a : Addr := hCc.2.2.2.2.2.2.2.2.2.2.2.2.2.2.2.2.2.2.2.2.2.2.2.2.2.2.2.2.2.2.2.2.2.1
@[irreducible] noncomputable def ccd : Value := hCc.2.2.2.2.2.2.2.2.2.2.2.2.2.2.2.2.2.2.2.2.2.2.2.2.2.2.2.2.2.2.2.2.2.2.1
@[irreducible] noncomputable def cl : List (Str × Addr) := hCc.2.2.2.2.2.2.2.2.2.2.2.2.2.2.2.2.2.2.2.2.2.2.2.2.2.2.2.2.2.2.2.2.2.2.2.1
@[irreducible] noncomputable def outer : List Env := hCc.2.2.2.2.2.2.2.2.2.2.2.2.2.2.2.2.2.2.2.2.2.2.2.2.2.2.2.2.2.2.2.2.2.2.2.2.1
@[irreducible] noncomputable def A₀ : Around := hCc.2.2.2.2.2.2.2.2.2.2.2.2.2.2.2.2.2.2.2.2.2.2.2.2.2.2.2.2.2.2.2.2.2.2.2.2.2.1
@[irreducible] noncomputable def base : Heap := hCc.2.2.2.2.2.2.2.2.2.2.2.2.2.2.2.2.2.2.2.2.2.2.2.2.2.2.2.2.2.2.2.2.2.2.2.2.2.2.1
@[irreducible] noncomputable def h₀ : Heap := hCc.2.2.2.2.2.2.2.2.2.2.2.2.2.2.2.2.2.2.2.2.2.2.2.2.2.2.2.2.2.2.2.2.2.2.2.2.2.2.2.1
@[irreducible] noncomputable def L : Addr := hCc.2.2.2.2.2.2.2.2.2.2.2.2.2.2.2.2.2.2.2.2.2.2.2.2.2.2.2.2.2.2.2.2.2.2.2.2.2.2.2.2.1
@[irreducible] noncomputable def m : Str → Option Value := hCc.2.2.2.2.2.2.2.2.2.2.2.2.2.2.2.2.2.2.2.2.2.2.2.2.2.2.2.2.2.2.2.2.2.2.2.2.2.2.2.2.2.1
@[irreducible] noncomputable def s : Shared := hCc.2.2.2.2.2.2.2.2.2.2.2.2.2.2.2.2.2.2.2.2.2.2.2.2.2.2.2.2.2.2.2.2.2.2.2.2.2.2.2.2.2.2.1
@[irreducible] noncomputable def Q : Value → Shared → Prop := hCc.2.2.2.2.2.2.2.2.2.2.2.2.2.2.2.2.2.2.2.2.2.2.2.2.2.2.2.2.2.2.2.2.2.2.2.2.2.2.2.2.2.2.2.1
@[irreducible] noncomputable def E : Value → Shared → Prop := hCc.2.2.2.2.2.2.2.2.2.2.2.2.2.2.2.2.2.2.2.2.2.2.2.2.2.2.2.2.2.2.2.2.2.2.2.2.2.2.2.2.2.2.2.2
set_option maxRecDepth 100000 in
set_option maxHeartbeats 20000000 in
theorem hMain : ∀ (S : WSt) (tb : Array Value) (its0 : List (Str × Str)) (its : List (Str × Str)) (hOD : oD.IsDictOf (PySem.strKind prog w) kvs) (hKI : KvIs kvs its0) (h08 : its0.length ≤ 8) (hn0 : (its0.map (·.1)).Nodup) (hi1 : 2 ≤ its.length) (hi8 : its.length ≤ 8) (hadm : (ad == sysModules) = false) (hknd : (Str.ofString "s" :: its.map (·.1)).Nodup) (hnb : ∀ p ∈ its, NoBr p.1 ∧ 1 ≤ p.1.length ∧ (Txt.slice p.1 none (some 1) == "{") = false) (hwd : ∀ p ∈ its, OpW p.2) (hnl : ∀ p ∈ its, p.1.length ≤ 40), MCallAt p loose mean mg mb dp un gd cn cs a ccd cl outer A₀ base h₀ L m s Q E prog w 151 [.ref x, .str "s" ts, .ref ad, .ref e2] 8 100 ((ad, oD) :: subS w x d e1 e2 t0 wl S n1 n2 n3 nt nw np nn u u' [] [.bool false] [.ref m0, .ref m1] tb) (fun h₀ H => CodeHd h₀ 150 148 ∧ LamTab H [ad, wl, S.ps, S.nst, 148, S.a, S.dst, e1, e2, t0, x, d] tb ∧ ExOk prog w H [ad, wl, S.ps, S.nst, 148, S.a, S.dst, e1, e2, t0, x, d] S.ex its0 its ∧ ([ad, wl, S.ps, S.nst, 148, S.a, S.dst, e1, e2, t0, x, d] : List Nat).Nodup) (StartOut w tb x d e1 e2 t0 wl m0 m1 S n1 n2 n3 nt u u' its) := by
  refine (wst_all ?n ((?g : WAll _) _ _ _ _ _ _ _ _ _ _ _ _) : AllOf _)
  case' n => (refine Nonempty.intro ?_; constructor <;> exact default)
  intros Sa Sdl Sex Sdst Snst Spm Sps Srs Srd Sig St Sk
  intro tb its0 its hOD hKI h08 hn0 hi1 hi8 hadm hknd hnb hwd hnl
  intro B F X N T hk hd hu hH hQ
  obtain ⟨hC, hTb, hE, hPW⟩ := hH
  dsimp only [subS] at N
  dsimp only at hE N hPW
  refine wpAny_call ?_
  k_dflt (refine' code_defGC ?k1 ?k2 ?k3 ?k4 ?k5 ?kA ?kF ?kK ?k6 ?k7 ?k8 ?k9 ?kB ?kD ?_ ?c2 ?c3 ?c4; (case kA => exact rfl); (case kF => exact rfl); (case kK => assumption); (case k1 => k_asm); (case k2 => k_asm); (case k3 => k_asm); (case k4 => k_asm); (case k5 => k_asm); (case k6 => k_is); (case k7 => k_is); (case k8 => ktr_room); (case k9 => first | exact BindsTo.of_eq rfl | exact binds_K (by k_in) rfl (by k_is) rfl rfl rfl); (case kB => exact rfl); (case kD => decide +kernel); (case c2 => exact rfl); (case c3 => exact rfl); (case c4 => exact rfl))
  intro g' Lf hf tkf cells FGf Ff Nf Yf Bf Xf Tf hG0 hS' hlf
  k_cells Yf
  rename_i o1 o2 hd1 hd2
  replace hd1 : o1.data = .cell none := hd1
  replace hd2 : o2.data = .cell (some (.ref x)) := hd2
  replace Ff : Fr g' Lf hf (startM ts ad e2) := Ff
  have hC' := hC.keeps hS'
  have hP0 : NdL [ad, wl, Sps, Snst, 148, Sa, Sdst, e1, e2, t0, x, d] [] := ⟨hPW, fun p hp => by cases hp⟩
  have hP1 := nd_cons (d := Lf + 1) hP0 (l := List.drop 2 ((Lf + 1 + 1, o1) :: (Lf + 1, o2) :: _)) rfl rfl (fun p hp => Nat.lt_succ_of_lt (hlf p hp))
  have hP3 : NdL ([Lf + 1 + 1, Lf + 1, ad, wl, Sps, Snst, 148, d] ++ [Sa, Sdst, e1, e2, t0, x]) [] := (nd_x hP1 rfl rfl (fun p hp => Nat.lt_succ_of_lt (hlf p hp)) (Nat.lt_succ_self _)).pick [0, 1, 2, 3, 4, 5, 6, 13, 7, 8, 9, 10, 11, 12] (by decide) rfl
  obtain ⟨tS, NS, hND, hmA, hmS, hm1, hm2, hm0, hmx⟩ : ∃ tS : List (Addr × Obj), News g' Lf hf ((Lf + 1 + 1, o1) :: (Lf + 1, o2) :: (ad, oD) :: (wl, W.listOf #[] nw) :: (Sps, W.listOf #[.bool false] np) :: (Snst, W.listOf #[.ref m0, .ref m1] nn) :: (148, tabObj tb) :: (d, wDict w ⟨Sa, Sdl, Sex, Sdst, Snst, Spm, Sps, Srs, Srd, Sig, St, Sk⟩) :: tS) ∧ NdL [Lf + 1 + 1, Lf + 1, ad, wl, Sps, Snst, 148, d] tS ∧
      (Sa, boundApp wl) ∈ tS ∧ (Sdst, W.listOf #[.ref e1, .ref e2] n3) ∈ tS ∧ (e1, W.listOf #[.ref t0] n1) ∈ tS ∧ (e2, W.listOf #[] n2) ∈ tS ∧ (t0, { cls := .type "tuple", data := .seq #[.str "http://www.w3.org/XML/1998/namespace" u, .str "xml" u'] nt }) ∈ tS ∧ (x, instObj 175 d) ∈ tS :=
    ⟨[(Sa, boundApp wl), (Sdst, W.listOf #[.ref e1, .ref e2] n3), (e1, W.listOf #[.ref t0] n1), (e2, W.listOf #[] n2), (t0, { cls := .type "tuple", data := .seq #[.str "http://www.w3.org/XML/1998/namespace" u, .str "xml" u'] nt }), (x, instObj 175 d)],
      news_cons (Nf _ (List.mem_of_getElem? (i := 0) rfl)) (news_cons (Nf _ (List.mem_of_getElem? (i := 1) rfl)) (news_cons (Nf _ (List.mem_of_getElem? (i := 2) rfl)) (news_cons (Nf _ (List.mem_of_getElem? (i := 3) rfl)) (news_cons (Nf _ (List.mem_of_getElem? (i := 4) rfl)) (news_cons (Nf _ (List.mem_of_getElem? (i := 5) rfl)) (news_cons (Nf _ (List.mem_of_getElem? (i := 6) rfl)) (news_cons (Nf _ (List.mem_of_getElem? (i := 13) rfl)) (fun q hq => Nf q (List.mem_of_mem_drop (i := 7) (List.mem_of_mem_take (i := 6) hq)))))))))),
      nd_pack hP3 rfl, .head _, .tail _ (.head _), .tail _ (.tail _ (.head _)), .tail _ (.tail _ (.tail _ (.head _))), .tail _ (.tail _ (.tail _ (.tail _ (.head _)))), .tail _ (.tail _ (.tail _ (.tail _ (.tail _ (.head _)))))⟩
  have hlz : ∀ z ∈ ([ad, wl, Sps, Snst, 148, Sa, Sdst, e1, e2, t0, x, d] : List Nat), @LT.lt Nat _ z Lf := (List.forall_mem_map (f := fun q : Addr × Obj => q.1) (P := fun z => @LT.lt Nat _ z Lf)).mpr hlf
  clear Nf hP0 hP1 hP3 hlf hC
  dsimp only
  refine wpAny_execs_cons (wpAny_mono (Q := fun f s1 => f = Flow.next ∧ StA prog w g' Lf e2 ts its o1 o2 [(wl, W.listOf #[] nw), (Sps, W.listOf #[.bool false] np), (Snst, W.listOf #[.ref m0, .ref m1] nn), (148, tabObj tb), (d, wDict w ⟨Sa, Sdl, Sex, Sdst, Snst, Spm, Sps, Srs, Srd, Sig, St, Sk⟩)] [wl, Sps, Snst, 148, d] tS s.gens s.os s1) ?_ ?_ (fun _ _ y => y))
  · skip
    rcases hE with ⟨rfl, rfl⟩ | ⟨X6, ms, rfl, hU6, hml, hXn, rfl⟩
    · k_steps
      (with_reducible rename News _ _ _ _ => NA)
      (with_reducible rename Fr _ _ _ _ => FA)
      exact .mk _ _ _ ad oD kvs FA NA hOD hKI hadm hND
    · have hUg : SetUp prog w g' X6 ms := hU6.at' (fun o e => hG0 X6 o e hXn)
      have hk0 : kvs.length = its0.length := paired_len hKI
      have hl0 := List.length_filter_le (fun p => decide (p.1 ∉ ms)) its0
      k_steps
      unfold Stop
      refine' Assign_DictComp_items (fun k => decide (k ∉ ms)) (cl := ?cl9) ?hsw9 rfl ?kcl9 (by decide) rfl (by decide) ?hy9 ?hp9 ?_
      case hsw9 => with_unfolding_all rfl
      case kcl9 => rfl
      case hy9 => rfl
      case hp9 => rfl
      k_steps
      (with_reducible rename News _ _ _ _ => NA)
      (with_reducible rename Fr _ _ _ _ => FA)
      refine ⟨_, ad, oD, kvs, _, _, _, rfl, FA, NA, .head _, .tail _ (.tail _ (.tail _ (.head _))), hOD, by omega, by rw [kv_names hKI]; exact hn0, ?_, ?_⟩
      · rintro C i k z key T s₃ m₃ hC hi hn hkey hT ⟨h₃, tk₃, rfl⟩ st
        obtain ⟨tkk, rfl⟩ := Value.isStrOf_shape hkey
        refine kcp_assign rfl hT (lookup_relabel_local rfl) (lookup_relabel_local rfl) (by simp [compEnvC, relabel]) hn ?_
        intro h₄ tk₄ hn₄ hs₄
        obtain ⟨oC, hoC, F4, N4, hne, hL⟩ := block_ground FA NA hC (fun b o hb e => hs₄ b o hb (st b o e)) hn₄
        have hm2 : (fun z' => if z' = Str.ofString "v" then some z else if z' = Str.ofString "k" then some (Value.str k tkk) else m₃ z') (Str.ofString "k") = some (Value.str k tkk) := rfl
        have hm3 : (fun z' => if z' = Str.ofString "v" then some z else if z' = Str.ofString "k" then some (Value.str k tkk) else m₃ z') (Str.ofString "v") = some z := rfl
        generalize (fun z' => if z' = Str.ofString "v" then some z else if z' = Str.ofString "k" then some (Value.str k tkk) else m₃ z') = m₂ at hn₄ hoC hm2 hm3
        refine tests_one ?_
        by_cases hkm : k ∈ ms
        · k_steps
          all_goals first | exact ⟨_, _, _, rfl, hn₄, hs₄⟩ | exact beq_self_eq_true k | rfl | exact decide_eq_false (not_not_intro hkm)
        · k_steps
          all_goals first | exact ⟨decide_eq_true hkm, beq_self_eq_true k, rfl, _, _, _, rfl, hn₄, hs₄⟩ | exact ⟨beq_self_eq_true k, rfl, _, _, _, rfl, hn₄, hs₄⟩ | exact ⟨rfl, _, _, _, rfl, hn₄, hs₄⟩ | exact ⟨_, _, _, rfl, hn₄, hs₄⟩ | exact beq_self_eq_true k | rfl | exact decide_eq_true hkm
      · intro D oD' h7 tk7 hOD' F7 N7 hne hD keep
        (with_reducible rename NdL _ _ => hNDx)
        have hNDy := nd_allNe hNDx rfl rfl hne
        clear hne hNDx
        k_steps
        exact .mk _ _ _ D oD' _ ((congrArg (Fr g' Lf _) (startM_set ts ad e2 D)).mp F7) (news_cons (N7 _ (List.mem_of_getElem? (i := 2) rfl)) (news_cons (N7 _ (List.mem_of_getElem? (i := 3) rfl)) (news_cons (N7 _ (.head _)) (fun q hq => N7 q (List.mem_of_mem_drop (i := 5) hq))))) hOD' (kv_filter (f := fun k => decide (k ∉ ms)) hKI)
          (beq_eq_false_iff_ne.mpr (Nat.ne_of_gt (Nat.lt_of_lt_of_le (modules_low Tf.nolimit) (Nat.le_trans FA.above (Nat.le_trans (Nat.le_of_lt FA.ns.lt) hD))))) (hNDy.pick [2, 3, 0, 5, 6, 7, 8, 9] (by decide) rfl)
  rintro f s₂ ⟨rfl, ⟨hA, tkA, drA, AD, OD, kvs', F2, N2, hOD2, hK2, hs2, hND2⟩⟩
  clear Ff NS hND hOD hKI hadm hE h08 hn0
  dsimp only [List.cons_append, List.nil_append] at N2
  have hkm := kv_names hK2
  have hkl : kvs'.length = its.length := paired_len hK2
  dsimp only
  k_steps
  (with_reducible rename NdL _ _ => hNDz)
  refine ⟨_, _, _, _, rfl, rfl, by assumption, by assumption, ?_⟩
  intro h3 tk3 ob3 F3 N3 hU3
  k_steps
  refine ⟨AD, kvs', _, _, rfl, rfl, by assumption, by assumption, Heap.dictOf_iff.mpr ⟨OD, (N3 _ (List.mem_of_getElem? (i := 3) rfl)).1, hOD2⟩, hs2, by first | exact hNDz.ne 3 0 rfl rfl (by decide) | exact hNDz.ne 0 3 rfl rfl (by decide), by rw [hkm]; exact hknd, by omega, ?_⟩
  intro h4 tk4 ob4 F4 N4 hU4
  rw [hkm] at hU4
  have hI4 : Is (h4.get? _) (some ob4) := ⟨(N4 _ (.head _)).1⟩
  have hNB2 : ∀ y ∈ Str.ofString "s" :: its.map (·.1), NoBr y ∧ 1 ≤ y.length ∧ (Txt.slice y none (some 1) == "{") = false := by
    intro y hy
    rcases List.mem_cons.mp hy with rfl | hy
    · exact ⟨⟨by decide, splitMax_none (c0 := 125) rfl (by decide)⟩, by decide, by decide⟩
    · obtain ⟨q, hq, rfl⟩ := List.mem_map.mp hy
      exact hnb q hq
  have hNB : ∀ y ∈ Str.ofString "s" :: its.map (·.1), NoBr y := fun y hy => (hNB2 y hy).1
  k_steps
  unfold Stop
  rename_i Dq hq1 led1 hq2 dR hq3 oR l1r lo1 hs1 fs1 hi1x fi1 hq4 tkx hq5 qM hq6 l1m hNDm hq7 oC FA NA hdc
  obtain ⟨um, FB⟩ := frL FA [("tag", some (.str "s" ts)), ("attrs", some (.ref AD)), ("new_namespaces", some (.ref e2)), ("qname_text", some .none), ("qattrs", some .none), ("qnames", some (.ref Dq))] (by repeat (first | exact List.forall_mem_nil _ | refine List.forall_mem_cons.mpr ⟨rfl, ?_⟩))
  obtain ⟨tQ, hsQ, NQ, hNDQ, hmM, hmQ, hmC, hmL, hmD⟩ : ∃ tQ : List (Addr × Obj), (∀ p ∈ tS, p ∈ tQ) ∧ News g' Lf _ ((wl, W.listOf #[] nw) :: (Sps, W.listOf #[.bool false] np) :: (Snst, W.listOf #[.ref m0, .ref m1] nn) :: (148, tabObj tb) :: (d, wDict w ⟨Sa, Sdl, Sex, Sdst, Snst, Spm, Sps, Srs, Srd, Sig, St, Sk⟩) :: tQ) ∧ NdL [wl, Sps, Snst, 148, d] tQ ∧
      (qM, methodObj (.ref 115) (.ref x)) ∈ tQ ∧ (Dq, ob4) ∈ tQ ∧ (Lf + 1 + 1, oC) ∈ tQ ∧ (Lf + 1, o2) ∈ tQ ∧ (AD, OD) ∈ tQ :=
    ⟨[(qM, methodObj (.ref 115) (.ref x)), (Dq, ob4), (Lf + 1 + 1, oC), (Lf + 1, o2), (AD, OD)] ++ tS, fun p hp => List.mem_append_right _ hp,
      news_cons (NA _ (List.mem_of_getElem? (i := 6) rfl)) (news_cons (NA _ (List.mem_of_getElem? (i := 7) rfl)) (news_cons (NA _ (List.mem_of_getElem? (i := 8) rfl)) (news_cons (NA _ (List.mem_of_getElem? (i := 9) rfl)) (news_cons (NA _ (List.mem_of_getElem? (i := 10) rfl)) (news_cons (NA _ (.head _)) (news_cons (NA _ (List.mem_of_getElem? (i := 2) rfl)) (news_cons (NA _ (List.mem_of_getElem? (i := 3) rfl)) (news_cons (NA _ (List.mem_of_getElem? (i := 4) rfl)) (news_cons (NA _ (List.mem_of_getElem? (i := 5) rfl)) (fun q hq => NA q (List.mem_of_mem_drop (i := 11) hq))))))))))),
      nd_into (bs := [qM, Dq, Lf + 1 + 1, Lf + 1, AD]) (hNDm.pick [6, 7, 8, 9, 10, 0, 2, 3, 4, 5] (by decide) rfl) rfl, .head _, .tail _ (.head _), .tail _ (.tail _ (.head _)), .tail _ (.tail _ (.tail _ (.head _))), .tail _ (.tail _ (.tail _ (.tail _ (.head _))))⟩
  replace hmA := hsQ _ hmA
  replace hmS := hsQ _ hmS
  replace hm1 := hsQ _ hm1
  replace hm2 := hsQ _ hm2
  replace hm0 := hsQ _ hm0
  replace hmx := hsQ _ hmx
  clear FA NA hsQ hNDm rwl1 l1r l1m lo1 hs1 fs1 hi1x fi1 hU3
  refine wpAny_mono (Q := fun f s1 => f = Flow.next ∧ StB prog w g' Lf e2 AD ts its tb [ad, wl, Sps, Snst, 148, Sa, Sdst, e1, e2, t0, x, d] [wl, Sps, Snst, 148, d] [(wl, W.listOf #[] nw), (Sps, W.listOf #[.bool false] np), (Snst, W.listOf #[.ref m0, .ref m1] nn)] [(d, wDict w ⟨Sa, Sdl, Sex, Sdst, Snst, Spm, Sps, Srs, Srd, Sig, St, Sk⟩)] tQ s.gens s.os s1) ?_ ?_ (fun _ _ y => y)
  · skip
    refine' Assign_DictComp_list (PySem.strKind _ _) (cl := ?cl) (fun _ => true) (fun v k => ∃ t, v = Value.str k t) (QTup g' [Lf, wl, Sps, Snst, 148, d]) ?hsw rfl ?kcl (by decide) rfl (by decide) ?hy ?hp ?_
    case hsw => with_unfolding_all rfl
    case kcl => rfl
    case hy => rfl
    case hp => rfl
    k_steps
    unfold Stop
    refine wpAny_mono (Q := LamAt g' Lf (lk [("tag", some (.str "s" ts)), ("attrs", some (.ref AD)), ("new_namespaces", some (.ref e2)), ("qname_text", some .none), ("qattrs", some .none), ("qnames", some (.ref Dq))] um) tb [ad, wl, Sps, Snst, 148, Sa, Sdst, e1, e2, t0, x, d] [wl, Sps, Snst, 148, d] [(wl, W.listOf #[] nw), (Sps, W.listOf #[.bool false] np), (Snst, W.listOf #[.ref m0, .ref m1] nn)] [(d, wDict w ⟨Sa, Sdl, Sex, Sdst, Snst, Spm, Sps, Srs, Srd, Sig, St, Sk⟩)] tQ s.gens s.os) ?_ ?_ (fun _ _ y => y)
    · skip
      have hX : Halt2 := ⟨trivial⟩
      rcases hTb with rfl | ⟨c', rfl, hcr, hcn⟩
      · k_steps
        (with_reducible rename NdL _ _ => hNL)
        (with_reducible rename News _ _ _ _ => NL)
        (with_reducible rename Fr _ _ _ _ => FL)
        (with_reducible rename (∀ p ∈ (_ :: _ :: _ :: _ :: _), @LT.lt Nat _ _ _) => hLt)
        exact LamAt.mk _ _ _ _ _ _ _ [(_, _)] FL (news_cons (NL _ (.head _)) (news_cons (NL _ (List.mem_of_getElem? (i := 2) rfl)) (news_cons (NL _ (List.mem_of_getElem? (i := 3) rfl)) (news_cons (NL _ (List.mem_of_getElem? (i := 4) rfl)) (news_cons (NL _ (List.mem_of_getElem? (i := 5) rfl)) (news_cons (NL _ (List.mem_of_getElem? (i := 6) rfl)) (news_cons (NL _ (.tail _ (.head _))) (fun q hq => NL q (List.mem_of_mem_drop (i := 7) hq)))))))))
          (fun h m F N => codeRec_news N (.head _) (by assumption) (by assumption)) (.inr ⟨⟨_, .head _⟩, fun z hz => Nat.ne_of_lt (Nat.lt_trans (hlz z hz) (Nat.lt_of_succ_lt (hLt (Lf + 1, o2) (by k_mem))))⟩) (nd_into (bs := [_]) (hNL.pick [0, 2, 3, 4, 5, 6, 1] (by decide) rfl) rfl)
      · have hcr' : g'.CodeRec (.ref c') "C14NWriterTarget._start.<locals>.<lambda>" := by
          obtain ⟨c9, oc9, vs9, t9, e9, i1, i2, i3⟩ := hcr
          cases e9
          exact ⟨_, oc9, vs9, t9, rfl, hG0 _ _ i1 hcn, i2, i3⟩
        k_steps
        (with_reducible rename NdL _ _ => hNL)
        (with_reducible rename News _ _ _ _ => NL)
        (with_reducible rename Fr _ _ _ _ => FL)
        exact LamAt.mk _ _ _ _ _ _ _ [] FL NL (fun h m F N => hcr'.keeps F.keep) (.inl rfl) hNL
    · rintro v s₂ ⟨h5, tk5, dr5, f, c2, pm, ctv, tL, F5, N5, hcr5, hc5, hND5⟩
      dsimp only [List.cons_append, List.nil_append] at N5
      replace hmM := List.mem_append_right tL hmM
      replace hmQ := List.mem_append_right tL hmQ
      replace hmC := List.mem_append_right tL hmC
      replace hmL := List.mem_append_right tL hmL
      replace hmD := List.mem_append_right tL hmD
      replace hmA := List.mem_append_right tL hmA
      replace hmS := List.mem_append_right tL hmS
      replace hm1 := List.mem_append_right tL hm1
      replace hm2 := List.mem_append_right tL hm2
      replace hm0 := List.mem_append_right tL hm0
      replace hmx := List.mem_append_right tL hmx
      k_steps
      refine ⟨_, _, _, _, _, rfl, PySem.IsL.isList (News.get (by assumption) (.head _)), ?_, by assumption, by assumption, ?_, ?_⟩
      · have := (by assumption : StrsAre _ _).length
        have hp := (by assumption : List.Perm _ _).length_eq
        simp only [List.length_cons, List.length_map] at hp
        rw [sizeLine_eq]; omega
      · rintro C i v s₃ m₃ hC hv hn ⟨h₃, tk₃, rfl⟩ st
        refine turnD_name (by assumption) (by assumption) hC st hn rfl rfl ?_
        intro h6 tk6 oC m₂ hoC hm2 F6 N6 st6 hne hL
        (with_reducible rename StrsAre _ _ => hYS)
        (with_reducible rename List.Perm _ _ => hPm)
        obtain ⟨y, ty, rfl, hyk⟩ := strs_get_str hYS v (List.mem_of_getElem? hv)
        obtain ⟨⟨g1, _⟩, g2, g3⟩ := hNB2 y (hPm.mem_iff.mp hyk)
        have hfz : ∀ q, h6.get? q = none → g'.get? q = none ∧ ∀ z ∈ ([Lf, wl, Sps, Snst, 148, d] : List Nat), @Ne Nat q z := fun q hq => by
          refine ⟨fresh_not F6 hq, fresh_zs ?_ hq⟩
          obtain ⟨oL, _, _, hoL, _⟩ := F6.ns
          refine List.forall_mem_cons.mpr ⟨⟨_, hoL⟩, ?_⟩
          repeat (refine List.forall_mem_cons.mpr ⟨⟨_, (N6 (_, _) (by k_mem)).1⟩, ?_⟩)
          exact List.forall_mem_nil _
        k_steps
        refine ⟨_, _, rfl, by assumption, rfl, ⟨y, beq_self_eq_true y, ⟨_, rfl⟩⟩, ?_⟩
        intro hf kf x' t' e'
        cases e'
        exact ⟨_, _, _, _, _, rfl, (hfz _ (by assumption)).1, (hfz _ (by assumption)).2, kf _ _ (by assumption) (by assumption)⟩
      · (with_reducible rename NdL _ _ => hNDl)
        (with_reducible rename Fr _ _ _ _ => Fq)
        intro D oD h7 tk7 pk hOP hSt F7 N7 hne hD keep
        dsimp only at hD
        (with_reducible rename StrsAre _ _ => hYS)
        (with_reducible rename List.Perm _ _ => hPm)
        obtain ⟨tl, ht1, ht2⟩ := stored_tl hYS hPm hSt
        have NT : News g' Lf h7 tl := fun p hp => ⟨(ht2 p hp).2.2, (ht2 p hp).2.1 _ (.head _), (ht2 p hp).1⟩
        obtain ⟨um7, Fm⟩ := frL F7 [("tag", some (.str "s" ts)), ("attrs", some (.ref AD)), ("new_namespaces", some (.ref e2)), ("qname_text", some .none), ("qattrs", some .none), ("parsed_qnames", some (.ref D))] (by repeat (first | exact List.forall_mem_nil _ | refine List.forall_mem_cons.mpr ⟨rfl, ?_⟩))
        have NTB : News g' Lf h7 (tl ++ ((D, oD) :: (tL ++ tQ))) := news_app NT (news_cons (N7 _ (.head _)) (fun q hq => N7 q (List.mem_of_mem_drop (i := 8) hq)))
        exact ⟨rfl, .mk h7 tk7 _ D c2 oD pk (tl ++ ((D, oD) :: (tL ++ tQ))) um7 Fm hOP (beq_eq_false_iff_ne.mpr (Nat.ne_of_gt (Nat.lt_of_lt_of_le (modules_low Tf.nolimit) (Nat.le_trans Fq.above (Nat.le_trans (Nat.le_of_lt Fq.ns.lt) hD)))))
          (fun q hq => List.mem_append_right _ (.tail _ (List.mem_append_right _ hq))) (fun k hk => let ⟨q, a, b, c, n, e, hm⟩ := ht1 k hk; ⟨q, a, b, c, n, e, List.mem_append_left _ hm⟩)
          (fun h m F N => hcr5 h m F fun q hq => N q (List.mem_append_right _ (.tail _ (List.mem_append_left _ hq)))) (hc5.imp_right fun h => ⟨h.1.imp fun oc h => List.mem_append_right _ (.tail _ (List.mem_append_left _ h)), h.2⟩) (List.mem_append_right _ (.head _))
          (news_cons (N7 _ (List.mem_of_getElem? (i := 3) rfl)) (news_cons (N7 _ (List.mem_of_getElem? (i := 4) rfl)) (news_cons (N7 _ (List.mem_of_getElem? (i := 5) rfl)) (news_cons (N7 _ (List.mem_of_getElem? (i := 6) rfl)) (news_cons (N7 _ (List.mem_of_getElem? (i := 7) rfl)) NTB)))))
          (nd_more (nd_push ((nd_allNe hNDl rfl rfl hne).pick [0, 3, 4, 5, 6, 7] (by decide) rfl)) fun p hp hm => (ht2 p hp).2.1 p.1 (.tail _ hm) rfl)⟩
  rintro f s₂ ⟨rfl, ⟨h5, tk5, dr5, PQ, c2, OP, pk, tB, um5, F5, hOP, hPm, hsB, hT1, hT2, hT5, hmP, N5, hND5⟩⟩
  clear NQ hNDQ FB
  replace hmL := hsB _ hmL
  replace hmD := hsB _ hmD
  replace hmA := hsB _ hmA
  replace hmx := hsB _ hmx
  replace hm2 := hsB _ hm2
  replace hmS := hsB _ hmS
  replace hm1 := hsB _ hm1
  replace hm0 := hsB _ hm0
  clear hsB hmM hmQ hmC
  dsimp only [List.cons_append, List.nil_append] at N5
  dsimp only
  have hnd' : (its.map (·.1)).Nodup := (List.nodup_cons.mp hknd).2
  replace N5 : News g' Lf h5 (_ :: _ :: _ :: _ :: _ :: (AD, OD) :: tB) := news_cons (N5 _ (.head _)) (news_cons (N5 _ (.tail _ (.head _))) (news_cons (N5 _ (List.mem_of_getElem? (i := 2) rfl)) (news_cons (N5 _ (List.mem_of_getElem? (i := 3) rfl)) (news_cons (N5 _ (List.mem_of_getElem? (i := 4) rfl)) (news_cons (N5 _ (List.mem_of_mem_drop (i := 5) hmD)) fun q hq => N5 q (List.mem_of_mem_drop (i := 5) hq))))))
  replace hND5 := nd_dup hND5 hmD
  have hLe2 : h5.IsList e2 #[] := PySem.IsL.isList (News.get N5 (.tail _ (.tail _ (.tail _ (.tail _ (.tail _ (.tail _ hm2)))))))
  k_steps
  rename_i AL hB1 l1a hB2 FB2 NB2 tkB Dv hB3 FB3 NB3 l1b hNDs D eD hS tkS vs2 ss tl2 hP2 hW2 hR2 FS NS hND0 hTl2
  have hNDt : NdL [AL, wl, Sps, Snst, 148, d] (tl2 ++ ((D, W.listOf vs2.toArray eD) :: (AD, OD) :: tB)) := (nd_above hTl2 (nd_push (nd_ne hNDs rfl rfl fun p hp => hND0 p (List.mem_append_right _ hp))) rfl rfl).pick [1, 2, 3, 4, 5, 6] (by decide) rfl
  have NS2 : News g' Lf hS (_ :: _ :: _ :: _ :: _ :: _ :: _ :: (AD, OD) :: tB) := fun q hq => NS q (.tail _ (List.mem_append_right tl2 hq))
  have NST : News g' Lf hS (tl2 ++ ((D, W.listOf vs2.toArray eD) :: (AD, OD) :: tB)) := news_app (fun q hq => NS q (.tail _ (List.mem_append_left _ hq))) (news_cons (NS _ (.head _)) (fun q hq => NS2 q (List.mem_of_mem_drop (i := 7) hq)))
  have NJ := news_cons (NS2 _ (List.mem_of_getElem? (i := 1) rfl)) (news_cons (NS2 _ (List.mem_of_getElem? (i := 2) rfl)) (news_cons (NS2 _ (List.mem_of_getElem? (i := 3) rfl)) (news_cons (NS2 _ (List.mem_of_getElem? (i := 4) rfl)) (news_cons (NS2 _ (List.mem_of_getElem? (i := 5) rfl)) (news_cons (NS2 _ (List.mem_of_getElem? (i := 6) rfl)) (NST))))))
  obtain ⟨umS, FS0⟩ := frL FS [("tag", some (.str "s" ts)), ("attrs", some (.ref AD)), ("qname_text", some .none), ("qattrs", some .none), ("parsed_qnames", some (.ref PQ)), ("attr_list", some (.ref AL))] (by repeat (first | exact List.forall_mem_nil _ | refine List.forall_mem_cons.mpr ⟨rfl, ?_⟩))
  clear hNDs hND0 hTl2 NS NS2 NST FS l1a l1b
  refine ⟨D, vs2, _, _, LoopAt AL AD PQ ts ss [(wl, W.listOf #[] nw), (Sps, W.listOf #[.bool false] np), (Snst, W.listOf #[.ref m0, .ref m1] nn), (148, tabObj #[rawInt 246, rawInt 71, .ref c2]), (d, wDict w ⟨Sa, Sdl, Sex, Sdst, Snst, Spm, Sps, Srs, Srd, Sig, St, Sk⟩)] [wl, Sps, Snst, 148, d] (tl2 ++ ((D, W.listOf vs2.toArray eD) :: (AD, OD) :: tB)), rfl, FS0, NJ, .mk 0 [] _ umS .nil (fun _ h => h) hNDt, ?kl, ?turn, ?done⟩
  case kl =>
    rintro i m' news' h' ⟨na, va, tX, um, hva, hsub, nd⟩ F' N'
    exact PySem.IsL.isList (News.get N' (.tail _ (List.mem_append_right (as := [_, _, _, _, _]) (hsub _ (List.mem_append_right _ (.head _))))))
  case turn =>
    rintro i v _ _ h₁ tk₁ I io hi ⟨na, va, tX, um6, hva, hsub, nd⟩ hnI hIL F3 N3
    obtain ⟨p6, hpi, hp6⟩ := paired_get hR2 i v hi
    obtain ⟨pn, pw, rfl⟩ : ∃ a b, p6 = (a, b) := ⟨p6.1, p6.2, rfl⟩
    obtain ⟨a6, ta, tb6, n6, rfl, hm6⟩ := hp6
    have hmem : (pn, pw) ∈ its := hP2.mem_iff.mp (List.mem_of_getElem? hpi)
    obtain ⟨q6, qa, qb, qc, qn, hval, hqm⟩ := hT1 pn (.tail _ (List.mem_map_of_mem (f := (·.1)) hmem))
    replace hm6 := hsub _ (List.mem_append_left _ hm6)
    replace hqm := hsub _ (List.mem_append_right _ (.tail _ (.tail _ hqm)))
    replace hmP := hsub _ (List.mem_append_right _ (.tail _ (.tail _ hmP)))
    have hNDi := nd_ne nd rfl rfl hnI
    have hvl : va.toArray.size ≤ sizeLine := by
      have h1 := paired_len hva
      have h2 := hP2.length_eq
      rw [List.length_take] at h1
      rw [List.size_toArray, sizeLine_eq]; omega
    dsimp only [tup2] at hm6
    dsimp only [List.cons_append, List.nil_append] at N3
    clear NJ FS0 hNDt hnI
    dsimp only
    k_steps
    rename_i D6 hZ1 l1z hNDz hZ2 FZ NZ
    have e7 : ∀ z : Value, va.toArray.push z = (va ++ [z]).toArray := fun z => by simp
    rw [e7] at NZ
    obtain ⟨umZ, FZ1⟩ := frL FZ [("tag", some (.str "s" ts)), ("attrs", some (.ref AD)), ("qname_text", some .none), ("qattrs", some .none), ("parsed_qnames", some (.ref PQ)), ("attr_list", some (.ref AL))] (by repeat (first | exact List.forall_mem_nil _ | refine List.forall_mem_cons.mpr ⟨rfl, ?_⟩))
    have hNDy : NdL [I, AL, wl, Sps, Snst, 148, d] ((D6, tup2 (pn, pw) qb tb6 0) :: tX) := nd_push (hNDz.pick [0, 1, 2, 3, 4, 5, 6, 7] (by decide) rfl)
    refine ⟨_, _, _, _, rfl, FZ1, news_cons (NZ _ (.tail _ (.head _))) (news_cons (NZ _ (List.mem_of_getElem? (i := 2) rfl)) (news_cons (NZ _ (List.mem_of_getElem? (i := 3) rfl)) (news_cons (NZ _ (List.mem_of_getElem? (i := 4) rfl)) (news_cons (NZ _ (List.mem_of_getElem? (i := 5) rfl)) (news_cons (NZ _ (List.mem_of_getElem? (i := 6) rfl)) (news_cons (NZ _ (List.mem_of_getElem? (i := 7) rfl)) (news_cons (NZ _ (.head _)) (fun q hq => NZ q (List.mem_of_mem_drop (i := 8) hq))))))))), nd_notIn hNDy rfl rfl, .mk (na + 1) (va ++ [.ref D6]) ((D6, tup2 (pn, pw) qb tb6 0) :: tX) umZ ?_ (fun q hq => .tail _ (hsub q hq)) (hNDy.pick [1, 2, 3, 4, 5, 6] (by decide) rfl)⟩
    rw [List.take_add_one, hpi]
    exact paired_snoc (paired_map (fun v p x => x.mono fun q hq => .tail _ hq) hva) ⟨D6, qb, tb6, 0, rfl, .head _⟩
  case done =>
    intro h8 tk8 m8 n8 F8 N8 hL8
    revert F8 N8
    rcases hL8 with ⟨na, va, tX, um8, hva, hsub, nd⟩
    intro F8 N8
    have hTX : ∀ q ∈ tB, q ∈ tX := fun q hq => hsub _ (List.mem_append_right _ (.tail _ (.tail _ hq)))
    have hvl := paired_len hR2
    rw [hvl, List.take_length] at hva
    have hva2 := paired_len hva
    have hss := hP2.length_eq
    obtain ⟨qs, ya, yb, yc, yn, hvs, hqs⟩ := hT1 (Str.ofString "s") (.head _)
    have hno : valueAt kvs' (Str.ofString "{http://www.w3.org/XML/1998/namespace}space") = none := valueAt_none (by
      rw [hkm]
      intro hm
      obtain ⟨p, hp, e⟩ := List.mem_map.mp hm
      have := (hnb p hp).2.2
      rw [e] at this
      exact absurd this (by decide))
    have hT8 : TupsAt h8 va ss := paired_map (fun v p x => x.at (fun q hq => N8 q (.tail _ (List.mem_append_right (as := [_, _, _, _, _]) hq)))) hva
    replace hqs := hTX _ hqs
    replace hmP := hTX _ hmP
    replace hmL := hTX _ hmL
    replace hmD := hTX _ hmD
    replace hmA := hTX _ hmA
    replace hmx := hTX _ hmx
    replace hmS := hTX _ hmS
    replace hm1 := hTX _ hm1
    replace hm2 := hTX _ hm2
    replace hm0 := hTX _ hm0
    dsimp only [List.cons_append, List.nil_append] at N8
    clear NJ FS0 hNDt
    dsimp only
    k_steps
    unfold Stop
    k_dflt (refine' ListComp_ready (cl := _) (fun _ => true) (fun _ v y => ∀ p, PairVal h8 v p → ∃ t, y = Value.str (itemText p) t) rfl (by rfl) (by decide) rfl (by decide) ?_)
    k_steps
    refine ⟨_, va, rfl, PySem.IsL.isList (News.get (by assumption) (by k_mem)), by rw [sizeLine_eq]; omega, ?_, ?_⟩
    · rintro C i v s₃ m₃ hC hi hn ⟨h₃, tk₃, rfl⟩ st
      obtain ⟨p6, hpi, hpv⟩ := paired_get hT8 i v hi
      obtain ⟨pn, pw, rfl⟩ : ∃ a b, p6 = (a, b) := ⟨p6.1, p6.2, rfl⟩
      obtain ⟨p7, hpi', hp7⟩ := paired_get hva i v hi
      obtain rfl : p7 = (pn, pw) := Option.some.inj (hpi'.symm.trans hpi)
      obtain ⟨a6, ta, tb', n6, rfl, hm6⟩ := hp7
      have hmem : (pn, pw) ∈ its := hP2.mem_iff.mp (List.mem_of_getElem? hpi)
      have hpo : OpW pw := hwd _ hmem
      have hpl : pn.length ≤ 100 := (hnb _ hmem).1.1
      have hsl := spell_len hpo
      (with_reducible rename News _ _ _ _ => N9)
      (with_reducible rename Fr _ _ _ _ => F9)
      have hta := (N9 (a6, tup2 (pn, pw) ta tb' n6) (by repeat (first | exact hm6 | refine List.Mem.tail _ ?_))).1
      refine turn_pair rfl F9 N9 hC st hn ⟨_, hta, rfl, _, rfl⟩ rfl rfl rfl (by decide) ?_
      intro h4 tk4 oC m₂ hoC hm2 hm3 F4 N4 st4 hne hL
      k_steps
      refine ⟨_, _, rfl, by first | exact fun _ _ e => e | assumption, rfl, ?_⟩
      intro hf _ q hq
      rw [hq.uniq hpv]
      exact ⟨_, rfl⟩
    · intro D2 h' tk' ys k hD hg hp st
      (with_reducible rename News _ _ _ _ => N9)
      (with_reducible rename Fr _ _ _ _ => F9)
      obtain ⟨F3, N3, hne, hL⟩ := on_size F9 N9 hD hg st
      rw [filter_true] at hp
      (with_reducible rename NdL _ _ => hND8)
      have hND9 := nd_allNe hND8 rfl rfl hne
      have hys : StrsAre ys (ss.map itemText) := tups_strs hT8 hp
      have hlen : (List.map itemText ss).length ≤ 1000 := by simpa using (by omega)
      have hB : ∀ y ∈ List.map itemText ss, y.length ≤ 100 := by
        intro y hy
        obtain ⟨q, hq, rfl⟩ := List.mem_map.mp hy
        have hq := hP2.mem_iff.mp hq
        exact itemText_len (hnl q hq) (spell_len (hwd q hq))
      have hj : (Str.join "" (List.map itemText ss)).length ≤ 4000 := by
        have h1 := join_len (sep := "") hB
        have h2 : (Str.ofString "").length = 0 := by decide
        rw [List.length_map, h2] at h1
        omega
      clear F9 N9 hg st hND8 hne
      k_steps
      (with_reducible rename News g' _ _ _ => NF)
      (with_reducible rename Fr g' _ _ _ => FF)
      (with_reducible rename (∀ p ∈ (_ :: _), @LT.lt Nat _ _ _) => hLt)
      have hcr9 := hT2 _ _ FF (fun q hq => NF q (List.mem_of_mem_drop (i := 8) (hTX _ hq)))
      refine hQ _ _ _ _ (fun b o e hb => FF.keep b o (hG0 b o e hb)) ⟨rfl, _, _, _, _, _, c2, _, _, _, ss, fresh_of hG0 NF (.head _) (allNe_of fun q hq => Nat.ne_of_lt (Nat.lt_trans (hlz q.1 (List.mem_map_of_mem (f := fun q : Addr × Obj => q.1) hq)) (Nat.lt_of_succ_lt (hLt (Lf + 1, o2) (List.mem_of_mem_drop (i := 7) hmL))))), hP2, hW2, hcr9, ?fr9, (NF _ (.head _)).1, List.forall_mem_cons.mpr ⟨(NF _ (List.mem_of_getElem? (i := 3) rfl)).1, List.forall_mem_cons.mpr ⟨(NF _ (List.mem_of_getElem? (i := 4) rfl)).1, List.forall_mem_cons.mpr ⟨(NF _ (List.mem_of_getElem? (i := 5) rfl)).1, List.forall_mem_cons.mpr ⟨(NF _ (List.mem_of_getElem? (i := 6) rfl)).1, List.forall_mem_cons.mpr ⟨(NF _ (List.mem_of_mem_drop (i := 8) hmA)).1, List.forall_mem_cons.mpr ⟨(NF _ (List.mem_of_mem_drop (i := 8) hmS)).1, List.forall_mem_cons.mpr ⟨(NF _ (List.mem_of_mem_drop (i := 8) hm1)).1, List.forall_mem_cons.mpr ⟨(NF _ (List.mem_of_mem_drop (i := 8) hm2)).1, List.forall_mem_cons.mpr ⟨(NF _ (List.mem_of_mem_drop (i := 8) hm0)).1, List.forall_mem_cons.mpr ⟨(NF _ (List.mem_of_mem_drop (i := 8) hmx)).1, List.forall_mem_cons.mpr ⟨(NF _ (List.mem_of_getElem? (i := 7) rfl)).1, List.forall_mem_nil _⟩⟩⟩⟩⟩⟩⟩⟩⟩⟩⟩⟩
      case fr9 =>
        rcases hT5 with h5 | ⟨⟨oc5, h5⟩, h6⟩
        · exact .inl h5
        · exact .inr (fresh_of hG0 NF (l := c2) (o := oc5) (List.mem_of_mem_drop (i := 8) (hTX _ h5)) (allNe_of fun q hq => h6 q.1 (List.mem_map_of_mem (f := fun q : Addr × Obj => q.1) hq)))
end Hc_start
theorem c_start {prog : Program} {w : World} (x d e1 e2 t0 wl ad m0 m1 : Addr) (S : WSt) (n1 n2 n3 nt nw np nn : Nat) (u u' ts : Tok) (tb : Array Value) (oD : Obj) (kvs : List (Str × Value)) (its0 its : List (Str × Str)) (hOD : oD.IsDictOf (PySem.strKind prog w) kvs) (hKI : KvIs kvs its0) (h08 : its0.length ≤ 8) (hn0 : (its0.map (·.1)).Nodup) (hi1 : 2 ≤ its.length) (hi8 : its.length ≤ 8) (hadm : (ad == sysModules) = false) (hknd : (Str.ofString "s" :: its.map (·.1)).Nodup) (hnb : ∀ p ∈ its, NoBr p.1 ∧ 1 ≤ p.1.length ∧ (Txt.slice p.1 none (some 1) == "{") = false) (hwd : ∀ p ∈ its, OpW p.2) (hnl : ∀ p ∈ its, p.1.length ≤ 40) : MCall prog w 151 [.ref x, .str "s" ts, .ref ad, .ref e2] 8 100 ((ad, oD) :: subS w x d e1 e2 t0 wl S n1 n2 n3 nt nw np nn u u' [] [.bool false] [.ref m0, .ref m1] tb) (fun h₀ H => CodeHd h₀ 150 148 ∧ LamTab H [ad, wl, S.ps, S.nst, 148, S.a, S.dst, e1, e2, t0, x, d] tb ∧ ExOk prog w H [ad, wl, S.ps, S.nst, 148, S.a, S.dst, e1, e2, t0, x, d] S.ex its0 its ∧ ([ad, wl, S.ps, S.nst, 148, S.a, S.dst, e1, e2, t0, x, d] : List Nat).Nodup) (StartOut w tb x d e1 e2 t0 wl m0 m1 S n1 n2 n3 nt u u' its) := fun p loose mean mg mb dp un gd cn cs a ccd cl outer A₀ base h₀ L m s Q E => hen Hc_start.hSt Hc_start.hNe (by with_unfolding_all exact Hc_start.hMain) (prog, w, x, d, e1, e2, t0, wl, ad, m0, m1, n1, n2, n3, nt, nw, np, nn, u, u', ts, oD, kvs, p, loose, mean, mg, mb, dp, un, gd, cn, cs, a, ccd, cl, outer, A₀, base, h₀, L, m, s, Q, E) S tb its0 its hOD hKI h08 hn0 hi1 hi8 hadm hknd hnb hwd hnl
end
end
-- FnI
section
noncomputable abbrev initM (Sa x : Addr) (lo : Value) : Str → Option Value := fun y => List.lookup y [(PySem.Str.ofString "exclude_tags", Value.none), ("exclude_attrs", lo), ("qname_aware_attrs", Value.none), ("qname_aware_tags", Value.none), ("rewrite_prefixes", Value.bool false), ("strip_text", Value.bool false), ("with_comments", Value.bool false), ("write", Value.ref Sa), ("self", Value.ref x)]
/-- the place after the exclusions are told -/
inductive ExAt (prog : Program) (w : World) (g : Heap) (Lf Sa l x d : Addr) (m : Str → Option Value) (its0 its : List (Str × Str)) (news : List (Addr × Obj)) (gs : Array GenState) (os : OsState) : Shared → Prop
  | mk (h : Heap) (tk : Nat) (dr : Drawn) (ex : Value) (tl : List (Addr × Obj)) (q0 q1 q2 q3 q4 : Tok) (F : Fr g Lf h m)
    (N : News g Lf h ((l, W.listOf #[] 0) :: (x, instObj 175 d) :: (d, dictOf [wEnt w "_write" q0 (.ref Sa), wEnt w "_data" q1 (.ref l), wEnt w "_with_comments" q2 (.bool false), wEnt w "_strip_text" q3 (.bool false), wEnt w "_exclude_attrs" q4 ex] 5) :: (tl ++ news)))
    (T : ExTl prog w tl ex its0 its) (nd : NdL [l, x, d] (tl ++ news)) (ap : ∀ p ∈ tl, ∀ q ∈ news, @Ne Nat q.1 p.1) : ExAt prog w g Lf Sa l x d m its0 its news gs os ⟨h, gs, dr, tk, os⟩
/-- what the making of a writer leaves -/
inductive NewOut (prog : Program) (w : World) (Sa x : Addr) (its0 its : List (Str × Str)) (news : List (Addr × Obj)) : List (Addr × Obj) → Prop
  | mk (ex : Value) (tl : List (Addr × Obj)) (d dl dst nst pm ps m0 m1 e1 t0 : Addr) (q0 q1 q2 q3 q4 q5 q6 q7 q8 q9 q10 q11 q12 q13 q14 q15 q16 qi u u' : Tok) (nn : Nat) (T : ExTl prog w tl ex its0 its) (nd : NdL [ps, nst, dst, e1, t0, dl, x, d] (tl ++ news)) (ap : ∀ p ∈ tl, ∀ q ∈ news, @Ne Nat q.1 p.1) :
    NewOut prog w Sa x its0 its news ((ps, W.listOf #[.bool false] 0) :: (nst, W.listOf #[.ref m0, .ref m1] nn) :: (dst, W.listOf #[.ref e1] 0) :: (e1, W.listOf #[.ref t0] 0) :: (t0, { cls := .type "tuple", data := .seq #[.str "http://www.w3.org/XML/1998/namespace" u, .str "xml" u'] 0 }) :: (dl, W.listOf #[] 0) :: (x, instObj 175 d) ::
      (d, dictOf [wEnt w "_write" q0 (.ref Sa), wEnt w "_data" q1 (.ref dl), wEnt w "_with_comments" q2 (.bool false), wEnt w "_strip_text" q3 (.bool false), wEnt w "_exclude_attrs" q4 ex, wEnt w "_exclude_tags" q5 .none, wEnt w "_rewrite_prefixes" q6 (.bool false), wEnt w "_qname_aware_tags" q7 .none, wEnt w "_find_qname_aware_attrs" q8 .none, wEnt w "_declared_ns_stack" q9 (.ref dst), wEnt w "_ns_stack" q10 (.ref nst), wEnt w "_prefix_map" q11 (.ref pm), wEnt w "_preserve_space" q12 (.ref ps), wEnt w "_pending_start" q13 .none, wEnt w "_root_seen" q14 (.bool false), wEnt w "_root_done" q15 (.bool false), wEnt w "_ignored_depth" q16 (.int 0 qi)] 17) :: (tl ++ news))
section
theorem rowsFnI0 : True := by
  k_with_none
  k_with "hcOn" => skip
  k_with "hcN" => (first | exact ⟨default⟩ | exact ⟨{}⟩ | exact ⟨Mine.w0⟩ | exact ⟨[]⟩ | exact ⟨⟨default, default, default, default⟩⟩ | (refine Nonempty.intro ?_; constructor <;> first | exact default | exact {} | exact [] | exact #[]))
  k_with "hcI" => (refine (Mine.hc_all ?_ ((?_ : Mine.AllOf _) _) : Mine.AllOf _); k_extra "hcN")
  k_with "hcI2" => (((fail_if_success (fail_if_success (with_reducible refine (?_ : Mine.AllP2 _)))); refine (Mine.hc_all2 ?_ ?_ ((?_ : Mine.AllP2 _) _ _) : Mine.AllP2 _); k_extra "hcN"; k_extra "hcN"))
  k_with "hcI3" => (((fail_if_success (fail_if_success (with_reducible refine (?_ : Mine.AllP3 _)))); refine (Mine.hc_all3 ?_ ?_ ?_ ((?_ : Mine.AllP3 _) _ _ _) : Mine.AllP3 _); k_extra "hcN"; k_extra "hcN"; k_extra "hcN"))
  k_with "hcI4" => (((fail_if_success (fail_if_success (with_reducible refine (?_ : Mine.AllP4 _)))); refine (Mine.hc_all4 ?_ ?_ ?_ ?_ ((?_ : Mine.AllP4 _) _ _ _ _) : Mine.AllP4 _); k_extra "hcN"; k_extra "hcN"; k_extra "hcN"; k_extra "hcN"))
  k_with "hcX" => (first | (refine ((?_ : Mine.AndK hN _) (And.left hN) (And.right hN))) | (refine ((?_ : Mine.ExK hN _) _ (Mine.hc_ex ?_ hN)); rotate_left; k_extra "hcN") | (refine ((?_ : Mine.ExK hN _) default (Mine.hc_ex ?_ hN)); rotate_left; k_extra "hcN"))
  k_with "hcC" => (refine (Mine.pf hN).casesOn ?_; clear hN)
  k_with "k_fold" => skip
  k_with "k_upd" => (refine' upd_of (by assumption) (by rfl) (by rfl) (by (repeat (first | exact UpdR.head | apply UpdR.tail))))
  k_with "k_updF" => (refine' updF_of (by assumption) (by rfl) (by rfl) (by (repeat (first | exact UpdS.head | apply UpdS.tail))))
  k_with "k_lt" => ((with_reducible rename NdL _ _ => hNd0); first | replace hNd0 := nd_cons hNd0 rfl rfl hLt9 | replace hNd0 := nd_ne hNd0 rfl rfl hLt9 | replace hNd0 := nd_allNe hNd0 rfl rfl hLt9)
  k_with "k_lt2" => ((with_reducible rename NdL _ _ => hNd0); replace hNd0 := nd_x hNd0 rfl rfl (by assumption) hLt9)
  k_with "setAttr ref" => (k_here; k_dflt (refine' set_dict (by k_asm) (by k_asm) (by k_asm) (by k_inst) rfl (by k_is) (by k_is) (by k_is) (by k_is) (by k_get) (by k_put) (by k_upd) (Nat.le_of_ble_eq_true rfl) ?_); intro _ _ rwNq; (try dsimp only at rwNq); (try k_sweep))
  k_with "getAttr ref" => (k_here; (with_reducible show wpAny _ _ (getAttr (Value.ref _) (PySem.Str.ofString "append") true) _ _ _); k_dflt (refine' getAttr_append (by k_asm) (by k_asm) (by k_mem) ?_); intro _ _ _ _ rwl1; (try k_lt rwl1); (try k_sweep))
  k_with "callWith ref" => (k_here; k_dflt (refine' callWith_bapp (by k_asm) (by k_mem) ?_))
  k_with "And" => ((with_reducible show BoundAt _ _ _ ∧ _); refine ⟨by k_dflt (exact News.get (by k_asm) (by k_mem)), ?_⟩; (try dsimp only [List.nil_append, List.cons_append]))
  k_with "call ref" => (k_here; k_dflt (refine' call_bapp (by k_asm) (by k_asm) (by k_mem) (by k_upd) ?_ (by size_fits)); intro _ _ _; (try k_sweep))
  k_with "getMethod ref" => (k_here; (with_reducible show wpAny _ _ (getMethod (Value.ref 69) _ _) _ _ _); k_dflt (refine' meth69 (by k_in) ?_; k_whole))
  k_with "call builtin:dict.items" => (k_here; (with_reducible show wpAny _ _ (call _ [Value.ref 69]) _ _ _); k_dflt (refine' items69K (by k_asm) (by k_asm) (by k_asm) ?_; k_whole); intro _ _ _ _ rwl1; (try k_lt rwl1); (try k_sweep))
  k_with "call type:list" => (k_here; k_dflt (refine' list69K (by exact rfl) (by k_asm) (by k_asm) (by k_asm) (by k_mem) ?_; k_whole); intro _ _ _ _ _; (try k_sweep))
  k_with "truthy ref" => (k_here; k_dflt (refine' truthy_base (by k_asm) (by k_asm) (by assumption) (by assumption) (by assumption) ?_; k_whole); intro _)
  k_with "call type:set" => (k_here; k_dflt (refine' set_strs_led (by exact rfl) (by k_asm) (by k_asm) (by exact list_base (by k_asm) (by k_asm) (by assumption)) (by assumption) (by assumption) (by assumption) ?_; k_whole); intro _ _ _ _ _ _ _ rwl1; (try k_lt rwl1); (try k_sweep))
  trivial
theorem rowsMFnI1 : True := by
  k_with "k_all" => assumption
  trivial
theorem rowsFnI1 : True := by
  k_with "exec Assign" => (k_here; (fail_if_success (have hX : Halt2 := by assumption)); (with_reducible show wpAny _ _ (exec (Stmt.Assign [Expr.Attribute _ (PySem.Str.ofString "_exclude_attrs") _] _ _) _) _ _ _); refine Stop.mk ?_)
  trivial
namespace Hc_new
noncomputable abbrev hTy := Program × World × Program × List Str × (ExcName → Option Value) × (Str → Option Value) × (Str → Option Value) × Nat × Nat × Option (List Code) × Str × (List (Str × NameKind)) × Bool × Bool × Addr × Value × (List (Str × Addr)) × List Env × Around × Heap × Heap × Addr × (Str → Option Value) × Shared × (Value → Shared → Prop) × (Value → Shared → Prop) × (List (Addr × Obj)) × Addr
noncomputable def hSt (c : hTy) : Prop := (fun (prog : Program) (w : World) (p : Program) (loose : List Str) (mean : ExcName → Option Value) (mg : Str → Option Value) (mb : Str → Option Value) (dp : Nat) (un : Nat) (gd : Option (List Code)) (cn : Str) (nms : List (Str × NameKind)) (ig : Bool) (ic : Bool) (a : Addr) (ccd : Value) (cl : List (Str × Addr)) (outer : List Env) (A₀ : Around) (base : Heap) (h₀ : Heap) (L : Addr) (m : Str → Option Value) (s : Shared) (Q : Value → Shared → Prop) (E : Value → Shared → Prop) (news : List (Addr × Obj)) (Sa : Addr) => ∀ (mo : _) (lo : Value) (its0 : List (Str × Str)) (its : List (Str × Str)) (B : Below A₀ base outer h₀) (F : Fr h₀ L s.heap m) (X : (hd.heap_39 w.params).In h₀) (N : News h₀ L s.heap news) (T : Top p loose mean mg mb h₀) (hd : dp + 12 < recursionLimit) (hu : un + 190 < cLine) (hlo : LoOk h₀ lo its0 its) (hQ : ∀ x led h' tk' d', Fr h₀ L h' m → News h₀ L h' led → NewOut prog w Sa x its0 its news led → Q (.ref x) ⟨h', s.gens, d', tk', s.os⟩), (wpAny (model prog w) (ktrTop dp un gd cn { kind := .function, names := nms, isGenerator := ig, isCoroutine := ic, more := mo } L a ccd cl outer) (call (.ref 175) [.ref Sa] [(PySem.Str.ofString "exclude_attrs", lo)]) Q E s : Prop)) c.1 c.2.1 c.2.2.1 c.2.2.2.1 c.2.2.2.2.1 c.2.2.2.2.2.1 c.2.2.2.2.2.2.1 c.2.2.2.2.2.2.2.1 c.2.2.2.2.2.2.2.2.1 c.2.2.2.2.2.2.2.2.2.1 c.2.2.2.2.2.2.2.2.2.2.1 c.2.2.2.2.2.2.2.2.2.2.2.1 c.2.2.2.2.2.2.2.2.2.2.2.2.1 c.2.2.2.2.2.2.2.2.2.2.2.2.2.1 c.2.2.2.2.2.2.2.2.2.2.2.2.2.2.1 c.2.2.2.2.2.2.2.2.2.2.2.2.2.2.2.1 c.2.2.2.2.2.2.2.2.2.2.2.2.2.2.2.2.1 c.2.2.2.2.2.2.2.2.2.2.2.2.2.2.2.2.2.1 c.2.2.2.2.2.2.2.2.2.2.2.2.2.2.2.2.2.2.1 c.2.2.2.2.2.2.2.2.2.2.2.2.2.2.2.2.2.2.2.1 c.2.2.2.2.2.2.2.2.2.2.2.2.2.2.2.2.2.2.2.2.1 c.2.2.2.2.2.2.2.2.2.2.2.2.2.2.2.2.2.2.2.2.2.1 c.2.2.2.2.2.2.2.2.2.2.2.2.2.2.2.2.2.2.2.2.2.2.1 c.2.2.2.2.2.2.2.2.2.2.2.2.2.2.2.2.2.2.2.2.2.2.2.1 c.2.2.2.2.2.2.2.2.2.2.2.2.2.2.2.2.2.2.2.2.2.2.2.2.1 c.2.2.2.2.2.2.2.2.2.2.2.2.2.2.2.2.2.2.2.2.2.2.2.2.2.1 c.2.2.2.2.2.2.2.2.2.2.2.2.2.2.2.2.2.2.2.2.2.2.2.2.2.2.1 c.2.2.2.2.2.2.2.2.2.2.2.2.2.2.2.2.2.2.2.2.2.2.2.2.2.2.2
theorem hNe : Nonempty hTy := ⟨default, w0, default, [], (fun _ => none), (fun _ => none), (fun _ => none), 0, 0, none, Str.empty, [], false, false, (0 : Nat), default, [], [], {}, default, default, (0 : Nat), (fun _ => none), {}, (fun _ => (fun _ => False)), (fun _ => (fun _ => False)), [], (0 : Nat)⟩
noncomputable def hCc : hTy := @Classical.epsilon hTy hNe fun x => ¬ hSt x
@[irreducible] noncomputable def prog : Program := hCc.1
@[irreducible] noncomputable def w : World := hCc.2.1
@[irreducible] noncomputable def p : Program := hCc.2.2.1
@[irreducible] noncomputable def loose : List Str := hCc.2.2.2.1
@[irreducible] noncomputable def mean : ExcName → Option Value := hCc.2.2.2.2.1
@[irreducible] noncomputable def mg : Str → Option Value := hCc.2.2.2.2.2.1
@[irreducible] noncomputable def mb : Str → Option Value := hCc.2.2.2.2.2.2.1
@[irreducible] noncomputable def dp : Nat := hCc.2.2.2.2.2.2.2.1
@[irreducible] noncomputable def un : Nat := hCc.2.2.2.2.2.2.2.2.1
@[irreducible] noncomputable def gd : Option (List Code) := hCc.2.2.2.2.2.2.2.2.2.1
@[irreducible] noncomputable def cn : Str := hCc.2.2.2.2.2.2.2.2.2.2.1
@[irreducible] noncomputable def nms : List (Str × NameKind) := hCc.2.2.2.2.2.2.2.2.2.2.2.1
@[irreducible] noncomputable def ig : Bool := hCc.2.2.2.2.2.2.2.2.2.2.2.2.1
@[irreducible] noncomputable def ic : Bool := hCc.2.2.2.2.2.2.2.2.2.2.2.2.2.1
@[irreducible] noncomputable def a : Addr := hCc.2.2.2.2.2.2.2.2.2.2.2.2.2.2.1
@[irreducible] noncomputable def ccd : Value := hCc.2.2.2.2.2.2.2.2.2.2.2.2.2.2.2.1
@[irreducible] noncomputable def cl : List (Str × Addr) := hCc.2.2.2.2.2.2.2.2.2.2.2.2.2.2.2.2.1
@[irreducible] noncomputable def outer : List Env := hCc.2.2.2.2.2.2.2.2.2.2.2.2.2.2.2.2.2.1
@[irreducible] noncomputable def A₀ : Around := hCc.2.2.2.2.2.2.2.2.2.2.2.2.2.2.2.2.2.2.1
@[irreducible] noncomputable def base : Heap := hCc.2.2.2.2.2.2.2.2.2.2.2.2.2.2.2.2.2.2.2.1
@[irreducible] noncomputable def h₀ : Heap := hCc.2.2.2.2.2.2.2.2.2.2.2.2.2.2.2.2.2.2.2.2.1
@[irreducible] noncomputable def L : Addr := hCc.2.2.2.2.2.2.2.2.2.2.2.2.2.2.2.2.2.2.2.2.2.1
@[irreducible] noncomputable def m : Str → Option Value := hCc.2.2.2.2.2.2.2.2.2.2.2.2.2.2.2.2.2.2.2.2.2.2.1
@[irreducible] noncomputable def s : Shared := hCc.2.2.2.2.2.2.2.2.2.2.2.2.2.2.2.2.2.2.2.2.2.2.2.1
@[irreducible] noncomputable def Q : Value → Shared → Prop := hCc.2.2.2.2.2.2.2.2.2.2.2.2.2.2.2.2.2.2.2.2.2.2.2.2.1
@[irreducible] noncomputable def E : Value → Shared → Prop := hCc.2.2.2.2.2.2.2.2.2.2.2.2.2.2.2.2.2.2.2.2.2.2.2.2.2.1
@[irreducible] noncomputable def news : List (Addr × Obj) := hCc.2.2.2.2.2.2.2.2.2.2.2.2.2.2.2.2.2.2.2.2.2.2.2.2.2.2.1
@[irreducible] noncomputable def Sa : Addr := hCc.2.2.2.2.2.2.2.2.2.2.2.2.2.2.2.2.2.2.2.2.2.2.2.2.2.2.2
set_option maxRecDepth 100000 in
set_option maxHeartbeats 20000000 in
theorem hMain : ∀ (mo : _) (lo : Value) (its0 : List (Str × Str)) (its : List (Str × Str)) (B : Below A₀ base outer h₀) (F : Fr h₀ L s.heap m) (X : (hd.heap_39 w.params).In h₀) (N : News h₀ L s.heap news) (T : Top p loose mean mg mb h₀) (hd : dp + 12 < recursionLimit) (hu : un + 190 < cLine) (hlo : LoOk h₀ lo its0 its) (hQ : ∀ x led h' tk' d', Fr h₀ L h' m → News h₀ L h' led → NewOut prog w Sa x its0 its news led → Q (.ref x) ⟨h', s.gens, d', tk', s.os⟩), wpAny (model prog w) (ktrTop dp un gd cn { kind := .function, names := nms, isGenerator := ig, isCoroutine := ic, more := mo } L a ccd cl outer) (call (.ref 175) [.ref Sa] [(PySem.Str.ofString "exclude_attrs", lo)]) Q E s := by
  intro mo lo its0 its B F X N T hd hu hlo hQ
  have hND : NdL [] news := nd_nil
  k_dflt (refine' call_cls ?k1 ?k2 ?k3 ?k4 ?k5 ?k6 ?_; (case k1 => k_asm); (case k2 => k_asm); (case k3 => k_asm); (case k4 => k_is); (case k5 => k_is); (case k6 => k_is); k_whole; intro x d h1 F1 N1 l1 l2; (try k_lt l1); (try k_lt2 l2); clear l1 l2; (try k_sweep); k_enter)
  rename_i hND1 g' Lf hf FG Ff Nf Bf Xf Tf
  generalize s.toks + List.length _ = tk0
  replace Ff : Fr g' Lf hf (initM Sa x lo) := Ff
  k_steps
  rename_i hA ld hB l1x hND2 hC hD h3 F3
  unfold Stop
  refine wpAny_mono (Q := fun f s1 => f = Flow.next ∧ ExAt prog w g' Lf Sa ld x d (initM Sa x lo) its0 its news s.gens s.os s1) ?_ ?_ (fun _ _ y => y)
  · rcases hlo with ⟨rfl, rfl⟩ | ⟨ll, vsm, ms, rfl, hll, hms, hmn, hm1, hm20, hlln, rfl⟩
    · have hX : Halt2 := ⟨trivial⟩
      k_steps
      (with_reducible rename News g' _ _ _ => N9)
      (with_reducible rename Fr g' _ _ _ => F9)
      exact .mk _ _ _ .none [] _ _ _ _ _ F9 N9 ⟨fun H adr _ _ => .inl ⟨rfl, rfl⟩⟩ hND2 (fun p hp => by cases hp)
    · have hX : Halt2 := ⟨trivial⟩
      have hv1 : 1 ≤ vsm.length := by rw [hms.length]; exact hm1
      have hv2 : vsm.length ≤ 1000 := by rw [hms.length]; omega
      k_steps
      all_goals (try trivial)
      (with_reducible rename News g' _ _ _ => N9)
      (with_reducible rename Fr g' _ _ _ => F9)
      (with_reducible rename NdL _ _ => hNd9)
      (with_reducible rename (∀ p ∈ (_ :: _ :: _ :: _), @LT.lt Nat _ _ _) => hLt)
      (with_reducible rename ∀ h2 : Heap, h2.get? _ = some _ → SetUp _ _ h2 _ _ => hSY)
      exact .mk _ _ _ (.ref _) [(_, _)] _ _ _ _ _ F9 (news_cons (N9 _ (List.mem_of_getElem? (i := 1) rfl)) (news_cons (N9 _ (List.mem_of_getElem? (i := 2) rfl)) (news_cons (N9 _ (List.mem_of_getElem? (i := 3) rfl)) (news_cons (N9 _ (.head _)) (fun q hq => N9 q (List.mem_of_mem_drop (i := 4) hq)))))) ⟨fun H adr h1 h2 => .inr ⟨_, ms, rfl, hSY H (h1 _ (.head _)), hm20, h2 _ (.head _), rfl⟩⟩ (nd_push hNd9) (fun p hp q hq => by rw [List.mem_singleton.mp hp]; exact Nat.ne_of_lt (hLt q (List.mem_of_mem_drop (i := 3) hq)))
  · rintro f s₂ ⟨rfl, ⟨h4, tk4, dr4, ex, tl, q0, q1, q2, q3, q4, F4, N4, hT, hND4, hap⟩⟩
    clear rwNq F3 hND2
    k_steps
    (with_reducible rename NdL _ _ => hNd9)
    (with_reducible rename Fr h₀ _ _ _ => kF)
    (with_reducible rename News h₀ _ _ _ => kN)
    exact hQ x _ _ _ _ kF (news_cons (kN _ (List.mem_of_getElem? (i := 0) rfl)) (news_cons (kN _ (List.mem_of_getElem? (i := 4) rfl)) (news_cons (kN _ (List.mem_of_getElem? (i := 5) rfl)) (news_cons (kN _ (List.mem_of_getElem? (i := 6) rfl)) (news_cons (kN _ (List.mem_of_getElem? (i := 7) rfl)) (news_cons (kN _ (List.mem_of_getElem? (i := 8) rfl)) (news_cons (kN _ (List.mem_of_getElem? (i := 9) rfl)) (news_cons (kN _ (List.mem_of_getElem? (i := 10) rfl)) (fun q hq => kN q (List.mem_of_mem_drop (i := 11) hq)))))))))) (.mk ex tl d ld _ _ _ _ _ _ _ _ _ _ _ _ _ _ _ _ _ _ _ _ _ _ _ _ _ _ _ _ _ hT (hNd9.pick [0, 4, 5, 6, 7, 8, 9, 10] (by decide) rfl) hap)
end Hc_new
theorem c_new {prog : Program} {w : World} {p : Program} {loose : List Str} {mean : ExcName → Option Value} {mg mb : Str → Option Value} {dp un : Nat} {gd : Option (List Code)} {cn : Str} {nms : List (Str × NameKind)} {ig ic : Bool} {mo : _} {a : Addr} {ccd : Value} {cl : List (Str × Addr)} {outer : List Env} {A₀ : Around} {base h₀ : Heap} {L : Addr} {m : Str → Option Value} {s : Shared} {Q E : Value → Shared → Prop} {news : List (Addr × Obj)} (Sa : Addr) (lo : Value) (its0 its : List (Str × Str)) (B : Below A₀ base outer h₀) (F : Fr h₀ L s.heap m) (X : (hd.heap_39 w.params).In h₀) (N : News h₀ L s.heap news) (T : Top p loose mean mg mb h₀) (hd : dp + 12 < recursionLimit) (hu : un + 190 < cLine) (hlo : LoOk h₀ lo its0 its) (hQ : ∀ x led h' tk' d', Fr h₀ L h' m → News h₀ L h' led → NewOut prog w Sa x its0 its news led → Q (.ref x) ⟨h', s.gens, d', tk', s.os⟩) : wpAny (model prog w) (ktrTop dp un gd cn { kind := .function, names := nms, isGenerator := ig, isCoroutine := ic, more := mo } L a ccd cl outer) (call (.ref 175) [.ref Sa] [(PySem.Str.ofString "exclude_attrs", lo)]) Q E s := hen Hc_new.hSt Hc_new.hNe (by with_unfolding_all exact Hc_new.hMain) (prog, w, p, loose, mean, mg, mb, dp, un, gd, cn, nms, ig, ic, a, ccd, cl, outer, A₀, base, h₀, L, m, s, Q, E, news, Sa) mo lo its0 its B F X N T hd hu hlo hQ
end
end
-- FnW
section
theorem lam_up {s g h : Heap} {tb : Array Value} (hT : LamTab s [148] tb) (G : GSub s g [148]) (st : g.StaysIn h) {adr : List Nat} (ha : ∀ q ∈ adr, g.get? q = none) : LamTab h adr tb := by
  rcases hT with rfl | ⟨c', rfl, ⟨c, oc, vs, t, e, h1, h2, h3⟩, hn⟩
  · exact .inl rfl
  · cases e
    have hg := G _ _ h1 hn
    refine .inr ⟨_, rfl, ⟨_, oc, vs, t, rfl, st _ _ hg, h2, h3⟩, ?_⟩
    intro hm
    have := ha _ hm
    rw [hg] at this; cases this
/-- the code of the lambda, told by a ledger -/
theorem lam_tail {s g g2 h H : Heap} {L2 : Addr} {m : Str → Option Value} {tb : Array Value} {c9 : Addr} (hT : LamTab s [148] tb) (G : GSub s g [148]) (st : g.StaysIn g2) (F : Fr g2 L2 H m) (st9 : ∀ b o, g2.get? b = some o → h.get? b = some o)
    (hc : h.CodeRec (.ref c9) "C14NWriterTarget._start.<locals>.<lambda>") (hf : tb = #[rawInt 246, rawInt 71, .ref c9] ∨ H.get? c9 = none) :
    ∃ tx : List (Addr × Obj), News g2 L2 h tx ∧ (∀ q ∈ tx, H.get? q.1 = none) ∧ ∀ h', g.StaysIn h' → (∀ q ∈ tx, h'.get? q.1 = some q.2) → h'.CodeRec (.ref c9) "C14NWriterTarget._start.<locals>.<lambda>" := by
  rcases hf with rfl | hn
  · refine ⟨[], News.nil, (fun q hq => by cases hq), ?_⟩
    intro h' k _
    rcases hT with e | ⟨c', e, ⟨c, oc, vs, t, e', h1, h2, h3⟩, hn⟩
    · simp at e
    · cases e'
      have : c9 = c' := by simpa using e
      subst this
      exact ⟨_, oc, vs, t, rfl, k _ _ (G _ _ h1 hn), h2, h3⟩
  · obtain ⟨c, oc, vs, t, e', h1, h2, h3⟩ := hc
    cases e'
    obtain ⟨oL, _, _, hoL, _⟩ := F.ns
    refine ⟨[(c9, oc)], fun q hq => ?_, fun q hq => ?_, fun h' _ k => ⟨_, oc, vs, t, rfl, k _ (.head _), h2, h3⟩⟩
    · rw [List.mem_singleton.mp hq]
      refine ⟨h1, fun e => ?_, ?_⟩
      · dsimp only at e; rw [← e, hn] at hoL; cases hoL
      · cases e : g2.get? c9 with
        | none => rfl
        | some o => have := F.keep _ _ e; rw [hn] at this; cases this
    · rw [List.mem_singleton.mp hq]; exact hn
theorem lo_at {H g : Heap} {lo : Value} {its0 its : List (Str × Str)} (h : LoOk H lo its0 its) (k : ∀ b o, H.get? b = some o → @Ne Nat b 148 → g.get? b = some o) : LoOk g lo its0 its := by
  rcases h with h | ⟨ll, vsm, ms, h1, h2, h3, h4, h5, h6, h7, h8⟩
  · exact .inl h
  · exact .inr ⟨ll, vsm, ms, h1, h2.at fun o e => k _ _ e h7, h3, h4, h5, h6, h7, h8⟩
section
theorem rowsFnW0 : True := by
  k_with_none
  k_with "hcOn" => skip
  k_with "hcN" => (first | exact ⟨default⟩ | exact ⟨{}⟩ | exact ⟨Mine.w0⟩ | exact ⟨[]⟩ | exact ⟨⟨default, default, default, default⟩⟩ | (refine Nonempty.intro ?_; constructor <;> first | exact default | exact {} | exact [] | exact #[]))
  k_with "hcI" => (refine (Mine.hc_all ?_ ((?_ : Mine.AllOf _) _) : Mine.AllOf _); k_extra "hcN")
  k_with "hcI2" => (((fail_if_success (fail_if_success (with_reducible refine (?_ : Mine.AllP2 _)))); refine (Mine.hc_all2 ?_ ?_ ((?_ : Mine.AllP2 _) _ _) : Mine.AllP2 _); k_extra "hcN"; k_extra "hcN"))
  k_with "hcI3" => (((fail_if_success (fail_if_success (with_reducible refine (?_ : Mine.AllP3 _)))); refine (Mine.hc_all3 ?_ ?_ ?_ ((?_ : Mine.AllP3 _) _ _ _) : Mine.AllP3 _); k_extra "hcN"; k_extra "hcN"; k_extra "hcN"))
  k_with "hcI4" => (((fail_if_success (fail_if_success (with_reducible refine (?_ : Mine.AllP4 _)))); refine (Mine.hc_all4 ?_ ?_ ?_ ?_ ((?_ : Mine.AllP4 _) _ _ _ _) : Mine.AllP4 _); k_extra "hcN"; k_extra "hcN"; k_extra "hcN"; k_extra "hcN"))
  k_with "hcX" => (first | (refine ((?_ : Mine.AndK hN _) (And.left hN) (And.right hN))) | (refine ((?_ : Mine.ExK hN _) _ (Mine.hc_ex ?_ hN)); rotate_left; k_extra "hcN") | (refine ((?_ : Mine.ExK hN _) default (Mine.hc_ex ?_ hN)); rotate_left; k_extra "hcN"))
  k_with "hcC" => (refine (Mine.pf hN).casesOn ?_; clear hN)
  k_with "k_fold" => skip
  k_with "k_upd" => (refine' upd_of (by assumption) (by rfl) (by rfl) (by (repeat (first | exact UpdR.head | apply UpdR.tail))))
  k_with "k_updF" => (refine' updF_of (by assumption) (by rfl) (by rfl) (by (repeat (first | exact UpdS.head | apply UpdS.tail))))
  k_with "k_lt" => ((with_reducible rename NdL _ _ => hNd0); first | replace hNd0 := nd_cons hNd0 rfl rfl hLt9 | replace hNd0 := nd_ne hNd0 rfl rfl hLt9 | replace hNd0 := nd_allNe hNd0 rfl rfl hLt9)
  k_with "k_lt2" => ((with_reducible rename NdL _ _ => hNd0); replace hNd0 := nd_x hNd0 rfl rfl (by assumption) hLt9)
  k_with "setAttr ref" => (k_here; k_dflt (refine' set_dict (by k_asm) (by k_asm) (by k_asm) (by k_inst) rfl (by k_is) (by k_is) (by k_is) (by k_is) (by k_get) (by k_put) (by k_upd) (Nat.le_of_ble_eq_true rfl) ?_); intro _ _ rwNq; (try dsimp only at rwNq); (try k_sweep))
  k_with "getAttr ref" => (k_here; (with_reducible show wpAny _ _ (getAttr (Value.ref _) (PySem.Str.ofString "append") true) _ _ _); k_dflt (refine' getAttr_append (by k_asm) (by k_asm) (by k_mem) ?_); intro _ _ _ _ rwl1; (try k_lt rwl1); (try k_sweep))
  k_with "callWith ref" => (k_here; k_dflt (refine' callWith_bapp (by k_asm) (by k_mem) ?_))
  k_with "And" => ((with_reducible show BoundAt _ _ _ ∧ _); refine ⟨by k_dflt (exact News.get (by k_asm) (by k_mem)), ?_⟩; (try dsimp only [List.nil_append, List.cons_append]))
  k_with "call ref" => (k_here; k_dflt (refine' call_bapp (by k_asm) (by k_asm) (by k_mem) (by k_upd) ?_ (by size_fits)); intro _ _ _; (try k_sweep))
  k_with "mine enterG" => (refine' code_defG (by k_asm) (by k_asm) (by k_asm) (by k_asm) (by k_asm) (by exact rfl) (by exact rfl) (by assumption) (by k_is) (by k_is) (by ktr_room) (by first | exact BindsTo.of_eq rfl | exact binds_K (by k_in) rfl (by k_is) rfl rfl rfl) (by exact locs rfl) ?_ (by exact rfl) (by exact rfl) (by exact rfl) (by decide); k_whole; intro _ _ _ _ _ _ _ _ _ _; (try dsimp only))
  k_with "call ref" => (k_here; (first | (with_reducible show wpAny _ _ (call (Value.ref 175) _ _) _ _ _) | (with_reducible show wpAny _ _ (call (Value.ref 151) _) _ _ _) | (with_reducible show wpAny _ _ (call (Value.ref 115) _) _ _ _)); refine Stop.mk ?_)
  trivial
theorem rowsMFnW1 : True := by
  k_with "k_all" => assumption
  trivial
theorem rowsFnW1 : True := by
  k_with "eval DictComp" => (k_here; refine Stop.mk ?_)
  trivial
namespace Hc_written
noncomputable abbrev hTy := Program × World × Addr × List Value × Array Value × Program × List Str × (ExcName → Option Value) × (Str → Option Value) × (Str → Option Value) × Nat × Nat × Option (List Code) × Str × Scope × Addr × Value × (List (Str × Addr)) × List Env × Around × Heap × Heap × Addr × (Str → Option Value) × Shared × (Value → Shared → Prop) × (Value → Shared → Prop)
noncomputable def hSt (c : hTy) : Prop := (fun (prog : Program) (w : World) (l : Addr) (vs : List Value) (tb : Array Value) (p : Program) (loose : List Str) (mean : ExcName → Option Value) (mg : Str → Option Value) (mb : Str → Option Value) (dp : Nat) (un : Nat) (gd : Option (List Code)) (cn : Str) (cs : Scope) (a : Addr) (ccd : Value) (cl : List (Str × Addr)) (outer : List Env) (A₀ : Around) (base : Heap) (h₀ : Heap) (L : Addr) (m : Str → Option Value) (s : Shared) (Q : Value → Shared → Prop) (E : Value → Shared → Prop) => ∀ (lo : Value) (its0 : List (Str × Str)) (its : List (Str × Str)) (h8 : its0.length ≤ 8) (hi1 : 2 ≤ its.length) (hknd0 : (Str.ofString "s" :: its0.map (·.1)).Nodup) (hnb0 : ∀ p ∈ its0, NoBr p.1 ∧ 1 ≤ p.1.length ∧ (Txt.slice p.1 none (some 1) == "{") = false) (hwd0 : ∀ p ∈ its0, OpW p.2) (hnl0 : ∀ p ∈ its0, p.1.length ≤ 40), (MCallAt p loose mean mg mb dp un gd cn cs a ccd cl outer A₀ base h₀ L m s Q E prog w 236 [.ref l, lo] 14 200 [(148, tabObj tb)] (fun h₀ H => CodeHd h₀ 150 148 ∧ LamTab H [148] tb ∧ LoOk H lo its0 its ∧ H.IsList l vs.toArray ∧ @Ne Nat l 148 ∧ TupsAt H vs its0) (WrittenOut its tb) : Prop)) c.1 c.2.1 c.2.2.1 c.2.2.2.1 c.2.2.2.2.1 c.2.2.2.2.2.1 c.2.2.2.2.2.2.1 c.2.2.2.2.2.2.2.1 c.2.2.2.2.2.2.2.2.1 c.2.2.2.2.2.2.2.2.2.1 c.2.2.2.2.2.2.2.2.2.2.1 c.2.2.2.2.2.2.2.2.2.2.2.1 c.2.2.2.2.2.2.2.2.2.2.2.2.1 c.2.2.2.2.2.2.2.2.2.2.2.2.2.1 c.2.2.2.2.2.2.2.2.2.2.2.2.2.2.1 c.2.2.2.2.2.2.2.2.2.2.2.2.2.2.2.1 c.2.2.2.2.2.2.2.2.2.2.2.2.2.2.2.2.1 c.2.2.2.2.2.2.2.2.2.2.2.2.2.2.2.2.2.1 c.2.2.2.2.2.2.2.2.2.2.2.2.2.2.2.2.2.2.1 c.2.2.2.2.2.2.2.2.2.2.2.2.2.2.2.2.2.2.2.1 c.2.2.2.2.2.2.2.2.2.2.2.2.2.2.2.2.2.2.2.2.1 c.2.2.2.2.2.2.2.2.2.2.2.2.2.2.2.2.2.2.2.2.2.1 c.2.2.2.2.2.2.2.2.2.2.2.2.2.2.2.2.2.2.2.2.2.2.1 c.2.2.2.2.2.2.2.2.2.2.2.2.2.2.2.2.2.2.2.2.2.2.2.1 c.2.2.2.2.2.2.2.2.2.2.2.2.2.2.2.2.2.2.2.2.2.2.2.2.1 c.2.2.2.2.2.2.2.2.2.2.2.2.2.2.2.2.2.2.2.2.2.2.2.2.2.1 c.2.2.2.2.2.2.2.2.2.2.2.2.2.2.2.2.2.2.2.2.2.2.2.2.2.2
theorem hNe : Nonempty hTy := ⟨default, w0, (0 : Nat), [], #[], default, [], (fun _ => none), (fun _ => none), (fun _ => none), 0, 0, none, Str.empty, default, (0 : Nat), default, [], [], {}, default, default, (0 : Nat), (fun _ => none), {}, (fun _ => (fun _ => False)), (fun _ => (fun _ => False))⟩
noncomputable def hCc : hTy := @Classical.epsilon hTy hNe fun x => ¬ hSt x
@[irreducible] noncomputable def prog : Program := hCc.1
@[irreducible] noncomputable def w : World := hCc.2.1
@[irreducible] noncomputable def l : Addr := hCc.2.2.1
@[irreducible] noncomputable def vs : List Value := hCc.2.2.2.1
@[irreducible] noncomputable def tb : Array Value := hCc.2.2.2.2.1
@[irreducible] noncomputable def p : Program := hCc.2.2.2.2.2.1
@[irreducible] noncomputable def loose : List Str := hCc.2.2.2.2.2.2.1
@[irreducible] noncomputable def mean : ExcName → Option Value := hCc.2.2.2.2.2.2.2.1
@[irreducible] noncomputable def mg : Str → Option Value := hCc.2.2.2.2.2.2.2.2.1
@[irreducible] noncomputable def mb : Str → Option Value := hCc.2.2.2.2.2.2.2.2.2.1
@[irreducible] noncomputable def dp : Nat := hCc.2.2.2.2.2.2.2.2.2.2.1
@[irreducible] noncomputable def un : Nat := hCc.2.2.2.2.2.2.2.2.2.2.2.1
@[irreducible] noncomputable def gd : Option (List Code) := hCc.2.2.2.2.2.2.2.2.2.2.2.2.1
@[irreducible] noncomputable def cn : Str := hCc.2.2.2.2.2.2.2.2.2.2.2.2.2.1
@[irreducible] noncomputable def cs : Scope := hCc.2.2.2.2.2.2.2.2.2.2.2.2.2.2.1
@[irreducible] noncomputable def a : Addr := hCc.2.2.2.2.2.2.2.2.2.2.2.2.2.2.2.1
@[irreducible] noncomputable def ccd : Value := hCc.2.2.2.2.2.2.2.2.2.2.2.2.2.2.2.2.1
@[irreducible] noncomputable def cl : List (Str × Addr) := hCc.2.2.2.2.2.2.2.2.2.2.2.2.2.2.2.2.2.1
@[irreducible] noncomputable def outer : List Env := hCc.2.2.2.2.2.2.2.2.2.2.2.2.2.2.2.2.2.2.1
@[irreducible] noncomputable def A₀ : Around := hCc.2.2.2.2.2.2.2.2.2.2.2.2.2.2.2.2.2.2.2.1
@[irreducible] noncomputable def base : Heap := hCc.2.2.2.2.2.2.2.2.2.2.2.2.2.2.2.2.2.2.2.2.1
@[irreducible] noncomputable def h₀ : Heap := hCc.2.2.2.2.2.2.2.2.2.2.2.2.2.2.2.2.2.2.2.2.2.1
@[irreducible] noncomputable def L : Addr := hCc.2.2.2.2.2.2.2.2.2.2.2.2.2.2.2.2.2.2.2.2.2.2.1
@[irreducible] noncomputable def m : Str → Option Value := hCc.2.2.2.2.2.2.2.2.2.2.2.2.2.2.2.2.2.2.2.2.2.2.2.1
@[irreducible] noncomputable def s : Shared := hCc.2.2.2.2.2.2.2.2.2.2.2.2.2.2.2.2.2.2.2.2.2.2.2.2.1
@[irreducible] noncomputable def Q : Value → Shared → Prop := hCc.2.2.2.2.2.2.2.2.2.2.2.2.2.2.2.2.2.2.2.2.2.2.2.2.2.1
@[irreducible] noncomputable def E : Value → Shared → Prop := hCc.2.2.2.2.2.2.2.2.2.2.2.2.2.2.2.2.2.2.2.2.2.2.2.2.2.2
set_option maxRecDepth 100000 in
set_option maxHeartbeats 20000000 in
theorem hMain : ∀ (lo : Value) (its0 : List (Str × Str)) (its : List (Str × Str)) (h8 : its0.length ≤ 8) (hi1 : 2 ≤ its.length) (hknd0 : (Str.ofString "s" :: its0.map (·.1)).Nodup) (hnb0 : ∀ p ∈ its0, NoBr p.1 ∧ 1 ≤ p.1.length ∧ (Txt.slice p.1 none (some 1) == "{") = false) (hwd0 : ∀ p ∈ its0, OpW p.2) (hnl0 : ∀ p ∈ its0, p.1.length ≤ 40), MCallAt p loose mean mg mb dp un gd cn cs a ccd cl outer A₀ base h₀ L m s Q E prog w 236 [.ref l, lo] 14 200 [(148, tabObj tb)] (fun h₀ H => CodeHd h₀ 150 148 ∧ LamTab H [148] tb ∧ LoOk H lo its0 its ∧ H.IsList l vs.toArray ∧ @Ne Nat l 148 ∧ TupsAt H vs its0) (WrittenOut its tb) := by
  intro lo its0 its h8 hi1 hknd0 hnb0 hwd0 hnl0
  intro B F X N T hk hd hu hH hQ
  obtain ⟨hC, hLm, hlo, hl, hln, hT⟩ := hH
  have hsub : its.Sublist its0 := by
    rcases hlo with ⟨_, rfl⟩ | ⟨_, _, _, _, _, _, _, _, _, _, rfl⟩
    · exact List.Sublist.refl _
    · exact List.filter_sublist
  have hnd : (its0.map (·.1)).Nodup := (List.nodup_cons.mp hknd0).2
  have hknd : (Str.ofString "s" :: its.map (·.1)).Nodup := List.Nodup.sublist ((hsub.map _).cons₂ _) hknd0
  have hi8 : its.length ≤ 8 := Nat.le_trans hsub.length_le h8
  have hnb := fun p hp => hnb0 p (hsub.mem hp)
  have hwd := fun p hp => hwd0 p (hsub.mem hp)
  have hnl := fun p hp => hnl0 p (hsub.mem hp)
  refine wpAny_call ?_
  k_dflt walk_at "mine enterG"
  (with_reducible rename GSub _ _ _ => hG0)
  rename_i g' Lf hf FGf Ff Nf Bf Xf Tf
  have hC' : CodeHd g' 150 148 := hC.keeps fun b o e => hG0 b o (F.keep b o e) fun hm => by
    have := (N _ (.head _)).2.2
    rw [List.mem_singleton.mp hm] at e
    rw [e] at this; cases this
  replace Ff : Fr g' Lf hf (fun y => List.lookup y [(PySem.Str.ofString "left_out", lo), ("items", Value.ref l)]) := Ff
  generalize s.toks + List.length _ = tk0
  have hND : NdL [148] [] := ⟨List.nodup_cons.mpr ⟨List.not_mem_nil, List.nodup_nil⟩, fun p hp => by cases hp⟩
  have hloG : LoOk g' lo its0 its := lo_at hlo fun b o e n => hG0 b o e fun hm => n (List.mem_singleton.mp hm)
  have hTg : TupsAt g' vs its0 := paired_map (fun v p hp => by
    obtain ⟨a9, t9, t9', rfl, o9, ho9, hc9, r9⟩ := hp
    refine ⟨a9, t9, t9', rfl, o9, hG0 _ _ ho9 ?_, hc9, r9⟩
    intro hm
    rw [List.mem_singleton.mp hm] at ho9
    have := (N _ (.head _)).1
    rw [ho9] at this
    cases this
    cases hc9) hT
  have hlg : g'.IsList l vs.toArray := hl.at fun o e => hG0 _ _ e (fun hm => hln (List.mem_singleton.mp hm))
  clear hlo hl hln hT
  k_steps
  unfold Stop
  rename_i wl hA1 l1a hA2 Sa hA3 F2 N2 hND2
  refine' c_new _ lo its0 its (by k_asm) (by k_asm) (by k_asm) (by k_asm) (by k_asm) (by ktr_room) (by ktr_units) hloG ?_
  intro x led h3 tk3 d3 F3 N3 hNew
  revert N3
  obtain ⟨ex, tl, d, Sdl, Sdst, Snst, Spm, Sps, m0, m1, e1, t0, q0, q1, q2, q3, q4, q5, q6, q7, q8, q9, q10, q11, q12, q13, q14, q15, q16, qi, u, u', nn, hTl, hnd3, hap⟩ := hNew
  intro N3
  have hND3 : NdL [Sps, Snst, Sdst, e1, t0, Sdl, x, d, Sa, wl, 148] tl := nd_join hnd3 hND2 rfl hap
  have hND4 : NdL [d, x, wl, Sps, Snst, Sdst, 148, Sa, e1, t0, Sdl] tl := hND3.pick [7, 6, 9, 0, 1, 2, 10, 8, 3, 4, 5] (by decide) rfl
  have NW : News g' Lf h3 [(Sa, boundApp wl), (wl, W.listOf #[] 0), (148, tabObj tb)] := fun q hq => N3 q (List.mem_of_mem_drop (i := 8) (List.mem_append_right tl hq))
  have N4 := news_cons (N3 _ (List.mem_of_getElem? (i := 7) rfl)) (news_cons (N3 _ (List.mem_of_getElem? (i := 6) rfl)) (news_cons (NW _ (.tail _ (.head _))) (news_cons (N3 _ (List.mem_of_getElem? (i := 0) rfl)) (news_cons (N3 _ (List.mem_of_getElem? (i := 1) rfl)) (news_cons (N3 _ (List.mem_of_getElem? (i := 2) rfl)) (news_cons (NW _ (.tail _ (.tail _ (.head _)))) (news_cons (NW _ (.head _)) (news_cons (N3 _ (List.mem_of_getElem? (i := 3) rfl)) (news_cons (N3 _ (List.mem_of_getElem? (i := 4) rfl)) (news_cons (N3 _ (List.mem_of_getElem? (i := 5) rfl)) (fun q hq => N3 q (List.mem_of_mem_drop (i := 8) (List.mem_append_left _ hq)))))))))))))
  dsimp only
  clear N3 NW N2 F2 hnd3 hND2 hND3 hap l1a rwl1 hloG
  k_steps
  unfold Stop
  (with_reducible rename Nat => tkI)
  refine' DictComp_list (PySem.strKind _ _) (cl := ?cl) (fun _ => true) (fun v k => ∃ z, PairVal g' v (k, z)) (fun _ v y => ∀ p, PairVal g' v p → ∃ t, y = Value.str p.2 t) rfl ?kcl (by decide) rfl (by decide) ?_
  case kcl => rfl
  k_steps
  (with_reducible rename News g' _ _ _ => NA)
  (with_reducible rename Fr g' _ _ _ => FA)
  refine ⟨l, vs, rfl, hlg.at fun o e => FA.keep _ o e, by have := paired_len hTg; rw [sizeLine_eq]; omega, ?_, ?_⟩
  · rintro C i v s₃ m₃ hC hi hn ⟨h₃, tk₃, rfl⟩ st
    obtain ⟨p9, hpi, hpv⟩ := paired_get hTg i v hi
    obtain ⟨a9, t9, t9', rfl, hta⟩ := id hpv
    replace hta := hta.at fun o e => FA.keep _ o e
    refine turnD_pair rfl FA NA hC st hn hta rfl rfl rfl (by decide) ?_
    intro h4 tk4 oC m₂ hoC hm2 hm3 F4 N4 st4 hne hL
    k_steps
    refine ⟨_, _, rfl, by first | exact fun _ _ e => e | assumption, rfl, ⟨p9.1, beq_self_eq_true _, p9.2, hpv⟩, ?_⟩
    intro hf _ q hq
    rw [hq.uniq hpv]; exact ⟨_, rfl⟩
  · intro D h' tk' kvs hD hg hSt st
    obtain ⟨oD, hgD, hOD⟩ := Heap.dictOf_iff.mp hg
    obtain ⟨F3, N3, hne, hL⟩ := on_size FA NA hD hgD st
    rw [filter_true] at hSt
    have hkv : KvIs kvs its0 := by
      have hks : Paired (fun v k => ∃ z, PairVal g' v (k, z)) vs (its0.map (·.1)) := paired_of_get (by simp [paired_len hTg]) fun j v e => by
        obtain ⟨p9, hpi, hpv⟩ := paired_get hTg j v e
        exact ⟨p9.1, by simp [hpi], p9.2, hpv⟩
      obtain ⟨hP, hK⟩ := stored_new (fun v k k' ⟨z, h1⟩ ⟨z', h2⟩ => (Prod.mk.inj (h1.uniq h2)).1) hSt _ hks hnd
      refine paired_of_get (by rw [← List.length_map (f := (·.1)), hK, List.length_map]) ?_
      intro j kv e
      have hj : j < vs.length := by
        have := (List.getElem?_eq_some_iff.mp e).1
        rw [paired_len hP]; exact this
      obtain ⟨kv', e1, ⟨z, h1⟩, h2⟩ := paired_get hP j vs[j] (List.getElem?_eq_getElem hj)
      rw [e] at e1; cases e1
      obtain ⟨p9, hpi, hpv⟩ := paired_get hTg j vs[j] (List.getElem?_eq_getElem hj)
      exact ⟨p9, hpi, (congrArg Prod.fst (h1.uniq hpv)), h2 p9 hpv⟩
    have hDm : (D == sysModules) = false := beq_eq_false_iff_ne.mpr (Nat.ne_of_gt (Nat.lt_of_lt_of_le (modules_low Tf.nolimit) (Nat.le_trans FA.above (Nat.le_trans (Nat.le_of_lt FA.ns.lt) hD))))
    (with_reducible rename NdL _ _ => hNDa)
    have hNDb := nd_allNe hNDa rfl rfl hne
    clear NA FA hg st hgD hNDa hne
    k_steps
    unfold Stop
    rename_i e2 hB1 l1c hNDs hB2 tkB hB3 FS NS tkC
    (with_reducible rename Fr g' _ _ _ => FGx)
    have hP : NdL [D, wl, Sps, Snst, 148, Sa, Sdst, e1, _, t0, x, d] tl := hNDs.pick [1, 4, 5, 6, 8, 9, 7, 10, 0, 11, 3, 2] (by decide) rfl
    refine' use_m (c_start x d e1 _ t0 wl D m0 m1 ⟨Sa, Sdl, ex, Sdst, Snst, Spm, Sps, .bool false, .bool false, .int 0 qi, tokL [q0, q1, q2, q3, q4, q5, q6, q7, q8, q9, q10, q11, q12, q13, q14, q15, q16, tkI + 1], 18⟩ 0 0 (0 + 1) 0 0 0 nn u u' _ tb oD kvs its0 its hOD hkv h8 hnd hi1 hi8 hDm hknd hnb hwd hnl) (by k_asm) (by k_asm) (by k_asm) (by k_asm) (by k_asm) rfl (by ktr_room) (by ktr_units) ?k9 ?k10 ?_
    case k9 => exact ⟨List.mem_of_getElem? (i := 1) rfl, List.mem_of_getElem? (i := 4) rfl, List.mem_of_getElem? (i := 5) rfl, List.mem_of_getElem? (i := 6) rfl, List.mem_of_getElem? (i := 8) rfl, List.mem_of_getElem? (i := 9) rfl, List.mem_of_getElem? (i := 7) rfl, List.mem_of_getElem? (i := 10) rfl, List.mem_of_getElem? (i := 0) rfl, List.mem_of_getElem? (i := 11) rfl, List.mem_of_getElem? (i := 3) rfl, List.mem_of_getElem? (i := 2) rfl, trivial⟩
    case k10 => exact ⟨hC'.keeps FGx.keep, lam_up hLm hG0 (fun b o e => FS.keep b o (FGx.keep b o e)) (fun z hz => fresh_not FGx (led_off hNDs rfl rfl NS [1, 4, 5, 6, 8, 9, 7, 10, 0, 11, 3, 2] rfl z hz).2), hTl.ok _ _ (fun q hq => (NS q (List.mem_of_mem_drop (i := 13) hq)).1) hP.tl, hP.nd⟩
    rintro v' h9 tk9 d9 ⟨rfl, nx, nw9, np9, nn9, ns9, c9, ta9, tb9, tc9, ss, hnx, hPm, hPw, hcr9, hfr9, hgx, hall⟩ F9 K9
    dsimp only at hnx K9 hfr9 hall
    obtain ⟨tx, Ntx, htx, hcr10⟩ := lam_tail hLm hG0 FGx.keep FS (fun b o e => F9.keep b o e) hcr9 hfr9
    have hSd := K9 Sdl _ (NS _ (List.mem_of_getElem? (i := 12) rfl)).1 (List.nodup_cons.mp (hNDs.pick [12, 1, 4, 5, 6, 8, 9, 7, 10, 0, 11, 3, 2] (by decide) rfl).nd).1
    have hOff := led_off (as := [wl, Sps, Snst, 148, Sa, Sdst, e1, _, t0, x, d]) hNDs rfl rfl NS [4, 5, 6, 8, 9, 7, 10, 0, 11, 3, 2] rfl
    have N9 := news_app (fun q hq => ⟨hall q hq, hOff q.1 (List.mem_map_of_mem (f := fun q : Addr × Obj => q.1) hq)⟩) (news_cons ⟨hSd, (NS _ (List.mem_of_getElem? (i := 12) rfl)).2⟩ Ntx)
    have hND9 : NdL [wl, Sps, Snst, 148, Sa, Sdst, e1, _, t0, x, d, Sdl] tx := (nd_fresh hNDs rfl rfl NS htx).pick [4, 5, 6, 8, 9, 7, 10, 0, 11, 3, 2, 12] (by decide) rfl
    have hc9 := lam_ne hLm ⟨_, (NS _ (List.mem_of_getElem? (i := 8) rfl)).1⟩ hfr9
    have hf10 := hfr9.imp_right fun e => (show s.heap.get? c9 = none by
      cases e2 : s.heap.get? c9 with
      | none => rfl
      | some o => have := FS.keep _ _ (FGx.keep _ _ (hG0 _ _ e2 hc9)); rw [e] at this; cases this)
    dsimp only [subS, List.cons_append, List.nil_append] at N9
    clear NS FS hall K9 hSd htx hfr9 hcr9 hgx hnx hOff hP hNDs Ntx
    dsimp only
    k_steps
    unfold Stop
    (with_reducible rename Fr g' _ _ _ => FGy)
    (with_reducible rename News _ _ _ _ => NQ)
    (with_reducible rename Fr _ _ _ _ => FQ)
    refine' use_q (c_qname x d e1 e2 t0 ⟨Sa, Sdl, ex, Sdst, Snst, Spm, Sps, .bool true, .bool false, .int 0 qi, tokL [q0, q1, q2, q3, q4, q5, q6, q7, q8, q9, q10, q11, q12, q13, q14, q15, q16, tkI + 1], 18⟩ 0 0 (0 + 1) 0 u u' (Str.ofString "s") _ (by decide) (by decide) (by decide)) (by k_asm) (by k_asm) (by k_asm) (by k_asm) (by k_asm) rfl (by ktr_room) (by ktr_units) ?j9 ?_
    case j9 => exact ⟨List.mem_of_getElem? (i := 5) rfl, List.mem_of_getElem? (i := 6) rfl, List.mem_of_getElem? (i := 7) rfl, List.mem_of_getElem? (i := 8) rfl, List.mem_of_getElem? (i := 9) rfl, List.mem_of_getElem? (i := 10) rfl, trivial⟩
    rintro v5 h5 tk5 st5 ⟨qT, qa, qb, qc, qn, rfl, hq5, hg5⟩ F5 N5
    obtain ⟨N6, hn6, hL6⟩ := on_ledger (s := { s with heap := _ }) FQ NQ hq5 hg5 N5
    (with_reducible rename NdL _ _ => hNDq)
    have hND6 := nd_allNe hNDq rfl rfl hn6
    clear N5 NQ FQ hq5 hg5 st5 hn6 hNDq
    dsimp only
    k_steps
    have hj : (Str.join "" (ss.map itemText)).length ≤ 1000 := by
      have hB : ∀ y ∈ List.map itemText ss, y.length ≤ 100 := by
        intro y hy
        obtain ⟨q, hq, rfl⟩ := List.mem_map.mp hy
        have hq := hPm.mem_iff.mp hq
        exact itemText_len (hnl q hq) (spell_len (hwd q hq))
      have h1 := join_len (sep := "") hB
      have h2 : (Str.ofString "").length = 0 := by decide
      have h3 := hPm.length_eq
      rw [List.length_map, h2] at h1
      omega
    refine' join_rule 1000 (ss := [Str.ofString "<" ++ Str.ofString "s", Str.join "" (ss.map itemText), Str.ofString ">", Str.empty ++ "</" ++ "s" ++ ">"]) ?g9 ?s9 ?b9 (by decide) ?n9 (by decide) ?_
    case g9 => exact News.get (by k_asm) (by k_mem)
    case s9 => exact .cons _ _ (.cons _ _ (.cons _ _ (.cons _ _ .nil)))
    case b9 => exact List.forall_mem_cons.mpr ⟨by decide, List.forall_mem_cons.mpr ⟨hj, List.forall_mem_cons.mpr ⟨by decide, List.forall_mem_cons.mpr ⟨by decide, List.forall_mem_nil _⟩⟩⟩⟩
    case n9 => simp
    intro t' k'
    rw [text_join]
    k_steps
    (with_reducible rename News g' _ _ _ => NF)
    (with_reducible rename Fr g' _ _ _ => FF)
    refine hQ _ _ _ _ (fun b o e hb => FF.keep b o (hG0 b o e hb)) ⟨ss, c9, _, hPm, hPw, rfl, (NF _ (List.mem_of_getElem? (i := 4) rfl)).1, .inr ⟨c9, rfl, hcr10 _ FF.keep (fun q hq => (NF q (List.mem_of_mem_drop (i := 13) hq)).1), hc9⟩, hf10⟩
end Hc_written
theorem c_written {prog : Program} {w : World} (l : Addr) (lo : Value) (vs : List Value) (tb : Array Value) (its0 its : List (Str × Str)) (h8 : its0.length ≤ 8) (hi1 : 2 ≤ its.length) (hknd0 : (Str.ofString "s" :: its0.map (·.1)).Nodup) (hnb0 : ∀ p ∈ its0, NoBr p.1 ∧ 1 ≤ p.1.length ∧ (Txt.slice p.1 none (some 1) == "{") = false) (hwd0 : ∀ p ∈ its0, OpW p.2) (hnl0 : ∀ p ∈ its0, p.1.length ≤ 40) : MCall prog w 236 [.ref l, lo] 14 200 [(148, tabObj tb)] (fun h₀ H => CodeHd h₀ 150 148 ∧ LamTab H [148] tb ∧ LoOk H lo its0 its ∧ H.IsList l vs.toArray ∧ @Ne Nat l 148 ∧ TupsAt H vs its0) (WrittenOut its tb) := fun p loose mean mg mb dp un gd cn cs a ccd cl outer A₀ base h₀ L m s Q E => hen Hc_written.hSt Hc_written.hNe (by with_unfolding_all exact Hc_written.hMain) (prog, w, l, vs, tb, p, loose, mean, mg, mb, dp, un, gd, cn, cs, a, ccd, cl, outer, A₀, base, h₀, L, m, s, Q, E) lo its0 its h8 hi1 hknd0 hnb0 hwd0 hnl0
end
end
-- LibC
theorem noneHcLibC : True := by
  k_with_none
  trivial
section
/-- the frame told anew: some names, the rest unnamed -/
theorem frE {G : Prop} {h₀ h : Heap} {L : Addr} {m : Str → Option Value} (F : Fr h₀ L h m) (l : List (Str × Option Value)) (hl : l.map (fun p => m p.1) = l.map (·.2)) (k : ∀ um, Fr h₀ L h (lk l um) → G) : G :=
  Exists.elim (frL F l fun p hp => by
    obtain ⟨i, hi, rfl⟩ := List.getElem_of_mem hp
    have := congrArg (fun z => z[i]?) hl
    simpa [List.getElem?_map, hi] using this) k
/-- some cells of the ledger, in any order -/
theorem news_pick {h₀ h : Heap} {L : Addr} {a b : List (Addr × Obj)} (N : News h₀ L h a) (ix : List Nat) (e : ix.map (a[·]?) = b.map some) : News h₀ L h b := fun q hq => N q (by
  have : some q ∈ ix.map (a[·]?) := e ▸ List.mem_map_of_mem hq
  obtain ⟨i, _, hi⟩ := List.mem_map.mp this
  exact List.mem_of_getElem? hi)
theorem nd_three {as : List Nat} {tl l : List (Addr × Obj)} {q a b : Addr} (h : NdL as tl) (e : (l.take as.length).map (·.1) = as) (f : l.drop as.length = tl) (n1 : AllNe q l) (n2 : AllNe a l) (n3 : AllNe b l) (n : @Ne Nat q a ∧ @Ne Nat q b ∧ @Ne Nat a b) : NdL (q :: a :: b :: as) tl := by
  have h3 := nd_allNe h e f n3
  have h2 : NdL (a :: b :: as) tl := nd_ne (l := (b, { cls := .none, data := .plain }) :: l) h3 (by rw [List.length_cons, List.take_succ_cons, List.map_cons, e]) (by rw [List.length_cons, List.drop_succ_cons]; exact f) fun p hp => by
    rcases List.mem_cons.mp hp with rfl | hp
    · exact n.2.2.symm
    · exact allNe_mem n2 p hp
  refine nd_ne (l := (a, { cls := .none, data := .plain }) :: (b, { cls := .none, data := .plain }) :: l) h2 (by rw [List.length_cons, List.length_cons, List.take_succ_cons, List.take_succ_cons, List.map_cons, List.map_cons, e]) (by rw [List.length_cons, List.length_cons, List.drop_succ_cons, List.drop_succ_cons]; exact f) fun p hp => ?_
  rcases List.mem_cons.mp hp with rfl | hp
  · exact n.1.symm
  rcases List.mem_cons.mp hp with rfl | hp
  · exact n.2.1.symm
  · exact allNe_mem n1 p hp
theorem nd_c2 {a b d : Nat} {tl : List (Addr × Obj)} {o : Obj} (h : NdL [a, b] tl) (h1 : @Ne Nat a d) (h2 : @Ne Nat b d) : NdL [a, b] ((d, o) :: tl) := ⟨h.nd, fun p hp => by
  rcases List.mem_cons.mp hp with rfl | hp
  · exact fun hm => (List.mem_cons.mp hm).elim (fun e => h1 e.symm) fun hm => h2 (List.mem_singleton.mp hm).symm
  · exact h.tl p hp⟩
theorem news_tail {h₀ h : Heap} {L : Addr} {cells tl X : List (Addr × Obj)} (N : News h₀ L h (cells ++ tl)) (NX : News h₀ L h X) : News h₀ L h (cells ++ (X ++ tl)) := fun q hq =>
  (List.mem_append.mp hq).elim (fun hq => N q (List.mem_append_left _ hq)) fun hq => (List.mem_append.mp hq).elim (NX q) fun hq => N q (List.mem_append_right _ hq)
theorem nd_tail {as : List Nat} {tl X : List (Addr × Obj)} (h : NdL as tl) (hx : ∀ q ∈ X, ∀ z ∈ as, @Ne Nat q.1 z) : NdL as (X ++ tl) := nd_more h fun q hq hm => hx q hq q.1 hm rfl
/-- five cells ahead, the fourth into the tail, with new ones -/
theorem news_in4 {h₀ h : Heap} {L : Addr} {a b c d e : Addr × Obj} {tl X : List (Addr × Obj)} (N : News h₀ L h (a :: b :: c :: d :: e :: tl)) (NX : News h₀ L h X) : News h₀ L h (a :: b :: c :: e :: (d :: (X ++ tl))) :=
  news_cons (N _ (.head _)) (news_cons (N _ (.tail _ (.head _))) (news_cons (N _ (.tail _ (.tail _ (.head _)))) (news_cons (N _ (.tail _ (.tail _ (.tail _ (.tail _ (.head _)))))) (news_cons (N _ (.tail _ (.tail _ (.tail _ (.head _))))) fun q hq =>
    (List.mem_append.mp hq).elim (NX q) fun hq => N q (.tail _ (.tail _ (.tail _ (.tail _ (.tail _ hq)))))))))
theorem nd_in4 {a b c d e : Nat} {o : Obj} {tl X : List (Addr × Obj)} (h : NdL [a, b, c, d, e] tl) (hx : ∀ q ∈ X, ∀ z ∈ [a, b, c, e], @Ne Nat q.1 z) : NdL [a, b, c, e] ((d, o) :: (X ++ tl)) := by
  have h2 : NdL [a, b, c, e, d] tl := h.pick [0, 1, 2, 4, 3] (by decide) rfl
  have h3 : NdL [a, b, c, e] ([(d, o)] ++ tl) := nd_into (bs := [d]) h2 rfl
  exact ⟨h3.nd, fun p hp => by
    rcases List.mem_cons.mp hp with rfl | hp
    · exact h3.tl _ (.head _)
    · exact (List.mem_append.mp hp).elim (fun hp hm => hx p hp p.1 hm rfl) fun hp => h3.tl p (.tail _ hp)⟩
theorem news_rot {h₀ h : Heap} {L : Addr} {X cells tl : List (Addr × Obj)} (N : News h₀ L h (X ++ (cells ++ tl))) : News h₀ L h (cells ++ (X ++ tl)) := fun q hq => N q <|
  (List.mem_append.mp hq).elim (fun hq => List.mem_append_right _ (List.mem_append_left _ hq)) fun hq => (List.mem_append.mp hq).elim (fun hq => List.mem_append_left _ hq) fun hq => List.mem_append_right _ (List.mem_append_right _ hq)
theorem nd1_ne {a : Nat} {tl : List (Addr × Obj)} {p : Addr × Obj} (h : NdL [a] tl) (hp : p ∈ tl) : @Ne Nat p.1 a := fun e => h.tl p hp (e ▸ .head _)
theorem nd_c1 {a d : Nat} {tl : List (Addr × Obj)} {o : Obj} (h : NdL [a] tl) (h1 : @Ne Nat d a) : NdL [a] ((d, o) :: tl) := ⟨h.nd, fun p hp => by
  rcases List.mem_cons.mp hp with rfl | hp
  · exact fun hm => h1 (List.mem_singleton.mp hm)
  · exact h.tl p hp⟩
theorem nd1_tail {a : Nat} {tl X : List (Addr × Obj)} (h : NdL [a] tl) (hx : ∀ q ∈ X, @Ne Nat q.1 a) : NdL [a] (X ++ tl) := nd_more h fun q hq hm => hx q hq (List.mem_singleton.mp hm)
theorem upd148' {g h h' : Heap} {L : Addr} {o o' : Obj} {tl : List (Addr × Obj)} (nd : NdL [148] tl) (N : News g L h ((148, o) :: tl)) (hk : ∀ b o, h.get? b = some o → b ∉ ([148] : List Nat) → h'.get? b = some o) (h148 : h'.get? 148 = some o') : News g L h' ((148, o') :: tl) :=
  upd148 (cells := []) N hk h148 (fun q hq => nomatch hq) fun q hq => nd1_ne nd hq
theorem frTok2 {G : Prop} {h₀ h : Heap} {L : Addr} {m : Str → Option Value} (F : Fr h₀ L h m) (l : Tok → Tok → List (Str × Option Value)) (t3 t4 : Tok) (hl : (l t3 t4).map (fun p => m p.1) = (l t3 t4).map (·.2)) (k : ∀ um t3 t4, Fr h₀ L h (lk (l t3 t4) um) → G) : G := frE F (l t3 t4) hl fun um F => k um t3 t4 F
end
-- LibC2
theorem noneHcLibC2 : True := by
  k_with_none
  trivial
section
theorem nd_apart {as bs : List Nat} {tl X : List (Addr × Obj)} (h : NdL (as ++ bs) tl) (e : X.map (·.1) = as) : ∀ q ∈ X, ∀ z ∈ bs, @Ne Nat q.1 z := fun q hq z hz => (List.nodup_append.mp h.nd).2.2 q.1 (e ▸ List.mem_map_of_mem hq) z hz
theorem hi_txt {h : Nat} (h0 : 0 < (h : Int)) (h3 : h < 3) : hiName h = Str.ofString "0x" ++ (toString (h : Int) : Str) ++ Str.ofString "00000000" ∧ Txt.lower (hiName h) = Str.ofString "0x" ++ (toString (h : Int) : Str) ++ Str.ofString "00000000" := by
  have : h = 1 ∨ h = 2 := by omega
  rcases this with rfl | rfl <;> decide +kernel
section
variable {hi ho : Nat} {ms ts : List Nat} {ys : List Value} {tS X : List (Addr × Obj)} {a : Addr} {t t' : Tok} {n : Nat}
theorem if_its (hl : ∀ p ∈ ms, p < 32) (h0 : 0 < (hi : Int)) (h3 : hi < 3) (hp : Paired (PairIn tS) ys (ms.map fun p => (flagName p, opWord p))) (hm : (a, tup2 (Str.ofString "0x" ++ (toString (hi : Int) : Str) ++ Str.ofString "00000000", Str.ofString "!") t t' n) ∈ X) :
    Paired (PairIn (X ++ tS)) (ys ++ [.ref a]) (itsL hi ms) := by
  rw [its_hi hl (by omega), (hi_txt h0 h3).1]
  exact paired_snoc (paired_map (fun v p x => x.mono fun q hq => List.mem_append_right _ hq) hp) ⟨_, _, _, _, rfl, List.mem_append_left _ hm⟩
theorem if_its0 (hl : ∀ p ∈ ms, p < 32) (h0 : ¬ 0 < (hi : Int)) (hp : Paired (PairIn tS) ys (ms.map fun p => (flagName p, opWord p))) : Paired (PairIn ([] ++ tS)) ys (itsL hi ms) := by
  obtain rfl : hi = 0 := by omega
  rw [its_no hl]; exact hp
theorem if_kept (hl : ∀ p ∈ ms, p < 32) (h0 : 0 < (hi : Int)) (h3 : hi < 3) (hne : (hi : Int) ≠ ho) (hp : Paired (PairIn tS) ys ((ms.filter fun p => decide (p ∉ ts)).map fun p => (Txt.lower (flagName p), opWord p))) (hm : (a, tup2 (Str.ofString "0x" ++ (toString (hi : Int) : Str) ++ Str.ofString "00000000", Str.ofString "!") t t' n) ∈ X) :
    Paired (PairIn (X ++ tS)) (ys ++ [.ref a]) (keptL hi ho ms ts) := by
  rw [kept_hi hl (by omega), (hi_txt h0 h3).2]
  exact paired_snoc (paired_map (fun v p x => x.mono fun q hq => List.mem_append_right _ hq) hp) ⟨_, _, _, _, rfl, List.mem_append_left _ hm⟩
theorem if_kept0 (hl : ∀ p ∈ ms, p < 32) (h0 : ¬ 0 < (hi : Int) ∨ (hi : Int) = ho) (hp : Paired (PairIn tS) ys ((ms.filter fun p => decide (p ∉ ts)).map fun p => (Txt.lower (flagName p), opWord p))) : Paired (PairIn (X ++ tS)) ys (keptL hi ho ms ts) := by
  rw [kept_no hl (by omega)]; exact paired_map (fun v p x => x.mono fun q hq => List.mem_append_right _ hq) hp
theorem if_rest (h0 : 0 < (hi : Int)) (hne : (hi : Int) ≠ ho) (iR : IntsAre ys ((ms.filter fun p => decide (p ∉ ts)).map fun p : Nat => (p : Int))) : IntsAre (ys ++ [.int 47 t]) ((restP hi ho ms ts).map fun p : Nat => (p : Int)) := by
  rw [rest_hi (by omega), List.map_append]
  exact IntsAre.snoc' iR 47 _
theorem if_rest0 (h0 : ¬ 0 < (hi : Int) ∨ (hi : Int) = ho) (iR : IntsAre ys ((ms.filter fun p => decide (p ∉ ts)).map fun p : Nat => (p : Int))) : IntsAre ys ((restP hi ho ms ts).map fun p : Nat => (p : Int)) := by
  rw [rest_no (by omega)]; exact iR
theorem if_num (h0 : 0 < (hi : Int)) (hne : (hi : Int) ≠ ho) (l : List Nat) : (l.map fun p => ((2 ^ p : Nat) : Int)).sum + (hi : Int) * 2 ^ Int.toNat 32 = ((bits l + numK hi ho * 2 ^ 32 : Nat) : Int) := num_some l (by omega)
theorem if_num0 (h0 : ¬ 0 < (hi : Int) ∨ (hi : Int) = ho) (l : List Nat) : (l.map fun p => ((2 ^ p : Nat) : Int)).sum = ((bits l + numK hi ho * 2 ^ 32 : Nat) : Int) := num_none l (by omega)
end
theorem sd_facts {sd : Nat} (h : sd < 2) : sd < 1000 ∧ (1 : Int) - (sd : Int) = ((1 - sd : Nat) : Int) ∧ 1 - sd < 1000 := by omega
theorem frI {h₀ h : Heap} {L : Addr} {m : Str → Option Value} (F : Fr h₀ L h m) (l : List (Str × Option Value)) (hl : l.map (fun p => m p.1) = l.map (·.2)) : Fr h₀ L h (lk l m) :=
  frE F l hl fun um FU => by
    have : ∀ z, m z = (l.lookup z).getD (m z) := fun z => (lk_eq (m := m) (l := l) (fun p hp => by
      obtain ⟨i, hi, rfl⟩ := List.getElem_of_mem hp
      have := congrArg (fun z => z[i]?) hl
      simpa [List.getElem?_map, hi] using this) z).symm
    rw [show lk l m = m from funext fun z => (this z).symm]; exact F
end
-- FnY
section
/-- stop at the next marked statement -/
structure Halt : Prop where
  x : True
/-- behind the If on high -/
inductive IfP (g0 : Heap) (L0 : Addr) (dr0 : Drawn) (os0 : OsState) (ls ld lk0 D D5 D6 : Addr) (hi ho : Nat) (ms ts : List Nat) (tS : List (Addr × Obj)) : Flow → Shared → Prop
  | mk {h um tn tk nK nI nR} {nv : Int} {wK wI wR : List Value} {tX : List (Addr × Obj)} (F : Fr g0 L0 h (lk [(Str.ofString "script", some (.ref ls)), (Str.ofString "told", some (.ref ld)), (Str.ofString "masks", some (.ref lk0)), (Str.ofString "rest", some (.ref D)), (Str.ofString "kept", some (.ref D6)), (Str.ofString "number", some (.int nv tn))] um))
      (hnv : nv = ((bits (ms.filter fun p => decide (p ∉ ts)) + numK hi ho * 2 ^ 32 : Nat) : Int))
      (N : News g0 L0 h ((D6, W.listOf wK.toArray nK) :: (D5, W.listOf wI.toArray nI) :: (D, W.listOf wR.toArray nR) :: (148, tabObj #[]) :: (tX ++ tS)))
      (hI : Paired (PairIn (tX ++ tS)) wI (itsL hi ms)) (hK : Paired (PairIn (tX ++ tS)) wK (keptL hi ho ms ts)) (iR : IntsAre wR ((restP hi ho ms ts).map fun p : Nat => (p : Int)))
      (hX : ∀ q ∈ tX, ∀ z ∈ ([D6, D5, D, 148] : List Nat), @Ne Nat q.1 z) : IfP g0 L0 dr0 os0 ls ld lk0 D D5 D6 hi ho ms ts tS .next { heap := h, drawn := dr0, toks := tk, os := os0 }
/-- behind below -/
inductive BelP (g0 : Heap) (L0 : Addr) (d14 : Drawn) (os0 : OsState) (ls lr : Addr) (sd : Nat) (t3 : Tok) (pr : Int) (t4 : Tok) (nw : List (Addr × Obj)) : Flow → Shared → Prop
  | mk {h um tk t5} {b : Int} (hb : b < 0) (hb2 : -500 < b) (F : Fr g0 L0 h (lk [(Str.ofString "script", some (.ref ls)), (Str.ofString "rows", some (.ref lr)), (Str.ofString "side", some (.int (sd : Int) t3)), (Str.ofString "price", some (.int pr t4)), (Str.ofString "below", some (.int b t5))] um)) (N : News g0 L0 h nw) : BelP g0 L0 d14 os0 ls lr sd t3 pr t4 nw .next { heap := h, drawn := d14, toks := tk, os := os0 }
inductive LpJ (ls lr : Addr) (sd : Nat) (t3 : Tok) (pr : Int) (t4 : Tok) (nw : List (Addr × Obj)) : (Str → Option Value) → List (Addr × Obj) → Prop
  | mk {um} : LpJ ls lr sd t3 pr t4 nw (lk [(Str.ofString "script", some (.ref ls)), (Str.ofString "rows", some (.ref lr)), (Str.ofString "side", some (.int (sd : Int) t3)), (Str.ofString "price", some (.int pr t4))] um) nw
inductive LawEnd (g0 : Heap) (L0 : Addr) (os0 : OsState) : Flow → Shared → Prop
  | mk {h d tk m} (F : Fr g0 L0 h m) (grown : GrownAll [(150, 148)] h) : LawEnd g0 L0 os0 (.ret (.bool true)) { heap := h, drawn := d, toks := tk, os := os0 }
theorem two_gen {G : Prop} {g h : Heap} {L D : Addr} {n : Nat} {rest : List (Addr × Obj)} {p b x : Int} {t u : Tok} (N : News g L h ((D, W.listOf [Value.int (p - 1 + x) t, Value.int b u].toArray n) :: rest)) (h3 : 0 ≤ x) (hp : 0 ≤ p) (hb : b < 0) (hb2 : -500 < b)
    (k : ∀ vs22 : List Value, (∀ (i : Nat) (v : Value), vs22[i]? = some v → ∃ c t', v = Value.int c t' ∧ (c < 0 ∨ p - 1 ≤ c) ∧ -500 < c) → News g L h ((D, W.listOf vs22.toArray n) :: rest) → G) : G := k _ (fun _ _ e => two_bounds h3 hp hb hb2 e) N
section
theorem rowsFnY0 : True := by
  k_with_none
  k_with "setAttr ref" => (k_here; k_dflt (refine' set_dict (by k_asm) (by k_asm) (by k_asm) (by k_inst) rfl (by k_is) (by k_is) (by k_is) (by k_is) (by k_get) (by k_put) (by k_upd) (Nat.le_of_ble_eq_true rfl) ?_); intro _ _ rwNq; (try dsimp only at rwNq); (try k_sweep))
  k_with "getAttr ref" => (k_here; (with_reducible show wpAny _ _ (getAttr (Value.ref _) (PySem.Str.ofString "append") true) _ _ _); k_dflt (refine' getAttr_append (by k_asm) (by k_asm) (by k_mem) ?_); intro _ _ _ _ rwl1; (try k_lt rwl1); (try k_sweep))
  k_with "callWith ref" => (k_here; k_dflt (refine' callWith_bapp (by k_asm) (by k_mem) ?_))
  k_with "And" => ((with_reducible show BoundAt _ _ _ ∧ _); refine ⟨by k_dflt (exact News.get (by k_asm) (by k_mem)), ?_⟩; (try dsimp only [List.nil_append, List.cons_append]))
  k_with "call ref" => (k_here; k_dflt (refine' call_bapp (by k_asm) (by k_asm) (by k_mem) (by k_upd) ?_ (by size_fits)); intro _ _ _; (try k_sweep))
  k_with "ks" => repeat' (first | (k_unfold; (try dsimp only)) | (k_end; wrow_close) | ((with_reducible show wpAny _ _ (storeName _ _ _) _ _ _); dsimp only) | walk1 | (dsimp only; walk1) | (leave1; walk_say "STEP leave1"; try dsimp only) | fail "no step")
  k_with "call ref" => (k_here; (with_reducible show wpAny _ _ (call (Value.ref 200) _) _ _ _); k_dflt (refine' use_pureL c_ops (by k_asm) (by k_asm) (by k_asm) (by k_asm) (by k_asm) (by exact rfl) (by decide) (by decide) (by trivial) ?_; k_whole; intro _ _ _ _ _ _ _ _ _ rwl1 _; (try k_lt rwl1); (try k_sweep); (try dsimp only)))
  k_with "call ref" => (k_here; (with_reducible show wpAny _ _ (call (Value.ref 219) _) _ _ _); k_dflt (refine' use_places (by assumption) (by assumption) (by k_asm) (by k_asm) (by k_asm) (by k_asm) (by k_asm) (by exact rfl) (by decide) (by decide) (by exact Heap.IsList.at (by assumption) (fun o e => Fr.keep (by k_asm) _ o e)) ?_; k_whole; intro _ _ _ _ _ _ _ _ _ _ _ _ _ _ _ _ _ _ _ _ rwl1 rwl2 rwl3 rwl4; ((with_reducible rename NdL _ _ => hNd0); replace hNd0 := nd_three hNd0 rfl rfl rwl1 rwl2 rwl3 rwl4); (try k_sweep); (try dsimp only)))
  k_with "call ref" => (k_here; (with_reducible show wpAny _ _ (call (Value.ref 46) _) _ _ _); k_dflt (refine' use_pretty (by assumption) (by k_asm) (by k_asm) (by k_asm) (by k_asm) (by k_asm) (by exact rfl) (by decide) (by decide) ?_; k_whole; intro _ _ _ _ _; (try dsimp only)))
  k_with "call ref" => (k_here; (with_reducible show wpAny _ _ (call (Value.ref 212) _) _ _ _); k_dflt (refine' use_pure (c_name _ _ (by assumption)) (by k_asm) (by k_asm) (by k_asm) (by k_asm) (by k_asm) (by exact rfl) (by decide) (by decide) (by trivial) ?_; k_whole; intro _ _ _ _ rwPq _ _; obtain ⟨_, rwPq⟩ := rwPq; subst rwPq; (try dsimp only)))
  k_with "subscriptTail Name Name ref int" => (k_here; (with_reducible show wpAny _ _ (subscriptTail _ _ (Value.ref _) (Value.int ((_ : Nat) : Int) _)) _ _ _); k_dflt (refine' word_at (by k_asm) (by k_mem) (by assumption) (by assumption) ?_ (by with_unfolding_all rfl) (by (intro _; with_unfolding_all rfl)); k_whole); intro _)
  k_with "call builtin:list.append" => (k_here; (with_reducible show wpAny _ _ (call (Value.builtin _) [Value.ref _, _]) _ _ _); k_dflt (refine' append_K (by k_asm) (by k_asm) (by k_upd) ?_ (by assumption); k_whole); intro _ _ _; (try k_sweep))
  k_with "subscriptTail Name Name ref int" => (k_here; (with_reducible show wpAny _ _ (subscriptTail _ _ (Value.ref _) (Value.int ((_ : Nat) : Int) _)) _ _ _); k_dflt (refine' item_at (by k_asm) (by k_mem) (by assumption) (by assumption) ?_ (by with_unfolding_all rfl) (by (intro _; with_unfolding_all rfl)); k_whole))
  k_with "call builtin:len" => (k_here; k_dflt (refine' len_at (by k_asm) (by k_mem) (by with_reducible assumption) (by first | with_reducible assumption | omega) ?_; k_whole); (try dsimp only))
  k_with "call ref" => (k_here; (with_reducible show wpAny _ _ (call (Value.ref 236) _) _ _ _); refine Stop.mk ?_)
  k_with "call ref" => (k_here; (with_reducible show wpAny _ _ (call (Value.ref 224) _) _ _ _); k_dflt ((with_reducible rename News _ _ _ _ => hN9); refine' use_text hN9 (by k_mem) (by exact tups_of hN9 (by assumption) (fun q hq => by repeat (first | exact hq | exact List.mem_append_left _ hq | refine List.Mem.tail _ ?_))) (by assumption) (by assumption) (by assumption) (by k_asm) (by k_asm) (by k_asm) (by k_asm) (by exact rfl) (by decide) (by decide) ?_; k_whole; intro _ _ _ _ _; (try dsimp only)))
  k_with "call ref" => (k_here; (with_reducible show wpAny _ _ (call (Value.ref 243) _) _ _ _); k_dflt (refine' use_read' (by assumption) (by k_asm) (by k_asm) (by k_asm) (by k_asm) (by k_asm) (by exact rfl) (by decide) (by decide) ?_; k_whole; intro _ _ _ _ _ _ _ _ _ _ _ _ _ _ _ _ _ _ _ _ _; (try dsimp only)))
  k_with "call ref" => (k_here; (with_reducible show wpAny _ _ (call (Value.ref 46) [Value.int ((_ : Nat) : Int) _]) _ _ _); k_dflt (refine' use_pretty' (by assumption) (by k_asm) (by k_asm) (by k_asm) (by k_asm) (by k_asm) (by exact rfl) (by decide) (by decide) ?_; k_whole; intro _ _ _ _ _; (try dsimp only)))
  k_with "compareOp NotEq ref ref" => (k_here; refine Stop.mk ?_)
  k_with "call builtin:sorted" => (k_here; refine Stop.mk ?_)
  k_with "call builtin:len" => (k_here; k_dflt (refine' len_in (by k_asm) (by with_reducible assumption) (by with_reducible assumption) (by with_reducible assumption) ?_; k_whole); (try dsimp only))
  k_with "subscriptTail Name Slice str ref" => (k_here; (with_reducible show wpAny _ _ (subscriptTail _ (Expr.Slice (some _) (some _) none _) _ _) _ _ _); (with_unfolding_all refine' slice_nn_k (s := ⟨_, _, _, _, _⟩) (by k_asm) (by k_asm) ?_ (by with_unfolding_all rfl) (by (intro _; with_unfolding_all rfl)) (by with_reducible assumption); k_whole); intro _ _ _ rwhkq _ _; clear rwhkq; (try dsimp only))
  k_with "newList" => (k_here; (with_reducible show wpAny _ _ (newList [_, _]) _ _ _); k_dflt (refine' newList_two (by k_asm) (by k_asm) ?_; k_whole); intro _ _ _ _ _; (try dsimp only))
  k_with "truthy bool" => (k_here; rw [bne_self_eq_false])
  trivial
theorem rowsMFnY1 : True := by
  k_with "k_all" => assumption
  trivial
theorem rowsMFnY2 : True := by
  k_with "k_mem" => assumption
  trivial
theorem rowsFnY1 : True := by
  k_with "call builtin:str.split" => (k_here; (k_dflt (refine' split_one (by k_asm) (by k_asm) (by rfl) (by with_reducible assumption) (by with_reducible assumption) ?_; k_whole); intro _ _ _ _ _ _ rwl1 _; (try k_lt rwl1); (try k_sweep); (try dsimp only)))
  k_with "exec If" => (k_here; (have hX : Halt := by assumption); (clear hX); refine Stop.mk ?_)
  k_with "exec Assign cons ListComp" => (k_here; (have hX : Halt := by assumption); (clear hX); refine Stop.mk ?_)
  k_with "eval ListComp" => (k_here; refine Stop.mk ?_)
  k_with "exec Assign" => (k_here; (have hX : Halt := by assumption); (clear hX); (with_reducible show wpAny _ _ (exec (Stmt.Assign [Expr.Name (PySem.Str.ofString "told") _] _ _) _) _ _ _); refine Stop.mk ?_)
  k_with "exec Assign" => (k_here; (have hX : Halt := by assumption); (clear hX); (with_reducible show wpAny _ _ (exec (Stmt.Assign [Expr.Name (PySem.Str.ofString "masks") _] _ _) _) _ _ _); refine Stop.mk ?_)
  k_with "exec Assign" => (k_here; (have hX : Halt := by assumption); (clear hX); (with_reducible show wpAny _ _ (exec (Stmt.Assign [Expr.Name (PySem.Str.ofString "rest") _] _ _) _) _ _ _); refine Stop.mk ?_)
  k_with "exec Assign" => (k_here; (have hX : Halt := by assumption); (clear hX); (with_reducible show wpAny _ _ (exec (Stmt.Assign [Expr.Name (PySem.Str.ofString "items") _] _ _) _) _ _ _); refine Stop.mk ?_)
  k_with "exec Assign" => (k_here; (have hX : Halt := by assumption); (clear hX); (with_reducible show wpAny _ _ (exec (Stmt.Assign [Expr.Name (PySem.Str.ofString "kept") _] _ _) _) _ _ _); refine Stop.mk ?_)
  k_with "exec Assign" => (k_here; (have hX : Halt := by assumption); (clear hX); (with_reducible show wpAny _ _ (exec (Stmt.Assign [Expr.Name (PySem.Str.ofString "number") _] _ _) _) _ _ _); refine Stop.mk ?_)
  k_with "exec Assign" => (k_here; (have hX : Halt := by assumption); (clear hX); (with_reducible show wpAny _ _ (exec (Stmt.Assign [Expr.Name (PySem.Str.ofString "turned") _] _ _) _) _ _ _); refine Stop.mk ?_)
  k_with "exec Assign" => (k_here; (have hX : Halt := by assumption); (clear hX); (with_reducible show wpAny _ _ (exec (Stmt.Assign [Expr.Name (PySem.Str.ofString "whole") _] _ _) _) _ _ _); refine Stop.mk ?_)
  k_with "exec Assign" => (k_here; (have hX : Halt := by assumption); (clear hX); (with_reducible show wpAny _ _ (exec (Stmt.Assign [Expr.Name (PySem.Str.ofString "left") _] _ _) _) _ _ _); refine Stop.mk ?_)
  k_with "exec Assign" => (k_here; (have hX : Halt := by assumption); (clear hX); (with_reducible show wpAny _ _ (exec (Stmt.Assign [Expr.Name (PySem.Str.ofString "rows") _] _ _) _) _ _ _); refine Stop.mk ?_)
  k_with "exec Assign" => (k_here; (have hX : Halt := by assumption); (clear hX); (with_reducible show wpAny _ _ (exec (Stmt.Assign [Expr.Name (PySem.Str.ofString "below") _] _ _) _) _ _ _); refine Stop.mk ?_)
  k_with "exec For" => (k_here; refine Stop.mk ?_)
  k_with "exec For Name List cons nil" => (k_here; k_dflt (refine' For_list (by k_asm) rfl ?_))
  k_with "newList" => (k_here; (with_reducible show wpAny _ _ (newList []) _ _ _); k_dflt (refine' newList_nil (by k_asm) (by k_asm) ?_; k_whole); intro _ _ _ _ _; (try dsimp only))
  k_with "call ref" => (k_here; (with_reducible show wpAny _ _ (call (Value.ref 63) _) _ _ _); k_dflt (refine' use_lev (by with_reducible assumption) (by with_reducible assumption) (by with_reducible assumption) (by with_reducible assumption) (by with_reducible assumption) (by k_asm) (by k_asm) (by k_asm) (by k_asm) (by k_asm) (by exact rfl) (by decide) (by decide) (by with_reducible assumption) (by with_reducible assumption) (by (intro _ rwhq; repeat (first | exact rwhq | refine List.Mem.tail _ ?_))) ?_; k_whole; intro _ _ _ _ _; (try dsimp only)))
  k_with "subscriptTail Name Name ref int" => (k_here; (with_reducible show wpAny _ _ (subscriptTail _ _ (Value.ref _) (Value.int ((_ : Nat) : Int) _)) _ _ _); k_dflt (refine' item_at (by k_asm) (by k_mem) (by with_reducible assumption) (by with_reducible assumption) ?_ (by with_unfolding_all rfl) (by (intro _; with_unfolding_all rfl)); k_whole))
  k_with "subscriptTail Name BinOp ref int" => (k_here; (with_reducible show wpAny _ _ (subscriptTail _ _ (Value.ref _) (Value.int _ _)) _ _ _); k_dflt (refine' item_sub (by k_asm) (by k_mem) (by with_reducible assumption) (by with_reducible assumption) (by with_reducible assumption) ?_ (by with_unfolding_all rfl) (by (intro _; with_unfolding_all rfl)); k_whole))
  k_with "call type:str" => (k_here; k_dflt (refine' str_int (by with_reducible assumption) (by with_reducible assumption) ?_; k_whole); (try dsimp only))
  k_with "subscriptTail Name Constant ref int" => (k_here; k_dflt (refine' item_in (p := 0) (by k_asm) (by with_reducible assumption) (by with_reducible assumption) (by decide) ?_ (by with_unfolding_all rfl) (by (intro _; with_unfolding_all rfl)); k_whole))
  trivial
set_option maxRecDepth 100000 in
set_option maxHeartbeats 8000000 in
theorem lawY : PySem.Challenge.rw_tv0055_01.Holds := hd (by
  k_with "hcOn" => skip
  k_with "hcN" => (first | exact ⟨default⟩ | exact ⟨{}⟩ | exact ⟨Mine.w0⟩ | exact ⟨[]⟩ | exact ⟨⟨default, default, default, default⟩⟩ | (refine Nonempty.intro ?_; constructor <;> first | exact default | exact {} | exact [] | exact #[]))
  k_with "hcI" => (refine (Mine.hc_all ?_ ((?_ : Mine.AllOf _) _) : Mine.AllOf _); k_extra "hcN")
  k_with "hcI2" => (((fail_if_success (fail_if_success (with_reducible refine (?_ : Mine.AllP2 _)))); refine (Mine.hc_all2 ?_ ?_ ((?_ : Mine.AllP2 _) _ _) : Mine.AllP2 _); k_extra "hcN"; k_extra "hcN"))
  k_with "hcI3" => (((fail_if_success (fail_if_success (with_reducible refine (?_ : Mine.AllP3 _)))); refine (Mine.hc_all3 ?_ ?_ ?_ ((?_ : Mine.AllP3 _) _ _ _) : Mine.AllP3 _); k_extra "hcN"; k_extra "hcN"; k_extra "hcN"))
  k_with "hcI4" => (((fail_if_success (fail_if_success (with_reducible refine (?_ : Mine.AllP4 _)))); refine (Mine.hc_all4 ?_ ?_ ?_ ?_ ((?_ : Mine.AllP4 _) _ _ _ _) : Mine.AllP4 _); k_extra "hcN"; k_extra "hcN"; k_extra "hcN"; k_extra "hcN"))
  k_with "hcX" => (first | (refine ((?_ : Mine.AndK hN _) (And.left hN) (And.right hN))) | (refine ((?_ : Mine.ExK hN _) _ (Mine.hc_ex ?_ hN)); rotate_left; k_extra "hcN") | (refine ((?_ : Mine.ExK hN _) default (Mine.hc_ex ?_ hN)); rotate_left; k_extra "hcN"))
  k_with "hcC" => (refine (Mine.pf hN).casesOn ?_; clear hN)
  k_with "k_fold" => skip
  k_with "k_upd" => (refine' upd_of (by assumption) (by rfl) (by rfl) (by (repeat (first | exact UpdR.head | apply UpdR.tail))))
  k_with "k_updF" => (refine' updF_of (by assumption) (by rfl) (by rfl) (by (repeat (first | exact UpdS.head | apply UpdS.tail))))
  k_with "k_lt" => ((with_reducible rename NdL _ _ => hNd0); first | replace hNd0 := nd_cons hNd0 rfl rfl hLt9 | replace hNd0 := nd_ne hNd0 rfl rfl hLt9 | replace hNd0 := nd_allNe hNd0 rfl rfl hLt9)
  k_with "k_lt2" => ((with_reducible rename NdL _ _ => hNd0); replace hNd0 := nd_x hNd0 rfl rfl (by assumption) hLt9)
  k_go0
  rename_i w s₀ s₁ mg mb G Y fa o pm cd doc ho hcd hg X V T B TE TW script hs hlay0 hL0 hr0 hl2 as1 as2 ls vals as3 hL ra w1 r0 hI hr1 hc1 hc2 hD h1 tk1 o1 o2 o3 d1 d2 d3 X0 X' T' K' F' N' l0
  dsimp only at hcd d1 d2 d3 X0 F' hD
  have hLg := ghost_list hT9 hL
  have hsn : script.length ≤ 63 := by omega
  have hHalt : Halt := ⟨trivial⟩
  clear hc2 hr1 hr0 hs hlay0 hL0 hl2 w1 r0 hL ra X V T B TE TW G Y ho hD hcd hT8 hT9
  dsimp only
  obtain ⟨hp0, gn0, dr0, tk0, os0⟩ := s₁
  dsimp only at K' F' codeHd N' hLg X' T' l0 hg ⊢
  subst hg
  have d1' : o1.data = Data.cell none := d1
  have d2' : o2.data = Data.cell none := d2
  have d3' : o3.data = Data.cell none := d3
  clear d1 d2 d3
  generalize hg0 : ghostOf hp0 [(150, 148)] = g0 at K' F' codeHd N' hLg X' T' ⊢
  generalize hL0 : hp0.objs.size = L0 at F' N' l0 ⊢
  have nd0 : NdL [L0 + 1 + 1 + 1, L0 + 1 + 1, L0 + 1, 148] [] := ⟨by simp only [List.nodup_cons, List.mem_cons, List.not_mem_nil, or_false, not_or, List.nodup_nil, and_true, not_false_eq_true]; omega, fun _ h => nomatch h⟩
  clear l0
  refine frE F' [(Str.ofString "script", some (.ref ls))] rfl ?_
  intro um0 F0
  clear F'
  refine wpAny_mono (Q := LawEnd g0 L0 os0) (E := fun _ _ => False) ?_ ?endQ (fun _ _ y => y.elim)
  case endQ =>
    intro f s₂ hE
    cases hE with | mk F grown =>
    refine ⟨?_, grown⟩
    dsimp only
    refine goodW_bool F rfl (raisesW_false ?_) ?_
    · wrow_none_raised
    · wrow_post
  clear hg0 hL0 X0 hc1
  skip
  revert w s₀ mg mb fa o pm cd doc script as1 as2 ls vals as3 hI h1 tk1 o1 o2 o3 hsn hHalt hp0 dr0 tk0 os0 lifted d1' d2' d3' g0 K' codeHd hLg X' T' L0 N' nd0 um0 F0
  intro w s₀ mg mb fa o pm cd doc script as1 as2 ls vals as3 hI h1 tk1 o1 o2 o3 hsn hHalt hp0 dr0 tk0 os0 lifted d1' d2' d3' g0 K' codeHd hLg X' T' L0 N' nd0 um0 F0
  k_extra "ks"
  unfold Stop
  (with_reducible rename Fr _ _ _ _ => FA)
  (with_reducible rename News _ _ _ _ => NA)
  rename_i lw vw nw hw tkw stw hW l1w l2w hw2 ow dw tkd q la lb nq vm vt na nb ma mb hq tkq iA pA sA iB pB sB h6 h7 h7b ot dt tkb h8 tk8 t8 h9 tk9 h10 tk10 t10 h11
  obtain ⟨ms, rfl, hM⟩ := mine_nat pA sA
  obtain ⟨ts, rfl, hTs⟩ := theirs_nat pB sB
  obtain ⟨hi, ehi, hi3⟩ := fmod3 script.sum
  obtain ⟨ho, eho, ho3⟩ := fmod3 (script.sum.fdiv 3)
  rw [ehi, eho] at FA
  have hW' : StrsAre vw opW := hW
  have nd2 : NdL [L0 + 1 + 1 + 1, 148] [(la, W.listOf vm.toArray na), (lb, W.listOf vt.toArray nb), (lw, W.listOf vw.toArray nw), (L0 + 1 + 1, ot), (L0 + 1, ow)] := nd_pack (bs := [la, lb, lw, L0 + 1 + 1, L0 + 1]) (hNd0.pick [4, 7, 1, 2, 3, 5, 6] (by decide) rfl) rfl
  have NB : News g0 L0 h11 ((L0 + 1 + 1 + 1, o1) :: (148, tabObj #[]) :: [(la, W.listOf vm.toArray na), (lb, W.listOf vt.toArray nb), (lw, W.listOf vw.toArray nw), (L0 + 1 + 1, ot), (L0 + 1, ow)]) := news_pick NA [4, 7, 1, 2, 3, 5, 6] rfl
  have mla : (la, W.listOf vm.toArray na) ∈ [(la, W.listOf vm.toArray na), (lb, W.listOf vt.toArray nb), (lw, W.listOf vw.toArray nw), (L0 + 1 + 1, ot), (L0 + 1, ow)] := .head _
  have mlb : (lb, W.listOf vt.toArray nb) ∈ [(la, W.listOf vm.toArray na), (lb, W.listOf vt.toArray nb), (lw, W.listOf vw.toArray nw), (L0 + 1 + 1, ot), (L0 + 1, ow)] := List.mem_of_getElem? (i := 1) rfl
  have mlw : (lw, W.listOf vw.toArray nw) ∈ [(la, W.listOf vm.toArray na), (lb, W.listOf vt.toArray nb), (lw, W.listOf vw.toArray nw), (L0 + 1 + 1, ot), (L0 + 1, ow)] := List.mem_of_getElem? (i := 2) rfl
  have mc2 : (L0 + 1 + 1, ot) ∈ [(la, W.listOf vm.toArray na), (lb, W.listOf vt.toArray nb), (lw, W.listOf vw.toArray nw), (L0 + 1 + 1, ot), (L0 + 1, ow)] := List.mem_of_getElem? (i := 3) rfl
  have mc1 : (L0 + 1, ow) ∈ [(la, W.listOf vm.toArray na), (lb, W.listOf vt.toArray nb), (lw, W.listOf vw.toArray nw), (L0 + 1 + 1, ot), (L0 + 1, ow)] := List.mem_of_getElem? (i := 4) rfl
  generalize [(la, W.listOf vm.toArray na), (lb, W.listOf vt.toArray nb), (lw, W.listOf vw.toArray nw), (L0 + 1 + 1, ot), (L0 + 1, ow)] = tS at nd2 NB mla mlb mlw mc2 mc1
  revert tS
  intro tS
  set_option tactic.hygienic false in intros
  clear l1w l2w rwl1 rwl2 rwl3 rwl4 hNd0 NA pA sA pB sB stw hW
  refine frE FA [(Str.ofString "script", some (.ref ls)), (Str.ofString "mine", some (.ref la)), (Str.ofString "high", some (.int (hi : Int) _)), (Str.ofString "other", some (.int (ho : Int) _))] rfl ?_
  intro um1 F1
  clear FA
  generalize tk8 + 1 = t8' at F1
  revert t8'
  intro t8'
  set_option tactic.hygienic false in intros
  generalize tk10 + 1 + 1 + 1 = t10' at F1
  revert t10'
  intro t10'
  set_option tactic.hygienic false in intros
  have hm0 : ms ≠ [] := by intro e; have := hM.h3; rw [e] at this; cases this
  have ht0 : ts ≠ [] := by intro e; have := hTs.h10; rw [e] at this; cases this
  have hml := hM.len
  have htl := hTs.len
  have hP1 := pArg hM.sorted hM.lt hm0 hi3
  have hs1 := told_split hM.sorted hM.lt hm0 hi3
  have hs2 := told_len hM.sorted hM.lt hi3
  clear hHalt
  k_extra "ks"
  unfold Stop
  refine' ListComp_ready (cl := ?cl1) (fun _ => true) ShiftIs rfl ?kcl1 (by decide) rfl (by decide) ?_
  case kcl1 => rfl
  k_extra "ks"
  (with_reducible rename Fr _ _ _ _ => FB)
  (with_reducible rename News _ _ _ _ => NB)
  have hl1 := iA.length
  rw [List.length_map] at hl1
  refine ⟨la, vm, rfl, PySem.IsL.isList (News.get NB (by k_mem)), by rw [sizeLine_eq]; omega, ?_, ?_⟩
  · clear hP1 hs1 hs2
    intro C i v s₃ m₃ hC hi hn hs3 st
    obtain ⟨x, t, rfl, hx⟩ := ints_get iA hi
    rw [List.getElem?_map] at hx
    obtain ⟨p, hp, rfl⟩ := Option.map_eq_some_iff.mp hx
    obtain ⟨h₃, tk₃, rfl⟩ := hs3
    have hp32 := hM.lt p (List.mem_of_getElem? hp)
    refine turn_name FB NB hC st hn rfl rfl ?_
    intro h4 tk4 oC m₂ hoC hm2 F4 N4 st4 hne hL
    iterate 4 walk1
    exact ⟨_, _, rfl, fun _ _ e => e, rfl, fun hf _ => shift_end⟩
  intro D h' tk' ys k hD hg hp st
  obtain ⟨F3, N3, hne, hL⟩ := on_size FB NB hD hg st
  rw [filter_true] at hp
  have hys : IntsAre ys (ms.map fun p => ((2 ^ p : Nat) : Int)) := ints_pow iA hp
  clear hp st hD hg FB NB hne
  try dsimp only
  have hHalt : Halt := ⟨trivial⟩
  k_extra "ks"
  unfold Stop
  (with_reducible rename Fr _ _ _ _ => FA)
  (with_reducible rename News _ _ _ _ => NA)
  revert rwl1
  intro l1
  rename_i ld vd hld tkd hTold h12
  have nd3 := nd_c2 (d := ld) (o := W.listOf vd.toArray 0) nd2 (Nat.ne_of_lt l1.2.1) (Nat.ne_of_lt l1.2.2.1)
  have NB : News g0 L0 _ ((L0 + 1 + 1 + 1, o1) :: (148, tabObj #[]) :: (ld, W.listOf vd.toArray 0) :: tS) := news_cons (NA _ (List.mem_of_getElem? (i := 2) rfl)) (news_cons (NA _ (List.mem_of_getElem? (i := 3) rfl)) (news_cons (NA _ (.head _)) fun q hq => NA q (List.mem_of_mem_drop (i := 4) hq)))
  clear NA nd2 l1 hs1 hs2 hP1 hys hL
  refine frE FA [(Str.ofString "script", some (.ref ls)), (Str.ofString "mine", some (.ref la)), (Str.ofString "high", some (.int (hi : Int) _)), (Str.ofString "other", some (.int (ho : Int) _)), (Str.ofString "told", some (.ref ld))] rfl ?_
  intro um2 F2
  clear FA
  have hP1 := pArg hTs.sorted hTs.lt ht0 ho3
  have hs1 := told_split hTs.sorted hTs.lt ht0 ho3
  have hs2 := told_len hTs.sorted hTs.lt ho3
  clear hHalt
  k_extra "ks"
  unfold Stop
  refine' ListComp_ready (cl := ?cl2) (fun _ => true) ShiftIs rfl ?kcl2 (by decide) rfl (by decide) ?_
  case kcl2 => rfl
  k_extra "ks"
  (with_reducible rename Fr _ _ _ _ => FB)
  (with_reducible rename News _ _ _ _ => NB)
  have hl1 := iB.length
  rw [List.length_map] at hl1
  refine ⟨lb, vt, rfl, PySem.IsL.isList (News.get NB (List.mem_of_mem_drop (i := 3) mlb)), by rw [sizeLine_eq]; omega, ?_, ?_⟩
  · clear hP1 hs1 hs2
    intro C i v s₃ m₃ hC hi hn hs3 st
    obtain ⟨x, t, rfl, hx⟩ := ints_get iB hi
    rw [List.getElem?_map] at hx
    obtain ⟨p, hp, rfl⟩ := Option.map_eq_some_iff.mp hx
    obtain ⟨h₃, tk₃, rfl⟩ := hs3
    have hp32 := hTs.lt p (List.mem_of_getElem? hp)
    refine turn_name FB NB hC st hn rfl rfl ?_
    intro h4 tk4 oC m₂ hoC hm2 F4 N4 st4 hne hL
    iterate 4 walk1
    exact ⟨_, _, rfl, fun _ _ e => e, rfl, fun hf _ => shift_end⟩
  intro D h' tk' ys k hD hg hp st
  obtain ⟨F3, N3, hne, hL⟩ := on_size FB NB hD hg st
  rw [filter_true] at hp
  have hys : IntsAre ys (ts.map fun p => ((2 ^ p : Nat) : Int)) := ints_pow iB hp
  clear hp st hD hg FB NB hne
  try dsimp only
  have hHalt : Halt := ⟨trivial⟩
  k_extra "ks"
  unfold Stop
  (with_reducible rename Fr _ _ _ _ => FA)
  (with_reducible rename News _ _ _ _ => NA)
  revert rwl1
  intro l1
  rename_i lk0 vk hlk tkk hMask h13
  have nd4 := nd_c2 (d := lk0) (o := W.listOf vk.toArray 0) nd3 (Nat.ne_of_lt l1.2.1) (Nat.ne_of_lt l1.2.2.1)
  have NB : News g0 L0 _ ((L0 + 1 + 1 + 1, o1) :: (148, tabObj #[]) :: (lk0, W.listOf vk.toArray 0) :: (ld, W.listOf vd.toArray 0) :: tS) := news_cons (NA _ (List.mem_of_getElem? (i := 2) rfl)) (news_cons (NA _ (List.mem_of_getElem? (i := 3) rfl)) (news_cons (NA _ (.head _)) fun q hq => NA q (List.mem_of_mem_drop (i := 4) hq)))
  clear NA nd3 l1 hs1 hs2 hP1 hys hL
  refine frE FA [(Str.ofString "script", some (.ref ls)), (Str.ofString "mine", some (.ref la)), (Str.ofString "high", some (.int (hi : Int) _)), (Str.ofString "other", some (.int (ho : Int) _)), (Str.ofString "told", some (.ref ld)), (Str.ofString "masks", some (.ref lk0))] rfl ?_
  intro um3 F3
  have mld : (ld, W.listOf vd.toArray 0) ∈ (lk0, W.listOf vk.toArray 0) :: (ld, W.listOf vd.toArray 0) :: tS := .tail _ (.head _)
  have mlk : (lk0, W.listOf vk.toArray 0) ∈ (lk0, W.listOf vk.toArray 0) :: (ld, W.listOf vd.toArray 0) :: tS := .head _
  replace mla := List.mem_cons_of_mem (lk0, W.listOf vk.toArray 0) (List.mem_cons_of_mem (ld, W.listOf vd.toArray 0) mla)
  replace mlb := List.mem_cons_of_mem (lk0, W.listOf vk.toArray 0) (List.mem_cons_of_mem (ld, W.listOf vd.toArray 0) mlb)
  replace mlw := List.mem_cons_of_mem (lk0, W.listOf vk.toArray 0) (List.mem_cons_of_mem (ld, W.listOf vd.toArray 0) mlw)
  replace mc2 := List.mem_cons_of_mem (lk0, W.listOf vk.toArray 0) (List.mem_cons_of_mem (ld, W.listOf vd.toArray 0) mc2)
  replace mc1 := List.mem_cons_of_mem (lk0, W.listOf vk.toArray 0) (List.mem_cons_of_mem (ld, W.listOf vd.toArray 0) mc1)
  generalize (lk0, W.listOf vk.toArray 0) :: (ld, W.listOf vd.toArray 0) :: tS = tS2 at nd4 NB mld mlk mla mlb mlw mc2 mc1
  revert tS2
  intro tS2
  set_option tactic.hygienic false in intros
  clear FA
  refine' Assign_ListComp_list (cl := ?cl3) (intP fun p => decide (p ∉ ts)) (fun _ v y => y = v) ?hsw3 rfl ?kcl3 (by decide) rfl (by decide) ?hy3 ?hp3 ?_
  case hsw3 => with_unfolding_all rfl
  case kcl3 => rfl
  case hy3 => rfl
  case hp3 => rfl
  k_extra "ks"
  (with_reducible rename Fr _ _ _ _ => FB)
  (with_reducible rename News _ _ _ _ => NB)
  have hl1 := iA.length
  rw [List.length_map] at hl1
  refine ⟨la, vm, _, _, _, rfl, PySem.IsL.isList (News.get NB (List.mem_of_mem_drop (i := 2) mla)), by rw [sizeLine_eq]; omega, FB, NB, ?_, ?_⟩
  · intro C i v s₃ m₃ hC hi hn hs3 st
    obtain ⟨x, t, rfl, hx⟩ := ints_get iA hi
    rw [List.getElem?_map] at hx
    obtain ⟨p, hp, rfl⟩ := Option.map_eq_some_iff.mp hx
    obtain ⟨h₃, tk₃, rfl⟩ := hs3
    refine turn_name_if FB NB hC st hn rfl rfl ?_
    intro h4 tk4 oC m₂ hoC hm2 F4 N4 st4 hne hL
    have hlb4 : h4.IsList lb vt.toArray := PySem.IsL.isList (News.get N4 (List.mem_of_mem_drop (i := 3) mlb))
    iterate 3 walk1
    repeat walk1
    · exact fun _ _ e => e
    · exact intP_out (by assumption)
    · repeat walk1
      exact ⟨_, _, rfl, fun _ _ e => e, intP_in (by assumption), fun hf _ => rfl⟩
  intro D h' tk' ys k hp F3b N3 hne hD up
  have nd5 := nd_allNe nd4 rfl rfl hne
  have hR := same_list hp
  subst hR
  have iR := ints_filter (f := fun p => decide (p ∉ ts)) iA
  replace N3 : News g0 L0 h' ((D, W.listOf _ k) :: (L0 + 1 + 1 + 1, o1) :: (148, tabObj #[]) :: tS2) := N3
  generalize List.filter (intP fun p => decide (p ∉ ts)) vm = vr at iR N3
  revert vr
  intro vr
  set_option tactic.hygienic false in intros
  clear hne hp up hD FB NB nd4 hl1
  replace F3b : Fr g0 L0 h' _ := F3b
  refine frE F3b [(Str.ofString "script", some (.ref ls)), (Str.ofString "mine", some (.ref la)), (Str.ofString "high", some (.int (hi : Int) _)), (Str.ofString "other", some (.int (ho : Int) _)), (Str.ofString "told", some (.ref ld)), (Str.ofString "masks", some (.ref lk0)), (Str.ofString "rest", some (.ref D))] rfl ?_
  intro um4 F4
  clear F3b
  dsimp only
  k_extra "ks"
  unfold Stop
  refine wpAny_Assign_Name ?_
  refine' ListComp_ready (cl := ?cl5) (fun _ => true) (PairG g0 [L0, D, L0 + 1 + 1 + 1, 148] flagName opWord) rfl ?kcl5 (by decide) rfl (by decide) ?_
  case kcl5 => rfl
  k_extra "ks"
  (with_reducible rename Fr _ _ _ _ => FB)
  (with_reducible rename News _ _ _ _ => NB)
  have hl1 := iA.length
  rw [List.length_map] at hl1
  refine ⟨la, vm, rfl, PySem.IsL.isList (News.get NB (List.mem_of_mem_drop (i := 3) mla)), by rw [sizeLine_eq]; omega, ?_, ?_⟩
  · intro C i v s₃ m₃ hC hi hn hs3 st
    obtain ⟨x, t, rfl, hx⟩ := ints_get iA hi
    rw [List.getElem?_map] at hx
    obtain ⟨p, hp, rfl⟩ := Option.map_eq_some_iff.mp hx
    obtain ⟨h₃, tk₃, rfl⟩ := hs3
    have hp32 := hM.lt p (List.mem_of_getElem? hp)
    refine turn_name FB NB hC st hn rfl rfl ?_
    intro h4 tk4 oC m₂ hoC hm2 F4 N4 st4 hne hL
    iterate 17 walk1
    (with_reducible rename Fr _ _ _ _ => F7)
    (with_reducible rename News _ _ _ _ => N7)
    exact tuple_turn F7 N7 ⟨_, _, rfl⟩ (by assumption) rfl (List.forall_mem_cons.mpr ⟨(let ⟨o, _, _, ho, _⟩ := F7.ns; ⟨o, ho⟩), List.forall_mem_cons.mpr ⟨⟨_, (N7 (D, _) (List.mem_of_getElem? (i := 1) rfl)).1⟩, List.forall_mem_cons.mpr ⟨⟨_, (N7 (L0 + 1 + 1 + 1, _) (List.mem_of_getElem? (i := 2) rfl)).1⟩, List.forall_mem_cons.mpr ⟨⟨_, (N7 (148, _) (List.mem_of_getElem? (i := 3) rfl)).1⟩, List.forall_mem_nil _⟩⟩⟩⟩) rfl rfl
  intro D5 h5 tk5 ys5 k5 hD5 hg5 hp5 st5
  obtain ⟨F5, N5, hne5, hL5⟩ := on_size FB NB hD5 hg5 st5
  rw [filter_true] at hp5
  obtain ⟨tlI, hPI, htI⟩ := pairG_tail iA hp5
  have hoI := tail_off hg5 (fun q hq => (htI q hq).2.2)
  have NI := news_tail (cells := [_, _, _, _]) N5 (tail_news (m := um4) (H := h5) (.head _) htI)
  have nd6 := nd_tail (nd_allNe nd5 rfl rfl hne5) fun q hq => List.forall_mem_cons.mpr ⟨hoI q hq, fun z hz => (htI q hq).2.1 z (.tail _ hz)⟩
  replace hPI := paired_map (fun v p x => x.mono fun q hq => List.mem_append_left tS2 hq) hPI
  replace mld := List.mem_append_right tlI mld
  replace mlk := List.mem_append_right tlI mlk
  replace mlw := List.mem_append_right tlI mlw
  replace mc1 := List.mem_append_right tlI mc1
  clear htI hp5 st5 hg5 hD5 NB FB N5 hne5 hoI nd5 mla mlb mc2 hl1
  dsimp only [List.cons_append, List.nil_append] at NI
  generalize tlI ++ tS2 = tS3 at NI nd6 hPI mld mlk mlw mc1
  revert tS3
  intro tS3
  set_option tactic.hygienic false in intros
  try dsimp only
  k_extra "ks"
  unfold Stop
  rename_i hz6 oI FI NI2 dI0
  refine' Assign_ListComp_list (cl := ?cl6) (fun _ => true) (PairG g0 [L0, D5, D, 148] (fun p => Txt.lower (flagName p)) opWord) ?hsw6 rfl ?kcl6 (by decide) rfl (by decide) ?hy6 ?hp6 ?_
  case hsw6 => with_unfolding_all rfl
  case kcl6 => rfl
  case hy6 => rfl
  case hp6 => rfl
  k_extra "ks"
  (with_reducible rename Fr _ _ _ _ => FB)
  (with_reducible rename News _ _ _ _ => NB)
  have hl6 := iR.length
  rw [List.length_map] at hl6
  have hrl := List.length_filter_le (fun p => decide (p ∉ ts)) ms
  refine ⟨D, vr, _, _, _, rfl, PySem.IsL.isList (News.get NB (.tail _ (.head _))), by rw [sizeLine_eq]; omega, FB, NB, ?_, ?_⟩
  · intro C i v s₃ m₃ hC hi hn hs3 st
    obtain ⟨x, t, rfl, hx⟩ := ints_get iR hi
    rw [List.getElem?_map] at hx
    obtain ⟨p, hp, rfl⟩ := Option.map_eq_some_iff.mp hx
    obtain ⟨h₃, tk₃, rfl⟩ := hs3
    have hp32 := hM.lt p (List.mem_filter.mp (List.mem_of_getElem? hp)).1
    have hfl := flagName_len hp32
    refine turn_name FB NB hC st hn rfl rfl ?_
    intro h4 tk4 oC m₂ hoC hm2 F4 N4 st4 hne hL
    iterate 21 walk1
    (with_reducible rename Fr _ _ _ _ => F7)
    (with_reducible rename News _ _ _ _ => N7)
    exact tuple_turn F7 N7 ⟨_, _, rfl⟩ (by assumption) rfl (List.forall_mem_cons.mpr ⟨(let ⟨o, _, _, ho, _⟩ := F7.ns; ⟨o, ho⟩), List.forall_mem_cons.mpr ⟨⟨_, (N7 (D5, _) (List.mem_of_getElem? (i := 1) rfl)).1⟩, List.forall_mem_cons.mpr ⟨⟨_, (N7 (D, _) (List.mem_of_getElem? (i := 2) rfl)).1⟩, List.forall_mem_cons.mpr ⟨⟨_, (N7 (148, _) (List.mem_of_getElem? (i := 4) rfl)).1⟩, List.forall_mem_nil _⟩⟩⟩⟩) rfl rfl
  intro D6 h6 tk6 ys6 k6 hp6 F6 N6 hne6 hD6 up6
  rw [filter_true] at hp6
  replace F6 : Fr g0 L0 h6 _ := F6
  replace N6 : News g0 L0 h6 ((D6, _) :: (D5, _) :: (D, _) :: (L0 + 1 + 1 + 1, _) :: (148, tabObj #[]) :: tS3) := N6
  obtain ⟨tlK, hPK, htK⟩ := pairG_tail iR hp6
  have hoK := tail_off (N6 _ (.head _)).1 (fun q hq => (htK q hq).2.2)
  have NK := news_in4 N6 (tail_news (m := um4) (H := h6) (.head _) htK)
  have nd7 := nd_in4 (o := oI) (nd_allNe nd6 rfl rfl hne6) fun q hq => List.forall_mem_cons.mpr ⟨hoK q hq, fun z hz => (htK q hq).2.1 z (.tail _ hz)⟩
  replace hPI := paired_map (fun v p x => x.mono fun q hq => .tail (L0 + 1 + 1 + 1, oI) (List.mem_append_right tlK hq)) hPI
  replace hPK := paired_map (fun v p x => x.mono fun q hq => .tail (L0 + 1 + 1 + 1, oI) (List.mem_append_left tS3 hq)) hPK
  replace mld := List.mem_cons_of_mem (L0 + 1 + 1 + 1, oI) (List.mem_append_right tlK mld)
  replace mlk := List.mem_cons_of_mem (L0 + 1 + 1 + 1, oI) (List.mem_append_right tlK mlk)
  have mc3 : (L0 + 1 + 1 + 1, oI) ∈ (L0 + 1 + 1 + 1, oI) :: (tlK ++ tS3) := .head _
  clear htK hp6 hne6 up6 hD6 FB NB N6 hoK nd6 mlw mc1
  generalize ((L0 + 1 + 1 + 1, oI) :: (tlK ++ tS3) : List (Addr × Obj)) = tS4 at NK nd7 hPI hPK mld mlk mc3
  revert tS4
  intro tS4
  set_option tactic.hygienic false in intros
  refine frE F6 [(Str.ofString "script", some (.ref ls)), (Str.ofString "high", some (.int (hi : Int) _)), (Str.ofString "other", some (.int (ho : Int) _)), (Str.ofString "told", some (.ref ld)), (Str.ofString "masks", some (.ref lk0)), (Str.ofString "rest", some (.ref D)), (Str.ofString "kept", some (.ref D6))] rfl ?_
  intro um6 F7
  clear F6
  dsimp only
  clear hHalt
  k_extra "ks"
  unfold Stop
  refine' ListComp_ready (cl := ?cl7) (fun _ => true) ShiftIs rfl ?kcl7 (by decide) rfl (by decide) ?_
  case kcl7 => rfl
  k_extra "ks"
  (with_reducible rename Fr _ _ _ _ => FB)
  (with_reducible rename News _ _ _ _ => NB)
  refine ⟨D, vr, rfl, PySem.IsL.isList (News.get NB (List.mem_of_getElem? (i := 2) rfl)), by rw [sizeLine_eq]; omega, ?_, ?_⟩
  · intro C i v s₃ m₃ hC hi hn hs3 st
    obtain ⟨x, t, rfl, hx⟩ := ints_get iR hi
    rw [List.getElem?_map] at hx
    obtain ⟨p, hp, rfl⟩ := Option.map_eq_some_iff.mp hx
    obtain ⟨h₃, tk₃, rfl⟩ := hs3
    have hp32 := hM.lt p (List.mem_filter.mp (List.mem_of_getElem? hp)).1
    refine turn_name FB NB hC st hn rfl rfl ?_
    intro h4 tk4 oC m₂ hoC hm2 F4 N4 st4 hne hL
    iterate 4 walk1
    exact ⟨_, _, rfl, fun _ _ e => e, rfl, fun hf _ => shift_end⟩
  intro D7 h7 tk7 ys7 k7 hD7 hg7 hp7 st7
  obtain ⟨F7b, N7, hne7, hL7⟩ := on_size FB NB hD7 hg7 st7
  rw [filter_true] at hp7
  have hys := ints_pow iR hp7
  clear hp7 st7 hg7 hD7 hne7 hL7 FB NB
  have hHalt : Halt := ⟨trivial⟩
  try dsimp only
  k_extra "ks"
  unfold Stop
  (with_reducible rename News _ _ _ _ => NU)
  replace NU := news_tl NU
  refine wpAny_mono (Q := IfP g0 L0 dr0 os0 ls ld lk0 D D5 D6 hi ho ms ts tS4) ?_ ?_ (fun _ _ y => y)
  · clear hHalt
    have hz5 : ys5.toArray.size ≤ sizeLine := by have := paired_len hPI; rw [List.length_map] at this; rw [List.size_toArray, sizeLine_eq]; omega
    have hz6 : ys6.toArray.size ≤ sizeLine := by have := paired_len hPK; rw [List.length_map] at this; rw [List.size_toArray, sizeLine_eq]; omega
    have hzr : vr.toArray.size ≤ sizeLine := by rw [List.size_toArray, sizeLine_eq]; omega
    k_extra "ks"
    all_goals (try trivial)
    all_goals (with_reducible rename Fr _ _ _ _ => FF)
    all_goals (with_reducible rename News _ _ _ _ => NF)
    all_goals (with_reducible rename NdL _ _ => ndF)
    · (with_reducible rename ((_ : Nat) : Int) ≠ (ho : Int) => hne)
      (with_reducible rename (0 : Int) < ((_ : Nat) : Int) => h0)
      simp only [List.push_toArray] at NF
      exact .mk (tX := [_, _]) (frI FF _ rfl) (if_num h0 hne _) (news_rot (X := [_, _]) (cells := [_, _, _, _]) NF) (if_its hM.lt h0 hi3 hPI (.tail _ (.head _))) (if_kept hM.lt h0 hi3 hne hPK (.head _)) (if_rest h0 hne iR) (nd_apart (as := [_, _]) ndF rfl)
    · (with_reducible rename ((_ : Nat) : Int) = (ho : Int) => hne)
      (with_reducible rename (0 : Int) < ((_ : Nat) : Int) => h0)
      simp only [List.push_toArray] at NF
      exact .mk (tX := [_]) (frI FF _ rfl) (if_num0 (.inr hne) _) (news_rot (X := [_]) (cells := [_, _, _, _]) NF) (if_its hM.lt h0 hi3 hPI (.head _)) (if_kept0 hM.lt (.inr hne) hPK) (if_rest0 (.inr hne) iR) (nd_apart (as := [_]) ndF rfl)
    · (with_reducible rename ¬ (0 : Int) < ((_ : Nat) : Int) => h0)
      exact .mk (tX := []) (frI FF _ rfl) (if_num0 (.inl h0) _) NF (if_its0 hM.lt h0 hPI) (if_kept0 (X := []) hM.lt (.inl h0) hPK) (if_rest0 (.inl h0) iR) (fun q hq => nomatch hq)
  clear NU
  intro f s₂ hIf
  refine (pf hIf).casesOn ?_
  clear hIf
  intro h20 um20 tn tk20 nK nI nR nv wK wI wR tX Fi hnv Ni hPI2 hPK2 iR2 hX
  have N8 : News g0 L0 h20 ((148, tabObj #[]) :: ([(D6, W.listOf wK.toArray nK), (D5, W.listOf wI.toArray nI), (D, W.listOf wR.toArray nR)] ++ (tX ++ tS4))) := news_rot (X := [_, _, _]) (cells := [_]) Ni
  have nd8 : NdL [148] ([(D6, W.listOf wK.toArray nK), (D5, W.listOf wI.toArray nI), (D, W.listOf wR.toArray nR)] ++ (tX ++ tS4)) := nd_into (bs := [D6, D5, D]) ((nd_tail nd7 hX).pick [3, 0, 1, 2] (by decide) rfl) rfl
  have mD6 : (D6, W.listOf wK.toArray nK) ∈ [(D6, W.listOf wK.toArray nK), (D5, W.listOf wI.toArray nI), (D, W.listOf wR.toArray nR)] ++ (tX ++ tS4) := .head _
  have mD5 : (D5, W.listOf wI.toArray nI) ∈ [(D6, W.listOf wK.toArray nK), (D5, W.listOf wI.toArray nI), (D, W.listOf wR.toArray nR)] ++ (tX ++ tS4) := .tail _ (.head _)
  have mD : (D, W.listOf wR.toArray nR) ∈ [(D6, W.listOf wK.toArray nK), (D5, W.listOf wI.toArray nI), (D, W.listOf wR.toArray nR)] ++ (tX ++ tS4) := .tail _ (.tail _ (.head _))
  replace mld := List.mem_append_right [(D6, W.listOf wK.toArray nK), (D5, W.listOf wI.toArray nI), (D, W.listOf wR.toArray nR)] (List.mem_append_right tX mld)
  replace mlk := List.mem_append_right [(D6, W.listOf wK.toArray nK), (D5, W.listOf wI.toArray nI), (D, W.listOf wR.toArray nR)] (List.mem_append_right tX mlk)
  replace mc3 := List.mem_append_right [(D6, W.listOf wK.toArray nK), (D5, W.listOf wI.toArray nI), (D, W.listOf wR.toArray nR)] (List.mem_append_right tX mc3)
  replace hPI2 := paired_map (fun v p x => x.mono fun q hq => List.mem_append_right [(D6, W.listOf wK.toArray nK), (D5, W.listOf wI.toArray nI), (D, W.listOf wR.toArray nR)] hq) hPI2
  replace hPK2 := paired_map (fun v p x => x.mono fun q hq => List.mem_append_right [(D6, W.listOf wK.toArray nK), (D5, W.listOf wI.toArray nI), (D, W.listOf wR.toArray nR)] hq) hPK2
  generalize [(D6, W.listOf wK.toArray nK), (D5, W.listOf wI.toArray nI), (D, W.listOf wR.toArray nR)] ++ (tX ++ tS4) = tS5 at N8 nd8 mD6 mD5 mD mld mlk mc3 hPI2 hPK2
  revert tS5
  intro tS5
  set_option tactic.hygienic false in intros
  have hKl := paired_len hPK2
  clear Ni nd7 hX hPI hPK iR hys hl6 hrl
  have hTE := told_eq (h := hi) hM.lt
  have hTX := tups_of N8 hPI2 (fun q hq => .tail _ hq)
  have hIl := paired_len hPI2
  have hIl2 := its_len (h := hi) (ms := ms)
  clear hHalt
  try dsimp only
  k_extra "ks"
  unfold Stop
  refine' ListComp_ready (cl := ?cl8) (fun _ => true) (fun _ v y => ∀ p, PairVal h20 v p → ∃ t, y = Value.str p.1 t) rfl ?kcl8 (by decide) rfl (by decide) ?_
  case kcl8 => rfl
  k_extra "ks"
  (with_reducible rename Fr _ _ _ _ => FB)
  (with_reducible rename News _ _ _ _ => NB)
  refine ⟨D5, wI, rfl, PySem.IsL.isList (News.get NB (.tail _ mD5)), by rw [sizeLine_eq]; omega, ?_, ?_⟩
  · intro C i v s₃ m₃ hC hi' hn hs3 st
    obtain ⟨p, hpi, hpv⟩ := paired_get hTX i v hi'
    obtain ⟨a, t, t', rfl, hta⟩ := id hpv
    obtain ⟨h₃, tk₃, rfl⟩ := hs3
    refine turn_pair rfl FB NB hC st hn (hta.at fun o e => e) rfl rfl rfl (by decide) ?_
    intro h4 tk4 oC m₂ hoC hm2 hm3 F4 N4 st4 hne hL
    iterate 1 walk1
    exact ⟨_, _, rfl, fun _ _ e => e, rfl, fun hf _ q hq => by rw [hq.uniq hpv]; exact ⟨_, rfl⟩⟩
  intro D8 h8' tk8' ys8 k8 hD8 hg8 hp8 st8
  obtain ⟨F8, N9, hne8, hL8⟩ := on_size FB NB hD8 hg8 st8
  rw [filter_true] at hp8
  have hys8 : StrsAre ys8 ((itsL hi ms).map (·.1)) := tups_strs hTX hp8
  clear hp8 st8 hD8 hne8 hL8 FB NB
  try dsimp only
  refine ne_same (PySem.IsL.isList (News.get N9 (.tail _ (.tail _ mld)))) (PySem.IsL.isList (News.get N9 (.head _))) hTold hys8 (by k_units) hTE ?_
  replace N9 := news_tl N9
  clear hys8 hTX hTE
  have hHalt : Halt := ⟨trivial⟩
  try dsimp only
  k_extra "ks"
  unfold Stop
  refine' Assign_ListComp_down (cl := ?cl9) (fun _ => true) (ItemOf wI) ?hsw9 rfl ?kcl9 (by decide) rfl (by decide) ?hy9 ?hp9 ?_
  case hsw9 => with_unfolding_all rfl
  case kcl9 => rfl
  case hy9 => rfl
  case hp9 => rfl
  clear hHalt
  k_extra "ks"
  (with_reducible rename Fr _ _ _ _ => FB)
  (with_reducible rename News _ _ _ _ => NB)
  (with_reducible rename IsRange _ _ _ _ _ _ _ _ => hr)
  have hi1000 : (itsL hi ms).length ≤ 1000 := by omega
  have hn1 : 1 ≤ (itsL hi ms).length := by
    unfold itsL; rw [List.length_map, List.length_append]
    have := List.length_pos_iff.mpr hm0; omega
  refine ⟨_, _, (itsL hi ms).length, _, _, _, _, _, _, rfl, hr, ?_, ?_, by rw [sizeLine_eq]; omega, FB, NB, ?_, ?_⟩
  · exact down_small hn1 hi1000
  · exact down_size hn1
  · intro C i v s₃ m₃ hC hv' hn hs3 st
    obtain ⟨hi', t, rfl⟩ := hv'
    obtain ⟨h₃, tk₃, rfl⟩ := hs3
    have ek : ((itsL hi ms).length : Int) - 1 + (i : Nat) * (-1) = (((itsL hi ms).length - 1 - i : Nat) : Int) := by omega
    rw [ek]
    have hk1 : (itsL hi ms).length - 1 - i < wI.length := by omega
    have hx9 : wI[(itsL hi ms).length - 1 - i]? = some wI[(itsL hi ms).length - 1 - i] := List.getElem?_eq_getElem hk1
    have hp9 : (itsL hi ms).length - 1 - i < 1000 := by omega
    refine turn_name FB NB hC st hn rfl rfl ?_
    intro h4 tk4 oC m₂ hoC hm2 F4 N4 st4 hne hL
    iterate 4 walk1
    exact ⟨_, _, rfl, fun _ _ e => e, rfl, fun hf _ => item_end hx9⟩
  intro D9 h9' tk9' ys9 k9 vs9 hlen9 hv9 hp9 F9 N9b hne9 hD9 up9
  rw [filter_true] at hp9
  have eR := rev_of (wI := wI) (by rw [hIl]) (by omega) (fun j v e => by rw [hIl]; exact hv9 j v e) hp9
  subst eR
  have nd9 : NdL [148] ((D9, W.listOf wI.reverse.toArray k9) :: tS5) := nd_push (nd_allNe nd8 rfl rfl hne9)
  have N10 : News g0 L0 h9' ((148, tabObj #[]) :: ((D9, W.listOf wI.reverse.toArray k9) :: tS5)) := news_rot (X := [_]) (cells := [_]) N9b
  replace F9 : Fr g0 L0 h9' _ := F9
  replace hPI2 := paired_map (fun v p x => x.mono fun q hq => .tail (D9, W.listOf wI.reverse.toArray k9) hq) hPI2
  replace hPK2 := paired_map (fun v p x => x.mono fun q hq => .tail (D9, W.listOf wI.reverse.toArray k9) hq) hPK2
  have mD9 : (D9, W.listOf wI.reverse.toArray k9) ∈ (D9, W.listOf wI.reverse.toArray k9) :: tS5 := .head _
  replace mD6 := List.mem_cons_of_mem (D9, W.listOf wI.reverse.toArray k9) mD6
  replace mD5 := List.mem_cons_of_mem (D9, W.listOf wI.reverse.toArray k9) mD5
  replace mD := List.mem_cons_of_mem (D9, W.listOf wI.reverse.toArray k9) mD
  replace mlk := List.mem_cons_of_mem (D9, W.listOf wI.reverse.toArray k9) mlk
  replace mc3 := List.mem_cons_of_mem (D9, W.listOf wI.reverse.toArray k9) mc3
  generalize (D9, W.listOf wI.reverse.toArray k9) :: tS5 = tS6 at nd9 N10 hPI2 hPK2 mD9 mD6 mD5 mD mlk mc3
  revert tS6
  intro tS6
  set_option tactic.hygienic false in intros
  clear hp9 hv9 hlen9 hne9 hD9 up9 FB NB hr mld nd8 N9b
  refine frE F9 [(Str.ofString "script", some (.ref ls)), (Str.ofString "masks", some (.ref lk0)), (Str.ofString "rest", some (.ref D)), (Str.ofString "kept", some (.ref D6)), (Str.ofString "number", some (.int nv tn)), (Str.ofString "turned", some (.ref D9))] rfl ?_
  intro um9 F10
  clear F9
  have hHalt : Halt := ⟨trivial⟩
  try dsimp only
  k_extra "ks"
  unfold Stop
  clear hHalt
  k_extra "ks"
  unfold Stop
  (with_reducible rename News _ _ _ _ => NB)
  (with_reducible rename Fr _ _ _ _ => FB9)
  have hW1 := okW_items hM hi3
  refine' use_m (c_written D9 .none wI.reverse #[] (itsL hi ms).reverse (itsL hi ms).reverse hW1.l8 (its_two hM) hW1.nd hW1.nb hW1.wd hW1.nl) (by k_asm) (by k_asm) (by k_asm) (by k_asm) (by k_asm) rfl (by decide) (by decide) ⟨.head _, trivial⟩ ⟨codeHd, .inl rfl, .inl ⟨rfl, rfl⟩, PySem.IsL.isList (News.get NB (.tail _ mD9)), nd1_ne nd9 mD9, tups_of NB (paired_rev hPI2) (fun q hq => .tail _ hq)⟩ ?_
  k_whole
  intro v' h10 tk10 d10 hWr F11 K11
  obtain ⟨ssW, c10, txW, hPm, hPw, rfl, h148, hLam, hFr⟩ := hWr
  have N11 := upd148' nd9 NB K11 h148
  obtain ⟨oc10, hoc10, hLamK, hc10⟩ := lam_cell hLam
  have hFr' := hFr.resolve_left (by intro e; simp at e)
  have N12 : News g0 L0 h10 ((148, tabObj #[rawInt 246, rawInt 71, .ref c10]) :: ((c10, oc10) :: tS6)) := news_rot (X := [_]) (cells := [_]) (news_cons (p := (c10, oc10)) ⟨hoc10, ns_ne2 FB9 hFr', fresh_not FB9 hFr'⟩ N11)
  have nd10 := nd_c1 (o := oc10) nd9 hc10
  have mc10 : (c10, oc10) ∈ (c10, oc10) :: tS6 := .head _
  replace mD9 := List.mem_cons_of_mem (c10, oc10) mD9
  replace mD6 := List.mem_cons_of_mem (c10, oc10) mD6
  replace mD5 := List.mem_cons_of_mem (c10, oc10) mD5
  replace mD := List.mem_cons_of_mem (c10, oc10) mD
  replace mlk := List.mem_cons_of_mem (c10, oc10) mlk
  replace mc3 := List.mem_cons_of_mem (c10, oc10) mc3
  replace hPI2 := paired_map (fun v p x => x.mono fun q hq => .tail (c10, oc10) hq) hPI2
  replace hPK2 := paired_map (fun v p x => x.mono fun q hq => .tail (c10, oc10) hq) hPK2
  generalize (c10, oc10) :: tS6 = tS7 at N12 nd10 hPI2 hPK2 mD9 mD6 mD5 mD mlk mc3 mc10
  revert tS7
  intro tS7
  set_option tactic.hygienic false in intros
  clear K11 h148 NB hLam hFr hFr' FB9 N11 nd9 hoc10
  have hHalt : Halt := ⟨trivial⟩
  try dsimp only
  k_extra "ks"
  unfold Stop
  clear hHalt
  (with_reducible rename News _ _ _ _ => NB)
  rename_i hH12 fH12
  have hTT := tups_of NB (paired_rev hPI2) (fun q hq => .tail _ hq)
  have hTl := paired_len (paired_rev hPI2)
  have hT8 := hW1.l8
  k_extra "ks"
  unfold Stop
  refine' ListComp_ready (cl := ?cl12) (fun _ => true) (PairT g0 [L0, 148] Txt.lower hH12) rfl ?kcl12 (by decide) rfl (by decide) ?_
  case kcl12 => rfl
  k_extra "ks"
  (with_reducible rename Fr _ _ _ _ => FB)
  (with_reducible rename News _ _ _ _ => NB)
  refine ⟨D9, wI.reverse, rfl, PySem.IsL.isList (News.get NB (.tail _ mD9)), by rw [sizeLine_eq]; omega, ?_, ?_⟩
  · intro C i v s₃ m₃ hC hi' hn hs3 st
    obtain ⟨p, hpi, hpv⟩ := paired_get hTT i v hi'
    have hfl := hW1.nl p (List.mem_of_getElem? hpi)
    obtain ⟨a, t, t', rfl, hta⟩ := id hpv
    obtain ⟨h₃, tk₃, rfl⟩ := hs3
    refine turn_pair rfl FB NB hC st hn (hta.at fun o e => e) rfl rfl rfl (by decide) ?_
    intro h4 tk4 oC m₂ hoC hm2 hm3 F4 N4 st4 hne hL
    iterate 11 walk1
    (with_reducible rename Fr _ _ _ _ => F7)
    (with_reducible rename News _ _ _ _ => N7)
    exact tuple_turn2 F7 N7 ⟨_, _, rfl⟩ (fun _ _ e => e) rfl (List.forall_mem_cons.mpr ⟨(let ⟨o, _, _, ho, _⟩ := F7.ns; ⟨o, ho⟩), List.forall_mem_cons.mpr ⟨⟨_, (N7 (148, _) (.tail _ (.head _))).1⟩, List.forall_mem_nil _⟩⟩) hpv rfl rfl
  intro D12 h12' tk12' ys12 k12 hD12 hg12 hp12 st12
  obtain ⟨F12, N13, hne12, hL12⟩ := on_size FB NB hD12 hg12 st12
  rw [filter_true] at hp12
  obtain ⟨tlL, hPL, htL⟩ := pairT_tail hTT hp12
  have nd11 := nd1_tail nd10 fun q hq => (htL q hq).2.1 148 (.tail _ (.head _))
  have NL := news_tail (cells := [_, _]) N13 (tail_news (m := um9) (H := h12') (.head _) htL)
  have nd12 : NdL [148] ((D12, W.listOf ys12.toArray k12) :: (tlL ++ tS7)) := nd_c1 nd11 (allNe_mem hne12 (148, _) (.head _)).symm
  replace NL : News g0 L0 h12' ((148, tabObj #[rawInt 246, rawInt 71, .ref c10]) :: ((D12, W.listOf ys12.toArray k12) :: (tlL ++ tS7))) := news_rot (X := [_]) (cells := [_]) NL
  replace hPL := paired_map (fun v p x => x.mono fun q hq => .tail (D12, W.listOf ys12.toArray k12) (List.mem_append_left tS7 hq)) hPL
  replace hPI2 := paired_map (fun v p x => x.mono fun q hq => .tail (D12, W.listOf ys12.toArray k12) (List.mem_append_right tlL hq)) hPI2
  replace hPK2 := paired_map (fun v p x => x.mono fun q hq => .tail (D12, W.listOf ys12.toArray k12) (List.mem_append_right tlL hq)) hPK2
  have mD12 : (D12, W.listOf ys12.toArray k12) ∈ (D12, W.listOf ys12.toArray k12) :: (tlL ++ tS7) := .head _
  replace mD6 := List.mem_cons_of_mem (D12, W.listOf ys12.toArray k12) (List.mem_append_right tlL mD6)
  replace mD5 := List.mem_cons_of_mem (D12, W.listOf ys12.toArray k12) (List.mem_append_right tlL mD5)
  replace mD := List.mem_cons_of_mem (D12, W.listOf ys12.toArray k12) (List.mem_append_right tlL mD)
  replace mlk := List.mem_cons_of_mem (D12, W.listOf ys12.toArray k12) (List.mem_append_right tlL mlk)
  replace mc3 := List.mem_cons_of_mem (D12, W.listOf ys12.toArray k12) (List.mem_append_right tlL mc3)
  replace mc10 := List.mem_cons_of_mem (D12, W.listOf ys12.toArray k12) (List.mem_append_right tlL mc10)
  generalize ((D12, W.listOf ys12.toArray k12) :: (tlL ++ tS7) : List (Addr × Obj)) = tS8 at NL nd12 hPL hPI2 hPK2 mD12 mD6 mD5 mD mlk mc3 mc10
  revert tS8
  intro tS8
  set_option tactic.hygienic false in intros
  clear htL hp12 st12 hg12 hD12 hne12 NB FB N13 nd11 nd10 mD9 hTT
  have hml4 := told_40 hTs.lt ho3
  have hkl := hMask.length
  have hkn := told_num (o := ho) (ts := ts)
  try dsimp only
  k_extra "ks"
  unfold Stop
  refine' ListComp_ready (cl := ?cl13) (fun _ => true) (fun _ v y => ∃ x t t', v = Value.str x t ∧ y = Value.str (Txt.lower x) t') rfl ?kcl13 (by decide) rfl (by decide) ?_
  case kcl13 => rfl
  k_extra "ks"
  (with_reducible rename Fr _ _ _ _ => FB)
  (with_reducible rename News _ _ _ _ => NB)
  refine ⟨lk0, vk, rfl, PySem.IsL.isList (News.get NB (.tail _ mlk)), by rw [sizeLine_eq]; omega, ?_, ?_⟩
  · intro C i v s₃ m₃ hC hi' hn hs3 st
    obtain ⟨x, t, rfl, hx⟩ := strs_at hMask hi'
    obtain ⟨h₃, tk₃, rfl⟩ := hs3
    have hfl := hml4 x (List.mem_of_getElem? hx)
    refine turn_name FB NB hC st hn rfl rfl ?_
    intro h4 tk4 oC m₂ hoC hm2 F4 N4 st4 hne hL
    iterate 6 walk1
    exact ⟨_, _, rfl, fun _ _ e => e, rfl, fun hf _ => ⟨_, _, _, rfl, rfl⟩⟩
  intro D13 h13' tk13' ys13 k13 hD13 hg13 hp13 st13
  obtain ⟨F13, N14, hne13, hL13⟩ := on_size FB NB hD13 hg13 st13
  rw [filter_true] at hp13
  have hys13 := paired_strs hp13 hMask
  have n148 := (allNe_mem hne13 (148, _) (.head _)).symm
  clear hp13 st13 hg13 hD13 hne13 NB FB
  try dsimp only
  k_extra "ks"
  unfold Stop
  (with_reducible rename News _ _ _ _ => NB)
  have hW2 := okW_low hM hi3
  obtain ⟨hk1, hk2, hk3⟩ := masks_low hTs ho3
  refine' use_m (c_written D12 (.ref D13) ys12 #[rawInt 246, rawInt 71, .ref c10] (lowI (itsL hi ms).reverse) (keptL hi ho ms ts).reverse hW2.l8 (kept_two hM hTs) hW2.nd hW2.nb hW2.wd hW2.nl) (by k_asm) (by k_asm) (by k_asm) (by k_asm) (by k_asm) rfl (by decide) (by decide) ⟨.tail _ (.head _), trivial⟩ ⟨codeHd, hLamK _ (NB (c10, _) (.tail _ (.tail _ mc10))).1, .inr ⟨D13, ys13, _, rfl, PySem.IsL.isList (News.get NB (.head _)), hys13, hk1, hk2, hk3, n148, left_filter hM hTs hi3 ho3⟩, PySem.IsL.isList (News.get NB (.tail _ (.tail _ mD12))), nd1_ne nd12 mD12, tups_of NB hPL (fun q hq => .tail _ (.tail _ hq))⟩ ?_
  k_whole
  intro v' h14 tk14 d14 hWr F14 K14
  obtain ⟨ssL, c14, txL, hPmL, hPwL, rfl, h148, -, -⟩ := hWr
  have N15 := upd148' nd12 (news_tl NB) K14 h148
  replace hPI2 := paired_map (fun v p x => x.mono fun q hq => .tail (148, tabObj #[rawInt 246, rawInt 71, .ref c14]) hq) hPI2
  replace hPK2 := paired_map (fun v p x => x.mono fun q hq => .tail (148, tabObj #[rawInt 246, rawInt 71, .ref c14]) hq) hPK2
  replace mD6 := List.mem_cons_of_mem (148, tabObj #[rawInt 246, rawInt 71, .ref c14]) mD6
  replace mD5 := List.mem_cons_of_mem (148, tabObj #[rawInt 246, rawInt 71, .ref c14]) mD5
  replace mD := List.mem_cons_of_mem (148, tabObj #[rawInt 246, rawInt 71, .ref c14]) mD
  replace mc3 := List.mem_cons_of_mem (148, tabObj #[rawInt 246, rawInt 71, .ref c14]) mc3
  have m148 : (148, tabObj #[rawInt 246, rawInt 71, .ref c14]) ∈ (148, tabObj #[rawInt 246, rawInt 71, .ref c14]) :: tS8 := .head _
  generalize (148, tabObj #[rawInt 246, rawInt 71, .ref c14]) :: tS8 = tS9 at N15 hPI2 hPK2 mD6 mD5 mD mc3 m148
  revert tS9
  intro tS9
  set_option tactic.hygienic false in intros
  clear K14 h148 NB hW2 hk1 hk2 hk3 hPL mD12 mlk mc10 nd12 hLamK hc10 hW1 n148 hys13
  have hHalt : Halt := ⟨trivial⟩
  try dsimp only
  k_extra "ks"
  unfold Stop
  clear hHalt
  (with_reducible rename News _ _ _ _ => NB)
  (with_reducible rename Fr _ _ _ _ => FB)
  refine frE FB [(Str.ofString "script", some (.ref ls)), (Str.ofString "rest", some (.ref D)), (Str.ofString "kept", some (.ref D6)), (Str.ofString "number", some (.int nv tn)), (Str.ofString "whole", some (.str (textOf ssW) txW)), (Str.ofString "left", some (.str (textOf ssL) txL))] rfl ?_
  intro um14 F15
  clear FB
  subst hnv
  have oKI := okI_items hM hi3
  have oKK := okI_kept hM hTs hi3 ho3
  try dsimp only
  have hHalt : Halt := ⟨trivial⟩
  k_extra "ks"
  unfold Stop
  obtain ⟨itsR, hRd, eRN, eRP, ePm⟩ := read_left hM hTs hi3 hPmL
  have hP3 := pArg (stay_sorted (ts := ts) hM) (stay_lt hM) (stay_ne hM hTs) (numK_lt (o := ho) hi3)
  have hs5 := told_split (stay_sorted (ts := ts) hM) (stay_lt hM) (stay_ne hM hTs) (numK_lt (o := ho) hi3)
  have hs6 := told_len (stay_sorted (ts := ts) hM) (stay_lt hM) (numK_lt (o := ho) hi3)
  have hNk := names_ok (o := ho) hM hTs hi3
  clear hHalt
  try dsimp only
  k_extra "ks"
  unfold Stop
  rename_i q3 la3 lb3 n3 va3 vb3 nA3 nB3 mb3 h17 tk17 iA3 iB3 pB3 sB3 FR NR l1R l2R l3R l4R
  have eMb := sorted_ints (pB3.trans ePm) sB3 (rest_sorted hM)
  subst eMb
  clear l1R l2R l3R l4R
  refine' ListComp_ready (cl := ?cl15) (fun _ => true) (fun _ v y => ∃ x t t', v = Value.str x t ∧ y = Value.str (Txt.lower x) t') rfl ?kcl15 (by decide) rfl (by decide) ?_
  case kcl15 => rfl
  k_extra "ks"
  revert rwl1
  intro l14
  rename_i D14 ws14 h18 tk18 FB NB hS14
  have hln14 := hS14.length
  have hfw := hNk.few
  rw [List.length_map] at hfw
  refine ⟨D14, ws14, rfl, PySem.IsL.isList (News.get NB (.head _)), by rw [sizeLine_eq]; omega, ?_, ?_⟩
  · clear l14
    intro C i v s₃ m₃ hC hi' hn hs3 st
    obtain ⟨x, t, rfl, hx⟩ := strs_at hS14 hi'
    obtain ⟨h₃, tk₃, rfl⟩ := hs3
    have hfl := told_40 (stay_lt (ts := ts) hM) (numK_lt (o := ho) hi3) x (List.mem_of_getElem? hx)
    refine turn_name FB NB hC st hn rfl rfl ?_
    intro h4 tk4 oC m₂ hoC hm2 F4 N4 st4 hne hL
    iterate 6 walk1
    exact ⟨_, _, rfl, fun _ _ e => e, rfl, fun hf _ => ⟨_, _, _, rfl, rfl⟩⟩
  intro D15 h15' tk15' ys15 k15 hD15 hg15 hp15 st15
  obtain ⟨F15', N15b, hne15, hL15⟩ := on_size FB NB hD15 hg15 st15
  rw [filter_true] at hp15
  have hys15 := paired_strs hp15 hS14
  clear hp15 st15 hg15 hD15 hne15 l14 NB FB
  try dsimp only
  k_extra "ks"
  unfold Stop
  refine sorted_strs F15' N15b (PySem.IsL.isList (News.get N15b (.head _))) hys15 hNk.two hNk.few hNk.nd ?_
  intro D16 e16 h16 ys16 zs16 hys16 hz1 hz2 F16 N16 hne16
  have eNm := names_eq hM hPmL hPwL hz1 hz2
  subst eNm
  clear hne16 F15' N15b
  try dsimp only
  k_extra "ks"
  unfold Stop
  (with_reducible rename Fr _ _ _ _ => FQ)
  (with_reducible rename News _ _ _ _ => NQ)
  refine ne_pair ⟨_, (NQ (q3, _) (by k_mem)).1, rfl, n3, rfl⟩ ⟨_, (NQ _ (.head _)).1, rfl, _, rfl⟩ (PySem.IsL.isList (News.get (a := la3) NQ (by k_mem))) (PySem.IsL.isList (News.get (a := lb3) NQ (by k_mem))) (PySem.IsL.isList (News.get (a := D16) NQ (by k_mem))) (PySem.IsL.isList (News.get (a := D) NQ (by k_mem))) iA3 iB3 hys16 iR2 (by k_units) (by k_units) eRN rfl ?_
  have hRX := hRd.hx
  rw [eRP] at hRX
  have hRY := slice_10 (l := some 3) (u := some (-5)) hRd.hxl
  have hWX := split_whole hM hi3 hPm
  have hWY := slice_10 (l := some 3) (u := some (-5)) (text_le hM hi3 hPm)
  obtain ⟨hL1, hL2⟩ := lev_facts hM hTs hi3 hPm hPmL hPw hPwL
  have NQ2 : News g0 L0 _ tS9 := fun q hq => NQ q (List.mem_of_mem_drop (i := 7) hq)
  clear NQ
  refine frE FQ [(Str.ofString "script", some (.ref ls)), (Str.ofString "rest", some (.ref D)), (Str.ofString "kept", some (.ref D6)), (Str.ofString "whole", some (.str (textOf ssW) txW)), (Str.ofString "left", some (.str (textOf ssL) txL))] rfl ?_
  intro um17 F17
  clear FQ
  have hHalt : Halt := ⟨trivial⟩
  try dsimp only
  k_extra "ks"
  unfold Stop
  clear hHalt hNk hP3 hs5 hs6 hz1 hz2 eRN eRP ePm iA3 iB3 pB3 sB3 hys16 hys15 hS14
  have hsl := hI.length
  have hs1000 : script.length ≤ 1000 := by omega
  have hi1000 : (itsL hi ms).length ≤ 1000 := by omega
  have hk1000 : (keptL hi ho ms ts).length ≤ 1000 := by
    have := hL1.lb
    have := hPmL.length_eq
    simp only [List.length_map, List.length_reverse] at *; omega
  have hRL := hRd.hxl
  have hWL := text_le hM hi3 hPm
  clear hRd
  k_extra "ks"
  unfold Stop
  rename_i DA wsA hA tkA lA hSA hB0 tB kB DB wsB hB tkB hSB lr hR0 lR hC0 tkC hC1 FB0 NB0
  obtain ⟨sd, esd, hsd⟩ := fmod2 (script.length : Int)
  rw [esd] at FB0
  clear lA rwl1 lR hRX hRY hWX hWY
  have hr1000 : wR.length ≤ 1000 := by
    have h1 := iR2.length
    have h2 := paired_len hPK2
    unfold keptL at h2 hk1000
    rw [List.length_map] at h1 h2 hk1000
    omega
  refine' ListComp_ready (cl := ?cl17) (intP fun p => decide (p < 10)) (fun _ v y => y = v) rfl ?kcl17 (by decide) rfl (by decide) ?_
  case kcl17 => rfl
  k_extra "ks"
  (with_reducible rename Fr _ _ _ _ => FB)
  (with_reducible rename News _ _ _ _ => NB)
  refine ⟨D, wR, rfl, PySem.IsL.isList (News.get NB (by k_mem)), by rw [sizeLine_eq]; omega, ?_, ?_⟩
  · intro C i v s₃ m₃ hC hi' hn hs3 st
    obtain ⟨x, t, rfl, hx⟩ := ints_get iR2 hi'
    rw [List.getElem?_map] at hx
    obtain ⟨p, hp, rfl⟩ := Option.map_eq_some_iff.mp hx
    obtain ⟨h₃, tk₃, rfl⟩ := hs3
    refine turn_name_if FB NB hC st hn rfl rfl ?_
    intro h4 tk4 oC m₂ hoC hm2 F4 N4 st4 hne hL
    try dsimp only
    iterate 3 walk1
    repeat walk1
    · exact ⟨_, _, rfl, fun _ _ e => e, by simp only [intP, Int.toNat_natCast, decide_eq_true_iff]; omega, fun hf _ => rfl⟩
    · exact ⟨_, _, rfl, fun _ _ e => e, by simp only [intP, Int.toNat_natCast, decide_eq_false_iff_not]; omega⟩
  intro D17 h17' tk17' ys17 k17 hD17 hg17 hp17 st17
  obtain ⟨F17', N17, hne17, hL17⟩ := on_size FB NB hD17 hg17 st17
  have hR17 := same_list hp17
  subst hR17
  have hlr : (List.filter (intP fun p => decide (p < 10)) wR).length = ((restP hi ho ms ts).filter fun p => decide (p < 10)).length := by
    rw [(ints_filter (f := fun p => decide (p < 10)) iR2).length, List.length_map]
  have hf1000 : ((restP hi ho ms ts).filter fun p => decide (p < 10)).length ≤ 1000 := by
    rw [← hlr]
    exact Nat.le_trans (List.length_filter_le _ _) hr1000
  clear hp17 st17 hg17 hD17 hne17 hL17 NB FB
  have hHalt : Halt := ⟨trivial⟩
  try dsimp only
  k_extra "ks"
  unfold Stop
  (with_reducible rename Fr _ _ _ _ => FB)
  (with_reducible rename News _ _ _ _ => NB)
  replace NB : News g0 L0 _ ((lr, _) :: (DB, _) :: (DA, _) :: tS9) := news_tl NB
  refine frTok2 FB (fun t3 t4 => [(Str.ofString "script", some (.ref ls)), (Str.ofString "rows", some (.ref lr)), (Str.ofString "side", some (.int (sd : Int) t3)), (Str.ofString "price", some (.int (priceL hi ho ms ts) t4))]) _ _ rfl ?_
  intro um18 t3 t4 F18
  clear FB
  obtain ⟨DX, DY, wsX, wsY, aX, aY, eX, eY, mX, mY, iX, iY, hLv⟩ := pick_rows (DA := DA) (DB := DB) hsd hSA hSB hL1 hL2
  obtain ⟨hpr1, hpr2⟩ := price_bounds (h := hi) (o := ho) (ts := ts) hM
  replace mX : (DX, W.listOf wsX.toArray 0) ∈ (lr, W.listOf [Value.ref DA, Value.ref DB].toArray 0) :: (DB, W.listOf wsB.toArray 0) :: (DA, W.listOf wsA.toArray 0) :: tS9 := .tail _ (List.mem_append_left tS9 mX)
  replace mY : (DY, W.listOf wsY.toArray 0) ∈ (lr, W.listOf [Value.ref DA, Value.ref DB].toArray 0) :: (DB, W.listOf wsB.toArray 0) :: (DA, W.listOf wsA.toArray 0) :: tS9 := .tail _ (List.mem_append_left tS9 mY)
  replace m148 := List.mem_cons_of_mem (lr, W.listOf [Value.ref DA, Value.ref DB].toArray 0) (List.mem_cons_of_mem (DB, W.listOf wsB.toArray 0) (List.mem_cons_of_mem (DA, W.listOf wsA.toArray 0) m148))
  have mlr : (lr, W.listOf [Value.ref DA, Value.ref DB].toArray 0) ∈ (lr, W.listOf [Value.ref DA, Value.ref DB].toArray 0) :: (DB, W.listOf wsB.toArray 0) :: (DA, W.listOf wsA.toArray 0) :: tS9 := .head _
  generalize (lr, W.listOf [Value.ref DA, Value.ref DB].toArray 0) :: (DB, W.listOf wsB.toArray 0) :: (DA, W.listOf wsA.toArray 0) :: tS9 = tS10 at NB mX mY mlr m148
  revert tS10
  intro tS10
  set_option tactic.hygienic false in intros
  generalize priceL hi ho ms ts = pr at F18 hLv hpr1 hpr2
  revert pr
  intro pr
  set_option tactic.hygienic false in intros
  clear hL1 hL2 hSA hSB hWL hRL hPm hPmL hPw hPwL hPK2 hPI2 hr1000 hlr hf1000 hi1000 hk1000 mD6 mD5 mD mc3 iR2
  refine wpAny_mono (Q := BelP g0 L0 d14 os0 ls lr sd t3 pr t4 tS10) ?_ ?_ (fun _ _ y => y)
  · clear hHalt
    k_extra "ks"
    unfold Stop
    (with_reducible rename Fr _ _ _ _ => FB2)
    (with_reducible rename News _ _ _ _ => NB2)
    by_cases hsc : script = []
    · refine ne_ints_no (hLg.at fun o e => FB2.keep _ o e) (PySem.IsL.isList (News.get NB2 (.head _))) hI .nil (by k_units) hsc ?_
      try dsimp only
      k_extra "ks"
      all_goals (try trivial)
      (with_reducible rename Fr _ _ _ _ => FF)
      (with_reducible rename News _ _ _ _ => NF)
      exact .mk (b := -7) (by decide) (by decide) (frI FF _ rfl) (news_tl NF)
    · refine ne_ints_yes (hLg.at fun o e => FB2.keep _ o e) (PySem.IsL.isList (News.get NB2 (.head _))) hI .nil (by k_units) hsc ?_
      obtain ⟨x0, tx0, hx0⟩ : ∃ x0 t, vals[0]? = some (Value.int x0 t) := by
        cases hI with
        | nil => exact absurd rfl hsc
        | cons x t _ => exact ⟨x, t, rfl⟩
      try dsimp only
      have hm1 := Int.fmod_nonneg_of_pos x0 (b := 160) (by decide)
      have hm2 := Int.fmod_lt_of_pos x0 (b := 160) (by decide)
      k_extra "ks"
      all_goals (try trivial)
      (with_reducible rename Fr _ _ _ _ => FF)
      (with_reducible rename News _ _ _ _ => NF)
      exact .mk (b := -1 - x0.fmod 160) (by omega) (by omega) (frI FF _ rfl) (news_tl NF)
  intro f s₂ hBe
  refine (pf hBe).casesOn ?_
  clear hBe
  intro h21 um21 tk21 t21 bl hbl hbl2 Fi Ni
  clear F18 NB
  obtain ⟨hsd1, hsd2, hsd3⟩ := sd_facts hsd
  try dsimp only
  k_extra "ks"
  (with_reducible rename Fr _ _ _ _ => FB)
  (with_reducible rename News _ _ _ _ => NB)
  refine two_gen NB (Int.fmod_nonneg_of_pos _ (by decide)) hpr1 hbl hbl2 ?_
  intro vs22 hbs NB2
  clear NB
  refine ⟨_, vs22, _, _, fun _ => LpJ ls lr sd t3 pr t4 (_ :: tS10), rfl, frI FB [(Str.ofString "script", some (.ref ls)), (Str.ofString "rows", some (.ref lr)), (Str.ofString "side", some (.int (sd : Int) t3)), (Str.ofString "price", some (.int pr t4))] rfl, NB2, .mk, ?_, ?_, ?_⟩
  · intro i m' news' h' hJ F' N'
    cases hJ
    exact ⟨_, (N' _ (.head _)).1, rfl, _, rfl⟩
  · intro i v m₁ news₁ h₁ tk₁ I io hv hJ hnI hIL F3 N3
    obtain ⟨b, tb, rfl, hbb, hb5⟩ := hbs i v hv
    revert hnI hIL F3 N3
    refine (pf hJ).casesOn ?_
    clear hJ
    intro umb hnI hIL F3 N3
    clear FB NB2 hbs hHalt
    by_cases hb0 : b < 0
    · have hdue : (if b < 0 then b + 1 else pr) = b + 1 := if_pos hb0
      have hd1 : -1000 < b + 1 := by omega
      have hd2 : b + 1 < 1000 := by omega
      k_extra "ks"
      (with_reducible rename Fr _ _ _ _ => F9)
      (with_reducible rename News _ _ _ _ => N9)
      exact ⟨_, _, _, _, rfl, frI F9 [(Str.ofString "script", some (.ref ls)), (Str.ofString "rows", some (.ref lr)), (Str.ofString "side", some (.int (sd : Int) t3)), (Str.ofString "price", some (.int pr t4))] rfl, N9, hnI, .mk⟩
    · have hdue : (if b < 0 then b + 1 else pr) = pr := if_neg hb0
      have hd1 : -1000 < pr := by omega
      k_extra "ks"
      (with_reducible rename Fr _ _ _ _ => F9)
      (with_reducible rename News _ _ _ _ => N9)
      exact ⟨_, _, _, _, rfl, frI F9 [(Str.ofString "script", some (.ref ls)), (Str.ofString "rows", some (.ref lr)), (Str.ofString "side", some (.int (sd : Int) t3)), (Str.ofString "price", some (.int pr t4))] rfl, N9, hnI, .mk⟩
  · intro h' tk' m' news' F' N' hJ
    revert F' N'
    refine (pf hJ).casesOn ?_
    clear hJ
    intro umb F' N'
    k_extra "ks"
    (with_reducible rename Fr _ _ _ _ => FZ)
    (with_reducible rename News _ _ _ _ => NZ)
    exact .mk FZ ⟨GrownAt.of NZ (.tail _ m148), trivial⟩
  )
 
end
end
end Mine
theorem PySem.Challenge.cw_tv0055_01_holds : PySem.Challenge.rw_tv0055_01.Holds :=
  Mine.lawY
