import PyProof.Rows.All
import Wide.All
import OpenK.AllK
import Wide.FinOn
import PySem.Challenge.RW_re0174_01
open PySem PySem.W PyProof.Rows PySem.Calls
set_option Elab.async false
set_option compiler.extract_closed false
set_option maxRecDepth 100000
set_option maxHeartbeats 8000000
set_option linter.unusedVariables false
set_option linter.unusedSimpArgs false
namespace Mine
def z0 : PySem.Str := PySem.Str.ofString "z0"
theorem z0_eq : z0 = z0 := rfl
name_quick tw8075568018651887793 for z0 by z0_eq
name_quick tw14979626087600564940 for z0 by z0_eq
name_quick tw6733733256287894996 for z0 by z0_eq
name_quick tw7397068168572129948 for z0 by z0_eq
name_quick tw4173807177612350030 for z0 by z0_eq
name_quick tw17094633900937708471 for z0 by z0_eq
name_quick tw7398270241245271220 for z0 by z0_eq
name_quick tw1339427327865710234 for z0 by z0_eq
name_quick tw10804646723710106361 for z0 by z0_eq
name_quick tw2567998274259142822 for z0 by z0_eq
name_quick tw18045940029875791569 for z0 by z0_eq
name_quick tw13912434898499826684 for z0 by z0_eq
name_quick tw8703263022893421829 for z0 by z0_eq
name_quick tw15475462885187679331 for z0 by z0_eq
name_quick tw9411525586021648077 for z0 by z0_eq
name_quick tw3972328310683599613 for z0 by z0_eq
name_quick tw17517737089405305841 for z0 by z0_eq
name_quick tw9979284746773624096 for z0 by z0_eq
name_quick tw3421647286062184163 for z0 by z0_eq
name_quick tw7892128664451923741 for z0 by z0_eq
name_quick tw8424611434330503625 for z0 by z0_eq
name_quick tw3123356604346172194 for z0 by z0_eq
name_quick tw4797165386629745026 for z0 by z0_eq
name_quick tw14487725735874088081 for z0 by z0_eq
name_quick tw17975652961387846372 for z0 by z0_eq
name_quick tw8206430501311747189 for z0 by z0_eq
name_quick tw16350708796919097252 for z0 by z0_eq
name_quick tw3039592710220408265 for z0 by z0_eq
name_quick tw183835017167291270 for z0 by z0_eq
name_quick tw16804044748790271530 for z0 by z0_eq
name_quick tw12172078356533094185 for z0 by z0_eq
name_quick tw8098380416015320538 for z0 by z0_eq
name_quick tw13180171748994924942 for z0 by z0_eq
name_quick tw16846860572762119324 for z0 by z0_eq
name_quick tw10314498396905981064 for z0 by z0_eq
name_quick tw11013792430000457035 for z0 by z0_eq
name_quick tw13615603153576403970 for z0 by z0_eq
name_quick tw9931943479562821362 for z0 by z0_eq
name_quick tw4978915544186085027 for z0 by z0_eq
name_quick tw10029231156530900338 for z0 by z0_eq
name_quick tw6434265647005701932 for z0 by z0_eq
name_quick tw9136488742655976645 for z0 by z0_eq
name_quick tw16145008321745377990 for z0 by z0_eq
name_quick tw8693227569615203950 for z0 by z0_eq
name_quick tw15007238320947547705 for z0 by z0_eq
name_quick tw15480198773659482676 for z0 by z0_eq
name_quick tw878741703135273975 for z0 by z0_eq
name_quick tw14433975572909055671 for z0 by z0_eq
name_quick tw12268644228514654432 for z0 by z0_eq
name_quick tw6683783046931543321 for z0 by z0_eq
name_quick tw10263206537837412290 for z0 by z0_eq
name_quick tw5721027456603625697 for z0 by z0_eq
name_quick tw11186114360453789277 for z0 by z0_eq
name_quick tw16414604833108395602 for z0 by z0_eq
name_quick tw4636218855388986860 for z0 by z0_eq
name_quick tw4444965560193506482 for z0 by z0_eq
name_quick tw6309420706278071738 for z0 by z0_eq
name_quick tw7772049062191401219 for z0 by z0_eq
name_quick tw5753627639153339801 for z0 by z0_eq
name_quick tw4224760802259116069 for z0 by z0_eq
name_quick tw4039474712603431140 for z0 by z0_eq
name_quick tw14376985748213822385 for z0 by z0_eq
name_quick tw3094477031063562474 for z0 by z0_eq
name_quick tw4933834842325187142 for z0 by z0_eq
name_quick tw2422670821966735624 for z0 by z0_eq
name_quick tw117213463901210413 for z0 by z0_eq
name_quick tw15663404670287596823 for z0 by z0_eq
name_quick tw13981391230805400906 for z0 by z0_eq
name_quick tw2905824091091238844 for z0 by z0_eq
name_quick tw4527066259768149269 for z0 by z0_eq
name_quick tw5591276700874282246 for z0 by z0_eq
name_quick tw12290603225136948437 for z0 by z0_eq
name_quick tw9948023125614773506 for z0 by z0_eq
name_quick tw724751600484774222 for z0 by z0_eq
name_quick tw17100903815162463580 for z0 by z0_eq
name_quick tw7250012664060256230 for z0 by z0_eq
name_quick tw15894407043143930727 for z0 by z0_eq
name_quick tw16296994325663420285 for z0 by z0_eq
name_quick tw3442601649717412197 for z0 by z0_eq
name_quick tw10887116778572429059 for z0 by z0_eq
name_quick tw15823609455315575823 for z0 by z0_eq
name_quick tw18350330562280901221 for z0 by z0_eq
name_quick tw14023627001141898710 for z0 by z0_eq
name_quick tw5529568453561195837 for z0 by z0_eq
name_quick tw16984617044495170189 for z0 by z0_eq
name_quick tw5368380235373115269 for z0 by z0_eq
name_quick tw13002492023102617099 for z0 by z0_eq
name_quick tw10942035263794033107 for z0 by z0_eq
name_quick tw11202209253345464007 for z0 by z0_eq
name_quick tw342737451032717037 for z0 by z0_eq
name_quick tw6147512888328947467 for z0 by z0_eq
name_quick tw14168537005229113720 for z0 by z0_eq
name_quick tw5357591511691535388 for z0 by z0_eq
name_quick tw9908251947323293946 for z0 by z0_eq
name_quick tw13776390136698705113 for z0 by z0_eq
name_quick tw6679490504615227074 for z0 by z0_eq
name_quick tw3764465048917985505 for z0 by z0_eq
name_quick tw2408619945344806742 for z0 by z0_eq
name_quick tw12635813782599140982 for z0 by z0_eq
name_quick tw9458956999447867950 for z0 by z0_eq
name_quick tw15742981410569661332 for z0 by z0_eq
name_quick tw16966814322356759819 for z0 by z0_eq
name_quick tw9539479885485572040 for z0 by z0_eq
name_quick tw8224813933742928703 for z0 by z0_eq
name_quick tw2354135333415324597 for z0 by z0_eq
name_quick tw2039238271031011813 for z0 by z0_eq
name_quick tw14834023430324568649 for z0 by z0_eq
name_quick tw15348362524478657138 for z0 by z0_eq
name_quick tw5701610774189311196 for z0 by z0_eq
name_quick tw13642483538084851733 for z0 by z0_eq
name_quick tw11682084944484805031 for z0 by z0_eq
name_quick tw6380047634161181297 for z0 by z0_eq
name_quick tw9763268239775435451 for z0 by z0_eq
name_quick tw13640514254501968386 for z0 by z0_eq
name_quick tw17476080006546285661 for z0 by z0_eq
name_quick tw5076957145309523181 for z0 by z0_eq
name_quick tw5706481520468235054 for z0 by z0_eq
name_quick tw7458083566234694290 for z0 by z0_eq
name_quick tw10205541121877940668 for z0 by z0_eq
name_quick tw15490439104401381959 for z0 by z0_eq
name_quick tw12371321757623732685 for z0 by z0_eq
name_quick tw16643706677886111943 for z0 by z0_eq
name_quick tw16697116713213952808 for z0 by z0_eq
name_quick tw12393455550290869266 for z0 by z0_eq
name_quick tw11729385059970357855 for z0 by z0_eq
name_quick tw12299743096253456131 for z0 by z0_eq
name_quick tw17964007177503468958 for z0 by z0_eq
name_quick tw2334299552400917057 for z0 by z0_eq
name_quick tw12825359941727978080 for z0 by z0_eq
name_quick tw9407582987413476825 for z0 by z0_eq
name_quick tw13036272033356848781 for z0 by z0_eq
name_quick tw11452132507678324671 for z0 by z0_eq
name_quick tw5978237884098788730 for z0 by z0_eq
name_quick tw1402947280878808549 for z0 by z0_eq
name_quick tw7198390536060210744 for z0 by z0_eq
name_quick tw3560238982266916124 for z0 by z0_eq
name_quick tw14112274594779413971 for z0 by z0_eq
name_quick tw8860024209350480642 for z0 by z0_eq
name_quick tw4658958612460137192 for z0 by z0_eq
name_quick tw16752143609539240740 for z0 by z0_eq
name_quick tw1735497430108182060 for z0 by z0_eq
name_quick tw6122645084068987007 for z0 by z0_eq
name_quick tw1184552218554016812 for z0 by z0_eq
name_quick tw2627984346626558326 for z0 by z0_eq
name_quick tw17552769576498331613 for z0 by z0_eq
name_quick tw10644746117286937887 for z0 by z0_eq
name_quick tw17279654841073493023 for z0 by z0_eq
name_quick tw1258717718454355964 for z0 by z0_eq
name_quick tw14821650378409806113 for z0 by z0_eq
name_quick tw662354867322794072 for z0 by z0_eq
name_quick tw8663951642670702713 for z0 by z0_eq
name_quick tw6363645014702824404 for z0 by z0_eq
name_quick tw16349216596472256690 for z0 by z0_eq
name_quick tw16548257151911338427 for z0 by z0_eq
name_quick tw4679858250743294509 for z0 by z0_eq
name_quick tw1414301608579184545 for z0 by z0_eq
name_quick tw7232422423428716515 for z0 by z0_eq
name_quick tw8119918657739134586 for z0 by z0_eq
name_quick tw16916688483869632129 for z0 by z0_eq
name_quick tw1702518465993881591 for z0 by z0_eq
name_quick tw12177639751122801600 for z0 by z0_eq
name_quick tw13512673800721320934 for z0 by z0_eq
name_quick tw15560500314895047343 for z0 by z0_eq
name_quick tw4552823106982906706 for z0 by z0_eq
name_quick tw9529234661008812162 for z0 by z0_eq
name_quick tw5189142188285759775 for z0 by z0_eq
name_quick tw11853533878840232495 for z0 by z0_eq
name_quick tw12945451867199242903 for z0 by z0_eq
name_quick tw7323676302269181137 for z0 by z0_eq
name_quick tw11317593695737139937 for z0 by z0_eq
name_quick tw6817277305950994716 for z0 by z0_eq
name_quick tw9285146279643344392 for z0 by z0_eq
name_quick tw5770868932273138760 for z0 by z0_eq
name_quick tw13789449189825218787 for z0 by z0_eq
name_quick tw3766158894648301139 for z0 by z0_eq
name_quick tw16593013826814733010 for z0 by z0_eq
name_quick tw3698559305507148144 for z0 by z0_eq
name_quick tw14311459727803291754 for z0 by z0_eq
name_quick tw10996506086634736982 for z0 by z0_eq
name_quick tw6550987210724342151 for z0 by z0_eq
name_quick tw15278061642289888581 for z0 by z0_eq
name_quick tw6434138532213402376 for z0 by z0_eq
name_quick tw11994158751524154303 for z0 by z0_eq
name_quick tw15919542637913265678 for z0 by z0_eq
name_quick tw3577408171920636059 for z0 by z0_eq
name_quick tw17532440430192770315 for z0 by z0_eq
name_quick tw14073706353221006472 for z0 by z0_eq
name_quick tw11625766737575182897 for z0 by z0_eq
name_quick tw4292500188555128830 for z0 by z0_eq
name_quick tw7745614565497352828 for z0 by z0_eq
name_quick tw3282434896037501709 for z0 by z0_eq
name_quick tw13900631225919944168 for z0 by z0_eq
name_quick tw14896874001708588922 for z0 by z0_eq
name_quick tw7650934615059315214 for z0 by z0_eq
name_quick tw17000155066101142889 for z0 by z0_eq
name_quick tw6735346659252874535 for z0 by z0_eq
name_quick tw12329403913580668285 for z0 by z0_eq
name_quick tw4319705520415482375 for z0 by z0_eq
name_quick tw16049961110935095269 for z0 by z0_eq
name_quick tw3820604794100220378 for z0 by z0_eq
name_quick tw17804436615005485693 for z0 by z0_eq
name_quick tw951843321253372498 for z0 by z0_eq
name_quick tw11161088081135249708 for z0 by z0_eq
name_quick tw6059929106960060952 for z0 by z0_eq
name_quick tw5349121933718820234 for z0 by z0_eq
name_quick tw12635297910168745909 for z0 by z0_eq
name_quick tw5518745428033880147 for z0 by z0_eq
name_quick tw7721631327575515661 for z0 by z0_eq
name_quick tw13145125596335152023 for z0 by z0_eq
name_quick tw11863081143760314161 for z0 by z0_eq
name_quick tw18345786424863182364 for z0 by z0_eq
name_quick tw9862997608875712007 for z0 by z0_eq
name_quick tw6792406925840432001 for z0 by z0_eq
name_quick tw16374537267813192141 for z0 by z0_eq
name_quick tw11277716924127702174 for z0 by z0_eq
name_quick tw10938465397075749097 for z0 by z0_eq
name_quick tw13759679279233594173 for z0 by z0_eq
name_quick tw4011157648589011858 for z0 by z0_eq
name_quick tw9011979029575296479 for z0 by z0_eq
name_quick tw10948738476641704880 for z0 by z0_eq
name_quick tw9467589175468403638 for z0 by z0_eq
name_quick tw8595292554425487202 for z0 by z0_eq
name_quick tw2660918139993853925 for z0 by z0_eq
name_quick tw16349804527192203551 for z0 by z0_eq
name_quick tw12734952128020822468 for z0 by z0_eq
name_quick tw6019396324639902685 for z0 by z0_eq
name_quick tw2283851925072248500 for z0 by z0_eq
name_quick tw2447775223705975068 for z0 by z0_eq
name_quick tw14108194823987119177 for z0 by z0_eq
name_quick tw17532718790514356516 for z0 by z0_eq
name_quick tw3152983702415266003 for z0 by z0_eq
name_quick tw2611137233208623240 for z0 by z0_eq
name_quick tw8376441433122354887 for z0 by z0_eq
name_quick tw10010936943081839664 for z0 by z0_eq
name_quick tw17434858337260393937 for z0 by z0_eq
name_quick tw11445135464325071761 for z0 by z0_eq
name_quick tw12233582284571471492 for z0 by z0_eq
name_quick tw11108263761283441063 for z0 by z0_eq
name_quick tw5902227825499142635 for z0 by z0_eq
name_quick tw10919533547850550483 for z0 by z0_eq
name_quick tw958810671402257542 for z0 by z0_eq
name_quick tw13236226663087606529 for z0 by z0_eq
name_quick tw693294814071771018 for z0 by z0_eq
name_quick tw7275051467321613617 for z0 by z0_eq
name_quick tw4434333111790514575 for z0 by z0_eq
name_quick tw7392212959928792091 for z0 by z0_eq
name_quick tw4980102563643897964 for z0 by z0_eq
name_quick tw15423634916342008072 for z0 by z0_eq
name_quick tw1377046205977697930 for z0 by z0_eq
name_quick tw16439824349840649037 for z0 by z0_eq
name_quick tw14386061602966655976 for z0 by z0_eq
name_quick tw18416463498863911781 for z0 by z0_eq
name_quick tw4090926877573551719 for z0 by z0_eq
name_quick tw5732905514179830355 for z0 by z0_eq
name_quick tw12866136484021002089 for z0 by z0_eq
name_quick tw1962928258387122110 for z0 by z0_eq
name_quick tw16947794391021106201 for z0 by z0_eq
name_quick tw8727135674562949291 for z0 by z0_eq
name_quick tw3636048126100218174 for z0 by z0_eq
name_quick tw14714103240675001986 for z0 by z0_eq
name_quick tw13317431791736044220 for z0 by z0_eq
name_quick tw9501820088010722379 for z0 by z0_eq
name_quick tw16741492637210864865 for z0 by z0_eq
name_quick tw6004533443673955352 for z0 by z0_eq
name_quick tw932993149863042379 for z0 by z0_eq
name_quick tw3619232141914619222 for z0 by z0_eq
name_quick tw7269565832213808900 for z0 by z0_eq
name_quick tw704327219915372674 for z0 by z0_eq
name_quick tw151948405760981731 for z0 by z0_eq
name_quick tw6448080314894763839 for z0 by z0_eq
name_quick tw12659028871203227004 for z0 by z0_eq
name_quick tw13678640442995254988 for z0 by z0_eq
name_quick tw900395245841561262 for z0 by z0_eq
name_quick tw2862820112641550484 for z0 by z0_eq
name_quick tw1436043675916922690 for z0 by z0_eq
name_quick tw9051711117073984157 for z0 by z0_eq
name_quick tw5517004485348247490 for z0 by z0_eq
name_quick tw9518749785886187100 for z0 by z0_eq
name_quick tw1242536812170058772 for z0 by z0_eq
name_quick tw12022285260146216970 for z0 by z0_eq
name_quick tw11529799822564653932 for z0 by z0_eq
name_quick tw57612305304379694 for z0 by z0_eq
name_quick tw14553827428707814869 for z0 by z0_eq
name_quick tw387338674003428930 for z0 by z0_eq
name_quick tw8603108125212654177 for z0 by z0_eq
name_quick tw16531745337717519161 for z0 by z0_eq
name_quick tw16817318245366136608 for z0 by z0_eq
name_quick tw9787463984185863102 for z0 by z0_eq
name_quick tw1291980286583624508 for z0 by z0_eq
name_quick tw18211773271919218964 for z0 by z0_eq
name_quick tw2711585505577850959 for z0 by z0_eq
name_quick tw17274371674624000324 for z0 by z0_eq
name_quick tw18220123701641295943 for z0 by z0_eq
name_quick tw12835720964997663042 for z0 by z0_eq
name_quick tw1258299570235058372 for z0 by z0_eq
name_quick tw1749818173716722547 for z0 by z0_eq
name_quick tw1772237422875290029 for z0 by z0_eq
name_quick tw17730428716208468724 for z0 by z0_eq
name_quick tw11313170107247368264 for z0 by z0_eq
name_quick tw9151444980202551346 for z0 by z0_eq
name_quick tw17497748084772794779 for z0 by z0_eq
name_quick tw17730448691065144110 for z0 by z0_eq
name_quick tw2664551874359636763 for z0 by z0_eq
name_quick tw347637069881736656 for z0 by z0_eq
name_quick tw3856783459128436802 for z0 by z0_eq
name_quick tw9594665118957945026 for z0 by z0_eq
name_quick tw2670528217467546775 for z0 by z0_eq
name_quick tw682011567655089306 for z0 by z0_eq
name_quick tw2478078296215019888 for z0 by z0_eq
name_quick tw10323183001455561277 for z0 by z0_eq
name_quick tw219737044198020058 for z0 by z0_eq
name_quick tw11788150170368784547 for z0 by z0_eq
name_quick tw17164873540382356111 for z0 by z0_eq
name_quick tw18260038339965228139 for z0 by z0_eq
name_quick tw7401281599722004195 for z0 by z0_eq
name_quick tw1829445100760108279 for z0 by z0_eq
name_quick tw11130039905162102590 for z0 by z0_eq
name_quick tw3424931102881643321 for z0 by z0_eq
name_quick tw505943868828395459 for z0 by z0_eq
name_quick tw18101931140130867144 for z0 by z0_eq
name_quick tw16241802466949684156 for z0 by z0_eq
name_quick tw7276740287692124622 for z0 by z0_eq
name_quick tw14126943448341045398 for z0 by z0_eq
name_quick tw6589095468515690095 for z0 by z0_eq
name_quick tw1092655722715705105 for z0 by z0_eq
name_quick tw5396446701170858492 for z0 by z0_eq
name_quick tw4075660801711882420 for z0 by z0_eq
name_quick tw6711915476519705758 for z0 by z0_eq
name_quick tw282004115355043989 for z0 by z0_eq
name_quick tw17001327861769816259 for z0 by z0_eq
name_quick tw11420187438672877268 for z0 by z0_eq
name_quick tw18340240734955500558 for z0 by z0_eq
name_quick tw11939915149646268982 for z0 by z0_eq
name_quick tw1617757218408452269 for z0 by z0_eq
name_quick tw17954471519018878134 for z0 by z0_eq
name_quick tw1218959903707654005 for z0 by z0_eq
name_quick tw4302124980754421698 for z0 by z0_eq
name_quick tw11588390666370768167 for z0 by z0_eq
name_quick tw11462045893675790159 for z0 by z0_eq
name_quick tw7365555872484859036 for z0 by z0_eq
name_quick tw17846936440860909165 for z0 by z0_eq
name_quick tw17828083071136270317 for z0 by z0_eq
name_quick tw1355338860687761863 for z0 by z0_eq
name_quick tw12767683915131110723 for z0 by z0_eq
name_quick tw16643379632663270332 for z0 by z0_eq
name_quick tw667198328695590252 for z0 by z0_eq
name_quick tw8796240567053077481 for z0 by z0_eq
name_quick tw17000458434675057986 for z0 by z0_eq
name_quick tw15323854079317868165 for z0 by z0_eq
name_quick tw13141144453892091621 for z0 by z0_eq
name_quick tw1574873078441994576 for z0 by z0_eq
name_quick tw15263041282635125899 for z0 by z0_eq
name_quick tw10528696920762540405 for z0 by z0_eq
name_quick tw721709456127091705 for z0 by z0_eq
name_quick tw3362959441861295915 for z0 by z0_eq
name_quick tw13254397897704925713 for z0 by z0_eq
name_quick tw14326252917377295143 for z0 by z0_eq
name_quick tw6654550962395885724 for z0 by z0_eq
name_quick tw6929956602132211858 for z0 by z0_eq
name_quick tw14223099787259518943 for z0 by z0_eq
name_quick tw16979880578912567463 for z0 by z0_eq
name_quick tw5200128776193632040 for z0 by z0_eq
name_quick tw9759809726879904816 for z0 by z0_eq
name_quick tw5268983451555188008 for z0 by z0_eq
name_quick tw9564595351457756722 for z0 by z0_eq
name_quick tw43969757491396457 for z0 by z0_eq
name_quick tw18056578402003937789 for z0 by z0_eq
name_quick tw17888162413812561239 for z0 by z0_eq
name_quick tw14333388528381170442 for z0 by z0_eq
name_quick tw13559156169165276386 for z0 by z0_eq
name_quick tw5882768191206486792 for z0 by z0_eq
name_quick tw11985326045990495214 for z0 by z0_eq
name_quick tw12813236842856870187 for z0 by z0_eq
name_quick tw17057272898397164401 for z0 by z0_eq
name_quick tw8537084889766193716 for z0 by z0_eq
name_quick tw4775785305629353868 for z0 by z0_eq
name_quick tw4558998842232669794 for z0 by z0_eq
name_quick tw16018607276475445134 for z0 by z0_eq
name_quick tw11566699232636054958 for z0 by z0_eq
name_quick tw9800571698397750058 for z0 by z0_eq
name_quick tw10424941004445345732 for z0 by z0_eq
name_quick tw3778451253796500701 for z0 by z0_eq
name_quick tw17863021456227041891 for z0 by z0_eq
name_quick tw1156252341971683116 for z0 by z0_eq
name_quick tw17018628822417861297 for z0 by z0_eq
name_quick tw8579058602437062094 for z0 by z0_eq
name_quick tw9376109419431680627 for z0 by z0_eq
set_option maxRecDepth 100000 in
set_option maxHeartbeats 0 in
open_top hd for PySem.Challenge.rw_re0174_01

abbrev PP : Program := PySem.Challenge.rw_re0174_01.row.prog
noncomputable abbrev KK (w : World) : Frag := Mine.hd.heap_39 w.params

theorem sRefl (h : Heap) : h.StaysIn h := fun _ _ e => e
theorem sTrans {a b c : Heap} (x : a.StaysIn b) (y : b.StaysIn c) : a.StaysIn c := fun p o e => y p o (x p o e)
theorem sPush (h : Heap) (o : Obj) : h.StaysIn (h.push o) := fun _ _ e => Heap.get?_push_of_some o e

structure Wd (w : World) (h : Heap) : Prop where
  k : (KK w).In h
  g : ∃ mg, h.Ns mainGlobals mg
  b : ∃ mb, h.Ns builtinsNs mb ∧ ∀ x : Str, x ≠ "__name__" → mb x = bootBuiltins x
  lim : h.NoLimit
theorem Wd.keeps {w : World} {h h' : Heap} (W : Wd w h) (k : h.StaysIn h') : Wd w h' :=
  ⟨W.k.keeps k, let ⟨mg, x⟩ := W.g; ⟨mg, x.keeps k⟩, let ⟨mb, x, y⟩ := W.b; ⟨mb, x.keeps k, y⟩, W.lim.keeps k⟩

def up (m : Str → Option Value) (x : Str) (v : Value) : Str → Option Value := fun y => if y = x then some v else m y
theorem up_same {m : Str → Option Value} {x : Str} {v : Value} : up m x v x = some v := if_pos rfl
theorem up_ne {m : Str → Option Value} {x y : Str} {v : Value} (h : y ≠ x) : up m x v y = m y := if_neg h

structure Inv (w : World) where
  p : Shared → Prop
  wd : ∀ {s : Shared}, p s → Wd w s.heap
  ext : ∀ {s : Shared} {h : Heap} {t : Nat}, p s → s.heap.StaysIn h → p { s with heap := h, toks := t }
theorem Inv.tok {w : World} (I : Inv w) {s : Shared} {t : Nat} (H : I.p s) : I.p { s with toks := t } := I.ext (h := s.heap) H (sRefl _)

structure Fd where
  s₀ : Shared
  w : World
  sc : Scope
  q : Str
  L : Addr
  fn : Option Addr
  fr : Option Addr
  cs : List (Str × Addr)
  cd : Value
  mine : Str → Bool
@[reducible] def Fd.env (Γ : Fd) : Env :=
  { scope := Γ.sc, locals := Γ.L, globals := mainGlobals, cells := Γ.cs, qual := Γ.q, func := Γ.fn, code := Γ.cd, frame := Γ.fr, builtins := builtinsNs }

/-- the frame's names, the cells' too; σ: what the call has made -/
structure St (Γ : Fd) (m : Str → Option Value) (σ : List (Addr × Obj)) (s : Shared) : Prop where
  same : s = { Γ.s₀ with heap := s.heap, toks := s.toks }
  wd : Wd Γ.w Γ.s₀.heap
  keep : Γ.s₀.heap.StaysIn s.heap
  loc : ∃ ml, s.heap.Ns Γ.L ml ∧ ∀ x, Γ.sc.names.lookup x = some .local → ml x = m x
  cel : ∀ x c, Γ.cs.lookup x = some c → s.heap.IsCell c (m x)
  apart : ∀ x y c, Γ.cs.lookup x = some c → Γ.cs.lookup y = some c → x = y
  cL : ∀ x c, Γ.cs.lookup x = some c → c ≠ Γ.L
  kc : ∀ x c, Γ.cs.lookup x = some c → Γ.sc.names.lookup x = some .cell
  cB : ∀ x c, Γ.cs.lookup x = some c → Γ.mine x = true → Γ.s₀.heap.get? c = none
  low : Γ.s₀.heap.objs.size ≤ Γ.L
  led : ∀ p ∈ σ, s.heap.get? p.1 = some p.2
  ledL : ∀ p ∈ σ, p.1 ≠ Γ.L ∧ ∀ x c, Γ.cs.lookup x = some c → p.1 ≠ c
  ledB : ∀ p ∈ σ, Γ.s₀.heap.get? p.1 = none
  nd : (σ.map (·.1)).Nodup

theorem St.ext {Γ : Fd} {m : Str → Option Value} {σ : List (Addr × Obj)} {s : Shared} {h : Heap} {t : Nat} (H : St Γ m σ s) (k : s.heap.StaysIn h) : St Γ m σ { s with heap := h, toks := t } where
  same := by rw [H.same]
  wd := H.wd
  keep := sTrans H.keep k
  loc := let ⟨ml, a, b⟩ := H.loc; ⟨ml, a.keeps k, b⟩
  cel := fun x c e => (H.cel x c e).keeps k
  apart := H.apart
  cL := H.cL
  kc := H.kc
  cB := H.cB
  low := H.low
  led := fun p hp => k _ _ (H.led p hp)
  ledL := H.ledL
  ledB := H.ledB
  nd := H.nd
def StI (Γ : Fd) (m : Str → Option Value) (σ : List (Addr × Obj)) : Inv Γ.w := ⟨St Γ m σ, fun H => H.wd.keeps H.keep, fun H k => St.ext H k⟩

/-- a new object joins the ledger -/
theorem St.add {Γ : Fd} {m : Str → Option Value} {σ : List (Addr × Obj)} {s : Shared} {h : Heap} {t : Nat} {a : Addr} {o : Obj} (H : St Γ m σ s) (k : s.heap.StaysIn h) (ha : s.heap.get? a = none) (ho : h.get? a = some o) :
    St Γ m ((a, o) :: σ) { s with heap := h, toks := t } :=
  have X := H.ext (t := t) k
  { X with
    led := fun p hp => by
      rcases List.mem_cons.mp hp with rfl | hp
      · exact ho
      · exact X.led p hp
    ledL := fun p hp => by
      rcases List.mem_cons.mp hp with rfl | hp
      · refine ⟨fun e => ?_, fun x c hc e => ?_⟩
        · obtain ⟨ml, ⟨o', _, _, h1, _⟩, _⟩ := H.loc
          dsimp only at e
          rw [e, h1] at ha; cases ha
        · obtain ⟨o', h1, _⟩ := H.cel x c hc
          dsimp only at e
          rw [e, h1] at ha; cases ha
      · exact X.ledL p hp
    ledB := fun p hp => by
      rcases List.mem_cons.mp hp with rfl | hp
      · cases e : Γ.s₀.heap.get? a with
        | none => rfl
        | some o' => have := H.keep a o' e; rw [ha] at this; cases this
      · exact X.ledB p hp
    nd := by
      rw [List.map_cons, List.nodup_cons]
      refine ⟨fun hm => ?_, H.nd⟩
      obtain ⟨p, hp, e⟩ := List.mem_map.mp hm
      have := H.led p hp
      rw [e] at this
      dsimp only at this
      rw [ha] at this; cases this }
theorem size_none (h : Heap) : h.get? h.objs.size = none := by
  cases e : h.get? h.objs.size with
  | none => rfl
  | some o => exact absurd (Heap.lt_size e) (Nat.lt_irrefl _)
theorem St.new {Γ : Fd} {m : Str → Option Value} {σ : List (Addr × Obj)} {s : Shared} {t : Nat} {o : Obj} (H : St Γ m σ s) (hf : o.isFreed = false) :
    St Γ m ((s.heap.objs.size, o) :: σ) { s with heap := s.heap.push o, toks := t } :=
  H.add (sPush _ _) (size_none _) (Heap.get?_push_size _ hf)

/-- an object of the ledger is changed -/
theorem St.put {Γ : Fd} {m : Str → Option Value} {pre post : List (Addr × Obj)} {s : Shared} {h : Heap} {t : Nat} {a : Addr} {o o' : Obj} (H : St Γ m (pre ++ (a, o) :: post) s) (kp : ∀ b x, b ≠ a → s.heap.get? b = some x → h.get? b = some x) (ho : h.get? a = some o') :
    St Γ m (pre ++ (a, o') :: post) { s with heap := h, toks := t } := by
  have hm : (a, o) ∈ pre ++ (a, o) :: post := by simp
  have hB := H.ledB _ hm
  have hL := H.ledL _ hm
  dsimp only at hB hL
  have nd := H.nd
  simp only [List.map_append, List.map_cons] at nd
  have ne1 : ∀ p ∈ pre, p.1 ≠ a := fun p hp e => by
    have := (List.nodup_append.mp nd).2.2 p.1 (List.mem_map_of_mem hp) a (List.mem_cons_self ..)
    exact this e
  have ne2 : ∀ p ∈ post, p.1 ≠ a := fun p hp e => by
    have := (List.nodup_cons.mp (List.nodup_append.mp nd).2.1).1
    exact this (e ▸ List.mem_map_of_mem (f := (·.1)) hp)
  have look : ∀ p, p ∈ pre ++ (a, o') :: post → p = (a, o') ∨ (p.1 ≠ a ∧ p ∈ pre ++ (a, o) :: post) := fun p hp => by
    rcases List.mem_append.mp hp with q | q
    · exact .inr ⟨ne1 p q, List.mem_append_left _ q⟩
    · rcases List.mem_cons.mp q with rfl | q
      · exact .inl rfl
      · exact .inr ⟨ne2 p q, List.mem_append_right _ (.tail _ q)⟩
  have stays : ∀ K : Heap, (K.get? a = none) → K.StaysIn s.heap → K.StaysIn h := fun K hK hk b x e => kp b x (fun z => by rw [z, hK] at e; cases e) (hk b x e)
  refine { same := by rw [H.same], wd := H.wd, keep := stays _ hB H.keep, loc := ?_, cel := ?_, apart := H.apart, cL := H.cL, kc := H.kc, cB := H.cB, low := H.low, led := ?_, ledL := ?_, ledB := ?_, nd := ?_ }
  · obtain ⟨ml, x, y⟩ := H.loc
    exact ⟨ml, x.at' fun o e => kp _ o (Ne.symm hL.1) e, y⟩
  · intro x c hc
    obtain ⟨o, e, d⟩ := H.cel x c hc
    exact ⟨o, kp _ o (Ne.symm (hL.2 x c hc)) e, d⟩
  · intro p hp
    rcases look p hp with rfl | ⟨q, r⟩
    · exact ho
    · exact kp _ _ q (H.led p r)
  · intro p hp
    rcases look p hp with rfl | ⟨q, r⟩
    · exact hL
    · exact H.ledL p r
  · intro p hp
    rcases look p hp with rfl | ⟨q, r⟩
    · exact hB
    · exact H.ledB p r
  · simpa using nd

theorem St.W {Γ : Fd} {m : Str → Option Value} {σ : List (Addr × Obj)} {s : Shared} (H : St Γ m σ s) : Wd Γ.w s.heap := H.wd.keeps H.keep
theorem St.get {Γ : Fd} {m : Str → Option Value} {σ : List (Addr × Obj)} {s : Shared} (H : St Γ m σ s) {a : Addr} {o : Obj} (h : (a, o) ∈ σ) : s.heap.get? a = some o := H.led _ h
theorem St.old {Γ : Fd} {m : Str → Option Value} {σ : List (Addr × Obj)} {s : Shared} (H : St Γ m σ s) {a : Addr} {o : Obj} (h : Γ.s₀.heap.get? a = some o) : s.heap.get? a = some o := H.keep _ _ h

section
variable {w : World} {A : Around} {M : Model} {E : Value → Shared → Prop} {s : Shared} {Γ : Fd} {m : Str → Option Value} {σ : List (Addr × Obj)}

/-- names -/
theorem n_loc {x : Str} {pos : Pos} {v : Value} {Q : Value → Shared → Prop} (H : (StI Γ m σ).p s) (hm : m x = some v) (k : Q v s) (hx : Γ.sc.names.lookup x = some .local := by rfl) (hk : Γ.sc.kind = .function := by rfl) (hd : (x == ("__debug__" : Str)) = false := by decide) :
    wpAny M A (eval (.Name x pos) Γ.env) Q E s := by
  obtain ⟨ml, hn, hl⟩ := St.loc H
  exact wpAny_Name (wpAny_loadName_local (env := Γ.env) hk hx hn ((hl x hx).trans hm) k) hd
theorem n_cel {x : Str} {pos : Pos} {v : Value} {c : Addr} {Q : Value → Shared → Prop} (H : (StI Γ m σ).p s) (hm : m x = some v) (k : Q v s) (hx : Γ.sc.names.lookup x = some .cell := by rfl) (hc : Γ.cs.lookup x = some c := by rfl) (hk : Γ.sc.kind = .function := by rfl) (hd : (x == ("__debug__" : Str)) = false := by decide) :
    wpAny M A (eval (.Name x pos) Γ.env) Q E s := by
  have hv := St.cel H x c hc
  rw [hm] at hv
  exact wpAny_Name (wpAny_loadName_cell (env := Γ.env) hk hx hc hv k) hd
theorem n_glob {env : Env} {x : Str} {pos : Pos} {v : Value} {Q : Value → Shared → Prop} (W : Wd w s.heap) (e : nsIn (KK w) mainGlobals x = some (some v)) (k : Q v s) (hg : env.globals = mainGlobals := by rfl) (hx : env.kindOf x = some .globalImplicit := by rfl) (hk : env.scope.kind = .function := by rfl) (hd : (x == ("__debug__" : Str)) = false := by decide) :
    wpAny M A (eval (.Name x pos) env) Q E s := by
  obtain ⟨mg, hn⟩ := W.g
  exact Name_function_global hk hx (loadGlobal_global (env := env) (by rw [hg]; exact hn) (mg_of W.k hn e) k) hd
theorem n_bui {env : Env} {x : Str} {pos : Pos} {v : Value} {Q : Value → Shared → Prop} (W : Wd w s.heap) (e : nsIn (KK w) mainGlobals x = some none) (hv : bootBuiltins x = some v) (k : Q v s) (hn : x ≠ "__name__" := by decide) (hg : env.globals = mainGlobals := by rfl) (hb : env.builtins = builtinsNs := by rfl) (hx : env.kindOf x = some .globalImplicit := by rfl) (hk : env.scope.kind = .function := by rfl) (hd : (x == ("__debug__" : Str)) = false := by decide) :
    wpAny M A (eval (.Name x pos) env) Q E s := by
  obtain ⟨mg, hn1⟩ := W.g
  obtain ⟨mb, hb1, hb2⟩ := W.b
  exact Name_function_global hk hx (loadGlobal_builtin (env := env) (by rw [hg]; exact hn1) (mg_none_of W.k hn1 e) (by rw [hb]; exact hb1) ((hb2 x hn).trans hv) k) hd

/-- stores -/
theorem s_loc {x : Str} {v : Value} {Q : Unit → Shared → Prop} (H : (StI Γ m σ).p s) (k : ∀ s', (StI Γ (up m x v) σ).p s' → Q () s') (hx : Γ.sc.names.lookup x = some .local := by rfl) (hk : Γ.sc.kind = .function := by rfl) :
    wpAny M A (storeName Γ.env x v) Q E s := by
  have H : St Γ m σ s := H
  obtain ⟨ml, hn, hl⟩ := H.loc
  refine wpAny_storeName_local (env := Γ.env) hx hn (fun h' hn' hs' => k _ ?_) (by rw [hk]; rfl)
  have nc : ∀ y, Γ.cs.lookup y ≠ none → True := fun _ _ => trivial
  have kp : ∀ b o, b ≠ Γ.L → s.heap.get? b = some o → h'.get? b = some o := fun b o hb e => (hs'.2 b hb).trans e
  have oldL : ∀ b o, Γ.s₀.heap.get? b = some o → b ≠ Γ.L := fun b o e z => absurd (Heap.lt_size e) (by rw [z]; exact Nat.not_lt.mpr H.low)
  refine ⟨by rw [H.same], H.wd, fun b o e => kp b o (oldL b o e) (H.keep b o e), ⟨_, hn', fun y hy => ?_⟩, fun y c hc => ?_, H.apart, H.cL, H.kc, H.cB, H.low, fun p hp => kp _ _ (H.ledL p hp).1 (H.led p hp), H.ledL, H.ledB, H.nd⟩
  · show (if y = x then some v else ml y) = if y = x then some v else m y
    by_cases q : y = x
    · rw [if_pos q, if_pos q]
    · rw [if_neg q, if_neg q]; exact hl y hy
  · have hcl := H.cL y c hc
    have := (H.cel y c hc).sameBut hs' hcl
    by_cases q : y = x
    · have := H.kc y c hc
      rw [q, hx] at this; cases this
    · rw [up_ne q]; exact this
theorem s_cel {x : Str} {v : Value} {c : Addr} {Q : Unit → Shared → Prop} (H : (StI Γ m σ).p s) (k : ∀ s', (StI Γ (up m x v) σ).p s' → Q () s') (hx : Γ.sc.names.lookup x = some .cell := by rfl) (hc : Γ.cs.lookup x = some c := by rfl) (hk : Γ.sc.kind = .function := by rfl) (hmi : Γ.mine x = true := by rfl) :
    wpAny M A (storeName Γ.env x v) Q E s := by
  have H : St Γ m σ s := H
  have hLc := H.cL x c hc
  have hcB := H.cB x c hc hmi
  refine wpAny_storeName_cell (env := Γ.env) hk hx hc (H.cel x c hc) fun h' hc' hs' => k _ ?_
  have kp : ∀ b o, b ≠ c → s.heap.get? b = some o → h'.get? b = some o := fun b o hb e => (hs'.2 b hb).trans e
  have oldC : ∀ b o, Γ.s₀.heap.get? b = some o → b ≠ c := fun b o e z => by rw [z, hcB] at e; cases e
  obtain ⟨ml, hn, hl⟩ := H.loc
  refine ⟨by rw [H.same], H.wd, fun b o e => kp b o (oldC b o e) (H.keep b o e), ⟨ml, hn.sameBut hs' (Ne.symm hLc), fun y hy => ?_⟩, fun y c' hc'' => ?_, H.apart, H.cL, H.kc, H.cB, H.low, fun p hp => kp _ _ ((H.ledL p hp).2 x c hc) (H.led p hp), H.ledL, H.ledB, H.nd⟩
  · have q : y ≠ x := fun q => by rw [q, hx] at hy; cases hy
    rw [up_ne q]; exact hl y hy
  · by_cases q : y = x
    · subst q
      rw [hc] at hc''; cases hc''
      rw [up_same]; exact hc'
    · rw [up_ne q]
      exact (H.cel y c' hc'').sameBut hs' fun e => q (H.apart y x c' hc'' (e ▸ hc))
end

theorem bindL_eq {kindOf : Str → Option NameKind} {x : Str} (hx : kindOf x = some .local) : ∀ (binds : List (Str × Value)) (m : Str → Option Value), bindL kindOf binds m x = (binds.reverse.lookup x).or (m x)
  | [], m => rfl
  | (n, v) :: r, m => by
    unfold bindL
    rw [bindL_eq hx r, List.reverse_cons, List.lookup_append, Option.or_assoc]
    congr 1
    by_cases q : x = n
    · subst q
      rw [if_pos hx]; simp [List.lookup_cons]
    · have q' : (x == n) = false := by simpa using q
      split <;> simp [List.lookup_cons, q', q]
theorem bindC_eq {kindOf : Str → Option NameKind} {x : Str} (hx : kindOf x ≠ some .local) : ∀ (binds : List (Str × Value)) (m : Str → Option Value), bindC kindOf binds m x = (binds.reverse.lookup x).or (m x)
  | [], m => rfl
  | (n, v) :: r, m => by
    unfold bindC
    rw [bindC_eq hx r, List.reverse_cons, List.lookup_append, Option.or_assoc]
    congr 1
    by_cases q : x = n
    · subst q
      rw [if_neg hx]; simp [List.lookup_cons]
    · have q' : (x == n) = false := by simpa using q
      split <;> simp [List.lookup_cons, q', q]
theorem cells_mem {x : Str} : ∀ (names : List (Str × NameKind)) (n : Nat) (acc : List (Str × Addr)) (c : Addr), (cellsFrom n names acc).lookup x = some c → (x, NameKind.cell) ∈ names ∨ acc.lookup x = some c
  | [], _, _, _, h => .inr h
  | (y, k) :: r, n, acc, c, h => by
    unfold cellsFrom at h
    split at h
    · rename_i hk
      rcases cells_mem r _ _ c h with q | q
      · exact .inl (.tail _ q)
      · rw [List.lookup_cons] at q
        split at q
        · rename_i e
          rw [beq_iff_eq.mp e, beq_iff_eq.mp hk]; exact .inl (.head _)
        · exact .inr q
    · rcases cells_mem r _ _ c h with q | q
      · exact .inl (.tail _ q)
      · exact .inr q

def bmap (binds : List (Str × Value)) : Str → Option Value := fun x => binds.reverse.lookup x
@[reducible] def fdOn (g : Heap) (s : Shared) (w : World) (f : Addr) (fd : FuncData) : Fd := ⟨{ s with heap := g }, w, fd.scope, fd.qualname ++ ".<locals>.", s.heap.objs.size, some f, some s.heap.objs.size, cellsFrom (s.heap.objs.size + 1) fd.scope.names [], fd.code, fun _ => true⟩

/-- a call of a def of the text: g is what it leaves as it is, σ what it may change -/
theorem enterG {w : World} {A : Around} {s : Shared} {R : Result → Shared → Prop} {f : Addr} {oc : Value} {od : Option Addr} {osl : Array (Option Value)} {fd : FuncData} {body : List Stmt} {args : Args} {binds : List (Str × Value)} {g : Heap} {σ : List (Addr × Obj)}
    (W : Wd w g) (hg : g.StaysIn s.heap) (hgs : g.objs.size ≤ s.heap.objs.size) (hσ : ∀ p ∈ σ, s.heap.get? p.1 = some p.2 ∧ g.get? p.1 = none) (hnd : (σ.map (·.1)).Nodup)
    (hroom : A.depth < recursionLimit) (ho : (KK w).lookup f = some ⟨oc, od, .func fd, osl⟩) (hcd : codeIn (KK w) fd.code fd.qualname = true) (hbody : fd.body = .stmts body) (hbind : BindsTo s fd args binds)
    (h : ∀ s₁, (StI (fdOn g s w f fd) (bmap binds) σ).p s₁ →
      wpAny (model PP w) (A.deeper (fdOn g s w f fd).env) (execs body (fdOn g s w f fd).env) (fun f s' => R (.ok (.ret (match f with | .ret v => v | _ => .none))) s') (fun _ _ => False) s₁)
    (hkind : (binds.all fun x => fd.scope.names.lookup x.1 == some .local || fd.scope.names.lookup x.1 == some .cell) = true := by rfl) (hnames : (fd.scope.names.all fun y => y.2 != .cell || fd.scope.names.lookup y.1 == some .cell) = true := by rfl)
    (hclo : fd.closure = [] := by rfl) (hgl : fd.globals = mainGlobals := by rfl) (hbu : fd.builtins = builtinsNs := by rfl)
    (hco : fd.scope.isCoroutine = false := by rfl) (hgen : fd.scope.isGenerator = false := by rfl) (hk : fd.scope.kind = .function := by rfl) :
    codeAny (model PP w) A (.call (.ref f) args) R s := by
  have W' := W.keeps hg
  refine codeAny_call_function hroom (W'.k _ _ ho) rfl hco hgen hbody (codeRec_of W'.k hcd) (hbind _ _ _ _ ?_)
  rw [hclo]
  have hkd : ∀ x ∈ binds, fd.scope.names.lookup x.1 = some .local ∨ (fd.scope.names.lookup x.1 = some .cell ∧ ((cellsFrom (s.heap.objs.size + 1) fd.scope.names []).lookup x.1).isSome = true) := fun x hx => by
    have := List.all_eq_true.mp hkind x hx
    rcases Bool.or_eq_true_iff.mp this with q | q
    · exact .inl (by simpa using q)
    · have q' : fd.scope.names.lookup x.1 = some .cell := by simpa using q
      exact .inr ⟨q', cellsFrom_some _ _ _ (.inl q')⟩
  refine wpAny_newFunctionEnv_cells hk hkd fun env he s' x => ?_
  have e : env = (fdOn g s w f fd).env := by rw [he, hgl, hbu]; rfl
  subst e
  refine ⟨W'.lim.keeps x.toInCall.keep, codeAny_func (wpAny_mono (h s' ?_) (fun _ _ z => z) fun _ _ z => z.elim)⟩
  have I := x.toInCall
  obtain ⟨h₁, tk, e1⟩ := I.same
  refine ⟨by rw [e1], W, sTrans hg I.keep, ⟨_, I.ns, fun y hy => ?_⟩, fun y c hc => ?_, fun y z c hy hz => name_of_addr x.apart (mem_of_lookup hy) (mem_of_lookup hz), fun y c hc => Nat.ne_of_gt (x.above y c (mem_of_lookup hc)), fun y c hc => ?_, fun y c hc _ => Heap.get?_none_of_le (Nat.le_trans (Nat.le_trans hgs I.fresh) (Nat.le_of_lt (x.above y c (mem_of_lookup hc)))), Nat.le_trans hgs I.fresh,
    fun p hp => I.keep _ _ (hσ p hp).1, fun p hp => ⟨Nat.ne_of_lt (Heap.lt_size (hσ p hp).1), fun y c hc => Nat.ne_of_lt (Nat.lt_trans (Heap.lt_size (hσ p hp).1) (x.above y c (mem_of_lookup hc)))⟩, fun p hp => (hσ p hp).2, hnd⟩
  · rw [bindL_eq (kindOf := (fdOn g s w f fd).env.kindOf) hy]; simp [bmap]
  · have hkc : fd.scope.names.lookup y = some .cell := by
      rcases cells_mem _ _ _ _ hc with q | q
      · have := List.all_eq_true.mp hnames _ q
        simpa using this
      · cases q
    have := x.cell y c hc
    rw [bindC_eq (kindOf := (fdOn g s w f fd).env.kindOf) (by show fd.scope.names.lookup y ≠ _; rw [hkc]; decide)] at this
    simpa [bmap] using this
  · rcases cells_mem _ _ _ _ hc with q | q
    · have := List.all_eq_true.mp hnames _ q
      simpa using this
    · cases q
theorem enterK {w : World} {A : Around} {s : Shared} {R : Result → Shared → Prop} {f : Addr} {oc : Value} {od : Option Addr} {osl : Array (Option Value)} {fd : FuncData} {body : List Stmt} {args : Args} {binds : List (Str × Value)}
    (W : Wd w s.heap) (hroom : A.depth < recursionLimit) (ho : (KK w).lookup f = some ⟨oc, od, .func fd, osl⟩) (hcd : codeIn (KK w) fd.code fd.qualname = true) (hbody : fd.body = .stmts body) (hbind : BindsTo s fd args binds)
    (h : ∀ s₁, (StI (fdOn s.heap s w f fd) (bmap binds) []).p s₁ →
      wpAny (model PP w) (A.deeper (fdOn s.heap s w f fd).env) (execs body (fdOn s.heap s w f fd).env) (fun f s' => R (.ok (.ret (match f with | .ret v => v | _ => .none))) s') (fun _ _ => False) s₁)
    (hkind : (binds.all fun x => fd.scope.names.lookup x.1 == some .local || fd.scope.names.lookup x.1 == some .cell) = true := by rfl) (hnames : (fd.scope.names.all fun y => y.2 != .cell || fd.scope.names.lookup y.1 == some .cell) = true := by rfl)
    (hclo : fd.closure = [] := by rfl) (hgl : fd.globals = mainGlobals := by rfl) (hbu : fd.builtins = builtinsNs := by rfl)
    (hco : fd.scope.isCoroutine = false := by rfl) (hgen : fd.scope.isGenerator = false := by rfl) (hk : fd.scope.kind = .function := by rfl) :
    codeAny (model PP w) A (.call (.ref f) args) R s :=
  enterG (σ := []) W (sRefl _) (Nat.le_refl _) (fun _ h => nomatch h) List.nodup_nil hroom ho hcd hbody hbind h hkind hnames hclo hgl hbu hco hgen hk

/-- how a call ends: the rest of the heap stands -/
def Rets (s : Shared) (R : Result → Shared → Prop) (Φ : Value → Shared → Prop) : Prop :=
  ∀ v s', s' = { s with heap := s'.heap, toks := s'.toks } → s.heap.StaysIn s'.heap → Φ v s' → R (.ok (.ret v)) s'
theorem St.back {w : World} {s s' : Shared} {f : Addr} {fd : FuncData} {m : Str → Option Value} {σ : List (Addr × Obj)} {R : Result → Shared → Prop} {Φ : Value → Shared → Prop} {v : Value} (k : Rets s R Φ) (H : (StI (fdOn s.heap s w f fd) m σ).p s') (h : Φ v s') : R (.ok (.ret v)) s' :=
  k v s' (St.same H) (St.keep H) h

section
variable {w : World} {prog : Program} {A : Around} {M : Model} {E : Value → Shared → Prop} {s : Shared} {I : Inv w} {env : Env}

def Sq (M : Model) (A : Around) (rest : List Stmt) (env : Env) (Q : Flow → Shared → Prop) (E : Value → Shared → Prop) (f : Flow) (s' : Shared) : Prop :=
  match f with | .next => wpAny M A (execs rest env) Q E s' | f => Q f s'
theorem x_nil {Q : Flow → Shared → Prop} (h : Q .next s) : wpAny M A (execs [] env) Q E s := wpAny_execs_nil h
theorem x_cons {st : Stmt} {rest : List Stmt} {Q : Flow → Shared → Prop} (h : wpAny M A (exec st env) (Sq M A rest env Q E) E s) : wpAny M A (execs (st :: rest) env) Q E s :=
  wpAny_execs_cons (wpAny_mono h (fun f s' q => by cases f <;> exact q) fun _ _ q => q)
theorem sq_next {rest : List Stmt} {Q : Flow → Shared → Prop} (h : wpAny M A (execs rest env) Q E s) : Sq M A rest env Q E .next s := h
theorem sq_ret {rest : List Stmt} {Q : Flow → Shared → Prop} {v : Value} (h : Q (.ret v) s) : Sq M A rest env Q E (.ret v) s := h
theorem sq_brk {rest : List Stmt} {Q : Flow → Shared → Prop} (h : Q .brk s) : Sq M A rest env Q E .brk s := h
theorem sq_cont {rest : List Stmt} {Q : Flow → Shared → Prop} (h : Q .cont s) : Sq M A rest env Q E .cont s := h
theorem x_assign {x : Str} {px pos : Pos} {e : Expr} {rest : List Stmt} {Q : Flow → Shared → Prop}
    (h : wpAny M A (eval e env) (fun v s₁ => wpAny M A (storeName env x v) (fun _ s₂ => wpAny M A (execs rest env) Q E s₂) E s₁) E s)
    (hs : swapsWith e (some (.Name x px)) pos.line env = pure false := by rfl) : wpAny M A (execs (.Assign [.Name x px] e pos :: rest) env) Q E s :=
  wpAny_execs_cons (wpAny_Assign_Name h hs)
theorem x_ret {e : Expr} {pos : Pos} {rest : List Stmt} {Q : Flow → Shared → Prop} (h : wpAny M A (eval e env) (fun v s₁ => Q (.ret v) s₁) E s) : wpAny M A (execs (.Return (some e) pos :: rest) env) Q E s :=
  wpAny_execs_cons (wpAny_Return_some h)
theorem x_cont {pos : Pos} {rest : List Stmt} {Q : Flow → Shared → Prop} (h : Q .cont s) : wpAny M A (execs (.Continue pos :: rest) env) Q E s := wpAny_execs_cons (wpAny_Continue h)
theorem x_if {test : Expr} {body orelse rest : List Stmt} {pos : Pos} {Q : Flow → Shared → Prop}
    (h : wpAny M A (isTrue test env (eval test env)) (fun c s₁ => (c = true → wpAny M A (execs body env) (Sq M A rest env Q E) E s₁) ∧ (c = false → wpAny M A (execs orelse env) (Sq M A rest env Q E) E s₁)) E s) :
    wpAny M A (execs (.If test body orelse pos :: rest) env) Q E s :=
  x_cons (wpAny_If (wpAny_mono h (fun c s₁ q => by
    cases c
    · exact q.2 rfl
    · exact q.1 rfl) fun _ _ q => q))
theorem x_expr {e : Expr} {pos : Pos} {rest : List Stmt} {Q : Flow → Shared → Prop} (h : wpAny M A (eval e env) (fun v s₁ => (∀ a, v ≠ .ref a) ∧ wpAny M A (execs rest env) Q E s₁) E s)
    (hi : interactive env = false := by rfl) (hs : swapsWith e none pos.line env = pure false := by rfl) : wpAny M A (execs (.Expr e pos :: rest) env) Q E s :=
  wpAny_execs_cons (wpAny_Expr (wpAny_mono h (fun v s₁ q => by cases v <;> first | exact q.2 | exact (q.1 _ rfl).elim) fun _ _ q => q) hi hs)

/-- constants -/
theorem k_int {i : Int} {k : Nat} {pos : Pos} {Q : Value → Shared → Prop} (H : I.p s) (h : ∀ t s, I.p s → Q (.int i t) s) : wpAny M A (eval (.Constant (.int i) k pos) env) Q E s := wpAny_Constant_int (h _ _ (I.tok H))
theorem k_str {x : Str} {k : Nat} {pos : Pos} {Q : Value → Shared → Prop} (H : I.p s) (h : ∀ t s, I.p s → Q (.str x t) s) : wpAny M A (eval (.Constant (.str x) k pos) env) Q E s := wpAny_Constant_str (h _ _ (I.tok H))
/-- calls -/
theorem c_call {f : Expr} {args : List Expr} {pos : Pos} {Q : Value → Shared → Prop}
    (h : wpAny M A (eval f env) (fun v s₁ => wpAny M A (callWith pos v [] (backTo pos (starEach args env)) []) Q E s₁) E s) (hf : ∀ o a p, f ≠ .Attribute o a p := by intro _ _ _ e; cases e) : wpAny M A (eval (.Call f args [] pos) env) Q E s := by
  have e : eval (.Call f args [] pos) env = (do callWith pos (← eval f env) [] (backTo pos (starEach args env)) []) := by
    cases f <;> first | rfl | exact absurd rfl (hf _ _ _)
  rw [e]
  exact wpAny_bind h
theorem starNo : ∀ (l : List Expr) (pos : Pos), ((l.all fun | .Starred _ _ => false | _ => true) = true) → (backTo pos (starEach l env)).any (·.1) = false
  | [], _, _ => rfl
  | e :: r, pos, h => by
    have h' := h
    simp only [List.all_cons, Bool.and_eq_true] at h'
    have ih := starNo r pos h'.2
    cases e <;> first | (cases h'.1; done) | (show (false || (backTo pos (starEach r env)).any (·.1)) = false; rw [ih]; rfl)
theorem evArgs {f : Value} {l : List (Bool × Sem Value)} {Q : Args → Shared → Prop} (hl : l.any (·.1) = false)
    (h : wpAny M A (spliced l) (fun vs s' => Q ⟨vs, []⟩ s') E s) : wpAny M A (evalArgs f true l []) Q E s := by
  cases l with
  | nil =>
    unfold evalArgs
    show wpAny M A (spliced [] >>= _) Q E s
    refine wpAny_bind (wpAny_mono h (fun vs s' q => ?_) fun _ _ q => q)
    refine wpAny_bind (wpAny_pure ?_)
    refine wpAny_holding ?_
    exact wpAny_bind (wpAny_pure (wpAny_bind (wpAny_pure (wpAny_pure q))))
  | cons p r =>
    obtain ⟨b, x⟩ := p
    rw [List.any_cons, Bool.or_eq_false_iff] at hl
    have hb : b = false := hl.1
    subst hb
    exact evalArgs_plain h
theorem c_bui {id : String} {first : List Value} {args : List Expr} {pos pos' : Pos} {Q : Value → Shared → Prop}
    (h : wpAny M A (spliced (backTo pos' (starEach args env))) (fun vs s₁ => wpAny M A (call (.builtin id) (first ++ vs)) Q E s₁) E s) (hn : (args.all fun | .Starred _ _ => false | _ => true) = true := by rfl) :
    wpAny M A (callWith pos (.builtin id) first (backTo pos' (starEach args env)) []) Q E s :=
  callWith_builtin (starNo _ _ hn) (evArgs (starNo _ _ hn) h)
theorem c_ref {f : Addr} {first : List Value} {args : List Expr} {pos pos' : Pos} {Q : Value → Shared → Prop} (hk : keepIn (KK w) (.ref f) = true)
    (h : wpAny M A (spliced (backTo pos' (starEach args env))) (fun vs s₁ => Wd w s₁.heap ∧ wpAny M A (call (.ref f) (first ++ vs)) Q E s₁) E s) (hn : (args.all fun | .Starred _ _ => false | _ => true) = true := by rfl) :
    wpAny M A (callWith pos (.ref f) first (backTo pos' (starEach args env)) []) Q E s :=
  callWith_of (P := fun h => (KK w).In h) (by rw [starNo _ _ hn]; rfl) (keeps_K hk) (evArgs (starNo _ _ hn) (wpAny_mono h (fun vs s' q => ⟨q.1.k, q.2⟩) fun _ _ q => q))
theorem c_nil {pos : Pos} {Q : List Value → Shared → Prop} (h : Q [] s) : wpAny M A (spliced (backTo pos (starEach [] env))) Q E s := wpAny_items_nil h
theorem c_cons {pos : Pos} {e : Expr} {rest : List Expr} {Q : List Value → Shared → Prop}
    (h : wpAny M A (eval e env) (fun v s₁ => wpAny M A (spliced (backTo pos (starEach rest env))) (fun vs s₂ => Q (v :: vs) s₂) E s₁) E s)
    (he : starEach (e :: rest) env = (false, eval e env) :: starEach rest env := by rfl) : wpAny M A (spliced (backTo pos (starEach (e :: rest) env))) Q E s := wpAny_items_cons h he
end
-- ints
section
variable {w : World} {prog : Program} {A : Around} {E : Value → Shared → Prop} {s : Shared} {I : Inv w} {a b : Int} {t u : Tok} {Q : Value → Shared → Prop}
theorem i_add (H : I.p s) (h : ∀ t s, I.p s → Q (.int (a + b) t) s) : wpAny (model prog w) A (binaryOp .Add (.int a t) (.int b u)) Q E s := add_int (h _ _ (I.tok H))
theorem i_sub (H : I.p s) (h : ∀ t s, I.p s → Q (.int (a - b) t) s) : wpAny (model prog w) A (binaryOp .Sub (.int a t) (.int b u)) Q E s := sub_int (h _ _ (I.tok H))
theorem i_mul (H : I.p s) (ok : IntMulOk a b) (h : ∀ t s, I.p s → Q (.int (a * b) t) s) : wpAny (model prog w) A (binaryOp .Mult (.int a t) (.int b u)) Q E s := mul_int (h _ _ (I.tok H)) ok
theorem i_mod (H : I.p s) (hb : b ≠ 0) (h : ∀ t s, I.p s → Q (.int (a.fmod b) t) s) : wpAny (model prog w) A (binaryOp .Mod (.int a t) (.int b u)) Q E s := mod_int' hb (h _ _ (I.tok H))
theorem i_fdiv (H : I.p s) (hb : b ≠ 0) (hp : Builtin.divisionGoesByPylong a b = false) (h : ∀ t s, I.p s → Q (.int (a.fdiv b) t) s) : wpAny (model prog w) A (binaryOp .FloorDiv (.int a t) (.int b u)) Q E s := floordiv_int hb (h _ _ (I.tok H)) (.inl hp)
theorem i_shr (H : I.p s) (hb : 0 ≤ b) (h : ∀ t s, I.p s → Q (.int (a.fdiv (2 ^ b.toNat)) t) s) : wpAny (model prog w) A (binaryOp .RShift (.int a t) (.int b u)) Q E s := rshift_int hb (h _ _ (I.tok H))
theorem i_shl (H : I.p s) (hb : 0 ≤ b) (hb' : b ≤ 1000000) (ha : a.natAbs < 2 ^ 64) (h : ∀ t s, I.p s → Q (.int (a * 2 ^ b.toNat) t) s) : wpAny (model prog w) A (binaryOp .LShift (.int a t) (.int b u)) Q E s := lshift_int_small hb hb' ha (h _ _ (I.tok H))
theorem i_and (H : I.p s) (h : ∀ t s, I.p s → Q (.int (Builtin.bitAnd a b) t) s) : wpAny (model prog w) A (binaryOp .BitAnd (.int a t) (.int b u)) Q E s := and_int (h _ _ (I.tok H))
theorem i_or (H : I.p s) (h : ∀ t s, I.p s → Q (.int (Builtin.bitOr a b) t) s) : wpAny (model prog w) A (binaryOp .BitOr (.int a t) (.int b u)) Q E s := or_int (h _ _ (I.tok H))
theorem i_xor (H : I.p s) (h : ∀ t s, I.p s → Q (.int (Builtin.bitXor a b) t) s) : wpAny (model prog w) A (binaryOp .BitXor (.int a t) (.int b u)) Q E s := xor_int (h _ _ (I.tok H))
end

theorem b_and {M : Model} {A : Around} {E : Value → Shared → Prop} {s : Shared} {env : Env} {x y : Expr} {pos : Pos} {Q : Value → Shared → Prop}
    (h : wpAny M A (eval x env) (fun v s₁ => wpAny M A (truthy v) (fun t s₂ => (t = true → wpAny M A (eval y env) Q E s₂) ∧ (t = false → Q v s₂)) E s₁) E s) : wpAny M A (eval (.BoolOp .And [x, y] pos) env) Q E s :=
  wpAny_And2 (wpAny_mono h (fun v s₁ h => wpAny_mono h (fun t s₂ q => by cases t <;> first | exact q.2 rfl | exact q.1 rfl) fun _ _ q => q) fun _ _ q => q)
theorem b_or {M : Model} {A : Around} {E : Value → Shared → Prop} {s : Shared} {env : Env} {x y : Expr} {pos : Pos} {Q : Value → Shared → Prop}
    (h : wpAny M A (eval x env) (fun v s₁ => wpAny M A (truthy v) (fun t s₂ => (t = true → Q v s₂) ∧ (t = false → wpAny M A (eval y env) Q E s₂)) E s₁) E s) : wpAny M A (eval (.BoolOp .Or [x, y] pos) env) Q E s :=
  wpAny_Or2 (wpAny_mono h (fun v s₁ h => wpAny_mono h (fun t s₂ q => by cases t <;> first | exact q.2 rfl | exact q.1 rfl) fun _ _ q => q) fun _ _ q => q)
theorem b_not {M : Model} {A : Around} {E : Value → Shared → Prop} {s : Shared} {v : Value} {Q : Value → Shared → Prop}
    (h : wpAny M A (truthy v) (fun b s₁ => Q (.bool (!b)) s₁) E s) : wpAny M A (unaryOp .Not v) Q E s := not_value h

theorem OnI.wd {w : World} {s₀ s : Shared} (W : Wd w s₀.heap) (H : s = { s₀ with heap := s.heap, toks := s.toks } ∧ s₀.heap.StaysIn s.heap) : Wd w s.heap := W.keeps H.2
/-- what is reached from a state by new objects alone -/
def OnI {w : World} (s₀ : Shared) (W : Wd w s₀.heap) : Inv w :=
  ⟨fun s => s = { s₀ with heap := s.heap, toks := s.toks } ∧ s₀.heap.StaysIn s.heap, fun H => W.keeps H.2, fun {s h t} H k => ⟨by rw [H.1], sTrans H.2 k⟩⟩
theorem OnI.start {w : World} {s₀ : Shared} (W : Wd w s₀.heap) : (OnI s₀ W).p s₀ := ⟨rfl, sRefl _⟩
theorem OnI.keeps {w : World} {s₀ s : Shared} {W : Wd w s₀.heap} (H : (OnI s₀ W).p s) : Keeps s₀ s := ⟨s.heap, s.toks, H.1, H.2⟩

theorem bB_len : bootBuiltins "len" = some (.builtin "len") := by boot_by_name
theorem bB_chr : bootBuiltins "chr" = some (.builtin "chr") := by boot_by_name
theorem bB_ord : bootBuiltins "ord" = some (.builtin "ord") := by boot_by_name
theorem bB_min : bootBuiltins "min" = some (.builtin "min") := by boot_by_name
theorem bB_sum : bootBuiltins "sum" = some (.builtin "sum") := by boot_by_name
theorem bB_range : bootBuiltins "range" = some (.type "range") := by boot_by_name
theorem bB_list : bootBuiltins "list" = some (.type "list") := by boot_by_name
theorem bB_str : bootBuiltins "str" = some (.type "str") := by boot_by_name
theorem bB_type : bootBuiltins "type" = some (.type "type") := by boot_by_name
theorem bB_enumerate : bootBuiltins "enumerate" = some (.type "enumerate") := by boot_by_name

theorem gGISTERMINAL {w : World} : nsIn (KK w) mainGlobals "ISTERMINAL" = some (some (.ref 48)) := by kernel_rfl
theorem gGISEOF {w : World} : nsIn (KK w) mainGlobals "ISEOF" = some (some (.ref 55)) := by kernel_rfl
theorem gGEXACT_TOKEN_TYPES {w : World} : nsIn (KK w) mainGlobals "EXACT_TOKEN_TYPES" = some (some (.ref 39)) := by kernel_rfl
theorem gGNT_OFFSET {w : World} : nsIn (KK w) mainGlobals "NT_OFFSET" = some (some (.int 256 389)) := by kernel_rfl
theorem gGENDMARKER {w : World} : nsIn (KK w) mainGlobals "ENDMARKER" = some (some (.int 0 291)) := by kernel_rfl
theorem gG_MAX_STRING_SIZE {w : World} : nsIn (KK w) mainGlobals "_MAX_STRING_SIZE" = some (some (.int 40 504)) := by kernel_rfl
theorem gG_MOVE_COST {w : World} : nsIn (KK w) mainGlobals "_MOVE_COST" = some (some (.int 2 506)) := by kernel_rfl
theorem gG_CASE_COST {w : World} : nsIn (KK w) mainGlobals "_CASE_COST" = some (some (.int 1 508)) := by kernel_rfl
theorem gG_substitution_cost {w : World} : nsIn (KK w) mainGlobals "_substitution_cost" = some (some (.ref 62)) := by kernel_rfl
theorem gG_levenshtein_distance {w : World} : nsIn (KK w) mainGlobals "_levenshtein_distance" = some (some (.ref 69)) := by kernel_rfl
theorem gG_name_disallowed_re {w : World} : nsIn (KK w) mainGlobals "_name_disallowed_re" = some (some (.ref 79)) := by kernel_rfl
theorem gG_value_disallowed_re {w : World} : nsIn (KK w) mainGlobals "_value_disallowed_re" = some (some (.ref 84)) := by kernel_rfl
theorem gGHeaders {w : World} : nsIn (KK w) mainGlobals "Headers" = some (some (.ref 213)) := by kernel_rfl
theorem gG_law_formula {w : World} : nsIn (KK w) mainGlobals "_law_formula" = some (some (.ref 222)) := by kernel_rfl
theorem gG_law_symbols {w : World} : nsIn (KK w) mainGlobals "_law_symbols" = some (some (.ref 229)) := by kernel_rfl
theorem gG_law_holds {w : World} : nsIn (KK w) mainGlobals "_law_holds" = some (some (.ref 236)) := by kernel_rfl
theorem gG_law_read {w : World} : nsIn (KK w) mainGlobals "_law_read" = some (some (.ref 241)) := by kernel_rfl
theorem gG_law_walk {w : World} : nsIn (KK w) mainGlobals "_law_walk" = some (some (.ref 248)) := by kernel_rfl
theorem gG_law_leaves {w : World} : nsIn (KK w) mainGlobals "_law_leaves" = some (some (.ref 253)) := by kernel_rfl
theorem gN_len {w : World} : nsIn (KK w) mainGlobals "len" = some none := by kernel_rfl
theorem gN_chr {w : World} : nsIn (KK w) mainGlobals "chr" = some none := by kernel_rfl
theorem gN_ord {w : World} : nsIn (KK w) mainGlobals "ord" = some none := by kernel_rfl
theorem gN_min {w : World} : nsIn (KK w) mainGlobals "min" = some none := by kernel_rfl
theorem gN_sum {w : World} : nsIn (KK w) mainGlobals "sum" = some none := by kernel_rfl
theorem gN_range {w : World} : nsIn (KK w) mainGlobals "range" = some none := by kernel_rfl
theorem gN_list {w : World} : nsIn (KK w) mainGlobals "list" = some none := by kernel_rfl
theorem gN_str {w : World} : nsIn (KK w) mainGlobals "str" = some none := by kernel_rfl
theorem gN_type {w : World} : nsIn (KK w) mainGlobals "type" = some none := by kernel_rfl
theorem gN_enumerate {w : World} : nsIn (KK w) mainGlobals "enumerate" = some none := by kernel_rfl
/-- the text's own names, and the built-in ones, as tables -/
def gtab : List (Str × Value) := [("ISTERMINAL", .ref 48), ("ISEOF", .ref 55), ("EXACT_TOKEN_TYPES", .ref 39), ("NT_OFFSET", .int 256 389), ("ENDMARKER", .int 0 291), ("_MAX_STRING_SIZE", .int 40 504), ("_MOVE_COST", .int 2 506), ("_CASE_COST", .int 1 508), ("_substitution_cost", .ref 62), ("_levenshtein_distance", .ref 69), ("_name_disallowed_re", .ref 79), ("_value_disallowed_re", .ref 84), ("Headers", .ref 213), ("_law_formula", .ref 222), ("_law_symbols", .ref 229), ("_law_holds", .ref 236), ("_law_read", .ref 241), ("_law_walk", .ref 248), ("_law_leaves", .ref 253)]
def btab : List (Str × Value) := [("len", .builtin "len"), ("chr", .builtin "chr"), ("ord", .builtin "ord"), ("min", .builtin "min"), ("sum", .builtin "sum"), ("range", .type "range"), ("list", .type "list"), ("str", .type "str"), ("type", .type "type"), ("enumerate", .type "enumerate")]
theorem tabP {α : Type} {P : α → Prop} : ∀ l : List α, (l.foldr (fun a q => P a ∧ q) True) → ∀ p ∈ l, P p
  | [], _, p, h => (nomatch h)
  | a :: r, h, p, hp => by
    rcases List.mem_cons.mp hp with rfl | hp
    · exact h.1
    · exact tabP r h.2 p hp
theorem gtab_ok {w : World} {x : Str} {v : Value} (h : gtab.lookup x = some v) : nsIn (KK w) mainGlobals x = some (some v) ∧ (x == ("__debug__" : Str)) = false :=
  tabP (P := fun p : Str × Value => nsIn (KK w) mainGlobals p.1 = some (some p.2) ∧ (p.1 == ("__debug__" : Str)) = false) gtab ⟨⟨gGISTERMINAL, by decide⟩, ⟨gGISEOF, by decide⟩, ⟨gGEXACT_TOKEN_TYPES, by decide⟩, ⟨gGNT_OFFSET, by decide⟩, ⟨gGENDMARKER, by decide⟩, ⟨gG_MAX_STRING_SIZE, by decide⟩, ⟨gG_MOVE_COST, by decide⟩, ⟨gG_CASE_COST, by decide⟩, ⟨gG_substitution_cost, by decide⟩, ⟨gG_levenshtein_distance, by decide⟩, ⟨gG_name_disallowed_re, by decide⟩, ⟨gG_value_disallowed_re, by decide⟩, ⟨gGHeaders, by decide⟩, ⟨gG_law_formula, by decide⟩, ⟨gG_law_symbols, by decide⟩, ⟨gG_law_holds, by decide⟩, ⟨gG_law_read, by decide⟩, ⟨gG_law_walk, by decide⟩, ⟨gG_law_leaves, by decide⟩, trivial⟩ (x, v) (mem_of_lookup h)
theorem btab_ok {w : World} {x : Str} {v : Value} (h : btab.lookup x = some v) : nsIn (KK w) mainGlobals x = some none ∧ bootBuiltins x = some v ∧ x ≠ "__name__" ∧ (x == ("__debug__" : Str)) = false :=
  tabP (P := fun p : Str × Value => nsIn (KK w) mainGlobals p.1 = some none ∧ bootBuiltins p.1 = some p.2 ∧ p.1 ≠ "__name__" ∧ (p.1 == ("__debug__" : Str)) = false) btab ⟨⟨gN_len, bB_len, by decide, by decide⟩, ⟨gN_chr, bB_chr, by decide, by decide⟩, ⟨gN_ord, bB_ord, by decide, by decide⟩, ⟨gN_min, bB_min, by decide, by decide⟩, ⟨gN_sum, bB_sum, by decide, by decide⟩, ⟨gN_range, bB_range, by decide, by decide⟩, ⟨gN_list, bB_list, by decide, by decide⟩, ⟨gN_str, bB_str, by decide, by decide⟩, ⟨gN_type, bB_type, by decide, by decide⟩, ⟨gN_enumerate, bB_enumerate, by decide, by decide⟩, trivial⟩ (x, v) (mem_of_lookup h)
section
variable {w : World} {A : Around} {M : Model} {E : Value → Shared → Prop} {s : Shared} {env : Env}
theorem n_gt {x : Str} {pos : Pos} {v : Value} {Q : Value → Shared → Prop} (W : Wd w s.heap) (e : gtab.lookup x = some v) (k : Q v s) (hx : env.kindOf x = some .globalImplicit) (hk : env.scope.kind = .function) (hg : env.globals = mainGlobals) :
    wpAny M A (eval (.Name x pos) env) Q E s := n_glob W (gtab_ok e).1 k hg hx hk (gtab_ok (w := w) e).2
theorem n_bt {x : Str} {pos : Pos} {v : Value} {Q : Value → Shared → Prop} (W : Wd w s.heap) (e : btab.lookup x = some v) (k : Q v s) (hx : env.kindOf x = some .globalImplicit) (hk : env.scope.kind = .function) (hg : env.globals = mainGlobals) (hb : env.builtins = builtinsNs) :
    wpAny M A (eval (.Name x pos) env) Q E s := let T := btab_ok (w := w) e; n_bui W T.1 T.2.1 k T.2.2.1 hg hb hx hk T.2.2.2
end
-- the lookups of names
local macro_rules | `(tactic| walk_at "lk") => `(tactic| first | with_reducible exact up_same | ((with_reducible refine (up_ne ?a).trans ?_); (case a => decide); walk_at "lk") | with_reducible assumption | rfl)
-- a name
local macro_rules | `(tactic| walk_at "nm") => `(tactic| ((with_reducible rename Inv.p _ _ => H); first
    | ((with_reducible refine' n_loc H ?m ?_ ?a ?b ?c); (case a | b | c => rfl); (case m => walk_at "lk"))
    | ((with_reducible refine' n_cel H ?m ?_ ?a ?b ?c ?d); (case a | b | c | d => rfl); (case m => walk_at "lk"))
    | ((with_reducible first | refine' n_bt (Inv.wd _ H) ?a ?_ ?b ?c ?d ?e); (case b | a | c | d | e => rfl))
    | ((with_reducible first | refine' n_gt (Inv.wd _ H) ?a ?_ ?b ?c ?d); (case b | a | c | d => rfl))))
-- one step by the tree's make
local macro_rules | `(tactic| walk_at "go") => `(tactic| first
  | (with_reducible first | refine x_nil ?_ | refine sq_next ?_ | refine x_if ?_ | refine x_ret ?_ | refine wpAny_BinOp ?_ | refine wpAny_UnaryOp ?_ | refine wpAny_isTrue_Not ?_ | refine b_and ?_ | refine b_or ?_ | refine b_not ?_ | refine wpAny_truthy_bool ?_ | refine c_nil ?_ | refine wpAny_Constant_bool ?_ | refine wpAny_Constant_none ?_ | refine eq_int ?_ | refine ne_int ?_ | refine lt_int ?_ | refine le_int ?_ | refine gt_int ?_)
  | ((with_reducible first | refine x_assign ?_ ?a | refine c_cons ?_ ?a | refine c_bui ?_ ?a | refine wpAny_isTrue_Compare1 ?_ ?a | refine wpAny_Compare1 ?_ ?a); (case a => rfl))
  | ((with_reducible refine c_call ?_ ?a); (case a => (intro _ _ _ e; cases e)))
  | ((with_reducible refine x_expr ?_ ?a ?b); (case a | b => rfl))
  | walk_at "nm"
  | ((with_reducible rename Inv.p _ _ => H); first
    | ((with_reducible first | refine k_int H ?_ | refine k_str H ?_ | refine i_add H ?_ | refine i_sub H ?_ | refine i_and H ?_ | refine i_or H ?_ | refine i_xor H ?_); clear H; intro t s H)
    | ((with_reducible refine' s_loc H ?_ ?a ?b); (case a | b => rfl); clear H; intro s H)
    | ((with_reducible refine' s_cel H ?_ ?a ?b ?c ?d); (case a | b | c | d => rfl); clear H; intro s H)))

theorem St.sub {Γ : Fd} {m : Str → Option Value} {σ σ' : List (Addr × Obj)} {s : Shared} (H : St Γ m σ s) (hs : ∀ p ∈ σ', p ∈ σ) (hn : (σ'.map (·.1)).Nodup) : St Γ m σ' s :=
  { H with led := fun p hp => H.led p (hs p hp), ledL := fun p hp => H.ledL p (hs p hp), ledB := fun p hp => H.ledB p (hs p hp), nd := hn }
theorem St.perm {Γ : Fd} {m : Str → Option Value} {σ σ' : List (Addr × Obj)} {s : Shared} (H : St Γ m σ s) (hp : σ'.Perm σ) : St Γ m σ' s :=
  H.sub (fun p q => hp.mem_iff.mp q) ((hp.map (·.1)).nodup_iff.mpr H.nd)
theorem St.drop {Γ : Fd} {m : Str → Option Value} {σ σ' : List (Addr × Obj)} {s : Shared} (H : St Γ m σ s) (hp : σ'.Sublist σ) : St Γ m σ' s :=
  H.sub (fun _ q => hp.mem q) ((hp.map (·.1)).nodup H.nd)
theorem St.tl {Γ : Fd} {m : Str → Option Value} {p : Addr × Obj} {σ : List (Addr × Obj)} {s : Shared} (H : St Γ m (p :: σ) s) : St Γ m σ s := H.drop (List.sublist_cons_self ..)
theorem St.sw {Γ : Fd} {m : Str → Option Value} {p q : Addr × Obj} {σ : List (Addr × Obj)} {s : Shared} (H : St Γ m (p :: q :: σ) s) : St Γ m (q :: p :: σ) s := H.perm (List.Perm.swap ..)
theorem St.meq {Γ : Fd} {m m' : Str → Option Value} {σ : List (Addr × Obj)} {s : Shared} (H : St Γ m σ s) (h : m = m') : St Γ m' σ s := h ▸ H

section
variable {prog : Program} {w : World} {A : Around} {M : Model} {E : Value → Shared → Prop} {s : Shared} {env : Env} {Γ : Fd} {m : Str → Option Value} {σ : List (Addr × Obj)}

def LoopR (M : Model) (A : Around) (rest : List Stmt) (env : Env) (Q : Flow → Shared → Prop) (E : Value → Shared → Prop) (r : Result) (s' : Shared) : Prop :=
  match r with | .ok f => Sq M A rest env Q E f s' | .error _ => False
theorem x_for {target iter : Expr} {body rest : List Stmt} {pos : Pos} {Q : Flow → Shared → Prop}
    (h : wpAny M A (eval iter env) (fun v s₁ => wpAny M A (pyIter v) (fun it s₂ => codeAny M A (.forLoop target it body [] env) (LoopR M A rest env Q E) s₂) E s₁) E s)
    (hs : ∀ x, foldedSetIterable iter env x = pure x := by intro _; rfl) : wpAny M A (execs (.For target iter body [] pos :: rest) env) Q E s :=
  x_cons (wpAny_For (wpAny_mono h (fun v s₁ q => wpAny_mono q (fun it s₂ q => codeAny_mono q fun r s' z => by
    cases r with
    | ok f => exact z
    | error e => exact z.elim) fun _ _ z => z) fun _ _ z => z) hs)
def TurnQ (R : Result → Shared → Prop) (N : Shared → Prop) (f : Flow) (s' : Shared) : Prop :=
  match f with | .next => N s' | .cont => N s' | .brk => R (.ok .next) s' | .ret v => R (.ok (.ret v)) s'
theorem tq_next {R : Result → Shared → Prop} {N : Shared → Prop} (h : N s) : TurnQ R N .next s := h
theorem tq_cont {R : Result → Shared → Prop} {N : Shared → Prop} (h : N s) : TurnQ R N .cont s := h
theorem tq_ret {R : Result → Shared → Prop} {N : Shared → Prop} {v : Value} (h : R (.ok (.ret v)) s) : TurnQ R N (.ret v) s := h

theorem x_while {test : Expr} {body rest : List Stmt} {pos : Pos} {Q : Flow → Shared → Prop} (J : Nat → Shared → Prop) (n : Nat) (h0 : J n s)
    (turn : ∀ n s, J n s → wpAny (model prog w) A (isTrue test env (eval test env)) (fun b s₁ =>
      (b = true → wpAny (model prog w) A (execs body env) (TurnQ (LoopR (model prog w) A rest env Q E) fun s' => ∃ n', n' < n ∧ J n' s') (fun _ _ => False) s₁) ∧
      (b = false → wpAny (model prog w) A (execs rest env) Q E s₁)) (fun _ _ => False) s) :
    wpAny (model prog w) A (execs (.While test body [] pos :: rest) env) Q E s := by
  refine x_cons (wpAny_While (codeAny_mono (codeAny_whileLoop (R := LoopR (model prog w) A rest env Q E) J (fun n s hJ => wpAny_mono (turn n s hJ) (fun b s₁ q => ?_) fun _ _ z => z.elim) n h0) fun r s' z => ?_))
  · cases b with
    | true =>
      refine wpAny_mono (q.1 rfl) (fun f s' z => ?_) fun _ _ z => z.elim
      cases f <;> exact z
    | false => exact wpAny_execs_nil (q.2 rfl)
  · cases r with
    | ok f => exact z
    | error e => exact z.elim

/-- a for over a list, its target a name -/
theorem it_list {l : Addr} {items : Array Value} {x : Str} {px : Pos} {body : List Stmt} {R : Result → Shared → Prop} (J : Nat → (Str → Option Value) → List (Addr × Obj) → Prop)
    (hh : A.handled = none) (H : (StI Γ m σ).p s) (h0 : J 0 m σ)
    (hl : ∀ i m σ s, J i m σ → (StI Γ m σ).p s → s.heap.IsList l items)
    (st : ∀ (m : Str → Option Value) (σ : List (Addr × Obj)) (s : Shared) (v : Value) (Q : Unit → Shared → Prop) (E : Value → Shared → Prop), (StI Γ m σ).p s → (∀ s', (StI Γ (up m x v) σ).p s' → Q () s') → wpAny (model prog Γ.w) A (storeName Γ.env x v) Q E s)
    (turn : ∀ i v m σ I io s, items[i]? = some v → J i m σ → (StI Γ (up m x v) ((I, io) :: σ)).p s →
      wpAny (model prog Γ.w) A (execs body Γ.env) (TurnQ R fun s' => ∃ m' σ', (StI Γ m' ((I, io) :: σ')).p s' ∧ J (i + 1) m' σ') (fun _ _ => False) s)
    (done : ∀ m σ s, J items.size m σ → (StI Γ m σ).p s → R (.ok .next) s) :
    wpAny (model prog Γ.w) A (pyIter (.ref l)) (fun it s₂ => codeAny (model prog Γ.w) A (.forLoop (.Name x px) it body [] Γ.env) R s₂) E s := by
  have hls := hl 0 m σ s h0 H
  refine wpAny_pyIter_list hls ?_
  have H1 := St.new (t := s.toks) (o := { cls := .type "list_iterator", data := .fields #[.ref l, .int 0 0] }) H rfl
  refine codeAny_forLoop_any (fun k s' => ∃ i m' σ' io, k = items.size + 1 - i ∧ i ≤ items.size ∧ (StI Γ m' ((s.heap.objs.size, io) :: σ')).p s' ∧ J i m' σ' ∧ s'.heap.IsListIter s.heap.objs.size l i) ?_ (items.size + 1)
    ⟨0, m, σ, _, rfl, Nat.zero_le _, H1, h0, ⟨_, H1.led _ (.head _), rfl, rfl⟩⟩
  rintro k s' ⟨i, m', σ', io, rfl, hi, H', hJ, hit⟩
  have hl' := hl i m' σ' s' hJ (St.tl H')
  cases hv : items[i]? with
  | none =>
    have hsz : i = items.size := Nat.le_antisymm hi (by simpa using hv)
    subst hsz
    refine wpAny_pyNext_list_end hh hit hl' hv fun h₁ he₁ => wpAny_execs_nil ?_
    have H'' : St Γ m' ((s.heap.objs.size, io) :: σ') s' := H'
    have hne : ∀ p ∈ σ', p.1 ≠ s.heap.objs.size := fun p hp e => by
      have := H''.nd
      rw [List.map_cons, List.nodup_cons] at this
      exact this.1 (e ▸ List.mem_map_of_mem (f := (·.1)) hp)
    have kp : ∀ b o, b ≠ s.heap.objs.size → s'.heap.get? b = some o → h₁.get? b = some o := fun b o hb e => he₁ b o hb e
    have hB := H''.ledB _ (.head _)
    have hL := H''.ledL _ (.head _)
    dsimp only at hB hL
    refine done m' σ' _ hJ ⟨by rw [H''.same], H''.wd, fun b o e => kp b o (fun z => by rw [z, hB] at e; cases e) (H''.keep b o e), ?_, ?_, H''.apart, H''.cL, H''.kc, H''.cB, H''.low, fun p hp => kp _ _ (hne p hp) (H''.led p (.tail _ hp)), fun p hp => H''.ledL p (.tail _ hp), fun p hp => H''.ledB p (.tail _ hp), (St.tl H'').nd⟩
    · obtain ⟨ml, x, y⟩ := H''.loc
      exact ⟨ml, x.at' fun o e => kp _ o (Ne.symm hL.1) e, y⟩
    · intro x c hc
      obtain ⟨o, e, d⟩ := H''.cel x c hc
      exact ⟨o, kp _ o (Ne.symm (hL.2 x c hc)) e, d⟩
  | some v =>
    have hlt : i < items.size := (Array.getElem?_eq_some_iff.mp hv).1
    refine wpAny_pyNext_list_item hit hl' hv fun h₁ hit₁ hs₁ => wpAny_pure (wpAny_assign_Name ?_)
    obtain ⟨io', hio, _⟩ := id hit₁
    have H2 := St.put (pre := []) (t := s'.toks) H' (fun b x hb e => (hs₁.2 b hb).trans e) hio
    refine st _ _ _ v _ _ H2 fun s₂ H3 => ?_
    have hit2 : s₂.heap.IsListIter s.heap.objs.size l (i + 1) := by
      obtain ⟨o, e1, e2, e3⟩ := hit₁
      have : o = io' := Option.some.inj (e1.symm.trans hio)
      subst this
      exact ⟨o, St.led H3 _ (.head _), e2, e3⟩
    refine wpAny_mono (turn i v m' σ' _ io' s₂ hv hJ H3) (fun f s₃ q => ?_) fun _ _ z => z.elim
    have fin : (∃ m'' σ'', (StI Γ m'' ((s.heap.objs.size, io') :: σ'')).p s₃ ∧ J (i + 1) m'' σ'') → ∃ k', k' < items.size + 1 - i ∧ ∃ i m' σ' io, k' = items.size + 1 - i ∧ i ≤ items.size ∧ (StI Γ m' ((s.heap.objs.size, io) :: σ')).p s₃ ∧ J i m' σ' ∧ s₃.heap.IsListIter s.heap.objs.size l i := by
      rintro ⟨m'', σ'', H4, hJ'⟩
      refine ⟨items.size + 1 - (i + 1), by omega, i + 1, m'', σ'', io', rfl, hlt, H4, hJ', ?_⟩
      obtain ⟨o, e1, e2, e3⟩ := hit2
      have h4 : s₂.heap.get? s.heap.objs.size = some io' := St.led H3 _ (.head _)
      have : o = io' := Option.some.inj (e1.symm.trans h4)
      subst this
      exact ⟨o, St.led H4 _ (.head _), e2, e3⟩
    cases f with
    | next => exact fin q
    | cont => exact fin q
    | brk => exact q
    | ret v => exact q
end

theorem Inv.pushed {w : World} (I : Inv w) : KeptByPush I.p := fun s ob k H => I.ext H (sPush s.heap ob)
section
variable {w : World} {prog : Program} {A : Around} {M : Model} {E : Value → Shared → Prop} {s : Shared} {I : Inv w} {env : Env} {x y : Str} {t u : Tok}

-- strs
theorem t_str {Q : Bool → Shared → Prop} (H : I.p s) (hx : x.length ≤ 1000000) (h : ∀ s, I.p s → Q ((x.length : Int) != 0) s) : wpAny (model prog w) A (truthy (.str x t)) Q E s :=
  P.truthy_str (by have : ((10 : Int) ^ 6) < 2 ^ 63 := by decide
                   omega) (h _ (I.tok H))
theorem t_int {a : Int} {Q : Bool → Shared → Prop} (h : Q (a != 0) s) : wpAny (model prog w) A (truthy (.int a t)) Q E s := P.truthy_int h
theorem o_len_str {Q : Value → Shared → Prop} (H : I.p s) (hx : x.length ≤ 1000000) (h : ∀ t s, I.p s → Q (.int x.length t) s) : wpAny (model prog w) A (call (.builtin "len") ([] ++ [.str x t])) Q E s :=
  P.len_str (by have : ((10 : Int) ^ 6) < 2 ^ 63 := by decide
                omega) (h _ _ (I.tok H))
theorem o_add_str {Q : Value → Shared → Prop} (H : I.p s) (hx : x.length + y.length ≤ 1000000) (h : ∀ t s, I.p s → Q (.str (x ++ y) t) s) : wpAny (model prog w) A (binaryOp .Add (.str x t) (.str y u)) Q E s :=
  add_str (fun t' tk => h _ _ (I.tok H)) (by have : sizeLine = 16777216 := by decide
                                             omega)
theorem o_lower {Q : Value → Shared → Prop} (H : I.p s) (hx : Builtin.Str.tooLong (Txt.lower x).length = false) (h : ∀ t s, I.p s → Q (.str (Txt.lower x) t) s) : wpAny (model prog w) A (call (.builtin "str.lower") ([.str x t] ++ [])) Q E s :=
  SC.lower hx (h _ _ (I.tok H))
-- a method of a built-in value
theorem c_meth {o : Expr} {name : Str} {apos pos : Pos} {args : List Expr} {pl : Sem Bool} {Q : Value → Shared → Prop}
    (h : wpAny M A (eval o env) (fun ov s₁ => wpAny M A (getMethod ov name pl) (fun fx s₂ => wpAny M A (callWith pos fx.1 fx.2 (backTo pos (starEach args env)) []) Q E s₂) E s₁) E s)
    (he : eval (.Call (.Attribute o name apos) args [] pos) env = (do
      let ov ← eval o env
      standAt apos.atName
      let (f, first) ← holding [ov] (getMethod ov name pl)
      callWith pos f first (backTo pos (starEach args env)) []) := by rfl) :
    wpAny M A (eval (.Call (.Attribute o name apos) args [] pos) env) Q E s := MethodCall_ h he
-- subscripts
theorem e_sub {value slice : Expr} {pos : Pos} {Q : Value → Shared → Prop} (h : wpAny M A (eval value env) (fun o s₁ => wpAny M A (eval slice env) (fun i s₂ => wpAny M A (subscriptTail value slice o i) Q E s₂) E s₁) E s) :
    wpAny M A (eval (.Subscript value slice pos) env) Q E s := Subscript_ h
def SlTail (M : Model) (A : Around) (value : Expr) (lo hi : Option Expr) (p : Pos) (o l u : Value) (Q : Value → Shared → Prop) (E : Value → Shared → Prop) (s : Shared) : Prop :=
  wpAny M A (subscriptTail value (.Slice lo hi none p) o (.ref s.heap.objs.size)) Q E { s with heap := s.heap.push { cls := .type "slice", data := .fields #[l, u, .none] } }
theorem e_slice {value : Expr} {lo hi : Option Expr} {p pos : Pos} {Q : Value → Shared → Prop}
    (h : wpAny M A (eval value env) (fun o s₁ => wpAny M A (evalPart lo env) (fun l s₂ => wpAny M A (evalPart hi env) (fun u s₃ => SlTail M A value lo hi p o l u Q E s₃) E s₂) E s₁) E s) :
    wpAny M A (eval (.Subscript value (.Slice lo hi none p) pos) env) Q E s :=
  Subscript_ (wpAny_mono h (fun o s₁ q => wpAny_Slice (wpAny_mono q (fun l s₂ q => wpAny_mono q (fun u s₃ q => evalPart_none_step q) fun _ _ z => z) fun _ _ z => z)) fun _ _ z => z)
theorem slStr {value : Expr} {lo hi : Option Expr} {p : Pos} {l u : Value} {a b : Option Int} {Q : Value → Shared → Prop} (H : I.p s) (hl : IsPart l a) (hu : IsPart u b) (hx : x.length ≤ 1000000)
    (h : ∀ t s, I.p s → Q (.str (Txt.slice x a b) t) s) : SlTail (model prog w) A value lo hi p (.str x t) l u Q E s := by
  have hz : x.length ≤ sizeLine := Nat.le_trans hx (by decide)
  unfold SlTail
  cases hl <;> cases hu
  · exact tail_of_ItemOn (SBG.sliceItem_nn I.pushed H (fun s' t' q => h t' s' q) hz) (by rfl) (by intro r; cases value <;> rfl)
  · exact tail_of_ItemOn (SBG.sliceItem_ns I.pushed H (fun s' t' q => h t' s' q) hz) (by rfl) (by intro r; cases value <;> rfl)
  · exact tail_of_ItemOn (SBG.sliceItem_sn I.pushed H (fun s' t' q => h t' s' q) hz) (by rfl) (by intro r; cases value <;> rfl)
  · exact tail_of_ItemOn (SBG.sliceItem_ss I.pushed H (fun s' t' q => h t' s' q) hz) (by rfl) (by intro r; cases value <;> rfl)
theorem slOther {slice : Expr} (h : ∀ a b p, slice ≠ .Slice a b none p) (o i : Value) : subscripted slice false o i = operate [o, i] (getItem o i) := by
  unfold subscripted
  split
  · rename_i e; exact absurd rfl (h _ _ _)
  · contradiction
  · rfl
theorem it_str {value slice : Expr} {i : Int} {Q : Value → Shared → Prop} (H : I.p s) (h0 : -(x.length : Int) ≤ i) (h1 : i < x.length) (hx : x.length ≤ 1000000)
    (h : ∀ t s, I.p s → Q (.str (Txt.item x i) t) s) (hs : ∀ a b p, slice ≠ .Slice a b none p := by intro _ _ _ e; cases e) :
    wpAny (model prog w) A (subscriptTail value slice (.str x t) (.int i u)) Q E s :=
  item_str (fitsSsize_of (N := 9223372036854775808) (by omega) (by omega) (Int.le_refl _)) h0 h1 (fun _ => h _ _ (I.tok H)) (slOther hs _ _) (by intro r; cases value <;> rfl)
end

local macro_rules | `(tactic| walk_at "g2") => `(tactic| first
  | walk_at "go"
  | ((with_reducible refine' c_meth ?_ ?a); (case a => rfl))
  | (with_reducible first | refine e_slice ?_ | refine e_sub ?_ | refine evalPart_none_step ?_ | refine evalPart_some_step ?_ | refine wpAny_isTrue_BoolOp ?_ | refine PyProof.Rows.eq_str ?_ | refine PyProof.Rows.ne_str ?_ | refine GM.lower ?_ | refine GM.join ?_ | refine GM.split ?_ | refine GM.isupper ?_ | refine t_int ?_))

def holdsB (y : Int) (p q : Bool) : Bool := if y = 19 then p && q else if y = 18 then p || q else if y = 29 then q || !p else p || !q

theorem spec_holds {w : World} {A : Around} {s : Shared} {R : Result → Shared → Prop} (W : Wd w s.heap) (hroom : A.depth < recursionLimit) {y : Int} {t : Tok} {p q : Bool}
  (k : Rets s R fun v _ => v = .bool (holdsB y p q)) :
  codeAny (model PP w) A (.call (.ref 236) ⟨[.int y t, .bool p, .bool q], []⟩) R s := by
  refine enterK W hroom (by rfl) (by rfl) (by rfl) (BindsTo.of_eq rfl) (fun s H => ?_)
  repeat walk_at "go"
  refine ⟨fun hc => ?_, fun hc => ?_⟩
  · repeat walk_at "go"
    refine ⟨fun hp => ?_, fun hp => ?_⟩
    · repeat walk_at "go"
      exact St.back k (by assumption) (by simp only [beq_iff_eq] at hc; simp [holdsB, hc, hp])
    · exact St.back k (by assumption) (by simp only [beq_iff_eq] at hc; simp [holdsB, hc, hp])
  repeat walk_at "go"
  refine ⟨fun hc1 => ?_, fun hc1 => ?_⟩
  · repeat walk_at "go"
    refine ⟨fun hp => ?_, fun hp => ?_⟩
    · exact St.back k (by assumption) (by simp only [beq_iff_eq] at *; simp [holdsB, hc1, hp])
    · repeat walk_at "go"
      exact St.back k (by assumption) (by simp only [beq_iff_eq] at *; simp [holdsB, hc1, hp])
  repeat walk_at "go"
  refine ⟨fun hc2 => ?_, fun hc2 => ?_⟩
  · repeat walk_at "go"
    refine ⟨fun hp => ?_, fun hp => ?_⟩
    · exact St.back k (by assumption) (by simp only [beq_iff_eq] at *; simp [holdsB, hc2, hp])
    · repeat walk_at "go"
      exact St.back k (by assumption) (by simp only [beq_iff_eq] at *; simp [holdsB, hc2, hp])
  repeat walk_at "go"
  refine ⟨fun hp => ?_, fun hp => ?_⟩
  · exact St.back k (by assumption) (by simp only [beq_eq_false_iff_ne, ne_eq] at *; simp [holdsB, hc2, hc1, hc, hp])
  · repeat walk_at "go"
    exact St.back k (by assumption) (by simp only [beq_eq_false_iff_ne, ne_eq] at *; simp [holdsB, hc2, hc1, hc, hp])

structure AOk (n : Nat) (A : Around) : Prop where
  hh : A.handled = none
  hd : A.depth + n < recursionLimit
  hu : A.units + 8 * n < cLine
theorem AOk.deep {n : Nat} {A : Around} {env : Env} (h : AOk (n + 1) A) : AOk n (A.deeper env) := ⟨h.hh, by have := h.hd; show A.depth + 1 + n < _; omega, by have := h.hu; show A.units + 3 + 8 * n < _; omega⟩
theorem AOk.mono {n k : Nat} {A : Around} (h : AOk n A) (hk : k ≤ n) : AOk k A := ⟨h.hh, by have := h.hd; omega, by have := h.hu; omega⟩
theorem AOk.in1 {n : Nat} {A : Around} (h : AOk (n + 1) A) : AOk n A.in1 := ⟨h.hh, by have := h.hd; show A.depth + n < _; omega, by have := h.hu; show A.units + 1 + 8 * n < _; omega⟩
theorem AOk.room {n : Nat} {A : Around} (h : AOk n A) : A.depth < recursionLimit := by have := h.hd; omega

theorem spec_ISTERMINAL {w : World} {A : Around} {s : Shared} {R : Result → Shared → Prop} (W : Wd w s.heap) (hroom : A.depth < recursionLimit) {y : Int} {t : Tok}
  (k : Rets s R fun v _ => v = .bool (decide (y < 256))) :
  codeAny (model PP w) A (.call (.ref 48) ⟨[.int y t], []⟩) R s := by
  refine enterK W hroom (by rfl) (by rfl) (by rfl) (BindsTo.of_eq rfl) (fun s H => ?_)
  repeat walk_at "go"
  exact St.back k (by assumption) rfl
theorem spec_ISEOF {w : World} {A : Around} {s : Shared} {R : Result → Shared → Prop} (W : Wd w s.heap) (hroom : A.depth < recursionLimit) {y : Int} {t : Tok}
  (k : Rets s R fun v _ => v = .bool (y == 0)) :
  codeAny (model PP w) A (.call (.ref 55) ⟨[.int y t], []⟩) R s := by
  refine enterK W hroom (by rfl) (by rfl) (by rfl) (BindsTo.of_eq rfl) (fun s H => ?_)
  repeat walk_at "go"
  exact St.back k (by assumption) rfl

section
variable {w : World} {prog : Program} {A : Around} {M : Model} {E : Value → Shared → Prop} {s : Shared} {I : Inv w} {env : Env} {Γ : Fd} {m : Str → Option Value} {σ pre post : List (Addr × Obj)}
theorem St.but {it : Addr} {io : Obj} {h₁ : Heap} (H'' : (StI Γ m ((it, io) :: σ)).p s) (kp : Heap.ExtBut it s.heap h₁) : (StI Γ m σ).p { s with heap := h₁ } := by
  have H'' : St Γ m ((it, io) :: σ) s := H''
  have hne : ∀ p ∈ σ, p.1 ≠ it := fun p hp e => by
    have := H''.nd
    rw [List.map_cons, List.nodup_cons] at this
    exact this.1 (e ▸ List.mem_map_of_mem (f := (·.1)) hp)
  have hB := H''.ledB _ (.head _)
  have hL := H''.ledL _ (.head _)
  dsimp only at hB hL
  refine ⟨by rw [H''.same], H''.wd, fun b o e => kp b o (fun z => by rw [z, hB] at e; cases e) (H''.keep b o e), ?_, ?_, H''.apart, H''.cL, H''.kc, H''.cB, H''.low, fun p hp => kp _ _ (hne p hp) (H''.led p (.tail _ hp)), fun p hp => H''.ledL p (.tail _ hp), fun p hp => H''.ledB p (.tail _ hp), (St.tl H'').nd⟩
  · obtain ⟨ml, x, y⟩ := H''.loc
    exact ⟨ml, x.at' fun o e => kp _ o (Ne.symm hL.1) e, y⟩
  · intro x c hc
    obtain ⟨o, e, d⟩ := H''.cel x c hc
    exact ⟨o, kp _ o (Ne.symm (hL.2 x c hc)) e, d⟩
theorem x_aug {x : Str} {pos' : Pos} {op : Operator} {value : Expr} {pos : Pos} {rest : List Stmt} {Q : Flow → Shared → Prop}
    (h : wpAny M A (loadName env x) (fun old s₁ => wpAny M A (eval value env) (fun v s₂ => wpAny M A (inplaceOp op old v)
      (fun r s₃ => wpAny M A (storeName env x r) (fun _ s₄ => wpAny M A (execs rest env) Q E s₄) E s₃) E s₂) E s₁) E s) :
    wpAny M A (execs (.AugAssign (.Name x pos') op value pos :: rest) env) Q E s := wpAny_execs_cons (wpAny_AugAssign_Name h)
theorem l_loc {x : Str} {v : Value} {Q : Value → Shared → Prop} (H : (StI Γ m σ).p s) (hm : m x = some v) (k : Q v s) (hx : Γ.sc.names.lookup x = some .local := by rfl) (hk : Γ.sc.kind = .function := by rfl) :
    wpAny M A (loadName Γ.env x) Q E s := by
  obtain ⟨ml, hn, hl⟩ := St.loc H
  exact wpAny_loadName_local (env := Γ.env) hk hx hn ((hl x hx).trans hm) k
theorem i_iadd {a b : Int} {t u : Tok} {Q : Value → Shared → Prop} (H : I.p s) (h : ∀ t s, I.p s → Q (.int (a + b) t) s) : wpAny (model prog w) A (inplaceOp .Add (.int a t) (.int b u)) Q E s :=
  PySem.AutoIntOps.iadd_0 (h _ _ (I.tok H))
theorem i_isub {a b : Int} {t u : Tok} {Q : Value → Shared → Prop} (H : I.p s) (h : ∀ t s, I.p s → Q (.int (a - b) t) s) : wpAny (model prog w) A (inplaceOp .Sub (.int a t) (.int b u)) Q E s :=
  PySem.AutoIntOps.isub_0 (h _ _ (I.tok H))
theorem a_cons {x : Expr} {rest : List Expr} {Q : Bool → Shared → Prop}
    (h : wpAny M A (isTrue x env (eval x env)) (fun b s₁ => (b = true → wpAny M A (allTrue .And rest env) Q E s₁) ∧ (b = false → Q false s₁)) E s) : wpAny M A (allTrue .And (x :: rest) env) Q E s :=
  wpAny_allTrue_And_cons (wpAny_mono h (fun b s₁ q => by cases b <;> first | exact q.2 rfl | exact q.1 rfl) fun _ _ q => q)
theorem o_cons {x : Expr} {rest : List Expr} {Q : Bool → Shared → Prop}
    (h : wpAny M A (isTrue x env (eval x env)) (fun b s₁ => (b = true → Q true s₁) ∧ (b = false → wpAny M A (allTrue .Or rest env) Q E s₁)) E s) : wpAny M A (allTrue .Or (x :: rest) env) Q E s :=
  wpAny_allTrue_Or_cons (wpAny_mono h (fun b s₁ q => by cases b <;> first | exact q.2 rfl | exact q.1 rfl) fun _ _ q => q)
theorem x_two {t₁ t₂ value : Expr} {pos : Pos} {rest : List Stmt} {Q : Flow → Shared → Prop}
    (h : wpAny M A (eval value env) (fun v s₁ => wpAny M A (assign t₁ env v) (fun _ s₂ => wpAny M A (assign t₂ env v) (fun _ s₃ => wpAny M A (execs rest env) Q E s₃) E s₂) E s₁) E s)
    (he : (assignEach [t₁, t₂] env).map (·.2) = [assign t₁ env, assign t₂ env] := by rfl)
    (hw : swappedStores [t₁, t₂] value env = pure none := by rfl) : wpAny M A (execs (.Assign [t₁, t₂] value pos :: rest) env) Q E s := wpAny_execs_cons (wpAny_Assign_two h he hw)
theorem x_asub {o i : Expr} {pos' : Pos} {value : Expr} {pos : Pos} {rest : List Stmt} {Q : Flow → Shared → Prop}
    (h : wpAny M A (eval value env) (fun v s₁ => wpAny M A (eval o env) (fun ov s₂ => wpAny M A (eval i env) (fun iv s₃ =>
      wpAny M A (setItem ov iv v) (fun _ s₄ => wpAny M A (execs rest env) Q E s₄) E s₃) E s₂) E s₁) E s)
    (hs : swapsWith value (some (.Subscript o i pos')) pos.line env = pure false := by rfl) :
    wpAny M A (execs (.Assign [.Subscript o i pos'] value pos :: rest) env) Q E s := wpAny_execs_cons (wpAny_Assign_Subscript h hs)
theorem s_name {x : Str} {pos : Pos} {v : Value} {Q : Unit → Shared → Prop} (h : wpAny M A (storeName env x v) Q E s) : wpAny M A (assign (.Name x pos) env v) Q E s := wpAny_assign_Name h
theorem c_ty {T : String} {first : List Value} {args : List Expr} {pos pos' : Pos} {Q : Value → Shared → Prop}
    (h : wpAny M A (spliced (backTo pos' (starEach args env))) (fun vs s₁ => wpAny M A (call (.type T) (first ++ vs)) Q E s₁) E s) (hn : (args.all fun | .Starred _ _ => false | _ => true) = true := by rfl) :
    wpAny M A (callWith pos (.type T) first (backTo pos' (starEach args env)) []) Q E s :=
  PyProof.Rows.callWith_type (starNo _ _ hn) (evArgs (starNo _ _ hn) h)

-- objects
@[reducible] def lst (items : Array Value) (c : Nat) : Obj := { cls := .type "list", dict := none, data := .seq items c, slots := #[] }
@[reducible] def tup (items : Array Value) : Obj := { cls := .type "tuple", dict := none, data := .seq items 0, slots := #[] }
@[reducible] def rng (a b c : Int) (t u v : Tok) : Obj := { cls := .type "range", dict := none, data := .fields #[.int a t, .int b u, .int c v], slots := #[] }
def LObj (o : Obj) (items : Array Value) : Prop := o.cls = .type "list" ∧ ∃ n, o.data = .seq items n
theorem LObj.lst {items : Array Value} {c : Nat} : LObj (lst items c) items := ⟨rfl, _, rfl⟩
theorem St.isList {a : Addr} {o : Obj} {items : Array Value} (H : (StI Γ m σ).p s) (hm : (a, o) ∈ σ) (ho : LObj o items) : s.heap.IsList a items := ⟨o, St.led H _ hm, ho.1, ho.2⟩
theorem St.mid {p : Addr × Obj} : p ∈ pre ++ p :: post := by simp

theorem o_range1 {n : Int} {t : Tok} {Q : Value → Shared → Prop} (H : (StI Γ m σ).p s) (h : ∀ r t u v s, (StI Γ m ((r, rng 0 n 1 t u v) :: σ)).p s → Q (.ref r) s) : wpAny (model prog w) A (call (.type "range") ([] ++ [.int n t])) Q E s :=
  call_range_1 (h _ _ _ _ _ (St.new H rfl))
theorem o_range3 {a b c : Int} {t u v : Tok} {Q : Value → Shared → Prop} (H : (StI Γ m σ).p s) (hc : c ≠ 0) (hp : Builtin.divisionGoesByPylong (b - a) c = false) (h : ∀ r t u v s, (StI Γ m ((r, rng a b c t u v) :: σ)).p s → Q (.ref r) s) :
    wpAny (model prog w) A (call (.type "range") ([] ++ [.int a t, .int b u, .int c v])) Q E s :=
  call_range_3 hc (h _ _ _ _ _ (St.new H rfl)) (.inl hp)
theorem o_list_range {r : Addr} {a b c : Int} {t u v : Tok} {n : Nat} {Q : Value → Shared → Prop} (hh : A.handled = none) (H : (StI Γ m σ).p s) (hr : (r, rng a b c t u v) ∈ σ) (hsmall : Builtin.Range.small a b c = true)
    (hn : Builtin.Range.rangeSize a b c = n) (hlen : n ≤ 2 ^ 24)
    (h : ∀ l items cc s, (StI Γ m ((l, lst items cc) :: σ)).p s → ItemsOf (fun i v => ∃ t, v = .int (a + i * c) t) items n → Q (.ref l) s) :
    wpAny (model prog w) A (call (.type "list") ([] ++ [.ref r])) Q E s :=
  call_list_range hh (St.led H _ hr) hsmall hn hlen fun h' tk acc c' hk hl hi => h _ acc c' _ (St.add H hk (size_none _) hl) hi
theorem o_min {a b : Int} {t u : Tok} {Q : Value → Shared → Prop} (hh : A.handled = none) (H : I.p s) (h : ∀ t s, I.p s → Q (.int (if b < a then b else a) t) s) :
    wpAny (model prog w) A (call (.builtin "min") ([] ++ [.int a t, .int b u])) Q E s :=
  min_two_ints hh fun h' tk hk => by
    by_cases q : b < a
    · rw [if_pos q]; have := h u _ (I.ext (t := tk) H hk); rw [if_pos q] at this; exact this
    · rw [if_neg q]; have := h t _ (I.ext (t := tk) H hk); rw [if_neg q] at this; exact this
theorem it_lst {value slice : Expr} {l : Addr} {items : Array Value} {k : Int} {u : Tok} {x : Value} {Q : Value → Shared → Prop} (hl : s.heap.IsList l items)
    (h0 : 0 ≤ k) (hk : k < 2 ^ 63) (hx : items[k.toNat]? = some x) (h : Q x s) (hs : ∀ a b p, slice ≠ .Slice a b none p := by intro _ _ _ e; cases e) :
    wpAny (model prog w) A (subscriptTail value slice (.ref l) (.int k u)) Q E s :=
  tail_any hl.typeIs slot_list_getitem.lookup (wpAny_getItem_list hl h0 hk hx h) (slOther hs _ _)
theorem set_lst {l : Addr} {o : Obj} {items : Array Value} {k : Int} {t : Tok} {v : Value} {Q : Unit → Shared → Prop} (H : (StI Γ m (pre ++ (l, o) :: post)).p s) (ho : LObj o items) (h0 : 0 ≤ k) (hn : k < items.size) (hfit : k < 2 ^ 63)
    (h : ∀ o' s, (StI Γ m (pre ++ (l, o') :: post)).p s → LObj o' (items.setIfInBounds k.toNat v) → Q () s) : wpAny (model prog w) A (setItem (.ref l) (.int k t) v) Q E s :=
  wpAny_setItem_list (St.isList H St.mid ho) h0 hfit hn fun h' hl hs => by
    obtain ⟨o', ho', hc, hd⟩ := hl
    exact h o' _ (St.put (t := s.toks) H (fun b x hb e => (hs.2 b hb).trans e) ho') ⟨hc, hd⟩

theorem lr_next {rest : List Stmt} {Q : Flow → Shared → Prop} (h : wpAny M A (execs rest env) Q E s) : LoopR M A rest env Q E (.ok .next) s := h
theorem lr_ret {rest : List Stmt} {Q : Flow → Shared → Prop} {v : Value} (h : Q (.ret v) s) : LoopR M A rest env Q E (.ok (.ret v)) s := h
theorem w_while {test : Expr} {body rest : List Stmt} {pos : Pos} {Q : Flow → Shared → Prop} (H : (StI Γ m σ).p s) (J : Nat → (Str → Option Value) → List (Addr × Obj) → Prop) (n : Nat) (h0 : J n m σ)
    (turn : ∀ n m σ s, J n m σ → (StI Γ m σ).p s → wpAny (model prog w) A (isTrue test Γ.env (eval test Γ.env)) (fun b s₁ =>
      (b = true → wpAny (model prog w) A (execs body Γ.env) (TurnQ (LoopR (model prog w) A rest Γ.env Q E) fun s' => ∃ n' m' σ', n' < n ∧ (StI Γ m' σ').p s' ∧ J n' m' σ') (fun _ _ => False) s₁) ∧
      (b = false → wpAny (model prog w) A (execs rest Γ.env) Q E s₁)) (fun _ _ => False) s) :
    wpAny (model prog w) A (execs (.While test body [] pos :: rest) Γ.env) Q E s :=
  x_while (fun n s => ∃ m σ, J n m σ ∧ (StI Γ m σ).p s) n ⟨m, σ, h0, H⟩ fun n s ⟨m, σ, hJ, H⟩ => wpAny_mono (turn n m σ s hJ H) (fun b s₁ q => ⟨fun hb => wpAny_mono (q.1 hb) (fun f s' z => by
    cases f with
    | next => obtain ⟨n', m', σ', a, b, c⟩ := z; exact ⟨n', a, m', σ', c, b⟩
    | cont => obtain ⟨n', m', σ', a, b, c⟩ := z; exact ⟨n', a, m', σ', c, b⟩
    | brk => exact z
    | ret v => exact z) fun _ _ z => z, q.2⟩) fun _ _ z => z
/-- a for over a range, its target a name -/
theorem it_range {r : Addr} {a b c : Int} {tr ur vr : Tok} {n : Nat} {x : Str} {px : Pos} {body : List Stmt} {R : Result → Shared → Prop} (J : Nat → (Str → Option Value) → List (Addr × Obj) → Prop)
    (hh : A.handled = none) (H : (StI Γ m ((r, rng a b c tr ur vr) :: σ)).p s) (hsmall : Builtin.Range.small a b c = true) (hn : Builtin.Range.rangeSize a b c = n) (h0 : J 0 m σ)
    (st : ∀ (m : Str → Option Value) (σ : List (Addr × Obj)) (s : Shared) (v : Value) (Q : Unit → Shared → Prop) (E : Value → Shared → Prop), (StI Γ m σ).p s → (∀ s', (StI Γ (up m x v) σ).p s' → Q () s') → wpAny (model prog Γ.w) A (storeName Γ.env x v) Q E s)
    (turn : ∀ i t m σ I io s, i < n → J i m σ → (StI Γ (up m x (.int (a + i * c) t)) ((I, io) :: σ)).p s →
      wpAny (model prog Γ.w) A (execs body Γ.env) (TurnQ R fun s' => ∃ m' σ', (StI Γ m' ((I, io) :: σ')).p s' ∧ J (i + 1) m' σ') (fun _ _ => False) s)
    (done : ∀ m σ s, J n m σ → (StI Γ m σ).p s → R (.ok .next) s) :
    wpAny (model prog Γ.w) A (pyIter (.ref r)) (fun it s₂ => codeAny (model prog Γ.w) A (.forLoop (.Name x px) it body [] Γ.env) R s₂) E s := by
  refine wpAny_pyIter_range (St.led H _ (.head _)) hsmall ?_
  have H1 := St.new (t := s.toks) (o := { cls := .type "range_iterator", data := .fields #[rawInt a, rawInt (Builtin.Range.rangeSize a b c), rawInt c] }) (St.tl H) rfl
  rw [hn] at H1 ⊢
  refine codeAny_forLoop_any (fun k s' => ∃ i m' σ', k = n + 1 - i ∧ i ≤ n ∧ (StI Γ m' ((s.heap.objs.size, { cls := .type "range_iterator", dict := none, data := .fields #[rawInt (a + (i : Nat) * c), rawInt ((n : Int) - (i : Nat)), rawInt c], slots := #[] }) :: σ')).p s' ∧ J i m' σ') ?_ (n + 1)
    ⟨0, m, σ, rfl, Nat.zero_le _, by simpa [StI] using H1, h0⟩
  rintro k s' ⟨i, m', σ', rfl, hi, H', hJ⟩
  have hit : IsRangeIter s'.heap s.heap.objs.size (a + i * c) ((n : Int) - i) c := St.led H' _ (.head _)
  by_cases hin : i < n
  · refine wpAny_pyNext_range_item hit (by omega) fun h₁ hit₁ hs₁ => wpAny_pure (wpAny_assign_Name ?_)
    have H2 := St.put (pre := []) (t := s'.toks + 1) H' (fun b x hb e => (hs₁.2 b hb).trans e) hit₁
    refine st _ _ _ _ _ _ H2 fun s₂ H3 => ?_
    have e1 : a + (i : Int) * c + c = a + ((i + 1 : Nat) : Int) * c := by push_cast; rw [Int.add_mul]; omega
    have e2 : (n : Int) - i - 1 = (n : Int) - ((i + 1 : Nat) : Int) := by push_cast; omega
    rw [e1, e2] at H3
    refine wpAny_mono (turn i _ m' σ' _ _ s₂ hin hJ H3) (fun f s₃ q => ?_) fun _ _ z => z.elim
    cases f with
    | next => obtain ⟨m'', σ'', H4, hJ'⟩ := q; exact ⟨n + 1 - (i + 1), by omega, i + 1, m'', σ'', rfl, hin, H4, hJ'⟩
    | cont => obtain ⟨m'', σ'', H4, hJ'⟩ := q; exact ⟨n + 1 - (i + 1), by omega, i + 1, m'', σ'', rfl, hin, H4, hJ'⟩
    | brk => exact q
    | ret v => exact q
  · have hsz : i = n := by omega
    subst hsz
    refine wpAny_pyNext_range_end hh hit (by omega) fun h₁ he₁ => wpAny_execs_nil ?_
    exact done m' σ' _ hJ (St.but H' he₁)
end

theorem Inv.on {w : World} (I : Inv w) {s s' : Shared} (H : I.p s) (hs : s' = { s with heap := s'.heap, toks := s'.toks }) (hk : s.heap.StaysIn s'.heap) : I.p s' := by
  rw [hs]; exact I.ext H hk
theorem o_ref {w : World} {A : Around} {I : Inv w} {s : Shared} {f : Addr} {args : List Value} {E : Value → Shared → Prop} {Q Φ : Value → Shared → Prop} (H : I.p s) (spec : ∀ R, Rets s R Φ → codeAny (model PP w) A (.call (.ref f) ⟨args, []⟩) R s)
    (h : ∀ v s', I.p s' → Φ v s' → Q v s') : wpAny (model PP w) A (call (.ref f) args) Q E s :=
  wpAny_call (spec _ fun v s' e k q => h v s' (I.on H e k) q)
theorem c_refK {w : World} {A : Around} {E : Value → Shared → Prop} {s : Shared} {env : Env} {f : Addr} {first : List Value} {args : List Expr} {pos pos' : Pos} {Q : Value → Shared → Prop} (hk : keepIn (KK w) (.ref f) = true)
    (h : wpAny (model PP w) A (spliced (backTo pos' (starEach args env))) (fun vs s₁ => Wd w s₁.heap ∧ wpAny (model PP w) A (call (.ref f) (first ++ vs)) Q E s₁) E s) (hn : (args.all fun | .Starred _ _ => false | _ => true) = true := by rfl) :
    wpAny (model PP w) A (callWith pos (.ref f) first (backTo pos' (starEach args env)) []) Q E s := c_ref hk h hn
local macro_rules | `(tactic| walk_at "g3") => `(tactic| first
  | walk_at "g2"
  | (with_reducible first | refine x_aug ?_ | refine s_name ?_ | refine a_cons ?_ | refine wpAny_allTrue_And_nil ?_ | refine o_cons ?_ | refine wpAny_allTrue_Or_nil ?_)
  | ((with_reducible first | refine c_ty ?_ ?a | refine x_asub ?_ ?a); (case a => rfl))
  | ((with_reducible first | refine' c_refK ?a ?_ ?b | refine x_two ?_ ?a ?b); (case a | b => rfl))
  | ((with_reducible rename Inv.p _ _ => H); first
    | ((with_reducible refine' l_loc H ?m ?_ ?a ?b); (case a | b => rfl); (case m => walk_at "lk"))
    | ((with_reducible first | refine i_iadd H ?_ | refine i_isub H ?_); clear H; intro t s H)
    | ((with_reducible refine o_range1 H ?_); clear H; intro r t u v s H))
  | ((with_reducible refine wpAny_isTrue_value ?_ ?a); (case a => rfl)))

abbrev ch (c : Nat) : Str := ⟨#[c]⟩
def letters : List Nat := [65, 66, 67, 97, 98, 99]
def scost (x y : Nat) : Int := if x == y then 0 else if Txt.lower (ch x) == Txt.lower (ch y) then 1 else 2
theorem lower_ok : ∀ c ∈ letters, Builtin.Str.tooLong (Txt.lower (ch c)).length = false := by decide
theorem ch_eq (x y : Nat) : (ch x == ch y) = (x == y) := by
  rw [Bool.eq_iff_iff]; simp [ch]

theorem spec_sc {w : World} {A : Around} {s : Shared} {R : Result → Shared → Prop} (W : Wd w s.heap) (hroom : A.depth < recursionLimit) {x y : Nat} {t u : Tok} (hx : x ∈ letters) (hy : y ∈ letters)
  (k : Rets s R fun v _ => ∃ t, v = .int (scost x y) t) :
  codeAny (model PP w) A (.call (.ref 62) ⟨[.str (ch x) t, .str (ch y) u], []⟩) R s := by
  refine enterK (binds := [("ch_a", .str (ch x) t), ("ch_b", .str (ch y) u)]) W hroom (by rfl) (by rfl) (by rfl) (BindsTo.of_eq rfl) (fun s H => ?_)
  repeat walk_at "g2"
  refine ⟨fun hc => ?_, fun hc => ?_⟩
  · repeat walk_at "g2"
    exact St.back k (by assumption) ⟨_, congrArg (Value.int · _) (show (0 : Int) = scost x y by rw [ch_eq] at hc; simp [scost, hc])⟩
  repeat walk_at "g2"
  refine o_lower (by assumption) (lower_ok _ hx) (fun t s H => ?_)
  repeat walk_at "g2"
  refine o_lower (by assumption) (lower_ok _ hy) (fun t s H => ?_)
  repeat walk_at "g2"
  rw [ch_eq] at hc
  refine ⟨fun hc2 => ?_, fun hc2 => ?_⟩
  · repeat walk_at "g2"
    exact St.back k (by assumption) ⟨_, congrArg (Value.int · _) (show (1 : Int) = scost x y by simp [scost, hc, hc2])⟩
  · repeat walk_at "g2"
    exact St.back k (by assumption) ⟨_, congrArg (Value.int · _) (show (2 : Int) = scost x y by simp [scost, hc, hc2])⟩

-- the plain side
def word (u : Nat) : Str := ⟨#[if u % 2 = 1 then 65 else 97, if u / 2 % 2 = 1 then 66 else 98, if u / 4 % 2 = 1 then 67 else 99]⟩
def partQ (q : Nat) : Option Int := if q = 0 then none else some (-(q : Int))
def cpA (A : Str) (i : Nat) : Nat := A.cps.getD i 0
abbrev min2 (a b : Int) : Int := if b < a then b else a
abbrev stI (b : Nat) (A : Str) (x : Int × Int × Int × List Int) (i : Nat) : Int × Int × Int × List Int :=
  let r := min2 (min2 x.2.1 (x.2.2.2.getD i 0) + 2) (x.1 + scost b (cpA A i))
  (x.2.2.2.getD i 0, r, if r < x.2.2.1 then r else x.2.2.1, x.2.2.2.set i r)
def inn (b : Nat) (A : Str) (x : Int × Int × Int × List Int) (k : Nat) : Int × Int × Int × List Int := (List.range k).foldl (stI b A) x
def big : Int := 9223372036854775807
abbrev rowAt (A B : Str) (n j : Nat) (x : Int × List Int) : Int × Int × Int × List Int := inn (cpA B j) A (j * 2, j * 2, big, x.2) n
def out (A B : Str) (n k : Nat) : Int × List Int := (List.range k).foldl (fun x j => let y := rowAt A B n j x; (y.2.1, y.2.2.2)) (0, (List.range n).map fun (i : Nat) => 2 + (i : Int) * 2)
def apart (a b : Str) : Nat := ((List.range 3).filter fun k => Txt.item a (k : Nat) != Txt.item b (k : Nat)).length
structure LevP (a b : Str) (p q : Nat) (a' b' A B : Str) : Prop where
  la : a.length = 3
  lb : b.length = 3
  pre : ∀ k ≤ p, (Txt.slice a (some (k : Int)) none).length = 3 - k ∧ (Txt.slice b (some (k : Int)) none).length = 3 - k
  eqs : ∀ k < p, Txt.item a (k : Int) = Txt.item b (k : Int)
  dif : Txt.item a (p : Int) ≠ Txt.item b (p : Int)
  ha : a' = Txt.slice a (some (p : Int)) none
  hb : b' = Txt.slice b (some (p : Int)) none
  post : ∀ k ≤ q, (Txt.slice a' none (partQ k)).length = 3 - p - k ∧ (Txt.slice b' none (partQ k)).length = 3 - p - k
  eqs' : ∀ k < q, Txt.item a' (-(k : Int) - 1) = Txt.item b' (-(k : Int) - 1)
  dif' : Txt.item a' (-(q : Int) - 1) ≠ Txt.item b' (-(q : Int) - 1)
  hA : A = Txt.slice a' none (partQ q)
  hB : B = Txt.slice b' none (partQ q)
  cps : ∀ k < 3 - p - q, Txt.item A (k : Int) = ch (cpA A k) ∧ cpA A k ∈ letters ∧ Txt.item B (k : Int) = ch (cpA B k) ∧ cpA B k ∈ letters
  small : ∀ k < 3 - p - q, (rowAt A B (3 - p - q) k (out A B (3 - p - q) k)).2.2.1 ≤ 3
  fin : (out A B (3 - p - q) (3 - p - q)).1 = apart a b
def levB (a b : Str) (p q : Nat) : Bool :=
  let a' := Txt.slice a (some (p : Int)) none
  let b' := Txt.slice b (some (p : Int)) none
  let A := Txt.slice a' none (partQ q)
  let B := Txt.slice b' none (partQ q)
  let n := 3 - p - q
  a.length == 3 && b.length == 3 && ((List.range (p + 1)).all fun k => (Txt.slice a (some (k : Int)) none).length == 3 - k && (Txt.slice b (some (k : Int)) none).length == 3 - k) &&
  ((List.range p).all fun k => Txt.item a (k : Nat) == Txt.item b (k : Nat)) && (Txt.item a (p : Int) != Txt.item b (p : Int)) &&
  ((List.range (q + 1)).all fun k => (Txt.slice a' none (partQ k)).length == 3 - p - k && (Txt.slice b' none (partQ k)).length == 3 - p - k) &&
  ((List.range q).all fun k => Txt.item a' (-(k : Int) - 1) == Txt.item b' (-(k : Int) - 1)) && (Txt.item a' (-(q : Int) - 1) != Txt.item b' (-(q : Int) - 1)) &&
  ((List.range n).all fun k => Txt.item A (k : Nat) == ch (cpA A k) && decide (cpA A k ∈ letters) && Txt.item B (k : Nat) == ch (cpA B k) && decide (cpA B k ∈ letters)) &&
  ((List.range n).all fun k => decide ((rowAt A B n k (out A B n k)).2.2.1 ≤ 3)) && (out A B n n).1 == apart a b
theorem levB_P {a b : Str} {p q : Nat} (h : levB a b p q = true) : ∃ a' b' A B, LevP a b p q a' b' A B := by
  refine ⟨Txt.slice a (some (p : Int)) none, Txt.slice b (some (p : Int)) none, Txt.slice (Txt.slice a (some (p : Int)) none) none (partQ q), Txt.slice (Txt.slice b (some (p : Int)) none) none (partQ q), ?_⟩
  simp only [levB, Bool.and_eq_true, List.all_eq_true, List.mem_range, beq_iff_eq, bne_iff_ne, decide_eq_true_eq, Nat.lt_succ_iff] at h
  obtain ⟨⟨⟨⟨⟨⟨⟨⟨⟨⟨h1, h2⟩, h3⟩, h4⟩, h5⟩, h6⟩, h7⟩, h8⟩, h9⟩, h10⟩, h11⟩ := h
  exact ⟨h1, h2, h3, h4, h5, rfl, rfl, h6, h7, h8, rfl, rfl, fun k hk => let ⟨⟨⟨x, y⟩, z⟩, w⟩ := h9 k hk; ⟨x, y, z, w⟩, h10, h11⟩
def levAllB : Bool := (List.range 8).all fun u => (List.range 8).all fun v => u == v || (List.range 3).any fun p => (List.range (3 - p)).any fun q => levB (word u) (word v) p q
theorem levAllT : levAllB = true := by decide +kernel
theorem levAll {u v : Nat} (hu : u < 8) (hv : v < 8) (h : u ≠ v) : ∃ p q a' b' A B, p + q < 3 ∧ LevP (word u) (word v) p q a' b' A B := by
  have := levAllT
  simp only [levAllB, List.all_eq_true, List.mem_range, Bool.or_eq_true, beq_iff_eq, List.any_eq_true] at this
  rcases this u hu v hv with e | ⟨p, hp, q, hq, e⟩
  · exact absurd e h
  · obtain ⟨a', b', A, B, x⟩ := levB_P e
    exact ⟨p, q, a', b', A, B, by omega, x⟩
def IsInts (items : Array Value) (r : List Int) : Prop := items.size = r.length ∧ ∀ i, i < r.length → ∃ t, items[i]? = some (.int (r.getD i 0) t)
theorem IsInts.set {items : Array Value} {r : List Int} (h : IsInts items r) (i : Nat) (v : Int) (t : Tok) (hi : i < r.length) : IsInts (items.setIfInBounds i (.int v t)) (r.set i v) := by
  refine ⟨by simp [h.1], fun j hj => ?_⟩
  rw [List.length_set] at hj
  by_cases e : i = j
  · subst e
    exact ⟨t, by simp [h.1, hi]⟩
  · obtain ⟨t', q⟩ := h.2 j hj
    refine ⟨t', ?_⟩
    rw [Array.getElem?_setIfInBounds_ne e, q]
    simp [List.getD_eq_getElem?_getD, List.getElem?_set_ne e]
theorem inn_len (b : Nat) (A : Str) (x : Int × Int × Int × List Int) : ∀ k, (inn b A x k).2.2.2.length = x.2.2.2.length
  | 0 => rfl
  | k + 1 => by
    unfold inn
    rw [List.range_succ, List.foldl_append]
    exact (List.length_set ..).trans (inn_len b A x k)
theorem inn_succ (b : Nat) (A : Str) (x : Int × Int × Int × List Int) (k : Nat) : inn b A x (k + 1) = stI b A (inn b A x k) k := by
  unfold inn
  rw [List.range_succ, List.foldl_append]; rfl
theorem out_succ (A B : Str) (n k : Nat) : out A B n (k + 1) = ((rowAt A B n k (out A B n k)).2.1, (rowAt A B n k (out A B n k)).2.2.2) := by
  unfold out
  rw [List.range_succ, List.foldl_append]; rfl
theorem out_len (A B : Str) (n : Nat) : ∀ k, (out A B n k).2.length = n
  | 0 => by simp [out]
  | k + 1 => by
    rw [out_succ]
    exact (inn_len _ _ _ _).trans (out_len A B n k)
theorem word_ne {u v : Nat} (hu : u < 8) (hv : v < 8) (h : u ≠ v) : word u ≠ word v := by
  have : ∀ u < 8, ∀ v < 8, u ≠ v → word u ≠ word v := by decide +kernel
  exact this u hu v hv h

theorem b_orNone {w : World} {prog : Program} {A : Around} {E : Value → Shared → Prop} {s : Shared} {env : Env} {x : Expr} {kk : Nat} {pos pos' : Pos} {Q : Value → Shared → Prop}
    (h : wpAny (model prog w) A (eval x env) (fun v s₁ => ∃ (i : Nat) (t : Tok), v = .int (-(i : Int)) t ∧ ∀ u, IsPart u (partQ i) → Q u s₁) E s) : wpAny (model prog w) A (eval (.BoolOp .Or [x, .Constant .none kk pos'] pos) env) Q E s :=
  b_or (wpAny_mono h (fun v s₁ ⟨i, t, e, q⟩ => by
    subst e
    refine t_int ⟨fun hi => q _ ?_, fun hi => wpAny_Constant_none (q _ ?_)⟩
    · have : i ≠ 0 := by simpa using hi
      rw [partQ, if_neg this]; exact .int _ _
    · have : i = 0 := by simpa using hi
      rw [partQ, if_pos this]; exact .none) fun _ _ z => z)
local macro_rules | `(tactic| walk_at "g4") => `(tactic| first | with_reducible refine b_orNone ?_ | walk_at "g3")
theorem gen {M : Model} {α : Type} {A : Around} {c : Sem α} {Q : α → Shared → Prop} {E : Value → Shared → Prop} {s : Shared} (h : ∀ Q', Q' = Q → wpAny M A c Q' E s) : wpAny M A c Q E s := h Q rfl
theorem q3 {n : Nat} (h1 : 1 ≤ n) (h2 : n ≤ 3) : n = 1 ∨ n = 2 ∨ n = 3 := by omega
theorem s1 {x : Str} {k n : Nat} (h : x.length = n) (hn : n ≤ 3) : x.length ≤ 1000000 := by omega
theorem s2 {x : Str} {k n : Nat} (h : x.length = n) (hk : k < n) : -(x.length : Int) ≤ (k : Int) ∧ (k : Int) < x.length := by omega
theorem s3 {k : Nat} : (0 + (k : Int) * 1) = k := by omega
theorem s4 {p j : Nat} (h : j < p) : p - (j + 1) < p - j := by omega
theorem s5 {k : Nat} : (-((k + 1 : Nat) : Int)) = -(k : Int) - 1 := by omega
theorem s6 {x : Str} {n : Nat} (h : x.length = n) (hn : n ≤ 3) : ¬ (40 : Int) < x.length := by omega
theorem s7 {x : Str} {j i q : Nat} (h : x.length = 3 - j) (hq : j + q < 3) (hi : i ≤ q) : -(x.length : Int) ≤ -(i : Int) - 1 ∧ -(i : Int) - 1 < x.length := by omega
theorem s8 {j k q : Nat} (hq : j + q < 3) (hi : k ≤ q) : 3 - j - k ≤ 1000000 ∧ ((3 - j - k : Nat) : Int) ≠ 0 := by omega
theorem s9 {j : Nat} : 3 - j ≤ 1000000 := by omega
theorem s10 {n : Nat} (h : n ≤ 3) : n ≤ 2 ^ 24 := Nat.le_trans h (by decide)
theorem s11 {x : Str} {j q : Nat} (h : x.length = 3) (hp : j + q < 3) {i : Nat} (hj : i ≤ j) : -(x.length : Int) ≤ (i : Int) ∧ (i : Int) < x.length := by omega
theorem s12 {x : Str} {n : Nat} (h : x.length = n) (h1 : 1 ≤ n) : ¬ (!(x.length : Int) != 0) = true := by simp; omega
theorem s13 {n m : Nat} (h : n < m) : (n : Int) < m := Int.ofNat_lt.mpr h
theorem s14 {j k q : Nat} (hq : j + q < 3) (hi : k ≤ j) : ((3 - k : Nat) : Int) ≠ 0 := by omega
theorem spec_lev {w : World} {A : Around} {s : Shared} {R : Result → Shared → Prop} (W : Wd w s.heap) (hA : AOk 2 A) {u v : Nat} {t t' t'' : Tok} (hu : u < 8) (hv : v < 8) (huv : u ≠ v)
  (k : Rets s R fun v' _ => ∃ t, v' = .int (apart (word u) (word v)) t) :
  codeAny (model PP w) A (.call (.ref 69) ⟨[.str (word u) t, .str (word v) t', .int 3 t''], []⟩) R s := by
  obtain ⟨p, q, a', b', B1, B2, hpq, L⟩ := levAll hu hv huv
  have hne := word_ne hu hv huv
  revert L k hne
  generalize word u = a, word v = b
  intro k L hne
  have hA1 : ∀ env, AOk 1 (A.deeper env) := fun env => AOk.deep hA
  refine enterK (binds := [("a", .str a t), ("b", .str b t'), ("max_cost", .int 3 t'')]) W hA.room (by rfl) (by rfl) (by rfl) (BindsTo.of_eq rfl) (fun s H => ?_)
  refine gen fun Kf hKf => ?_
  repeat walk_at "g3"
  refine ⟨fun hc => absurd (by simpa using hc) hne, fun hc => ?_⟩
  repeat walk_at "g3"
  obtain ⟨J, hJ⟩ : ∃ J : Nat → (Str → Option Value) → List (Addr × Obj) → Prop, J = (fun n m σ => ∃ k : Nat, n = p - k ∧ k ≤ p ∧ σ = [] ∧ m "a" = some (.str a t) ∧ m "b" = some (.str b t') ∧ m "max_cost" = some (.int 3 t'') ∧ ∃ t, m "pre" = some (.int k t)) := ⟨_, rfl⟩
  refine w_while (by assumption) J p
    (by rw [hJ]; exact ⟨0, rfl, Nat.zero_le _, rfl, by walk_at "lk", by walk_at "lk", by walk_at "lk", _, by walk_at "lk"⟩) ?_
  intro n m σ s h H
  rw [hJ] at h
  obtain ⟨j, rfl, hj, rfl, ma, mb, mc, tp, mp⟩ := h
  repeat walk_at "g3"
  refine slStr (by assumption) (.int _ _) .none ?_ (fun t s H => ?_)
  · rw [L.la]; decide
  refine t_str (by assumption) ?_ (fun s H => ?_)
  · rw [(L.pre j hj).1]; exact s9
  repeat walk_at "g3"
  refine ⟨fun _ => ?_, fun h => ?_⟩
  rotate_left
  · rw [(L.pre j hj).1] at h; simp only [bne_eq_false_iff_eq] at h; exact (s14 hpq hj h).elim
  repeat walk_at "g3"
  refine slStr (by assumption) (.int _ _) .none ?_ (fun t s H => ?_)
  · rw [L.lb]; decide
  refine t_str (by assumption) ?_ (fun s H => ?_)
  · rw [(L.pre j hj).2]; exact s9
  repeat walk_at "g3"
  refine ⟨fun _ => ?_, fun h => ?_⟩
  rotate_left
  · rw [(L.pre j hj).2] at h; simp only [bne_eq_false_iff_eq] at h; exact (s14 hpq hj h).elim
  repeat walk_at "g3"
  refine it_str (by assumption) (s11 L.la hpq hj).1 (s11 L.la hpq hj).2 (by rw [L.la]; decide) (fun t s H => ?_)
  repeat walk_at "g3"
  refine it_str (by assumption) (s11 L.lb hpq hj).1 (s11 L.lb hpq hj).2 (by rw [L.lb]; decide) (fun t s H => ?_)
  repeat walk_at "g3"
  refine ⟨fun h => ?_, fun h => ⟨fun h' => (nomatch h'), fun _ => ?_⟩⟩
  · repeat walk_at "g3"
    refine ⟨fun _ => ?_, fun h' => (nomatch h')⟩
    have hlt : j < p := Nat.lt_of_le_of_ne hj fun e => L.dif (by subst e; simpa using h)
    repeat walk_at "g3"
    exact tq_next ⟨p - (j + 1), _, [], s4 hlt, by assumption, by rw [hJ]; exact ⟨j + 1, rfl, hlt, rfl, by walk_at "lk", by walk_at "lk", by walk_at "lk", _, by push_cast; walk_at "lk"⟩⟩
  have hjp : j = p := by
    rcases Nat.lt_or_eq_of_le hj with q | q
    · have := L.eqs j q; simp [this] at h
    · exact q
  subst hjp
  repeat walk_at "g3"
  refine slStr (by assumption) (.int _ _) .none ?_ (fun t s H => ?_)
  · rw [L.la]; decide
  repeat walk_at "g3"
  refine slStr (by assumption) (.int _ _) .none ?_ (fun t s H => ?_)
  · rw [L.lb]; decide
  repeat walk_at "g3"
  rename Inv.p _ _ => H
  rw [← L.ha, ← L.hb] at H
  have la' : a'.length = 3 - j := by rw [L.ha, (L.pre j hj).1]
  have lb' : b'.length = 3 - j := by rw [L.hb, (L.pre j hj).2]
  clear mp ma mb hJ
  clear J
  obtain ⟨J, hJ⟩ : ∃ J : Nat → (Str → Option Value) → List (Addr × Obj) → Prop, J = (fun n m σ => ∃ k : Nat, n = q - k ∧ k ≤ q ∧ σ = [] ∧ (∃ t, m "a" = some (.str a' t)) ∧ (∃ t, m "b" = some (.str b' t)) ∧ m "max_cost" = some (.int 3 t'') ∧ ∃ t, m "post" = some (.int (-(k : Int)) t)) := ⟨_, rfl⟩
  refine w_while (by assumption) J q
    (by rw [hJ]; exact ⟨0, rfl, Nat.zero_le _, rfl, ⟨_, by walk_at "lk"⟩, ⟨_, by walk_at "lk"⟩, by walk_at "lk", _, by walk_at "lk"⟩) ?_
  clear H
  intro n m σ s h H
  rw [hJ] at h
  obtain ⟨i, rfl, hi, rfl, ⟨ta, ma⟩, ⟨tb, mb⟩, mc, tp, mp⟩ := h
  repeat walk_at "g4"
  refine ⟨_, _, rfl, fun u hu => ?_⟩
  refine slStr (by assumption) .none (by assumption) ?_ (fun t s H => ?_)
  · rw [la']; exact s9
  refine t_str (by assumption) ?_ (fun s H => ?_)
  · rw [(L.post i hi).1]; exact (s8 hpq hi).1
  repeat walk_at "g4"
  refine ⟨fun _ => ?_, fun h => ?_⟩
  rotate_left
  · rw [(L.post i hi).1] at h; simp only [bne_eq_false_iff_eq] at h; exact ((s8 hpq hi).2 h).elim
  repeat walk_at "g4"
  refine ⟨_, _, rfl, fun u hu => ?_⟩
  refine slStr (by assumption) .none (by assumption) ?_ (fun t s H => ?_)
  · rw [lb']; exact s9
  refine t_str (by assumption) ?_ (fun s H => ?_)
  · rw [(L.post i hi).2]; exact (s8 hpq hi).1
  repeat walk_at "g4"
  refine ⟨fun _ => ?_, fun h => ?_⟩
  rotate_left
  · rw [(L.post i hi).2] at h; simp only [bne_eq_false_iff_eq] at h; exact ((s8 hpq hi).2 h).elim
  repeat walk_at "g4"
  refine it_str (by assumption) (s7 la' hpq hi).1 (s7 la' hpq hi).2 (by rw [la']; exact s9) (fun t s H => ?_)
  repeat walk_at "g4"
  refine it_str (by assumption) (s7 lb' hpq hi).1 (s7 lb' hpq hi).2 (by rw [lb']; exact s9) (fun t s H => ?_)
  repeat walk_at "g4"
  refine ⟨fun h => ?_, fun h => ⟨fun h' => (nomatch h'), fun _ => ?_⟩⟩
  · have hlt : i < q := Nat.lt_of_le_of_ne hi fun e => L.dif' (by subst e; simpa using h)
    repeat walk_at "g4"
    refine ⟨fun _ => ?_, fun h' => (nomatch h')⟩
    repeat walk_at "g4"
    exact tq_next ⟨q - (i + 1), _, [], s4 hlt, by assumption, by rw [hJ]; exact ⟨i + 1, rfl, hlt, rfl, ⟨_, by walk_at "lk"⟩, ⟨_, by walk_at "lk"⟩, by walk_at "lk", _, by rw [s5]; walk_at "lk"⟩⟩
  have hiq : i = q := by
    rcases Nat.lt_or_eq_of_le hi with q' | q'
    · have := L.eqs' i q'; simp [this] at h
    · exact q'
  subst hiq
  repeat walk_at "g4"
  refine ⟨_, _, rfl, fun u hu => ?_⟩
  refine slStr (by assumption) .none (by assumption) ?_ (fun t s H => ?_)
  · rw [la']; exact s9
  repeat walk_at "g4"
  refine ⟨_, _, rfl, fun u hu => ?_⟩
  refine slStr (by assumption) .none (by assumption) ?_ (fun t s H => ?_)
  · rw [lb']; exact s9
  repeat walk_at "g4"
  rename Inv.p _ _ => H
  rw [← L.hA, ← L.hB] at H
  rw [← L.hA]
  have lA : B1.length = 3 - j - i := by rw [L.hA, (L.post i hi).1]
  have lB : B2.length = 3 - j - i := by rw [L.hB, (L.post i hi).2]
  clear mp ma mb hJ
  clear J
  have hn1 : 1 ≤ 3 - j - i := Nat.pos_of_ne_zero fun e => (s8 hpq hi).2 (by rw [e]; rfl)
  have hn3 : 3 - j - i ≤ 3 := Nat.le_trans (Nat.sub_le _ _) (Nat.sub_le _ _)
  have Lc := L.cps
  have Ls := L.small
  have Lf := L.fin
  clear L la' lb' hu hv huv hne hpq hj hi
  revert Lc Ls Lf lA lB hn1 hn3
  generalize 3 - j - i = n
  intro lA lB hn1 hn3 Lc Ls Lf
  have zA := s1 (k := 0) lA hn3
  have zB := s1 (k := 0) lB hn3
  have eAB : (B1.length : Int) = B2.length := by rw [lA, lB]
  refine t_str (by assumption) zA (fun s H => ?_)
  refine ⟨fun h => absurd h (s12 lA hn1), fun _ => ?_⟩
  repeat walk_at "g4"
  refine t_str (by assumption) zB (fun s H => ?_)
  refine ⟨fun h => absurd h (s12 lB hn1), fun _ => ?_⟩
  repeat walk_at "g4"
  refine ⟨fun h => (nomatch h), fun _ => ?_⟩
  repeat walk_at "g4"
  refine o_len_str (by assumption) (by first | exact zA | exact zB) (fun t s H => ?_)
  repeat walk_at "g4"
  refine ⟨fun h => absurd (of_decide_eq_true h) (by first | exact s6 lA hn3 | exact s6 lB hn3 | (rw [eAB]; exact Int.lt_irrefl _) | (rw [eAB, Int.sub_self]; decide)), fun _ => ?_⟩
  repeat walk_at "g4"
  refine o_len_str (by assumption) (by first | exact zA | exact zB) (fun t s H => ?_)
  repeat walk_at "g4"
  refine ⟨fun h => absurd (of_decide_eq_true h) (by first | exact s6 lA hn3 | exact s6 lB hn3 | (rw [eAB]; exact Int.lt_irrefl _) | (rw [eAB, Int.sub_self]; decide)), fun _ => ?_⟩
  repeat walk_at "g4"
  refine ⟨fun h => (nomatch h), fun _ => ?_⟩
  repeat walk_at "g4"
  refine o_len_str (by assumption) (by first | exact zA | exact zB) (fun t s H => ?_)
  repeat walk_at "g4"
  refine o_len_str (by assumption) (by first | exact zA | exact zB) (fun t s H => ?_)
  repeat walk_at "g4"
  refine ⟨fun h => absurd (of_decide_eq_true h) (by first | exact s6 lA hn3 | exact s6 lB hn3 | (rw [eAB]; exact Int.lt_irrefl _) | (rw [eAB, Int.sub_self]; decide)), fun _ => ?_⟩
  repeat walk_at "g4"
  refine o_len_str (by assumption) (by first | exact zA | exact zB) (fun t s H => ?_)
  repeat walk_at "g4"
  refine o_len_str (by assumption) (by first | exact zA | exact zB) (fun t s H => ?_)
  repeat walk_at "g4"
  refine i_mul (by assumption) (.of_right (by decide)) (fun t s H => ?_)
  repeat walk_at "g4"
  refine ⟨fun h => absurd (of_decide_eq_true h) (by first | exact s6 lA hn3 | exact s6 lB hn3 | (rw [eAB]; exact Int.lt_irrefl _) | (rw [eAB, Int.sub_self]; decide)), fun _ => ?_⟩
  repeat walk_at "g4"
  refine o_len_str (by assumption) (by first | exact zA | exact zB) (fun t s H => ?_)
  repeat walk_at "g4"
  refine i_mul (by assumption) (.of_left (by decide)) (fun t s H => ?_)
  repeat walk_at "g4"
  refine o_range3 (by assumption) (by decide) (PyProof.noPylong_small (by decide)) (fun r t u v s H => ?_)
  repeat walk_at "g4"
  refine o_list_range (n := n) (hA1 _).hh (by assumption) (.head _) ?_ ?_ (s10 hn3) (fun l items cc s H hit => ?_)
  · rw [lA]; rcases q3 hn1 hn3 with e | e | e <;> subst e <;> decide
  · rw [lA]; rcases q3 hn1 hn3 with e | e | e <;> subst e <;> decide
  have hI : IsInts items (out B1 B2 n 0).2 := by
    refine ⟨by rw [hit.1, out_len], fun i hi => ?_⟩
    rw [out_len] at hi
    obtain ⟨t, e⟩ := hit.2 i _ (Array.getElem?_eq_getElem (by rw [hit.1]; exact hi))
    refine ⟨t, ?_⟩
    rw [Array.getElem?_eq_getElem (by rw [hit.1]; exact hi), e]
    simp [out, hi]
  replace H := St.drop H (σ' := [(l, lst items cc)]) (by simp)
  have H : (StI _ _ [(l, lst items cc)]).p s := H
  repeat walk_at "g4"
  refine x_for ?_
  repeat walk_at "g4"
  refine o_len_str (by assumption) (by first | exact zA | exact zB) (fun t s H => ?_)
  repeat walk_at "g4"
  obtain ⟨J, hJ⟩ : ∃ J : Nat → (Str → Option Value) → List (Addr × Obj) → Prop, J = (fun j m σ => (∃ t, m "a" = some (.str B1 t)) ∧ (∃ t, m "b" = some (.str B2 t)) ∧ m "max_cost" = some (.int 3 t'') ∧ m "row" = some (.ref l) ∧ (∃ t, m "result" = some (.int (out B1 B2 n j).1 t)) ∧
    ∃ o items, σ = [(l, o)] ∧ LObj o items ∧ IsInts items (out B1 B2 n j).2) := ⟨_, rfl⟩
  refine it_range (n := n) J (hA1 _).hh (by assumption) ?_ ?_ (by rw [hJ]; exact ⟨⟨_, by walk_at "lk"⟩, ⟨_, by walk_at "lk"⟩, by walk_at "lk", by walk_at "lk", ⟨_, by walk_at "lk"⟩, _, _, rfl, LObj.lst, hI⟩) ?_ ?_ ?_
  · rw [lB]; rcases q3 hn1 hn3 with e | e | e <;> subst e <;> decide
  · rw [lB]; rcases q3 hn1 hn3 with e | e | e <;> subst e <;> decide
  · intro m σ s v Q E H hk
    exact s_loc H hk
  · clear H hI hit
    intro j t m σ I io s hj h H
    refine gen fun Ko hKo => ?_
    rw [hJ] at h
    obtain ⟨⟨ta, ma⟩, ⟨tb, mb⟩, mc, mrow, ⟨tr, mr⟩, o, items, rfl, ho, hI⟩ := h
    rw [s3] at H
    repeat walk_at "g4"
    refine it_str (by assumption) (s2 lB hj).1 (s2 lB hj).2 zB (fun t s H => ?_)
    rw [(Lc j hj).2.2.1]
    repeat walk_at "g4"
    refine i_mul (by assumption) (.of_right (by decide)) (fun t s H => ?_)
    repeat walk_at "g4"
    refine x_for ?_
    repeat walk_at "g4"
    refine o_len_str (by assumption) (by first | exact zA | exact zB) (fun t s H => ?_)
    repeat walk_at "g4"
    obtain ⟨J2, hJ2⟩ : ∃ J : Nat → (Str → Option Value) → List (Addr × Obj) → Prop, J = (fun i m σ => (∃ t, m "a" = some (.str B1 t)) ∧ (∃ t, m "b" = some (.str B2 t)) ∧ m "max_cost" = some (.int 3 t'') ∧ m "row" = some (.ref l) ∧ (∃ t, m "bchar" = some (.str (ch (cpA B2 j)) t)) ∧
      (∃ t, m "distance" = some (.int (inn (cpA B2 j) B1 (j * 2, j * 2, big, (out B1 B2 n j).2) i).1 t)) ∧ (∃ t, m "result" = some (.int (inn (cpA B2 j) B1 (j * 2, j * 2, big, (out B1 B2 n j).2) i).2.1 t)) ∧
      (∃ t, m "minimum" = some (.int (inn (cpA B2 j) B1 (j * 2, j * 2, big, (out B1 B2 n j).2) i).2.2.1 t)) ∧
      ∃ o items, σ = [(I, io), (l, o)] ∧ LObj o items ∧ IsInts items (inn (cpA B2 j) B1 (j * 2, j * 2, big, (out B1 B2 n j).2) i).2.2.2) := ⟨_, rfl⟩
    refine it_range (n := n) J2 (hA1 _).hh (by assumption) ?_ ?_
      (by rw [hJ2]; exact ⟨⟨_, by walk_at "lk"⟩, ⟨_, by walk_at "lk"⟩, by walk_at "lk", by walk_at "lk", ⟨_, by walk_at "lk"⟩, ⟨_, by walk_at "lk"⟩, ⟨_, by walk_at "lk"⟩, ⟨_, by walk_at "lk"⟩, _, _, rfl, ho, hI⟩) ?_ ?_ ?_
    · rw [lA]; rcases q3 hn1 hn3 with e | e | e <;> subst e <;> decide
    · rw [lA]; rcases q3 hn1 hn3 with e | e | e <;> subst e <;> decide
    · intro m σ s v Q E H hk
      exact s_loc H hk
    · have hlen := inn_len (cpA B2 j) B1 (j * 2, j * 2, big, (out B1 B2 n j).2)
      simp only [out_len] at hlen
      clear H hI ho mr mrow ma mb mc
      intro i t m σ I2 io2 s hi h H
      refine gen fun Ki hKi => ?_
      rw [hJ2] at h
      obtain ⟨⟨ta, ma⟩, ⟨tb, mb⟩, mc, mrow, ⟨tc, mch⟩, ⟨td, md⟩, ⟨tr, mr⟩, ⟨tm, mm⟩, o, items, rfl, ho, hI⟩ := h
      rw [s3] at H
      have hsucc := inn_succ (cpA B2 j) B1 (j * 2, j * 2, big, (out B1 B2 n j).2) i
      have hl := hlen i
      revert hsucc hl md mr mm hI
      generalize inn (cpA B2 j) B1 (j * 2, j * 2, big, (out B1 B2 n j).2) i = y
      obtain ⟨yd, yr, ym, yrow⟩ := y
      intro md mr mm hI hsucc hl
      dsimp only at md mr mm hl hI
      repeat walk_at "g4"
      refine it_str (by assumption) (s2 lA hi).1 (s2 lA hi).2 zA (fun t s H => ?_)
      rw [(Lc i hi).1]
      repeat walk_at "g4"
      refine ⟨Inv.wd _ H, o_ref H (fun R k => spec_sc (Inv.wd _ H) (hA1 _).room (Lc j hj).2.2.2 (Lc i hi).2.1 k) ?_⟩
      rintro v s H ⟨t, rfl⟩
      repeat walk_at "g4"
      have hil := hl.symm ▸ hi
      obtain ⟨tq, hq⟩ := hI.2 i hil
      have i0 : (0 : Int) ≤ (i : Int) := Int.natCast_nonneg i
      have i63 : (i : Int) < 2 ^ 63 := Int.lt_trans (s13 (Nat.lt_of_lt_of_le hi hn3)) (by decide)
      rename Inv.p _ _ => H
      refine it_lst (St.isList H (.tail _ (.tail _ (.head _))) ho) i0 i63 hq ?_
      repeat walk_at "g4"
      refine o_min (hA1 _).hh (by assumption) (fun t s H => ?_)
      repeat walk_at "g4"
      refine o_min (hA1 _).hh (by assumption) (fun t s H => ?_)
      repeat walk_at "g4"
      refine set_lst (pre := [(I2, io2), (I, io)]) (post := []) (by assumption) ho i0 (by rw [hI.1]; exact s13 hil) i63 (fun o' s H ho' => ?_)
      repeat walk_at "g4"
      have hI' := hI.set i (stI (cpA B2 j) B1 (yd, yr, ym, yrow) i).2.1 t hil
      refine ⟨fun h => ?_, fun h => ?_⟩
      · repeat walk_at "g4"
        have e : (stI (cpA B2 j) B1 (yd, yr, ym, yrow) i).2.2.1 = (stI (cpA B2 j) B1 (yd, yr, ym, yrow) i).2.1 := if_pos (of_decide_eq_true h)
        subst hKi
        exact tq_next ⟨_, [(I, io), (l, o')], by assumption, by rw [hJ2]; dsimp only; rw [hsucc]; exact ⟨⟨_, by walk_at "lk"⟩, ⟨_, by walk_at "lk"⟩, by walk_at "lk", by walk_at "lk", ⟨_, by walk_at "lk"⟩, ⟨_, by walk_at "lk"⟩, ⟨_, by walk_at "lk"⟩, ⟨_, by rw [e]; walk_at "lk"⟩, _, _, rfl, ho', hI'⟩⟩
      · repeat walk_at "g4"
        have e : (stI (cpA B2 j) B1 (yd, yr, ym, yrow) i).2.2.1 = ym := if_neg (of_decide_eq_false h)
        subst hKi
        exact tq_next ⟨_, [(I, io), (l, o')], by assumption, by rw [hJ2]; dsimp only; rw [hsucc]; exact ⟨⟨_, by walk_at "lk"⟩, ⟨_, by walk_at "lk"⟩, by walk_at "lk", by walk_at "lk", ⟨_, by walk_at "lk"⟩, ⟨_, by walk_at "lk"⟩, ⟨_, by walk_at "lk"⟩, ⟨_, by rw [e]; walk_at "lk"⟩, _, _, rfl, ho', hI'⟩⟩
    · clear H hI ho mr mrow ma mb mc
      intro m σ s h H
      rw [hJ2] at h
      obtain ⟨⟨ta, ma⟩, ⟨tb, mb⟩, mc, mrow, ⟨tc, mch⟩, ⟨td, md⟩, ⟨tr, mr⟩, ⟨tm, mm⟩, o, items, rfl, ho, hI⟩ := h
      refine lr_next ?_
      repeat walk_at "g4"
      have hs := Ls j hj
      refine ⟨fun h => absurd (of_decide_eq_true h) (Int.not_lt.mpr hs), fun _ => ?_⟩
      repeat walk_at "g4"
      subst hKo
      exact tq_next ⟨_, [(l, o)], by assumption, by rw [hJ]; dsimp only; rw [out_succ]; exact ⟨⟨_, by walk_at "lk"⟩, ⟨_, by walk_at "lk"⟩, by walk_at "lk", by walk_at "lk", ⟨_, by walk_at "lk"⟩, _, _, rfl, ho, hI⟩⟩
  · clear H hI
    intro m σ s h H
    rw [hJ] at h
    obtain ⟨_, _, _, _, ⟨tr, mr⟩, o, items, rfl, ho, hI⟩ := h
    refine lr_next ?_
    repeat walk_at "g4"
    subst hKf
    exact St.back k (by assumption) ⟨_, congrArg (Value.int · _) Lf⟩

section
variable {w : World}
theorem cGa : findIn (KK w) (.ref 213) "__getattribute__" = some (some (.builtin "object.__getattribute__")) := by kernel_rfl
theorem cGt : findIn (KK w) (.ref 213) "__getattr__" = some none := by kernel_rfl
theorem cSt : findIn (KK w) (.ref 213) "__setattr__" = some (some (.builtin "object.__setattr__")) := by kernel_rfl
theorem cHd : findIn (KK w) (.ref 213) "_headers" = some none := by kernel_rfl
theorem cTk : takerIn (KK w) 213 "_headers" = some none := by kernel_rfl
theorem cMk : makesIn (KK w) 213 = true := by kernel_rfl
theorem cDi : hasDictIn (KK w) 213 = true := by kernel_rfl
theorem cOv : plainOver (KK w) 213 = true := by kernel_rfl
theorem cM_init : findIn (KK w) (.ref 213) "__init__" = some (some (.ref 107)) := by kernel_rfl
theorem cM_conv : findIn (KK w) (.ref 213) "_convert_string_type" = some (some (.ref 114)) := by kernel_rfl
theorem cM_len : findIn (KK w) (.ref 213) "__len__" = some (some (.ref 121)) := by kernel_rfl
theorem cM_get_all : findIn (KK w) (.ref 213) "get_all" = some (some (.ref 152)) := by kernel_rfl
theorem cM_get : findIn (KK w) (.ref 213) "get" = some (some (.ref 160)) := by kernel_rfl
theorem cM_keys : findIn (KK w) (.ref 213) "keys" = some (some (.ref 165)) := by kernel_rfl
theorem cM_add : findIn (KK w) (.ref 213) "add_header" = some (some (.ref 210)) := by kernel_rfl
theorem cT_init : typeIn (KK w) (.ref 107) = some (.type "function") := by kernel_rfl
theorem cT_conv : typeIn (KK w) (.ref 114) = some (.type "function") := by kernel_rfl
theorem cT_len : typeIn (KK w) (.ref 121) = some (.type "function") := by kernel_rfl
theorem cT_get_all : typeIn (KK w) (.ref 152) = some (.type "function") := by kernel_rfl
theorem cT_get : typeIn (KK w) (.ref 160) = some (.type "function") := by kernel_rfl
theorem cT_keys : typeIn (KK w) (.ref 165) = some (.type "function") := by kernel_rfl
theorem cT_add : typeIn (KK w) (.ref 210) = some (.type "function") := by kernel_rfl
theorem cGF : plainGet (KK w) 213 "_headers" = true := by kernel_rfl
end
section
variable {w : World} {prog : Program} {A : Around} {M : Model} {E : Value → Shared → Prop} {s : Shared} {I : Inv w} {env : Env} {Γ : Fd} {m : Str → Option Value} {σ σ' pre post : List (Addr × Obj)}
-- ledger: change by address
def upd (σ : List (Addr × Obj)) (a : Addr) (o : Obj) : List (Addr × Obj) := σ.map fun p => if p.1 = a then (a, o) else p
theorem upd_same {a : Addr} {o o' : Obj} (h : (a, o) ∈ σ) : (a, o') ∈ upd σ a o' := List.mem_map.mpr ⟨_, h, by simp⟩
theorem upd_ne {a b : Addr} {o o' : Obj} (h : (b, o) ∈ σ) (hb : b ≠ a) : (b, o) ∈ upd σ a o' := List.mem_map.mpr ⟨_, h, by simp [hb]⟩
theorem upd_cons {a b : Addr} {o o' : Obj} (hb : b ≠ a) : upd ((b, o) :: σ) a o' = (b, o) :: upd σ a o' := by simp [upd, hb]
theorem upd_none {a : Addr} {o : Obj} : ∀ {σ : List (Addr × Obj)}, (∀ p ∈ σ, p.1 ≠ a) → upd σ a o = σ
  | [], _ => rfl
  | p :: r, h => by
    unfold upd
    rw [List.map_cons, if_neg (h p (.head _))]
    congr 1
    exact upd_none (σ := r) fun q hq => h q (.tail _ hq)
theorem upd_split {a : Addr} {o o' : Obj} (nd : ((pre ++ (a, o) :: post).map (·.1)).Nodup) : upd (pre ++ (a, o) :: post) a o' = pre ++ (a, o') :: post := by
  simp only [List.map_append, List.map_cons] at nd
  have h1 : ∀ p ∈ pre, p.1 ≠ a := fun p hp e => by
    have := (List.nodup_append.mp nd).2.2 p.1 (List.mem_map_of_mem hp) a (List.mem_cons_self ..)
    exact this e
  have h2 : ∀ p ∈ post, p.1 ≠ a := fun p hp e => (List.nodup_cons.mp (List.nodup_append.mp nd).2.1).1 (e ▸ List.mem_map_of_mem (f := (·.1)) hp)
  have e1 := upd_none (o := o') h1
  have e2 := upd_none (o := o') h2
  unfold upd at e1 e2 ⊢
  rw [List.map_append, List.map_cons, e1, e2]; simp
theorem St.upd {h : Heap} {t : Nat} {a : Addr} {o o' : Obj} (H : (StI Γ m σ).p s) (hm : (a, o) ∈ σ) (kp : ∀ b x, b ≠ a → s.heap.get? b = some x → h.get? b = some x) (ho : h.get? a = some o') :
    (StI Γ m (upd σ a o')).p { s with heap := h, toks := t } := by
  obtain ⟨pre, post, rfl⟩ := List.append_of_mem hm
  rw [upd_split (St.nd H)]
  exact St.put H kp ho
theorem St.ne (H : (StI Γ m σ).p s) {a b : Addr} {o o' : Obj} (ha : (a, o) ∈ σ) (hb : (b, o') ∈ σ) (h : o.cls ≠ o'.cls) : a ≠ b := fun e => by
  subst e
  have h1 : s.heap.get? a = some o := St.led H _ ha
  have h2 : s.heap.get? a = some o' := St.led H _ hb
  exact h (congrArg Obj.cls (Option.some.inj (h1.symm.trans h2)))
theorem St.cons_ne {p : Addr × Obj} (H : (StI Γ m (p :: σ)).p s) {q : Addr × Obj} (hq : q ∈ σ) : p.1 ≠ q.1 := fun e => by
  have := St.nd H
  rw [List.map_cons, List.nodup_cons] at this
  exact this.1 (e ▸ List.mem_map_of_mem (f := (·.1)) hq)
theorem St.fr (H : (StI Γ m σ).p s) : ∃ ml, Fr Γ.s₀.heap Γ.L s.heap ml ∧ News Γ.s₀.heap Γ.L s.heap σ ∧ ∀ x, Γ.sc.names.lookup x = some .local → ml x = m x := by
  obtain ⟨ml, a, b⟩ := St.loc H
  exact ⟨ml, ⟨a, St.keep H, St.low H⟩, fun p hp => ⟨St.led H p hp, (St.ledL H p hp).1, St.ledB H p hp⟩, b⟩
/-- back from the kit's frame words, where no name is a cell -/
theorem St.ofFr {h : Heap} {t : Nat} {ml : Str → Option Value} (H : (StI Γ m σ).p s) (hcs : Γ.cs = []) (hm : ∀ x, Γ.sc.names.lookup x = some .local → ml x = m x) (F : Fr Γ.s₀.heap Γ.L h ml) (N : News Γ.s₀.heap Γ.L h σ') (nd : (σ'.map (·.1)).Nodup) :
    (StI Γ m σ').p { s with heap := h, toks := t } where
  same := by rw [St.same H]
  wd := St.wd H
  keep := F.keep
  loc := ⟨ml, F.ns, hm⟩
  cel := fun x c e => by rw [hcs] at e; cases e
  apart := fun x y c e => by rw [hcs] at e; cases e
  cL := fun x c e => by rw [hcs] at e; cases e
  kc := fun x c e => by rw [hcs] at e; cases e
  cB := fun x c e => by rw [hcs] at e; cases e
  low := F.above
  led := fun p hp => (N p hp).1
  ledL := fun p hp => ⟨(N p hp).2.1, fun x c e => by rw [hcs] at e; cases e⟩
  ledB := fun p hp => (N p hp).2.2
  nd := nd

-- a Headers object
def hes (w : World) (tk : Tok) (l : Addr) : List DictEntry := [⟨PyData.keyHash w.params "_headers", .str "_headers" tk, .ref l⟩]
structure HObj (w : World) (h : Heap) (x l : Addr) : Prop where
  ex : ∃ dx tk, h.get? x = some (instObj 213 dx) ∧ h.get? dx = some (dictOf (hes w tk l) 1)
theorem HObj.keeps {h h' : Heap} {x l : Addr} (H : HObj w h x l) (k : h.StaysIn h') : HObj w h' x l := let ⟨dx, tk, a, b⟩ := H.ex; ⟨dx, tk, k _ _ a, k _ _ b⟩
theorem HObj.inst {h : Heap} {x l : Addr} (H : HObj w h x l) : ∃ dx tk, InstAt h x (instObj 213 dx) 213 (some (dictOf (hes w tk l) 1)) := let ⟨dx, tk, a, b⟩ := H.ex; ⟨dx, tk, a, rfl, rfl, b⟩
theorem o_headers {x l : Addr} {e : Bool} {Q : Value → Shared → Prop} (W : Wd w s.heap) (H : HObj w s.heap x l) (h : Q (.ref l) { s with toks := s.toks + 1 }) : wpAny (model prog w) A (getAttr (.ref x) "_headers" e) Q E s := by
  obtain ⟨dx, tk, i⟩ := H.inst
  exact get_value W.k i cGa (findObj_own cDi cHd rfl rfl) rfl h
theorem o_hmeth {x l f : Addr} {name : Str} {pl : Sem Bool} {Q : Value × List Value → Shared → Prop} (W : Wd w s.heap) (H : HObj w s.heap x l) (hf : findIn (KK w) (.ref 213) name = some (some (.ref f))) (ht : typeIn (KK w) (.ref f) = some (.type "function"))
    (hs : ∀ tk, shadowIn (some (dictOf (hes w tk l) 1)) name = some false) (h : Q (.ref f, [.ref x]) s) : wpAny (model prog w) A (getMethod (.ref x) name pl) Q E s := by
  obtain ⟨dx, tk, i⟩ := H.inst
  exact method_fn W.k i cGa cGt hf ht (hs tk) h
end

section
open PySem.Builtin.Re
theorem re_pa : PlainAttrs "re.Pattern" :=
  ⟨⟨"object.__getattribute__", by rw [typeLookup_type, builtinLookup_eq_fast]; kernel_rfl, by decide +kernel⟩, by rw [typeLookup_type, builtinLookup_eq_fast]; kernel_rfl⟩
theorem re_slot : Slot "re.Pattern" "search" "re.Pattern.search" :=
  .of (owner := "re.Pattern") (n := "search") (by rw [typeLookup_type, builtinLookup_eq_fast]; kernel_rfl) (by decide +kernel) (by decide +kernel) (by decide +kernel)
    (by first | exact .inl (by decide +kernel) | exact .inr (by decide +kernel)) (by rw [isSubtype_type]; kernel_rfl)
theorem re_entry : entryFor table "re.Pattern.search" = some Builtin.«re.Pattern.search» := entryFor_of_tree (by kernel_rfl)
theorem re_args (a b : Value) : argsOk "re.Pattern.search" ⟨[a, b], []⟩ := by unfold argsOk; kernel_rfl
theorem re_ty : typeOf (.builtin "re.Pattern.search") = pure (.type "method_descriptor") := by kernel_rfl

def codeN : Array Nat := #[14, 10, 4, 1, 1, 22, 0, 31, 16, 127, 0, 13, 7, 22, 0, 31, 16, 127, 0, 1]
def codeV : Array Nat := #[14, 14, 4, 1, 1, 9, 4294966783, 0, 0, 2147483648, 0, 0, 0, 0, 0, 13, 11, 9, 4294966783, 0, 0, 2147483648, 0, 0, 0, 0, 0, 1]
def NoSet (code : Array Nat) (c : Nat) : Prop := ∀ seen, ∃ seen', Sre.inSet code c code.size 5 true seen = .ok (false, seen')
theorem noN {c : Nat} (h1 : 32 ≤ c) (h2 : c < 127) : NoSet codeN c := fun seen => by
  have a : ¬ ((decide (0 ≤ c) && decide (c ≤ 31)) = true) := by simp; omega
  have b : ¬ ((c == 127) = true) := by simp; omega
  have e : Sre.inSet codeN c codeN.size 5 true seen = if (decide (0 ≤ c) && decide (c ≤ 31)) = true then .ok (true, seen.add 22) else if (c == 127) = true then .ok (true, (seen.add 22).add 16) else .ok (false, ((seen.add 22).add 16).add 0) := rfl
  exact ⟨_, by rw [e, if_neg a, if_neg b]⟩
theorem noV {c : Nat} (h1 : 32 ≤ c) (h2 : c < 127) : NoSet codeV c := fun seen => by
  have a : ¬ ((decide (c < 256) && (codeV.getD (5 + (1 + c / 32)) 0).testBit (c % 32)) = true) := by
    have : ∀ c < 127, 32 ≤ c → (codeV.getD (5 + (1 + c / 32)) 0).testBit (c % 32) = false := by decide +kernel
    rw [this c h2 h1]; simp
  have e : Sre.inSet codeV c codeV.size 5 true seen = if (decide (c < 256) && (codeV.getD (5 + (1 + c / 32)) 0).testBit (c % 32)) = true then .ok (true, seen.add 9) else .ok (false, (seen.add 9).add 0) := rfl
  exact ⟨_, by rw [e, if_neg a]⟩

theorem adm (m : Sre.M) (h : ∀ i < m.text.size, NoSet m.code (m.text.getD i 0)) (hl : m.lim ≤ m.text.size) : ∀ fuel s seen, ∃ seen', Sre.M.admitted m fuel s seen = .ok (none, seen')
  | 0, s, seen => ⟨seen, rfl⟩
  | fuel + 1, s, seen => by
    unfold Sre.M.admitted
    by_cases q : s ≥ m.lim
    · exact ⟨seen, if_pos q⟩
    · obtain ⟨seen', e⟩ := h s (by omega) seen
      obtain ⟨s2, e2⟩ := adm m h hl fuel (s + 1) seen'
      exact ⟨s2, by rw [if_neg q, e]; exact e2⟩
theorem att (m : Sre.M) (s : Nat) (f : Bool) (hf : m.hasFirstSet = true) (h : ∀ i < m.text.size, NoSet m.code (m.text.getD i 0)) (hl : m.lim ≤ m.text.size) : ∃ seen, m.attemptFrom s f = ({ m with seen := seen } : Sre.M).say false := by
  obtain ⟨seen, e⟩ := adm m h hl (m.lim + 1 - s) s m.seen
  exact ⟨seen, by unfold Sre.M.attemptFrom; rw [hf, e]; rfl⟩
theorem says {code text : Array Nat} {g : Nat} (hf : ∀ m : Sre.M, m.code = code → m.hasFirstSet = true) (h : ∀ i < text.size, NoSet code (text.getD i 0)) :
    ∃ m : Sre.M, Sre.forSearch code text g 0 text.size false = m.say false ∧ m.frames = [] ∧ m.outcome = none := by
  have key : ∀ m : Sre.M, m.code = code → m.text = text → m.lim = text.size → m.frames = [] → m.outcome = none → ∃ m' : Sre.M, m.attemptFrom 0 true = m'.say false ∧ m'.frames = [] ∧ m'.outcome = none := by
    intro m e1 e2 e3 e4 e5
    obtain ⟨seen, e⟩ := att m 0 true (hf m e1) (by rw [e1, e2]; exact h) (by rw [e2, e3]; exact Nat.le_refl _)
    exact ⟨_, e, e4, e5⟩
  unfold Sre.forSearch
  by_cases q : (decide (0 > text.size) || decide (text.size - 0 < (Sre.header code).1)) = true
  · exact ⟨_, if_pos q, rfl, rfl⟩
  · dsimp only
    rw [if_neg (by simpa using q)]
    exact key _ rfl rfl rfl rfl rfl
section
variable {w : World} {prog : Program} {A : Around} {M : Model} {E : Value → Shared → Prop} {s : Shared}
theorem drive (n : Nat) (m : Sre.M) (h1 : m.frames = []) (h2 : m.outcome = none) : reDrive (n + 1) (m.say false) = pure { m.say false with outcome := some .failed } := by
  have e : (m.say false).runFor reTurnSteps = { m.say false with outcome := some .failed } := by
    obtain ⟨code, text, lim, start, ls, wt, ma, pc, pos, handed, om, marks, lm, li, loops, inner, frames, weight, answer, seen, outcome⟩ := m
    cases h1; cases h2
    rfl
  unfold reDrive
  rw [e]; rfl
theorem toEnd {m : Sre.M} {Q : Option Sre.M → Shared → Prop} (h1 : m.frames = []) (h2 : m.outcome = none) (h : Q none s) : wpAny M A (reRunToEnd (m.say false)) Q E s := by
  unfold reRunToEnd
  rw [show (2 ^ 64 : Nat) = 18446744073709551615 + 1 from rfl, drive _ m h1 h2]
  refine wpAny_bind (wpAny_pure (wpAny_bind ?_))
  refine wpAny_forIn_list _ (fun _ _ s' => s' = s) _ (fun x rest b s' hs => ?_) (fun b s' hs => ?_) _ _ rfl
  · subst hs
    by_cases q : ({ m.say false with outcome := some .failed } : Sre.M).seen.has x = true
    · rw [if_pos q]
      exact wpAny_bind (wpAny_rule (wpAny_pure rfl))
    · rw [if_neg q]
      exact wpAny_pure rfl
  · subst hs
    exact wpAny_pure h
end

end
section
open PySem.Builtin.Re
section
variable {w : World} {prog : Program} {A : Around} {E : Value → Shared → Prop} {s : Shared}
theorem named1 (v : Value) : reNamed "re.Pattern.search" "search" ["string", "pos", "endpos"] 1 [v] [] = pure [some v, none, none] := by rfl
theorem o_search {a ct : Addr} {od : Option Addr} {sl : Array (Option Value)} {oc : Obj} {items : Array Value} {n : Nat} {f0 f1 f2 f3 f4 : Value} {tk : Tok} {code : Array Nat} {v : Str} {t : Tok} {Q : Value → Shared → Prop}
    (ho : s.heap.get? a = some ⟨.type "re.Pattern", od, .fields #[f0, f1, f2, f3, f4, .ref ct, .int 0 tk], sl⟩) (hc : s.heap.get? ct = some oc) (hd : oc.data = .seq items n) (hcode : (items.map reRawOf).map (·.toNat) = code)
    (hf : ∀ m : Sre.M, m.code = code → m.hasFirstSet = true) (h : ∀ i < v.cps.size, NoSet code (v.cps.getD i 0)) (hz : v.cps.size < 2 ^ 63) (k : Q .none s) :
    wpAny (model prog w) A (call (.builtin "re.Pattern.search") [.ref a, .str v t]) Q E s := by
  refine wpAny_call_entry re_slot ⟨_, ho, rfl⟩ re_entry ?_ (re_args _ _)
  unfold Builtin.«re.Pattern.search»
  refine wpAny_bind ?_
  unfold reTarget
  rw [show ({ pos := [Value.ref a, Value.str v t], kw := [] } : Args).pos = [Value.ref a, Value.str v t] from rfl]
  dsimp only
  rw [named1]
  refine wpAny_bind (wpAny_pure ?_)
  dsimp only
  refine wpAny_bind (wpAny_pure (wpAny_bind (wpAny_pure (wpAny_bind (wpAny_fieldsOf ho rfl ?_)))))
  refine wpAny_bind (m := reTextOf (.str v t)) (wpAny_pure ?_)
  dsimp only
  rw [show (#[f0, f1, f2, f3, f4, Value.ref ct, Value.int 0 tk] : Array Value).getD 6 Value.none = Value.int 0 tk from rfl, show (#[f0, f1, f2, f3, f4, Value.ref ct, Value.int 0 tk] : Array Value).getD 5 Value.none = Value.ref ct from rfl]
  rw [show reRawNat (Value.int 0 tk) = 0 from rfl, if_neg (by decide), if_neg (by decide)]
  refine wpAny_bind (m := reNoCollectionInside _ _) (wpAny_pure ?_)
  refine wpAny_bind (m := reRawItems _) ?_
  unfold reRawItems
  refine wpAny_bind (wpAny_seqItems hc hd (wpAny_pure (wpAny_pure ?_)))
  obtain ⟨m, em, e1, e2⟩ := says (g := reRawNat ((#[f0, f1, f2, f3, f4, Value.ref ct, Value.int 0 tk] : Array Value).getD 2 Value.none)) hf h
  show wpAny _ _ (reAnswer _ (Sre.forSearch ((items.map reRawOf).map (·.toNat)) v.cps (reRawNat ((#[f0, f1, f2, f3, f4, Value.ref ct, Value.int 0 tk] : Array Value).getD 2 Value.none)) (min ((0 : Int).toNat) v.cps.size) (min ((2 ^ 63 - 1 : Int).toNat) v.cps.size) false)) _ _ _
  rw [hcode, show min ((0 : Int).toNat) v.cps.size = 0 by simp, show min ((2 ^ 63 - 1 : Int).toNat) v.cps.size = v.cps.size by
    have : (2 ^ 63 - 1 : Int).toNat = 2 ^ 63 - 1 := by decide
    rw [this]; omega, em]
  unfold reAnswer
  exact wpAny_bind (toEnd e1 e2 (wpAny_pure ⟨_, rfl, k⟩))
end
def Clean (v : Str) : Prop := v.cps.size < 2 ^ 63 ∧ ∀ i < v.cps.size, 32 ≤ v.cps.getD i 0 ∧ v.cps.getD i 0 < 127
section
variable {w : World} {prog : Program} {A : Around} {E : Value → Shared → Prop} {s : Shared}
theorem o_searchN {v : Str} {t : Tok} {Q : Value → Shared → Prop} (W : Wd w s.heap) (hv : Clean v) (k : Q .none s) : wpAny (model prog w) A (call (.builtin "re.Pattern.search") [.ref 79, .str v t]) Q E s :=
  o_search (code := codeN) (W.k 79 _ (by rfl)) (W.k 78 _ (by rfl)) rfl (by decide +kernel) (fun m e => by unfold Sre.M.hasFirstSet; rw [e]; rfl) (fun i hi => noN (hv.2 i hi).1 (hv.2 i hi).2) hv.1 k
theorem o_searchV {v : Str} {t : Tok} {Q : Value → Shared → Prop} (W : Wd w s.heap) (hv : Clean v) (k : Q .none s) : wpAny (model prog w) A (call (.builtin "re.Pattern.search") [.ref 84, .str v t]) Q E s :=
  o_search (code := codeV) (W.k 84 _ (by rfl)) (W.k 83 _ (by rfl)) rfl (by decide +kernel) (fun m e => by unfold Sre.M.hasFirstSet; rw [e]; rfl) (fun i hi => noV (hv.2 i hi).1 (hv.2 i hi).2) hv.1 k
theorem m_searchN {pl : Sem Bool} {Q : Value × List Value → Shared → Prop} (W : Wd w s.heap) (k : Q (.builtin "re.Pattern.search", [.ref 79]) s) : wpAny (model prog w) A (getMethod (.ref 79) "search" pl) Q E s := by
  have ho : s.heap.get? 79 = some _ := W.k 79 _ (by rfl)
  exact getMethod_builtin ⟨_, ho, rfl⟩ re_pa re_slot re_ty (fun a e => by cases e; exact ⟨_, ho, rfl⟩) k
theorem m_searchV {pl : Sem Bool} {Q : Value × List Value → Shared → Prop} (W : Wd w s.heap) (k : Q (.builtin "re.Pattern.search", [.ref 84]) s) : wpAny (model prog w) A (getMethod (.ref 84) "search" pl) Q E s := by
  have ho : s.heap.get? 84 = some _ := W.k 84 _ (by rfl)
  exact getMethod_builtin ⟨_, ho, rfl⟩ re_pa re_slot re_ty (fun a e => by cases e; exact ⟨_, ho, rfl⟩) k
end

end
theorem is_tt {M : Model} {A : Around} {E : Value → Shared → Prop} {s : Shared} {Q : Value → Shared → Prop} (h : Q (.bool true) s) : wpAny M A (compareOp .Is (.type "str") (.type "str")) Q E s := by
  have e : compareOp .Is (.type "str") (.type "str") = pure (.bool true) := by kernel_rfl
  rw [e]; exact wpAny_pure h
theorem is_tl {M : Model} {A : Around} {E : Value → Shared → Prop} {s : Shared} {Q : Value → Shared → Prop} (h : Q (.bool false) s) : wpAny M A (compareOp .IsNot (.type "list") (.type "list")) Q E s := by
  have e : compareOp .IsNot (.type "list") (.type "list") = pure (.bool false) := by kernel_rfl
  rw [e]; exact wpAny_pure h
theorem t_none {M : Model} {A : Around} {E : Value → Shared → Prop} {s : Shared} {Q : Bool → Shared → Prop} (h : Q false s) : wpAny M A (truthy .none) Q E s := by
  have e : truthy .none = pure false := by rfl
  rw [e]; exact wpAny_pure h
theorem x_ifexp {M : Model} {A : Around} {E : Value → Shared → Prop} {s : Shared} {env : Env} {c x y : Expr} {pos : Pos} {Q : Value → Shared → Prop}
    (h : wpAny M A (isTrue c env (eval c env)) (fun b s₁ => (b = true → wpAny M A (eval x env) Q E s₁) ∧ (b = false → wpAny M A (eval y env) Q E s₁)) E s) : wpAny M A (eval (.IfExp c x y pos) env) Q E s :=
  wpAny_IfExp (wpAny_mono h (fun b s₁ q => by cases b <;> first | exact q.2 rfl | exact q.1 rfl) fun _ _ q => q)
local macro_rules | `(tactic| walk_at "g5") => `(tactic| first | (with_reducible first | refine x_ifexp ?_ | refine is_tt ?_ | refine is_tl ?_ | refine t_none ?_ | refine sq_ret ?_ | refine sq_cont ?_ | refine sq_brk ?_ | refine PySem.is_none ?_ | refine PySem.isNot_none ?_) | walk_at "g3")
theorem spec_conv {w : World} {A : Around} {s : Shared} {R : Result → Shared → Prop} (W : Wd w s.heap) (hA : AOk 1 A) {x : Addr} {v : Str} {t : Tok} {b : Bool} (hv : Clean v)
  (k : Rets s R fun r _ => r = .str v t) :
  codeAny (model PP w) A (.call (.ref 114) ⟨[.ref x, .str v t], [("name", .bool b)]⟩) R s := by
  refine enterK (binds := [("self", .ref x), ("value", .str v t), ("name", .bool b)]) W hA.room (by rfl) (by rfl) (by rfl) (BindsTo.of_eq rfl) (fun s H => ?_)
  repeat walk_at "g5"
  refine call_type_of (typeIs_str _ _ _) rfl ?_
  repeat walk_at "g5"
  refine ⟨fun _ => ?_, fun h => (nomatch h)⟩
  cases b
  · repeat walk_at "g5"
    refine ⟨fun h => (nomatch h), fun _ => ?_⟩
    repeat walk_at "g5"
    refine m_searchV (Inv.wd _ (by assumption)) ?_
    repeat walk_at "g5"
    refine o_searchV (Inv.wd _ (by assumption)) hv ?_
    repeat walk_at "g5"
    refine ⟨fun h => (nomatch h), fun _ => ?_⟩
    repeat walk_at "g5"
    exact St.back k (by assumption) rfl
  · repeat walk_at "g5"
    refine ⟨fun _ => ?_, fun h => (nomatch h)⟩
    repeat walk_at "g5"
    refine m_searchN (Inv.wd _ (by assumption)) ?_
    repeat walk_at "g5"
    refine o_searchN (Inv.wd _ (by assumption)) hv ?_
    repeat walk_at "g5"
    refine ⟨fun h => (nomatch h), fun _ => ?_⟩
    repeat walk_at "g5"
    exact St.back k (by assumption) rfl

section
variable {w : World} {prog : Program} {A : Around} {M : Model} {E : Value → Shared → Prop} {s : Shared} {env : Env} {Γ : Fd} {m : Str → Option Value} {σ : List (Addr × Obj)}
theorem e_list {elts : List Expr} {pos : Pos} {Q : Value → Shared → Prop}
    (h : wpAny M A (spliced (backTo pos (starEach elts env))) (fun vs s₁ => vs.length ≤ sizeLine ∧ ∃ Γ m σ, (StI Γ m σ).p s₁ ∧ ∀ l s₂, (StI Γ m ((l, lst vs.toArray 0) :: σ)).p s₂ → Q (.ref l) s₂) E s) : wpAny M A (eval (.List elts pos) env) Q E s :=
  wpAny_List (wpAny_mono h (fun vs s₁ ⟨a, Γ, m, σ, H, k⟩ => ⟨a, k _ _ (St.new (t := s₁.toks) H rfl)⟩) fun _ _ z => z)
theorem e_tup {elts : List Expr} {kk : Nat} {pos : Pos} {Q : Value → Shared → Prop}
    (h : wpAny M A (spliced (backTo pos (starEach elts env))) (fun vs s₁ => vs.length ≤ sizeLine ∧ ∃ Γ m σ, (StI Γ m σ).p s₁ ∧ ∀ l s₂, (StI Γ m ((l, tup vs.toArray) :: σ)).p s₂ → Q (.ref l) s₂) E s) : wpAny M A (eval (.Tuple elts kk pos) env) Q E s :=
  wpAny_Tuple (wpAny_mono h (fun vs s₁ ⟨a, Γ, m, σ, H, k⟩ => ⟨a, k _ _ (St.new (t := s₁.toks) H rfl)⟩) fun _ _ z => z)
theorem e_attr {x attr : Str} {xp pos : Pos} {Q : Value → Shared → Prop}
    (h : wpAny M A (eval (.Name x xp) env) (fun o s₁ => wpAny M A (getAttr o attr true) Q E s₁) E s)
    (he : eval (.Attribute (.Name x xp) attr pos) env = (do
      let o ← eval (.Name x xp) env
      standAt pos.atName
      let r ← holding [o] (getAttr o attr true)
      letTemporaryGo (.Name x xp) o r
      pure r) := by rfl) : wpAny M A (eval (.Attribute (.Name x xp) attr pos) env) Q E s := Attribute_Name_ h he
theorem x_aattr {o : Expr} {attr : Str} {pos' : Pos} {value : Expr} {pos : Pos} {rest : List Stmt} {Q : Flow → Shared → Prop}
    (h : wpAny M A (eval value env) (fun v s₁ => wpAny M A (eval o env) (fun ov s₂ => wpAny M A (setAttr ov attr v) (fun _ s₃ => wpAny M A (execs rest env) Q E s₃) E s₂) E s₁) E s)
    (hs : swapsWith value (some (.Attribute o attr pos')) pos.line env = pure false := by rfl) :
    wpAny M A (execs (.Assign [.Attribute o attr pos'] value pos :: rest) env) Q E s := wpAny_execs_cons (plainObj_wpAny_Assign_Attribute h hs)
theorem n_debug {pos : Pos} {Q : Value → Shared → Prop} (h : Q (.bool true) s) : wpAny M A (eval (.Name "__debug__" pos) env) Q E s := by
  have e : eval (.Name "__debug__" pos) env = (do standAt pos; (do rule "name.__debug__"; pure (Value.bool true))) := by
    show (do standAt pos; if ("__debug__" : Str) == ("__debug__" : Str) then (do rule "name.__debug__"; pure (Value.bool true)) else loadName env "__debug__") = _
    rfl
  rw [e]
  exact wpAny_bind (wpAny_standAt (wpAny_bind (wpAny_rule (wpAny_pure h))))
theorem o_len_lst {l : Addr} {items : Array Value} {Q : Value → Shared → Prop} (I : Inv w) (H : I.p s) (hl : s.heap.IsList l items) (hz : (items.size : Int) < 2 ^ 63) (h : ∀ t s, I.p s → Q (.int items.size t) s) : wpAny (model prog w) A (call (.builtin "len") ([] ++ [.ref l])) Q E s :=
  Calls.call_len_list hl hz (h _ _ (I.tok H))
/-- a for over a list that is empty, whatever its target -/
theorem it_none {l : Addr} {target : Expr} {body : List Stmt} {R : Result → Shared → Prop} (hh : A.handled = none) (H : (StI Γ m σ).p s) (hl : s.heap.IsList l #[]) (done : ∀ s, (StI Γ m σ).p s → R (.ok .next) s) :
    wpAny (model prog Γ.w) A (pyIter (.ref l)) (fun it s₂ => codeAny (model prog Γ.w) A (.forLoop target it body [] Γ.env) R s₂) E s := by
  refine wpAny_pyIter_list hl ?_
  have H1 := St.new (t := s.toks) (o := { cls := .type "list_iterator", data := .fields #[.ref l, .int 0 0] }) H rfl
  refine codeAny_forLoop_any (fun k s' => (StI Γ m ((s.heap.objs.size, { cls := .type "list_iterator", data := .fields #[.ref l, .int 0 0] }) :: σ)).p s' ∧ s'.heap.IsList l #[]) ?_ 1 ⟨H1, hl.push _⟩
  rintro k s' ⟨H', hl'⟩
  refine wpAny_pyNext_list_end hh ⟨_, St.led H' _ (.head _), rfl, rfl⟩ hl' rfl fun h₁ he₁ => wpAny_execs_nil (done _ (St.but H' he₁))
end
theorem keepL {h h' : Heap} {l : Addr} {items : Array Value} (x : h.IsList l items) (k : h.StaysIn h') : h'.IsList l items := let ⟨o, a, b⟩ := x; ⟨o, k _ _ a, b⟩
theorem o_seth {prog : Program} {A : Around} {E : Value → Shared → Prop} {s : Shared} {Γ : Fd} {m : Str → Option Value} {pre post : List (Addr × Obj)} {x dx l : Addr} {Q : Unit → Shared → Prop} (H : (StI Γ m (pre ++ (dx, dictOf [] 0) :: post)).p s) (hcs : Γ.cs = []) (hx : (x, instObj 213 dx) ∈ pre ++ (dx, dictOf [] 0) :: post)
    (k : ∀ tk s, (StI Γ m (pre ++ (dx, dictOf (hes Γ.w tk l) 1) :: post)).p s → Q () s) : wpAny (model prog Γ.w) A (setAttr (.ref x) "_headers" (.ref l)) Q E s := by
  obtain ⟨ml, F, N, hm⟩ := St.fr H
  have nd := St.nd H
  have nd' := nd
  simp only [List.map_append, List.map_cons] at nd
  have h1 : ∀ p ∈ pre, p.1 ≠ dx := fun p hp e => by
    have := (List.nodup_append.mp nd).2.2 p.1 (List.mem_map_of_mem hp) dx (List.mem_cons_self ..)
    exact this e
  have h2 : ∀ p ∈ post, p.1 ≠ dx := fun p hp e => (List.nodup_cons.mp (List.nodup_append.mp nd).2.1).1 (e ▸ List.mem_map_of_mem (f := (·.1)) hp)
  have I : InstAt s.heap x (instObj 213 dx) 213 (some (dictOf [] 0)) := ⟨St.led H _ hx, rfl, rfl, St.led H (dx, dictOf [] 0) (by simp)⟩
  have U : ∀ pre : List (Addr × Obj), (∀ p ∈ pre, p.1 ≠ dx) → Upd dx (dictOf [] 0) (dictOf (hes Γ.w (s.toks + 1) l) 1) (pre ++ (dx, dictOf [] 0) :: post) (pre ++ (dx, dictOf (hes Γ.w (s.toks + 1) l) 1) :: post) := by
    intro pre hp
    induction pre with
    | nil => exact .head h2
    | cons p r ih => exact .tail (hp p (.head _)) (ih fun q hq => hp q (.tail _ hq))
  refine set_dict F (St.wd H).k N I rfl cSt cOv cTk cDi rfl rfl (U pre h1) (Nat.le_of_ble_eq_true rfl) fun h' F' N' => k _ _ (St.ofFr (t := s.toks + 2) H hcs hm F' N' ?_)
  simpa using nd'
local macro_rules | `(tactic| walk_at "g6") => `(tactic| first
  | walk_at "g5"
  | (with_reducible first | refine e_list ?_ | refine e_tup ?_ | refine n_debug ?_)
  | ((with_reducible rename Inv.p _ _ => H); with_reducible refine ⟨Nat.le_of_ble_eq_true rfl, _, _, _, H, ?_⟩; clear H; intro l s H)
  | ((with_reducible first | refine e_attr ?_ ?a | refine x_aattr ?_ ?a); (case a => rfl))
  | ((with_reducible refine x_for ?_ ?a); (case a => (intro _; rfl))))

theorem spec_hlen {w : World} {A : Around} {s : Shared} {R : Result → Shared → Prop} (W : Wd w s.heap) (hA : AOk 1 A) {x l : Addr} {items : Array Value} (hx : HObj w s.heap x l) (hl : s.heap.IsList l items) (hz : (items.size : Int) < 2 ^ 63)
  (k : Rets s R fun r _ => ∃ t, r = .int items.size t) :
  codeAny (model PP w) A (.call (.ref 121) ⟨[.ref x], []⟩) R s := by
  refine enterK (binds := [("self", .ref x)]) W hA.room (by rfl) (by rfl) (by rfl) (BindsTo.of_eq rfl) (fun s H => ?_)
  repeat walk_at "g6"
  rename Inv.p _ _ => H
  refine o_headers (Inv.wd _ H) (hx.keeps (St.keep H)) ?_
  replace H := Inv.tok _ (t := s.toks + 1) H
  repeat walk_at "g6"
  refine o_len_lst _ (by assumption) (keepL hl (St.keep (by assumption))) hz (fun t s H => ?_)
  exact St.back k (by assumption) ⟨_, rfl⟩

theorem spec_init {w : World} {A : Around} {s : Shared} {R : Result → Shared → Prop} {g : Heap} {x dx : Addr} (W : Wd w g) (hg : g.StaysIn s.heap) (hgs : g.objs.size ≤ s.heap.objs.size) (hx : s.heap.get? x = some (instObj 213 dx)) (hd : s.heap.get? dx = some (dictOf [] 0)) (hxg : g.get? x = none) (hdg : g.get? dx = none)
  (hA : AOk 1 A)
  (k : ∀ s' l tk c, s' = { s with heap := s'.heap, toks := s'.toks } → g.StaysIn s'.heap → s'.heap.get? x = some (instObj 213 dx) → s'.heap.get? dx = some (dictOf (hes w tk l) 1) → s'.heap.get? l = some (lst #[] c) → g.get? l = none → R (.ok (.ret .none)) s') :
  codeAny (model PP w) A (.call (.ref 107) ⟨[.ref x], []⟩) R s := by
  have hne : x ≠ dx := fun e => by rw [e, hd] at hx; cases hx
  refine enterG (binds := [("self", .ref x), ("headers", .none)]) (g := g) (σ := [(x, instObj 213 dx), (dx, dictOf [] 0)]) W hg hgs (by simp [hx, hd, hxg, hdg]) (by simp [hne]) hA.room (by rfl) (by rfl) (by rfl) (binds_K (W.keeps hg).k (by rfl) (by rfl) rfl rfl rfl) (fun s H => ?_)
  have hA1 : ∀ env, AOk 0 (A.deeper env) := fun env => AOk.deep hA
  repeat walk_at "g6"
  refine ⟨fun h => (nomatch h), fun _ => ?_⟩
  repeat walk_at "g6"
  rename Inv.p _ _ => H'
  refine call_type_of (St.isList H' (.head _) LObj.lst).typeIs rfl ?_
  repeat walk_at "g6"
  refine ⟨fun h => (nomatch h), fun _ => ?_⟩
  repeat walk_at "g6"
  rename Inv.p _ _ => H'
  refine o_seth (pre := [_, _]) (post := []) H' (by rfl) (by simp) (fun tk s H => ?_)
  repeat walk_at "g6"
  refine ⟨fun _ => ?_, fun h => (nomatch h)⟩
  repeat walk_at "g6"
  rename Inv.p _ _ => H
  refine it_none (hA1 _).hh H (St.isList H (.head _) LObj.lst) (fun s H => lr_next ?_)
  repeat walk_at "g6"
  exact k _ _ _ _ (St.same H) (St.keep H) (St.led H _ (.tail _ (.head _))) (St.led H _ (.tail _ (.tail _ (.head _)))) (St.led H _ (.head _)) (St.ledB H _ (.head _))

theorem AOk.tc {n : Nat} {A : Around} (h : AOk (n + 1) A) : AOk n (A.under (.builtin "type.__call__" ⟨[.ref 213], []⟩)) := by
  have e1 : (Code.builtin "type.__call__" ⟨[.ref 213], []⟩).weight = 1 := by rfl
  have e2 : (Code.builtin "type.__call__" ⟨[.ref 213], []⟩).cUnits = 1 := by rfl
  refine ⟨h.hh, ?_, ?_⟩
  · have := h.hd; show A.depth + _ + n < _; rw [e1]; omega
  · have := h.hu; show A.units + _ + 8 * n < _; rw [e2]; omega
theorem spec_new {w : World} {A : Around} {s : Shared} {R : Result → Shared → Prop} (W : Wd w s.heap) (hA : AOk 2 A)
  (k : ∀ s' x dx l tk c, s' = { s with heap := s'.heap, toks := s'.toks } → s.heap.StaysIn s'.heap → s'.heap.get? x = some (instObj 213 dx) → s'.heap.get? dx = some (dictOf (hes w tk l) 1) → s'.heap.get? l = some (lst #[] c) →
    s.heap.get? l = none → s.heap.get? x = none → s.heap.get? dx = none → R (.ok (.ret (.ref x))) s') :
  codeAny (model PP w) A (.call (.ref 213) ⟨[], []⟩) R s := by
  obtain ⟨hh, g, d, t, os⟩ := s
  refine make_core (makes_of W.k cMk) (looks_findIn W.k cM_init) (fun self => bind_fn W.k self cT_init) (.inl rfl) ?_
  have e1 : ((hh.push emptyDict).push (instObj 213 hh.objs.size)).get? (hh.objs.size + 1) = some (instObj 213 hh.objs.size) := by
    have := Heap.get?_push_size (h := hh.push emptyDict) (o := instObj 213 hh.objs.size) rfl
    rwa [Heap.size_push] at this
  have e2 : ((hh.push emptyDict).push (instObj 213 hh.objs.size)).get? hh.objs.size = some (dictOf [] 0) := Heap.get?_push_of_some _ (Heap.get?_push_size _ rfl)
  have n1 : hh.get? (hh.objs.size + 1) = none := Heap.get?_none_of_le (by omega)
  refine spec_init (g := hh) W (sTrans (sPush _ _) (sPush _ _)) (by simp only [Heap.size_push]; omega) e1 e2 n1 (size_none _) (AOk.tc hA) (fun s' l tk c h1 h2 h3 h4 h5 h6 => ?_)
  refine ⟨rfl, k _ _ _ _ tk c ?_ h2 h3 h4 h5 h6 n1 (size_none _)⟩
  rw [h1]

/-- a call whose binding makes an object -/
theorem enterB {w : World} {A : Around} {s₀ s : Shared} {R : Result → Shared → Prop} {f : Addr} {oc : Value} {od : Option Addr} {osl : Array (Option Value)} {fd : FuncData} {body : List Stmt} {args : Args} {binds : List (Str × Value)} {g : Heap} {σ : List (Addr × Obj)}
    (W : Wd w g) (hg₀ : g.StaysIn s₀.heap) (hg : g.StaysIn s.heap) (hgs : g.objs.size ≤ s.heap.objs.size) (hσ : ∀ p ∈ σ, s.heap.get? p.1 = some p.2 ∧ g.get? p.1 = none) (hnd : (σ.map (·.1)).Nodup)
    (hroom : A.depth < recursionLimit) (ho : (KK w).lookup f = some ⟨oc, od, .func fd, osl⟩) (hcd : codeIn (KK w) fd.code fd.qualname = true) (hbody : fd.body = .stmts body)
    (hbind : ∀ (M : Model) (A : Around) (E : Value → Shared → Prop) (Q : List (Str × Value) → Shared → Prop), Q binds s → wpAny M A (bindArgs fd args) Q E s₀)
    (h : ∀ s₁, (StI (fdOn g s w f fd) (bmap binds) σ).p s₁ →
      wpAny (model PP w) (A.deeper (fdOn g s w f fd).env) (execs body (fdOn g s w f fd).env) (fun f s' => R (.ok (.ret (match f with | .ret v => v | _ => .none))) s') (fun _ _ => False) s₁)
    (hkind : (binds.all fun x => fd.scope.names.lookup x.1 == some .local || fd.scope.names.lookup x.1 == some .cell) = true := by rfl) (hnames : (fd.scope.names.all fun y => y.2 != .cell || fd.scope.names.lookup y.1 == some .cell) = true := by rfl)
    (hclo : fd.closure = [] := by rfl) (hgl : fd.globals = mainGlobals := by rfl) (hbu : fd.builtins = builtinsNs := by rfl)
    (hco : fd.scope.isCoroutine = false := by rfl) (hgen : fd.scope.isGenerator = false := by rfl) (hk : fd.scope.kind = .function := by rfl) :
    codeAny (model PP w) A (.call (.ref f) args) R s₀ := by
  have W₀ := W.keeps hg₀
  have W' := W.keeps hg
  refine codeAny_call_function hroom (W₀.k _ _ ho) rfl hco hgen hbody (codeRec_of W₀.k hcd) (hbind _ _ _ _ ?_)
  rw [hclo]
  have hkd : ∀ x ∈ binds, fd.scope.names.lookup x.1 = some .local ∨ (fd.scope.names.lookup x.1 = some .cell ∧ ((cellsFrom (s.heap.objs.size + 1) fd.scope.names []).lookup x.1).isSome = true) := fun x hx => by
    have := List.all_eq_true.mp hkind x hx
    rcases Bool.or_eq_true_iff.mp this with q | q
    · exact .inl (by simpa using q)
    · have q' : fd.scope.names.lookup x.1 = some .cell := by simpa using q
      exact .inr ⟨q', cellsFrom_some _ _ _ (.inl q')⟩
  refine wpAny_newFunctionEnv_cells hk hkd fun env he s' x => ?_
  have e : env = (fdOn g s w f fd).env := by rw [he, hgl, hbu]; rfl
  subst e
  refine ⟨W'.lim.keeps x.toInCall.keep, codeAny_func (wpAny_mono (h s' ?_) (fun _ _ z => z) fun _ _ z => z.elim)⟩
  have I := x.toInCall
  obtain ⟨h₁, tk, e1⟩ := I.same
  refine ⟨by rw [e1], W, sTrans hg I.keep, ⟨_, I.ns, fun y hy => ?_⟩, fun y c hc => ?_, fun y z c hy hz => name_of_addr x.apart (mem_of_lookup hy) (mem_of_lookup hz), fun y c hc => Nat.ne_of_gt (x.above y c (mem_of_lookup hc)), fun y c hc => ?_, fun y c hc _ => Heap.get?_none_of_le (Nat.le_trans (Nat.le_trans hgs I.fresh) (Nat.le_of_lt (x.above y c (mem_of_lookup hc)))), Nat.le_trans hgs I.fresh,
    fun p hp => I.keep _ _ (hσ p hp).1, fun p hp => ⟨Nat.ne_of_lt (Heap.lt_size (hσ p hp).1), fun y c hc => Nat.ne_of_lt (Nat.lt_trans (Heap.lt_size (hσ p hp).1) (x.above y c (mem_of_lookup hc)))⟩, fun p hp => (hσ p hp).2, hnd⟩
  · rw [bindL_eq (kindOf := (fdOn g s w f fd).env.kindOf) hy]; simp [bmap]
  · have hkc : fd.scope.names.lookup y = some .cell := by
      rcases cells_mem _ _ _ _ hc with q | q
      · have := List.all_eq_true.mp hnames _ q
        simpa using this
      · cases q
    have := x.cell y c hc
    rw [bindC_eq (kindOf := (fdOn g s w f fd).env.kindOf) (by show fd.scope.names.lookup y ≠ _; rw [hkc]; decide)] at this
    simpa [bmap] using this
  · rcases cells_mem _ _ _ _ hc with q | q
    · have := List.all_eq_true.mp hnames _ q
      simpa using this
    · cases q
section
variable {w : World} {prog : Program} {A : Around} {M : Model} {E : Value → Shared → Prop} {s : Shared} {env : Env} {Γ : Fd} {m : Str → Option Value} {σ : List (Addr × Obj)}
-- lists
theorem m_append {l : Addr} {items : Array Value} {c : Nat} {pl : Sem Bool} {Q : Value × List Value → Shared → Prop} (hl : s.heap.get? l = some (lst items c)) (h : Q (.builtin "list.append", [.ref l]) s) :
    wpAny M A (getMethod (.ref l) "append" pl) Q E s := Calls.getMethod_list_append hl rfl rfl h
theorem o_append {l : Addr} {items : Array Value} {c : Nat} {v : Value} {Q : Value → Shared → Prop} (H : (StI Γ m σ).p s) (hm : (l, lst items c) ∈ σ) (hz : items.size ≤ sizeLine)
    (k : ∀ s, (StI Γ m (upd σ l (lst (items.push v) (c + 1)))).p s → Q .none s) : wpAny (model prog w) A (call (.builtin "list.append") ([.ref l] ++ [v])) Q E s := by
  have hl := St.led H _ hm
  refine call_meets PySem.F.slot_list_append ⟨_, hl, rfl⟩ PySem.F.entry_list_append (PySem.F.args_list_append_2 _ _) (AutoListH.list_append_list_val_0 l items c v hz) ⟨hl, ?_⟩
  refine k _ (St.upd (t := s.toks) H hm (fun b x hb e => (Heap.get?_update_other _ _ (Ne.symm hb)).trans e) ?_)
  have := Heap.get?_update_self (Obj.mapSeq fun x => x.push v) hl (by rfl)
  rw [this]
  simp [Obj.mapSeq]
theorem o_appendS {pre post : List (Addr × Obj)} {l : Addr} {items : Array Value} {c : Nat} {v : Value} {Q : Value → Shared → Prop} (H : (StI Γ m (pre ++ (l, lst items c) :: post)).p s) (hz : items.size ≤ sizeLine)
    (k : ∀ s, (StI Γ m (pre ++ (l, lst (items.push v) (c + 1)) :: post)).p s → Q .none s) : wpAny (model prog w) A (call (.builtin "list.append") ([.ref l] ++ [v])) Q E s :=
  o_append (c := c) H (by simp) hz fun s' H' => k s' (by rw [upd_split (St.nd H)] at H'; exact H')
theorem m_pop {l : Addr} {items : Array Value} {c : Nat} {pl : Sem Bool} {Q : Value × List Value → Shared → Prop} (hl : s.heap.get? l = some (lst items c)) (h : Q (.builtin "list.pop", [.ref l]) s) :
    wpAny M A (getMethod (.ref l) "pop" pl) Q E s :=
  getMethod_builtin ⟨_, hl, rfl⟩ PySem.F.plainAttrs_list PySem.F.slot_list_pop PySem.F.type_list_pop (fun a e => by cases e; exact ⟨_, hl, rfl⟩) h
theorem o_pop {l : Addr} {items : Array Value} {c : Nat} {y : Value} {Q : Value → Shared → Prop} (H : (StI Γ m σ).p s) (hm : (l, lst (items.push y) c) ∈ σ) (hz : items.size + 1 ≤ sizeLine)
    (k : ∀ s, (StI Γ m (upd σ l (lst items (c + 1)))).p s → Q y s) : wpAny (model prog w) A (call (.builtin "list.pop") ([.ref l] ++ [])) Q E s := by
  have hl := St.led H _ hm
  refine call_meets PySem.F.slot_list_pop ⟨_, hl, rfl⟩ PySem.F.entry_list_pop (PySem.F.args_list_pop_1 _) (MeetsSeq.list_pop_last l (items.push y) c y (by simp) (by simpa using hz)) ⟨hl, ?_⟩
  refine k _ (St.upd (t := s.toks) H hm (fun b x hb e => (Heap.get?_update_other _ _ (Ne.symm hb)).trans e) ?_)
  have := Heap.get?_update_self (Obj.mapSeq fun xs => xs.eraseIdxIfInBounds ((items.push y).size - 1)) hl (by rfl)
  rw [this]
  simp [Obj.mapSeq, Array.eraseIdxIfInBounds]
  apply Array.ext'
  simp [List.eraseIdx_append_of_length_le]
theorem o_join {I : Inv w} {sep : Str} {t : Tok} {D : Addr} {l : List (Str × Tok)} {Q : Value → Shared → Prop} (H : I.p s) (hl : s.heap.IsList D (strValues l).toArray) (hok : JoinOk sep (l.map (·.1)) = true) (h : ∀ t s, I.p s → Q (.str (Txt.join sep (l.map (·.1))) t) s) :
    wpAny (model prog w) A (call (.builtin "str.join") ([.str sep t] ++ [.ref D])) Q E s := SC.join hl rfl hok fun t' k => h t' _ (I.tok H)
-- an empty dict's items
theorem m_items {d : Addr} {es : List DictEntry} {n : Nat} {pl : Sem Bool} {Q : Value × List Value → Shared → Prop} (hl : s.heap.get? d = some (dictOf es n)) (h : Q (.builtin "dict.items", [.ref d]) s) :
    wpAny M A (getMethod (.ref d) "items" pl) Q E s :=
  getMethod_builtin ⟨_, hl, rfl⟩ PySem.F.plainAttrs_dict PySem.F.slot_dict_items PySem.F.type_dict_items (fun a e => by cases e; exact ⟨_, hl, rfl⟩) h
theorem emptyAt {d : Addr} {h : Heap} (hl : h.get? d = some (dictOf [] 0)) : h.DictAt (strKind prog w) d [] 0 :=
  ⟨_, _, hl, ⟨rfl, rfl, rfl⟩, rfl, fun e he => by simp at he, .nil, .nil⟩
@[reducible] def itv (d : Addr) : Obj := { cls := .type "dict_items", dict := none, data := .fields #[.ref d], slots := #[] }
theorem o_items {d : Addr} {Q : Value → Shared → Prop} (H : (StI Γ m σ).p s) (hm : (d, dictOf [] 0) ∈ σ) (hd : d ≠ 1) (k : ∀ v s, (StI Γ m ((v, itv d) :: σ)).p s → Q (.ref v) s) :
    wpAny (model prog w) A (call (.builtin "dict.items") ([.ref d] ++ [])) Q E s := by
  have hl := St.led H _ hm
  exact call_meetsIn PySem.F.slot_dict_items ⟨_, hl, rfl⟩ PySem.F.entry_dict_items (PySem.F.args_dict_items_1 _) (meets_dict_items (strKind prog w) d (by simp [sysModules]; exact hd)) ⟨⟨_, (emptyAt hl).dictOf⟩, k _ _ (St.new (t := s.toks) H rfl)⟩
theorem it_noitems {v d : Addr} {target : Expr} {body : List Stmt} {R : Result → Shared → Prop} (hh : A.handled = none) (H : (StI Γ m σ).p s) (hv : (v, itv d) ∈ σ) (hm : (d, dictOf [] 0) ∈ σ) (done : ∀ s, (StI Γ m σ).p s → R (.ok .next) s) :
    wpAny (model prog Γ.w) A (pyIter (.ref v)) (fun it s₂ => codeAny (model prog Γ.w) A (.forLoop target it body [] Γ.env) R s₂) E s := by
  refine wpAny_pyIter_items ⟨_, St.led H _ hv, rfl, rfl⟩ (emptyAt (prog := prog) (w := Γ.w) (St.led H _ hm)) ?_
  have H1 := St.new (t := s.toks) (o := { cls := .type "dict_itemiterator", data := .fields #[.none, .bool false, .ref d, .int 0 0, .int 0 0, .int 0 0, .none, .none] }) H rfl
  refine codeAny_forLoop_any (fun k s' => (StI Γ m ((s.heap.objs.size, { cls := .type "dict_itemiterator", data := .fields #[.none, .bool false, .ref d, .int 0 0, .int 0 0, .int 0 0, .none, .none] }) :: σ)).p s') ?_ 1 H1
  rintro k s' H'
  exact wpAny_pyNext_items_end hh (St.led H' _ (.head _)) (emptyAt (prog := prog) (w := Γ.w) (St.led H' _ (.tail _ hm))) rfl fun h₁ he₁ => wpAny_execs_nil (done _ (St.but H' he₁))
-- a heap with one object put aside
theorem hideIn {h : Heap} {l : Addr} : (h.hide l).StaysIn h := fun _ _ e => Heap.of_hide e
theorem toHide {g h : Heap} {l : Addr} (k : g.StaysIn h) (hl : g.get? l = none) : g.StaysIn (h.hide l) := fun b o e => by
  have : b ≠ l := fun q => by rw [q, hl] at e; cases e
  rw [Heap.hide_ne _ this]; exact k _ _ e
end

section
variable {w : World} {prog : Program} {A : Around} {M : Model} {E : Value → Shared → Prop} {s : Shared} {env : Env} {Γ : Fd} {m : Str → Option Value} {σ : List (Addr × Obj)}
theorem c_kw1 {pos kp : Pos} {f : Addr} {first : List Value} {Q : Value → Shared → Prop} {e value : Expr} {rest : List Expr} {nm : Str} (W : Wd w s.heap) (hk : keepIn (KK w) (.ref f) = true)
    (h : wpAny (model PP w) A (spliced (backTo pos (starEach (e :: rest) env))) (fun vs s₁ => wpAny (model PP w) A (eval value env)
      (fun kv s₂ => Wd w s₂.heap ∧ wpAny (model PP w) A (call (.ref f) (first ++ vs) [(nm, kv)]) Q E s₂) E s₁) E s)
    (hn : ((e :: rest).all fun | .Starred _ _ => false | _ => true) = true := by rfl) (he : starEach (e :: rest) env = (false, eval e env) :: starEach rest env := by rfl) :
    wpAny (model PP w) A (callWith pos (.ref f) first (backTo pos (starEach (e :: rest) env)) (backToKw pos (keywordEach [⟨some nm, value, kp⟩] env))) Q E s := by
  have hkw : backToKw pos (keywordEach [⟨some nm, value, kp⟩] env) = [(some nm, do let v ← eval value env; standAt pos; pure v)] := rfl
  refine callWith_KW W.k hk (by rw [hkw]; rfl) (wpAny_mono h (fun vs s₁ q => ?_) fun _ _ z => z) (by rw [hkw, starNo _ _ hn]; rfl) he
  rw [hkw]
  exact wpAny_evalAll_cons (wpAny_bind (wpAny_mono q (fun kv s₂ q => wpAny_bind (wpAny_standAt (wpAny_pure (wpAny_evalAll_nil ⟨q.1.k, q.2⟩)))) fun _ _ z => z))
theorem o_refkw {w : World} {A : Around} {I : Inv w} {s : Shared} {f : Addr} {args : List Value} {kw : List (Str × Value)} {E : Value → Shared → Prop} {Q Φ : Value → Shared → Prop} (H : I.p s) (spec : ∀ R, Rets s R Φ → codeAny (model PP w) A (.call (.ref f) ⟨args, kw⟩) R s)
    (h : ∀ v s', I.p s' → Φ v s' → Q v s') : wpAny (model PP w) A (call (.ref f) args kw) Q E s :=
  wpAny_call (spec _ fun v s' e k q => h v s' (I.on H e k) q)
/-- self._convert_string_type(..., name=...) on a str of no control sign -/
theorem o_conv {x : Addr} {v : Str} {t : Tok} {b : Bool} {Q : Value → Shared → Prop} {I : Inv w} (H : I.p s) (hA : AOk 1 A) (hv : Clean v) (k : ∀ s, I.p s → Q (.str v t) s) :
    Wd w s.heap ∧ wpAny (model PP w) A (call (.ref 114) ([.ref x] ++ [.str v t]) [("name", .bool b)]) Q E s :=
  ⟨I.wd H, o_refkw H (fun R k => spec_conv (I.wd H) hA hv k) fun v s H e => e ▸ k _ H⟩
end
local macro_rules | `(tactic| walk_at "g7") => `(tactic| first
  | walk_at "g6"
  | (with_reducible first | refine tq_ret ?_ | refine lr_ret ?_)
  | ((with_reducible refine' methodCall_KW ?_ ?a); (case a => rfl))
  | ((with_reducible rename Inv.p _ _ => H); ((with_reducible refine' c_kw1 (Inv.wd _ H) ?a ?_ ?b ?c); (case a | b | c => rfl))))

theorem spec_add {w : World} {A : Around} {s : Shared} {R : Result → Shared → Prop} {g : Heap} {x l : Addr} {items : Array Value} {c : Nat} {name val : Str} {t u : Tok} (W : Wd w g) (hg : g.StaysIn s.heap) (hA : AOk 2 A) (hx : HObj w s.heap x l) (hl : s.heap.get? l = some (lst items c)) (hgl : g.get? l = none)
  (hn : Clean name) (hv : Clean val) (hv' : val.length ≤ 1000) (hz : items.size ≤ 1000)
  (k : ∀ s' tp c' t1 t2, s' = { s with heap := s'.heap, toks := s'.toks } → (∀ b o, b ≠ l → s.heap.get? b = some o → s'.heap.get? b = some o) → s'.heap.get? l = some (lst (items.push (.ref tp)) c') → s'.heap.get? tp = some (tup #[.str name t1, .str val t2]) → s.heap.get? tp = none →
    R (.ok (.ret .none)) s') :
  codeAny (model PP w) A (.call (.ref 210) ⟨[.ref x, .str name t, .str val u], []⟩) R s := by
  have hA1 : ∀ env, AOk 1 (A.deeper env) := fun env => AOk.deep hA
  obtain ⟨dx, tk, hx1, hx2⟩ := hx.ex
  have n1 : x ≠ l := fun e => by
    rw [e, hl] at hx1
    have := congrArg Obj.cls (Option.some.inj hx1)
    cases this
  have n2 : dx ≠ l := fun e => by
    rw [e, hl] at hx2
    have := congrArg Obj.data (Option.some.inj hx2)
    cases this
  have hx' : HObj w (s.heap.hide l) x l := ⟨dx, tk, by rw [Heap.hide_ne _ n1]; exact hx1, by rw [Heap.hide_ne _ n2]; exact hx2⟩
  obtain ⟨s1, hs1⟩ : ∃ s1 : Shared, s1 = { s with heap := s.heap.push (dictOf [] 0) } := ⟨_, rfl⟩
  refine enterB (s := s1) (g := s.heap.hide l) (σ := [(s.heap.objs.size, dictOf [] 0), (l, lst items c)]) (binds := [("self", .ref x), ("_name", .str name t), ("_value", .str val u), ("_params", .ref s.heap.objs.size)])
    (W.keeps (toHide hg hgl)) hideIn (by rw [hs1]; exact sTrans hideIn (sPush _ _)) ?_ ?_ ?_ hA.room (by rfl) (by rfl) (by rfl) ?_ (fun s H => ?_)
  · rw [hs1, Heap.hide_size, Heap.size_push]; exact Nat.le_succ _
  · rw [hs1]
    intro p hp
    rcases List.mem_cons.mp hp with rfl | hp
    · refine ⟨Heap.get?_push_size _ rfl, ?_⟩
      cases e : (s.heap.hide l).get? s.heap.objs.size with
      | none => rfl
      | some o => have := Heap.of_hide e; rw [size_none] at this; cases this
    · rcases List.mem_cons.mp hp with rfl | hp
      · exact ⟨Heap.get?_push_of_some _ hl, Heap.hide_self _ _⟩
      · cases hp
  · have : s.heap.objs.size ≠ l := fun e => by rw [← e, size_none] at hl; cases hl
    simp [this]
  · intro M A E Q hq
    show wpAny M A (alloc { cls := .type "dict", data := .dict #[] } >>= fun d => pure [(("self" : Str), Value.ref x), ("_name", Value.str name t), ("_value", Value.str val u), ("_params", Value.ref d)]) Q E s
    exact wpAny_bind (wpAny_alloc (wpAny_pure (hs1 ▸ hq)))
  repeat walk_at "g7"
  refine ⟨fun _ => ?_, fun h => (nomatch h)⟩
  repeat walk_at "g7"
  rename Inv.p _ _ => H
  refine o_hmeth (Inv.wd _ H) (hx'.keeps (St.keep H)) cM_conv cT_conv (fun tk => by rfl) ?_
  repeat walk_at "g7"
  refine o_conv (by assumption) (hA1 _) hv (fun s H => ?_)
  repeat walk_at "g7"
  rename Inv.p _ _ => H
  refine m_append (St.led H _ (.head _)) ?_
  repeat walk_at "g7"
  refine o_appendS (pre := []) (by assumption) (by decide) (fun s H => ?_)
  refine ⟨fun a h => (nomatch h), ?_⟩
  repeat walk_at "g7"
  have h213 := Heap.lt_size ((W.keeps hg).k 213 _ (by rfl))
  rename Inv.p _ _ => H
  refine m_items (St.led H _ (.tail _ (.head _))) ?_
  repeat walk_at "g7"
  refine o_items (by assumption) (.tail _ (.head _)) (fun e => absurd h213 (by rw [e]; decide)) (fun v s H => ?_)
  repeat walk_at "g7"
  refine it_noitems (hA1 _).hh H (.head _) (.tail _ (.tail _ (.head _))) (fun s H => lr_next ?_)
  repeat walk_at "g7"
  rename Inv.p _ _ => H
  refine o_headers (Inv.wd _ H) (hx'.keeps (St.keep H)) ?_
  replace H := Inv.tok _ (t := s.toks + 1) H
  refine m_append (St.led H _ (.tail _ (.tail _ (.tail _ (.head _))))) ?_
  repeat walk_at "g7"
  rename Inv.p _ _ => H
  refine o_hmeth (Inv.wd _ H) (hx'.keeps (St.keep H)) cM_conv cT_conv (fun tk => by rfl) ?_
  repeat walk_at "g7"
  refine o_conv (by assumption) (hA1 _) hn (fun s H => ?_)
  repeat walk_at "g7"
  rename Inv.p _ _ => H
  refine o_join (l := [(val, u)]) H (St.isList H (.tail _ (.head _)) LObj.lst) ?_ (fun t' s H => ?_)
  · exact joinOk_of_weight (by simp [Str.length] at hv' ⊢; omega) (by decide)
  repeat walk_at "g7"
  refine o_appendS (pre := [_, _, _, _]) (post := []) (by assumption) (Nat.le_trans hz (by decide)) (fun s H => ?_)
  refine ⟨fun a h => (nomatch h), ?_⟩
  repeat walk_at "g7"
  have ej : Txt.join ("; " : Str) (List.map (fun x : Str × Tok => x.1) [(val, u)]) = val := by
    unfold Txt.join
    rw [StrLaws.glued_eq_join]; rfl
  rw [ej] at H
  refine k _ _ _ t t' (by have := St.same H; rw [hs1] at this; exact this) (fun b o hb e => St.keep H b o (by rw [Heap.hide_ne _ hb]; exact e)) (St.led H _ (.tail _ (.tail _ (.tail _ (.tail _ (.head _)))))) (St.led H _ (.head _)) ?_
  have hB := St.ledB H _ (.head _)
  have hne := St.ne H (.head _) (.tail _ (.tail _ (.tail _ (.tail _ (.head _))))) (by simp)
  rw [Heap.hide_ne _ hne] at hB
  exact hB

def HL (h : Heap) (items : Array Value) (kvs : List (Str × Str)) : Prop := items.size = kvs.length ∧ ∀ (i : Nat) (kv : Str × Str), kvs[i]? = some kv → ∃ (tp : Addr) (tk tv : Tok), items[i]? = some (.ref tp) ∧ h.get? tp = some (tup #[.str kv.1 tk, .str kv.2 tv])
theorem HL.keeps {h h' : Heap} {items : Array Value} {kvs : List (Str × Str)} (H : HL h items kvs) (k : h.StaysIn h') : HL h' items kvs := ⟨H.1, fun i kv e => let ⟨tp, tk, tv, a, b⟩ := H.2 i kv e; ⟨tp, tk, tv, a, k _ _ b⟩⟩
theorem HL.nil {h : Heap} : HL h #[] [] := ⟨rfl, fun i kv e => by simp at e⟩
theorem HL.push {h h' : Heap} {items : Array Value} {kvs : List (Str × Str)} {tp : Addr} {k v : Str} {tk tv : Tok} (H : HL h items kvs) (kp : ∀ (i : Nat) (tp : Addr), items[i]? = some (.ref tp) → ∀ o, h.get? tp = some o → h'.get? tp = some o) (ht : h'.get? tp = some (tup #[.str k tk, .str v tv])) : HL h' (items.push (.ref tp)) (kvs ++ [(k, v)]) := by
  refine ⟨by simp [H.1], fun i kv e => ?_⟩
  by_cases q : i < kvs.length
  · rw [List.getElem?_append_left q] at e
    obtain ⟨tp', tk', tv', a, b⟩ := H.2 i kv e
    exact ⟨tp', tk', tv', by rw [Array.getElem?_push_lt (by rw [H.1]; exact q)]; rw [Array.getElem?_eq_getElem (by rw [H.1]; exact q)] at a; exact a, kp i tp' a _ b⟩
  · rw [List.getElem?_append_right (Nat.le_of_not_lt q)] at e
    have hi : i = kvs.length := by
      have : i - kvs.length < 1 := by
        by_cases z : i - kvs.length < 1
        · exact z
        · rw [List.getElem?_eq_none (by simp; omega)] at e; cases e
      omega
    subst hi
    simp at e
    subst e
    exact ⟨tp, tk, tv, by rw [← H.1]; simp, ht⟩
section
variable {w : World} {prog : Program} {A : Around} {M : Model} {E : Value → Shared → Prop} {s : Shared} {env : Env} {Γ : Fd} {m : Str → Option Value} {σ : List (Addr × Obj)}
theorem a_pair {x y : Str} {px py tp : Pos} {k : Nat} {t : Addr} {a b : Value} {Q : Unit → Shared → Prop} (hh : A.handled = none) (H : (StI Γ m σ).p s) (ht : s.heap.IsTuple t #[a, b])
    (h : ∀ s, (StI Γ m σ).p s → wpAny (model prog w) A (storeName Γ.env x a) (fun _ s₁ => wpAny (model prog w) A (storeName Γ.env y b) Q E s₁) E s) :
    wpAny (model prog w) A (assign (.Tuple [.Name x px, .Name y py] k tp) Γ.env (.ref t)) Q E s := by
  refine wpAny_assign_Tuple hh ht rfl rfl fun h' he => ?_
  have H' := St.ext (t := s.toks) H (h := h') (fun b o e => he b o (Nat.ne_of_lt (Heap.lt_size e)) e)
  refine wpAny_assignInOrder_more (wpAny_assign_Name (wpAny_mono (h _ H') (fun _ s₁ q => wpAny_assignInOrder_more (wpAny_assign_Name (wpAny_mono q (fun _ s₂ q => wpAny_assignInOrder_none q) fun _ _ z => z))) fun _ _ z => z))
/-- a for over a list of pairs -/
theorem it_listT {l : Addr} {items : Array Value} {x y : Str} {px py tpos : Pos} {kk : Nat} {body : List Stmt} {R : Result → Shared → Prop} (J : Nat → (Str → Option Value) → List (Addr × Obj) → Prop) (P : Nat → Value → Value → Prop)
    (hh : A.handled = none) (H : (StI Γ m σ).p s) (h0 : J 0 m σ)
    (hl : ∀ i m σ s, J i m σ → (StI Γ m σ).p s → s.heap.IsList l items)
    (hp : ∀ i v m σ s, items[i]? = some v → J i m σ → (StI Γ m σ).p s → ∃ t a b, v = .ref t ∧ s.heap.IsTuple t #[a, b] ∧ P i a b)
    (st : ∀ (m : Str → Option Value) (σ : List (Addr × Obj)) (s : Shared) (a b : Value) (Q : Unit → Shared → Prop) (E : Value → Shared → Prop), (StI Γ m σ).p s → (∀ s', (StI Γ (up (up m x a) y b) σ).p s' → Q () s') →
      wpAny (model prog Γ.w) A (storeName Γ.env x a) (fun _ s₁ => wpAny (model prog Γ.w) A (storeName Γ.env y b) Q E s₁) E s)
    (turn : ∀ i a b m σ I io s, i < items.size → P i a b → J i m σ → (StI Γ (up (up m x a) y b) ((I, io) :: σ)).p s →
      wpAny (model prog Γ.w) A (execs body Γ.env) (TurnQ R fun s' => ∃ m' σ', (StI Γ m' ((I, io) :: σ')).p s' ∧ J (i + 1) m' σ') (fun _ _ => False) s)
    (done : ∀ m σ s, J items.size m σ → (StI Γ m σ).p s → R (.ok .next) s) :
    wpAny (model prog Γ.w) A (pyIter (.ref l)) (fun it s₂ => codeAny (model prog Γ.w) A (.forLoop (.Tuple [.Name x px, .Name y py] kk tpos) it body [] Γ.env) R s₂) E s := by
  have hls := hl 0 m σ s h0 H
  refine wpAny_pyIter_list hls ?_
  have H1 := St.new (t := s.toks) (o := { cls := .type "list_iterator", data := .fields #[.ref l, .int 0 0] }) H rfl
  refine codeAny_forLoop_any (fun k s' => ∃ i m' σ' io, k = items.size + 1 - i ∧ i ≤ items.size ∧ (StI Γ m' ((s.heap.objs.size, io) :: σ')).p s' ∧ J i m' σ' ∧ s'.heap.IsListIter s.heap.objs.size l i) ?_ (items.size + 1)
    ⟨0, m, σ, _, rfl, Nat.zero_le _, H1, h0, ⟨_, H1.led _ (.head _), rfl, rfl⟩⟩
  rintro k s' ⟨i, m', σ', io, rfl, hi, H', hJ, hit⟩
  have hl' := hl i m' σ' s' hJ (St.tl H')
  cases hv : items[i]? with
  | none =>
    have hsz : i = items.size := Nat.le_antisymm hi (by simpa using hv)
    subst hsz
    exact wpAny_pyNext_list_end hh hit hl' hv fun h₁ he₁ => wpAny_execs_nil (done m' σ' _ hJ (St.but H' he₁))
  | some v =>
    have hlt : i < items.size := (Array.getElem?_eq_some_iff.mp hv).1
    obtain ⟨t, a, b, rfl, ht, hP⟩ := hp i v m' σ' s' hv hJ (St.tl H')
    have hT : t ≠ s.heap.objs.size := fun e => by
      obtain ⟨o, e1, e2, _⟩ := ht
      obtain ⟨o', e3, e4, _⟩ := hit
      rw [e, e3] at e1
      have := Option.some.inj e1
      subst this
      rw [e4] at e2; simp at e2
    refine wpAny_pyNext_list_item hit hl' hv fun h₁ hit₁ hs₁ => wpAny_letOwnedTupleGo_listiter hit₁ ?_
    obtain ⟨io', hio, _⟩ := id hit₁
    have H2 := St.put (pre := []) (t := s'.toks) H' (fun b x hb e => (hs₁.2 b hb).trans e) hio
    have ht2 : h₁.IsTuple t #[a, b] := let ⟨o, e1, e2⟩ := ht; ⟨o, (hs₁.2 t hT).trans e1, e2⟩
    refine a_pair hh H2 ht2 fun s₃ H3' => st _ _ _ a b _ _ H3' fun s₂ H3 => ?_
    have hit2 : s₂.heap.IsListIter s.heap.objs.size l (i + 1) := by
      obtain ⟨o, e1, e2, e3⟩ := hit₁
      have : o = io' := Option.some.inj (e1.symm.trans hio)
      subst this
      exact ⟨o, St.led H3 _ (.head _), e2, e3⟩
    refine wpAny_mono (turn i a b m' σ' _ io' s₂ hlt hP hJ H3) (fun f s₃ q => ?_) fun _ _ z => z.elim
    have fin : (∃ m'' σ'', (StI Γ m'' ((s.heap.objs.size, io') :: σ'')).p s₃ ∧ J (i + 1) m'' σ'') → ∃ k', k' < items.size + 1 - i ∧ ∃ i m' σ' io, k' = items.size + 1 - i ∧ i ≤ items.size ∧ (StI Γ m' ((s.heap.objs.size, io) :: σ')).p s₃ ∧ J i m' σ' ∧ s₃.heap.IsListIter s.heap.objs.size l i := by
      rintro ⟨m'', σ'', H4, hJ'⟩
      refine ⟨items.size + 1 - (i + 1), by omega, i + 1, m'', σ'', io', rfl, hlt, H4, hJ', ?_⟩
      obtain ⟨o, e1, e2, e3⟩ := hit2
      have h4 : s₂.heap.get? s.heap.objs.size = some io' := St.led H3 _ (.head _)
      have : o = io' := Option.some.inj (e1.symm.trans h4)
      subst this
      exact ⟨o, St.led H4 _ (.head _), e2, e3⟩
    cases f with
    | next => exact fin q
    | cont => exact fin q
    | brk => exact q
    | ret v => exact q
end

def lowOk (x : Str) : Prop := Builtin.Str.tooLong (Txt.lower x).length = false
theorem o_hd {w : World} {prog : Program} {A : Around} {E : Value → Shared → Prop} {s : Shared} {I : Inv w} {x l : Addr} {e : Bool} {Q : Value → Shared → Prop} (H : I.p s) (hx : HObj w s.heap x l) (h : ∀ s, I.p s → Q (.ref l) s) : wpAny (model prog w) A (getAttr (.ref x) "_headers" e) Q E s :=
  o_headers (I.wd H) hx (h _ (I.tok H))
theorem find_at {α : Type} {p : α → Bool} : ∀ (l : List α) (i : Nat) (a : α), (∀ j, j < i → ∀ b, l[j]? = some b → p b = false) → l[i]? = some a → p a = true → l.find? p = some a
  | [], i, a, _, h, _ => by simp at h
  | x :: r, 0, a, _, h, ha => by
    simp at h; subst h
    simp [ha]
  | x :: r, i + 1, a, hb, h, ha => by
    have hx : p x = false := hb 0 (by omega) x (by simp)
    rw [List.find?_cons, hx]
    exact find_at r i a (fun j hj b e => hb (j + 1) (by omega) b (by simpa using e)) (by simpa using h) ha
theorem spec_get {w : World} {A : Around} {s : Shared} {R : Result → Shared → Prop} {x l : Addr} {items : Array Value} {kvs : List (Str × Str)} {name : Str} {t : Tok} {kv : Str × Str} (W : Wd w s.heap) (hA : AOk 2 A) (hx : HObj w s.heap x l) (hl : s.heap.IsList l items) (hk : HL s.heap items kvs)
  (hlo : ∀ kv ∈ kvs, lowOk kv.1) (hn : Clean (Txt.lower name)) (hnl : lowOk name) (hf : kvs.find? (fun kv => Txt.lower kv.1 == Txt.lower name) = some kv)
  (k : Rets s R fun v _ => ∃ t, v = .str kv.2 t) :
  codeAny (model PP w) A (.call (.ref 160) ⟨[.ref x, .str name t], []⟩) R s := by
  have hA1 : ∀ env, AOk 1 (A.deeper env) := fun env => AOk.deep hA
  refine enterK (binds := [("self", .ref x), ("name", .str name t), ("default", .none)]) W hA.room (by rfl) (by rfl) (by rfl) (binds_K W.k (by rfl) (by rfl) rfl rfl rfl) (fun s H => ?_)
  repeat walk_at "g7"
  rename Inv.p _ _ => H
  refine o_hmeth (Inv.wd _ H) (hx.keeps (St.keep H)) cM_conv cT_conv (fun tk => by rfl) ?_
  repeat walk_at "g7"
  refine o_lower (by assumption) hnl (fun t s H => ?_)
  repeat walk_at "g7"
  refine o_conv (by assumption) (hA1 _) hn (fun s H => ?_)
  repeat walk_at "g7"
  rename Inv.p _ _ => H
  refine o_hd H (hx.keeps (St.keep H)) (fun s H => ?_)
  refine it_listT (fun i m σ => (∃ t, m "name" = some (.str (Txt.lower name) t)) ∧ ∀ j, j < i → ∀ kv', kvs[j]? = some kv' → (Txt.lower kv'.1 == Txt.lower name) = false)
    (fun i a b => ∃ kv' ta tb, kvs[i]? = some kv' ∧ a = .str kv'.1 ta ∧ b = .str kv'.2 tb) (hA1 _).hh H ⟨⟨_, by walk_at "lk"⟩, fun j hj => absurd hj (Nat.not_lt_zero _)⟩ (fun i m σ s _ H => keepL hl (St.keep H)) ?_ ?_ ?_ ?_
  · intro i v m σ s hv _ H
    have hi : i < kvs.length := by rw [← hk.1]; exact (Array.getElem?_eq_some_iff.mp hv).1
    obtain ⟨tp, tk, tv, e1, e2⟩ := (hk.keeps (St.keep H)).2 i _ (List.getElem?_eq_getElem hi)
    exact ⟨tp, _, _, Option.some.inj (hv.symm.trans e1), ⟨_, e2, rfl, _, rfl⟩, _, _, _, List.getElem?_eq_getElem hi, rfl, rfl⟩
  · intro m σ s a b Q E H hq
    exact s_loc H fun s₁ H₁ => s_loc H₁ hq
  · rintro i a b m σ I io s hi ⟨kv', ta, tb, hkv, rfl, rfl⟩ ⟨⟨tn, mn⟩, hb⟩ H
    repeat walk_at "g7"
    refine o_lower (by assumption) (hlo _ (List.mem_of_getElem? hkv)) (fun t s H => ?_)
    repeat walk_at "g7"
    refine ⟨fun hc => ?_, fun hc => ?_⟩
    · repeat walk_at "g7"
      have := find_at (p := fun kv => Txt.lower kv.1 == Txt.lower name) kvs i kv' hb hkv hc
      rw [hf] at this
      have e := Option.some.inj this
      subst e
      exact St.back k (by assumption) ⟨_, rfl⟩
    · repeat walk_at "g7"
      refine tq_next ⟨_, _, by assumption, ⟨_, by walk_at "lk"⟩, fun j hj b hb' => ?_⟩
      rcases Nat.lt_or_eq_of_le (Nat.lt_succ_iff.mp hj) with q | q
      · exact hb j q b hb'
      · subst q
        rw [hkv] at hb'
        cases hb'
        exact hc
  · rintro m σ s ⟨_, hb⟩ H
    exfalso
    obtain ⟨j, hj⟩ := List.mem_iff_getElem?.mp (List.mem_of_find?_eq_some hf)
    have hj' : j < items.size := by rw [hk.1]; exact (List.getElem?_eq_some_iff.mp hj).1
    have := hb j hj' kv hj
    have h2 := List.find?_some hf
    rw [this] at h2
    cases h2

/-- what is walked over -/
structure Nx (prog : Program) (A : Around) (Γ : Fd) (I : Addr) (n : Nat) (V : Nat → Value → Prop) (It : Nat → Obj → Prop) : Prop where
  item : ∀ i io m σ s (Q : Option Value → Shared → Prop) (E : Value → Shared → Prop), i < n → It i io → (StI Γ m ((I, io) :: σ)).p s → (∀ v io' s', V i v → It (i + 1) io' → (StI Γ m ((I, io') :: σ)).p s' → Q (some v) s') → wpAny (model prog Γ.w) A (pyNext (.ref I)) Q E s
  stop : ∀ io m σ s (Q : Option Value → Shared → Prop) (E : Value → Shared → Prop), It n io → (StI Γ m ((I, io) :: σ)).p s → (∀ s', (StI Γ m σ).p s' → Q none s') → wpAny (model prog Γ.w) A (pyNext (.ref I)) Q E s
  self : ∀ i io m σ s (Q : Value → Shared → Prop) (E : Value → Shared → Prop), It i io → (StI Γ m ((I, io) :: σ)).p s → Q (.ref I) s → wpAny (model prog Γ.w) A (pyIter (.ref I)) Q E s
def ItL (l : Addr) (i : Nat) (io : Obj) : Prop := io.cls = .type "list_iterator" ∧ io.data = .fields #[.ref l, .int i 0]
theorem nx_list {prog : Program} {A : Around} {Γ : Fd} {I l : Addr} {items : Array Value} (hh : A.handled = none) (hl : Γ.s₀.heap.IsList l items) : Nx prog A Γ I items.size (fun i v => items[i]? = some v) (ItL l) where
  item := fun i io m σ s Q E hi it H k => by
    have hl' := keepL hl (St.keep H)
    refine wpAny_pyNext_list_item ⟨io, St.led H _ (.head _), it.1, it.2⟩ hl' (x := items[i]) (by simp [hi]) fun h' hit hs => ?_
    obtain ⟨io', hio, h1, h2⟩ := hit
    exact k _ io' _ (by simp [hi]) ⟨h1, h2⟩ (St.put (pre := []) (t := s.toks) H (fun b x hb e => (hs.2 b hb).trans e) hio)
  stop := fun io m σ s Q E it H k => wpAny_pyNext_list_end hh ⟨io, St.led H _ (.head _), it.1, it.2⟩ (keepL hl (St.keep H)) (by simp) fun h' he => k _ (St.but H he)
  self := fun i io m σ s Q E it H k => wpAny_pyIter_listiter ⟨io, St.led H _ (.head _), it.1, it.2⟩ k
def ItR (a c : Int) (n i : Nat) (io : Obj) : Prop := io = { cls := .type "range_iterator", dict := none, data := .fields #[rawInt (a + (i : Nat) * c), rawInt ((n : Int) - (i : Nat)), rawInt c], slots := #[] }
theorem nx_range {prog : Program} {A : Around} {Γ : Fd} {I : Addr} {a c : Int} {n : Nat} (hh : A.handled = none) : Nx prog A Γ I n (fun i v => ∃ t, v = .int (a + i * c) t) (ItR a c n) where
  item := fun i io m σ s Q E hi it H k => by
    have hit : IsRangeIter s.heap I (a + i * c) ((n : Int) - i) c := by rw [it] at H; exact St.led H _ (.head _)
    refine wpAny_pyNext_range_item hit (by omega) fun h' hit' hs => ?_
    have e1 : a + (i : Int) * c + c = a + ((i + 1 : Nat) : Int) * c := by push_cast; rw [Int.add_mul]; omega
    have e2 : (n : Int) - i - 1 = (n : Int) - ((i + 1 : Nat) : Int) := by push_cast; omega
    rw [e1, e2] at hit'
    exact k _ _ _ ⟨_, rfl⟩ rfl (St.put (pre := []) (t := s.toks + 1) H (fun b x hb e => (hs.2 b hb).trans e) hit')
  stop := fun io m σ s Q E it H k => by
    have hit : IsRangeIter s.heap I (a + n * c) ((n : Int) - n) c := by rw [it] at H; exact St.led H _ (.head _)
    exact wpAny_pyNext_range_end hh hit (by omega) fun h' he => k _ (St.but H he)
  self := fun i io m σ s Q E it H k => by
    have hit : IsRangeIter s.heap I (a + i * c) ((n : Int) - i) c := by rw [it] at H; exact St.led H _ (.head _)
    exact wpAny_pyIter_rangeiter hit k

/-- the names that a comprehension takes from around it -/
def clOf (sc : Scope) (cs : List (Str × Addr)) : List (Str × Addr) := (sc.names.filter (·.2 == .free)).foldl (fun acc p => (p.1, (cs.lookup p.1).getD 0) :: acc) []
theorem clFold {cs : List (Str × Addr)} {x : Str} {c : Addr} : ∀ (l : List (Str × NameKind)) (acc : List (Str × Addr)), (l.foldl (fun acc p => (p.1, (cs.lookup p.1).getD 0) :: acc) acc).lookup x = some c → (∃ p ∈ l, p.1 = x ∧ c = (cs.lookup x).getD 0) ∨ acc.lookup x = some c
  | [], acc, h => .inr h
  | p :: r, acc, h => by
    rw [List.foldl_cons] at h
    rcases clFold r _ h with ⟨q, hq, e⟩ | h'
    · exact .inl ⟨q, .tail _ hq, e⟩
    · rw [List.lookup_cons] at h'
      split at h'
      · rename_i e
        rw [beq_iff_eq] at e
        subst e
        cases h'
        exact .inl ⟨p, .head _, rfl, rfl⟩
      · exact .inr h'
theorem clOf_mem {sc : Scope} {cs : List (Str × Addr)} {x : Str} {c : Addr} (h : (clOf sc cs).lookup x = some c) : (x, NameKind.free) ∈ sc.names ∧ c = (cs.lookup x).getD 0 := by
  rcases clFold _ _ h with ⟨p, hp, e, hc⟩ | h'
  · obtain ⟨h1, h2⟩ := List.mem_filter.mp hp
    subst e
    exact ⟨by rw [← beq_iff_eq.mp h2]; exact h1, hc⟩
  · cases h'
def mc (sc : Scope) (m : Str → Option Value) : Str → Option Value := fun x => if sc.names.lookup x == some .free then m x else none
theorem mc_free {sc : Scope} {m : Str → Option Value} {x : Str} (h : (sc.names.lookup x == some .free) = true) : mc sc m x = m x := if_pos h
@[reducible] def fdC (Γ : Fd) (b : Shared) (sc : Scope) (C : Addr) : Fd := ⟨b, Γ.w, relabel sc Γ.env, Γ.q, C, none, Γ.fr, clOf sc Γ.cs, Γ.cd, fun _ => false⟩
def Tests (ifs : List Expr) (env : Env) : Sem Bool := forIn ifs true fun c r => if r = true then do let ok ← isTrue c env (eval c env); pure (ForInStep.yield ok) else pure (ForInStep.yield r)

section
variable {w : World} {prog : Program} {A : Around} {M : Model} {E : Value → Shared → Prop} {Γ : Fd} {m : Str → Option Value} {σ : List (Addr × Obj)} {b : Shared}
theorem tests_nil {s : Shared} {env : Env} {Q : Bool → Shared → Prop} (h : Q true s) : wpAny (model prog w) A (Tests [] env) Q E s := wpAny_tests_nil h
theorem tests_one {s : Shared} {env : Env} {c : Expr} {Q : Bool → Shared → Prop} (h : wpAny (model prog w) A (isTrue c env (eval c env)) Q E s) : wpAny (model prog w) A (Tests [c] env) Q E s := wpAny_tests_one h

/-- entering the names of a comprehension -/
theorem enterC {sc : Scope} {s : Shared} {σc : List (Addr × Obj)} {Q : Env → Shared → Prop} (H : (StI Γ m σ).p b) (es : s = { b with heap := s.heap, toks := s.toks }) (ks : b.heap.StaysIn s.heap) (hz : b.heap.objs.size ≤ s.heap.objs.size)
    (hσ : ∀ p ∈ σc, s.heap.get? p.1 = some p.2 ∧ b.heap.get? p.1 = none) (hnd : (σc.map (·.1)).Nodup)
    (hcell : (sc.names.all fun y => y.2 != .cell) = true) (hkind : sc.kind = .function)
    (hfree : (sc.names.all fun y => y.2 != .free || ((Γ.cs.lookup y.1).isSome && (relabel sc Γ.env).names.lookup y.1 == some .cell && sc.names.lookup y.1 == some .free)) = true)
    (k : ∀ cenv s', { cenv with scope := relabel sc Γ.env } = (fdC Γ b sc s.heap.objs.size).env → cenv.locals = s.heap.objs.size → (StI (fdC Γ b sc s.heap.objs.size) (mc sc m) σc).p s' → Q cenv s') :
    wpAny M A (newFunctionEnv sc mainGlobals (clOf sc Γ.cs) [] Γ.q none .none (some Γ.env)) Q E s := by
  refine wpAny_newFunctionEnv (fun y hy => by have := List.all_eq_true.mp hcell y hy; simpa using this) (by intro y hy; simp at hy) (fun h' hn hs => k _ _ rfl rfl ?_) hkind
  have H : St Γ m σ b := H
  have kp : s.heap.StaysIn h' := fun a o e => hs.extBut a o (Nat.ne_of_lt (Heap.lt_size e)) (Heap.get?_push_of_some _ e)
  have fr : ∀ x c, (clOf sc Γ.cs).lookup x = some c → Γ.cs.lookup x = some c ∧ (relabel sc Γ.env).names.lookup x = some .cell ∧ (sc.names.lookup x == some .free) = true := fun x c e => by
    obtain ⟨h1, h2⟩ := clOf_mem e
    have := List.all_eq_true.mp hfree _ h1
    simp only [bne_self_eq_false, Bool.false_or, Bool.and_eq_true, beq_iff_eq] at this
    obtain ⟨⟨a1, a2⟩, a3⟩ := this
    obtain ⟨c', hc'⟩ := Option.isSome_iff_exists.mp a1
    refine ⟨by rw [h2, hc']; rfl, a2, by simpa using a3⟩
  refine ⟨?_, H.W, sTrans ks kp, ⟨_, hn, fun x hx => ?_⟩, fun x c hc => ?_, fun x y c hx hy => H.apart x y c (fr x c hx).1 (fr y c hy).1, fun x c hc => ?_, fun x c hc => (fr x c hc).2.1, fun x c _ h => (nomatch h), hz, fun p hp => kp _ _ (hσ p hp).1, fun p hp => ⟨Nat.ne_of_lt (Heap.lt_size (hσ p hp).1), fun x c hc e => ?_⟩, fun p hp => (hσ p hp).2, hnd⟩
  · rw [es]
  · have hne : (sc.names.lookup x == some .free) = false := by
      cases e : (sc.names.lookup x == some .free) with
      | false => rfl
      | true =>
        have e' : sc.names.lookup x = some .free := by simpa using e
        have := List.all_eq_true.mp hfree _ (mem_of_lookup e')
        simp only [bne_self_eq_false, Bool.false_or, Bool.and_eq_true, beq_iff_eq] at this
        have h2 := this.1.2
        rw [h2] at hx
        cases hx
    show none = mc sc m x
    unfold mc
    rw [hne]; rfl
  · rw [mc_free (fr x c hc).2.2]
    exact (H.cel x c (fr x c hc).1).keeps (sTrans ks kp)
  · obtain ⟨o, e1, _⟩ := H.cel x c (fr x c hc).1
    exact Nat.ne_of_lt (Heap.lt_size (ks _ _ e1))
  · obtain ⟨o, e1, _⟩ := H.cel x c (fr x c hc).1
    have := (hσ p hp).2
    rw [e, e1] at this; cases this
end

abbrev Led := List (Addr × Obj)
/-- what a comprehension has laid up -/
def Laid (Φ : Led → Nat → Option Value → Prop) (ν : Led) (n : Nat) (ys : Array Value) : Prop := ∃ os : List (Option Value), os.length = n ∧ (∀ i o, os[i]? = some o → Φ ν i o) ∧ ys.toList = os.filterMap id
def Mono (Φ : Led → Nat → Option Value → Prop) : Prop := ∀ ν ν' i o, (∀ p ∈ ν, p ∈ ν') → Φ ν i o → Φ ν' i o
theorem Laid.nil {Φ : Led → Nat → Option Value → Prop} {ν : Led} : Laid Φ ν 0 #[] := ⟨[], rfl, fun i o e => by simp at e, rfl⟩
theorem Laid.mono {Φ : Led → Nat → Option Value → Prop} (mono : Mono Φ) {ν ν' : Led} {n : Nat} {ys : Array Value} (L : Laid Φ ν n ys) (k : ∀ p ∈ ν, p ∈ ν') : Laid Φ ν' n ys :=
  let ⟨os, a, b, c⟩ := L; ⟨os, a, fun i o e => mono _ _ _ _ k (b i o e), c⟩
theorem Laid.snoc {Φ : Led → Nat → Option Value → Prop} {ν : Led} {n : Nat} {ys : Array Value} (L : Laid Φ ν n ys) {o : Option Value} (ho : Φ ν n o) : Laid Φ ν (n + 1) (match o with | some y => ys.push y | none => ys) := by
  obtain ⟨os, a, b, c⟩ := L
  refine ⟨os ++ [o], by simp [a], fun i o' e => ?_, ?_⟩
  · by_cases q : i < os.length
    · rw [List.getElem?_append_left q] at e
      exact b i o' e
    · rw [List.getElem?_append_right (Nat.le_of_not_lt q)] at e
      have hi : i = n := by
        have : i - os.length < 1 := by
          by_cases z : i - os.length < 1
          · exact z
          · rw [List.getElem?_eq_none (by simp; omega)] at e; cases e
        omega
      subst hi
      simp [a] at e
      subst e
      exact ho
  · cases o <;> simp [c]
section
variable {w : World} {prog : Program} {A : Around} {M : Model} {E : Value → Shared → Prop} {Γ : Fd} {m : Str → Option Value} {σ : List (Addr × Obj)} {b : Shared}
theorem St.adds {h : Heap} {t : Nat} (H : (StI Γ m σ).p b) (k : b.heap.StaysIn h) : ∀ ν : Led, (∀ p ∈ ν, h.get? p.1 = some p.2 ∧ b.heap.get? p.1 = none) → (ν.map (·.1)).Nodup → (StI Γ m (ν ++ σ)).p { b with heap := h, toks := t }
  | [], _, _ => St.ext H k
  | p :: r, hp, nd => by
    rw [List.map_cons, List.nodup_cons] at nd
    have ih := St.adds (t := t) H k r (fun q hq => hp q (.tail _ hq)) nd.2
    have hb := (hp p (.head _)).2
    have H : St Γ m σ b := H
    have ih' : St Γ m (r ++ σ) { b with heap := h, toks := t } := ih
    refine { ih' with led := fun q hq => ?_, ledL := fun q hq => ?_, ledB := fun q hq => ?_, nd := ?_ }
    · rcases List.mem_cons.mp hq with rfl | hq
      · exact (hp _ (.head _)).1
      · exact ih'.led q hq
    · rcases List.mem_cons.mp hq with rfl | hq
      · refine ⟨fun e => ?_, fun x c hc e => ?_⟩
        · obtain ⟨ml, ⟨o', _, _, h1, _⟩, _⟩ := H.loc
          rw [e, h1] at hb; cases hb
        · obtain ⟨o', h1, _⟩ := H.cel x c hc
          rw [e, h1] at hb; cases hb
      · exact ih'.ledL q hq
    · rcases List.mem_cons.mp hq with rfl | hq
      · cases e : Γ.s₀.heap.get? q.1 with
        | none => rfl
        | some o' => have := H.keep _ o' e; rw [hb] at this; cases this
      · exact ih'.ledB q hq
    · rw [List.cons_append, List.map_cons, List.nodup_cons]
      refine ⟨fun hm => ?_, ih'.nd⟩
      rw [List.map_append, List.mem_append] at hm
      rcases hm with hm | hm
      · exact nd.1 hm
      · obtain ⟨q, hq, e⟩ := List.mem_map.mp hm
        have := H.led q hq
        rw [e, hb] at this; cases this

theorem comp_loop {I : Addr} {n : Nat} {V : Nat → Value → Prop} {It : Nat → Obj → Prop} {io₀ : Obj} {s₂ : Shared} {elt iter : Expr} {x : Str} {px pos : Pos} {ifs : List Expr} {sc : Scope} {RR : Value → Addr → Result → Shared → Prop}
    (H : (StI Γ m σ).p b) (es : s₂ = { b with heap := s₂.heap, toks := s₂.toks }) (ks : b.heap.StaysIn s₂.heap) (hz : b.heap.objs.size ≤ s₂.heap.objs.size) (hI : s₂.heap.get? I = some io₀) (hIb : b.heap.get? I = none) (hI0 : It 0 io₀)
    (N : ∀ C, Nx prog A (fdC Γ b sc C) I n V It) (hn : n ≤ 1000)
    (hcell : (sc.names.all fun y => y.2 != .cell) = true) (hkind : sc.kind = .function) (hx : (relabel sc Γ.env).names.lookup x = some .local)
    (hfree : (sc.names.all fun y => y.2 != .free || ((Γ.cs.lookup y.1).isSome && (relabel sc Γ.env).names.lookup y.1 == some .cell && sc.names.lookup y.1 == some .free)) = true)
    (hxf : (sc.names.lookup x == some .free) = false)
    (Φ : Led → Nat → Option Value → Prop) (mono : Mono Φ)
    (turn : ∀ C i v mm σc s, i < n → V i v → (∀ y, (sc.names.lookup y == some .free) = true → mm y = m y) → (StI (fdC Γ b sc C) (up mm x v) σc).p s → wpAny (model prog Γ.w) A (Tests ifs (fdC Γ b sc C).env) (fun ok s₄ =>
      (ok = true → wpAny (model prog Γ.w) A (eval elt (fdC Γ b sc C).env) (fun y s₅ => ∃ ν, (StI (fdC Γ b sc C) (up mm x v) (ν ++ σc)).p s₅ ∧ Φ ν i (some y)) (fun _ _ => False) s₄) ∧
      (ok = false → ∃ ν, (StI (fdC Γ b sc C) (up mm x v) (ν ++ σc)).p s₄ ∧ Φ ν i none)) (fun _ _ => False) s)
    (post : ∀ D C oC mC ys c ν s', (StI Γ m ((C, oC) :: (D, lst ys c) :: (ν ++ σ))).p s' → (∀ h : Heap, h.get? C = some oC → h.Ns C mC) → Laid Φ ν n ys → RR (.ref D) C (.ok .next) s') :
    wpAny (model prog Γ.w) A (newList []) (fun acc s₃ => wpAny (model prog Γ.w) A (newFunctionEnv sc mainGlobals (clOf sc Γ.cs) [] Γ.q none .none (some Γ.env)) (fun cenv s₄ =>
      codeAny (model prog Γ.w) A (.compStart (.ListComp elt [⟨.Name x px, iter, ifs, 0⟩] sc pos) 0 (.ref I) acc { cenv with scope := relabel sc Γ.env }) (RR acc cenv.locals) s₄) E s₃) E s₂ := by
  refine wpAny_newList ?_
  have nb : b.heap.get? s₂.heap.objs.size = none := Heap.get?_none_of_le hz
  have hID : I ≠ s₂.heap.objs.size := Nat.ne_of_lt (Heap.lt_size hI)
  refine enterC (s := { s₂ with heap := s₂.heap.push { cls := .type "list", data := .seq [].toArray } }) (σc := [(I, io₀), (s₂.heap.objs.size, lst #[] 0)]) H (by rw [es]) (sTrans ks (sPush _ _)) (by rw [Heap.size_push]; exact Nat.le_succ_of_le hz) ?_ (by simp [hID]) hcell hkind hfree (fun cenv s' he hl H' => ?_)
  · intro p hp
    rcases List.mem_cons.mp hp with rfl | hp
    · exact ⟨Heap.get?_push_of_some _ hI, hIb⟩
    · rcases List.mem_cons.mp hp with rfl | hp
      · exact ⟨Heap.get?_push_size _ rfl, nb⟩
      · cases hp
  rw [he, hl]
  dsimp only at H' ⊢
  rw [Heap.size_push] at H' ⊢
  generalize hCd : s₂.heap.objs.size + 1 = C at H' ⊢
  generalize hDd : s₂.heap.objs.size = D at H' nb hID ⊢
  have nC : b.heap.get? C = none := by rw [← hCd]; exact Heap.get?_none_of_le (Nat.le_succ_of_le hz)
  have loop : codeAny (model prog Γ.w) A (.compLoop (.ListComp elt [⟨.Name x px, iter, ifs, 0⟩] sc pos) 0 (.ref I) (.ref D) (fdC Γ b sc C).env) (RR (.ref D) C) s' := by
    refine codeAny_compLoop_tests (fun k s => ∃ i m' io ys c ν, k = n + 1 - i ∧ i ≤ n ∧ ys.size ≤ i ∧ (∀ y, (sc.names.lookup y == some .free) = true → m' y = m y) ∧ (StI (fdC Γ b sc C) m' ((I, io) :: (D, lst ys c) :: ν)).p s ∧ It i io ∧ Laid Φ ν i ys) ?_ (n + 1)
      ⟨0, _, io₀, #[], 0, [], rfl, Nat.zero_le _, Nat.le_refl _, fun _ h => mc_free h, H', hI0, .nil⟩
    rintro k s ⟨i, m', io, ys, c, ν, rfl, hi, hsz, hm', Hs, hit, hL⟩
    by_cases hin : i < n
    · refine wpAny_mono (E := fun _ _ => False) ((N C).item i io m' _ s _ _ hin hit Hs fun v io' s₁ hv hit' Hs₁ => ?_) (fun r s₁ q => q) fun _ _ z => z.elim
      refine wpAny_assign_Name (s_loc Hs₁ (fun s₂' H₂ => ?_) hx hkind)
      refine wpAny_mono (turn C i v m' _ s₂' hin hv hm' H₂) (fun ok s₄ q => ?_) fun _ _ z => z.elim
      have hm2 : ∀ y, (sc.names.lookup y == some .free) = true → up m' x v y = m y := fun y hy => by
        rw [up_ne (fun e => by rw [e, hxf] at hy; cases hy)]; exact hm' y hy
      have pm : ∀ (ν' : Led) (p q : Addr × Obj), (p :: q :: (ν' ++ ν)).Perm (ν' ++ p :: q :: ν) := fun ν' p q =>
        ((List.perm_middle (l₁ := ν') (a := p) (l₂ := q :: ν)).trans ((List.perm_middle (l₁ := ν') (a := q) (l₂ := ν)).cons p)).symm
      cases ok with
      | true =>
        rw [if_pos rfl]
        refine wpAny_mono (q.1 rfl) (fun y s₅ q => ?_) fun _ _ z => z.elim
        obtain ⟨ν', H₅, hΦ⟩ := q
        have H₆ := St.perm H₅ (pm ν' _ _)
        refine o_appendS (pre := [(I, io')]) H₆ (Nat.le_trans (Nat.le_trans hsz (Nat.le_trans hi hn)) (by decide)) fun s₆ H₇ => ?_
        refine ⟨n + 1 - (i + 1), by omega, i + 1, _, io', ys.push y, c + 1, ν' ++ ν, rfl, hin, by simpa using hsz, hm2, H₇, hit', ?_⟩
        exact (hL.mono mono fun p hp => List.mem_append_right _ hp).snoc (o := some y) (mono _ _ _ _ (fun p hp => List.mem_append_left _ hp) hΦ)
      | false =>
        rw [if_neg (by decide)]
        obtain ⟨ν', H₅, hΦ⟩ := q.2 rfl
        have H₆ := St.perm H₅ (pm ν' _ _)
        refine ⟨n + 1 - (i + 1), by omega, i + 1, _, io', ys, c, ν' ++ ν, rfl, hin, Nat.le_succ_of_le hsz, hm2, H₆, hit', ?_⟩
        exact (hL.mono mono fun p hp => List.mem_append_right _ hp).snoc (o := none) (mono _ _ _ _ (fun p hp => List.mem_append_left _ hp) hΦ)
    · have hin' : i = n := Nat.le_antisymm hi (Nat.le_of_not_lt hin)
      subst hin'
      refine (N C).stop io m' _ s _ _ hit Hs fun s₁ Hs₁ => ?_
      obtain ⟨mC, hmC, _⟩ := St.loc Hs₁
      obtain ⟨oC, es', ep', e1, hr⟩ := hmC
      have led := St.led Hs₁
      refine post D C oC mC ys c ν s₁ ?_ (fun h e => ⟨oC, es', ep', e, hr⟩) hL
      have := St.adds (t := s₁.toks) H (St.keep Hs₁) ((C, oC) :: (D, lst ys c) :: ν) (fun p hp => ?_) ?_
      · have e2 := St.same Hs₁
        rw [← e2] at this
        exact this
      · rcases List.mem_cons.mp hp with rfl | hp
        · exact ⟨e1, nC⟩
        · exact ⟨led p hp, St.ledB Hs₁ p hp⟩
      · rw [List.map_cons, List.nodup_cons]
        refine ⟨fun hm => ?_, St.nd Hs₁⟩
        obtain ⟨p, hp, e⟩ := List.mem_map.mp hm
        exact (St.ledL Hs₁ p hp).1 e
  exact codeAny_compStart_list loop ((N C).self 0 io₀ _ _ s' _ _ hI0 H' loop)
end

def CT (prog : Program) (w : World) (A : Around) (E : Value → Shared → Prop) (Γ : Fd) (sc : Scope) (e : Expr) (RR : Value → Addr → Result → Shared → Prop) (it : Value) (s : Shared) : Prop :=
  wpAny (model prog w) A (newList []) (fun acc s₃ => wpAny (model prog w) A (newFunctionEnv sc mainGlobals (clOf sc Γ.cs) [] Γ.q none .none (some Γ.env)) (fun cenv s₄ =>
      codeAny (model prog w) A (.compStart e 0 it acc { cenv with scope := relabel sc Γ.env }) (RR acc cenv.locals) s₄) E s₃) E s
/-- what the scope of a comprehension must be -/
def ScOk (Γ : Fd) (sc : Scope) (x : Str) : Bool :=
  (sc.names.all fun y => y.2 != .cell) && (sc.kind == .function) && ((relabel sc Γ.env).names.lookup x == some .local) &&
  (sc.names.all fun y => y.2 != .free || ((Γ.cs.lookup y.1).isSome && (relabel sc Γ.env).names.lookup y.1 == some .cell && sc.names.lookup y.1 == some .free)) && !(sc.names.lookup x == some .free)
section
variable {w : World} {prog : Program} {A : Around} {E : Value → Shared → Prop} {Γ : Fd} {m : Str → Option Value} {σ : List (Addr × Obj)} {s : Shared} {elt iter : Expr} {x : Str} {px pos : Pos} {ifs : List Expr} {sc : Scope} {RR : Value → Addr → Result → Shared → Prop} {Φ : Led → Nat → Option Value → Prop}
def Turn (prog : Program) (A : Around) (Γ : Fd) (m : Str → Option Value) (b : Shared) (sc : Scope) (x : Str) (ifs : List Expr) (elt : Expr) (n : Nat) (V : Nat → Value → Prop) (Φ : Led → Nat → Option Value → Prop) : Prop :=
  ∀ C i v mm σc s, i < n → V i v → (∀ y, (sc.names.lookup y == some .free) = true → mm y = m y) → (StI (fdC Γ b sc C) (up mm x v) σc).p s → wpAny (model prog Γ.w) A (Tests ifs (fdC Γ b sc C).env) (fun ok s₄ =>
      (ok = true → wpAny (model prog Γ.w) A (eval elt (fdC Γ b sc C).env) (fun y s₅ => ∃ ν, (StI (fdC Γ b sc C) (up mm x v) (ν ++ σc)).p s₅ ∧ Φ ν i (some y)) (fun _ _ => False) s₄) ∧
      (ok = false → ∃ ν, (StI (fdC Γ b sc C) (up mm x v) (ν ++ σc)).p s₄ ∧ Φ ν i none)) (fun _ _ => False) s
def Post (Γ : Fd) (m : Str → Option Value) (σ : Led) (n : Nat) (Φ : Led → Nat → Option Value → Prop) (RR : Value → Addr → Result → Shared → Prop) : Prop :=
  ∀ D C oC mC ys c ν s', (StI Γ m ((C, oC) :: (D, lst ys c) :: (ν ++ σ))).p s' → (∀ h : Heap, h.get? C = some oC → h.Ns C mC) → Laid Φ ν n ys → RR (.ref D) C (.ok .next) s'
theorem ScOk.out {Γ : Fd} {sc : Scope} {x : Str} (h : ScOk Γ sc x = true) : (sc.names.all fun y => y.2 != .cell) = true ∧ sc.kind = .function ∧ (relabel sc Γ.env).names.lookup x = some .local ∧
    (sc.names.all fun y => y.2 != .free || ((Γ.cs.lookup y.1).isSome && (relabel sc Γ.env).names.lookup y.1 == some .cell && sc.names.lookup y.1 == some .free)) = true ∧ (sc.names.lookup x == some .free) = false := by
  unfold ScOk at h
  simp only [Bool.and_eq_true] at h
  obtain ⟨⟨⟨⟨a, b⟩, c⟩, d⟩, e⟩ := h
  exact ⟨a, beq_iff_eq.mp b, beq_iff_eq.mp c, d, by simpa using e⟩
theorem ct_list {l : Addr} {items : Array Value} (H : (StI Γ m σ).p s) (hl : s.heap.IsList l items) (hh : A.handled = none) (hn : items.size ≤ 1000) (hok : ScOk Γ sc x = true) (Φ : Led → Nat → Option Value → Prop) (mono : Mono Φ)
    (turn : Turn prog A Γ m s sc x ifs elt items.size (fun i v => items[i]? = some v) Φ) (post : Post Γ m σ items.size Φ RR) :
    wpAny (model prog Γ.w) A (pyIter (.ref l)) (CT prog Γ.w A E Γ sc (.ListComp elt [⟨.Name x px, iter, ifs, 0⟩] sc pos) RR) E s := by
  obtain ⟨h1, h2, h3, h4, h5⟩ := ScOk.out hok
  refine wpAny_pyIter_list hl ?_
  exact comp_loop (It := ItL l) H rfl (sPush _ _) (by rw [Heap.size_push]; exact Nat.le_succ _) (Heap.get?_push_size _ rfl) (size_none _) ⟨rfl, rfl⟩ (fun C => nx_list hh hl) hn h1 h2 h3 h4 h5 Φ mono turn post
theorem ct_range {r : Addr} {a c : Int} {e : Int} {t u v : Tok} {n : Nat} (H : (StI Γ m σ).p s) (hr : (r, rng a e c t u v) ∈ σ) (hsmall : Builtin.Range.small a e c = true) (hn' : Builtin.Range.rangeSize a e c = n) (hh : A.handled = none) (hn : n ≤ 1000) (hok : ScOk Γ sc x = true) (Φ : Led → Nat → Option Value → Prop) (mono : Mono Φ)
    (turn : Turn prog A Γ m s sc x ifs elt n (fun i v => ∃ t, v = .int (a + i * c) t) Φ) (post : Post Γ m σ n Φ RR) :
    wpAny (model prog Γ.w) A (pyIter (.ref r)) (CT prog Γ.w A E Γ sc (.ListComp elt [⟨.Name x px, iter, ifs, 0⟩] sc pos) RR) E s := by
  obtain ⟨h1, h2, h3, h4, h5⟩ := ScOk.out hok
  refine wpAny_pyIter_range (St.led H _ hr) hsmall ?_
  rw [hn']
  exact comp_loop (It := ItR a c n) H rfl (sPush _ _) (by rw [Heap.size_push]; exact Nat.le_succ _) (Heap.get?_push_size _ rfl) (size_none _) (by simp [ItR]) (fun C => nx_range hh) hn h1 h2 h3 h4 h5 Φ mono turn post

theorem e_comp {g : Comprehension} {Q : Value → Shared → Prop} (h : wpAny (model prog w) A (eval g.iter Γ.env) (fun xv s₁ => wpAny (model prog w) A (pyIter xv) (CT prog w A E Γ sc (.ListComp elt [g] sc pos) (fun acc C => compPost (model prog w) A E none Q acc C)) E s₁) E s)
    (hs : ∀ x, foldedSetIterable g.iter Γ.env x = pure x := by intro _; rfl) (hg : g.is_async = 0 := by rfl) (hclos : closureFor sc Γ.env = pure (clOf sc Γ.cs) := by rfl) (hkind : sc.kind = .function := by rfl) (hnames : (sc.names.all fun x => x.2 != .local || sc.names.lookup x.1 == some .local) = true := by rfl) :
    wpAny (model prog w) A (eval (.ListComp elt [g] sc pos) Γ.env) Q E s := by
  rw [eval_ListComp]
  obtain ⟨tg, it, fs, ay⟩ := g
  dsimp only at hg
  subst hg
  exact wpAny_comprehension_free (use := none) rfl hs hclos hkind (fun y hy hl => by have := List.all_eq_true.mp hnames y hy; rw [hl] at this; simpa using this) h
theorem x_compU {g : Comprehension} {y : Str} {py spos : Pos} {rest : List Stmt} {Q : Flow → Shared → Prop}
    (h : wpAny (model prog w) A (eval g.iter Γ.env) (fun xv s₁ => wpAny (model prog w) A (pyIter xv) (CT prog w A E Γ sc (.ListComp elt [g] sc pos) (fun acc C => compPost (model prog w) A E (some (assign (.Name y py) Γ.env)) (fun _ s' => wpAny (model prog w) A (execs rest Γ.env) Q E s') acc C)) E s₁) E s)
    (hsw : swapsWith (.ListComp elt [g] sc pos) (some (.Name y py)) spos.line Γ.env = pure true := by rfl)
    (hs : ∀ x, foldedSetIterable g.iter Γ.env x = pure x := by intro _; rfl) (hg : g.is_async = 0 := by rfl) (hclos : closureFor sc Γ.env = pure (clOf sc Γ.cs) := by rfl) (hkind : sc.kind = .function := by rfl) (hnames : (sc.names.all fun x => x.2 != .local || sc.names.lookup x.1 == some .local) = true := by rfl) :
    wpAny (model prog w) A (execs (.Assign [.Name y py] (.ListComp elt [g] sc pos) spos :: rest) Γ.env) Q E s := by
  refine wpAny_execs_cons ?_
  rw [exec_Assign_Name_used _ _ _ _ hsw]
  obtain ⟨tg, it, fs, ay⟩ := g
  dsimp only at hg
  subst hg
  refine wpAny_bind (wpAny_standAt (wpAny_bind ?_))
  show wpAny _ A (do let _ ← comprehension (.ListComp elt [⟨tg, it, fs, 0⟩] sc pos) sc Γ.env _ (newList []) false (eval it Γ.env) (some (assign (.Name y py) Γ.env))) _ _ s
  exact wpAny_bind (wpAny_mono (wpAny_comprehension_free (use := some (assign (.Name y py) Γ.env)) (Q := fun _ s' => wpAny (model prog w) A (execs rest Γ.env) Q E s') rfl hs hclos hkind (fun y hy hl => by have := List.all_eq_true.mp hnames y hy; rw [hl] at this; simpa using this) h)
    (fun _ s' hq => wpAny_pure (wpAny_pure hq)) fun _ _ e => e)
theorem it_tup {value slice : Expr} {t : Addr} {items : Array Value} {k : Nat} {u : Tok} {v : Value} {Q : Value → Shared → Prop} (ht : s.heap.get? t = some (tup items)) (hx : items[k]? = some v) (hz : items.size ≤ 1000) (h : Q v s)
    (hs : ∀ a b p, slice ≠ .Slice a b none p := by intro _ _ _ e; cases e) : wpAny (model prog w) A (subscriptTail value slice (.ref t) (.int (k : Int) u)) Q E s := by
  have hk : k < items.size := (Array.getElem?_eq_some_iff.mp hx).1
  exact tail_any ⟨_, ht, rfl⟩ slot_tuple_getitem.lookup (getItem_tuple ⟨_, ht, rfl, _, rfl⟩ (by omega) (by omega) (j := k) (by
    have h1 : ¬ ((k : Int) < 0) := by omega
    unfold seqIndex?
    simp only [h1, if_false]
    simp
    omega) hx h) (slOther hs _ _)
theorem post_plain {n : Nat} {Q : Value → Shared → Prop} (k : ∀ D ys c ν s', (StI Γ m ((D, lst ys c) :: (ν ++ σ))).p s' → Laid Φ ν n ys → Q (.ref D) s') : Post Γ m σ n Φ (fun acc C => compPost (model prog Γ.w) A E none Q acc C) :=
  fun D C oC mC ys c ν s' H hC hL => ⟨mC, hC _ (St.led H _ (.head _)), fun h' hs => k D ys c ν _ (St.but H hs.extBut) hL⟩
theorem post_used {n : Nat} {y : Str} {py : Pos} {Q : Value → Shared → Prop} (k : ∀ D ys c ν s', (StI Γ (up m y (.ref D)) ((D, lst ys c) :: (ν ++ σ))).p s' → Laid Φ ν n ys → Q .none s')
    (hy : Γ.sc.names.lookup y = some .local := by rfl) (hk : Γ.sc.kind = .function := by rfl) : Post Γ m σ n Φ (fun acc C => compPost (model prog Γ.w) A E (some (assign (.Name y py) Γ.env)) Q acc C) :=
  fun D C oC mC ys c ν s' H hC hL => wpAny_assign_Name (s_loc H (fun s'' H'' => ⟨mC, hC _ (St.led H'' _ (.head _)), fun h' hs => k D ys c ν _ (St.but H'' hs.extBut) hL⟩) hy hk)
end
local macro_rules | `(tactic| walk_at "g8") => `(tactic| first
  | walk_at "g7"
  | ((with_reducible refine' e_comp ?_ ?z ?a ?b ?c ?d); (case z => (intro _; rfl)); (case a | b | c | d => rfl))
  | ((with_reducible refine' x_compU ?_ ?a ?z ?b ?c ?d ?e); (case z => (intro _; rfl)); (case a | b | c | d | e => rfl))
  | (with_reducible first | refine tests_nil ?_ | refine tests_one ?_))

theorem paired_of {α : Type} {G : α → Value → Prop} {p : α → Bool} : ∀ (xs : List α) (os : List (Option Value)), os.length = xs.length →
    (∀ (i : Nat) o, os[i]? = some o → ∃ a, xs[i]? = some a ∧ ((p a = true ∧ ∃ y, o = some y ∧ G a y) ∨ (p a = false ∧ o = none))) → Paired G (xs.filter p) (os.filterMap id)
  | [], [], _, _ => .nil
  | [], _ :: _, h, _ => by simp at h
  | _ :: _, [], h, _ => by simp at h
  | a :: xs, o :: os, h, hp => by
    have ih := paired_of (G := G) (p := p) xs os (by simpa using h) fun i o' e => by simpa using hp (i + 1) o' (by simpa using e)
    obtain ⟨a', e1, h1⟩ := hp 0 o (by simp)
    simp at e1
    subst e1
    rcases h1 with ⟨hpa, y, rfl, hG⟩ | ⟨hpa, rfl⟩
    · rw [List.filter_cons, if_pos hpa]
      exact .cons hG ih
    · rw [List.filter_cons, if_neg (by rw [hpa]; decide)]
      exact ih
theorem Laid.paired {α : Type} {Φ : Led → Nat → Option Value → Prop} {ν : Led} {n : Nat} {ys : Array Value} {G : α → Value → Prop} {p : α → Bool} {xs : List α} (L : Laid Φ ν n ys) (hn : n = xs.length)
    (h : ∀ i o, Φ ν i o → ∃ a, xs[i]? = some a ∧ ((p a = true ∧ ∃ y, o = some y ∧ G a y) ∨ (p a = false ∧ o = none))) : Paired G (xs.filter p) ys.toList := by
  obtain ⟨os, h1, h2, h3⟩ := L
  rw [h3]
  exact paired_of xs os (by rw [h1, hn]) fun i o e => h i o (h2 i o e)
def isS (x : Str) (v : Value) : Prop := ∃ t, v = .str x t
theorem spec_get_all {w : World} {A : Around} {s : Shared} {R : Result → Shared → Prop} {x l : Addr} {items : Array Value} {kvs : List (Str × Str)} {name : Str} {t : Tok} (W : Wd w s.heap) (hA : AOk 2 A) (hx : HObj w s.heap x l) (hl : s.heap.IsList l items) (hk : HL s.heap items kvs) (hz : items.size ≤ 1000)
  (hlo : ∀ kv ∈ kvs, lowOk kv.1) (hn : Clean (Txt.lower name)) (hnl : lowOk name)
  (k : Rets s R fun v s' => ∃ D ys c, v = .ref D ∧ s'.heap.get? D = some (lst ys c) ∧ s.heap.get? D = none ∧ Paired (fun kv : Str × Str => isS kv.2) (kvs.filter fun kv => Txt.lower kv.1 == Txt.lower name) ys.toList) :
  codeAny (model PP w) A (.call (.ref 152) ⟨[.ref x, .str name t], []⟩) R s := by
  have hA1 : ∀ env, AOk 1 (A.deeper env) := fun env => AOk.deep hA
  refine enterK (binds := [("self", .ref x), ("name", .str name t)]) W hA.room (by rfl) (by rfl) (by rfl) (BindsTo.of_eq rfl) (fun s H => ?_)
  repeat walk_at "g7"
  rename Inv.p _ _ => H
  refine o_hmeth (Inv.wd _ H) (hx.keeps (St.keep H)) cM_conv cT_conv (fun tk => by rfl) ?_
  repeat walk_at "g7"
  refine o_lower (by assumption) hnl (fun t s H => ?_)
  repeat walk_at "g7"
  refine o_conv (by assumption) (hA1 _) hn (fun s H => ?_)
  repeat walk_at "g8"
  rename Inv.p _ _ => H
  refine o_hd H (hx.keeps (St.keep H)) (fun s H => ?_)
  refine ct_list H (keepL hl (St.keep H)) (hA1 _).hh hz (by rfl) (fun ν i o => ∃ kv, kvs[i]? = some kv ∧ (((Txt.lower kv.1 == Txt.lower name) = true ∧ ∃ y, o = some y ∧ isS kv.2 y) ∨ ((Txt.lower kv.1 == Txt.lower name) = false ∧ o = none)))
    (fun _ _ _ _ _ h => h) ?_ (post_plain fun D ys c ν s' H' hL => ?_)
  · intro C i v mm σc s hi hv hmm Hc
    have mn : mm "name" = some (.str (Txt.lower name) t) := (hmm "name" (by rfl)).trans (by walk_at "lk")
    have hi' : i < kvs.length := by rw [← hk.1]; exact hi
    obtain ⟨tp, tk, tv, e1, e2⟩ := (hk.keeps (St.keep H)).2 i _ (List.getElem?_eq_getElem hi')
    have hkv : kvs[i]? = some kvs[i] := List.getElem?_eq_getElem hi'
    revert e1 e2 hkv
    generalize kvs[i] = kv
    intro e1 e2 hkv
    have ev : v = .ref tp := Option.some.inj (hv.symm.trans e1)
    subst ev
    clear H
    repeat walk_at "g8"
    rename Inv.p _ _ => H
    refine it_tup (k := 0) (v := .str kv.1 tk) (St.keep H _ _ e2) rfl (Nat.le_of_ble_eq_true rfl) ?_
    repeat walk_at "g8"
    refine o_lower (by assumption) (hlo _ (List.mem_of_getElem? hkv)) (fun t s H => ?_)
    repeat walk_at "g8"
    refine ⟨fun hc => ?_, fun hc => ?_⟩
    · repeat walk_at "g8"
      rename Inv.p _ _ => H
      refine it_tup (k := 1) (v := .str kv.2 tv) (St.keep H _ _ e2) rfl (Nat.le_of_ble_eq_true rfl) ?_
      exact ⟨[], H, kv, hkv, .inl ⟨hc, _, rfl, _, rfl⟩⟩
    · exact ⟨[], by assumption, kv, hkv, .inr ⟨hc, rfl⟩⟩
  · refine St.back k H' ⟨D, ys, c, rfl, St.led H' _ (.head _), St.ledB H' _ (.head _), ?_⟩
    exact hL.paired hk.1 fun i o h => h

section
variable {w : World} {prog : Program} {A : Around} {M : Model} {E : Value → Shared → Prop} {Γ : Fd} {m : Str → Option Value} {σ : List (Addr × Obj)} {b : Shared}
theorem loopT {R : Result → Shared → Prop} {s : Shared} {elt target iter : Expr} {ifs : List Expr} {scope : Scope} {pos : Pos} {it acc : Value} {env : Env} (I : Nat → Shared → Prop)
    (turn : ∀ n s, I n s → wpAny (model prog w) A (pyNext it) (fun r s₁ => match r with
      | none => R (.ok .next) s₁
      | some v => wpAny (model prog w) A (letOwnedTupleGo target it v) (fun _ s₁' => wpAny (model prog w) A (assign target env v) (fun _ s₂ =>
          wpAny (model prog w) A (Tests ifs env) (fun ok s₃ => match ok with
            | true => wpAny (model prog w) A (eval elt env) (fun x s₄ => wpAny (model prog w) A (call (.builtin "list.append") [acc, x]) (fun _ s₅ => ∃ m, m < n ∧ I m s₅) (fun _ _ => False) s₄) (fun _ _ => False) s₃
            | false => ∃ m, m < n ∧ I m s₃) (fun _ _ => False) s₂) (fun _ _ => False) s₁') (fun _ _ => False) s₁) (fun _ _ => False) s)
    (n : Nat) (h : I n s) : codeAny (model prog w) A (.compLoop (.ListComp elt [⟨target, iter, ifs, 0⟩] scope pos) 0 it acc env) R s := by
  refine codeAny_loop rfl I (fun n s hI => ?_) n h
  show wpAny _ A ((compTurn (.ListComp elt [⟨target, iter, ifs, 0⟩] scope pos) 0 it acc env).onRaise (fun x => do noteFrame x env; theTreesLotGoes x)) _ _ s
  refine wpAny_noted (wpAny_mono (E := fun _ _ => False) ?_ (fun _ _ z => z) fun _ _ z => z.elim)
  rw [compTurn_list]
  refine wpAny_bind (wpAny_standAt (wpAny_bind (wpAny_mono (turn n s hI) (fun r s₁ q => ?_) fun _ _ z => z)))
  cases r with
  | none => exact wpAny_pure q
  | some v =>
    refine wpAny_bind (wpAny_mono q (fun _ s₁' q => wpAny_bind (wpAny_mono q (fun _ s₂ q => wpAny_bind (wpAny_mono q (fun ok s₃ q => ?_) fun _ _ z => z)) fun _ _ z => z)) fun _ _ z => z)
    cases ok with
    | false => exact wpAny_pure ⟨rfl, q⟩
    | true => exact wpAny_bind (wpAny_bind (wpAny_mono q (fun x s₄ q => wpAny_bind (wpAny_mono q (fun _ s₅ q => wpAny_pure (wpAny_pure ⟨rfl, q⟩)) fun _ _ z => z)) fun _ _ z => z))

theorem comp_loopT {I l : Addr} {items : Array Value} {n kk : Nat} {io₀ : Obj} {y : Str} {py tpos : Pos} {s₂ : Shared} {elt iter : Expr} {x : Str} {px pos : Pos} {ifs : List Expr} {sc : Scope} {RR : Value → Addr → Result → Shared → Prop}
    (H : (StI Γ m σ).p b) (es : s₂ = { b with heap := s₂.heap, toks := s₂.toks }) (ks : b.heap.StaysIn s₂.heap) (hz : b.heap.objs.size ≤ s₂.heap.objs.size) (hI : s₂.heap.get? I = some io₀) (hIb : b.heap.get? I = none) (hI0 : ItL l 0 io₀)
    (hh : A.handled = none) (hl : b.heap.IsList l items) (hni : n = items.size) (P : Nat → Value → Value → Prop) (hp : ∀ i v, items[i]? = some v → ∃ t a c, v = .ref t ∧ b.heap.IsTuple t #[a, c] ∧ P i a c) (hn : n ≤ 1000)
    (hcell : (sc.names.all fun y => y.2 != .cell) = true) (hkind : sc.kind = .function) (hx : (relabel sc Γ.env).names.lookup x = some .local) (hy : (relabel sc Γ.env).names.lookup y = some .local)
    (hfree : (sc.names.all fun y => y.2 != .free || ((Γ.cs.lookup y.1).isSome && (relabel sc Γ.env).names.lookup y.1 == some .cell && sc.names.lookup y.1 == some .free)) = true)
    (hxf : (sc.names.lookup x == some .free) = false) (hyf : (sc.names.lookup y == some .free) = false)
    (Φ : Led → Nat → Option Value → Prop) (mono : Mono Φ)
    (turn : ∀ C i va vb mm σc s, i < n → P i va vb → (∀ z, (sc.names.lookup z == some .free) = true → mm z = m z) → (StI (fdC Γ b sc C) (up (up mm x va) y vb) σc).p s → wpAny (model prog Γ.w) A (Tests ifs (fdC Γ b sc C).env) (fun ok s₄ =>
      (ok = true → wpAny (model prog Γ.w) A (eval elt (fdC Γ b sc C).env) (fun r s₅ => ∃ ν, (StI (fdC Γ b sc C) (up (up mm x va) y vb) (ν ++ σc)).p s₅ ∧ Φ ν i (some r)) (fun _ _ => False) s₄) ∧
      (ok = false → ∃ ν, (StI (fdC Γ b sc C) (up (up mm x va) y vb) (ν ++ σc)).p s₄ ∧ Φ ν i none)) (fun _ _ => False) s)
    (post : ∀ D C oC mC ys c ν s', (StI Γ m ((C, oC) :: (D, lst ys c) :: (ν ++ σ))).p s' → (∀ h : Heap, h.get? C = some oC → h.Ns C mC) → Laid Φ ν n ys → RR (.ref D) C (.ok .next) s') :
    wpAny (model prog Γ.w) A (newList []) (fun acc s₃ => wpAny (model prog Γ.w) A (newFunctionEnv sc mainGlobals (clOf sc Γ.cs) [] Γ.q none .none (some Γ.env)) (fun cenv s₄ =>
      codeAny (model prog Γ.w) A (.compStart (.ListComp elt [⟨.Tuple [.Name x px, .Name y py] kk tpos, iter, ifs, 0⟩] sc pos) 0 (.ref I) acc { cenv with scope := relabel sc Γ.env }) (RR acc cenv.locals) s₄) E s₃) E s₂ := by
  refine wpAny_newList ?_
  have nb : b.heap.get? s₂.heap.objs.size = none := Heap.get?_none_of_le hz
  have hID : I ≠ s₂.heap.objs.size := Nat.ne_of_lt (Heap.lt_size hI)
  refine enterC (s := { s₂ with heap := s₂.heap.push { cls := .type "list", data := .seq [].toArray } }) (σc := [(I, io₀), (s₂.heap.objs.size, lst #[] 0)]) H (by rw [es]) (sTrans ks (sPush _ _)) (by rw [Heap.size_push]; exact Nat.le_succ_of_le hz) ?_ (by simp [hID]) hcell hkind hfree (fun cenv s' he hlc H' => ?_)
  · intro p hp
    rcases List.mem_cons.mp hp with rfl | hp
    · exact ⟨Heap.get?_push_of_some _ hI, hIb⟩
    · rcases List.mem_cons.mp hp with rfl | hp
      · exact ⟨Heap.get?_push_size _ rfl, nb⟩
      · cases hp
  rw [he, hlc]
  dsimp only at H' ⊢
  rw [Heap.size_push] at H' ⊢
  generalize hCd : s₂.heap.objs.size + 1 = C at H' ⊢
  generalize hDd : s₂.heap.objs.size = D at H' nb hID ⊢
  have nC : b.heap.get? C = none := by rw [← hCd]; exact Heap.get?_none_of_le (Nat.le_succ_of_le hz)
  have N : Nx prog A (fdC Γ b sc C) I n (fun i v => items[i]? = some v) (ItL l) := by rw [hni]; exact nx_list hh hl
  have loop : codeAny (model prog Γ.w) A (.compLoop (.ListComp elt [⟨.Tuple [.Name x px, .Name y py] kk tpos, iter, ifs, 0⟩] sc pos) 0 (.ref I) (.ref D) (fdC Γ b sc C).env) (RR (.ref D) C) s' := by
    refine loopT (fun k s => ∃ i m' io ys c ν, k = n + 1 - i ∧ i ≤ n ∧ ys.size ≤ i ∧ (∀ z, (sc.names.lookup z == some .free) = true → m' z = m z) ∧ (StI (fdC Γ b sc C) m' ((I, io) :: (D, lst ys c) :: ν)).p s ∧ ItL l i io ∧ Laid Φ ν i ys) ?_ (n + 1)
      ⟨0, _, io₀, #[], 0, [], rfl, Nat.zero_le _, Nat.le_refl _, fun _ h => mc_free h, H', hI0, .nil⟩
    rintro k s ⟨i, m', io, ys, c, ν, rfl, hi, hsz, hm', Hs, hit, hL⟩
    by_cases hin : i < n
    · refine wpAny_mono (E := fun _ _ => False) (N.item i io m' _ s _ _ hin hit Hs fun v io' s₁ hv hit' Hs₁ => ?_) (fun r s₁ q => q) fun _ _ z => z.elim
      obtain ⟨t, va, vb, rfl, ht, hP⟩ := hp i v hv
      refine wpAny_letOwnedTupleGo_listiter ⟨io', St.led Hs₁ _ (.head _), hit'.1, hit'.2⟩ ?_
      have ht' : s₁.heap.IsTuple t #[va, vb] := let ⟨o, e1, e2⟩ := ht; ⟨o, St.keep Hs₁ _ _ e1, e2⟩
      refine a_pair hh Hs₁ ht' fun s₁' Hs₁' => s_loc Hs₁' (fun s₂'' H₂' => s_loc H₂' (fun s₂' H₂ => ?_) hy hkind) hx hkind
      refine wpAny_mono (turn C i va vb m' _ s₂' hin hP hm' H₂) (fun ok s₄ q => ?_) fun _ _ z => z.elim
      have hm2 : ∀ z, (sc.names.lookup z == some .free) = true → up (up m' x va) y vb z = m z := fun z hz => by
        rw [up_ne (fun e => by rw [e, hyf] at hz; cases hz), up_ne (fun e => by rw [e, hxf] at hz; cases hz)]; exact hm' z hz
      have pm : ∀ (ν' : Led) (p q : Addr × Obj), (p :: q :: (ν' ++ ν)).Perm (ν' ++ p :: q :: ν) := fun ν' p q =>
        ((List.perm_middle (l₁ := ν') (a := p) (l₂ := q :: ν)).trans ((List.perm_middle (l₁ := ν') (a := q) (l₂ := ν)).cons p)).symm
      cases ok with
      | true =>
        refine wpAny_mono (q.1 rfl) (fun r s₅ q => ?_) fun _ _ z => z.elim
        obtain ⟨ν', H₅, hΦ⟩ := q
        have H₆ := St.perm H₅ (pm ν' _ _)
        refine o_appendS (pre := [(I, io')]) H₆ (Nat.le_trans (Nat.le_trans hsz (Nat.le_trans hi hn)) (by decide)) fun s₆ H₇ => ?_
        refine ⟨n + 1 - (i + 1), by omega, i + 1, _, io', ys.push r, c + 1, ν' ++ ν, rfl, hin, by simpa using hsz, hm2, H₇, hit', ?_⟩
        exact (hL.mono mono fun p hp => List.mem_append_right _ hp).snoc (o := some r) (mono _ _ _ _ (fun p hp => List.mem_append_left _ hp) hΦ)
      | false =>
        obtain ⟨ν', H₅, hΦ⟩ := q.2 rfl
        have H₆ := St.perm H₅ (pm ν' _ _)
        refine ⟨n + 1 - (i + 1), by omega, i + 1, _, io', ys, c, ν' ++ ν, rfl, hin, Nat.le_succ_of_le hsz, hm2, H₆, hit', ?_⟩
        exact (hL.mono mono fun p hp => List.mem_append_right _ hp).snoc (o := none) (mono _ _ _ _ (fun p hp => List.mem_append_left _ hp) hΦ)
    · have hin' : i = n := Nat.le_antisymm hi (Nat.le_of_not_lt hin)
      subst hin'
      refine N.stop io m' _ s _ _ hit Hs fun s₁ Hs₁ => ?_
      obtain ⟨mC, hmC, _⟩ := St.loc Hs₁
      obtain ⟨oC, es', ep', e1, hr⟩ := hmC
      have led := St.led Hs₁
      refine post D C oC mC ys c ν s₁ ?_ (fun h e => ⟨oC, es', ep', e, hr⟩) hL
      have := St.adds (t := s₁.toks) H (St.keep Hs₁) ((C, oC) :: (D, lst ys c) :: ν) (fun p hp => ?_) ?_
      · have e2 := St.same Hs₁
        rw [← e2] at this
        exact this
      · rcases List.mem_cons.mp hp with rfl | hp
        · exact ⟨e1, nC⟩
        · exact ⟨led p hp, St.ledB Hs₁ p hp⟩
      · rw [List.map_cons, List.nodup_cons]
        refine ⟨fun hm => ?_, St.nd Hs₁⟩
        obtain ⟨p, hp, e⟩ := List.mem_map.mp hm
        exact (St.ledL Hs₁ p hp).1 e
  exact codeAny_compStart_list loop (N.self 0 io₀ _ _ s' _ _ hI0 H' loop)
theorem ct_listT {l : Addr} {items : Array Value} {s : Shared} {x y : Str} {px py tpos pos : Pos} {kk : Nat} {elt iter : Expr} {ifs : List Expr} {sc : Scope} {RR : Value → Addr → Result → Shared → Prop} (H : (StI Γ m σ).p s) (hl : s.heap.IsList l items) (hh : A.handled = none) (hn : items.size ≤ 1000) (hok : ScOk Γ sc x = true) (hok2 : ScOk Γ sc y = true)
    (P : Nat → Value → Value → Prop) (hp : ∀ (i : Nat) v, items[i]? = some v → ∃ t a c, v = .ref t ∧ s.heap.IsTuple t #[a, c] ∧ P i a c) (Φ : Led → Nat → Option Value → Prop) (mono : Mono Φ)
    (turn : ∀ C i va vb mm σc s', i < items.size → P i va vb → (∀ z, (sc.names.lookup z == some .free) = true → mm z = m z) → (StI (fdC Γ s sc C) (up (up mm x va) y vb) σc).p s' → wpAny (model prog Γ.w) A (Tests ifs (fdC Γ s sc C).env) (fun ok s₄ =>
      (ok = true → wpAny (model prog Γ.w) A (eval elt (fdC Γ s sc C).env) (fun r s₅ => ∃ ν, (StI (fdC Γ s sc C) (up (up mm x va) y vb) (ν ++ σc)).p s₅ ∧ Φ ν i (some r)) (fun _ _ => False) s₄) ∧
      (ok = false → ∃ ν, (StI (fdC Γ s sc C) (up (up mm x va) y vb) (ν ++ σc)).p s₄ ∧ Φ ν i none)) (fun _ _ => False) s') (post : Post Γ m σ items.size Φ RR) :
    wpAny (model prog Γ.w) A (pyIter (.ref l)) (CT prog Γ.w A E Γ sc (.ListComp elt [⟨.Tuple [.Name x px, .Name y py] kk tpos, iter, ifs, 0⟩] sc pos) RR) E s := by
  obtain ⟨h1, h2, h3, h4, h5⟩ := ScOk.out hok
  obtain ⟨_, _, g3, _, g5⟩ := ScOk.out hok2
  refine wpAny_pyIter_list hl ?_
  exact comp_loopT H rfl (sPush _ _) (by rw [Heap.size_push]; exact Nat.le_succ _) (Heap.get?_push_size _ rfl) (size_none _) ⟨rfl, rfl⟩ hh hl rfl P hp hn h1 h2 h3 g3 h4 h5 g5 Φ mono turn post
end

theorem spec_keys {w : World} {A : Around} {s : Shared} {R : Result → Shared → Prop} {x l : Addr} {items : Array Value} {kvs : List (Str × Str)} (W : Wd w s.heap) (hA : AOk 1 A) (hx : HObj w s.heap x l) (hl : s.heap.IsList l items) (hk : HL s.heap items kvs) (hz : items.size ≤ 1000)
  (k : Rets s R fun v s' => ∃ D ys c, v = .ref D ∧ s'.heap.get? D = some (lst ys c) ∧ s.heap.get? D = none ∧ Paired (fun kv : Str × Str => isS kv.1) kvs ys.toList) :
  codeAny (model PP w) A (.call (.ref 165) ⟨[.ref x], []⟩) R s := by
  have hA1 : ∀ env, AOk 0 (A.deeper env) := fun env => AOk.deep hA
  refine enterK (binds := [("self", .ref x)]) W hA.room (by rfl) (by rfl) (by rfl) (BindsTo.of_eq rfl) (fun s H => ?_)
  repeat walk_at "g8"
  rename Inv.p _ _ => H
  refine o_hd H (hx.keeps (St.keep H)) (fun s H => ?_)
  refine ct_listT H (keepL hl (St.keep H)) (hA1 _).hh hz (by rfl) (by rfl) (fun i a b => ∃ kv, kvs[i]? = some kv ∧ isS kv.1 a) ?_ (fun ν i o => ∃ kv, kvs[i]? = some kv ∧ ((true = true ∧ ∃ y, o = some y ∧ isS kv.1 y) ∨ (true = false ∧ o = none)))
    (fun _ _ _ _ _ h => h) ?_ (post_plain fun D ys c ν s' H' hL => ?_)
  · intro i v hv
    have hi : i < kvs.length := by rw [← hk.1]; exact (Array.getElem?_eq_some_iff.mp hv).1
    obtain ⟨tp, tk, tv, e1, e2⟩ := (hk.keeps (St.keep H)).2 i _ (List.getElem?_eq_getElem hi)
    exact ⟨tp, _, _, Option.some.inj (hv.symm.trans e1), ⟨_, e2, rfl, _, rfl⟩, _, List.getElem?_eq_getElem hi, _, rfl⟩
  · rintro C i va vb mm σc s hi ⟨kv, hkv, tv, rfl⟩ hmm Hc
    clear H
    repeat walk_at "g8"
    refine ⟨fun hc => ?_, fun hc => (nomatch hc)⟩
    repeat walk_at "g8"
    exact ⟨[], by assumption, kv, hkv, .inl ⟨rfl, _, rfl, _, rfl⟩⟩
  · refine St.back k H' ⟨D, ys, c, rfl, St.led H' _ (.head _), St.ledB H' _ (.head _), ?_⟩
    have := hL.paired (p := fun _ => true) (xs := kvs) (G := fun kv : Str × Str => isS kv.1) hk.1 fun i o h => h
    rw [List.filter_eq_self.mpr (fun _ _ => rfl)] at this
    exact this

theorem strsAre_of : ∀ {L : List Str} {vs : List Value}, Paired isS L vs → StrsAre vs L
  | _, _, .nil => .nil
  | _, _, .cons ⟨t, e⟩ r => by subst e; exact .cons _ _ (strsAre_of r)
theorem paired_map {α β : Type} {G : β → Value → Prop} {f : α → β} : ∀ {L : List α} {vs : List Value}, Paired (fun a => G (f a)) L vs → Paired G (L.map f) vs
  | _, _, .nil => .nil
  | _, _, .cons h r => .cons h (paired_map r)
@[reducible] def ik (w : World) : KeyKind PP w Int := intKind PP w
def DObj (w : World) (o : Obj) (kvs : List (Int × Value)) : Prop := ∃ es ep, o.ExactDict ∧ o.data = .dict es ep ∧ KeysOf (ik w) es ∧ Pairs (ik w) es.toList kvs ∧ (kvs.map (·.1)).Nodup
section
variable {w : World} {A : Around} {M : Model} {E : Value → Shared → Prop} {s : Shared} {env : Env} {Γ : Fd} {m : Str → Option Value} {σ : Led}
theorem isI {w : World} (k : Int) (u : Tok) : (ik w).is k (.int k u) = true := by
  show Value.isInt k (.int k u) = true
  simp [Value.isInt]
theorem DObj.at {o : Obj} {kvs : List (Int × Value)} (h : DObj w o kvs) {hp : Heap} {d : Addr} (e : hp.get? d = some o) : hp.DictOf (ik w) d kvs := let ⟨es, ep, r⟩ := h; ⟨o, es, ep, e, r⟩
theorem DObj.nil : DObj w (dictOf [] 0) [] := ⟨#[], 0, ⟨rfl, rfl, rfl⟩, rfl, fun e he => by simp at he, .nil, .nil⟩
theorem it_dict {value slice : Expr} {d : Addr} {o : Obj} {kvs : List (Int × Value)} {k : Int} {u : Tok} {v : Value} {Q : Value → Shared → Prop} {I : Inv w} (H : I.p s) (hd : s.heap.get? d = some o) (ho : DObj w o kvs) (hv : valueAt kvs k = some v) (h : ∀ s, I.p s → Q v s)
    (hs : ∀ a b p, slice ≠ .Slice a b none p := by intro _ _ _ e; cases e) : wpAny (model PP w) A (subscriptTail value slice (.ref d) (.int k u)) Q E s := by
  have hm := ho.at hd
  exact tail_any hm.typeIs slot_dict_getitem.lookup (wpAny_getItem_of (knd := ik w) (k := k) (isI k u) hm.mapOf hv (h _ (I.tok H))) (slOther hs _ _)
theorem set_dict {d : Addr} {o : Obj} {kvs : List (Int × Value)} {k : Int} {u : Tok} {v : Value} {Q : Unit → Shared → Prop} (H : (StI Γ m σ).p s) (hm : (d, o) ∈ σ) (ho : DObj w o kvs) (hz : kvs.length ≤ 1000)
    (h : ∀ o' s, (StI Γ m (upd σ d o')).p s → DObj w o' (stored kvs k v) → Q () s) : wpAny (model PP w) A (setItem (.ref d) (.int k u) v) Q E s :=
  wpAny_setItem_pairs (hsz := Nat.le_trans hz (by decide)) (knd := ik w) (k := k) (isI k u) (ho.at (St.led H _ hm)) fun h' hd hs => by
    obtain ⟨o', es, ep, e1, r⟩ := hd
    exact h o' _ (St.upd (t := s.toks + 1) H hm (fun b x hb e => (hs.2 b hb).trans e) e1) ⟨es, ep, r⟩
theorem in_strs {l : Addr} {items : Array Value} {L : List Str} {c : Nat} {k : Str} {t : Tok} {Q : Value → Shared → Prop} (hl : s.heap.get? l = some (lst items c)) (hi : StrsAre items.toList L)
    (h : Q (.bool (L.any (· == k))) s) : wpAny (model PP w) A (compareOp .In (.str k t) (.ref l)) Q E s :=
  in_list_strs (vs := items.toList) (by rw [Array.toArray_toList]; exact ⟨_, hl, rfl, _, rfl⟩) hi h
theorem nin_strs {l : Addr} {items : Array Value} {L : List Str} {c : Nat} {k : Str} {t : Tok} {Q : Value → Shared → Prop} (hl : s.heap.get? l = some (lst items c)) (hi : StrsAre items.toList L)
    (h : Q (.bool (!(L.any (· == k)))) s) : wpAny (model PP w) A (compareOp .NotIn (.str k t) (.ref l)) Q E s :=
  notin_list_strs (vs := items.toList) (by rw [Array.toArray_toList]; exact ⟨_, hl, rfl, _, rfl⟩) hi h
theorem x_atup {elts : List Expr} {k : Nat} {tpos : Pos} {value : Expr} {pos : Pos} {rest : List Stmt} {Q : Flow → Shared → Prop}
    (h : wpAny M A (eval value env) (fun v s₁ => wpAny M A (assign (.Tuple elts k tpos) env v) (fun _ s₂ => wpAny M A (execs rest env) Q E s₂) E s₁) E s)
    (hs : swapsWithSole [.Tuple elts k tpos] value pos.line env = pure false := by rfl) (hw : swappedStores [.Tuple elts k tpos] value env = pure none := by rfl) :
    wpAny M A (execs (.Assign [.Tuple elts k tpos] value pos :: rest) env) Q E s := wpAny_execs_cons (Assign_Tuple h hs hw)
theorem a_pairK {x y : Str} {px py tp : Pos} {k : Nat} {t : Addr} {a b : Value} {Q : Unit → Shared → Prop} (hh : A.handled = none) (H : (StI Γ m σ).p s) (ht : s.heap.get? t = some (tup #[a, b]))
    (h : ∀ s, (StI Γ m σ).p s → wpAny (model PP w) A (storeName Γ.env x a) (fun _ s₁ => wpAny (model PP w) A (storeName Γ.env y b) Q E s₁) E s) :
    wpAny (model PP w) A (assign (.Tuple [.Name x px, .Name y py] k tp) Γ.env (.ref t)) Q E s := a_pair hh H ⟨_, ht, rfl, _, rfl⟩ h
theorem unpack2 {t : Addr} {a b : Value} {Q : List Value → Shared → Prop} (hh : A.handled = none) (H : (StI Γ m σ).p s) (ht : s.heap.get? t = some (tup #[a, b])) (h : ∀ s, (StI Γ m σ).p s → Q [a, b] s) : wpAny (model PP w) A (unpackItems (.ref t) 2 none) Q E s := by
  have hT : s.heap.IsTuple t #[a, b] := ⟨_, ht, rfl, _, rfl⟩
  have e : (#[a, b] : Array Value).size = 2 := rfl
  have := wpAny_unpackItems_tuple (prog := PP) (w := w) (E := E) (Q := Q) hh hT fun h' he => h _ (St.ext (t := s.toks) H (h := h') (fun b o e => he b o (Nat.ne_of_lt (Heap.lt_size e)) e))
  rw [e] at this
  exact this
theorem in2 {f g : Value → Sem Unit} {a b : Value} {Q : Unit → Shared → Prop} (h : wpAny (model PP w) A (g b) (fun _ s₂ => wpAny (model PP w) A (f a) Q E s₂) E s) : wpAny (model PP w) A (assignInOrder [g, f] [b, a]) Q E s :=
  wpAny_assignInOrder_more (wpAny_mono h (fun _ s₂ q => wpAny_assignInOrder_more (wpAny_mono q (fun _ s₃ q => wpAny_assignInOrder_none q) fun _ _ z => z)) fun _ _ z => z)
/-- x, y = (a, b): the stores the other way round -/
theorem x_swap2 {x y : Str} {px py tpos pos : Pos} {k : Nat} {value : Expr} {rest : List Stmt} {Q : Flow → Shared → Prop}
    (hh : A.handled = none) (hs : swapsWithSole [.Tuple [.Name x px, .Name y py] k tpos] value pos.line Γ.env = pure false) (hw : swappedStores [.Tuple [.Name x px, .Name y py] k tpos] value Γ.env = pure (some [x, y]))
    (h : wpAny (model PP w) A (eval value Γ.env) (fun v s₁ => ∃ m σ t a b, v = .ref t ∧ (StI Γ m σ).p s₁ ∧ s₁.heap.get? t = some (tup #[a, b]) ∧ ∀ s, (StI Γ m σ).p s →
      wpAny (model PP w) A (storeName Γ.env y b) (fun _ s₂ => wpAny (model PP w) A (storeName Γ.env x a) (fun _ s₃ => wpAny (model PP w) A (execs rest Γ.env) Q E s₃) E s₂) E s) E s) :
    wpAny (model PP w) A (execs (.Assign [.Tuple [.Name x px, .Name y py] k tpos] value pos :: rest) Γ.env) Q E s := by
  have key : ∀ (v : Value) (s₁ : Shared), (∃ m σ t a b, v = .ref t ∧ (StI Γ m σ).p s₁ ∧ s₁.heap.get? t = some (tup #[a, b]) ∧ ∀ s, (StI Γ m σ).p s →
      wpAny (model PP w) A (storeName Γ.env y b) (fun _ s₂ => wpAny (model PP w) A (storeName Γ.env x a) (fun _ s₃ => wpAny (model PP w) A (execs rest Γ.env) Q E s₃) E s₂) E s) →
      wpAny (model PP w) A (unpackItems v 2 none) (fun items s₂ => wpAny (model PP w) A (assignInOrder [fun v => bindName Γ.env y v, fun v => bindName Γ.env x v] items.reverse) (fun _ s₃ => wpAny (model PP w) A (execs rest Γ.env) Q E s₃) E s₂) E s₁ := by
    rintro v s₁ ⟨m, σ, t, a, b, rfl, H, ht, q⟩
    refine unpack2 hh H ht fun s' H' => ?_
    rw [show ([a, b] : List Value).reverse = [b, a] from rfl]
    exact in2 (bindName_ (wpAny_mono (q _ H') (fun _ s₂ q => bindName_ q) fun _ _ z => z))
  exact wpAny_execs_cons (Assign_Tuple_swapped (names := [x, y]) (wpAny_mono h (fun v s₁ q => key v s₁ q) fun _ _ z => z) hs hw)
end
local macro_rules | `(tactic| walk_at "g9") => `(tactic| first
  | walk_at "g8"
  | ((with_reducible refine x_atup ?_ ?a ?b); (case a | b => rfl)))

structure TabK (w : World) (h : Heap) (N : Nat) (sy : Nat → Int) (lt rt : Nat → Nat) (val : Nat → List Str) (ls ds dh : Addr) : Prop where
  sym : ∃ items, h.IsList ls items ∧ ∀ p, p ≤ N → ∃ t, items[p]? = some (.int (sy p) t)
  sides : ∃ o kvs, h.get? ds = some o ∧ DObj w o kvs ∧ ∀ p : Nat, p < N → sy p < 256 → ∃ tp tl tr, valueAt kvs (p : Int) = some (.ref tp) ∧ h.get? tp = some (tup #[.int (lt p) tl, .int (rt p) tr])
  held : ∃ o kvs, h.get? dh = some o ∧ DObj w o kvs ∧ ∀ p : Nat, p < N → ∃ lp items c, valueAt kvs (p : Int) = some (.ref lp) ∧ h.get? lp = some (lst items c) ∧ StrsAre items.toList (val p)
theorem TabK.keeps {w : World} {h h' : Heap} {N : Nat} {sy : Nat → Int} {lt rt : Nat → Nat} {val : Nat → List Str} {ls ds dh : Addr} (T : TabK w h N sy lt rt val ls ds dh) (k : h.StaysIn h') : TabK w h' N sy lt rt val ls ds dh where
  sym := let ⟨i, a, b⟩ := T.sym; ⟨i, keepL a k, b⟩
  sides := let ⟨o, kvs, a, b, c⟩ := T.sides; ⟨o, kvs, k _ _ a, b, fun p hp hs => let ⟨tp, tl, tr, x, y⟩ := c p hp hs; ⟨tp, tl, tr, x, k _ _ y⟩⟩
  held := let ⟨o, kvs, a, b, c⟩ := T.held; ⟨o, kvs, k _ _ a, b, fun p hp => let ⟨lp, i, cc, x, y, z⟩ := c p hp; ⟨lp, i, cc, x, k _ _ y, z⟩⟩
def kwF (sy : Nat → Int) (lt rt : Nat → Nat) (val : Nat → List Str) : Nat → Nat → Str → Str → Nat × Str × Str
  | 0, p, y, n => (p, y, n)
  | f + 1, p, y, n =>
    if sy p < 256 then
      if sy p = 19 then kwF sy lt rt val f (if (val (lt p)).any (· == n) then rt p else lt p) y n
      else if sy p = 18 then kwF sy lt rt val f (if (val (lt p)).any (· == y) then lt p else rt p) y n
      else if (val (if sy p = 29 then rt p else lt p)).any (· == y) then kwF sy lt rt val f (if sy p = 29 then rt p else lt p) y n
      else kwF sy lt rt val f (if sy p = 29 then lt p else rt p) n y
    else (p, y, n)
def WJ (sy : Nat → Int) (lt rt : Nat → Nat) (val : Nat → List Str) (N : Nat) (r : Nat × Str × Str) (ls ds dh : Addr) (n : Nat) (m : Str → Option Value) (σ : List (Addr × Obj)) : Prop :=
  ∃ (p f : Nat) (y q : Str), n = N - p ∧ p < N ∧ N - p ≤ f ∧ kwF sy lt rt val f p y q = r ∧ σ = [] ∧ m "symbols" = some (.ref ls) ∧ m "sides" = some (.ref ds) ∧ m "held" = some (.ref dh) ∧
    (∃ t, m "yes" = some (.str y t)) ∧ (∃ t, m "no" = some (.str q t)) ∧ ∃ t, m "place" = some (.int p t)
theorem WJ.elim {sy : Nat → Int} {lt rt : Nat → Nat} {val : Nat → List Str} {N : Nat} {r : Nat × Str × Str} {ls ds dh : Addr} {n : Nat} {m : Str → Option Value} {σ : List (Addr × Obj)} {G : Prop} (h : WJ sy lt rt val N r ls ds dh n m σ)
    (k : ∀ (p f : Nat) (y q : Str) (ty tn tp : Tok), n = N - p → p < N → N - p ≤ f + 1 → kwF sy lt rt val (f + 1) p y q = r → σ = [] → m "symbols" = some (.ref ls) → m "sides" = some (.ref ds) → m "held" = some (.ref dh) → m "yes" = some (.str y ty) → m "no" = some (.str q tn) → m "place" = some (.int p tp) → G) : G := by
  obtain ⟨p, f, y, q, e, hp, hf, hk, e2, ms, md, mh, ⟨ty', my⟩, ⟨tn', mn⟩, tp, mp⟩ := h
  obtain ⟨f, rfl⟩ : ∃ g, f = g + 1 := ⟨f - 1, by omega⟩
  exact k p f y q ty' tn' tp e hp hf hk e2 ms md mh my mn mp
theorem walkEnd {Γ : Fd} {Rr : Result → Shared → Prop} {K : Flow → Shared → Prop} {J : Nat → (Str → Option Value) → List (Addr × Obj) → Prop} {sy : Nat → Int} {lt rt : Nat → Nat} {val : Nat → List Str} {N p f : Nat} {r : Nat × Str × Str} {ls ds dh : Addr} {m : Str → Option Value} {σ : List (Addr × Obj)} {s : Shared}
    (H : (StI Γ m σ).p s) (hp : p < N) (hf : N - p ≤ f + 1) (hK : K = TurnQ Rr fun s' => ∃ n' m' σ', n' < N - p ∧ (StI Γ m' σ').p s' ∧ J n' m' σ') (hJ : J = WJ sy lt rt val N r ls ds dh)
    (p' : Nat) (y' q' : Str) {m' : Str → Option Value} {s' : Shared} {ty tn tp : Tok} (c1 : p < p') (c2 : p' < N) (hk : kwF sy lt rt val f p' y' q' = r) (H' : (StI Γ m' []).p s')
    (m1 : m' "symbols" = some (.ref ls)) (m2 : m' "sides" = some (.ref ds)) (m3 : m' "held" = some (.ref dh)) (m4 : m' "yes" = some (.str y' ty)) (m5 : m' "no" = some (.str q' tn)) (m6 : m' "place" = some (.int p' tp)) : K .next s' := by
  have o := Nat.sub_lt_sub_left hp c1
  subst hK
  subst hJ
  exact tq_next ⟨N - p', m', [], o, H', p', f, y', q', rfl, c2, Nat.le_of_lt_succ (Nat.lt_of_lt_of_le o hf), hk, rfl, m1, m2, m3, ⟨_, m4⟩, ⟨_, m5⟩, _, m6⟩
theorem spec_walk {w : World} {A : Around} {s : Shared} {R : Result → Shared → Prop} {N : Nat} {sy : Nat → Int} {lt rt : Nat → Nat} {val : Nat → List Str} {ls ds dh : Addr} {yes no : Str} {ty tn : Tok} (W : Wd w s.heap) (hA : AOk 2 A) (T : TabK w s.heap N sy lt rt val ls ds dh) (hN : 0 < N) (hN' : N ≤ 1000)
  (hch : ∀ p, p < N → sy p < 256 → p < lt p ∧ lt p < N ∧ p < rt p ∧ rt p < N)
  (k : Rets s R fun v s' => ∃ t tp ty tn, v = .ref t ∧ s'.heap.get? t = some (tup #[.int (kwF sy lt rt val N 0 yes no).1 tp, .str (kwF sy lt rt val N 0 yes no).2.1 ty, .str (kwF sy lt rt val N 0 yes no).2.2 tn])) :
  codeAny (model PP w) A (.call (.ref 248) ⟨[.ref ls, .ref ds, .ref dh, .str yes ty, .str no tn], []⟩) R s := by
  have hA1 : ∀ env, AOk 1 (A.deeper env) := fun env => AOk.deep hA
  refine enterK (binds := [("symbols", .ref ls), ("sides", .ref ds), ("held", .ref dh), ("yes", .str yes ty), ("no", .str no tn)]) W hA.room (by rfl) (by rfl) (by rfl) (BindsTo.of_eq rfl) (fun s H => ?_)
  repeat walk_at "g9"
  rename Inv.p _ _ => H
  generalize hr : kwF sy lt rt val N 0 yes no = r at k
  refine gen fun Kf hKf => ?_
  obtain ⟨J, hJ⟩ : ∃ J, J = WJ sy lt rt val N r ls ds dh := ⟨_, rfl⟩
  refine w_while H J N
    (by rw [hJ]; exact ⟨0, N, yes, no, rfl, hN, Nat.le_refl _, hr, rfl, by walk_at "lk", by walk_at "lk", by walk_at "lk", ⟨_, by walk_at "lk"⟩, ⟨_, by walk_at "lk"⟩, _, by walk_at "lk"⟩) ?_
  clear H
  intro n m σ s h H
  rw [hJ] at h
  refine WJ.elim h fun p f y q ty' tn' tp e1 hp hf hk e2 ms md mh my mn mp => ?_
  subst e1 e2
  clear h
  obtain ⟨items, hl, hsy⟩ := T.sym
  obtain ⟨tsy, hsyp⟩ := hsy p (Nat.le_of_lt hp)
  have p0 : (0 : Int) ≤ (p : Int) := Int.natCast_nonneg p
  have p63 : (p : Int) < 2 ^ 63 := by omega
  repeat walk_at "g9"
  rename Inv.p _ _ => H
  refine it_lst (keepL hl (St.keep H)) p0 p63 hsyp ?_
  repeat walk_at "g9"
  rename Inv.p _ _ => H
  refine ⟨Inv.wd _ H, o_ref H (fun R k => spec_ISTERMINAL (Inv.wd _ H) (hA1 _).room k) ?_⟩
  rintro v s H rfl
  repeat walk_at "g9"
  refine ⟨fun hc => ?_, fun hc => ?_⟩
  · have hlt : sy p < 256 := of_decide_eq_true hc
    obtain ⟨c1, c2, c3, c4⟩ := hch p hp hlt
    refine gen fun K hK => ?_
    rename Inv.p _ _ => H
    have fin := walkEnd H hp hf hK hJ
    clear hK hJ
    clear J
    obtain ⟨od, kvd, hd1, hd2, hd3⟩ := T.sides
    obtain ⟨tpl, tl, tr, hv1, hv2⟩ := hd3 p hp hlt
    obtain ⟨oh, kvh, hh1, hh2, hh3⟩ := T.held
    repeat walk_at "g9"
    rename Inv.p _ _ => H
    refine it_dict H (St.keep H _ _ hd1) hd2 hv1 (fun s H => ?_)
    refine a_pairK (hA1 _).hh H (St.keep H _ _ hv2) (fun s H => ?_)
    clear hsy
    repeat walk_at "g9"
    rename Inv.p _ _ => H
    refine it_lst (keepL hl (St.keep H)) p0 p63 hsyp ?_
    repeat walk_at "g9"
    refine ⟨fun h19 => ?_, fun h19 => ?_⟩
    · have h19 : sy p = 19 := by simpa using h19
      repeat walk_at "g9"
      obtain ⟨lp, li, lc, x1, x2, x3⟩ := hh3 (lt p) c2
      rename Inv.p _ _ => H
      refine it_dict H (St.keep H _ _ hh1) hh2 x1 (fun s H => ?_)
      refine in_strs (St.keep H _ _ x2) x3 ?_
      repeat walk_at "g9"
      refine ⟨fun hin => ?_, fun hin => ?_⟩
      · repeat walk_at "g9"
        exact fin (rt p) y q c3 c4 (by rw [kwF, if_pos hlt, if_pos h19, if_pos hin] at hk; exact hk) (by assumption) (by walk_at "lk") (by walk_at "lk") (by walk_at "lk") (by walk_at "lk") (by walk_at "lk") (by walk_at "lk")
      · repeat walk_at "g9"
        exact fin (lt p) y q c1 c2 (by rw [kwF, if_pos hlt, if_pos h19, if_neg (by rw [hin]; decide)] at hk; exact hk) (by assumption) (by walk_at "lk") (by walk_at "lk") (by walk_at "lk") (by walk_at "lk") (by walk_at "lk") (by walk_at "lk")
    have h19 : ¬ sy p = 19 := by simpa using h19
    repeat walk_at "g9"
    rename Inv.p _ _ => H
    refine it_lst (keepL hl (St.keep H)) p0 p63 hsyp ?_
    repeat walk_at "g9"
    refine ⟨fun h18 => ?_, fun h18 => ?_⟩
    · have h18 : sy p = 18 := by simpa using h18
      repeat walk_at "g9"
      obtain ⟨lp, li, lc, x1, x2, x3⟩ := hh3 (lt p) c2
      rename Inv.p _ _ => H
      refine it_dict H (St.keep H _ _ hh1) hh2 x1 (fun s H => ?_)
      refine in_strs (St.keep H _ _ x2) x3 ?_
      repeat walk_at "g9"
      refine ⟨fun hin => ?_, fun hin => ?_⟩
      · repeat walk_at "g9"
        exact fin (lt p) y q c1 c2 (by rw [kwF, if_pos hlt, if_neg h19, if_pos h18, if_pos hin] at hk; exact hk) (by assumption) (by walk_at "lk") (by walk_at "lk") (by walk_at "lk") (by walk_at "lk") (by walk_at "lk") (by walk_at "lk")
      · repeat walk_at "g9"
        exact fin (rt p) y q c3 c4 (by rw [kwF, if_pos hlt, if_neg h19, if_pos h18, if_neg (by rw [hin]; decide)] at hk; exact hk) (by assumption) (by walk_at "lk") (by walk_at "lk") (by walk_at "lk") (by walk_at "lk") (by walk_at "lk") (by walk_at "lk")
    have h18 : ¬ sy p = 18 := by simpa using h18
    repeat walk_at "g9"
    rename Inv.p _ _ => H
    refine it_lst (keepL hl (St.keep H)) p0 p63 hsyp ?_
    repeat walk_at "g9"
    refine ⟨fun h29 => ?_, fun h29 => ?_⟩
    · have h29 : sy p = 29 := by simpa using h29
      repeat walk_at "g9"
      rename Inv.p _ _ => H
      refine a_pairK (hA1 _).hh H (St.led H _ (.head _)) (fun s H => ?_)
      replace H : (StI _ _ []).p s := St.tl H
      repeat walk_at "g9"
      obtain ⟨lp, li, lc, x1, x2, x3⟩ := hh3 (rt p) c4
      rename Inv.p _ _ => H
      refine it_dict H (St.keep H _ _ hh1) hh2 x1 (fun s H => ?_)
      refine in_strs (St.keep H _ _ x2) x3 ?_
      repeat walk_at "g9"
      refine ⟨fun hin => ?_, fun hin => ?_⟩
      · repeat walk_at "g9"
        exact fin (rt p) y q c3 c4 (by rw [kwF, if_pos hlt, if_neg h19, if_neg h18, if_pos h29, if_pos hin] at hk; exact hk) (by assumption) (by walk_at "lk") (by walk_at "lk") (by walk_at "lk") (by walk_at "lk") (by walk_at "lk") (by walk_at "lk")
      · repeat walk_at "g9"
        refine x_swap2 (hA1 _).hh (by rfl) (by rfl) ?_
        repeat walk_at "g9"
        refine ⟨_, _, _, _, _, rfl, by assumption, St.led (by assumption) _ (.head _), fun s H => ?_⟩
        replace H : (StI _ _ []).p s := St.tl H
        repeat walk_at "g9"
        exact fin (lt p) q y c1 c2 (by rw [kwF, if_pos hlt, if_neg h19, if_neg h18, if_pos h29, if_pos h29, if_neg (by rw [hin]; decide)] at hk; exact hk) (by assumption) (by walk_at "lk") (by walk_at "lk") (by walk_at "lk") (by walk_at "lk") (by walk_at "lk") (by walk_at "lk")
    · have h29 : ¬ sy p = 29 := by simpa using h29
      repeat walk_at "g9"
      rename Inv.p _ _ => H
      refine a_pairK (hA1 _).hh H (St.led H _ (.head _)) (fun s H => ?_)
      replace H : (StI _ _ []).p s := St.tl H
      repeat walk_at "g9"
      obtain ⟨lp, li, lc, x1, x2, x3⟩ := hh3 (lt p) c2
      rename Inv.p _ _ => H
      refine it_dict H (St.keep H _ _ hh1) hh2 x1 (fun s H => ?_)
      refine in_strs (St.keep H _ _ x2) x3 ?_
      repeat walk_at "g9"
      refine ⟨fun hin => ?_, fun hin => ?_⟩
      · repeat walk_at "g9"
        exact fin (lt p) y q c1 c2 (by rw [kwF, if_pos hlt, if_neg h19, if_neg h18, if_neg h29, if_pos hin] at hk; exact hk) (by assumption) (by walk_at "lk") (by walk_at "lk") (by walk_at "lk") (by walk_at "lk") (by walk_at "lk") (by walk_at "lk")
      · repeat walk_at "g9"
        refine x_swap2 (hA1 _).hh (by rfl) (by rfl) ?_
        repeat walk_at "g9"
        refine ⟨_, _, _, _, _, rfl, by assumption, St.led (by assumption) _ (.head _), fun s H => ?_⟩
        replace H : (StI _ _ []).p s := St.tl H
        repeat walk_at "g9"
        exact fin (rt p) q y c3 c4 (by rw [kwF, if_pos hlt, if_neg h19, if_neg h18, if_neg h29, if_neg h29, if_neg (by rw [hin]; decide)] at hk; exact hk) (by assumption) (by walk_at "lk") (by walk_at "lk") (by walk_at "lk") (by walk_at "lk") (by walk_at "lk") (by walk_at "lk")
  · have hge : ¬ sy p < 256 := of_decide_eq_false hc
    repeat walk_at "g9"
    rename Inv.p _ _ => H
    subst hKf
    refine St.back k H ⟨_, tp, ty', tn', rfl, ?_⟩
    have : r = (p, y, q) := by rw [← hk]; unfold kwF; rw [if_neg hge]
    rw [this]
    exact St.led H _ (.head _)

/-- the different ones, each once -/
def uq (l : List Str) : List Str := l.foldl (fun acc k => if acc.contains k then acc else acc ++ [k]) []
theorem uq_snoc (l : List Str) (k : Str) : uq (l ++ [k]) = if (uq l).contains k then uq l else uq l ++ [k] := by
  unfold uq
  rw [List.foldl_append]; rfl
theorem uq_len : ∀ l : List Str, (uq l).length ≤ l.length := fun l => by
  have : ∀ (l : List Str) (acc : List Str), (l.foldl (fun acc k => if acc.contains k then acc else acc ++ [k]) acc).length ≤ acc.length + l.length := by
    intro l
    induction l with
    | nil => intro acc; simp
    | cons a r ih =>
      intro acc
      rw [List.foldl_cons]
      refine Nat.le_trans (ih _) ?_
      split <;> simp <;> omega
  simpa [uq] using this l []
@[reducible] def sk (w : World) : KeyKind PP w Str := strKind PP w
def SObj (w : World) (o : Obj) (l : List Str) : Prop := ∃ es ep t, o.ExactSet ∧ o.data = .set es ep t ∧ ElemsOf (sk w) es.toList ∧ (∀ k, (uq l).contains k = true ↔ ∃ e ∈ es.toList, (sk w).is k e.2 = true) ∧ es.size < scanBound ∧ t.fits es.size = true ∧ es.size = (uq l).length
theorem SObj.at {w : World} {o : Obj} {l : List Str} (S : SObj w o l) {h : Heap} {a : Addr} (e : h.get? a = some o) : h.SetOf (sk w) a (fun k => (uq l).contains k) (uq l).length := let ⟨es, ep, t, r⟩ := S; ⟨o, es, ep, t, e, r⟩
theorem isT {w : World} (k : Str) (u : Tok) : (sk w).is k (.str k u) = true := by
  show Value.isStrOf k (.str k u) = true
  simp [Value.isStrOf]
section
variable {w : World} {A : Around} {M : Model} {E : Value → Shared → Prop} {Γ : Fd} {m : Str → Option Value} {σ : List (Addr × Obj)} {b : Shared}
theorem compTurn_set (elt target iter : Expr) (scope : Scope) (pos : Pos) (it acc : Value) (env : Env) :
    compTurn (.SetComp elt [⟨target, iter, [], 0⟩] scope pos) 0 it acc env = (standAt iter.pos >>= fun _ => pyNext it >>= fun r => match r with
      | none => pure (.done .next)
      | some v => letOwnedTupleGo target it v >>= fun _ => assign target env v >>= fun _ =>
        (eval elt env >>= fun x => standAt elt.pos >>= fun _ => call (.builtin "set.add") [acc, x] >>= fun _ => pure ()) >>= fun _ =>
          again (.compLoop (.SetComp elt [⟨target, iter, [], 0⟩] scope pos) 0 it acc env)) := by rfl
theorem loopS {prog : Program} {R : Result → Shared → Prop} {s : Shared} {elt iter : Expr} {x : Str} {px : Pos} {scope : Scope} {pos : Pos} {it acc : Value} {env : Env} (I : Nat → Shared → Prop)
    (turn : ∀ n s, I n s → wpAny (model prog w) A (pyNext it) (fun r s₁ => match r with
      | none => R (.ok .next) s₁
      | some v => wpAny (model prog w) A (storeName env x v) (fun _ s₂ => wpAny (model prog w) A (eval elt env) (fun y s₄ => wpAny (model prog w) A (call (.builtin "set.add") [acc, y]) (fun _ s₅ => ∃ m, m < n ∧ I m s₅) (fun _ _ => False) s₄) (fun _ _ => False) s₂) (fun _ _ => False) s₁) (fun _ _ => False) s)
    (n : Nat) (h : I n s) : codeAny (model prog w) A (.compLoop (.SetComp elt [⟨.Name x px, iter, [], 0⟩] scope pos) 0 it acc env) R s := by
  refine codeAny_loop rfl I (fun n s hI => ?_) n h
  show wpAny _ A ((compTurn (.SetComp elt [⟨.Name x px, iter, [], 0⟩] scope pos) 0 it acc env).onRaise (fun x => do noteFrame x env; theTreesLotGoes x)) _ _ s
  refine wpAny_noted (wpAny_mono (E := fun _ _ => False) ?_ (fun _ _ z => z) fun _ _ z => z.elim)
  rw [compTurn_set]
  refine wpAny_bind (wpAny_standAt (wpAny_bind (wpAny_mono (turn n s hI) (fun r s₁ q => ?_) fun _ _ z => z)))
  cases r with
  | none => exact wpAny_pure q
  | some v =>
    refine wpAny_bind (wpAny_pure (wpAny_bind (wpAny_assign_Name (wpAny_mono q (fun _ s₂ q => wpAny_bind (wpAny_bind (wpAny_mono q (fun y s₄ q => wpAny_bind (wpAny_standAt (wpAny_bind (wpAny_mono q (fun _ s₅ q => wpAny_pure (wpAny_pure ⟨rfl, q⟩)) fun _ _ z => z)))) fun _ _ z => z))) fun _ _ z => z))))
theorem startS {prog : Program} {R : Result → Shared → Prop} {s : Shared} {elt target iter : Expr} {ifs : List Expr} {scope : Scope} {pos : Pos} {it acc : Value} {env : Env}
    (h0 : codeAny (model prog w) A (.compLoop (.SetComp elt [⟨target, iter, ifs, 0⟩] scope pos) 0 it acc env) R s)
    (h : wpAny (model prog w) A (pyIter it) (fun it' s' => codeAny (model prog w) A (.compLoop (.SetComp elt [⟨target, iter, ifs, 0⟩] scope pos) 0 it' acc env) R s') (fun _ _ => False) s) :
    codeAny (model prog w) A (.compStart (.SetComp elt [⟨target, iter, ifs, 0⟩] scope pos) 0 it acc env) R s := by
  refine codeAny_of_tree ?_
  show wpAny _ _ ((compStart (.SetComp elt [⟨target, iter, ifs, 0⟩] scope pos) 0 it acc env).onRaise (fun x => do noteFrame x env; standAt theWindowsPlace)) _ _ s
  refine wpAny_notedAt (wpAny_mono (E := fun _ _ => False) ?_ (fun _ _ z => z) fun _ _ z => z.elim)
  unfold compStart
  show wpAny _ _ (ask >>= _) _ _ s
  refine wpAny_bind (wpAny_askSetting (wpAny_ite ?_))
  split
  · first
      | exact wpAny_bind (wpAny_pure (wpAny_pure (And.intro rfl h0)))
      | exact wpAny_pure (And.intro rfl h0)
  · first
      | exact wpAny_bind (wpAny_rule (wpAny_bind (wpAny_standAt (wpAny_bind (wpAny_mono h (fun it' s' h' => wpAny_pure (And.intro rfl h')) fun _ _ x => x)))))
      | (refine wpAny_bind (wpAny_rule ?_); show wpAny _ _ (standAt iter.pos >>= _) _ _ s; exact wpAny_bind (wpAny_standAt (wpAny_bind (wpAny_mono h (fun it' s' h' => wpAny_pure (And.intro rfl h')) fun _ _ x => x))))
end

section
variable {w : World} {A : Around} {M : Model} {E : Value → Shared → Prop} {Γ : Fd} {m : Str → Option Value} {σ : List (Addr × Obj)} {b : Shared}
@[reducible] def st0 (led : Bool) : Obj := { cls := .type "set", dict := none, data := .set #[] 0 (.fresh 0 0 led), slots := #[] }
theorem SObj.nil {led : Bool} : SObj w (st0 led) [] := ⟨#[], 0, _, ⟨rfl, rfl, rfl⟩, rfl, fun e he => by simp at he, fun k => by simp [uq], by decide, by rfl, rfl⟩
theorem o_sadd {pre post : Led} {D : Addr} {o : Obj} {l : List Str} {k : Str} {t : Tok} {Q : Value → Shared → Prop} (H : (StI Γ m (pre ++ (D, o) :: post)).p b) (hS : SObj w o l) (hz : l.length ≤ 1000)
    (h : ∀ o' s, (StI Γ m (pre ++ (D, o') :: post)).p s → SObj w o' (l ++ [k]) → Q .none s) : wpAny (model PP w) A (call (.builtin "set.add") [.ref D, .str k t]) Q E b := by
  have hn : (uq l).length + 1 < scanBound := by
    have := uq_len l
    show _ < 4096
    omega
  refine call_set_add (knd := sk w) (k := k) (isT k t) rfl (hS.at (St.led H (D, o) (by simp))) hn fun h' hs hS' => ?_
  obtain ⟨o', es, ep, tb, e1, e2, e3, e4, e5, e6, e7, e8⟩ := hS'
  refine h o' _ (St.put (t := b.toks + 1) H (fun a x hb e => (hs.2 a hb).trans e) e1) ⟨es, ep, tb, e2, e3, e4, fun k' => ?_, e6, e7, ?_⟩
  · rw [← e5 k', uq_snoc]
    by_cases hk : (uq l).contains k = true
    · rw [if_pos hk]
      by_cases q : k' = k
      · subst q
        have hk' := hk
        simp at hk'
        simp [hk']
      · simp [q]
    · rw [if_neg hk]
      simp
  · rw [e8, uq_snoc]
    by_cases hk : (uq l).contains k = true
    · rw [if_pos hk, if_pos hk]
    · rw [if_neg hk, if_neg hk]; simp
theorem comp_loopS {I : Addr} {keys : List Str} {V : Nat → Value → Prop} {It : Nat → Obj → Prop} {io₀ : Obj} {s₂ : Shared} {elt iter : Expr} {x : Str} {px pos : Pos} {sc : Scope} {RR : Value → Addr → Result → Shared → Prop}
    (H : (StI Γ m σ).p b) (es : s₂ = { b with heap := s₂.heap, toks := s₂.toks }) (ks : b.heap.StaysIn s₂.heap) (hz : b.heap.objs.size ≤ s₂.heap.objs.size) (hI : s₂.heap.get? I = some io₀) (hIb : b.heap.get? I = none) (hI0 : It 0 io₀)
    (N : ∀ C, Nx PP A (fdC Γ b sc C) I keys.length V It) (hn : keys.length ≤ 1000)
    (hcell : (sc.names.all fun y => y.2 != .cell) = true) (hkind : sc.kind = .function) (hx : (relabel sc Γ.env).names.lookup x = some .local)
    (hfree : (sc.names.all fun y => y.2 != .free || ((Γ.cs.lookup y.1).isSome && (relabel sc Γ.env).names.lookup y.1 == some .cell && sc.names.lookup y.1 == some .free)) = true)
    (hxf : (sc.names.lookup x == some .free) = false)
    (turn : ∀ C i v mm σc s, i < keys.length → V i v → (∀ y, (sc.names.lookup y == some .free) = true → mm y = m y) → (StI (fdC Γ b sc C) (up mm x v) σc).p s →
      wpAny (model PP Γ.w) A (eval elt (fdC Γ b sc C).env) (fun y s₅ => (StI (fdC Γ b sc C) (up mm x v) σc).p s₅ ∧ ∃ k, keys[i]? = some k ∧ isS k y) (fun _ _ => False) s)
    (post : ∀ D C oC mC oD s', (StI Γ m ((C, oC) :: (D, oD) :: σ)).p s' → (∀ h : Heap, h.get? C = some oC → h.Ns C mC) → SObj Γ.w oD keys → RR (.ref D) C (.ok .next) s') :
    wpAny (model PP Γ.w) A (newSet (.type "set")) (fun acc s₃ => wpAny (model PP Γ.w) A (newFunctionEnv sc mainGlobals (clOf sc Γ.cs) [] Γ.q none .none (some Γ.env)) (fun cenv s₄ =>
      codeAny (model PP Γ.w) A (.compStart (.SetComp elt [⟨.Name x px, iter, [], 0⟩] sc pos) 0 (.ref I) acc { cenv with scope := relabel sc Γ.env }) (RR acc cenv.locals) s₄) E s₃) E s₂ := by
  refine wpAny_newSet_of (knd := sk Γ.w) fun led _ => ?_
  have nb : b.heap.get? s₂.heap.objs.size = none := Heap.get?_none_of_le hz
  have hID : I ≠ s₂.heap.objs.size := Nat.ne_of_lt (Heap.lt_size hI)
  refine enterC (s := { s₂ with heap := s₂.heap.push (st0 led) }) (σc := [(I, io₀), (s₂.heap.objs.size, st0 led)]) H (by rw [es]) (sTrans ks (sPush _ _)) (by rw [Heap.size_push]; exact Nat.le_succ_of_le hz) ?_ (by simp [hID]) hcell hkind hfree (fun cenv s' he hl H' => ?_)
  · intro p hp
    rcases List.mem_cons.mp hp with rfl | hp
    · exact ⟨Heap.get?_push_of_some _ hI, hIb⟩
    · rcases List.mem_cons.mp hp with rfl | hp
      · exact ⟨Heap.get?_push_size _ rfl, nb⟩
      · cases hp
  rw [he, hl]
  dsimp only at H' ⊢
  rw [Heap.size_push] at H' ⊢
  generalize hCd : s₂.heap.objs.size + 1 = C at H' ⊢
  generalize hDd : s₂.heap.objs.size = D at H' nb hID ⊢
  have nC : b.heap.get? C = none := by rw [← hCd]; exact Heap.get?_none_of_le (Nat.le_succ_of_le hz)
  have loop : codeAny (model PP Γ.w) A (.compLoop (.SetComp elt [⟨.Name x px, iter, [], 0⟩] sc pos) 0 (.ref I) (.ref D) (fdC Γ b sc C).env) (RR (.ref D) C) s' := by
    refine loopS (fun k s => ∃ i m' io oD, k = keys.length + 1 - i ∧ i ≤ keys.length ∧ (∀ y, (sc.names.lookup y == some .free) = true → m' y = m y) ∧ (StI (fdC Γ b sc C) m' ((I, io) :: (D, oD) :: [])).p s ∧ It i io ∧ SObj Γ.w oD (keys.take i)) ?_ (keys.length + 1)
      ⟨0, _, io₀, _, rfl, Nat.zero_le _, fun _ h => mc_free h, H', hI0, SObj.nil⟩
    rintro k s ⟨i, m', io, oD, rfl, hi, hm', Hs, hit, hS⟩
    by_cases hin : i < keys.length
    · refine wpAny_mono (E := fun _ _ => False) ((N C).item i io m' _ s _ _ hin hit Hs fun v io' s₁ hv hit' Hs₁ => ?_) (fun r s₁ q => q) fun _ _ z => z.elim
      refine s_loc Hs₁ (fun s₂' H₂ => ?_) hx hkind
      refine wpAny_mono (turn C i v m' _ s₂' hin hv hm' H₂) (fun y s₄ q => ?_) fun _ _ z => z.elim
      have hm2 : ∀ y, (sc.names.lookup y == some .free) = true → up m' x v y = m y := fun y hy => by
        rw [up_ne (fun e => by rw [e, hxf] at hy; cases hy)]; exact hm' y hy
      obtain ⟨H₅, k, hk, t, rfl⟩ := q
      refine o_sadd (pre := [(I, io')]) H₅ hS (by rw [List.length_take]; omega) fun oD' s₆ H₇ hS' => ?_
      refine ⟨keys.length + 1 - (i + 1), by omega, i + 1, _, io', oD', rfl, hin, hm2, H₇, hit', ?_⟩
      rw [List.take_add_one, hk]
      exact hS'
    · have hin' : i = keys.length := Nat.le_antisymm hi (Nat.le_of_not_lt hin)
      subst hin'
      refine (N C).stop io m' _ s _ _ hit Hs fun s₁ Hs₁ => ?_
      obtain ⟨mC, hmC, _⟩ := St.loc Hs₁
      obtain ⟨oC, es', ep', e1, hr⟩ := hmC
      refine post D C oC mC oD s₁ ?_ (fun h e => ⟨oC, es', ep', e, hr⟩) (by rw [List.take_length] at hS; exact hS)
      have := St.adds (t := s₁.toks) H (St.keep Hs₁) [(C, oC), (D, oD)] (fun p hp => ?_) ?_
      · have e2 := St.same Hs₁
        rw [← e2] at this
        exact this
      · rcases List.mem_cons.mp hp with rfl | hp
        · exact ⟨e1, nC⟩
        · rcases List.mem_cons.mp hp with rfl | hp
          · exact ⟨St.led Hs₁ _ (.head _), nb⟩
          · cases hp
      · have : C ≠ D := by rw [← hCd, ← hDd]; exact Nat.succ_ne_self _
        simp [this]
  exact startS loop ((N C).self 0 io₀ _ _ s' _ _ hI0 H' loop)
def CTS (w : World) (A : Around) (E : Value → Shared → Prop) (Γ : Fd) (sc : Scope) (e : Expr) (RR : Value → Addr → Result → Shared → Prop) (it : Value) (s : Shared) : Prop :=
  wpAny (model PP w) A (newSet (.type "set")) (fun acc s₃ => wpAny (model PP w) A (newFunctionEnv sc mainGlobals (clOf sc Γ.cs) [] Γ.q none .none (some Γ.env)) (fun cenv s₄ =>
      codeAny (model PP w) A (.compStart e 0 it acc { cenv with scope := relabel sc Γ.env }) (RR acc cenv.locals) s₄) E s₃) E s
theorem e_compS {s : Shared} {elt : Expr} {sc : Scope} {pos : Pos} {g : Comprehension} {Q : Value → Shared → Prop} (h : wpAny (model PP w) A (eval g.iter Γ.env) (fun xv s₁ => wpAny (model PP w) A (pyIter xv) (CTS w A E Γ sc (.SetComp elt [g] sc pos) (fun acc C => compPost (model PP w) A E none Q acc C)) E s₁) E s)
    (hs : ∀ x, foldedSetIterable g.iter Γ.env x = pure x := by intro _; rfl) (hg : g.is_async = 0 := by rfl) (hclos : closureFor sc Γ.env = pure (clOf sc Γ.cs) := by rfl) (hkind : sc.kind = .function := by rfl) (hnames : (sc.names.all fun x => x.2 != .local || sc.names.lookup x.1 == some .local) = true := by rfl) :
    wpAny (model PP w) A (eval (.SetComp elt [g] sc pos) Γ.env) Q E s := by
  rw [arm_eval_SetComp]
  obtain ⟨tg, it, fs, ay⟩ := g
  dsimp only at hg
  subst hg
  exact wpAny_comprehension_free (use := none) rfl hs hclos hkind (fun y hy hl => by have := List.all_eq_true.mp hnames y hy; rw [hl] at this; simpa using this) h
theorem cts_list {s : Shared} {l : Addr} {items : Array Value} {keys : List Str} {elt iter : Expr} {x : Str} {px pos : Pos} {sc : Scope} {Q : Value → Shared → Prop} (H : (StI Γ m σ).p s) (hl : s.heap.IsList l items) (hh : A.handled = none) (hk : items.size = keys.length) (hn : keys.length ≤ 1000) (hok : ScOk Γ sc x = true)
    (turn : ∀ C i v mm σc s', i < keys.length → items[i]? = some v → (∀ y, (sc.names.lookup y == some .free) = true → mm y = m y) → (StI (fdC Γ s sc C) (up mm x v) σc).p s' →
      wpAny (model PP Γ.w) A (eval elt (fdC Γ s sc C).env) (fun y s₅ => (StI (fdC Γ s sc C) (up mm x v) σc).p s₅ ∧ ∃ k, keys[i]? = some k ∧ isS k y) (fun _ _ => False) s')
    (k : ∀ D oD s', (StI Γ m ((D, oD) :: σ)).p s' → SObj Γ.w oD keys → Q (.ref D) s') :
    wpAny (model PP Γ.w) A (pyIter (.ref l)) (CTS Γ.w A E Γ sc (.SetComp elt [⟨.Name x px, iter, [], 0⟩] sc pos) (fun acc C => compPost (model PP Γ.w) A E none Q acc C)) E s := by
  obtain ⟨h1, h2, h3, h4, h5⟩ := ScOk.out hok
  refine wpAny_pyIter_list hl ?_
  exact comp_loopS (It := ItL l) H rfl (sPush _ _) (by rw [Heap.size_push]; exact Nat.le_succ _) (Heap.get?_push_size _ rfl) (size_none _) ⟨rfl, rfl⟩ (fun C => by rw [← hk]; exact nx_list hh hl) hn h1 h2 h3 h4 h5 turn
    (fun D C oC mC oD s' H' hC hS => ⟨mC, hC _ (St.led H' _ (.head _)), fun h' hs => k D oD _ (St.but H' hs.extBut) hS⟩)
theorem o_len_set {D : Addr} {o : Obj} {l : List Str} {Q : Value → Shared → Prop} (H : (StI Γ m σ).p b) (hm : (D, o) ∈ σ) (hS : SObj w o l) (hz : l.length ≤ 1000) (h : ∀ t s, (StI Γ m σ).p s → Q (.int (uq l).length t) s) : wpAny (model PP w) A (call (.builtin "len") ([] ++ [.ref D])) Q E b := by
  obtain ⟨es, ep, t, e2, e3, e4, e5, e6, e7, e8⟩ := hS
  refine call_len_set (St.led H _ hm) e2 e3 e7 (by rw [e8]; have := uq_len l; omega) ?_
  rw [e8]
  exact h _ _ (Inv.tok _ H)
end
local macro_rules | `(tactic| walk_at "g10") => `(tactic| first
  | walk_at "g9"
  | ((with_reducible refine' e_compS ?_ ?z ?a ?b ?c ?d); (case z => (intro _; rfl)); (case a | b | c | d => rfl)))

theorem strsAre_num : ∀ (tk : Nat) (xs : List Str), StrsAre (strValues (numbered tk xs)) xs
  | _, [] => .nil
  | tk, x :: r => .cons _ _ (strsAre_num (tk + 1) r)
theorem countP_strs (k : Str) : ∀ {vs : List Value} {ys : List Str}, StrsAre vs ys → vs.countP (isStrOf k) = ys.countP (· == k)
  | _, _, .nil => rfl
  | _, _, .cons y t h => by simp only [List.countP_cons, isStrOf, countP_strs k h]; rfl
section
variable {w : World} {A : Around} {M : Model} {E : Value → Shared → Prop} {Γ : Fd} {m : Str → Option Value} {σ : List (Addr × Obj)} {s : Shared}
def splOk (x : Str) : Prop := x.length ≤ sizeLine ∧ (Builtin.Str.spaceWords x (x.length + 1)).length ≤ sizeLine
theorem o_split {x : Str} {t : Tok} {Q : Value → Shared → Prop} (H : (StI Γ m σ).p s) (hx : splOk x) (h : ∀ D items s, (StI Γ m ((D, lst items 0) :: σ)).p s → StrsAre items.toList (Txt.words x) → Q (.ref D) s) :
    wpAny (model PP w) A (call (.builtin "str.split") ([.str x t] ++ [])) Q E s := by
  refine call_meets PySem.F.slot_str_split (typeIs_str _ _ _) PySem.F.entry_str_split (PySem.F.args_str_split_1 _) (meets_str_split_space x t hx.1 hx.2) ?_
  cases hw : Builtin.Str.spaceWords x (x.length + 1) == [(0, x.length)]
  · simp only [Bool.false_eq_true, if_false]
    rw [strsFrom_eq]
    refine h _ _ _ (St.new H rfl) ?_
    rw [show Txt.words x = _ from if_neg (by rw [hw]; decide)]
    exact strsAre_num _ _
  · simp only [if_true]
    refine h _ _ _ (St.new H rfl) ?_
    have e : Txt.words x = [x] := if_pos hw
    rw [e]
    exact .cons _ _ .nil
theorem o_chr {I : Inv w} {i : Nat} {t : Tok} {Q : Value → Shared → Prop} (H : I.p s) (hi : i ≤ 1000) (h : ∀ t s, I.p s → Q (.str (ch i) t) s) : wpAny (model PP w) A (call (.builtin "chr") ([] ++ [.int (i : Int) t])) Q E s := by
  refine chr_of_range (by omega) (by omega) ?_
  have := h s.toks _ (I.tok (t := s.toks + 1) H)
  simpa using this
theorem ne_lst {a b : Addr} {items : Array Value} {c c' : Nat} {Q : Value → Shared → Prop} (ha : s.heap.get? a = some (lst items c)) (hb : s.heap.get? b = some (lst #[] c')) (hu : A.units < cLine) (h : Q (.bool (!items.isEmpty)) s) : wpAny (model PP w) A (compareOp .NotEq (.ref a) (.ref b)) Q E s := by
  show wpAny (model PP w) A (richCompare .NotEq (.ref a) (.ref b)) Q E s
  have h1 : s.heap.IsList a items := ⟨_, ha, rfl, _, rfl⟩
  have h2 : s.heap.IsList b #[] := ⟨_, hb, rfl, _, rfl⟩
  by_cases q : items.size = 0
  · have e : items = #[] := Array.eq_empty_of_size_eq_zero q
    subst e
    exact SeqAt.RcNeAt.lists (e := fun _ => true) h1 h2 rfl hu (fun j hj => absurd hj (by simp)) PP w E Q (by simpa using h)
  · exact SeqAt.RcNeAt.lists_lengths h1 h2 (by simpa using q) hu PP w E Q (by
      have e : items.isEmpty = false := by simpa [Array.isEmpty_iff] using fun e => q (by rw [e]; rfl)
      rw [e] at h; exact h)
theorem m_count {l : Addr} {items : Array Value} {c : Nat} {pl : Sem Bool} {Q : Value × List Value → Shared → Prop} (hl : s.heap.get? l = some (lst items c)) (h : Q (.builtin "list.count", [.ref l]) s) :
    wpAny M A (getMethod (.ref l) "count" pl) Q E s :=
  getMethod_builtin ⟨_, hl, rfl⟩ PySem.F.plainAttrs_list PySem.F.slot_list_count PySem.F.type_list_count (fun a e => by cases e; exact ⟨_, hl, rfl⟩) h
theorem o_count {I : Inv w} {l : Addr} {items : Array Value} {c : Nat} {L : List Str} {k : Str} {t : Tok} {Q : Value → Shared → Prop} (H : I.p s) (hl : s.heap.get? l = some (lst items c)) (hi : StrsAre items.toList L) (h : ∀ t s, I.p s → Q (.int (L.countP (· == k) : Nat) t) s) :
    wpAny (model PP w) A (call (.builtin "list.count") ([.ref l] ++ [.str k t])) Q E s := by
  refine call_meets PySem.F.slot_list_count ⟨_, hl, rfl⟩ PySem.F.entry_list_count (PySem.F.args_list_count_2 _ _) (MeetsSeq.list_count l items c (.str k t) (isStrOf k) (fun y hy => eq_isStrOf k t hi y (by simpa using hy))) ⟨hl, ?_⟩
  have e := countP_strs k hi
  rw [e]
  exact h _ _ (I.tok H)
theorem o_sq {I : Inv w} {a : Int} {t u : Tok} {Q : Value → Shared → Prop} (H : I.p s) (ha : a.natAbs < 2 ^ 64) (h : ∀ t s, I.p s → Q (.int (a ^ 2) t) s) : wpAny (model PP w) A (binaryOp .Pow (.int a t) (.int 2 u)) Q E s := by
  refine pow_int (by decide) ?_ (h _ _ (I.tok H))
  have : Builtin.Int.intBits a ≤ 64 := by
    exact intBits_le ha
  omega
end

theorem Laid.all {Φ : Led → Nat → Option Value → Prop} {ν : Led} {n : Nat} {ys : Array Value} (L : Laid Φ ν n ys) (h : ∀ i o, Φ ν i o → ∃ y, o = some y) : ys.size = n ∧ ∀ i, i < n → ∃ y, ys[i]? = some y ∧ Φ ν i (some y) := by
  obtain ⟨os, h1, h2, h3⟩ := L
  have key : ∀ os : List (Option Value), (∀ o ∈ os, ∃ y, o = some y) → os = (os.filterMap id).map some := by
    intro os
    induction os with
    | nil => intro _; rfl
    | cons o r ih =>
      intro h
      obtain ⟨y, rfl⟩ := h o (.head _)
      simp only [List.filterMap_cons, id, List.map_cons]
      rw [← ih fun o ho => h o (.tail _ ho)]
  have e := key os fun o ho => by
    obtain ⟨i, hi⟩ := List.mem_iff_getElem?.mp ho
    exact h i o (h2 i o hi)
  rw [← h3] at e
  have hs : ys.size = n := by
    have := congrArg List.length e
    simp at this
    omega
  refine ⟨hs, fun i hi => ?_⟩
  have hi' : i < ys.size := by omega
  have : os[i]? = some (some ys[i]) := by
    rw [e, List.getElem?_map, Array.getElem?_toList, Array.getElem?_eq_getElem hi']; rfl
  exact ⟨ys[i], Array.getElem?_eq_getElem hi', h2 i _ this⟩
theorem strs2 {vs : List Value} {a b : Str} (h : StrsAre vs [a, b]) : ∃ t u, vs = [.str a t, .str b u] := by
  cases h with
  | cons _ t h => cases h with
    | cons _ u h => cases h; exact ⟨t, u, rfl⟩
theorem ch_ok : ∀ i, i < 11 → lowOk (ch (97 + i)) ∧ Txt.lower (ch (97 + i)) = ch (97 + i) ∧ Txt.lower (ch (65 + i)) = ch (97 + i) ∧ lowOk (ch (65 + i)) := by
  unfold lowOk
  decide +kernel
theorem ch_clean {c : Nat} (h1 : 32 ≤ c) (h2 : c < 127) : Clean (ch c) := ⟨by show 1 < _; decide, fun i hi => by
  have : i = 0 := by have : i < 1 := hi; omega
  subst this
  exact ⟨h1, h2⟩⟩
def sp2 (a b : Str) : Str := a ++ (" " : Str) ++ b
theorem o_refS {w : World} {A : Around} {s : Shared} {f : Addr} {args : List Value} {kw : List (Str × Value)} {E : Value → Shared → Prop} {Q Φ : Value → Shared → Prop} (spec : ∀ R, Rets s R Φ → codeAny (model PP w) A (.call (.ref f) ⟨args, kw⟩) R s)
    (h : ∀ v s', s' = { s with heap := s'.heap, toks := s'.toks } → s.heap.StaysIn s'.heap → Φ v s' → Q v s') : wpAny (model PP w) A (call (.ref f) args kw) Q E s :=
  wpAny_call (spec _ fun v s' e k q => h v s' e k q)
theorem St.addOn {Γ : Fd} {m : Str → Option Value} {σ : Led} {s s' : Shared} {a : Addr} {o : Obj} (H : (StI Γ m σ).p s) (e : s' = { s with heap := s'.heap, toks := s'.toks }) (k : s.heap.StaysIn s'.heap) (ha : s.heap.get? a = none) (ho : s'.heap.get? a = some o) : (StI Γ m ((a, o) :: σ)).p s' := by
  have := St.add (t := s'.toks) H k ha ho
  rw [← e] at this; exact this
theorem paired_len {α β : Type} {F : α → β → Prop} {l₁ : List α} {l₂ : List β} (h : Paired F l₁ l₂) : l₁.length = l₂.length := h.length
theorem paired_get {α β : Type} {F : α → β → Prop} : ∀ {l₁ : List α} {l₂ : List β}, Paired F l₁ l₂ → ∀ (i : Nat) b, l₂[i]? = some b → ∃ a, l₁[i]? = some a ∧ F a b
  | _, _, .nil, i, b, h => by simp at h
  | _, _, .cons hF r, 0, b, h => by
    simp at h; subst h
    exact ⟨_, by simp, hF⟩
  | _, _, .cons hF r, i + 1, b, h => by
    obtain ⟨a, e, f⟩ := paired_get r i b (by simpa using h)
    exact ⟨a, by simpa using e, f⟩
theorem AOk.u {n : Nat} {A : Around} (h : AOk n A) : A.units < cLine := by have := h.hu; omega
theorem e1 {n p : Nat} (hn : n ≤ 11) (hp : p < n) : p < 11 ∧ 97 + p ≤ 1000 ∧ 65 + p ≤ 1000 ∧ 32 ≤ 97 + p ∧ 97 + p < 127 := by omega
theorem e2 {n : Nat} (h : n ≤ 1000) : -2 ^ 64 < (n : Int) ∧ (n : Int) < 2 ^ 64 ∧ (n : Int) < 2 ^ 63 ∧ ((n : Int)).natAbs < 2 ^ 64 := by omega
theorem e3 {n : Nat} : (0 + (n : Int) * 1) = n := by omega
theorem e4 {c r : Nat} (h : c ^ 2 ≤ r) (hr : r ≤ 1000) : c ≤ 1000 := by
  have h1 : c ≤ c ^ 2 := by
    rcases Nat.eq_zero_or_pos c with e | e
    · rw [e]; decide
    · exact Nat.le_self_pow (by decide) _
  omega
theorem e5 {c a b : Nat} (h : c ^ 2 ≤ a * b) : ¬ (a : Int) * (b : Int) < (c : Int) ^ 2 := by
  have : ((c ^ 2 : Nat) : Int) ≤ ((a * b : Nat) : Int) := Int.ofNat_le.mpr h
  push_cast at this
  exact Int.not_lt.mpr this
theorem spec_leaves {w : World} {A : Around} {s : Shared} {R : Result → Shared → Prop} {x l kl : Addr} {items kitems : Array Value} {kvs : List (Str × Str)} {K : List Str} {kc n : Nat} {tn : Tok} {rows : Nat → List (Str × Str)} (W : Wd w s.heap) (hA : AOk 3 A) (hx : HObj w s.heap x l) (hl : s.heap.IsList l items) (hk : HL s.heap items kvs) (hz : items.size ≤ 1000)
  (hlo : ∀ kv ∈ kvs, lowOk kv.1) (hn : n ≤ 11) (hrow : ∀ p, p < n → (kvs.filter fun kv => Txt.lower kv.1 == Txt.lower (ch (97 + p))).map (·.2) = (rows p).map fun r => sp2 r.1 r.2)
  (hspl : ∀ p, p < n → ∀ r ∈ rows p, splOk (sp2 r.1 r.2) ∧ Txt.words (sp2 r.1 r.2) = [r.1, r.2])
  (hkl : s.heap.get? kl = some (lst kitems kc)) (hK : StrsAre kitems.toList K)
  (hok : ∀ p, p < n → (uq ((rows p).map (·.1))).length * (uq ((rows p).map (·.2))).length = (rows p).length ∧ (K.countP (· == ch (65 + p))) ^ 2 ≤ (rows p).length)
  (k : Rets s R fun v s' => ∃ t, v = .int ((List.range n).countP fun p => !(rows p).isEmpty : Nat) t) :
  codeAny (model PP w) A (.call (.ref 253) ⟨[.ref x, .ref kl, .int n tn], []⟩) R s := by
  have hA1 : ∀ env, AOk 2 (A.deeper env) := fun env => AOk.deep hA
  refine enterK (binds := [("parted", .ref x), ("keys", .ref kl), ("count", .int n tn)]) W hA.room (by rfl) (by rfl) (by rfl) (BindsTo.of_eq rfl) (fun s H => ?_)
  refine gen fun Kf hKf => ?_
  repeat walk_at "g10"
  rename Inv.p _ _ => H
  have hsm : Builtin.Range.small 0 n 1 = true := small_one (by decide) (by decide) (by omega) (by omega)
  have hsz : Builtin.Range.rangeSize 0 n 1 = n := by rw [rangeSize_one]; split <;> omega
  obtain ⟨J, hJ⟩ : ∃ J : Nat → (Str → Option Value) → List (Addr × Obj) → Prop, J = (fun p m σ => σ = [] ∧ m "parted" = some (.ref x) ∧ m "keys" = some (.ref kl) ∧ ∃ t, m "leaves" = some (.int ((List.range p).countP fun p => !(rows p).isEmpty : Nat) t)) := ⟨_, rfl⟩
  refine it_range (n := n) J (hA1 _).hh H hsm hsz
    (by rw [hJ]; exact ⟨rfl, by walk_at "lk", by walk_at "lk", _, by walk_at "lk"⟩) ?_ ?_ ?_
  · intro m σ s v Q E H hq
    exact s_loc H hq
  · clear H hsm hsz
    intro p t m σ I io s hp h H
    refine gen fun Kb hKb => ?_
    rw [hJ] at h
    obtain ⟨rfl, mp, mk, tl, ml⟩ := h
    rw [e3] at H
    obtain ⟨e11, e12, e13, e14, e15⟩ := e1 hn hp
    obtain ⟨c1, c2, c3, c4⟩ := ch_ok p e11
    have hlen : (rows p).length ≤ 1000 := by
      have := congrArg List.length (hrow p hp)
      simp only [List.length_map] at this
      rw [← this]
      exact Nat.le_trans (List.length_filter_le _ _) (by rw [← hk.1]; exact hz)
    repeat walk_at "g10"
    rename Inv.p _ _ => H
    refine o_hmeth (Inv.wd _ H) (hx.keeps (St.keep H)) cM_get_all cT_get_all (fun tk => by rfl) ?_
    repeat walk_at "g10"
    rename Inv.p _ _ => H
    rw [show (97 + (p : Int)) = ((97 + p : Nat) : Int) by push_cast; rfl]
    refine o_chr H e12 (fun t s H => ?_)
    repeat walk_at "g10"
    rename Inv.p _ _ => H
    refine ⟨Inv.wd _ H, o_refS (fun R k => spec_get_all (Inv.wd _ H) (hA1 _) (hx.keeps (St.keep H)) (keepL hl (St.keep H)) (hk.keeps (St.keep H)) hz hlo (by rw [c2]; exact ch_clean e14 e15) c1 k) ?_⟩
    rintro v s' es ks ⟨D0, ys0, y0, rfl, d1, d2, d3⟩
    replace H := St.addOn H es ks d2 d1
    clear es ks d1 d2
    have hR := hrow p hp
    have d4 := paired_map (G := isS) (f := fun kv : Str × Str => kv.2) d3
    rw [hR] at d4
    have hy0 : ys0.size = (rows p).length := by have := d4.length; simpa using this.symm
    refine ct_list H (St.isList H (.head _) LObj.lst) (hA1 _).hh (by rw [hy0]; exact hlen) (by rfl) (fun ν i o => ∃ r D' it, (rows p)[i]? = some r ∧ o = some (.ref D') ∧ (D', lst it 0) ∈ ν ∧ StrsAre it.toList [r.1, r.2])
      (fun ν ν' i o hs ⟨r, D', it, a, b, c, d⟩ => ⟨r, D', it, a, b, hs _ c, d⟩) ?_ (post_used fun D ys c ν s' H' hL => ?_)
    · intro C i v mm σc s hi hv hmm Hc
      clear H
      obtain ⟨a, ha, t', rfl⟩ := paired_get d4 i v (by rw [← hv, Array.getElem?_toList])
      rw [List.getElem?_map] at ha
      obtain ⟨r, hr, rfl⟩ := Option.map_eq_some_iff.mp ha
      obtain ⟨q1, q2⟩ := hspl p hp r (List.mem_of_getElem? hr)
      repeat walk_at "g10"
      refine ⟨fun _ => ?_, fun h => (nomatch h)⟩
      repeat walk_at "g10"
      refine o_split (by assumption) q1 (fun D' it s H hit => ?_)
      rw [q2] at hit
      exact ⟨[_], H, r, D', it, hr, rfl, .head _, hit⟩
    clear H
    obtain ⟨hysz, hys⟩ := hL.all (fun i o ⟨r, D', it, a, b, c, d⟩ => ⟨_, b⟩)
    rw [hy0] at hysz hys
    clear hL
    have hin : ∀ (i : Nat) (v : Value), ys[i]? = some v → ∃ (r : Str × Str) (D' : Addr) (a b : Tok), (rows p)[i]? = some r ∧ v = .ref D' ∧ (D', lst #[.str r.1 a, .str r.2 b] 0) ∈ ν := by
      intro i v hv
      have hi : i < (rows p).length := by rw [← hysz]; exact (Array.getElem?_eq_some_iff.mp hv).1
      obtain ⟨y, e1, r, D', it, e2, e3, e4, e5⟩ := hys i hi
      obtain ⟨a, b, e6⟩ := strs2 e5
      have e7 : it = #[.str r.1 a, .str r.2 b] := by apply Array.ext'; rw [e6]
      subst e7
      refine ⟨r, D', a, b, e2, ?_, e4⟩
      rw [hv] at e1
      cases e3
      exact Option.some.inj e1
    repeat walk_at "g10"
    rename Inv.p _ _ => H
    refine cts_list (keys := (rows p).map (·.1)) H (St.isList H (.head _) LObj.lst) (hA1 _).hh (by simpa using hysz) (by simpa using hlen) (by rfl) ?_ (fun D1 o1 s1 H1 S1 => ?_)
    · intro C i v mm σc s hi hv hmm Hc
      obtain ⟨r, D', ta, tb, e1, rfl, e3⟩ := hin i v hv
      have hb := St.led H _ (.tail _ (List.mem_append_left _ e3))
      clear H
      repeat walk_at "g10"
      rename Inv.p _ _ => H
      refine it_lst ⟨_, St.keep H _ _ hb, rfl, _, rfl⟩ (by decide) (by decide) (x := .str r.1 ta) (by rfl) ?_
      exact ⟨H, r.1, by rw [List.getElem?_map, e1]; rfl, _, rfl⟩
    clear H
    repeat walk_at "g10"
    refine o_len_set (by assumption) (.head _) S1 (by simpa using hlen) (fun t s H => ?_)
    repeat walk_at "g10"
    rename Inv.p _ _ => H
    refine cts_list (keys := (rows p).map (·.2)) H (St.isList H (.tail _ (.head _)) LObj.lst) (hA1 _).hh (by simpa using hysz) (by simpa using hlen) (by rfl) ?_ (fun D2 o2 s2 H2 S2 => ?_)
    · intro C i v mm σc s hi hv hmm Hc
      obtain ⟨r, D', ta, tb, e1, rfl, e3⟩ := hin i v hv
      have hb := St.led H _ (.tail _ (.tail _ (List.mem_append_left _ e3)))
      clear H
      repeat walk_at "g10"
      rename Inv.p _ _ => H
      refine it_lst ⟨_, St.keep H _ _ hb, rfl, _, rfl⟩ (by decide) (by decide) (x := .str r.2 tb) (by rfl) ?_
      exact ⟨H, r.2, by rw [List.getElem?_map, e1]; rfl, _, rfl⟩
    clear H
    repeat walk_at "g10"
    refine o_len_set (by assumption) (.head _) S2 (by simpa using hlen) (fun t s H => ?_)
    repeat walk_at "g10"
    have u1 : (uq ((rows p).map (·.1))).length ≤ 1000 := Nat.le_trans (uq_len _) (by simpa using hlen)
    have u2 : (uq ((rows p).map (·.2))).length ≤ 1000 := Nat.le_trans (uq_len _) (by simpa using hlen)
    refine i_mul (by assumption) (.of_left (intBits_le_64 (e2 u1).1 (e2 u1).2.1)) (fun t s H => ?_)
    repeat walk_at "g10"
    rename Inv.p _ _ => H
    obtain ⟨k1, k2⟩ := hok p hp
    refine o_len_lst _ H (St.isList H (.tail _ (.tail _ (.head _))) LObj.lst) (by rw [hysz]; exact (e2 hlen).2.2.1) (fun t s H => ?_)
    repeat walk_at "g10"
    refine ⟨fun h => absurd h (by rw [hysz, ← k1]; simp), fun _ => ?_⟩
    repeat walk_at "g10"
    rename Inv.p _ _ => H
    refine m_count (St.keep H _ _ hkl) ?_
    repeat walk_at "g10"
    rename Inv.p _ _ => H
    rw [show (65 + (p : Int)) = ((65 + p : Nat) : Int) by push_cast; rfl]
    refine o_chr H e13 (fun t s H => ?_)
    repeat walk_at "g10"
    rename Inv.p _ _ => H
    refine o_count H (St.keep H _ _ hkl) hK (fun t s H => ?_)
    repeat walk_at "g10"
    have k3 : K.countP (· == ch (65 + p)) ≤ 1000 := by
      exact e4 k2 hlen
    refine o_sq (by assumption) (e2 k3).2.2.2 (fun t s H => ?_)
    repeat walk_at "g10"
    refine ⟨fun h => absurd (of_decide_eq_true h) ?_, fun _ => ?_⟩
    · rw [← k1] at k2
      exact e5 k2
    repeat walk_at "g10"
    refine ⟨fun h => (nomatch h), fun _ => ?_⟩
    repeat walk_at "g10"
    rename Inv.p _ _ => H
    refine ne_lst (St.led H _ (.tail _ (.tail _ (.tail _ (.head _))))) (St.led H _ (.head _)) (hA1 _).u ?_
    repeat walk_at "g10"
    have he : ys.isEmpty = (rows p).isEmpty := by
      rw [Bool.eq_iff_iff]
      simp only [Array.isEmpty_iff_size_eq_zero, List.isEmpty_iff_length_eq_zero, hysz]
    have hcnt : (List.range (p + 1)).countP (fun p => !(rows p).isEmpty) = (List.range p).countP (fun p => !(rows p).isEmpty) + (if (!(rows p).isEmpty) = true then 1 else 0) := by
      rw [List.range_succ, List.countP_append]; simp [List.countP_cons]
    refine ⟨fun hc => ?_, fun hc => ?_⟩
    · rw [he] at hc
      rw [if_pos hc] at hcnt
      repeat walk_at "g10"
      rename Inv.p _ _ => H
      subst hKb
      exact tq_next ⟨_, [], St.sub H (σ' := [(I, io)]) (fun q hq => by
        rcases List.mem_cons.mp hq with rfl | hq
        · exact .tail _ (.tail _ (.tail _ (.tail _ (List.mem_append_right _ (.tail _ (.head _))))))
        · cases hq) (by simp), by rw [hJ]; exact ⟨rfl, by walk_at "lk", by walk_at "lk", _, by rw [hcnt]; push_cast; walk_at "lk"⟩⟩
    · rw [he] at hc
      rw [if_neg (by rw [hc]; decide)] at hcnt
      repeat walk_at "g10"
      rename Inv.p _ _ => H
      subst hKb
      exact tq_next ⟨_, [], St.sub H (σ' := [(I, io)]) (fun q hq => by
        rcases List.mem_cons.mp hq with rfl | hq
        · exact .tail _ (.tail _ (.tail _ (.tail _ (List.mem_append_right _ (.tail _ (.head _))))))
        · cases hq) (by simp), by rw [hJ]; exact ⟨rfl, by walk_at "lk", by walk_at "lk", _, by rw [hcnt, Nat.add_zero]; walk_at "lk"⟩⟩
  · intro m σ s h H
    rw [hJ] at h
    obtain ⟨rfl, mp, mk, tl, ml⟩ := h
    refine lr_next ?_
    repeat walk_at "g10"
    subst hKf
    exact St.back k (by assumption) ⟨_, rfl⟩

section
variable {w : World} {A : Around} {M : Model} {E : Value → Shared → Prop} {Γ : Fd} {m : Str → Option Value} {σ pre post : Led} {s : Shared}
theorem o_popS {l : Addr} {items : Array Value} {c : Nat} {y : Value} {Q : Value → Shared → Prop} (H : (StI Γ m (pre ++ (l, lst (items.push y) c) :: post)).p s) (hz : items.size + 1 ≤ sizeLine)
    (k : ∀ s, (StI Γ m (pre ++ (l, lst items (c + 1)) :: post)).p s → Q y s) : wpAny (model PP w) A (call (.builtin "list.pop") ([.ref l] ++ [])) Q E s :=
  o_pop (c := c) H (by simp) hz fun s' H' => k s' (by rw [upd_split (St.nd H)] at H'; exact H')
theorem set_dictS {d : Addr} {o : Obj} {kvs : List (Int × Value)} {k : Int} {u : Tok} {v : Value} {Q : Unit → Shared → Prop} (H : (StI Γ m (pre ++ (d, o) :: post)).p s) (ho : DObj w o kvs) (hz : kvs.length ≤ 1000)
    (h : ∀ o' s, (StI Γ m (pre ++ (d, o') :: post)).p s → DObj w o' (stored kvs k v) → Q () s) : wpAny (model PP w) A (setItem (.ref d) (.int k u) v) Q E s :=
  Mine.set_dict H (by simp) ho hz fun o' s' H' hd => h o' s' (by rw [upd_split (St.nd H)] at H'; exact H') hd
theorem St.fresh {s' : Shared} {a : Addr} {o : Obj} {σ' : Led} (H : (StI Γ m σ).p s) (H' : (StI Γ m σ').p s') (ha : s.heap.get? a = none) (ho : s'.heap.get? a = some o) (hm : ∀ p ∈ σ', ∃ q ∈ σ, p.1 = q.1) : (StI Γ m ((a, o) :: σ')).p s' := by
  have H0 : St Γ m σ s := H
  have H1 : St Γ m σ' s' := H'
  refine { H1 with led := fun q hq => ?_, ledL := fun q hq => ?_, ledB := fun q hq => ?_, nd := ?_ }
  · rcases List.mem_cons.mp hq with rfl | hq
    · exact ho
    · exact H1.led q hq
  · rcases List.mem_cons.mp hq with rfl | hq
    · refine ⟨fun e => ?_, fun x c hc e => ?_⟩
      · obtain ⟨ml, ⟨o', _, _, h1, _⟩, _⟩ := H0.loc
        dsimp only at e
        rw [e, h1] at ha; cases ha
      · obtain ⟨o', h1, _⟩ := H0.cel x c hc
        dsimp only at e
        rw [e, h1] at ha; cases ha
    · exact H1.ledL q hq
  · rcases List.mem_cons.mp hq with rfl | hq
    · cases e : Γ.s₀.heap.get? a with
      | none => rfl
      | some o' => have := H0.keep a o' e; rw [ha] at this; cases this
    · exact H1.ledB q hq
  · rw [List.map_cons, List.nodup_cons]
    refine ⟨fun hx => ?_, H1.nd⟩
    obtain ⟨p, hp, e⟩ := List.mem_map.mp hx
    obtain ⟨q, hq, e2⟩ := hm p hp
    have := H0.led q hq
    rw [← e2, e, ha] at this; cases this
/-- table.add_header(name, value) -/
theorem o_addh {x l : Addr} {items : Array Value} {c : Nat} {name val : Str} {t u : Tok} {Q : Value → Shared → Prop} (H : (StI Γ m (pre ++ (l, lst items c) :: post)).p s) (hA : AOk 2 A) (hx : HObj Γ.w s.heap x l)
    (hn : Clean name) (hv : Clean val) (hv' : val.length ≤ 1000) (hz : items.size ≤ 1000)
    (k : ∀ tp c' t1 t2 s, (StI Γ m ((tp, tup #[.str name t1, .str val t2]) :: (pre ++ (l, lst (items.push (.ref tp)) c') :: post))).p s → Q .none s) :
    wpAny (model PP Γ.w) A (call (.ref 210) ([.ref x] ++ [.str name t, .str val u])) Q E s := by
  have hm : (l, lst items c) ∈ pre ++ (l, lst items c) :: post := by simp
  refine wpAny_call (spec_add (St.wd H) (St.keep H) hA hx (St.led H _ hm) (St.ledB H _ hm) hn hv hv' hz fun s' tp c' t1 t2 es kp e1 e2 e3 => ?_)
  have H1 := St.put (t := s'.toks) H kp e1
  rw [← es] at H1
  refine k tp c' t1 t2 s' (St.fresh H H1 e3 e2 fun p hp => ?_)
  rcases List.mem_append.mp hp with q | q
  · exact ⟨p, List.mem_append_left _ q, rfl⟩
  · rcases List.mem_cons.mp q with rfl | q
    · exact ⟨_, hm, rfl⟩
    · exact ⟨p, List.mem_append_right _ (.tail _ q), rfl⟩
/-- Headers() -/
theorem o_newh {Q : Value → Shared → Prop} (H : (StI Γ m σ).p s) (hA : AOk 2 A) (k : ∀ x dx l tk c s, (StI Γ m ((l, lst #[] c) :: (x, instObj 213 dx) :: (dx, dictOf (hes Γ.w tk l) 1) :: σ)).p s → Q (.ref x) s) :
    wpAny (model PP Γ.w) A (call (.ref 213) ([] ++ [])) Q E s := by
  refine wpAny_call (spec_new (Inv.wd _ H) hA fun s' x dx l tk c es ks e1 e2 e3 n1 n2 n3 => ?_)
  have d1 : l ≠ x := fun e => by
    rw [e, e1] at e3
    have := congrArg Obj.cls (Option.some.inj e3)
    cases this
  have d2 : l ≠ dx := fun e => by
    rw [e, e2] at e3
    have := congrArg Obj.data (Option.some.inj e3)
    cases this
  have d3 : x ≠ dx := fun e => by
    rw [e, e2] at e1
    have := congrArg Obj.data (Option.some.inj e1)
    cases this
  have := St.adds (t := s'.toks) H ks [(l, lst #[] c), (x, instObj 213 dx), (dx, dictOf (hes Γ.w tk l) 1)] (by
    intro p hp
    simp only [List.mem_cons, List.not_mem_nil, or_false] at hp
    rcases hp with rfl | rfl | rfl
    · exact ⟨e3, n1⟩
    · exact ⟨e1, n2⟩
    · exact ⟨e2, n3⟩) (by simp [d1, d2, d3])
  rw [← es] at this
  exact k x dx l tk c s' this
theorem e_dict0 {pos : Pos} {env : Env} {Q : Value → Shared → Prop} (H : (StI Γ m σ).p s) (k : ∀ d s, (StI Γ m ((d, dictOf [] 0) :: σ)).p s → Q (.ref d) s) : wpAny M A (eval (.Dict [] [] pos) env) Q E s :=
  wpAny_Dict_empty (k _ _ (St.new (t := s.toks) H rfl))
end
local macro_rules | `(tactic| walk_at "g11") => `(tactic| first
  | walk_at "g10"
  | ((with_reducible rename Inv.p _ _ => H); (with_reducible refine' e_dict0 H ?_; clear H; intro d s H)))

def hvW (f : Nat → Bool) : List Str := ((List.range 8).filter f).map word
def cleanB (v : Str) : Bool := decide (v.cps.size < 2 ^ 63) && v.cps.toList.all fun c => decide (32 ≤ c) && decide (c < 127)
theorem cleanB_ok {v : Str} (h : cleanB v = true) : Clean v := by
  simp only [cleanB, Bool.and_eq_true, decide_eq_true_eq, List.all_eq_true] at h
  refine ⟨h.1, fun i hi => ?_⟩
  have := h.2 (v.cps[i]) (by simp)
  rw [Array.getD_eq_getD_getElem?, Array.getElem?_eq_getElem hi]
  exact this
def hvB (L : List Str) : Bool :=
  let j := Txt.join (" " : Str) L
  JoinOk (" " : Str) L && cleanB j && decide (j.length ≤ 1000) && decide (j.length ≤ sizeLine) && decide ((Builtin.Str.spaceWords j (j.length + 1)).length ≤ sizeLine) && decide (Txt.words j = L)
def ofBits (k : Nat) : List Str := ((List.range 8).filter fun w => k.testBit w).map word
def hvP (a : Nat) : Bool := (List.range 32).all fun k => hvB (ofBits (32 * a + k))
theorem hvP0 : hvP 0 = true := by decide +kernel
theorem hvP1 : hvP 1 = true := by decide +kernel
theorem hvP2 : hvP 2 = true := by decide +kernel
theorem hvP3 : hvP 3 = true := by decide +kernel
theorem hvP4 : hvP 4 = true := by decide +kernel
theorem hvP5 : hvP 5 = true := by decide +kernel
theorem hvP6 : hvP 6 = true := by decide +kernel
theorem hvP7 : hvP 7 = true := by decide +kernel
theorem hvPs : ∀ a, a < 8 → hvP a = true
  | 0, _ => hvP0
  | 1, _ => hvP1
  | 2, _ => hvP2
  | 3, _ => hvP3
  | 4, _ => hvP4
  | 5, _ => hvP5
  | 6, _ => hvP6
  | 7, _ => hvP7
  | a + 8, h => absurd h (by omega)
theorem hvAll (k : Nat) (hk : k < 256) : hvB (ofBits k) = true := by
  have h := List.all_eq_true.mp (hvPs (k / 32) (Nat.div_lt_of_lt_mul hk)) (k % 32) (List.mem_range.mpr (Nat.mod_lt _ (by decide)))
  rw [Nat.div_add_mod] at h
  exact h
theorem bitsEx (f : Nat → Bool) : ∃ k, k < 256 ∧ ∀ w, w < 8 → f w = k.testBit w := by
  have key : ∀ b0 b1 b2 b3 b4 b5 b6 b7 : Bool, ∃ k, k < 256 ∧ k.testBit 0 = b0 ∧ k.testBit 1 = b1 ∧ k.testBit 2 = b2 ∧ k.testBit 3 = b3 ∧ k.testBit 4 = b4 ∧ k.testBit 5 = b5 ∧ k.testBit 6 = b6 ∧ k.testBit 7 = b7 := by
    intro b0 b1 b2 b3 b4 b5 b6 b7
    refine ⟨(if b0 then 1 else 0) + (if b1 then 2 else 0) + (if b2 then 4 else 0) + (if b3 then 8 else 0) + (if b4 then 16 else 0) + (if b5 then 32 else 0) + (if b6 then 64 else 0) + (if b7 then 128 else 0), ?_⟩
    revert b0 b1 b2 b3 b4 b5 b6 b7
    decide +kernel
  obtain ⟨k, hk, h0, h1, h2, h3, h4, h5, h6, h7⟩ := key (f 0) (f 1) (f 2) (f 3) (f 4) (f 5) (f 6) (f 7)
  refine ⟨k, hk, fun w hw => ?_⟩
  rcases w with _ | _ | _ | _ | _ | _ | _ | _ | w
  all_goals first | (symm; assumption) | (exfalso; omega)
theorem hvW_bits (f : Nat → Bool) : ∃ k, k < 256 ∧ hvW f = ofBits k := by
  obtain ⟨k, hk, h⟩ := bitsEx f
  refine ⟨k, hk, ?_⟩
  unfold hvW ofBits
  congr 1
  exact List.filter_congr fun w hw => h w (List.mem_range.mp hw)
theorem hvOk (f : Nat → Bool) : JoinOk (" " : Str) (hvW f) = true ∧ Clean (Txt.join (" " : Str) (hvW f)) ∧ (Txt.join (" " : Str) (hvW f)).length ≤ 1000 ∧ splOk (Txt.join (" " : Str) (hvW f)) ∧ Txt.words (Txt.join (" " : Str) (hvW f)) = hvW f := by
  obtain ⟨k, hk, e⟩ := hvW_bits f
  rw [e]
  have := hvAll k hk
  simp only [hvB, Bool.and_eq_true, decide_eq_true_eq] at this
  obtain ⟨⟨⟨⟨⟨a, b⟩, c⟩, d⟩, e⟩, g⟩ := this
  exact ⟨a, cleanB_ok b, c, ⟨d, e⟩, g⟩
theorem word_inj {u v : Nat} (hu : u < 8) (hv : v < 8) (h : word u = word v) : u = v := by
  by_cases q : u = v
  · exact q
  · exact absurd h (word_ne hu hv q)
theorem any_hv (f : Nat → Bool) {u : Nat} (hu : u < 8) : (hvW f).any (· == word u) = f u := by
  rw [Bool.eq_iff_iff, List.any_eq_true]
  constructor
  · rintro ⟨x, hx, e⟩
    rw [beq_iff_eq] at e
    subst e
    obtain ⟨v, hv, e⟩ := List.mem_map.mp hx
    obtain ⟨h1, h2⟩ := List.mem_filter.mp hv
    rw [← word_inj (List.mem_range.mp h1) hu e]; exact h2
  · intro h
    exact ⟨word u, List.mem_map.mpr ⟨u, List.mem_filter.mpr ⟨List.mem_range.mpr hu, h⟩, rfl⟩, by simp⟩

def PI (items : Array Value) (st : List Nat) : Prop := IntsAre items.toList (st.reverse.map fun (n : Nat) => (n : Int))
theorem PI.nil : PI #[] [] := IntsAre.nil
theorem ints_snoc : ∀ {vs : List Value} {ns : List Int} (n : Int) (t : Tok), IntsAre vs ns → IntsAre (vs ++ [.int n t]) (ns ++ [n])
  | _, _, n, t, .nil => .cons n t .nil
  | _, _, n, t, .cons a u h => .cons a u (ints_snoc n t h)
theorem ints_split : ∀ {vs : List Value} (ns : List Int) (n : Int), IntsAre vs (ns ++ [n]) → ∃ vs' t, vs = vs' ++ [.int n t] ∧ IntsAre vs' ns
  | _, [], n, .cons _ t .nil => ⟨[], t, rfl, .nil⟩
  | _, a :: ns, n, .cons _ u h => by
    obtain ⟨vs', t, e, h'⟩ := ints_split ns n h
    exact ⟨_ :: vs', t, by rw [e]; rfl, .cons _ _ h'⟩
theorem PI.push {items : Array Value} {st : List Nat} (h : PI items st) (n : Nat) (t : Tok) : PI (items.push (.int n t)) (n :: st) := by
  unfold PI at *
  rw [Array.toList_push, List.reverse_cons, List.map_append]
  exact ints_snoc _ _ h
theorem PI.pop {items : Array Value} {st : List Nat} {n : Nat} (h : PI items (n :: st)) : ∃ items' t, items = items'.push (.int n t) ∧ PI items' st := by
  unfold PI at *
  rw [List.reverse_cons, List.map_append] at h
  obtain ⟨vs', t, e, h'⟩ := ints_split _ _ h
  refine ⟨vs'.toArray, t, ?_, h'⟩
  apply Array.ext'
  simpa using e
theorem ints_len : ∀ {vs : List Value} {ns : List Int}, IntsAre vs ns → vs.length = ns.length
  | _, _, .nil => rfl
  | _, _, .cons _ _ h => by simp [ints_len h]
theorem PI.size {items : Array Value} {st : List Nat} (h : PI items st) : items.size = st.length := by
  have := ints_len h
  simpa using this
def HLσ (ρ : Led) (items : Array Value) (kvs : List (Str × Str)) : Prop := items.size = kvs.length ∧ ∀ (i : Nat) (kv : Str × Str), kvs[i]? = some kv → ∃ (tp : Addr) (tk tv : Tok), items[i]? = some (.ref tp) ∧ (tp, tup #[.str kv.1 tk, .str kv.2 tv]) ∈ ρ
theorem HLσ.heap {Γ : Fd} {m : Str → Option Value} {σ ρ : Led} {s : Shared} {items : Array Value} {kvs : List (Str × Str)} (h : HLσ ρ items kvs) (H : (StI Γ m σ).p s) (hs : ∀ p ∈ ρ, p ∈ σ) : HL s.heap items kvs :=
  ⟨h.1, fun i kv e => let ⟨tp, tk, tv, a, b⟩ := h.2 i kv e; ⟨tp, tk, tv, a, St.led H _ (hs _ b)⟩⟩
theorem HLσ.mono {ρ ρ' : Led} {items : Array Value} {kvs : List (Str × Str)} (h : HLσ ρ items kvs) (hs : ∀ p ∈ ρ, p ∈ ρ') : HLσ ρ' items kvs := ⟨h.1, fun i kv e => let ⟨tp, tk, tv, a, b⟩ := h.2 i kv e; ⟨tp, tk, tv, a, hs _ b⟩⟩
theorem HLσ.push {ρ : Led} {items : Array Value} {kvs : List (Str × Str)} {tp : Addr} {k v : Str} {tk tv : Tok} (h : HLσ ρ items kvs) (hm : (tp, tup #[.str k tk, .str v tv]) ∈ ρ) : HLσ ρ (items.push (.ref tp)) (kvs ++ [(k, v)]) := by
  refine ⟨by simp [h.1], fun i kv e => ?_⟩
  by_cases q : i < kvs.length
  · rw [List.getElem?_append_left q] at e
    obtain ⟨tp', tk', tv', a, b⟩ := h.2 i kv e
    exact ⟨tp', tk', tv', by rw [Array.getElem?_push_lt (by rw [h.1]; exact q)]; rw [Array.getElem?_eq_getElem (by rw [h.1]; exact q)] at a; exact a, b⟩
  · rw [List.getElem?_append_right (Nat.le_of_not_lt q)] at e
    have hi : i = kvs.length := by
      have : i - kvs.length < 1 := by
        by_cases z : i - kvs.length < 1
        · exact z
        · rw [List.getElem?_eq_none (by simp; omega)] at e; cases e
      omega
    subst hi
    simp at e
    subst e
    exact ⟨tp, tk, tv, by rw [← h.1]; simp, hm⟩
theorem va_ne {kvs : List (Int × Value)} {k k' : Int} {v : Value} (h : k' ≠ k) : valueAt (stored kvs k v) k' = valueAt kvs k' := by
  unfold stored
  split
  · unfold valueAt
    induction kvs with
    | nil => rfl
    | cons a r ih =>
      rename_i hx
      by_cases q : a.1 = k
      · have e1 : ¬ a.1 = k' := fun e => h (by rw [← e, q])
        have q2 : ¬ k = k' := fun e => h e.symm
        simp only [List.map_cons, q, if_true, List.find?_cons, e1, q2, decide_false]
        by_cases z : (r.any fun kv => decide (kv.1 = k)) = true
        · exact ih z
        · have : (r.map fun kv => if kv.1 = k then (kv.1, v) else kv) = r := by
            conv => rhs; rw [← List.map_id r]
            refine List.map_congr_left fun b hb => ?_
            have : ¬ b.1 = k := fun e => z (List.any_eq_true.mpr ⟨b, hb, by simpa using e⟩)
            rw [if_neg this]; rfl
          rw [this]
      · simp only [List.map_cons, q, if_false, List.find?_cons]
        split
        · rfl
        · exact ih (by simpa [q] using hx)
  · unfold valueAt
    rw [List.find?_append]
    have : ¬ k = k' := fun e => h e.symm
    simp [this]
theorem va_same {kvs : List (Int × Value)} {k : Int} {v : Value} : valueAt (stored kvs k v) k = some v := by
  unfold stored
  split
  · rename_i hx
    unfold valueAt
    induction kvs with
    | nil => simp at hx
    | cons a r ih =>
      by_cases q : a.1 = k
      · simp [q]
      · simp only [List.map_cons, q, if_false, List.find?_cons, decide_false]
        exact ih (by simpa [q] using hx)
  · rename_i hx
    unfold valueAt
    rw [List.find?_append]
    have : List.find? (fun kv => decide (kv.1 = k)) kvs = none := by
      rw [List.find?_eq_none]
      intro b hb e
      exact hx (List.any_eq_true.mpr ⟨b, hb, e⟩)
    rw [this]
    simp
/-- the headers of the places down to p -/
def kvR (val : Nat → Nat → Bool) (N : Nat) : Nat → List (Str × Str)
  | 0 => []
  | i + 1 => kvR val N i ++ [(ch (97 + (N - 1 - i)), Txt.join (" " : Str) (hvW (val (N - 1 - i))))]
structure RdP (N : Nat) (sy : Nat → Int) (lt rt : Nat → Nat) (stk : Nat → List Nat) (val : Nat → Nat → Bool) : Prop where
  hN : N ≤ 11
  e0 : sy N = 0
  nz : ∀ p, p < N → sy p ≠ 0
  s0 : stk N = []
  leaf : ∀ p, p < N → ¬ sy p < 256 → ∃ c, sy p = ((256 + c : Nat) : Int) ∧ c ≤ 700 ∧ stk p = p :: stk (p + 1) ∧ ∀ w, w < 8 → val p w = Txt.contains (word w) (ch c)
  join : ∀ p, p < N → sy p < 256 → ∃ rest, stk (p + 1) = lt p :: rt p :: rest ∧ stk p = p :: rest ∧ p < lt p ∧ lt p < N ∧ p < rt p ∧ rt p < N ∧ ∀ w, w < 8 → val p w = holdsB (sy p) (val (lt p) w) (val (rt p) w)
def SidesOk (N : Nat) (sy : Nat → Int) (lt rt : Nat → Nat) (ρ : Led) (kd : List (Int × Value)) (p : Nat) : Prop :=
  ∀ q : Nat, p ≤ q → q < N → sy q < 256 → ∃ tp tl tr, valueAt kd (q : Int) = some (.ref tp) ∧ (tp, tup #[.int (lt q) tl, .int (rt q) tr]) ∈ ρ
def HeldOk (N : Nat) (val : Nat → Nat → Bool) (ρ : Led) (kh : List (Int × Value)) (p : Nat) : Prop :=
  ∀ q : Nat, p ≤ q → q < N → ∃ lq it c, valueAt kh (q : Int) = some (.ref lq) ∧ (lq, lst it c) ∈ ρ ∧ StrsAre it.toList (hvW (val q))
theorem stk_len {N : Nat} {sy : Nat → Int} {lt rt : Nat → Nat} {stk : Nat → List Nat} {val : Nat → Nat → Bool} (D : RdP N sy lt rt stk val) : ∀ i, i ≤ N → (stk (N - i)).length ≤ i
  | 0, _ => by rw [Nat.sub_zero, D.s0]; simp
  | i + 1, h => by
    have ih := stk_len D i (by omega)
    have e : N - (i + 1) + 1 = N - i := by omega
    by_cases q : sy (N - (i + 1)) < 256
    · obtain ⟨rest, h1, h2, _⟩ := D.join _ (by omega) q
      rw [e] at h1
      rw [h1] at ih
      rw [h2]
      simp at ih ⊢
      omega
    · obtain ⟨c, _, _, h2, _⟩ := D.leaf _ (by omega) q
      rw [e] at h2
      rw [h2]
      simp
      exact ih

theorem strs_vals : ∀ {vs : List Value} {L : List Str}, StrsAre vs L → ∃ l : List (Str × Tok), vs = strValues l ∧ l.map (·.1) = L
  | _, _, .nil => ⟨[], rfl, rfl⟩
  | _, _, .cons y t h => by
    obtain ⟨l, e1, e2⟩ := strs_vals h
    exact ⟨(y, t) :: l, by rw [e1]; rfl, by rw [← e2]; rfl⟩
theorem a_four {A : Around} {E : Value → Shared → Prop} {s : Shared} {Γ : Fd} {m : Str → Option Value} {σ : Led} {w : World} {x1 x2 x3 x4 : Str} {p1 p2 p3 p4 tp : Pos} {kk : Nat} {t : Addr} {a b c d : Value} {Q : Unit → Shared → Prop} (hh : A.handled = none) (H : (StI Γ m σ).p s) (ht : s.heap.get? t = some (tup #[a, b, c, d]))
    (h : ∀ s, (StI Γ m σ).p s → wpAny (model PP w) A (storeName Γ.env x1 a) (fun _ s => wpAny (model PP w) A (storeName Γ.env x2 b) (fun _ s => wpAny (model PP w) A (storeName Γ.env x3 c) (fun _ s => wpAny (model PP w) A (storeName Γ.env x4 d) Q E s) E s) E s) E s) :
    wpAny (model PP w) A (assign (.Tuple [.Name x1 p1, .Name x2 p2, .Name x3 p3, .Name x4 p4] kk tp) Γ.env (.ref t)) Q E s := by
  refine wpAny_assign_Tuple hh ⟨_, ht, rfl, _, rfl⟩ rfl rfl fun h' he => ?_
  have H' := St.ext (t := s.toks) H (h := h') (fun b o e => he b o (Nat.ne_of_lt (Heap.lt_size e)) e)
  exact wpAny_assignInOrder_more (wpAny_assign_Name (wpAny_mono (h _ H') (fun _ _ q => wpAny_assignInOrder_more (wpAny_assign_Name (wpAny_mono q (fun _ _ q => wpAny_assignInOrder_more (wpAny_assign_Name (wpAny_mono q (fun _ _ q => wpAny_assignInOrder_more (wpAny_assign_Name (wpAny_mono q (fun _ _ q => wpAny_assignInOrder_none q) fun _ _ z => z))) fun _ _ z => z))) fun _ _ z => z))) fun _ _ z => z))
theorem down (N : Nat) (h : N ≤ 11) : Builtin.Range.small (N : Int) (-1) (-1) = true ∧ Builtin.Range.rangeSize (N : Int) (-1) (-1) = (N + 1 : Nat) := by
  revert N
  decide +kernel
theorem i_neg {w : World} {A : Around} {E : Value → Shared → Prop} {s : Shared} {I : Inv w} {a : Int} {t : Tok} {Q : Value → Shared → Prop} (H : I.p s) (h : ∀ t s, I.p s → Q (.int (-a) t) s) : wpAny (model PP w) A (unaryOp .USub (.int a t)) Q E s := neg_int (h _ _ (I.tok H))
theorem kvR_mem {val : Nat → Nat → Bool} {N : Nat} : ∀ (j : Nat), j ≤ N → ∀ kv ∈ kvR val N j, ∃ q, N - j ≤ q ∧ q < N ∧ kv = (ch (97 + q), Txt.join (" " : Str) (hvW (val q)))
  | 0, _, kv, h => by simp [kvR] at h
  | j + 1, hj, kv, h => by
    rcases List.mem_append.mp h with h | h
    · obtain ⟨q, a, b, c⟩ := kvR_mem j (by omega) kv h
      exact ⟨q, by omega, b, c⟩
    · simp at h
      exact ⟨N - 1 - j, by omega, by omega, h⟩
theorem ch_inj {a b : Nat} (h : ch a = ch b) : a = b := by
  have := congrArg (fun s : Str => s.cps.toList) h
  simpa using this
theorem kvR_find {val : Nat → Nat → Bool} {N j q : Nat} (hN : N ≤ 11) (hj : q + (j + 1) = N) : (kvR val N (j + 1)).find? (fun kv => Txt.lower kv.1 == Txt.lower (ch (65 + q))) = some (ch (97 + q), Txt.join (" " : Str) (hvW (val q))) := by
  obtain ⟨_, c2, c3, _⟩ := ch_ok q (by omega)
  have hq : N - 1 - j = q := by omega
  show (kvR val N j ++ [(ch (97 + (N - 1 - j)), Txt.join (" " : Str) (hvW (val (N - 1 - j))))]).find? _ = _
  rw [hq, List.find?_append, c3]
  have : (kvR val N j).find? (fun kv => Txt.lower kv.1 == ch (97 + q)) = none := by
    rw [List.find?_eq_none]
    intro kv hkv e
    obtain ⟨q', a, b, rfl⟩ := kvR_mem j (by omega) kv hkv
    obtain ⟨_, d2, _, _⟩ := ch_ok q' (by omega)
    rw [beq_iff_eq] at e
    dsimp only at e
    rw [d2] at e
    have := ch_inj e
    omega
  rw [this]
  simp [c2]
theorem strs_get : ∀ {vs : List Value} {L : List Str}, StrsAre vs L → ∀ (i : Nat) v, vs[i]? = some v → ∃ x t, L[i]? = some x ∧ v = .str x t
  | _, _, .nil, i, v, h => by simp at h
  | _, _, .cons y t r, 0, v, h => by simp at h; exact ⟨y, t, by simp, h.symm⟩
  | _, _, .cons y t r, i + 1, v, h => by
    obtain ⟨x, t', a, b⟩ := strs_get r i v (by simpa using h)
    exact ⟨x, t', by simpa using a, b⟩
theorem strs_len : ∀ {vs : List Value} {L : List Str}, StrsAre vs L → vs.length = L.length
  | _, _, .nil => rfl
  | _, _, .cons _ _ h => by simp [strs_len h]
theorem ints_of_words {wits : Array Value} (hw : StrsAre wits.toList ((List.range 8).map word)) : wits.size = 8 := by
  have := strs_len hw
  simpa using this
theorem words_at {wits : Array Value} (hw : StrsAre wits.toList ((List.range 8).map word)) {j : Nat} {v : Value} (hv : wits[j]? = some v) : j < 8 ∧ ∃ t, v = .str (word j) t := by
  have hj : j < 8 := by rw [← ints_of_words hw]; exact (Array.getElem?_eq_some_iff.mp hv).1
  obtain ⟨x, t, a, b⟩ := strs_get hw j v (by rw [Array.getElem?_toList]; exact hv)
  rw [List.getElem?_map, List.getElem?_range hj] at a
  simp at a
  exact ⟨hj, t, by rw [b, a]⟩
theorem rev3 {α : Type} {a b c : α} {r : List α} : (c :: b :: a :: r).Perm (a :: b :: c :: r) := (List.Perm.swap b c _).trans (((List.Perm.swap a c r).cons b).trans (List.Perm.swap a b _))
structure ReadOut (w : World) (N : Nat) (sy : Nat → Int) (lt rt : Nat → Nat) (stk : Nat → List Nat) (val : Nat → Nat → Bool) (ρ : Led) (t : Addr) : Prop where
  ex : ∃ lp ds dh pit pc od oh kd kh, (t, tup #[.ref lp, .ref ds, .ref dh]) ∈ ρ ∧ (lp, lst pit pc) ∈ ρ ∧ (ds, od) ∈ ρ ∧ (dh, oh) ∈ ρ ∧ PI pit (stk 0) ∧ DObj w od kd ∧ DObj w oh kh ∧ SidesOk N sy lt rt ρ kd 0 ∧ HeldOk N val ρ kh 0

def forBody : List Stmt → List Stmt
  | (.For _ _ b _ _) :: _ => b
  | _ :: r => forBody r
  | [] => []
theorem kvR_len (val : Nat → Nat → Bool) (N : Nat) : ∀ j, (kvR val N j).length = j
  | 0 => rfl
  | j + 1 => by simp [kvR, kvR_len val N j]
theorem read_tail {w : World} {A : Around} {s s' : Shared} {K : Flow → Shared → Prop} {E : Value → Shared → Prop} {oc : Value} {od₀ : Option Addr} {osl : Array (Option Value)} {fd : FuncData} {body : List Stmt}
  (ho : (KK w).lookup 241 = some ⟨oc, od₀, .func fd, osl⟩) (hb : fd.body = .stmts body) (hA1 : AOk 3 A)
  {m : Str → Option Value} {I lp ds dh l x dx D' : Addr} {io od oh : Obj} {pit items ys : Array Value} {pc c c' : Nat} {ρ : Led} {tk t : Tok} {q j N : Nat} {val : Nat → Nat → Bool} {kh : List (Int × Value)}
  (m1 : m "table" = some (.ref x)) (m2 : m "here" = some (.ref D')) (m3 : m "place" = some (.int (q : Int) t)) (m4 : m "held" = some (.ref dh)) (m5 : m "pile" = some (.ref lp))
  (H : (StI (fdOn s.heap s w 241 fd) m ([(I, io), (lp, lst pit pc), (ds, od), (dh, oh)] ++ (l, lst items c) :: ρ)).p s')
  (hD : (D', lst ys c') ∈ ρ) (hxm1 : (x, instObj 213 dx) ∈ ρ) (hxm2 : (dx, dictOf (hes w tk l) 1) ∈ ρ) (hys : StrsAre ys.toList (hvW (val q)))
  (hN : N ≤ 11) (hq : q + (j + 1) = N) (hL : HLσ ρ items (kvR val N j)) (hPs : pit.size ≤ 11) (hh : DObj w oh kh) (khl : kh.length ≤ 1000)
  (k : ∀ tp t1 t2 c2' oh' D2 it s'', DObj w oh' (stored kh (q : Int) (.ref D2)) → StrsAre it.toList (hvW (val q)) → HLσ ((tp, tup #[.str (ch (97 + q)) t1, .str (Txt.join (" " : Str) (hvW (val q))) t2]) :: ρ) (items.push (.ref tp)) (kvR val N (j + 1)) →
    (StI (fdOn s.heap s w 241 fd) m ([(I, io), (lp, lst (pit.push (.int (q : Int) t)) (pc + 1)), (ds, od), (dh, oh'), (l, lst (items.push (.ref tp)) c2')] ++ (D2, lst it 0) :: (tp, tup #[.str (ch (97 + q)) t1, .str (Txt.join (" " : Str) (hvW (val q))) t2]) :: ρ)).p s'' → K .next s'') :
  wpAny (model PP w) A (execs ((forBody body).drop 2) (fdOn s.heap s w 241 fd).env) K E s' := by
  have h : (KK w).lookup 241 = some ⟨?oc, ?od, .func ?fd, ?osl⟩ := by rfl
  rw [h] at ho
  cases ho
  cases hb
  dsimp only [forBody, List.drop]
  obtain ⟨c1, c2, c3, c4⟩ := ch_ok q (by omega)
  obtain ⟨v1, v2, v3, v4, v5⟩ := hvOk (val q)
  obtain ⟨lv, lv1, lv2⟩ := strs_vals hys
  have eys : ys = (strValues lv).toArray := by apply Array.ext'; simpa using lv1
  subst eys
  have hisz : items.size ≤ 1000 := by
    rw [hL.1, kvR_len]; omega
  repeat walk_at "g11"
  rename Inv.p _ _ => H
  refine o_hmeth (l := l) (Inv.wd _ H) ⟨dx, tk, St.led H _ (List.mem_append_right _ (.tail _ hxm1)), St.led H _ (List.mem_append_right _ (.tail _ hxm2))⟩ cM_add cT_add (fun tk => by rfl) ?_
  repeat walk_at "g11"
  rename Inv.p _ _ => H
  rw [show (97 + (q : Int)) = ((97 + q : Nat) : Int) by push_cast; rfl]
  refine o_chr H (by omega) (fun t' s H => ?_)
  repeat walk_at "g11"
  rename Inv.p _ _ => H
  refine o_join (l := lv) H (St.isList H (o := lst (strValues lv).toArray c') (List.mem_append_right _ (.tail _ hD)) LObj.lst) (by rw [lv2]; exact v1) (fun t' s H => ?_)
  rw [lv2]
  repeat walk_at "g11"
  rename Inv.p _ _ => H
  refine ⟨Inv.wd _ H, o_addh H (AOk.mono hA1 (by decide)) ⟨dx, tk, St.led H _ (List.mem_append_right _ (.tail _ hxm1)), St.led H _ (List.mem_append_right _ (.tail _ hxm2))⟩ (ch_clean (by omega) (by omega)) v2 v3 hisz (fun tp c2' t1 t2 s H => ⟨fun a h => (nomatch h), ?_⟩)⟩
  have hL' : HLσ ((tp, tup #[.str (ch (97 + q)) t1, .str (Txt.join (" " : Str) (hvW (val q))) t2]) :: ρ) (items.push (.ref tp)) (kvR val N (j + 1)) := by
    have := HLσ.push (tp := tp) (k := ch (97 + q)) (v := Txt.join (" " : Str) (hvW (val q))) (tk := t1) (tv := t2) (HLσ.mono hL (ρ' := (tp, tup #[.str (ch (97 + q)) t1, .str (Txt.join (" " : Str) (hvW (val q))) t2]) :: ρ) (fun p hp => .tail _ hp)) (.head _)
    have e : q = N - 1 - j := by omega
    subst e
    exact this
  have hst : ∀ p ∈ (tp, tup #[.str (ch (97 + q)) t1, .str (Txt.join (" " : Str) (hvW (val q))) t2]) :: ρ, p ∈ (tp, tup #[.str (ch (97 + q)) t1, .str (Txt.join (" " : Str) (hvW (val q))) t2]) :: ([(I, io), (lp, lst pit pc), (ds, od), (dh, oh)] ++ (l, lst (items.push (.ref tp)) c2') :: ρ) := fun p hp => by
    rcases List.mem_cons.mp hp with rfl | hp
    · exact .head _
    · exact .tail _ (List.mem_append_right _ (.tail _ hp))
  repeat walk_at "g11"
  rename Inv.p _ _ => H
  refine o_hmeth (l := l) (Inv.wd _ H) ⟨dx, tk, St.led H _ (hst _ (.tail _ hxm1)), St.led H _ (hst _ (.tail _ hxm2))⟩ cM_get cT_get (fun tk => by rfl) ?_
  repeat walk_at "g11"
  rename Inv.p _ _ => H
  rw [show (65 + (q : Int)) = ((65 + q : Nat) : Int) by push_cast; rfl]
  refine o_chr H (by omega) (fun t' s H => ?_)
  repeat walk_at "g11"
  rename Inv.p _ _ => H
  refine ⟨Inv.wd _ H, o_ref H (fun R k => spec_get (items := items.push (.ref tp)) (kvs := kvR val N (j + 1)) (Inv.wd _ H) (AOk.mono hA1 (by decide)) ⟨dx, tk, St.led H _ (hst _ (.tail _ hxm1)), St.led H _ (hst _ (.tail _ hxm2))⟩ (St.isList H (o := lst (items.push (.ref tp)) c2') (.tail _ (List.mem_append_right _ (.head _))) LObj.lst) (hL'.heap H hst)
    (fun kv hkv => by obtain ⟨q', a1, a2, rfl⟩ := kvR_mem (j + 1) (by omega) kv hkv; exact (ch_ok q' (by omega)).1) (by rw [c3]; exact ch_clean (by omega) (by omega)) c4 (kvR_find hN hq) k) ?_⟩
  rintro v s H ⟨t', rfl⟩
  repeat walk_at "g11"
  refine o_split (by assumption) v4 (fun D2 it s H hit => ?_)
  rw [v5] at hit
  repeat walk_at "g11"
  rename Inv.p _ _ => H
  refine set_dictS (pre := [(D2, lst it 0), (tp, _), (I, io), (lp, lst pit pc), (ds, od)]) (post := (l, lst (items.push (.ref tp)) c2') :: ρ) H hh khl (fun oh' s H hh' => ?_)
  repeat walk_at "g11"
  rename Inv.p _ _ => H
  refine m_append (items := pit) (c := pc) (St.led H _ (.tail _ (.tail _ (.tail _ (.head _))))) ?_
  repeat walk_at "g11"
  rename Inv.p _ _ => H
  refine o_appendS (pre := [(D2, lst it 0), (tp, _), (I, io)]) (post := (ds, od) :: (dh, oh') :: (l, lst (items.push (.ref tp)) c2') :: ρ) H (Nat.le_trans hPs (by decide)) (fun s H => ⟨fun a h => (nomatch h), ?_⟩)
  repeat walk_at "g11"
  rename Inv.p _ _ => H
  exact k tp t1 t2 c2' oh' D2 it _ hh' hit hL' (St.perm H (List.perm_middle (l₁ := [(I, io), (lp, _), (ds, od), (dh, oh'), (l, _)]) (a := (D2, lst it 0)) (l₂ := (tp, _) :: ρ) |>.trans ((List.perm_middle (l₁ := [(I, io), (lp, _), (ds, od), (dh, oh'), (l, _)]) (a := (tp, _)) (l₂ := ρ)).cons (D2, lst it 0))))

theorem ar0 {N : Nat} : min N (N + 1 - 0) = N := Nat.min_eq_left (Nat.le_succ N)
theorem ar1 {N : Nat} : min N (N + 1 - (0 + 1)) = min N (N + 1 - 0) := by rw [ar0, Nat.zero_add, Nat.add_sub_cancel, Nat.min_self]
theorem ar2 {N i q : Nat} (h : q + i = N) : N + 1 - i = q + 1 := by rw [← h, Nat.add_right_comm, Nat.add_sub_cancel]
theorem ar3 {N i q : Nat} (h : q + i = N) (hi : q < N) : min N (N + 1 - i) = q + 1 := by rw [ar2 h]; exact Nat.min_eq_right hi
theorem ar4 {N j q : Nat} (h : q + (j + 1) = N) : N + 1 - (j + 1 + 1) = q := by rw [Nat.add_sub_add_right, ← h, Nat.add_sub_cancel]
theorem ar5 {N j q : Nat} (h : q + (j + 1) = N) : min N (N + 1 - (j + 1 + 1)) = q := by rw [ar4 h]; exact Nat.min_eq_right (h ▸ Nat.le_add_right _ _)
theorem ar6 {N : Nat} : N + 1 - (N + 1) = 0 := Nat.sub_self _
theorem ar7 {N : Nat} : min N (N + 1 - (N + 1)) = 0 := by rw [ar6]; exact Nat.min_zero _
theorem ar8 {N i q : Nat} (h : q + i = N) : q ≤ N := h ▸ Nat.le_add_right _ _
theorem ar9 {N i q : Nat} (h : q + i = N) : (N : Int) + (i : Int) * -1 = (q : Int) := by omega
theorem ar10 {N i q : Nat} (hN : N ≤ 11) (h : q + i = N) : (q : Int) < 2 ^ 63 := by omega
theorem ar11 {N i q : Nat} (h : q + i = N) (hi : q < N) : ∃ j, i = j + 1 ∧ j ≤ N ∧ N - j = q + 1 := ⟨i - 1, by omega⟩
theorem ar12 {N i n : Nat} (hN : N ≤ 11) (h : i < N + 1) (hn : n ≤ i) : n ≤ 1000 := by omega
theorem ar13 {N j q n : Nat} (hN : N ≤ 11) (h : q + (j + 1) = N) (hn : n ≤ j + 1) : n ≤ 1000 := by omega
theorem ar14 {N j q n : Nat} (hN : N ≤ 11) (h : q + (j + 1) = N) (hn : n ≤ j) : n ≤ 11 := by omega
theorem ar15 {N q : Nat} {P : Prop} (h1 : N + 1 - 0 ≤ q) (h2 : q < N) : P := absurd h2 (by omega)
theorem ar17 {c : Nat} : ((256 + c : Nat) : Int) - 256 = (c : Int) := by omega
theorem ar16 {N q : Nat} {P : Prop} (h1 : N + 1 - (0 + 1) ≤ q) (h2 : q < N) : P := absurd h2 (by omega)
theorem heldNext {N : Nat} {val : Nat → Nat → Bool} {ρ : Led} {kh : List (Int × Value)} {q : Nat} {D2 : Addr} {it : Array Value} (hit : StrsAre it.toList (hvW (val q))) (hHe : HeldOk N val ((D2, lst it 0) :: ρ) kh (q + 1)) : HeldOk N val ((D2, lst it 0) :: ρ) (stored kh (q : Int) (.ref D2)) q := fun q' h1 h2 => by
  rcases Nat.eq_or_lt_of_le h1 with z | z
  · subst z
    exact ⟨D2, it, 0, va_same, .head _, hit⟩
  · obtain ⟨a1, a2, a3, a4, a5, a6⟩ := hHe q' z h2
    exact ⟨a1, a2, a3, by rw [va_ne (by omega)]; exact a4, a5, a6⟩
def RJ (w : World) (N : Nat) (sy : Nat → Int) (lt rt : Nat → Nat) (stk : Nat → List Nat) (val : Nat → Nat → Bool) (ls lw x dx l : Addr) (tk : Tok) (i : Nat) (m : Str → Option Value) (σ : Led) : Prop := ∃ (lp ds dh : Addr) (items : Array Value) (c : Nat) (pit : Array Value) (pc : Nat) (od oh : Obj) (kd kh : List (Int × Value)) (ρ : Led), σ = (lp, lst pit pc) :: (ds, od) :: (dh, oh) :: (l, lst items c) :: ρ ∧ m "symbols" = some (.ref ls) ∧ m "words" = some (.ref lw) ∧ m "table" = some (.ref x) ∧ m "pile" = some (.ref lp) ∧ m "sides" = some (.ref ds) ∧ m "held" = some (.ref dh) ∧ PI pit (stk (min N (N + 1 - i))) ∧ DObj w od kd ∧ DObj w oh kh ∧ kd.length ≤ i ∧ kh.length ≤ i ∧ (x, instObj 213 dx) ∈ ρ ∧ (dx, dictOf (hes w tk l) 1) ∈ ρ ∧ HLσ ρ items (kvR val N (i - 1)) ∧ SidesOk N sy lt rt ρ kd (N + 1 - i) ∧ HeldOk N val ρ kh (N + 1 - i)
theorem RJ.elim {w : World} {N : Nat} {sy : Nat → Int} {lt rt : Nat → Nat} {stk : Nat → List Nat} {val : Nat → Nat → Bool} {ls lw x dx l : Addr} {tk : Tok} {i : Nat} {m : Str → Option Value} {σ : Led} {G : Prop} (h : RJ w N sy lt rt stk val ls lw x dx l tk i m σ)
    (k : ∀ (lp ds dh : Addr) (items : Array Value) (c : Nat) (pit : Array Value) (pc : Nat) (od oh : Obj) (kd kh : List (Int × Value)) (ρ : Led), σ = (lp, lst pit pc) :: (ds, od) :: (dh, oh) :: (l, lst items c) :: ρ → m "symbols" = some (.ref ls) → m "words" = some (.ref lw) → m "table" = some (.ref x) → m "pile" = some (.ref lp) → m "sides" = some (.ref ds) → m "held" = some (.ref dh) → PI pit (stk (min N (N + 1 - i))) → DObj w od kd → DObj w oh kh → kd.length ≤ i → kh.length ≤ i → (x, instObj 213 dx) ∈ ρ → (dx, dictOf (hes w tk l) 1) ∈ ρ → HLσ ρ items (kvR val N (i - 1)) → SidesOk N sy lt rt ρ kd (N + 1 - i) → HeldOk N val ρ kh (N + 1 - i) → G) : G := by
  obtain ⟨lp, ds, dh, items, c, pit, pc, od, oh, kd, kh, ρ, e, m1, m2, m3, m4, m5, m6, hP, hd, hh, kdl, khl, hx1, hx2, hL, hS, hHe⟩ := h
  exact k lp ds dh items c pit pc od oh kd kh ρ e m1 m2 m3 m4 m5 m6 hP hd hh kdl khl hx1 hx2 hL hS hHe
theorem RJ.mk {w : World} {N : Nat} {sy : Nat → Int} {lt rt : Nat → Nat} {stk : Nat → List Nat} {val : Nat → Nat → Bool} {ls lw x dx l : Addr} {tk : Tok} {i : Nat} {m : Str → Option Value} {lp ds dh : Addr} {items : Array Value} {c : Nat} {pit : Array Value} {pc : Nat} {od oh : Obj} {kd kh : List (Int × Value)} {ρ : Led}
    (h0 : m "symbols" = some (.ref ls)) (h1 : m "words" = some (.ref lw)) (h2 : m "table" = some (.ref x)) (h3 : m "pile" = some (.ref lp)) (h4 : m "sides" = some (.ref ds)) (h5 : m "held" = some (.ref dh)) (h6 : PI pit (stk (min N (N + 1 - i)))) (h7 : DObj w od kd) (h8 : DObj w oh kh) (h9 : kd.length ≤ i) (h10 : kh.length ≤ i) (h11 : (x, instObj 213 dx) ∈ ρ) (h12 : (dx, dictOf (hes w tk l) 1) ∈ ρ) (h13 : HLσ ρ items (kvR val N (i - 1))) (h14 : SidesOk N sy lt rt ρ kd (N + 1 - i)) (h15 : HeldOk N val ρ kh (N + 1 - i)) : RJ w N sy lt rt stk val ls lw x dx l tk i m ((lp, lst pit pc) :: (ds, od) :: (dh, oh) :: (l, lst items c) :: ρ) :=
  ⟨lp, ds, dh, items, c, pit, pc, od, oh, kd, kh, ρ, rfl, h0, h1, h2, h3, h4, h5, h6, h7, h8, h9, h10, h11, h12, h13, h14, h15⟩
theorem spec_read {w : World} {A : Around} {s : Shared} {R : Result → Shared → Prop} {N : Nat} {sy : Nat → Int} {lt rt : Nat → Nat} {stk : Nat → List Nat} {val : Nat → Nat → Bool} {ls lw : Addr} {sits wits : Array Value} {sc' wc : Nat} (W : Wd w s.heap) (hA : AOk 4 A) (D : RdP N sy lt rt stk val)
  (hls : s.heap.get? ls = some (lst sits sc')) (hss : sits.size = N + 1) (hsy : ∀ p, p ≤ N → ∃ t, sits[p]? = some (.int (sy p) t)) (hlw : s.heap.get? lw = some (lst wits wc)) (hw : StrsAre wits.toList ((List.range 8).map word))
  (k : Rets s R fun v s' => ∃ t ρ, v = .ref t ∧ (∀ p ∈ ρ, s'.heap.get? p.1 = some p.2 ∧ s.heap.get? p.1 = none) ∧ (ρ.map (·.1)).Nodup ∧ ReadOut w N sy lt rt stk val ρ t) :
  codeAny (model PP w) A (.call (.ref 241) ⟨[.ref ls, .ref lw], []⟩) R s := by
  have hA1 : ∀ env, AOk 3 (A.deeper env) := fun env => AOk.deep hA
  have hN := D.hN
  have hsl : s.heap.IsList ls sits := ⟨_, hls, rfl, _, rfl⟩
  have hwl : s.heap.IsList lw wits := ⟨_, hlw, rfl, _, rfl⟩
  refine enterK (binds := [("symbols", .ref ls), ("words", .ref lw)]) W hA.room (by rfl) (by rfl) (by rfl) (BindsTo.of_eq rfl) (fun s H => ?_)
  refine gen fun Kf hKf => ?_
  repeat walk_at "g11"
  rename Inv.p _ _ => H
  refine ⟨Inv.wd _ H, o_newh H (AOk.mono (hA1 _) (by decide)) (fun x dx l tk c s H => ?_)⟩
  repeat walk_at "g11"
  rename_i t0 s0
  rename Inv.p _ _ => H
  refine a_four (hA1 _).hh H (St.led H _ (.head _)) (fun s H => ?_)
  repeat walk_at "g11"
  rename Inv.p _ _ => H
  refine o_len_lst _ H ⟨_, St.keep H _ _ hls, rfl, _, rfl⟩ (by rw [hss]; omega) (fun t s H => ?_)
  repeat walk_at "g11"
  refine i_neg (by assumption) (fun t s H => ?_)
  repeat walk_at "g11"
  refine i_neg (by assumption) (fun t s H => ?_)
  repeat walk_at "g11"
  rename Inv.p _ _ => H
  rw [hss, show (((N + 1 : Nat) : Int) - 1) = (N : Int) by omega]
  obtain ⟨dn1, dn2⟩ := down N hN
  refine o_range3 (a := (N : Int)) (b := -1) (c := -1) H (by decide) (PyProof.noPylong_small (by decide)) (fun r t u v s H => ?_)
  replace H := St.perm (St.drop H (.cons_cons _ (.cons _ (List.Sublist.refl _)))) ((rev3).cons _)
  refine it_range (n := N + 1) (RJ w N sy lt rt stk val ls lw x dx l tk)
    (hA1 _).hh H dn1 dn2 ?_ ?_ ?_ ?_
  · refine RJ.mk (pit := #[]) (items := #[]) (kd := []) (kh := []) (ρ := [(x, instObj 213 dx), (dx, dictOf (hes w tk l) 1)]) (by walk_at "lk") (by walk_at "lk") (by walk_at "lk") (by walk_at "lk") (by walk_at "lk") (by walk_at "lk") ?_ DObj.nil DObj.nil (Nat.le_refl _) (Nat.le_refl _) (.head _) (.tail _ (.head _)) ⟨rfl, fun i kv e => by simp [kvR] at e⟩ (fun q h1 h2 => ar15 h1 h2) (fun q h1 h2 => ar15 h1 h2)
    rw [ar0, D.s0]
    exact PI.nil
  · intro m σ s v Q E H hq
    exact s_cel H hq
  · clear H dn1 dn2
    intro i t m σ I io s hi hJ H
    refine gen fun K hK => ?_
    refine RJ.elim hJ fun lp ds dh items c pit pc od oh kd kh ρ e m1 m2 m3 m4 m5 m6 hP hd hh kdl khl hx1 hx2 hL hS hHe => ?_
    subst e
    clear hJ
    obtain ⟨q, hq⟩ : ∃ q, q + i = N := ⟨N - i, by omega⟩
    rw [ar9 hq] at H
    obtain ⟨tsy, hsq⟩ := hsy q (ar8 hq)
    have q0 : (0 : Int) ≤ (q : Int) := Int.natCast_nonneg q
    have q63 : (q : Int) < 2 ^ 63 := ar10 hN hq
    have h241 : (KK w).lookup 241 = some ⟨?oc, ?od, .func ?fd, ?osl⟩ := by rfl
    repeat walk_at "g11"
    rename Inv.p _ _ => H
    refine it_lst (keepL hsl (St.keep H)) q0 q63 hsq ?_
    repeat walk_at "g11"
    rename Inv.p _ _ => H
    refine ⟨Inv.wd _ H, o_ref H (fun R k => spec_ISEOF (Inv.wd _ H) (hA1 _).room k) ?_⟩
    rintro v s H rfl
    repeat walk_at "g11"
    refine ⟨fun he => ?_, fun he => ?_⟩
    · have he : sy q = 0 := by simpa using he
      have hqN : q = N := by
        rcases Nat.lt_or_eq_of_le (ar8 hq) with z | z
        · exact absurd he (D.nz q z)
        · exact z
      have hi0 : i = 0 := Nat.add_left_cancel (hq.trans hqN.symm)
      subst hi0
      rename Inv.p _ _ => H
      refine x_cont ?_
      repeat walk_at "g11"
      subst hK
      refine tq_cont ⟨_, _, H, RJ.mk (by walk_at "lk") (by walk_at "lk") (by walk_at "lk") (by walk_at "lk") (by walk_at "lk") (by walk_at "lk") ?_ hd hh (Nat.le_succ_of_le kdl) (Nat.le_succ_of_le khl) hx1 hx2 hL (fun q' h1 h2 => ar16 h1 h2) (fun q' h1 h2 => ar16 h1 h2)⟩
      rw [ar1]; exact hP
    have hqN : q < N := by
      rcases Nat.lt_or_eq_of_le (ar8 hq) with z | z
      · exact z
      · rw [z, D.e0] at he; simp at he
    rw [ar3 hq hqN] at hP
    rw [ar2 hq] at hS hHe
    obtain ⟨j, rfl, hjN, hjq⟩ := ar11 hq hqN
    rw [show j + 1 - 1 = j from rfl] at hL
    repeat walk_at "g11"
    rename Inv.p _ _ => H
    refine it_lst (keepL hsl (St.keep H)) q0 q63 hsq ?_
    repeat walk_at "g11"
    rename Inv.p _ _ => H
    refine ⟨Inv.wd _ H, o_ref H (fun R k => spec_ISTERMINAL (Inv.wd _ H) (hA1 _).room k) ?_⟩
    rintro v s H rfl
    repeat walk_at "g11"
    refine ⟨fun ht => ?_, fun ht => ?_⟩
    · have ht : ¬ sy q < 256 := by simpa using ht
      obtain ⟨cc, e1, e2, e3, e4⟩ := D.leaf q hqN ht
      repeat walk_at "g11"
      rename Inv.p _ _ => H
      refine ct_list H (keepL hwl (St.keep H)) (hA1 _).hh (by have := ints_of_words hw; omega) (by rfl) (fun ν i o => i < 8 ∧ ((val q i = true ∧ ∃ y, o = some y ∧ isS (word i) y) ∨ (val q i = false ∧ o = none)))
        (fun _ _ _ _ _ h => h) ?_ (post_used fun D' ys c' ν s' H' hLd => ?_)
      · intro C j v mm σc s hj hv hmm Hc
        have ms : mm "symbols" = some (.ref ls) := (hmm "symbols" (by rfl)).trans (by walk_at "lk")
        have mp : mm "place" = some (.int (q : Int) t) := (hmm "place" (by rfl)).trans (by walk_at "lk")
        obtain ⟨hj8, tv, rfl⟩ := words_at hw hv
        have kb := St.keep H
        clear H
        repeat walk_at "g11"
        rename Inv.p _ _ => H
        refine it_lst (keepL (keepL hsl kb) (St.keep H)) q0 q63 hsq ?_
        repeat walk_at "g11"
        rw [show sy q - 256 = (cc : Int) by rw [e1]; exact ar17]
        refine o_chr (by assumption) (by omega) (fun t s H => ?_)
        repeat walk_at "g11"
        refine SB.contains ?_
        rw [← e4 j hj8]
        repeat walk_at "g11"
        refine ⟨fun hc => ?_, fun hc => ?_⟩
        · repeat walk_at "g11"
          exact ⟨[], by assumption, hj8, .inl ⟨hc, _, rfl, _, rfl⟩⟩
        · exact ⟨[], by assumption, hj8, .inr ⟨hc, rfl⟩⟩
      have hys : StrsAre ys.toList (hvW (val q)) := strsAre_of (paired_map (f := word) (hLd.paired (p := val q) (xs := List.range 8) (G := fun j => isS (word j)) (by have := ints_of_words hw; simpa using this) fun j o ⟨h8, h⟩ => ⟨j, by rw [List.getElem?_range h8], h⟩))
      clear H hLd
      have H := St.perm (St.drop H' (.cons_cons _ (List.sublist_append_right _ _))) (List.perm_middle (l₁ := [(I, io), (lp, lst pit pc), (ds, od), (dh, oh), (l, lst items c)]) (a := (D', lst ys c')) (l₂ := ρ))
      clear H'
      have hS' : SidesOk N sy lt rt ((D', lst ys c') :: ρ) kd q := fun q' h1 h2 h3 => by
        rcases Nat.eq_or_lt_of_le h1 with z | z
        · exact absurd (z ▸ h3) ht
        · obtain ⟨a1, a2, a3, a4, a5⟩ := hS q' z h2 h3
          exact ⟨a1, a2, a3, a4, .tail _ a5⟩
      have hP' := PI.push hP q t
      rw [← e3] at hP'
      have hPs : pit.size ≤ 11 := by rw [hP.size]; have := stk_len D j hjN; rw [hjq] at this; exact ar14 hN hq this
      repeat first | with_reducible refine x_nil ?_ | with_reducible refine sq_next ?_
      refine read_tail (ρ := (D', lst ys c') :: ρ) (j := j) (N := N) (kh := kh) h241 rfl (hA1 _) (by walk_at "lk") (by walk_at "lk") (by walk_at "lk") (by walk_at "lk") (by walk_at "lk") H (.head _) (.tail _ hx1) (.tail _ hx2) hys hN hq (hL.mono fun p hp => .tail _ hp) hPs hh (ar13 hN hq khl) (fun tp t1 t2 c2' oh' D2 it s hh' hit hL' H' => ?_)
      subst hK
      refine tq_next ⟨_, _, H', RJ.mk (ρ := (D2, lst it 0) :: (tp, _) :: (D', lst ys c') :: ρ) (by walk_at "lk") (by walk_at "lk") (by walk_at "lk") (by walk_at "lk") (by walk_at "lk") (by walk_at "lk") ?_ hd hh' (Nat.le_succ_of_le kdl) (Nat.le_trans (stored_length_le _ _ _) (Nat.succ_le_succ khl)) (.tail _ (.tail _ (.tail _ hx1))) (.tail _ (.tail _ (.tail _ hx2))) (hL'.mono (fun p hp => .tail _ hp)) ?_ ?_⟩
      · rw [ar5 hq]; exact hP'
      · rw [ar4 hq]
        exact fun q' h1 h2 h3 => let ⟨a1, a2, a3, a4, a5⟩ := hS' q' h1 h2 h3; ⟨a1, a2, a3, a4, .tail _ (.tail _ a5)⟩
      · rw [ar4 hq]
        exact heldNext hit fun q' h1 h2 => let ⟨a1, a2, a3, a4, a5, a6⟩ := hHe q' h1 h2; ⟨a1, a2, a3, a4, .tail _ (.tail _ (.tail _ a5)), a6⟩
    · have ht : sy q < 256 := by simpa using ht
      obtain ⟨rest, es1, es2, lc1, lc2, rc1, rc2, e4⟩ := D.join q hqN ht
      rw [es1] at hP
      obtain ⟨p1, ta, rfl, hP1⟩ := hP.pop
      obtain ⟨p2, tb, rfl, hP2⟩ := hP1.pop
      have hps : p2.size ≤ 11 := by
        rw [hP2.size]; have := stk_len D j hjN; rw [hjq, es1] at this; exact ar14 hN hq (Nat.le_trans (Nat.le_succ_of_le (Nat.le_succ _)) this)
      repeat walk_at "g11"
      rename Inv.p _ _ => H
      refine o_len_lst _ H (St.isList H (.tail _ (.head _)) LObj.lst) (by simp; omega) (fun t' s H => ?_)
      repeat walk_at "g11"
      refine ⟨fun hc => absurd (of_decide_eq_true hc) (by simp; omega), fun _ => ?_⟩
      repeat walk_at "g11"
      rename Inv.p _ _ => H
      refine m_pop (St.led H _ (.tail _ (.head _))) ?_
      repeat walk_at "g11"
      refine o_popS (pre := [(I, io)]) (by assumption) (Nat.le_trans (show _ ≤ 1000 by simp; omega) (by decide)) (fun s H => ?_)
      repeat walk_at "g11"
      rename Inv.p _ _ => H
      refine m_pop (St.led H _ (.tail _ (.head _))) ?_
      repeat walk_at "g11"
      refine o_popS (pre := [(I, io)]) (by assumption) (Nat.le_trans (show _ ≤ 1000 by omega) (by decide)) (fun s H => ?_)
      repeat walk_at "g11"
      rename_i T0 sT HT
      refine set_dictS (pre := [(T0, tup #[.int (lt q) ta, .int (rt q) tb]), (I, io), (lp, lst p2 (pc + 1 + 1))]) (post := (dh, oh) :: (l, lst items c) :: ρ) HT hd (ar13 hN hq kdl) (fun od' s H hd' => ?_)
      repeat walk_at "g11"
      rename Inv.p _ _ => H
      refine ct_list H (keepL hwl (St.keep H)) (hA1 _).hh (by have := ints_of_words hw; omega) (by rfl) (fun ν i o => i < 8 ∧ ((val q i = true ∧ ∃ y, o = some y ∧ isS (word i) y) ∨ (val q i = false ∧ o = none)))
        (fun _ _ _ _ _ h => h) ?_ (post_used fun D' ys c' ν s' H' hLd => ?_)
      · intro C j v mm σc s hj hv hmm Hc
        have ms : mm "symbols" = some (.ref ls) := (hmm "symbols" (by rfl)).trans (by walk_at "lk")
        have mp : mm "place" = some (.int (q : Int) t) := (hmm "place" (by rfl)).trans (by walk_at "lk")
        have mh : mm "held" = some (.ref dh) := (hmm "held" (by rfl)).trans (by walk_at "lk")
        have ml : mm "left" = some (.int (lt q : Int) ta) := (hmm "left" (by rfl)).trans (by walk_at "lk")
        have mr : mm "right" = some (.int (rt q : Int) tb) := (hmm "right" (by rfl)).trans (by walk_at "lk")
        obtain ⟨hj8, tv, rfl⟩ := words_at hw hv
        have kb := St.keep H
        obtain ⟨lq1, it1, cq1, x1, x2, x3⟩ := hHe (lt q) lc1 lc2
        obtain ⟨lq2, it2, cq2, y1, y2, y3⟩ := hHe (rt q) rc1 rc2
        have b1 := St.led H (dh, oh) (by simp)
        have b2 := St.led H (lq1, lst it1 cq1) (by simp [x2])
        have b3 := St.led H (lq2, lst it2 cq2) (by simp [y2])
        clear H
        repeat walk_at "g11"
        rename Inv.p _ _ => H
        refine it_lst (keepL (keepL hsl kb) (St.keep H)) q0 q63 hsq ?_
        repeat walk_at "g11"
        rename Inv.p _ _ => H
        refine it_dict H (St.keep H _ _ b1) hh x1 (fun s H => ?_)
        refine in_strs (St.keep H _ _ b2) x3 ?_
        rw [any_hv _ hj8]
        repeat walk_at "g11"
        rename Inv.p _ _ => H
        refine it_dict H (St.keep H _ _ b1) hh y1 (fun s H => ?_)
        refine in_strs (St.keep H _ _ b3) y3 ?_
        rw [any_hv _ hj8]
        repeat walk_at "g11"
        rename Inv.p _ _ => H
        refine ⟨Inv.wd _ H, o_ref H (fun R k => spec_holds (Inv.wd _ H) (hA1 _).room k) ?_⟩
        rintro v s H rfl
        rw [← e4 j hj8]
        repeat walk_at "g11"
        refine ⟨fun hc => ?_, fun hc => ?_⟩
        · repeat walk_at "g11"
          exact ⟨[], by assumption, hj8, .inl ⟨hc, _, rfl, _, rfl⟩⟩
        · exact ⟨[], by assumption, hj8, .inr ⟨hc, rfl⟩⟩
      have hys : StrsAre ys.toList (hvW (val q)) := strsAre_of (paired_map (f := word) (hLd.paired (p := val q) (xs := List.range 8) (G := fun j => isS (word j)) (by have := ints_of_words hw; simpa using this) fun j o ⟨h8, h⟩ => ⟨j, by rw [List.getElem?_range h8], h⟩))
      clear H hLd
      have H := St.perm (St.drop H' (.cons_cons _ (List.sublist_append_right _ _))) (List.perm_middle (l₁ := [(I, io), (lp, lst p2 (pc + 1 + 1)), (ds, od'), (dh, oh), (l, lst items c)]) (a := (D', lst ys c')) (l₂ := (T0, tup #[.int (lt q) ta, .int (rt q) tb]) :: ρ) |>.trans ((List.perm_middle (l₁ := [(I, io), (lp, lst p2 (pc + 1 + 1)), (ds, od'), (dh, oh), (l, lst items c)]) (a := (T0, tup #[.int (lt q) ta, .int (rt q) tb])) (l₂ := ρ)).cons (D', lst ys c')))
      clear H'
      have hS' : SidesOk N sy lt rt ((D', lst ys c') :: (T0, tup #[.int (lt q) ta, .int (rt q) tb]) :: ρ) (stored kd (q : Int) (.ref T0)) q := fun q' h1 h2 h3 => by
        rcases Nat.eq_or_lt_of_le h1 with z | z
        · subst z
          exact ⟨T0, ta, tb, va_same, .tail _ (.head _)⟩
        · obtain ⟨a1, a2, a3, a4, a5⟩ := hS q' z h2 h3
          exact ⟨a1, a2, a3, by rw [va_ne (by omega)]; exact a4, .tail _ (.tail _ a5)⟩
      have hP' := PI.push hP2 q t
      rw [← es2] at hP'
      repeat first | with_reducible refine x_nil ?_ | with_reducible refine sq_next ?_
      refine read_tail (ρ := (D', lst ys c') :: (T0, tup #[.int (lt q) ta, .int (rt q) tb]) :: ρ) (j := j) (N := N) (kh := kh) h241 rfl (hA1 _) (by walk_at "lk") (by walk_at "lk") (by walk_at "lk") (by walk_at "lk") (by walk_at "lk") H (.head _) (.tail _ (.tail _ hx1)) (.tail _ (.tail _ hx2)) hys hN hq (hL.mono fun p hp => .tail _ (.tail _ hp)) hps hh (ar13 hN hq khl) (fun tp t1 t2 c2' oh' D2 it s hh' hit hL' H' => ?_)
      subst hK
      refine tq_next ⟨_, _, H', RJ.mk (ρ := (D2, lst it 0) :: (tp, _) :: (D', lst ys c') :: (T0, tup #[.int (lt q) ta, .int (rt q) tb]) :: ρ) (by walk_at "lk") (by walk_at "lk") (by walk_at "lk") (by walk_at "lk") (by walk_at "lk") (by walk_at "lk") ?_ hd' hh' (Nat.le_trans (stored_length_le _ _ _) (Nat.succ_le_succ kdl)) (Nat.le_trans (stored_length_le _ _ _) (Nat.succ_le_succ khl)) (.tail _ (.tail _ (.tail _ (.tail _ hx1)))) (.tail _ (.tail _ (.tail _ (.tail _ hx2)))) (hL'.mono (fun p hp => .tail _ hp)) ?_ ?_⟩
      · rw [ar5 hq]; exact hP'
      · rw [ar4 hq]
        exact fun q' h1 h2 h3 => let ⟨a1, a2, a3, a4, a5⟩ := hS' q' h1 h2 h3; ⟨a1, a2, a3, a4, .tail _ (.tail _ a5)⟩
      · rw [ar4 hq]
        exact heldNext hit fun q' h1 h2 => let ⟨a1, a2, a3, a4, a5, a6⟩ := hHe q' h1 h2; ⟨a1, a2, a3, a4, .tail _ (.tail _ (.tail _ (.tail _ a5))), a6⟩
  · intro m σ s hJ H
    refine RJ.elim hJ fun lp ds dh items c pit pc od oh kd kh ρ e m1 m2 m3 m4 m5 m6 hP hd hh kdl khl hx1 hx2 hL hS hHe => ?_
    subst e
    clear hJ
    clear hx1 hx2 hL
    refine lr_next ?_
    repeat walk_at "g11"
    rename Inv.p _ _ => H
    rw [ar7] at hP
    rw [ar6] at hS hHe
    subst hKf
    refine St.back k H ⟨_, _, rfl, fun p hp => ⟨St.led H p hp, St.ledB H p hp⟩, St.nd H, ⟨lp, ds, dh, pit, pc, od, oh, kd, kh, .head _, .tail _ (.head _), .tail _ (.tail _ (.head _)), .tail _ (.tail _ (.tail _ (.head _))), hP, hd, hh, ?_, ?_⟩⟩
    · exact fun q' h1 h2 h3 => let ⟨a1, a2, a3, a4, a5⟩ := hS q' h1 h2 h3; ⟨a1, a2, a3, a4, .tail _ (.tail _ (.tail _ (.tail _ (.tail _ a5))))⟩
    · exact fun q' h1 h2 => let ⟨a1, a2, a3, a4, a5, a6⟩ := hHe q' h1 h2; ⟨a1, a2, a3, a4, .tail _ (.tail _ (.tail _ (.tail _ (.tail _ a5)))), a6⟩

theorem ettK {w : World} : ∃ es n, (KK w).lookup 39 = some ⟨.type "dict", none, .dict es n, #[]⟩ ∧ KeysLit w.params es.toList := by
  refine ⟨_, _, by rfl, ?_⟩
  repeat first | exact trivial | refine ⟨⟨_, _, rfl, rfl⟩, ?_⟩
theorem ettMap {w : World} {h : Heap} (X : (KK w).In h) : ∃ f, h.MapOf (strKind PP w) 39 f ∧ ∀ x r, nsIn (KK w) 39 x = some r → f x = r := by
  obtain ⟨es, n, hl, hk⟩ := ettK (w := w)
  exact ⟨_, mapOf_K X hl hk, fun x r e => find_K hl e⟩
def alpha : List Nat := [38, 60, 61, 62, 65, 66, 67, 97, 98, 99, 124]
def pieces : List Str := alpha.map ch ++ alpha.flatMap fun a => alpha.map fun b => ⟨#[a, b]⟩
def etV (x : Str) : Option Int :=
  if x == ch 38 then some 19 else if x == ch 124 then some 18 else if x == (⟨#[60, 61]⟩ : Str) then some 29 else if x == (⟨#[62, 61]⟩ : Str) then some 30
  else if x == ch 60 then some 20 else if x == ch 61 then some 22 else if x == ch 62 then some 21 else if x == (⟨#[38, 61]⟩ : Str) then some 41 else if x == (⟨#[124, 61]⟩ : Str) then some 42
  else if x == (⟨#[60, 60]⟩ : Str) then some 33 else if x == (⟨#[62, 62]⟩ : Str) then some 34 else if x == (⟨#[61, 61]⟩ : Str) then some 27 else none
def intOf : Option (Option Value) → Option (Option Int)
  | some (some (.int i _)) => some (some i)
  | some none => some none
  | _ => none
theorem etAll {w : World} : pieces.map (fun x => intOf (nsIn (KK w) 39 x)) = pieces.map (fun x => some (etV x)) := by kernel_rfl
theorem etOf {w : World} {x : Str} (hx : x ∈ pieces) : ∃ r, nsIn (KK w) 39 x = some r ∧ ((etV x = none ∧ r = none) ∨ ∃ i t, etV x = some i ∧ r = some (.int i t)) := by
  have key : ∀ l : List Str, l.map (fun x => intOf (nsIn (KK w) 39 x)) = l.map (fun x => some (etV x)) → ∀ x ∈ l, intOf (nsIn (KK w) 39 x) = some (etV x) := by
    intro l
    induction l with
    | nil => intro _ x hx; cases hx
    | cons a r ih =>
      intro h x hx
      simp only [List.map_cons, List.cons.injEq] at h
      rcases List.mem_cons.mp hx with rfl | hx
      · exact h.1
      · exact ih h.2 x hx
  have e := key _ etAll x hx
  cases hn : nsIn (KK w) 39 x with
  | none => rw [hn] at e; cases e
  | some r =>
    rw [hn] at e
    refine ⟨r, rfl, ?_⟩
    cases r with
    | none => exact .inl ⟨(Option.some.inj e).symm, rfl⟩
    | some v =>
      cases v <;> first | (cases e; done) | skip
      rename_i i t
      exact .inr ⟨i, t, (Option.some.inj e).symm, rfl⟩
section
variable {w : World} {A : Around} {E : Value → Shared → Prop} {s : Shared} {I : Inv w} {x : Str} {t : Tok}
theorem o_in_ett {Q : Value → Shared → Prop} (H : I.p s) (hx : x ∈ pieces) (h : ∀ s, I.p s → Q (.bool (etV x).isSome) s) : wpAny (model PP w) A (compareOp .In (.str x t) (.ref 39)) Q E s := by
  obtain ⟨f, hm, hf⟩ := ettMap (I.wd H).k
  obtain ⟨r, e1, e2⟩ := etOf (w := w) hx
  refine wpAny_in_of (knd := strKind PP w) (k := x) (isT x t) rfl hm ?_
  rw [hf x r e1]
  have : r.isSome = (etV x).isSome := by
    rcases e2 with ⟨a, b⟩ | ⟨i, t, a, b⟩ <;> rw [a, b] <;> rfl
  rw [this]
  exact h _ (I.tok H)
theorem it_ett {value slice : Expr} {i : Int} {Q : Value → Shared → Prop} (H : I.p s) (hx : x ∈ pieces) (hi : etV x = some i) (h : ∀ t s, I.p s → Q (.int i t) s) (hs : ∀ a b p, slice ≠ .Slice a b none p := by intro _ _ _ e; cases e) :
    wpAny (model PP w) A (subscriptTail value slice (.ref 39) (.str x t)) Q E s := by
  obtain ⟨f, hm, hf⟩ := ettMap (I.wd H).k
  obtain ⟨r, e1, e2⟩ := etOf (w := w) hx
  rcases e2 with ⟨a, b⟩ | ⟨i', t', a, b⟩
  · rw [a] at hi; cases hi
  · rw [a] at hi; cases hi
    exact tail_any hm.typeIs slot_dict_getitem.lookup (wpAny_getItem_of (knd := strKind PP w) (k := x) (isT x t) hm (by rw [hf x r e1, b]) (h _ _ (I.tok H))) (slOther hs _ _)
end

/-- a symbol's signs in the text -/
def tx (y : Nat) : List Nat := if y = 19 then [38] else if y = 18 then [124] else if y = 29 then [60, 61] else if y = 30 then [62, 61] else [y - 256]
def syms : List Nat := [18, 19, 29, 30, 321, 322, 323, 353, 354, 355]
def txt (l : List Nat) : List Nat := l.flatMap tx
def firsts : List (Option Nat) := [none, some 38, some 124, some 60, some 62, some 65, some 66, some 67, some 97, some 98, some 99]
def piece2 (y : Nat) (nx : Option Nat) : List Nat := (tx y ++ nx.toList).take 2
def pieceB (y : Nat) (nx : Option Nat) : Bool :=
  let p : Str := ⟨(piece2 y nx).toArray⟩
  let p1 : Str := ch ((tx y).headD 0)
  decide (p ∈ pieces) && decide (p1 ∈ pieces) && decide (1 ≤ (tx y).length) && decide ((tx y).length ≤ 2) &&
  (match etV p with
    | some i => i == (y : Int) && (piece2 y nx).length == (tx y).length
    | none => (tx y).length == 1 && (match etV p1 with | some i => i == (y : Int) | none => decide (256 + (tx y).headD 0 = y)))
theorem pieceAll : (syms.all fun y => firsts.all fun nx => pieceB y nx) = true := by decide +kernel
theorem txt_head : ∀ l : List Nat, (∀ y ∈ l, y ∈ syms) → (txt l).head? ∈ firsts
  | [], _ => by simp [txt, firsts]
  | y :: r, h => by
    have hy := h y (.head _)
    have : ∀ y ∈ syms, tx y ≠ [] ∧ (tx y).head? ∈ firsts := by decide +kernel
    obtain ⟨a, b⟩ := this y hy
    have e : (txt (y :: r)).head? = (tx y).head? := by
      unfold txt
      rw [List.flatMap_cons]
      cases q : tx y with
      | nil => exact absurd q a
      | cons c t => simp
    rw [e]; exact b
structure PieceOk (y : Nat) (nx : Option Nat) : Prop where
  mem : (⟨(piece2 y nx).toArray⟩ : Str) ∈ pieces
  mem1 : ch ((tx y).headD 0) ∈ pieces
  l1 : 1 ≤ (tx y).length
  l2 : (tx y).length ≤ 2
  yes : ∀ i, etV ⟨(piece2 y nx).toArray⟩ = some i → i = (y : Int) ∧ (piece2 y nx).length = (tx y).length
  no : etV ⟨(piece2 y nx).toArray⟩ = none → (tx y).length = 1 ∧ (∀ i, etV (ch ((tx y).headD 0)) = some i → i = (y : Int)) ∧ (etV (ch ((tx y).headD 0)) = none → 256 + (tx y).headD 0 = y)
theorem pieceOk {y : Nat} {nx : Option Nat} (hy : y ∈ syms) (hn : nx ∈ firsts) : PieceOk y nx := by
  have h := List.all_eq_true.mp (List.all_eq_true.mp pieceAll y hy) nx hn
  simp only [pieceB, Bool.and_eq_true, decide_eq_true_eq] at h
  obtain ⟨⟨⟨⟨a, b⟩, c⟩, d⟩, e⟩ := h
  refine ⟨a, b, c, d, fun i hi => ?_, fun hn => ?_⟩
  · rw [hi] at e
    simp only [Bool.and_eq_true, beq_iff_eq] at e
    exact e
  · rw [hn] at e
    simp only [Bool.and_eq_true, beq_iff_eq] at e
    refine ⟨e.1, fun i hi => ?_, fun hn1 => ?_⟩
    · have e2 := e.2; rw [hi] at e2; simpa using e2
    · have e2 := e.2; rw [hn1] at e2; simpa using e2

theorem beyond {n : Nat} {l : Option Int} {j : Int} (h : (n : Int) ≤ j) : Builtin.Str.strSliceIndices l (some j) 1 n = Builtin.Str.strSliceIndices l (some (n : Int)) 1 n := by
  have h0 : ¬ j < 0 := by omega
  have h1 : ¬ ((n : Int) < 0) := by omega
  have h2 : min j (n : Int) = n := by omega
  simp [Builtin.Str.strSliceIndices, h0, h1, h2]
theorem slice2 (x : List Nat) {i : Nat} (hi : i ≤ x.length) : Txt.slice ⟨x.toArray⟩ (some (i : Int)) (some ((i : Int) + 2)) = ⟨((x.drop i).take 2).toArray⟩ := by
  have hl : (⟨x.toArray⟩ : Str).length = x.length := by simp [Str.length]
  by_cases q : i + 2 ≤ x.length
  · have := beq_iff_eq.mp (slice_closesL (x := ⟨x.toArray⟩) (i := (i : Int)) (j := (i : Int) + 2) (by omega) (by omega) (by rw [hl]; omega))
    rw [this]
    rw [show ((i : Int) + 2 - (i : Int)).toNat = 2 by omega]
    simp
  · have e : Txt.slice ⟨x.toArray⟩ (some (i : Int)) (some ((i : Int) + 2)) = Txt.slice ⟨x.toArray⟩ (some (i : Int)) (some (x.length : Int)) := by
      unfold Txt.slice
      rw [hl, beyond (by omega)]
    have := beq_iff_eq.mp (slice_closesL (x := ⟨x.toArray⟩) (i := (i : Int)) (j := (x.length : Int)) (by omega) (by omega) (by rw [hl]; omega))
    rw [e, this]
    simp only [Int.toNat_natCast, List.toList_toArray]
    rw [List.take_of_length_le (by rw [List.length_drop]; omega), List.take_of_length_le (by rw [List.length_drop]; omega)]
theorem drop_txt (pre : List Nat) (y : Nat) (post : List Nat) : (txt (pre ++ y :: post)).drop (txt pre).length = tx y ++ txt post := by
  unfold txt
  rw [List.flatMap_append, List.flatMap_cons, List.drop_left]
theorem take2 {a b : List Nat} (ha : 1 ≤ a.length) (h2 : a.length ≤ 2) : (a ++ b).take 2 = (a ++ b.head?.toList).take 2 := by
  rcases a with _ | ⟨a1, _ | ⟨a2, _ | ⟨a3, a⟩⟩⟩
  · simp at ha
  · cases b <;> simp
  · simp
  · simp at h2
theorem o_ord {w : World} {A : Around} {E : Value → Shared → Prop} {s : Shared} {I : Inv w} {c : Nat} {t : Tok} {Q : Value → Shared → Prop} (H : I.p s) (h : ∀ t s, I.p s → Q (.int (c : Int) t) s) : wpAny (model PP w) A (call (.builtin "ord") ([] ++ [.str (ch c) t])) Q E s :=
  ord_of_one (by rfl) (h _ _ (I.tok H))
theorem o_nin_ett {w : World} {A : Around} {E : Value → Shared → Prop} {s : Shared} {I : Inv w} {x : Str} {t : Tok} {Q : Value → Shared → Prop} (H : I.p s) (hx : x ∈ pieces) (h : ∀ s, I.p s → Q (.bool (!(etV x).isSome)) s) : wpAny (model PP w) A (compareOp .NotIn (.str x t) (.ref 39)) Q E s := by
  obtain ⟨f, hm, hf⟩ := ettMap (I.wd H).k
  obtain ⟨r, e1, e2⟩ := etOf (w := w) hx
  refine wpAny_notIn_of (knd := strKind PP w) (k := x) (isT x t) rfl hm ?_
  rw [hf x r e1]
  have : r.isSome = (etV x).isSome := by
    rcases e2 with ⟨a, b⟩ | ⟨i, t, a, b⟩ <;> rw [a, b] <;> rfl
  rw [this]
  exact h _ (I.tok H)
theorem ints_app {vs : List Value} {ns : List Int} (n : Int) (t : Tok) (h : IntsAre vs ns) : IntsAre (vs ++ [.int n t]) (ns ++ [n]) := ints_snoc n t h
theorem o_addl {w : World} {A : Around} {E : Value → Shared → Prop} {s : Shared} {Γ : Fd} {m : Str → Option Value} {σ : Led} {a b : Addr} {xs ys : Array Value} {c c' : Nat} {Q : Value → Shared → Prop} (H : (StI Γ m σ).p s) (ha : (a, lst xs c) ∈ σ) (hb : (b, lst ys c') ∈ σ) (hz : xs.size + ys.size ≤ sizeLine)
    (h : ∀ D s, (StI Γ m ((D, lst (xs ++ ys) 0) :: σ)).p s → Q (.ref D) s) : wpAny (model PP w) A (binaryOp .Add (.ref a) (.ref b)) Q E s := by
  have ho := St.led H _ ha
  have ho2 := St.led H _ hb
  exact concat_meets ⟨_, ho, rfl⟩ ⟨_, ho2, rfl⟩ noFill_list_add seq_list_add PySem.F.slot_list_add PySem.F.entry_list_add (PySem.F.args_list_add_2 _ _) (list_addW a b xs ys c c' none none #[] #[] hz) ⟨ho, ho2, h _ _ (St.new (t := s.toks) H rfl)⟩
theorem spec_symbols {w : World} {A : Around} {s : Shared} {R : Result → Shared → Prop} {l : List Nat} {t : Tok} (W : Wd w s.heap) (hA : AOk 1 A) (hl : ∀ y ∈ l, y ∈ syms) (hz : l.length ≤ 11)
  (k : Rets s R fun v s' => ∃ D items c, v = .ref D ∧ s'.heap.get? D = some (lst items c) ∧ s.heap.get? D = none ∧ IntsAre items.toList ((l.map fun (n : Nat) => (n : Int)) ++ [0])) :
  codeAny (model PP w) A (.call (.ref 229) ⟨[.str ⟨(txt l).toArray⟩ t], []⟩) R s := by
  have hA1 : ∀ env, AOk 0 (A.deeper env) := fun env => AOk.deep hA
  have hlen2 : ∀ l : List Nat, (∀ y ∈ l, y ∈ syms) → (txt l).length ≤ 2 * l.length := fun l => by
    induction l with
    | nil => intro _; simp [txt]
    | cons y r ih =>
      intro h
      have := ih fun y hy => h y (.tail _ hy)
      have h2 := (pieceOk (h y (.head _)) (nx := none) (by simp [firsts])).l2
      unfold txt at this ⊢
      rw [List.flatMap_cons, List.length_append, List.length_cons]
      omega
  have hL := hlen2 l hl
  have hx : (⟨(txt l).toArray⟩ : Str).length = (txt l).length := by simp [Str.length]
  refine enterK (binds := [("text", .str ⟨(txt l).toArray⟩ t)]) W hA.room (by rfl) (by rfl) (by rfl) (BindsTo.of_eq rfl) (fun s H => ?_)
  repeat walk_at "g11"
  rename Inv.p _ _ => H
  refine w_while H (fun n m σ => ∃ pre post D items c, l = pre ++ post ∧ n = post.length ∧ σ = [(D, lst items c)] ∧ IntsAre items.toList (pre.map fun (n : Nat) => (n : Int)) ∧ m "symbols" = some (.ref D) ∧ m "text" = some (.str ⟨(txt l).toArray⟩ t) ∧ ∃ t, m "at" = some (.int ((txt pre).length : Nat) t)) l.length
    ⟨[], l, _, #[], 0, rfl, rfl, rfl, .nil, by walk_at "lk", by walk_at "lk", _, by walk_at "lk"⟩ ?_
  clear H
  rintro n m σ s ⟨pre, post, D, items, c, hpp, rfl, rfl, hI, m1, m2, ta, m3⟩ H
  repeat walk_at "g11"
  rename Inv.p _ _ => H
  refine o_len_str H (by rw [hx]; omega) (fun t s H => ?_)
  rw [hx]
  repeat walk_at "g11"
  refine ⟨fun hc => ?_, fun hc => ?_⟩
  · have hc := of_decide_eq_true hc
    rcases post with _ | ⟨y, post⟩
    · rw [hpp, List.append_nil] at hc; omega
    have hy : y ∈ syms := hl y (by rw [hpp]; simp)
    have P := pieceOk hy (txt_head post fun z hz => hl z (by rw [hpp]; simp [hz]))
    have hat : (txt pre).length ≤ (txt l).length := by omega
    have hdr : (txt l).drop (txt pre).length = tx y ++ txt post := by rw [hpp]; exact drop_txt pre y post
    have hsl : Txt.slice ⟨(txt l).toArray⟩ (some (((txt pre).length : Nat) : Int)) (some ((((txt pre).length : Nat) : Int) + 2)) = ⟨(piece2 y (txt post).head?).toArray⟩ := by
      rw [slice2 _ hat, hdr, take2 P.l1 P.l2]; rfl
    have hnext : (txt (pre ++ [y])).length = (txt pre).length + (tx y).length := by
      unfold txt; rw [List.flatMap_append, List.length_append]; simp
    have hitem : Txt.item ⟨(txt l).toArray⟩ (((txt pre).length : Nat) : Int) = ch ((tx y).headD 0) := by
      refine item_meets (by omega) ?_
      have h1 := P.l1
      rcases htx : tx y with _ | ⟨c0, r0⟩
      · rw [htx] at h1; simp at h1
      · rw [htx] at hdr
        have : (txt l)[(txt pre).length]? = some c0 := by
          have := congrArg List.head? hdr
          rw [List.head?_drop] at this
          simpa using this
        simpa using this
    repeat walk_at "g11"
    refine slStr (by assumption) (.int _ _) (.int _ _) (by rw [hx]; omega) (fun t' s H => ?_)
    rw [hsl]
    repeat walk_at "g11"
    refine o_nin_ett (by assumption) P.mem (fun s H => ?_)
    repeat walk_at "g11"
    refine ⟨fun hn => ?_, fun hn => ?_⟩
    · have hn : etV ⟨(piece2 y (txt post).head?).toArray⟩ = none := by simpa using hn
      obtain ⟨q1, q2, q3⟩ := P.no hn
      repeat walk_at "g11"
      refine it_str (by assumption) (by omega) (by rw [hx]; omega) (by rw [hx]; omega) (fun t' s H => ?_)
      rw [hitem]
      repeat walk_at "g11"
      have hl1 : (ch ((tx y).headD 0)).length = (tx y).length := by rw [q1]; rfl
      rename Inv.p _ _ => H
      refine m_append (St.led H _ (.head _)) ?_
      repeat walk_at "g11"
      refine o_in_ett (by assumption) P.mem1 (fun s H => ?_)
      repeat walk_at "g11"
      refine ⟨fun hin => ?_, fun hin => ?_⟩
      · obtain ⟨iv, hiv⟩ := Option.isSome_iff_exists.mp hin
        have := q2 iv hiv
        subst this
        repeat walk_at "g11"
        refine it_ett (by assumption) P.mem1 hiv (fun t' s H => ?_)
        repeat walk_at "g11"
        refine o_appendS (pre := []) (by assumption) (by have := ints_len hI; simp at this; exact Nat.le_trans (show _ ≤ 1000 by rw [hpp] at hz; simp at hz; omega) (by decide)) (fun s H => ⟨fun a h => (nomatch h), ?_⟩)
        repeat walk_at "g11"
        refine o_len_str (by assumption) (by rw [hl1]; have := P.l2; omega) (fun t' s H => ?_)
        rw [hl1]
        repeat walk_at "g11"
        exact tq_next ⟨post.length, _, _, Nat.lt_succ_self _, by assumption, pre ++ [y], post, D, _, _, by rw [hpp]; simp, rfl, rfl, by rw [Array.toList_push, List.map_append]; exact ints_app _ _ hI, by walk_at "lk", by walk_at "lk", _, by rw [hnext]; push_cast; walk_at "lk"⟩
      · have hnone : etV (ch ((tx y).headD 0)) = none := by simpa using hin
        have hy3 := q3 hnone
        repeat walk_at "g11"
        refine o_ord (by assumption) (fun t' s H => ?_)
        repeat walk_at "g11"
        rw [show (256 + (((tx y).headD 0 : Nat) : Int)) = (y : Int) by omega]
        repeat walk_at "g11"
        refine o_appendS (pre := []) (by assumption) (by have := ints_len hI; simp at this; exact Nat.le_trans (show _ ≤ 1000 by rw [hpp] at hz; simp at hz; omega) (by decide)) (fun s H => ⟨fun a h => (nomatch h), ?_⟩)
        repeat walk_at "g11"
        refine o_len_str (by assumption) (by rw [hl1]; have := P.l2; omega) (fun t' s H => ?_)
        rw [hl1]
        repeat walk_at "g11"
        exact tq_next ⟨post.length, _, _, Nat.lt_succ_self _, by assumption, pre ++ [y], post, D, _, _, by rw [hpp]; simp, rfl, rfl, by rw [Array.toList_push, List.map_append]; exact ints_app _ _ hI, by walk_at "lk", by walk_at "lk", _, by rw [hnext]; push_cast; walk_at "lk"⟩
    · obtain ⟨iv, hiv⟩ : ∃ i, etV ⟨(piece2 y (txt post).head?).toArray⟩ = some i := Option.isSome_iff_exists.mp (by simpa using hn)
      obtain ⟨q1, q2⟩ := P.yes iv hiv
      subst q1
      have hl2 : (⟨(piece2 y (txt post).head?).toArray⟩ : Str).length = (tx y).length := by rw [← q2]; simp [Str.length]
      repeat walk_at "g11"
      rename Inv.p _ _ => H
      refine m_append (St.led H _ (.head _)) ?_
      repeat walk_at "g11"
      refine o_in_ett (by assumption) P.mem (fun s H => ?_)
      rw [hiv]
      repeat walk_at "g11"
      refine ⟨fun _ => ?_, fun h => (nomatch h)⟩
      repeat walk_at "g11"
      refine it_ett (by assumption) P.mem hiv (fun t' s H => ?_)
      repeat walk_at "g11"
      refine o_appendS (pre := []) (by assumption) (by have := ints_len hI; simp at this; exact Nat.le_trans (show _ ≤ 1000 by rw [hpp] at hz; simp at hz; omega) (by decide)) (fun s H => ⟨fun a h => (nomatch h), ?_⟩)
      repeat walk_at "g11"
      refine o_len_str (by assumption) (by rw [hl2]; have := P.l2; omega) (fun t' s H => ?_)
      rw [hl2]
      repeat walk_at "g11"
      exact tq_next ⟨post.length, _, _, Nat.lt_succ_self _, by assumption, pre ++ [y], post, D, _, _, by rw [hpp]; simp, rfl, rfl, by rw [Array.toList_push, List.map_append]; exact ints_app _ _ hI, by walk_at "lk", by walk_at "lk", _, by rw [hnext]; push_cast; walk_at "lk"⟩
  · have hc := of_decide_eq_false hc
    have hpost : post = [] := by
      rcases post with _ | ⟨y, post⟩
      · rfl
      · exfalso
        have hy : y ∈ syms := hl y (by rw [hpp]; simp)
        have P := (pieceOk hy (nx := none) (by simp [firsts])).l1
        apply hc
        rw [hpp]
        unfold txt
        rw [List.flatMap_append, List.length_append, List.flatMap_cons, List.length_append]
        omega
    subst hpost
    rw [List.append_nil] at hpp
    subst hpp
    repeat walk_at "g11"
    rename Inv.p _ _ => H
    refine o_addl H (.tail _ (.head _)) (.head _) (by have := ints_len hI; simp at this; exact Nat.le_trans (show _ ≤ 1000 by simp; omega) (by decide)) (fun D' s H => ?_)
    refine St.back k H ⟨D', _, 0, rfl, St.led H _ (.head _), St.ledB H _ (.head _), ?_⟩
    rw [Array.toList_append]
    exact ints_app _ _ hI

@[reducible] def slc (a b : Int) (t u : Tok) : Obj := { cls := .type "slice", dict := none, data := .fields #[.int a t, .int b u, .none], slots := #[] }
theorem setslice {prog : Program} {w : World} {A : Around} {E : Value → Shared → Prop} {s : Shared} {l p nl : Addr} {xs ys : Array Value} {c c' : Nat} {a b : Int} {t u : Tok} {Q : Value → Shared → Prop}
    (hl : s.heap.get? l = some (lst xs c)) (hn : s.heap.get? nl = some (lst ys c')) (hp : s.heap.get? p = some (slc a b t u)) (hne : l ≠ nl) (h0 : 0 ≤ a) (h1 : a ≤ b) (h2 : b ≤ xs.size) (hz : xs.size + ys.size ≤ 1000)
    (h : Q .none { s with heap := s.heap.update l (Obj.mapSeq fun xs => xs.extract 0 a.toNat ++ ys ++ xs.extract b.toNat xs.size) }) :
    wpAny (model prog w) A (call (.builtin "list.__setitem__") [.ref l, .ref p, .ref nl]) Q E s := by
  refine wpAny_call_entry PySem.F.slot_list_setitem ⟨_, hl, rfl⟩ PySem.F.entry_list_setitem ?_ (PySem.F.args_list_setitem_3 _ _ _)
  have hT : s.TypeIs (.ref p) "slice" := ⟨_, hp, rfl⟩
  show wpAny _ _ (Builtin.List.listSubscript? (.ref p) >>= _) _ _ s
  refine wpAny_bind ?_
  unfold Builtin.List.listSubscript?
  refine wpAny_bind (wpAny_specialOf (T := "slice") (r := none) hT (by rw [typeLookup_type, builtinLookup_eq_fast]; kernel_rfl) ?_)
  refine wpAny_pure ?_
  refine wpAny_bind (wpAny_typeOf hT ?_)
  show wpAny _ _ (Builtin.List.listSliceParts (.ref p) >>= _) _ _ s
  refine wpAny_bind ?_
  rw [listSliceParts_eq]
  refine wpAny_bind (wpAny_field hp rfl (x := .none) rfl (wpAny_bind (wpAny_listPart .none ?_)))
  show wpAny _ _ (field (.ref p) 0 >>= _) _ _ s
  refine wpAny_bind (wpAny_field hp rfl (x := .int a t) rfl (wpAny_bind (wpAny_listPart (.int a t) ?_)))
  refine wpAny_bind (wpAny_field hp rfl (x := .int b u) rfl (wpAny_bind (wpAny_listPart (.int b u) (wpAny_pure ?_))))
  dsimp only
  have hsame : Builtin.List.listSameRef (.ref l) (.ref nl) = false := by
    show (l == nl) = false
    simpa using hne
  rw [if_neg (by rw [hsame]; decide)]
  refine wpAny_bind ?_
  unfold Builtin.List.listAllItems
  have hTn : s.TypeIs (.ref nl) "list" := ⟨_, hn, rfl⟩
  refine wpAny_bind (wpAny_typeOf hTn ?_)
  rw [if_pos (by decide)]
  refine wpAny_listItems hn rfl ?_
  refine wpAny_bind (wpAny_listItems hl rfl ?_)
  rw [sliceIndices_raw _ _ _ _ (by decide)]
  refine wpAny_bind (wpAny_pure ?_)
  have hsb : sliceBounds (some a) (some b) none xs.size = (a, b, 1) := by
    have a0 : ¬ a < 0 := by omega
    have b0 : ¬ b < 0 := by omega
    have a1 : max (0 : Int) (min a xs.size) = a := by omega
    have b1 : max (0 : Int) (min b xs.size) = b := by omega
    simp [sliceBounds, a0, b0, a1, b1]
  rw [hsb]
  dsimp only
  rw [if_pos (by decide)]
  refine wpAny_bind (wpAny_rule ?_)
  have htl : Builtin.List.listTooLong (xs.size + ys.size) = false := by
    unfold Builtin.List.listTooLong
    have : (1000 : Nat) ≤ sizeLine := by decide
    simp
    omega
  rw [if_neg (by rw [htl]; decide)]
  refine wpAny_bind (m := Builtin.List.listUpdate (.ref l) _) ?_
  show wpAny _ _ (updateSeq l _) _ _ s
  refine wpAny_updateSeq hl rfl ?_
  refine wpAny_bind (wpAny_letGo ?_)
  show wpAny _ _ (ret Value.none) _ _ _
  have hm : max a b = b := by omega
  rw [hm]
  exact wpAny_pure ⟨_, rfl, h⟩
theorem set_slice {w : World} {A : Around} {E : Value → Shared → Prop} {s : Shared} {Γ : Fd} {m : Str → Option Value} {pre post : Led} {l p nl : Addr} {xs ys : Array Value} {c c' : Nat} {a b : Int} {t u : Tok} {Q : Unit → Shared → Prop}
    (H : (StI Γ m (pre ++ (l, lst xs c) :: post)).p s) (hn : (nl, lst ys c') ∈ pre) (hp : (p, slc a b t u) ∈ pre) (h0 : 0 ≤ a) (h1 : a ≤ b) (h2 : b ≤ xs.size) (hz : xs.size + ys.size ≤ 1000)
    (k : ∀ c2 s, (StI Γ m (pre ++ (l, lst (xs.extract 0 a.toNat ++ ys ++ xs.extract b.toNat xs.size) c2) :: post)).p s → Q () s) : wpAny (model PP w) A (setItem (.ref l) (.ref p) (.ref nl)) Q E s := by
  have hl := St.led H (l, lst xs c) (by simp)
  have hn' := St.led H (nl, lst ys c') (List.mem_append_left _ hn)
  have hp' := St.led H (p, slc a b t u) (List.mem_append_left _ hp)
  have hne : l ≠ nl := fun e => by
    have nd := St.nd H
    simp only [List.map_append, List.map_cons] at nd
    exact (List.nodup_append.mp nd).2.2 nl (List.mem_map_of_mem (f := (·.1)) hn) l (List.mem_cons_self ..) e.symm
  have hT : s.TypeIs (.ref l) "list" := ⟨_, hl, rfl⟩
  unfold setItem
  refine wpAny_holding ?_
  refine wpAny_bind (wpAny_sequenceKey hT (by decide) ?_)
  refine wpAny_bind (wpAny_callSpecial?_slot (name := Str.ofString "__setitem__") hT slot_list_setitem (setslice hl hn' hp' hne h0 h1 h2 hz ?_))
  obtain ⟨c2, e⟩ : ∃ c2, Obj.mapSeq (fun xs => xs.extract 0 a.toNat ++ ys ++ xs.extract b.toNat xs.size) (lst xs c) = lst (xs.extract 0 a.toNat ++ ys ++ xs.extract b.toNat xs.size) c2 := ⟨_, rfl⟩
  refine wpAny_pure (k c2 _ (St.put (t := s.toks) H (fun b x hb e => (Heap.get?_update_other _ _ (Ne.symm hb)).trans e) ?_))
  rw [Heap.get?_update_self _ hl (by rfl), e]

theorem ints_get : ∀ {vs : List Value} {ns : List Int}, IntsAre vs ns → ∀ (i : Nat) v, vs[i]? = some v → ∃ t, v = .int (ns.getD i 0) t
  | _, _, .nil, i, v, h => by simp at h
  | _, _, .cons y t r, 0, v, h => by simp at h; exact ⟨t, by simpa using h.symm⟩
  | _, _, .cons y t r, i + 1, v, h => by
    obtain ⟨t', a⟩ := ints_get r i v (by simpa using h)
    exact ⟨t', by simpa using a⟩
theorem o_sum {w : World} {A : Around} {E : Value → Shared → Prop} {s : Shared} {I : Inv w} {D : Addr} {ys : Array Value} {ns : List Int} {Q : Value → Shared → Prop} (hh : A.handled = none) (H : I.p s) (hl : s.heap.IsList D ys) (hi : IntsAre ys.toList ns)
    (h : ∀ t s, I.p s → Q (.int (preSum (fun i => ns.getD i 0) ys.size) t) s) : wpAny (model PP w) A (call (.builtin "sum") ([] ++ [.ref D])) Q E s := by
  refine call_sum_walkG (wpAny_pyIter_list hl ?_)
  have hne : D ≠ s.heap.objs.size := by obtain ⟨o, e, _⟩ := hl; exact Nat.ne_of_lt (Heap.lt_size e)
  refine ⟨_, [s.heap.objs.size, D], [s.heap.objs.size], _, _, _, fun i => ns.getD i 0, rfl, Walks.list (A := A.in1) hh _ D hne ys, ⟨⟨_, Heap.get?_push_size _ rfl, rfl, rfl⟩, hl.push _⟩, fun b hb => ?_, fun i v hv => ints_get hi i v (by rw [Array.getElem?_toList]; exact hv), fun h' tk t' hk => h t' _ ?_⟩
  · show b < (s.heap.push _).objs.size
    rw [Heap.size_push]
    simp at hb
    rcases hb with rfl | rfl
    · exact Nat.lt_succ_self _
    · obtain ⟨o, e, _⟩ := hl; exact Nat.lt_succ_of_lt (Heap.lt_size e)
  · show I.p { s with heap := h', toks := tk }
    exact I.ext (s := s) H (fun b o e => hk b o (by simpa using Nat.ne_of_lt (Heap.lt_size e)) (Heap.get?_push_of_some _ e))

/-- a row's entry: the symbols and the mask -/
abbrev Ent := List Nat × Int
def ltrOf (r : Nat) : Nat := [97, 98, 99, 65, 66, 67].getD r 0
def leafB (r w : Nat) : Bool := (w >>> (r % 3)) % 2 == r / 3
def leafM (r : Nat) : Int := ((List.range 8).filter (leafB r)).foldl (fun (acc : Int) w => acc + 2 ^ w) 0
def leafE (n : Int) : Ent := ([256 + ltrOf (n.toNat % 6)], leafM (n.toNat % 6))
def kindY (k : Nat) : Nat := [19, 18, 29, 30].getD k 0
def kindM (k : Nat) (f g : Int) : Int := [Builtin.bitAnd f g, Builtin.bitOr f g, Builtin.bitOr (Builtin.bitXor 255 f) g, Builtin.bitOr f (Builtin.bitXor 255 g)].getD k 0
def joinE (k : Nat) (a b : Ent) : Ent := (kindY k :: (a.1 ++ b.1), kindM k a.2 b.2)
def stepE (row : List Ent) (j n : Nat) : List Ent :=
  let m := n / 6
  let a := m % (5 - j)
  row.take a ++ [joinE (m / (5 - j) % 4) (row.getD a ([], 0)) (row.getD (a + 1) ([], 0))] ++ row.drop (a + 2)
def rowS (ns : List Int) (j : Nat) : List Ent := (List.range j).foldl (fun row i => stepE row i (ns.getD i 0).toNat) (ns.map leafE)
theorem rowS_succ (ns : List Int) (j : Nat) : rowS ns (j + 1) = stepE (rowS ns j) j (ns.getD j 0).toNat := by
  unfold rowS; rw [List.range_succ, List.foldl_append]; rfl
theorem rowS_len {ns : List Int} (h : ns.length = 6) : ∀ j, j ≤ 5 → (rowS ns j).length = 6 - j
  | 0, _ => by simp [rowS, h]
  | j + 1, hj => by
    rw [rowS_succ]
    have ih := rowS_len h j (by omega)
    have ha : (ns.getD j 0).toNat / 6 % (5 - j) < 5 - j := Nat.mod_lt _ (by omega)
    simp only [stepE, List.length_append, List.length_take, List.length_drop, List.length_cons, List.length_nil, ih]
    omega

/-- formulas -/
inductive Tr where
  | leaf (r : Nat)
  | node (k : Nat) (a b : Tr)
def Tr.code : Tr → List Nat
  | .leaf r => [256 + ltrOf r]
  | .node k a b => kindY k :: (a.code ++ b.code)
def Tr.ev : Tr → Nat → Bool
  | .leaf r, w => leafB r w
  | .node k a b, w => holdsB (kindY k) (a.ev w) (b.ev w)
def Tr.ok : Tr → Prop
  | .leaf r => r < 6
  | .node k a b => k < 4 ∧ a.ok ∧ b.ok
def Tr.size : Tr → Nat
  | .leaf _ => 1
  | .node _ a b => 1 + a.size + b.size
def Tr.sub : Tr → Nat → Tr
  | .leaf r, _ => .leaf r
  | .node k a b, p => if p = 0 then .node k a b else if p - 1 < a.size then a.sub (p - 1) else b.sub (p - 1 - a.size)
theorem Tr.size_pos : ∀ t : Tr, 0 < t.size
  | .leaf _ => Nat.one_pos
  | .node _ a b => by show 0 < 1 + a.size + b.size; omega
theorem Tr.code_len : ∀ t : Tr, t.code.length = t.size
  | .leaf _ => rfl
  | .node _ a b => by
    show (_ :: (a.code ++ b.code)).length = 1 + a.size + b.size
    rw [List.length_cons, List.length_append, a.code_len, b.code_len]; omega
theorem Tr.sub_zero : ∀ t : Tr, t.sub 0 = t
  | .leaf _ => rfl
  | .node _ _ _ => rfl
theorem Tr.sub_l {k : Nat} {a b : Tr} {p : Nat} (h : p < a.size) : (Tr.node k a b).sub (1 + p) = a.sub p := by
  show (if 1 + p = 0 then _ else if 1 + p - 1 < a.size then a.sub (1 + p - 1) else _) = _
  rw [if_neg (by omega), Nat.add_sub_cancel_left, if_pos h]
theorem Tr.sub_r {k : Nat} {a b : Tr} {p : Nat} : (Tr.node k a b).sub (1 + a.size + p) = b.sub p := by
  show (if 1 + a.size + p = 0 then _ else if 1 + a.size + p - 1 < a.size then _ else b.sub (1 + a.size + p - 1 - a.size)) = _
  rw [if_neg (by omega), if_neg (by omega)]
  congr 1; omega
theorem Tr.at3 {k : Nat} {a b : Tr} {p : Nat} (h : p < (Tr.node k a b).size) : p = 0 ∨ (∃ q, q < a.size ∧ p = 1 + q) ∨ ∃ q, q < b.size ∧ p = 1 + a.size + q := by
  have h : p < 1 + a.size + b.size := h
  by_cases h0 : p = 0
  · exact .inl h0
  by_cases h1 : p < 1 + a.size
  · exact .inr (.inl ⟨p - 1, by omega, by omega⟩)
  · exact .inr (.inr ⟨p - 1 - a.size, by omega, by omega⟩)
theorem Tr.sub_ok : ∀ (t : Tr), t.ok → ∀ p, p < t.size → (t.sub p).ok
  | .leaf _, h, _, _ => h
  | .node k a b, h, p, hp => by
    rcases Tr.at3 hp with rfl | ⟨q, hq, rfl⟩ | ⟨q, hq, rfl⟩
    · exact h
    · rw [Tr.sub_l hq]; exact a.sub_ok h.2.1 q hq
    · rw [Tr.sub_r]; exact b.sub_ok h.2.2 q hq
theorem Tr.sub_code : ∀ (t : Tr) (p : Nat), p < t.size → ∃ rest, t.code.drop p = (t.sub p).code ++ rest
  | .leaf r, p, hp => by
    have : p = 0 := by have hp : p < 1 := hp; omega
    subst this
    exact ⟨[], by simp [Tr.sub]⟩
  | .node k a b, p, hp => by
    rcases Tr.at3 hp with rfl | ⟨q, hq, rfl⟩ | ⟨q, hq, rfl⟩
    · exact ⟨[], by simp [Tr.sub_zero]⟩
    · obtain ⟨rest, e⟩ := a.sub_code q hq
      refine ⟨rest ++ b.code, ?_⟩
      rw [Tr.sub_l hq, ← List.append_assoc, ← e]
      show (_ :: (a.code ++ b.code)).drop (1 + q) = _
      rw [Nat.add_comm 1 q, List.drop_succ_cons, List.drop_append_of_le_length (by rw [a.code_len]; omega)]
    · obtain ⟨rest, e⟩ := b.sub_code q hq
      refine ⟨rest, ?_⟩
      rw [Tr.sub_r, ← e]
      show (_ :: (a.code ++ b.code)).drop (1 + a.size + q) = _
      rw [show 1 + a.size + q = (a.code.length + q) + 1 by rw [a.code_len]; omega, List.drop_succ_cons, ← List.drop_drop, List.drop_left]
theorem Tr.sub_node : ∀ (t : Tr) (p : Nat) {k : Nat} {a b : Tr}, p < t.size → t.sub p = .node k a b → t.sub (p + 1) = a ∧ t.sub (p + 1 + a.size) = b ∧ p + 1 + a.size + b.size ≤ t.size
  | .leaf r, p, k, a, b, hp, e => by cases e
  | .node k' x y, p, k, a, b, hp, e => by
    rcases Tr.at3 hp with rfl | ⟨q, hq, rfl⟩ | ⟨q, hq, rfl⟩
    · rw [Tr.sub_zero] at e
      cases e
      refine ⟨?_, ?_, ?_⟩
      · rw [show 0 + 1 = 1 + 0 by omega, Tr.sub_l x.size_pos, Tr.sub_zero]
      · rw [show 0 + 1 + x.size = 1 + x.size + 0 by omega, Tr.sub_r, Tr.sub_zero]
      · show _ ≤ 1 + x.size + y.size; omega
    · rw [Tr.sub_l hq] at e
      obtain ⟨h1, h2, h3⟩ := x.sub_node q hq e
      have p1 := a.size_pos
      have p2 := b.size_pos
      refine ⟨?_, ?_, ?_⟩
      · rw [show 1 + q + 1 = 1 + (q + 1) by omega, Tr.sub_l (by omega), h1]
      · rw [show 1 + q + 1 + a.size = 1 + (q + 1 + a.size) by omega, Tr.sub_l (by omega), h2]
      · show _ ≤ 1 + x.size + y.size; omega
    · rw [Tr.sub_r] at e
      obtain ⟨h1, h2, h3⟩ := y.sub_node q hq e
      refine ⟨?_, ?_, ?_⟩
      · rw [show 1 + x.size + q + 1 = 1 + x.size + (q + 1) by omega, Tr.sub_r, h1]
      · rw [show 1 + x.size + q + 1 + a.size = 1 + x.size + (q + 1 + a.size) by omega, Tr.sub_r, h2]
      · show _ ≤ 1 + x.size + y.size; omega

/-- the pile read from behind -/
def sk2 : List Nat → Nat → List Nat
  | [], _ => []
  | y :: r, p => if y < 256 then p :: (sk2 r (p + 1)).drop 2 else p :: sk2 r (p + 1)
theorem kindY_lt : ∀ k, kindY k < 256 := fun k => by
  unfold kindY
  rcases k with _ | _ | _ | _ | k <;> simp
theorem sk2_code : ∀ (t : Tr) (rest : List Nat) (p : Nat), sk2 (t.code ++ rest) p = p :: sk2 rest (p + t.size)
  | .leaf r, rest, p => by
    show (if 256 + ltrOf r < 256 then _ else _) = _
    rw [if_neg (by omega)]; rfl
  | .node k a b, rest, p => by
    show (if kindY k < 256 then p :: (sk2 ((a.code ++ b.code) ++ rest) (p + 1)).drop 2 else _) = _
    rw [if_pos (kindY_lt k), List.append_assoc, sk2_code a, sk2_code b]
    show p :: sk2 rest (p + 1 + a.size + b.size) = _
    rw [show p + (Tr.node k a b).size = p + 1 + a.size + b.size by show p + (1 + a.size + b.size) = _; omega]
def Tr.sy (t : Tr) (p : Nat) : Int := ((t.code.getD p 0 : Nat) : Int)
def Tr.lt (t : Tr) (p : Nat) : Nat := p + 1
def Tr.rt (t : Tr) (p : Nat) : Nat := p + 1 + (match t.sub p with | .node _ a _ => a.size | .leaf _ => 0)
def Tr.stk (t : Tr) (p : Nat) : List Nat := sk2 (t.code.drop p) p
def Tr.val (t : Tr) (p w : Nat) : Bool := (t.sub p).ev w
theorem Tr.sy_leaf {t : Tr} {p r : Nat} (hp : p < t.size) (h : t.sub p = .leaf r) : t.sy p = ((256 + ltrOf r : Nat) : Int) := by
  obtain ⟨rest, e⟩ := t.sub_code p hp
  rw [h] at e
  have : t.code[p]? = some (256 + ltrOf r) := by
    rw [← Nat.add_zero p, ← List.getElem?_drop, e]; rfl
  unfold Tr.sy
  rw [List.getD_eq_getElem?_getD, this]; rfl
theorem Tr.sy_node {t : Tr} {p k : Nat} {a b : Tr} (hp : p < t.size) (h : t.sub p = .node k a b) : t.sy p = ((kindY k : Nat) : Int) := by
  obtain ⟨rest, e⟩ := t.sub_code p hp
  rw [h] at e
  have : t.code[p]? = some (kindY k) := by
    rw [← Nat.add_zero p, ← List.getElem?_drop, e]; rfl
  unfold Tr.sy
  rw [List.getD_eq_getElem?_getD, this]; rfl
theorem leafC : ∀ r, r < 6 → ∀ w, w < 8 → leafB r w = Txt.contains (word w) (ch (ltrOf r)) := by decide +kernel
theorem ltrOf_le : ∀ r, r < 6 → ltrOf r ≤ 700 := by decide +kernel
theorem Tr.rdP (t : Tr) (ht : t.ok) (hN : t.size ≤ 11) : RdP t.size t.sy t.lt t.rt t.stk t.val where
  hN := hN
  e0 := by
    unfold Tr.sy
    rw [List.getD_eq_getElem?_getD, List.getElem?_eq_none (by rw [t.code_len]; exact Nat.le_refl _)]; rfl
  nz := fun p hp => by
    cases h : t.sub p with
    | leaf r => rw [Tr.sy_leaf hp h]; omega
    | node k a b =>
      rw [Tr.sy_node hp h]
      have ok := t.sub_ok ht p hp
      rw [h] at ok
      have hk : ∀ k, k < 4 → ((kindY k : Nat) : Int) ≠ 0 := by decide
      exact hk k ok.1
  s0 := by
    unfold Tr.stk
    rw [List.drop_of_length_le (by rw [t.code_len]; exact Nat.le_refl _)]; rfl
  leaf := fun p hp hs => by
    cases h : t.sub p with
    | node k a b =>
      rw [Tr.sy_node hp h] at hs
      exact absurd (Int.ofNat_lt.mpr (kindY_lt k)) hs
    | leaf r =>
      have ok := t.sub_ok ht p hp
      rw [h] at ok
      refine ⟨ltrOf r, Tr.sy_leaf hp h, ltrOf_le r ok, ?_, fun w hw => ?_⟩
      · obtain ⟨rest, e⟩ := t.sub_code p hp
        rw [h] at e
        unfold Tr.stk
        rw [e, sk2_code]
        have : t.code.drop (p + 1) = rest := by
          rw [← List.drop_drop, e]; rfl
        rw [this]; rfl
      · show (t.sub p).ev w = _
        rw [h]; exact leafC r ok w hw
  join := fun p hp hs => by
    cases h : t.sub p with
    | leaf r => rw [Tr.sy_leaf hp h] at hs; omega
    | node k a b =>
      obtain ⟨rest, e⟩ := t.sub_code p hp
      obtain ⟨h1, h2, h3⟩ := t.sub_node p hp h
      have p1 := a.size_pos
      have p2 := b.size_pos
      have hr : t.rt p = p + 1 + a.size := by unfold Tr.rt; rw [h]
      rw [h] at e
      have e1 : t.code.drop (p + 1) = a.code ++ (b.code ++ rest) := by
        rw [← List.drop_drop, e]
        show (kindY k :: (a.code ++ b.code) ++ rest).drop 1 = _
        simp
      refine ⟨sk2 rest (p + 1 + a.size + b.size), ?_, ?_, ?_, ?_, ?_, ?_, fun w hw => ?_⟩
      · unfold Tr.stk
        rw [e1, sk2_code, sk2_code, hr]; rfl
      · unfold Tr.stk
        rw [e, sk2_code]
        rw [show p + (Tr.node k a b).size = p + 1 + a.size + b.size by show p + (1 + a.size + b.size) = _; omega]
      · show p < p + 1; omega
      · show p + 1 < _; omega
      · rw [hr]; omega
      · rw [hr]; omega
      · rw [Tr.sy_node hp h, hr]
        show (t.sub p).ev w = holdsB _ ((t.sub (p + 1)).ev w) ((t.sub (p + 1 + a.size)).ev w)
        rw [h, h1, h2]; rfl
theorem Tr.stk0 (t : Tr) : t.stk 0 = [0] := by
  unfold Tr.stk
  rw [List.drop_zero, ← List.append_nil t.code, sk2_code]; rfl

/-- masks -/
def MaskOk (f : Nat → Bool) (M : Int) : Prop := ∃ F : Nat, M = (F : Int) ∧ F < 256 ∧ ∀ w, w < 8 → F.testBit w = f w
theorem leafMask : ∀ r, r < 6 → MaskOk (leafB r) (leafM r) := fun r hr => by
  refine ⟨(leafM r).toNat, ?_, ?_, ?_⟩
  · revert r; decide +kernel
  · revert r; decide +kernel
  · revert r; decide +kernel
theorem bAnd {F G : Nat} : Builtin.bitAnd (F : Int) (G : Int) = ((F &&& G : Nat) : Int) := by
  rw [bitAnd_pp (by omega) (by omega)]; simp
theorem bOr {F G : Nat} : Builtin.bitOr (F : Int) (G : Int) = ((F ||| G : Nat) : Int) := by
  rw [bitOr_and, bAnd]
  have := nat_or_add_and F G
  omega
theorem bXor : ∀ F : Nat, F < 256 → Builtin.bitXor 255 (F : Int) = ((255 - F : Nat) : Int) := by decide +kernel
theorem bXorT : ∀ F : Nat, F < 256 → ∀ w, w < 8 → (255 - F).testBit w = !F.testBit w := by decide +kernel
theorem kindMask {k : Nat} (hk : k < 4) {f g : Nat → Bool} {F G : Int} (hf : MaskOk f F) (hg : MaskOk g G) : MaskOk (fun w => holdsB (kindY k) (f w) (g w)) (kindM k F G) := by
  obtain ⟨F, rfl, hF, hf⟩ := hf
  obtain ⟨G, rfl, hG, hg⟩ := hg
  have o8 : ∀ {a b : Nat}, a < 256 → b < 256 → a ||| b < 256 := fun {a b} ha hb => Nat.or_lt_two_pow (n := 8) ha hb
  rcases k with _ | _ | _ | _ | k
  · refine ⟨F &&& G, bAnd, Nat.lt_of_le_of_lt Nat.and_le_left hF, fun w hw => ?_⟩
    rw [Nat.testBit_and, hf w hw, hg w hw]; rfl
  · refine ⟨F ||| G, bOr, o8 hF hG, fun w hw => ?_⟩
    rw [Nat.testBit_or, hf w hw, hg w hw]; rfl
  · refine ⟨(255 - F) ||| G, ?_, o8 (by omega) hG, fun w hw => ?_⟩
    · show Builtin.bitOr (Builtin.bitXor 255 (F : Int)) (G : Int) = _
      rw [bXor F hF, bOr]
    · rw [Nat.testBit_or, bXorT F hF w hw, hf w hw, hg w hw]
      show (!f w || g w) = (g w || !f w)
      rw [Bool.or_comm]
  · refine ⟨F ||| (255 - G), ?_, o8 hF (by omega), fun w hw => ?_⟩
    · show Builtin.bitOr (F : Int) (Builtin.bitXor 255 (G : Int)) = _
      rw [bXor G hG, bOr]
    · rw [Nat.testBit_or, bXorT G hG w hw, hf w hw, hg w hw]; rfl
  · omega
def GoodE (e : Ent) : Prop := ∃ t : Tr, t.ok ∧ e.1 = t.code ∧ MaskOk t.ev e.2
theorem leafGood (n : Int) : GoodE (leafE n) := ⟨.leaf (n.toNat % 6), Nat.mod_lt _ (by decide), rfl, leafMask _ (Nat.mod_lt _ (by decide))⟩
theorem joinGood {k : Nat} (hk : k < 4) {a b : Ent} (ha : GoodE a) (hb : GoodE b) : GoodE (joinE k a b) := by
  obtain ⟨x, x1, x2, x3⟩ := ha
  obtain ⟨y, y1, y2, y3⟩ := hb
  exact ⟨.node k x y, ⟨hk, x1, y1⟩, by show _ :: _ = _ :: _; rw [x2, y2], kindMask hk x3 y3⟩
def szE (l : List Ent) : Nat := (l.map fun e => e.1.length + 1).sum
theorem szE_app (a b : List Ent) : szE (a ++ b) = szE a + szE b := by simp [szE]
theorem split2 {l : List Ent} {a : Nat} (h : a + 1 < l.length) : l = l.take a ++ [l.getD a ([], 0), l.getD (a + 1) ([], 0)] ++ l.drop (a + 2) := by
  have h1 : l.getD a ([], 0) = l[a] := by rw [List.getD_eq_getElem?_getD, List.getElem?_eq_getElem (by omega)]; rfl
  have h2 : l.getD (a + 1) ([], 0) = l[a + 1] := by rw [List.getD_eq_getElem?_getD, List.getElem?_eq_getElem (by omega)]; rfl
  rw [h1, h2]
  conv => lhs; rw [← List.take_append_drop a l, List.drop_eq_getElem_cons (by omega), List.drop_eq_getElem_cons (i := a + 1) (by omega)]
  simp
theorem rowGood {ns : List Int} (h : ns.length = 6) : ∀ j, j ≤ 5 → (∀ e ∈ rowS ns j, GoodE e) ∧ szE (rowS ns j) = 12
  | 0, _ => by
    constructor
    · intro e he
      obtain ⟨n, hn, rfl⟩ := List.mem_map.mp he
      exact leafGood n
    · have : ∀ l : List Int, szE (l.map leafE) = 2 * l.length := by
        intro l
        induction l with
        | nil => rfl
        | cons a r ih =>
          show szE ([leafE a] ++ r.map leafE) = _
          rw [szE_app, ih, List.length_cons]
          show 2 + _ = _
          omega
      show szE (ns.map leafE) = 12
      rw [this, h]
  | j + 1, hj => by
    obtain ⟨g, z⟩ := rowGood h j (by omega)
    have hl := rowS_len h j (by omega)
    rw [rowS_succ]
    generalize rowS ns j = row at g z hl
    generalize (ns.getD j 0).toNat = n
    have ha : n / 6 % (5 - j) < 5 - j := Nat.mod_lt _ (by omega)
    have hk : n / 6 / (5 - j) % 4 < 4 := Nat.mod_lt _ (by decide)
    unfold stepE
    dsimp only
    generalize n / 6 % (5 - j) = a at ha
    generalize n / 6 / (5 - j) % 4 = k at hk
    have sp := split2 (l := row) (a := a) (by omega)
    have gD : ∀ i, i < row.length → GoodE (row.getD i ([], 0)) := fun i hi => by
      rw [List.getD_eq_getElem?_getD, List.getElem?_eq_getElem hi]
      exact g _ (List.getElem_mem _)
    have gx := gD a (by omega)
    have gy := gD (a + 1) (by omega)
    constructor
    · intro e he
      rcases List.mem_append.mp he with he | he
      · rcases List.mem_append.mp he with he | he
        · exact g e (List.mem_of_mem_take he)
        · rw [List.mem_singleton] at he
          subst he
          exact joinGood hk gx gy
      · exact g e (List.mem_of_mem_drop he)
    · rw [sp] at z
      rw [szE_app, szE_app] at z ⊢
      rw [← z]
      congr 2
      simp [szE, joinE]
      omega
theorem rowEnd {ns : List Int} (h : ns.length = 6) : ∃ t : Tr, t.ok ∧ t.size = 11 ∧ ∃ M, MaskOk t.ev M ∧ rowS ns 5 = [(t.code, M)] := by
  obtain ⟨g, z⟩ := rowGood h 5 (by omega)
  have hl := rowS_len h 5 (by omega)
  generalize rowS ns 5 = row at g z hl
  obtain ⟨e, rfl⟩ := List.length_eq_one_iff.mp hl
  obtain ⟨t, t1, t2, t3⟩ := g e (by simp)
  refine ⟨t, t1, ?_, e.2, t3, ?_⟩
  · rw [← t.code_len, ← t2]
    simp [szE] at z
    exact z
  · rw [← t2]
theorem Tr.code_syms : ∀ t : Tr, t.ok → ∀ y ∈ t.code, y ∈ syms
  | .leaf r, h, y, hy => by
    have hy : y ∈ [256 + ltrOf r] := hy
    rw [List.mem_singleton] at hy
    subst hy
    have : ∀ r, r < 6 → 256 + ltrOf r ∈ syms := by decide +kernel
    exact this r h
  | .node k a b, h, y, hy => by
    rcases List.mem_cons.mp hy with rfl | hy
    · have : ∀ k, k < 4 → kindY k ∈ syms := by decide +kernel
      exact this k h.1
    · rcases List.mem_append.mp hy with hy | hy
      · exact a.code_syms h.2.1 y hy
      · exact b.code_syms h.2.2 y hy

/-- the walk down -/
def Tr.kw : Tr → Nat → Nat → Nat → Nat × Nat × Nat
  | .leaf _, p, u, v => (p, u, v)
  | .node k a b, p, u, v =>
    if k = 0 then (if a.ev v then b.kw (p + 1 + a.size) u v else a.kw (p + 1) u v)
    else if k = 1 then (if a.ev u then a.kw (p + 1) u v else b.kw (p + 1 + a.size) u v)
    else if k = 2 then (if b.ev u then b.kw (p + 1 + a.size) u v else a.kw (p + 1) v u)
    else (if a.ev u then a.kw (p + 1) u v else b.kw (p + 1 + a.size) v u)
theorem Tr.kw_lt : ∀ (S : Tr) (p u v : Nat), u < 8 → v < 8 → (S.kw p u v).2.1 < 8 ∧ (S.kw p u v).2.2 < 8
  | .leaf _, p, u, v, hu, hv => ⟨hu, hv⟩
  | .node k a b, p, u, v, hu, hv => by
    unfold Tr.kw
    repeat' split
    all_goals first | exact a.kw_lt _ _ _ hu hv | exact b.kw_lt _ _ _ hu hv | exact a.kw_lt _ _ _ hv hu | exact b.kw_lt _ _ _ hv hu
theorem Tr.kw_range : ∀ (S : Tr) (p u v : Nat), p ≤ (S.kw p u v).1 ∧ (S.kw p u v).1 < p + S.size
  | .leaf _, p, u, v => ⟨Nat.le_refl _, Nat.lt_succ_self _⟩
  | .node k a b, p, u, v => by
    have ha := fun u v => a.kw_range (p + 1) u v
    have hb := fun u v => b.kw_range (p + 1 + a.size) u v
    show _ ∧ _ < p + (1 + a.size + b.size)
    unfold Tr.kw
    repeat' split
    all_goals first | (have := ha u v; omega) | (have := hb u v; omega) | (have := ha v u; omega) | (have := hb v u; omega)
theorem kwF_eq (t : Tr) (ht : t.ok) : ∀ (S : Tr) (p f u v : Nat), p < t.size → t.sub p = S → S.size ≤ f → u < 8 → v < 8 →
    kwF t.sy t.lt t.rt (fun p => hvW (t.val p)) f p (word u) (word v) = ((S.kw p u v).1, word (S.kw p u v).2.1, word (S.kw p u v).2.2)
  | .leaf r, p, f, u, v, hp, e, hf, hu, hv => by
    obtain ⟨f, rfl⟩ : ∃ g, f = g + 1 := ⟨f - 1, by have hf : 1 ≤ f := hf; omega⟩
    rw [kwF, if_neg (by rw [Tr.sy_leaf hp e]; omega)]; rfl
  | .node k a b, p, f, u, v, hp, e, hf, hu, hv => by
    have hf : 1 + a.size + b.size ≤ f := hf
    obtain ⟨f, rfl⟩ : ∃ g, f = g + 1 := ⟨f - 1, by omega⟩
    obtain ⟨h1, h2, h3⟩ := t.sub_node p hp e
    have p1 := a.size_pos
    have p2 := b.size_pos
    have hk := t.sub_ok ht p hp
    rw [e] at hk
    have hk := hk.1
    have hy := Tr.sy_node hp e
    have hl : t.lt p = p + 1 := rfl
    have hr : t.rt p = p + 1 + a.size := by unfold Tr.rt; rw [e]
    have va : ∀ w, w < 8 → (hvW (t.val (p + 1))).any (· == word w) = a.ev w := fun w hw => by
      rw [any_hv _ hw]; show (t.sub (p + 1)).ev w = _; rw [h1]
    have vb : ∀ w, w < 8 → (hvW (t.val (p + 1 + a.size))).any (· == word w) = b.ev w := fun w hw => by
      rw [any_hv _ hw]; show (t.sub (p + 1 + a.size)).ev w = _; rw [h2]
    have ia := fun u v hu hv => kwF_eq t ht a (p + 1) f u v (by omega) h1 (by omega) hu hv
    have ib := fun u v hu hv => kwF_eq t ht b (p + 1 + a.size) f u v (by omega) h2 (by omega) hu hv
    obtain rfl | rfl | rfl | rfl : k = 0 ∨ k = 1 ∨ k = 2 ∨ k = 3 := by omega
    · have hy : t.sy p = 19 := hy
      simp only [kwF, Tr.kw, hy, hl, hr, va v hv, Int.reduceLT, reduceIte]
      cases a.ev v
      · exact ia u v hu hv
      · exact ib u v hu hv
    · have hy : t.sy p = 18 := hy
      simp only [kwF, Tr.kw, hy, hl, hr, va u hu, Int.reduceLT, Int.reduceEq, Nat.reduceEqDiff, reduceIte]
      cases a.ev u
      · exact ib u v hu hv
      · exact ia u v hu hv
    · have hy : t.sy p = 29 := hy
      simp only [kwF, Tr.kw, hy, hl, hr, vb u hu, Int.reduceLT, Int.reduceEq, Nat.reduceEqDiff, reduceIte]
      cases b.ev u
      · exact ia v u hv hu
      · exact ib u v hu hv
    · have hy : t.sy p = 30 := hy
      simp only [kwF, Tr.kw, hy, hl, hr, va u hu, Int.reduceLT, Int.reduceEq, Nat.reduceEqDiff, reduceIte]
      cases a.ev u
      · exact ib v u hv hu
      · exact ia u v hu hv

/-- the pairs of a leaf are a box -/
def Bx (ev : Nat → Bool) (kw : Nat → Nat → Nat × Nat × Nat) (q : Nat) (F : Nat → Prop) : Prop :=
  ∃ (α β : Nat → Bool) (sw : Bool) (r : Nat), ∀ u v, ev u = true → ev v = false →
    ((kw u v).1 = q ↔ (α u = true ∧ β v = true)) ∧ ((kw u v).1 = q → (kw u v).2 = (if sw then (v, u) else (u, v)) ∧ F r ∧ leafB r (kw u v).2.1 = true ∧ leafB r (kw u v).2.2 = false)
theorem Bx.none {ev : Nat → Bool} {kw : Nat → Nat → Nat × Nat × Nat} {q : Nat} {F : Nat → Prop} (h : ∀ u v, (kw u v).1 ≠ q) : Bx ev kw q F :=
  ⟨fun _ => false, fun _ => false, false, 0, fun u v _ _ => ⟨⟨fun e => absurd e (h u v), fun e => nomatch e.1⟩, fun e => absurd e (h u v)⟩⟩
theorem Bx.on {ev ev1 : Nat → Bool} {kw kw1 : Nat → Nat → Nat × Nat × Nat} {q : Nat} {F F1 : Nat → Prop} (h : Bx ev1 kw1 q F1) (hF : ∀ r, F1 r → F r) (cu cv : Nat → Bool)
    (h1 : ∀ u v, ev u = true → ev v = false → cu u = true → cv v = true → kw u v = kw1 u v ∧ ev1 u = true ∧ ev1 v = false)
    (h2 : ∀ u v, ev u = true → ev v = false → (cu u && cv v) = false → (kw u v).1 ≠ q) : Bx ev kw q F := by
  obtain ⟨α, β, sw, r, h⟩ := h
  refine ⟨fun u => cu u && α u, fun v => cv v && β v, sw, r, fun u v hu hv => ?_⟩
  cases c : (cu u && cv v) with
  | false =>
    have := h2 u v hu hv c
    refine ⟨⟨fun e => absurd e this, fun e => ?_⟩, fun e => absurd e this⟩
    simp only [Bool.and_eq_true] at e
    rw [e.1.1, e.2.1] at c; cases c
  | true =>
    rw [Bool.and_eq_true] at c
    obtain ⟨e, a, b⟩ := h1 u v hu hv c.1 c.2
    obtain ⟨x, y⟩ := h u v a b
    rw [e]
    refine ⟨?_, fun z => let ⟨i, j, k⟩ := y z; ⟨i, hF _ j, k⟩⟩
    rw [x]
    simp [c.1, c.2]
theorem Bx.sw {ev ev1 : Nat → Bool} {kw kw1 : Nat → Nat → Nat × Nat × Nat} {q : Nat} {F F1 : Nat → Prop} (h : Bx ev1 kw1 q F1) (hF : ∀ r, F1 r → F r) (cu cv : Nat → Bool)
    (h1 : ∀ u v, ev u = true → ev v = false → cu u = true → cv v = true → kw u v = kw1 v u ∧ ev1 v = true ∧ ev1 u = false)
    (h2 : ∀ u v, ev u = true → ev v = false → (cu u && cv v) = false → (kw u v).1 ≠ q) : Bx ev kw q F := by
  obtain ⟨α, β, sw, r, h⟩ := h
  refine ⟨fun u => cu u && β u, fun v => cv v && α v, !sw, r, fun u v hu hv => ?_⟩
  cases c : (cu u && cv v) with
  | false =>
    have := h2 u v hu hv c
    refine ⟨⟨fun e => absurd e this, fun e => ?_⟩, fun e => absurd e this⟩
    simp only [Bool.and_eq_true] at e
    rw [e.1.1, e.2.1] at c; cases c
  | true =>
    rw [Bool.and_eq_true] at c
    obtain ⟨e, a, b⟩ := h1 u v hu hv c.1 c.2
    obtain ⟨x, y⟩ := h v u a b
    rw [e]
    refine ⟨?_, fun z => ?_⟩
    · rw [x]
      simp [c.1, c.2, And.comm]
    · obtain ⟨i, j, k⟩ := y z
      refine ⟨?_, hF _ j, k⟩
      rw [i]
      cases sw <;> rfl
def LeafAt (S : Tr) (p q r : Nat) : Prop := p ≤ q ∧ q < p + S.size ∧ S.sub (q - p) = .leaf r
theorem LeafAt.l {k : Nat} {a b : Tr} {p q r : Nat} (h : LeafAt a (p + 1) q r) : LeafAt (.node k a b) p q r := by
  obtain ⟨h1, h2, h3⟩ := h
  refine ⟨by omega, ?_, ?_⟩
  · show q < p + (1 + a.size + b.size); omega
  · rw [show q - p = 1 + (q - (p + 1)) by omega, Tr.sub_l (by omega)]; exact h3
theorem LeafAt.r {k : Nat} {a b : Tr} {p q r : Nat} (h : LeafAt b (p + 1 + a.size) q r) : LeafAt (.node k a b) p q r := by
  obtain ⟨h1, h2, h3⟩ := h
  refine ⟨by omega, ?_, ?_⟩
  · show q < p + (1 + a.size + b.size); omega
  · rw [show q - p = 1 + a.size + (q - (p + 1 + a.size)) by omega, Tr.sub_r]; exact h3
theorem Tr.box : ∀ (S : Tr) (p q : Nat), S.ok → Bx S.ev (S.kw p) q (LeafAt S p q)
  | .leaf r, p, q, _ => by
    by_cases h : q = p
    · subst h
      exact ⟨fun _ => true, fun _ => true, false, r, fun u v hu hv => ⟨⟨fun _ => ⟨rfl, rfl⟩, fun _ => rfl⟩, fun _ => ⟨rfl, ⟨Nat.le_refl _, Nat.lt_succ_self _, rfl⟩, hu, hv⟩⟩⟩
    · exact Bx.none fun u v e => h e.symm
  | .node k a b, p, q, hok => by
    obtain ⟨hk, oka, okb⟩ := hok
    have ia := a.box (p + 1) q oka
    have ib := b.box (p + 1 + a.size) q okb
    have ra := fun u v => a.kw_range (p + 1) u v
    have rb := fun u v => b.kw_range (p + 1 + a.size) u v
    by_cases hq : q < p + 1 + a.size
    · have nb : ∀ u v, (b.kw (p + 1 + a.size) u v).1 ≠ q := fun u v => by have := rb u v; omega
      rcases k with _ | _ | _ | _ | k
      · refine ia.on (fun r => LeafAt.l) (fun _ => true) (fun v => !a.ev v) (fun u v hu hv _ c => ?_) (fun u v hu hv c => ?_)
        · have hu : (a.ev u && b.ev u) = true := hu
          have c : a.ev v = false := by simpa using c
          refine ⟨?_, (Bool.and_eq_true _ _ ▸ hu).1, c⟩
          show (if a.ev v then _ else _) = _
          rw [c]; rfl
        · have c : a.ev v = true := by simpa using c
          show (if a.ev v then b.kw (p + 1 + a.size) u v else _).1 ≠ q
          rw [c]; exact nb u v
      · refine ia.on (fun r => LeafAt.l) (fun u => a.ev u) (fun _ => true) (fun u v hu hv c _ => ?_) (fun u v hu hv c => ?_)
        · have hv : (a.ev v || b.ev v) = false := hv
          refine ⟨?_, c, (Bool.or_eq_false_iff.mp hv).1⟩
          show (if a.ev u then a.kw (p + 1) u v else _) = _
          rw [if_pos c]
        · have c : a.ev u = false := by simpa using c
          show (if a.ev u then a.kw (p + 1) u v else b.kw (p + 1 + a.size) u v).1 ≠ q
          rw [c]; exact nb u v
      · refine ia.sw (fun r => LeafAt.l) (fun u => !b.ev u) (fun _ => true) (fun u v hu hv c _ => ?_) (fun u v hu hv c => ?_)
        · have hu : (b.ev u || !a.ev u) = true := hu
          have hv : (b.ev v || !a.ev v) = false := hv
          have c : b.ev u = false := by simpa using c
          refine ⟨?_, by simpa using (Bool.or_eq_false_iff.mp hv).2, by simpa [c] using hu⟩
          show (if b.ev u then _ else a.kw (p + 1) v u) = _
          rw [c]; rfl
        · have c : b.ev u = true := by simpa using c
          show (if b.ev u then b.kw (p + 1 + a.size) u v else _).1 ≠ q
          rw [if_pos c]; exact nb u v
      · refine ia.on (fun r => LeafAt.l) (fun u => a.ev u) (fun _ => true) (fun u v hu hv c _ => ?_) (fun u v hu hv c => ?_)
        · have hv : (a.ev v || !b.ev v) = false := hv
          refine ⟨?_, c, (Bool.or_eq_false_iff.mp hv).1⟩
          show (if a.ev u then a.kw (p + 1) u v else _) = _
          rw [if_pos c]
        · have c : a.ev u = false := by simpa using c
          show (if a.ev u then a.kw (p + 1) u v else b.kw (p + 1 + a.size) v u).1 ≠ q
          rw [c]; exact nb v u
      · omega
    · have na : ∀ u v, (a.kw (p + 1) u v).1 ≠ q := fun u v => by have := ra u v; omega
      rcases k with _ | _ | _ | _ | k
      · refine ib.on (fun r => LeafAt.r) (fun _ => true) (fun v => a.ev v) (fun u v hu hv _ c => ?_) (fun u v hu hv c => ?_)
        · have hu : (a.ev u && b.ev u) = true := hu
          have hv : (a.ev v && b.ev v) = false := hv
          refine ⟨?_, (Bool.and_eq_true _ _ ▸ hu).2, by simpa [c] using hv⟩
          show (if a.ev v then _ else _) = _
          rw [if_pos c]
        · have c : a.ev v = false := by simpa using c
          show (if a.ev v then b.kw (p + 1 + a.size) u v else a.kw (p + 1) u v).1 ≠ q
          rw [c]; exact na u v
      · refine ib.on (fun r => LeafAt.r) (fun u => !a.ev u) (fun _ => true) (fun u v hu hv c _ => ?_) (fun u v hu hv c => ?_)
        · have hu : (a.ev u || b.ev u) = true := hu
          have hv : (a.ev v || b.ev v) = false := hv
          have c : a.ev u = false := by simpa using c
          refine ⟨?_, by simpa [c] using hu, (Bool.or_eq_false_iff.mp hv).2⟩
          show (if a.ev u then a.kw (p + 1) u v else _) = _
          rw [c]; rfl
        · have c : a.ev u = true := by simpa using c
          show (if a.ev u then a.kw (p + 1) u v else b.kw (p + 1 + a.size) u v).1 ≠ q
          rw [if_pos c]; exact na u v
      · refine ib.on (fun r => LeafAt.r) (fun u => b.ev u) (fun _ => true) (fun u v hu hv c _ => ?_) (fun u v hu hv c => ?_)
        · have hv : (b.ev v || !a.ev v) = false := hv
          refine ⟨?_, c, (Bool.or_eq_false_iff.mp hv).1⟩
          show (if b.ev u then _ else _) = _
          rw [if_pos c]
        · have c : b.ev u = false := by simpa using c
          show (if b.ev u then b.kw (p + 1 + a.size) u v else a.kw (p + 1) v u).1 ≠ q
          rw [c]; exact na v u
      · refine ib.sw (fun r => LeafAt.r) (fun u => !a.ev u) (fun _ => true) (fun u v hu hv c _ => ?_) (fun u v hu hv c => ?_)
        · have hu : (a.ev u || !b.ev u) = true := hu
          have hv : (a.ev v || !b.ev v) = false := hv
          have c : a.ev u = false := by simpa using c
          refine ⟨?_, by simpa using (Bool.or_eq_false_iff.mp hv).2, by simpa [c] using hu⟩
          show (if a.ev u then a.kw (p + 1) u v else b.kw (p + 1 + a.size) v u) = _
          rw [c]; rfl
        · have c : a.ev u = true := by simpa using c
          show (if a.ev u then a.kw (p + 1) u v else b.kw (p + 1 + a.size) v u).1 ≠ q
          rw [if_pos c]; exact na u v
      · omega

def prod (A B : List Nat) : List (Nat × Nat) := A.flatMap fun u => B.map fun v => (u, v)
theorem prod_cons (a : Nat) (A B : List Nat) : prod (a :: A) B = (B.map fun v => (a, v)) ++ prod A B := by simp [prod]
theorem prod_filter {B : List Nat} {P : Nat × Nat → Bool} {α β : Nat → Bool} : ∀ {A : List Nat}, (∀ u ∈ A, ∀ v ∈ B, P (u, v) = (α u && β v)) → (prod A B).filter P = prod (A.filter α) (B.filter β)
  | [], _ => rfl
  | a :: A, h => by
    rw [prod_cons, List.filter_append, prod_filter (A := A) fun u hu => h u (.tail _ hu), List.filter_map]
    have ha := h a (.head _)
    cases c : α a with
    | true =>
      rw [List.filter_cons, if_pos c, prod_cons]
      congr 2
      exact List.filter_congr fun v hv => by show P (a, v) = _; rw [ha v hv, c]; rfl
    | false =>
      rw [List.filter_cons, if_neg (by rw [c]; decide)]
      rw [List.filter_eq_nil_iff.mpr fun v hv => by show ¬ P (a, v) = true; rw [ha v hv, c]; exact fun h => nomatch h]
      rfl
theorem prod_mem {A B : List Nat} {x : Nat × Nat} : x ∈ prod A B ↔ x.1 ∈ A ∧ x.2 ∈ B := by
  obtain ⟨u, v⟩ := x
  simp only [prod, List.mem_flatMap, List.mem_map, Prod.mk.injEq]
  constructor
  · rintro ⟨a, ha, b, hb, rfl, rfl⟩; exact ⟨ha, hb⟩
  · rintro ⟨ha, hb⟩; exact ⟨u, ha, v, hb, rfl, rfl⟩
theorem prod_len {B : List Nat} : ∀ {A : List Nat}, (prod A B).length = A.length * B.length
  | [] => by simp [prod]
  | a :: A => by rw [prod_cons, List.length_append, prod_len (A := A), List.length_map, List.length_cons, Nat.succ_mul, Nat.add_comm]
theorem prod_cntR {B : List Nat} {a : Nat} {A : List Nat} {g : Nat → Nat → Bool} : (prod B (a :: A)).countP (fun x => g x.2 x.1) = B.countP (g a) + (prod B A).countP (fun x => g x.2 x.1) := by
  induction B with
  | nil => rfl
  | cons b B ih =>
    rw [prod_cons, prod_cons, List.map_cons, List.cons_append, List.countP_cons, List.countP_append, List.countP_append, ih, List.countP_cons]
    dsimp only
    omega
theorem prod_swap {B : List Nat} {g : Nat → Nat → Bool} : ∀ {A : List Nat}, (prod A B).countP (fun x => g x.1 x.2) = (prod B A).countP (fun x => g x.2 x.1)
  | [] => by
    induction B with
    | nil => rfl
    | cons b B ih => rw [prod_cons]; exact ih
  | a :: A => by
    rw [prod_cntR, prod_cons, List.countP_append, prod_swap (A := A), List.countP_map]; rfl
theorem prod_cnt1 {B : List Nat} {g : Nat → Nat → Bool} : ∀ {A : List Nat}, (∀ u ∈ A, B.countP (g u) ≤ 1) → (prod A B).countP (fun x => g x.1 x.2) ≤ A.length
  | [], _ => Nat.le_refl _
  | a :: A, h => by
    have ih := prod_cnt1 (A := A) fun u hu => h u (.tail _ hu)
    have ha := h a (.head _)
    rw [prod_cons, List.countP_append, List.countP_map, List.length_cons]
    have e : List.countP ((fun x : Nat × Nat => g x.1 x.2) ∘ fun v => (a, v)) B = B.countP (g a) := rfl
    rw [e]; omega
theorem one_of {B : List Nat} (hB : B.Nodup) {g : Nat → Bool} {c : Nat} (h : ∀ v ∈ B, g v = true → v = c) : B.countP g ≤ 1 := by
  induction B with
  | nil => exact Nat.zero_le _
  | cons b B ih =>
    rw [List.nodup_cons] at hB
    rw [List.countP_cons]
    have ih := ih hB.2 fun v hv => h v (.tail _ hv)
    by_cases q : g b = true
    · rw [if_pos q]
      have hb := h b (.head _) q
      have : B.countP g = 0 := by
        rw [List.countP_eq_zero]
        intro v hv e
        have := h v (.tail _ hv) e
        exact hB.1 (by rw [hb, ← this]; exact hv)
      omega
    · rw [if_neg q]; omega
/-- the different ones -/
theorem uq_fold : ∀ (l acc : List Str), acc.Nodup → (l.foldl (fun acc k => if acc.contains k then acc else acc ++ [k]) acc).Nodup ∧ ∀ k, k ∈ l.foldl (fun acc k => if acc.contains k then acc else acc ++ [k]) acc ↔ k ∈ acc ∨ k ∈ l
  | [], acc, h => ⟨h, fun k => by simp⟩
  | a :: r, acc, h => by
    rw [List.foldl_cons]
    cases c : acc.contains a with
    | true =>
      rw [if_pos rfl]
      obtain ⟨h1, h2⟩ := uq_fold r acc h
      refine ⟨h1, fun k => ?_⟩
      rw [h2 k, List.mem_cons]
      have : a ∈ acc := by simpa using c
      constructor
      · rintro (q | q)
        · exact .inl q
        · exact .inr (.inr q)
      · rintro (q | rfl | q)
        · exact .inl q
        · exact .inl this
        · exact .inr q
    | false =>
      rw [if_neg (by decide)]
      have na : a ∉ acc := by simpa using c
      obtain ⟨h1, h2⟩ := uq_fold r (acc ++ [a]) (by
        rw [List.nodup_append]
        refine ⟨h, by simp, fun x hx y hy e => ?_⟩
        rw [List.mem_singleton] at hy
        exact na (by rw [← hy, ← e]; exact hx))
      refine ⟨h1, fun k => ?_⟩
      rw [h2 k, List.mem_append, List.mem_singleton, List.mem_cons, or_assoc]
theorem uq_of {L X : List Str} (hX : X.Nodup) (h : ∀ k, k ∈ L ↔ k ∈ X) : (uq L).length = X.length := by
  obtain ⟨h1, h2⟩ := uq_fold L [] List.nodup_nil
  refine List.Perm.length_eq ((List.perm_ext_iff_of_nodup h1 hX).mpr fun k => ?_)
  rw [h2 k]
  simp [h k]

def ys (f : Nat → Bool) : List Nat := (List.range 8).filter f
def pairsOf (f : Nat → Bool) : List (Nat × Nat) := prod (ys f) (ys fun w => !f w)
def pl (t : Tr) (x : Nat × Nat) : Nat := (t.kw 0 x.1 x.2).1
def dd (x : Nat × Nat) : Nat := apart (word x.1) (word x.2)
def rowsOf (t : Tr) (p : Nat) : List (Str × Str) := ((pairsOf t.ev).filter fun x => pl t x == p).map fun x => (word x.1, word x.2)
def keyOf (t : Tr) (x : Nat × Nat) : Str := ch ((if dd x == 1 then 65 else 97) + pl t x)
theorem ys_lt {f : Nat → Bool} {u : Nat} (h : u ∈ ys f) : u < 8 ∧ f u = true := by
  obtain ⟨a, b⟩ := List.mem_filter.mp h
  exact ⟨List.mem_range.mp a, b⟩
theorem ys_nd (f : Nat → Bool) : (ys f).Nodup := List.nodup_range.filter f
theorem pairs_mem {f : Nat → Bool} {x : Nat × Nat} (h : x ∈ pairsOf f) : x.1 < 8 ∧ x.2 < 8 ∧ f x.1 = true ∧ f x.2 = false := by
  obtain ⟨a, b⟩ := prod_mem.mp h
  obtain ⟨a1, a2⟩ := ys_lt a
  obtain ⟨b1, b2⟩ := ys_lt b
  exact ⟨a1, b1, a2, by simpa using b2⟩
/-- how far apart -/
def d3 (u v : Nat) : Nat := (u ^^^ v) % 2 + (u ^^^ v) / 2 % 2 + (u ^^^ v) / 4 % 2
theorem dd3 : ∀ u, u < 8 → ∀ v, v < 8 → dd (u, v) = d3 u v := by decide +kernel
theorem d3all : ((List.range 6).all fun r => (List.range 8).all fun u => (List.range 8).all fun v => (leafB r u == leafB r v) || (d3 u v != 1) || (v == u ^^^ 2 ^ (r % 3) && u == v ^^^ 2 ^ (r % 3))) = true := by decide +kernel
theorem d3one (r : Nat) (hr : r < 6) (u : Nat) (hu : u < 8) (v : Nat) (hv : v < 8) (h : (leafB r u == leafB r v) = false) (h1 : d3 u v = 1) : v = u ^^^ 2 ^ (r % 3) ∧ u = v ^^^ 2 ^ (r % 3) := by
  have := List.all_eq_true.mp (List.all_eq_true.mp (List.all_eq_true.mp d3all r (List.mem_range.mpr hr)) u (List.mem_range.mpr hu)) v (List.mem_range.mpr hv)
  rw [h, h1] at this
  simpa using this
theorem leafPair (t : Tr) (ht : t.ok) {u v : Nat} (hu : t.ev u = true) (hv : t.ev v = false) : (t.kw 0 u v).1 < t.size ∧ ∃ r, r < 6 ∧ t.sub (t.kw 0 u v).1 = .leaf r ∧ leafB r (t.kw 0 u v).2.1 = true ∧ leafB r (t.kw 0 u v).2.2 = false := by
  obtain ⟨α, β, sw, r, h⟩ := t.box 0 (t.kw 0 u v).1 ht
  obtain ⟨_, h2⟩ := h u v hu hv
  obtain ⟨_, ⟨_, b, c⟩, d, e⟩ := h2 rfl
  rw [Nat.zero_add] at b
  rw [Nat.sub_zero] at c
  refine ⟨b, r, ?_, c, d, e⟩
  have := t.sub_ok ht _ b
  rw [c] at this
  exact this
theorem rows_box (t : Tr) (ht : t.ok) (p : Nat) : ∃ A B : List Nat, A.Nodup ∧ B.Nodup ∧ (∀ u ∈ A, u < 8) ∧ (∀ v ∈ B, v < 8) ∧ ((pairsOf t.ev).filter fun x => pl t x == p) = prod A B ∧ ∃ c, ∀ u ∈ A, ∀ v ∈ B, dd (u, v) = 1 → v = u ^^^ c ∧ u = v ^^^ c := by
  obtain ⟨α, β, sw, r, h⟩ := t.box 0 p ht
  refine ⟨(ys t.ev).filter α, (ys fun w => !t.ev w).filter β, (ys_nd _).filter _, (ys_nd _).filter _, fun u hu => (ys_lt (List.mem_filter.mp hu).1).1, fun v hv => (ys_lt (List.mem_filter.mp hv).1).1, prod_filter fun u hu v hv => ?_, 2 ^ (r % 3), fun u hu v hv e => ?_⟩
  · obtain ⟨_, u2⟩ := ys_lt hu
    obtain ⟨_, v2⟩ := ys_lt hv
    obtain ⟨h1, _⟩ := h u v u2 (by simpa using v2)
    rw [Bool.eq_iff_iff, beq_iff_eq, Bool.and_eq_true]
    exact h1
  · obtain ⟨hu, au⟩ := List.mem_filter.mp hu
    obtain ⟨hv, bv⟩ := List.mem_filter.mp hv
    obtain ⟨u1, u2⟩ := ys_lt hu
    obtain ⟨v1, v2⟩ := ys_lt hv
    obtain ⟨h1, h2⟩ := h u v u2 (by simpa using v2)
    have hp := h1.mpr ⟨au, bv⟩
    obtain ⟨a, ⟨_, b, c⟩, d, e'⟩ := h2 hp
    have hr : r < 6 := by
      have := t.sub_ok ht _ (show p - 0 < t.size by omega)
      rw [c] at this
      exact this
    rw [dd3 u u1 v v1] at e
    refine d3one r hr u u1 v v1 ?_ e
    rw [a] at d e'
    cases sw
    · rw [if_neg (by decide)] at d e'
      dsimp only at d e'
      rw [d, e']; decide
    · rw [if_pos rfl] at d e'
      dsimp only at d e'
      rw [d, e']; decide
theorem map_nd {A : List Nat} (h : A.Nodup) (hA : ∀ u ∈ A, u < 8) : (A.map word).Nodup := by
  induction A with
  | nil => exact List.nodup_nil
  | cons a A ih =>
    rw [List.nodup_cons] at h
    rw [List.map_cons, List.nodup_cons]
    refine ⟨fun hm => ?_, ih h.2 fun u hu => hA u (.tail _ hu)⟩
    obtain ⟨b, hb, e⟩ := List.mem_map.mp hm
    have := word_inj (hA b (.tail _ hb)) (hA a (.head _)) e
    exact h.1 (this ▸ hb)
theorem rows_ok (t : Tr) (ht : t.ok) (p : Nat) :
    (uq ((rowsOf t p).map (·.1))).length * (uq ((rowsOf t p).map (·.2))).length = (rowsOf t p).length ∧ (((pairsOf t.ev).filter fun x => pl t x == p).countP fun x => dd x == 1) ^ 2 ≤ (rowsOf t p).length := by
  obtain ⟨A, B, hA, hB, lA, lB, e, c, hc⟩ := rows_box t ht p
  unfold rowsOf
  rw [e]
  rw [List.map_map, List.map_map, List.length_map, prod_len]
  constructor
  · cases A with
    | nil => simp [prod, uq]
    | cons a A =>
      cases B with
      | nil =>
        have : prod (a :: A) [] = [] := by simp [prod]
        rw [this]; rfl
      | cons b B =>
        rw [uq_of (map_nd hA lA), uq_of (map_nd hB lB), List.length_map, List.length_map]
        · intro k
          constructor
          · intro hk
            obtain ⟨x, hx, rfl⟩ := List.mem_map.mp hk
            exact List.mem_map.mpr ⟨x.2, (prod_mem.mp hx).2, rfl⟩
          · intro hk
            obtain ⟨v, hv, rfl⟩ := List.mem_map.mp hk
            exact List.mem_map.mpr ⟨(a, v), prod_mem.mpr ⟨.head _, hv⟩, rfl⟩
        · intro k
          constructor
          · intro hk
            obtain ⟨x, hx, rfl⟩ := List.mem_map.mp hk
            exact List.mem_map.mpr ⟨x.1, (prod_mem.mp hx).1, rfl⟩
          · intro hk
            obtain ⟨u, hu, rfl⟩ := List.mem_map.mp hk
            exact List.mem_map.mpr ⟨(u, b), prod_mem.mpr ⟨hu, .head _⟩, rfl⟩
  · have h1 : (prod A B).countP (fun x => dd x == 1) ≤ A.length := by
      refine Nat.le_trans ?_ (prod_cnt1 (A := A) (B := B) (g := fun u v => dd (u, v) == 1) fun u hu => one_of hB (c := u ^^^ c) fun v hv e => (hc u hu v hv (by simpa using e)).1)
      exact Nat.le_refl _
    have h2 : (prod A B).countP (fun x => dd x == 1) ≤ B.length := by
      have := prod_swap (A := A) (B := B) (g := fun u v => dd (u, v) == 1)
      refine Nat.le_trans (Nat.le_of_eq this) (prod_cnt1 (A := B) (B := A) (g := fun v u => dd (u, v) == 1) fun v hv => one_of hA (c := v ^^^ c) fun u hu e => (hc u hu v hv (by simpa using e)).2)
    rw [Nat.pow_two]
    exact Nat.mul_le_mul h1 h2
theorem amgm (x y : Nat) : 4 * (x * y) ≤ (x + y) * (x + y) := by
  have key : ∀ a d : Nat, 4 * (a * (a + d)) ≤ (a + (a + d)) * (a + (a + d)) := by
    intro a d
    have e : (a + (a + d)) * (a + (a + d)) = 4 * (a * (a + d)) + d * d := by grind
    omega
  rcases Nat.le_total x y with h | h
  · obtain ⟨d, rfl⟩ := Nat.exists_eq_add_of_le h
    exact key x d
  · obtain ⟨d, rfl⟩ := Nat.exists_eq_add_of_le h
    rw [Nat.mul_comm (y + d) y, Nat.add_comm (y + d) y]
    exact key y d
theorem cs_step {S n L B b : Nat} (h1 : S * S ≤ L * B) (h2 : n * n ≤ b) (k : Nat) (hk : k = if b = 0 then 0 else 1) : (S + n) * (S + n) ≤ (L + k) * (B + b) := by
  by_cases hb : b = 0
  · subst hb
    have : n = 0 := by
      rcases Nat.eq_zero_or_pos n with h | h
      · exact h
      · have := Nat.mul_pos h h; omega
    subst this
    rw [if_pos rfl] at hk
    subst hk
    exact h1
  · rw [if_neg hb] at hk
    subst hk
    have key : 2 * (S * n) ≤ L * b + B := by
      apply Nat.le_of_not_lt
      intro hlt
      have q := Nat.mul_self_lt_mul_self hlt
      have e1 : 2 * (S * n) * (2 * (S * n)) = 4 * ((S * S) * (n * n)) := by grind
      have e2 : (S * S) * (n * n) ≤ (L * B) * b := Nat.mul_le_mul h1 h2
      have e3 : (L * B) * b = (L * b) * B := by grind
      have e4 := amgm (L * b) B
      omega
    have e1 : (S + n) * (S + n) = S * S + 2 * (S * n) + n * n := by grind
    have e2 : (L + 1) * (B + b) = L * B + L * b + B + b := by grind
    omega
theorem filt_split {α : Type} {l : List α} {f : α → Nat} {m : Nat} {g : α → Bool} : l.countP (fun x => decide (f x < m + 1) && g x) = l.countP (fun x => decide (f x < m) && g x) + (l.filter fun x => f x == m).countP g := by
  induction l with
  | nil => rfl
  | cons a l ih =>
    rw [List.countP_cons, List.countP_cons, List.filter_cons, ih]
    by_cases h1 : f a < m
    · have e1 : decide (f a < m + 1) = true := by rw [decide_eq_true_eq]; omega
      have e2 : decide (f a < m) = true := by rw [decide_eq_true_eq]; exact h1
      have e3 : (f a == m) = false := by rw [beq_eq_false_iff_ne]; omega
      rw [e1, e2, e3, if_neg (c := false = true) (by decide)]
      omega
    · have e2 : decide (f a < m) = false := by rw [decide_eq_false_iff_not]; exact h1
      rw [e2]
      by_cases h2 : f a = m
      · have e1 : decide (f a < m + 1) = true := by rw [decide_eq_true_eq]; omega
        have e3 : (f a == m) = true := by rw [beq_iff_eq]; exact h2
        rw [e1, e3, if_pos (c := true = true) rfl, List.countP_cons]
        simp
        omega
      · have e1 : decide (f a < m + 1) = false := by rw [decide_eq_false_iff_not]; omega
        have e3 : (f a == m) = false := by rw [beq_eq_false_iff_ne]; exact h2
        rw [e1, e3, if_neg (c := false = true) (by decide)]
        simp
theorem khr_m (t : Tr) (ht : t.ok) : ∀ m : Nat,
    ((pairsOf t.ev).countP fun x => decide (pl t x < m) && dd x == 1) * ((pairsOf t.ev).countP fun x => decide (pl t x < m) && dd x == 1) ≤ ((List.range m).countP fun p => !(rowsOf t p).isEmpty) * ((pairsOf t.ev).countP fun x => decide (pl t x < m) && true)
  | 0 => by
    have : ∀ g : Nat × Nat → Bool, (pairsOf t.ev).countP (fun x => decide (pl t x < 0) && g x) = 0 := fun g => by
      rw [List.countP_eq_zero]; intro x _; simp
    rw [this]; exact Nat.zero_le _
  | m + 1 => by
    have ih := khr_m t ht m
    obtain ⟨_, h2⟩ := rows_ok t ht m
    have hlen : (rowsOf t m).length = ((pairsOf t.ev).filter fun x => pl t x == m).countP (fun _ => true) := by
      unfold rowsOf
      rw [List.length_map, List.countP_true]
    rw [filt_split, filt_split, List.range_succ, List.countP_append, ← hlen]
    refine cs_step ih (by rw [← Nat.pow_two]; exact h2) _ ?_
    rw [List.countP_cons, List.countP_nil, Nat.zero_add]
    cases c : rowsOf t m with
    | nil => rfl
    | cons a r => rfl
theorem khr (t : Tr) (ht : t.ok) (hN : t.size = 11) : ((pairsOf t.ev).countP fun x => dd x == 1) * ((pairsOf t.ev).countP fun x => dd x == 1) ≤ ((List.range 11).countP fun p => !(rowsOf t p).isEmpty) * (pairsOf t.ev).length := by
  have h := khr_m t ht 11
  have e : ∀ g : Nat × Nat → Bool, (pairsOf t.ev).countP (fun x => decide (pl t x < 11) && g x) = (pairsOf t.ev).countP g := fun g => by
    refine List.countP_congr fun x hx => ?_
    obtain ⟨_, _, a, b⟩ := pairs_mem hx
    have := (leafPair t ht a b).1
    rw [hN] at this
    have : decide (pl t x < 11) = true := by rw [decide_eq_true_eq]; exact this
    rw [this]; simp
  rw [e, e, List.countP_true] at h
  exact h
/-- neighbours -/
def nearN (f : Nat → Bool) : Nat := ((List.range 8).map fun w => (List.range 3).countP fun k => f w && !f (w ^^^ 2 ^ k)).sum
theorem near_dec : ∀ k, k < 256 → nearN k.testBit = (pairsOf k.testBit).countP fun x => d3 x.1 x.2 == 1 := by decide +kernel
theorem near_eq (f : Nat → Bool) : nearN f = (pairsOf f).countP fun x => dd x == 1 := by
  obtain ⟨k, hk, h⟩ := bitsEx f
  have e1 : nearN f = nearN k.testBit := by
    unfold nearN
    congr 1
    refine List.map_congr_left fun w hw => List.countP_congr fun j hj => ?_
    have x8 : ∀ w, w < 8 → ∀ j, j < 3 → w ^^^ 2 ^ j < 8 := by decide
    rw [h w (List.mem_range.mp hw), h _ (x8 w (List.mem_range.mp hw) j (List.mem_range.mp hj))]
  have e2 : pairsOf f = pairsOf k.testBit := by
    unfold pairsOf ys
    rw [List.filter_congr fun w hw => h w (List.mem_range.mp hw)]
    congr 1
    exact List.filter_congr fun w hw => by rw [h w (List.mem_range.mp hw)]
  rw [e1, e2, near_dec k hk]
  refine List.countP_congr fun x hx => ?_
  obtain ⟨a, b, _⟩ := pairs_mem hx
  rw [show dd x = d3 x.1 x.2 from dd3 x.1 a x.2 b]

theorem pick4 {kd : Nat} (h : kd < 4) (f g : Int) (t0 t1 t2 t3 : Tok) : ∃ t, ([.int (Builtin.bitAnd f g) t0, .int (Builtin.bitOr f g) t1, .int (Builtin.bitOr (Builtin.bitXor 255 f) g) t2, .int (Builtin.bitOr f (Builtin.bitXor 255 g)) t3] : List Value).toArray[kd]? = some (.int (kindM kd f g) t) := by
  obtain rfl | rfl | rfl | rfl : kd = 0 ∨ kd = 1 ∨ kd = 2 ∨ kd = 3 := by omega
  · exact ⟨_, rfl⟩
  · exact ⟨_, rfl⟩
  · exact ⟨_, rfl⟩
  · exact ⟨_, rfl⟩
theorem pickS {kd : Nat} (h : kd < 4) (t0 t1 t2 t3 : Tok) : ∃ t, ([.str "&" t0, .str "|" t1, .str "<=" t2, .str ">=" t3] : List Value).toArray[kd]? = some (.str ⟨(tx (kindY kd)).toArray⟩ t) := by
  obtain rfl | rfl | rfl | rfl : kd = 0 ∨ kd = 1 ∨ kd = 2 ∨ kd = 3 := by omega
  · exact ⟨_, rfl⟩
  · exact ⟨_, rfl⟩
  · exact ⟨_, rfl⟩
  · exact ⟨_, rfl⟩
section
variable {w : World} {prog : Program} {A : Around} {M : Model} {E : Value → Shared → Prop} {s : Shared} {env : Env} {Γ : Fd} {m : Str → Option Value} {σ : Led}
theorem StI.tl {p : Addr × Obj} (H : (StI Γ m (p :: σ)).p s) : (StI Γ m σ).p s := St.tl H
theorem it_lstE {value slice : Expr} {l : Addr} {items : Array Value} {k : Nat} {u : Tok} {f : Tok → Value} {Q : Value → Shared → Prop} (hl : s.heap.IsList l items)
    (hk : k ≤ 1000) (hx : ∃ t, items[k]? = some (f t)) (h : ∀ t, Q (f t) s) (hs : ∀ a b p, slice ≠ .Slice a b none p := by intro _ _ _ e; cases e) :
    wpAny (model prog w) A (subscriptTail value slice (.ref l) (.int (k : Int) u)) Q E s := by
  obtain ⟨t, hx⟩ := hx
  exact it_lst hl (by omega) (by omega) (by rw [Int.toNat_natCast]; exact hx) (h t) hs
theorem e_slc {lo hi : Option Expr} {p : Pos} {Q : Value → Shared → Prop}
    (h : wpAny M A (evalPart lo env) (fun l s₂ => wpAny M A (evalPart hi env) (fun u s₃ => ∃ Γ m σ a b t t', l = .int a t ∧ u = .int b t' ∧ (StI Γ m σ).p s₃ ∧ ∀ p s', (StI Γ m ((p, slc a b t t') :: σ)).p s' → Q (.ref p) s') E s₂) E s) :
    wpAny M A (eval (.Slice lo hi none p) env) Q E s :=
  wpAny_Slice (wpAny_mono h (fun l s₂ q => wpAny_mono q (fun u s₃ ⟨Γ, m, σ, a, b, t, t', e1, e2, H, k⟩ => evalPart_none_step (by subst e1; subst e2; exact k _ _ (St.new (t := s₃.toks) H rfl))) fun _ _ z => z) fun _ _ z => z)
end
def RowOk (ρ : Led) (items : Array Value) (L : List Ent) : Prop := items.size = L.length ∧ ∀ (i : Nat) (e : Ent), L[i]? = some e → ∃ (tp : Addr) (t u : Tok), items[i]? = some (.ref tp) ∧ (tp, tup #[.str ⟨(txt e.1).toArray⟩ t, .int e.2 u]) ∈ ρ
theorem RowOk.splice {ρ : Led} {items : Array Value} {L : List Ent} {a : Nat} {tp : Addr} {e : Ent} {t u : Tok} (h : RowOk ρ items L) (ha : a + 2 ≤ L.length) (hm : (tp, tup #[.str ⟨(txt e.1).toArray⟩ t, .int e.2 u]) ∈ ρ) :
    RowOk ρ (items.extract 0 a ++ #[.ref tp] ++ items.extract (a + 2) items.size) (L.take a ++ [e] ++ L.drop (a + 2)) := by
  obtain ⟨h1, h2⟩ := h
  refine ⟨by simp only [Array.size_append, Array.size_extract, List.length_append, List.length_take, List.length_drop, List.length_singleton, h1]; show min a _ - 0 + 1 + _ = _; omega, fun i e' he => ?_⟩
  have hT : (items.extract 0 a ++ #[.ref tp] ++ items.extract (a + 2) items.size)[i]? = (items.toList.take a ++ [Value.ref tp] ++ items.toList.drop (a + 2))[i]? := by
    rw [← Array.getElem?_toList]
    congr 1
    simp only [Array.toList_append, Array.toList_extract, List.extract_eq_take_drop, Nat.sub_zero, List.drop_zero]
    rw [List.take_of_length_le (l := List.drop (a + 2) items.toList) (by simp)]
  rw [hT]
  have hl : items.toList.length = L.length := by rw [Array.length_toList]; exact h1
  by_cases q : i < a
  · rw [List.append_assoc, List.getElem?_append_left (by rw [List.length_take]; omega), List.getElem?_take_of_lt q] at he
    rw [List.append_assoc, List.getElem?_append_left (by rw [List.length_take]; omega), List.getElem?_take_of_lt q, Array.getElem?_toList]
    exact h2 i e' he
  · by_cases q2 : i = a
    · subst q2
      have e1 : (L.take i ++ [e] ++ L.drop (i + 2))[i]? = some e := by
        rw [List.append_assoc, List.getElem?_append_right (by rw [List.length_take]; omega), List.length_take, show i - min i L.length = 0 by omega]; rfl
      rw [e1] at he
      cases he
      refine ⟨tp, t, u, ?_, hm⟩
      rw [List.append_assoc, List.getElem?_append_right (by rw [List.length_take]; omega), List.length_take, show i - min i items.toList.length = 0 by omega]; rfl
    · rw [List.getElem?_append_right (by rw [List.length_append, List.length_take, List.length_singleton]; omega), List.length_append, List.length_take, List.length_singleton, List.getElem?_drop] at he
      rw [List.getElem?_append_right (by rw [List.length_append, List.length_take, List.length_singleton]; omega), List.length_append, List.length_take, List.length_singleton, List.getElem?_drop, Array.getElem?_toList]
      rw [show a + 2 + (i - (min a items.toList.length + 1)) = a + 2 + (i - (min a L.length + 1)) by rw [hl]]
      exact h2 _ e' he
theorem txt_len : ∀ l : List Nat, (∀ y ∈ l, y ∈ syms) → (txt l).length ≤ 2 * l.length := fun l => by
  induction l with
  | nil => intro _; simp [txt]
  | cons y r ih =>
    intro h
    have := ih fun y hy => h y (.tail _ hy)
    have h2 := (pieceOk (h y (.head _)) (nx := none) (by simp [firsts])).l2
    unfold txt at this ⊢
    rw [List.flatMap_cons, List.length_append, List.length_cons]
    omega
theorem rowLen {ns : List Int} (h : ns.length = 6) {j : Nat} (hj : j ≤ 5) {e : Ent} (he : e ∈ rowS ns j) : (txt e.1).length ≤ 1000 := by
  obtain ⟨g, z⟩ := rowGood h j hj
  obtain ⟨t, t1, t2, _⟩ := g e he
  have h1 := txt_len e.1 (by rw [t2]; exact t.code_syms t1)
  have h2 : e.1.length + 1 ≤ szE (rowS ns j) := by
    obtain ⟨a, b, e'⟩ := List.append_of_mem he
    rw [e', szE_app]
    have : szE (e :: b) = (e.1.length + 1) + szE b := by simp [szE]
    rw [this]; omega
  omega
theorem kindLen : ∀ kd, kd < 4 → (tx (kindY kd)).length ≤ 2 := by decide +kernel
theorem txt_join (y : Nat) (a b : List Nat) : ((⟨(tx y).toArray⟩ : Str) ++ ⟨(txt a).toArray⟩ ++ ⟨(txt b).toArray⟩ : Str) = ⟨(txt (y :: (a ++ b))).toArray⟩ := by
  show (⟨(tx y).toArray ++ (txt a).toArray ++ (txt b).toArray⟩ : Str) = _
  congr 1
  apply Array.ext'
  simp [txt]

theorem ltrItem : ∀ r, r < 6 → Txt.item ("abcABC" : Str) ((r : Nat) : Int) = ⟨(txt [256 + ltrOf r]).toArray⟩ := by decide +kernel
theorem fmod_nat (a b : Nat) : ((a : Int)).fmod (b : Int) = ((a % b : Nat) : Int) := by
  rw [Int.fmod_eq_emod_of_nonneg _ (by omega)]; rfl
theorem fdiv_nat (a b : Nat) : ((a : Int)).fdiv (b : Int) = ((a / b : Nat) : Int) := by
  rw [Int.fdiv_eq_ediv_of_nonneg _ (by omega)]; rfl
theorem leafT : ∀ r, r < 6 → ∀ j, j < 8 → (Builtin.bitAnd (((j : Nat) : Int).fdiv (2 ^ (((r % 3 : Nat) : Int)).toNat)) 1 == ((r : Nat) : Int).fdiv 3) = leafB r j := by decide +kernel
theorem intsAre_of : ∀ {L : List Int} {vs : List Value}, Paired (fun (n : Int) v => ∃ t, v = Value.int n t) L vs → IntsAre vs L
  | _, _, .nil => .nil
  | _, _, .cons ⟨t, e⟩ r => by subst e; exact .cons _ _ (intsAre_of r)
def leafL (r : Nat) : List Int := ((List.range 8).filter (leafB r)).map fun (i : Nat) => (2 : Int) ^ i
theorem leafS : ∀ r, r < 6 → preSum (fun i => (leafL r).getD i 0) (leafL r).length = leafM r := by decide +kernel
theorem RowOk.push {ρ : Led} {items : Array Value} {L : List Ent} {tp : Addr} {e : Ent} {t u : Tok} (h : RowOk ρ items L) (hm : (tp, tup #[.str ⟨(txt e.1).toArray⟩ t, .int e.2 u]) ∈ ρ) : RowOk ρ (items.push (.ref tp)) (L ++ [e]) := by
  refine ⟨by simp [h.1], fun i e' he => ?_⟩
  by_cases q : i < L.length
  · rw [List.getElem?_append_left q] at he
    obtain ⟨tp', t', u', a, b⟩ := h.2 i e' he
    exact ⟨tp', t', u', by rw [Array.getElem?_push_lt (by rw [h.1]; exact q)]; rw [Array.getElem?_eq_getElem (by rw [h.1]; exact q)] at a; exact a, b⟩
  · rw [List.getElem?_append_right (Nat.le_of_not_lt q)] at he
    have hi : i = L.length := by
      have : i - L.length < 1 := by
        by_cases z : i - L.length < 1
        · exact z
        · rw [List.getElem?_eq_none (by simp; omega)] at he; cases he
      omega
    subst hi
    simp at he
    subst he
    exact ⟨tp, t, u, by rw [← h.1]; simp, hm⟩
theorem RowOk.mono {ρ ρ' : Led} {items : Array Value} {L : List Ent} (h : RowOk ρ items L) (k : ∀ p ∈ ρ, p ∈ ρ') : RowOk ρ' items L := ⟨h.1, fun i e he => let ⟨tp, t, u, a, b⟩ := h.2 i e he; ⟨tp, t, u, a, k _ b⟩⟩
theorem f1 {a j : Nat} (hj : j < 5) (ha : a < 5 - j) : a < 6 - j ∧ a + 1 < 6 - j ∧ a + 2 ≤ 6 - j ∧ (a : Int) < 2 ^ 63 ∧ ((a + 1 : Nat) : Int) < 2 ^ 63 := by omega
theorem f2 {j : Nat} (hj : j < 5) : (5 : Int) - (j : Int) = ((5 - j : Nat) : Int) ∧ ((5 - j : Nat) : Int) ≠ 0 ∧ (((5 - j : Nat) : Int)).natAbs < 1073741824 ∧ 0 < 5 - j ∧ 6 - j + 1 ≤ 1000 := by omega
theorem f3 {N : Nat} : N % 6 % 3 = N % 3 := Nat.mod_mod_of_dvd _ (by decide)
theorem f4 (x : Str) {n : Nat} : -(x.length : Int) ≤ (n : Int) := by omega
theorem f5 {n : Nat} : (0 : Int) ≤ (n : Int) := Int.natCast_nonneg n
theorem f6 {a b c : Nat} (h1 : a ≤ 1000) (h2 : b ≤ 1000) (h3 : c ≤ 2) : c + a ≤ 1000000 ∧ c + a + b ≤ 1000000 := by omega
theorem f7 {z : Int} (h : 0 ≤ z) : ∃ N : Nat, z = N := ⟨z.toNat, by omega⟩
theorem f8 {n : Nat} (h : n < 1000) : (n : Int) < 2 ^ 63 := Int.lt_trans (Int.ofNat_lt.mpr h) (by decide)
theorem f9 {a n : Nat} (h : a + 2 ≤ n) : (a : Int) + 2 ≤ (n : Int) := by omega
theorem f10 {a : Nat} : (a : Int) ≤ (a : Int) + 2 := by omega
theorem f12 {k : Nat} : (0 + (k : Int) * 1) = k := by omega
theorem f11 {n : Nat} (h : n < 8) : (n : Int) ≤ 1000000 := by omega
theorem spec_formula {w : World} {A : Around} {s : Shared} {R : Result → Shared → Prop} {ln : Addr} {nits : Array Value} {nc : Nat} {ns : List Int} (W : Wd w s.heap) (hA : AOk 2 A) (hln : s.heap.get? ln = some (lst nits nc)) (hns : IntsAre nits.toList ns) (hlen : ns.length = 6) (hpos : ∀ n ∈ ns, 0 ≤ n)
  (k : Rets s R fun v s' => ∃ tp ta tb, v = .ref tp ∧ s'.heap.get? tp = some (tup #[.str ⟨(txt ((rowS ns 5).getD 0 ([], 0)).1).toArray⟩ ta, .int ((rowS ns 5).getD 0 ([], 0)).2 tb]) ∧ s.heap.get? tp = none) :
  codeAny (model PP w) A (.call (.ref 222) ⟨[.ref ln], []⟩) R s := by
  have hA1 : ∀ env, AOk 1 (A.deeper env) := fun env => AOk.deep hA
  have hnl : s.heap.IsList ln nits := ⟨_, hln, rfl, _, rfl⟩
  have hnsz : nits.size = 6 := by have := ints_len hns; simp at this; exact this.trans hlen
  refine enterK (binds := [("numbers", .ref ln)]) W hA.room (by rfl) (by rfl) (by rfl) (BindsTo.of_eq rfl) (fun s H => ?_)
  refine gen fun Kf hKf => ?_
  repeat walk_at "g11"
  rename Inv.p _ _ => H
  obtain ⟨J, hJ⟩ : ∃ J : Nat → (Str → Option Value) → Led → Prop, J = (fun i m σ => ∃ lr items c ρ, σ = (lr, lst items c) :: ρ ∧ m "row" = some (.ref lr) ∧ m "numbers" = some (.ref ln) ∧ RowOk ρ items ((ns.take i).map leafE)) := ⟨_, rfl⟩
  refine it_list (items := nits) J (hA1 _).hh H
    (by rw [hJ]; exact ⟨_, #[], 0, [], rfl, by walk_at "lk", by walk_at "lk", rfl, fun i e h => by simp at h⟩) (fun i m σ s _ H => keepL hnl (St.keep H)) ?_ ?_ ?_
  · intro m σ s v Q E H hq
    exact s_cel H hq
  · clear H
    intro i v m σ I io s hv h H
    refine gen fun K hK => ?_
    rw [hJ] at h
    obtain ⟨lr, items, c, ρ, rfl, m1, m2, hR⟩ := h
    obtain ⟨tn, rfl⟩ := ints_get hns i v (by rw [Array.getElem?_toList]; exact hv)
    repeat walk_at "g11"
    have hi : i < 6 := by rw [← hnsz]; exact (Array.getElem?_eq_some_iff.mp hv).1
    have hn0 : 0 ≤ ns.getD i 0 := by
      rw [List.getD_eq_getElem?_getD, List.getElem?_eq_getElem (hlen ▸ hi)]
      exact hpos _ (List.getElem_mem _)
    have htk : ((ns.take (i + 1)).map leafE) = (ns.take i).map leafE ++ [leafE (ns.getD i 0)] := by
      rw [List.take_add_one, List.getElem?_eq_getElem (hlen ▸ hi), List.getD_eq_getElem?_getD, List.getElem?_eq_getElem (hlen ▸ hi), List.map_append]
      rfl
    rename Inv.p _ _ => H
    obtain ⟨N, hN⟩ := f7 hn0
    rw [hN] at H htk
    refine m_append (St.led H _ (.tail _ (.head _))) ?_
    repeat walk_at "g11"
    refine i_mod (by assumption) (by decide) (fun t s H => ?_)
    repeat walk_at "g11"
    rw [show ((N : Int)).fmod 6 = ((N % 6 : Nat) : Int) from fmod_nat N 6]
    have hr : N % 6 < 6 := Nat.mod_lt _ (by decide)
    refine it_str (by assumption) (f4 _) (Int.ofNat_lt.mpr hr) (by decide) (fun t s H => ?_)
    rw [ltrItem _ hr]
    repeat walk_at "g11"
    rename Inv.p _ _ => H
    refine ct_range (n := 8) H (.head _) (by decide) (by decide) (hA1 _).hh (by decide) (by rfl) (fun ν i o => i < 8 ∧ ((leafB (N % 6) i = true ∧ ∃ y, o = some y ∧ ∃ t, y = .int (2 ^ i) t) ∨ (leafB (N % 6) i = false ∧ o = none)))
      (fun _ _ _ _ _ h => h) ?_ (post_plain fun D ys c' ν s' H' hL => ?_)
    · rintro C j v mm σc s hj ⟨tv, rfl⟩ hmm Hc
      have mn : mm "n" = some (.int (N : Int) tn) := (hmm "n" (by rfl)).trans (by walk_at "lk")
      clear H
      rw [f12] at Hc ⊢
      refine gen fun Kc hKc => ?_
      repeat walk_at "g11"
      refine i_mod (by assumption) (by decide) (fun t s H => ?_)
      rw [show ((N : Int)).fmod 3 = ((N % 6 % 3 : Nat) : Int) by rw [f3]; exact fmod_nat N 3]
      repeat walk_at "g11"
      refine i_shr (by assumption) f5 (fun t s H => ?_)
      repeat walk_at "g11"
      refine i_mod (by assumption) (by decide) (fun t s H => ?_)
      rw [show ((N : Int)).fmod 6 = ((N % 6 : Nat) : Int) from fmod_nat N 6]
      repeat walk_at "g11"
      refine i_fdiv (by assumption) (by decide) (PyProof.noPylong_small (by decide)) (fun t s H => ?_)
      repeat walk_at "g11"
      rw [leafT _ hr j hj]
      subst hKc
      refine ⟨fun hc => ?_, fun hc => ?_⟩
      · repeat walk_at "g11"
        refine i_shl (by assumption) f5 (f11 hj) (by decide) (fun t s H => ?_)
        exact ⟨[], H, hj, .inl ⟨hc, _, rfl, t, by simp⟩⟩
      · exact ⟨[], by assumption, hj, .inr ⟨hc, rfl⟩⟩
    have hints : IntsAre ys.toList (leafL (N % 6)) := intsAre_of (paired_map (f := fun (i : Nat) => (2 : Int) ^ i) (hL.paired (p := leafB (N % 6)) (xs := List.range 8) (G := fun (i : Nat) v => ∃ t, v = Value.int ((2 : Int) ^ i) t) (by simp) fun j o ⟨h8, h⟩ => ⟨j, by rw [List.getElem?_range h8], h⟩))
    have hys : ys.size = (leafL (N % 6)).length := by have := ints_len hints; simpa using this
    clear H hL
    repeat walk_at "g11"
    rename Inv.p _ _ => H
    refine o_sum (hA1 _).hh H (St.isList H (.head _) LObj.lst) hints (fun t' s H => ?_)
    rw [hys, leafS _ hr]
    repeat walk_at "g11"
    rename_i T0 sT HT
    have HT := St.drop HT (σ' := (T0, tup #[.str ⟨(txt [256 + ltrOf (N % 6)]).toArray⟩ t, .int (leafM (N % 6)) t']) :: (I, io) :: (lr, lst items c) :: ρ) (.cons_cons _ (.cons _ (((List.Sublist.refl _).cons _).trans (List.sublist_append_right _ _))))
    refine o_appendS (pre := [(T0, _), (I, io)]) HT (by rw [hR.1]; exact Nat.le_trans (show _ ≤ 6 by rw [List.length_map, List.length_take]; exact Nat.le_trans (Nat.min_le_right _ _) (Nat.le_of_eq hlen)) (by decide)) (fun s H => ⟨fun a h => (nomatch h), ?_⟩)
    repeat walk_at "g11"
    rename Inv.p _ _ => H
    subst hK
    refine tq_next ⟨_, _, St.perm H ((List.perm_middle (l₁ := [(I, io), (lr, _)]) (a := (T0, _)) (l₂ := ρ))), ?_⟩
    rw [hJ]
    refine ⟨lr, items.push (.ref T0), c + 1, (T0, _) :: ρ, rfl, by walk_at "lk", by walk_at "lk", ?_⟩
    rw [htk]
    have eN : leafE (N : Int) = ([256 + ltrOf (N % 6)], leafM (N % 6)) := rfl
    rw [eN]
    exact RowOk.push (e := ([256 + ltrOf (N % 6)], leafM (N % 6))) (hR.mono fun p hp => .tail _ hp) (.head _)
  · clear H
    intro m σ s h H
    rw [hJ] at h
    obtain ⟨lr, items, c, ρ, rfl, m1, m2, hR⟩ := h
    clear hJ
    clear J
    rw [hnsz, List.take_of_length_le (Nat.le_of_eq hlen)] at hR
    refine lr_next ?_
    repeat walk_at "g11"
    rename Inv.p _ _ => H
    obtain ⟨J, hJ⟩ : ∃ J : Nat → (Str → Option Value) → Led → Prop, J = (fun j m σ => ∃ items c ρ, σ = (lr, lst items c) :: ρ ∧ m "row" = some (.ref lr) ∧ m "numbers" = some (.ref ln) ∧ RowOk ρ items (rowS ns j)) := ⟨_, rfl⟩
    refine it_range (n := 5) J (hA1 _).hh H (by decide) (by decide)
      (by rw [hJ]; exact ⟨items, c, ρ, rfl, by walk_at "lk", by walk_at "lk", hR⟩) ?_ ?_ ?_
    · intro m σ s v Q E H hq
      exact s_loc H hq
    · clear H m1 m2 hR
      intro j t m σ I io s hj h H
      refine gen fun K hK => ?_
      rw [hJ] at h
      obtain ⟨items, c, ρ, rfl, m1, m2, hR⟩ := h
      rw [f12] at H
      obtain ⟨h5, h50, h5s, h5p, h5k⟩ := f2 hj
      have hj6 : j < 6 := Nat.lt_succ_of_lt hj
      have hjn : j < nits.size := hnsz ▸ hj6
      have hjs : j < ns.length := hlen ▸ hj6
      have hj5 : j ≤ 5 := Nat.le_of_lt hj
      have hL := rowS_len hlen j hj5
      obtain ⟨vj, hvj⟩ : ∃ v, nits[j]? = some v := ⟨nits[j]'hjn, Array.getElem?_eq_getElem hjn⟩
      obtain ⟨tn, rfl⟩ := ints_get hns j vj (by rw [Array.getElem?_toList]; exact hvj)
      have hn0 : 0 ≤ ns.getD j 0 := by
        rw [List.getD_eq_getElem?_getD, List.getElem?_eq_getElem hjs]
        exact hpos _ (List.getElem_mem _)
      have hsu := rowS_succ ns j
      obtain ⟨N, hN⟩ := f7 hn0
      rw [hN] at hvj hsu
      rw [Int.toNat_natCast] at hsu
      repeat walk_at "g11"
      rename Inv.p _ _ => H
      refine it_lst (keepL hnl (St.keep H)) f5 (f8 (Nat.lt_trans hj6 (by decide))) hvj ?_
      repeat walk_at "g11"
      refine i_fdiv (by assumption) (by decide) (PyProof.noPylong_small (by decide)) (fun t s H => ?_)
      rw [show ((N : Int)).fdiv 6 = ((N / 6 : Nat) : Int) from fdiv_nat N 6]
      repeat walk_at "g11"
      rw [h5]
      refine i_mod (by assumption) h50 (fun t s H => ?_)
      rw [fmod_nat]
      repeat walk_at "g11"
      rw [h5]
      refine i_fdiv (by assumption) h50 (PyProof.noPylong_small h5s) (fun t s H => ?_)
      rw [fdiv_nat]
      repeat walk_at "g11"
      refine i_mod (by assumption) (by decide) (fun t s H => ?_)
      rw [show (((N / 6 / (5 - j) : Nat) : Int)).fmod 4 = ((N / 6 / (5 - j) % 4 : Nat) : Int) from fmod_nat _ 4]
      repeat walk_at "g11"
      have hat : N / 6 % (5 - j) < 5 - j := Nat.mod_lt _ h5p
      obtain ⟨fa1, fa2, fa3, fa4, fa5⟩ := f1 hj hat
      have hkd : N / 6 / (5 - j) % 4 < 4 := Nat.mod_lt _ (by decide)
      rename Inv.p _ _ => H
      have hRs : items.size = 6 - j := by rw [hR.1, hL]
      have hget : ∀ i, i < 6 - j → ∃ (tp : Addr) (t u : Tok), items[i]? = some (.ref tp) ∧ (tp, tup #[.str ⟨(txt ((rowS ns j).getD i ([], 0)).1).toArray⟩ t, .int ((rowS ns j).getD i ([], 0)).2 u]) ∈ ρ := fun i hi => by
        obtain ⟨tp, t, u, a, b⟩ := hR.2 i _ (List.getElem?_eq_getElem (hL.symm ▸ hi))
        refine ⟨tp, t, u, a, ?_⟩
        rw [List.getD_eq_getElem?_getD, List.getElem?_eq_getElem (hL.symm ▸ hi)]
        exact b
      obtain ⟨tp1, ta1, tb1, ga1, gb1⟩ := hget (N / 6 % (5 - j)) fa1
      obtain ⟨tp2, ta2, tb2, ga2, gb2⟩ := hget (N / 6 % (5 - j) + 1) fa2
      have len1 : (txt ((rowS ns j).getD (N / 6 % (5 - j)) ([], 0)).1).length ≤ 1000 := rowLen (j := j) hlen hj5 (by rw [List.getD_eq_getElem?_getD, List.getElem?_eq_getElem (hL.symm ▸ fa1)]; exact List.getElem_mem _)
      have len2 : (txt ((rowS ns j).getD (N / 6 % (5 - j) + 1) ([], 0)).1).length ≤ 1000 := rowLen (j := j) hlen hj5 (by rw [List.getD_eq_getElem?_getD, List.getElem?_eq_getElem (hL.symm ▸ fa2)]; exact List.getElem_mem _)
      unfold stepE at hsu
      dsimp only at hsu
      generalize (rowS ns j).getD (N / 6 % (5 - j)) ([], 0) = e1 at gb1 hsu len1
      generalize (rowS ns j).getD (N / 6 % (5 - j) + 1) ([], 0) = e2 at gb2 hsu len2
      generalize N / 6 % (5 - j) = a at hat fa1 fa2 fa3 fa4 fa5 ga1 ga2 hsu H ⊢
      generalize N / 6 / (5 - j) % 4 = kd at hkd hsu H ⊢
      have hli := St.isList H (.tail _ (.head _)) LObj.lst
      refine it_lst hli f5 fa4 (by rw [Int.toNat_natCast]; exact ga1) ?_
      refine a_pairK (hA1 _).hh H (St.led H _ (.tail _ (.tail _ gb1))) (fun s H => ?_)
      repeat walk_at "g11"
      rename Inv.p _ _ => H
      rw [show ((a : Int) + 1) = ((a + 1 : Nat) : Int) by push_cast; rfl]
      refine it_lst (St.isList H (.tail _ (.head _)) LObj.lst) f5 fa5 (by rw [Int.toNat_natCast]; exact ga2) ?_
      refine a_pairK (hA1 _).hh H (St.led H _ (.tail _ (.tail _ gb2))) (fun s H => ?_)
      clear hli
      repeat walk_at "g11"
      rename Inv.p _ _ => H
      refine it_lstE (f := fun t => .int (kindM kd e1.2 e2.2) t) (St.isList H (.head _) LObj.lst) (Nat.le_of_lt (Nat.lt_trans hkd (by decide))) (pick4 hkd _ _ _ _ _ _) (fun tm => ?_)
      replace H := StI.tl H
      repeat walk_at "g11"
      rename Inv.p _ _ => H
      refine it_lstE (f := fun t => .str ⟨(tx (kindY kd)).toArray⟩ t) (St.isList H (.head _) LObj.lst) (Nat.le_of_lt (Nat.lt_trans hkd (by decide))) (pickS hkd _ _ _ _) (fun ts => ?_)
      replace H := StI.tl H
      repeat walk_at "g11"
      rename Inv.p _ _ => H
      have lenK := kindLen kd hkd
      have sl : ∀ l : List Nat, (⟨l.toArray⟩ : Str).length = l.length := fun l => by simp [Str.length]
      refine o_add_str (by assumption) (by rw [sl, sl]; exact (f6 len1 len2 lenK).1) (fun t s H => ?_)
      repeat walk_at "g11"
      refine o_add_str (by assumption) (by rw [show ((⟨(tx (kindY kd)).toArray⟩ : Str) ++ ⟨(txt e1.1).toArray⟩ : Str).length = (tx (kindY kd)).length + (txt e1.1).length by show (_ ++ _ : Array Nat).size = _; simp, sl]; exact (f6 len1 len2 lenK).2) (fun t s H => ?_)
      rw [txt_join]
      repeat walk_at "g11"
      rename Inv.p _ _ => H
      refine e_slc ?_
      repeat walk_at "g11"
      rename Inv.p _ _ => H
      refine ⟨_, _, _, _, _, _, _, rfl, rfl, H, fun p s H => ?_⟩
      refine set_slice (pre := [_, _, _, (I, io)]) H (.tail _ (.head _)) (.head _) f5 f10 (by rw [hRs]; exact f9 fa3) (by rw [hRs]; exact h5k) (fun c2 s H => ?_)
      repeat walk_at "g11"
      rename Inv.p _ _ => H
      replace H := StI.tl (StI.tl H)
      subst hK
      refine tq_next ⟨_, _, St.perm H (List.perm_middle (l₁ := [(I, io), (lr, _)]) (a := _) (l₂ := ρ)), ?_⟩
      rw [hJ]
      refine ⟨_, _, _, rfl, by walk_at "lk", by walk_at "lk", ?_⟩
      rw [hsu]
      exact RowOk.splice (e := joinE kd e1 e2) (hR.mono fun p hp => .tail _ hp) (by rw [hL, Int.toNat_natCast]; exact fa3) (.head _)
    · clear H m1 m2 hR
      intro m σ s h H
      rw [hJ] at h
      obtain ⟨items, c, ρ, rfl, m1, m2, hR⟩ := h
      refine lr_next ?_
      have hL := rowS_len hlen 5 (Nat.le_refl _)
      obtain ⟨e, he⟩ := List.length_eq_one_iff.mp hL
      rw [he] at hR
      obtain ⟨tp, ta, tb, g1, g2⟩ := hR.2 0 e rfl
      repeat walk_at "g11"
      rename Inv.p _ _ => H
      refine it_lst (St.isList H (.head _) LObj.lst) (by decide) (by decide) g1 ?_
      subst hKf
      exact St.back k H ⟨tp, ta, tb, rfl, by rw [he]; exact St.led H _ (.tail _ g2), St.ledB H _ (.tail _ g2)⟩

section
variable {w : World} {prog : Program} {A : Around} {M : Model} {E : Value → Shared → Prop} {Γ : Fd} {m : Str → Option Value} {σ σ' : Led} {b s : Shared}
/-- several objects of the ledger are changed -/
theorem St.re {h : Heap} {t : Nat} (H : (StI Γ m σ).p s) (hσ : σ'.map (·.1) = σ.map (·.1)) (kp : ∀ b o, (∀ p ∈ σ, p.1 ≠ b) → s.heap.get? b = some o → h.get? b = some o) (led : ∀ p ∈ σ', h.get? p.1 = some p.2) :
    (StI Γ m σ').p { s with heap := h, toks := t } := by
  have H : St Γ m σ s := H
  have mem : ∀ p ∈ σ', ∃ q ∈ σ, q.1 = p.1 := fun p hp => by
    have : p.1 ∈ σ'.map (·.1) := List.mem_map_of_mem hp
    rw [hσ] at this
    obtain ⟨q, hq, e⟩ := List.mem_map.mp this
    exact ⟨q, hq, e⟩
  refine { same := by rw [H.same], wd := H.wd, keep := fun a o e => kp a o (fun p hp z => ?_) (H.keep a o e), loc := ?_, cel := ?_, apart := H.apart, cL := H.cL, kc := H.kc, cB := H.cB, low := H.low, led := led, ledL := ?_, ledB := ?_, nd := by rw [hσ]; exact H.nd }
  · have := H.ledB p hp
    rw [z, e] at this; cases this
  · obtain ⟨ml, x, y⟩ := H.loc
    exact ⟨ml, x.at' fun o e => kp _ o (fun p hp => (H.ledL p hp).1) e, y⟩
  · intro x c hc
    obtain ⟨o, e, d⟩ := H.cel x c hc
    exact ⟨o, kp _ o (fun p hp => (H.ledL p hp).2 x c hc) e, d⟩
  · intro p hp
    obtain ⟨q, hq, e⟩ := mem p hp
    rw [← e]; exact H.ledL q hq
  · intro p hp
    obtain ⟨q, hq, e⟩ := mem p hp
    rw [← e]; exact H.ledB q hq
@[reducible] def enO (it : Addr) (i : Int) (old : Value) : Obj := { cls := .type "enumerate", dict := none, data := .fields #[.none, .bool false, .ref it, rawInt i, .none, old], slots := #[] }
theorem comp_loopE {e it l : Addr} {items : Array Value} {ito : Obj} {y : Str} {py tpos : Pos} {s₂ : Shared} {elt iter : Expr} {kk : Nat} {x : Str} {px pos : Pos} {ifs : List Expr} {sc : Scope} {RR : Value → Addr → Result → Shared → Prop}
    (H : (StI Γ m σ).p b) (es : s₂ = { b with heap := s₂.heap, toks := s₂.toks }) (ks : b.heap.StaysIn s₂.heap) (hz : b.heap.objs.size ≤ s₂.heap.objs.size) (hE : s₂.heap.get? e = some (enO it 0 .none)) (hI : s₂.heap.get? it = some ito) (hEb : b.heap.get? e = none) (hIb : b.heap.get? it = none) (hne : e ≠ it) (hI0 : ItL l 0 ito)
    (hh : A.handled = none) (hl : b.heap.IsList l items) (hn : items.size ≤ 1000)
    (hcell : (sc.names.all fun y => y.2 != .cell) = true) (hkind : sc.kind = .function) (hx : (relabel sc Γ.env).names.lookup x = some .local) (hy : (relabel sc Γ.env).names.lookup y = some .local)
    (hfree : (sc.names.all fun y => y.2 != .free || ((Γ.cs.lookup y.1).isSome && (relabel sc Γ.env).names.lookup y.1 == some .cell && sc.names.lookup y.1 == some .free)) = true)
    (hxf : (sc.names.lookup x == some .free) = false) (hyf : (sc.names.lookup y == some .free) = false)
    (Φ : Led → Nat → Option Value → Prop) (mono : Mono Φ)
    (turn : ∀ C i t vb mm σc s, i < items.size → items[i]? = some vb → (∀ z, (sc.names.lookup z == some .free) = true → mm z = m z) → (StI (fdC Γ b sc C) (up (up mm x (.int i t)) y vb) σc).p s → wpAny (model prog Γ.w) A (Tests ifs (fdC Γ b sc C).env) (fun ok s₄ =>
      (ok = true → wpAny (model prog Γ.w) A (eval elt (fdC Γ b sc C).env) (fun r s₅ => ∃ ν, (StI (fdC Γ b sc C) (up (up mm x (.int i t)) y vb) (ν ++ σc)).p s₅ ∧ Φ ν i (some r)) (fun _ _ => False) s₄) ∧
      (ok = false → ∃ ν, (StI (fdC Γ b sc C) (up (up mm x (.int i t)) y vb) (ν ++ σc)).p s₄ ∧ Φ ν i none)) (fun _ _ => False) s)
    (post : ∀ D C oC mC ys c ν s', (StI Γ m ((C, oC) :: (D, lst ys c) :: (ν ++ σ))).p s' → (∀ h : Heap, h.get? C = some oC → h.Ns C mC) → Laid Φ ν items.size ys → RR (.ref D) C (.ok .next) s') :
    wpAny (model prog Γ.w) A (newList []) (fun acc s₃ => wpAny (model prog Γ.w) A (newFunctionEnv sc mainGlobals (clOf sc Γ.cs) [] Γ.q none .none (some Γ.env)) (fun cenv s₄ =>
      codeAny (model prog Γ.w) A (.compStart (.ListComp elt [⟨.Tuple [.Name x px, .Name y py] kk tpos, iter, ifs, 0⟩] sc pos) 0 (.ref e) acc { cenv with scope := relabel sc Γ.env }) (RR acc cenv.locals) s₄) E s₃) E s₂ := by
  refine wpAny_newList ?_
  have nb : b.heap.get? s₂.heap.objs.size = none := Heap.get?_none_of_le hz
  have hID : it ≠ s₂.heap.objs.size := Nat.ne_of_lt (Heap.lt_size hI)
  have hED : e ≠ s₂.heap.objs.size := Nat.ne_of_lt (Heap.lt_size hE)
  refine enterC (s := { s₂ with heap := s₂.heap.push { cls := .type "list", data := .seq [].toArray } }) (σc := [(e, enO it 0 .none), (it, ito), (s₂.heap.objs.size, lst #[] 0)]) H (by rw [es]) (sTrans ks (sPush _ _)) (by rw [Heap.size_push]; exact Nat.le_succ_of_le hz) ?_ (by simp [hID, hED, hne]) hcell hkind hfree (fun cenv s' he hlc H' => ?_)
  · intro p hp
    simp only [List.mem_cons, List.not_mem_nil, or_false] at hp
    rcases hp with rfl | rfl | rfl
    · exact ⟨Heap.get?_push_of_some _ hE, hEb⟩
    · exact ⟨Heap.get?_push_of_some _ hI, hIb⟩
    · exact ⟨Heap.get?_push_size _ rfl, nb⟩
  rw [he, hlc]
  dsimp only at H' ⊢
  rw [Heap.size_push] at H' ⊢
  generalize hCd : s₂.heap.objs.size + 1 = C at H' ⊢
  generalize hDd : s₂.heap.objs.size = D at H' nb hID hED ⊢
  have nC : b.heap.get? C = none := by rw [← hCd]; exact Heap.get?_none_of_le (Nat.le_succ_of_le hz)
  have loop : codeAny (model prog Γ.w) A (.compLoop (.ListComp elt [⟨.Tuple [.Name x px, .Name y py] kk tpos, iter, ifs, 0⟩] sc pos) 0 (.ref e) (.ref D) (fdC Γ b sc C).env) (RR (.ref D) C) s' := by
    refine loopT (fun k s => ∃ i m' old io ys c ν, k = items.size + 1 - i ∧ i ≤ items.size ∧ ys.size ≤ i ∧ (∀ z, (sc.names.lookup z == some .free) = true → m' z = m z) ∧ (StI (fdC Γ b sc C) m' ((e, enO it (i : Nat) old) :: (it, io) :: (D, lst ys c) :: ν)).p s ∧ ItL l i io ∧ Laid Φ ν i ys) ?_ (items.size + 1)
      ⟨0, _, .none, ito, #[], 0, [], rfl, Nat.zero_le _, Nat.le_refl _, fun _ h => mc_free h, H', hI0, .nil⟩
    rintro k s ⟨i, m', old, io, ys, c, ν, rfl, hi, hsz, hm', Hs, hit, hL⟩
    have he1 : IsEnum s.heap e it i old := St.led Hs _ (.head _)
    have hit1 : s.heap.IsListIter it l i := ⟨io, St.led Hs _ (.tail _ (.head _)), hit.1, hit.2⟩
    have hl1 : s.heap.IsList l items := keepL hl (St.keep Hs)
    by_cases hin : i < items.size
    · refine wpAny_mono (E := fun _ _ => False) (wpAny_pyNext_enum_item he1 hit1 hl1 (x := items[i]) (by simp [hin]) hne fun h' heo hit' ht hsz' hk => ?_) (fun r s₁ q => q) fun _ _ z => z.elim
      obtain ⟨io', hio', i1, i2⟩ := hit'
      have hlt : ∀ p ∈ ((e, enO it (i : Nat) old) :: (it, io) :: (D, lst ys c) :: ν : Led), p.1 < s.heap.objs.size := fun p hp => Heap.lt_size (St.led Hs p hp)
      have nd := St.nd Hs
      simp only [List.map_cons, List.nodup_cons, List.mem_cons, not_or] at nd
      have H1 := St.re (σ' := (e, { cls := .type "enumerate", dict := none, data := .fields #[rawInt s.heap.objs.size, .bool false, .ref it, rawInt ((i : Int) + 1), .none, items[i]], slots := #[] }) :: (it, io') :: (D, lst ys c) :: ν) (t := s.toks + 1) Hs rfl
        (fun a o na ea => hk a o (Ne.symm (na _ (.head _))) (Ne.symm (na _ (.tail _ (.head _)))) ea)
        (fun p hp => by
          rcases List.mem_cons.mp hp with rfl | hp
          · exact heo
          · rcases List.mem_cons.mp hp with rfl | hp
            · exact hio'
            · refine hk _ _ (fun z => ?_) (fun z => ?_) (St.led Hs p (.tail _ (.tail _ hp)))
              · have : p.1 ∈ List.map (·.1) ((D, lst ys c) :: ν) := List.mem_map_of_mem hp
                rw [z] at this
                rcases List.mem_cons.mp this with q | q
                · exact nd.1.2.1 q
                · exact nd.1.2.2 q
              · have : p.1 ∈ List.map (·.1) ((D, lst ys c) :: ν) := List.mem_map_of_mem hp
                rw [z] at this
                rcases List.mem_cons.mp this with q | q
                · exact nd.2.1.1 q
                · exact nd.2.1.2 q)
      refine wpAny_letOwnedTupleGo_enum heo fun h₂ he₂ hs₂ => ?_
      have hs₂ : Heap.SameBut e h' h₂ := hs₂
      have H2 := St.put (pre := []) (t := s.toks + 1) H1 (fun a o na ea => (hs₂.2 a na).trans ea) he₂
      have ht' : h₂.IsTuple s.heap.objs.size #[.int i s.toks, items[i]] := ⟨_, (hs₂.2 _ (Nat.ne_of_gt (hlt _ (.head _)))).trans ht, rfl, _, rfl⟩
      refine a_pair hh H2 ht' fun s₁' Hs₁' => s_loc Hs₁' (fun s₂'' H₂' => s_loc H₂' (fun s₂' H₂ => ?_) hy hkind) hx hkind
      refine wpAny_mono (turn C i s.toks items[i] m' _ s₂' hin (by simp [hin]) hm' H₂) (fun ok s₄ q => ?_) fun _ _ z => z.elim
      have hm2 : ∀ z, (sc.names.lookup z == some .free) = true → up (up m' x (.int i s.toks)) y items[i] z = m z := fun z hz => by
        rw [up_ne (fun e => by rw [e, hyf] at hz; cases hz), up_ne (fun e => by rw [e, hxf] at hz; cases hz)]; exact hm' z hz
      have pm : ∀ (ν' : Led) (p q r : Addr × Obj), (p :: q :: r :: (ν' ++ ν)).Perm (ν' ++ p :: q :: r :: ν) := fun ν' p q r =>
        ((List.perm_middle (l₁ := ν') (a := p) (l₂ := q :: r :: ν)).trans (((List.perm_middle (l₁ := ν') (a := q) (l₂ := r :: ν)).trans ((List.perm_middle (l₁ := ν') (a := r) (l₂ := ν)).cons q)).cons p)).symm
      cases ok with
      | true =>
        refine wpAny_mono (q.1 rfl) (fun r s₅ q => ?_) fun _ _ z => z.elim
        obtain ⟨ν', H₅, hΦ⟩ := q
        have H₆ := St.perm H₅ (pm ν' _ _ _)
        refine o_appendS (pre := [(e, _), (it, io')]) H₆ (Nat.le_trans (Nat.le_trans hsz (Nat.le_trans hi hn)) (by decide)) fun s₆ H₇ => ?_
        refine ⟨items.size + 1 - (i + 1), by omega, i + 1, _, items[i], io', ys.push r, c + 1, ν' ++ ν, rfl, hin, by simpa using hsz, hm2, by push_cast; exact H₇, ⟨i1, i2⟩, ?_⟩
        exact (hL.mono mono fun p hp => List.mem_append_right _ hp).snoc (o := some r) (mono _ _ _ _ (fun p hp => List.mem_append_left _ hp) hΦ)
      | false =>
        obtain ⟨ν', H₅, hΦ⟩ := q.2 rfl
        have H₆ := St.perm H₅ (pm ν' _ _ _)
        refine ⟨items.size + 1 - (i + 1), by omega, i + 1, _, items[i], io', ys, c, ν' ++ ν, rfl, hin, Nat.le_succ_of_le hsz, hm2, by push_cast; exact H₆, ⟨i1, i2⟩, ?_⟩
        exact (hL.mono mono fun p hp => List.mem_append_right _ hp).snoc (o := none) (mono _ _ _ _ (fun p hp => List.mem_append_left _ hp) hΦ)
    · have hin' : i = items.size := Nat.le_antisymm hi (Nat.le_of_not_lt hin)
      subst hin'
      refine wpAny_pyNext_enum_end hh he1 hit1 hl1 (by simp) fun h' hx' => ?_
      have Hs₁ := St.tl (St.but (St.sw Hs) hx')
      generalize hs1 : ({ s with heap := h' } : Shared) = s₁ at Hs₁ ⊢
      obtain ⟨mC, hmC, _⟩ := St.loc Hs₁
      obtain ⟨oC, es', ep', e1, hr⟩ := hmC
      have led := St.led Hs₁
      refine post D C oC mC ys c ν s₁ ?_ (fun h e => ⟨oC, es', ep', e, hr⟩) hL
      have := St.adds (t := s₁.toks) H (St.keep Hs₁) ((C, oC) :: (D, lst ys c) :: ν) (fun p hp => ?_) ?_
      · have e2 := St.same Hs₁
        rw [← e2] at this
        exact this
      · rcases List.mem_cons.mp hp with rfl | hp
        · exact ⟨e1, nC⟩
        · exact ⟨led p hp, St.ledB Hs₁ p hp⟩
      · rw [List.map_cons, List.nodup_cons]
        refine ⟨fun hm => ?_, St.nd Hs₁⟩
        obtain ⟨p, hp, e⟩ := List.mem_map.mp hm
        exact (St.ledL Hs₁ p hp).1 e
  exact codeAny_compStart_list loop (wpAny_pyIter_enum (St.led H' _ (.head _)) loop)
theorem ct_enum {l : Addr} {items : Array Value} {c : Nat} {x y : Str} {px py tpos pos : Pos} {kk : Nat} {elt iter : Expr} {ifs : List Expr} {sc : Scope} {RR : Value → Addr → Result → Shared → Prop} (H : (StI Γ m σ).p s) (hl : (l, lst items c) ∈ σ) (hh : A.handled = none) (hn : items.size ≤ 1000) (hok : ScOk Γ sc x = true) (hok2 : ScOk Γ sc y = true)
    (Φ : Led → Nat → Option Value → Prop) (mono : Mono Φ)
    (turn : ∀ C i t vb mm σc s', i < items.size → items[i]? = some vb → (∀ z, (sc.names.lookup z == some .free) = true → mm z = m z) → (StI (fdC Γ s sc C) (up (up mm x (.int i t)) y vb) σc).p s' → wpAny (model prog Γ.w) A (Tests ifs (fdC Γ s sc C).env) (fun ok s₄ =>
      (ok = true → wpAny (model prog Γ.w) A (eval elt (fdC Γ s sc C).env) (fun r s₅ => ∃ ν, (StI (fdC Γ s sc C) (up (up mm x (.int i t)) y vb) (ν ++ σc)).p s₅ ∧ Φ ν i (some r)) (fun _ _ => False) s₄) ∧
      (ok = false → ∃ ν, (StI (fdC Γ s sc C) (up (up mm x (.int i t)) y vb) (ν ++ σc)).p s₄ ∧ Φ ν i none)) (fun _ _ => False) s') (post : Post Γ m σ items.size Φ RR) :
    wpAny (model prog Γ.w) A (call (.type "enumerate") ([] ++ [.ref l])) (fun xv s₁ => wpAny (model prog Γ.w) A (pyIter xv) (CT prog Γ.w A E Γ sc (.ListComp elt [⟨.Tuple [.Name x px, .Name y py] kk tpos, iter, ifs, 0⟩] sc pos) RR) E s₁) E s := by
  obtain ⟨h1, h2, h3, h4, h5⟩ := ScOk.out hok
  obtain ⟨_, _, g3, _, g5⟩ := ScOk.out hok2
  have hL := St.led H _ hl
  refine call_enumerate_1 hL fun h' he hit hz hk => wpAny_pyIter_enum he ?_
  obtain ⟨ito, i0, i1, i2⟩ := hit
  exact comp_loopE (b := s) (s₂ := { s with heap := h' }) H rfl hk (by show _ ≤ h'.objs.size; omega) he i0 (Heap.get?_none_of_le (Nat.le_succ _)) (size_none _) (Nat.succ_ne_self _) ⟨i1, i2⟩ hh ⟨_, hL, rfl, _, rfl⟩ hn h1 h2 h3 g3 h4 h5 g5 Φ mono turn post
end

/-- the names of a comprehension that has cells of its own and takes none from around it -/
@[reducible] def fdW (Γ : Fd) (b : Shared) (sc : Scope) (C : Addr) : Fd := ⟨b, Γ.w, sc, Γ.q, C, none, Γ.fr, cellsFrom (C + 1) sc.names [], Γ.cd, fun _ => true⟩
section
variable {w : World} {prog : Program} {A : Around} {M : Model} {E : Value → Shared → Prop} {Γ : Fd} {m : Str → Option Value} {σ : List (Addr × Obj)} {b : Shared}
theorem enterCW {sc : Scope} {s : Shared} {σc : List (Addr × Obj)} {Q : Env → Shared → Prop} (H : (StI Γ m σ).p b) (es : s = { b with heap := s.heap, toks := s.toks }) (ks : b.heap.StaysIn s.heap) (hz : b.heap.objs.size ≤ s.heap.objs.size)
    (hσ : ∀ p ∈ σc, s.heap.get? p.1 = some p.2 ∧ b.heap.get? p.1 = none) (hnd : (σc.map (·.1)).Nodup)
    (hnames : (sc.names.all fun y => y.2 != .cell || sc.names.lookup y.1 == some .cell) = true) (hkind : sc.kind = .function)
    (k : ∀ cenv s', { cenv with scope := sc } = (fdW Γ b sc s.heap.objs.size).env → cenv.locals = s.heap.objs.size → (StI (fdW Γ b sc s.heap.objs.size) (fun _ => none) σc).p s' → Q cenv s') :
    wpAny M A (newFunctionEnv sc mainGlobals [] [] Γ.q none .none (some Γ.env)) Q E s := by
  have H : St Γ m σ b := H
  simp only [newFunctionEnv, Option.isSome_some, if_true]
  refine wpAny_bind (wpAny_alloc ?_)
  refine wpAny_bind (wpAny_layCells _ (fun name kind cells => by cases hkc : kind == NameKind.cell <;> simp [hkc]) _ _ _ _ ?_)
  have ok := cellsFrom_ok sc.names (s.heap.push { cls := .type "dict", data := .dict #[] }) (s.heap.objs.size + 1) [] ⟨fun _ _ hm => (nomatch hm), List.Pairwise.nil⟩ (by rw [Heap.size_push]; exact Nat.le_refl _)
  rw [Heap.size_push] at ok
  rw [show ({ s with heap := s.heap.push { cls := .type "dict", data := .dict #[] } } : Shared).heap.objs.size = s.heap.objs.size + 1 from Heap.size_push ..]
  rw [List.forIn_nil]
  refine wpAny_bind (wpAny_pure (wpAny_pure (k _ _ rfl rfl ?_)))
  have kp : s.heap.StaysIn (pushCells (s.heap.push { cls := .type "dict", data := .dict #[] }) sc.names) := fun a o e => pushCells_keeps _ _ a o (Heap.get?_push_of_some _ e)
  refine ⟨?_, H.W, sTrans ks kp, ⟨_, (Heap.Ns.new s.heap (.type "dict")).keeps (pushCells_keeps _ _), fun x hx => rfl⟩, fun x c hc => (ok.empty x c (mem_of_lookup hc)).1, fun x y c hx hy => name_of_addr ok.apart (mem_of_lookup hx) (mem_of_lookup hy), fun x c hc => Nat.ne_of_gt (ok.empty x c (mem_of_lookup hc)).2, fun x c hc => ?_, fun x c hc _ => ?_, hz, fun p hp => kp _ _ (hσ p hp).1, fun p hp => ⟨Nat.ne_of_lt (Heap.lt_size (hσ p hp).1), fun x c hc => Nat.ne_of_lt (Nat.lt_trans (Heap.lt_size (hσ p hp).1) (ok.empty x c (mem_of_lookup hc)).2)⟩, fun p hp => (hσ p hp).2, hnd⟩
  · rw [es]
  · rcases cells_mem _ _ _ _ hc with q | q
    · have := List.all_eq_true.mp hnames _ q
      simpa using this
    · cases q
  · exact Heap.get?_none_of_le (Nat.le_trans hz (Nat.le_of_lt (ok.empty x c (mem_of_lookup hc)).2))
theorem comp_loopW {I : Addr} {n : Nat} {V : Nat → Value → Prop} {It : Nat → Obj → Prop} {io₀ : Obj} {s₂ : Shared} {elt iter : Expr} {x : Str} {px pos : Pos} {ifs : List Expr} {sc : Scope} {RR : Value → Addr → Result → Shared → Prop}
    (H : (StI Γ m σ).p b) (es : s₂ = { b with heap := s₂.heap, toks := s₂.toks }) (ks : b.heap.StaysIn s₂.heap) (hz : b.heap.objs.size ≤ s₂.heap.objs.size) (hI : s₂.heap.get? I = some io₀) (hIb : b.heap.get? I = none) (hI0 : It 0 io₀)
    (N : ∀ C, Nx prog A (fdW Γ b sc C) I n V It) (hn : n ≤ 1000)
    (hnames : (sc.names.all fun y => y.2 != .cell || sc.names.lookup y.1 == some .cell) = true) (hkind : sc.kind = .function) (hx : sc.names.lookup x = some .cell) (hrel : relabel sc Γ.env = sc)
    (Φ : Led → Nat → Option Value → Prop) (mono : Mono Φ)
    (turn : ∀ C i v mm σc s, i < n → V i v → (StI (fdW Γ b sc C) (up mm x v) σc).p s → wpAny (model prog Γ.w) A (Tests ifs (fdW Γ b sc C).env) (fun ok s₄ =>
      (ok = true → wpAny (model prog Γ.w) A (eval elt (fdW Γ b sc C).env) (fun y s₅ => ∃ ν, (StI (fdW Γ b sc C) (up mm x v) (ν ++ σc)).p s₅ ∧ Φ ν i (some y)) (fun _ _ => False) s₄) ∧
      (ok = false → ∃ ν, (StI (fdW Γ b sc C) (up mm x v) (ν ++ σc)).p s₄ ∧ Φ ν i none)) (fun _ _ => False) s)
    (post : ∀ D C oC mC ys c ν s', (StI Γ m ((C, oC) :: (D, lst ys c) :: (ν ++ σ))).p s' → (∀ h : Heap, h.get? C = some oC → h.Ns C mC) → Laid Φ ν n ys → RR (.ref D) C (.ok .next) s') :
    wpAny (model prog Γ.w) A (newList []) (fun acc s₃ => wpAny (model prog Γ.w) A (newFunctionEnv sc mainGlobals [] [] Γ.q none .none (some Γ.env)) (fun cenv s₄ =>
      codeAny (model prog Γ.w) A (.compStart (.ListComp elt [⟨.Name x px, iter, ifs, 0⟩] sc pos) 0 (.ref I) acc { cenv with scope := relabel sc Γ.env }) (RR acc cenv.locals) s₄) E s₃) E s₂ := by
  refine wpAny_newList ?_
  have nb : b.heap.get? s₂.heap.objs.size = none := Heap.get?_none_of_le hz
  have hID : I ≠ s₂.heap.objs.size := Nat.ne_of_lt (Heap.lt_size hI)
  rw [hrel]
  refine enterCW (s := { s₂ with heap := s₂.heap.push { cls := .type "list", data := .seq [].toArray } }) (σc := [(I, io₀), (s₂.heap.objs.size, lst #[] 0)]) H (by rw [es]) (sTrans ks (sPush _ _)) (by rw [Heap.size_push]; exact Nat.le_succ_of_le hz) ?_ (by simp [hID]) hnames hkind (fun cenv s' he hl H' => ?_)
  · intro p hp
    rcases List.mem_cons.mp hp with rfl | hp
    · exact ⟨Heap.get?_push_of_some _ hI, hIb⟩
    · rcases List.mem_cons.mp hp with rfl | hp
      · exact ⟨Heap.get?_push_size _ rfl, nb⟩
      · cases hp
  rw [he, hl]
  dsimp only at H' ⊢
  rw [Heap.size_push] at H' ⊢
  generalize hCd : s₂.heap.objs.size + 1 = C at H' ⊢
  generalize hDd : s₂.heap.objs.size = D at H' nb hID ⊢
  have nC : b.heap.get? C = none := by rw [← hCd]; exact Heap.get?_none_of_le (Nat.le_succ_of_le hz)
  obtain ⟨cx, hcx⟩ := Option.isSome_iff_exists.mp (cellsFrom_some sc.names (C + 1) [] (.inl hx) : ((cellsFrom (C + 1) sc.names []).lookup x).isSome = true)
  have loop : codeAny (model prog Γ.w) A (.compLoop (.ListComp elt [⟨.Name x px, iter, ifs, 0⟩] sc pos) 0 (.ref I) (.ref D) (fdW Γ b sc C).env) (RR (.ref D) C) s' := by
    refine codeAny_compLoop_tests (fun k s => ∃ i m' io ys c ν, k = n + 1 - i ∧ i ≤ n ∧ ys.size ≤ i ∧ (StI (fdW Γ b sc C) m' ((I, io) :: (D, lst ys c) :: ν)).p s ∧ It i io ∧ Laid Φ ν i ys) ?_ (n + 1)
      ⟨0, _, io₀, #[], 0, [], rfl, Nat.zero_le _, Nat.le_refl _, H', hI0, .nil⟩
    rintro k s ⟨i, m', io, ys, c, ν, rfl, hi, hsz, Hs, hit, hL⟩
    by_cases hin : i < n
    · refine wpAny_mono (E := fun _ _ => False) ((N C).item i io m' _ s _ _ hin hit Hs fun v io' s₁ hv hit' Hs₁ => ?_) (fun r s₁ q => q) fun _ _ z => z.elim
      refine wpAny_assign_Name (s_cel Hs₁ (fun s₂' H₂ => ?_) hx hcx hkind)
      refine wpAny_mono (turn C i v m' _ s₂' hin hv H₂) (fun ok s₄ q => ?_) fun _ _ z => z.elim
      have pm : ∀ (ν' : Led) (p q : Addr × Obj), (p :: q :: (ν' ++ ν)).Perm (ν' ++ p :: q :: ν) := fun ν' p q =>
        ((List.perm_middle (l₁ := ν') (a := p) (l₂ := q :: ν)).trans ((List.perm_middle (l₁ := ν') (a := q) (l₂ := ν)).cons p)).symm
      cases ok with
      | true =>
        rw [if_pos rfl]
        refine wpAny_mono (q.1 rfl) (fun y s₅ q => ?_) fun _ _ z => z.elim
        obtain ⟨ν', H₅, hΦ⟩ := q
        have H₆ := St.perm H₅ (pm ν' _ _)
        refine o_appendS (pre := [(I, io')]) H₆ (Nat.le_trans (Nat.le_trans hsz (Nat.le_trans hi hn)) (by decide)) fun s₆ H₇ => ?_
        refine ⟨n + 1 - (i + 1), by omega, i + 1, _, io', ys.push y, c + 1, ν' ++ ν, rfl, hin, by simpa using hsz, H₇, hit', ?_⟩
        exact (hL.mono mono fun p hp => List.mem_append_right _ hp).snoc (o := some y) (mono _ _ _ _ (fun p hp => List.mem_append_left _ hp) hΦ)
      | false =>
        rw [if_neg (by decide)]
        obtain ⟨ν', H₅, hΦ⟩ := q.2 rfl
        have H₆ := St.perm H₅ (pm ν' _ _)
        refine ⟨n + 1 - (i + 1), by omega, i + 1, _, io', ys, c, ν' ++ ν, rfl, hin, Nat.le_succ_of_le hsz, H₆, hit', ?_⟩
        exact (hL.mono mono fun p hp => List.mem_append_right _ hp).snoc (o := none) (mono _ _ _ _ (fun p hp => List.mem_append_left _ hp) hΦ)
    · have hin' : i = n := Nat.le_antisymm hi (Nat.le_of_not_lt hin)
      subst hin'
      refine (N C).stop io m' _ s _ _ hit Hs fun s₁ Hs₁ => ?_
      obtain ⟨mC, hmC, _⟩ := St.loc Hs₁
      obtain ⟨oC, es', ep', e1, hr⟩ := hmC
      have led := St.led Hs₁
      refine post D C oC mC ys c ν s₁ ?_ (fun h e => ⟨oC, es', ep', e, hr⟩) hL
      have := St.adds (t := s₁.toks) H (St.keep Hs₁) ((C, oC) :: (D, lst ys c) :: ν) (fun p hp => ?_) ?_
      · have e2 := St.same Hs₁
        rw [← e2] at this
        exact this
      · rcases List.mem_cons.mp hp with rfl | hp
        · exact ⟨e1, nC⟩
        · exact ⟨led p hp, St.ledB Hs₁ p hp⟩
      · rw [List.map_cons, List.nodup_cons]
        refine ⟨fun hm => ?_, St.nd Hs₁⟩
        obtain ⟨p, hp, e⟩ := List.mem_map.mp hm
        exact (St.ledL Hs₁ p hp).1 e
  exact codeAny_compStart_list loop ((N C).self 0 io₀ _ _ s' _ _ hI0 H' loop)
/-- [.. for x in range(..)], x a cell -/
theorem cw_range {s : Shared} {r : Addr} {a c : Int} {e : Int} {t u v : Tok} {n : Nat} {elt iter : Expr} {x : Str} {px pos : Pos} {ifs : List Expr} {sc : Scope} {RR : Value → Addr → Result → Shared → Prop} {Φ : Led → Nat → Option Value → Prop}
    (H : (StI Γ m σ).p s) (hr : (r, rng a e c t u v) ∈ σ) (hsmall : Builtin.Range.small a e c = true) (hn' : Builtin.Range.rangeSize a e c = n) (hh : A.handled = none) (hn : n ≤ 1000)
    (hnames : (sc.names.all fun y => y.2 != .cell || sc.names.lookup y.1 == some .cell) = true) (hkind : sc.kind = .function) (hx : sc.names.lookup x = some .cell) (hrel : relabel sc Γ.env = sc) (hclo : clOf sc Γ.cs = [])
    (mono : Mono Φ)
    (turn : ∀ C i t mm σc s', i < n → (StI (fdW Γ s sc C) (up mm x (.int (a + i * c) t)) σc).p s' → wpAny (model prog Γ.w) A (Tests ifs (fdW Γ s sc C).env) (fun ok s₄ =>
      (ok = true → wpAny (model prog Γ.w) A (eval elt (fdW Γ s sc C).env) (fun y s₅ => ∃ ν, (StI (fdW Γ s sc C) (up mm x (.int (a + i * c) t)) (ν ++ σc)).p s₅ ∧ Φ ν i (some y)) (fun _ _ => False) s₄) ∧
      (ok = false → ∃ ν, (StI (fdW Γ s sc C) (up mm x (.int (a + i * c) t)) (ν ++ σc)).p s₄ ∧ Φ ν i none)) (fun _ _ => False) s') (post : Post Γ m σ n Φ RR) :
    wpAny (model prog Γ.w) A (pyIter (.ref r)) (CT prog Γ.w A E Γ sc (.ListComp elt [⟨.Name x px, iter, ifs, 0⟩] sc pos) RR) E s := by
  refine wpAny_pyIter_range (St.led H _ hr) hsmall ?_
  rw [hn']
  unfold CT
  rw [hclo]
  exact comp_loopW (It := ItR a c n) H rfl (sPush _ _) (by rw [Heap.size_push]; exact Nat.le_succ _) (Heap.get?_push_size _ rfl) (size_none _) (by simp [ItR]) (fun C => nx_range hh) hn hnames hkind hx hrel Φ mono (fun C i v mm σc s' hi ⟨t, ht⟩ Hc => by subst ht; exact turn C i t mm σc s' hi Hc) post
end

theorem compTurn_out (elt t0 i0 t1 i1 : Expr) (f1 : List Expr) (scope : Scope) (pos : Pos) (it acc : Value) (env : Env) :
    compTurn (.ListComp elt [⟨t0, i0, [], 0⟩, ⟨t1, i1, f1, 0⟩] scope pos) 0 it acc env = (do
      standAt i0.pos
      match ← pyNext it with
      | none => pure (.done .next)
      | some v =>
        letOwnedTupleGo t0 it v
        assign t0 env v
        let x ← eval i1 env
        standAt i1.pos
        let x ← foldedSetIterable i1 env x
        let _ ← runOwn (.compStart (.ListComp elt [⟨t0, i0, [], 0⟩, ⟨t1, i1, f1, 0⟩] scope pos) 1 (← holding [x] (pyIter x)) acc env) env
        again (.compLoop (.ListComp elt [⟨t0, i0, [], 0⟩, ⟨t1, i1, f1, 0⟩] scope pos) 0 it acc env)) := by rfl
theorem compTurn_in (elt t0 i0 t1 i1 : Expr) (f0 f1 : List Expr) (scope : Scope) (pos : Pos) (it acc : Value) (env : Env) :
    compTurn (.ListComp elt [⟨t0, i0, f0, 0⟩, ⟨t1, i1, f1, 0⟩] scope pos) 1 it acc env = (do
      standAt i1.pos
      match ← pyNext it with
      | none => pure (.done .next)
      | some v =>
        letOwnedTupleGo t1 it v
        assign t1 env v
        let mut ok := true
        for c in f1 do
          if ok then ok ← isTrue c env (eval c env)
        if ok then
          (do let _ ← call (.builtin "list.append") [acc, ← eval elt env])
        again (.compLoop (.ListComp elt [⟨t0, i0, f0, 0⟩, ⟨t1, i1, f1, 0⟩] scope pos) 1 it acc env)) := by rfl
section
variable {w : World} {prog : Program} {A : Around} {M : Model} {E : Value → Shared → Prop} {R : Result → Shared → Prop} {Γ : Fd} {m : Str → Option Value} {σ : List (Addr × Obj)} {b s : Shared}
theorem loop_out {elt t0 i0 t1 i1 : Expr} {f1 : List Expr} {scope : Scope} {pos : Pos} {it acc : Value} {env : Env} (I : Nat → Shared → Prop)
    (turn : ∀ n s, I n s → wpAny (model prog w) A (pyNext it) (fun r s₁ => match r with
      | none => R (.ok .next) s₁
      | some v => wpAny (model prog w) A (assign t0 env v) (fun _ s₂ => wpAny (model prog w) A (eval i1 env) (fun x s₃ => wpAny (model prog w) A (pyIter x) (fun it' s₄ =>
          codeAny (model prog w) A (.compStart (.ListComp elt [⟨t0, i0, [], 0⟩, ⟨t1, i1, f1, 0⟩] scope pos) 1 it' acc env) (fun r s' => r = .ok .next ∧ ∃ m, m < n ∧ I m s') s₄) (fun _ _ => False) s₃) (fun _ _ => False) s₂) (fun _ _ => False) s₁) (fun _ _ => False) s)
    (n : Nat) (h : I n s) (ht : ∀ v, letOwnedTupleGo t0 it v = pure () := by intro _; rfl) (hs : ∀ x, foldedSetIterable i1 env x = pure x := by intro _; rfl) :
    codeAny (model prog w) A (.compLoop (.ListComp elt [⟨t0, i0, [], 0⟩, ⟨t1, i1, f1, 0⟩] scope pos) 0 it acc env) R s := by
  refine codeAny_loop rfl I (fun n s hI => ?_) n h
  show wpAny _ A ((compTurn (.ListComp elt [⟨t0, i0, [], 0⟩, ⟨t1, i1, f1, 0⟩] scope pos) 0 it acc env).onRaise (fun x => do noteFrame x env; theTreesLotGoes x)) _ _ s
  refine wpAny_noted (wpAny_mono (E := fun _ _ => False) ?_ (fun _ _ z => z) fun _ _ z => z.elim)
  rw [compTurn_out]
  refine wpAny_bind (wpAny_standAt (wpAny_bind (wpAny_mono (turn n s hI) (fun r s₁ h₁ => ?_) fun _ _ h' => h')))
  cases r with
  | none => exact wpAny_pure h₁
  | some v =>
    refine wpAny_bind (wpAny_of_eq (ht v) ?_)
    refine wpAny_bind (wpAny_mono h₁ (fun _ s₂ h₂ => wpAny_bind (wpAny_mono h₂ (fun x s₃ h₃ => wpAny_bind (wpAny_standAt (wpAny_bind (wpAny_of_eq (hs x) (wpAny_bind (wpAny_holding (wpAny_mono h₃ (fun it' s₄ h₄ =>
      wpAny_bind (wpAny_runOwn (codeAny_mono h₄ fun r s' hr => ?_))) fun _ _ h' => h'))))))) fun _ _ h' => h')) fun _ _ h' => h')
    obtain ⟨rfl, hr⟩ := hr
    exact wpAny_pure ⟨rfl, hr⟩
theorem loop_in {elt t0 i0 t1 i1 : Expr} {f0 f1 : List Expr} {scope : Scope} {pos : Pos} {it acc : Value} {env : Env} (I : Nat → Shared → Prop)
    (turn : ∀ n s, I n s → wpAny (model prog w) A (pyNext it) (fun r s₁ => match r with
      | none => R (.ok .next) s₁
      | some v => wpAny (model prog w) A (assign t1 env v) (fun _ s₂ =>
          wpAny (model prog w) A (Tests f1 env) (fun ok s₃ =>
            if ok = true then wpAny (model prog w) A (eval elt env) (fun x s₄ =>
              wpAny (model prog w) A (call (.builtin "list.append") [acc, x]) (fun _ s₅ => ∃ m, m < n ∧ I m s₅) (fun _ _ => False) s₄) (fun _ _ => False) s₃
            else ∃ m, m < n ∧ I m s₃) (fun _ _ => False) s₂) (fun _ _ => False) s₁) (fun _ _ => False) s)
    (n : Nat) (h : I n s) (ht : ∀ v, letOwnedTupleGo t1 it v = pure () := by intro _; rfl) :
    codeAny (model prog w) A (.compLoop (.ListComp elt [⟨t0, i0, f0, 0⟩, ⟨t1, i1, f1, 0⟩] scope pos) 1 it acc env) R s := by
  refine codeAny_loop rfl I (fun n s hI => ?_) n h
  show wpAny _ A ((compTurn (.ListComp elt [⟨t0, i0, f0, 0⟩, ⟨t1, i1, f1, 0⟩] scope pos) 1 it acc env).onRaise (fun x => do noteFrame x env; theTreesLotGoes x)) _ _ s
  refine wpAny_noted (wpAny_mono (E := fun _ _ => False) ?_ (fun _ _ z => z) fun _ _ z => z.elim)
  rw [compTurn_in]
  refine wpAny_bind (wpAny_standAt (wpAny_bind (wpAny_mono (turn n s hI) (fun r s₁ h₁ => ?_) fun _ _ h' => h')))
  cases r with
  | none => exact wpAny_pure h₁
  | some v =>
    refine wpAny_bind (wpAny_of_eq (ht v) ?_)
    refine wpAny_bind (wpAny_mono h₁ (fun _ s₂ h₂ => wpAny_bind (wpAny_mono h₂ (fun ok s₃ h₃ => ?_) fun _ _ h' => h')) fun _ _ h' => h')
    cases ok with
    | false => exact wpAny_pure ⟨rfl, h₃⟩
    | true =>
      exact wpAny_bind (wpAny_bind (wpAny_mono h₃ (fun x s₄ h₄ => wpAny_bind (wpAny_mono h₄ (fun _ s₅ h₅ => wpAny_pure (wpAny_pure ⟨rfl, h₅⟩)) fun _ _ h' => h')) fun _ _ h' => h'))
theorem start_in {elt t0 i0 t1 i1 : Expr} {f0 f1 : List Expr} {scope : Scope} {pos : Pos} {it acc : Value} {env : Env}
    (h0 : codeAny (model prog w) A (.compLoop (.ListComp elt [⟨t0, i0, f0, 0⟩, ⟨t1, i1, f1, 0⟩] scope pos) 1 it acc env) R s)
    (h : wpAny (model prog w) A (pyIter it) (fun it' s' => codeAny (model prog w) A (.compLoop (.ListComp elt [⟨t0, i0, f0, 0⟩, ⟨t1, i1, f1, 0⟩] scope pos) 1 it' acc env) R s')
      (notedBy (model prog w) A env fun x s' => R (.error x) s') s) :
    codeAny (model prog w) A (.compStart (.ListComp elt [⟨t0, i0, f0, 0⟩, ⟨t1, i1, f1, 0⟩] scope pos) 1 it acc env) R s := by
  refine codeAny_of_tree ?_
  show wpAny _ _ ((compStart (.ListComp elt [⟨t0, i0, f0, 0⟩, ⟨t1, i1, f1, 0⟩] scope pos) 1 it acc env).onRaise (fun x => do noteFrame x env; standAt theWindowsPlace)) _ _ s
  refine wpAny_notedAt ?_
  unfold compStart
  show wpAny _ _ (ask >>= _) _ _ s
  refine wpAny_bind (wpAny_askSetting (wpAny_ite ?_))
  split
  · first
      | exact wpAny_bind (wpAny_pure (wpAny_pure (And.intro rfl h0)))
      | exact wpAny_pure (And.intro rfl h0)
  · first
      | exact wpAny_bind (wpAny_rule (wpAny_bind (wpAny_standAt (wpAny_bind (wpAny_mono h (fun it' s' h' => wpAny_pure (And.intro rfl h')) fun _ _ x => x)))))
      | (refine wpAny_bind (wpAny_rule ?_); show wpAny _ _ (standAt i1.pos >>= _) _ _ s; exact wpAny_bind (wpAny_standAt (wpAny_bind (wpAny_mono h (fun it' s' h' => wpAny_pure (And.intro rfl h')) fun _ _ x => x))))
end

def cnt2 (tst : Nat → Nat → Bool) (n0 n1 : Nat) : Nat := ((List.range n0).map fun i => (List.range n1).countP (tst i)).sum
theorem cnt2_succ (tst : Nat → Nat → Bool) (i n1 : Nat) : cnt2 tst (i + 1) n1 = cnt2 tst i n1 + (List.range n1).countP (tst i) := by
  unfold cnt2
  rw [List.range_succ, List.map_append, List.sum_append]; simp
theorem cnt2_le (tst : Nat → Nat → Bool) (n1 : Nat) : ∀ i, cnt2 tst i n1 ≤ i * n1
  | 0 => by simp [cnt2]
  | i + 1 => by
    rw [cnt2_succ, Nat.succ_mul]
    have h1 := cnt2_le tst n1 i
    have h2 : (List.range n1).countP (tst i) ≤ n1 := by
      have := List.countP_le_length (p := tst i) (l := List.range n1)
      simpa using this
    omega
theorem cntP_succ (f : Nat → Bool) (j : Nat) : (List.range (j + 1)).countP f = (List.range j).countP f + (if f j = true then 1 else 0) := by
  rw [List.range_succ, List.countP_append]; simp [List.countP_cons]
section
variable {w : World} {A : Around} {E : Value → Shared → Prop} {Γ : Fd} {m : Str → Option Value} {σ : List (Addr × Obj)} {s : Shared}
theorem ct2_range {r : Addr} {t u v : Tok} {n0 n1 : Nat} {cnd i0 i1 : Expr} {x0 x1 : Str} {pe p0 p1 pos : Pos} {sc : Scope} {RR : Value → Addr → Result → Shared → Prop}
    (H : (StI Γ m σ).p s) (hr : (r, rng 0 n0 1 t u v) ∈ σ) (hsmall : Builtin.Range.small 0 n0 1 = true) (hsz : Builtin.Range.rangeSize 0 n0 1 = n0) (hsmall1 : Builtin.Range.small 0 n1 1 = true) (hsz1 : Builtin.Range.rangeSize 0 n1 1 = n1)
    (hh : A.handled = none) (hn : n0 * n1 ≤ 1000) (hok : ScOk Γ sc x0 = true) (hok1 : ScOk Γ sc x1 = true) (hne : x0 ≠ x1) (tst : Nat → Nat → Bool)
    (hi1 : ∀ C mm σc s' (Q : Value → Shared → Prop), (StI (fdC Γ s sc C) mm σc).p s' → (∀ r t u v s'', (StI (fdC Γ s sc C) mm ((r, rng 0 n1 1 t u v) :: σc)).p s'' → Q (.ref r) s'') → wpAny (model PP Γ.w) A (eval i1 (fdC Γ s sc C).env) Q (fun _ _ => False) s')
    (turn : ∀ C i j ti tj mm σc s', i < n0 → j < n1 → mm x0 = some (.int (i : Nat) ti) → mm x1 = some (.int (j : Nat) tj) → (∀ y, (sc.names.lookup y == some .free) = true → mm y = m y) → (StI (fdC Γ s sc C) mm σc).p s' →
      wpAny (model PP Γ.w) A (isTrue cnd (fdC Γ s sc C).env (eval cnd (fdC Γ s sc C).env)) (fun ok s₄ => ok = tst i j ∧ (StI (fdC Γ s sc C) mm σc).p s₄) (fun _ _ => False) s')
    (hs : ∀ C x, foldedSetIterable i1 (fdC Γ s sc C).env x = pure x)
    (post : ∀ D C oC mC ys c s', (StI Γ m ((C, oC) :: (D, lst ys c) :: σ)).p s' → (∀ h : Heap, h.get? C = some oC → h.Ns C mC) → ys.size = cnt2 tst n0 n1 → RR (.ref D) C (.ok .next) s') (hd0 : (x0 == ("__debug__" : Str)) = false) :
    wpAny (model PP Γ.w) A (pyIter (.ref r)) (CT PP Γ.w A E Γ sc (.ListComp (.Name x0 pe) [⟨.Name x0 p0, i0, [], 0⟩, ⟨.Name x1 p1, i1, [cnd], 0⟩] sc pos) RR) E s := by
  obtain ⟨h1, hkind, hx0, hfree, hxf0⟩ := ScOk.out hok
  obtain ⟨_, _, hx1, _, hxf1⟩ := ScOk.out hok1
  refine wpAny_pyIter_range (St.led H _ hr) hsmall ?_
  rw [hsz]
  unfold CT
  refine wpAny_newList ?_
  generalize hI : s.heap.objs.size = I0
  have hI0 : ({ s with heap := s.heap.push { cls := .type "range_iterator", data := .fields #[rawInt 0, rawInt n0, rawInt 1] } } : Shared).heap.objs.size = I0 + 1 := by rw [← hI]; exact Heap.size_push _ _
  have hg0 : (s.heap.push { cls := .type "range_iterator", data := .fields #[rawInt 0, rawInt n0, rawInt 1] }).get? I0 = some { cls := .type "range_iterator", data := .fields #[rawInt 0, rawInt n0, rawInt 1] } := by rw [← hI]; exact Heap.get?_push_size _ rfl
  have nb0 : s.heap.get? I0 = none := by rw [← hI]; exact size_none _
  have nb1 : s.heap.get? (I0 + 1) = none := by rw [← hI]; exact Heap.get?_none_of_le (Nat.le_succ _)
  have nb2 : s.heap.get? (I0 + 2) = none := by rw [← hI]; exact Heap.get?_none_of_le (by omega)
  refine enterC (b := s) (σc := [(I0, { cls := .type "range_iterator", data := .fields #[rawInt 0, rawInt n0, rawInt 1] }), (I0 + 1, lst #[] 0)]) H rfl (sTrans (sPush _ _) (sPush _ _)) (by rw [Heap.size_push, Heap.size_push]; omega) ?_ (by simp) h1 hkind hfree (fun cenv s' he hl H' => ?_)
  · intro p hp
    simp only [List.mem_cons, List.not_mem_nil, or_false] at hp
    rcases hp with rfl | rfl
    · exact ⟨Heap.get?_push_of_some _ hg0, nb0⟩
    · refine ⟨?_, nb1⟩
      have := Heap.get?_push_size (h := s.heap.push { cls := .type "range_iterator", data := .fields #[rawInt 0, rawInt n0, rawInt 1] }) (o := lst #[] 0) rfl
      rw [Heap.size_push, hI] at this
      exact this
  rw [he, hl]
  dsimp only at H' ⊢
  rw [Heap.size_push, Heap.size_push, hI] at H'
  simp only [Heap.size_push, hI]
  generalize hCd : I0 + 1 + 1 = C at H' ⊢
  generalize hDd : I0 + 1 = D at H' ⊢
  have nC : s.heap.get? C = none := by rw [← hCd]; exact nb2
  have N0 := fun I n => nx_range (prog := PP) (A := A) (Γ := fdC Γ s sc C) (I := I) (a := 0) (c := 1) (n := n) hh
  have loop : codeAny (model PP Γ.w) A (.compLoop (.ListComp (.Name x0 pe) [⟨.Name x0 p0, i0, [], 0⟩, ⟨.Name x1 p1, i1, [cnd], 0⟩] sc pos) 0 (.ref I0) (.ref D) (fdC Γ s sc C).env) (RR (.ref D) C) s' := by
    refine loop_out (fun k s1 => ∃ i m' io ys c, k = n0 + 1 - i ∧ i ≤ n0 ∧ ys.size = cnt2 tst i n1 ∧ (∀ y, (sc.names.lookup y == some .free) = true → m' y = m y) ∧ (StI (fdC Γ s sc C) m' [(I0, io), (D, lst ys c)]).p s1 ∧ ItR 0 1 n0 i io) ?_ (n0 + 1)
      ⟨0, _, _, #[], 0, rfl, Nat.zero_le _, rfl, fun _ h => mc_free h, H', by simp [ItR]⟩ (hs := hs C)
    rintro k s1 ⟨i, m', io, ys, c, rfl, hi, hys, hm', Hs, hit⟩
    by_cases hin : i < n0
    · refine (N0 I0 n0).item i io m' _ s1 _ _ hin hit Hs fun v io' s2 ⟨ti, hv⟩ hit' Hs2 => ?_
      subst hv
      rw [show (0 + (i : Int) * 1) = ((i : Nat) : Int) by omega]
      refine wpAny_assign_Name (s_loc Hs2 (fun s3 H3 => ?_) hx0 hkind)
      have hm3 : ∀ y, (sc.names.lookup y == some .free) = true → up m' x0 (.int (i : Nat) ti) y = m y := fun y hy => by
        rw [up_ne (fun e => by rw [e, hxf0] at hy; cases hy)]; exact hm' y hy
      refine hi1 C _ _ _ _ H3 (fun r1 t1 u1 v1 s4 H4 => ?_)
      refine wpAny_pyIter_range (St.led H4 _ (.head _)) hsmall1 ?_
      have H5 := St.new (t := s4.toks) (o := { cls := .type "range_iterator", data := .fields #[rawInt 0, rawInt (Builtin.Range.rangeSize 0 n1 1), rawInt 1] }) H4 rfl
      rw [hsz1] at H5 ⊢
      generalize s4.heap.objs.size = I1 at H5 ⊢
      generalize hs5 : ({ s4 with heap := s4.heap.push { cls := .type "range_iterator", data := .fields #[rawInt 0, rawInt n1, rawInt 1] }, toks := s4.toks } : Shared) = s5 at H5
      have inner : codeAny (model PP Γ.w) A (.compLoop (.ListComp (.Name x0 pe) [⟨.Name x0 p0, i0, [], 0⟩, ⟨.Name x1 p1, i1, [cnd], 0⟩] sc pos) 1 (.ref I1) (.ref D) (fdC Γ s sc C).env)
          (fun r s' => r = .ok .next ∧ ∃ m_1, m_1 < n0 + 1 - i ∧ ∃ i m' io ys c, m_1 = n0 + 1 - i ∧ i ≤ n0 ∧ ys.size = cnt2 tst i n1 ∧ (∀ y, (sc.names.lookup y == some .free) = true → m' y = m y) ∧ (StI (fdC Γ s sc C) m' [(I0, io), (D, lst ys c)]).p s' ∧ ItR 0 1 n0 i io) s5 := by
        refine loop_in (fun k s6 => ∃ j m'' io1 zs c', k = n1 + 1 - j ∧ j ≤ n1 ∧ zs.size = cnt2 tst i n1 + (List.range j).countP (tst i) ∧ (∀ y, (sc.names.lookup y == some .free) = true → m'' y = m y) ∧ m'' x0 = some (.int (i : Nat) ti) ∧
            (StI (fdC Γ s sc C) m'' [(I1, io1), (r1, rng 0 n1 1 t1 u1 v1), (I0, io'), (D, lst zs c')]).p s6 ∧ ItR 0 1 n1 j io1) ?_ (n1 + 1)
          ⟨0, _, _, ys, c, rfl, Nat.zero_le _, by simp [hys], hm3, up_same, H5, by simp [ItR]⟩
        rintro k s6 ⟨j, m'', io1, zs, c', rfl, hj, hzs, hm'', hmx, H6, hit1⟩
        by_cases hjn : j < n1
        · refine (N0 I1 n1).item j io1 m'' _ s6 _ _ hjn hit1 H6 fun v io1' s7 ⟨tj, hv⟩ hit1' H7 => ?_
          subst hv
          rw [show (0 + (j : Int) * 1) = ((j : Nat) : Int) by omega]
          refine wpAny_assign_Name (s_loc H7 (fun s8 H8 => ?_) hx1 hkind)
          have hm8 : ∀ y, (sc.names.lookup y == some .free) = true → up m'' x1 (.int (j : Nat) tj) y = m y := fun y hy => by
            rw [up_ne (fun e => by rw [e, hxf1] at hy; cases hy)]; exact hm'' y hy
          have hmx8 : up m'' x1 (.int (j : Nat) tj) x0 = some (.int (i : Nat) ti) := by rw [up_ne hne]; exact hmx
          refine tests_one (wpAny_mono (turn C i j ti tj _ _ s8 hin hjn hmx8 up_same hm8 H8) (fun ok s9 ⟨hok9, H9⟩ => ?_) fun _ _ z => z)
          have hcs := cntP_succ (tst i) j
          have hb1 := cnt2_le tst n1 i
          have hb2 : (List.range j).countP (tst i) ≤ j := by
            have := List.countP_le_length (p := tst i) (l := List.range j)
            simpa using this
          have hb3 : (i + 1) * n1 ≤ n0 * n1 := Nat.mul_le_mul_right _ hin
          rw [Nat.succ_mul] at hb3
          cases ok with
          | true =>
            rw [if_pos rfl]
            rw [if_pos hok9.symm] at hcs
            refine n_loc H9 hmx8 ?_ hx0 hkind hd0
            refine o_appendS (pre := [(I1, io1'), (r1, _), (I0, io')]) H9 (Nat.le_trans (show _ ≤ 1000 by omega) (by decide)) fun s10 H10 => ?_
            exact ⟨n1 + 1 - (j + 1), by omega, j + 1, _, io1', _, _, rfl, hjn, by rw [hcs, Array.size_push, hzs]; omega, hm8, hmx8, H10, hit1'⟩
          | false =>
            rw [if_neg (by decide)]
            rw [if_neg (by rw [← hok9]; decide)] at hcs
            exact ⟨n1 + 1 - (j + 1), by omega, j + 1, _, io1', _, _, rfl, hjn, by rw [hcs, hzs]; omega, hm8, hmx8, H9, hit1'⟩
        · have hjn' : j = n1 := Nat.le_antisymm hj (Nat.le_of_not_lt hjn)
          subst hjn'
          refine (N0 I1 j).stop io1 m'' _ s6 _ _ hit1 H6 fun s7 H7 => ?_
          exact ⟨rfl, n0 + 1 - (i + 1), by omega, i + 1, m'', io', zs, c', rfl, hin, by rw [cnt2_succ, hzs], hm'', St.tl H7, hit'⟩
      exact start_in inner ((N0 I1 n1).self 0 _ _ _ s5 _ _ (by simp [ItR]) H5 inner)
    · have hin' : i = n0 := Nat.le_antisymm hi (Nat.le_of_not_lt hin)
      subst hin'
      refine (N0 I0 i).stop io m' _ s1 _ _ hit Hs fun s₁ Hs₁ => ?_
      obtain ⟨mC, hmC, _⟩ := St.loc Hs₁
      obtain ⟨oC, es', ep', e1, hr⟩ := hmC
      have led := St.led Hs₁
      refine post D C oC mC ys c s₁ ?_ (fun h e => ⟨oC, es', ep', e, hr⟩) hys
      have := St.adds (t := s₁.toks) H (St.keep Hs₁) ((C, oC) :: (D, lst ys c) :: []) (fun p hp => ?_) ?_
      · have e2 := St.same Hs₁
        rw [← e2] at this
        exact this
      · rcases List.mem_cons.mp hp with rfl | hp
        · exact ⟨e1, nC⟩
        · exact ⟨led p hp, St.ledB Hs₁ p hp⟩
      · rw [List.map_cons, List.nodup_cons]
        refine ⟨fun hm => ?_, St.nd Hs₁⟩
        obtain ⟨p, hp, e⟩ := List.mem_map.mp hm
        exact (St.ledL Hs₁ p hp).1 e
  exact codeAny_compStart_list loop ((N0 I0 n0).self 0 _ _ _ s' _ _ (by simp [ItR]) H' loop)
end

@[reducible] def lawG (s : Shared) (w : World) (fd : FuncData) (L fa : Addr) (cd : Value) : Fd := ⟨s, w, fd.scope, fd.qualname ++ ".<locals>.", L, some fa, some L, cellsFrom (L + 1) fd.scope.names [], cd, fun _ => true⟩
def base6 (i : Nat) : Int := [60, 79, 0, 43, 5, 2].getD i 0
def numF (ns : List Int) (i : Nat) : Int := base6 i + (if i < ns.length then (ns.getD i 0).fmod 1000000 else 0)
def numL (ns : List Int) : List Int := (List.range 6).map (numF ns)
theorem numL_len (ns : List Int) : (numL ns).length = 6 := by simp [numL]
theorem base6_pos : ∀ i, i < 6 → 0 ≤ base6 i := by decide
theorem numL_pos (ns : List Int) : ∀ n ∈ numL ns, 0 ≤ n := fun n hn => by
  obtain ⟨i, hi, rfl⟩ := List.mem_map.mp hn
  have h1 := base6_pos i (List.mem_range.mp hi)
  unfold numF
  split
  · have := Int.fmod_nonneg_of_pos (a := ns.getD i 0) (b := 1000000) (by decide)
    omega
  · omega
theorem base_at {i : Nat} {t0 t1 t2 t3 t4 t5 : Tok} {v : Value} (h : ([.int 60 t0, .int 79 t1, .int 0 t2, .int 43 t3, .int 5 t4, .int 2 t5] : List Value).toArray[i]? = some v) : ∃ t, v = .int (base6 i) t := by
  rcases i with _ | _ | _ | _ | _ | _ | i
  all_goals first | (simp at h; subst h; exact ⟨_, rfl⟩) | (simp at h)
theorem wordIt : ∀ i, i < 8 → ∀ k, k < 3 → Txt.item ("abcABC" : Str) (((k : Nat) : Int) + 3 * Builtin.bitAnd (((i : Nat) : Int).fdiv (2 ^ (((k : Nat) : Int)).toNat)) 1) = ch ((word i).cps.getD k 0) := by decide +kernel
theorem wordIx : ∀ i, i < 8 → ∀ k, k < 3 → 0 ≤ (((k : Nat) : Int) + 3 * Builtin.bitAnd (((i : Nat) : Int).fdiv (2 ^ (((k : Nat) : Int)).toNat)) 1) ∧ (((k : Nat) : Int) + 3 * Builtin.bitAnd (((i : Nat) : Int).fdiv (2 ^ (((k : Nat) : Int)).toNat)) 1) < 6 := by decide +kernel
theorem wordAnd : ∀ i, i < 8 → ∀ k, k < 3 → (Builtin.bitAnd (((i : Nat) : Int).fdiv (2 ^ (((k : Nat) : Int)).toNat)) 1).natAbs < 2 ^ 60 := by decide +kernel
theorem wordJ : ∀ i, i < 8 → JoinOk ("" : Str) ((List.range 3).map fun k => ch ((word i).cps.getD k 0)) = true ∧ Txt.join ("" : Str) ((List.range 3).map fun k => ch ((word i).cps.getD k 0)) = word i := by decide +kernel
theorem lawA {w : World} {A : Around} {s s₁ : Shared} {Q : Flow → Shared → Prop} {E : Value → Shared → Prop} {L fa lscr : Addr} {cd : Value} {oc : Value} {od : Option Addr} {osl : Array (Option Value)} {fd : FuncData} {body : List Stmt} {sits : Array Value} {ns : List Int}
  (ho : (KK w).lookup 258 = some ⟨oc, od, .func fd, osl⟩) (hb : fd.body = .stmts body) (hA : AOk 5 A) (hscr : s.heap.IsList lscr sits) (hns : IntsAre sits.toList ns) (hlen : ns.length ≤ 63)
  (H : (StI (lawG s w fd L fa cd) (bmap [("script", .ref lscr)]) []).p s₁)
  (k : ∀ (t : Tr) (M : Int) m lw wits wc ta tb s', t.ok → t.size = 11 → MaskOk t.ev M → m "text" = some (.str ⟨(txt t.code).toArray⟩ ta) → m "mask" = some (.int M tb) → m "words" = some (.ref lw) → (StI (lawG s w fd L fa cd) m [(lw, lst wits wc)]).p s' → StrsAre wits.toList ((List.range 8).map word) →
    wpAny (model PP w) A (execs (body.drop 3) (lawG s w fd L fa cd).env) Q E s') :
  wpAny (model PP w) A (execs body (lawG s w fd L fa cd).env) Q E s₁ := by
  have h : (KK w).lookup 258 = some ⟨?oc, ?od, .func ?fd, ?osl⟩ := by rfl
  rw [h] at ho
  cases ho
  cases hb
  have hssz : sits.size = ns.length := by have := ints_len hns; simpa using this
  repeat walk_at "g11"
  rename Inv.p _ _ => H
  refine ct_enum H (.head _) hA.hh (Nat.le_of_ble_eq_true rfl) (by rfl) (by rfl) (fun ν i o => i < 6 ∧ ∃ t, o = some (.int (numF ns i) t)) (fun _ _ _ _ _ h => h) ?_ (post_used fun D ys c ν s' H' hL => ?_)
  · intro C i t vb mm σc s' hi hv hmm Hc
    have hi : i < 6 := hi
    obtain ⟨tb, rfl⟩ := base_at hv
    have mscr : mm "script" = some (.ref lscr) := (hmm "script" (by rfl)).trans (by walk_at "lk")
    have hscrB := keepL hscr (St.keep H)
    clear H
    repeat walk_at "g11"
    refine ⟨fun _ => ?_, fun h => (nomatch h)⟩
    repeat walk_at "g11"
    rename Inv.p _ _ => H
    refine o_len_lst _ H (keepL hscrB (St.keep H)) (by omega) (fun t s H => ?_)
    repeat walk_at "g11"
    refine ⟨fun hc => ?_, fun hc => ?_⟩
    · have hc : i < ns.length := by have := of_decide_eq_true hc; omega
      have e : numF ns i = base6 i + (ns.getD i 0).fmod 1000000 := by unfold numF; rw [if_pos hc]
      obtain ⟨tv, htv⟩ := ints_get hns i (sits[i]'(by omega)) (by simp [hssz, hc])
      repeat walk_at "g11"
      rename Inv.p _ _ => H
      refine it_lst (keepL hscrB (St.keep H)) (by omega) (by omega) (x := .int (ns.getD i 0) tv) (by rw [Int.toNat_natCast, Array.getElem?_eq_getElem (by omega), htv]) ?_
      repeat walk_at "g11"
      refine i_mod (by assumption) (by decide) (fun t s H => ?_)
      repeat walk_at "g11"
      rw [← e]
      exact ⟨[], by assumption, hi, _, rfl⟩
    · have hc : ¬ i < ns.length := by have := of_decide_eq_false hc; omega
      have e : numF ns i = base6 i + 0 := by unfold numF; rw [if_neg hc]
      repeat walk_at "g11"
      rw [← e]
      exact ⟨[], by assumption, hi, _, rfl⟩
  · have hnum : IntsAre ys.toList (numL ns) := by
      refine intsAre_of (paired_map (f := numF ns) ?_)
      have := hL.paired (p := fun _ => true) (xs := List.range 6) (G := fun (i : Nat) v => ∃ t, v = Value.int (numF ns i) t) (by rfl) fun i o ⟨h6, t, h⟩ => ⟨i, by rw [List.getElem?_range h6], .inl ⟨rfl, _, h, t, rfl⟩⟩
      rw [List.filter_eq_self.mpr (fun _ _ => rfl)] at this
      exact this
    clear H hL
    rename Inv.p _ _ => H
    replace H : (StI _ _ [(D, lst ys c)]).p s' := St.drop H (.cons_cons _ (List.nil_sublist _))
    repeat walk_at "g11"
    rename Inv.p _ _ => H
    obtain ⟨tr, tok, tsz, M, hM, hrow⟩ := rowEnd (numL_len ns)
    have e0 : (rowS (numL ns) 5).getD 0 ([], 0) = (tr.code, M) := by rw [hrow]; rfl
    refine ⟨Inv.wd _ H, o_refS (fun R k => spec_formula (Inv.wd _ H) (AOk.mono hA (by decide)) (St.led H _ (.head _)) hnum (numL_len ns) (numL_pos ns) k) ?_⟩
    rintro v s' es ks ⟨tp, ta, tb, rfl, d1, d2⟩
    rw [e0] at d1
    replace H := St.addOn H es ks d2 d1
    clear es ks d1 d2
    refine a_pairK hA.hh H (St.led H _ (.head _)) (fun s H => ?_)
    repeat walk_at "g11"
    rename Inv.p _ _ => H
    refine cw_range (n := 8) (Φ := fun ν i o => i < 8 ∧ ∃ t, o = some (.str (word i) t)) H (.head _) (by decide) (by decide) hA.hh (by decide) (by rfl) (by rfl) (by rfl) (by rfl) (by rfl) (fun _ _ _ _ _ h => h) ?_ (post_plain fun D2 ys2 c2 ν2 s2 H2 hL2 => ?_)
    · intro C i t mm σc s' hi Hc
      rw [show (0 + (i : Int) * 1) = ((i : Nat) : Int) by omega] at Hc ⊢
      clear H
      repeat walk_at "g11"
      refine ⟨fun _ => ?_, fun h => (nomatch h)⟩
      repeat walk_at "g11"
      rename Inv.p _ _ => H
      refine ct_range (n := 3) H (.head _) (by decide) (by decide) hA.hh (by decide) (by rfl) (fun ν k o => k < 3 ∧ ∃ t, o = some (.str (ch ((word i).cps.getD k 0)) t)) (fun _ _ _ _ _ h => h) ?_ (post_plain fun D3 ys3 c3 ν3 s3 H3 hL3 => ?_)
      · rintro C2 k v mm2 σc2 s2 hk ⟨tk, rfl⟩ hmm2 Hc2
        have mw : mm2 "w" = some (.int ((i : Nat) : Int) t) := (hmm2 "w" (by rfl)).trans (by walk_at "lk")
        rw [show (0 + (k : Int) * 1) = ((k : Nat) : Int) by omega] at Hc2 ⊢
        clear H
        repeat walk_at "g11"
        refine ⟨fun _ => ?_, fun h => (nomatch h)⟩
        repeat walk_at "g11"
        refine i_shr (by assumption) (by omega) (fun t s H => ?_)
        repeat walk_at "g11"
        refine i_mul (by assumption) (.of_left (intBits_le_64 (by decide) (by decide))) (fun t s H => ?_)
        repeat walk_at "g11"
        obtain ⟨x1, x2⟩ := wordIx i hi k hk
        refine it_str (by assumption) (Int.le_trans (by decide) x1) (Int.lt_of_lt_of_le x2 (by decide)) (by decide) (fun t s H => ?_)
        rw [wordIt i hi k hk]
        exact ⟨[], H, hk, _, rfl⟩
      · have hp : Paired isS ((List.range 3).map fun k => ch ((word i).cps.getD k 0)) ys3.toList := by
          refine paired_map (f := fun k => ch ((word i).cps.getD k 0)) ?_
          have := hL3.paired (p := fun _ => true) (xs := List.range 3) (G := fun (k : Nat) v => isS (ch ((word i).cps.getD k 0)) v) (by rfl) fun k o ⟨h3, t, h⟩ => ⟨k, by rw [List.getElem?_range h3], .inl ⟨rfl, _, h, t, rfl⟩⟩
          rw [List.filter_eq_self.mpr (fun _ _ => rfl)] at this
          exact this
        obtain ⟨sv, e1, e2⟩ := strs_vals (strsAre_of hp)
        obtain ⟨j1, j2⟩ := wordJ i hi
        rw [← e2] at j1 j2
        clear H hL3
        rename Inv.p _ _ => H
        have hl3 := St.isList H (.head _) LObj.lst
        repeat walk_at "g11"
        rename Inv.p _ _ => H
        refine o_join (l := sv) H (by rw [← e1]; exact hl3) j1 (fun t s H => ?_)
        rw [j2]
        exact ⟨[], St.drop H (.cons _ ((List.sublist_cons_self _ _).trans (List.sublist_append_right _ _))), hi, _, rfl⟩
    · have hw : StrsAre ys2.toList ((List.range 8).map word) := by
        refine strsAre_of (paired_map (f := word) ?_)
        have := hL2.paired (p := fun _ => true) (xs := List.range 8) (G := fun (i : Nat) v => isS (word i) v) (by rfl) fun i o ⟨h8, t, h⟩ => ⟨i, by rw [List.getElem?_range h8], .inl ⟨rfl, _, h, t, rfl⟩⟩
        rw [List.filter_eq_self.mpr (fun _ _ => rfl)] at this
        exact this
      clear H
      rename Inv.p _ _ => H
      replace H : (StI _ _ [(D2, lst ys2 c2)]).p s2 := St.drop H (.cons_cons _ (List.nil_sublist _))
      walk_at "g11"
      rename Inv.p _ _ => H
      exact k tr M _ D2 ys2 c2 _ _ _ tok tsz hM (by walk_at "lk") (by walk_at "lk") (by walk_at "lk") H hw

section
variable {w : World} {A : Around} {E : Value → Shared → Prop} {s : Shared} {Γ : Fd} {m : Str → Option Value} {σ : Led}
theorem a_three {x1 x2 x3 : Str} {p1 p2 p3 tp : Pos} {kk : Nat} {t : Addr} {a b c : Value} {Q : Unit → Shared → Prop} (hh : A.handled = none) (H : (StI Γ m σ).p s) (ht : s.heap.get? t = some (tup #[a, b, c]))
    (h : ∀ s, (StI Γ m σ).p s → wpAny (model PP w) A (storeName Γ.env x1 a) (fun _ s => wpAny (model PP w) A (storeName Γ.env x2 b) (fun _ s => wpAny (model PP w) A (storeName Γ.env x3 c) Q E s) E s) E s) :
    wpAny (model PP w) A (assign (.Tuple [.Name x1 p1, .Name x2 p2, .Name x3 p3] kk tp) Γ.env (.ref t)) Q E s := by
  refine wpAny_assign_Tuple hh ⟨_, ht, rfl, _, rfl⟩ rfl rfl fun h' he => ?_
  have H' := St.ext (t := s.toks) H (h := h') (fun b o e => he b o (Nat.ne_of_lt (Heap.lt_size e)) e)
  exact wpAny_assignInOrder_more (wpAny_assign_Name (wpAny_mono (h _ H') (fun _ _ q => wpAny_assignInOrder_more (wpAny_assign_Name (wpAny_mono q (fun _ _ q => wpAny_assignInOrder_more (wpAny_assign_Name (wpAny_mono q (fun _ _ q => wpAny_assignInOrder_none q) fun _ _ z => z))) fun _ _ z => z))) fun _ _ z => z))
theorem ne_ints {a b : Addr} {items items2 : Array Value} {ns : List Int} {Q : Value → Shared → Prop} (ha : s.heap.IsList a items) (hb : s.heap.IsList b items2) (h1 : IntsAre items.toList ns) (h2 : IntsAre items2.toList ns) (hu : A.units < cLine) (h : Q (.bool false) s) : wpAny (model PP w) A (compareOp .NotEq (.ref a) (.ref b)) Q E s := by
  show wpAny (model PP w) A (richCompare .NotEq (.ref a) (.ref b)) Q E s
  have l1 := ints_len h1
  have l2 := ints_len h2
  simp only [Array.length_toList] at l1 l2
  refine SeqAt.RcNeAt.lists (e := fun _ => true) ha hb (by omega) hu (fun j hj1 hj2 => ?_) PP w E Q (by rw [List.all_eq_true.mpr (fun _ _ => rfl)]; exact h)
  obtain ⟨t, e1⟩ := ints_get h1 j items[j] (by simp [hj1])
  obtain ⟨u, e2⟩ := ints_get h2 j items2[j] (by simp [hj2])
  rw [e1, e2]
  have := SeqAt.EqAt.int_int (A := A.in1) (s := s) (ns.getD j 0) t (ns.getD j 0) u
  rw [beq_self_eq_true] at this
  exact this
theorem ne_strs {a b : Addr} {items items2 : Array Value} {L : List Str} {Q : Value → Shared → Prop} (ha : s.heap.IsList a items) (hb : s.heap.IsList b items2) (h1 : StrsAre items.toList L) (h2 : StrsAre items2.toList L) (hu : A.units < cLine) (h : Q (.bool false) s) : wpAny (model PP w) A (compareOp .NotEq (.ref a) (.ref b)) Q E s := by
  show wpAny (model PP w) A (richCompare .NotEq (.ref a) (.ref b)) Q E s
  have l1 := strs_len h1
  have l2 := strs_len h2
  simp only [Array.length_toList] at l1 l2
  refine SeqAt.RcNeAt.lists (e := fun _ => true) ha hb (by omega) hu (fun j hj1 hj2 => ?_) PP w E Q (by rw [List.all_eq_true.mpr (fun _ _ => rfl)]; exact h)
  obtain ⟨x, t, x1, e1⟩ := strs_get h1 j items[j] (by simp [hj1])
  obtain ⟨y, u, x2, e2⟩ := strs_get h2 j items2[j] (by simp [hj2])
  rw [x1] at x2
  cases x2
  rw [e1, e2]
  have := SeqAt.EqAt.str_str (A := A.in1) (s := s) x t x u
  rw [beq_self_eq_true] at this
  exact this
end
theorem sy_of {t : Tr} {items : Array Value} (h : IntsAre items.toList ((t.code.map fun (n : Nat) => (n : Int)) ++ [0])) : items.size = t.size + 1 ∧ ∀ p, p ≤ t.size → ∃ u, items[p]? = some (.int (t.sy p) u) := by
  have hl := ints_len h
  simp only [Array.length_toList, List.length_append, List.length_map, List.length_singleton, t.code_len] at hl
  refine ⟨hl, fun p hp => ?_⟩
  obtain ⟨u, e⟩ := ints_get h p (items[p]'(by omega)) (by rw [Array.getElem?_toList, Array.getElem?_eq_getElem (by omega)])
  refine ⟨u, ?_⟩
  rw [Array.getElem?_eq_getElem (by omega), e]
  congr 2
  unfold Tr.sy
  rw [List.getD_eq_getElem?_getD, List.getD_eq_getElem?_getD]
  by_cases q : p < t.size
  · rw [List.getElem?_append_left (by rw [List.length_map, t.code_len]; exact q), List.getElem?_map]
    rw [List.getElem?_eq_getElem (by rw [t.code_len]; exact q)]
    rfl
  · have : p = t.size := by omega
    subst this
    have e2 : t.code[t.size]? = none := List.getElem?_eq_none (by rw [t.code_len]; exact Nat.le_refl _)
    rw [e2, List.getElem?_append_right (by rw [List.length_map, t.code_len]; exact Nat.le_refl _), List.length_map, t.code_len, Nat.sub_self]
    rfl
theorem maskD : ∀ F, F < 256 → ∀ i, i < 8 → (Builtin.bitAnd (((F : Nat) : Int).fdiv (2 ^ (((i : Nat) : Int)).toNat)) 1 != 0) = F.testBit i := by decide +kernel
theorem maskBit {f : Nat → Bool} {M : Int} (h : MaskOk f M) {i : Nat} (hi : i < 8) : (Builtin.bitAnd (M.fdiv (2 ^ (((i : Nat) : Int)).toNat)) 1 != 0) = f i := by
  obtain ⟨F, rfl, hF, hf⟩ := h
  rw [maskD F hF i hi, hf i hi]
theorem Tr.val0 (t : Tr) : t.val 0 = t.ev := by
  funext w
  show (t.sub 0).ev w = _
  rw [t.sub_zero]
/-- what stands on the ledger from the reading on -/
structure LawS (w : World) (tr : Tr) (x l lq lr ls ds dh : Addr) (ρ0 : Led) : Prop where
  hx : ∃ dx tk, (x, instObj 213 dx) ∈ ρ0 ∧ (dx, dictOf (hes w tk l) 1) ∈ ρ0
  rest : ∃ it c, (lr, lst it c) ∈ ρ0 ∧ StrsAre it.toList (hvW fun w => !tr.ev w)
  held : ∃ it c, (lq, lst it c) ∈ ρ0 ∧ StrsAre it.toList (hvW tr.ev)
  sym : ∃ it c, (ls, lst it c) ∈ ρ0 ∧ it.size = tr.size + 1 ∧ ∀ p, p ≤ tr.size → ∃ u, it[p]? = some (.int (tr.sy p) u)
  sides : ∃ o kd, (ds, o) ∈ ρ0 ∧ DObj w o kd ∧ SidesOk tr.size tr.sy tr.lt tr.rt ρ0 kd 0
  hd : ∃ o kh, (dh, o) ∈ ρ0 ∧ DObj w o kh ∧ HeldOk tr.size tr.val ρ0 kh 0 ∧ valueAt kh 0 = some (.ref lq)
structure LawM (M : Int) (tb : Tok) (x lr ls ds dh : Addr) (m : Str → Option Value) : Prop where
  mask : m "mask" = some (.int M tb)
  parted : m "parted" = some (.ref x)
  rest : m "rest" = some (.ref lr)
  symbols : m "symbols" = some (.ref ls)
  sides : m "sides" = some (.ref ds)
  held : m "held" = some (.ref dh)
theorem lawB {w : World} {A : Around} {s s₁ : Shared} {Q : Flow → Shared → Prop} {E : Value → Shared → Prop} {L fa : Addr} {cd : Value} {oc : Value} {od : Option Addr} {osl : Array (Option Value)} {fd : FuncData} {body : List Stmt}
  {tr : Tr} {M : Int} {m : Str → Option Value} {lw : Addr} {wits : Array Value} {wc : Nat} {ta tb : Tok}
  (ho : (KK w).lookup 258 = some ⟨oc, od, .func fd, osl⟩) (hb : fd.body = .stmts body) (hA : AOk 5 A)
  (tok : tr.ok) (tsz : tr.size = 11) (hM : MaskOk tr.ev M) (m1 : m "text" = some (.str ⟨(txt tr.code).toArray⟩ ta)) (m2 : m "mask" = some (.int M tb)) (m3 : m "words" = some (.ref lw))
  (H : (StI (lawG s w fd L fa cd) m [(lw, lst wits wc)]).p s₁) (hw : StrsAre wits.toList ((List.range 8).map word))
  (k : ∀ m x l lq lr ls ds dh ρ0 c s', LawS w tr x l lq lr ls ds dh ρ0 → LawM M tb x lr ls ds dh m → (StI (lawG s w fd L fa cd) m ((l, lst #[] c) :: ρ0)).p s' → wpAny (model PP w) A (execs (body.drop 8) (lawG s w fd L fa cd).env) Q E s') :
  wpAny (model PP w) A (execs (body.drop 3) (lawG s w fd L fa cd).env) Q E s₁ := by
  have h : (KK w).lookup 258 = some ⟨?oc, ?od, .func ?fd, ?osl⟩ := by rfl
  rw [h] at ho
  cases ho
  cases hb
  dsimp only [List.drop]
  repeat walk_at "g11"
  rename Inv.p _ _ => H
  refine ⟨Inv.wd _ H, o_refS (fun R k => spec_symbols (Inv.wd _ H) (AOk.mono hA (by decide)) (tr.code_syms tok) (by rw [tr.code_len, tsz]; decide) k) ?_⟩
  rintro v s' es ks ⟨ls, sits, sc, rfl, d1, d2, d3⟩
  replace H := St.addOn H es ks d2 d1
  clear es ks d1 d2
  obtain ⟨ssz, ssy⟩ := sy_of d3
  repeat walk_at "g11"
  rename Inv.p _ _ => H
  refine ⟨Inv.wd _ H, o_refS (fun R k => spec_read (Inv.wd _ H) (AOk.mono hA (by decide)) (tr.rdP tok (by omega)) (St.led H _ (.head _)) ssz ssy (St.led H _ (.tail _ (.head _))) hw k) ?_⟩
  rintro v s' es ks ⟨tp, ρ, rfl, d1, d2, d3⟩
  have H2 := St.adds (t := s'.toks) H ks ρ d1 d2
  rw [← es] at H2
  clear H es ks d1 d2
  rename Inv.p _ _ => H
  obtain ⟨lp, ds, dh, pit, pc, od, oh, kd, kh, r1, r2, r3, r4, r5, r6, r7, r8, r9⟩ := d3
  refine a_three hA.hh H (St.led H _ (List.mem_append_left _ r1)) (fun s H => ?_)
  repeat walk_at "g11"
  rename Inv.p _ _ => H
  have pw : (lw, lst wits wc) ∈ ρ ++ [(ls, lst sits sc), (lw, lst wits wc)] := by simp
  rw [tr.stk0] at r5
  refine ne_ints (St.isList H (.tail _ (List.mem_append_left _ r2)) LObj.lst) (St.isList H (.head _) LObj.lst) r5 (.cons _ _ .nil) hA.u ?_
  repeat walk_at "g11"
  refine ⟨fun h => (nomatch h), fun _ => ?_⟩
  repeat walk_at "g11"
  rename Inv.p _ _ => H
  obtain ⟨lq, it, qc, q1, q2, q3⟩ := r9 0 (Nat.le_refl _) (by omega)
  rw [tr.val0] at q3
  refine it_dict H (St.led H _ (.tail _ (List.mem_append_left _ r4))) r7 q1 (fun s H => ?_)
  repeat walk_at "g11"
  rename Inv.p _ _ => H
  refine ct_range (n := 8) H (.head _) (by decide) (by decide) hA.hh (by decide) (by rfl) (fun ν i o => i < 8 ∧ ((tr.ev i = true ∧ ∃ y, o = some y ∧ isS (word i) y) ∨ (tr.ev i = false ∧ o = none))) (fun _ _ _ _ _ h => h) ?_ (post_plain fun D ys c ν s' H' hL => ?_)
  · rintro C i v mm σc s' hi ⟨t, rfl⟩ hmm Hc
    have mM : mm "mask" = some (.int M tb) := (hmm "mask" (by rfl)).trans (by walk_at "lk")
    have mW : mm "words" = some (.ref lw) := (hmm "words" (by rfl)).trans (by walk_at "lk")
    rw [show (0 + (i : Int) * 1) = ((i : Nat) : Int) by omega] at Hc ⊢
    have hwl := St.isList H (.tail _ (.tail _ pw)) LObj.lst
    clear H
    repeat walk_at "g11"
    refine i_shr (by assumption) (by omega) (fun t s H => ?_)
    repeat walk_at "g11"
    rw [maskBit hM hi]
    refine ⟨fun hc => ?_, fun hc => ?_⟩
    · repeat walk_at "g11"
      rename Inv.p _ _ => H
      have hi8 : i < wits.size := by rw [ints_of_words hw]; exact hi
      obtain ⟨_, tv, htv⟩ := words_at hw (Array.getElem?_eq_getElem hi8)
      refine it_lst (keepL hwl (St.keep H)) (by omega) (by omega) (by rw [Int.toNat_natCast, Array.getElem?_eq_getElem hi8]) ?_
      rw [htv]
      exact ⟨[], H, hi, .inl ⟨hc, _, rfl, _, rfl⟩⟩
    · exact ⟨[], by assumption, hi, .inr ⟨hc, rfl⟩⟩
  · have hp : StrsAre ys.toList (hvW tr.ev) := by
      refine strsAre_of (paired_map (f := word) ?_)
      exact hL.paired (p := tr.ev) (xs := List.range 8) (G := fun (i : Nat) v => isS (word i) v) (by simp) fun i o ⟨h8, h⟩ => ⟨i, by rw [List.getElem?_range h8], h⟩
    clear H hL
    rename Inv.p _ _ => H
    replace H : (StI _ _ ((D, lst ys c) :: (ρ ++ [(ls, lst sits sc), (lw, lst wits wc)]))).p s' := St.drop H (.cons_cons _ ((((List.Sublist.refl _).cons _).cons _).trans (List.sublist_append_right _ _)))
    refine ne_strs (St.isList H (.tail _ (List.mem_append_left _ q2)) LObj.lst) (St.isList H (.head _) LObj.lst) q3 hp hA.u ?_
    repeat walk_at "g11"
    refine ⟨fun h => (nomatch h), fun _ => ?_⟩
    repeat walk_at "g11"
    refine ⟨fun h => (nomatch h), fun _ => ?_⟩
    repeat walk_at "g11"
    rename Inv.p _ _ => H
    replace H := StI.tl H
    refine ct_list H (St.isList H pw LObj.lst) hA.hh (by rw [ints_of_words hw]; decide) (by rfl) (fun ν i o => i < 8 ∧ ((!tr.ev i) = true ∧ (∃ y, o = some y ∧ isS (word i) y) ∨ ((!tr.ev i) = false ∧ o = none))) (fun _ _ _ _ _ h => h) ?_ (post_used fun D2 ys2 c2 ν2 s2 H2 hL2 => ?_)
    · intro C i v mm σc s' hi hv hmm Hc
      obtain ⟨hi, tv, rfl⟩ := words_at hw hv
      have mH : mm "held" = some (.ref dh) := (hmm "held" (by rfl)).trans (by walk_at "lk")
      have hd := St.led H _ (List.mem_append_left _ r4)
      have hq := St.led H _ (List.mem_append_left _ q2)
      clear H
      repeat walk_at "g11"
      rename Inv.p _ _ => H
      refine it_dict H (St.keep H _ _ hd) r7 q1 (fun s H => ?_)
      refine nin_strs (St.keep H _ _ hq) q3 ?_
      rw [any_hv _ hi]
      repeat walk_at "g11"
      refine ⟨fun hc => ?_, fun hc => ?_⟩
      · repeat walk_at "g11"
        exact ⟨[], by assumption, hi, .inl ⟨hc, _, rfl, _, rfl⟩⟩
      · exact ⟨[], by assumption, hi, .inr ⟨hc, rfl⟩⟩
    · have hp2 : StrsAre ys2.toList (hvW fun w => !tr.ev w) := by
        refine strsAre_of (paired_map (f := word) ?_)
        refine hL2.paired (p := fun w => !tr.ev w) (xs := List.range 8) (G := fun (i : Nat) v => isS (word i) v) ?_ fun i o ⟨h8, h⟩ => ⟨i, by rw [List.getElem?_range h8], h⟩
        rw [ints_of_words hw]; simp
      clear H hL2
      rename Inv.p _ _ => H
      replace H : (StI _ _ ((D2, lst ys2 c2) :: (ρ ++ [(ls, lst sits sc), (lw, lst wits wc)]))).p s2 := St.drop H (.cons_cons _ (List.sublist_append_right _ _))
      repeat walk_at "g11"
      rename Inv.p _ _ => H
      refine ⟨Inv.wd _ H, o_newh H (AOk.mono hA (by decide)) (fun x dx l tk c3 s H => ?_)⟩
      walk_at "g11"
      rename Inv.p _ _ => H
      have rin : ∀ p ∈ ρ, p ∈ (x, instObj 213 dx) :: (dx, dictOf (hes w tk l) 1) :: (D2, lst ys2 c2) :: (ρ ++ [(ls, lst sits sc), (lw, lst wits wc)]) := fun p hp => .tail _ (.tail _ (.tail _ (List.mem_append_left _ hp)))
      refine k _ x l lq D2 ls ds dh _ c3 _ ⟨⟨dx, tk, .head _, .tail _ (.head _)⟩, ⟨ys2, c2, .tail _ (.tail _ (.head _)), hp2⟩, ⟨it, qc, rin _ q2, q3⟩, ⟨sits, sc, .tail _ (.tail _ (.tail _ (List.mem_append_right _ (.head _)))), ssz, ssy⟩,
        ⟨od, kd, rin _ r3, r6, fun q a b c => let ⟨tp, tl, tr, y, z⟩ := r8 q a b c; ⟨tp, tl, tr, y, rin _ z⟩⟩, ⟨oh, kh, rin _ r4, r7, fun q a b => let ⟨lq, it, c, y, z, e⟩ := r9 q a b; ⟨lq, it, c, y, rin _ z, e⟩, q1⟩⟩
        ⟨by walk_at "lk", by walk_at "lk", by walk_at "lk", by walk_at "lk", by walk_at "lk", by walk_at "lk"⟩ H

theorem LawS.tabK {w : World} {tr : Tr} {x l lq lr ls ds dh : Addr} {ρ0 : Led} (T : LawS w tr x l lq lr ls ds dh ρ0) {h : Heap} (hh : ∀ p ∈ ρ0, h.get? p.1 = some p.2) : TabK w h tr.size tr.sy tr.lt tr.rt (fun p => hvW (tr.val p)) ls ds dh where
  sym := let ⟨it, c, a, _, b⟩ := T.sym; ⟨it, ⟨_, hh _ a, rfl, _, rfl⟩, b⟩
  sides := let ⟨o, kd, a, b, c⟩ := T.sides; ⟨o, kd, hh _ a, b, fun p hp hs => let ⟨tp, tl, tr, y, z⟩ := c p (Nat.zero_le _) hp hs; ⟨tp, tl, tr, y, hh _ z⟩⟩
  held := let ⟨o, kh, a, b, c, _⟩ := T.hd; ⟨o, kh, hh _ a, b, fun p hp => let ⟨lq, it, c, y, z, e⟩ := c p (Nat.zero_le _) hp; ⟨lq, it, c, y, hh _ z, e⟩⟩
theorem LawS.hobj {w : World} {tr : Tr} {x l lq lr ls ds dh : Addr} {ρ0 : Led} (T : LawS w tr x l lq lr ls ds dh ρ0) {h : Heap} (hh : ∀ p ∈ ρ0, h.get? p.1 = some p.2) : HObj w h x l :=
  let ⟨dx, tk, a, b⟩ := T.hx; ⟨dx, tk, hh _ a, hh _ b⟩
theorem LawM.up {M : Int} {tb : Tok} {x lr ls ds dh : Addr} {m : Str → Option Value} (T : LawM M tb x lr ls ds dh m) {n : Str} {v : Value} (h : n ∉ (["mask", "parted", "rest", "symbols", "sides", "held"] : List Str)) : LawM M tb x lr ls ds dh (up m n v) where
  mask := by rw [up_ne (fun e => h (by rw [← e]; decide))]; exact T.mask
  parted := by rw [up_ne (fun e => h (by rw [← e]; decide))]; exact T.parted
  rest := by rw [up_ne (fun e => h (by rw [← e]; decide))]; exact T.rest
  symbols := by rw [up_ne (fun e => h (by rw [← e]; decide))]; exact T.symbols
  sides := by rw [up_ne (fun e => h (by rw [← e]; decide))]; exact T.sides
  held := by rw [up_ne (fun e => h (by rw [← e]; decide))]; exact T.held
def kvOf (t : Tr) (x : Nat × Nat) : Str × Str := (keyOf t x, sp2 (word x.1) (word x.2))
theorem spOk : ∀ u, u < 8 → ∀ v, v < 8 → cleanB (sp2 (word u) (word v)) = true ∧ (sp2 (word u) (word v)).length = 7 ∧ (word u ++ (" " : Str)).length = 4 ∧ (word u).length = 3 := by decide +kernel
theorem ysW (f : Nat → Bool) : hvW f = (ys f).map word := rfl
theorem ys_len (f : Nat → Bool) : (ys f).length ≤ 8 := by
  have := List.length_filter_le f (List.range 8)
  simpa [ys] using this
theorem hv_at {f : Nat → Bool} {items : Array Value} (h : StrsAre items.toList (hvW f)) {i : Nat} {v : Value} (hv : items[i]? = some v) : ∃ u t, (ys f)[i]? = some u ∧ v = .str (word u) t := by
  obtain ⟨y, t, a, b⟩ := strs_get h i v (by rw [Array.getElem?_toList]; exact hv)
  rw [ysW, List.getElem?_map] at a
  obtain ⟨u, hu, rfl⟩ := Option.map_eq_some_iff.mp a
  exact ⟨u, t, hu, b⟩
theorem prod_take {A B : List Nat} {i u : Nat} (h : A[i]? = some u) : prod (A.take (i + 1)) B = prod (A.take i) B ++ B.map fun v => (u, v) := by
  rw [List.take_add_one, h]
  simp [prod]
theorem take_map {B : List Nat} {j v u : Nat} (h : B[j]? = some v) : (B.take (j + 1)).map (fun v => (u, v)) = (B.take j).map (fun v => (u, v)) ++ [(u, v)] := by
  rw [List.take_add_one, h]
  simp
theorem g1 {n : Nat} : (((256 + n : Nat) : Int) - 256) = ((n : Nat) : Int) := by omega
theorem g2 {x : Str} {k : Nat} (h : x.length = 3) (hk : k < 3) : -(x.length : Int) ≤ (k : Int) ∧ (k : Int) < x.length ∧ x.length ≤ 1000000 := by omega
theorem g3 {f : Nat → Bool} : (((List.range 3).filter f).length : Int) < 2 ^ 63 := by
  have := List.length_filter_le f (List.range 3)
  rw [List.length_range] at this
  omega
theorem g4 {a b c i : Nat} (h1 : a ≤ 8) (h2 : b ≤ 8) : min i a * b + min c b ≤ 1000 := by
  have : min i a * b ≤ 8 * 8 := Nat.mul_le_mul (Nat.le_trans (Nat.min_le_right _ _) h1) h2
  omega
theorem g5 {a : Nat} : ((a : Int) == 1) = (a == 1) := by
  rw [Bool.eq_iff_iff, beq_iff_eq, beq_iff_eq]
  exact ⟨fun h => by omega, fun h => by omega⟩
theorem g6 {b P : Nat} (h : b = 65 ∨ b = 97) (hP : P < 11) : b + P ≤ 1000 ∧ 32 ≤ b + P ∧ b + P < 127 := by omega
theorem g7 {P : Nat} (h : P < 11) : P < 11 + 1 ∧ (P : Int) < 2 ^ 63 := by omega
theorem both {w : World} {M : Model} {A : Around} {c1 c2 : Sem Value} {s : Shared} {I : Inv w} {b : Bool} {Q : Value → Shared → Prop} {E : Value → Shared → Prop} (H : I.p s) (z1 z2 : Nat)
    (h1 : ∀ Q, (∀ t s', I.p s' → Q (.int (z1 : Int) t) s') → wpAny M A c1 Q E s) (h2 : ∀ Q, (∀ t s', I.p s' → Q (.int (z2 : Int) t) s') → wpAny M A c2 Q E s)
    (k : ∀ (z : Nat) t s', (z = bif b then z1 else z2) → I.p s' → Q (.int (z : Int) t) s') : (b = true → wpAny M A c1 Q E s) ∧ (b = false → wpAny M A c2 Q E s) :=
  ⟨fun h => h1 _ fun t s' H => k z1 t s' (by rw [h]; rfl) H, fun h => h2 _ fun t s' H => k z2 t s' (by rw [h]; rfl) H⟩
theorem lawC {w : World} {A : Around} {s s₁ : Shared} {Q : Flow → Shared → Prop} {L fa : Addr} {cd : Value} {oc : Value} {od : Option Addr} {osl : Array (Option Value)} {fd : FuncData} {body : List Stmt}
  {tr : Tr} {M : Int} {m : Str → Option Value} {tb : Tok} {x l lq lr ls ds dh : Addr} {ρ0 : Led} {c : Nat}
  (ho : (KK w).lookup 258 = some ⟨oc, od, .func fd, osl⟩) (hb : fd.body = .stmts body) (hA : AOk 5 A)
  (tok : tr.ok) (tsz : tr.size = 11) (T : LawS w tr x l lq lr ls ds dh ρ0) (hm : LawM M tb x lr ls ds dh m) (H : (StI (lawG s w fd L fa cd) m ((l, lst #[] c) :: ρ0)).p s₁)
  (k : ∀ m items c ρk s', LawM M tb x lr ls ds dh m → HLσ ρk items ((pairsOf tr.ev).map (kvOf tr)) → (StI (lawG s w fd L fa cd) m ((l, lst items c) :: (ρk ++ ρ0))).p s' → wpAny (model PP w) A (execs (body.drop 9) (lawG s w fd L fa cd).env) Q (fun _ _ => False) s') :
  wpAny (model PP w) A (execs (body.drop 8) (lawG s w fd L fa cd).env) Q (fun _ _ => False) s₁ := by
  have h : (KK w).lookup 258 = some ⟨?oc, ?od, .func ?fd, ?osl⟩ := by rfl
  rw [h] at ho
  cases ho
  cases hb
  dsimp only [List.drop] at k ⊢
  have mheld := hm.held
  obtain ⟨oh, kh, th1, th2, th3, th4⟩ := T.hd
  obtain ⟨qit, qc, tq1, tq2⟩ := T.held
  obtain ⟨rit, rc, tr1, tr2⟩ := T.rest
  repeat walk_at "g11"
  rename Inv.p _ _ => H
  refine it_dict H (St.led H _ (.tail _ th1)) th2 th4 (fun s H => ?_)
  obtain ⟨J, hJ⟩ : ∃ J : Nat → (Str → Option Value) → Led → Prop, J = (fun i m σ => LawM M tb x lr ls ds dh m ∧ ∃ items c ρk, σ = (l, lst items c) :: (ρk ++ ρ0) ∧ HLσ ρk items ((prod ((ys tr.ev).take i) (ys fun w => !tr.ev w)).map (kvOf tr))) := ⟨_, rfl⟩
  refine it_list (items := qit) J hA.hh H
    (by rw [hJ]; exact ⟨hm, #[], _, [], rfl, rfl, fun i kv e => by simp [prod] at e⟩) (fun i m σ s h H => by rw [hJ] at h; obtain ⟨_, items, c, ρk, e, _⟩ := h; subst e; exact St.isList H (.tail _ (List.mem_append_right _ tq1)) LObj.lst) ?_ ?_ ?_
  · intro m σ s v Q E H hq
    exact s_cel H hq
  · clear H
    intro i v m σ I io s hv h H
    refine gen fun Ko hKo => ?_
    rw [hJ] at h
    obtain ⟨hm, items, c, ρk, rfl, hR⟩ := h
    obtain ⟨u, tu, hu, rfl⟩ := hv_at tq2 hv
    obtain ⟨u8, uT⟩ := ys_lt (List.mem_of_getElem? hu)
    have hm1 : LawM M tb x lr ls ds dh (up m "one" (.str (word u) tu)) := hm.up (by decide)
    have mone : up m "one" (.str (word u) tu) "one" = some (.str (word u) tu) := up_same
    clear hm
    generalize up m "one" (.str (word u) tu) = m1 at hm1 mone H
    have mrest := hm1.rest
    repeat walk_at "g11"
    rename Inv.p _ _ => H
    obtain ⟨J2, hJ2⟩ : ∃ J : Nat → (Str → Option Value) → Led → Prop, J = (fun j m σ => LawM M tb x lr ls ds dh m ∧ m "one" = some (.str (word u) tu) ∧ ∃ items c ρk, σ = (I, io) :: (l, lst items c) :: (ρk ++ ρ0) ∧ HLσ ρk items ((prod ((ys tr.ev).take i) (ys fun w => !tr.ev w) ++ ((ys fun w => !tr.ev w).take j).map fun v => (u, v)).map (kvOf tr))) := ⟨_, rfl⟩
    refine it_list (items := rit) J2 hA.hh H
      (by rw [hJ2]; exact ⟨hm1, mone, items, c, ρk, rfl, by rw [List.take_zero, List.map_nil, List.append_nil]; exact hR⟩) (fun i m σ s h H => by rw [hJ2] at h; obtain ⟨_, _, items, c, ρk, e, _⟩ := h; subst e; exact St.isList H (.tail _ (.tail _ (List.mem_append_right _ tr1))) LObj.lst) ?_ ?_ ?_
    · intro m σ s v Q E H hq
      exact s_cel H hq
    · clear H hm1 mone mrest hR items c ρk
      intro j v m σ I2 io2 s hv2 h H
      refine gen fun Ki hKi => ?_
      rw [hJ2] at h
      obtain ⟨hm, mone, items, c, ρk, rfl, hR⟩ := h
      obtain ⟨v, tv, hv', rfl⟩ := hv_at tr2 hv2
      obtain ⟨v8, vF⟩ := ys_lt (List.mem_of_getElem? hv')
      have vF : tr.ev v = false := by simpa using vF
      have huv : u ≠ v := fun e => by rw [e, vF] at uT; cases uT
      have hm1 : LawM M tb x lr ls ds dh (up m "other" (.str (word v) tv)) := hm.up (by decide)
      have mone1 : up m "other" (.str (word v) tv) "one" = some (.str (word u) tu) := by rw [up_ne (by decide)]; exact mone
      have moth : up m "other" (.str (word v) tv) "other" = some (.str (word v) tv) := up_same
      clear hm mone
      generalize up m "other" (.str (word v) tv) = m1 at hm1 mone1 moth H
      have msym := hm1.symbols
      have msid := hm1.sides
      have mhel := hm1.held
      have mpar := hm1.parted
      repeat walk_at "g11"
      rename Inv.p _ _ => H
      have hin : ∀ p ∈ ρ0, p ∈ (I2, io2) :: (I, io) :: (l, lst items c) :: (ρk ++ ρ0) := fun p hp => .tail _ (.tail _ (.tail _ (List.mem_append_right _ hp)))
      have hch := (tr.rdP tok (Nat.le_of_eq tsz)).join
      refine ⟨Inv.wd _ H, o_refS (fun R k => spec_walk (Inv.wd _ H) (AOk.mono hA (by decide)) (T.tabK fun p hp => St.led H _ (hin p hp)) (by rw [tsz]; decide) (by rw [tsz]; decide) (fun p h1 h2 => let ⟨_, _, _, a, b, c, d, _⟩ := hch p h1 h2; ⟨a, b, c, d⟩) k) ?_⟩
      rintro v0 s' es ks ⟨t0, tp, ty, tn, rfl, d1⟩
      replace H := Inv.on _ H es ks
      rw [kwF_eq tr tok tr 0 tr.size u v tr.size_pos tr.sub_zero (Nat.le_refl _) u8 v8] at d1
      obtain ⟨plt, r, r6, hsub, ly, ln⟩ := leafPair tr tok uT vF
      obtain ⟨y8, n8⟩ := tr.kw_lt 0 u v u8 v8
      have hsy := Tr.sy_leaf plt hsub
      have hpl : pl tr (u, v) = (tr.kw 0 u v).1 := rfl
      generalize (tr.kw 0 u v).1 = P at d1 plt hsub hsy hpl
      generalize (tr.kw 0 u v).2.1 = y at d1 ly y8
      generalize (tr.kw 0 u v).2.2 = n at d1 ln n8
      refine a_three hA.hh H d1 (fun s H => ?_)
      clear es ks d1 hsub hch
      obtain ⟨sit, sc, ts1, ts2, ts3⟩ := T.sym
      obtain ⟨tsy, hsyp⟩ := ts3 P (Nat.le_of_lt plt)
      rw [hsy] at hsyp
      clear ts3
      have pl11 : P < 11 := tsz ▸ plt
      repeat walk_at "g11"
      rename Inv.p _ _ => H
      refine it_lst (St.isList H (hin _ ts1) LObj.lst) (Int.natCast_nonneg _) (g7 pl11).2 (by rw [Int.toNat_natCast]; exact hsyp) ?_
      repeat walk_at "g11"
      rename Inv.p _ _ => H
      rw [g1]
      refine o_chr H (Nat.le_trans (ltrOf_le r r6) (by decide)) (fun t s H => ?_)
      repeat walk_at "g11"
      rename Inv.p _ _ => H
      refine ⟨Inv.wd _ H, o_ref H (fun R k => spec_lev (Inv.wd _ H) (AOk.mono hA (by decide)) u8 v8 huv k) ?_⟩
      rintro v0 s H ⟨tl, rfl⟩
      repeat walk_at "g11"
      refine SB.notContains ?_
      rw [← leafC r r6 y y8, ly]
      repeat walk_at "g11"
      refine ⟨fun h => (nomatch h), fun _ => ?_⟩
      repeat walk_at "g11"
      refine SB.contains ?_
      rw [← leafC r r6 n n8, ln]
      repeat walk_at "g11"
      refine ⟨fun h => (nomatch h), fun _ => ?_⟩
      repeat walk_at "g11"
      rename Inv.p _ _ => H
      refine ct_range (n := 3) H (.head _) (by decide) (by decide) hA.hh (by decide) (by rfl) (fun ν k o => k < 3 ∧ (((Txt.item (word u) (k : Nat) != Txt.item (word v) (k : Nat)) = true ∧ ∃ y, o = some y ∧ True) ∨ ((Txt.item (word u) (k : Nat) != Txt.item (word v) (k : Nat)) = false ∧ o = none))) (fun _ _ _ _ _ h => h) ?_ (post_plain fun D ys' c' ν s' H' hL => ?_)
      · rintro C k w0 mm σc s' hk ⟨t, rfl⟩ hmm Hc
        have mo : mm "one" = some (.str (word u) tu) := (hmm "one" (by rfl)).trans (by walk_at "lk")
        have mt : mm "other" = some (.str (word v) tv) := (hmm "other" (by rfl)).trans (by walk_at "lk")
        rw [s3] at Hc ⊢
        have lu := (spOk u u8 v v8).2.2.2
        have lv := (spOk v v8 u u8).2.2.2
        clear H
        repeat walk_at "g11"
        refine it_str (by assumption) (g2 lu hk).1 (g2 lu hk).2.1 (g2 lu hk).2.2 (fun t s H => ?_)
        repeat walk_at "g11"
        refine it_str (by assumption) (g2 lv hk).1 (g2 lv hk).2.1 (g2 lv hk).2.2 (fun t s H => ?_)
        repeat walk_at "g11"
        refine ⟨fun hc => ?_, fun hc => ?_⟩
        · repeat walk_at "g11"
          exact ⟨[], by assumption, hk, .inl ⟨hc, _, rfl, trivial⟩⟩
        · exact ⟨[], by assumption, hk, .inr ⟨hc, rfl⟩⟩
      have hys : ys'.size = apart (word u) (word v) := by
        have := (hL.paired (p := fun k => Txt.item (word u) (k : Nat) != Txt.item (word v) (k : Nat)) (xs := List.range 3) (G := fun _ _ => True) (by simp) fun k o ⟨h3, h⟩ => ⟨k, by rw [List.getElem?_range h3], h⟩).length
        rw [Array.length_toList] at this
        exact this.symm
      clear H hL
      rename Inv.p _ _ => H
      replace H : (StI _ _ ((D, lst ys' c') :: (I2, io2) :: (I, io) :: (l, lst items c) :: (ρk ++ ρ0))).p s' := St.drop H (.cons_cons _ (((List.Sublist.refl _).cons _).trans (List.sublist_append_right _ _)))
      repeat walk_at "g11"
      rename Inv.p _ _ => H
      refine o_len_lst _ H (St.isList H (.head _) LObj.lst) (by rw [hys]; exact g3) (fun t s H => ?_)
      replace H := StI.tl H
      repeat walk_at "g11"
      refine ⟨fun h => absurd h (by rw [hys]; simp), fun _ => ?_⟩
      repeat walk_at "g11"
      refine ⟨fun h => (nomatch h), fun _ => ?_⟩
      repeat walk_at "g11"
      rename Inv.p _ _ => H
      refine o_hmeth (Inv.wd _ H) (T.hobj fun p hp => St.led H _ (hin p hp)) cM_add cT_add (fun tk => by rfl) ?_
      have hsz : items.size ≤ 1000 := by
        rw [hR.1, List.length_map, List.length_append, prod_len, List.length_map, List.length_take, List.length_take]
        exact g4 (ys_len _) (ys_len _)
      obtain ⟨sp1, sp2', sp3, sp4⟩ := spOk u u8 v v8
      have sp5 := (spOk v v8 u u8).2.2.2
      repeat walk_at "g11"
      rename Inv.p _ _ => H
      refine both H 65 97 (fun Q q => ?_) (fun Q q => ?_) (fun z t s hz H => ?_)
      · repeat walk_at "g11"
        exact q _ _ (by assumption)
      · repeat walk_at "g11"
        exact q _ _ (by assumption)
      rw [g5] at hz
      have hkey : keyOf tr (u, v) = ch (z + P) := by
        unfold keyOf
        rw [hpl, hz]
        show ch ((if (apart (word u) (word v) == 1) = true then 65 else 97) + P) = _
        cases (apart (word u) (word v) == 1) <;> rfl
      have hz2 : z = 65 ∨ z = 97 := by
        rw [hz]
        cases (apart (word u) (word v) == 1) <;> simp
      clear hz
      obtain ⟨g61, g62, g63⟩ := g6 hz2 pl11
      repeat walk_at "g11"
      rename Inv.p _ _ => H
      rw [show ((z : Int) + (P : Int)) = ((z + P : Nat) : Int) by push_cast; rfl]
      refine o_chr H g61 (fun t s H => ?_)
      repeat walk_at "g11"
      refine o_add_str (by assumption) (by rw [sp4]; decide) (fun t s H => ?_)
      repeat walk_at "g11"
      refine o_add_str (by assumption) (by rw [sp3, sp5]; decide) (fun t s H => ?_)
      repeat walk_at "g11"
      rename Inv.p _ _ => H
      refine ⟨Inv.wd _ H, o_addh (pre := [(I2, io2), (I, io)]) H (AOk.mono hA (by decide)) (T.hobj fun p hp => St.led H _ (hin p hp)) (ch_clean g62 g63) (cleanB_ok sp1) (Nat.le_trans (Nat.le_of_eq sp2') (by decide)) hsz (fun T0 c'' t1 t2 s H => ?_)⟩
      refine ⟨fun a h => (nomatch h), ?_⟩
      repeat walk_at "g11"
      rename Inv.p _ _ => H
      subst hKi
      refine tq_next ⟨_, _, St.perm H (List.perm_middle (l₁ := [(I2, io2), (I, io), (l, _)]) (a := _) (l₂ := ρk ++ ρ0)), ?_⟩
      rw [hJ2]
      refine ⟨((((hm1.up (by decide)).up (by decide)).up (by decide)).up (by decide)).up (by decide), by walk_at "lk", items.push (.ref T0), c'', (T0, _) :: ρk, rfl, ?_⟩
      rw [take_map hv', ← List.append_assoc, List.map_append]
      have hkv : [(u, v)].map (kvOf tr) = [(ch (z + P), sp2 (word u) (word v))] := by
        show [(keyOf tr (u, v), _)] = _
        rw [hkey]
      rw [hkv]
      exact HLσ.push (hR.mono fun p hp => .tail _ hp) (.head _)
    · clear H hm1 mone mrest hR
      intro m σ s h H
      rw [hJ2] at h
      obtain ⟨hm, mone, items, c, ρk, rfl, hR⟩ := h
      refine lr_next ?_
      repeat walk_at "g11"
      subst hKo
      refine tq_next ⟨m, _, by assumption, ?_⟩
      rw [hJ]
      refine ⟨hm, items, c, ρk, rfl, ?_⟩
      rw [prod_take hu]
      have e : rit.size = (ys fun w => !tr.ev w).length := by have := strs_len tr2; rw [Array.length_toList, ysW, List.length_map] at this; exact this
      rw [e, List.take_length] at hR
      exact hR
  · intro m σ s h H
    rw [hJ] at h
    obtain ⟨hm, items, c, ρk, rfl, hR⟩ := h
    refine lr_next ?_
    have e : qit.size = (ys tr.ev).length := by have := strs_len tq2; rw [Array.length_toList, ysW, List.length_map] at this; exact this
    rw [e, List.take_length] at hR
    exact k m items c ρk s hm hR H

section
variable {w : World} {A : Around} {E : Value → Shared → Prop} {s : Shared} {Γ : Fd} {m : Str → Option Value} {σ : Led}
theorem o_hlen {I : Inv w} {x l : Addr} {items : Array Value} {Q : Value → Shared → Prop} (H : I.p s) (hA : AOk 2 A) (hx : HObj w s.heap x l) (hl : s.heap.IsList l items) (hz : items.size ≤ 1000) (h : ∀ t s, I.p s → Q (.int items.size t) s) :
    wpAny (model PP w) A (call (.builtin "len") ([] ++ [.ref x])) Q E s := by
  obtain ⟨dx, tk, i⟩ := hx.inst
  refine Calls.call_function_entry kind_len plain_len entry_len (args_len1 _) ?_
  unfold Builtin.«len»
  refine wpAny_bind (m := oneArg "len" _) (wpAny_pure ?_)
  refine wpAny_bind (m := callSpecial? (.ref x) (Str.ofString "__len__")) (special_fn (I.wd H).k i cM_len cT_len (wpAny_mono (o_ref (A := A.in1) (E := E) (Q := fun v s' => (∃ t, v = .int items.size t) ∧ I.p s') H (fun R k => spec_hlen (I.wd H) (AOk.in1 hA) hx hl (by omega) k) fun v s' hs hv => ⟨hv, hs⟩) (fun r s' hr => ?_) fun _ _ y => y))
  obtain ⟨⟨t, rfl⟩, hs⟩ := hr
  refine wpAny_bind (wpAny_holding (wpAny_pure ?_))
  refine wpAny_bind (wpAny_letGo ?_)
  show wpAny _ _ (if ((items.size : Nat) : Int) < 0 then _ else _) _ _ _
  rw [if_neg (by omega)]
  show wpAny _ _ (if ((items.size : Nat) : Int) ≥ 2 ^ 63 then _ else _) _ _ _
  rw [if_neg (by omega)]
  exact wpAny_bind (wpAny_mkInt (wpAny_pure ⟨_, rfl, h _ _ (I.tok hs)⟩))
theorem e_comp2 {elt : Expr} {sc : Scope} {pos : Pos} {g g' : Comprehension} {Q : Value → Shared → Prop} (h : wpAny (model PP w) A (eval g.iter Γ.env) (fun xv s₁ => wpAny (model PP w) A (pyIter xv) (CT PP w A E Γ sc (.ListComp elt [g, g'] sc pos) (fun acc C => compPost (model PP w) A E none Q acc C)) E s₁) E s)
    (hs : ∀ x, foldedSetIterable g.iter Γ.env x = pure x := by intro _; rfl) (hg : g.is_async = 0 := by rfl) (hclos : closureFor sc Γ.env = pure (clOf sc Γ.cs) := by rfl) (hkind : sc.kind = .function := by rfl) (hnames : (sc.names.all fun x => x.2 != .local || sc.names.lookup x.1 == some .local) = true := by rfl) :
    wpAny (model PP w) A (eval (.ListComp elt [g, g'] sc pos) Γ.env) Q E s := by
  rw [eval_ListComp]
  obtain ⟨tg, it, fs, ay⟩ := g
  dsimp only at hg
  subst hg
  exact wpAny_comprehension_free (use := none) rfl hs hclos hkind (fun y hy hl => by have := List.all_eq_true.mp hnames y hy; rw [hl] at this; simpa using this) h
end
local macro_rules | `(tactic| walk_at "g12") => `(tactic| first
  | walk_at "g11"
  | ((with_reducible refine' e_comp2 ?_ ?z ?a ?b ?c ?d); (case z => (intro _; rfl)); (case a | b | c | d => rfl)))
/-- the keys, plainly -/
theorem pl_lt {t : Tr} (ht : t.ok) (hN : t.size = 11) {x : Nat × Nat} (hx : x ∈ pairsOf t.ev) : pl t x < 11 := by
  obtain ⟨_, _, a, b⟩ := pairs_mem hx
  have := (leafPair t ht a b).1
  rw [hN] at this
  exact this
theorem key_low {t : Tr} (ht : t.ok) (hN : t.size = 11) {x : Nat × Nat} (hx : x ∈ pairsOf t.ev) : lowOk (keyOf t x) ∧ Txt.lower (keyOf t x) = ch (97 + pl t x) := by
  obtain ⟨a, b, c, d⟩ := ch_ok _ (pl_lt ht hN hx)
  unfold keyOf
  cases e : dd x == 1
  · exact ⟨a, b⟩
  · exact ⟨d, c⟩
theorem key_rows {t : Tr} (ht : t.ok) (hN : t.size = 11) (p : Nat) (hp : p < 11) : ((((pairsOf t.ev).map (kvOf t)).filter fun kv => Txt.lower kv.1 == Txt.lower (ch (97 + p))).map (·.2)) = (rowsOf t p).map fun r => sp2 r.1 r.2 := by
  rw [List.filter_map, List.map_map]
  unfold rowsOf
  rw [List.map_map]
  have : (pairsOf t.ev).filter ((fun kv : Str × Str => Txt.lower kv.1 == Txt.lower (ch (97 + p))) ∘ kvOf t) = (pairsOf t.ev).filter fun x => pl t x == p := by
    refine List.filter_congr fun x hx => ?_
    show (Txt.lower (keyOf t x) == Txt.lower (ch (97 + p))) = _
    rw [(key_low ht hN hx).2, (ch_ok p hp).2.1, ch_eq, Bool.eq_iff_iff, beq_iff_eq, beq_iff_eq]
    omega
  rw [this]; rfl
theorem key_cnt {t : Tr} (ht : t.ok) (hN : t.size = 11) (p : Nat) (hp : p < 11) : (((pairsOf t.ev).map (kvOf t)).map (·.1)).countP (· == ch (65 + p)) = ((pairsOf t.ev).filter fun x => pl t x == p).countP fun x => dd x == 1 := by
  rw [List.map_map, List.countP_map, List.countP_filter]
  refine List.countP_congr fun x hx => ?_
  have hq := pl_lt ht hN hx
  show (keyOf t x == ch (65 + p)) = true ↔ _
  unfold keyOf
  rw [ch_eq]
  cases e : dd x == 1
  · simp; omega
  · simp
theorem spSpl : ((List.range 8).all fun u => (List.range 8).all fun v => decide ((sp2 (word u) (word v)).length ≤ sizeLine) && decide ((Builtin.Str.spaceWords (sp2 (word u) (word v)) ((sp2 (word u) (word v)).length + 1)).length ≤ sizeLine) && decide (Txt.words (sp2 (word u) (word v)) = [word u, word v])) = true := by decide +kernel
theorem row_spl {t : Tr} (p : Nat) : ∀ r ∈ rowsOf t p, splOk (sp2 r.1 r.2) ∧ Txt.words (sp2 r.1 r.2) = [r.1, r.2] := fun r hr => by
  obtain ⟨x, hx, rfl⟩ := List.mem_map.mp hr
  obtain ⟨a, b, _⟩ := pairs_mem (List.mem_filter.mp hx).1
  have := List.all_eq_true.mp (List.all_eq_true.mp spSpl x.1 (List.mem_range.mpr a)) x.2 (List.mem_range.mpr b)
  simp only [Bool.and_eq_true, decide_eq_true_eq] at this
  exact ⟨this.1, this.2⟩
theorem upOk : ∀ p, p < 11 → Txt.isupper (ch (65 + p)) = true ∧ Txt.isupper (ch (97 + p)) = false := by decide +kernel
theorem key_up {t : Tr} (ht : t.ok) (hN : t.size = 11) {x : Nat × Nat} (hx : x ∈ pairsOf t.ev) : Txt.isupper (keyOf t x) = (dd x == 1) := by
  obtain ⟨a, b⟩ := upOk _ (pl_lt ht hN hx)
  unfold keyOf
  cases e : dd x == 1
  · exact b
  · exact a
theorem nearX : ∀ w, w < 8 → ∀ k, k < 3 → Builtin.bitXor ((w : Nat) : Int) (1 * 2 ^ (((k : Nat) : Int)).toNat) = ((w ^^^ 2 ^ k : Nat) : Int) ∧ w ^^^ 2 ^ k < 8 := by decide +kernel

theorem lawD {w : World} {A : Around} {s s₁ : Shared} {Q : Flow → Shared → Prop} {L fa : Addr} {cd : Value} {oc : Value} {od : Option Addr} {osl : Array (Option Value)} {fd : FuncData} {body : List Stmt}
  {tr : Tr} {M : Int} {m : Str → Option Value} {tb : Tok} {x l lq lr ls ds dh : Addr} {ρ0 ρk : Led} {c : Nat} {items : Array Value}
  (ho : (KK w).lookup 258 = some ⟨oc, od, .func fd, osl⟩) (hb : fd.body = .stmts body) (hA : AOk 5 A)
  (tok : tr.ok) (tsz : tr.size = 11) (hM : MaskOk tr.ev M) (T : LawS w tr x l lq lr ls ds dh ρ0) (hm : LawM M tb x lr ls ds dh m) (hR : HLσ ρk items ((pairsOf tr.ev).map (kvOf tr))) (H : (StI (lawG s w fd L fa cd) m ((l, lst items c) :: (ρk ++ ρ0))).p s₁)
  (k : ∀ m σ s', (StI (lawG s w fd L fa cd) m σ).p s' → Q (.ret (.bool true)) s') :
  wpAny (model PP w) A (execs (body.drop 9) (lawG s w fd L fa cd).env) Q (fun _ _ => False) s₁ := by
  have h : (KK w).lookup 258 = some ⟨?oc, ?od, .func ?fd, ?osl⟩ := by rfl
  rw [h] at ho
  cases ho
  cases hb
  dsimp only [List.drop]
  have hisz : items.size = (pairsOf tr.ev).length := by rw [hR.1, List.length_map]
  have hplen : (pairsOf tr.ev).length = (ys tr.ev).length * (ys fun w => !tr.ev w).length := prod_len
  have hple : (pairsOf tr.ev).length ≤ 64 := by
    rw [hplen]; exact Nat.mul_le_mul (ys_len _) (ys_len _)
  have mpar := hm.parted
  have msym := hm.symbols
  have mmask := hm.mask
  have mheld := hm.held
  have mrest := hm.rest
  repeat walk_at "g12"
  rename Inv.p _ _ => H
  refine o_hmeth (Inv.wd _ H) (T.hobj fun p hp => St.led H _ (.tail _ (List.mem_append_right _ hp))) cM_keys cT_keys (fun tk => by rfl) ?_
  repeat walk_at "g12"
  rename Inv.p _ _ => H
  refine ⟨Inv.wd _ H, o_refS (fun R k => spec_keys (Inv.wd _ H) (AOk.mono hA (by decide)) (T.hobj fun p hp => St.led H _ (.tail _ (List.mem_append_right _ hp))) (St.isList H (.head _) LObj.lst) (hR.heap H fun p hp => .tail _ (List.mem_append_left _ hp)) (by omega) k) ?_⟩
  rintro v s' es ks ⟨D, kys, kc, rfl, d1, d2, d3⟩
  replace H := St.addOn H es ks d2 d1
  clear es ks d1 d2
  have hK : StrsAre kys.toList (((pairsOf tr.ev).map (kvOf tr)).map (·.1)) := strsAre_of (paired_map (f := fun kv : Str × Str => kv.1) d3)
  have hin : ∀ p ∈ ρ0, p ∈ (D, lst kys kc) :: (l, lst items c) :: (ρk ++ ρ0) := fun p hp => .tail _ (.tail _ (List.mem_append_right _ hp))
  obtain ⟨sit, sc, ts1, ts2, ts3⟩ := T.sym
  repeat walk_at "g12"
  rename Inv.p _ _ => H
  refine o_len_lst _ H (St.isList H (hin _ ts1) LObj.lst) (by omega) (fun t s H => ?_)
  repeat walk_at "g12"
  rename Inv.p _ _ => H
  rw [show (((sit.size : Nat) : Int) - 1) = ((11 : Nat) : Int) by rw [ts2, tsz]; rfl]
  refine ⟨Inv.wd _ H, o_ref H (fun R k => spec_leaves (n := 11) (rows := rowsOf tr) (Inv.wd _ H) (AOk.mono hA (by decide)) (T.hobj fun p hp => St.led H _ (hin p hp)) (St.isList H (.tail _ (.head _)) LObj.lst) (hR.heap H fun p hp => .tail _ (.tail _ (List.mem_append_left _ hp))) (by omega)
    (fun kv hkv => by obtain ⟨y, hy, rfl⟩ := List.mem_map.mp hkv; exact (key_low tok tsz hy).1) (Nat.le_refl _) (key_rows tok tsz) (fun p _ => row_spl p) (St.led H _ (.head _)) hK
    (fun p hp => by rw [key_cnt tok tsz p hp]; exact rows_ok tr tok p) k) ?_⟩
  rintro v s H ⟨tl, rfl⟩
  have khr := khr tr tok tsz
  generalize hLv : (List.range 11).countP (fun p => !(rowsOf tr p).isEmpty) = Lv at khr ⊢
  have hLv11 : Lv ≤ 11 := by
    have := List.countP_le_length (p := fun p => !(rowsOf tr p).isEmpty) (l := List.range 11)
    rw [hLv] at this
    simpa using this
  repeat walk_at "g12"
  rename Inv.p _ _ => H
  refine ct2_range (n0 := 8) (n1 := 3) H (.head _) (by decide) (by decide) (by decide) (by decide) hA.hh (by decide) (by rfl) (by rfl) (by decide) (fun i j => tr.ev i && !tr.ev (i ^^^ 2 ^ j)) ?_ ?_ (by intro _ _; rfl) ?_ (by decide)
  · intro C mm σc s' Q Hc hq
    clear H
    repeat walk_at "g12"
    exact hq _ _ _ _ _ (by assumption)
  · intro C i j ti tj mm σc s' hi hj hx0 hx1 hfr Hc
    have mM : mm "mask" = some (.int M tb) := (hfr "mask" (by rfl)).trans (by walk_at "lk")
    obtain ⟨nx1, nx2⟩ := nearX i hi j hj
    clear H
    repeat walk_at "g12"
    refine i_shr (by assumption) (by omega) (fun t s H => ?_)
    repeat walk_at "g12"
    rw [maskBit hM hi]
    refine ⟨fun hc => ?_, fun hc => ?_⟩
    · repeat walk_at "g12"
      refine i_shl (by assumption) (by omega) (by omega) (by decide) (fun t s H => ?_)
      repeat walk_at "g12"
      rw [nx1]
      refine i_shr (by assumption) (by omega) (fun t s H => ?_)
      repeat walk_at "g12"
      rw [maskBit hM nx2]
      refine ⟨fun h => ?_, fun h => ⟨by rw [hc, h]; rfl, by assumption⟩⟩
      repeat walk_at "g12"
      exact ⟨by rw [hc, h]; rfl, by assumption⟩
    · exact ⟨by rw [hc]; rfl, by assumption⟩
  · intro D2 C oC mC ys2 c2 s' H' hC hsz
    refine ⟨mC, hC _ (St.led H' _ (.head _)), fun h' hs => ?_⟩
    have H2 := St.but H' hs.extBut
    clear H H'
    rename Inv.p _ _ => H
    show wpAny (model PP w) A (spliced _) _ _ _
    have hnr : ys2.size = (pairsOf tr.ev).countP fun x => dd x == 1 := hsz.trans (near_eq tr.ev)
    have hNr : (pairsOf tr.ev).countP (fun x => dd x == 1) ≤ 64 := Nat.le_trans List.countP_le_length hple
    generalize hNrd : (pairsOf tr.ev).countP (fun x => dd x == 1) = Nr at khr hnr hNr
    clear hsz
    repeat walk_at "g12"
    rename Inv.p _ _ => H
    refine o_len_lst _ H (St.isList H (.head _) LObj.lst) (by omega) (fun t s H => ?_)
    rw [hnr]
    replace H := StI.tl (StI.tl H)
    repeat walk_at "g12"
    refine ⟨fun h => absurd (of_decide_eq_true h) (by omega), fun _ => ?_⟩
    repeat walk_at "g12"
    rename Inv.p _ _ => H
    refine o_hlen H (AOk.mono hA (by decide)) (T.hobj fun p hp => St.led H _ (hin p hp)) (St.isList H (.tail _ (.head _)) LObj.lst) (by omega) (fun t s H => ?_)
    repeat walk_at "g12"
    rename Inv.p _ _ => H
    obtain ⟨oh, kh, th1, th2, th3, th4⟩ := T.hd
    obtain ⟨qit, qc, tq1, tq2⟩ := T.held
    obtain ⟨rit, rc, tr1, tr2⟩ := T.rest
    have eq : qit.size = (ys tr.ev).length := by have := strs_len tq2; rw [Array.length_toList, ysW, List.length_map] at this; exact this
    have er : rit.size = (ys fun w => !tr.ev w).length := by have := strs_len tr2; rw [Array.length_toList, ysW, List.length_map] at this; exact this
    have lq8 := ys_len tr.ev
    have lr8 := ys_len fun w => !tr.ev w
    refine it_dict H (St.led H _ (hin _ th1)) th2 th4 (fun s H => ?_)
    repeat walk_at "g12"
    rename Inv.p _ _ => H
    refine o_len_lst _ H (St.isList H (hin _ tq1) LObj.lst) (by omega) (fun t s H => ?_)
    repeat walk_at "g12"
    rename Inv.p _ _ => H
    refine o_len_lst _ H (St.isList H (hin _ tr1) LObj.lst) (by omega) (fun t s H => ?_)
    repeat walk_at "g12"
    refine i_mul (by assumption) (.of_left (intBits_le_64 (by omega) (by omega))) (fun t s H => ?_)
    repeat walk_at "g12"
    refine ⟨fun h => absurd h (by rw [hisz, hplen, eq, er]; simp), fun _ => ?_⟩
    repeat walk_at "g12"
    rename Inv.p _ _ => H
    have hkysz : kys.size = (pairsOf tr.ev).length := by have := strs_len hK; rw [Array.length_toList, List.length_map, List.length_map] at this; exact this
    refine ct_list H (St.isList H (.head _) LObj.lst) hA.hh (by omega) (by rfl) (fun ν i o => ∃ y, (pairsOf tr.ev)[i]? = some y ∧ (((dd y == 1) = true ∧ ∃ z, o = some z ∧ True) ∨ ((dd y == 1) = false ∧ o = none))) (fun _ _ _ _ _ h => h) ?_ (post_plain fun D3 ys3 c3 ν3 s3 H3 hL3 => ?_)
    · intro C i v mm σc s' hi hv hmm Hc
      obtain ⟨y0, t0, hy0, rfl⟩ := strs_get hK i v (by rw [Array.getElem?_toList]; exact hv)
      rw [List.map_map, List.getElem?_map] at hy0
      obtain ⟨y, hy, rfl⟩ := Option.map_eq_some_iff.mp hy0
      have hup := key_up tok tsz (List.mem_of_getElem? hy)
      clear H
      repeat walk_at "g12"
      refine SC.isupper ?_
      have e : Txt.isupper (((fun x => x.1) ∘ kvOf tr) y) = (dd y == 1) := hup
      rw [e]
      repeat walk_at "g12"
      refine ⟨fun hc => ?_, fun hc => ?_⟩
      · repeat walk_at "g12"
        exact ⟨[], by assumption, y, hy, .inl ⟨hc, _, rfl, trivial⟩⟩
      · exact ⟨[], by assumption, y, hy, .inr ⟨hc, rfl⟩⟩
    · have h3 : ys3.size = Nr := by
        have := (hL3.paired (p := fun y => dd y == 1) (xs := pairsOf tr.ev) (G := fun _ _ => True) hkysz fun i o h => h).length
        rw [← List.countP_eq_length_filter, hNrd, Array.length_toList] at this
        exact this.symm
      clear H hL3
      rename Inv.p _ _ => H
      repeat walk_at "g12"
      rename Inv.p _ _ => H
      refine o_len_lst _ H (St.isList H (.head _) LObj.lst) (by omega) (fun t s H => ?_)
      rw [h3]
      replace H : (StI _ _ ((D, lst kys kc) :: (l, lst items c) :: (ρk ++ ρ0))).p s := St.drop H (.cons _ (List.sublist_append_right _ _))
      repeat walk_at "g12"
      refine ⟨fun h => absurd h (by simp), fun _ => ?_⟩
      repeat walk_at "g12"
      refine ⟨fun h => (nomatch h), fun _ => ?_⟩
      repeat walk_at "g12"
      refine i_mul (by assumption) (.of_left (intBits_le_64 (by omega) (by omega))) (fun t s H => ?_)
      repeat walk_at "g12"
      rename Inv.p _ _ => H
      refine o_hlen H (AOk.mono hA (by decide)) (T.hobj fun p hp => St.led H _ (hin p hp)) (St.isList H (.tail _ (.head _)) LObj.lst) (by omega) (fun t s H => ?_)
      repeat walk_at "g12"
      refine i_mul (by assumption) (.of_left (intBits_le_64 (by omega) (by omega))) (fun t s H => ?_)
      repeat walk_at "g12"
      rename Inv.p _ _ => H
      have e : decide (((Nr : Int) * (Nr : Int)) ≤ (Lv : Int) * (items.size : Int)) = true := by
        rw [decide_eq_true_eq, hisz]
        exact_mod_cast khr
      rw [e]
      exact k _ _ _ H

/-- a call of a def whose object is known by the heap alone -/
theorem enterX {w : World} {A : Around} {s : Shared} {R : Result → Shared → Prop} {f : Addr} {o : Obj} {fd : FuncData} {body : List Stmt} {args : Args} {binds : List (Str × Value)}
    (W : Wd w s.heap) (hroom : A.depth < recursionLimit) (ho : s.heap.get? f = some o) (hdata : o.data = .func fd) (hcd : s.heap.CodeRec fd.code fd.qualname) (hbody : fd.body = .stmts body) (hbind : BindsTo s fd args binds)
    (h : ∀ s₁, (StI (fdOn s.heap s w f fd) (bmap binds) []).p s₁ →
      wpAny (model PP w) (A.deeper (fdOn s.heap s w f fd).env) (execs body (fdOn s.heap s w f fd).env) (fun f s' => R (.ok (.ret (match f with | .ret v => v | _ => .none))) s') (fun _ _ => False) s₁)
    (hkind : (binds.all fun x => fd.scope.names.lookup x.1 == some .local || fd.scope.names.lookup x.1 == some .cell) = true) (hnames : (fd.scope.names.all fun y => y.2 != .cell || fd.scope.names.lookup y.1 == some .cell) = true)
    (hclo : fd.closure = []) (hgl : fd.globals = mainGlobals) (hbu : fd.builtins = builtinsNs)
    (hco : fd.scope.isCoroutine = false) (hgen : fd.scope.isGenerator = false) (hk : fd.scope.kind = .function) :
    codeAny (model PP w) A (.call (.ref f) args) R s := by
  refine codeAny_call_function hroom ho hdata hco hgen hbody hcd (hbind _ _ _ _ ?_)
  rw [hclo]
  have hkd : ∀ x ∈ binds, fd.scope.names.lookup x.1 = some .local ∨ (fd.scope.names.lookup x.1 = some .cell ∧ ((cellsFrom (s.heap.objs.size + 1) fd.scope.names []).lookup x.1).isSome = true) := fun x hx => by
    have := List.all_eq_true.mp hkind x hx
    rcases Bool.or_eq_true_iff.mp this with q | q
    · exact .inl (by simpa using q)
    · have q' : fd.scope.names.lookup x.1 = some .cell := by simpa using q
      exact .inr ⟨q', cellsFrom_some _ _ _ (.inl q')⟩
  refine wpAny_newFunctionEnv_cells hk hkd fun env he s' x => ?_
  have e : env = (fdOn s.heap s w f fd).env := by rw [he, hgl, hbu]; rfl
  subst e
  refine ⟨W.lim.keeps x.toInCall.keep, codeAny_func (wpAny_mono (h s' ?_) (fun _ _ z => z) fun _ _ z => z.elim)⟩
  have I := x.toInCall
  obtain ⟨h₁, tk, e1⟩ := I.same
  refine ⟨by rw [e1], W, I.keep, ⟨_, I.ns, fun y hy => ?_⟩, fun y c hc => ?_, fun y z c hy hz => name_of_addr x.apart (mem_of_lookup hy) (mem_of_lookup hz), fun y c hc => Nat.ne_of_gt (x.above y c (mem_of_lookup hc)), fun y c hc => ?_, fun y c hc _ => Heap.get?_none_of_le (Nat.le_trans I.fresh (Nat.le_of_lt (x.above y c (mem_of_lookup hc)))), I.fresh,
    fun p hp => (nomatch hp), fun p hp => (nomatch hp), fun p hp => (nomatch hp), List.nodup_nil⟩
  · rw [bindL_eq (kindOf := (fdOn s.heap s w f fd).env.kindOf) hy]; simp [bmap]
  · have hkc : fd.scope.names.lookup y = some .cell := by
      rcases cells_mem _ _ _ _ hc with q | q
      · have := List.all_eq_true.mp hnames _ q
        simpa using this
      · cases q
    have := x.cell y c hc
    rw [bindC_eq (kindOf := (fdOn s.heap s w f fd).env.kindOf) (by show fd.scope.names.lookup y ≠ _; rw [hkc]; decide)] at this
    simpa [bmap] using this
  · rcases cells_mem _ _ _ _ hc with q | q
    · have := List.all_eq_true.mp hnames _ q
      simpa using this
    · cases q
theorem law_all {w : World} {A : Around} {s s₁ : Shared} {Q : Flow → Shared → Prop} {L fa lscr : Addr} {cd : Value} {oc : Value} {od : Option Addr} {osl : Array (Option Value)} {fd : FuncData} {body : List Stmt} {sits : Array Value} {ns : List Int}
  (ho : (KK w).lookup 258 = some ⟨oc, od, .func fd, osl⟩) (hb : fd.body = .stmts body) (hA : AOk 5 A) (hscr : s.heap.IsList lscr sits) (hns : IntsAre sits.toList ns) (hlen : ns.length ≤ 63)
  (H : (StI (lawG s w fd L fa cd) (bmap [("script", .ref lscr)]) []).p s₁)
  (k : ∀ m σ s', (StI (lawG s w fd L fa cd) m σ).p s' → Q (.ret (.bool true)) s') :
  wpAny (model PP w) A (execs body (lawG s w fd L fa cd).env) Q (fun _ _ => False) s₁ :=
  lawA ho hb hA hscr hns hlen H fun t M m lw wits wc ta tb s' tok tsz hM m1 m2 m3 H hw =>
    lawB ho hb hA tok tsz hM m1 m2 m3 H hw fun m x l lq lr ls ds dh ρ0 c s' T hm H =>
      lawC ho hb hA tok tsz T hm H fun m items c ρk s' hm hR H => lawD ho hb hA tok tsz hM T hm hR H k
theorem law_go {w : World} {A : Around} {s s₁ : Shared} {Q : Flow → Shared → Prop} {L fa lscr : Addr} {cd : Value} {oc : Value} {od : Option Addr} {osl : Array (Option Value)} {fd fd2 : FuncData} {body : List Stmt} {sits : Array Value} {ns : List Int}
  (ho : (KK w).lookup 258 = some ⟨oc, od, .func fd, osl⟩) (hsc : fd2.scope = fd.scope) (hq : fd2.qualname = fd.qualname) (hb : fd.body = .stmts body) (hA : AOk 5 A) (hscr : s.heap.IsList lscr sits) (hns : IntsAre sits.toList ns) (hlen : ns.length ≤ 63)
  (H : (StI (lawG s w fd2 L fa cd) (bmap [("script", .ref lscr)]) []).p s₁)
  (k : ∀ m σ s', (StI (lawG s w fd2 L fa cd) m σ).p s' → Q (.ret (.bool true)) s') :
  wpAny (model PP w) A (execs body (lawG s w fd2 L fa cd).env) Q (fun _ _ => False) s₁ := by
  have e : lawG s w fd2 L fa cd = lawG s w fd L fa cd := by unfold lawG; rw [hsc, hq]
  rw [e] at H k ⊢
  exact law_all ho hb hA hscr hns hlen H k
theorem callerOk (env : Env) : AOk 5 (callerA.deeper env) := ⟨rfl, by show 1 + claimMargin + 1 + 5 < recursionLimit; decide, by show 4 + 3 + 8 * 5 < cLine; decide⟩
end Mine
set_option maxHeartbeats 8000000 in
theorem PySem.Challenge.cw_re0174_01_holds : PySem.Challenge.rw_re0174_01.Holds := by
  refine Mine.hd ?_
  k_fill
  intro w s₀ s₁ mg mb G Y fa o pm cd doc dV kV ho hd hcd hD hmg hg args vals as hpre hlay hrd hwl hlo
  have KX := kIn_of Y
  refine Ground.open G ?_
  intro T B D TE TW
  try (obtain ⟨_, _, he, B0⟩ := based_of_top T rfl hmg ho hd; have he' : cd = _ := he; subst he'; clear he)
  clear hmg
  wrow_args hpre hlay hrd hwl hlo
  all_goals first | refine callC_kw (enter_call ?_) | refine enter_call ?_ | refine callC_kw (enter_callW ?_) | refine enter_callW ?_ | w_how
  refine codeAny_mono ?_ (fun _ _ g => GoodW.toG g)
  clear G Y
  have he := Dflts.none hD rfl
  subst he
  have he := Dflts.noKw hD
  subst he
  have hdf := fd_plain hd
  have W : Mine.Wd w s₁.heap := ⟨KX, ⟨mg, T.g⟩, ⟨mb, T.b, T.builtins⟩, T.nolimit⟩
  rename Heap.IsList _ _ _ => hL
  rename IntsAre _ _ => hI
  rename ¬ _ < _ => hcond
  refine Mine.enterX W (by decide) ho hdf hcd rfl (binds := [("script", _)]) (BindsTo.of_eq rfl) (fun s H => ?_) (by rfl) (by rfl) rfl rfl rfl rfl rfl rfl
  have h258 : (Mine.KK w).lookup 258 = some ⟨?oc, ?od, .func ?fd, ?osl⟩ := by rfl
  refine Mine.law_go (s := s₁) (L := s₁.heap.objs.size) (fa := fa) h258 rfl rfl rfl (Mine.callerOk _) hL (by simpa using hI) (by omega) H (fun m σ s' H => ?_)
  refine ⟨.inl ⟨.bool true, .bool true, [], rfl, fun _ => by rfl, .bool true, by wrow_post, unshared_nil⟩, Mine.St.keep H, ?_, ?_⟩
  · rw [Mine.St.same H]
  · rw [Mine.St.same H]; exact hg

