import PyProof.Rows.All
import Wide.All
import OpenK.AllK
import Wide.FinOn
import KE.KIntText
import PyProof.RaisesAny
import KE.KData
import PyProof.MeetsStr3
import PySem.Challenge.RW_jd0018_01
open PySem PySem.W PyProof.Rows PySem.Calls
set_option Elab.async false
set_option maxRecDepth 100000
set_option maxHeartbeats 8000000
set_option compiler.extract_closed false
-- names that the head would give to equations it does not need: taken, it does without them, and the compiled file stays small
theorem PySem.W.Fast.tw53402867556234148 : True := trivial
theorem PySem.W.Fast.tw117213463901210413 : True := trivial
theorem PySem.W.Fast.tw136631920214876835 : True := trivial
theorem PySem.W.Fast.tw151948405760981731 : True := trivial
theorem PySem.W.Fast.tw219737044198020058 : True := trivial
theorem PySem.W.Fast.tw282004115355043989 : True := trivial
theorem PySem.W.Fast.tw313226197891681235 : True := trivial
theorem PySem.W.Fast.tw347637069881736656 : True := trivial
theorem PySem.W.Fast.tw378412475510648054 : True := trivial
theorem PySem.W.Fast.tw387338674003428930 : True := trivial
theorem PySem.W.Fast.tw392140993173905013 : True := trivial
theorem PySem.W.Fast.tw460243522976405022 : True := trivial
theorem PySem.W.Fast.tw470574548607681690 : True := trivial
theorem PySem.W.Fast.tw558745408833754511 : True := trivial
theorem PySem.W.Fast.tw607167704815816724 : True := trivial
theorem PySem.W.Fast.tw608726401823008365 : True := trivial
theorem PySem.W.Fast.tw662354867322794072 : True := trivial
theorem PySem.W.Fast.tw667198328695590252 : True := trivial
theorem PySem.W.Fast.tw682011567655089306 : True := trivial
theorem PySem.W.Fast.tw704327219915372674 : True := trivial
theorem PySem.W.Fast.tw721709456127091705 : True := trivial
theorem PySem.W.Fast.tw724751600484774222 : True := trivial
theorem PySem.W.Fast.tw878741703135273975 : True := trivial
theorem PySem.W.Fast.tw900395245841561262 : True := trivial
theorem PySem.W.Fast.tw912392155897948271 : True := trivial
theorem PySem.W.Fast.tw932993149863042379 : True := trivial
theorem PySem.W.Fast.tw1041845030581493396 : True := trivial
theorem PySem.W.Fast.tw1156252341971683116 : True := trivial
theorem PySem.W.Fast.tw1184552218554016812 : True := trivial
theorem PySem.W.Fast.tw1218959903707654005 : True := trivial
theorem PySem.W.Fast.tw1258299570235058372 : True := trivial
theorem PySem.W.Fast.tw1258717718454355964 : True := trivial
theorem PySem.W.Fast.tw1291980286583624508 : True := trivial
theorem PySem.W.Fast.tw1302811641713473902 : True := trivial
theorem PySem.W.Fast.tw1320183511955256522 : True := trivial
theorem PySem.W.Fast.tw1333364371103165705 : True := trivial
theorem PySem.W.Fast.tw1345238157095803546 : True := trivial
theorem PySem.W.Fast.tw1355338860687761863 : True := trivial
theorem PySem.W.Fast.tw1370275717833778536 : True := trivial
theorem PySem.W.Fast.tw1377046205977697930 : True := trivial
theorem PySem.W.Fast.tw1402947280878808549 : True := trivial
theorem PySem.W.Fast.tw1414301608579184545 : True := trivial
theorem PySem.W.Fast.tw1419416864934026935 : True := trivial
theorem PySem.W.Fast.tw1503297043503765363 : True := trivial
theorem PySem.W.Fast.tw1537898542681612871 : True := trivial
theorem PySem.W.Fast.tw1574873078441994576 : True := trivial
theorem PySem.W.Fast.tw1617757218408452269 : True := trivial
theorem PySem.W.Fast.tw1620339239838986703 : True := trivial
theorem PySem.W.Fast.tw1638017585896720355 : True := trivial
theorem PySem.W.Fast.tw1702518465993881591 : True := trivial
theorem PySem.W.Fast.tw1706496860858754268 : True := trivial
theorem PySem.W.Fast.tw1749818173716722547 : True := trivial
theorem PySem.W.Fast.tw1772237422875290029 : True := trivial
theorem PySem.W.Fast.tw1829445100760108279 : True := trivial
theorem PySem.W.Fast.tw1886563365779066154 : True := trivial
theorem PySem.W.Fast.tw1962928258387122110 : True := trivial
theorem PySem.W.Fast.tw2039238271031011813 : True := trivial
theorem PySem.W.Fast.tw2193789692954389824 : True := trivial
theorem PySem.W.Fast.tw2283851925072248500 : True := trivial
theorem PySem.W.Fast.tw2315820567201803617 : True := trivial
theorem PySem.W.Fast.tw2334299552400917057 : True := trivial
theorem PySem.W.Fast.tw2354101950205528012 : True := trivial
theorem PySem.W.Fast.tw2408619945344806742 : True := trivial
theorem PySem.W.Fast.tw2422670821966735624 : True := trivial
theorem PySem.W.Fast.tw2447775223705975068 : True := trivial
theorem PySem.W.Fast.tw2460228577881660442 : True := trivial
theorem PySem.W.Fast.tw2478078296215019888 : True := trivial
theorem PySem.W.Fast.tw2532725972614424836 : True := trivial
theorem PySem.W.Fast.tw2599325451414397859 : True := trivial
theorem PySem.W.Fast.tw2611137233208623240 : True := trivial
theorem PySem.W.Fast.tw2627984346626558326 : True := trivial
theorem PySem.W.Fast.tw2660918139993853925 : True := trivial
theorem PySem.W.Fast.tw2664551874359636763 : True := trivial
theorem PySem.W.Fast.tw2670528217467546775 : True := trivial
theorem PySem.W.Fast.tw2711585505577850959 : True := trivial
theorem PySem.W.Fast.tw2719445374943340272 : True := trivial
theorem PySem.W.Fast.tw2862820112641550484 : True := trivial
theorem PySem.W.Fast.tw2968979199505139716 : True := trivial
theorem PySem.W.Fast.tw3039592710220408265 : True := trivial
theorem PySem.W.Fast.tw3094477031063562474 : True := trivial
theorem PySem.W.Fast.tw3105397867545767578 : True := trivial
theorem PySem.W.Fast.tw3131671291697673992 : True := trivial
theorem PySem.W.Fast.tw3152983702415266003 : True := trivial
theorem PySem.W.Fast.tw3264259588550801142 : True := trivial
theorem PySem.W.Fast.tw3282434896037501709 : True := trivial
theorem PySem.W.Fast.tw3315324234476444515 : True := trivial
theorem PySem.W.Fast.tw3362959441861295915 : True := trivial
theorem PySem.W.Fast.tw3424931102881643321 : True := trivial
theorem PySem.W.Fast.tw3442601649717412197 : True := trivial
theorem PySem.W.Fast.tw3560238982266916124 : True := trivial
theorem PySem.W.Fast.tw3577408171920636059 : True := trivial
theorem PySem.W.Fast.tw3619232141914619222 : True := trivial
theorem PySem.W.Fast.tw3636048126100218174 : True := trivial
theorem PySem.W.Fast.tw3698559305507148144 : True := trivial
theorem PySem.W.Fast.tw3764465048917985505 : True := trivial
theorem PySem.W.Fast.tw3766158894648301139 : True := trivial
theorem PySem.W.Fast.tw3778451253796500701 : True := trivial
theorem PySem.W.Fast.tw3820604794100220378 : True := trivial
theorem PySem.W.Fast.tw3856783459128436802 : True := trivial
theorem PySem.W.Fast.tw3880421473898291048 : True := trivial
theorem PySem.W.Fast.tw3891137856419664920 : True := trivial
theorem PySem.W.Fast.tw3972328310683599613 : True := trivial
theorem PySem.W.Fast.tw3976722010076183465 : True := trivial
theorem PySem.W.Fast.tw4011157648589011858 : True := trivial
theorem PySem.W.Fast.tw4016919884179927283 : True := trivial
theorem PySem.W.Fast.tw4039474712603431140 : True := trivial
theorem PySem.W.Fast.tw4071324889030633612 : True := trivial
theorem PySem.W.Fast.tw4075660801711882420 : True := trivial
theorem PySem.W.Fast.tw4090926877573551719 : True := trivial
theorem PySem.W.Fast.tw4224760802259116069 : True := trivial
theorem PySem.W.Fast.tw4275521005467322725 : True := trivial
theorem PySem.W.Fast.tw4302124980754421698 : True := trivial
theorem PySem.W.Fast.tw4319705520415482375 : True := trivial
theorem PySem.W.Fast.tw4388067698380316889 : True := trivial
theorem PySem.W.Fast.tw4392076818467891588 : True := trivial
theorem PySem.W.Fast.tw4407734736301137906 : True := trivial
theorem PySem.W.Fast.tw4434333111790514575 : True := trivial
theorem PySem.W.Fast.tw4525517667737911620 : True := trivial
theorem PySem.W.Fast.tw4527066259768149269 : True := trivial
theorem PySem.W.Fast.tw4552823106982906706 : True := trivial
theorem PySem.W.Fast.tw4558998842232669794 : True := trivial
theorem PySem.W.Fast.tw4658958612460137192 : True := trivial
theorem PySem.W.Fast.tw4679858250743294509 : True := trivial
theorem PySem.W.Fast.tw4748654258956052638 : True := trivial
theorem PySem.W.Fast.tw4864029045853621792 : True := trivial
theorem PySem.W.Fast.tw4921902886906138986 : True := trivial
theorem PySem.W.Fast.tw4933834842325187142 : True := trivial
theorem PySem.W.Fast.tw4978915544186085027 : True := trivial
theorem PySem.W.Fast.tw4980102563643897964 : True := trivial
theorem PySem.W.Fast.tw5032809538720368765 : True := trivial
theorem PySem.W.Fast.tw5076957145309523181 : True := trivial
theorem PySem.W.Fast.tw5111356299099525756 : True := trivial
theorem PySem.W.Fast.tw5135500740108067664 : True := trivial
theorem PySem.W.Fast.tw5150936880511922699 : True := trivial
theorem PySem.W.Fast.tw5200128776193632040 : True := trivial
theorem PySem.W.Fast.tw5268983451555188008 : True := trivial
theorem PySem.W.Fast.tw5345256250457102556 : True := trivial
theorem PySem.W.Fast.tw5349121933718820234 : True := trivial
theorem PySem.W.Fast.tw5518745428033880147 : True := trivial
theorem PySem.W.Fast.tw5529568453561195837 : True := trivial
theorem PySem.W.Fast.tw5571136389522288289 : True := trivial
theorem PySem.W.Fast.tw5701610774189311196 : True := trivial
theorem PySem.W.Fast.tw5706481520468235054 : True := trivial
theorem PySem.W.Fast.tw5721027456603625697 : True := trivial
theorem PySem.W.Fast.tw5732905514179830355 : True := trivial
theorem PySem.W.Fast.tw5733676910383322011 : True := trivial
theorem PySem.W.Fast.tw5770868932273138760 : True := trivial
theorem PySem.W.Fast.tw5882768191206486792 : True := trivial
theorem PySem.W.Fast.tw5902227825499142635 : True := trivial
theorem PySem.W.Fast.tw5925582254088234700 : True := trivial
theorem PySem.W.Fast.tw5978237884098788730 : True := trivial
theorem PySem.W.Fast.tw6059929106960060952 : True := trivial
theorem PySem.W.Fast.tw6122645084068987007 : True := trivial
theorem PySem.W.Fast.tw6135381517318000843 : True := trivial
theorem PySem.W.Fast.tw6245536207120538393 : True := trivial
theorem PySem.W.Fast.tw6307075928179450975 : True := trivial
theorem PySem.W.Fast.tw6313222484189431382 : True := trivial
theorem PySem.W.Fast.tw6363645014702824404 : True := trivial
theorem PySem.W.Fast.tw6426273055680023932 : True := trivial
theorem PySem.W.Fast.tw6434138532213402376 : True := trivial
theorem PySem.W.Fast.tw6434265647005701932 : True := trivial
theorem PySem.W.Fast.tw6448080314894763839 : True := trivial
theorem PySem.W.Fast.tw6550987210724342151 : True := trivial
theorem PySem.W.Fast.tw6589095468515690095 : True := trivial
theorem PySem.W.Fast.tw6654550962395885724 : True := trivial
theorem PySem.W.Fast.tw6662432510661729299 : True := trivial
theorem PySem.W.Fast.tw6683783046931543321 : True := trivial
theorem PySem.W.Fast.tw6711915476519705758 : True := trivial
theorem PySem.W.Fast.tw6722154040420286063 : True := trivial
theorem PySem.W.Fast.tw6792406925840432001 : True := trivial
theorem PySem.W.Fast.tw6817277305950994716 : True := trivial
theorem PySem.W.Fast.tw6929956602132211858 : True := trivial
theorem PySem.W.Fast.tw6967401301877209104 : True := trivial
theorem PySem.W.Fast.tw7009043117176579089 : True := trivial
theorem PySem.W.Fast.tw7094674258960923220 : True := trivial
theorem PySem.W.Fast.tw7098571738820278039 : True := trivial
theorem PySem.W.Fast.tw7239574021652732423 : True := trivial
theorem PySem.W.Fast.tw7269565832213808900 : True := trivial
theorem PySem.W.Fast.tw7275051467321613617 : True := trivial
theorem PySem.W.Fast.tw7276740287692124622 : True := trivial
theorem PySem.W.Fast.tw7286323032743288035 : True := trivial
theorem PySem.W.Fast.tw7299303143086499733 : True := trivial
theorem PySem.W.Fast.tw7299951869573292228 : True := trivial
theorem PySem.W.Fast.tw7323676302269181137 : True := trivial
theorem PySem.W.Fast.tw7365555872484859036 : True := trivial
theorem PySem.W.Fast.tw7392212959928792091 : True := trivial
theorem PySem.W.Fast.tw7397068168572129948 : True := trivial
theorem PySem.W.Fast.tw7401281599722004195 : True := trivial
theorem PySem.W.Fast.tw7504490480230193789 : True := trivial
theorem PySem.W.Fast.tw7581352650102555174 : True := trivial
theorem PySem.W.Fast.tw7581816359482902497 : True := trivial
theorem PySem.W.Fast.tw7650934615059315214 : True := trivial
theorem PySem.W.Fast.tw7731394104533254306 : True := trivial
theorem PySem.W.Fast.tw7745614565497352828 : True := trivial
theorem PySem.W.Fast.tw7783732958741208154 : True := trivial
theorem PySem.W.Fast.tw7788680626742099145 : True := trivial
theorem PySem.W.Fast.tw7892128664451923741 : True := trivial
theorem PySem.W.Fast.tw8017206721242287953 : True := trivial
theorem PySem.W.Fast.tw8047484207015712433 : True := trivial
theorem PySem.W.Fast.tw8047920394858072898 : True := trivial
theorem PySem.W.Fast.tw8067100991250937581 : True := trivial
theorem PySem.W.Fast.tw8075568018651887793 : True := trivial
theorem PySem.W.Fast.tw8119918657739134586 : True := trivial
theorem PySem.W.Fast.tw8206430501311747189 : True := trivial
theorem PySem.W.Fast.tw8224813933742928703 : True := trivial
theorem PySem.W.Fast.tw8253183596043897158 : True := trivial
theorem PySem.W.Fast.tw8376441433122354887 : True := trivial
theorem PySem.W.Fast.tw8400853705098224536 : True := trivial
theorem PySem.W.Fast.tw8424611434330503625 : True := trivial
theorem PySem.W.Fast.tw8450942572126056277 : True := trivial
theorem PySem.W.Fast.tw8537084889766193716 : True := trivial
theorem PySem.W.Fast.tw8579058602437062094 : True := trivial
theorem PySem.W.Fast.tw8595292554425487202 : True := trivial
theorem PySem.W.Fast.tw8603108125212654177 : True := trivial
theorem PySem.W.Fast.tw8642067239939848140 : True := trivial
theorem PySem.W.Fast.tw8693227569615203950 : True := trivial
theorem PySem.W.Fast.tw8703263022893421829 : True := trivial
theorem PySem.W.Fast.tw8708707556590381134 : True := trivial
theorem PySem.W.Fast.tw8719427161674164953 : True := trivial
theorem PySem.W.Fast.tw8727135674562949291 : True := trivial
theorem PySem.W.Fast.tw8753696776887207221 : True := trivial
theorem PySem.W.Fast.tw8796240567053077481 : True := trivial
theorem PySem.W.Fast.tw8860024209350480642 : True := trivial
theorem PySem.W.Fast.tw8901101332624060146 : True := trivial
theorem PySem.W.Fast.tw8902219603052485911 : True := trivial
theorem PySem.W.Fast.tw8989982439271903415 : True := trivial
theorem PySem.W.Fast.tw9011979029575296479 : True := trivial
theorem PySem.W.Fast.tw9136488742655976645 : True := trivial
theorem PySem.W.Fast.tw9225554623484653252 : True := trivial
theorem PySem.W.Fast.tw9285146279643344392 : True := trivial
theorem PySem.W.Fast.tw9305782018832362445 : True := trivial
theorem PySem.W.Fast.tw9315938663221665524 : True := trivial
theorem PySem.W.Fast.tw9316312091662729573 : True := trivial
theorem PySem.W.Fast.tw9407582987413476825 : True := trivial
theorem PySem.W.Fast.tw9445461356028520223 : True := trivial
theorem PySem.W.Fast.tw9458956999447867950 : True := trivial
theorem PySem.W.Fast.tw9467589175468403638 : True := trivial
theorem PySem.W.Fast.tw9501820088010722379 : True := trivial
theorem PySem.W.Fast.tw9529234661008812162 : True := trivial
theorem PySem.W.Fast.tw9564595351457756722 : True := trivial
theorem PySem.W.Fast.tw9594665118957945026 : True := trivial
theorem PySem.W.Fast.tw9626621113073979434 : True := trivial
theorem PySem.W.Fast.tw9674257727999782656 : True := trivial
theorem PySem.W.Fast.tw9676229304581654039 : True := trivial
theorem PySem.W.Fast.tw9759809726879904816 : True := trivial
theorem PySem.W.Fast.tw9763268239775435451 : True := trivial
theorem PySem.W.Fast.tw9787463984185863102 : True := trivial
theorem PySem.W.Fast.tw9800571698397750058 : True := trivial
theorem PySem.W.Fast.tw9862997608875712007 : True := trivial
theorem PySem.W.Fast.tw9908251947323293946 : True := trivial
theorem PySem.W.Fast.tw9931943479562821362 : True := trivial
theorem PySem.W.Fast.tw9948023125614773506 : True := trivial
theorem PySem.W.Fast.tw9951705424602377420 : True := trivial
theorem PySem.W.Fast.tw10007627690174824804 : True := trivial
theorem PySem.W.Fast.tw10010936943081839664 : True := trivial
theorem PySem.W.Fast.tw10028210170444487592 : True := trivial
theorem PySem.W.Fast.tw10029231156530900338 : True := trivial
theorem PySem.W.Fast.tw10073347824450446311 : True := trivial
theorem PySem.W.Fast.tw10205541121877940668 : True := trivial
theorem PySem.W.Fast.tw10227693086864044499 : True := trivial
theorem PySem.W.Fast.tw10314498396905981064 : True := trivial
theorem PySem.W.Fast.tw10317580896714288900 : True := trivial
theorem PySem.W.Fast.tw10323183001455561277 : True := trivial
theorem PySem.W.Fast.tw10424941004445345732 : True := trivial
theorem PySem.W.Fast.tw10470071008263537045 : True := trivial
theorem PySem.W.Fast.tw10500077913531017323 : True := trivial
theorem PySem.W.Fast.tw10528696920762540405 : True := trivial
theorem PySem.W.Fast.tw10706342367453228570 : True := trivial
theorem PySem.W.Fast.tw10790270229335939298 : True := trivial
theorem PySem.W.Fast.tw10833955939284561965 : True := trivial
theorem PySem.W.Fast.tw10887116778572429059 : True := trivial
theorem PySem.W.Fast.tw10919533547850550483 : True := trivial
theorem PySem.W.Fast.tw10938465397075749097 : True := trivial
theorem PySem.W.Fast.tw10942035263794033107 : True := trivial
theorem PySem.W.Fast.tw10948738476641704880 : True := trivial
theorem PySem.W.Fast.tw10996506086634736982 : True := trivial
theorem PySem.W.Fast.tw11013792430000457035 : True := trivial
theorem PySem.W.Fast.tw11108263761283441063 : True := trivial
theorem PySem.W.Fast.tw11130039905162102590 : True := trivial
theorem PySem.W.Fast.tw11161088081135249708 : True := trivial
theorem PySem.W.Fast.tw11186114360453789277 : True := trivial
theorem PySem.W.Fast.tw11263141906512457761 : True := trivial
theorem PySem.W.Fast.tw11270796479367742343 : True := trivial
theorem PySem.W.Fast.tw11277716924127702174 : True := trivial
theorem PySem.W.Fast.tw11306939235166856333 : True := trivial
theorem PySem.W.Fast.tw11310463157757771331 : True := trivial
theorem PySem.W.Fast.tw11317593695737139937 : True := trivial
theorem PySem.W.Fast.tw11333186260410459676 : True := trivial
theorem PySem.W.Fast.tw11346108149598046533 : True := trivial
theorem PySem.W.Fast.tw11420187438672877268 : True := trivial
theorem PySem.W.Fast.tw11445135464325071761 : True := trivial
theorem PySem.W.Fast.tw11452132507678324671 : True := trivial
theorem PySem.W.Fast.tw11462045893675790159 : True := trivial
theorem PySem.W.Fast.tw11463032066810482582 : True := trivial
theorem PySem.W.Fast.tw11543547407058413889 : True := trivial
theorem PySem.W.Fast.tw11588390666370768167 : True := trivial
theorem PySem.W.Fast.tw11625766737575182897 : True := trivial
theorem PySem.W.Fast.tw11636919720809706868 : True := trivial
theorem PySem.W.Fast.tw11682084944484805031 : True := trivial
theorem PySem.W.Fast.tw11707433790658880453 : True := trivial
theorem PySem.W.Fast.tw11788150170368784547 : True := trivial
theorem PySem.W.Fast.tw11790162104776037713 : True := trivial
theorem PySem.W.Fast.tw11796506867022685745 : True := trivial
theorem PySem.W.Fast.tw11853533878840232495 : True := trivial
theorem PySem.W.Fast.tw11863081143760314161 : True := trivial
theorem PySem.W.Fast.tw11892598404827812706 : True := trivial
theorem PySem.W.Fast.tw11939915149646268982 : True := trivial
theorem PySem.W.Fast.tw11964429278604863157 : True := trivial
theorem PySem.W.Fast.tw11985326045990495214 : True := trivial
theorem PySem.W.Fast.tw11994158751524154303 : True := trivial
theorem PySem.W.Fast.tw12022618010286034681 : True := trivial
theorem PySem.W.Fast.tw12172078356533094185 : True := trivial
theorem PySem.W.Fast.tw12177639751122801600 : True := trivial
theorem PySem.W.Fast.tw12268644228514654432 : True := trivial
theorem PySem.W.Fast.tw12282317666342685634 : True := trivial
theorem PySem.W.Fast.tw12290603225136948437 : True := trivial
theorem PySem.W.Fast.tw12329403913580668285 : True := trivial
theorem PySem.W.Fast.tw12392613427281201732 : True := trivial
theorem PySem.W.Fast.tw12393455550290869266 : True := trivial
theorem PySem.W.Fast.tw12450158673883907302 : True := trivial
theorem PySem.W.Fast.tw12635297910168745909 : True := trivial
theorem PySem.W.Fast.tw12635813782599140982 : True := trivial
theorem PySem.W.Fast.tw12659028871203227004 : True := trivial
theorem PySem.W.Fast.tw12721998003671774488 : True := trivial
theorem PySem.W.Fast.tw12813236842856870187 : True := trivial
theorem PySem.W.Fast.tw12825359941727978080 : True := trivial
theorem PySem.W.Fast.tw12832477231654346042 : True := trivial
theorem PySem.W.Fast.tw12835720964997663042 : True := trivial
theorem PySem.W.Fast.tw12850107946570832962 : True := trivial
theorem PySem.W.Fast.tw12866136484021002089 : True := trivial
theorem PySem.W.Fast.tw12898947447245864913 : True := trivial
theorem PySem.W.Fast.tw12902083758237812186 : True := trivial
theorem PySem.W.Fast.tw12945451867199242903 : True := trivial
theorem PySem.W.Fast.tw12981051755390344553 : True := trivial
theorem PySem.W.Fast.tw13016732220969518872 : True := trivial
theorem PySem.W.Fast.tw13036272033356848781 : True := trivial
theorem PySem.W.Fast.tw13141144453892091621 : True := trivial
theorem PySem.W.Fast.tw13180171748994924942 : True := trivial
theorem PySem.W.Fast.tw13191295725559111208 : True := trivial
theorem PySem.W.Fast.tw13215998728584607739 : True := trivial
theorem PySem.W.Fast.tw13236226663087606529 : True := trivial
theorem PySem.W.Fast.tw13254397897704925713 : True := trivial
theorem PySem.W.Fast.tw13317431791736044220 : True := trivial
theorem PySem.W.Fast.tw13512673800721320934 : True := trivial
theorem PySem.W.Fast.tw13559156169165276386 : True := trivial
theorem PySem.W.Fast.tw13606957523739123596 : True := trivial
theorem PySem.W.Fast.tw13607416678640721797 : True := trivial
theorem PySem.W.Fast.tw13615603153576403970 : True := trivial
theorem PySem.W.Fast.tw13640514254501968386 : True := trivial
theorem PySem.W.Fast.tw13642483538084851733 : True := trivial
theorem PySem.W.Fast.tw13678640442995254988 : True := trivial
theorem PySem.W.Fast.tw13759679279233594173 : True := trivial
theorem PySem.W.Fast.tw13776390136698705113 : True := trivial
theorem PySem.W.Fast.tw13789449189825218787 : True := trivial
theorem PySem.W.Fast.tw13809362725867891129 : True := trivial
theorem PySem.W.Fast.tw13896205201685373497 : True := trivial
theorem PySem.W.Fast.tw13900631225919944168 : True := trivial
theorem PySem.W.Fast.tw13912434898499826684 : True := trivial
theorem PySem.W.Fast.tw13981391230805400906 : True := trivial
theorem PySem.W.Fast.tw13987355940573415152 : True := trivial
theorem PySem.W.Fast.tw14023627001141898710 : True := trivial
theorem PySem.W.Fast.tw14073706353221006472 : True := trivial
theorem PySem.W.Fast.tw14108194823987119177 : True := trivial
theorem PySem.W.Fast.tw14112274594779413971 : True := trivial
theorem PySem.W.Fast.tw14168537005229113720 : True := trivial
theorem PySem.W.Fast.tw14223099787259518943 : True := trivial
theorem PySem.W.Fast.tw14224011070414065920 : True := trivial
theorem PySem.W.Fast.tw14311459727803291754 : True := trivial
theorem PySem.W.Fast.tw14326252917377295143 : True := trivial
theorem PySem.W.Fast.tw14333388528381170442 : True := trivial
theorem PySem.W.Fast.tw14386061602966655976 : True := trivial
theorem PySem.W.Fast.tw14530364306720264245 : True := trivial
theorem PySem.W.Fast.tw14537914154153760125 : True := trivial
theorem PySem.W.Fast.tw14553827428707814869 : True := trivial
theorem PySem.W.Fast.tw14587381625972022502 : True := trivial
theorem PySem.W.Fast.tw14638366451347569053 : True := trivial
theorem PySem.W.Fast.tw14714103240675001986 : True := trivial
theorem PySem.W.Fast.tw14834023430324568649 : True := trivial
theorem PySem.W.Fast.tw14850637758680703435 : True := trivial
theorem PySem.W.Fast.tw14884601019740666482 : True := trivial
theorem PySem.W.Fast.tw14896874001708588922 : True := trivial
theorem PySem.W.Fast.tw14979626087600564940 : True := trivial
theorem PySem.W.Fast.tw15007238320947547705 : True := trivial
theorem PySem.W.Fast.tw15066959818950650227 : True := trivial
theorem PySem.W.Fast.tw15079194523842364033 : True := trivial
theorem PySem.W.Fast.tw15112985482279097393 : True := trivial
theorem PySem.W.Fast.tw15168306246750427876 : True := trivial
theorem PySem.W.Fast.tw15278061642289888581 : True := trivial
theorem PySem.W.Fast.tw15323854079317868165 : True := trivial
theorem PySem.W.Fast.tw15423634916342008072 : True := trivial
theorem PySem.W.Fast.tw15450981722951097364 : True := trivial
theorem PySem.W.Fast.tw15475462885187679331 : True := trivial
theorem PySem.W.Fast.tw15480198773659482676 : True := trivial
theorem PySem.W.Fast.tw15490439104401381959 : True := trivial
theorem PySem.W.Fast.tw15542503528162795033 : True := trivial
theorem PySem.W.Fast.tw15560500314895047343 : True := trivial
theorem PySem.W.Fast.tw15663404670287596823 : True := trivial
theorem PySem.W.Fast.tw15742981410569661332 : True := trivial
theorem PySem.W.Fast.tw15806122291839087668 : True := trivial
theorem PySem.W.Fast.tw15823609455315575823 : True := trivial
theorem PySem.W.Fast.tw15894407043143930727 : True := trivial
theorem PySem.W.Fast.tw15900120412870309639 : True := trivial
theorem PySem.W.Fast.tw15918970679434673802 : True := trivial
theorem PySem.W.Fast.tw15919542637913265678 : True := trivial
theorem PySem.W.Fast.tw15980859228951719591 : True := trivial
theorem PySem.W.Fast.tw16018607276475445134 : True := trivial
theorem PySem.W.Fast.tw16049961110935095269 : True := trivial
theorem PySem.W.Fast.tw16145008321745377990 : True := trivial
theorem PySem.W.Fast.tw16176465441171805009 : True := trivial
theorem PySem.W.Fast.tw16180582048198870337 : True := trivial
theorem PySem.W.Fast.tw16241802466949684156 : True := trivial
theorem PySem.W.Fast.tw16349216596472256690 : True := trivial
theorem PySem.W.Fast.tw16349804527192203551 : True := trivial
theorem PySem.W.Fast.tw16350708796919097252 : True := trivial
theorem PySem.W.Fast.tw16374537267813192141 : True := trivial
theorem PySem.W.Fast.tw16413264400604254196 : True := trivial
theorem PySem.W.Fast.tw16414604833108395602 : True := trivial
theorem PySem.W.Fast.tw16494616584097029746 : True := trivial
theorem PySem.W.Fast.tw16531745337717519161 : True := trivial
theorem PySem.W.Fast.tw16548257151911338427 : True := trivial
theorem PySem.W.Fast.tw16643379632663270332 : True := trivial
theorem PySem.W.Fast.tw16643706677886111943 : True := trivial
theorem PySem.W.Fast.tw16697116713213952808 : True := trivial
theorem PySem.W.Fast.tw16752143609539240740 : True := trivial
theorem PySem.W.Fast.tw16792545251062261874 : True := trivial
theorem PySem.W.Fast.tw16817318245366136608 : True := trivial
theorem PySem.W.Fast.tw16846860572762119324 : True := trivial
theorem PySem.W.Fast.tw16869277618539721502 : True := trivial
theorem PySem.W.Fast.tw16916688483869632129 : True := trivial
theorem PySem.W.Fast.tw16947794391021106201 : True := trivial
theorem PySem.W.Fast.tw16966814322356759819 : True := trivial
theorem PySem.W.Fast.tw16975597550341707298 : True := trivial
theorem PySem.W.Fast.tw16979880578912567463 : True := trivial
theorem PySem.W.Fast.tw16981483081396284153 : True := trivial
theorem PySem.W.Fast.tw17000458434675057986 : True := trivial
theorem PySem.W.Fast.tw17001327861769816259 : True := trivial
theorem PySem.W.Fast.tw17018628822417861297 : True := trivial
theorem PySem.W.Fast.tw17057272898397164401 : True := trivial
theorem PySem.W.Fast.tw17100903815162463580 : True := trivial
theorem PySem.W.Fast.tw17111948838632640456 : True := trivial
theorem PySem.W.Fast.tw17164873540382356111 : True := trivial
theorem PySem.W.Fast.tw17274371674624000324 : True := trivial
theorem PySem.W.Fast.tw17279654841073493023 : True := trivial
theorem PySem.W.Fast.tw17300597898927385350 : True := trivial
theorem PySem.W.Fast.tw17434858337260393937 : True := trivial
theorem PySem.W.Fast.tw17476080006546285661 : True := trivial
theorem PySem.W.Fast.tw17497748084772794779 : True := trivial
theorem PySem.W.Fast.tw17517737089405305841 : True := trivial
theorem PySem.W.Fast.tw17532440430192770315 : True := trivial
theorem PySem.W.Fast.tw17532718790514356516 : True := trivial
theorem PySem.W.Fast.tw17537794083376710389 : True := trivial
theorem PySem.W.Fast.tw17552769576498331613 : True := trivial
theorem PySem.W.Fast.tw17673458659176508382 : True := trivial
theorem PySem.W.Fast.tw17730448691065144110 : True := trivial
theorem PySem.W.Fast.tw17804436615005485693 : True := trivial
theorem PySem.W.Fast.tw17828083071136270317 : True := trivial
theorem PySem.W.Fast.tw17846936440860909165 : True := trivial
theorem PySem.W.Fast.tw17863021456227041891 : True := trivial
theorem PySem.W.Fast.tw17954471519018878134 : True := trivial
theorem PySem.W.Fast.tw17964007177503468958 : True := trivial
theorem PySem.W.Fast.tw17988542015724977305 : True := trivial
theorem PySem.W.Fast.tw18056578402003937789 : True := trivial
theorem PySem.W.Fast.tw18101931140130867144 : True := trivial
theorem PySem.W.Fast.tw18211773271919218964 : True := trivial
theorem PySem.W.Fast.tw18220123701641295943 : True := trivial
theorem PySem.W.Fast.tw18260038339965228139 : True := trivial
theorem PySem.W.Fast.tw18263319221461684349 : True := trivial
theorem PySem.W.Fast.tw18340240734955500558 : True := trivial
theorem PySem.W.Fast.tw18345786424863182364 : True := trivial
theorem PySem.W.Fast.tw18350330562280901221 : True := trivial
theorem PySem.W.Fast.tw18416463498863911781 : True := trivial
namespace Mine
-- part JRes
section
open PySem.Sem (wp)
/-- the caller of the claim is on the stack -/
noncomputable def HasCaller (l : List (Code × Pos)) : Prop := ((l.map (·.1)).any fun c => match c with | .builtin "claim.caller" _ => true | _ => false) = true
theorem HasCaller.cons {l : List (Code × Pos)} (h : HasCaller l) (x : Code × Pos) : HasCaller (x :: l) := by
  unfold HasCaller at h ⊢
  rw [List.map_cons, List.any_cons, h, Bool.or_true]
theorem HasCaller.pos {l : List (Code × Pos)} {c : Code} {p : Pos} (h : HasCaller ((c, p) :: l)) (q : Pos) : HasCaller ((c, q) :: l) := h
/-- like wpAny, for the contexts that have the claim's caller on the stack -/
noncomputable def wpR {α : Type} (M : Model) (A : Around) (t : Sem α) (Q : α → Shared → Prop) (E : Value → Shared → Prop) (s : Shared) : Prop :=
  ∀ Γ p, Γ.In A → HasCaller ((Γ.code, p) :: Γ.below) → wp M Γ t (fun a _ s' => Q a s') (fun e _ s' => E e s') p s
noncomputable def codeR (M : Model) (A : Around) (c : Code) (R : Result → Shared → Prop) (s : Shared) : Prop :=
  ∀ Γ p, Γ.code = c → Γ.Below A → HasCaller Γ.below → wpCode M Γ R p s
section
variable {α β : Type} {M : Model} {A : Around} {E : Value → Shared → Prop} {s : Shared} {env : Env}
theorem wpR_of {t : Sem α} {Q : α → Shared → Prop} (h : wpAny M A t Q E s) : wpR M A t Q E s := fun Γ p hΓ _ => h Γ p hΓ
theorem codeR_of {c : Code} {R : Result → Shared → Prop} (h : codeAny M A c R s) : codeR M A c R s := fun Γ p hc hΓ _ => h Γ p hc hΓ
theorem wpR_mono {t : Sem α} {Q Q' : α → Shared → Prop} {E' : Value → Shared → Prop} (h : wpR M A t Q E s) (hQ : ∀ a s, Q a s → Q' a s) (hE : ∀ e s, E e s → E' e s) : wpR M A t Q' E' s :=
  fun Γ p hΓ hC => Sem.wp_mono M Γ t (fun a _ s => hQ a s) (fun e _ s => hE e s) p s (h Γ p hΓ hC)
theorem codeR_mono {c : Code} {R R' : Result → Shared → Prop} (h : codeR M A c R s) (hR : ∀ r s, R r s → R' r s) : codeR M A c R' s :=
  fun Γ p hc hΓ hC => wpCode_mono hR (h Γ p hc hΓ hC)
theorem wpR_pure {a : α} {Q : α → Shared → Prop} (h : Q a s) : wpR M A (pure a) Q E s := fun _ _ _ _ => h
theorem wpR_bind {m : Sem α} {f : α → Sem β} {Q : β → Shared → Prop} (h : wpR M A m (fun a s' => wpR M A (f a) Q E s') E s) : wpR M A (m >>= f) Q E s := fun Γ p hΓ hC => by
  rw [Sem.wp_bind']
  exact Sem.wp_mono M Γ m (fun a p' s' h' => h' Γ p' hΓ (hC.pos p')) (fun _ _ _ h' => h') p s (h Γ p hΓ hC)
theorem wpR_bindL {m : Sem α} {f : α → Sem β} {Q : β → Shared → Prop} (h : wpAny M A m (fun a s' => wpR M A (f a) Q E s') E s) : wpR M A (m >>= f) Q E s := wpR_bind (wpR_of h)
theorem wpR_onRaise {m : Sem α} {k : Value → Sem Unit} {Q : α → Shared → Prop}
    (h : wpR M A m Q (fun e s' => wpAny M A (k e) (fun _ s'' => E e s'') E s') s) : wpR M A (m.onRaise k) Q E s := fun Γ p hΓ hC => by
  rw [Sem.wp_onRaise]
  exact Sem.wp_mono M Γ m (fun _ _ _ h' => h') (fun e p' s' h' => h' Γ p' hΓ) p s (h Γ p hΓ hC)
theorem wpR_attempt {m : Sem α} {Q : Except Value α → Shared → Prop} (h : wpR M A m (fun a => Q (.ok a)) (fun e => Q (.error e)) s) :
    wpR M A m.attempt Q E s := fun Γ p hΓ hC => by rw [Sem.wp_attempt]; exact h Γ p hΓ hC
theorem wpR_holding {vs : List Value} {m : Sem α} {Q : α → Shared → Prop} (h : wpR M A m Q E s) : wpR M A (holding vs m) Q E s :=
  fun Γ p hΓ hC => by rw [Sem.wp_holding]; exact h Γ p hΓ hC
theorem wpR_run {c : Code} {h : Option Value} {Q : Flow → Shared → Prop}
    (hc : codeR M (A.mark h) c (fun r s' => match r with | .ok f => Q f s' | .error e => E e s') s) (hnb : h ≠ some byPass := by intro x; cases x) :
    wpR M A (run c h) Q E s :=
  fun Γ p hΓ hC => by rw [Sem.wp_run]; exact hc _ p rfl (hΓ.enter c h p hnb) hC
theorem wpR_runValue {c : Code} {Q : Value → Shared → Prop}
    (hc : codeR M A c (fun r s' => match r with | .ok (.ret v) => Q v s' | .ok _ => False | .error e => E e s') s) :
    wpR M A (runValue c) Q E s := fun Γ p hΓ hC => by rw [Sem.wp_runValue]; exact hc _ p rfl (hΓ.enter c none p (by intro x; cases x)) hC
theorem wpR_call {f : Value} {pos : List Value} {kw : List (Str × Value)} {Q : Value → Shared → Prop}
    (hc : codeR M A (.call f ⟨pos, kw⟩) (fun r s' => match r with | .ok (.ret v) => Q v s' | .ok _ => False | .error e => E e s') s) :
    wpR M A (call f pos kw) Q E s := wpR_runValue hc
theorem codeR_of_tree {c : Code} {R : Result → Shared → Prop}
    (h : wpR M (A.under c) (M.den c) (fun fin s' => match fin with | .done f => R (.ok f) s' | .again c' => c'.quiet = true ∧ codeR M A c' R s')
      (fun e s' => R (.error e) s') s) : codeR M A c R s := fun Γ p hc hΓ hC => by
  rw [wpCode_iff_wp, hc]
  refine Sem.wp_mono M Γ _ (fun fin p' s' h' => ?_) (fun _ _ _ h' => h') p s (h Γ p (hc ▸ hΓ.in) (hC.cons _))
  cases fin with
  | done f => exact h'
  | again c' => exact ⟨h'.1, h'.2 (Γ.goto c') p' rfl (hΓ.goto c') hC⟩
theorem codeR_loop {c : Code} {R : Result → Shared → Prop} (hq : c.quiet = true) (I : Nat → Shared → Prop)
    (turn : ∀ n s, I n s → wpR M (A.under c) (M.den c)
      (fun fin s' => match fin with
        | .done f => R (.ok f) s'
        | .again c' => (c' = c ∧ ∃ m, m < n ∧ I m s') ∨ (c'.quiet = true ∧ codeR M A c' R s')) (fun e s' => R (.error e) s') s)
    (n : Nat) (h : I n s) : codeR M A c R s := by
  induction n using Nat.strongRecOn generalizing s with
  | ind n ih =>
    refine codeR_of_tree (wpR_mono (turn n s h) (fun fin s' hf => ?_) fun _ _ h' => h')
    cases fin with
    | done f => exact hf
    | again c' =>
      rcases hf with ⟨rfl, m, hm, hI⟩ | hf
      · exact ⟨hq, ih m hm hI⟩
      · exact hf
theorem wpR_execs_cons {st rest} {Q : Flow → Shared → Prop}
    (h : wpR M A (exec st env) (fun f s' => match f with | .next => wpR M A (execs rest env) Q E s' | f => Q f s') E s) :
    wpR M A (execs (st :: rest) env) Q E s := by
  rw [execs_cons]
  refine wpR_bind (wpR_mono h (fun f s' h' => ?_) fun _ _ x => x)
  cases f <;> first | exact h' | exact wpR_pure h'
theorem wpR_execs_consL {st rest} {Q : Flow → Shared → Prop}
    (h : wpAny M A (exec st env) (fun f s' => match f with | .next => wpR M A (execs rest env) Q E s' | f => Q f s') E s) :
    wpR M A (execs (st :: rest) env) Q E s := wpR_execs_cons (wpR_of h)
theorem wpR_Expr {e pos} {Q : Flow → Shared → Prop} (h : wpR M A (eval e env) (fun v s' => match v with | .ref _ => False | _ => Q .next s') E s)
    (hi : interactive env = false := by rfl) (hs : swapsWith e none pos.line env = pure false := by rfl) :
    wpR M A (exec (.Expr e pos) env) Q E s := by
  rw [exec_Expr env e pos hi hs]
  refine wpR_bindL (wpAny_standAt (wpR_bind (wpR_mono h (fun v s' h' => ?_) fun _ _ x => x)))
  have hv : ∀ a, v ≠ .ref a := fun a hva => by subst hva; exact h'
  rw [dropValue_plain hv]
  refine wpR_pure ?_
  cases v <;> first | exact h' | exact (hv _ rfl).elim
theorem wpR_Assign_Name {x pos' value pos} {Q : Flow → Shared → Prop}
    (h : wpR M A (eval value env) (fun v s₁ => wpAny M A (storeName env x v) (fun _ => Q .next) E s₁) E s)
    (hs : swapsWith value (some (.Name x pos')) pos.line env = pure false := by rfl) :
    wpR M A (exec (.Assign [.Name x pos'] value pos) env) Q E s := fun Γ p hΓ hC => by
  simp only [exec_Assign_Name env x pos' value pos hs, Sem.wp_bind', Sem.wp_cmd_standAt, Sem.wp_bindName, Sem.wp_pure']
  exact Sem.wp_mono M Γ _ (fun v _ s₁ h₁ => h₁ Γ _ hΓ) (fun _ _ _ h' => h') _ _ (h Γ _ hΓ (hC.pos _))
theorem wpR_If {test body orelse pos} {Q : Flow → Shared → Prop}
    (h : wpAny M A (isTrue test env (eval test env))
      (fun b s₂ => if b then wpR M A (execs body env) Q E s₂ else wpR M A (execs orelse env) Q E s₂) E s) :
    wpR M A (exec (.If test body orelse pos) env) Q E s := fun Γ p hΓ hC => by
  simp only [exec_If, Sem.wp_bind', Sem.wp_cmd_standAt]
  refine Sem.wp_mono M Γ _ (fun b p₂ s₂ h₂ => ?_) (fun _ _ _ h' => h') _ _ (h Γ _ hΓ)
  cases b <;> exact h₂ Γ p₂ hΓ (hC.pos _)
theorem wpR_tryStmt_except {body orelse : Sem Flow} {h₀ : ExceptHandler} {hs : List ExceptHandler} {Q : Flow → Shared → Prop}
    (h : wpR M A body (fun f s₁ => match f with | .next => wpAny M A orelse Q E s₁ | f => Q f s₁)
      (fun e s₁ => wpAny M A (noteFrame e env) (fun _ s₂ => wpAny M A (setFlight e none) (fun _ s₃ => wpAny M A (handleBy e env (h₀ :: hs)) Q E s₃) E s₂) E s₁) s) :
    wpR M A (tryStmt false body (h₀ :: hs) orelse [] env) Q E s := by
  unfold tryStmt
  simp only [List.isEmpty_nil, if_true, List.isEmpty_cons, Bool.false_and, Bool.false_eq_true, if_false]
  refine wpR_bind (wpR_attempt (wpR_mono h (fun f s₁ h₁ => ?_) fun e s₁ h₁ => ?_))
  · cases f <;> first | exact wpR_of h₁ | exact wpR_pure h₁
  · exact wpR_of (wpAny_bind (wpAny_mono h₁ (fun _ _ h₂ => wpAny_bind h₂) fun _ _ x => x))
theorem wpR_runOwn {c : Code} {h : Option Value} {Q : Flow → Shared → Prop}
    (hc : codeR M (A.mark h) c (fun r s' => match r with | .ok f => Q f s' | .error e => cameBackBy M A env E e s') s) (hnb : h ≠ some byPass := by intro x; cases x) :
    wpR M A (runOwn c env h) Q E s := by
  unfold runOwn
  exact wpR_onRaise (wpR_run hc hnb)
theorem wpR_For {target iter body orelse pos} {Q : Flow → Shared → Prop}
    (h : wpAny M A (eval iter env) (fun x s₁ => wpAny M A (pyIter x) (fun it s₂ =>
      codeR M A (.forLoop target it body orelse env) (fun r s' => match r with | .ok f => Q f s' | .error e => cameBackBy M A env E e s') s₂) E s₁) E s)
    (hs : ∀ x, foldedSetIterable iter env x = pure x := by intro _; rfl) :
    wpR M A (exec (.For target iter body orelse pos) env) Q E s := by
  rw [exec_For]
  refine wpR_bindL (wpAny_standAt (wpR_bindL (wpAny_mono h (fun x s₁ h₁ => wpR_bindL (wpAny_of_eq (hs x) (wpR_bindL (wpAny_standAt (wpR_bindL (wpAny_holding
    (wpAny_mono h₁ (fun it s₂ h₂ => ?_) fun _ _ h' => h'))))))) fun _ _ h' => h')))
  exact wpR_runOwn h₂
theorem wpR_noted {m : Sem α} {Q : α → Shared → Prop} (h : wpR M A m Q (notedBy M A env E) s) : wpR M A (m.onRaise fun x => do noteFrame x env; theTreesLotGoes x) Q E s :=
  wpR_onRaise (wpR_mono h (fun _ _ q => q) fun _ _ hx => wpAny_bind (wpAny_mono hx (fun _ _ e => wpAny_theTreesLotGoes e) fun _ _ e => e))
end
section
variable {prog : Program} {w : World} {A : Around} {E : Value → Shared → Prop} {s : Shared} {env : Env} {R : Result → Shared → Prop}
theorem wpR_Try_except {body orelse : List Stmt} {h₀ : ExceptHandler} {hs : List ExceptHandler} {pos : Pos} {Q : Flow → Shared → Prop}
    (h : wpR (model prog w) A (execs body env) (fun f s₁ => match f with | .next => wpAny (model prog w) A (execs orelse env) Q E s₁ | f => Q f s₁)
      (fun e s₁ => wpAny (model prog w) A (noteFrame e env) (fun _ s₂ => wpAny (model prog w) A (setFlight e none) (fun _ s₃ => wpAny (model prog w) A (handleBy e env (h₀ :: hs)) Q E s₃) E s₂) E s₁) s) :
    wpR (model prog w) A (exec (.Try body (h₀ :: hs) orelse [] pos) env) Q E s := by
  rw [arm_exec_Try]
  exact wpR_bindL (wpAny_standAt (wpR_tryStmt_except h))
theorem codeR_block {stmts : List Stmt}
    (h : wpR (model prog w) A (execs stmts env) (fun f s' => R (.ok f) s') (notedBy (model prog w) A env fun e s' => R (.error e) s') s) : codeR (model prog w) A (.block stmts env) R s := by
  refine codeR_of_tree ?_
  show wpR _ _ (do return Fin.done (← (execs stmts env).onRaise (fun x => do noteFrame x env; theTreesLotGoes x))) _ _ s
  exact wpR_bind (wpR_noted (wpR_mono h (fun f s' h' => wpR_pure h') fun _ _ h' => h'))
theorem codeR_forLoop {target it body orelse} (I : Nat → Shared → Prop)
    (turn : ∀ n s, I n s → wpAny (model prog w) A (pyNext it) (fun r s₁ => match r with
      | none => wpR (model prog w) A (execs orelse env) (fun f s₃ => R (.ok f) s₃) (notedBy (model prog w) A env fun e s' => R (.error e) s') s₁
      | some v => wpAny (model prog w) A (assign target env v) (fun _ s₂ => wpR (model prog w) A (execs body env) (fun f s₃ => match f with
          | .next | .cont => ∃ m, m < n ∧ I m s₃
          | .brk => R (.ok .next) s₃
          | .ret v => R (.ok (.ret v)) s₃) (notedBy (model prog w) A env fun e s' => R (.error e) s') s₂) (notedBy (model prog w) A env fun e s' => R (.error e) s') s₁) (notedBy (model prog w) A env fun e s' => R (.error e) s') s)
    (n : Nat) (h : I n s) (ht : ∀ v, letOwnedTupleGo target it v = pure () := by intro _; rfl) : codeR (model prog w) A (.forLoop target it body orelse env) R s := by
  refine codeR_loop rfl I (fun n s hI => ?_) n h
  show wpR _ _ ((forTurn target it body orelse env).onRaise (fun x => do noteFrame x env; theTreesLotGoes x)) _ _ s
  refine wpR_noted ?_
  simp only [forTurn]
  refine wpR_bindL (wpAny_standAt (wpR_bindL (wpAny_onRaise (wpAny_mono (turn n s hI) (fun r s₁ h₁ => ?_) fun _ _ h' => wpAny_standAt h'))))
  cases r with
  | none => exact wpR_pure (.inr ⟨rfl, codeR_block h₁⟩)
  | some v =>
    refine wpR_bindL (wpAny_of_eq (ht v) ?_)
    refine wpR_bindL (wpAny_mono h₁ (fun _ s₂ h₂ => wpR_bind (wpR_mono h₂ (fun f s₃ h₃ => ?_) fun _ _ h' => h')) fun _ _ h' => h')
    cases f with
    | next => exact wpR_pure (.inl ⟨rfl, h₃⟩)
    | cont => exact wpR_pure (.inl ⟨rfl, h₃⟩)
    | brk => exact wpR_pure h₃
    | ret v => exact wpR_pure h₃
theorem codeR_func {body}
    (h : wpR (model prog w) (A.deeper env) (execs body env) (fun f s' => R (.ok (.ret (match f with | .ret v => v | _ => .none))) s')
      (fun e s' => wpAny (model prog w) (A.deeper env) (leaving env e) (fun _ s'' => R (.error e) s'') (fun e' s'' => R (.error e') s'') s') s) :
    codeR (model prog w) A (.func body env) R s := by
  refine codeR_of_tree ?_
  show wpR _ (A.deeper env) (do point; match ← (execs body env).onRaise (leaving env) with | .ret v => ret v | _ => ret .none) _ _ s
  refine wpR_bindL (wpAny_point (wpR_bind (wpR_onRaise (wpR_mono h (fun f s' h' => ?_) fun _ _ h' => h'))))
  cases f <;> exact wpR_pure h'
theorem codeR_call_function {a : Addr} {args : Args} {o : Obj} {fd : FuncData} {body : List Stmt} (hroom : A.depth < recursionLimit)
    (ho : s.heap.get? a = some o)
    (hd' : o.data = .func fd) (hco : fd.scope.isCoroutine = false) (hgen : fd.scope.isGenerator = false) (hbody : fd.body = .stmts body) (hcd : s.heap.CodeRec fd.code fd.qualname)
    (h : wpAny (model prog w) A.in1 (bindArgs fd args) (fun binds s₁ =>
      wpAny (model prog w) A.in1 (newFunctionEnv fd.scope fd.globals fd.closure binds (fd.qualname ++ ".<locals>.") (some a) fd.code none fd.builtins)
        (fun env s₂ => s₂.heap.NoLimit ∧ codeR (model prog w) A (.func body env) R s₂) (fun e s' => R (.error e) s') s₁) (fun e s' => R (.error e) s') s) :
    codeR (model prog w) A (.call (.ref a) args) R s := by
  refine codeR_of_tree ?_
  show wpR _ A.in1 (callAny (.ref a) args) _ _ s
  simp only [callAny]
  refine wpR_bindL (wpAny_load ho ?_)
  obtain ⟨c, oc, vs, tq, hc, hoc, hdc, hq⟩ := hcd
  simp only [hd', callFunction, hco, hgen, hbody, hc]
  rw [hc] at h
  refine wpR_bindL (m := field (.ref c) 1) (wpAny_field hoc hdc hq (wpR_bindL (wpAny_pure ?_)))
  exact wpR_bindL (wpAny_mono h (fun binds s₁ h₁ => wpR_bindL (wpAny_mono h₁ (fun env s₂ h₂ => wpR_bindL (wpAny_enterFrame h₂.1 hroom
    (wpR_pure (And.intro rfl h₂.2)))) fun _ _ h' => h')) fun _ _ h' => h')
theorem codeR_call_def {a : Addr} {o : Obj} {fd : FuncData} {body : List Stmt} {args : Args} {binds : List (Str × Value)}
    (hroom : A.depth < recursionLimit) (ho : s.heap.get? a = some o) (hdata : o.data = .func fd) (hlim : s.heap.NoLimit) (hcd : s.heap.CodeRec fd.code fd.qualname)
    (hbody : fd.body = .stmts body) (hbind : BindsTo s fd args binds)
    (hcell : ∀ x ∈ fd.scope.names, x.2 ≠ .cell) (hloc : ∀ x ∈ binds, fd.scope.names.lookup x.1 = some .local)
    (h : ∀ h₀, h₀.Ns s.heap.objs.size (fun x => binds.reverse.lookup x) → (∀ b o, s.heap.get? b = some o → h₀.get? b = some o) →
      wpR (model prog w) (A.deeper (callEnv fd s.heap.objs.size a)) (execs body (callEnv fd s.heap.objs.size a)) (fun f s' => R (.ok (.ret (match f with | .ret v => v | _ => .none))) s')
        (fun e s' => wpAny (model prog w) (A.deeper (callEnv fd s.heap.objs.size a)) (leaving (callEnv fd s.heap.objs.size a) e) (fun _ s'' => R (.error e) s'') (fun e' s'' => R (.error e') s'') s')
        { s with heap := h₀, toks := s.toks + binds.length })
    (hco : fd.scope.isCoroutine = false := by rfl) (hgen : fd.scope.isGenerator = false := by rfl) (hk : fd.scope.kind = .function := by rfl) :
    codeR (model prog w) A (.call (.ref a) args) R s := by
  refine codeR_call_function hroom ho hdata hco hgen hbody hcd (hbind _ _ _ _ ?_)
  refine wpAny_newFunctionEnv hcell hloc (fun h₀ hns₀ hsb₀ => ⟨hlim.fresh _ hsb₀, codeR_func (h h₀ hns₀ fun b o e => ?_)⟩) hk
  exact hsb₀.extBut b o (Nat.ne_of_lt (Heap.lt_size e)) (Heap.get?_push_of_some _ e)
theorem codeR_call_builtin {id : String} {args : Args} {b : Builtin} (hq : plainId id = true) (hb : entryFor table id = some b)
    (h : wpAny (model prog w) A.in1 (checkBuiltinCall id args) (fun _ s₁ => wpR (model prog w) A.in1 (b args)
      (fun fin s' => match fin with | .done f => R (.ok f) s' | .again c' => c'.quiet = true ∧ codeR (model prog w) A c' R s') (fun e s' => R (.error e) s') s₁)
      (fun e s' => R (.error e) s') s) : codeR (model prog w) A (.call (.builtin id) args) R s := by
  refine codeR_of_tree ?_
  show wpR _ A.in1 (do checkBuiltinCall id args; again (.builtin id args)) _ _ s
  refine wpR_bindL (wpAny_mono h (fun _ s₁ h₁ => wpR_pure (And.intro (plainId_quiet hq args) (codeR_of_tree ?_))) fun _ _ h' => h')
  show wpR _ _ (match entryFor table id with | some b => b args | none => unsupported ((withoutEnding? id "#data").getD id)) _ _ s₁
  rw [hb, Around.under_plainId hq args]; exact h₁
theorem codeR_builtin {id : String} {args : Args} {b : Builtin} (hb : entryFor table id = some b)
    (h : wpR (model prog w) (A.under (.builtin id args)) (b args)
      (fun fin s' => match fin with | .done f => R (.ok f) s' | .again c' => c'.quiet = true ∧ codeR (model prog w) A c' R s') (fun e s' => R (.error e) s') s) :
    codeR (model prog w) A (.builtin id args) R s := by
  refine codeR_of_tree ?_
  show wpR _ _ (match entryFor table id with | some b => b args | none => unsupported ((withoutEnding? id "#data").getD id)) _ _ s
  rw [hb]; exact h
end
theorem not_and3 {b c d : Bool} (h : b = true) : (!b && c && d) = false := by subst h; rfl
/-- under the claim's caller no refusal is marked -/
theorem wpR_mark {M : Model} {A : Around} {E : Value → Shared → Prop} {s : Shared} {own : List String} {e : Value} {Q : Unit → Shared → Prop} (h : Q () s) : wpR M A (markTheRefusal own e) Q E s := fun Γ p hΓ hC => by
  unfold markTheRefusal
  rw [Sem.wp_bind']
  show wp M Γ (if pythonCodeMadeTheCall own (((Γ.code, p) :: Γ.below).map (·.1)) = true then _ else _) _ _ p s
  have e1 : pythonCodeMadeTheCall own (((Γ.code, p) :: Γ.below).map (·.1)) = false := by
    exact not_and3 hC
  rw [e1]
  exact h
end
-- part JTop
section
open PySem.Sem (wp)
theorem caller_has (p : Pos) : HasCaller ((Code.builtin "claim.caller" {}, p) :: []) := rfl
theorem wp_of_wpR_done {M : Model} {t : Sem Fin} {R : Result → Shared → Prop} {s : Shared}
    (h : wpR M callerA t (fun fin s' => ∃ f, fin = .done f ∧ R (.ok f) s') (fun e s' => R (.error e) s') s) (p : Pos) :
    wp M ⟨.builtin "claim.caller" {}, none, none, [], none⟩ t (Sem.finPost M ⟨.builtin "claim.caller" {}, none, none, [], none⟩ R) (fun e _ s' => R (.error e) s') p s := by
  refine Sem.wp_mono M _ t (fun fin p' s' h' => ?_) (fun _ _ _ h' => h') p s (h _ p caller_in (caller_has p))
  obtain ⟨f, rfl, hf⟩ := h'
  exact hf
theorem ends_R {prog : Program} {w : World} {t : Sem Fin} {s : Shared} {R : Result → Shared → Prop} (hreg : s.asleep)
    (h : wpR (model prog w) callerA t (fun fin s' => ∃ f, fin = .done f ∧ (R (.ok f) s' ∧ leftWithCleanup s'.gens = false)) (fun e s' => R (.error e) s' ∧ leftWithCleanup s'.gens = false) s) :
    ∃ n r s' s'', runN (denote table) prog w n s ⟨t, .builtin "claim.caller" {}, default, []⟩ = .halted (outcomeOf r) s' ∧
      schedN (denote table) prog w n (.single s ⟨t, .builtin "claim.caller" {}, default, []⟩) = .halted (outcomeOf r) s' ∧ s'.forget = s''.forget ∧ R r s'' := by
  obtain ⟨n, r, s₁, s₂, hs, hn, hfo, hR⟩ := wp_halts_full (M := model prog w) (R := R) hreg (wp_of_wpR_done (R := fun r s' => R r s' ∧ leftWithCleanup s'.gens = false) h default)
  exact ⟨n, r, s₂, s₁, hn, hs, hfo, hR⟩
theorem call_from_R {c : ClaimW} {tree : List Value → Sem Fin} {w : World} {s : Shared} {free : Addr → Prop} {gens : Prop} {kept : Heap → Prop} (hz : s.asleep) (hgens : s.gens = #[])
    (hspec : ∀ args, c.pre args = true → WData.layableAll args = true →
      ∀ ord : List DictEntry → List DictEntry, (∀ l, (ord l).Perm l) →
      ∃ vs s₁, layAllW c.records (classAt s.heap) w.params ord args s = some (vs, s₁) ∧
        wpR (model c.prog w) callerA (tree vs) (fun fin s' => ∃ f, fin = .done f ∧ (c.Ends s args vs s₁ (.ok f) s' ∧ s'.os = s.os ∧ AllBare s'.gens ∧ kept s'.heap))
          (fun e s' => c.Ends s args vs s₁ (.error e) s' ∧ s'.os = s.os ∧ AllBare s'.gens ∧ kept s'.heap) s₁) :
    c.CallFrom (fun vs => ⟨tree vs, .builtin "claim.caller" {}, default, []⟩) w free gens kept s := by
  intro args hpre hlay ord hord
  obtain ⟨vs, s₁, hlaid, hcode⟩ := hspec args hpre hlay ord hord
  have hal := layAllW_rest _ _ _ hlaid
  obtain ⟨k, r, s', s'', hrun, hsched, hfo, hcase, hos, hkp⟩ := ends_R (prog := c.prog) (w := w) (t := tree vs) (s := s₁)
    (R := fun r s' => c.Ends s args vs s₁ r s' ∧ s'.os = s.os ∧ kept s'.heap)
    (Shared.asleep_of_life hal.2.2.2 hz)
    (wpR_mono hcode (by
      rintro fin s' ⟨f, e, h1, h2, h3, h4⟩
      exact ⟨f, e, ⟨h1, h2, h4⟩, leftWithCleanup_false_of_bare h3⟩) (by
      rintro e s' ⟨h1, h2, h3, h4⟩
      exact ⟨⟨h1, h2, h4⟩, leftWithCleanup_false_of_bare h3⟩))
  obtain ⟨eh, _, _, eo, _⟩ := Shared.forget_eq hfo
  have hcase := hcase.congr eh
  have hkp : kept s'.heap := by first | exact eh ▸ hkp | (rw [eh] at hkp; exact hkp) | (rw [← eh] at hkp; exact hkp)
  rw [← eo] at hos
  have hlife : s'.heap.life = s.heap.life := (runN_life _ _ _ hrun).trans hal.2.2.2
  refine ⟨vs, s₁, hlaid, k, _, s', hsched, ?_, (fun _ i x hx => by rw [hgens] at hx; simp at hx), hkp, by rw [hlife], Shared.rest_eq hos⟩
  rcases hcase with ⟨v, rfl, d1, d2, d3, d4, d5⟩ | ⟨e, ob, cls, rfl, d1, d2, d3, d4, d5⟩
  · exact .inl ⟨v, rfl, d1, d2, d3, fun b o y _ => d4 b o y, d5⟩
  · exact .inr ⟨e, ob, cls, rfl, d1, d2, d3, d4, fun b o y _ => d5 b o y⟩
/-- what is to be walked, under the claim's caller -/
noncomputable abbrev WalkR (q : Program) (loose : List Str) (XP : (Str → Option Value) → Heap → Prop) (YP : World → Heap → Prop) (r : RowW) (d : DefRec) (kwd : List (Str × Expr)) : Prop :=
  ∀ (w : World) (s₀ s₁ : Shared) (mg mb : Str → Option Value), Ground q loose r.records XP w s₀ mg mb s₁.heap → YP w s₁.heap → ∀ (a : Addr) (o : Obj) (pm cd doc dV kV : Value), s₁.heap.get? a = some o →
    o.data = .func { docDef d.name d.params d.body d.scope pm cd doc with defaults := dV, kwdefaults := kV } → s₁.heap.CodeRec cd d.name → Dflts mg s₁.heap d.params kwd dV kV → mg d.name = some (.ref a) → s₁.gens = #[] →
    ∀ (args : List WData) (vals : List Value) (as : List Addr), r.claim.pre args = true → WData.layableAll args = true → ReadsAllW r.records (classAt s₀.heap) s₁.heap vals args as → WellAll w.params s₁.heap vals args → (∀ a ∈ as, (a == sysModules) = false) →
      codeR (model r.prog w) callerA (.call (.ref a) ⟨vals, []⟩) (GoodWG r.claim (classAt s₀.heap) (ExcName.means s₀.heap) args s₁) s₁
theorem enter_R {M : Model} {A : Around} {s : Shared} {f : Value} {pos : List Value} {c : ClaimW} {cl : Str → Option Addr} {mean : ExcName → Option Value} {args : List WData} {s₁ : Shared}
    (h : codeR M A (.call f ⟨pos, []⟩) (GoodWG c cl mean args s₁) s) : wpR M A (PySem.call f pos []) (fun v s' => GoodWG c cl mean args s₁ (.ok (.ret v)) s') (fun e s' => GoodWG c cl mean args s₁ (.error e) s') s :=
  wpR_call (codeR_mono h fun res s' g => by rcases g.1 with ⟨v, _, _, rfl, _⟩ | ⟨e, _, _, rfl, _⟩ <;> exact g)
/-- the kit's head for a row, with the walk under the claim's caller; the name lets the kit's own head find it here -/
theorem PySem.W.holds_open {r : OpenRow} {q : Program} {loose : List Str} {Xt : Shared → Bool} {XP : (Str → Option Value) → Heap → Prop} {α : Type} {Yf : Shared → α} {Ya : World → α} {YP : World → Heap → Prop} {d : DefRec} {kwd : List (Str × Expr)} {N : Nat}
    (left : LeftO r.prog q loose Xt Yf Ya N) (hY : ∀ w s, Yf s = Ya w → YP w s.heap) (hYk : ∀ w h h', YP w h → (∀ b o, h.get? b = some o → h'.get? b = some o) → YP w h')
    (hX : ∀ s, Xt s = true → XP (s.heap.nsMap mainGlobals) s.heap) (hXk : ∀ mg h h', XP mg h → (∀ b o, h.get? b = some o → h'.get? b = some o) → XP mg h')
    (hdef : defOf q r.name = some (d, kwd)) (hp : r.prog.theDef r.name = some (d.params, d.body, d.scope)) (hk : kwWritten? d.params.kwonlyargs d.params.kw_defaults = some kwd) (hRf : ∀ s, Xt s = true → RecFacts r.records s.heap) (hwr : (!r.writes || r.records.isEmpty) = true)
    (k1 : r.wellSaid = true) (ok : (chainsOk q && opensWell r.prog && (frees r.toRowW && r.within.isEmpty)) = true) (hb : r.prog.bare) (hw : r.toRowW.promised)
    (call : WalkR q loose XP YP r.toRowW d kwd) : r.Holds := by
  obtain ⟨ok, k5⟩ := Bool.and_eq_true_iff.mp ok
  obtain ⟨hch, o1⟩ := Bool.and_eq_true_iff.mp ok
  obtain ⟨k5, k6⟩ := Bool.and_eq_true_iff.mp k5
  obtain ⟨hsame, hu, ha, hap, hm⟩ := frees_parts k5
  refine ⟨k1, hw, ⟨⟨hb, o1, by show r.toRowW.makers.map _ = []; rw [hm]; rfl⟩, hw.witness, fun w => ⟨(left.behind hX hch w).1, fun s' hs' => ?_⟩⟩⟩
  obtain ⟨s₀, hf, hg0, s, hT, hz, hgens, hg, G00, y⟩ := (left.behind (XP := fun mg h => XP mg h ∧ RecFacts r.records h) (fun s hs => ⟨hX s hs, hRf s hs⟩) hch w).2 s' hs'
  have G0 : Ground q loose [] XP w s (s.heap.nsMap mainGlobals) (s.heap.nsMap builtinsNs) s.heap := ⟨G00.T, G00.B, G00.D, G00.TE, G00.TD, G00.W, G00.X.1, G00.cls, G00.has, G00.apart, G00.once, G00.K⟩
  have RF := G00.X.2
  have hT' := hT
  refine ⟨s₀, hf, hg0, s, hT, fun n hn => ?_, RF.1, RF.2.1, ?_⟩
  · obtain rfl : n = r.name := by split at hn <;> simp_all
    exact pinned_of_view hg G0 hdef hp hk
  have hgens : s.gens = #[] := Array.eq_empty_of_size_eq_zero (beq_iff_eq.mp hgens)
  have G : Ground q loose r.records XP w s _ _ s.heap := RF.ground G0
  refine call_from_R (c := r.toRowW.claim) hz hgens fun args hpre hlay ord hord => ?_
  obtain ⟨⟨vs, s₁⟩, hlaid⟩ := Option.isSome_iff_exists.mp (layAllW_isSome (P := w.params) (ord := ord) G.has args r.toRowW.args s (pre_splitW hpre).1)
  have keeps := layAllW_keeps _ _ _ hlaid
  have hal := layAllW_rest _ _ _ hlaid
  obtain ⟨as, hrd, hin, hold⟩ := reads_layAllW hord _ _ _ hlaid hlay s₁.heap (fun _ _ e => e)
  have L : Laid r.records w s s₁ args vs as := ⟨⟨ord, hord, hlaid⟩, hrd, hin, hold, keeps, hal.1.trans hgens, hal.2.2.1⟩
  have G₁ := G.keeps hXk keeps
  obtain ⟨a, o, pm, cd, doc, dV, kV, h1, h2, h3, h4, h5⟩ := G₁.fn hdef
  have h := enter_R (call w s s₁ _ _ G₁ (hYk _ _ _ (hY w s y) keeps) a o pm cd doc dV kV h2 h3 h4 h5 (defOf_name hdef ▸ h1) L.gens args vs as hpre hlay L.reads L.well (L.low G.low))
  have hi := ident_freeW hu ha hap
  have hwi : r.toRowW.claim.within = [] := List.isEmpty_iff.mp k6
  refine ⟨vs, s₁, hlaid, wpR_bindL (wpAny_nsGet G₁.T.g ?_)⟩
  rw [h1]
  refine wpR_bind (wpR_mono h (fun v s' g => wpR_pure ⟨_, rfl, ?_⟩) fun e s' g => ?_)
  · have z := g.laid (c := r.toRowW.claim) hsame hwi hi L
    exact ⟨z.1, z.2.1, z.2.2, fun q => ⟨namesKept_of hT' hg _ keeps g.2.1.old, noTable hwr q⟩⟩
  · have z := g.laid (c := r.toRowW.claim) hsame hwi hi L
    exact ⟨z.1, z.2.1, z.2.2, fun q => ⟨namesKept_of hT' hg _ keeps g.2.1.old, noTable hwr q⟩⟩
end
-- part JInt
section
open PySem.NumText
open PySem.Sem (wp)
section
variable {prog : Program} {w : World} {A : Around} {E : Value → Shared → Prop} {s : Shared}
theorem wpR_ite_true {α : Type} {M : Model} {c : Prop} [Decidable c] {a b : Sem α} {Q : α → Shared → Prop} (hc : c) (h : wpR M A a Q E s) : wpR M A (if c then a else b) Q E s := by rw [if_pos hc]; exact h
theorem wpR_ite_false {α : Type} {M : Model} {c : Prop} [Decidable c] {a b : Sem α} {Q : α → Shared → Prop} (hc : ¬ c) (h : wpR M A b Q E s) : wpR M A (if c then a else b) Q E s := by rw [if_neg hc]; exact h
theorem textR_bad {x : Str} {u : Tok} {Q : Value → Shared → Prop} {text : List Nat} (hA : A.handled = none) (hs : (text.takeWhile (· != 0)).length ≤ 640) (hr : (int_private% "readNumeral") 0 10 (text.takeWhile (· != 0)) = (int_private% "Numeral.invalid")) (hx : (reprText x).length ≤ 1000)
    (h : ∀ h' tk e args, Heap.MadeExc s.heap h' e "ValueError" args → E (.ref e) { s with heap := h', toks := tk }) :
    wpR (model prog w) A ((int_private% "intFromText") (.str x u) text 10) Q E s := by
  obtain ⟨hp, g, d, tk, os⟩ := s
  refine wpR_ite_true hs ?_
  refine wpR_bindL (wpAny_pure ?_)
  dsimp only
  rw [hr]
  dsimp only
  refine wpR_bindL (wpAny_pure ?_)
  refine wpR_ite_false (by rw [show (none : Option (Array UInt8)).isSome = false from rfl, Bool.false_and]; exact Bool.false_ne_true) ?_
  refine wpR_bindL (wpAny_rule ?_)
  refine wpR_bindL (wpAny_pure ?_)
  dsimp only
  have e1 : (Str.ofString (toString "invalid literal for int() with base " ++ toString 10 ++ toString ": ")).length = 40 := by decide +kernel
  refine wpR_bindL (wpAny_pyRepr_str ?_ (Nat.le_trans hx (by decide)))
  refine wpR_bindL (wpAny_mkStr ?_ ?_)
  · refine wpR_bindL (wpAny_newExc_plain plainExc_ValueError fun h' e hm => ?_)
    refine wpR_bind (wpR_mark ?_)
    exact wpR_of (wpAny_raiseNew_none hA (h _ _ _ _ hm))
  · rw [Str.length_append, e1]
    have e2 : (⟨(reprText x).cps.extract 0 200⟩ : Str).length ≤ 200 := by
      show ((reprText x).cps.extract 0 200).size ≤ 200
      rw [Array.size_extract]; omega
    have e3 : sizeLine = 16777216 := by decide
    omega
theorem newR_bad {x : Str} {u : Tok} {Q : PySem.Fin → Shared → Prop} (hA : A.handled = none) (hl : x.length ≤ 640) (hr : (int_private% "readNumeral") 0 10 (numSeenOf x) = (int_private% "Numeral.invalid")) (hx : (reprText x).length ≤ 1000)
    (h : ∀ h' tk e args, Heap.MadeExc s.heap h' e "ValueError" args → E (.ref e) { s with heap := h', toks := tk }) :
    wpR (model prog w) A (Builtin.«int.__new__» ⟨[.type "int", .str x u], []⟩) Q E s := by
  have f1 := F.conv_sub_int
  have f2 := F.madeHere_int
  have f3 := KIN.str_int
  have f4 := KIN.str_idx
  have f5 := KIN.str_trunc
  have f6 : typeOf (.str x u) = pure (.type "str") := rfl
  unfold Builtin.«int.__new__»
  dsimp only
  refine wpR_bindL (wpAny_pure ?_)
  refine wpR_ite_false (by decide) ?_
  refine wpR_bindL (wpAny_of_eq f1 ?_)
  refine wpR_ite_false (by decide) ?_
  refine wpR_bindL (wpAny_of_eq f2 ?_)
  refine wpR_ite_false (by simp) ?_
  refine wpR_ite_false (by simp) ?_
  refine wpR_bindL (wpAny_pure ?_)
  refine wpR_bind ?_
  generalize (fun (a : Value) s' => wpR (model prog w) A _ _ _ s') = Q9
  refine wpR_bindL ?_
  repeat (any_goals (first | assumption | wp_step))
  dsimp only
  refine wpR_bindL ?_
  repeat (any_goals (first | assumption | wp_step))
  refine wpR_ite_false (by simp) ?_
  refine wpR_bindL ?_
  repeat (any_goals (first | assumption | wp_step))
  dsimp only
  refine wpR_bindL ?_
  repeat (any_goals (first | assumption | wp_step))
  exact textR_bad (text := numTextOf x) hA (Nat.le_trans (seen_length x) hl) hr hx h
end
end
-- part JInt2
section
open PySem.NumText
open PySem.Sem (wp)
section
variable {prog : Program} {w : World} {A : Around} {E : Value → Shared → Prop} {s : Shared}
theorem intR_bad {x : Str} {u : Tok} {Q : Value → Shared → Prop} (hA : A.handled = none) (hl : x.length ≤ 640) (hr : (int_private% "readNumeral") 0 10 (numSeenOf x) = (int_private% "Numeral.invalid")) (hx : (reprText x).length ≤ 1000)
    (h : ∀ h' tk e args, Heap.MadeExc s.heap h' e "ValueError" args → E (.ref e) { s with heap := h', toks := tk }) :
    wpR (model prog w) A (call (.type "int") [.str x u]) Q E s := by
  have ft := F.called_int
  have hct := F.typeCall_int_1 (.str x u)
  have hcn := F.newCall_int_1 (.str x u)
  obtain ⟨c, tl, hmro⟩ := ft.mro
  have hmade := ft.made
  have hsub := ft.sub
  refine wpR_call (codeR_of_tree ?_)
  show wpR _ _ (callAny (.type "int") _) _ _ _
  refine wpR_pure ⟨Code.quiet_builtin _ (by decide +kernel), codeR_builtin F.entry_type_call ?_⟩
  rw [Around.under_plain (weight_type_call_type "int" _ []) (units_type_call_type "int" _ [])]
  have h1 := ft.notType
  have h2 := ft.canCreate
  unfold Builtin.«type.__call__»
  dsimp only
  repeat (first
    | ((with_reducible refine wpR_ite_false ?_ ?_); (focus (simp [*]; done)))
    | (with_reducible refine wpR_bindL (wpAny_of_eq (by assumption) ?_))
    | (with_reducible refine wpR_bindL (wpAny_pure ?_))
    | dsimp only)
  refine wpR_bind (wpR_holding (wpR_call (codeR_mono (R := fun r s' => ∃ e, r = .error e ∧ E e s') (codeR_call_builtin ft.plain F.entry_int_new (wpAny_of_eq hcn (newR_bad (A := A.in1.in1) hA hl hr hx ?_))) fun r s₁ hr => ?_)))
  · intro h' tk e args hm
    exact ⟨_, rfl, h h' tk e args hm⟩
  · obtain ⟨e, rfl, he⟩ := hr
    exact he
end
end
-- part JRes2
section
section
variable {M : Model} {A : Around} {E : Value → Shared → Prop} {s : Shared} {env : Env} {K : Frag} {pos : Pos} {f : Value} {first : List Value}
theorem wpR_keep {mk : Value} {args : List Value} {kw : List (Str × Value)} {Q : Value → Shared → Prop} (h : wpR M A (call f args kw) Q E s) : wpR M A (callMarked mk f args kw) Q E s :=
  fun Γ p hΓ hC => by rw [callMarked, Sem.wp_keep]; exact h Γ p hΓ hC
theorem callWithR_of {P : Heap → Prop} {args : List (Bool × Sem Value)} {keywords : List (Option Str × Sem Value)} {Q : Value → Shared → Prop} (hplain : (args.any (·.1) || keywords.any (·.1.isNone)) = false)
    (hk : ∀ h, P h → ∃ k, (k = Keeper.frame ∨ k = Keeper.machine ∨ k = Keeper.boundFrame) ∧ Looks M h (keeperOf f) k)
    (h : wpAny M A (evalArgs f true args keywords) (fun a s₁ => P s₁.heap ∧ wpR M A (call f (first ++ a.pos) a.kw) Q E s₁) E s) : wpR M A (callWith pos f first args keywords) Q E s := by
  unfold callWith
  refine wpR_bindL (wpAny_holding (wpAny_mono h (fun a s₁ h₁ => wpR_bindL (wpAny_standAt ?_)) fun _ _ x => x))
  obtain ⟨k, hk', L⟩ := hk _ h₁.1
  simp only [hplain]
  refine wpR_bindL (L.here ?_)
  have tail : ∀ {t : Sem Value}, wpR M A t Q E s₁ → wpR M A (t >>= fun r => holding [r] point >>= fun _ => pure r) Q E s₁ :=
    fun ht => wpR_bind (wpR_mono ht (fun r s₂ hr => wpR_bindL (wpAny_holding (wpAny_point (wpR_pure hr)))) fun _ _ x => x)
  have marked (mk : Value) : wpR M A (callMarked mk f (first ++ a.pos) a.kw) Q E s₁ := wpR_keep h₁.2
  rcases hk' with rfl | rfl | rfl <;> dsimp only <;> first | exact tail h₁.2 | (split <;> first | exact tail h₁.2 | exact tail (marked _))
theorem callWithR_K {h₀ : Heap} {e : Expr} {rest : List Expr} {Q : Value → Shared → Prop} (_X : K.In h₀) (hk : keepIn K f = true) (h : wpAny M A (spliced (backTo pos (starEach (e :: rest) env))) (fun vs s₁ => K.In s₁.heap ∧ wpR M A (call f (first ++ vs)) Q E s₁) E s)
    (he : starEach (e :: rest) env = (false, eval e env) :: starEach rest env := by rfl) (hplain : (backTo pos (starEach rest env)).any (·.1) = false := by rfl) :
    wpR M A (callWith pos f first (backTo pos (starEach (e :: rest) env)) []) Q E s := by
  rw [he] at h ⊢
  exact callWithR_of (by show ((false || (backTo pos (starEach rest env)).any (·.1)) || false) = false; rw [hplain]; rfl) (keeps_K hk) (evalArgs_plain h)
theorem callWithR_type {T : String} {e : Expr} {rest : List Expr} {Q : Value → Shared → Prop} (h : wpAny M A (spliced (backTo pos (starEach (e :: rest) env))) (fun vs s₁ => wpR M A (call (.type T) (first ++ vs)) Q E s₁) E s)
    (he : starEach (e :: rest) env = (false, eval e env) :: starEach rest env := by rfl) (hplain : (backTo pos (starEach rest env)).any (·.1) = false := by rfl) :
    wpR M A (callWith pos (.type T) first (backTo pos (starEach (e :: rest) env)) []) Q E s := by
  rw [he] at h ⊢
  have hp : ((backTo pos ((false, eval e env) :: starEach rest env)).any (·.1)) = false := by
    show (false || (backTo pos (starEach rest env)).any (·.1)) = false
    rw [hplain]; rfl
  unfold callWith
  refine wpR_bindL (wpAny_holding (wpAny_mono (evalArgs_plain (f := .type T) (Q := fun a s₁ => wpR M A (call (.type T) (first ++ a.pos) a.kw) Q E s₁) h) (fun a s₁ h₁ => wpR_bindL (wpAny_standAt ?_)) fun _ _ x => x))
  simp only [hp, List.any_nil, Bool.or_false]
  refine wpR_bindL (wpAny_pure ?_)
  exact wpR_bind (wpR_mono h₁ (fun r s₂ hr => wpR_bindL (wpAny_holding (wpAny_point (wpR_pure hr)))) fun _ _ x => x)
theorem evalR_method {o : Expr} {name : Str} {apos : Pos} {args : List Expr} {pl : Sem Bool} {Q : Value → Shared → Prop}
    (h : wpAny M A (eval o env) (fun ov s₁ => wpAny M A (getMethod ov name pl) (fun fx s₂ => wpR M A (callWith pos fx.1 fx.2 (backTo pos (starEach args env)) []) Q E s₂) E s₁) E s)
    (he : eval (.Call (.Attribute o name apos) args [] pos) env = (do
      let ov ← eval o env
      standAt apos.atName
      let (f, first) ← holding [ov] (getMethod ov name pl)
      callWith pos f first (backTo pos (starEach args env)) []) := by rfl) :
    wpR M A (eval (.Call (.Attribute o name apos) args [] pos) env) Q E s := by
  rw [he]
  refine wpR_bindL (wpAny_mono h (fun ov s₁ h₁ => wpR_bindL (wpAny_standAt (wpR_bindL (wpAny_holding (wpAny_mono h₁ (fun fx s₂ h₂ => ?_) fun _ _ x => x))))) fun _ _ x => x)
  exact h₂
theorem evalR_name {id : Str} {p : Pos} {args : List Expr} {Q : Value → Shared → Prop}
    (h : wpAny M A (eval (.Name id p) env) (fun f s₁ => wpR M A (callWith pos f [] (backTo pos (starEach args env)) []) Q E s₁) E s) :
    wpR M A (eval (.Call (.Name id p) args [] pos) env) Q E s := by
  rw [arm_eval_Call_Name']
  exact wpR_bindL h
end
end
-- part JRes3
section
section
variable {prog : Program} {w : World} {A₀ A : Around} {s : Shared} {base h₀ g₀ : Heap} {outer : List Env} {L a : Addr} {m : Str → Option Value} {cn : Str} {cs : Scope} {ccd : Value} {news : List (Addr × Obj)} {K : Frag} {p : Program} {loose : List Str} {mean : ExcName → Option Value} {mg mb : Str → Option Value}
    {R : Result → Shared → Prop} {name qual : Str} {params : Arguments} {body : List Stmt} {scope : Scope} {dV kV doc pm cdv ct oc : Value} {an od : Option Addr} {osl : Array (Option Value)} {f : Addr} {args : Args} {binds : List (Str × Value)}
/-- a def called from the law, under the claim's caller -/
theorem code_defR0 (B : Below A₀ base [] h₀) (F : Fr h₀ L s.heap m) (X₀ : K.In h₀) (N : News h₀ L s.heap news) (T : Top p loose mean mg mb h₀) (hA : A.frames = some [envOf cn cs L a ccd])
    (ho : K.lookup f = some ⟨oc, od, .func (fnOf name qual params body scope dV kV doc pm an cdv ct), osl⟩) (hcd : codeIn K cdv qual = true) (hroom : A.depth < recursionLimit)
    (hbind : BindsTo s (fnOf name qual params body scope dV kV doc pm an cdv ct) args binds) (hloc : ∀ y ∈ binds, scope.names.lookup y.1 = some .local)
    (h : ∀ g L' h₁, Fr h₀ L g m → Fr g L' h₁ (fun y => binds.reverse.lookup y) → News g L' h₁ news → Below A base [envOf cn cs L a ccd] g → K.In g → Top p loose mean mg mb g → KtsDicts ([envOf cn cs L a ccd].filterMap (·.frame)) g →
      wpR (model prog w) (A.deeper (envOf qual scope L' f cdv)) (execs body (envOf qual scope L' f cdv))
        (fun fl s' => LeaveS0 ([envOf cn cs L a ccd].filterMap (·.frame)) h₀ L m g R (match fl with | .ret v => v | _ => .none) s')
        (fun e s' => wpAny (model prog w) (A.deeper (envOf qual scope L' f cdv)) (leaving (envOf qual scope L' f cdv) e) (fun _ s'' => R (.error e) s'') (fun e' s'' => R (.error e') s'') s')
        { s with heap := h₁, toks := s.toks + binds.length })
    (hck : cs.kind = .function) (hco : scope.isCoroutine = false) (hgen : scope.isGenerator = false) (hk : scope.kind = .function)
    (hcell : ∀ x ∈ scope.names, x.2 ≠ .cell) : codeR (model prog w) A (.call (.ref f) args) R s := by
  have X := X₀.keeps F.keep
  refine codeR_call_def (fd := fnOf name qual params body scope dV kV doc pm an cdv ct) (body := body) (binds := binds) hroom (X _ _ ho) rfl (T.nolimit.keeps F.keep) (codeRec_of X hcd) rfl hbind hcell hloc (fun h₁ hns hk₁ => ?_) hco hgen hk
  obtain ⟨oL, es, ep, hLg, hLd, hN, hNs, st, B₂⟩ := kts_enter B F N hA hck
  refine wpR_mono (h _ s.heap.objs.size h₁ ⟨hN _ hLg, st, F.above⟩ ⟨hns, fun b o e => hk₁ b o (of_hideAll _ e), Nat.le_of_eq (hideAll_size _ _)⟩
    (fun p hp => ⟨hk₁ _ _ (N p hp).1, Nat.ne_of_lt (Heap.lt_size (N p hp).1), hideAll_none _ (List.mem_map_of_mem hp)⟩) B₂ (X₀.keeps st) (T.keeps st) (fun b hb => by
      rcases kts_mem hb with rfl | z
      · exact ⟨oL, es, ep, hLg, hLd⟩
      · simp at z)) (fun fl s' hl => ?_) fun _ _ y => y
  obtain ⟨g', L', m', news', T', F', N', k⟩ := hl
  have nL₀ : h₀.get? L = none := kts_self F
  obtain ⟨sl, hs⟩ := T'.up hLg
  refine k ⟨hNs sl _ (F'.keep _ _ hs), fun b o e => F'.keep b o (T'.other b o (st b o e) (fun q => by
    rcases kts_mem q with z | z
    · rw [z, nL₀] at e
      cases e
    · simp at z)), F.above⟩ fun p hp => ⟨(N' p hp).1, fun q => ?_, ?_⟩
  · have := (N' p hp).2.2; rw [q, hs] at this; cases this
  · cases q : h₀.get? p.1 with
    | none => rfl
    | some o =>
      obtain ⟨sl', hs'⟩ := T'.up (st _ _ q)
      have := (N' p hp).2.2
      rw [hs'] at this
      cases this
end
end
-- part JRes4
section
section
variable {prog : Program} {w : World} {A : Around} {s : Shared} {env : Env} {h₀ : Heap}
theorem wpR_passesOwn {α : Type} {M : Model} {E : Value → Shared → Prop} {t : Sem α} {Q : α → Shared → Prop}
    (hE : PassesOwn M A env E) (h : wpR M A t Q E s) : wpR M A t Q (notedBy M A env (cameBackBy M A env E)) s := wpR_mono h (fun _ _ x => x) hE
/-- a for loop with a local name, under the claim's caller -/
theorem forR {R : Result → Shared → Prop} {x : Str} {px : Pos} {body : List Stmt} {I : Addr} {fp wr : List Addr} {n : Nat} {P : Nat → Value → Prop} {St : Nat → Heap → Prop} {m : Str → Option Value}
    {news : List (Addr × Obj)} (W : Walks prog w A I fp wr n P St) (hx : env.kindOf x = some .local)
    (hp : (env.scope.kind == .class || (env.scope.kind == .module && env.locals != env.globals)) = false)
    (hLf : env.locals ∉ fp) (hwr : ∀ b ∈ wr, h₀.get? b = none) (hnw : ∀ p ∈ news, p.1 ∉ wr)
    (hst : St 0 s.heap) (F : Fr h₀ env.locals s.heap m) (N : News h₀ env.locals s.heap news)
    (J : Nat → (Str → Option Value) → List (Addr × Obj) → Prop) (h0 : J 0 m news)
    (step : ∀ i v m₁ news₁ s₁ own, (∃ h tk, s₁ = { s with heap := h, toks := tk }) → i < n → P i v → J i m₁ news₁ → (∀ p ∈ news₁, p.1 ∉ wr) → (∀ p ∈ own, p.1 ∈ fp) → (∀ p ∈ own, s₁.heap.get? p.1 = some p.2) → (∀ b ∈ fp, h₀.get? b = none → ∀ o, s₁.heap.get? b = some o → (b, o) ∈ own) → St (i + 1) s₁.heap →
      Fr h₀ env.locals s₁.heap (fun y => if y = x then some v else m₁ y) → News h₀ env.locals s₁.heap (own ++ news₁) →
      wpR (model prog w) A (execs body env) (LoopStepV h₀ env.locals wr own (J (i + 1)) s₁ (fun v s' => R (.ok (.ret v)) s') fun s' => R (.ok .next) s') (notedBy (model prog w) A env fun e s' => R (.error e) s') s₁)
    (hR : ∀ h' tk m' news', Fr h₀ env.locals h' m' → News h₀ env.locals h' news' → (∀ p ∈ news', p.1 ∉ wr) → J n m' news' → R (.ok .next) { s with heap := h', toks := tk }) :
    codeR (model prog w) A (.forLoop (.Name x px) (.ref I) body [] env) R s := by
  have hLw : env.locals ∉ wr := fun h => hLf (W.sub _ h)
  have old : ∀ b o, h₀.get? b = some o → b ∉ wr := fun b o e hb => by rw [hwr b hb] at e; cases e
  refine codeR_forLoop
    (fun k s' => ∃ h' tk m' news' i, s' = { s with heap := h', toks := tk } ∧ St i h' ∧ Fr h₀ env.locals h' m' ∧ News h₀ env.locals h' news' ∧ (∀ p ∈ news', p.1 ∉ wr) ∧ J i m' news' ∧ i ≤ n ∧ k = n + 1 - i) ?_ (n + 1)
    ⟨s.heap, s.toks, m, news, 0, rfl, hst, F, N, hnw, h0, Nat.zero_le _, rfl⟩
  rintro k s' ⟨h', tk, m', news', i, rfl, hst', F', N', hnw', hJ, hi, rfl⟩
  have next : ∀ h₁ : Heap, (∀ b o, b ∉ wr → h'.get? b = some o → h₁.get? b = some o) → Fr h₀ env.locals h₁ m' ∧ News h₀ env.locals h₁ news' := fun h₁ hk₁ =>
    ⟨⟨F'.ns.at' fun o e => hk₁ _ o hLw e, fun b o e => hk₁ b o (old b o e) (F'.keep b o e), F'.above⟩, fun p hp => ⟨hk₁ _ _ (hnw' p hp) (N' p hp).1, (N' p hp).2⟩⟩
  by_cases hlt : i < n
  · refine W.item i _ _ _ hlt hst' fun v h₁ tk₁ hP hst₁ hk₁ => ?_
    obtain ⟨F₁, N₁⟩ := next h₁ hk₁
    refine wpAny_assign_Name (wpAny_storeName_local hx F₁.ns (fun h₂ hn₂ hs₂ => ?_) hp)
    have F₂ := F₁.set hn₂ hs₂
    have Nown : News h₀ env.locals h₂ (ownOf h₀ fp h₂) := news_ownOf hLf
    have hst₂ : St (i + 1) h₂ := W.frame _ _ _ hst₁ fun b hb o e => (hs₂.2 b fun q => hLf (q ▸ hb)).trans e
    have back : ∀ s₃, LoopStepU h₀ env.locals wr (ownOf h₀ fp h₂) (J (i + 1)) { s with heap := h₂, toks := tk₁ } .next s₃ →
        ∃ m₉, m₉ < n + 1 - i ∧ ∃ h' tk m' news' i', s₃ = { s with heap := h', toks := tk } ∧ St i' h' ∧ Fr h₀ env.locals h' m' ∧ News h₀ env.locals h' news' ∧ (∀ p ∈ news', p.1 ∉ wr) ∧ J i' m' news' ∧ i' ≤ n ∧ m₉ = n + 1 - i' := by
      rintro s₃ ⟨_, h₃', tk₃, m₂, news₂, rfl, F₃, N₃, ha₃, hJ₃⟩
      refine ⟨n + 1 - (i + 1), by omega, h₃', tk₃, m₂, news₂, i + 1, rfl, ?_, F₃, N₃.right, ha₃, hJ₃, hlt, rfl⟩
      refine W.frame _ _ _ hst₁ fun b hb o e => ?_
      have e₂ : h₂.get? b = some o := (hs₂.2 b fun q => hLf (q ▸ hb)).trans e
      cases hn : h₀.get? b with
      | some o₀ =>
        have : o₀ = o := by have := F₂.keep b o₀ hn; rw [e₂] at this; exact (Option.some.inj this).symm
        exact this ▸ F₃.keep b o₀ hn
      | none => exact (N₃ _ (List.mem_append_left _ (mem_ownOf hb hn e₂))).1
    refine wpR_mono (step i v m' news' _ (ownOf h₀ fp h₂) ⟨_, _, rfl⟩ hlt hP hJ hnw' ownOf_sub (fun p hp => (Nown p hp).1) (fun b hb hn o e => mem_ownOf hb hn e) hst₂ F₂ (Nown.append (N₁.set hs₂))) (fun f s₃ h₃ => ?_) fun _ _ e => e
    cases f with
    | ret v => exact h₃
    | brk => exact h₃
    | cont => exact back _ h₃
    | next => exact back _ h₃
  · have hin : i = n := by omega
    subst hin
    refine W.done _ _ _ hst' fun h₁ tk₁ hk₁ => wpR_of (wpAny_execs_nil ?_)
    obtain ⟨F₁, N₁⟩ := next h₁ hk₁
    exact hR h₁ tk₁ m' news' F₁ N₁ hnw' hJ
noncomputable def LoopAtR (prog : Program) (w : World) (A : Around) (h₀ : Heap) (env : Env) (x : Str) (body : List Stmt) (Q : Flow → Shared → Prop) (E : Value → Shared → Prop) (it : Value) (s₂ : Shared) : Prop :=
  ∃ (I : Addr) (fp wr : List Addr) (n : Nat) (P : Nat → Value → Prop) (St : Nat → Heap → Prop) (m : Str → Option Value) (news : List (Addr × Obj)) (J : Nat → (Str → Option Value) → List (Addr × Obj) → Prop),
    it = .ref I ∧ Walks prog w A I fp wr n P St ∧ env.locals ∉ fp ∧ (∀ b ∈ wr, h₀.get? b = none) ∧ (∀ p ∈ news, p.1 ∉ wr) ∧ St 0 s₂.heap ∧ Fr h₀ env.locals s₂.heap m ∧ News h₀ env.locals s₂.heap news ∧ J 0 m news ∧
    (∀ i v m₁ news₁ s₁ own, (∃ h tk, s₁ = { s₂ with heap := h, toks := tk }) → i < n → P i v → J i m₁ news₁ → (∀ p ∈ news₁, p.1 ∉ wr) → (∀ p ∈ own, p.1 ∈ fp) → (∀ p ∈ own, s₁.heap.get? p.1 = some p.2) → (∀ b ∈ fp, h₀.get? b = none → ∀ o, s₁.heap.get? b = some o → (b, o) ∈ own) → St (i + 1) s₁.heap →
      Fr h₀ env.locals s₁.heap (fun y => if y = x then some v else m₁ y) → News h₀ env.locals s₁.heap (own ++ news₁) →
      wpR (model prog w) A (execs body env) (LoopStepV h₀ env.locals wr own (J (i + 1)) s₁ (fun v s' => Q (.ret v) s') fun s' => Q .next s') E s₁) ∧
    ∀ h' tk m' news', Fr h₀ env.locals h' m' → News h₀ env.locals h' news' → (∀ p ∈ news', p.1 ∉ wr) → J n m' news' → Q .next { s₂ with heap := h', toks := tk }
theorem For_R {E : Value → Shared → Prop} {Q : Flow → Shared → Prop} {x : Str} {px pos : Pos} {iter : Expr} {body : List Stmt} (h₀ : Heap) (hx : env.kindOf x = some .local)
    (hp : (env.scope.kind == .class || (env.scope.kind == .module && env.locals != env.globals)) = false)
    (h : wpAny (model prog w) A (eval iter env) (fun xv s₁ => wpAny (model prog w) A (pyIter xv) (fun it s₂ => LoopAtR prog w A h₀ env x body Q E it s₂) E s₁) E s)
    (hs : ∀ x, foldedSetIterable iter env x = pure x := by intro _; rfl)
    (hE : PassesOwn (model prog w) A env E := by passes_own) :
    wpR (model prog w) A (exec (.For (.Name x px) iter body [] pos) env) Q E s := by
  refine wpR_For (wpAny_mono h (fun xv s₁ h₁ => wpAny_mono h₁ (fun it s₂ h₂ => ?_) fun _ _ e => e) fun _ _ e => e) hs
  obtain ⟨I, fp, wr, n, P, St, m, news, J, rfl, W, hLf, hwr, hnw, hst, F, N, h0, step, hQ⟩ := h₂
  exact forR (R := fun r s' => match r with | .ok f => Q f s' | .error e => cameBackBy (model prog w) A env E e s') W hx hp hLf hwr hnw hst F N J h0 (by intros; exact wpR_passesOwn hE (by apply step <;> assumption)) hQ
theorem iter_R {x : Str} {body : List Stmt} {Q : Flow → Shared → Prop} {E : Value → Shared → Prop} {l : Addr} {vs : List Value} {nn : Nat} {m₀ : Str → Option Value} {news : List (Addr × Obj)} (J : Nat → (Str → Option Value) → List (Addr × Obj) → Prop)
    (hh : A.handled = none) (hl : (l, listOf vs.toArray nn) ∈ news) (F : Fr h₀ env.locals s.heap m₀) (N : News h₀ env.locals s.heap news) (hj : J 0 m₀ news)
    (turn : ∀ i v m₁ news₁ h tk own, vs[i]? = some v → OwnOff own (news₁.map (·.1)) → (l, listOf vs.toArray nn) ∈ news₁ → J i m₁ news₁ → Fr h₀ env.locals h (fun y => if y = x then some v else m₁ y) → News h₀ env.locals h (news₁ ++ own) →
      wpR (model prog w) A (execs body env) (InvPostG h₀ env.locals (fun m' nx => (l, listOf vs.toArray nn) ∈ nx ∧ J (i + 1) m' nx) own { s with heap := h, toks := tk } Q) E { s with heap := h, toks := tk })
    (done : ∀ m₁ news₁ h tk, J vs.length m₁ news₁ → Fr h₀ env.locals h m₁ → News h₀ env.locals h news₁ → Q .next { s with heap := h, toks := tk }) :
    wpAny (model prog w) A (pyIter (.ref l)) (fun it s₂ => LoopAtR prog w A h₀ env x body Q E it s₂) E s := by
  have hol : s.heap.get? l = some (listOf vs.toArray nn) := (N _ hl).1
  have hls : s.heap.IsList l vs.toArray := ⟨_, hol, rfl, nn, rfl⟩
  have hne : l ≠ s.heap.objs.size := Nat.ne_of_lt (Heap.lt_size hol)
  refine wpAny_pyIter_list hls ?_
  have W := Walks.list (prog := prog) (w := w) hh s.heap.objs.size l hne vs.toArray
  have hlen : vs.toArray.size = vs.length := by simp
  rw [hlen] at W
  refine ⟨_, _, _, vs.length, _, _, m₀, news, (fun i m nx => (l, listOf vs.toArray nn) ∈ nx ∧ J i m nx), rfl, W, ?_, ?_, ?_, ⟨⟨_, Heap.get?_push_size _ rfl, rfl, rfl⟩, hls.at fun o e => Heap.get?_push_of_some _ e⟩, F.push _, (fun p hp => ⟨Heap.get?_push_of_some _ (N p hp).1, (N p hp).2⟩), ⟨hl, hj⟩, ?_, ?_⟩
  · intro hm
    rcases List.mem_cons.mp hm with e | hm
    · exact absurd F.ns.lt (e ▸ Nat.lt_irrefl _)
    · exact (N _ hl).2.1 ((List.mem_singleton.mp hm).symm)
  · intro b hb
    rw [List.mem_singleton.mp hb]
    exact next_is_new F
  · intro p hp hI
    exact absurd (Heap.lt_size (N p hp).1) ((List.mem_singleton.mp hI) ▸ Nat.lt_irrefl _)
  · rintro i v m₁ news₁ s₁ own ⟨hh', tk', rfl⟩ hin hP ⟨hl₁, hJ⟩ hoff hown hget hfp hst F₁ N₁
    have hP' : vs[i]? = some v := by simpa using hP
    have hI0 : h₀.get? s.heap.objs.size = none := next_is_new F
    obtain ⟨⟨oI, hoI, _⟩, _⟩ := id hst
    have hIown : (s.heap.objs.size, oI) ∈ own.filter fun p => decide (p.1 = s.heap.objs.size) := List.mem_filter.mpr ⟨hfp _ (List.mem_cons.mpr (.inl rfl)) hI0 _ hoI, by simp⟩
    have hsep : OwnOff (own.filter fun p => decide (p.1 = s.heap.objs.size)) (news₁.map (·.1)) := by
      intro p hp b hb e
      obtain ⟨q, hq, rfl⟩ := List.mem_map.mp hb
      have h1 : p.1 = s.heap.objs.size := by simpa using (List.mem_filter.mp hp).2
      exact hoff q hq (List.mem_singleton.mpr (e ▸ h1))
    have N₂ : News h₀ env.locals hh' (news₁ ++ own.filter fun p => decide (p.1 = s.heap.objs.size)) := fun p hp => N₁ p ((List.mem_append.mp hp).elim (fun h => List.mem_append.mpr (.inr h)) fun h => List.mem_append.mpr (.inl ((List.mem_filter.mp h).1)))
    have hlo : hh'.get? l = some (listOf vs.toArray nn) := (N₁ _ (List.mem_append.mpr (.inr hl₁))).1
    refine wpR_mono (turn i v m₁ news₁ hh' tk' _ hP' hsep hl₁ hJ F₁ N₂) (fun f s₂ p => ?_) fun _ _ e => e
    have fin : InvEndG h₀ env.locals (fun m' nx => (l, listOf vs.toArray nn) ∈ nx ∧ J (i + 1) m' nx) (own.filter fun p => decide (p.1 = s.heap.objs.size)) { s with heap := hh', toks := tk' } s₂ →
        LoopStepU h₀ env.locals [s.heap.objs.size] own (fun m nx => (l, listOf vs.toArray nn) ∈ nx ∧ J (i + 1) m nx) { s with heap := hh', toks := tk' } .next s₂ := by
      rintro ⟨h', tk, m', news', nx, e, F', N', hn, ho, ha, hm⟩
      refine ⟨rfl, h', tk, m', nx, e, F', fun p hp => ?_, fun p hp hq => ?_, hm⟩
      · rcases List.mem_append.mp hp with h | h
        · by_cases hI : p.1 = s.heap.objs.size
          · exact N' p (ho p (List.mem_filter.mpr ⟨h, by simpa using hI⟩))
          · have h1 : p.1 = l := by
              rcases List.mem_cons.mp (hown p h) with h2 | h2
              · exact absurd h2 hI
              · exact List.mem_singleton.mp h2
            have h2 : hh'.get? p.1 = some p.2 := hget p h
            rw [h1, hlo] at h2
            have h3 : p = (l, listOf vs.toArray nn) := Prod.ext h1 (Option.some.inj h2).symm
            rw [h3]
            exact N' _ (hn _ hm.1)
        · exact N' p (hn p h)
      · exact ha _ hIown p.1 (List.mem_map.mpr ⟨p, hp, rfl⟩) (List.mem_singleton.mp hq).symm
    cases f with
    | ret v => exact .ret p
    | brk => exact .brk p
    | next => exact .next (fin p)
    | cont => exact .cont (fin p)
  · rintro h' tk m' news' F' N' _ ⟨_, hJ⟩
    exact done m' news' h' tk hJ F' N'
end
end
-- part ApS
section
open PySem.Builtin PySem.Builtin.Str
theorem gives_replace1 (x y z : Str) (t u v q : Tok) (h0 : (u == 0 || v == 0) = false) (huv : (u == v) = false) (hyz : (y == z) = false) (ho : (occurrences x y 0 x.length 1).isEmpty = false) (hy : (y.length == 0) = false)
    (hl : tooLong (x.length + (occurrences x y 0 x.length 1).length * z.length) = false) :
    Gives («str.replace» ⟨[.str x t, .str y u, .str z v, .int 1 q], []⟩) (.str (glued z (partsBetween x (occurrences x y 0 x.length 1) y.length))) := by
  show Gives (do
    let limit ← countLimit "str.replace" (some (.int 1 q)) (x.length + 1)
    let cuts := occurrences x y 0 x.length limit
    if (cuts.isEmpty || (y.length == 0 && z.length == 0)) = true then (do rule "str.replace.nothing"; ret (.str x t)) else
          (do let same ← isSame (.str y u) (.str z v)
              if same = true then (do rule "str.replace.old-is-new"; ret (.str x t)) else
              if tooLong (x.length + cuts.length * z.length) = true then unsupported "str.replace:memory" else
              retStr (glued z (partsBetween x cuts y.length)))) _
  rw [countLimit_int "str.replace" 1 q (x.length + 1) (by decide), pure_bind]
  rw [if_neg (by decide : ¬ ((1 : Int) < 0))]
  show Gives (if ((occurrences x y 0 x.length 1).isEmpty || (y.length == 0 && z.length == 0)) = true then _ else _) _
  rw [ho, hy, isSame_str_other y z u v h0 huv hyz]
  show Gives (if tooLong (x.length + (occurrences x y 0 x.length 1).length * z.length) = true then _ else _) _
  rw [hl]
  exact .of_eq rfl
section
variable {prog : Program} {w : World} {A : Around} {E : Value → Shared → Prop} {s : Shared} {x y z r : Str} {t u v q : Tok} {Q : Value → Shared → Prop}
theorem replace1 (hu : u ≠ 0) (hv : v ≠ 0) (huv : u ≠ v) (hyz : (y == z) = false) (ho : (occurrences x y 0 x.length 1).isEmpty = false) (hy : (y.length == 0) = false) (hl : tooLong (x.length + (occurrences x y 0 x.length 1).length * z.length) = false)
    (hr : glued z (partsBetween x (occurrences x y 0 x.length 1) y.length) = r) (hz : r.length ≤ sizeLine)
    (hq : ∀ t' k, Q (.str r t') { s with toks := k }) : wpAny (model prog w) A (call (.builtin "str.replace") [.str x t, .str y u, .str z v, .int 1 q]) Q E s := by
  refine call_gives F.slot_str_replace (typeIs_str _ _ _) F.entry_str_replace (F.args_str_replace_4 _ _ _ _)
    (gives_replace1 x y z t u v q (by simp [hu, hv]) (by simp [huv]) hyz ho hy hl) ?_
  rw [hr]
  exact ⟨hz, hq _ _⟩
end
end
-- part ApW
section
open PySem.Builtin PySem.Builtin.Str PySem.NumText
/-- a word that starts with psk; r is what is left of it -/
structure PskW (x r : Str) : Prop where
  st : Txt.startswith x (Str.ofString "psk") = true
  oc : (occurrences x (Str.ofString "psk") 0 x.length 1).isEmpty = false
  tl : tooLong (x.length + (occurrences x (Str.ofString "psk") 0 x.length 1).length * (Str.ofString "").length) = false
  gl : glued (Str.ofString "") (partsBetween x (occurrences x (Str.ofString "psk") 0 x.length 1) (Str.ofString "psk").length) = r
  le : r.length ≤ 640
/-- a word: some d for a place in the pattern, none for a word that is refused -/
inductive Word (n : Nat) : Str → Option Nat → Prop
  | good {x r : Str} {d : Nat} : PskW x r → PySem.intText? r = some (d : Int) → d ≤ n → Word n x (some d)
  | far {x r : Str} {d : Nat} : PskW x r → PySem.intText? r = some (d : Int) → n < d / 2 → Word n x none
  | bad {x r : Str} : PskW x r → (int_private% "readNumeral") 0 10 (numSeenOf r) = (int_private% "Numeral.invalid") → (reprText r).length ≤ 1000 → Word n x none
  | other {x : Str} : Txt.startswith x (Str.ofString "psk") = false → (x == Str.ofString "fallback") = false → Word n x none
theorem lt12 {d : Nat} (h : d < 12) : d = 0 ∨ d = 1 ∨ d = 2 ∨ d = 3 ∨ d = 4 ∨ d = 5 ∨ d = 6 ∨ d = 7 ∨ d = 8 ∨ d = 9 ∨ d = 10 ∨ d = 11 := by
  have q : ∀ j : Fin 12, j.1 = 0 ∨ j.1 = 1 ∨ j.1 = 2 ∨ j.1 = 3 ∨ j.1 = 4 ∨ j.1 = 5 ∨ j.1 = 6 ∨ j.1 = 7 ∨ j.1 = 8 ∨ j.1 = 9 ∨ j.1 = 10 ∨ j.1 = 11 := by decide
  exact q ⟨d, h⟩
theorem psk_num : ∀ d : Nat, d < 12 → PskW (Str.ofString "psk" ++ Str.ofString (toString (d : Int))) (Str.ofString (toString (d : Int))) ∧ PySem.intText? (Str.ofString (toString (d : Int))) = some (d : Int) := by
  intro d hd
  have h := lt12 hd
  rcases h with rfl | rfl | rfl | rfl | rfl | rfl | rfl | rfl | rfl | rfl | rfl | rfl <;>
    exact ⟨⟨by decide +kernel, by decide +kernel, by decide +kernel, by decide +kernel, by decide +kernel⟩, by decide +kernel⟩
theorem word_good {n d : Nat} (h : d ≤ n) (hn : n ≤ 3) : Word n (Str.ofString "psk" ++ Str.ofString (toString (d : Int))) (some d) :=
  .good (psk_num d (by omega)).1 (psk_num d (by omega)).2 h
theorem word_far {n d : Nat} (h : 2 * n + 2 ≤ d) (hd : d < 12) : Word n (Str.ofString "psk" ++ Str.ofString (toString (d : Int))) none :=
  .far (psk_num d hd).1 (psk_num d hd).2 (by omega)
theorem inval {x : Str} (hl : (numSeenOf x).length ≤ 640) (h : PySem.intText? x = none) (hs : ((numSeenOf x).length == (numTextOf x).length) = true) : (int_private% "readNumeral") 0 10 (numSeenOf x) = (int_private% "Numeral.invalid") := by
  rcases read0 x hl with ⟨m, e, _⟩ | ⟨_, e | ⟨i, _, e⟩⟩
  · rw [h] at e; cases e
  · exact e
  · exact absurd hs e
theorem word_psk {n : Nat} : Word n (Str.ofString "psk") none :=
  .bad (r := Str.ofString "") ⟨by decide +kernel, by decide +kernel, by decide +kernel, by decide +kernel, by decide +kernel⟩ (inval (by decide +kernel) (by decide +kernel) (by decide +kernel)) (by decide +kernel)
theorem word_pskx {n : Nat} : Word n (Str.ofString "pskx") none :=
  .bad (r := Str.ofString "x") ⟨by decide +kernel, by decide +kernel, by decide +kernel, by decide +kernel, by decide +kernel⟩ (inval (by decide +kernel) (by decide +kernel) (by decide +kernel)) (by decide +kernel)
theorem word_none {n : Nat} : Word n (Str.ofString "none") none := .other (by decide +kernel) (by decide +kernel)
theorem word_empty {n : Nat} : Word n (Str.ofString "") none := .other (by decide +kernel) (by decide +kernel)
theorem word_PSK1 {n : Nat} : Word n (Str.ofString "PSK1") none := .other (by decide +kernel) (by decide +kernel)
theorem word_xpsk1 {n : Nat} : Word n (Str.ofString "xpsk1") none := .other (by decide +kernel) (by decide +kernel)
end
-- part JHead
open_top hd for PySem.Challenge.rw_jd0018_01
-- part JBase2
example : True := by
  w_top off
  trivial
example : PySem.Challenge.rw_jd0018_01.Holds → hd.heap_39 = hd.heap_39 → True := by
  k_fill
  intros; trivial

noncomputable abbrev cScope (nm : List (Str × NameKind)) (mo : List (Str × Const)) : Scope := { kind := .function, names := nm, isGenerator := false, isCoroutine := false, more := mo }

inductive Texts : List Value → List Str → Prop
  | nil : Texts [] []
  | cons {vs : List Value} {xs : List Str} {x : Str} {t : Tok} : Texts vs xs → Texts (.str x t :: vs) (x :: xs)

/-- the cells of a list of lists of texts: their addresses in the outer list, what they hold, where they lie -/
inductive Mat : List Value → List (List Str) → List (Addr × Obj) → Prop
  | nil : Mat [] [] []
  | cons {rs : List Value} {css : List (List Str)} {cells : List (Addr × Obj)} {a : Addr} {its : Array Value} {cs : List Str} {n : Nat} :
      Texts its.toList cs → Mat rs css cells → Mat (.ref a :: rs) (cs :: css) ((a, listOf its n) :: cells)
/-- the same, the cells found in a ledger -/
structure MatIn (led : List (Addr × Obj)) (rs : List Value) (css : List (List Str)) (cells : List (Addr × Obj)) : Prop where
  mat : Mat rs css cells
  sub : ∀ p ∈ cells, p ∈ led
theorem MatIn.nil {led : List (Addr × Obj)} : MatIn led [] [] [] := ⟨.nil, fun _ h => nomatch h⟩
theorem MatIn.cons {led : List (Addr × Obj)} {rs : List Value} {css : List (List Str)} {cells : List (Addr × Obj)} {a : Addr} {its : Array Value} {cs : List Str} {n : Nat}
    (hm : (a, listOf its n) ∈ led) (tx : Texts its.toList cs) (M : MatIn led rs css cells) : MatIn led (.ref a :: rs) (cs :: css) ((a, listOf its n) :: cells) :=
  ⟨.cons tx M.mat, List.forall_mem_cons.mpr ⟨hm, M.sub⟩⟩
theorem mat_news {h₀ h : Heap} {L r : Addr} {o : Obj} {led news cells : List (Addr × Obj)} {rs : List Value} {css : List (List Str)} (N : News h₀ L h led) (hr : (r, o) ∈ led) (M : MatIn led rs css cells) (hs : ∀ p ∈ news, p ∈ led) :
    News h₀ L h ((r, o) :: (cells ++ news)) := by
  intro p hp
  rcases List.mem_cons.mp hp with rfl | hp
  · exact N _ hr
  · rcases List.mem_append.mp hp with hp | hp
    · exact N p (M.sub p hp)
    · exact N p (hs p hp)

noncomputable def classes : List Addr := [110, 131, 152, 173, 194, 215, 236, 257, 278, 299, 320, 341, 362, 383, 404]

theorem cls_plain {P : Params} {C : Addr} {name : Str} (hC : C ∈ classes) : plainGet (hd.heap_39 P) C name = true := by
  simp only [classes, List.mem_cons, List.not_mem_nil, or_false] at hC
  show plainGet (hd.heap_39 P) C (Str.ofString "x") = true
  rcases hC with rfl | rfl | rfl | rfl | rfl | rfl | rfl | rfl | rfl | rfl | rfl | rfl | rfl | rfl | rfl <;> k_is
theorem cls_dict {P : Params} {C : Addr} (hC : C ∈ classes) : hasDictIn (hd.heap_39 P) C = true := by
  simp only [classes, List.mem_cons, List.not_mem_nil, or_false] at hC
  rcases hC with rfl | rfl | rfl | rfl | rfl | rfl | rfl | rfl | rfl | rfl | rfl | rfl | rfl | rfl | rfl <;> k_is
theorem cls_set {P : Params} {C : Addr} (hC : C ∈ classes) : findIn (hd.heap_39 P) (.ref C) "__setattr__" = some (some (.builtin "object.__setattr__")) := by
  simp only [classes, List.mem_cons, List.not_mem_nil, or_false] at hC
  rcases hC with rfl | rfl | rfl | rfl | rfl | rfl | rfl | rfl | rfl | rfl | rfl | rfl | rfl | rfl | rfl <;> k_is
theorem cls_over {P : Params} {C : Addr} (hC : C ∈ classes) : plainOver (hd.heap_39 P) C = true := by
  simp only [classes, List.mem_cons, List.not_mem_nil, or_false] at hC
  rcases hC with rfl | rfl | rfl | rfl | rfl | rfl | rfl | rfl | rfl | rfl | rfl | rfl | rfl | rfl | rfl <;> k_is
/-- an attribute that no class of these has -/
inductive Own (P : Params) (C : Addr) : Str → Prop
  | mk {name : Str} : findIn (hd.heap_39 P) (.ref C) name = some none → takerIn (hd.heap_39 P) C name = some none → Own P C name
theorem own_pre {P : Params} {C : Addr} (hC : C ∈ classes) : Own P C (Str.ofString "pre_messages") := by
  simp only [classes, List.mem_cons, List.not_mem_nil, or_false] at hC
  rcases hC with rfl | rfl | rfl | rfl | rfl | rfl | rfl | rfl | rfl | rfl | rfl | rfl | rfl | rfl | rfl <;> exact .mk (by k_is) (by k_is)
theorem own_tok {P : Params} {C : Addr} (hC : C ∈ classes) : Own P C (Str.ofString "tokens") := by
  simp only [classes, List.mem_cons, List.not_mem_nil, or_false] at hC
  rcases hC with rfl | rfl | rfl | rfl | rfl | rfl | rfl | rfl | rfl | rfl | rfl | rfl | rfl | rfl | rfl <;> exact .mk (by k_is) (by k_is)
theorem own_name {P : Params} {C : Addr} (hC : C ∈ classes) : Own P C (Str.ofString "name") := by
  simp only [classes, List.mem_cons, List.not_mem_nil, or_false] at hC
  rcases hC with rfl | rfl | rfl | rfl | rfl | rfl | rfl | rfl | rfl | rfl | rfl | rfl | rfl | rfl | rfl <;> exact .mk (by k_is) (by k_is)
theorem own_way {P : Params} {C : Addr} (hC : C ∈ classes) : Own P C (Str.ofString "one_way") := by
  simp only [classes, List.mem_cons, List.not_mem_nil, or_false] at hC
  rcases hC with rfl | rfl | rfl | rfl | rfl | rfl | rfl | rfl | rfl | rfl | rfl | rfl | rfl | rfl | rfl <;> exact .mk (by k_is) (by k_is)
theorem own_count {P : Params} {C : Addr} (hC : C ∈ classes) : Own P C (Str.ofString "psk_count") := by
  simp only [classes, List.mem_cons, List.not_mem_nil, or_false] at hC
  rcases hC with rfl | rfl | rfl | rfl | rfl | rfl | rfl | rfl | rfl | rfl | rfl | rfl | rfl | rfl | rfl <;> exact .mk (by k_is) (by k_is)
inductive Meth (P : Params) (C : Addr) : Str → Addr → Prop
  | mk {name : Str} {f : Addr} : findIn (hd.heap_39 P) (.ref C) name = some (some (.ref f)) → isFn (hd.heap_39 P) (.ref f) = true → Meth P C name f
theorem meth_has {P : Params} {C : Addr} (hC : C ∈ classes) : Meth P C (Str.ofString "has_pre_messages") 35 := by
  simp only [classes, List.mem_cons, List.not_mem_nil, or_false] at hC
  rcases hC with rfl | rfl | rfl | rfl | rfl | rfl | rfl | rfl | rfl | rfl | rfl | rfl | rfl | rfl | rfl <;> exact .mk (by k_is) (by k_is)
theorem meth_ini {P : Params} {C : Addr} (hC : C ∈ classes) : Meth P C (Str.ofString "get_initiator_pre_messages") 42 := by
  simp only [classes, List.mem_cons, List.not_mem_nil, or_false] at hC
  rcases hC with rfl | rfl | rfl | rfl | rfl | rfl | rfl | rfl | rfl | rfl | rfl | rfl | rfl | rfl | rfl <;> exact .mk (by k_is) (by k_is)
theorem meth_res {P : Params} {C : Addr} (hC : C ∈ classes) : Meth P C (Str.ofString "get_responder_pre_messages") 49 := by
  simp only [classes, List.mem_cons, List.not_mem_nil, or_false] at hC
  rcases hC with rfl | rfl | rfl | rfl | rfl | rfl | rfl | rfl | rfl | rfl | rfl | rfl | rfl | rfl | rfl <;> exact .mk (by k_is) (by k_is)
theorem meth_app {P : Params} {C : Addr} (hC : C ∈ classes) : Meth P C (Str.ofString "apply_pattern_modifiers") 56 := by
  simp only [classes, List.mem_cons, List.not_mem_nil, or_false] at hC
  rcases hC with rfl | rfl | rfl | rfl | rfl | rfl | rfl | rfl | rfl | rfl | rfl | rfl | rfl | rfl | rfl <;> exact .mk (by k_is) (by k_is)
theorem meth_req {P : Params} {C : Addr} (hC : C ∈ classes) : Meth P C (Str.ofString "get_required_keypairs") 63 := by
  simp only [classes, List.mem_cons, List.not_mem_nil, or_false] at hC
  rcases hC with rfl | rfl | rfl | rfl | rfl | rfl | rfl | rfl | rfl | rfl | rfl | rfl | rfl | rfl | rfl <;> exact .mk (by k_is) (by k_is)

section
variable {prog : Program} {w : World} {A : Around} {E : Value → Shared → Prop} {s : Shared} {x C d L : Addr} {h₀ : Heap} {m : Str → Option Value} {news news' : List (Addr × Obj)} {es es' : List DictEntry} {n n' : Nat} {name : Str} {v : Value}
theorem pat_get {expr : Bool} {Q : Value → Shared → Prop} (F : Fr h₀ L s.heap m) (X : (hd.heap_39 w.params).In h₀) (N : News h₀ L s.heap news) (h1 : (x, instObj C d) ∈ news) (h2 : (d, dictOf es n) ∈ news) (hC : C ∈ classes)
    (ho : Own w.params C name) (hl : getL name es = some (some v)) (hv : handedIn v = true) (h : Q v { s with toks := s.toks + 1 }) : wpAny (model prog w) A (getAttr (.ref x) name expr) Q E s := by
  obtain ⟨hf, _⟩ := ho
  exact get_own F X (InstAt.of_news N h1 h2) (cls_plain hC) (cls_dict hC) hf rfl hl hv h
theorem pat_meth {pl : Sem Bool} {Q : Value × List Value → Shared → Prop} {f : Addr} (F : Fr h₀ L s.heap m) (X : (hd.heap_39 w.params).In h₀) (N : News h₀ L s.heap news) (h1 : (x, instObj C d) ∈ news) (h2 : (d, dictOf es n) ∈ news) (hC : C ∈ classes)
    (ho : Meth w.params C name f) (hl : getL name es = some none) (h : Q (.ref f, [.ref x]) s) : wpAny (model prog w) A (getMethod (.ref x) name pl) Q E s := by
  obtain ⟨hf, ht⟩ := ho
  exact method_inst F X (InstAt.of_news N h1 h2) (cls_plain (name := name) hC) hf ht hl h
theorem pat_set {Q : Unit → Shared → Prop} (F : Fr h₀ L s.heap m) (X : (hd.heap_39 w.params).In h₀) (N : News h₀ L s.heap news) (h1 : (x, instObj C d) ∈ news) (h2 : (d, dictOf es n) ∈ news) (hC : C ∈ classes) (ho : Own w.params C name)
    (hl : (getL name es).isSome = true)
    (e : (putL name (PyData.keyHash w.params name) (.str name (s.toks + 1)) v es, putN name es n) = (es', n')) (U : Upd d (dictOf es n) (dictOf es' n') news news') (hz : es'.length ≤ 1000)
    (h : ∀ h', Fr h₀ L h' m → News h₀ L h' news' → Q () { s with heap := h', toks := s.toks + 2 }) : wpAny (model prog w) A (setAttr (.ref x) name v) Q E s := by
  obtain ⟨_, ht⟩ := ho
  exact set_dict F X N (InstAt.of_news N h1 h2) rfl (cls_set hC) (cls_over hC) ht (cls_dict hC) hl e U hz h
end
local macro_rules | `(tactic| k_mem) => `(tactic| first | (refine List.mem_append.mpr (Or.inr ?_); k_mem) | fail "k_mem: no tail")
local macro_rules | `(tactic| k_mem) => `(tactic| (with_reducible_and_instances assumption))
local macro_rules | `(tactic| walk_at "getAttr ref") => `(tactic| (k_here; k_dflt (refine' pat_get ?k1 ?k2 ?k3 ?k4 ?k5 ?k6 ?k7 ?k8 ?k9 ?_; (case k1 => k_asm); (case k2 => k_asm); (case k3 => k_asm); (case k4 => k_mem); (case k5 => k_mem); (case k6 => assumption); (case k7 => first | exact own_pre (by assumption) | exact own_tok (by assumption) | exact own_name (by assumption) | exact own_way (by assumption) | exact own_count (by assumption)); (case k8 => k_get); (case k9 => k_handed); k_whole)))
local macro_rules | `(tactic| walk_at "getMethod ref") => `(tactic| (k_here; k_dflt (refine' pat_meth ?k1 ?k2 ?k3 ?k4 ?k5 ?k6 ?k7 ?k8 ?_; (case k1 => k_asm); (case k2 => k_asm); (case k3 => k_asm); (case k4 => k_mem); (case k5 => k_mem); (case k6 => assumption); (case k7 => first | exact meth_has (by assumption) | exact meth_ini (by assumption) | exact meth_res (by assumption) | exact meth_app (by assumption) | exact meth_req (by assumption)); (case k8 => k_get); k_whole)))
local macro_rules | `(tactic| walk_at "setAttr ref") => `(tactic| (k_here; k_dflt (refine' pat_set ?k1 ?k2 ?k3 ?k4 ?k5 ?k6 ?ko ?k7 ?k8 ?k9 ?kz ?_; (case k1 => k_asm); (case k2 => k_asm); (case k3 => k_asm); (case k4 => k_mem); (case k5 => k_mem); (case k6 => assumption); (case ko => first | exact own_pre (by assumption) | exact own_tok (by assumption) | exact own_name (by assumption) | exact own_way (by assumption) | exact own_count (by assumption)); (case k7 => k_get); (case k8 => k_put); (case k9 => k_upd); (case kz => exact Nat.le_of_ble_eq_true rfl); k_whole; intro h' F' N'; (try k_sweep))))

/-- a pattern's own dict -/
noncomputable abbrev pdict (P : Params) (k1 k2 k3 k4 k5 t1 t2 : Tok) (pm tk : Addr) (nm : Str) (ow : Bool) (cnt : Int) : List DictEntry :=
  [⟨PyData.keyHash P (Str.ofString "pre_messages"), .str (Str.ofString "pre_messages") k1, .ref pm⟩,
   ⟨PyData.keyHash P (Str.ofString "tokens"), .str (Str.ofString "tokens") k2, .ref tk⟩,
   ⟨PyData.keyHash P (Str.ofString "name"), .str (Str.ofString "name") k3, .str nm t1⟩,
   ⟨PyData.keyHash P (Str.ofString "one_way"), .str (Str.ofString "one_way") k4, .bool ow⟩,
   ⟨PyData.keyHash P (Str.ofString "psk_count"), .str (Str.ofString "psk_count") k5, .int cnt t2⟩]
section
variable {prog : Program} {w : World} {A : Around} {E : Value → Shared → Prop} {s : Shared}
theorem item_name {value slice : PySem.Expr} {x : Str} {i : Int} {c : Nat} {t u : Tok} {Q : Value → Shared → Prop} (hc : x.cps[i.toNat]? = some c) (h0 : 0 ≤ i) (hr : fitsSsize i = true) (h : ∀ t', Q (.str ⟨#[c]⟩ t') { s with toks := s.toks + 1 })
    (hs : subscripted slice false (.str x t) (.int i u) = operate [.str x t, .int i u] (getItem (.str x t) (.int i u)) := by with_unfolding_all rfl) (hg : ∀ r, letTemporaryGo value (.str x t) r = pure () := by intro _; with_unfolding_all rfl) :
    wpAny (model prog w) A (subscriptTail value slice (.str x t) (.int i u)) Q E s := by
  have hlt : i.toNat < x.cps.size := by
    rcases Nat.lt_or_ge i.toNat x.cps.size with h | h
    · exact h
    · rw [Array.getElem?_eq_none h] at hc; cases hc
  have hl : x.length = x.cps.size := rfl
  have he : Txt.item x i = ⟨#[c]⟩ := by
    have h1 : seqIndex? i x.length = some i.toNat := by
      unfold seqIndex?
      have h2 : ¬ i < 0 := by omega
      have h3 : i < x.length := by rw [hl]; omega
      simp [h0, h2, h3]
    unfold Txt.item Txt.charAt
    rw [h1]
    show (⟨#[(x.cps[i.toNat]?).getD 0]⟩ : Str) = _
    rw [hc]; rfl
  refine item_str hr (by omega) (by rw [hl]; omega) (fun _ => ?_) hs hg
  rw [he]
  exact h _
end
local macro_rules | `(tactic| walk_at "subscriptTail") => `(tactic| (k_here; (with_reducible show wpAny _ _ (subscriptTail _ _ (Value.str _ _) (Value.int _ _)) _ _ _); k_dflt (refine' item_name ?k1 (by decide) (by decide) ?_; (case k1 => first | assumption | (refine' (?kx : _ = false → _) ?ky; (case kx => assumption); (case ky => first | assumption | (simp_all; done)))); k_whole); intro t'))

noncomputable abbrev tS (x : String) : Str := Str.ofString x
/-- what each end has to have, as the program makes the list -/
noncomputable def reqK (f g : Str) (ow ini : Bool) : List Str :=
  if ini then (if ([tS "K", tS "X", tS "I"].any fun x => x == f) then [tS "s"] else []) ++ (if (ow || g == tS "K") then [tS "rs"] else [])
  else (if f == tS "K" then [tS "rs"] else []) ++ (if (ow || [tS "K", tS "X"].any fun x => x == g) then [tS "s"] else [])
/-- the same, as the law makes it -/
noncomputable def keysK (f g : Str) (ow ini : Bool) : List Str :=
  if ini then (if f != tS "N" then [tS "s"] else []) ++ (if (g == tS "K" || ow) then [tS "rs"] else [])
  else (if f == tS "K" then [tS "rs"] else []) ++ (if (g != tS "N" || ow) then [tS "s"] else [])

theorem sub_tail {x : Addr × Obj} {l news : List (Addr × Obj)} (h : ∀ p ∈ news, p ∈ l) : ∀ p ∈ news, p ∈ x :: l := fun p hp => .tail _ (h p hp)
theorem sub_cons {x : Addr × Obj} {l news : List (Addr × Obj)} (hx : x ∈ l) (h : ∀ p ∈ news, p ∈ l) : ∀ p ∈ x :: news, p ∈ l := List.forall_mem_cons.mpr ⟨hx, h⟩
theorem sub_right {a l news : List (Addr × Obj)} (h : ∀ p ∈ news, p ∈ l) : ∀ p ∈ news, p ∈ a ++ l := fun p hp => List.mem_append.mpr (.inr (h p hp))
theorem sub_refl {l : List (Addr × Obj)} : ∀ p ∈ l, p ∈ l := fun _ h => h
theorem news_sub {h₀ h : Heap} {L : Addr} {l l' : List (Addr × Obj)} (N : News h₀ L h l') (hs : ∀ p ∈ l, p ∈ l') : News h₀ L h l := fun p hp => N p (hs p hp)
local macro_rules | `(tactic| size_fits) => `(tactic| first | ((try simp only [Array.size_push, Array.size_append, List.size_toArray, List.length_cons, List.length_nil]); (rw [PySem.sizeLine_eq]); omega) | fail "no size of mine")
theorem Texts.length {vs : List Value} {xs : List Str} (h : Texts vs xs) : vs.length = xs.length := by
  induction h with
  | nil => rfl
  | cons _ ih => simp [ih]
theorem Texts.size {its : Array Value} {xs : List Str} (h : Texts its.toList xs) : its.size = xs.length := by
  rw [← h.length, Array.length_toList]
theorem fr_as {h₀ h : Heap} {L : Addr} {m m' : Str → Option Value} (F : Fr h₀ L h m) (e : m = m') : Fr h₀ L h m' := e ▸ F
theorem texts_snoc {vs : List Value} {xs : List Str} {x : Str} {t : Tok} (h : Texts vs xs) : Texts (vs ++ [.str x t]) (xs ++ [x]) := by
  induction h with
  | nil => exact .cons .nil
  | cons _ ih => exact .cons ih
noncomputable def appIf (X : List Str) (c : Bool) (y : Str) : List Str := X ++ if c then [y] else []
theorem texts_yes {its : Array Value} {X : List Str} {y : Str} {t : Tok} {c : Bool} (h : Texts its.toList X) (hc : c = true) : Texts (its.push (.str y t)).toList (appIf X c y) := by
  rw [appIf, Array.toList_push, if_pos hc]; exact texts_snoc h
theorem texts_no {its : Array Value} {X : List Str} {y : Str} {c : Bool} (h : Texts its.toList X) (hc : c = false) : Texts its.toList (appIf X c y) := by
  rw [appIf, hc, if_neg Bool.false_ne_true, List.append_nil]; exact h
theorem appIf_len {X : List Str} {c : Bool} {y : Str} {n : Nat} (h : X.length ≤ n) : (appIf X c y).length ≤ n + 1 := by
  rw [appIf, List.length_append]
  cases c <;> simp <;> omega
theorem texts_app {vs ws : List Value} {xs ys : List Str} (h : Texts vs xs) (k : Texts ws ys) : Texts (vs ++ ws) (xs ++ ys) := by
  induction h with
  | nil => exact k
  | cons _ ih => exact .cons ih
theorem texts_cat {its its2 : Array Value} {X Y : List Str} (h : Texts its.toList X) (k : Texts its2.toList Y) : Texts (its ++ its2).toList (X ++ Y) := by
  rw [Array.toList_append]; exact texts_app h k
section
variable {prog : Program} {w : World} {A : Around} {E : Value → Shared → Prop} {s : Shared} {L : Addr} {h₀ : Heap} {m : Str → Option Value} {news : List (Addr × Obj)}
theorem add_texts {l b : Addr} {its its2 : Array Value} {n n2 : Nat} {xs ys : List Str} {Q : Value → Shared → Prop} (F : Fr h₀ L s.heap m) (N : News h₀ L s.heap news) (hl : (l, listOf its n) ∈ news) (hb : (b, listOf its2 n2) ∈ news)
    (_tx : Texts its.toList xs) (_ty : Texts its2.toList ys) (hsz : its.size + its2.size ≤ sizeLine)
    (h : ∀ D h', Fr h₀ L h' m → News h₀ L h' ((D, listOf (its ++ its2) 0) :: news) → (∀ p ∈ news, p.1 < D) → Q (.ref D) { s with heap := h' }) :
    wpAny (model prog w) A (binaryOp .Add (.ref l) (.ref b)) Q E s :=
  add_arrays F N ⟨_, (N _ hl).1, rfl, _, rfl⟩ ⟨_, (N _ hb).1, rfl, _, rfl⟩ (fun h' F' N' => h _ h' F' (by
    have e : (its.toList ++ its2.toList).toArray = its ++ its2 := by apply Array.ext'; simp
    rw [e] at N'; exact N') fun p hp => Heap.lt_size (N p hp).1) hsz
end
local macro_rules | `(tactic| walk_at "binaryOp Add ref ref") => `(tactic| (k_here; (with_reducible show wpAny _ _ (binaryOp _ (Value.ref _) (Value.ref _)) _ _ _); k_dflt (refine' add_texts ?F ?N ?a ?b ?x ?y ?z ?_; (case F => k_asm); (case N => k_asm); (case a => k_mem); (case b => k_mem); (case x => first | assumption | (repeat' (first | exact Texts.nil | refine' Texts.cons ?_))); (case y => first | assumption | (repeat' (first | exact Texts.nil | refine' Texts.cons ?_))); (case z => size_fits); k_whole); intro D' h' F' N' l1; (try k_lt l1); (try k_sweep)))
section
variable {prog : Program} {w : World} {A : Around} {E : Value → Shared → Prop} {s : Shared} {L : Addr} {h₀ : Heap} {m : Str → Option Value} {news : List (Addr × Obj)}
theorem len_cell {l : Addr} {its : Array Value} {n : Nat} {Q : Value → Shared → Prop} (N : News h₀ L s.heap news) (hl : (l, listOf its n) ∈ news) (hsz : its.size ≤ 100)
    (h : Q (.int its.size (s.toks + 1)) { s with toks := s.toks + 1 + 1 }) : wpAny (model prog w) A (call (.builtin "len") [.ref l]) Q E s :=
  len_list ⟨_, (N _ hl).1, rfl, _, rfl⟩ (by omega) h
end
local macro_rules | `(tactic| walk_at "call builtin:len") => `(tactic| (k_here; (with_reducible show wpAny _ _ (call (Value.builtin "len") [Value.ref _]) _ _ _); k_dflt (refine' len_cell ?k1 ?k2 ?k3 ?_; (case k1 => k_asm); (case k2 => k_mem); (case k3 => omega); k_whole)))
local macro_rules | `(tactic| k_all) => `(tactic| (with_reducible assumption))
section
variable {prog : Program} {w : World} {A : Around} {E : Value → Shared → Prop} {s : Shared} {L : Addr} {h₀ : Heap} {m : Str → Option Value} {news : List (Addr × Obj)}
theorem item_cell {value slice : PySem.Expr} {l : Addr} {its : Array Value} {n : Nat} {k : Int} {u : Tok} {v : Value} {Q : Value → Shared → Prop} (N : News h₀ L s.heap news) (hl : (l, listOf its n) ∈ news) (h0 : 0 ≤ k) (hf : k < 2 ^ 63) (hx : its.toList[k.toNat]? = some v)
    (h : Q v s) (hs : subscripted slice false (.ref l) (.int k u) = operate [.ref l, .int k u] (getItem (.ref l) (.int k u)) := by with_unfolding_all rfl) (hg : ∀ r, letTemporaryGo value (.ref l) r = pure () := by intro _; with_unfolding_all rfl) :
    wpAny (model prog w) A (subscriptTail value slice (.ref l) (.int k u)) Q E s :=
  item_list ⟨_, (N _ hl).1, rfl, _, rfl⟩ h0 hf (by rw [← Array.getElem?_toList]; exact hx) h hs hg
end
local macro_rules | `(tactic| walk_at "subscriptTail") => `(tactic| (k_here; (with_reducible show wpAny _ _ (subscriptTail _ _ (Value.ref _) (Value.int _ _)) _ _ _); k_dflt (refine' item_cell ?k1 ?k2 ?k3 ?k4 ?k5 ?_; (case k1 => k_asm); (case k2 => k_mem); (case k3 => decide); (case k4 => decide); (case k5 => rfl); k_whole)))
section
variable {prog : Program} {w : World} {A : Around} {E : Value → Shared → Prop} {s : Shared} {L : Addr} {h₀ : Heap} {m : Str → Option Value} {news : List (Addr × Obj)}
theorem copy_cell {l : Addr} {its : Array Value} {n : Nat} {Q : Value → Shared → Prop} (F : Fr h₀ L s.heap m) (N : News h₀ L s.heap news) (hl : (l, listOf its n) ∈ news) (hsz : its.size ≤ 100)
    (h : ∀ D h', Fr h₀ L h' m → News h₀ L h' ((D, listOf its 0) :: news) → (∀ p ∈ news, p.1 < D) → Q (.ref D) { s with heap := h' }) : wpAny (model prog w) A (call (.builtin "list.copy") [.ref l]) Q E s := by
  have e : its.toList.toArray = its := by simp
  refine copy_list (vs := its.toList) F N (by rw [e]; exact ⟨_, (N _ hl).1, rfl, _, rfl⟩) (fun h' F' N' => h _ h' F' (by rw [e] at N'; exact N') fun p hp => Heap.lt_size (N p hp).1) ?_
  rw [PySem.sizeLine_eq, Array.length_toList]; omega
end
local macro_rules | `(tactic| walk_at "getMethod ref") => `(tactic| (k_here; (with_reducible show wpAny _ _ (getMethod (Value.ref _) (PySem.Str.ofString "copy") _) _ _ _); k_dflt (refine' kl_method ?N ?m PySem.F.slot_list_copy PySem.F.type_list_copy ?_; (case N => k_asm); (case m => k_mem))))
local macro_rules | `(tactic| walk_at "call builtin:list.copy") => `(tactic| (k_here; (with_reducible show wpAny _ _ (call (Value.builtin _) [Value.ref _]) _ _ _); k_dflt (refine' copy_cell ?k1 ?k2 ?k3 ?k4 ?_; (case k1 => k_asm); (case k2 => k_asm); (case k3 => k_mem); (case k4 => omega); k_whole); intro D' h' F' N' l1; (try k_lt l1); (try k_sweep)))
-- part JSpec
section
/-- what the law's own messages are -/
noncomputable def msgs (f g : Str) (ow : Bool) : List (List Str) :=
  if ow then [appIf (appIf (appIf [tS "e"] (g == tS "K" || ow) (tS "es")) (f == tS "I" || (ow && f == tS "X")) (tS "s")) ((g == tS "K" || ow) && ((f == tS "I" || (ow && f == tS "X")) || f == tS "K")) (tS "ss")] else
    if f == tS "X" then [appIf (appIf (appIf [tS "e"] (g == tS "K" || ow) (tS "es")) (f == tS "I" || (ow && f == tS "X")) (tS "s")) ((g == tS "K" || ow) && ((f == tS "I" || (ow && f == tS "X")) || f == tS "K")) (tS "ss"), if g == tS "X" then appIf [tS "e", tS "ee"] ([tS "K", tS "I"].any (fun x => x == f)) (tS "se") ++ [tS "s", tS "es"] else appIf [tS "e", tS "ee"] ([tS "K", tS "I"].any (fun x => x == f)) (tS "se"), [tS "s", tS "se"]]
    else [appIf (appIf (appIf [tS "e"] (g == tS "K" || ow) (tS "es")) (f == tS "I" || (ow && f == tS "X")) (tS "s")) ((g == tS "K" || ow) && ((f == tS "I" || (ow && f == tS "X")) || f == tS "K")) (tS "ss"), if g == tS "X" then appIf [tS "e", tS "ee"] ([tS "K", tS "I"].any (fun x => x == f)) (tS "se") ++ [tS "s", tS "es"] else appIf [tS "e", tS "ee"] ([tS "K", tS "I"].any (fun x => x == f)) (tS "se")]

noncomputable def aheadA (f : Str) : List Str := if f == tS "K" then [tS "s"] else []
noncomputable def aheadB (g : Str) (ow : Bool) : List Str := if (g == tS "K" || ow) then [tS "s"] else []
noncomputable def nameOf (i : Nat) : Str := [tS "N", tS "K", tS "X", tS "NN", tS "KN", tS "NK", tS "KK", tS "NX", tS "KX", tS "XN", tS "IN", tS "XK", tS "IK", tS "XX", tS "IX"].getD i Str.empty
noncomputable def fOf (i : Nat) : Str := [tS "N", tS "K", tS "X", tS "N", tS "K", tS "N", tS "K", tS "N", tS "K", tS "X", tS "I", tS "X", tS "I", tS "X", tS "I"].getD i Str.empty
noncomputable def gOf (i : Nat) : Str := [tS "N", tS "N", tS "N", tS "N", tS "N", tS "K", tS "K", tS "X", tS "X", tS "N", tS "N", tS "K", tS "K", tS "X", tS "X"].getD i Str.empty
noncomputable def wayOf (i : Nat) : Bool := decide (i < 3)
theorem sub_app {a b l : List (Addr × Obj)} (h : ∀ p ∈ a, p ∈ l) (k : ∀ p ∈ b, p ∈ l) : ∀ p ∈ a ++ b, p ∈ l := fun p hp => (List.mem_append.mp hp).elim (h p) (k p)
theorem lt15 {i : Nat} (h : i < 15) : i = 0 ∨ i = 1 ∨ i = 2 ∨ i = 3 ∨ i = 4 ∨ i = 5 ∨ i = 6 ∨ i = 7 ∨ i = 8 ∨ i = 9 ∨ i = 10 ∨ i = 11 ∨ i = 12 ∨ i = 13 ∨ i = 14 := by
  have q : ∀ j : Fin 15, j.1 = 0 ∨ j.1 = 1 ∨ j.1 = 2 ∨ j.1 = 3 ∨ j.1 = 4 ∨ j.1 = 5 ∨ j.1 = 6 ∨ j.1 = 7 ∨ j.1 = 8 ∨ j.1 = 9 ∨ j.1 = 10 ∨ j.1 = 11 ∨ j.1 = 12 ∨ j.1 = 13 ∨ j.1 = 14 := by decide
  exact q ⟨i, h⟩
noncomputable def rowsOf (i : Nat) : List (List Str) := msgs (fOf i) (gOf i) (wayOf i)
noncomputable def Rising : List Nat → Prop
  | [] => True
  | [_] => True
  | a :: b :: r => a < b ∧ Rising (b :: r)
end
-- part KeysC
section
example : True := by
  w_top off
  trivial
section
variable {prog : Program} {w : World} {p : Program} {loose : List Str} {mean : ExcName → Option Value} {mg mb : Str → Option Value}
    {base h₀ : Heap} {L a : Addr} {m : Str → Option Value} {news : List (Addr × Obj)} {s : Shared} {Q : Value → Shared → Prop} {E : Value → Shared → Prop}
    {cn : Str} {cs : Scope} {ccd : Value} {e1 : Env} {f g : Str} {t1 t2 : Tok} {ow ini : Bool}

theorem req_c {x C d : Addr} {k1 k2 k3 k4 k5 : Tok} {pm tk : Addr} {nam : Str} {cnt : Int} {c0 c1 : Nat} (hC : C ∈ classes) (h1 : (x, instObj C d) ∈ news) (h2 : (d, dictOf (pdict w.params k1 k2 k3 k4 k5 t1 t2 pm tk nam ow cnt) 5) ∈ news)
    (hn0 : nam.cps[0]? = some c0) (hn1 : ow = false → nam.cps[1]? = some c1)
    (B : Below (callerA.deeper e1) base [e1] h₀) (hk : cs.kind = .function) (F : Fr h₀ L s.heap m) (X : (hd.heap_39 w.params).In h₀) (N : News h₀ L s.heap news) (T : Top p loose mean mg mb h₀)
    (hret : ∀ r vs c h' tk', Fr h₀ L h' m → News h₀ L h' ((r, listOf vs c) :: news) → (∀ p ∈ news, p.1 < r) → Texts vs.toList (reqK ⟨#[c0]⟩ ⟨#[c1]⟩ ow ini) → Q (.ref r) { s with heap := h', toks := tk' }) :
    wpAny (model prog w) ((callerA.deeper e1).deeper (envOf cn cs L a ccd)) (call (.ref 63) [.ref x, .bool ini]) Q E s := by
  refine wpAny_call ?_
  k_dflt cell_enter
  k_steps
  all_goals (refine hret _ _ _ _ _ (by assumption) (news_sub (by assumption) (sub_cons (by k_mem) (by repeat' (first | exact sub_refl | refine sub_tail ?_)))) (by assumption) ?_)
  all_goals (simp [reqK, *])
  all_goals (repeat' (first | exact Texts.nil | refine Texts.cons ?_))

theorem keys_c
    (B : Below (callerA.deeper e1) base [e1] h₀) (hk : cs.kind = .function) (F : Fr h₀ L s.heap m) (X : (hd.heap_39 w.params).In h₀) (N : News h₀ L s.heap news) (T : Top p loose mean mg mb h₀)
    (hret : ∀ r vs c h' tk', Fr h₀ L h' m → News h₀ L h' ((r, listOf vs c) :: news) → (∀ p ∈ news, p.1 < r) → Texts vs.toList (keysK f g ow ini) → Q (.ref r) { s with heap := h', toks := tk' }) :
    wpAny (model prog w) ((callerA.deeper e1).deeper (envOf cn cs L a ccd)) (call (.ref 434) [.str f t1, .str g t2, .bool ow, .bool ini]) Q E s := by
  refine wpAny_call ?_
  k_dflt cell_enter
  k_steps
  all_goals (refine hret _ _ _ _ _ (by assumption) (news_sub (by assumption) (sub_cons (by k_mem) (by repeat' (first | exact sub_refl | refine sub_tail ?_)))) (by assumption) ?_)
  all_goals (simp only [keysK, *, Bool.true_or, Bool.or_true, Bool.false_or, Bool.or_false, if_true, Bool.false_eq_true, if_false, List.nil_append, List.cons_append, List.append_nil, Array.toList_push])
  all_goals (repeat' (first | exact Texts.nil | refine Texts.cons ?_))

theorem ahead_c
    (B : Below callerA base [] h₀) (hk : cs.kind = .function) (F : Fr h₀ L s.heap m) (X : (hd.heap_39 w.params).In h₀) (N : News h₀ L s.heap news) (T : Top p loose mean mg mb h₀)
    (hret : ∀ r ra rb va vb c ca cb h' tk', Fr h₀ L h' m → News h₀ L h' ((r, listOf #[.ref ra, .ref rb] c) :: (ra, listOf va ca) :: (rb, listOf vb cb) :: news) →
      (∀ p ∈ news, p.1 < ra) → AllLt rb ((ra, listOf va ca) :: news) → AllLt r ((rb, listOf vb cb) :: (ra, listOf va ca) :: news) → Texts va.toList (aheadA f) → Texts vb.toList (aheadB g ow) → Q (.ref r) { s with heap := h', toks := tk' }) :
    wpAny (model prog w) (callerA.deeper (envOf cn cs L a ccd)) (call (.ref 427) [.str f t1, .str g t2, .bool ow]) Q E s := by
  refine wpAny_call ?_
  k_dflt cell_enter
  k_steps
  all_goals (refine hret _ _ _ _ _ _ _ _ _ _ (by assumption) (news_sub (by assumption) (sub_cons (by k_mem) (sub_cons (by k_mem) (sub_cons (by k_mem) (by repeat' (first | exact sub_refl | refine sub_tail ?_)))))) (by assumption) (by assumption) (by assumption) ?_ ?_)
  all_goals (simp [aheadA, aheadB, *])
  all_goals (repeat' (first | exact Texts.nil | refine Texts.cons ?_))
end
end
-- part MsgC
section
example : True := by
  w_top off
  trivial
section
variable {prog : Program} {w : World} {p : Program} {loose : List Str} {mean : ExcName → Option Value} {mg mb : Str → Option Value}
    {base h₀ : Heap} {L a : Addr} {m : Str → Option Value} {news : List (Addr × Obj)} {s : Shared} {Q : Value → Shared → Prop} {E : Value → Shared → Prop}
    {cn : Str} {cs : Scope} {ccd : Value} {e1 : Env} {f g : Str} {t1 t2 : Tok} {ow ini : Bool}

theorem msgs_1 {f g : Str} {ow : Bool} (h : ow = true) : [appIf (appIf (appIf [tS "e"] (g == tS "K" || ow) (tS "es")) (f == tS "I" || (ow && f == tS "X")) (tS "s")) ((g == tS "K" || ow) && ((f == tS "I" || (ow && f == tS "X")) || f == tS "K")) (tS "ss")] = msgs f g ow := by rw [msgs, if_pos h]
theorem msgs_2 {f g : Str} {ow : Bool} (h : ow = false) (h1 : (g == tS "X") = true) (h2 : (f == tS "X") = true) : [appIf (appIf (appIf [tS "e"] (g == tS "K" || ow) (tS "es")) (f == tS "I" || (ow && f == tS "X")) (tS "s")) ((g == tS "K" || ow) && ((f == tS "I" || (ow && f == tS "X")) || f == tS "K")) (tS "ss"), appIf [tS "e", tS "ee"] ([tS "K", tS "I"].any (fun x => x == f)) (tS "se") ++ [tS "s", tS "es"], [tS "s", tS "se"]] = msgs f g ow := by rw [msgs, if_neg (by rw [h]; decide), if_pos h2, if_pos h1]
theorem msgs_3 {f g : Str} {ow : Bool} (h : ow = false) (h1 : (g == tS "X") = true) (h2 : (f == tS "X") = false) : [appIf (appIf (appIf [tS "e"] (g == tS "K" || ow) (tS "es")) (f == tS "I" || (ow && f == tS "X")) (tS "s")) ((g == tS "K" || ow) && ((f == tS "I" || (ow && f == tS "X")) || f == tS "K")) (tS "ss"), appIf [tS "e", tS "ee"] ([tS "K", tS "I"].any (fun x => x == f)) (tS "se") ++ [tS "s", tS "es"]] = msgs f g ow := by rw [msgs, if_neg (by rw [h]; decide), if_neg (by rw [h2]; decide), if_pos h1]
theorem msgs_4 {f g : Str} {ow : Bool} (h : ow = false) (h1 : (g == tS "X") = false) (h2 : (f == tS "X") = true) : [appIf (appIf (appIf [tS "e"] (g == tS "K" || ow) (tS "es")) (f == tS "I" || (ow && f == tS "X")) (tS "s")) ((g == tS "K" || ow) && ((f == tS "I" || (ow && f == tS "X")) || f == tS "K")) (tS "ss"), appIf [tS "e", tS "ee"] ([tS "K", tS "I"].any (fun x => x == f)) (tS "se"), [tS "s", tS "se"]] = msgs f g ow := by rw [msgs, if_neg (by rw [h]; decide), if_pos h2, if_neg (by rw [h1]; decide)]
theorem msgs_5 {f g : Str} {ow : Bool} (h : ow = false) (h1 : (g == tS "X") = false) (h2 : (f == tS "X") = false) : [appIf (appIf (appIf [tS "e"] (g == tS "K" || ow) (tS "es")) (f == tS "I" || (ow && f == tS "X")) (tS "s")) ((g == tS "K" || ow) && ((f == tS "I" || (ow && f == tS "X")) || f == tS "K")) (tS "ss"), appIf [tS "e", tS "ee"] ([tS "K", tS "I"].any (fun x => x == f)) (tS "se")] = msgs f g ow := by rw [msgs, if_neg (by rw [h]; decide), if_neg (by rw [h2]; decide), if_neg (by rw [h1]; decide)]
theorem allLt_mem {r : Addr} : ∀ {l : List (Addr × Obj)}, AllLt r l → ∀ p ∈ l, p.1 < r
  | [], _, _, hp => nomatch hp
  | _ :: _, h, p, hp => by
    rcases List.mem_cons.mp hp with rfl | hp
    · exact h.1
    · exact allLt_mem h.2 p hp
theorem msg_fin {led cells : List (Addr × Obj)} {refs : Array Value} {c r : Nat} {h' : Heap} {tk' : Nat} {css : List (List Str)}
    (hret : ∀ (r : Addr) refs cells c h' tk', Fr h₀ L h' m → News h₀ L h' ((r, listOf refs c) :: (cells ++ news)) →
      Mat refs.toList (msgs f g ow) cells → (∀ p ∈ news, p.1 < r) → (∀ p ∈ cells, p.1 ≠ r) → (∀ q ∈ cells, AllLt q.1 news) → Q (.ref r) { s with heap := h', toks := tk' })
    (F : Fr h₀ L h' m) (N : News h₀ L h' led) (hr : (r, listOf refs c) ∈ led) (M : MatIn led refs.toList css cells) (hs : ∀ p ∈ news, p ∈ led) (e : css = msgs f g ow) (hlt : AllLt r news) (hne : ∀ p ∈ cells, p.1 ≠ r) (hfr : ∀ q ∈ cells, AllLt q.1 news) : Q (.ref r) { s with heap := h', toks := tk' } :=
  hret r refs cells c h' tk' F (mat_news N hr M hs) (e ▸ M.mat) (allLt_mem hlt) hne hfr

/-- what a statement leaves that stores a bool under one name -/
inductive CutLet (g : Heap) (L : Addr) (m : Str → Option Value) (led : List (Addr × Obj)) (x : Str) (b : Bool) (s : Shared) : Flow → Shared → Prop
  | mk {h : Heap} {tk : Nat} : Fr g L h (fun y => if y = x then some (.bool b) else m y) → News g L h led → CutLet g L m led x b s .next { s with heap := h, toks := tk }
theorem cut_let {M : Model} {A : Around} {t : Sem Flow} {Q : Flow → Shared → Prop} {E : Value → Shared → Prop} {g : Heap} {L : Addr} {m : Str → Option Value} {led : List (Addr × Obj)} (_F : Fr g L s.heap m) (_N : News g L s.heap led) (x : Str) (b : Bool)
    (h1 : wpAny M A t (CutLet g L m led x b s) E s) (h2 : ∀ h tk, Fr g L h (fun y => if y = x then some (.bool b) else m y) → News g L h led → Q .next { s with heap := h, toks := tk }) : wpAny M A t Q E s :=
  wpAny_mono h1 (fun _ _ h => by cases h with | mk F N => exact h2 _ _ F N) fun _ _ e => e
/-- what a statement leaves that may have put texts into the first list -/
inductive CutRow (g : Heap) (L : Addr) (m : Str → Option Value) (pre post : List (Addr × Obj)) (r : Addr) (xs : List Str) (s : Shared) : Flow → Shared → Prop
  | mk {h : Heap} {tk : Nat} {its : Array Value} {n : Nat} : Fr g L h m → News g L h (pre ++ (r, listOf its n) :: post) → Texts its.toList xs → CutRow g L m pre post r xs s .next { s with heap := h, toks := tk }
theorem cut_row {M : Model} {A : Around} {t : Sem Flow} {Q : Flow → Shared → Prop} {E : Value → Shared → Prop} {g : Heap} {L : Addr} {m : Str → Option Value} {r : Addr} {its : Array Value} {n : Nat} (pre : List (Addr × Obj)) {post : List (Addr × Obj)} (xs : List Str) (_F : Fr g L s.heap m) (_N : News g L s.heap (pre ++ (r, listOf its n) :: post)) (hb : xs.length ≤ 8)
    (h1 : wpAny M A t (CutRow g L m pre post r xs s) E s) (h2 : ∀ h tk its n, Fr g L h m → News g L h (pre ++ (r, listOf its n) :: post) → Texts its.toList xs → its.size ≤ 8 → Q .next { s with heap := h, toks := tk }) : wpAny M A t Q E s :=
  wpAny_mono h1 (fun _ _ h => by cases h with | mk F N T => exact h2 _ _ _ _ F N T (T.size ▸ hb)) fun _ _ e => e
theorem messages_c
    (B : Below callerA base [] h₀) (hk : cs.kind = .function) (F : Fr h₀ L s.heap m) (X : (hd.heap_39 w.params).In h₀) (N : News h₀ L s.heap news) (T : Top p loose mean mg mb h₀)
    (hret : ∀ r refs cells c h' tk', Fr h₀ L h' m → News h₀ L h' ((r, listOf refs c) :: (cells ++ news)) →
      Mat refs.toList (msgs f g ow) cells → (∀ p ∈ news, p.1 < r) → (∀ p ∈ cells, p.1 ≠ r) → (∀ q ∈ cells, AllLt q.1 news) → Q (.ref r) { s with heap := h', toks := tk' }) :
    wpAny (model prog w) (callerA.deeper (envOf cn cs L a ccd)) (call (.ref 420) [.str f t1, .str g t2, .bool ow]) Q E s := by
  refine wpAny_call ?_
  k_dflt cell_enter
  repeat' ((fail_if_success (with_reducible show wpAny _ _ (exec (PySem.Stmt.Assign _ _ _) _) _ _ _)); first | (k_unfold; (try dsimp only)) | (k_end; wrow_close) | walk1 | (dsimp only; walk1) | (leave1; walk_say "STEP leave1"; try dsimp only) | fail "no step")
  refine cut_let (by assumption) (by assumption) (tS "known") (g == tS "K" || ow) ?_ ?_
  · k_steps
    all_goals (refine CutLet.mk (fr_as (by assumption) ?_) (by assumption))
    all_goals (funext y; simp only [*, Bool.true_or, Bool.or_true, Bool.false_or, Bool.or_false, Bool.true_and, Bool.false_and, Bool.and_true, Bool.and_false]; done)
  intro h' tk' F' N'
  k_sweep
  try dsimp only
  try k_fold
  repeat' ((fail_if_success (with_reducible show wpAny _ _ (exec (PySem.Stmt.Assign _ _ _) _) _ _ _)); first | (k_unfold; (try dsimp only)) | (k_end; wrow_close) | walk1 | (dsimp only; walk1) | (leave1; walk_say "STEP leave1"; try dsimp only) | fail "no step")
  refine cut_let (by assumption) (by assumption) (tS "sent") (f == tS "I" || (ow && f == tS "X")) ?_ ?_
  · k_steps
    all_goals (refine CutLet.mk (fr_as (by assumption) ?_) (by assumption))
    all_goals (funext y; simp only [*, Bool.true_or, Bool.or_true, Bool.false_or, Bool.or_false, Bool.true_and, Bool.false_and, Bool.and_true, Bool.and_false]; done)
  intro h' tk' F' N'
  k_sweep
  try dsimp only
  try k_fold
  repeat' ((fail_if_success (with_reducible show wpAny _ _ (exec (PySem.Stmt.If _ _ _ _) _) _ _ _)); first | (k_unfold; (try dsimp only)) | (k_end; wrow_close) | walk1 | (dsimp only; walk1) | (leave1; walk_say "STEP leave1"; try dsimp only) | fail "no step")
  refine cut_row [_] (appIf [tS "e"] (g == tS "K" || ow) (tS "es")) (by assumption) (by assumption) (Nat.le_trans (appIf_len (n := 1) (Nat.le_refl _)) (by decide)) ?_ ?_
  · k_steps
    all_goals (refine CutRow.mk (by assumption) (news_sub (by assumption) (sub_cons (by k_mem) (sub_cons (by k_mem) (by repeat' (first | exact sub_refl | refine sub_tail ?_))))) ?_)
    all_goals first | ((refine texts_yes ?_ ?_); (focus (first | assumption | (repeat' (first | exact Texts.nil | refine Texts.cons ?_)))); (focus (first | assumption | (simp only [*, Bool.true_or, Bool.or_true, Bool.false_or, Bool.or_false, Bool.true_and, Bool.false_and, Bool.and_true, Bool.and_false]; done)))) | ((refine texts_no ?_ ?_); (focus (first | assumption | (repeat' (first | exact Texts.nil | refine Texts.cons ?_)))); (focus (first | assumption | (simp only [*, Bool.true_or, Bool.or_true, Bool.false_or, Bool.or_false, Bool.true_and, Bool.false_and, Bool.and_true, Bool.and_false]; done))))
  intro h' tk' its' n' F' N' tx' sz'
  k_sweep
  try dsimp only [List.nil_append, List.cons_append] at N'
  try dsimp only
  try k_fold
  repeat' ((fail_if_success (with_reducible show wpAny _ _ (exec (PySem.Stmt.If _ _ _ _) _) _ _ _)); first | (k_unfold; (try dsimp only)) | (k_end; wrow_close) | walk1 | (dsimp only; walk1) | (leave1; walk_say "STEP leave1"; try dsimp only) | fail "no step")
  refine cut_row [_] (appIf (appIf [tS "e"] (g == tS "K" || ow) (tS "es")) (f == tS "I" || (ow && f == tS "X")) (tS "s")) (by assumption) (by assumption) (Nat.le_trans (appIf_len (n := 2) (appIf_len (n := 1) (Nat.le_refl _))) (by decide)) ?_ ?_
  · k_steps
    all_goals (refine CutRow.mk (by assumption) (news_sub (by assumption) (sub_cons (by k_mem) (sub_cons (by k_mem) (by repeat' (first | exact sub_refl | refine sub_tail ?_))))) ?_)
    all_goals first | ((refine texts_yes ?_ ?_); (focus (first | assumption | (repeat' (first | exact Texts.nil | refine Texts.cons ?_)))); (focus (first | assumption | (simp only [*, Bool.true_or, Bool.or_true, Bool.false_or, Bool.or_false, Bool.true_and, Bool.false_and, Bool.and_true, Bool.and_false]; done)))) | ((refine texts_no ?_ ?_); (focus (first | assumption | (repeat' (first | exact Texts.nil | refine Texts.cons ?_)))); (focus (first | assumption | (simp only [*, Bool.true_or, Bool.or_true, Bool.false_or, Bool.or_false, Bool.true_and, Bool.false_and, Bool.and_true, Bool.and_false]; done))))
  intro h' tk' its' n' F' N' tx' sz'
  k_sweep
  try dsimp only [List.nil_append, List.cons_append] at N'
  try dsimp only
  try k_fold
  repeat' ((fail_if_success (with_reducible show wpAny _ _ (exec (PySem.Stmt.If _ _ _ _) _) _ _ _)); first | (k_unfold; (try dsimp only)) | (k_end; wrow_close) | walk1 | (dsimp only; walk1) | (leave1; walk_say "STEP leave1"; try dsimp only) | fail "no step")
  refine cut_row [_] (appIf (appIf (appIf [tS "e"] (g == tS "K" || ow) (tS "es")) (f == tS "I" || (ow && f == tS "X")) (tS "s")) ((g == tS "K" || ow) && ((f == tS "I" || (ow && f == tS "X")) || f == tS "K")) (tS "ss")) (by assumption) (by assumption) (Nat.le_trans (appIf_len (n := 3) (appIf_len (n := 2) (appIf_len (n := 1) (Nat.le_refl _)))) (by decide)) ?_ ?_
  · k_steps
    all_goals (refine CutRow.mk (by assumption) (news_sub (by assumption) (sub_cons (by k_mem) (sub_cons (by k_mem) (by repeat' (first | exact sub_refl | refine sub_tail ?_))))) ?_)
    all_goals first | ((refine texts_yes ?_ ?_); (focus (first | assumption | (repeat' (first | exact Texts.nil | refine Texts.cons ?_)))); (focus (first | assumption | (simp only [*, Bool.true_or, Bool.or_true, Bool.false_or, Bool.or_false, Bool.true_and, Bool.false_and, Bool.and_true, Bool.and_false]; done)))) | ((refine texts_no ?_ ?_); (focus (first | assumption | (repeat' (first | exact Texts.nil | refine Texts.cons ?_)))); (focus (first | assumption | (simp only [*, Bool.true_or, Bool.or_true, Bool.false_or, Bool.or_false, Bool.true_and, Bool.false_and, Bool.and_true, Bool.and_false]; done))))
  intro h' tk' its' n' F' N' tx' sz'
  k_sweep
  try dsimp only [List.nil_append, List.cons_append] at N'
  try dsimp only
  try k_fold
  repeat' ((fail_if_success (with_reducible show wpAny _ _ (exec (PySem.Stmt.If (PySem.Expr.Compare _ _ _ _) _ _ _) _) _ _ _)); first | (k_unfold; (try dsimp only)) | (k_end; wrow_close) | walk1 | (dsimp only; walk1) | (leave1; walk_say "STEP leave1"; try dsimp only) | fail "no step")
  rotate_left
  · refine cut_row [] (appIf [tS "e", tS "ee"] ([tS "K", tS "I"].any (fun x => x == f)) (tS "se")) (by assumption) (by assumption) (Nat.le_trans (appIf_len (n := 2) (Nat.le_refl _)) (by decide)) ?_ ?_
    · k_steps
      all_goals (refine CutRow.mk (by assumption) (news_sub (by assumption) (sub_cons (by k_mem) (sub_cons (by k_mem) (sub_cons (by k_mem) (by repeat' (first | exact sub_refl | refine sub_tail ?_)))))) ?_)
      all_goals first | ((refine texts_yes ?_ ?_); (focus (first | assumption | (repeat' (first | exact Texts.nil | refine Texts.cons ?_)))); (focus (first | assumption | (simp only [*, Bool.true_or, Bool.or_true, Bool.false_or, Bool.or_false, Bool.true_and, Bool.false_and, Bool.and_true, Bool.and_false]; done)))) | ((refine texts_no ?_ ?_); (focus (first | assumption | (repeat' (first | exact Texts.nil | refine Texts.cons ?_)))); (focus (first | assumption | (simp only [*, Bool.true_or, Bool.or_true, Bool.false_or, Bool.or_false, Bool.true_and, Bool.false_and, Bool.and_true, Bool.and_false]; done))))
    intro h' tk' its' n' F' N' tx' sz'
    k_sweep
    try dsimp only [List.nil_append, List.cons_append] at N'
    try dsimp only
    try k_fold
    k_steps
    all_goals (refine msg_fin (css := ?_) (cells := ?_) hret (by with_reducible assumption) (by with_reducible assumption) (by repeat' (first | exact List.Mem.head _ | refine List.Mem.tail _ ?_)) ?_ (by repeat' (first | exact sub_refl | refine sub_tail ?_)) ?_ (And.right (a := @LT.lt Nat _ _ _) (by with_reducible assumption)) ?_ ?_)
    all_goals try (show MatIn _ _ _ _; (try simp only [Array.toList_push, List.cons_append, List.nil_append]); repeat' (first | ((with_reducible show MatIn _ _ _ _); first | refine' MatIn.cons (by repeat' (first | exact List.Mem.head _ | refine List.Mem.tail _ ?_)) ?_ ?_ | exact MatIn.nil) | (with_reducible exact MatIn.nil) | ((with_reducible show Texts _ _); first | (with_reducible assumption) | (with_reducible refine' texts_cat ?_ ?_) | refine' Texts.cons ?_ | exact Texts.nil)))
    all_goals first | with_reducible exact msgs_1 (by with_reducible assumption) | with_reducible exact msgs_2 (by with_reducible assumption) (by with_reducible assumption) (by with_reducible assumption) | with_reducible exact msgs_3 (by with_reducible assumption) (by with_reducible assumption) (by with_reducible assumption) | with_reducible exact msgs_4 (by with_reducible assumption) (by with_reducible assumption) (by with_reducible assumption) | with_reducible exact msgs_5 (by with_reducible assumption) (by with_reducible assumption) (by with_reducible assumption) | (repeat' (first | exact List.forall_mem_nil _ | refine List.forall_mem_cons.mpr ⟨?_, ?_⟩ | (refine neN ?_; (try dsimp only); omega) | ((try dsimp only); (with_reducible show AllLt _ _); first | (with_reducible assumption) | (refine allLt_of ?_; with_reducible assumption) | (exact And.right (a := @LT.lt Nat _ _ _) (by with_reducible assumption)) | (exact And.right (a := @LT.lt Nat _ _ _) (And.right (a := @LT.lt Nat _ _ _) (by with_reducible assumption))) | (exact And.right (a := @LT.lt Nat _ _ _) (And.right (a := @LT.lt Nat _ _ _) (And.right (a := @LT.lt Nat _ _ _) (by with_reducible assumption)))) | (exact And.right (a := @LT.lt Nat _ _ _) (And.right (a := @LT.lt Nat _ _ _) (And.right (a := @LT.lt Nat _ _ _) (And.right (a := @LT.lt Nat _ _ _) (by with_reducible assumption))))) | (exact And.right (a := @LT.lt Nat _ _ _) (And.right (a := @LT.lt Nat _ _ _) (And.right (a := @LT.lt Nat _ _ _) (And.right (a := @LT.lt Nat _ _ _) (And.right (a := @LT.lt Nat _ _ _) (by with_reducible assumption)))))) | (exact And.right (a := @LT.lt Nat _ _ _) (And.right (a := @LT.lt Nat _ _ _) (And.right (a := @LT.lt Nat _ _ _) (And.right (a := @LT.lt Nat _ _ _) (And.right (a := @LT.lt Nat _ _ _) (And.right (a := @LT.lt Nat _ _ _) (by with_reducible assumption))))))))))
  all_goals (refine msg_fin (css := ?_) (cells := ?_) hret (by with_reducible assumption) (by with_reducible assumption) (by repeat' (first | exact List.Mem.head _ | refine List.Mem.tail _ ?_)) ?_ (by repeat' (first | exact sub_refl | refine sub_tail ?_)) ?_ (And.right (a := @LT.lt Nat _ _ _) (by with_reducible assumption)) ?_ ?_)
  all_goals try (show MatIn _ _ _ _; (try simp only [Array.toList_push, List.cons_append, List.nil_append]); repeat' (first | ((with_reducible show MatIn _ _ _ _); first | refine' MatIn.cons (by repeat' (first | exact List.Mem.head _ | refine List.Mem.tail _ ?_)) ?_ ?_ | exact MatIn.nil) | (with_reducible exact MatIn.nil) | ((with_reducible show Texts _ _); first | (with_reducible assumption) | (with_reducible refine' texts_cat ?_ ?_) | refine' Texts.cons ?_ | exact Texts.nil)))
  all_goals first | with_reducible exact msgs_1 (by with_reducible assumption) | with_reducible exact msgs_2 (by with_reducible assumption) (by with_reducible assumption) (by with_reducible assumption) | with_reducible exact msgs_3 (by with_reducible assumption) (by with_reducible assumption) (by with_reducible assumption) | with_reducible exact msgs_4 (by with_reducible assumption) (by with_reducible assumption) (by with_reducible assumption) | with_reducible exact msgs_5 (by with_reducible assumption) (by with_reducible assumption) (by with_reducible assumption) | (repeat' (first | exact List.forall_mem_nil _ | refine List.forall_mem_cons.mpr ⟨?_, ?_⟩ | (refine neN ?_; (try dsimp only); omega) | ((try dsimp only); (with_reducible show AllLt _ _); first | (with_reducible assumption) | (refine allLt_of ?_; with_reducible assumption) | (exact And.right (a := @LT.lt Nat _ _ _) (by with_reducible assumption)) | (exact And.right (a := @LT.lt Nat _ _ _) (And.right (a := @LT.lt Nat _ _ _) (by with_reducible assumption))) | (exact And.right (a := @LT.lt Nat _ _ _) (And.right (a := @LT.lt Nat _ _ _) (And.right (a := @LT.lt Nat _ _ _) (by with_reducible assumption)))) | (exact And.right (a := @LT.lt Nat _ _ _) (And.right (a := @LT.lt Nat _ _ _) (And.right (a := @LT.lt Nat _ _ _) (And.right (a := @LT.lt Nat _ _ _) (by with_reducible assumption))))) | (exact And.right (a := @LT.lt Nat _ _ _) (And.right (a := @LT.lt Nat _ _ _) (And.right (a := @LT.lt Nat _ _ _) (And.right (a := @LT.lt Nat _ _ _) (And.right (a := @LT.lt Nat _ _ _) (by with_reducible assumption)))))) | (exact And.right (a := @LT.lt Nat _ _ _) (And.right (a := @LT.lt Nat _ _ _) (And.right (a := @LT.lt Nat _ _ _) (And.right (a := @LT.lt Nat _ _ _) (And.right (a := @LT.lt Nat _ _ _) (And.right (a := @LT.lt Nat _ _ _) (by with_reducible assumption))))))))))
end
end
-- part PatC
section
example : True := by
  w_top off
  trivial
section
variable {w : World} {p : Program} {loose : List Str} {mean : ExcName → Option Value} {mg mb : Str → Option Value}
    {base h₀ : Heap} {L a : Addr} {m : Str → Option Value} {news : List (Addr × Obj)} {s : Shared} {Q : Value → Shared → Prop} {E : Value → Shared → Prop}
noncomputable abbrev lawProg : Program := PySem.Challenge.rw_jd0018_01.row.prog

theorem init_code {A A₀ : Around} {env : Env} {outer : List Env} {R : Result → Shared → Prop} {x C d : Addr}
    (B : Below A₀ base outer h₀) (F : Fr h₀ L s.heap m) (X : (hd.heap_39 w.params).In h₀) (N : News h₀ L s.heap ((x, instObj C d) :: (d, dictOf [] 0) :: news)) (T : Top p loose mean mg mb h₀)
    (hA : A.frames = some (env :: outer)) (hf : env.frame = some L) (hke : env.scope.kind = .function) (hroom : A.depth < recursionLimit) (hdx : @LT.lt Nat _ d x) (hlt : AllLt d news) (hC : C ∈ classes)
    (h : ∀ pa pb pm tk k1 k2 k3 k4 k5 t1 t2 h' tk', Fr h₀ L h' m → News h₀ L h' ((tk, listOf #[] 0) :: (pm, listOf #[.ref pa, .ref pb] 0) :: (pb, listOf #[] 0) :: (pa, listOf #[] 0) :: (x, instObj C d) :: (d, dictOf (pdict w.params k1 k2 k3 k4 k5 t1 t2 pm tk (tS "") false 0) 5) :: news) →
      @LT.lt Nat _ x pa → @LT.lt Nat _ pa pb → @LT.lt Nat _ pb pm → @LT.lt Nat _ pm tk → R (.ok (.ret .none)) { s with heap := h', toks := tk' }) :
    codeAny (model lawProg w) A (.call (.ref 28) ⟨[.ref x], []⟩) R s := by
  refine' code_def B F X N T hA hf hke (by k_is) (by k_is) hroom (BindsTo.of_eq rfl) (by exact locs rfl) ?_ rfl rfl rfl (by decide)
  intro g' L' h' FG' F' N' B' X' T'
  (try dsimp only)
  (try k_lift B')
  (try k_fold)
  k_steps
  exact h _ _ _ _ _ _ _ _ _ _ _ _ _ (by assumption) (by assumption) (by omega) (by omega) (by omega) (by omega)
end
section
variable {w : World} {p : Program} {loose : List Str} {mean : ExcName → Option Value} {mg mb : Str → Option Value}
    {base h₀ : Heap} {L a : Addr} {m : Str → Option Value} {news : List (Addr × Obj)} {s : Shared} {Q : Value → Shared → Prop} {E : Value → Shared → Prop}
    {cn : Str} {nm : List (Str × NameKind)} {mo : List (Str × Const)} {ccd : Value} {e1 : Env}
theorem rising_one {a : Nat} : Rising [a] := trivial
theorem rising_cons {a b : Nat} {r : List Nat} (h : a < b) (k : Rising (b :: r)) : Rising (a :: b :: r) := ⟨h, k⟩
theorem ctor_fin {i : Nat} {x d pm pa pb tk C : Addr} {va vb refs : Array Value} {cells led : List (Addr × Obj)} {cp ca cb ct : Nat} {k1 k2 k3 k4 k5 t1 t2 : Tok} {h' : Heap} {tk' : Nat} {nam : Str} {ow : Bool} {xa xb : List Str} {css : List (List Str)}
    (hret : ∀ x d pm pa pb tk va vb refs cells cp ca cb ct k1 k2 k3 k4 k5 t1 t2 h' tk', Fr h₀ L h' m →
      News h₀ L h' ((x, instObj (110 + 21 * i) d) :: (d, dictOf (pdict w.params k1 k2 k3 k4 k5 t1 t2 pm tk (nameOf i) (wayOf i) 0) 5) :: (pm, listOf #[.ref pa, .ref pb] cp) :: (pa, listOf va ca) :: (pb, listOf vb cb) :: (tk, listOf refs ct) :: (cells ++ news)) →
      Texts va.toList (aheadA (fOf i)) → Texts vb.toList (aheadB (gOf i) (wayOf i)) → Mat refs.toList (rowsOf i) cells → AllLt d news → Rising (d :: x :: pa :: pb :: pm :: (cells.map (·.1) ++ [tk])) → Q (.ref x) { s with heap := h', toks := tk' })
    (F : Fr h₀ L h' m) (N : News h₀ L h' led) (m1 : (x, instObj C d) ∈ led) (m2 : (d, dictOf (pdict w.params k1 k2 k3 k4 k5 t1 t2 pm tk nam ow 0) 5) ∈ led) (m3 : (pm, listOf #[.ref pa, .ref pb] cp) ∈ led) (m4 : (pa, listOf va ca) ∈ led) (m5 : (pb, listOf vb cb) ∈ led) (m6 : (tk, listOf refs ct) ∈ led)
    (ta : Texts va.toList xa) (tb : Texts vb.toList xb) (M : MatIn led refs.toList css cells) (hs : ∀ p ∈ news, p ∈ led) (eC : C = 110 + 21 * i) (e1 : nam = nameOf i) (e2 : ow = wayOf i) (e3 : xa = aheadA (fOf i)) (e4 : xb = aheadB (gOf i) (wayOf i)) (e5 : css = rowsOf i)
    (hlt : AllLt d news) (hr : Rising (d :: x :: pa :: pb :: pm :: (cells.map (·.1) ++ [tk]))) : Q (.ref x) { s with heap := h', toks := tk' } := by
  subst eC e1 e2 e3 e4 e5
  refine hret x d pm pa pb tk va vb refs cells cp ca cb ct k1 k2 k3 k4 k5 t1 t2 h' tk' F (news_sub N ?_) ta tb M.mat hlt hr
  refine sub_cons m1 (sub_cons m2 (sub_cons m3 (sub_cons m4 (sub_cons m5 (sub_cons m6 fun q hq => ?_)))))
  rcases List.mem_append.mp hq with h | h
  · exact M.sub q h
  · exact hs q h
theorem ctor_two {i : Nat} (hi : i ∈ [3, 4, 5, 6, 7, 8, 9, 10, 11, 12, 13, 14])
    (B : Below (callerA.deeper e1) base [e1] h₀) (F : Fr h₀ L s.heap m) (X : (hd.heap_39 w.params).In h₀) (N : News h₀ L s.heap news) (T : Top p loose mean mg mb h₀)
    (hret : ∀ x d pm pa pb tk va vb refs cells cp ca cb ct k1 k2 k3 k4 k5 t1 t2 h' tk', Fr h₀ L h' m →
      News h₀ L h' ((x, instObj (110 + 21 * i) d) :: (d, dictOf (pdict w.params k1 k2 k3 k4 k5 t1 t2 pm tk (nameOf i) (wayOf i) 0) 5) :: (pm, listOf #[.ref pa, .ref pb] cp) :: (pa, listOf va ca) :: (pb, listOf vb cb) :: (tk, listOf refs ct) :: (cells ++ news)) →
      Texts va.toList (aheadA (fOf i)) → Texts vb.toList (aheadB (gOf i) (wayOf i)) → Mat refs.toList (rowsOf i) cells → AllLt d news → Rising (d :: x :: pa :: pb :: pm :: (cells.map (·.1) ++ [tk])) → Q (.ref x) { s with heap := h', toks := tk' }) :
    wpAny (model lawProg w) ((callerA.deeper e1).deeper (envOf cn (cScope nm mo) L a ccd)) (call (.ref (110 + 21 * i)) []) Q E s := by
  simp only [List.mem_cons, List.not_mem_nil, or_false] at hi
  rcases hi with rfl | rfl | rfl | rfl | rfl | rfl | rfl | rfl | rfl | rfl | rfl | rfl
  · have hC9 : (173 : Addr) ∈ classes := by decide
    show wpAny _ _ (call (.ref 173) []) Q E s
    k_dflt (refine call_cls (by k_asm) (by k_asm) (by k_asm) (by k_is) (by k_is) (by k_is) ?_)
    intro x' d' h' F' N' l1 l2; (try k_lt l1); (try k_lt2 l2); ks_enter
    (ks_step "execs cons"; refine ks_wpAt_execs_cons ?_); (ks_step "exec Expr"; refine ks_wpAt_Expr_any ?_); (ks_step "eval Call"; refine ks_wpAt_MethodCall ?_); (k_dflt (refine ks_node (by k_asm) (by k_asm) (by k_asm) (by k_asm) (by k_is) (by rfl) (by rfl) (by k_inst) (by k_is) (by rfl) (by first | rfl | decide +kernel) (by k_is) (by k_is) (by k_is) (by k_is) (by decide) (by rfl) (by rfl) (by rfl) (by rfl) (by decide +kernel) (by first | boot_by_name | rfl | kernel_rfl) ?_)); (intro so' h' F' N' l1; (try k_lt l1))
    (repeat' ((fail_if_success (show wpAny _ _ (call (Value.ref _) _) _ _ _)); first | walk1 | (dsimp only; walk1)))
    (k_dflt (refine call_meth (f := Value.ref 28) (by k_asm) (by k_mem) ?_)); (refine init_code (news := news) (by k_asm) (by k_asm) (by k_asm) (news_sub (by k_asm) (sub_cons (by k_mem) (sub_cons (by k_mem) (by repeat' (first | exact sub_refl | refine sub_tail ?_))))) (by k_asm) rfl rfl rfl (by k_room) (by assumption) (by first | assumption | exact allLt_of (by assumption)) (by decide) ?_); (intro pa' pb' pm' tk' k1' k2' k3' k4' k5' t1' t2' h' tk9' F' N' o1' o2' o3' o4'; (try dsimp only); (try k_sweep))
    k_steps
    (exact ctor_fin hret (by with_reducible assumption) (by with_reducible assumption) (by k_mem) (by k_mem) (by k_mem) (by k_mem) (by k_mem) (by k_mem) (by repeat' (first | refine' Texts.cons ?_ | exact Texts.nil)) (by repeat' (first | refine' Texts.cons ?_ | exact Texts.nil)) (by repeat' (first | ((with_reducible show MatIn _ _ _ _); first | refine' MatIn.cons (by k_mem) ?_ ?_ | exact MatIn.nil) | ((with_reducible show Texts _ _); first | refine' Texts.cons ?_ | exact Texts.nil))) (by repeat' (first | exact sub_refl | refine sub_tail ?_)) rfl (by decide +kernel) (by decide +kernel) (by decide +kernel) (by decide +kernel) (by decide +kernel) (by first | assumption | exact allLt_of (by assumption)) (by repeat' (first | exact rising_one | refine rising_cons (by (try dsimp only); omega) ?_)))
  · have hC9 : (194 : Addr) ∈ classes := by decide
    show wpAny _ _ (call (.ref 194) []) Q E s
    k_dflt (refine call_cls (by k_asm) (by k_asm) (by k_asm) (by k_is) (by k_is) (by k_is) ?_)
    intro x' d' h' F' N' l1 l2; (try k_lt l1); (try k_lt2 l2); ks_enter
    (ks_step "execs cons"; refine ks_wpAt_execs_cons ?_); (ks_step "exec Expr"; refine ks_wpAt_Expr_any ?_); (ks_step "eval Call"; refine ks_wpAt_MethodCall ?_); (k_dflt (refine ks_node (by k_asm) (by k_asm) (by k_asm) (by k_asm) (by k_is) (by rfl) (by rfl) (by k_inst) (by k_is) (by rfl) (by first | rfl | decide +kernel) (by k_is) (by k_is) (by k_is) (by k_is) (by decide) (by rfl) (by rfl) (by rfl) (by rfl) (by decide +kernel) (by first | boot_by_name | rfl | kernel_rfl) ?_)); (intro so' h' F' N' l1; (try k_lt l1))
    (repeat' ((fail_if_success (show wpAny _ _ (call (Value.ref _) _) _ _ _)); first | walk1 | (dsimp only; walk1)))
    (k_dflt (refine call_meth (f := Value.ref 28) (by k_asm) (by k_mem) ?_)); (refine init_code (news := news) (by k_asm) (by k_asm) (by k_asm) (news_sub (by k_asm) (sub_cons (by k_mem) (sub_cons (by k_mem) (by repeat' (first | exact sub_refl | refine sub_tail ?_))))) (by k_asm) rfl rfl rfl (by k_room) (by assumption) (by first | assumption | exact allLt_of (by assumption)) (by decide) ?_); (intro pa' pb' pm' tk' k1' k2' k3' k4' k5' t1' t2' h' tk9' F' N' o1' o2' o3' o4'; (try dsimp only); (try k_sweep))
    k_steps
    (exact ctor_fin hret (by with_reducible assumption) (by with_reducible assumption) (by k_mem) (by k_mem) (by k_mem) (by k_mem) (by k_mem) (by k_mem) (by repeat' (first | refine' Texts.cons ?_ | exact Texts.nil)) (by repeat' (first | refine' Texts.cons ?_ | exact Texts.nil)) (by repeat' (first | ((with_reducible show MatIn _ _ _ _); first | refine' MatIn.cons (by k_mem) ?_ ?_ | exact MatIn.nil) | ((with_reducible show Texts _ _); first | refine' Texts.cons ?_ | exact Texts.nil))) (by repeat' (first | exact sub_refl | refine sub_tail ?_)) rfl (by decide +kernel) (by decide +kernel) (by decide +kernel) (by decide +kernel) (by decide +kernel) (by first | assumption | exact allLt_of (by assumption)) (by repeat' (first | exact rising_one | refine rising_cons (by (try dsimp only); omega) ?_)))
  · have hC9 : (215 : Addr) ∈ classes := by decide
    show wpAny _ _ (call (.ref 215) []) Q E s
    k_dflt (refine call_cls (by k_asm) (by k_asm) (by k_asm) (by k_is) (by k_is) (by k_is) ?_)
    intro x' d' h' F' N' l1 l2; (try k_lt l1); (try k_lt2 l2); ks_enter
    (ks_step "execs cons"; refine ks_wpAt_execs_cons ?_); (ks_step "exec Expr"; refine ks_wpAt_Expr_any ?_); (ks_step "eval Call"; refine ks_wpAt_MethodCall ?_); (k_dflt (refine ks_node (by k_asm) (by k_asm) (by k_asm) (by k_asm) (by k_is) (by rfl) (by rfl) (by k_inst) (by k_is) (by rfl) (by first | rfl | decide +kernel) (by k_is) (by k_is) (by k_is) (by k_is) (by decide) (by rfl) (by rfl) (by rfl) (by rfl) (by decide +kernel) (by first | boot_by_name | rfl | kernel_rfl) ?_)); (intro so' h' F' N' l1; (try k_lt l1))
    (repeat' ((fail_if_success (show wpAny _ _ (call (Value.ref _) _) _ _ _)); first | walk1 | (dsimp only; walk1)))
    (k_dflt (refine call_meth (f := Value.ref 28) (by k_asm) (by k_mem) ?_)); (refine init_code (news := news) (by k_asm) (by k_asm) (by k_asm) (news_sub (by k_asm) (sub_cons (by k_mem) (sub_cons (by k_mem) (by repeat' (first | exact sub_refl | refine sub_tail ?_))))) (by k_asm) rfl rfl rfl (by k_room) (by assumption) (by first | assumption | exact allLt_of (by assumption)) (by decide) ?_); (intro pa' pb' pm' tk' k1' k2' k3' k4' k5' t1' t2' h' tk9' F' N' o1' o2' o3' o4'; (try dsimp only); (try k_sweep))
    k_steps
    (exact ctor_fin hret (by with_reducible assumption) (by with_reducible assumption) (by k_mem) (by k_mem) (by k_mem) (by k_mem) (by k_mem) (by k_mem) (by repeat' (first | refine' Texts.cons ?_ | exact Texts.nil)) (by repeat' (first | refine' Texts.cons ?_ | exact Texts.nil)) (by repeat' (first | ((with_reducible show MatIn _ _ _ _); first | refine' MatIn.cons (by k_mem) ?_ ?_ | exact MatIn.nil) | ((with_reducible show Texts _ _); first | refine' Texts.cons ?_ | exact Texts.nil))) (by repeat' (first | exact sub_refl | refine sub_tail ?_)) rfl (by decide +kernel) (by decide +kernel) (by decide +kernel) (by decide +kernel) (by decide +kernel) (by first | assumption | exact allLt_of (by assumption)) (by repeat' (first | exact rising_one | refine rising_cons (by (try dsimp only); omega) ?_)))
  · have hC9 : (236 : Addr) ∈ classes := by decide
    show wpAny _ _ (call (.ref 236) []) Q E s
    k_dflt (refine call_cls (by k_asm) (by k_asm) (by k_asm) (by k_is) (by k_is) (by k_is) ?_)
    intro x' d' h' F' N' l1 l2; (try k_lt l1); (try k_lt2 l2); ks_enter
    (ks_step "execs cons"; refine ks_wpAt_execs_cons ?_); (ks_step "exec Expr"; refine ks_wpAt_Expr_any ?_); (ks_step "eval Call"; refine ks_wpAt_MethodCall ?_); (k_dflt (refine ks_node (by k_asm) (by k_asm) (by k_asm) (by k_asm) (by k_is) (by rfl) (by rfl) (by k_inst) (by k_is) (by rfl) (by first | rfl | decide +kernel) (by k_is) (by k_is) (by k_is) (by k_is) (by decide) (by rfl) (by rfl) (by rfl) (by rfl) (by decide +kernel) (by first | boot_by_name | rfl | kernel_rfl) ?_)); (intro so' h' F' N' l1; (try k_lt l1))
    (repeat' ((fail_if_success (show wpAny _ _ (call (Value.ref _) _) _ _ _)); first | walk1 | (dsimp only; walk1)))
    (k_dflt (refine call_meth (f := Value.ref 28) (by k_asm) (by k_mem) ?_)); (refine init_code (news := news) (by k_asm) (by k_asm) (by k_asm) (news_sub (by k_asm) (sub_cons (by k_mem) (sub_cons (by k_mem) (by repeat' (first | exact sub_refl | refine sub_tail ?_))))) (by k_asm) rfl rfl rfl (by k_room) (by assumption) (by first | assumption | exact allLt_of (by assumption)) (by decide) ?_); (intro pa' pb' pm' tk' k1' k2' k3' k4' k5' t1' t2' h' tk9' F' N' o1' o2' o3' o4'; (try dsimp only); (try k_sweep))
    k_steps
    (exact ctor_fin hret (by with_reducible assumption) (by with_reducible assumption) (by k_mem) (by k_mem) (by k_mem) (by k_mem) (by k_mem) (by k_mem) (by repeat' (first | refine' Texts.cons ?_ | exact Texts.nil)) (by repeat' (first | refine' Texts.cons ?_ | exact Texts.nil)) (by repeat' (first | ((with_reducible show MatIn _ _ _ _); first | refine' MatIn.cons (by k_mem) ?_ ?_ | exact MatIn.nil) | ((with_reducible show Texts _ _); first | refine' Texts.cons ?_ | exact Texts.nil))) (by repeat' (first | exact sub_refl | refine sub_tail ?_)) rfl (by decide +kernel) (by decide +kernel) (by decide +kernel) (by decide +kernel) (by decide +kernel) (by first | assumption | exact allLt_of (by assumption)) (by repeat' (first | exact rising_one | refine rising_cons (by (try dsimp only); omega) ?_)))
  · have hC9 : (257 : Addr) ∈ classes := by decide
    show wpAny _ _ (call (.ref 257) []) Q E s
    k_dflt (refine call_cls (by k_asm) (by k_asm) (by k_asm) (by k_is) (by k_is) (by k_is) ?_)
    intro x' d' h' F' N' l1 l2; (try k_lt l1); (try k_lt2 l2); ks_enter
    (ks_step "execs cons"; refine ks_wpAt_execs_cons ?_); (ks_step "exec Expr"; refine ks_wpAt_Expr_any ?_); (ks_step "eval Call"; refine ks_wpAt_MethodCall ?_); (k_dflt (refine ks_node (by k_asm) (by k_asm) (by k_asm) (by k_asm) (by k_is) (by rfl) (by rfl) (by k_inst) (by k_is) (by rfl) (by first | rfl | decide +kernel) (by k_is) (by k_is) (by k_is) (by k_is) (by decide) (by rfl) (by rfl) (by rfl) (by rfl) (by decide +kernel) (by first | boot_by_name | rfl | kernel_rfl) ?_)); (intro so' h' F' N' l1; (try k_lt l1))
    (repeat' ((fail_if_success (show wpAny _ _ (call (Value.ref _) _) _ _ _)); first | walk1 | (dsimp only; walk1)))
    (k_dflt (refine call_meth (f := Value.ref 28) (by k_asm) (by k_mem) ?_)); (refine init_code (news := news) (by k_asm) (by k_asm) (by k_asm) (news_sub (by k_asm) (sub_cons (by k_mem) (sub_cons (by k_mem) (by repeat' (first | exact sub_refl | refine sub_tail ?_))))) (by k_asm) rfl rfl rfl (by k_room) (by assumption) (by first | assumption | exact allLt_of (by assumption)) (by decide) ?_); (intro pa' pb' pm' tk' k1' k2' k3' k4' k5' t1' t2' h' tk9' F' N' o1' o2' o3' o4'; (try dsimp only); (try k_sweep))
    k_steps
    (exact ctor_fin hret (by with_reducible assumption) (by with_reducible assumption) (by k_mem) (by k_mem) (by k_mem) (by k_mem) (by k_mem) (by k_mem) (by repeat' (first | refine' Texts.cons ?_ | exact Texts.nil)) (by repeat' (first | refine' Texts.cons ?_ | exact Texts.nil)) (by repeat' (first | ((with_reducible show MatIn _ _ _ _); first | refine' MatIn.cons (by k_mem) ?_ ?_ | exact MatIn.nil) | ((with_reducible show Texts _ _); first | refine' Texts.cons ?_ | exact Texts.nil))) (by repeat' (first | exact sub_refl | refine sub_tail ?_)) rfl (by decide +kernel) (by decide +kernel) (by decide +kernel) (by decide +kernel) (by decide +kernel) (by first | assumption | exact allLt_of (by assumption)) (by repeat' (first | exact rising_one | refine rising_cons (by (try dsimp only); omega) ?_)))
  · have hC9 : (278 : Addr) ∈ classes := by decide
    show wpAny _ _ (call (.ref 278) []) Q E s
    k_dflt (refine call_cls (by k_asm) (by k_asm) (by k_asm) (by k_is) (by k_is) (by k_is) ?_)
    intro x' d' h' F' N' l1 l2; (try k_lt l1); (try k_lt2 l2); ks_enter
    (ks_step "execs cons"; refine ks_wpAt_execs_cons ?_); (ks_step "exec Expr"; refine ks_wpAt_Expr_any ?_); (ks_step "eval Call"; refine ks_wpAt_MethodCall ?_); (k_dflt (refine ks_node (by k_asm) (by k_asm) (by k_asm) (by k_asm) (by k_is) (by rfl) (by rfl) (by k_inst) (by k_is) (by rfl) (by first | rfl | decide +kernel) (by k_is) (by k_is) (by k_is) (by k_is) (by decide) (by rfl) (by rfl) (by rfl) (by rfl) (by decide +kernel) (by first | boot_by_name | rfl | kernel_rfl) ?_)); (intro so' h' F' N' l1; (try k_lt l1))
    (repeat' ((fail_if_success (show wpAny _ _ (call (Value.ref _) _) _ _ _)); first | walk1 | (dsimp only; walk1)))
    (k_dflt (refine call_meth (f := Value.ref 28) (by k_asm) (by k_mem) ?_)); (refine init_code (news := news) (by k_asm) (by k_asm) (by k_asm) (news_sub (by k_asm) (sub_cons (by k_mem) (sub_cons (by k_mem) (by repeat' (first | exact sub_refl | refine sub_tail ?_))))) (by k_asm) rfl rfl rfl (by k_room) (by assumption) (by first | assumption | exact allLt_of (by assumption)) (by decide) ?_); (intro pa' pb' pm' tk' k1' k2' k3' k4' k5' t1' t2' h' tk9' F' N' o1' o2' o3' o4'; (try dsimp only); (try k_sweep))
    k_steps
    (exact ctor_fin hret (by with_reducible assumption) (by with_reducible assumption) (by k_mem) (by k_mem) (by k_mem) (by k_mem) (by k_mem) (by k_mem) (by repeat' (first | refine' Texts.cons ?_ | exact Texts.nil)) (by repeat' (first | refine' Texts.cons ?_ | exact Texts.nil)) (by repeat' (first | ((with_reducible show MatIn _ _ _ _); first | refine' MatIn.cons (by k_mem) ?_ ?_ | exact MatIn.nil) | ((with_reducible show Texts _ _); first | refine' Texts.cons ?_ | exact Texts.nil))) (by repeat' (first | exact sub_refl | refine sub_tail ?_)) rfl (by decide +kernel) (by decide +kernel) (by decide +kernel) (by decide +kernel) (by decide +kernel) (by first | assumption | exact allLt_of (by assumption)) (by repeat' (first | exact rising_one | refine rising_cons (by (try dsimp only); omega) ?_)))
  · have hC9 : (299 : Addr) ∈ classes := by decide
    show wpAny _ _ (call (.ref 299) []) Q E s
    k_dflt (refine call_cls (by k_asm) (by k_asm) (by k_asm) (by k_is) (by k_is) (by k_is) ?_)
    intro x' d' h' F' N' l1 l2; (try k_lt l1); (try k_lt2 l2); ks_enter
    (ks_step "execs cons"; refine ks_wpAt_execs_cons ?_); (ks_step "exec Expr"; refine ks_wpAt_Expr_any ?_); (ks_step "eval Call"; refine ks_wpAt_MethodCall ?_); (k_dflt (refine ks_node (by k_asm) (by k_asm) (by k_asm) (by k_asm) (by k_is) (by rfl) (by rfl) (by k_inst) (by k_is) (by rfl) (by first | rfl | decide +kernel) (by k_is) (by k_is) (by k_is) (by k_is) (by decide) (by rfl) (by rfl) (by rfl) (by rfl) (by decide +kernel) (by first | boot_by_name | rfl | kernel_rfl) ?_)); (intro so' h' F' N' l1; (try k_lt l1))
    (repeat' ((fail_if_success (show wpAny _ _ (call (Value.ref _) _) _ _ _)); first | walk1 | (dsimp only; walk1)))
    (k_dflt (refine call_meth (f := Value.ref 28) (by k_asm) (by k_mem) ?_)); (refine init_code (news := news) (by k_asm) (by k_asm) (by k_asm) (news_sub (by k_asm) (sub_cons (by k_mem) (sub_cons (by k_mem) (by repeat' (first | exact sub_refl | refine sub_tail ?_))))) (by k_asm) rfl rfl rfl (by k_room) (by assumption) (by first | assumption | exact allLt_of (by assumption)) (by decide) ?_); (intro pa' pb' pm' tk' k1' k2' k3' k4' k5' t1' t2' h' tk9' F' N' o1' o2' o3' o4'; (try dsimp only); (try k_sweep))
    k_steps
    (exact ctor_fin hret (by with_reducible assumption) (by with_reducible assumption) (by k_mem) (by k_mem) (by k_mem) (by k_mem) (by k_mem) (by k_mem) (by repeat' (first | refine' Texts.cons ?_ | exact Texts.nil)) (by repeat' (first | refine' Texts.cons ?_ | exact Texts.nil)) (by repeat' (first | ((with_reducible show MatIn _ _ _ _); first | refine' MatIn.cons (by k_mem) ?_ ?_ | exact MatIn.nil) | ((with_reducible show Texts _ _); first | refine' Texts.cons ?_ | exact Texts.nil))) (by repeat' (first | exact sub_refl | refine sub_tail ?_)) rfl (by decide +kernel) (by decide +kernel) (by decide +kernel) (by decide +kernel) (by decide +kernel) (by first | assumption | exact allLt_of (by assumption)) (by repeat' (first | exact rising_one | refine rising_cons (by (try dsimp only); omega) ?_)))
  · have hC9 : (320 : Addr) ∈ classes := by decide
    show wpAny _ _ (call (.ref 320) []) Q E s
    k_dflt (refine call_cls (by k_asm) (by k_asm) (by k_asm) (by k_is) (by k_is) (by k_is) ?_)
    intro x' d' h' F' N' l1 l2; (try k_lt l1); (try k_lt2 l2); ks_enter
    (ks_step "execs cons"; refine ks_wpAt_execs_cons ?_); (ks_step "exec Expr"; refine ks_wpAt_Expr_any ?_); (ks_step "eval Call"; refine ks_wpAt_MethodCall ?_); (k_dflt (refine ks_node (by k_asm) (by k_asm) (by k_asm) (by k_asm) (by k_is) (by rfl) (by rfl) (by k_inst) (by k_is) (by rfl) (by first | rfl | decide +kernel) (by k_is) (by k_is) (by k_is) (by k_is) (by decide) (by rfl) (by rfl) (by rfl) (by rfl) (by decide +kernel) (by first | boot_by_name | rfl | kernel_rfl) ?_)); (intro so' h' F' N' l1; (try k_lt l1))
    (repeat' ((fail_if_success (show wpAny _ _ (call (Value.ref _) _) _ _ _)); first | walk1 | (dsimp only; walk1)))
    (k_dflt (refine call_meth (f := Value.ref 28) (by k_asm) (by k_mem) ?_)); (refine init_code (news := news) (by k_asm) (by k_asm) (by k_asm) (news_sub (by k_asm) (sub_cons (by k_mem) (sub_cons (by k_mem) (by repeat' (first | exact sub_refl | refine sub_tail ?_))))) (by k_asm) rfl rfl rfl (by k_room) (by assumption) (by first | assumption | exact allLt_of (by assumption)) (by decide) ?_); (intro pa' pb' pm' tk' k1' k2' k3' k4' k5' t1' t2' h' tk9' F' N' o1' o2' o3' o4'; (try dsimp only); (try k_sweep))
    k_steps
    (exact ctor_fin hret (by with_reducible assumption) (by with_reducible assumption) (by k_mem) (by k_mem) (by k_mem) (by k_mem) (by k_mem) (by k_mem) (by repeat' (first | refine' Texts.cons ?_ | exact Texts.nil)) (by repeat' (first | refine' Texts.cons ?_ | exact Texts.nil)) (by repeat' (first | ((with_reducible show MatIn _ _ _ _); first | refine' MatIn.cons (by k_mem) ?_ ?_ | exact MatIn.nil) | ((with_reducible show Texts _ _); first | refine' Texts.cons ?_ | exact Texts.nil))) (by repeat' (first | exact sub_refl | refine sub_tail ?_)) rfl (by decide +kernel) (by decide +kernel) (by decide +kernel) (by decide +kernel) (by decide +kernel) (by first | assumption | exact allLt_of (by assumption)) (by repeat' (first | exact rising_one | refine rising_cons (by (try dsimp only); omega) ?_)))
  · have hC9 : (341 : Addr) ∈ classes := by decide
    show wpAny _ _ (call (.ref 341) []) Q E s
    k_dflt (refine call_cls (by k_asm) (by k_asm) (by k_asm) (by k_is) (by k_is) (by k_is) ?_)
    intro x' d' h' F' N' l1 l2; (try k_lt l1); (try k_lt2 l2); ks_enter
    (ks_step "execs cons"; refine ks_wpAt_execs_cons ?_); (ks_step "exec Expr"; refine ks_wpAt_Expr_any ?_); (ks_step "eval Call"; refine ks_wpAt_MethodCall ?_); (k_dflt (refine ks_node (by k_asm) (by k_asm) (by k_asm) (by k_asm) (by k_is) (by rfl) (by rfl) (by k_inst) (by k_is) (by rfl) (by first | rfl | decide +kernel) (by k_is) (by k_is) (by k_is) (by k_is) (by decide) (by rfl) (by rfl) (by rfl) (by rfl) (by decide +kernel) (by first | boot_by_name | rfl | kernel_rfl) ?_)); (intro so' h' F' N' l1; (try k_lt l1))
    (repeat' ((fail_if_success (show wpAny _ _ (call (Value.ref _) _) _ _ _)); first | walk1 | (dsimp only; walk1)))
    (k_dflt (refine call_meth (f := Value.ref 28) (by k_asm) (by k_mem) ?_)); (refine init_code (news := news) (by k_asm) (by k_asm) (by k_asm) (news_sub (by k_asm) (sub_cons (by k_mem) (sub_cons (by k_mem) (by repeat' (first | exact sub_refl | refine sub_tail ?_))))) (by k_asm) rfl rfl rfl (by k_room) (by assumption) (by first | assumption | exact allLt_of (by assumption)) (by decide) ?_); (intro pa' pb' pm' tk' k1' k2' k3' k4' k5' t1' t2' h' tk9' F' N' o1' o2' o3' o4'; (try dsimp only); (try k_sweep))
    k_steps
    (exact ctor_fin hret (by with_reducible assumption) (by with_reducible assumption) (by k_mem) (by k_mem) (by k_mem) (by k_mem) (by k_mem) (by k_mem) (by repeat' (first | refine' Texts.cons ?_ | exact Texts.nil)) (by repeat' (first | refine' Texts.cons ?_ | exact Texts.nil)) (by repeat' (first | ((with_reducible show MatIn _ _ _ _); first | refine' MatIn.cons (by k_mem) ?_ ?_ | exact MatIn.nil) | ((with_reducible show Texts _ _); first | refine' Texts.cons ?_ | exact Texts.nil))) (by repeat' (first | exact sub_refl | refine sub_tail ?_)) rfl (by decide +kernel) (by decide +kernel) (by decide +kernel) (by decide +kernel) (by decide +kernel) (by first | assumption | exact allLt_of (by assumption)) (by repeat' (first | exact rising_one | refine rising_cons (by (try dsimp only); omega) ?_)))
  · have hC9 : (362 : Addr) ∈ classes := by decide
    show wpAny _ _ (call (.ref 362) []) Q E s
    k_dflt (refine call_cls (by k_asm) (by k_asm) (by k_asm) (by k_is) (by k_is) (by k_is) ?_)
    intro x' d' h' F' N' l1 l2; (try k_lt l1); (try k_lt2 l2); ks_enter
    (ks_step "execs cons"; refine ks_wpAt_execs_cons ?_); (ks_step "exec Expr"; refine ks_wpAt_Expr_any ?_); (ks_step "eval Call"; refine ks_wpAt_MethodCall ?_); (k_dflt (refine ks_node (by k_asm) (by k_asm) (by k_asm) (by k_asm) (by k_is) (by rfl) (by rfl) (by k_inst) (by k_is) (by rfl) (by first | rfl | decide +kernel) (by k_is) (by k_is) (by k_is) (by k_is) (by decide) (by rfl) (by rfl) (by rfl) (by rfl) (by decide +kernel) (by first | boot_by_name | rfl | kernel_rfl) ?_)); (intro so' h' F' N' l1; (try k_lt l1))
    (repeat' ((fail_if_success (show wpAny _ _ (call (Value.ref _) _) _ _ _)); first | walk1 | (dsimp only; walk1)))
    (k_dflt (refine call_meth (f := Value.ref 28) (by k_asm) (by k_mem) ?_)); (refine init_code (news := news) (by k_asm) (by k_asm) (by k_asm) (news_sub (by k_asm) (sub_cons (by k_mem) (sub_cons (by k_mem) (by repeat' (first | exact sub_refl | refine sub_tail ?_))))) (by k_asm) rfl rfl rfl (by k_room) (by assumption) (by first | assumption | exact allLt_of (by assumption)) (by decide) ?_); (intro pa' pb' pm' tk' k1' k2' k3' k4' k5' t1' t2' h' tk9' F' N' o1' o2' o3' o4'; (try dsimp only); (try k_sweep))
    k_steps
    (exact ctor_fin hret (by with_reducible assumption) (by with_reducible assumption) (by k_mem) (by k_mem) (by k_mem) (by k_mem) (by k_mem) (by k_mem) (by repeat' (first | refine' Texts.cons ?_ | exact Texts.nil)) (by repeat' (first | refine' Texts.cons ?_ | exact Texts.nil)) (by repeat' (first | ((with_reducible show MatIn _ _ _ _); first | refine' MatIn.cons (by k_mem) ?_ ?_ | exact MatIn.nil) | ((with_reducible show Texts _ _); first | refine' Texts.cons ?_ | exact Texts.nil))) (by repeat' (first | exact sub_refl | refine sub_tail ?_)) rfl (by decide +kernel) (by decide +kernel) (by decide +kernel) (by decide +kernel) (by decide +kernel) (by first | assumption | exact allLt_of (by assumption)) (by repeat' (first | exact rising_one | refine rising_cons (by (try dsimp only); omega) ?_)))
  · have hC9 : (383 : Addr) ∈ classes := by decide
    show wpAny _ _ (call (.ref 383) []) Q E s
    k_dflt (refine call_cls (by k_asm) (by k_asm) (by k_asm) (by k_is) (by k_is) (by k_is) ?_)
    intro x' d' h' F' N' l1 l2; (try k_lt l1); (try k_lt2 l2); ks_enter
    (ks_step "execs cons"; refine ks_wpAt_execs_cons ?_); (ks_step "exec Expr"; refine ks_wpAt_Expr_any ?_); (ks_step "eval Call"; refine ks_wpAt_MethodCall ?_); (k_dflt (refine ks_node (by k_asm) (by k_asm) (by k_asm) (by k_asm) (by k_is) (by rfl) (by rfl) (by k_inst) (by k_is) (by rfl) (by first | rfl | decide +kernel) (by k_is) (by k_is) (by k_is) (by k_is) (by decide) (by rfl) (by rfl) (by rfl) (by rfl) (by decide +kernel) (by first | boot_by_name | rfl | kernel_rfl) ?_)); (intro so' h' F' N' l1; (try k_lt l1))
    (repeat' ((fail_if_success (show wpAny _ _ (call (Value.ref _) _) _ _ _)); first | walk1 | (dsimp only; walk1)))
    (k_dflt (refine call_meth (f := Value.ref 28) (by k_asm) (by k_mem) ?_)); (refine init_code (news := news) (by k_asm) (by k_asm) (by k_asm) (news_sub (by k_asm) (sub_cons (by k_mem) (sub_cons (by k_mem) (by repeat' (first | exact sub_refl | refine sub_tail ?_))))) (by k_asm) rfl rfl rfl (by k_room) (by assumption) (by first | assumption | exact allLt_of (by assumption)) (by decide) ?_); (intro pa' pb' pm' tk' k1' k2' k3' k4' k5' t1' t2' h' tk9' F' N' o1' o2' o3' o4'; (try dsimp only); (try k_sweep))
    k_steps
    (exact ctor_fin hret (by with_reducible assumption) (by with_reducible assumption) (by k_mem) (by k_mem) (by k_mem) (by k_mem) (by k_mem) (by k_mem) (by repeat' (first | refine' Texts.cons ?_ | exact Texts.nil)) (by repeat' (first | refine' Texts.cons ?_ | exact Texts.nil)) (by repeat' (first | ((with_reducible show MatIn _ _ _ _); first | refine' MatIn.cons (by k_mem) ?_ ?_ | exact MatIn.nil) | ((with_reducible show Texts _ _); first | refine' Texts.cons ?_ | exact Texts.nil))) (by repeat' (first | exact sub_refl | refine sub_tail ?_)) rfl (by decide +kernel) (by decide +kernel) (by decide +kernel) (by decide +kernel) (by decide +kernel) (by first | assumption | exact allLt_of (by assumption)) (by repeat' (first | exact rising_one | refine rising_cons (by (try dsimp only); omega) ?_)))
  · have hC9 : (404 : Addr) ∈ classes := by decide
    show wpAny _ _ (call (.ref 404) []) Q E s
    k_dflt (refine call_cls (by k_asm) (by k_asm) (by k_asm) (by k_is) (by k_is) (by k_is) ?_)
    intro x' d' h' F' N' l1 l2; (try k_lt l1); (try k_lt2 l2); ks_enter
    (ks_step "execs cons"; refine ks_wpAt_execs_cons ?_); (ks_step "exec Expr"; refine ks_wpAt_Expr_any ?_); (ks_step "eval Call"; refine ks_wpAt_MethodCall ?_); (k_dflt (refine ks_node (by k_asm) (by k_asm) (by k_asm) (by k_asm) (by k_is) (by rfl) (by rfl) (by k_inst) (by k_is) (by rfl) (by first | rfl | decide +kernel) (by k_is) (by k_is) (by k_is) (by k_is) (by decide) (by rfl) (by rfl) (by rfl) (by rfl) (by decide +kernel) (by first | boot_by_name | rfl | kernel_rfl) ?_)); (intro so' h' F' N' l1; (try k_lt l1))
    (repeat' ((fail_if_success (show wpAny _ _ (call (Value.ref _) _) _ _ _)); first | walk1 | (dsimp only; walk1)))
    (k_dflt (refine call_meth (f := Value.ref 28) (by k_asm) (by k_mem) ?_)); (refine init_code (news := news) (by k_asm) (by k_asm) (by k_asm) (news_sub (by k_asm) (sub_cons (by k_mem) (sub_cons (by k_mem) (by repeat' (first | exact sub_refl | refine sub_tail ?_))))) (by k_asm) rfl rfl rfl (by k_room) (by assumption) (by first | assumption | exact allLt_of (by assumption)) (by decide) ?_); (intro pa' pb' pm' tk' k1' k2' k3' k4' k5' t1' t2' h' tk9' F' N' o1' o2' o3' o4'; (try dsimp only); (try k_sweep))
    k_steps
    (exact ctor_fin hret (by with_reducible assumption) (by with_reducible assumption) (by k_mem) (by k_mem) (by k_mem) (by k_mem) (by k_mem) (by k_mem) (by repeat' (first | refine' Texts.cons ?_ | exact Texts.nil)) (by repeat' (first | refine' Texts.cons ?_ | exact Texts.nil)) (by repeat' (first | ((with_reducible show MatIn _ _ _ _); first | refine' MatIn.cons (by k_mem) ?_ ?_ | exact MatIn.nil) | ((with_reducible show Texts _ _); first | refine' Texts.cons ?_ | exact Texts.nil))) (by repeat' (first | exact sub_refl | refine sub_tail ?_)) rfl (by decide +kernel) (by decide +kernel) (by decide +kernel) (by decide +kernel) (by decide +kernel) (by first | assumption | exact allLt_of (by assumption)) (by repeat' (first | exact rising_one | refine rising_cons (by (try dsimp only); omega) ?_)))
theorem ctor_one {i : Nat} (hi : i ∈ [0, 1, 2])
    (B : Below (callerA.deeper e1) base [e1] h₀) (F : Fr h₀ L s.heap m) (X : (hd.heap_39 w.params).In h₀) (N : News h₀ L s.heap news) (T : Top p loose mean mg mb h₀)
    (hret : ∀ x d pm pa pb tk va vb refs cells cp ca cb ct k1 k2 k3 k4 k5 t1 t2 h' tk', Fr h₀ L h' m →
      News h₀ L h' ((x, instObj (110 + 21 * i) d) :: (d, dictOf (pdict w.params k1 k2 k3 k4 k5 t1 t2 pm tk (nameOf i) (wayOf i) 0) 5) :: (pm, listOf #[.ref pa, .ref pb] cp) :: (pa, listOf va ca) :: (pb, listOf vb cb) :: (tk, listOf refs ct) :: (cells ++ news)) →
      Texts va.toList (aheadA (fOf i)) → Texts vb.toList (aheadB (gOf i) (wayOf i)) → Mat refs.toList (rowsOf i) cells → AllLt d news → Rising (d :: x :: pa :: pb :: pm :: (cells.map (·.1) ++ [tk])) → Q (.ref x) { s with heap := h', toks := tk' }) :
    wpAny (model lawProg w) ((callerA.deeper e1).deeper (envOf cn (cScope nm mo) L a ccd)) (call (.ref (110 + 21 * i)) []) Q E s := by
  simp only [List.mem_cons, List.not_mem_nil, or_false] at hi
  rcases hi with rfl | rfl | rfl
  · have hC9 : (110 : Addr) ∈ classes := by decide
    show wpAny _ _ (call (.ref 110) []) Q E s
    k_dflt (refine call_cls (by k_asm) (by k_asm) (by k_asm) (by k_is) (by k_is) (by k_is) ?_)
    intro x' d' h' F' N' l1 l2; (try k_lt l1); (try k_lt2 l2); ks_enter
    (ks_step "execs cons"; refine ks_wpAt_execs_cons ?_); (ks_step "exec Expr"; refine ks_wpAt_Expr_any ?_); (ks_step "eval Call"; refine ks_wpAt_MethodCall ?_); (k_dflt (refine ks_node (by k_asm) (by k_asm) (by k_asm) (by k_asm) (by k_is) (by rfl) (by rfl) (by k_inst) (by k_is) (by rfl) (by first | rfl | decide +kernel) (by k_is) (by k_is) (by k_is) (by k_is) (by decide) (by rfl) (by rfl) (by rfl) (by rfl) (by decide +kernel) (by first | boot_by_name | rfl | kernel_rfl) ?_)); (intro so' h' F' N' l1; (try k_lt l1))
    (repeat' ((fail_if_success (show wpAny _ _ (call (Value.ref _) _) _ _ _)); first | walk1 | (dsimp only; walk1)))
    (k_dflt (refine call_meth (f := Value.ref 86) (by k_asm) (by k_mem) ?_)); ks_enter
    (ks_step "execs cons"; refine ks_wpAt_execs_cons ?_); (ks_step "exec Expr"; refine ks_wpAt_Expr_any ?_); (ks_step "eval Call"; refine ks_wpAt_MethodCall ?_); (k_dflt (refine ks_node (by k_asm) (by k_asm) (by k_asm) (by k_asm) (by k_is) (by rfl) (by rfl) (by k_inst) (by k_is) (by rfl) (by first | rfl | decide +kernel) (by k_is) (by k_is) (by k_is) (by k_is) (by decide) (by rfl) (by rfl) (by rfl) (by rfl) (by decide +kernel) (by first | boot_by_name | rfl | kernel_rfl) ?_)); (intro so' h' F' N' l1; (try k_lt l1))
    (repeat' ((fail_if_success (show wpAny _ _ (call (Value.ref _) _) _ _ _)); first | walk1 | (dsimp only; walk1)))
    (k_dflt (refine call_meth (f := Value.ref 28) (by k_asm) (by k_mem) ?_)); (refine init_code (news := news) (by k_asm) (by k_asm) (by k_asm) (news_sub (by k_asm) (sub_cons (by k_mem) (sub_cons (by k_mem) (by repeat' (first | exact sub_refl | refine sub_tail ?_))))) (by k_asm) rfl rfl rfl (by k_room) (by assumption) (by first | assumption | exact allLt_of (by assumption)) (by decide) ?_); (intro pa' pb' pm' tk' k1' k2' k3' k4' k5' t1' t2' h' tk9' F' N' o1' o2' o3' o4'; (try dsimp only); (try k_sweep))
    k_steps
    (exact ctor_fin hret (by with_reducible assumption) (by with_reducible assumption) (by k_mem) (by k_mem) (by k_mem) (by k_mem) (by k_mem) (by k_mem) (by repeat' (first | refine' Texts.cons ?_ | exact Texts.nil)) (by repeat' (first | refine' Texts.cons ?_ | exact Texts.nil)) (by repeat' (first | ((with_reducible show MatIn _ _ _ _); first | refine' MatIn.cons (by k_mem) ?_ ?_ | exact MatIn.nil) | ((with_reducible show Texts _ _); first | refine' Texts.cons ?_ | exact Texts.nil))) (by repeat' (first | exact sub_refl | refine sub_tail ?_)) rfl (by decide +kernel) (by decide +kernel) (by decide +kernel) (by decide +kernel) (by decide +kernel) (by first | assumption | exact allLt_of (by assumption)) (by repeat' (first | exact rising_one | refine rising_cons (by (try dsimp only); omega) ?_)))
  · have hC9 : (131 : Addr) ∈ classes := by decide
    show wpAny _ _ (call (.ref 131) []) Q E s
    k_dflt (refine call_cls (by k_asm) (by k_asm) (by k_asm) (by k_is) (by k_is) (by k_is) ?_)
    intro x' d' h' F' N' l1 l2; (try k_lt l1); (try k_lt2 l2); ks_enter
    (ks_step "execs cons"; refine ks_wpAt_execs_cons ?_); (ks_step "exec Expr"; refine ks_wpAt_Expr_any ?_); (ks_step "eval Call"; refine ks_wpAt_MethodCall ?_); (k_dflt (refine ks_node (by k_asm) (by k_asm) (by k_asm) (by k_asm) (by k_is) (by rfl) (by rfl) (by k_inst) (by k_is) (by rfl) (by first | rfl | decide +kernel) (by k_is) (by k_is) (by k_is) (by k_is) (by decide) (by rfl) (by rfl) (by rfl) (by rfl) (by decide +kernel) (by first | boot_by_name | rfl | kernel_rfl) ?_)); (intro so' h' F' N' l1; (try k_lt l1))
    (repeat' ((fail_if_success (show wpAny _ _ (call (Value.ref _) _) _ _ _)); first | walk1 | (dsimp only; walk1)))
    (k_dflt (refine call_meth (f := Value.ref 86) (by k_asm) (by k_mem) ?_)); ks_enter
    (ks_step "execs cons"; refine ks_wpAt_execs_cons ?_); (ks_step "exec Expr"; refine ks_wpAt_Expr_any ?_); (ks_step "eval Call"; refine ks_wpAt_MethodCall ?_); (k_dflt (refine ks_node (by k_asm) (by k_asm) (by k_asm) (by k_asm) (by k_is) (by rfl) (by rfl) (by k_inst) (by k_is) (by rfl) (by first | rfl | decide +kernel) (by k_is) (by k_is) (by k_is) (by k_is) (by decide) (by rfl) (by rfl) (by rfl) (by rfl) (by decide +kernel) (by first | boot_by_name | rfl | kernel_rfl) ?_)); (intro so' h' F' N' l1; (try k_lt l1))
    (repeat' ((fail_if_success (show wpAny _ _ (call (Value.ref _) _) _ _ _)); first | walk1 | (dsimp only; walk1)))
    (k_dflt (refine call_meth (f := Value.ref 28) (by k_asm) (by k_mem) ?_)); (refine init_code (news := news) (by k_asm) (by k_asm) (by k_asm) (news_sub (by k_asm) (sub_cons (by k_mem) (sub_cons (by k_mem) (by repeat' (first | exact sub_refl | refine sub_tail ?_))))) (by k_asm) rfl rfl rfl (by k_room) (by assumption) (by first | assumption | exact allLt_of (by assumption)) (by decide) ?_); (intro pa' pb' pm' tk' k1' k2' k3' k4' k5' t1' t2' h' tk9' F' N' o1' o2' o3' o4'; (try dsimp only); (try k_sweep))
    k_steps
    (exact ctor_fin hret (by with_reducible assumption) (by with_reducible assumption) (by k_mem) (by k_mem) (by k_mem) (by k_mem) (by k_mem) (by k_mem) (by repeat' (first | refine' Texts.cons ?_ | exact Texts.nil)) (by repeat' (first | refine' Texts.cons ?_ | exact Texts.nil)) (by repeat' (first | ((with_reducible show MatIn _ _ _ _); first | refine' MatIn.cons (by k_mem) ?_ ?_ | exact MatIn.nil) | ((with_reducible show Texts _ _); first | refine' Texts.cons ?_ | exact Texts.nil))) (by repeat' (first | exact sub_refl | refine sub_tail ?_)) rfl (by decide +kernel) (by decide +kernel) (by decide +kernel) (by decide +kernel) (by decide +kernel) (by first | assumption | exact allLt_of (by assumption)) (by repeat' (first | exact rising_one | refine rising_cons (by (try dsimp only); omega) ?_)))
  · have hC9 : (152 : Addr) ∈ classes := by decide
    show wpAny _ _ (call (.ref 152) []) Q E s
    k_dflt (refine call_cls (by k_asm) (by k_asm) (by k_asm) (by k_is) (by k_is) (by k_is) ?_)
    intro x' d' h' F' N' l1 l2; (try k_lt l1); (try k_lt2 l2); ks_enter
    (ks_step "execs cons"; refine ks_wpAt_execs_cons ?_); (ks_step "exec Expr"; refine ks_wpAt_Expr_any ?_); (ks_step "eval Call"; refine ks_wpAt_MethodCall ?_); (k_dflt (refine ks_node (by k_asm) (by k_asm) (by k_asm) (by k_asm) (by k_is) (by rfl) (by rfl) (by k_inst) (by k_is) (by rfl) (by first | rfl | decide +kernel) (by k_is) (by k_is) (by k_is) (by k_is) (by decide) (by rfl) (by rfl) (by rfl) (by rfl) (by decide +kernel) (by first | boot_by_name | rfl | kernel_rfl) ?_)); (intro so' h' F' N' l1; (try k_lt l1))
    (repeat' ((fail_if_success (show wpAny _ _ (call (Value.ref _) _) _ _ _)); first | walk1 | (dsimp only; walk1)))
    (k_dflt (refine call_meth (f := Value.ref 86) (by k_asm) (by k_mem) ?_)); ks_enter
    (ks_step "execs cons"; refine ks_wpAt_execs_cons ?_); (ks_step "exec Expr"; refine ks_wpAt_Expr_any ?_); (ks_step "eval Call"; refine ks_wpAt_MethodCall ?_); (k_dflt (refine ks_node (by k_asm) (by k_asm) (by k_asm) (by k_asm) (by k_is) (by rfl) (by rfl) (by k_inst) (by k_is) (by rfl) (by first | rfl | decide +kernel) (by k_is) (by k_is) (by k_is) (by k_is) (by decide) (by rfl) (by rfl) (by rfl) (by rfl) (by decide +kernel) (by first | boot_by_name | rfl | kernel_rfl) ?_)); (intro so' h' F' N' l1; (try k_lt l1))
    (repeat' ((fail_if_success (show wpAny _ _ (call (Value.ref _) _) _ _ _)); first | walk1 | (dsimp only; walk1)))
    (k_dflt (refine call_meth (f := Value.ref 28) (by k_asm) (by k_mem) ?_)); (refine init_code (news := news) (by k_asm) (by k_asm) (by k_asm) (news_sub (by k_asm) (sub_cons (by k_mem) (sub_cons (by k_mem) (by repeat' (first | exact sub_refl | refine sub_tail ?_))))) (by k_asm) rfl rfl rfl (by k_room) (by assumption) (by first | assumption | exact allLt_of (by assumption)) (by decide) ?_); (intro pa' pb' pm' tk' k1' k2' k3' k4' k5' t1' t2' h' tk9' F' N' o1' o2' o3' o4'; (try dsimp only); (try k_sweep))
    k_steps
    (exact ctor_fin hret (by with_reducible assumption) (by with_reducible assumption) (by k_mem) (by k_mem) (by k_mem) (by k_mem) (by k_mem) (by k_mem) (by repeat' (first | refine' Texts.cons ?_ | exact Texts.nil)) (by repeat' (first | refine' Texts.cons ?_ | exact Texts.nil)) (by repeat' (first | ((with_reducible show MatIn _ _ _ _); first | refine' MatIn.cons (by k_mem) ?_ ?_ | exact MatIn.nil) | ((with_reducible show Texts _ _); first | refine' Texts.cons ?_ | exact Texts.nil))) (by repeat' (first | exact sub_refl | refine sub_tail ?_)) rfl (by decide +kernel) (by decide +kernel) (by decide +kernel) (by decide +kernel) (by decide +kernel) (by first | assumption | exact allLt_of (by assumption)) (by repeat' (first | exact rising_one | refine rising_cons (by (try dsimp only); omega) ?_)))
end
end
-- part PatP
section
example : True := by
  w_top off
  trivial
section
variable {w : World} {p : Program} {loose : List Str} {mean : ExcName → Option Value} {mg mb : Str → Option Value}
    {base h₀ : Heap} {L a : Addr} {m : Str → Option Value} {news : List (Addr × Obj)} {s : Shared} {Q : Value → Shared → Prop} {E : Value → Shared → Prop}
    {cn : Str} {cs : Scope} {ccd : Value} {t1 : Tok}
theorem sub_both {x : Addr × Obj} {l l' : List (Addr × Obj)} (h : ∀ p ∈ l, p ∈ l') : ∀ p ∈ x :: l, p ∈ x :: l' := fun p hp => by
  rcases List.mem_cons.mp hp with rfl | hp
  · exact .head _
  · exact .tail _ (h p hp)
theorem sub_mid {x : Addr × Obj} {a l : List (Addr × Obj)} : ∀ p ∈ a ++ l, p ∈ a ++ x :: l := fun p hp => by
  rcases List.mem_append.mp hp with hp | hp
  · exact List.mem_append.mpr (.inl hp)
  · exact List.mem_append.mpr (.inr (.tail _ hp))
theorem pattern_c {j : Int} {i : Nat} (h0 : 0 ≤ j) (h15 : j < 15) (hj : i = j.toNat)
    (B : Below callerA base [] h₀) (hk : cs.kind = .function) (F : Fr h₀ L s.heap m) (X : (hd.heap_39 w.params).In h₀) (N : News h₀ L s.heap news) (T : Top p loose mean mg mb h₀)
    (hret : ∀ x d pm pa pb tk va vb refs cells cp ca cb ct k1 k2 k3 k4 k5 t1 t2 h' tk', Fr h₀ L h' m →
      News h₀ L h' ((x, instObj (110 + 21 * i) d) :: (d, dictOf (pdict w.params k1 k2 k3 k4 k5 t1 t2 pm tk (nameOf i) (wayOf i) 0) 5) :: (pm, listOf #[.ref pa, .ref pb] cp) :: (pa, listOf va ca) :: (pb, listOf vb cb) :: (tk, listOf refs ct) :: (cells ++ news)) →
      Texts va.toList (aheadA (fOf i)) → Texts vb.toList (aheadB (gOf i) (wayOf i)) → Mat refs.toList (rowsOf i) cells → AllLt d news → Rising (d :: x :: pa :: pb :: pm :: (cells.map (·.1) ++ [tk])) → Q (.ref x) { s with heap := h', toks := tk' }) :
    wpAny (model lawProg w) (callerA.deeper (envOf cn cs L a ccd)) (call (.ref 413) [.int j t1]) Q E s := by
  subst hj
  refine wpAny_call ?_
  k_dflt cell_enter
  k_steps
  · have c : j = 0 ∨ j = 1 ∨ j = 2 ∨ j = 3 ∨ j = 4 := by omega
    rcases c with rfl | rfl | rfl | rfl | rfl <;> (repeat' ((fail_if_success (with_reducible show wpAny _ _ (call (Value.ref _) _) _ _ _)); first | (k_unfold; (try dsimp only)) | (k_end; wrow_close) | walk1 | (dsimp only; walk1) | (leave1; walk_say "STEP leave1"; try dsimp only) | fail "no step"))
    all_goals (k_dflt (first | ((with_reducible show wpAny _ _ (call (Value.ref 110) _) _ _ _); refine ctor_one (i := 0) (by decide) (by k_asm) (by k_asm) (by k_asm) (by k_asm) (by k_asm) ?_) | ((with_reducible show wpAny _ _ (call (Value.ref 131) _) _ _ _); refine ctor_one (i := 1) (by decide) (by k_asm) (by k_asm) (by k_asm) (by k_asm) (by k_asm) ?_) | ((with_reducible show wpAny _ _ (call (Value.ref 152) _) _ _ _); refine ctor_one (i := 2) (by decide) (by k_asm) (by k_asm) (by k_asm) (by k_asm) (by k_asm) ?_) | ((with_reducible show wpAny _ _ (call (Value.ref 173) _) _ _ _); refine ctor_two (i := 3) (by decide) (by k_asm) (by k_asm) (by k_asm) (by k_asm) (by k_asm) ?_) | ((with_reducible show wpAny _ _ (call (Value.ref 194) _) _ _ _); refine ctor_two (i := 4) (by decide) (by k_asm) (by k_asm) (by k_asm) (by k_asm) (by k_asm) ?_) | ((with_reducible show wpAny _ _ (call (Value.ref 215) _) _ _ _); refine ctor_two (i := 5) (by decide) (by k_asm) (by k_asm) (by k_asm) (by k_asm) (by k_asm) ?_) | ((with_reducible show wpAny _ _ (call (Value.ref 236) _) _ _ _); refine ctor_two (i := 6) (by decide) (by k_asm) (by k_asm) (by k_asm) (by k_asm) (by k_asm) ?_) | ((with_reducible show wpAny _ _ (call (Value.ref 257) _) _ _ _); refine ctor_two (i := 7) (by decide) (by k_asm) (by k_asm) (by k_asm) (by k_asm) (by k_asm) ?_) | ((with_reducible show wpAny _ _ (call (Value.ref 278) _) _ _ _); refine ctor_two (i := 8) (by decide) (by k_asm) (by k_asm) (by k_asm) (by k_asm) (by k_asm) ?_) | ((with_reducible show wpAny _ _ (call (Value.ref 299) _) _ _ _); refine ctor_two (i := 9) (by decide) (by k_asm) (by k_asm) (by k_asm) (by k_asm) (by k_asm) ?_) | ((with_reducible show wpAny _ _ (call (Value.ref 320) _) _ _ _); refine ctor_two (i := 10) (by decide) (by k_asm) (by k_asm) (by k_asm) (by k_asm) (by k_asm) ?_) | ((with_reducible show wpAny _ _ (call (Value.ref 341) _) _ _ _); refine ctor_two (i := 11) (by decide) (by k_asm) (by k_asm) (by k_asm) (by k_asm) (by k_asm) ?_) | ((with_reducible show wpAny _ _ (call (Value.ref 362) _) _ _ _); refine ctor_two (i := 12) (by decide) (by k_asm) (by k_asm) (by k_asm) (by k_asm) (by k_asm) ?_) | ((with_reducible show wpAny _ _ (call (Value.ref 383) _) _ _ _); refine ctor_two (i := 13) (by decide) (by k_asm) (by k_asm) (by k_asm) (by k_asm) (by k_asm) ?_) | ((with_reducible show wpAny _ _ (call (Value.ref 404) _) _ _ _); refine ctor_two (i := 14) (by decide) (by k_asm) (by k_asm) (by k_asm) (by k_asm) (by k_asm) ?_) ); intro x' d' pm' pa' pb' tk' va' vb' refs' cells' cp' ca' cb' ct' k1' k2' k3' k4' k5' u1' u2' h' tk9' F' N' ta' tb' M' lt' ri'; (try dsimp only); (try k_sweep))
    all_goals k_steps
    all_goals exact hret _ _ _ _ _ _ _ _ _ _ _ _ _ _ _ _ _ _ _ _ _ _ _ (by assumption) (news_sub (by assumption) (sub_both (sub_both (sub_both (sub_both (sub_both (sub_both sub_mid))))))) (by assumption) (by assumption) (by assumption) (And.right (a := @LT.lt Nat _ _ _) (by assumption)) (by assumption)
  · have c : j = 5 ∨ j = 6 ∨ j = 7 ∨ j = 8 ∨ j = 9 := by omega
    rcases c with rfl | rfl | rfl | rfl | rfl <;> (repeat' ((fail_if_success (with_reducible show wpAny _ _ (call (Value.ref _) _) _ _ _)); first | (k_unfold; (try dsimp only)) | (k_end; wrow_close) | walk1 | (dsimp only; walk1) | (leave1; walk_say "STEP leave1"; try dsimp only) | fail "no step"))
    all_goals (k_dflt (first | ((with_reducible show wpAny _ _ (call (Value.ref 110) _) _ _ _); refine ctor_one (i := 0) (by decide) (by k_asm) (by k_asm) (by k_asm) (by k_asm) (by k_asm) ?_) | ((with_reducible show wpAny _ _ (call (Value.ref 131) _) _ _ _); refine ctor_one (i := 1) (by decide) (by k_asm) (by k_asm) (by k_asm) (by k_asm) (by k_asm) ?_) | ((with_reducible show wpAny _ _ (call (Value.ref 152) _) _ _ _); refine ctor_one (i := 2) (by decide) (by k_asm) (by k_asm) (by k_asm) (by k_asm) (by k_asm) ?_) | ((with_reducible show wpAny _ _ (call (Value.ref 173) _) _ _ _); refine ctor_two (i := 3) (by decide) (by k_asm) (by k_asm) (by k_asm) (by k_asm) (by k_asm) ?_) | ((with_reducible show wpAny _ _ (call (Value.ref 194) _) _ _ _); refine ctor_two (i := 4) (by decide) (by k_asm) (by k_asm) (by k_asm) (by k_asm) (by k_asm) ?_) | ((with_reducible show wpAny _ _ (call (Value.ref 215) _) _ _ _); refine ctor_two (i := 5) (by decide) (by k_asm) (by k_asm) (by k_asm) (by k_asm) (by k_asm) ?_) | ((with_reducible show wpAny _ _ (call (Value.ref 236) _) _ _ _); refine ctor_two (i := 6) (by decide) (by k_asm) (by k_asm) (by k_asm) (by k_asm) (by k_asm) ?_) | ((with_reducible show wpAny _ _ (call (Value.ref 257) _) _ _ _); refine ctor_two (i := 7) (by decide) (by k_asm) (by k_asm) (by k_asm) (by k_asm) (by k_asm) ?_) | ((with_reducible show wpAny _ _ (call (Value.ref 278) _) _ _ _); refine ctor_two (i := 8) (by decide) (by k_asm) (by k_asm) (by k_asm) (by k_asm) (by k_asm) ?_) | ((with_reducible show wpAny _ _ (call (Value.ref 299) _) _ _ _); refine ctor_two (i := 9) (by decide) (by k_asm) (by k_asm) (by k_asm) (by k_asm) (by k_asm) ?_) | ((with_reducible show wpAny _ _ (call (Value.ref 320) _) _ _ _); refine ctor_two (i := 10) (by decide) (by k_asm) (by k_asm) (by k_asm) (by k_asm) (by k_asm) ?_) | ((with_reducible show wpAny _ _ (call (Value.ref 341) _) _ _ _); refine ctor_two (i := 11) (by decide) (by k_asm) (by k_asm) (by k_asm) (by k_asm) (by k_asm) ?_) | ((with_reducible show wpAny _ _ (call (Value.ref 362) _) _ _ _); refine ctor_two (i := 12) (by decide) (by k_asm) (by k_asm) (by k_asm) (by k_asm) (by k_asm) ?_) | ((with_reducible show wpAny _ _ (call (Value.ref 383) _) _ _ _); refine ctor_two (i := 13) (by decide) (by k_asm) (by k_asm) (by k_asm) (by k_asm) (by k_asm) ?_) | ((with_reducible show wpAny _ _ (call (Value.ref 404) _) _ _ _); refine ctor_two (i := 14) (by decide) (by k_asm) (by k_asm) (by k_asm) (by k_asm) (by k_asm) ?_) ); intro x' d' pm' pa' pb' tk' va' vb' refs' cells' cp' ca' cb' ct' k1' k2' k3' k4' k5' u1' u2' h' tk9' F' N' ta' tb' M' lt' ri'; (try dsimp only); (try k_sweep))
    all_goals k_steps
    all_goals exact hret _ _ _ _ _ _ _ _ _ _ _ _ _ _ _ _ _ _ _ _ _ _ _ (by assumption) (news_sub (by assumption) (sub_both (sub_both (sub_both (sub_both (sub_both (sub_both sub_mid))))))) (by assumption) (by assumption) (by assumption) (And.right (a := @LT.lt Nat _ _ _) (by assumption)) (by assumption)
  · have c : j = 10 ∨ j = 11 ∨ j = 12 ∨ j = 13 ∨ j = 14 := by omega
    rcases c with rfl | rfl | rfl | rfl | rfl <;> (repeat' ((fail_if_success (with_reducible show wpAny _ _ (call (Value.ref _) _) _ _ _)); first | (k_unfold; (try dsimp only)) | (k_end; wrow_close) | walk1 | (dsimp only; walk1) | (leave1; walk_say "STEP leave1"; try dsimp only) | fail "no step"))
    all_goals (k_dflt (first | ((with_reducible show wpAny _ _ (call (Value.ref 110) _) _ _ _); refine ctor_one (i := 0) (by decide) (by k_asm) (by k_asm) (by k_asm) (by k_asm) (by k_asm) ?_) | ((with_reducible show wpAny _ _ (call (Value.ref 131) _) _ _ _); refine ctor_one (i := 1) (by decide) (by k_asm) (by k_asm) (by k_asm) (by k_asm) (by k_asm) ?_) | ((with_reducible show wpAny _ _ (call (Value.ref 152) _) _ _ _); refine ctor_one (i := 2) (by decide) (by k_asm) (by k_asm) (by k_asm) (by k_asm) (by k_asm) ?_) | ((with_reducible show wpAny _ _ (call (Value.ref 173) _) _ _ _); refine ctor_two (i := 3) (by decide) (by k_asm) (by k_asm) (by k_asm) (by k_asm) (by k_asm) ?_) | ((with_reducible show wpAny _ _ (call (Value.ref 194) _) _ _ _); refine ctor_two (i := 4) (by decide) (by k_asm) (by k_asm) (by k_asm) (by k_asm) (by k_asm) ?_) | ((with_reducible show wpAny _ _ (call (Value.ref 215) _) _ _ _); refine ctor_two (i := 5) (by decide) (by k_asm) (by k_asm) (by k_asm) (by k_asm) (by k_asm) ?_) | ((with_reducible show wpAny _ _ (call (Value.ref 236) _) _ _ _); refine ctor_two (i := 6) (by decide) (by k_asm) (by k_asm) (by k_asm) (by k_asm) (by k_asm) ?_) | ((with_reducible show wpAny _ _ (call (Value.ref 257) _) _ _ _); refine ctor_two (i := 7) (by decide) (by k_asm) (by k_asm) (by k_asm) (by k_asm) (by k_asm) ?_) | ((with_reducible show wpAny _ _ (call (Value.ref 278) _) _ _ _); refine ctor_two (i := 8) (by decide) (by k_asm) (by k_asm) (by k_asm) (by k_asm) (by k_asm) ?_) | ((with_reducible show wpAny _ _ (call (Value.ref 299) _) _ _ _); refine ctor_two (i := 9) (by decide) (by k_asm) (by k_asm) (by k_asm) (by k_asm) (by k_asm) ?_) | ((with_reducible show wpAny _ _ (call (Value.ref 320) _) _ _ _); refine ctor_two (i := 10) (by decide) (by k_asm) (by k_asm) (by k_asm) (by k_asm) (by k_asm) ?_) | ((with_reducible show wpAny _ _ (call (Value.ref 341) _) _ _ _); refine ctor_two (i := 11) (by decide) (by k_asm) (by k_asm) (by k_asm) (by k_asm) (by k_asm) ?_) | ((with_reducible show wpAny _ _ (call (Value.ref 362) _) _ _ _); refine ctor_two (i := 12) (by decide) (by k_asm) (by k_asm) (by k_asm) (by k_asm) (by k_asm) ?_) | ((with_reducible show wpAny _ _ (call (Value.ref 383) _) _ _ _); refine ctor_two (i := 13) (by decide) (by k_asm) (by k_asm) (by k_asm) (by k_asm) (by k_asm) ?_) | ((with_reducible show wpAny _ _ (call (Value.ref 404) _) _ _ _); refine ctor_two (i := 14) (by decide) (by k_asm) (by k_asm) (by k_asm) (by k_asm) (by k_asm) ?_) ); intro x' d' pm' pa' pb' tk' va' vb' refs' cells' cp' ca' cb' ct' k1' k2' k3' k4' k5' u1' u2' h' tk9' F' N' ta' tb' M' lt' ri'; (try dsimp only); (try k_sweep))
    all_goals k_steps
    all_goals exact hret _ _ _ _ _ _ _ _ _ _ _ _ _ _ _ _ _ _ _ _ _ _ _ (by assumption) (news_sub (by assumption) (sub_both (sub_both (sub_both (sub_both (sub_both (sub_both sub_mid))))))) (by assumption) (by assumption) (by assumption) (And.right (a := @LT.lt Nat _ _ _) (by assumption)) (by assumption)
end
end
-- part JMap
section
theorem mro_map : mroOf (.type "map") = pure [.type "map", .type "object"] := by rw [mroOf_type]; kernel_rfl
theorem lookup_map_new : typeLookup (.type "map") "__new__" = pure (some (.builtin "map.__new__")) := by rw [typeLookup_type, builtinLookup_eq_fast]; kernel_rfl
theorem slot_map_init : Slot "map" "__init__" "object.__init__" :=
  .of (owner := "object") (n := "__init__") (by rw [typeLookup_type, builtinLookup_eq_fast]; kernel_rfl) (by decide +kernel) (by decide +kernel) (by decide +kernel)
    (by first | exact .inl (by decide +kernel) | exact .inr (by decide +kernel)) (by rw [isSubtype_type]; kernel_rfl)
theorem slot_map_iter : Slot "map" "__iter__" "map.__iter__" :=
  .of (owner := "map") (n := "__iter__") (by rw [typeLookup_type, builtinLookup_eq_fast]; kernel_rfl) (by decide +kernel) (by decide +kernel) (by decide +kernel)
    (by first | exact .inl (by decide +kernel) | exact .inr (by decide +kernel)) (by rw [isSubtype_type]; kernel_rfl)
theorem slot_map_next : Slot "map" "__next__" "map.__next__" :=
  .of (owner := "map") (n := "__next__") (by rw [typeLookup_type, builtinLookup_eq_fast]; kernel_rfl) (by decide +kernel) (by decide +kernel) (by decide +kernel)
    (by first | exact .inl (by decide +kernel) | exact .inr (by decide +kernel)) (by rw [isSubtype_type]; kernel_rfl)
theorem called_map : TypeCalled "map" "map.__new__" "object.__init__" :=
  ⟨by decide +kernel, by decide +kernel, ⟨_, _, mro_map⟩, PySem.madeBy_type mro_map lookup_map_new (by decide +kernel), by decide +kernel, by rw [isSubtype_type]; kernel_rfl, slot_map_init⟩
theorem typeCall_map_2 (a b : Value) : checkTypeCall "map" ⟨[a, b], []⟩ = pure () := by kernel_rfl
theorem newCall_map_2 (a b : Value) : checkBuiltinCall "map.__new__" ⟨[.type "map", a, b], []⟩ = pure () := by kernel_rfl
theorem entry_map_new : entryFor table "map.__new__" = some Builtin.«map.__new__» := entryFor_of_tree (by kernel_rfl)
theorem entry_map_next : entryFor table "map.__next__" = some Builtin.«map.__next__» := entryFor_of_tree (by kernel_rfl)
theorem entry_map_iter : entryFor table "map.__iter__" = some Builtin.«dict_keyiterator.__iter__» :=
  entryFor_alias (id' := "dict_keyiterator.__iter__") (by kernel_rfl) (by first | rfl | decide +kernel | (unfold String.splitOn; simp +decide [String.splitOnAux])) (by decide +kernel) (by kernel_rfl)
theorem owner_map : Manifest.owners.lookup (String.ofList ['p', 'a', 'm'].reverse) = some Manifest.sig_map := by kernel_rfl
theorem args_map_iter_1 (a : Value) : argsOk "map.__iter__" ⟨[a], []⟩ := by
  unfold argsOk; rw [signature?_of (id := "map.__iter__") (n := ['_', '_', 'r', 'e', 't', 'i', '_', '_']) (o := ['p', 'a', 'm']) (by kernel_rfl) owner_map]; kernel_rfl
theorem args_map_next_1 (a : Value) : argsOk "map.__next__" ⟨[a], []⟩ := by
  unfold argsOk; rw [signature?_of (id := "map.__next__") (n := ['_', '_', 't', 'x', 'e', 'n', '_', '_']) (o := ['p', 'a', 'm']) (by kernel_rfl) owner_map]; kernel_rfl
theorem sub_map : isSubtype (.type "map") (.type "map") = pure true := by rw [isSubtype_type]; kernel_rfl

noncomputable abbrev mapObj (T : Addr) (f : Value) : Obj := { cls := .type "map", dict := none, data := .fields #[.ref T, f], slots := #[] }
noncomputable abbrev oneObj (I : Addr) : Obj := { cls := .type "tuple", data := .seq #[.ref I] }
open AutoSeq1 (wpAny_loadPart') in
theorem meets_map_new (f : Value) (l : Addr) (items : Array Value) (n : Nat) :
    Meets (Builtin.«map.__new__» ⟨[.type "map", f, .ref l], []⟩) (fun _ R s => s.heap.get? l = some { cls := .type "list", dict := none, data := .seq items n, slots := #[] } ∧
      R (.ok (.ret (.ref (s.heap.objs.size + 2))))
        { s with heap := ((s.heap.push { cls := .type "list_iterator", data := .fields #[.ref l, .int 0 0] }).push (oneObj s.heap.objs.size)).push (mapObj (s.heap.objs.size + 1) f) }) :=
  .of_wp fun prog w A R s h => by
    obtain ⟨hp, g, d, tk, os⟩ := s; obtain ⟨hl, h⟩ := h
    have hsub := sub_map
    have hL : Heap.IsList (Shared.heap ⟨hp, g, d, tk, os⟩) l items := ⟨_, hl, rfl, n, rfl⟩
    wp_walk using wpAny_loadPart' hl, wpAny_pyIter_list hL
    refine ⟨_, rfl, ?_⟩
    simp only [Heap.size_push] at h ⊢
    exact h
section
variable {prog : Program} {w : World} {A : Around} {E : Value → Shared → Prop} {s : Shared}
theorem call_map {f : Value} {l : Addr} {items : Array Value} {n : Nat} {Q : Value → Shared → Prop}
    (hl : s.heap.get? l = some { cls := .type "list", dict := none, data := .seq items n, slots := #[] })
    (h : ∀ h', h'.get? (s.heap.objs.size + 2) = some (mapObj (s.heap.objs.size + 1) f) → h'.get? (s.heap.objs.size + 1) = some (oneObj s.heap.objs.size) → h'.IsListIter s.heap.objs.size l 0 →
      (∀ b o, s.heap.get? b = some o → h'.get? b = some o) → Q (.ref (s.heap.objs.size + 2)) { s with heap := h' }) :
    wpAny (model prog w) A (call (.type "map") [f, .ref l]) Q E s := by
  refine callType_new called_map (by decide) (typeCall_map_2 _ _) (newCall_map_2 _ _) (fun obj => F.args_object_init_3 obj _ _) entry_map_new (meets_map_new f l items n) ⟨hl, ?_⟩
  have z1 : (s.heap.push { cls := .type "list_iterator", data := .fields #[.ref l, .int 0 0] }).objs.size = s.heap.objs.size + 1 := Heap.size_push ..
  have z2 : ((s.heap.push { cls := .type "list_iterator", data := .fields #[.ref l, .int 0 0] }).push (oneObj s.heap.objs.size)).objs.size = s.heap.objs.size + 2 := by rw [Heap.size_push, z1]
  have g2 := Heap.get?_push_size ((s.heap.push { cls := .type "list_iterator", data := .fields #[.ref l, .int 0 0] }).push (oneObj s.heap.objs.size)) (o := mapObj (s.heap.objs.size + 1) f) rfl
  rw [z2] at g2
  have g1 := Heap.get?_push_size (s.heap.push { cls := .type "list_iterator", data := .fields #[.ref l, .int 0 0] }) (o := oneObj s.heap.objs.size) rfl
  rw [z1] at g1
  have g1' := Heap.get?_push_of_some (mapObj (s.heap.objs.size + 1) f) g1
  have g0 := Heap.get?_push_size s.heap (o := { cls := .type "list_iterator", data := .fields #[.ref l, .int 0 0] }) rfl
  show _ ∧ _
  exact ⟨⟨_, g2, rfl⟩, h _ g2 g1' ⟨_, Heap.get?_push_of_some _ (Heap.get?_push_of_some _ g0), rfl, rfl⟩ fun b o x => Heap.get?_push_of_some _ (Heap.get?_push_of_some _ (Heap.get?_push_of_some _ x))⟩

/-- one item of map over one list -/
theorem next_map_item {z T I l : Addr} {f x : Value} {i : Nat} {items : Array Value} {Q : Option Value → Shared → Prop} (hz : s.heap.get? z = some (mapObj T f)) (hT : s.heap.get? T = some (oneObj I)) (hI : s.heap.IsListIter I l i) (hl : s.heap.IsList l items) (hx : items[i]? = some x)
    (hzI : z ≠ I)
    (h : ∀ h', h'.IsListIter I l (i + 1) → Heap.SameBut I s.heap h' → wpAny (model prog w) A.in1 (call f [x]) (fun v s' => Q (some v) s') (fun e s' => wpAny (model prog w) A (isInstance e (.type "StopIteration")) (fun b s₂ => if b = true then Q none s₂ else E e s₂) E s') { s with heap := h' }) :
    wpAny (model prog w) A (pyNext (.ref z)) Q E s := by
  have hZ : s.TypeIs (.ref z) "map" := ⟨_, hz, rfl⟩
  unfold pyNext
  refine wpAny_bind (wpAny_attempt (wpAny_callSpecial?_slot (name := Str.ofString "__next__") hZ slot_map_next
    (wpAny_call_entry slot_map_next hZ entry_map_next ?_ (args_map_next_1 _))))
  show wpAny _ _ (field (.ref z) 0 >>= _) _ _ s
  refine wpAny_bind (wpAny_field hz rfl (x := .ref T) rfl ?_)
  show wpAny _ _ (seqItems? (.ref T) >>= _) _ _ s
  refine wpAny_bind (wpAny_seqItems hT rfl ?_)
  simp only [List.forIn_toArray, List.forIn_cons, List.forIn_nil]
  refine wpAny_bind (wpAny_bind (wpAny_bind (wpAny_holding (wpAny_nextOf_list_item hI hl hx fun h' hI' hs' => ?_))))
  refine wpAny_pure (wpAny_pure ?_)
  have hz' : h'.get? z = some (mapObj T f) := (hs'.2 z hzI).trans hz
  refine wpAny_bind (wpAny_field hz' rfl (x := f) rfl ?_)
  refine wpAny_bind (wpAny_holding ?_)
  refine wpAny_mono (h h' hI' hs') (fun v s' hv => ?_) (fun e s' he => ?_)
  · refine wpAny_bind (wpAny_letGo (wpAny_pure ⟨_, rfl, wpAny_pure hv⟩))
  · refine wpAny_bind (wpAny_mono he (fun b s₂ hb => ?_) fun _ _ z => z)
    cases b with
    | true => exact wpAny_pure hb
    | false => exact wpAny_throw hb
theorem next_map_end {z T I l : Addr} {f : Value} {i : Nat} {items : Array Value} {Q : Option Value → Shared → Prop} (hh : A.handled = none) (hz : s.heap.get? z = some (mapObj T f)) (hT : s.heap.get? T = some (oneObj I)) (hI : s.heap.IsListIter I l i) (hl : s.heap.IsList l items) (hx : items[i]? = none)
    (h : ∀ h', Heap.ExtBut I s.heap h' → Q none { s with heap := h' }) :
    wpAny (model prog w) A (pyNext (.ref z)) Q E s := by
  have hZ : s.TypeIs (.ref z) "map" := ⟨_, hz, rfl⟩
  unfold pyNext
  refine wpAny_bind (wpAny_attempt (wpAny_callSpecial?_slot (name := Str.ofString "__next__") hZ slot_map_next
    (wpAny_call_entry slot_map_next hZ entry_map_next ?_ (args_map_next_1 _))))
  show wpAny _ _ (field (.ref z) 0 >>= _) _ _ s
  refine wpAny_bind (wpAny_field hz rfl (x := .ref T) rfl ?_)
  show wpAny _ _ (seqItems? (.ref T) >>= _) _ _ s
  refine wpAny_bind (wpAny_seqItems hT rfl ?_)
  simp only [List.forIn_toArray, List.forIn_cons, List.forIn_nil]
  refine wpAny_bind (wpAny_bind (wpAny_bind (wpAny_holding (wpAny_nextOf_list_end hh hI hl hx fun h' e hx' he => ?_))))
  obtain ⟨o, ho, hc⟩ := he
  refine wpAny_bind (wpAny_isInstance (T := "StopIteration") (b := true) ⟨o, ho, hc⟩ isSubtype_stop ?_)
  exact wpAny_pure (h h' hx')
theorem iter_map {z T : Addr} {f : Value} {Q : Value → Shared → Prop} (hz : s.heap.get? z = some (mapObj T f)) (h : Q (.ref z) s) : wpAny (model prog w) A (pyIter (.ref z)) Q E s := by
  have hZ : s.TypeIs (.ref z) "map" := ⟨_, hz, rfl⟩
  refine wpAny_pyIter_slot hZ slot_map_iter (wpAny_call_entry slot_map_iter hZ entry_map_iter ?_ (args_map_iter_1 _))
  show wpAny _ _ (ret (.ref z)) _ _ s
  exact wpAny_pure ⟨_, rfl, "map", _, hZ, slot_map_next.lookup, h⟩
/-- one turn of any's loop -/
theorem any_turn {it : Value} {R : Result → Shared → Prop}
    (h : wpAny (model prog w) A.in1 (pyNext it) (fun r s' => match r with
      | none => R (.ok (.ret (.bool false))) s'
      | some v => wpAny (model prog w) A.in1 (truthy v) (fun b s'' => if b = true then R (.ok (.ret (.bool true))) s'' else codeAny (model prog w) A (.builtin "any.loop" ⟨[it], []⟩) R s'') (fun e s' => R (.error e) s') s') (fun e s' => R (.error e) s') s) :
    codeAny (model prog w) A (.builtin "any.loop" ⟨[it], []⟩) R s := by
  refine codeAny_builtin F.entry_any_loop ?_
  rw [Around.under_plainId F.plain_any_loop _]
  show wpAny _ A.in1 (pyNext it >>= _) _ _ s
  refine wpAny_bind (wpAny_mono h (fun r s' hr => ?_) fun _ _ e => e)
  cases r with
  | none => exact wpAny_bind (wpAny_rule (wpAny_pure hr))
  | some v =>
    refine wpAny_bind (wpAny_holding (wpAny_mono hr (fun b s'' hb => ?_) fun _ _ e => e))
    refine wpAny_bind (wpAny_letGo ?_)
    cases b with
    | true => exact wpAny_bind (wpAny_rule (wpAny_pure hb))
    | false => exact wpAny_pure ⟨plainId_quiet F.plain_any_loop _, hb⟩
theorem call_any_map {z T : Addr} {f : Value} {Q : Value → Shared → Prop} (hz : s.heap.get? z = some (mapObj T f))
    (h : codeAny (model prog w) A (.builtin "any.loop" ⟨[.ref z], []⟩) (fun r s' => match r with | .ok (.ret v) => Q v s' | .ok _ => False | .error e => E e s') s) :
    wpAny (model prog w) A (call (.builtin "any") [.ref z]) Q E s := by
  refine call_function_tree F.kind_any F.plain_any F.entry_any (F.args_any1 _) ?_
  unfold Builtin.«any»
  refine wpAny_bind (m := oneArg "any" _) (wpAny_pure ?_)
  refine wpAny_bind (iter_map hz ?_)
  exact wpAny_pure ⟨plainId_quiet F.plain_any_loop _, h⟩
end
section
variable {prog : Program} {w : World} {A : Around} {E : Value → Shared → Prop} {s : Shared} {h₀ : Heap} {L : Addr} {m : Str → Option Value} {news : List (Addr × Obj)}
/-- an object of the call's own is turned: the frame and the rest of the ledger stand -/
theorem fr_but {h h' : Heap} {I : Addr} (F : Fr h₀ L h m) (hs : Heap.ExtBut I h h') (hI : h₀.get? I = none) (hL : I ≠ L) : Fr h₀ L h' m :=
  ⟨F.ns.extBut hs (Ne.symm hL), fun b o e => hs b o (fun q => by rw [q, hI] at e; cases e) (F.keep b o e), F.above⟩
theorem news_but {h h' : Heap} {I : Addr} (N : News h₀ L h news) (hs : Heap.ExtBut I h h') (hne : ∀ p ∈ news, p.1 ≠ I) : News h₀ L h' news :=
  fun p hp => ⟨hs _ _ (hne p hp) (N p hp).1, (N p hp).2⟩
theorem call_mapK {f : Value} {l : Addr} {items : Array Value} {n : Nat} {Q : Value → Shared → Prop} (F : Fr h₀ L s.heap m) (N : News h₀ L s.heap news) (hl : (l, listOf items n) ∈ news)
    (h : ∀ I T z oI h', Fr h₀ L h' m → News h₀ L h' ((I, oI) :: (z, mapObj T f) :: (T, oneObj I) :: news) → oI.cls = .type "list_iterator" → oI.data = .fields #[.ref l, .int 0 0] → (∀ p ∈ (z, mapObj T f) :: (T, oneObj I) :: news, p.1 ≠ I) → Q (.ref z) { s with heap := h' }) :
    wpAny (model prog w) A (call (.type "map") [f, .ref l]) Q E s := by
  refine call_map (N _ hl).1 fun h' hz hT hI hk => ?_
  obtain ⟨oI, ho, hc, hd⟩ := hI
  have hLs := F.ns.lt
  have fresh : ∀ b, s.heap.objs.size ≤ b → h₀.get? b = none := fun b hb => Heap.get?_none_of_le (Nat.le_trans F.above (Nat.le_of_lt (Nat.lt_of_lt_of_le hLs hb)))
  have old : ∀ p ∈ news, p.1 < s.heap.objs.size := fun p hp => Heap.lt_size (N p hp).1
  refine h s.heap.objs.size (s.heap.objs.size + 1) (s.heap.objs.size + 2) oI h' (F.keeps hk) (fun p hp => ?_) hc hd (fun p hp => ?_)
  · rcases List.mem_cons.mp hp with rfl | hp
    · exact ⟨ho, Nat.ne_of_gt hLs, fresh _ (Nat.le_refl _)⟩
    · rcases List.mem_cons.mp hp with rfl | hp
      · exact ⟨hz, Nat.ne_of_gt (Nat.lt_of_lt_of_le hLs (by omega)), fresh _ (by omega)⟩
      · rcases List.mem_cons.mp hp with rfl | hp
        · exact ⟨hT, Nat.ne_of_gt (Nat.lt_of_lt_of_le hLs (by omega)), fresh _ (by omega)⟩
        · exact ⟨hk _ _ (N p hp).1, (N p hp).2⟩
  · rcases List.mem_cons.mp hp with rfl | hp
    · show s.heap.objs.size + 2 ≠ s.heap.objs.size; omega
    · rcases List.mem_cons.mp hp with rfl | hp
      · show s.heap.objs.size + 1 ≠ s.heap.objs.size; omega
      · exact Nat.ne_of_lt (old p hp)

theorem any_map2 {f : Value} {l I T z pa pb : Addr} {n : Nat} {oI : Obj} {b1 b2 : Bool} {Q : Value → Shared → Prop} (hh : A.handled = none) (F : Fr h₀ L s.heap m) (N : News h₀ L s.heap ((I, oI) :: news)) (hc : oI.cls = .type "list_iterator") (hd : oI.data = .fields #[.ref l, .int 0 0])
    (hne : ∀ p ∈ news, p.1 ≠ I) (mz : (z, mapObj T f) ∈ news) (mT : (T, oneObj I) ∈ news) (ml : (l, listOf #[.ref pa, .ref pb] n) ∈ news)
    (c1 : ∀ (o : Obj) (s' : Shared) (Q' : Value → Shared → Prop) (E' : Value → Shared → Prop), Fr h₀ L s'.heap m → News h₀ L s'.heap ((I, o) :: news) → (∀ h'' tk, Fr h₀ L h'' m → News h₀ L h'' ((I, o) :: news) → Q' (.bool b1) { s' with heap := h'', toks := tk }) → wpAny (model prog w) A.in1.in1 (call f [.ref pa]) Q' E' s')
    (c2 : ∀ (o : Obj) (s' : Shared) (Q' : Value → Shared → Prop) (E' : Value → Shared → Prop), Fr h₀ L s'.heap m → News h₀ L s'.heap ((I, o) :: news) → (∀ h'' tk, Fr h₀ L h'' m → News h₀ L h'' ((I, o) :: news) → Q' (.bool b2) { s' with heap := h'', toks := tk }) → wpAny (model prog w) A.in1.in1 (call f [.ref pb]) Q' E' s')
    (h : ∀ h' tk, Fr h₀ L h' m → News h₀ L h' news → Q (.bool (b1 || b2)) { s with heap := h', toks := tk }) : wpAny (model prog w) A (call (.builtin "any") [.ref z]) Q E s := by
  have hI0 := (N (I, oI) (.head _)).2
  have Nt : ∀ {h o}, News h₀ L h ((I, o) :: news) → News h₀ L h news := fun N p hp => N p (.tail _ hp)
  have isL : ∀ {h o}, News h₀ L h ((I, o) :: news) → h.IsList l #[.ref pa, .ref pb] := fun N => ⟨_, (Nt N _ ml).1, rfl, _, rfl⟩
  refine call_any_map ((Nt N) _ mz).1 ?_
  refine any_turn ?_
  refine next_map_item (i := 0) ((Nt N) _ mz).1 ((Nt N) _ mT).1 ⟨oI, (N _ (.head _)).1, hc, hd⟩ (isL N) rfl (hne _ mz) fun h1 hI1 hs1 => ?_
  obtain ⟨o1, ho1, hc1, hd1⟩ := hI1
  have F1 := fr_but F hs1.extBut hI0.2 hI0.1
  have N1 : News h₀ L h1 ((I, o1) :: news) := fun p hp => by
    rcases List.mem_cons.mp hp with rfl | hp
    · exact ⟨ho1, hI0⟩
    · exact news_but (Nt N) hs1.extBut hne p hp
  refine c1 o1 _ _ _ F1 N1 fun h2 tk2 F2 N2 => ?_
  show wpAny _ _ (truthy (.bool b1)) _ _ _
  refine wpAny_truthy_bool ?_
  cases b1 with
  | true =>
    rw [if_pos rfl]
    exact h h2 tk2 F2 (Nt N2)
  | false =>
    rw [if_neg Bool.false_ne_true]
    refine any_turn ?_
    refine next_map_item (i := 1) ((Nt N2) _ mz).1 ((Nt N2) _ mT).1 ⟨o1, (N2 _ (.head _)).1, hc1, hd1⟩ (isL N2) rfl (hne _ mz) fun h3 hI3 hs3 => ?_
    obtain ⟨o3, ho3, hc3, hd3⟩ := hI3
    have F3 := fr_but F2 hs3.extBut hI0.2 hI0.1
    have N3 : News h₀ L h3 ((I, o3) :: news) := fun p hp => by
      rcases List.mem_cons.mp hp with rfl | hp
      · exact ⟨ho3, hI0⟩
      · exact news_but (Nt N2) hs3.extBut hne p hp
    refine c2 o3 _ _ _ F3 N3 fun h4 tk4 F4 N4 => ?_
    show wpAny _ _ (truthy (.bool b2)) _ _ _
    refine wpAny_truthy_bool ?_
    cases b2 with
    | true =>
      rw [if_pos rfl]
      exact h h4 tk4 F4 (Nt N4)
    | false =>
      rw [if_neg Bool.false_ne_true]
      refine any_turn ?_
      refine next_map_end (i := 2) hh ((Nt N4) _ mz).1 ((Nt N4) _ mT).1 ⟨o3, (N4 _ (.head _)).1, hc3, hd3⟩ (isL N4) rfl fun h5 hs5 => ?_
      exact h h5 tk4 (fr_but F4 hs5 hI0.2 hI0.1) (news_but (Nt N4) hs5 hne)
end
end
-- part HasC
section
example : True := by
  w_top off
  trivial
local macro_rules | `(tactic| walk_at "no such step") => `(tactic| fail)
section
variable {prog : Program} {w : World} {p : Program} {loose : List Str} {mean : ExcName → Option Value} {mg mb : Str → Option Value}
    {base h₀ : Heap} {L a : Addr} {m : Str → Option Value} {news : List (Addr × Obj)} {s : Shared} {Q : Value → Shared → Prop} {E : Value → Shared → Prop}
    {cn : Str} {cs : Scope} {ccd : Value} {e1 : Env} {f g : Str} {t1 t2 : Tok} {ow ini : Bool}

inductive TabOK : Array Value → List (Addr × Obj) → Prop
  | none : TabOK #[] []
  | some {c : Addr} {oc : Obj} {vs : Array Value} {t : Tok} : oc.data = .fields vs → vs[1]? = some (.str (Str.ofString "Pattern.has_pre_messages" ++ ".<locals>." ++ Str.ofString "<lambda>") t) → TabOK #[rawInt 19, rawInt 23, .ref c] [(c, oc)]
local macro_rules | `(tactic| walk_at "call type:map") => `(tactic| (k_here; k_dflt (refine call_mapK (by k_asm) (by k_asm) (by k_mem) ?_); intro I' T' z' oI' h' F' N' hc' hd' hne'; (try k_sweep)))
theorem has_c {x C d : Addr} {k1 k2 k3 k4 k5 : Tok} {pm tk pa pb : Addr} {nam : Str} {cnt : Int} {cp ca cb : Nat} {va vb : Array Value} {ps : Array Value} {ex : List (Addr × Obj)} (hC : C ∈ classes) (h1 : (x, instObj C d) ∈ news) (h2 : (d, dictOf (pdict w.params k1 k2 k3 k4 k5 t1 t2 pm tk nam ow cnt) 5) ∈ news)
    (h3 : (pm, listOf #[.ref pa, .ref pb] cp) ∈ news) (h4 : (pa, listOf va ca) ∈ news) (h5 : (pb, listOf vb cb) ∈ news) (sa : va.size ≤ 8) (sb : vb.size ≤ 8) (hcd : CodeHd base (34, 30).1 (34, 30).2) (hne : ∀ p ∈ news, p.1 ≠ 30) (hps : TabOK ps ex)
    (B : Below (callerA.deeper e1) base [e1] h₀) (hk : cs.kind = .function) (F : Fr h₀ L s.heap m) (X : (hd.heap_39 w.params).In h₀) (N : News h₀ L s.heap ((30, tabObj ps) :: (ex ++ news))) (T : Top p loose mean mg mb h₀)
    (hret : ∀ ps' ex' h' tk', Fr h₀ L h' m → News h₀ L h' ((30, tabObj ps') :: (ex' ++ news)) → TabOK ps' ex' → Q (.bool (decide (0 < va.size) || decide (0 < vb.size))) { s with heap := h', toks := tk' }) :
    wpAny (model prog w) ((callerA.deeper e1).deeper (envOf cn cs L a ccd)) (call (.ref 35) [.ref x]) Q E s := by
  cases hps with
  | none =>
  (try simp only [List.nil_append] at N)
  refine wpAny_call ?_
  k_dflt cell_enter
  k_steps
  k_dflt (refine any_map2 (b1 := decide (0 < va.size)) (b2 := decide (0 < vb.size)) rfl (by k_asm) (by k_asm) (by assumption) (by assumption) (by assumption) (by k_mem) (by k_mem) (by k_mem) ?_ ?_ ?_)
  · intro o9 s9 Q9 E9 F9 N9 h9
    (try k_sweep)
    refine wpAny_call ?_
    k_dflt kla_enter
    k_steps
    have e9 : decide ((0 : Int) < (va.size : Int)) = decide (0 < va.size) := by simp
    rw [e9]
    exact h9 _ _ (by assumption) (by assumption)
  · intro o9 s9 Q9 E9 F9 N9 h9
    (try k_sweep)
    refine wpAny_call ?_
    k_dflt kla_enter
    k_steps
    have e9 : decide ((0 : Int) < (vb.size : Int)) = decide (0 < vb.size) := by simp
    rw [e9]
    exact h9 _ _ (by assumption) (by assumption)
  · intro h' tk' F' N'
    k_sweep
    try dsimp only
    k_steps
    exact hret _ _ _ _ (by assumption) (news_sub (by assumption) (sub_cons (by k_mem) (sub_cons (by k_mem) (by repeat' (first | exact sub_refl | refine sub_tail ?_))))) (TabOK.some (by assumption) (by assumption))
  | some hd1 hd2 =>
  (try simp only [List.cons_append, List.nil_append] at N)
  refine wpAny_call ?_
  k_dflt cell_enter
  k_steps
  k_dflt (refine any_map2 (b1 := decide (0 < va.size)) (b2 := decide (0 < vb.size)) rfl (by k_asm) (by k_asm) (by assumption) (by assumption) (by assumption) (by k_mem) (by k_mem) (by k_mem) ?_ ?_ ?_)
  · intro o9 s9 Q9 E9 F9 N9 h9
    (try k_sweep)
    refine wpAny_call ?_
    k_dflt kla_enter
    k_steps
    have e9 : decide ((0 : Int) < (va.size : Int)) = decide (0 < va.size) := by simp
    rw [e9]
    exact h9 _ _ (by assumption) (by assumption)
  · intro o9 s9 Q9 E9 F9 N9 h9
    (try k_sweep)
    refine wpAny_call ?_
    k_dflt kla_enter
    k_steps
    have e9 : decide ((0 : Int) < (vb.size : Int)) = decide (0 < vb.size) := by simp
    rw [e9]
    exact h9 _ _ (by assumption) (by assumption)
  · intro h' tk' F' N'
    k_sweep
    try dsimp only
    k_steps
    exact hret _ _ _ _ (by assumption) (news_sub (by assumption) (sub_cons (by k_mem) (sub_cons (by k_mem) (by repeat' (first | exact sub_refl | refine sub_tail ?_))))) (TabOK.some (by assumption) (by assumption))
end
end
-- part GetC
section
example : True := by
  w_top off
  trivial
section
variable {prog : Program} {w : World} {p : Program} {loose : List Str} {mean : ExcName → Option Value} {mg mb : Str → Option Value}
    {base h₀ : Heap} {L a : Addr} {m : Str → Option Value} {news : List (Addr × Obj)} {s : Shared} {Q : Value → Shared → Prop} {E : Value → Shared → Prop}
    {cn : Str} {cs : Scope} {ccd : Value} {e1 : Env} {f g : Str} {t1 t2 : Tok} {ow ini : Bool}
theorem ini_c {x C d : Addr} {k1 k2 k3 k4 k5 : Tok} {pm tk pa pb : Addr} {nam : Str} {cnt : Int} {cp ca cb : Nat} {va vb : Array Value} (hC : C ∈ classes) (h1 : (x, instObj C d) ∈ news) (h2 : (d, dictOf (pdict w.params k1 k2 k3 k4 k5 t1 t2 pm tk nam ow cnt) 5) ∈ news)
    (h3 : (pm, listOf #[.ref pa, .ref pb] cp) ∈ news) (h4 : (pa, listOf va ca) ∈ news) (h5 : (pb, listOf vb cb) ∈ news) (sa : va.size ≤ 8) (sb : vb.size ≤ 8)
    (B : Below (callerA.deeper e1) base [e1] h₀) (hk : cs.kind = .function) (F : Fr h₀ L s.heap m) (X : (hd.heap_39 w.params).In h₀) (N : News h₀ L s.heap news) (T : Top p loose mean mg mb h₀)
    (hret : ∀ D c h' tk', Fr h₀ L h' m → News h₀ L h' ((D, listOf va c) :: news) → (∀ p ∈ news, p.1 < D) → Q (.ref D) { s with heap := h', toks := tk' }) :
    wpAny (model prog w) ((callerA.deeper e1).deeper (envOf cn cs L a ccd)) (call (.ref 42) [.ref x]) Q E s := by
  refine wpAny_call ?_
  k_dflt cell_enter
  k_steps
  exact hret _ _ _ _ (by assumption) (by assumption) (by assumption)
theorem res_c {x C d : Addr} {k1 k2 k3 k4 k5 : Tok} {pm tk pa pb : Addr} {nam : Str} {cnt : Int} {cp ca cb : Nat} {va vb : Array Value} (hC : C ∈ classes) (h1 : (x, instObj C d) ∈ news) (h2 : (d, dictOf (pdict w.params k1 k2 k3 k4 k5 t1 t2 pm tk nam ow cnt) 5) ∈ news)
    (h3 : (pm, listOf #[.ref pa, .ref pb] cp) ∈ news) (h4 : (pa, listOf va ca) ∈ news) (h5 : (pb, listOf vb cb) ∈ news) (sa : va.size ≤ 8) (sb : vb.size ≤ 8)
    (B : Below (callerA.deeper e1) base [e1] h₀) (hk : cs.kind = .function) (F : Fr h₀ L s.heap m) (X : (hd.heap_39 w.params).In h₀) (N : News h₀ L s.heap news) (T : Top p loose mean mg mb h₀)
    (hret : ∀ D c h' tk', Fr h₀ L h' m → News h₀ L h' ((D, listOf vb c) :: news) → (∀ p ∈ news, p.1 < D) → Q (.ref D) { s with heap := h', toks := tk' }) :
    wpAny (model prog w) ((callerA.deeper e1).deeper (envOf cn cs L a ccd)) (call (.ref 49) [.ref x]) Q E s := by
  refine wpAny_call ?_
  k_dflt cell_enter
  k_steps
  exact hret _ _ _ _ (by assumption) (by assumption) (by assumption)
end
end
-- part JEq
theorem texts_dat {news : List (Addr × Obj)} {vs : List Value} {xs : List Str} (h : Texts vs xs) : DatAll news vs (xs.map Dat.str) := by
  induction h with
  | nil => exact .nil
  | cons _ ih => exact .cons (.str _ _) ih
/-- every text is one that the model may lay -/
noncomputable def Ok1 (xs : List Str) : Prop := ∀ x ∈ xs, PyData.strOk x = true
noncomputable def Ok2 (css : List (List Str)) : Prop := ∀ cs ∈ css, Ok1 cs
theorem ok1_dat {n : Nat} {xs : List Str} (h : Ok1 xs) : ∀ d ∈ xs.map Dat.str, kqdOk n d = true := by
  intro d hd
  obtain ⟨x, hx, rfl⟩ := List.mem_map.mp hd
  cases n <;> exact h x hx
theorem ok2_dat {n : Nat} {css : List (List Str)} (h : Ok2 css) : ∀ d ∈ css.map (fun cs => Dat.list (cs.map Dat.str)), kqdOk (n + 1) d = true := by
  intro d hd
  obtain ⟨cs, hcs, rfl⟩ := List.mem_map.mp hd
  show (cs.map Dat.str).all (kqdOk n) = true
  exact List.all_eq_true.mpr (ok1_dat (h cs hcs))
theorem mat_dat {rs : List Value} {css : List (List Str)} {cells : List (Addr × Obj)} (h : Mat rs css cells) : ∀ {news : List (Addr × Obj)}, (∀ p ∈ cells, p ∈ news) → DatAll news rs (css.map fun cs => Dat.list (cs.map Dat.str)) := by
  induction h with
  | nil => intro _ _; exact .nil
  | @cons rs css cells a its cs n tx M ih =>
    intro news hs
    refine .cons (.list (vs := its.toList) (n := n) ?_ (texts_dat tx)) (ih fun p hp => hs p (.tail _ hp))
    exact hs _ (.head _)
section
variable {prog : Program} {w : World} {A : Around} {E : Value → Shared → Prop} {s : Shared} {L : Addr} {h₀ : Heap} {news : List (Addr × Obj)} {a b : Addr} {xs ys : Array Value} {ka kb : Nat} {Q : Value → Shared → Prop}
theorem ne_texts {cs : List Str} (N : News h₀ L s.heap news) (ma : (a, listOf xs ka) ∈ news) (mb : (b, listOf ys kb) ∈ news) (ta : Texts xs.toList cs) (tb : Texts ys.toList cs) (ok : Ok1 cs) (hu : A.units + 64 < cLine)
    (h : Q (.bool false) s) : wpAny (model prog w) A (compareOp .NotEq (.ref a) (.ref b)) Q E s :=
  kqd_ne (n₁ := news) (n₂ := news) N ma rfl (ka := ka) (by simp) (texts_dat ta) (fun _ h => h) mb rfl (kb := kb) (by simp) (texts_dat tb) (fun _ h => h) (ok1_dat ok) (ok1_dat ok) hu (by simpa using h)
theorem eq_texts {cs : List Str} (N : News h₀ L s.heap news) (ma : (a, listOf xs ka) ∈ news) (mb : (b, listOf ys kb) ∈ news) (ta : Texts xs.toList cs) (tb : Texts ys.toList cs) (ok : Ok1 cs) (hu : A.units + 64 < cLine)
    (h : Q (.bool true) s) : wpAny (model prog w) A (compareOp .Eq (.ref a) (.ref b)) Q E s :=
  kqd_eq (n₁ := news) (n₂ := news) N ma rfl (ka := ka) (by simp) (texts_dat ta) (fun _ h => h) mb rfl (kb := kb) (by simp) (texts_dat tb) (fun _ h => h) (ok1_dat ok) (ok1_dat ok) hu (by simpa using h)
theorem ne_mat {css : List (List Str)} {c1 c2 : List (Addr × Obj)} (N : News h₀ L s.heap news) (ma : (a, listOf xs ka) ∈ news) (mb : (b, listOf ys kb) ∈ news) (ta : Mat xs.toList css c1) (tb : Mat ys.toList css c2) (s1 : ∀ p ∈ c1, p ∈ news) (s2 : ∀ p ∈ c2, p ∈ news) (ok : Ok2 css) (hu : A.units + 64 < cLine)
    (h : Q (.bool false) s) : wpAny (model prog w) A (compareOp .NotEq (.ref a) (.ref b)) Q E s :=
  kqd_ne (n₁ := news) (n₂ := news) N ma rfl (ka := ka) (by simp) (mat_dat ta s1) (fun _ h => h) mb rfl (kb := kb) (by simp) (mat_dat tb s2) (fun _ h => h) (ok2_dat ok) (ok2_dat ok) hu (by simpa using h)
/-- the pair of lists ahead against the pair of empty ones -/
theorem ne_pair {pa pb qa qb : Addr} {va vb : Array Value} {na nb : Nat} {xa xb : List Str} (N : News h₀ L s.heap news) (ma : (a, listOf #[.ref pa, .ref pb] ka) ∈ news) (mb : (b, listOf #[.ref qa, .ref qb] kb) ∈ news)
    (m1 : (pa, listOf va na) ∈ news) (m2 : (pb, listOf vb nb) ∈ news) (m3 : (qa, listOf #[] 0) ∈ news) (m4 : (qb, listOf #[] 0) ∈ news) (ta : Texts va.toList xa) (tb : Texts vb.toList xb) (oa : Ok1 xa) (ob : Ok1 xb) (hu : A.units + 64 < cLine)
    (h : Q (.bool (decide (0 < va.size) || decide (0 < vb.size))) s) : wpAny (model prog w) A (compareOp .NotEq (.ref a) (.ref b)) Q E s := by
  have M1 : Mat [.ref pa, .ref pb] [xa, xb] [(pa, listOf va na), (pb, listOf vb nb)] := .cons ta (.cons tb .nil)
  have M2 : Mat [.ref qa, .ref qb] [[], []] [(qa, listOf #[] 0), (qb, listOf #[] 0)] := .cons .nil (.cons .nil .nil)
  have ok1 : Ok2 [xa, xb] := by
    intro cs hcs
    rcases List.mem_cons.mp hcs with rfl | hcs
    · exact oa
    · rw [List.mem_singleton.mp hcs]; exact ob
  have ok2 : Ok2 [[], []] := by
    intro cs hcs
    simp only [List.mem_cons, List.not_mem_nil, or_false, or_self] at hcs
    subst hcs; intro _ hx; cases hx
  refine kqd_ne (n₁ := news) (n₂ := news) N ma rfl rfl (mat_dat M1 (fun p hp => ?_)) (fun _ h => h) mb rfl rfl (mat_dat M2 (fun p hp => ?_)) (fun _ h => h) (ok2_dat ok1) (ok2_dat ok2) hu ?_
  · rcases List.mem_cons.mp hp with rfl | hp
    · exact m1
    · rw [List.mem_singleton.mp hp]; exact m2
  · rcases List.mem_cons.mp hp with rfl | hp
    · exact m3
    · rw [List.mem_singleton.mp hp]; exact m4
  · rw [ta.size, tb.size] at h
    cases xa <;> cases xb <;> simpa using h
end
theorem texts_strs {vs : List Value} {xs : List Str} (h : Texts vs xs) : StrsAre vs xs := by
  induction h with
  | nil => exact .nil
  | cons _ ih => exact .cons _ _ ih
theorem strs_texts {vs : List Value} {xs : List Str} (h : StrsAre vs xs) : Texts vs xs := by
  induction h with
  | nil => exact .nil
  | cons _ _ _ ih => exact .cons ih
/-- the lists of keys that are sorted -/
noncomputable def KeyL (ss : List Str) : Prop := ss = [] ∨ ss = [tS "s"] ∨ ss = [tS "rs"] ∨ ss = [tS "s", tS "rs"] ∨ ss = [tS "rs", tS "s"]
noncomputable def srt (ss : List Str) : List Str := if ss = [tS "s", tS "rs"] then [tS "rs", tS "s"] else ss
theorem pair_cases {a b : Str} {l : List Str} (h : l.Perm [a, b]) : l = [a, b] ∨ l = [b, a] := by
  have hl := h.length_eq
  match l, hl with
  | [x, y], _ =>
    have hx : x ∈ [a, b] := h.mem_iff.mp (.head _)
    rcases List.mem_cons.mp hx with rfl | hx
    · have := (List.perm_cons x).mp h
      rw [List.perm_singleton] at this
      cases this; exact .inl rfl
    · have e := List.mem_singleton.mp hx
      subst e
      have h2 : ([x, y] : List Str).Perm [x, a] := h.trans (List.Perm.swap ..)
      have := (List.perm_cons x).mp h2
      rw [List.perm_singleton] at this
      cases this; exact .inr rfl
theorem srt_is {ss ss' : List Str} (hk : KeyL ss) (hp : ss'.Perm ss) (hs : sortedS ss' = true) : ss' = srt ss := by
  rcases hk with rfl | rfl | rfl | rfl | rfl
  · rw [List.perm_nil.mp hp]; rfl
  · rw [List.perm_singleton.mp hp]; decide +kernel
  · rw [List.perm_singleton.mp hp]; decide +kernel
  · rcases pair_cases hp with rfl | rfl
    · exact absurd hs (by decide +kernel)
    · decide +kernel
  · rcases pair_cases hp with rfl | rfl
    · decide +kernel
    · exact absurd hs (by decide +kernel)
theorem srt_ok {ss : List Str} (hk : KeyL ss) : Ok1 (srt ss) := by
  rcases hk with rfl | rfl | rfl | rfl | rfl <;> (intro x hx; revert x; decide +kernel)
theorem keyL_req (f g : Str) (ow ini : Bool) : KeyL (reqK f g ow ini) := by
  unfold reqK KeyL
  cases ini <;> simp only [Bool.false_eq_true, if_false, if_true] <;> split <;> split <;> decide +kernel
theorem sorted_keys {prog : Program} {w : World} {A : Around} {E : Value → Shared → Prop} {s : Shared} {L : Addr} {h₀ : Heap} {m : Str → Option Value} {news : List (Addr × Obj)} {a : Addr} {its : Array Value} {n : Nat} {ss : List Str} {Q : Value → Shared → Prop}
    (F : Fr h₀ L s.heap m) (N : News h₀ L s.heap news) (hl : (a, listOf its n) ∈ news) (tx : Texts its.toList ss) (hk : KeyL ss)
    (h : ∀ D its' n' h', Fr h₀ L h' m → News h₀ L h' ((D, listOf its' n') :: news) → (∀ p ∈ news, p.1 < D) → Texts its'.toList (srt ss) → Q (.ref D) { s with heap := h' }) :
    wpAny (model prog w) A (call (.builtin "sorted") [.ref a]) Q E s := by
  have e : its.toList.toArray = its := by simp
  have hz : its.toList.length < 64 := by
    rw [tx.length]
    rcases hk with rfl | rfl | rfl | rfl | rfl <;> decide
  refine sorted_N_str (vs := its.toList) F N (by rw [e]; exact ⟨_, (N _ hl).1, rfl, _, rfl⟩) (texts_strs tx) hz fun h' vs' ss' e' F' N' hS hp hs => ?_
  refine h _ vs'.toArray e' h' F' N' (fun p hp => Nat.lt_succ_of_lt (Heap.lt_size (N p hp).1)) ?_
  rw [← srt_is hk hp hs]
  simpa using strs_texts hS
local macro_rules | `(tactic| walk_at "compareOp NotEq ref ref") => `(tactic| (k_here; k_dflt (refine' ne_texts ?k1 ?k2 ?k3 ?k4 ?k5 ?k6 ?k7 ?_; (case k1 => k_asm); (case k2 => k_mem); (case k3 => k_mem); (case k4 => assumption); (case k5 => assumption); (case k6 => first | assumption | exact srt_ok (keyL_req _ _ _ _)); (case k7 => exact Nat.le_of_ble_eq_true rfl); k_whole)))
local macro_rules | `(tactic| walk_at "compareOp Eq ref ref") => `(tactic| (k_here; k_dflt (refine' eq_texts ?k1 ?k2 ?k3 ?k4 ?k5 ?k6 ?k7 ?_; (case k1 => k_asm); (case k2 => k_mem); (case k3 => k_mem); (case k4 => assumption); (case k5 => assumption); (case k6 => first | assumption | exact srt_ok (keyL_req _ _ _ _)); (case k7 => exact Nat.le_of_ble_eq_true rfl); k_whole)))
local macro_rules | `(tactic| walk_at "compareOp NotEq ref ref") => `(tactic| (k_here; k_dflt (refine' ne_pair ?k1 ?k2 ?k3 ?a1 ?a2 ?a3 ?a4 ?k4 ?k5 ?o1 ?o2 ?k7 ?_; (case k1 => k_asm); (case k2 => k_mem); (case k3 => k_mem); (case a1 => k_mem); (case a2 => k_mem); (case a3 => k_mem); (case a4 => k_mem); (case k4 => assumption); (case k5 => assumption); (case o1 => assumption); (case o2 => assumption); (case k7 => exact Nat.le_of_ble_eq_true rfl); k_whole)))
local macro_rules | `(tactic| walk_at "compareOp NotEq ref ref") => `(tactic| (k_here; k_dflt (refine' ne_mat ?k1 ?k2 ?k3 ?k4 ?k5 ?s1 ?s2 ?k6 ?k7 ?_; (case k1 => k_asm); (case k2 => k_mem); (case k3 => k_mem); (case k4 => assumption); (case k5 => assumption); (case s1 => first | assumption | (repeat' (first | assumption | refine sub_tail ?_ | refine sub_right ?_))); (case s2 => first | assumption | (repeat' (first | assumption | refine sub_tail ?_ | refine sub_right ?_))); (case k6 => assumption); (case k7 => exact Nat.le_of_ble_eq_true rfl); k_whole)))
local macro_rules | `(tactic| walk_at "call builtin:sorted") => `(tactic| (k_here; (with_reducible show wpAny _ _ (call (Value.builtin _) [Value.ref _]) _ _ _); k_dflt (refine' sorted_keys ?k1 ?k2 ?k3 ?k4 ?k5 ?_; (case k1 => k_asm); (case k2 => k_asm); (case k3 => k_mem); (case k4 => assumption); (case k5 => first | assumption | exact keyL_req _ _ _ _); k_whole); intro D' its' n' h' F' N' l1 tx'; (try k_lt l1); (try k_sweep)))
-- part FitC
section
example : True := by
  w_top off
  trivial
section
variable {prog : Program} {w : World} {p : Program} {loose : List Str} {mean : ExcName → Option Value} {mg mb : Str → Option Value}
    {base h₀ : Heap} {L a : Addr} {m : Str → Option Value} {news : List (Addr × Obj)} {s : Shared} {Q : Value → Shared → Prop} {E : Value → Shared → Prop}
    {cn : Str} {cs : Scope} {ccd : Value} {e1 : Env} {f g : Str} {t1 t2 : Tok} {ow ini : Bool}

theorem texts_eq {vs : List Value} {xs ys : List Str} (h : xs = ys) (t : Texts vs xs) : Texts vs ys := h ▸ t
/-- none of the ledger lies at the iterator -/
noncomputable def OffL (I : Addr) (news : List (Addr × Obj)) : Prop := ∀ p ∈ news, p.1 ≠ I
theorem iter_two {env : Env} {x : Str} {body : List Stmt} {Q : Flow → Shared → Prop} {A : Around} {ax : Addr} {n : Nat} {m₀ : Str → Option Value} {b c : Value}
    (hh : A.handled = none) (F : Fr h₀ env.locals s.heap m₀) (N : News h₀ env.locals s.heap news) (hm : (ax, listOf #[b, c] n) ∈ news)
    (rest₀ : ∀ I : Addr, (∀ p ∈ news, p.1 < I) → OffL I news → ListRest prog w A E h₀ env x body Q s I (ax, listOf #[b, c] n) [b, c] m₀ news) :
    wpAny (model prog w) A (pyIter (.ref ax)) (fun it s₂ => LoopAtV prog w A h₀ env x body Q E it s₂) E s :=
  iter_listUnr (lo := listOf #[b, c] n) (vs := [b, c]) hh F N hm rfl rfl fun I l => rest₀ I l fun p hp e => by
    have := l p hp
    rw [e] at this
    exact Nat.lt_irrefl _ this
theorem unr_end {I : Addr} {it : Obj} {lp : Addr × Obj} {rest : (Str → Option Value) → List (Addr × Obj) → Prop} {s₁ : Shared} {h' : Heap} {tk : Nat} {m' : Str → Option Value} {all news' : List (Addr × Obj)} (off : OffL I news') (F : Fr h₀ L h' m') (N : News h₀ L h' all)
    (sub : ∀ p ∈ news', p ∈ all) (hI : (I, it) ∈ all) (hm : lp ∈ news') (r : rest m' news') : UnrEnd h₀ L s₁ I it (fun m' n' => lp ∈ n' ∧ rest m' n') { s₁ with heap := h', toks := tk } :=
  UnrEnd.intro F N news' (fun p hp => by
    rcases List.mem_cons.mp hp with rfl | hp
    · exact hI
    · exact sub p hp) off ⟨hm, r⟩
local macro_rules | `(tactic| walk_at "pyIter ref") => `(tactic| ((with_reducible show wpAny _ _ (pyIter (Value.ref _)) (fun it s₂ => LoopAtV _ _ _ _ _ _ _ _ _ it s₂) _ _); (with_unfolding_all refine iter_two (by rfl) (by assumption) (by assumption) (by k_mem) ?_); intro i' l1 o1; (try k_lt l1)))
local macro_rules | `(tactic| walk_at "UnrEnd") => `(tactic| (refine unr_end (by assumption) (by assumption) (by assumption) (by repeat' (first | exact sub_refl | refine sub_tail ?_)) (by k_mem) (by k_mem) ?_))
theorem len_name {nam : Str} {k : Int} {A : Around} (hl : (nam.length : Int) = k) (hsz : nam.length ≤ 8) (h : Q (.int k (s.toks + 1)) { s with toks := s.toks + 1 + 1 }) : wpAny (model prog w) A (call (.builtin "len") [.str nam t1]) Q E s :=
  P.len_str (by omega) (by rw [hl]; exact h)
local macro_rules | `(tactic| walk_at "call ref") => `(tactic| (k_here; (with_reducible show wpAny _ _ (call (Value.ref 63) _) _ _ _); k_dflt (refine' req_c ?c ?h1 ?h2 ?n0 ?n1 ?b ?k ?f ?x ?n ?t ?_; (case n => k_asm); (case c => assumption); (case h1 => k_mem); (case h2 => k_mem); (case n0 => assumption); (case n1 => assumption); (case b => k_asm); (case k => exact rfl); (case f => k_asm); (case x => k_asm); (case t => k_asm); k_whole); intro r' vs' c' h' tk' F' N' l1 tx'; (try dsimp only); (try k_lt l1); (try k_sweep)))
local macro_rules | `(tactic| walk_at "call ref") => `(tactic| (k_here; (with_reducible show wpAny _ _ (call (Value.ref 434) _) _ _ _); k_dflt (refine' keys_c ?b ?k ?f ?x ?n ?t ?_; (case n => k_asm); (case b => k_asm); (case k => exact rfl); (case f => k_asm); (case x => k_asm); (case t => k_asm); k_whole); intro r' vs' c' h' tk' F' N' l1 tx'; (try dsimp only); (try k_lt l1); (try ((rename ∀ i : Bool, keysK _ _ _ i = _ => hk9); replace tx' := texts_eq (hk9 _) tx')); (try k_sweep)))
local macro_rules | `(tactic| walk_at "call ref") => `(tactic| (k_here; (with_reducible show wpAny _ _ (call (Value.ref 42) _) _ _ _); k_dflt (refine' ini_c ?c ?h1 ?h2 ?h3 ?h4 ?h5 ?sa ?sb ?b ?k ?f ?x ?n ?t ?_; (case n => k_asm); (case c => assumption); (case h1 => k_mem); (case h2 => k_mem); (case h3 => k_mem); (case h4 => k_mem); (case h5 => k_mem); (case sa => assumption); (case sb => assumption); (case b => k_asm); (case k => exact rfl); (case f => k_asm); (case x => k_asm); (case t => k_asm); k_whole); intro r' c' h' tk' F' N' l1; (try dsimp only); (try k_lt l1); (try k_sweep)))
local macro_rules | `(tactic| walk_at "call ref") => `(tactic| (k_here; (with_reducible show wpAny _ _ (call (Value.ref 49) _) _ _ _); k_dflt (refine' res_c ?c ?h1 ?h2 ?h3 ?h4 ?h5 ?sa ?sb ?b ?k ?f ?x ?n ?t ?_; (case n => k_asm); (case c => assumption); (case h1 => k_mem); (case h2 => k_mem); (case h3 => k_mem); (case h4 => k_mem); (case h5 => k_mem); (case sa => assumption); (case sb => assumption); (case b => k_asm); (case k => exact rfl); (case f => k_asm); (case x => k_asm); (case t => k_asm); k_whole); intro r' c' h' tk' F' N' l1; (try dsimp only); (try k_lt l1); (try k_sweep)))
local macro_rules | `(tactic| walk_at "call ref") => `(tactic| (k_here; (with_reducible show wpAny _ _ (call (Value.ref 35) _) _ _ _); k_dflt (refine' has_c ?c ?h1 ?h2 ?h3 ?h4 ?h5 ?sa ?sb ?cd ?ne ?ps ?b ?k ?f ?x ?n ?t ?_; (case c => assumption); (case h1 => assumption); (case h2 => assumption); (case h3 => assumption); (case h4 => assumption); (case h5 => assumption); (case sa => assumption); (case sb => assumption); (case cd => assumption); (case ne => assumption); (case ps => assumption); (case n => exact news_sub (by k_asm) (by repeat' (first | exact sub_refl | refine sub_tail ?_))); (case b => k_asm); (case k => exact rfl); (case f => k_asm); (case x => k_asm); (case t => k_asm); k_whole); intro ps' ex' h' tk' F' N' ok'; (try dsimp only); (try k_sweep)))
local macro_rules | `(tactic| walk_at "call builtin:len") => `(tactic| (k_here; (with_reducible show wpAny _ _ (call (Value.builtin "len") [Value.str _ _]) _ _ _); k_dflt (refine' len_name ?k1 ?k2 ?_; (case k1 => assumption); (case k2 => omega); k_whole)))
theorem fits_two {x C d : Addr} {k1 k2 k3 k4 k5 : Tok} {pm tk pa pb rw ah aa ab : Addr} {nam : Str} {cnt : Int} {cp ca cb ct cr cah na nb : Nat} {va vb wa wb refs refs2 : Array Value} {cells1 cells2 : List (Addr × Obj)} {css : List (List Str)} {xa xb : List Str} {ps : Array Value} {ex : List (Addr × Obj)} {t3 t4 : Tok} {c0 : Nat}
    (hC : C ∈ classes) (h1 : (x, instObj C d) ∈ news) (h2 : (d, dictOf (pdict w.params k1 k2 k3 k4 k5 t1 t2 pm tk nam false cnt) 5) ∈ news)
    (h3 : (pm, listOf #[.ref pa, .ref pb] cp) ∈ news) (h4 : (pa, listOf va ca) ∈ news) (h5 : (pb, listOf vb cb) ∈ news) (h6 : (tk, listOf refs ct) ∈ news) (h7 : (rw, listOf refs2 cr) ∈ news) (h8 : (ah, listOf #[.ref aa, .ref ab] cah) ∈ news) (h9 : (aa, listOf wa na) ∈ news) (h10 : (ab, listOf wb nb) ∈ news)
    (M1 : Mat refs.toList css cells1) (M2 : Mat refs2.toList css cells2) (u1 : ∀ p ∈ cells1, p ∈ news) (u2 : ∀ p ∈ cells2, p ∈ news) (ta : Texts va.toList xa) (tb : Texts vb.toList xb) (tc : Texts wa.toList xa) (td : Texts wb.toList xb)
    (oa : Ok1 xa) (ob : Ok1 xb) (oc : Ok2 css) (sa : va.size ≤ 8) (sb : vb.size ≤ 8) (hlen : (nam.length : Int) = 2) (hn0 : nam.cps[0]? = some c0) {c1 : Nat} (hn1 : false = false → nam.cps[1]? = some c1) (hn2 : nam.cps[1]? = some c1)
    (hkeys : ∀ i : Bool, keysK (Txt.item nam 0) (Txt.item nam 1) ((2 : Int) == 1) i = reqK ⟨#[c0]⟩ ⟨#[c1]⟩ false i) (hcd : CodeHd base (34, 30).1 (34, 30).2) (hne : ∀ p ∈ news, p.1 ≠ 30) (hps : TabOK ps ex)
    (B : Below callerA base [] h₀) (hk : cs.kind = .function) (F : Fr h₀ L s.heap m) (X : (hd.heap_39 w.params).In h₀) (N : News h₀ L s.heap ((30, tabObj ps) :: (ex ++ news))) (T : Top p loose mean mg mb h₀)
    (hret : ∀ ps' ex' h' tk', Fr h₀ L h' m → News h₀ L h' ((30, tabObj ps') :: (ex' ++ news)) → TabOK ps' ex' → Q (.bool true) { s with heap := h', toks := tk' }) :
    wpAny (model prog w) (callerA.deeper (envOf cn cs L a ccd)) (call (.ref 441) [.ref x, .str nam t3, .ref rw, .ref ah, .int cnt t4]) Q E s := by
  refine wpAny_call ?_
  k_dflt cell_enter
  k_steps
  all_goals first
    | (refine hret _ _ _ _ (by assumption) (news_sub (by assumption) ?_) (by assumption); repeat' (first | exact sub_refl | refine sub_tail ?_))
    | (exfalso; (first | (have q : (nam != nam) = true := (by assumption); simp at q; done) | (have q : cnt ≠ cnt := (by assumption); simp at q; done) | (have q : ((decide (0 < va.size) || decide (0 < vb.size)) != (decide (0 < wa.size) || decide (0 < wb.size))) = true := (by assumption); rw [ta.size.trans tc.size.symm, tb.size.trans td.size.symm] at q; simp at q; done)))
-- part FitD
example : True := by
  w_top off
  trivial
theorem fits_one {x C d : Addr} {k1 k2 k3 k4 k5 : Tok} {pm tk pa pb rw ah aa ab : Addr} {nam : Str} {cnt : Int} {cp ca cb ct cr cah na nb : Nat} {va vb wa wb refs refs2 : Array Value} {cells1 cells2 : List (Addr × Obj)} {css : List (List Str)} {xa xb : List Str} {ps : Array Value} {ex : List (Addr × Obj)} {t3 t4 : Tok} {c0 : Nat}
    (hC : C ∈ classes) (h1 : (x, instObj C d) ∈ news) (h2 : (d, dictOf (pdict w.params k1 k2 k3 k4 k5 t1 t2 pm tk nam true cnt) 5) ∈ news)
    (h3 : (pm, listOf #[.ref pa, .ref pb] cp) ∈ news) (h4 : (pa, listOf va ca) ∈ news) (h5 : (pb, listOf vb cb) ∈ news) (h6 : (tk, listOf refs ct) ∈ news) (h7 : (rw, listOf refs2 cr) ∈ news) (h8 : (ah, listOf #[.ref aa, .ref ab] cah) ∈ news) (h9 : (aa, listOf wa na) ∈ news) (h10 : (ab, listOf wb nb) ∈ news)
    (M1 : Mat refs.toList css cells1) (M2 : Mat refs2.toList css cells2) (u1 : ∀ p ∈ cells1, p ∈ news) (u2 : ∀ p ∈ cells2, p ∈ news) (ta : Texts va.toList xa) (tb : Texts vb.toList xb) (tc : Texts wa.toList xa) (td : Texts wb.toList xb)
    (oa : Ok1 xa) (ob : Ok1 xb) (oc : Ok2 css) (sa : va.size ≤ 8) (sb : vb.size ≤ 8) (hlen : (nam.length : Int) = 1) (hn0 : nam.cps[0]? = some c0) {c1 : Nat} (hn1 : true = false → nam.cps[1]? = some c1) 
    (hkeys : ∀ i : Bool, keysK (Txt.item nam 0) (Str.ofString "N") ((1 : Int) == 1) i = reqK ⟨#[c0]⟩ ⟨#[c1]⟩ true i) (hcd : CodeHd base (34, 30).1 (34, 30).2) (hne : ∀ p ∈ news, p.1 ≠ 30) (hps : TabOK ps ex)
    (B : Below callerA base [] h₀) (hk : cs.kind = .function) (F : Fr h₀ L s.heap m) (X : (hd.heap_39 w.params).In h₀) (N : News h₀ L s.heap ((30, tabObj ps) :: (ex ++ news))) (T : Top p loose mean mg mb h₀)
    (hret : ∀ ps' ex' h' tk', Fr h₀ L h' m → News h₀ L h' ((30, tabObj ps') :: (ex' ++ news)) → TabOK ps' ex' → Q (.bool true) { s with heap := h', toks := tk' }) :
    wpAny (model prog w) (callerA.deeper (envOf cn cs L a ccd)) (call (.ref 441) [.ref x, .str nam t3, .ref rw, .ref ah, .int cnt t4]) Q E s := by
  refine wpAny_call ?_
  k_dflt cell_enter
  k_steps
  all_goals first
    | (refine hret _ _ _ _ (by assumption) (news_sub (by assumption) ?_) (by assumption); repeat' (first | exact sub_refl | refine sub_tail ?_))
    | (exfalso; (first | (have q : (nam != nam) = true := (by assumption); simp at q; done) | (have q : cnt ≠ cnt := (by assumption); simp at q; done) | (have q : ((decide (0 < va.size) || decide (0 < vb.size)) != (decide (0 < wa.size) || decide (0 < wb.size))) = true := (by assumption); rw [ta.size.trans tc.size.symm, tb.size.trans td.size.symm] at q; simp at q; done)))
end
end
-- part JCau
section
open PySem.Spec
/-- an exception with a traceback, raised while nothing was handled -/
noncomputable def TrN (h base : Heap) (e : Addr) (cls fl : Value) : Prop :=
  ∃ oe vs T oT ts, h.get? e = some oe ∧ (oe.cls = cls ∧ vs[2]? = some .none) ∧ oe.data = .fields vs ∧ vs[1]? = some (.ref T) ∧ base.get? T = none ∧ T ≠ e ∧ h.get? T = some oT ∧ oT.data = .fields ts ∧ ts[3]? = some fl
section
variable {M : Model} {A : Around} {E : Value → Shared → Prop} {s : Shared}
theorem note_new {base : Heap} {env : Env} {outer : List Env} {L e : Addr} {oe : Obj} {vs : Array Value} {Q : Unit → Shared → Prop}
    (hfr : A.frames = some (env :: outer)) (hl : s.heap.FunFrames base (env :: outer)) (hf : env.frame = some L)
    (he : s.heap.get? e = some oe) (hkb : base.StaysIn s.heap) (hen : base.get? e = none) (hd : oe.data = .fields vs) (h1 : vs[1]? = some .none) (h2 : vs[2]? = some .none)
    (h : ∀ h', base.StaysIn h' → h'.FunFrames base (env :: outer) → TrN h' base e oe.cls (rawInt L) → s.heap.UpToSlots h' → Q () { s with heap := h' }) :
    wpAny M A (noteFrame (.ref e) env) Q E s := by
  have hsz : 1 < vs.size := (Array.getElem?_eq_some_iff.mp h1).1
  have offE : e ∉ (env :: outer).filterMap (·.frame) := fun hm => by
    obtain ⟨_, o, ho, hnf⟩ := hl.mem hm
    rw [he] at ho
    cases ho
    exact hnf vs hd
  unfold noteFrame
  simp only [hf]
  refine wpAny_bind (wpAny_field he hd h1 ?_)
  rw [if_neg (by decide)]
  refine wpAny_bind (wpAny_frameOf_fun hfr hl hf fun g hs => ?_)
  refine wpAny_bind (wpAny_entryPlaceOf fun pl hpl => ?_)
  unfold EntryCells.newEntry newFields
  refine wpAny_bind (wpAny_newObj_type ?_ (hpl.sizeOk5 _ _ _ _ _))
  have heg : g.get? e = some oe := (hs.2.1 e offE).trans he
  have hkg : base.StaysIn g := fun b o hb => (hs.2.1 b fun hm => by rw [(hl.mem hm).1] at hb; cases hb).trans (hkb b o hb)
  refine wpAny_setField (Heap.get?_push_of_some _ heg) hd hsz ?_
  have hne : g.objs.size ≠ e := Nat.ne_of_gt (Heap.lt_size heg)
  have other : ∀ b o, s.heap.get? b = some o → (∀ ws, o.data ≠ .fields ws) → b ≠ e := fun b o hb hn q => by
    rw [q, he] at hb
    cases hb
    exact hn vs hd
  have hdm := Obj.data_mapFields hd (·.setIfInBounds 1 (Value.ref g.objs.size))
  have keep : ∀ b o, b ≠ e → g.get? b = some o → ((g.push { cls := .type "traceback", dict := none, data := .fields ([Value.none, .ref L, .none, rawInt L, .none] ++ (if pl.isEmpty then List.replicate 6 Value.none else pl)).toArray }).update e (Obj.mapFields (·.setIfInBounds 1 (Value.ref g.objs.size)))).get? b = some o := fun b o hb ho => by
    rw [Heap.get?_update_other _ _ (Ne.symm hb)]
    exact Heap.get?_push_of_some _ ho
  refine h _ (fun b o hb => keep b o (fun q => by rw [q, hen] at hb; cases hb) (hkg b o hb)) (hl.of_keeps fun b o hb hn => ?_) ?_ fun b o hb hn => ?_
  · obtain ⟨sl, hsl⟩ := hs.2.2 b o hb
    exact ⟨_, keep b _ (other b o hb hn) hsl, rfl⟩
  · refine ⟨_, _, g.objs.size, _, _, Heap.get?_update_self _ (Heap.get?_push_of_some _ heg) (Obj.isFreed_of_fields hdm), ⟨Obj.cls_mapFields _ _, ?_⟩, hdm, by simp [hsz], hkg.fresh, hne, (Heap.get?_update_other _ _ (Ne.symm hne)).trans (Heap.get?_push_size g rfl), rfl, rfl⟩
    rw [Array.getElem?_setIfInBounds_ne (by decide)]
    exact h2
  · obtain ⟨sl, hsl⟩ := hs.2.2 b o hb
    exact ⟨sl, keep b _ (other b o hb hn) hsl⟩
theorem land_new {base : Heap} {l : List Env} {e : Addr} {cls fl : Value} {Q : Unit → Shared → Prop} (hkb : base.StaysIn s.heap) (hl : s.heap.FunFrames base l) (ht : TrN s.heap base e cls fl)
    (h : ∀ h', base.StaysIn h' → h'.FunFrames base l → TrN h' base e cls .none → s.heap.UpToSlots h' → Q () { s with heap := h' }) : wpAny M A (setFlight (.ref e) none) Q E s := by
  obtain ⟨oe, vs, T, oT, ts, he, hc, hd, h1, hn, hne, hT, hdT, h3⟩ := ht
  have hsz : 3 < ts.size := (Array.getElem?_eq_some_iff.mp h3).1
  have other : ∀ b o, s.heap.get? b = some o → (∀ ws, o.data ≠ .fields ws) → b ≠ T := fun b o hb hn' q => by
    rw [q, hT] at hb
    cases hb
    exact hn' ts hdT
  have at' : ∀ b, b ≠ T → ∀ f : Obj → Obj, (s.heap.update T f).get? b = s.heap.get? b := fun b hb f => Heap.get?_update_other _ _ (Ne.symm hb)
  unfold setFlight
  refine wpAny_bind (wpAny_field he hd h1 ?_)
  rw [if_pos (show (Value.ref T != Value.none) = true from by simp)]
  refine wpAny_setField hT hdT hsz (h _ (fun b o hb => (at' b (fun q => by rw [q, hn] at hb; cases hb) _).trans (hkb b o hb)) (hl.of_keeps fun b o hb hnf => ⟨o, (at' b (other b o hb hnf) _).trans hb, rfl⟩) ?_ fun b o hb hnf => ⟨o.slots, (at' b (other b o hb hnf) _).trans hb⟩)
  exact ⟨oe, vs, T, _, _, (at' e (Ne.symm hne) _).trans he, hc, hd, h1, hn, hne, Heap.get?_update_self _ hT (Obj.isFreed_of_fields (Obj.data_mapFields hdT _)), Obj.data_mapFields hdT _, by simp [hsz]⟩
end
/-- an exception that lies handled and whose context is none -/
structure Handled0 (h : Heap) (e : Addr) : Prop where
  out : ∃ oe vs, h.get? e = some oe ∧ oe.data = .fields vs ∧ vs[2]? = some .none
section
variable {prog : Program} {w : World} {A₀ : Around} {E : Value → Shared → Prop} {s' : Shared} {base g g₀ h : Heap} {outer : List Env} {L a e : Addr} {m : Str → Option Value} {name : Str} {scope : Scope} {cd : Value}
  {b₀ : Stmt} {suite : List Stmt} {pos np : Pos} {rest : List ExceptHandler} {Q : Flow → Shared → Prop} {news : List (Addr × Obj)} {KF : Frag}
  {p : Program} {loose : List Str} {mean : ExcName → Option Value} {mg mb : Str → Option Value} {x : Str} {X T' : String}

/-- an exception that a built-in raised, caught by the own try of a def that the law called -/
theorem caught_M0 (hM : Heap.NewExc h s'.heap e X) (F : Fr g L h m) (N : News g L h news) (K : Below A₀ base outer g) (XB : KF.In base) (TB : Top p loose mean mg mb base)
    (D : KtsDicts (outer.filterMap (·.frame)) g)
    (ex : nsIn KF mainGlobals x = some none) (hv : bootBuiltins x = some (.type T')) (hn' : x ≠ "__name__")
    (hexc : isSubtype (.type T') (.type "BaseException") = pure true) (hnt : isSubtype (.type ((Manifest.find? T').elim "type" fun y => y.metatype)) (.type "tuple") = pure false) (hsub : isSubtype (.type X) (.type T') = pure true)
    (k : ∀ h' g', KtsTurn (outer.filterMap (·.frame)) g g' → Fr g' L h' m → News g' L h' news → Below A₀ base outer g' → KF.In g' → Top p loose mean mg mb g' → KtsDicts (outer.filterMap (·.frame)) g' → Handled0 h' e →
      wpAny (model prog w) ((A₀.deeper (envOf name scope L a cd)).mark (some (.ref e))) (execs (b₀ :: suite) (envOf name scope L a cd)) Q E { s' with heap := h' })
    (hk : scope.kind = .function := by rfl) (hx : (envOf name scope L a cd).kindOf x = some .globalImplicit := by rfl) (hd : (x == ("__debug__" : Str)) = false := by decide)
    (hE : PassesOwnAt (model prog w) ((A₀.deeper (envOf name scope L a cd)).mark (some (.ref e))) (A₀.deeper (envOf name scope L a cd)) (envOf name scope L a cd) E := by passes_own) :
    wpAny (model prog w) (A₀.deeper (envOf name scope L a cd)) (noteFrame (.ref e) (envOf name scope L a cd))
      (fun _ s₂ => wpAny (model prog w) (A₀.deeper (envOf name scope L a cd)) (setFlight (.ref e) none) (fun _ s₃ =>
        wpAny (model prog w) (A₀.deeper (envOf name scope L a cd)) (handleBy (.ref e) (envOf name scope L a cd) (.ExceptHandler (some (.Name x np)) none (b₀ :: suite) pos :: rest)) Q E s₃) E s₂) E s' := by
  have K' := K.push (name := name) (a := a) (cd := cd) F hk
  have hin : ∀ env ∈ (envOf name scope L a cd :: outer), ∀ b, env.frame = some b → b ∈ (envOf name scope L a cd :: outer).filterMap (·.frame) := fun env he b hb => List.mem_filterMap.mpr ⟨env, he, hb⟩
  obtain ⟨ob, tp, he, hcls, hdt⟩ := hM.there
  have hen : (hideAll h ((envOf name scope L a cd :: outer).filterMap (·.frame))).get? e = none := by
    cases q : (hideAll h ((envOf name scope L a cd :: outer).filterMap (·.frame))).get? e with
    | none => rfl
    | some o => have := of_hideAll _ q; rw [hM.new] at this; cases this
  have hBG : ∀ b o, h.get? b = some o → b ∉ (envOf name scope L a cd :: outer).filterMap (·.frame) → (hideAll h ((envOf name scope L a cd :: outer).filterMap (·.frame))).get? b = some o := fun b o q nm => hideAll_get _ q nm
  have hl : ∀ q ∈ news, (hideAll h ((envOf name scope L a cd :: outer).filterMap (·.frame))).get? q.1 = some q.2 ∧ g.get? q.1 = none := fun q hq => by
    refine ⟨hideAll_get _ (N q hq).1 fun hm => ?_, (N q hq).2.2⟩
    obtain ⟨env, he, hf⟩ := List.mem_filterMap.mp hm
    rcases List.mem_cons.mp he with rfl | he
    · exact (N q hq).2.1 (Option.some.inj hf).symm
    · obtain ⟨o, ho, _⟩ := (K.frames.mem (List.mem_filterMap.mpr ⟨env, he, hf⟩)).2
      rw [(N q hq).2.2] at ho; cases ho
  have hL : (hideAll h ((envOf name scope L a cd :: outer).filterMap (·.frame))).get? L = none := hideAll_none _ (List.mem_filterMap.mpr ⟨_, List.mem_cons_self, rfl⟩)
  have hfu : s'.heap.FunFrames (hideAll h ((envOf name scope L a cd :: outer).filterMap (·.frame))) (envOf name scope L a cd :: outer) := (funFrames_hide K'.frames hin).of_keeps fun b o hb _ => ⟨o, hM.keeps b o hb, rfl⟩
  have hsm : h.UpToSlots s'.heap := Heap.UpToSlots.of_keeps hM.keeps
  refine note_new (Around.frames_deeper K.stack) hfu rfl he (fun b o hb => hM.keeps b o (of_hideAll _ hb)) hen hdt rfl rfl fun h₄ n1 n2 n3 n4 => ?_
  refine land_new n1 n2 n3 fun h₅ l1 l2 l3 l4 => ?_
  have hsm₅ := hsm.trans (Heap.UpToSlots.trans n4 l4)
  obtain ⟨g₅, T₅, F₅, K₅⟩ := kts_ground K F hBG l1 hsm₅
  have X₅ : KF.In g₅ := XB.keeps K₅.stays
  have P₅ : TopRead p loose mg mb g₅ := topRead_of (TB.keeps K₅.stays)
  have l3' := l3
  obtain ⟨ob', _, _, _, _, hob, ⟨hobc, _⟩, _⟩ := l3'
  refine wpAny_handleBy_builtin (X := X) (T := T') (b := true) hexc hnt hsub (name_B F₅ X₅ P₅ ex hv hn' ⟨rfl, ⟨ob', hob, hobc.trans hcls⟩, ?_⟩ hk hx hd)
  refine land_new l1 l2 l3 fun h₆ r1 r2 r3 r4 => ?_
  obtain ⟨g₆, T₆, F₆, K₆⟩ := kts_ground K F hBG r1 (hsm₅.trans r4)
  have Nl : News g₆ L h₆ news := fun q hq => ⟨r1 _ _ (hl q hq).1, (fun z => by have := (hl q hq).1; rw [z, hL] at this; cases this), T₆.none_ _ (hl q hq).2⟩
  obtain ⟨oe, vs, _, _, _, z1, ⟨_, z2⟩, z3, _⟩ := r3
  exact wpAny_passesOwnAt hE (k h₆ g₆ T₆ F₆ Nl K₆ (XB.keeps K₆.stays) (TB.keeps K₆.stays) (D.turn T₆) ⟨⟨oe, vs, z1, z3, z2⟩⟩)
end
section
variable {prog : Program} {w : World} {A : Around} {E : Value → Shared → Prop} {s : Shared} {env : Env}
/-- what is raised while e₀ is handled: a new exception -/
structure RaisableIn (e₀ : Addr) (E : Value → Shared → Prop) (v : Value) (s₁ : Shared) : Prop where
  out : ∃ a ob vs X N I, ExcClass X N I ∧ v = .ref a ∧ s₁.heap.get? a = some ob ∧ ob.cls = .type X ∧ ob.data = .fields vs ∧ vs[1]? = some .none ∧ 2 < vs.size ∧ a ≠ e₀ ∧ Handled0 s₁.heap e₀ ∧ E (.ref a) { s₁ with heap := s₁.heap.update a (Obj.mapFields (·.setIfInBounds 2 (.ref e₀))) }
theorem unchain0 {a e₀ : Addr} {Q : Value → Shared → Prop} (H : Handled0 s.heap e₀) (h : Q .none s) : wpAny (model prog w) A (runValue (.builtin "proto.unchain" ⟨[.ref a, .ref e₀, .ref e₀, .bool false], []⟩)) Q E s := by
  obtain ⟨oe, vs, he, hd, h2⟩ := H.out
  refine wpAny_runValue (codeAny_builtin (b := Builtin.«proto.unchain») (entryFor_of_tree (by kernel_rfl)) ?_)
  show wpAny _ _ (do
    let context ← field (.ref e₀) 2
    if context == .none then return ← ret .none
    if context == .ref a then
      rule "raise.context-cycle-cut"
      setField (.ref e₀) 2 .none
      return ← ret .none
    if context == .ref e₀ then rule "raise.context-old-cycle"; return ← ret .none
    let slow ← if false then field (.ref e₀) 2 else pure (.ref e₀)
    again (.builtin "proto.unchain" ⟨[.ref a, context, slow, .bool !false], []⟩)) _ _ _
  refine wpAny_bind (wpAny_field he hd h2 ?_)
  dsimp only
  refine wpAny_of_eq (a := .done (.ret .none)) ?_ h
  rfl
theorem Raise_in {e : Expr} {pos : Pos} {Q : Flow → Shared → Prop} {e₀ : Addr} (hh : A.handled = some (.ref e₀))
    (h : wpAny (model prog w) A (eval e env) (RaisableIn e₀ E) E s) : wpAny (model prog w) A (exec (.Raise (some e) none pos) env) Q E s := by
  show wpAny _ A (do standAt pos; raiseStmt env (some (do let v ← eval e env; standAt pos; pure v)) none) Q E s
  refine wpAny_bind (wpAny_standAt ?_)
  unfold raiseStmt
  dsimp only
  refine wpAny_bind (wpAny_bind (wpAny_mono h (fun v s₁ h₁ => wpAny_bind (wpAny_standAt (wpAny_pure ?_))) fun _ _ x => x))
  obtain ⟨a, ob, vs, X, N, I, hc, rfl, ha, hcls, hd, h1, h2, hne, H0, hE⟩ := h₁.out
  have hT : s₁.TypeIs (.ref a) X := ⟨ob, ha, hcls⟩
  have hnt : ∀ {Q' : Bool → Shared → Prop}, Q' false s₁ → wpAny (model prog w) A (isType (.ref a)) Q' E s₁ := by
    intro Q' hq
    simp only [isType, loadHead]
    refine wpAny_bind (wpAny_loadPart ha ?_)
    rw [hd]; exact wpAny_pure hq
  refine wpAny_bind (wpAny_pure ?_)
  dsimp only
  refine wpAny_bind (wpAny_holding ?_)
  unfold excFromValue isExcClass
  refine wpAny_bind (wpAny_bind (hnt ?_))
  simp only [Bool.false_eq_true, if_false]
  refine wpAny_pure ?_
  simp only [Bool.false_eq_true, if_false]
  refine wpAny_bind (wpAny_isInstance hT hc.base ?_)
  simp only [if_true]
  refine wpAny_pure ?_
  refine wpAny_bind (hnt ?_)
  simp only [Bool.false_eq_true, if_false]
  unfold raisedInstance
  refine wpAny_bind (wpAny_bind (wpAny_typeOf hT (wpAny_bind (m := typeOf (.type X)) (wpAny_pure ?_))))
  rw [if_pos hc.metaType]
  refine wpAny_pure ?_
  unfold setFlight raiseNew
  refine wpAny_bind (wpAny_bind (wpAny_field ha hd h1 ?_))
  rw [if_neg (by decide)]
  refine wpAny_pure (wpAny_bind (wpAny_handled ?_))
  rw [hh]
  dsimp only
  rw [if_pos (by simp; exact fun q => hne q.symm)]
  refine wpAny_bind (wpAny_holding (unchain0 H0 ?_))
  show wpAny _ A (do setField (.ref a) 2 (.ref e₀); throw (.ref a)) Q E s₁
  refine wpAny_bind (wpAny_setField ha hd h2 ?_)
  exact wpAny_throw hE
end
section
variable {M : Model} {A : Around} {E : Value → Shared → Prop} {s' : Shared} {base g h : Heap} {outer : List Env} {L a e : Addr} {m : Str → Option Value} {name : Str} {scope : Scope} {cd : Value} {Q : Unit → Shared → Prop} {news : List (Addr × Obj)}
/-- a new exception with a context leaves a def -/
theorem leave_ctx {cls : Value} {ob : Obj} {vs : Array Value} {a0 : Value} (K : Below A base outer g) (hkeep : ∀ b o, h.get? b = some o → s'.heap.get? b = some o) (hnew : h.get? e = none) (he : s'.heap.get? e = some ob) (hcls : ob.cls = cls) (hd : ob.data = .fields vs) (h0 : vs[0]? = some a0) (h1 : vs[1]? = some .none) (F : Fr g L h m) (N : News g L h news)
    (hQ : ∀ h', RaisedN base outer e cls news h' → g.UpToSlots h' → Q () { s' with heap := h' }) (hk : scope.kind = .function := by rfl) :
    wpAny M (A.deeper (envOf name scope L a cd)) (leaving (envOf name scope L a cd) (.ref e)) Q E s' := by
  have K' := K.push (name := name) (a := a) (cd := cd) F hk
  have hin : ∀ env ∈ (envOf name scope L a cd :: outer), ∀ b, env.frame = some b → b ∈ (envOf name scope L a cd :: outer).filterMap (·.frame) := fun env he b hb => List.mem_filterMap.mpr ⟨env, he, hb⟩
  have st : base.StaysIn (hideAll h ((envOf name scope L a cd :: outer).filterMap (·.frame))) := fun b o q => hideAll_get _ (K'.stays b o q) fun hm => by
    rw [(K'.frames.mem hm).1] at q; cases q
  have hl : ∀ q ∈ news, (hideAll h ((envOf name scope L a cd :: outer).filterMap (·.frame))).get? q.1 = some q.2 ∧ base.get? q.1 = none := fun q hq => by
    refine ⟨hideAll_get _ (N q hq).1 fun hm => ?_, fresh_of_stays K.stays (N q hq).2.2⟩
    obtain ⟨env, he, hf⟩ := List.mem_filterMap.mp hm
    rcases List.mem_cons.mp he with rfl | he
    · exact (N q hq).2.1 (Option.some.inj hf).symm
    · obtain ⟨o, ho, _⟩ := (K.frames.mem (List.mem_filterMap.mpr ⟨env, he, hf⟩)).2
      rw [(N q hq).2.2] at ho; cases ho
  have hen : (hideAll h ((envOf name scope L a cd :: outer).filterMap (·.frame))).get? e = none := by
    cases q : (hideAll h ((envOf name scope L a cd :: outer).filterMap (·.frame))).get? e with
    | none => rfl
    | some o => have := of_hideAll _ q; rw [hnew] at this; cases this
  refine wpAny_leaving_firstW (a0 := a0) K'.stack ((funFrames_hide K'.frames hin).of_keeps fun b o hb _ => ⟨o, hkeep b o hb, rfl⟩) rfl he (fun b o hb => hkeep b o (of_hideAll _ hb)) hen hd h1 h0 fun h' hL => ?_
  obtain ⟨k1, ⟨_, _, k2⟩, k3, k4⟩ := hL
  exact hQ h' ⟨_, a0, st, hl, k1, hen, k2, by rw [← hcls]; exact k3⟩ (((Heap.UpToSlots.of_keeps F.keep).trans (Heap.UpToSlots.of_keeps hkeep)).trans k4)
end
section
variable {prog : Program} {w : World} {A₀ : Around} {E : Value → Shared → Prop} {s' : Shared} {h₀ h : Heap} {outer : List Env} {L a e : Addr} {m : Str → Option Value} {name : Str} {scope : Scope} {cd : Value}
  {b₀ : Stmt} {suite : List Stmt} {pos np : Pos} {rest : List ExceptHandler} {Q : Flow → Shared → Prop} {news : List (Addr × Obj)} {KF : Frag}
  {p : Program} {loose : List Str} {mean : ExcName → Option Value} {mg mb : Str → Option Value} {x : Str} {X T' : String}
/-- what a called def raised, caught by the law's own try -/
theorem caught_R0 (K : Below A₀ h₀ outer h₀) (F : Fr h₀ L h m) (hsm : h.UpToSlots s'.heap) (R : RaisedN h₀ (envOf name scope L a cd :: outer) e (.type X) news s'.heap) (XB : KF.In h₀) (TB : Top p loose mean mg mb h₀)
    (ex : nsIn KF mainGlobals x = some none) (hv : bootBuiltins x = some (.type T')) (hn' : x ≠ "__name__")
    (hexc : isSubtype (.type T') (.type "BaseException") = pure true) (hnt : isSubtype (.type ((Manifest.find? T').elim "type" fun y => y.metatype)) (.type "tuple") = pure false) (hsub : isSubtype (.type X) (.type T') = pure true)
    (k : ∀ h', Fr h₀ L h' m → News h₀ L h' news →
      wpAny (model prog w) ((A₀.deeper (envOf name scope L a cd)).mark (some (.ref e))) (execs (b₀ :: suite) (envOf name scope L a cd)) Q E { s' with heap := h' })
    (hk : scope.kind = .function := by rfl) (hx : (envOf name scope L a cd).kindOf x = some .globalImplicit := by rfl) (hd : (x == ("__debug__" : Str)) = false := by decide)
    (hE : PassesOwnAt (model prog w) ((A₀.deeper (envOf name scope L a cd)).mark (some (.ref e))) (A₀.deeper (envOf name scope L a cd)) (envOf name scope L a cd) E := by passes_own) :
    wpAny (model prog w) (A₀.deeper (envOf name scope L a cd)) (noteFrame (.ref e) (envOf name scope L a cd))
      (fun _ s₂ => wpAny (model prog w) (A₀.deeper (envOf name scope L a cd)) (setFlight (.ref e) none) (fun _ s₃ =>
        wpAny (model prog w) (A₀.deeper (envOf name scope L a cd)) (handleBy (.ref e) (envOf name scope L a cd) (.ExceptHandler (some (.Name x np)) none (b₀ :: suite) pos :: rest)) Q E s₃) E s₂) E s' := by
  obtain ⟨B, a0, hB, hl, hfl⟩ := R
  have hL : B.get? L = none := by
    obtain ⟨_, ⟨L', _, hf, hn', _⟩, _⟩ := hfl.2.2.1
    obtain rfl : L = L' := Option.some.inj hf
    exact hn'
  refine wpAny_looks_onW (Around.frames_deeper K.stack) rfl hfl fun h₄ held₄ u₄ => ?_
  refine wpAny_landsW held₄ fun h₅ held₅ u₅ => ?_
  have fl₅ := flyingW_base hB held₅
  have F₅ := F.of_stays fl₅.1 (hsm.trans (u₄.trans u₅))
  obtain ⟨ob, hob, hobc⟩ := fl₅.there
  refine wpAny_handleBy_builtin (X := X) (T := T') (b := true) hexc hnt hsub (name_B F₅ XB (topRead_of TB) ex hv hn' ⟨rfl, ⟨ob, hob, hobc⟩, ?_⟩ hk hx hd)
  refine lands_againW held₅ fun h₆ fl₆ u₆ => ?_
  have F₆ := F.of_stays (flyingW_base hB fl₆).1 ((hsm.trans (u₄.trans u₅)).trans u₆)
  exact wpAny_passesOwnAt hE (k h₆ F₆ fun q hq => ⟨fl₆.1 _ _ (hl q hq).1, (fun z => by have := (hl q hq).1; rw [z, hL] at this; cases this), (hl q hq).2⟩)
end
end
-- part ApC
section
example : True := by
  w_top off
  trivial
theorem raisedN_sub {base h : Heap} {l : List Env} {e : Addr} {cls : Value} {led led' : List (Addr × Obj)} (R : RaisedN base l e cls led h) (hs : ∀ p ∈ led', p ∈ led) : RaisedN base l e cls led' h := by
  obtain ⟨B, a0, hB, hl, hf⟩ := R
  exact ⟨B, a0, hB, fun q hq => hl q (hs q hq), hf⟩
noncomputable def placeK (css : List (List Str)) (d : Nat) : List (List Str) := if d = 0 then css.modify 0 (fun c => tS "psk" :: c) else css.modify (d - 1) (fun c => c ++ [tS "psk"])
noncomputable def placed (css : List (List Str)) (ks : List (Option Nat)) : List (List Str) := (ks.filterMap id).foldl placeK css
theorem placeK_len (css : List (List Str)) (d : Nat) : (placeK css d).length = css.length := by
  unfold placeK
  split <;> simp
theorem placed_len : ∀ (ks : List (Option Nat)) (css : List (List Str)), (placed css ks).length = css.length := by
  intro ks
  unfold placed
  generalize ks.filterMap id = l
  induction l with
  | nil => intro css; rfl
  | cons d l ih => intro css; rw [List.foldl_cons, ih, placeK_len]
theorem placed_next {css : List (List Str)} {ks : List (Option Nat)} {i d : Nat} (h : ks[i]? = some (some d)) : placed css (ks.take (i + 1)) = placeK (placed css (ks.take i)) d := by
  unfold placed
  rw [List.take_add_one, h]
  simp [List.filterMap_append, List.foldl_append]
theorem take_all {ks : List (Option Nat)} {i d : Nat} (h : ks[i]? = some (some d)) (ha : ∀ k ∈ ks.take i, k.isSome = true) : ∀ k ∈ ks.take (i + 1), k.isSome = true := by
  intro k hk
  rw [List.take_add_one, h] at hk
  rcases List.mem_append.mp hk with hk | hk
  · exact ha k hk
  · simp at hk; rw [hk]; rfl
noncomputable def Short (css : List (List Str)) (b : Nat) : Prop := ∀ r ∈ css, r.length ≤ b
theorem short_modify {f : List Str → List Str} {b : Nat} (hf : ∀ r, (f r).length ≤ r.length + 1) : ∀ {css : List (List Str)} {j : Nat}, Short css b → Short (css.modify j f) (b + 1)
  | [], j, _ => by intro r hr; simp at hr
  | c :: css, 0, h => by
    intro r hr
    rw [List.modify_zero_cons] at hr
    rcases List.mem_cons.mp hr with rfl | hr
    · have := hf c; have := h c List.mem_cons_self; omega
    · have := h r (List.mem_cons_of_mem _ hr); omega
  | c :: css, j + 1, h => by
    intro r hr
    rw [List.modify_succ_cons] at hr
    rcases List.mem_cons.mp hr with rfl | hr
    · have := h r List.mem_cons_self; omega
    · exact short_modify hf (fun r hr => h r (List.mem_cons_of_mem _ hr)) r hr
theorem short_place {css : List (List Str)} {d b : Nat} (h : Short css b) : Short (placeK css d) (b + 1) := by
  unfold placeK
  split
  · exact short_modify (fun r => by simp) h
  · exact short_modify (fun r => by simp) h
theorem short_at {css : List (List Str)} {b j : Nat} (h : Short css b) : (css.getD j []).length ≤ b := by
  rw [List.getD_eq_getElem?_getD]
  cases e : css[j]? with
  | none => simp
  | some r => exact h r (List.mem_of_getElem? e)
theorem mat_at {rs : List Value} {css : List (List Str)} {cells : List (Addr × Obj)} (M : Mat rs css cells) : ∀ {j : Nat}, j < css.length →
    ∃ pre post a its n, cells = pre ++ (a, listOf its n) :: post ∧ rs[j]? = some (.ref a) ∧ Texts its.toList (css.getD j []) ∧
      ∀ (f : List Str → List Str) (its' : Array Value) (n' : Nat), Texts its'.toList (f (css.getD j [])) → Mat rs (css.modify j f) (pre ++ (a, listOf its' n') :: post) := by
  induction M with
  | nil => intro j hj; simp at hj
  | @cons rs css cells a its cs n tx M ih =>
    intro j hj
    cases j with
    | zero => exact ⟨[], cells, a, its, n, rfl, rfl, by simpa using tx, fun f its' n' t => by rw [List.modify_zero_cons]; exact .cons (by simpa using t) M⟩
    | succ j =>
      obtain ⟨pre, post, a', its', n', e, hr, t, up⟩ := ih (j := j) (by simpa using hj)
      exact ⟨(a, listOf its n) :: pre, post, a', its', n', by rw [e]; rfl, by simpa using hr, by simpa using t, fun f its2 n2 t2 => by rw [List.modify_succ_cons]; exact .cons tx (up f its2 n2 (by simpa using t2))⟩
theorem texts_ins {its : Array Value} {xs : List Str} {y : Str} {t : Tok} (h : Texts its.toList xs) : Texts (kl_ins its.toList 0 (.str y t)).toArray.toList (y :: xs) := by
  have e : kl_ins its.toList 0 (.str y t) = .str y t :: its.toList := by simp [kl_ins]
  rw [e]
  exact .cons (by simpa using h)
theorem texts_push {its : Array Value} {xs : List Str} {y : Str} {t : Tok} (h : Texts its.toList xs) : Texts (its.push (.str y t)).toList (xs ++ [y]) := by
  rw [Array.toList_push]; exact texts_snoc h
theorem mat_len {rs : List Value} {css : List (List Str)} {cells : List (Addr × Obj)} (M : Mat rs css cells) : rs.length = css.length := by
  induction M with
  | nil => rfl
  | cons _ _ ih => simp [ih]
theorem rest_off {pre post news own : List (Addr × Obj)} {a d : Addr} {o od : Obj} (hnd : ((pre ++ (a, o) :: post).map (·.1)).Nodup) (hda : d ∉ (pre ++ (a, o) :: post).map (·.1)) (hno : ∀ p ∈ news, p.1 ≠ d ∧ p.1 ∉ (pre ++ (a, o) :: post).map (·.1))
    (hoff : OwnOff own (((d, od) :: ((pre ++ (a, o) :: post) ++ news)).map (·.1))) : a ≠ d ∧ (∀ p ∈ pre ++ post ++ news ++ own, p.1 ≠ a) ∧ ∀ p ∈ pre ++ post ++ news ++ own, p.1 ≠ d := by
  have hm : ∀ p ∈ pre ++ post, p.1 ∈ (pre ++ (a, o) :: post).map (·.1) := fun p hp => List.mem_map_of_mem (by
    rcases List.mem_append.mp hp with h | h
    · exact List.mem_append.mpr (.inl h)
    · exact List.mem_append.mpr (.inr (.tail _ h)))
  have hma : a ∈ (pre ++ (a, o) :: post).map (·.1) := by simp
  refine ⟨fun q => hda (q ▸ hma), fun p hp => ?_, fun p hp => ?_⟩
  · rcases List.mem_append.mp hp with hp | hp
    · rcases List.mem_append.mp hp with hp | hp
      · rw [List.map_append, List.map_cons, List.nodup_append] at hnd
        obtain ⟨_, n2, n3⟩ := hnd
        rcases List.mem_append.mp hp with hp | hp
        · exact n3 _ (List.mem_map_of_mem hp) a (.head _)
        · exact fun q => (List.nodup_cons.mp n2).1 (List.mem_map.mpr ⟨p, hp, q⟩)
      · exact fun q => (hno p hp).2 (by rw [q]; exact hma)
    · exact hoff p hp a (by simp)
  · rcases List.mem_append.mp hp with hp | hp
    · rcases List.mem_append.mp hp with hp | hp
      · exact fun q => hda (q ▸ hm p hp)
      · exact (hno p hp).1
    · exact hoff p hp d (by simp)
section
variable {prog : Program} {w : World} {p : Program} {loose : List Str} {mean : ExcName → Option Value} {mg mb : Str → Option Value}
    {base h₀ : Heap} {L a : Addr} {m : Str → Option Value} {news : List (Addr × Obj)} {s : Shared} {R : Result → Shared → Prop}
    {cn : Str} {cs : Scope} {ccd : Value} {e1 : Env} {f g : Str} {t1 t2 : Tok} {ow ini : Bool}
local macro_rules | `(tactic| walk_at "call builtin:str.replace") => `(tactic| (k_here; k_dflt (refine' replace1 ?a1 ?a2 ?a3 ?a4 ?a5 ?a6 ?a7 ?a8 ?a9 ?_; (case a1 => first | omega | (simp; done) | (simp; omega)); (case a2 => first | omega | (simp; done) | (simp; omega)); (case a3 => first | omega | (simp; done) | (simp; omega)); (case a4 => decide); (case a6 => decide); (case a5 => exact PskW.oc (by assumption)); (case a7 => exact PskW.tl (by assumption)); (case a8 => exact PskW.gl (by assumption)); (case a9 => exact Nat.le_trans (PskW.le (by assumption)) (by decide)); k_whole); intro t9 k9))
local macro_rules | `(tactic| walk_at "subscriptTail") => `(tactic| (k_here; (with_reducible show wpAny _ _ (subscriptTail _ _ (Value.ref _) (Value.int _ _)) _ _ _); k_dflt (refine' item_cell ?k1 ?k2 ?k3 ?k4 ?k5 ?_; (case k1 => k_asm); (case k2 => k_mem); (case k3 => omega); (case k4 => omega); (case k5 => assumption); k_whole)))
local macro_rules | `(tactic| walk_at "call builtin:list.insert") => `(tactic| (k_here; (with_reducible show wpAny _ _ (call (Value.builtin _) [Value.ref _, Value.int _ _, _]) _ _ _); k_dflt (refine' kl_insert ?F ?N ?f ?e ?U ?z ?_; (case F => k_asm); (case N => k_asm); (case f => rfl); (case e => exact rfl); (case U => k_upd); (case z => first | assumption | (rw [Array.length_toList, PySem.sizeLine_eq]; omega)); k_whole); intro h' F' N'; (try k_sweep)))
/-- the pattern's part of the ledger -/
structure PatAt (led news : List (Addr × Obj)) (es : Tok → Int → List DictEntry) (d : Addr) (refs : Array Value) (adr : List Addr) (css : List (List Str)) (cnt : Int) : Prop where
  mk :: at_ : ∃ cells t, led = (d, dictOf (es t cnt) 5) :: (cells ++ news) ∧ Mat refs.toList css cells ∧ cells.map (·.1) = adr
theorem apply_c {x C d wl tka pm : Addr} {k1 k2 k3 k4 k5 : Tok} {nam : Str} {cnt : Int} {ct nw : Nat} {refs ws : Array Value} {cells : List (Addr × Obj)} {css : List (List Str)}
    (hC : C ∈ classes) (h1 : (x, instObj C d) ∈ news) (h6 : (tka, listOf refs ct) ∈ news) (hw : (wl, listOf ws nw) ∈ news) (M : Mat refs.toList css cells) {ks : List (Option Nat)} (hkl : ks.length = ws.toList.length) (hws : ws.size ≤ 5) (hW : ∀ (i : Nat) v, ws.toList[i]? = some v → ∃ y u k, v = .str y u ∧ ks[i]? = some k ∧ y.length ≤ 20 ∧ Word css.length y k)
    (hsh : Short css 8) (hcl : css.length ≤ 3) (hcl0 : 0 < css.length) (hda : d ∉ cells.map (·.1)) (hnd : (cells.map (·.1)).Nodup) (hno : ∀ p ∈ news, p.1 ≠ d ∧ p.1 ∉ cells.map (·.1))
    (B : Below callerA base [] h₀) (hk : cs.kind = .function) (F : Fr h₀ L s.heap m) (X : (hd.heap_39 w.params).In h₀)
    (N : News h₀ L s.heap ((d, dictOf (pdict w.params k1 k2 k3 k4 k5 t1 t2 pm tka nam ow cnt) 5) :: (cells ++ news))) (T : Top p loose mean mg mb h₀)
    (Xb : (hd.heap_39 w.params).In base) (Tb : Top p loose mean mg mb base)
    (hbad : ∀ (i : Nat) g' e h' tka' led, ks[i]? = some none → (∀ k ∈ ks.take i, k.isSome = true) → Fr h₀ L g' m → RaisedN base [envOf cn cs L a ccd] e (.type "ValueError") led h' → g'.UpToSlots h' →
      PatAt led news (fun t c => pdict w.params k1 k2 k3 k4 k5 t1 t pm tka nam ow c) d refs (cells.map (·.1)) (placed css (ks.take i)) (cnt + i) → R (.error (.ref e)) { s with heap := h', toks := tka' })
    (hok : ∀ h' tka' led, (∀ k ∈ ks, k.isSome = true) → Fr h₀ L h' m → News h₀ L h' led → PatAt led news (fun t c => pdict w.params k1 k2 k3 k4 k5 t1 t pm tka nam ow c) d refs (cells.map (·.1)) (placed css ks) (cnt + ks.length) → R (.ok (.ret .none)) { s with heap := h', toks := tka' }) :
    codeR (model prog w) (callerA.deeper (envOf cn cs L a ccd)) (.call (.ref 56) ⟨[.ref x, .ref wl], []⟩) R s := by
  (refine' code_defR0 ?k1 ?k2 ?k3 ?k4 ?k5 ?kA ?k6 ?k7 ?k8 ?k9 ?kB ?_ ?cK ?c2 ?c3 ?c4 ?c5; (case kA => exact rfl); (case k2 => k_asm); (case k1 => k_asm); (case k3 => k_asm); (case k4 => k_asm); (case k5 => k_asm); (case k6 => k_is); (case k7 => k_is); (case k8 => k_room); (case k9 => first | exact binds_K (by k_in) rfl (by k_is) rfl rfl rfl | exact BindsTo.of_eq rfl); (case kB => exact locs rfl); (case cK => first | assumption | exact rfl); (case c2 => exact rfl); (case c3 => exact rfl); (case c4 => exact rfl); (case c5 => decide); intro g' L' h' FG' F' N' B' X' T' D'; (try dsimp only))
  refine wpR_execs_cons ?_
  refine For_R g' (by rfl) (by rfl) ?_
  k_steps
  refine iter_R (vs := ws.toList) (nn := nw) (fun i m₁ nx => m₁ (Str.ofString "self") = some (.ref x) ∧ (∀ k ∈ ks.take i, k.isSome = true) ∧ Short (placed css (ks.take i)) (8 + i) ∧ PatAt nx news (fun t c => pdict w.params k1 k2 k3 k4 k5 t1 t pm tka nam ow c) d refs (cells.map (·.1)) (placed css (ks.take i)) (cnt + i)) (by rfl) (by k_mem) F' N' ⟨rfl, by simp, by simpa [placed] using hsh, ⟨⟨cells, t2, by simp, by simpa [placed] using M, rfl⟩⟩⟩ ?_ ?_
  · rintro i v m₁ nx hh tk9 own hv hoff hl9 ⟨hself, hall, hsh9, ⟨cells', t9, rfl, M9, hadr⟩⟩ F9 N9
    obtain ⟨y, u, k, rfl, hki, hyl, hword⟩ := hW i v hv
    have hi5 : i < 5 := by
      have := (List.getElem?_eq_some_iff.mp hv).1
      rw [Array.length_toList] at this
      omega
    have hpl : (placed css (ks.take i)).length = css.length := placed_len _ _
    have F8 := fr_as (m' := fun z => if z = Str.ofString "modifier" then some (.str y u) else if z = Str.ofString "self" then some (.ref x) else m₁ z) F9 (by
      funext z
      by_cases e1 : z = Str.ofString "modifier"
      · rw [if_pos e1, if_pos e1]
      · rw [if_neg e1, if_neg e1]
        by_cases e2 : z = Str.ofString "self"
        · rw [if_pos e2, e2, hself]
        · rw [if_neg e2])
    clear F9 F' N'
    have hrs : refs.size = css.length := by rw [← Array.length_toList, mat_len M]
    cases hword with
    | other hst hne =>
      refine wpR_of ?_
      k_steps
      refine hbad i _ _ _ _ _ hki hall FG' (raisedN_sub (by assumption) ?_) (by assumption) ⟨⟨cells', t9, rfl, M9, hadr⟩⟩
      exact fun p hp => List.mem_append.mpr (.inl hp)
    | bad hp hr hx =>
      have hst := hp.st
      refine wpR_execs_cons ?_
      refine wpR_If ?_
      k_steps
      refine wpR_execs_cons ?_
      refine wpR_Try_except ?_
      refine wpR_execs_cons ?_
      refine wpR_Assign_Name ?_ (by with_unfolding_all rfl)
      refine evalR_name ?_
      k_steps
      refine callWithR_type ?_
      k_steps
      refine intR_bad (by rfl) hp.le hr hx ?_
      intro h' tka' e' args' hm'
      k_steps
      k_dflt (refine' caught_M0 (T' := "ValueError") ?R ?F ?N ?K ?XB ?TB ?D ?ex PyProof.Rows.Boot.«ValueError» ?hn PySem.F.isExc_ValueError PySem.F.notTuple_ValueError ?hs ?_; (case R => exact Heap.MadeExc.newExc (by assumption)); (case F => k_asm); (case N => assumption); (case K => assumption); (case XB => assumption); (case TB => assumption); (case D => assumption); (case hs => kts_sub); (case ex => k_is); (case hn => decide); k_whole)
      intro h6 g6 T6 F6 N6 K6 X6 P6 D6 H6
      k_steps
      refine Raise_in rfl ?_
      iterate 13 walk1
      refine call_exc excClass_ValueError ?_
      intro h8 e8 x8
      obtain ⟨ob8, t8, q1, q2, q3⟩ := x8.there
      have hkeep8 : ∀ b o, h6.get? b = some o → h8.get? b = some o := x8.keeps
      have hnew8 : h6.get? e8 = none := x8.new
      have hne8 : e8 ≠ e' := fun q => by
        obtain ⟨⟨oe, vs, z, _⟩⟩ := H6
        rw [q, z] at hnew8
        cases hnew8
      obtain ⟨⟨oe, vs, z1, z2, z3⟩⟩ := H6
      refine ⟨e8, ob8, _, "ValueError", _, _, excClass_ValueError, rfl, q1, q2, q3, rfl, (by show 2 < 6; decide), hne8, ⟨oe, vs, hkeep8 _ _ z1, z2, z3⟩, ?_⟩
      refine leave_ctx (h := h6) (a0 := t8) K6 (fun b o hb => ?_) hnew8 (Heap.get?_update_self _ q1 (Obj.isFreed_of_fields (Obj.data_mapFields q3 _))) ((Obj.cls_mapFields _ _).trans q2) (Obj.data_mapFields q3 _) rfl rfl F6 N6 ?_
      · show (h8.update e8 _).get? b = some o
        rw [Heap.get?_update_other _ _ (fun q => by rw [← q, hnew8] at hb; cases hb)]
        exact hkeep8 b o hb
      · intro h9 R9 U9
        refine hbad i g' e8 h9 _ _ hki hall FG' (raisedN_sub R9 ?_) (Heap.UpToSlots.trans (fun b o hb _ => T6.up hb) U9) ⟨⟨cells', t9, rfl, M9, hadr⟩⟩
        exact fun p hp => List.mem_append.mpr (.inl hp)
    | far hp hi hdd =>
      have hst := hp.st
      have hle := hp.le
      refine wpR_execs_cons ?_
      refine wpR_If ?_
      k_steps
      refine wpR_execs_cons ?_
      refine wpR_Try_except ?_
      refine wpR_execs_cons ?_
      refine wpR_Assign_Name ?_ (by with_unfolding_all rfl)
      refine evalR_name ?_
      k_steps
      refine callWithR_type ?_
      k_steps
      refine wpR_of ?_
      refine KIN.call_text hi hle ?_
      k_steps
      refine wpR_of ?_
      k_steps
      dsimp only
      refine wpR_of ?_
      k_steps
      · refine hbad i _ _ _ _ _ hki hall FG' (raisedN_sub (by assumption) ?_) (by assumption) ⟨⟨cells', t9, rfl, M9, hadr⟩⟩
        exact fun p hp => List.mem_append.mpr (.inl hp)
    | @good _ dd hp hi hdd =>
      have hst := hp.st
      have hle := hp.le
      refine wpR_execs_cons ?_
      refine wpR_If ?_
      k_steps
      refine wpR_execs_cons ?_
      refine wpR_Try_except ?_
      refine wpR_execs_cons ?_
      refine wpR_Assign_Name ?_ (by with_unfolding_all rfl)
      refine evalR_name ?_
      k_steps
      refine callWithR_type ?_
      k_steps
      refine wpR_of ?_
      refine KIN.call_text hi hle ?_
      k_steps
      refine wpR_of ?_
      k_steps
      dsimp only
      refine wpR_of ?_
      rename Fr g' _ _ _ => FF
      rename News g' _ _ _ => NN
      obtain ⟨j, hj⟩ : ∃ j, j = dd - 1 := ⟨_, rfl⟩
      obtain ⟨pre, post, aa, its, n, rfl, hr, tx, up⟩ := mat_at M9 (j := j) (by omega)
      have hsz : its.size ≤ 20 := by
        have q1 := short_at (j := j) hsh9
        have q2 := tx.size
        omega
      rw [← hadr] at hnd hda hno
      obtain ⟨had, hRa, hRd⟩ := rest_off hnd hda hno hoff
      have had2 : d ≠ aa := Ne.symm had
      obtain ⟨rest, hrest⟩ : ∃ rest, rest = pre ++ post ++ news ++ own := ⟨_, rfl⟩
      have r1 : ∀ z ∈ pre, z ∈ rest := by rw [hrest]; exact fun z hz => List.mem_append.mpr (.inl (List.mem_append.mpr (.inl (List.mem_append.mpr (.inl hz)))))
      have r2 : ∀ z ∈ post, z ∈ rest := by rw [hrest]; exact fun z hz => List.mem_append.mpr (.inl (List.mem_append.mpr (.inl (List.mem_append.mpr (.inr hz)))))
      have r3 : ∀ z ∈ news, z ∈ rest := by rw [hrest]; exact fun z hz => List.mem_append.mpr (.inl (List.mem_append.mpr (.inr hz)))
      have r4 : ∀ z ∈ own, z ∈ rest := by rw [hrest]; exact fun z hz => List.mem_append.mpr (.inr hz)
      have N8 := news_sub (l := (aa, listOf its n) :: (d, dictOf (pdict w.params k1 k2 k3 k4 k5 t1 t9 pm tka nam ow (cnt + i)) 5) :: rest) NN (by
        have b1 : ∀ z ∈ pre ++ (aa, listOf its n) :: post, z ∈ (d, dictOf (pdict w.params k1 k2 k3 k4 k5 t1 t9 pm tka nam ow (cnt + i)) 5) :: ((pre ++ (aa, listOf its n) :: post) ++ news) ++ own := fun z hz => List.mem_append.mpr (.inl (.tail _ (List.mem_append.mpr (.inl hz))))
        rw [hrest]
        exact sub_cons (b1 _ (List.mem_append.mpr (.inr (.head _)))) (sub_cons (.head _) (sub_app (sub_app (sub_app (fun z hz => b1 z (List.mem_append.mpr (.inl hz))) fun z hz => b1 z (List.mem_append.mpr (.inr (.tail _ hz)))) fun z hz => List.mem_append.mpr (.inl (.tail _ (List.mem_append.mpr (.inr hz))))) fun z hz => List.mem_append.mpr (.inr hz))))
      rw [← hrest] at hRa hRd
      have hR1 : (x, instObj C d) ∈ rest := r3 _ h1
      have hR2 : (tka, listOf refs ct) ∈ rest := r3 _ h6
      clear NN
      have hdx : dd = 0 ∨ dd = j + 1 := by omega
      rcases hdx with hd0 | hd1
      · subst hd0
        have hr0 : refs.toList[((0 : Nat) : Int).toNat]? = some (.ref aa) := by subst hj; exact hr
        have hj0 : j = 0 := by omega
        subst hj0
        k_steps
        dsimp only
        refine wpR_of ?_
        k_steps
        rename Fr g' _ _ _ => FZ
        rename News g' _ _ _ => NZ
        have ecnt : cnt + (i : Int) + 1 = cnt + ((i + 1 : Nat) : Int) := by omega
        obtain ⟨tz, NZ⟩ : ∃ t, News g' L' _ ((aa, listOf (kl_ins its.toList 0 (.str (Str.ofString "psk") 199)).toArray (n + 1)) :: (d, dictOf (pdict w.params k1 k2 k3 k4 k5 t1 t pm tka nam ow (cnt + ((i + 1 : Nat) : Int))) 5) :: rest) := ⟨_, ecnt ▸ NZ⟩
        refine InvEndG.intro (nx := (d, dictOf (pdict w.params k1 k2 k3 k4 k5 t1 tz pm tka nam ow (cnt + ((i + 1 : Nat) : Int))) 5) :: ((pre ++ (aa, listOf (kl_ins its.toList 0 (.str (Str.ofString "psk") 199)).toArray (n + 1)) :: post) ++ news)) FZ NZ ⟨by simp [hw], by dsimp only; rw [if_neg (by decide), if_neg (by decide), if_pos rfl], take_all hki hall, by rw [placed_next hki]; exact short_place hsh9, ⟨⟨_, tz, rfl, ?_, by rw [← hadr]; simp⟩⟩⟩ (by simpa using hoff) ?_ (fun z hz => .tail _ (.tail _ (r4 z hz)))
        · rw [placed_next hki]
          unfold placeK
          rw [if_pos rfl]; exact up _ _ _ (texts_ins tx)
        · exact sub_cons (.tail _ (.head _)) (sub_app (sub_app (fun z hz => .tail _ (.tail _ (r1 z hz))) (sub_cons (.head _) fun z hz => .tail _ (.tail _ (r2 z hz)))) fun z hz => .tail _ (.tail _ (r3 z hz)))
      · have hr1 : refs.toList[((dd : Int) - 1).toNat]? = some (.ref aa) := by
          have e : ((dd : Int) - 1).toNat = j := by omega
          rw [e]; exact hr
        have hnz : ((dd : Int) == 0) = false := by rw [beq_eq_false_iff_ne]; omega
        k_steps
        dsimp only
        refine wpR_of ?_
        k_steps
        rename Fr g' _ _ _ => FZ
        rename News g' _ _ _ => NZ
        have ecnt : cnt + (i : Int) + 1 = cnt + ((i + 1 : Nat) : Int) := by omega
        obtain ⟨tz, NZ⟩ : ∃ t, News g' L' _ ((aa, listOf (its.push (.str (Str.ofString "psk") 199)) (n + 1)) :: (d, dictOf (pdict w.params k1 k2 k3 k4 k5 t1 t pm tka nam ow (cnt + ((i + 1 : Nat) : Int))) 5) :: rest) := ⟨_, ecnt ▸ NZ⟩
        refine InvEndG.intro (nx := (d, dictOf (pdict w.params k1 k2 k3 k4 k5 t1 tz pm tka nam ow (cnt + ((i + 1 : Nat) : Int))) 5) :: ((pre ++ (aa, listOf (its.push (.str (Str.ofString "psk") 199)) (n + 1)) :: post) ++ news)) FZ NZ ⟨by simp [hw], by dsimp only; rw [if_neg (by decide), if_neg (by decide), if_pos rfl], take_all hki hall, by rw [placed_next hki]; exact short_place hsh9, ⟨⟨_, tz, rfl, ?_, by rw [← hadr]; simp⟩⟩⟩ (by simpa using hoff) ?_ (fun z hz => .tail _ (.tail _ (r4 z hz)))
        · rw [placed_next hki]
          unfold placeK
          rw [if_neg (by omega), show dd - 1 = j from by omega]; exact up _ _ _ (texts_push tx)
        · exact sub_cons (.tail _ (.head _)) (sub_app (sub_app (fun z hz => .tail _ (.tail _ (r1 z hz))) (sub_cons (.head _) fun z hz => .tail _ (.tail _ (r2 z hz)))) fun z hz => .tail _ (.tail _ (r3 z hz)))
  · intro m₁ nx h tk9 hJ F9 N9
    obtain ⟨hself, hall, hsh9, hpat⟩ := hJ
    rw [← hkl, List.take_length] at hall hpat
    refine wpR_of (wpAny_execs_nil ?_)
    exact leaveS0_ F9 N9 KtsTurn.refl fun F' N' => hok _ _ _ hall F' N' hpat
end
end
-- part LawC
section
example : True := by
  w_top off
  trivial
noncomputable def lawObj (P : Params) : { o : Obj // (hd.heap_39 P).lookup 446 = some o } := ⟨_, by k_is⟩
noncomputable def lawFn (P : Params) : FuncData := match (lawObj P).1.data with | .func fd => fd | _ => default
noncomputable def lawBody (P : Params) : List Stmt := match (lawFn P).body with | .stmts b => b | _ => []
section
variable {prog : Program} {w : World} {p : Program} {loose : List Str} {mean : ExcName → Option Value} {mg mb : Str → Option Value}
    {base h₀ : Heap} {L a : Addr} {m : Str → Option Value} {news : List (Addr × Obj)} {s : Shared} {Q : Value → Shared → Prop} {E : Value → Shared → Prop}
    {cn : Str} {cs : Scope} {ccd : Value} {t1 t2 : Tok}
theorem ok1_a {f : Str} : Ok1 (aheadA f) := by
  unfold aheadA
  split
  · intro x hx
    rw [List.mem_singleton.mp hx]
    decide +kernel
  · intro x hx
    cases hx
theorem ok1_b {g : Str} {ow : Bool} : Ok1 (aheadB g ow) := by
  unfold aheadB
  split
  · intro x hx
    rw [List.mem_singleton.mp hx]
    decide +kernel
  · intro x hx
    cases hx
theorem size_a {f : Str} {v : Array Value} (h : Texts v.toList (aheadA f)) : v.size ≤ 8 := by
  rw [h.size]
  unfold aheadA
  split <;> simp
theorem size_b {g : Str} {ow : Bool} {v : Array Value} (h : Texts v.toList (aheadB g ow)) : v.size ≤ 8 := by
  rw [h.size]
  unfold aheadB
  split <;> simp
theorem cls_i {i : Nat} (hi : i < 15) : 110 + 21 * i ∈ classes := by
  have h := lt15 hi
  rcases h with rfl | rfl | rfl | rfl | rfl | rfl | rfl | rfl | rfl | rfl | rfl | rfl | rfl | rfl | rfl <;> decide
theorem keys_two {i : Nat} (h3 : 3 ≤ i) (hi : i < 15) : ∃ c0 c1, (((nameOf i).length : Int) = 2) ∧ (nameOf i).cps[0]? = some c0 ∧ (nameOf i).cps[1]? = some c1 ∧ wayOf i = false ∧ ∀ b : Bool, keysK (Txt.item (nameOf i) 0) (Txt.item (nameOf i) 1) ((2 : Int) == 1) b = reqK ⟨#[c0]⟩ ⟨#[c1]⟩ false b := by
  have h : i = 3 ∨ i = 4 ∨ i = 5 ∨ i = 6 ∨ i = 7 ∨ i = 8 ∨ i = 9 ∨ i = 10 ∨ i = 11 ∨ i = 12 ∨ i = 13 ∨ i = 14 := by omega
  rcases h with rfl | rfl | rfl | rfl | rfl | rfl | rfl | rfl | rfl | rfl | rfl | rfl <;> exact ⟨_, _, by decide +kernel, rfl, rfl, rfl, by decide +kernel⟩
theorem keys_one {i : Nat} (hi : i < 3) : ∃ c0, (((nameOf i).length : Int) = 1) ∧ (nameOf i).cps[0]? = some c0 ∧ wayOf i = true ∧ ∀ b : Bool, keysK (Txt.item (nameOf i) 0) (Str.ofString "N") ((1 : Int) == 1) b = reqK ⟨#[c0]⟩ ⟨#[0]⟩ true b := by
  have h : i = 0 ∨ i = 1 ∨ i = 2 := by omega
  rcases h with rfl | rfl | rfl <;> exact ⟨_, by decide +kernel, rfl, rfl, by decide +kernel⟩
theorem fits_any {i : Nat} {x d : Addr} {k1 k2 k3 k4 k5 : Tok} {pm tk pa pb rw ah aa ab : Addr} {cnt : Int} {cp ca cb ct cr cah na nb : Nat} {va vb wa wb refs refs2 : Array Value} {cells1 cells2 : List (Addr × Obj)} {css : List (List Str)} {ps : Array Value} {ex : List (Addr × Obj)} {t3 t4 : Tok}
    (hi : i < 15) (h1 : (x, instObj (110 + 21 * i) d) ∈ news) (h2 : (d, dictOf (pdict w.params k1 k2 k3 k4 k5 t1 t2 pm tk (nameOf i) (wayOf i) cnt) 5) ∈ news)
    (h3 : (pm, listOf #[.ref pa, .ref pb] cp) ∈ news) (h4 : (pa, listOf va ca) ∈ news) (h5 : (pb, listOf vb cb) ∈ news) (h6 : (tk, listOf refs ct) ∈ news) (h7 : (rw, listOf refs2 cr) ∈ news) (h8 : (ah, listOf #[.ref aa, .ref ab] cah) ∈ news) (h9 : (aa, listOf wa na) ∈ news) (h10 : (ab, listOf wb nb) ∈ news)
    (M1 : Mat refs.toList css cells1) (M2 : Mat refs2.toList css cells2) (u1 : ∀ p ∈ cells1, p ∈ news) (u2 : ∀ p ∈ cells2, p ∈ news) (ta : Texts va.toList (aheadA (fOf i))) (tb : Texts vb.toList (aheadB (gOf i) (wayOf i))) (tc : Texts wa.toList (aheadA (fOf i))) (td : Texts wb.toList (aheadB (gOf i) (wayOf i)))
    (oc : Ok2 css) (hcd : CodeHd base (34, 30).1 (34, 30).2) (hne : ∀ p ∈ news, p.1 ≠ 30) (hps : TabOK ps ex)
    (B : Below callerA base [] h₀) (hk : cs.kind = .function) (F : Fr h₀ L s.heap m) (X : (hd.heap_39 w.params).In h₀) (N : News h₀ L s.heap ((30, tabObj ps) :: (ex ++ news))) (T : Top p loose mean mg mb h₀)
    (hret : ∀ ps' ex' h' tk', Fr h₀ L h' m → News h₀ L h' ((30, tabObj ps') :: (ex' ++ news)) → TabOK ps' ex' → Q (.bool true) { s with heap := h', toks := tk' }) :
    wpAny (model prog w) (callerA.deeper (envOf cn cs L a ccd)) (call (.ref 441) [.ref x, .str (nameOf i) t3, .ref rw, .ref ah, .int cnt t4]) Q E s := by
  rcases Nat.lt_or_ge i 3 with q | q
  · obtain ⟨c0, z1, z2, z3, z4⟩ := keys_one q
    rw [z3] at h2
    exact fits_one (cls_i hi) h1 h2 h3 h4 h5 h6 h7 h8 h9 h10 M1 M2 u1 u2 ta tb tc td ok1_a ok1_b oc (size_a ta) (size_b tb) z1 z2 (fun h => nomatch h) z4 hcd hne hps B hk F X N T hret
  · obtain ⟨c0, c1, z1, z2, z3, z4, z5⟩ := keys_two q hi
    rw [z4] at h2
    exact fits_two (cls_i hi) h1 h2 h3 h4 h5 h6 h7 h8 h9 h10 M1 M2 u1 u2 ta tb tc td ok1_a ok1_b oc (size_a ta) (size_b tb) z1 z2 (fun _ => z3) z3 z5 hcd hne hps B hk F X N T hret
end
end
-- part LawT
section
example : True := by
  w_top off
  trivial
section
variable {prog : Program} {w : World} {p : Program} {loose : List Str} {mean : ExcName → Option Value} {mg mb : Str → Option Value}
    {h₀ : Heap} {L a : Addr} {m : Str → Option Value} {news : List (Addr × Obj)} {s : Shared} {R : Result → Shared → Prop}
    {ccd : Value} {t1 t2 : Tok}
noncomputable abbrev lawEnv (P : Params) (L a : Addr) (ccd : Value) : Env := envOf (lawFn P).name (lawFn P).scope L a ccd
theorem ok2_modify {f : List Str → List Str} (hf : ∀ r, Ok1 r → Ok1 (f r)) : ∀ {css : List (List Str)} {j : Nat}, Ok2 css → Ok2 (css.modify j f)
  | [], j, _ => by intro r hr; simp at hr
  | c :: css, 0, h => by
    intro r hr
    rw [List.modify_zero_cons] at hr
    rcases List.mem_cons.mp hr with rfl | hr
    · exact hf c (h c List.mem_cons_self)
    · exact h r (List.mem_cons_of_mem _ hr)
  | c :: css, j + 1, h => by
    intro r hr
    rw [List.modify_succ_cons] at hr
    rcases List.mem_cons.mp hr with rfl | hr
    · exact h r List.mem_cons_self
    · exact ok2_modify hf (fun r hr => h r (List.mem_cons_of_mem _ hr)) r hr
theorem ok_psk : PyData.strOk (tS "psk") = true := by decide +kernel
theorem ok2_place {css : List (List Str)} {d : Nat} (h : Ok2 css) : Ok2 (placeK css d) := by
  unfold placeK
  split
  · refine ok2_modify (fun r hr x hx => ?_) h
    rcases List.mem_cons.mp hx with rfl | hx
    · exact ok_psk
    · exact hr x hx
  · refine ok2_modify (fun r hr x hx => ?_) h
    rcases List.mem_append.mp hx with hx | hx
    · exact hr x hx
    · rw [List.mem_singleton.mp hx]; exact ok_psk
theorem ok2_placed : ∀ {ks : List (Option Nat)} {css : List (List Str)}, Ok2 css → Ok2 (placed css ks) := by
  intro ks
  unfold placed
  generalize ks.filterMap id = l
  induction l with
  | nil => intro css h; exact h
  | cons d l ih => intro css h; rw [List.foldl_cons]; exact ih (ok2_place h)
theorem rows_ok {i : Nat} (hi : i < 15) : Ok2 (rowsOf i) ∧ Short (rowsOf i) 8 ∧ (rowsOf i).length ≤ 3 ∧ 0 < (rowsOf i).length := by
  have h := lt15 hi
  unfold Ok2 Ok1 Short
  rcases h with rfl | rfl | rfl | rfl | rfl | rfl | rfl | rfl | rfl | rfl | rfl | rfl | rfl | rfl | rfl <;> decide +kernel
theorem law_ret {i : Nat} {x d : Addr} {k1 k2 k3 k4 k5 : Tok} {pm tka pa pb rw ah aa ab : Addr} {cp ca cb ct cr cah na nb : Nat} {va vb wa wb refs refs2 : Array Value} {cells1 cells2 : List (Addr × Obj)} {ps : Array Value} {ex : List (Addr × Obj)} {t3 t4 : Tok} {css : List (List Str)} {mny : Int} {rf gd : Bool}
    (hi : i < 15) (h1 : (x, instObj (110 + 21 * i) d) ∈ news) (h2 : (d, dictOf (pdict w.params k1 k2 k3 k4 k5 t1 t2 pm tka (nameOf i) (wayOf i) mny) 5) ∈ news)
    (h3 : (pm, listOf #[.ref pa, .ref pb] cp) ∈ news) (h4 : (pa, listOf va ca) ∈ news) (h5 : (pb, listOf vb cb) ∈ news) (h6 : (tka, listOf refs ct) ∈ news) (h7 : (rw, listOf refs2 cr) ∈ news) (h8 : (ah, listOf #[.ref aa, .ref ab] cah) ∈ news) (h9 : (aa, listOf wa na) ∈ news) (h10 : (ab, listOf wb nb) ∈ news)
    (M1 : Mat refs.toList css cells1) (M2 : Mat refs2.toList css cells2) (u1 : ∀ p ∈ cells1, p ∈ news) (u2 : ∀ p ∈ cells2, p ∈ news)
    (ta : Texts va.toList (aheadA (fOf i))) (tb : Texts vb.toList (aheadB (gOf i) (wayOf i))) (tc : Texts wa.toList (aheadA (fOf i))) (td : Texts wb.toList (aheadB (gOf i) (wayOf i)))
    (oc : Ok2 css) (hrg : rf = !gd) (hn30 : ∀ p ∈ news, p.1 ≠ 30) (hcd : CodeHd h₀ (34, 30).1 (34, 30).2) (hps : TabOK ps ex)
    (B : Below callerA h₀ [] h₀) (F : Fr h₀ L s.heap m) (X : (hd.heap_39 w.params).In h₀) (N : News h₀ L s.heap ((30, tabObj ps) :: (ex ++ news))) (T : Top p loose mean mg mb h₀)
    (m1 : m (Str.ofString "pattern") = some (.ref x)) (m3 : m (Str.ofString "good") = some (.bool gd)) (m4 : m (Str.ofString "name") = some (.str (nameOf i) t3)) (m5 : m (Str.ofString "rows") = some (.ref rw)) (m6 : m (Str.ofString "ahead") = some (.ref ah)) (m7 : m (Str.ofString "many") = some (.int mny t4)) (m8 : m (Str.ofString "refused") = some (.bool rf))
    (hR : ∀ h' tk' m' ps' led, Fr h₀ L h' m' → News h₀ L h' ((30, tabObj ps') :: led) → R (.ok (.ret (.bool true))) { s with heap := h', toks := tk' }) :
    wpR (model prog w) (callerA.deeper (lawEnv w.params L a ccd)) (execs (List.drop 15 (lawBody w.params)) (lawEnv w.params L a ccd)) (fun f s' => R (.ok (.ret (match f with | .ret v => v | _ => .none))) s')
      (fun e s' => wpAny (model prog w) (callerA.deeper (lawEnv w.params L a ccd)) (leaving (lawEnv w.params L a ccd) e) (fun _ s'' => R (.error e) s'') (fun e' s'' => R (.error e') s'') s') s := by
  have F8 := fr_as (m' := fun z => if z = Str.ofString "pattern" then some (.ref x) else if z = Str.ofString "refused" then some (.bool rf) else if z = Str.ofString "good" then some (.bool gd) else if z = Str.ofString "name" then some (.str (nameOf i) t3) else if z = Str.ofString "rows" then some (.ref rw) else if z = Str.ofString "ahead" then some (.ref ah) else if z = Str.ofString "many" then some (.int mny t4) else m z) F (by
    funext z
    by_cases e1 : z = Str.ofString "pattern"
    · rw [if_pos e1, e1, m1]
    rw [if_neg e1]
    by_cases e2 : z = Str.ofString "refused"
    · rw [if_pos e2, e2, m8]
    rw [if_neg e2]
    by_cases e3 : z = Str.ofString "good"
    · rw [if_pos e3, e3, m3]
    rw [if_neg e3]
    by_cases e4 : z = Str.ofString "name"
    · rw [if_pos e4, e4, m4]
    rw [if_neg e4]
    by_cases e5 : z = Str.ofString "rows"
    · rw [if_pos e5, e5, m5]
    rw [if_neg e5]
    by_cases e6 : z = Str.ofString "ahead"
    · rw [if_pos e6, e6, m6]
    rw [if_neg e6]
    by_cases e7 : z = Str.ofString "many"
    · rw [if_pos e7, e7, m7]
    rw [if_neg e7])
  clear F
  have hC := cls_i hi
  dsimp only [lawEnv, lawBody, lawFn, lawObj, List.drop]
  refine wpR_of ?_
  subst hrg
  cases gd <;> (repeat' ((fail_if_success (with_reducible show wpAny _ _ (call (Value.ref 441) _) _ _ _)); first | (k_unfold; (try dsimp only)) | (k_end; wrow_close) | walk1 | (dsimp only; walk1) | (leave1; walk_say "STEP leave1"; try dsimp only) | fail "no step"))
  all_goals (k_dflt (refine' fits_any ?hi ?h1 ?h2 ?h3 ?h4 ?h5 ?h6 ?h7 ?h8 ?h9 ?h10 ?M1 ?M2 ?u1 ?u2 ?ta ?tb ?tc ?td ?oc ?cd ?ne ?ps ?B ?k ?F ?X ?N ?T ?_; (case hi => assumption); (case h1 => assumption); (case h2 => assumption); (case h3 => assumption); (case h4 => assumption); (case h5 => assumption); (case h6 => assumption); (case h7 => assumption); (case h8 => assumption); (case h9 => assumption); (case h10 => assumption); (case M1 => assumption); (case M2 => assumption); (case u1 => assumption); (case u2 => assumption); (case ta => assumption); (case tb => assumption); (case tc => assumption); (case td => assumption); (case oc => assumption); (case cd => assumption); (case ne => assumption); (case ps => assumption); (case B => assumption); (case k => exact rfl); (case F => k_asm); (case X => k_asm); (case N => k_asm); (case T => k_asm); k_whole); intro ps9 ex9 h9 tk9 F9 N9 hps9; (try dsimp only))
  all_goals k_steps
  all_goals (try exact hR _ _ _ _ _ (by assumption) (by assumption))
theorem tw_all : ∀ {ks : List (Option Nat)}, (∀ k ∈ ks, k.isSome = true) → ks.takeWhile Option.isSome = ks
  | [], _ => rfl
  | k :: ks, h => by
    rw [List.takeWhile_cons_of_pos (h k List.mem_cons_self), tw_all fun k hk => h k (List.mem_cons_of_mem _ hk)]
theorem tw_at : ∀ {ks : List (Option Nat)} {i : Nat}, ks[i]? = some none → (∀ k ∈ ks.take i, k.isSome = true) → ks.takeWhile Option.isSome = ks.take i ∧ ks.all Option.isSome = false ∧ i ≤ ks.length
  | [], i, h, _ => by simp at h
  | k :: ks, 0, h, _ => by
    simp at h
    subst h
    exact ⟨rfl, rfl, Nat.zero_le _⟩
  | k :: ks, i + 1, h, ha => by
    obtain ⟨h1, h2, h3⟩ := tw_at (ks := ks) (i := i) (by simpa using h) fun k hk => ha k (by simp [hk])
    have hk := ha k (by simp)
    exact ⟨by rw [List.takeWhile_cons_of_pos hk, h1]; rfl, by rw [List.all_cons, h2, Bool.and_false], by simp; exact h3⟩
theorem law_tail {i : Nat} {x d : Addr} {k1 k2 k3 k4 k5 : Tok} {pm tka pa pb rw ah aa ab wl : Addr} {cp ca cb ct cr cah na nb nw : Nat} {va vb wa wb refs refs2 ws : Array Value} {cells1 cells2 : List (Addr × Obj)} {ps : Array Value} {ex : List (Addr × Obj)} {t3 t4 : Tok} {ks : List (Option Nat)} {mny : Int} {gd : Bool}
    (hi : i < 15) (h1 : (x, instObj (110 + 21 * i) d) ∈ news)
    (h3 : (pm, listOf #[.ref pa, .ref pb] cp) ∈ news) (h4 : (pa, listOf va ca) ∈ news) (h5 : (pb, listOf vb cb) ∈ news) (h6 : (tka, listOf refs ct) ∈ news) (h7 : (rw, listOf refs2 cr) ∈ news) (h8 : (ah, listOf #[.ref aa, .ref ab] cah) ∈ news) (h9 : (aa, listOf wa na) ∈ news) (h10 : (ab, listOf wb nb) ∈ news) (hw : (wl, listOf ws nw) ∈ news)
    (M1 : Mat refs.toList (rowsOf i) cells1) (M2 : Mat refs2.toList (placed (rowsOf i) (ks.takeWhile Option.isSome)) cells2) (u2 : ∀ p ∈ cells2, p ∈ news)
    (ta : Texts va.toList (aheadA (fOf i))) (tb : Texts vb.toList (aheadB (gOf i) (wayOf i))) (tc : Texts wa.toList (aheadA (fOf i))) (td : Texts wb.toList (aheadB (gOf i) (wayOf i)))
    (hkl : ks.length = ws.toList.length) (hws : ws.size ≤ 5) (hW : ∀ (j : Nat) v, ws.toList[j]? = some v → ∃ y u k, v = .str y u ∧ ks[j]? = some k ∧ y.length ≤ 20 ∧ Word (rowsOf i).length y k)
    (hmn : mny = ((ks.takeWhile Option.isSome).length : Int)) (hgd : gd = ks.all Option.isSome)
    (hda : d ∉ cells1.map (·.1)) (hnd : (cells1.map (·.1)).Nodup) (hno : ∀ p ∈ (30, tabObj ps) :: (ex ++ news), p.1 ≠ d ∧ p.1 ∉ cells1.map (·.1)) (hn30 : ∀ p ∈ news, p.1 ≠ 30)
    (hcd : CodeHd h₀ (34, 30).1 (34, 30).2) (hps : TabOK ps ex)
    (B : Below callerA h₀ [] h₀) (F : Fr h₀ L s.heap m) (X : (hd.heap_39 w.params).In h₀) (N : News h₀ L s.heap ((30, tabObj ps) :: (ex ++ ((d, dictOf (pdict w.params k1 k2 k3 k4 k5 t1 t2 pm tka (nameOf i) (wayOf i) 0) 5) :: (cells1 ++ news))))) (T : Top p loose mean mg mb h₀)
    (m1 : m (Str.ofString "pattern") = some (.ref x)) (m2 : m (Str.ofString "words") = some (.ref wl)) (m3 : m (Str.ofString "good") = some (.bool gd)) (m4 : m (Str.ofString "name") = some (.str (nameOf i) t3)) (m5 : m (Str.ofString "rows") = some (.ref rw)) (m6 : m (Str.ofString "ahead") = some (.ref ah)) (m7 : m (Str.ofString "many") = some (.int mny t4))
    (hR : ∀ h' tk' m' ps' led, Fr h₀ L h' m' → News h₀ L h' ((30, tabObj ps') :: led) → R (.ok (.ret (.bool true))) { s with heap := h', toks := tk' }) :
    wpR (model prog w) (callerA.deeper (lawEnv w.params L a ccd)) (execs (List.drop 13 (lawBody w.params)) (lawEnv w.params L a ccd)) (fun f s' => R (.ok (.ret (match f with | .ret v => v | _ => .none))) s')
      (fun e s' => wpAny (model prog w) (callerA.deeper (lawEnv w.params L a ccd)) (leaving (lawEnv w.params L a ccd) e) (fun _ s'' => R (.error e) s'') (fun e' s'' => R (.error e') s'') s') s := by
  have F8 := fr_as (m' := fun z => if z = Str.ofString "pattern" then some (.ref x) else if z = Str.ofString "words" then some (.ref wl) else if z = Str.ofString "good" then some (.bool gd) else if z = Str.ofString "name" then some (.str (nameOf i) t3) else if z = Str.ofString "rows" then some (.ref rw) else if z = Str.ofString "ahead" then some (.ref ah) else if z = Str.ofString "many" then some (.int mny t4) else m z) F (by
    funext z
    by_cases e1 : z = Str.ofString "pattern"
    · rw [if_pos e1, e1, m1]
    rw [if_neg e1]
    by_cases e2 : z = Str.ofString "words"
    · rw [if_pos e2, e2, m2]
    rw [if_neg e2]
    by_cases e3 : z = Str.ofString "good"
    · rw [if_pos e3, e3, m3]
    rw [if_neg e3]
    by_cases e4 : z = Str.ofString "name"
    · rw [if_pos e4, e4, m4]
    rw [if_neg e4]
    by_cases e5 : z = Str.ofString "rows"
    · rw [if_pos e5, e5, m5]
    rw [if_neg e5]
    by_cases e6 : z = Str.ofString "ahead"
    · rw [if_pos e6, e6, m6]
    rw [if_neg e6]
    by_cases e7 : z = Str.ofString "many"
    · rw [if_pos e7, e7, m7]
    rw [if_neg e7])
  clear F
  have hC := cls_i hi
  dsimp only [lawEnv, lawBody, lawFn, lawObj, List.drop]
  refine wpR_execs_consL ?_
  k_steps
  try dsimp only
  refine wpR_execs_cons ?_
  refine wpR_Try_except ?_
  refine wpR_execs_cons ?_
  refine wpR_Expr ?_ (by rfl) (by with_unfolding_all rfl)
  refine evalR_method ?_
  k_steps
  refine callWithR_K X (by k_is) ?_
  k_steps
  obtain ⟨ok2, sh8, len3, len0⟩ := rows_ok hi
  rename News _ _ _ _ => NN
  have NA := news_sub (l := (d, dictOf (pdict w.params k1 k2 k3 k4 k5 t1 t2 pm tka (nameOf i) (wayOf i) 0) 5) :: (cells1 ++ ((30, tabObj ps) :: (ex ++ news)))) NN (by
    intro p hp
    simp only [List.mem_cons, List.mem_append] at hp ⊢
    rcases hp with h | h | h | h | h <;> simp [h])
  clear NN
  refine wpR_call ?_
  have hnF : ∀ {cells' : List (Addr × Obj)} {t' : Tok} {cn' : Int} {h' : Heap}, cells'.map (·.1) = cells1.map (·.1) → News h₀ L h' ((d, dictOf (pdict w.params k1 k2 k3 k4 k5 t1 t' pm tka (nameOf i) (wayOf i) cn') 5) :: (cells' ++ ((30, tabObj ps) :: (ex ++ news)))) →
      News h₀ L h' ((30, tabObj ps) :: (ex ++ ((d, dictOf (pdict w.params k1 k2 k3 k4 k5 t1 t' pm tka (nameOf i) (wayOf i) cn') 5) :: (cells' ++ news)))) ∧ ∀ p ∈ (d, dictOf (pdict w.params k1 k2 k3 k4 k5 t1 t' pm tka (nameOf i) (wayOf i) cn') 5) :: (cells' ++ news), p.1 ≠ 30 := by
    intro cells' t' cn' h' hadr N'
    refine ⟨news_sub N' ?_, ?_⟩
    · intro p hp
      simp only [List.mem_cons, List.mem_append] at hp ⊢
      rcases hp with h | h | h | h | h <;> simp [h]
    · obtain ⟨q1, q2⟩ := hno _ (.head _)
      intro p hp
      rcases List.mem_cons.mp hp with rfl | hp
      · exact fun q => q1 q.symm
      rcases List.mem_append.mp hp with hp | hp
      · intro q
        apply q2
        rw [← hadr]
        show (30 : Addr) ∈ _
        rw [← q]
        exact List.mem_map.mpr ⟨p, hp, rfl⟩
      · exact hn30 p hp
  have hin : ∀ {cells' : List (Addr × Obj)} {t' : Tok} {cn' : Int} {p : Addr × Obj}, p ∈ news → p ∈ (d, dictOf (pdict w.params k1 k2 k3 k4 k5 t1 t' pm tka (nameOf i) (wayOf i) cn') 5) :: (cells' ++ news) := fun hp => .tail _ (List.mem_append.mpr (.inr hp))
  refine apply_c (C := 110 + 21 * i) (news := (30, tabObj ps) :: (ex ++ news)) (css := rowsOf i) (ks := ks) hC (.tail _ (List.mem_append.mpr (.inr h1))) (.tail _ (List.mem_append.mpr (.inr h6))) (.tail _ (List.mem_append.mpr (.inr hw))) M1 hkl hws hW sh8 len3 len0 hda hnd hno B rfl (by assumption) X NA T X T ?_ ?_
  · intro i' g' e h' tk' led hki hall FG RN UP hP
    obtain ⟨⟨cells', t', rfl, M', hadr⟩⟩ := hP
    obtain ⟨q1, q2, q3⟩ := tw_at hki hall
    rw [q1] at M2 hmn
    rw [q2] at hgd
    have e0 : (0 : Int) + (i' : Int) = mny := by rw [hmn, List.length_take]; omega
    dsimp only
    k_dflt (refine' caught_R0 (T' := "ValueError") B FG UP RN X T ?ex PyProof.Rows.Boot.«ValueError» ?hn PySem.F.isExc_ValueError PySem.F.notTuple_ValueError ?hs ?_; (case hs => kts_sub); (case ex => k_is); (case hn => decide); k_whole)
    intro hz9 F9 N9
    obtain ⟨NF, hn⟩ := hnF hadr N9
    rw [e0] at NF hn
    clear FG UP RN N9 NA
    k_steps
    dsimp only
    rename Fr _ _ _ _ => FZ
    rename News _ _ _ _ => NZ
    exact law_ret hi (hin h1) (.head _) (hin h3) (hin h4) (hin h5) (hin h6) (hin h7) (hin h8) (hin h9) (hin h10) M' M2 (fun p hp => .tail _ (List.mem_append.mpr (.inl hp))) (fun p hp => hin (u2 p hp)) ta tb tc td (ok2_placed ok2) (rf := true) (gd := gd) (by rw [hgd]; rfl) hn hcd hps B FZ X NZ T rfl rfl rfl rfl rfl rfl rfl hR
  · intro h' tk' led hall FG NG hP
    obtain ⟨⟨cells', t', rfl, M', hadr⟩⟩ := hP
    obtain ⟨NF, hn⟩ := hnF hadr NG
    have htw : ks.takeWhile Option.isSome = ks := tw_all hall
    have hgt : gd = true := by rw [hgd]; exact List.all_eq_true.mpr hall
    rw [htw] at M2 hmn
    have e0 : (0 : Int) + (ks.length : Int) = mny := by omega
    dsimp only
    refine wpR_of (wpAny_execs_nil ?_)
    dsimp only
    refine wpAny_execs_nil ?_
    dsimp only
    rw [e0] at NF hn
    exact law_ret hi (hin h1) (.head _) (hin h3) (hin h4) (hin h5) (hin h6) (hin h7) (hin h8) (hin h9) (hin h10) M' M2 (fun p hp => .tail _ (List.mem_append.mpr (.inl hp))) (fun p hp => hin (u2 p hp)) ta tb tc td (ok2_placed ok2) (rf := false) (gd := gd) (by rw [hgt]; rfl) hn hcd hps B FG X NF T rfl rfl rfl rfl rfl rfl rfl hR
end
end
-- part LawL
section
example : True := by
  w_top off
  trivial
section
variable {prog : Program} {w : World} {A : Around} {E : Value → Shared → Prop} {s : Shared} {env : Env} {h₀ : Heap} {x : Str} {body : List Stmt} {Q : Flow → Shared → Prop}
/-- a loop over range(n) with an invariant, restricted -/
theorem iter_rangeR {r : Addr} {b₀ : Int} {t₀ u₀ v₀ : Tok} {n : Nat} {m₀ : Str → Option Value} {news : List (Addr × Obj)} (J : Nat → (Str → Option Value) → List (Addr × Obj) → Prop)
    (hh : A.handled = none) (hr : IsRange s.heap r 0 b₀ 1 t₀ u₀ v₀) (hsmall : Builtin.Range.small 0 b₀ 1 = true) (hsz : Builtin.Range.rangeSize 0 b₀ 1 = (n : Int)) (F : Fr h₀ env.locals s.heap m₀) (N : News h₀ env.locals s.heap news) (hj : J 0 m₀ news)
    (turn : ∀ i t m₁ nx h tk own, i < n → OwnOff own (nx.map (·.1)) → J i m₁ nx → Fr h₀ env.locals h (fun y => if y = x then some (.int (i : Int) t) else m₁ y) → News h₀ env.locals h (nx ++ own) →
      wpR (model prog w) A (execs body env) (InvPostG h₀ env.locals (J (i + 1)) own { s with heap := h, toks := tk } Q) E { s with heap := h, toks := tk })
    (done : ∀ m₁ nx h tk, J n m₁ nx → Fr h₀ env.locals h m₁ → News h₀ env.locals h nx → Q .next { s with heap := h, toks := tk }) :
    wpAny (model prog w) A (pyIter (.ref r)) (fun it s₂ => LoopAtR prog w A h₀ env x body Q E it s₂) E s := by
  refine wpAny_pyIter_range hr hsmall ?_
  have W : Walks prog w A s.heap.objs.size [s.heap.objs.size] [s.heap.objs.size] n (fun i v => i < n ∧ ∃ t, v = .int (0 + i * 1) t)
      (fun i h => IsRangeIter h s.heap.objs.size (0 + (i : Nat) * 1) ((n : Int) - (i : Nat)) 1) := (Walks.range hh _ 0 1 n).bound
  refine ⟨_, _, _, n, _, _, m₀, news, J, rfl, W, ?_, ?_, ?_, (by show IsRangeIter _ _ _ _ _; rw [hsz]; simpa using Heap.get?_push_size _ rfl), F.push _, (fun p hp => ⟨Heap.get?_push_of_some _ (N p hp).1, (N p hp).2⟩), hj, ?_, ?_⟩
  · intro hm
    exact absurd F.ns.lt ((List.mem_singleton.mp hm) ▸ Nat.lt_irrefl _)
  · intro b hb
    rw [List.mem_singleton.mp hb]
    exact next_is_new F
  · intro p hp hI
    exact absurd (Heap.lt_size (N p hp).1) ((List.mem_singleton.mp hI) ▸ Nat.lt_irrefl _)
  · rintro i v m₁ news₁ s₁ own ⟨hh', tk', rfl⟩ hin ⟨_, t, rfl⟩ hJ hoff hown _ hmem hst F₁ N₁
    have e1 : (0 : Int) + (i : Int) * 1 = (i : Int) := by omega
    rw [e1] at F₁
    have hnew : h₀.get? s.heap.objs.size = none := next_is_new F
    have hsep : OwnOff own (news₁.map (·.1)) := by
      intro p hp b hb e
      obtain ⟨q, hq, rfl⟩ := List.mem_map.mp hb
      exact hoff q hq (e ▸ hown p hp)
    have N₂ : News h₀ env.locals hh' (news₁ ++ own) := fun p hp => N₁ p ((List.mem_append.mp hp).elim (fun h => List.mem_append.mpr (.inr h)) fun h => List.mem_append.mpr (.inl h))
    refine wpR_mono (turn i t m₁ news₁ hh' tk' own hin hsep hJ F₁ N₂) (fun f s₂ p => ?_) fun _ _ e => e
    have fin : InvEndG h₀ env.locals (J (i + 1)) own { s with heap := hh', toks := tk' } s₂ → LoopStepU h₀ env.locals [s.heap.objs.size] own (J (i + 1)) { s with heap := hh', toks := tk' } .next s₂ := by
      rintro ⟨h', tk, m', news', nx, e, F', N', hn, ho, ha, hm⟩
      refine ⟨rfl, h', tk, m', nx, e, F', fun p hp => N' p ((List.mem_append.mp hp).elim (ho p) (hn p)), fun p hp hq => ?_, hm⟩
      have hbo : ∃ o, hh'.get? s.heap.objs.size = some o := ⟨_, hst⟩
      obtain ⟨o, hbo⟩ := hbo
      exact ha _ (hmem _ (List.mem_singleton.mpr rfl) hnew o hbo) p.1 (List.mem_map.mpr ⟨p, hp, rfl⟩) (List.mem_singleton.mp hq).symm
    cases f with
    | ret v => exact .ret p
    | brk => exact .brk p
    | next => exact .next (fin p)
    | cont => exact .cont (fin p)
  · rintro h' tk m' news' F' N' _ hJ
    exact done m' news' h' tk hJ F' N'
theorem setL_some : ∀ {l : List Value} {k : Nat} {v : Value}, k < l.length → ki_setL l k v = some (l.set k v)
  | [], _, _, h => by simp at h
  | _ :: _, 0, _, _ => rfl
  | x :: l, k + 1, v, h => by
    show (match ki_setL l k v with | some q => some (x :: q) | none => none) = _
    rw [setL_some (by simpa using h)]
    rfl
end
theorem mat_put {rs : List Value} {css : List (List Str)} {cells : List (Addr × Obj)} (M : Mat rs css cells) : ∀ {j : Nat}, j < css.length →
    ∃ pre post a its n, cells = pre ++ (a, listOf its n) :: post ∧ rs[j]? = some (.ref a) ∧ Texts its.toList (css.getD j []) ∧
      ∀ (f : List Str → List Str) (its' : Array Value) (n' : Nat) (D : Addr), Texts its'.toList (f (css.getD j [])) → Mat (rs.set j (.ref D)) (css.modify j f) (pre ++ (D, listOf its' n') :: post) := by
  induction M with
  | nil => intro j hj; simp at hj
  | @cons rs css cells a its cs n tx M ih =>
    intro j hj
    cases j with
    | zero => exact ⟨[], cells, a, its, n, rfl, rfl, by simpa using tx, fun f its' n' D t => by rw [List.modify_zero_cons]; exact .cons (by simpa using t) M⟩
    | succ j =>
      obtain ⟨pre, post, a', its', n', e, hr, t, up⟩ := ih (j := j) (by simpa using hj)
      exact ⟨(a, listOf its n) :: pre, post, a', its', n', by rw [e]; rfl, by simpa using hr, by simpa using t, fun f its2 n2 D t2 => by rw [List.modify_succ_cons]; exact .cons tx (up f its2 n2 D (by simpa using t2))⟩
/-- the law's numbers: at least twelve, none below 0 -/
noncomputable def NumsOK (its : Array Value) : Prop := ∀ j : Nat, j < 12 → ∃ (n : Int) (t : Tok), its.toList[j]? = some (.int n t) ∧ 0 ≤ n
section
variable {prog : Program} {w : World} {p : Program} {loose : List Str} {mean : ExcName → Option Value} {mg mb : Str → Option Value} {A : Around} {E : Value → Shared → Prop}
    {h₀ : Heap} {L a : Addr} {m : Str → Option Value} {news : List (Addr × Obj)} {s : Shared} {R : Result → Shared → Prop}
    {ccd : Value} {t1 t2 : Tok}
theorem item_num {value slice : PySem.Expr} {l : Addr} {its : Array Value} {n : Nat} {k : Int} {u : Tok} {Q : Value → Shared → Prop} (N : News h₀ L s.heap news) (hl : (l, listOf its n) ∈ news) (hn : NumsOK its) (h0 : 0 ≤ k) (hk : k < 12)
    (h : ∀ i t, 0 ≤ i → Q (.int i t) s) (hs : subscripted slice false (.ref l) (.int k u) = operate [.ref l, .int k u] (getItem (.ref l) (.int k u)) := by with_unfolding_all rfl) (hg : ∀ r, letTemporaryGo value (.ref l) r = pure () := by intro _; rfl) :
    wpAny (model prog w) A (subscriptTail value slice (.ref l) (.int k u)) Q E s := by
  obtain ⟨i, t, e, hi⟩ := hn k.toNat (by omega)
  exact item_cell N hl h0 (by omega) e (h i t hi) hs hg
theorem item_some {value slice : PySem.Expr} {l : Addr} {its : Array Value} {n : Nat} {k : Int} {u : Tok} {Q : Value → Shared → Prop} (N : News h₀ L s.heap news) (hl : (l, listOf its n) ∈ news) (h0 : 0 ≤ k) (hk : k < its.size) (hsz : its.size ≤ 64)
    (h : ∀ v, v ∈ its.toList → Q v s) (hs : subscripted slice false (.ref l) (.int k u) = operate [.ref l, .int k u] (getItem (.ref l) (.int k u)) := by with_unfolding_all rfl) (hg : ∀ r, letTemporaryGo value (.ref l) r = pure () := by intro _; rfl) :
    wpAny (model prog w) A (subscriptTail value slice (.ref l) (.int k u)) Q E s := by
  have hlt : k.toNat < its.toList.length := by rw [Array.length_toList]; omega
  exact item_cell N hl h0 (by omega) (List.getElem?_eq_getElem hlt) (h _ (List.getElem_mem hlt)) hs hg
theorem fm_lo {a b : Int} (h : 0 < b) : 0 ≤ a.fmod b := by rw [Int.fmod_eq_emod_of_nonneg _ (by omega)]; exact Int.emod_nonneg _ (by omega)
theorem fm_hi {a b : Int} (h : 0 < b) : a.fmod b < b := by rw [Int.fmod_eq_emod_of_nonneg _ (by omega)]; exact Int.emod_lt_of_pos _ h
local macro_rules | `(tactic| walk_at "subscriptTail") => `(tactic| (k_here; (with_reducible show wpAny _ _ (subscriptTail _ _ (Value.ref _) (Value.int _ _)) _ _ _); k_dflt (first
  | ((refine' item_cell ?k1 ?k2 ?k3 ?k4 ?k5 ?_; (case k5 => with_reducible assumption); (case k1 => k_asm); (case k2 => k_mem); (case k3 => omega); (case k4 => omega); k_whole))
  | ((refine' item_num ?k1 ?k2 ?k3 ?k4 ?k5 ?_; (case k1 => k_asm); (case k2 => k_mem); (case k3 => assumption); (case k4 => first | decide | omega | (rw [Int.fmod_eq_emod_of_nonneg _ (by decide)]; omega)); (case k5 => first | decide | omega | (rw [Int.fmod_eq_emod_of_nonneg _ (by decide)]; omega)); k_whole); intro i' t' hi')
  | ((refine' item_some ?k1 ?k2 ?k3 ?k4 ?k5 ?_; (case k1 => k_asm); (case k2 => k_mem); (case k3 => exact fm_lo (by decide)); (case k4 => exact fm_hi (by decide)); (case k5 => exact Nat.le_of_ble_eq_true rfl); k_whole); intro v' hv'))))
local macro_rules | `(tactic| walk_at "setItem ref int") => `(tactic| (k_here; k_dflt (refine' ki_set ?F ?N ?a ?b ?e ?U ?_; (case F => k_asm); (case N => k_asm); (case U => k_upd); (case a => omega); (case b => omega); (case e => exact setL_some (by rw [Array.length_toList]; omega)); k_whole); intro h' F' N'))
/-- the words that the law has put together so far -/
noncomputable def WordsOK (n : Nat) (ws : List Value) (ks : List (Option Nat)) : Prop := ks.length = ws.length ∧ ∀ (j : Nat) v, ws[j]? = some v → ∃ y u k, v = .str y u ∧ ks[j]? = some k ∧ y.length ≤ 20 ∧ Word n y k
/-- the law's loop: what holds between two turns -/
structure LoopSt (n : Nat) (rows0 : List (List Str)) (nl rw wl : Addr) (fixed : List (Str × Value)) (rest : List (Addr × Obj)) (i : Nat) (m : Str → Option Value) (nx : List (Addr × Obj)) : Prop where
  mk :: out : ∃ (ws : Array Value) (nw : Nat) (refs : Array Value) (cr : Nat) (cells : List (Addr × Obj)) (ks : List (Option Nat)) (t : Tok),
    nx = (wl, listOf ws nw) :: (rw, listOf refs cr) :: (cells ++ rest) ∧ ks.length = i ∧ WordsOK n ws.toList ks ∧ Mat refs.toList (placed rows0 (ks.takeWhile Option.isSome)) cells ∧ Short (placed rows0 (ks.takeWhile Option.isSome)) (8 + i) ∧
    (∀ q ∈ cells, q.1 ≠ wl ∧ q.1 ≠ rw ∧ ∀ p ∈ rest, p.1 ≠ q.1) ∧ (∀ q ∈ fixed, m q.1 = some q.2) ∧ m (Str.ofString "good") = some (.bool (ks.all Option.isSome)) ∧ m (Str.ofString "many") = some (.int ((ks.takeWhile Option.isSome).length : Int) t)
theorem words_snoc {n : Nat} {ws : Array Value} {ks : List (Option Nat)} {v : Value} {y : Str} {u : Tok} {k : Option Nat} (h : WordsOK n ws.toList ks) (hv : v = .str y u) (hyl : y.length ≤ 20) (hw : Word n y k) : WordsOK n (ws.push v).toList (ks ++ [k]) := by
  obtain ⟨h1, h2⟩ := h
  refine ⟨by simp at h1 ⊢; omega, fun j z hz => ?_⟩
  rw [Array.toList_push] at hz
  rcases Nat.lt_or_ge j ws.toList.length with hj | hj
  · rw [List.getElem?_append_left hj] at hz
    obtain ⟨y', u', k', e1, e2, e3⟩ := h2 j z hz
    exact ⟨y', u', k', e1, by rw [List.getElem?_append_left (by omega)]; exact e2, e3⟩
  · rw [List.getElem?_append_right hj] at hz
    have hj0 : j - ws.toList.length = 0 := by
      rcases Nat.eq_zero_or_pos (j - ws.toList.length) with h | h
      · exact h
      · rw [List.getElem?_eq_none (by show 1 ≤ _; omega)] at hz; cases hz
    rw [hj0] at hz
    simp at hz
    subst hz
    exact ⟨y, u, k, hv, by rw [List.getElem?_append_right (by omega), show j - ks.length = 0 by omega]; rfl, hyl, hw⟩
theorem tw_none {ks : List (Option Nat)} : (ks ++ [none]).takeWhile Option.isSome = ks.takeWhile Option.isSome := by
  induction ks with
  | nil => rfl
  | cons k ks ih =>
    cases k with
    | none => rfl
    | some d => simp [ih]
theorem tw_false {ks : List (Option Nat)} {k : Option Nat} (h : ks.all Option.isSome = false) : (ks ++ [k]).takeWhile Option.isSome = ks.takeWhile Option.isSome := by
  induction ks with
  | nil => cases h
  | cons k' ks ih =>
    cases k' with
    | none => rfl
    | some d => simp at h; simp [ih (by simpa using h)]
theorem tw_true {ks : List (Option Nat)} {d : Nat} (h : ks.all Option.isSome = true) : (ks ++ [some d]).takeWhile Option.isSome = ks ++ [some d] ∧ ks.takeWhile Option.isSome = ks := by
  have h' := List.all_eq_true.mp h
  refine ⟨tw_all fun k hk => ?_, tw_all h'⟩
  rcases List.mem_append.mp hk with hk | hk
  · exact h' k hk
  · rw [List.mem_singleton.mp hk]; rfl
theorem placed_snoc {css : List (List Str)} {ks : List (Option Nat)} {d : Nat} : placed css (ks ++ [some d]) = placeK (placed css ks) d := by
  unfold placed
  simp [List.filterMap_append, List.foldl_append]
theorem short_up {css : List (List Str)} {b : Nat} (h : Short css b) : Short css (b + 1) := fun r hr => Nat.le_succ_of_le (h r hr)
theorem psk_len : ∀ d : Nat, d < 12 → (Str.ofString "psk" ++ Str.ofString (toString (d : Int))).length ≤ 20 := by
  intro d hd
  have h := lt12 hd
  rcases h with rfl | rfl | rfl | rfl | rfl | rfl | rfl | rfl | rfl | rfl | rfl | rfl <;> decide +kernel
theorem loop_end {n : Nat} {rows0 : List (List Str)} {nl rw wl : Addr} {fixed : List (Str × Value)} {rest own led cellsN : List (Addr × Obj)} {j nw cr : Nat} {ws refsN : Array Value} {ks : List (Option Nat)} {k : Option Nat} {v : Value} {y : Str} {u tz : Tok} {m' : Str → Option Value} {h' : Heap} {tk : Nat} {s₁ : Shared} {gd : Bool} {mn : Int}
    (FZ : Fr h₀ L h' m') (NZ : News h₀ L h' led) (hkj : ks.length = j) (hW : WordsOK n ws.toList ks) (hv : v = .str y u) (hyl : y.length ≤ 20) (hw : Word n y k)
    (M : Mat refsN.toList (placed rows0 ((ks ++ [k]).takeWhile Option.isSome)) cellsN) (S : Short (placed rows0 ((ks ++ [k]).takeWhile Option.isSome)) (8 + (j + 1)))
    (C : ∀ q ∈ cellsN, q.1 ≠ wl ∧ q.1 ≠ rw ∧ ∀ p ∈ rest, p.1 ≠ q.1) (hfx : ∀ q ∈ fixed, m' q.1 = some q.2) (mg : m' (Str.ofString "good") = some (.bool gd)) (hgd : gd = (ks ++ [k]).all Option.isSome)
    (mm : m' (Str.ofString "many") = some (.int mn tz)) (hmn : mn = (((ks ++ [k]).takeWhile Option.isSome).length : Int))
    (hof : OwnOff own (((wl, listOf (ws.push v) (nw + 1)) :: (rw, listOf refsN cr) :: (cellsN ++ rest)).map (·.1)))
    (s1 : (wl, listOf (ws.push v) (nw + 1)) ∈ led) (s2 : (rw, listOf refsN cr) ∈ led) (s3 : ∀ p ∈ cellsN, p ∈ led) (s4 : ∀ p ∈ rest, p ∈ led) (s5 : ∀ p ∈ own, p ∈ led) :
    InvEndG h₀ L (LoopSt n rows0 nl rw wl fixed rest (j + 1)) own s₁ { s₁ with heap := h', toks := tk } := by
  subst hgd hmn
  refine InvEndG.intro (nx := (wl, listOf (ws.push v) (nw + 1)) :: (rw, listOf refsN cr) :: (cellsN ++ rest)) FZ NZ ⟨⟨ws.push v, nw + 1, refsN, cr, cellsN, ks ++ [k], tz, rfl, by simp [hkj], words_snoc hW hv hyl hw, M, S, C, hfx, mg, mm⟩⟩ hof ?_ s5
  intro p hp
  rcases List.mem_cons.mp hp with rfl | hp
  · exact s1
  rcases List.mem_cons.mp hp with rfl | hp
  · exact s2
  rcases List.mem_append.mp hp with hp | hp
  · exact s3 p hp
  · exact s4 p hp
theorem loop_put {n : Nat} {rows0 : List (List Str)} {nl rw wl D aj : Addr} {fixed : List (Str × Value)} {rest own tail cells pre post : List (Addr × Obj)} {pl : Addr × Obj} {o1 o2 oj : Obj} {j nw cr q jz : Nat} {ws refs itsN : Array Value} {ks : List (Option Nat)} {v : Value} {y : Str} {u tz : Tok} {m' : Str → Option Value} {h' : Heap} {tk : Nat} {s₁ : Shared}
    (FZ : Fr h₀ L h' m') (NZ : News h₀ L h' ((D, listOf itsN 0) :: pl :: (wl, listOf (ws.push v) (nw + 1)) :: (rw, listOf (refs.toList.set jz (.ref D)).toArray cr) :: tail)) (hkj : ks.length = j) (hW : WordsOK n ws.toList ks) (hv : v = .str y u) (hyl : y.length ≤ 20) (hw : Word n y (some q))
    (hall : ks.all Option.isSome = true) (htl : tail = cells ++ rest ++ own) (hce : cells = pre ++ (aj, oj) :: post) (hM : Mat (refs.toList.set jz (.ref D)) (placeK (placed rows0 (ks.takeWhile Option.isSome)) q) (pre ++ (D, listOf itsN 0) :: post))
    (S9 : Short (placed rows0 (ks.takeWhile Option.isSome)) (8 + j)) (C9 : ∀ q ∈ cells, q.1 ≠ wl ∧ q.1 ≠ rw ∧ ∀ p ∈ rest, p.1 ≠ q.1) (lw : wl < D) (lr : rw < D) (lt : AllLt D tail)
    (hfx : ∀ q ∈ fixed, m' q.1 = some q.2) (mg : m' (Str.ofString "good") = some (.bool true)) (mm : m' (Str.ofString "many") = some (.int (((ks.takeWhile Option.isSome).length : Int) + 1) tz))
    (hof : OwnOff own (((wl, o1) :: (rw, o2) :: (cells ++ rest)).map (·.1))) :
    InvEndG h₀ L (LoopSt n rows0 nl rw wl fixed rest (j + 1)) own s₁ { s₁ with heap := h', toks := tk } := by
  obtain ⟨tt1, tt2⟩ := tw_true (d := q) hall
  have ecell : ∀ z ∈ pre ++ post, z ∈ cells := by
    rw [hce]; intro z hz
    simp only [List.mem_append, List.mem_cons] at hz ⊢
    rcases hz with h | h <;> simp [h]
  rw [tt2] at S9 hM
  refine loop_end FZ NZ hkj hW hv hyl hw (gd := true) (refsN := (refs.toList.set jz (.ref D)).toArray) (cellsN := pre ++ (D, listOf itsN 0) :: post) (by rw [tt1, placed_snoc]; exact hM) (by rw [tt1, placed_snoc]; exact short_place S9) ?_ hfx mg (by rw [List.all_append, hall]; rfl) mm (by rw [tt1, tt2, List.length_append]; rfl) ?_ (.tail _ (.tail _ (.head _))) (.tail _ (.tail _ (.tail _ (.head _)))) ?_ ?_ ?_
  · intro z hz
    rcases List.mem_append.mp hz with hz | hz
    · exact C9 z (ecell z (List.mem_append.mpr (.inl hz)))
    rcases List.mem_cons.mp hz with rfl | hz
    · exact ⟨Nat.ne_of_gt lw, Nat.ne_of_gt lr, fun p hp => Nat.ne_of_lt (allLt_mem lt p (by rw [htl]; simp [hp]))⟩
    · exact C9 z (ecell z (List.mem_append.mpr (.inr hz)))
  · intro z hz b hb
    rw [hce] at hof
    simp only [List.map_cons, List.map_append, List.mem_cons, List.mem_append] at hb
    rcases hb with rfl | rfl | (hb | rfl | hb) | hb
    · exact hof z hz _ (by simp)
    · exact hof z hz _ (by simp)
    · exact hof z hz _ (by simp only [List.map_cons, List.map_append, List.mem_cons, List.mem_append]; simp [hb])
    · exact Nat.ne_of_lt (allLt_mem lt z (by rw [htl]; simp [hz]))
    · exact hof z hz _ (by simp only [List.map_cons, List.map_append, List.mem_cons, List.mem_append]; simp [hb])
    · exact hof z hz _ (by simp only [List.map_cons, List.map_append, List.mem_cons, List.mem_append]; simp [hb])
  · intro p hp
    simp only [htl, hce, List.mem_append, List.mem_cons] at hp ⊢
    rcases hp with h | h | h <;> simp [h]
  · rw [htl]; intro p hp; simp [hp]
  · rw [htl]; intro p hp; simp [hp]
theorem law_loop {i : Nat} {x d : Addr} {k1 k2 k3 k4 k5 : Tok} {pm tka pa pb rw ah aa ab wl nl : Addr} {cp ca cb ct cr cah na nb nw nn : Nat} {va vb wa wb refs refs2 nums : Array Value} {cells1 cells2 : List (Addr × Obj)} {ps : Array Value} {ex : List (Addr × Obj)} {t3 t4 : Tok}
    (hi : i < 15) (h1 : (x, instObj (110 + 21 * i) d) ∈ news)
    (h3 : (pm, listOf #[.ref pa, .ref pb] cp) ∈ news) (h4 : (pa, listOf va ca) ∈ news) (h5 : (pb, listOf vb cb) ∈ news) (h6 : (tka, listOf refs ct) ∈ news) (h8 : (ah, listOf #[.ref aa, .ref ab] cah) ∈ news) (h9 : (aa, listOf wa na) ∈ news) (h10 : (ab, listOf wb nb) ∈ news) (hnl : (nl, listOf nums nn) ∈ news) (hnums : NumsOK nums)
    (M1 : Mat refs.toList (rowsOf i) cells1) (M2 : Mat refs2.toList (rowsOf i) cells2)
    (ta : Texts va.toList (aheadA (fOf i))) (tb : Texts vb.toList (aheadB (gOf i) (wayOf i))) (tc : Texts wa.toList (aheadA (fOf i))) (td : Texts wb.toList (aheadB (gOf i) (wayOf i)))
    (hda : d ∉ cells1.map (·.1)) (hnd : (cells1.map (·.1)).Nodup) (hno : ∀ p ∈ (30, tabObj ps) :: (ex ++ news), p.1 ≠ d ∧ p.1 ∉ cells1.map (·.1)) (hn30 : ∀ p ∈ news, p.1 ≠ 30) (hw30 : wl ≠ 30 ∧ rw ≠ 30)
    (hwr : wl ≠ rw) (hoff : ∀ p ∈ (30, tabObj ps) :: (ex ++ ((d, dictOf (pdict w.params k1 k2 k3 k4 k5 t1 t2 pm tka (nameOf i) (wayOf i) 0) 5) :: (cells1 ++ news))), p.1 ≠ wl ∧ p.1 ≠ rw)
    (hfr : ∀ q ∈ cells2, q.1 ≠ wl ∧ q.1 ≠ rw ∧ ∀ p ∈ (30, tabObj ps) :: (ex ++ ((d, dictOf (pdict w.params k1 k2 k3 k4 k5 t1 t2 pm tka (nameOf i) (wayOf i) 0) 5) :: (cells1 ++ news))), p.1 ≠ q.1)
    (hcd : CodeHd h₀ (34, 30).1 (34, 30).2) (hps : TabOK ps ex)
    (B : Below callerA h₀ [] h₀) (F : Fr h₀ L s.heap m) (X : (hd.heap_39 w.params).In h₀) (N : News h₀ L s.heap ((wl, listOf #[] nw) :: (rw, listOf refs2 cr) :: (cells2 ++ ((30, tabObj ps) :: (ex ++ ((d, dictOf (pdict w.params k1 k2 k3 k4 k5 t1 t2 pm tka (nameOf i) (wayOf i) 0) 5) :: (cells1 ++ news))))))) (T : Top p loose mean mg mb h₀)
    (m1 : m (Str.ofString "pattern") = some (.ref x)) (m2 : m (Str.ofString "words") = some (.ref wl)) (m3 : m (Str.ofString "good") = some (.bool true)) (m4 : m (Str.ofString "name") = some (.str (nameOf i) t3)) (m5 : m (Str.ofString "rows") = some (.ref rw)) (m6 : m (Str.ofString "ahead") = some (.ref ah)) (m7 : m (Str.ofString "many") = some (.int 0 t4)) (m8 : m (Str.ofString "numbers") = some (.ref nl))
    (hR : ∀ h' tk' m' ps' led, Fr h₀ L h' m' → News h₀ L h' ((30, tabObj ps') :: led) → R (.ok (.ret (.bool true))) { s with heap := h', toks := tk' }) :
    wpR (model prog w) (callerA.deeper (lawEnv w.params L a ccd)) (execs (List.drop 12 (lawBody w.params)) (lawEnv w.params L a ccd)) (fun f s' => R (.ok (.ret (match f with | .ret v => v | _ => .none))) s')
      (fun e s' => wpAny (model prog w) (callerA.deeper (lawEnv w.params L a ccd)) (leaving (lawEnv w.params L a ccd) e) (fun _ s'' => R (.error e) s'') (fun e' s'' => R (.error e') s'') s') s := by
  have F8 := fr_as (m' := fun z => if z = Str.ofString "numbers" then some (.ref nl) else m z) F (by
    funext z
    by_cases e1 : z = Str.ofString "numbers"
    · rw [if_pos e1, e1, m8]
    rw [if_neg e1])
  clear F
  obtain ⟨ok2, sh8, len3, len0⟩ := rows_ok hi
  obtain ⟨rest, hrest⟩ : ∃ l, l = (30, tabObj ps) :: (ex ++ ((d, dictOf (pdict w.params k1 k2 k3 k4 k5 t1 t2 pm tka (nameOf i) (wayOf i) 0) 5) :: (cells1 ++ news))) := ⟨_, rfl⟩
  rw [← hrest] at N hoff hfr
  have hnr : (nl, listOf nums nn) ∈ rest := by rw [hrest]; simp [hnl]
  dsimp only [lawEnv, lawBody, lawFn, lawObj, List.drop]
  refine wpR_execs_cons ?_
  refine For_R h₀ (by rfl) (by rfl) ?_
  k_steps
  rename News _ _ _ _ => NN
  rename Fr _ _ _ _ => FF
  rename IsRange _ _ _ _ _ _ _ _ => rg
  rename 0 ≤ _ => hz
  rename Int => i0
  obtain ⟨n, hn, hn5⟩ : ∃ n : Nat, i0.fmod 6 = (n : Int) ∧ n ≤ 5 := by
    rw [Int.fmod_eq_emod_of_nonneg _ (by decide)]
    exact ⟨(i0 % 6).toNat, by omega, by omega⟩
  rw [hn] at rg
  refine iter_rangeR (n := n) (LoopSt (rowsOf i).length (rowsOf i) nl rw wl [(Str.ofString "pattern", .ref x), (Str.ofString "words", .ref wl), (Str.ofString "name", .str (nameOf i) t3), (Str.ofString "rows", .ref rw), (Str.ofString "ahead", .ref ah), (Str.ofString "numbers", .ref nl)] rest) (by rfl) rg (small_one (by omega) (by omega) (by omega) (by omega)) (rangeSize_nat _ _) FF NN ?_ ?_ ?_
  · refine ⟨⟨#[], nw, refs2, cr, cells2, [], t4, rfl, rfl, ⟨rfl, by simp⟩, by simpa [placed] using M2, by simpa [placed] using sh8, hfr, ?_, ?_, ?_⟩⟩
    · intro q hq
      simp only [List.mem_cons, List.not_mem_nil, or_false] at hq
      rcases hq with rfl | rfl | rfl | rfl | rfl | rfl
      · exact m1
      · exact m2
      · exact m4
      · exact m5
      · exact m6
      · exact if_pos rfl
    · exact m3
    · exact m7
  · rintro j t m₁ nx hh tk9 own hj hof ⟨⟨ws, nw', refs', cr', cells, ks, tm, rfl, hkj, ⟨hwl, hWs⟩, M9, S9, C9, hfx, mg9, mm9⟩⟩ F9 N9
    clear NN FF rg
    simp only [List.forall_mem_cons] at hfx
    obtain ⟨f1, f2, f3, f4, f5, f6, _⟩ := hfx
    have F10 := fr_as (m' := fun z => if z = Str.ofString "k" then some (.int (j : Int) t) else if z = Str.ofString "numbers" then some (.ref nl) else if z = Str.ofString "rows" then some (.ref rw) else if z = Str.ofString "words" then some (.ref wl) else if z = Str.ofString "good" then some (.bool (ks.all Option.isSome)) else if z = Str.ofString "many" then some (.int ((ks.takeWhile Option.isSome).length : Int) tm) else m₁ z) F9 (by
      funext z
      by_cases e1 : z = Str.ofString "k"
      · rw [if_pos e1, if_pos e1]
      rw [if_neg e1, if_neg e1]
      by_cases e2 : z = Str.ofString "numbers"
      · rw [if_pos e2, e2, f6]
      rw [if_neg e2]
      by_cases e3 : z = Str.ofString "rows"
      · rw [if_pos e3, e3, f4]
      rw [if_neg e3]
      by_cases e4 : z = Str.ofString "words"
      · rw [if_pos e4, e4, f2]
      rw [if_neg e4]
      by_cases e5 : z = Str.ofString "good"
      · rw [if_pos e5, e5, mg9]
      rw [if_neg e5]
      by_cases e6 : z = Str.ofString "many"
      · rw [if_pos e6, e6, mm9]
      rw [if_neg e6])
    obtain ⟨tail, htl⟩ : ∃ l, l = cells ++ rest ++ own := ⟨_, rfl⟩
    have htw : ∀ p ∈ tail, p.1 ≠ wl ∧ p.1 ≠ rw := by
      intro p hp
      rw [htl] at hp
      rcases List.mem_append.mp hp with hp | hp
      · rcases List.mem_append.mp hp with hp | hp
        · exact ⟨(C9 p hp).1, (C9 p hp).2.1⟩
        · exact hoff p hp
      · exact ⟨hof p hp wl (by simp), hof p hp rw (by simp)⟩
    have ht1 : ∀ p ∈ tail, p.1 ≠ wl := fun p hp => (htw p hp).1
    have ht2 : ∀ p ∈ tail, p.1 ≠ rw := fun p hp => (htw p hp).2
    have hwr2 : rw ≠ wl := Ne.symm hwr
    have r1 : ∀ z ∈ cells, z ∈ tail := by rw [htl]; exact fun z hz => List.mem_append.mpr (.inl (List.mem_append.mpr (.inl hz)))
    have r2 : ∀ z ∈ rest, z ∈ tail := by rw [htl]; exact fun z hz => List.mem_append.mpr (.inl (List.mem_append.mpr (.inr hz)))
    have r3 : ∀ z ∈ own, z ∈ tail := by rw [htl]; exact fun z hz => List.mem_append.mpr (.inr hz)
    have N10 := news_sub (l := (wl, listOf ws nw') :: (rw, listOf refs' cr') :: tail) N9 (by
      rw [htl]
      exact sub_cons (.head _) (sub_cons (.tail _ (.head _)) (sub_app (sub_app (fun z hz => List.mem_append.mpr (.inl (.tail _ (.tail _ (List.mem_append.mpr (.inl hz)))))) fun z hz => List.mem_append.mpr (.inl (.tail _ (.tail _ (List.mem_append.mpr (.inr hz)))))) fun z hz => List.mem_append.mpr (.inr hz))))
    have hnt : (nl, listOf nums nn) ∈ tail := r2 _ hnr
    have hsz : refs'.size = (rowsOf i).length := by rw [← Array.length_toList, mat_len M9, placed_len]
    have hwz : ws.size ≤ 5 := by rw [← Array.length_toList, ← hwl]; omega
    clear F9 N9
    refine wpR_execs_consL ?_
    k_steps
    try dsimp only
    refine wpR_execs_consL ?_
    k_steps
    try dsimp only
    rename_i p1 u1 hp1 g1 p2 u2 hp2 g2 FP NP
    obtain ⟨q, hq, hqn⟩ : ∃ q : Nat, p2.fmod (refs'.size + 1) = (q : Int) ∧ q ≤ (rowsOf i).length := by
      have z1 := fm_lo (a := p2) (b := (refs'.size + 1 : Int)) (by omega)
      have z2 := fm_hi (a := p2) (b := (refs'.size + 1 : Int)) (by omega)
      exact ⟨(p2.fmod (refs'.size + 1)).toNat, by omega, by omega⟩
    rw [hq] at FP
    clear hp2 hq
    refine wpR_of ?_
    cases hpk : (p1.fmod 7 == 6) with
    | true =>
      k_steps
      rename Fr _ _ _ _ => FZ
      rename News _ _ _ _ => NZ
      rename _ ∈ _ => hv9
      rename Value => v9
      have hv8 : ∃ y u, v9 = Value.str y u ∧ y.length ≤ 20 ∧ Word (rowsOf i).length y none := by
        have e9 : (2 * (refs'.size : Int) + 2 + (q : Int)) = ((2 * (rowsOf i).length + 2 + q : Nat) : Int) := by omega
        rw [e9] at hv9
        simp only [List.mem_cons, List.not_mem_nil, or_false] at hv9
        rcases hv9 with h | h | h | h | h | h | h
        · exact ⟨_, _, h, psk_len _ (by omega), word_far (by omega) (by omega)⟩
        · exact ⟨_, _, h, by decide, word_psk⟩
        · exact ⟨_, _, h, by decide, word_pskx⟩
        · exact ⟨_, _, h, by decide, word_none⟩
        · exact ⟨_, _, h, by decide, word_empty⟩
        · exact ⟨_, _, h, by decide, word_PSK1⟩
        · exact ⟨_, _, h, by decide, word_xpsk1⟩
      obtain ⟨y8, u8, hv7, hy7, hw7⟩ := hv8
      refine loop_end FZ NZ hkj ⟨hwl, hWs⟩ hv7 hy7 hw7 (gd := false) (mn := ((ks.takeWhile Option.isSome).length : Int)) (refsN := refs') (cr := cr') (cellsN := cells) (by rw [tw_none]; exact M9) (by rw [tw_none]; exact short_up S9) C9 ?_ rfl (by rw [List.all_append]; exact (Bool.and_false _).symm) rfl (by rw [tw_none]) (by simpa using hof) (.tail _ (.head _)) (.tail _ (.tail _ (.head _))) ?_ ?_ ?_
      · intro q hq
        simp only [List.mem_cons, List.not_mem_nil, or_false] at hq
        rcases hq with rfl | rfl | rfl | rfl | rfl | rfl
        · exact f1
        · rfl
        · exact f3
        · rfl
        · exact f5
        · rfl
      · exact fun z hz => .tail _ (.tail _ (.tail _ (r1 z hz)))
      · exact fun z hz => .tail _ (.tail _ (.tail _ (r2 z hz)))
      · exact fun z hz => .tail _ (.tail _ (.tail _ (r3 z hz)))
    | false =>
      cases hgd : ks.all Option.isSome with
      | false =>
        rw [hgd] at FP
        k_steps
        rename Fr _ _ _ _ => FZ
        rename News _ _ _ _ => NZ
        refine loop_end FZ NZ hkj ⟨hwl, hWs⟩ rfl (psk_len q (by omega)) (word_good hqn len3) (gd := false) (mn := ((ks.takeWhile Option.isSome).length : Int)) (refsN := refs') (cr := cr') (cellsN := cells) (by rw [tw_false hgd]; exact M9) (by rw [tw_false hgd]; exact short_up S9) C9 ?_ rfl (by rw [List.all_append, hgd]; rfl) rfl (by rw [tw_false hgd]) (by simpa using hof) (.head _) (.tail _ (.head _)) ?_ ?_ ?_
        · intro q hq
          simp only [List.mem_cons, List.not_mem_nil, or_false] at hq
          rcases hq with rfl | rfl | rfl | rfl | rfl | rfl
          · exact f1
          · rfl
          · exact f3
          · rfl
          · exact f5
          · rfl
        · exact fun z hz => .tail _ (.tail _ (r1 z hz))
        · exact fun z hz => .tail _ (.tail _ (r2 z hz))
        · exact fun z hz => .tail _ (.tail _ (r3 z hz))
      | true =>
        rw [hgd] at FP
        obtain ⟨jj, hjj⟩ : ∃ jj, jj = q - 1 := ⟨_, rfl⟩
        obtain ⟨pre, post, aj, its, nj, hce, hr, tx, up⟩ := mat_put M9 (j := jj) (by rw [placed_len]; omega)
        have hmj : (aj, listOf its nj) ∈ tail := r1 _ (by rw [hce]; exact List.mem_append.mpr (.inr (.head _)))
        have hz2 : its.size ≤ 20 := by
          have z1 := short_at (j := jj) S9
          have z2 := tx.size
          omega
        have hq2 : q = 0 ∨ q = jj + 1 := by omega
        rcases hq2 with hq2 | hq2
        · have hr0 : refs'.toList[(0 : Int).toNat]? = some (.ref aj) := by rw [hq2] at hjj; subst hjj; exact hr
          have hnz : ((q : Int) == 0) = true := by rw [hq2]; rfl
          k_steps
          rename Fr _ _ _ _ => FZ
          rename News _ _ _ _ => NZ
          rename _ ∧ _ ∧ _ ∧ AllLt _ tail => hl9
          obtain ⟨_, lw, lr, lt⟩ := hl9
          refine loop_put FZ NZ hkj ⟨hwl, hWs⟩ rfl (psk_len q (by omega)) (word_good hqn len3) hgd htl hce ?_ S9 C9 lw lr lt ?_ rfl rfl hof
          · unfold placeK
            rw [if_pos hq2]
            have e : jj = 0 := by omega
            rw [e] at up tx
            exact up (fun c => tS "psk" :: c) _ _ _ (by rw [Array.toList_append]; exact Texts.cons tx)
          · intro q hq
            simp only [List.mem_cons, List.not_mem_nil, or_false] at hq
            rcases hq with rfl | rfl | rfl | rfl | rfl | rfl
            · exact f1
            · rfl
            · exact f3
            · rfl
            · exact f5
            · rfl
        · have hr1 : refs'.toList[((q : Int) - 1).toNat]? = some (.ref aj) := by
            have e : ((q : Int) - 1).toNat = jj := by omega
            rw [e]; exact hr
          have hnz : ((q : Int) == 0) = false := by rw [beq_eq_false_iff_ne]; omega
          k_steps
          rename Fr _ _ _ _ => FZ
          rename News _ _ _ _ => NZ
          rename _ ∧ _ ∧ _ ∧ AllLt _ tail => hl9
          obtain ⟨_, lw, lr, lt⟩ := hl9
          refine loop_put FZ NZ hkj ⟨hwl, hWs⟩ rfl (psk_len q (by omega)) (word_good hqn len3) hgd htl hce ?_ S9 C9 lw lr lt ?_ rfl rfl hof
          · unfold placeK
            rw [if_neg (by omega), show q - 1 = jj from by omega, show ((q : Int) - 1).toNat = jj from by omega]
            exact up (fun c => c ++ [tS "psk"]) _ _ _ (by rw [Array.toList_append]; exact texts_snoc tx)
          · intro q hq
            simp only [List.mem_cons, List.not_mem_nil, or_false] at hq
            rcases hq with rfl | rfl | rfl | rfl | rfl | rfl
            · exact f1
            · rfl
            · exact f3
            · rfl
            · exact f5
            · rfl
  · rintro m₁ nx h tk9 ⟨⟨ws, nw', refs', cr', cells, ks, tm, rfl, hkj, ⟨hwl, hWs⟩, M9, S9, C9, hfx, mg9, mm9⟩⟩ F9 N9
    simp only [List.forall_mem_cons] at hfx
    obtain ⟨f1, f2, f3, f4, f5, f6, _⟩ := hfx
    have hin : ∀ {z : Addr × Obj}, z ∈ news → z ∈ (wl, listOf ws nw') :: (rw, listOf refs' cr') :: (cells ++ news) := fun hz => .tail _ (.tail _ (List.mem_append.mpr (.inr hz)))
    have NT := news_sub (l := (30, tabObj ps) :: (ex ++ ((d, dictOf (pdict w.params k1 k2 k3 k4 k5 t1 t2 pm tka (nameOf i) (wayOf i) 0) 5) :: (cells1 ++ ((wl, listOf ws nw') :: (rw, listOf refs' cr') :: (cells ++ news)))))) N9 (by
      have b : ∀ z ∈ rest, z ∈ (wl, listOf ws nw') :: (rw, listOf refs' cr') :: (cells ++ rest) := fun z hz => .tail _ (.tail _ (List.mem_append.mpr (.inr hz)))
      have c : ∀ z ∈ (30, tabObj ps) :: (ex ++ ((d, dictOf (pdict w.params k1 k2 k3 k4 k5 t1 t2 pm tka (nameOf i) (wayOf i) 0) 5) :: (cells1 ++ news))), z ∈ (wl, listOf ws nw') :: (rw, listOf refs' cr') :: (cells ++ rest) := fun z hz => b z (hrest ▸ hz)
      have e : ∀ z ∈ (d, dictOf (pdict w.params k1 k2 k3 k4 k5 t1 t2 pm tka (nameOf i) (wayOf i) 0) 5) :: (cells1 ++ news), z ∈ (wl, listOf ws nw') :: (rw, listOf refs' cr') :: (cells ++ rest) := fun z hz => c z (.tail _ (List.mem_append.mpr (.inr hz)))
      exact sub_cons (c _ (.head _)) (sub_app (fun z hz => c z (.tail _ (List.mem_append.mpr (.inl hz)))) (sub_cons (e _ (.head _)) (sub_app (fun z hz => e z (.tail _ (List.mem_append.mpr (.inl hz)))) (sub_cons (.head _) (sub_cons (.tail _ (.head _)) (sub_app (fun z hz => .tail _ (.tail _ (List.mem_append.mpr (.inl hz)))) fun z hz => e z (.tail _ (List.mem_append.mpr (.inr hz))))))))))
    have hr30 : ((30, tabObj ps) : Addr × Obj) ∈ rest := by rw [hrest]; exact .head _
    have hrd : ∀ {o : Obj}, o = dictOf (pdict w.params k1 k2 k3 k4 k5 t1 t2 pm tka (nameOf i) (wayOf i) 0) 5 → (d, o) ∈ rest := by rintro o rfl; rw [hrest]; simp
    have hrc : ∀ z ∈ cells1, z ∈ rest := by intro z hz; rw [hrest]; simp [hz]
    have off : ∀ {b : Addr}, (∀ p ∈ rest, p.1 ≠ b) → b ≠ d ∧ b ∉ cells1.map (·.1) := fun {b} hb => ⟨fun q => hb _ (hrd rfl) q.symm, fun hm => by
      obtain ⟨z, hz, e⟩ := List.mem_map.mp hm
      exact hb z (hrc z hz) e⟩
    have hlen5 : ws.size ≤ 5 := by rw [← Array.length_toList, ← hwl]; omega
    dsimp only
    refine law_tail (news := (wl, listOf ws nw') :: (rw, listOf refs' cr') :: (cells ++ news)) hi (hin h1) (hin h3) (hin h4) (hin h5) (hin h6) (.tail _ (.head _)) (hin h8) (hin h9) (hin h10) (.head _) M1 M9 (fun z hz => .tail _ (.tail _ (List.mem_append.mpr (.inl hz)))) ta tb tc td hwl hlen5 hWs rfl rfl hda hnd ?_ ?_ hcd hps B F9 X NT T f1 f2 mg9 f3 f4 f5 mm9 hR
    · intro z hz
      rcases List.mem_cons.mp hz with rfl | hz
      · exact hno _ (.head _)
      rcases List.mem_append.mp hz with hz | hz
      · exact hno z (.tail _ (List.mem_append.mpr (.inl hz)))
      rcases List.mem_cons.mp hz with rfl | hz
      · exact off fun p hp => (hoff p hp).1
      rcases List.mem_cons.mp hz with rfl | hz
      · exact off fun p hp => (hoff p hp).2
      rcases List.mem_append.mp hz with hz | hz
      · exact off (C9 z hz).2.2
      · exact hno z (.tail _ (List.mem_append.mpr (.inr hz)))
    · intro z hz
      rcases List.mem_cons.mp hz with rfl | hz
      · exact hw30.1
      rcases List.mem_cons.mp hz with rfl | hz
      · exact hw30.2
      rcases List.mem_append.mp hz with hz | hz
      · exact fun q => (C9 z hz).2.2 _ hr30 q.symm
      · exact hn30 z hz
end
end
-- part LawD
section
example : True := by
  w_top off
  trivial
theorem rising_lt : ∀ {l : List Nat} {a : Nat}, Rising (a :: l) → ∀ b ∈ l, a < b
  | [], _, _, _, h => nomatch h
  | c :: l, a, ⟨h1, h2⟩, b, hb => by
    rcases List.mem_cons.mp hb with rfl | hb
    · exact h1
    · exact Nat.lt_trans h1 (rising_lt h2 b hb)
theorem rising_tail : ∀ {l : List Nat} {a : Nat}, Rising (a :: l) → Rising l
  | [], _, _ => trivial
  | _ :: _, _, h => h.2
theorem rising_nodup : ∀ {l : List Nat}, Rising l → l.Nodup
  | [], _ => List.nodup_nil
  | a :: l, h => List.nodup_cons.mpr ⟨fun hm => Nat.lt_irrefl _ (rising_lt h a hm), rising_nodup (rising_tail h)⟩
theorem rising_last : ∀ {l : List Nat} {z : Nat}, Rising (l ++ [z]) → ∀ b ∈ l, b < z
  | a :: l, z, h, b, hb => by
    rcases List.mem_cons.mp hb with rfl | hb
    · exact rising_lt h z (by simp)
    · exact rising_last (rising_tail h) b hb
theorem texts_get : ∀ {vs : List Value} {xs : List Str}, Texts vs xs → ∀ {i : Nat} {x : Str}, xs[i]? = some x → ∃ t, vs[i]? = some (.str x t)
  | _, _, .nil, i, x, h => by simp at h
  | _, _, .cons (t := t) hh, 0, x, h => by
    simp at h
    subst h
    exact ⟨t, rfl⟩
  | _, _, .cons hh, i + 1, x, h => by
    obtain ⟨t, e⟩ := texts_get hh (i := i) (by simpa using h)
    exact ⟨t, by simpa using e⟩
theorem names_get {i : Nat} (hi : i < 15) : ([Str.ofString "N", Str.ofString "K", Str.ofString "X", Str.ofString "NN", Str.ofString "KN", Str.ofString "NK", Str.ofString "KK", Str.ofString "NX", Str.ofString "KX", Str.ofString "XN", Str.ofString "IN", Str.ofString "XK", Str.ofString "IK", Str.ofString "XX", Str.ofString "IX"] : List Str)[i]? = some (nameOf i) := by
  have h := lt15 hi
  rcases h with rfl | rfl | rfl | rfl | rfl | rfl | rfl | rfl | rfl | rfl | rfl | rfl | rfl | rfl | rfl <;> rfl
theorem f_at {i : Nat} (hi : i < 15) : ∃ c, (nameOf i).cps[0]? = some c ∧ fOf i = ⟨#[c]⟩ := by
  have h := lt15 hi
  rcases h with rfl | rfl | rfl | rfl | rfl | rfl | rfl | rfl | rfl | rfl | rfl | rfl | rfl | rfl | rfl <;> exact ⟨_, rfl, by decide +kernel⟩
theorem g_at {i : Nat} (h3 : wayOf i = false) (hi : i < 15) : ∃ c, (nameOf i).cps[1]? = some c ∧ gOf i = ⟨#[c]⟩ := by
  have h := lt15 hi
  rcases h with rfl | rfl | rfl | rfl | rfl | rfl | rfl | rfl | rfl | rfl | rfl | rfl | rfl | rfl | rfl <;> first | exact ⟨_, rfl, by decide +kernel⟩ | cases h3
theorem g_one {i : Nat} (h3 : wayOf i = true) (hi : i < 15) : gOf i = tS "N" := by
  have h := lt15 hi
  rcases h with rfl | rfl | rfl | rfl | rfl | rfl | rfl | rfl | rfl | rfl | rfl | rfl | rfl | rfl | rfl <;> first | rfl | cases h3
theorem way_len {i : Nat} (hi : i < 15) : (((nameOf i).length : Int) == 1) = wayOf i ∧ (nameOf i).length ≤ 8 := by
  have h := lt15 hi
  rcases h with rfl | rfl | rfl | rfl | rfl | rfl | rfl | rfl | rfl | rfl | rfl | rfl | rfl | rfl | rfl <;> decide +kernel
theorem mat_lists {rs : List Value} {css : List (List Str)} {cells : List (Addr × Obj)} (M : Mat rs css cells) : ∀ z ∈ cells, ∃ its n, z.2 = listOf its n := by
  induction M with
  | nil => intro z hz; cases hz
  | cons _ _ ih =>
    intro z hz
    rcases List.mem_cons.mp hz with rfl | hz
    · exact ⟨_, _, rfl⟩
    · exact ih z hz
theorem tab_fields {ps : Array Value} {ex : List (Addr × Obj)} (h : TabOK ps ex) : ∀ z ∈ ex, ∃ vs, z.2.data = .fields vs := by
  cases h with
  | none => intro z hz; cases hz
  | some h1 h2 =>
    intro z hz
    rw [List.mem_singleton.mp hz]
    exact ⟨_, h1⟩
theorem off_data {h₀ h : Heap} {L : Addr} {led : List (Addr × Obj)} (N : News h₀ L h led) {a b : Addr} {o o' : Obj} (ha : (a, o) ∈ led) (hb : (b, o') ∈ led) (hne : o.data ≠ o'.data) : a ≠ b := by
  intro e
  subst e
  have h1 := (N _ ha).1
  have h2 := (N _ hb).1
  rw [h1] at h2
  exact hne (congrArg Obj.data (Option.some.inj h2))
section
variable {prog : Program} {w : World} {p : Program} {loose : List Str} {mean : ExcName → Option Value} {mg mb : Str → Option Value} {A : Around} {E : Value → Shared → Prop}
    {h₀ : Heap} {L a : Addr} {m : Str → Option Value} {news : List (Addr × Obj)} {s : Shared} {R : Result → Shared → Prop}
    {ccd : Value} {t1 t2 : Tok}
theorem item_text {value slice : PySem.Expr} {l : Addr} {its : Array Value} {n i : Nat} {u : Tok} {xs : List Str} {x : Str} {Q : Value → Shared → Prop} (N : News h₀ L s.heap news) (hl : (l, listOf its n) ∈ news) (tx : Texts its.toList xs) (hi : i < 64) (hx : xs[i]? = some x)
    (h : ∀ t, Q (.str x t) s) (hs : subscripted slice false (.ref l) (.int (i : Int) u) = operate [.ref l, .int (i : Int) u] (getItem (.ref l) (.int (i : Int) u)) := by with_unfolding_all rfl) (hg : ∀ r, letTemporaryGo value (.ref l) r = pure () := by intro _; rfl) :
    wpAny (model prog w) A (subscriptTail value slice (.ref l) (.int (i : Int) u)) Q E s := by
  obtain ⟨t, e⟩ := texts_get tx hx
  exact item_cell N hl (by omega) (by omega) (by rw [show ((i : Int)).toNat = i from by omega]; exact e) (h t) hs hg
theorem item_first {value slice : PySem.Expr} {i : Nat} {t u : Tok} {Q : Value → Shared → Prop} (hi : i < 15) (h : ∀ t', Q (.str (fOf i) t') { s with toks := s.toks + 1 })
    (hs : subscripted slice false (.str (nameOf i) t) (.int 0 u) = operate [.str (nameOf i) t, .int 0 u] (getItem (.str (nameOf i) t) (.int 0 u)) := by with_unfolding_all rfl) (hg : ∀ r, letTemporaryGo value (.str (nameOf i) t) r = pure () := by intro _; with_unfolding_all rfl) :
    wpAny (model prog w) A (subscriptTail value slice (.str (nameOf i) t) (.int 0 u)) Q E s := by
  obtain ⟨c, h1, h2⟩ := f_at hi
  exact item_name h1 (by decide) (by decide) (fun t' => by rw [← h2]; exact h t') hs hg
theorem item_second {value slice : PySem.Expr} {i : Nat} {t u : Tok} {Q : Value → Shared → Prop} (hw : wayOf i = false) (hi : i < 15) (h : ∀ t', Q (.str (gOf i) t') { s with toks := s.toks + 1 })
    (hs : subscripted slice false (.str (nameOf i) t) (.int 1 u) = operate [.str (nameOf i) t, .int 1 u] (getItem (.str (nameOf i) t) (.int 1 u)) := by with_unfolding_all rfl) (hg : ∀ r, letTemporaryGo value (.str (nameOf i) t) r = pure () := by intro _; with_unfolding_all rfl) :
    wpAny (model prog w) A (subscriptTail value slice (.str (nameOf i) t) (.int 1 u)) Q E s := by
  obtain ⟨c, h1, h2⟩ := g_at hw hi
  exact item_name h1 (by decide) (by decide) (fun t' => by rw [← h2]; exact h t') hs hg
local macro_rules | `(tactic| walk_at "subscriptTail") => `(tactic| (k_here; (with_reducible show wpAny _ _ (subscriptTail _ _ (Value.str _ _) (Value.int _ _)) _ _ _); k_dflt (first | (refine item_first (by assumption) ?_) | (refine item_second (by assumption) (by assumption) ?_)); intro t'))
theorem law_mid {i : Nat} {nl : Addr} {nums : Array Value} {nn : Nat} {t3 t5 t6 : Tok}
    (hi : i < 15) (hnums : NumsOK nums) (h30 : 30 < nl) (hcd : CodeHd h₀ (34, 30).1 (34, 30).2)
    (B : Below callerA h₀ [] h₀) (F : Fr h₀ L s.heap m) (X : (hd.heap_39 w.params).In h₀) (N : News h₀ L s.heap [(30, tabObj #[]), (nl, listOf nums nn)]) (T : Top p loose mean mg mb h₀)
    (m1 : m (Str.ofString "numbers") = some (.ref nl)) (m2 : m (Str.ofString "at") = some (.int (i : Int) t5)) (m3 : m (Str.ofString "name") = some (.str (nameOf i) t3)) (m4 : m (Str.ofString "one_way") = some (.bool (wayOf i))) (m5 : m (Str.ofString "second") = some (.str (gOf i) t6))
    (hR : ∀ h' tk' m' ps' led, Fr h₀ L h' m' → News h₀ L h' ((30, tabObj ps') :: led) → R (.ok (.ret (.bool true))) { s with heap := h', toks := tk' }) :
    wpR (model lawProg w) (callerA.deeper (lawEnv w.params L a ccd)) (execs (List.drop 5 (lawBody w.params)) (lawEnv w.params L a ccd)) (fun f s' => R (.ok (.ret (match f with | .ret v => v | _ => .none))) s')
      (fun e s' => wpAny (model lawProg w) (callerA.deeper (lawEnv w.params L a ccd)) (leaving (lawEnv w.params L a ccd) e) (fun _ s'' => R (.error e) s'') (fun e' s'' => R (.error e') s'') s') s := by
  have F8 := fr_as (m' := fun z => if z = Str.ofString "numbers" then some (.ref nl) else if z = Str.ofString "at" then some (.int (i : Int) t5) else if z = Str.ofString "name" then some (.str (nameOf i) t3) else if z = Str.ofString "one_way" then some (.bool (wayOf i)) else if z = Str.ofString "second" then some (.str (gOf i) t6) else m z) F (by
    funext z
    by_cases e1 : z = Str.ofString "numbers"
    · rw [if_pos e1, e1, m1]
    rw [if_neg e1]
    by_cases e2 : z = Str.ofString "at"
    · rw [if_pos e2, e2, m2]
    rw [if_neg e2]
    by_cases e3 : z = Str.ofString "name"
    · rw [if_pos e3, e3, m3]
    rw [if_neg e3]
    by_cases e4 : z = Str.ofString "one_way"
    · rw [if_pos e4, e4, m4]
    rw [if_neg e4]
    by_cases e5 : z = Str.ofString "second"
    · rw [if_pos e5, e5, m5]
    rw [if_neg e5])
  clear F
  have hij : i = ((i : Int)).toNat := by omega
  dsimp only [lawEnv, lawBody, lawFn, lawObj, List.drop]
  refine wpR_execs_consL ?_
  repeat' ((fail_if_success (with_reducible show wpAny _ _ (call (Value.ref 413) _) _ _ _)); first | (k_unfold; (try dsimp only)) | (k_end; wrow_close) | walk1 | (dsimp only; walk1) | (leave1; walk_say "STEP leave1"; try dsimp only) | fail "no step")
  k_dflt (refine pattern_c (by omega) (by omega) hij B rfl (by k_asm) X (by k_asm) T ?_)
  k_steps
  rename_i x d pm pa pb tka va vb refs cells1 cp ca cb ct k1 k2 k3 k4 k5 u1 u2 g0 tk0 ta tb M1 lt1 ri1 g1 F1 N1
  try dsimp only
  refine wpR_execs_consL ?_
  repeat' ((fail_if_success (with_reducible show wpAny _ _ (call (Value.ref 420) _) _ _ _)); first | (k_unfold; (try dsimp only)) | (k_end; wrow_close) | walk1 | (dsimp only; walk1) | (leave1; walk_say "STEP leave1"; try dsimp only) | fail "no step")
  k_dflt (refine messages_c B rfl (by k_asm) X (by k_asm) T ?_)
  k_steps
  rename_i t7 rw refs2 cells2 cr g2 tk2 M2 lt2 ne2 fr2 g3 F3 N3
  try dsimp only
  refine wpR_execs_consL ?_
  repeat' ((fail_if_success (with_reducible show wpAny _ _ (call (Value.ref 427) _) _ _ _)); first | (k_unfold; (try dsimp only)) | (k_end; wrow_close) | walk1 | (dsimp only; walk1) | (leave1; walk_say "STEP leave1"; try dsimp only) | fail "no step")
  k_dflt (refine ahead_c B rfl (by k_asm) X (by k_asm) T ?_)
  k_steps
  rename_i t8 ah aa ab wa wb cah na nb g4 tk4 lt3 lt4 lt5 tc td g5 F5 N5
  try dsimp only
  obtain ⟨ok2, sh8, len3, len0⟩ := rows_ok hi
  obtain ⟨newsF, hF⟩ : ∃ l, l = (d, dictOf (pdict w.params k1 k2 k3 k4 k5 u1 u2 pm tka (nameOf i) (wayOf i) 0) 5) :: (x, instObj (110 + 21 * i) d) :: (pm, listOf #[.ref pa, .ref pb] cp) :: (pa, listOf va ca) :: (pb, listOf vb cb) :: (tka, listOf refs ct) :: (rw, listOf refs2 cr) :: (ah, listOf #[.ref aa, .ref ab] cah) :: (aa, listOf wa na) :: (ab, listOf wb nb) :: (nl, listOf nums nn) :: (cells1 ++ cells2) := ⟨_, rfl⟩
  have NF := news_sub (l := (30, tabObj #[]) :: ([] ++ newsF)) N5 (by
    have a1 : ∀ z ∈ (x, instObj (110 + 21 * i) d) :: (d, dictOf (pdict w.params k1 k2 k3 k4 k5 u1 u2 pm tka (nameOf i) (wayOf i) 0) 5) :: (pm, listOf #[.ref pa, .ref pb] cp) :: (pa, listOf va ca) :: (pb, listOf vb cb) :: (tka, listOf refs ct) :: (cells1 ++ [(30, tabObj #[]), (nl, listOf nums nn)]), z ∈ (ah, listOf #[.ref aa, .ref ab] cah) :: (aa, listOf wa na) :: (ab, listOf wb nb) :: (rw, listOf refs2 cr) :: (cells2 ++ ((x, instObj (110 + 21 * i) d) :: (d, dictOf (pdict w.params k1 k2 k3 k4 k5 u1 u2 pm tka (nameOf i) (wayOf i) 0) 5) :: (pm, listOf #[.ref pa, .ref pb] cp) :: (pa, listOf va ca) :: (pb, listOf vb cb) :: (tka, listOf refs ct) :: (cells1 ++ [(30, tabObj #[]), (nl, listOf nums nn)]))) := fun z hz => .tail _ (.tail _ (.tail _ (.tail _ (List.mem_append.mpr (.inr hz)))))
    have a2 : ∀ z ∈ cells1 ++ [(30, tabObj #[]), (nl, listOf nums nn)], z ∈ _ := fun z hz => a1 z (.tail _ (.tail _ (.tail _ (.tail _ (.tail _ (.tail _ hz))))))
    rw [hF]
    exact sub_cons (a2 _ (List.mem_append.mpr (.inr (.head _)))) (sub_cons (a1 _ (.tail _ (.head _))) (sub_cons (a1 _ (.head _)) (sub_cons (a1 _ (.tail _ (.tail _ (.head _)))) (sub_cons (a1 _ (.tail _ (.tail _ (.tail _ (.head _))))) (sub_cons (a1 _ (.tail _ (.tail _ (.tail _ (.tail _ (.head _)))))) (sub_cons (a1 _ (.tail _ (.tail _ (.tail _ (.tail _ (.tail _ (.head _))))))) (sub_cons (.tail _ (.tail _ (.tail _ (.head _)))) (sub_cons (.head _) (sub_cons (.tail _ (.head _)) (sub_cons (.tail _ (.tail _ (.head _))) (sub_cons (a2 _ (List.mem_append.mpr (.inr (.tail _ (.head _))))) (sub_app (fun z hz => a2 z (List.mem_append.mpr (.inl hz))) fun z hz => .tail _ (.tail _ (.tail _ (.tail _ (List.mem_append.mpr (.inl hz))))))))))))))))))
  have e1 : (x, instObj (110 + 21 * i) d) ∈ newsF := by rw [hF]; repeat' (first | exact List.Mem.head _ | refine List.Mem.tail _ ?_)
  have e2 : (d, dictOf (pdict w.params k1 k2 k3 k4 k5 u1 u2 pm tka (nameOf i) (wayOf i) 0) 5) ∈ newsF := by rw [hF]; exact .head _
  have e3 : (pm, listOf #[.ref pa, .ref pb] cp) ∈ newsF := by rw [hF]; repeat' (first | exact List.Mem.head _ | refine List.Mem.tail _ ?_)
  have e4 : (pa, listOf va ca) ∈ newsF := by rw [hF]; repeat' (first | exact List.Mem.head _ | refine List.Mem.tail _ ?_)
  have e5 : (pb, listOf vb cb) ∈ newsF := by rw [hF]; repeat' (first | exact List.Mem.head _ | refine List.Mem.tail _ ?_)
  have e6 : (tka, listOf refs ct) ∈ newsF := by rw [hF]; repeat' (first | exact List.Mem.head _ | refine List.Mem.tail _ ?_)
  have e7 : (rw, listOf refs2 cr) ∈ newsF := by rw [hF]; repeat' (first | exact List.Mem.head _ | refine List.Mem.tail _ ?_)
  have e8 : (ah, listOf #[.ref aa, .ref ab] cah) ∈ newsF := by rw [hF]; repeat' (first | exact List.Mem.head _ | refine List.Mem.tail _ ?_)
  have e9 : (aa, listOf wa na) ∈ newsF := by rw [hF]; repeat' (first | exact List.Mem.head _ | refine List.Mem.tail _ ?_)
  have e10 : (ab, listOf wb nb) ∈ newsF := by rw [hF]; repeat' (first | exact List.Mem.head _ | refine List.Mem.tail _ ?_)
  have e11 : (nl, listOf nums nn) ∈ newsF := by rw [hF]; repeat' (first | exact List.Mem.head _ | refine List.Mem.tail _ ?_)
  have e12 : ∀ p ∈ cells1, p ∈ newsF := by intro z hz; rw [hF]; exact .tail _ (.tail _ (.tail _ (.tail _ (.tail _ (.tail _ (.tail _ (.tail _ (.tail _ (.tail _ (.tail _ (List.mem_append.mpr (.inl hz))))))))))))
  have e13 : ∀ p ∈ cells2, p ∈ newsF := by intro z hz; rw [hF]; exact .tail _ (.tail _ (.tail _ (.tail _ (.tail _ (.tail _ (.tail _ (.tail _ (.tail _ (.tail _ (.tail _ (List.mem_append.mpr (.inr hz))))))))))))
  have M2' : Mat refs2.toList (rowsOf i) cells2 := M2
  have h30' : @LT.lt Nat _ 30 nl := h30
  have nDX : @LT.lt Nat _ d x := ri1.1
  have nXP : @LT.lt Nat _ x pa := ri1.2.1
  have nPP : @LT.lt Nat _ pa pb := ri1.2.2.1
  have nPM : @LT.lt Nat _ pb pm := ri1.2.2.2.1
  have riC : Rising (pm :: (cells1.map (·.1) ++ [tka])) := ri1.2.2.2.2
  have c1 : ∀ z ∈ cells1, @LT.lt Nat _ pm z.1 ∧ @LT.lt Nat _ z.1 tka := fun z hz => ⟨rising_lt riC _ (List.mem_append.mpr (.inl (List.mem_map.mpr ⟨z, hz, rfl⟩))), rising_last (rising_tail riC) _ (List.mem_map.mpr ⟨z, hz, rfl⟩)⟩
  have nPT : @LT.lt Nat _ pm tka := rising_lt riC _ (by simp)
  have nND : @LT.lt Nat _ nl d := lt1.2.1
  have nTR : @LT.lt Nat _ tka rw := lt2 (tka, listOf refs ct) (by simp)
  have c2 : ∀ z ∈ cells2, @LT.lt Nat _ tka z.1 := fun z hz => allLt_mem (fr2 z hz) (tka, listOf refs ct) (by simp)
  have nRA : @LT.lt Nat _ rw aa := lt3 (rw, listOf refs2 cr) (.head _)
  have c3 : ∀ z ∈ cells2, @LT.lt Nat _ z.1 aa := fun z hz => lt3 z (by simp [hz])
  have nAB : @LT.lt Nat _ aa ab := lt4.1
  have nBH : @LT.lt Nat _ ab ah := lt5.1
  have hn30 : ∀ p ∈ newsF, p.1 ≠ 30 := by
    intro z hz
    rw [hF] at hz
    simp only [List.mem_cons, List.mem_append] at hz
    rcases hz with rfl | rfl | rfl | rfl | rfl | rfl | rfl | rfl | rfl | rfl | rfl | hz | hz
    all_goals first
      | exact Nat.ne_of_gt (by have := c1 z hz; omega)
      | exact Nat.ne_of_gt (by have := c2 z hz; omega)
      | (refine neN ?_; dsimp only; omega)
  have hps0 : TabOK #[] [] := .none
  refine wpR_execs_consL ?_
  repeat' ((fail_if_success (with_reducible show wpAny _ _ (call (Value.ref 441) _) _ _ _)); first | (k_unfold; (try dsimp only)) | (k_end; wrow_close) | walk1 | (dsimp only; walk1) | (leave1; walk_say "STEP leave1"; try dsimp only) | fail "no step")
  k_dflt (refine fits_any hi e1 e2 e3 e4 e5 e6 e7 e8 e9 e10 M1 M2' e12 e13 ta tb tc td ok2 hcd hn30 hps0 B rfl (by k_asm) X NF T ?_)
  k_steps
  try dsimp only
  rename_i ps ex g6 tk6 F6 N6 hps
  refine wpR_execs_consL ?_
  k_steps
  try dsimp only
  refine wpR_execs_consL ?_
  k_steps
  try dsimp only
  refine wpR_execs_consL ?_
  k_steps
  try dsimp only
  rename_i wl gw lw g7 g8 g9 F9 N9
  have lwA : ∀ p ∈ ex ++ newsF, @LT.lt Nat _ p.1 wl := allLt_mem lw.2
  have nRW : @LT.lt Nat _ rw wl := lwA (rw, listOf refs2 cr) (List.mem_append.mpr (.inr e7))
  have nDW : @LT.lt Nat _ d wl := lwA _ (List.mem_append.mpr (.inr e2))
  have n3W : @LT.lt Nat _ 30 wl := lw.1
  have c4 : ∀ z ∈ cells2, @LT.lt Nat _ z.1 wl := fun z hz => lwA z (List.mem_append.mpr (.inr (e13 z hz)))
  have c5 : ∀ z ∈ cells1, @LT.lt Nat _ z.1 wl := fun z hz => lwA z (List.mem_append.mpr (.inr (e12 z hz)))
  have nHW : @LT.lt Nat _ ah wl := lwA _ (List.mem_append.mpr (.inr e8))
  have inEx : ∀ z ∈ ex, z ∈ (wl, listOf #[] 0) :: (30, tabObj ps) :: (ex ++ newsF) := fun z hz => .tail _ (.tail _ (List.mem_append.mpr (.inl hz)))
  have inNF : ∀ z ∈ newsF, z ∈ (wl, listOf #[] 0) :: (30, tabObj ps) :: (ex ++ newsF) := fun z hz => .tail _ (.tail _ (List.mem_append.mpr (.inr hz)))
  have exL : ∀ z ∈ ex, ∀ q ∈ newsF, (∃ its n, q.2 = listOf its n) → z.1 ≠ q.1 := by
    intro z hz q hq ⟨its, n, e⟩
    obtain ⟨vs, ev⟩ := tab_fields hps z hz
    refine off_data N9 (inEx z hz) (inNF q hq) ?_
    rw [ev, e]
    intro h; cases h
  have exD : ∀ z ∈ ex, z.1 ≠ d := by
    intro z hz
    obtain ⟨vs, ev⟩ := tab_fields hps z hz
    refine off_data N9 (inEx z hz) (inNF _ e2) ?_
    rw [ev]
    intro h; cases h
  have newsL : ∃ l : List (Addr × Obj), l = [(x, instObj (110 + 21 * i) d), (pm, listOf #[.ref pa, .ref pb] cp), (pa, listOf va ca), (pb, listOf vb cb), (tka, listOf refs ct), (ah, listOf #[.ref aa, .ref ab] cah), (aa, listOf wa na), (ab, listOf wb nb), (nl, listOf nums nn)] := ⟨_, rfl⟩
  obtain ⟨newsL, hL⟩ := newsL
  have NL := news_sub (l := (wl, listOf #[] 0) :: (rw, listOf refs2 cr) :: (cells2 ++ ((30, tabObj ps) :: (ex ++ ((d, dictOf (pdict w.params k1 k2 k3 k4 k5 u1 u2 pm tka (nameOf i) (wayOf i) 0) 5) :: (cells1 ++ newsL)))))) N9 (by
    have b : ∀ z ∈ newsL, z ∈ newsF := by
      rw [hL]
      exact sub_cons e1 (sub_cons e3 (sub_cons e4 (sub_cons e5 (sub_cons e6 (sub_cons e8 (sub_cons e9 (sub_cons e10 (sub_cons e11 (fun _ h => nomatch h)))))))))
    exact sub_cons (.head _) (sub_cons (inNF _ e7) (sub_app (fun z hz => inNF z (e13 z hz)) (sub_cons (.tail _ (.head _)) (sub_app inEx (sub_cons (inNF _ e2) (sub_app (fun z hz => inNF z (e12 z hz)) fun z hz => inNF z (b z hz))))))))
  have notC : ∀ {b : Nat}, (@LE.le Nat _ b pm ∨ @LE.le Nat _ tka b) → b ∉ cells1.map (·.1) := by
    intro b hb hm
    obtain ⟨z, hz, e⟩ := List.mem_map.mp hm
    have := c1 z hz
    have e' : @Eq Nat z.1 b := e
    omega
  have j1 : (x, instObj (110 + 21 * i) d) ∈ newsL := by rw [hL]; repeat' (first | exact List.Mem.head _ | refine List.Mem.tail _ ?_)
  have j2 : (pm, listOf #[.ref pa, .ref pb] cp) ∈ newsL := by rw [hL]; repeat' (first | exact List.Mem.head _ | refine List.Mem.tail _ ?_)
  have j3 : (pa, listOf va ca) ∈ newsL := by rw [hL]; repeat' (first | exact List.Mem.head _ | refine List.Mem.tail _ ?_)
  have j4 : (pb, listOf vb cb) ∈ newsL := by rw [hL]; repeat' (first | exact List.Mem.head _ | refine List.Mem.tail _ ?_)
  have j5 : (tka, listOf refs ct) ∈ newsL := by rw [hL]; repeat' (first | exact List.Mem.head _ | refine List.Mem.tail _ ?_)
  have j6 : (ah, listOf #[.ref aa, .ref ab] cah) ∈ newsL := by rw [hL]; repeat' (first | exact List.Mem.head _ | refine List.Mem.tail _ ?_)
  have j7 : (aa, listOf wa na) ∈ newsL := by rw [hL]; repeat' (first | exact List.Mem.head _ | refine List.Mem.tail _ ?_)
  have j8 : (ab, listOf wb nb) ∈ newsL := by rw [hL]; repeat' (first | exact List.Mem.head _ | refine List.Mem.tail _ ?_)
  have j9 : (nl, listOf nums nn) ∈ newsL := by rw [hL]; repeat' (first | exact List.Mem.head _ | refine List.Mem.tail _ ?_)
  refine law_loop (news := newsL) hi j1 j2 j3 j4 j5 j6 j7 j8 j9 hnums M1 M2' ta tb tc td ?_ ?_ ?_ ?_ ⟨Nat.ne_of_gt n3W, Nat.ne_of_gt (by omega)⟩ (Nat.ne_of_gt nRW) ?_ ?_ hcd hps B F9 X NL T rfl rfl rfl rfl rfl rfl rfl rfl hR
  · exact notC (.inl (by omega))
  · exact List.Nodup.sublist (List.sublist_append_left _ _) (rising_nodup (rising_tail riC))
  · intro z hz
    rw [hL] at hz
    rcases List.mem_cons.mp hz with rfl | hz
    · exact ⟨by refine neN ?_; dsimp only; omega, notC (.inl (by omega))⟩
    rcases List.mem_append.mp hz with hz | hz
    · refine ⟨exD z hz, fun hm => ?_⟩
      obtain ⟨q, hq, e⟩ := List.mem_map.mp hm
      exact exL z hz q (e12 q hq) (mat_lists M1 q hq) e.symm
    · simp only [List.mem_cons, List.not_mem_nil, or_false] at hz
      rcases hz with rfl | rfl | rfl | rfl | rfl | rfl | rfl | rfl | rfl
      all_goals exact ⟨by refine neN ?_; dsimp only; omega, notC (by dsimp only; omega)⟩
  · intro z hz
    rw [hL] at hz
    simp only [List.mem_cons, List.not_mem_nil, or_false] at hz
    rcases hz with rfl | rfl | rfl | rfl | rfl | rfl | rfl | rfl | rfl
    all_goals (refine neN ?_; dsimp only; omega)
  · intro z hz
    rw [hL] at hz
    simp only [List.mem_cons, List.mem_append, List.not_mem_nil, or_false] at hz
    rcases hz with rfl | hz | rfl | hz | rfl | rfl | rfl | rfl | rfl | rfl | rfl | rfl | rfl
    · exact ⟨by refine neN ?_; dsimp only; omega, by refine neN ?_; dsimp only; omega⟩
    · exact ⟨Nat.ne_of_lt (lwA z (List.mem_append.mpr (.inl hz))), exL z hz _ e7 ⟨_, _, rfl⟩⟩
    · exact ⟨by refine neN ?_; dsimp only; omega, by refine neN ?_; dsimp only; omega⟩
    · exact ⟨Nat.ne_of_lt (c5 z hz), Nat.ne_of_lt (Nat.lt_trans (c1 z hz).2 nTR)⟩
    all_goals exact ⟨by refine neN ?_; dsimp only; omega, by refine neN ?_; dsimp only; omega⟩
  · intro q hq
    refine ⟨Nat.ne_of_lt (c4 q hq), ne2 q hq, fun z hz => ?_⟩
    have q2 := c2 q hq
    have q3 := c3 q hq
    rw [hL] at hz
    simp only [List.mem_cons, List.mem_append, List.not_mem_nil, or_false] at hz
    rcases hz with rfl | hz | rfl | hz | rfl | rfl | rfl | rfl | rfl | rfl | rfl | rfl | rfl
    · refine neN ?_; dsimp only; omega
    · exact exL z hz q (e13 q hq) (mat_lists M2 q hq)
    · refine neN ?_; dsimp only; omega
    · exact Nat.ne_of_lt (Nat.lt_trans (c1 z hz).2 q2)
    all_goals (refine neN ?_; dsimp only; omega)
end
end
-- part LawM
section
example : True := by
  w_top off
  trivial
theorem ints_get : ∀ {vs : List Value} {ns : List Int}, IntsAre vs ns → ∀ {j : Nat} {n : Int}, ns[j]? = some n → ∃ t, vs[j]? = some (.int n t)
  | _, _, .nil, j, n, h => by simp at h
  | _, _, .cons k t hh, 0, n, h => by
    simp at h
    subst h
    exact ⟨t, rfl⟩
  | _, _, .cons k t hh, j + 1, n, h => by
    obtain ⟨t', e⟩ := ints_get hh (j := j) (by simpa using h)
    exact ⟨t', by simpa using e⟩
theorem nums_of {ws : List Value} {ns : List Int} (h : IntsAre ws ns) (h0 : ∀ z ∈ ns, 0 ≤ z) (hl : 12 ≤ ns.length) : NumsOK ws.toArray := by
  intro j hj
  have hlen : j < ns.length := by omega
  obtain ⟨t, e⟩ := ints_get h (List.getElem?_eq_getElem hlen)
  exact ⟨_, t, by simpa using e, h0 _ (List.getElem_mem hlen)⟩
theorem nums_ok {ws : List Value} {ns : List Int} (h : IntsAre ws (List.map (fun k' => if k' < 0 then -k' else k') (List.take 20 ns) ++ (List.replicate (Int.toNat 12) [0]).flatten)) : NumsOK ws.toArray := by
  refine nums_of h (fun z hz => ?_) ?_
  · rcases List.mem_append.mp hz with hm | hm
    · obtain ⟨k, _, hk⟩ := List.mem_map.mp hm
      rw [← hk]
      split <;> omega
    · have : ∀ z ∈ (List.replicate (Int.toNat 12) [(0 : Int)]).flatten, (0 : Int) ≤ z := by decide
      exact this _ hm
  · rw [List.length_append]
    have : (List.replicate (Int.toNat 12) [(0 : Int)]).flatten.length = 12 := rfl
    omega
section
variable {prog : Program} {w : World} {p : Program} {loose : List Str} {mean : ExcName → Option Value} {mg mb : Str → Option Value} {A : Around} {E : Value → Shared → Prop}
    {h₀ : Heap} {L a : Addr} {m : Str → Option Value} {news : List (Addr × Obj)} {s : Shared} {R : Result → Shared → Prop}
    {ccd : Value} {t1 t2 : Tok}
local macro_rules | `(tactic| walk_at "call builtin:len") => `(tactic| (k_here; (with_reducible show wpAny _ _ (call (Value.builtin "len") [Value.str _ _]) _ _ _); k_dflt (refine' len_name ?k1 ?k2 ?_; (case k1 => assumption); (case k2 => omega); k_whole)))
local macro_rules | `(tactic| walk_at "subscriptTail") => `(tactic| (k_here; (with_reducible show wpAny _ _ (subscriptTail _ _ (Value.str _ _) (Value.int _ _)) _ _ _); k_dflt (first | (refine item_second (by assumption) (by assumption) ?_)); intro t'))
local macro_rules | `(tactic| walk_at "subscriptTail") => `(tactic| (k_here; (with_reducible show wpAny _ _ (subscriptTail _ _ (Value.ref _) (Value.int _ _)) _ _ _); k_dflt (first
  | ((refine' item_num ?k1 ?k2 ?k3 ?k4 ?k5 ?_; (case k1 => k_asm); (case k2 => k_mem); (case k3 => assumption); (case k4 => first | decide | omega); (case k5 => first | decide | omega); k_whole); intro i' t' hi')
  | ((refine' item_text ?k1 ?k2 ?k3 ?k4 ?k5 ?_; (case k1 => k_asm); (case k2 => k_mem); (case k3 => (repeat' (first | exact Texts.nil | refine' Texts.cons ?_))); (case k4 => omega); (case k5 => exact names_get (by assumption)); k_whole); intro t'))))
theorem law_start {sl : Addr} {vs : List Value} {ns : List Int}
    (hsl : h₀.IsList sl vs.toArray) (hI : IntsAre vs ns) (hlen : ns.length ≤ 63)
    (hcd : CodeHd h₀ (34, 30).1 (34, 30).2) (h30 : 30 < L)
    (B : Below callerA h₀ [] h₀) (F : Fr h₀ L s.heap m) (X : (hd.heap_39 w.params).In h₀) (N : News h₀ L s.heap [(30, tabObj #[])]) (T : Top p loose mean mg mb h₀)
    (m1 : m (Str.ofString "script") = some (.ref sl))
    (hR : ∀ h' tk' m' ps' led, Fr h₀ L h' m' → News h₀ L h' ((30, tabObj ps') :: led) → R (.ok (.ret (.bool true))) { s with heap := h', toks := tk' }) :
    wpR (model lawProg w) (callerA.deeper (lawEnv w.params L a ccd)) (execs (lawBody w.params) (lawEnv w.params L a ccd)) (fun f s' => R (.ok (.ret (match f with | .ret v => v | _ => .none))) s')
      (fun e s' => wpAny (model lawProg w) (callerA.deeper (lawEnv w.params L a ccd)) (leaving (lawEnv w.params L a ccd) e) (fun _ s'' => R (.error e) s'') (fun e' s'' => R (.error e') s'') s') s := by
  have F8 := fr_as (m' := fun z => if z = Str.ofString "script" then some (.ref sl) else m z) F (by
    funext z
    by_cases e1 : z = Str.ofString "script"
    · rw [if_pos e1, e1, m1]
    rw [if_neg e1])
  clear F
  dsimp only [lawEnv, lawBody, lawFn, lawObj]
  refine wpR_execs_consL ?_
  k_steps
  try dsimp only
  rename_i nl wsN g0 hIN lN g1 F1 N1
  have h30n : 30 < nl := lN.2.2.2.2
  obtain ⟨nums, hnums, N2⟩ : ∃ nums, NumsOK nums ∧ News h₀ L g1 [(30, tabObj #[]), (nl, listOf nums 0)] := ⟨_, nums_ok hIN, news_sub N1 (by
    intro z hz
    simp only [List.mem_cons, List.not_mem_nil, or_false] at hz ⊢
    rcases hz with h | h <;> simp [h])⟩
  clear N1 hIN
  refine wpR_execs_consL ?_
  k_steps
  try dsimp only
  rename_i p1 u1 hp1 g2 F2 N3
  obtain ⟨i, hpi, hi⟩ : ∃ i : Nat, p1.fmod 15 = (i : Int) ∧ i < 15 := by
    have z1 := fm_lo (a := p1) (b := 15) (by omega)
    have z2 := fm_hi (a := p1) (b := 15) (by omega)
    exact ⟨(p1.fmod 15).toNat, by omega, by omega⟩
  rw [hpi] at F2
  try clear F1
  obtain ⟨hwl, hsz⟩ := way_len hi
  refine wpR_execs_consL ?_
  k_steps
  try dsimp only
  rename_i t3 kl3 g3 F3 N4
  change Fr h₀ L g3 (fun y => if y = Str.ofString "name" then some (Value.str (nameOf i) t3) else _) at F3
  have N5 := news_sub (l := [(30, tabObj #[]), (nl, listOf nums 0)]) N4 (by
    intro z hz
    simp only [List.mem_cons, List.not_mem_nil, or_false] at hz ⊢
    rcases hz with h | h <;> simp [h])
  clear N4 kl3
  obtain ⟨kk, hkk⟩ : ∃ kk : Int, ((nameOf i).length : Int) = kk := ⟨_, rfl⟩
  rw [hkk] at hwl
  refine wpR_execs_consL ?_
  k_steps
  try dsimp only
  rename_i g4 F4 N6
  rw [hwl] at F4
  try clear F3
  cases hw : wayOf i with
  | true =>
    rw [hw] at F4
    refine wpR_execs_consL ?_
    k_steps
    try dsimp only
    rename Fr _ _ _ _ => FZ
    rename News _ _ _ _ => NZ
    have eg := g_one hw hi
    exact law_mid hi hnums h30n hcd B FZ X NZ T rfl rfl rfl (by rw [hw]; rfl) (by rw [eg]; rfl) hR
  | false =>
    rw [hw] at F4
    refine wpR_execs_consL ?_
    k_steps
    try dsimp only
    rename Fr _ _ _ _ => FZ
    rename News _ _ _ _ => NZ
    exact law_mid hi hnums h30n hcd B FZ X NZ T rfl rfl rfl (by rw [hw]; rfl) rfl hR
end
end
-- part LawE
section
theorem call_fullR {prog : Program} {w : World} {A : Around} {R : Result → Shared → Prop} {s : Shared} {name : Str} {params : Arguments} {body : List Stmt} {scope : Scope}
    {dV kV pm cd doc : Value} {a : Addr} {o : Obj} {args : Args} {binds : List (Str × Value)}
    (hroom : A.depth < recursionLimit) (ho : s.heap.get? a = some o) (hdata : o.data = .func { docDef name params body scope pm cd doc with defaults := dV, kwdefaults := kV }) (hlim : s.heap.NoLimit) (hcd : s.heap.CodeRec cd name)
    (hbind : BindsTo s { docDef name params body scope pm cd doc with defaults := dV, kwdefaults := kV } args binds)
    (hloc : ∀ x ∈ binds, scope.names.lookup x.1 = some .local)
    (h : ∀ h₁, Fr s.heap s.heap.objs.size h₁ (fun x => binds.reverse.lookup x) →
      wpR (model prog w) (A.deeper (envOf name scope s.heap.objs.size a cd)) (execs body (envOf name scope s.heap.objs.size a cd))
        (fun f s' => R (.ok (.ret (match f with | .ret v => v | _ => .none))) s')
        (fun e s' => wpAny (model prog w) (A.deeper (envOf name scope s.heap.objs.size a cd)) (leaving (envOf name scope s.heap.objs.size a cd) e)
          (fun _ s'' => R (.error e) s'') (fun e' s'' => R (.error e') s'') s')
        { s with heap := h₁, toks := s.toks + binds.length })
    (hco : scope.isCoroutine = false := by rfl) (hgen : scope.isGenerator = false := by rfl) (hk : scope.kind = .function := by rfl)
    (hcell : ∀ x ∈ scope.names, x.2 ≠ .cell := by decide) : codeR (model prog w) A (.call (.ref a) args) R s :=
  codeR_call_def hroom ho hdata hlim hcd rfl hbind hcell hloc (fun h₁ hns hkeep => h h₁ ⟨hns, hkeep, Nat.le_refl _⟩) hco hgen hk
theorem law_post {cw : ClaimW} {cl : Str → Option Addr} {mean : ExcName → Option Value} {args : List WData} {s₁ : Shared} {tabs : List (Addr × Addr)} (hT : TabsAt tabs s₁.heap) (hr : ∀ a x, cw.raises a x = false) (r : Result) (s' : Shared)
    (g : GoodW cw cl mean args { s₁ with heap := ghostOf s₁.heap tabs } r s' ∧ GrownAll tabs s'.heap) : GoodWG cw cl mean args s₁ r s' := by
  obtain ⟨⟨hc, hk, hos, hg⟩, hgr⟩ := g
  have away : ∀ b o, b ∉ tabs.map (·.2) → s₁.heap.get? b = some o → s'.heap.get? b = some o := fun b o hb e => hk b o (ghost_ne e hb)
  have tab : ∀ b o, b ∈ tabs.map (·.2) → s₁.heap.get? b = some o → isCodeTable s₁.heap b ∧ o = tabObj #[] ∧ ∃ ps, s'.heap.get? b = some (tabObj ps) := by
    intro b o hb e
    obtain ⟨q, hq, rfl⟩ := List.mem_map.mp hb
    obtain ⟨c1, c2⟩ := hT q hq
    rw [c2] at e
    exact ⟨(c1.tab c2).isCodeTable, (Option.some.inj e).symm, hgr.get q hq⟩
  have old : OldK s₁.heap s'.heap := by
    constructor
    · intro b o e
      by_cases hb : b ∈ tabs.map (·.2)
      · obtain ⟨t1, rfl, ps, t2⟩ := tab b o hb e
        exact .inr (.inl ⟨t1, rfl, #[], ps, rfl, by rw [Array.empty_append]; exact t2⟩)
      · exact .inl (away b o hb e)
    · intro b o e
      by_cases hb : b ∈ tabs.map (·.2)
      · obtain ⟨_, _, ps, t2⟩ := tab b o hb e
        exact ⟨_, t2⟩
      · exact ⟨o, away b o hb e⟩
  refine ⟨?_, old, hos, .of_eq hg⟩
  rcases hc with ⟨v, d, as, r1, r2, r3, r4, r5⟩ | ⟨_, _, x, _, _, _, r4, _⟩
  · refine .inl ⟨v, d, as, r1, r2, r3, r4, fun q => ⟨(r5 q).1, fun a ha => ?_⟩⟩
    cases q1 : s₁.heap.get? a with
    | none => rfl
    | some o =>
      by_cases hb : a ∈ tabs.map (·.2)
      · obtain ⟨_, _, ps, t2⟩ := tab a o hb q1
        exact absurd ha (readsW_apart t2 rfl r3)
      · have := (r5 q).2 a ha
        rw [show (ghostOf s₁.heap tabs).get? a = some o from ghost_ne q1 hb] at this
        cases this
  · rw [hr] at r4; cases r4
theorem law_holds : PySem.Challenge.rw_jd0018_01.Holds := by
  refine Mine.hd ?_
  k_fill
  intro w s₀ s₁ mg mb G Y fa o pm cd doc dV kV ho hdd hcd hD hmg hg args vals as hpre hlay hrd hwl hlo
  have KX := km_in_of Y
  km_tabs Y
  have X := (Ground.X G).1
  have V := (Ground.X G).2
  refine Ground.open G ?_
  intro T B D TE TW
  km_lay T hmg ho hdd cd
  clear hmg
  wrow_args hpre hlay hrd hwl hlo
  w_top on
  refine codeR_mono ?_ (law_post hT9 (fun _ _ => rfl))
  have he := Dflts.none hD rfl; subst he
  rename Heap.IsList _ _ _ => hIL
  rename IntsAre _ _ => hIA
  rename ¬ ((63 : Nat) : Int) < _ => hlen63
  have key : ∀ (sl : Addr) (vl : List Value) (ns : List Int), s₁.heap.IsList sl vl.toArray → IntsAre vl ns → ns.length ≤ 63 → ∀ (R : Result → Shared → Prop), (∀ h' tk' m' ps' led, Fr (ghostOf s₁.heap [(34, 30)]) s₁.heap.objs.size h' m' → News (ghostOf s₁.heap [(34, 30)]) s₁.heap.objs.size h' ((30, tabObj ps') :: led) → R (.ok (.ret (.bool true))) { s₁ with heap := h', toks := tk' }) →
      codeR (model PySem.Challenge.rw_jd0018_01.row.prog w) callerA (.call (.ref fa) ⟨[.ref sl], []⟩) R s₁ := by
    clear hIL hIA
    intro sl vl ns hIL hIA h63 R hR
    refine call_fullR (by decide) ho hdd (Top.nolimit T) hcd (BindsTo.of_eq rfl) (locs rfl) fun h₁ F => ?_
    w_binds F
    have N0 := (News.nil : News _ _ _ []).at F
    clear hdd
    kn_ghosts F T
    k_drop
    rename Fr _ _ _ _ => F9
    rename News _ _ _ _ => N9
    rename Top _ _ _ _ _ _ => T9
    rename Below _ _ _ _ => B9
    rename Frag.In _ _ => X9
    rename CodeHd _ _ _ => C9
    have L9 := ghost_list hT9 hIL
    rename 30 < _ => l9
    exact law_start L9 hIA h63 C9 l9 B9 F9 X9 N9 T9 rfl hR
  refine key _ _ _ hIL hIA (by omega) _ fun h' tk' m' ps' led F' N' => ⟨?_, ⟨GrownAt.of N' (.head _), trivial⟩⟩
  wrow_close
end
end Mine
theorem PySem.Challenge.cw_jd0018_01_holds : PySem.Challenge.rw_jd0018_01.Holds := by
  exact Mine.law_holds
