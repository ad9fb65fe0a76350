import PyProof.Rows.All
import Wide.All
import OpenK.AllK
import Wide.FinOn
import PySem.Challenge.RW_jn0050_01
open PySem PySem.W PySem.Spec PySem.Calls PyProof.Rows
set_option Elab.async false
set_option maxRecDepth 100000
set_option maxHeartbeats 200000000
set_option linter.all false
set_option rowWalk.seconds 0
namespace Mine
def c0 : PySem.Str := PySem.Str.ofString "x"
theorem c0_self : c0 = c0 := rfl
name_quick tw8620020772036689432 for c0 by c0_self
name_quick tw5228443966233409354 for c0 by c0_self
name_quick tw7232422423428716515 for c0 by c0_self
name_quick tw12835720964997663042 for c0 by c0_self
name_quick tw13987355940573415152 for c0 by c0_self
name_quick tw17517737089405305841 for c0 by c0_self
name_quick tw7009043117176579089 for c0 by c0_self
name_quick tw219737044198020058 for c0 by c0_self
name_quick tw13160144027095335755 for c0 by c0_self
name_quick tw1379578315556383370 for c0 by c0_self
name_quick tw14364280277409689854 for c0 by c0_self
name_quick tw9787396351842916947 for c0 by c0_self
name_quick tw17827458813498177553 for c0 by c0_self
name_quick tw7250012664060256230 for c0 by c0_self
name_quick tw43969757491396457 for c0 by c0_self
name_quick tw1291980286583624508 for c0 by c0_self
name_quick tw2718901123391026995 for c0 by c0_self
name_quick tw2001226814458364393 for c0 by c0_self
name_quick tw15560500314895047343 for c0 by c0_self
name_quick tw16145008321745377990 for c0 by c0_self
name_quick tw17244072584429378644 for c0 by c0_self
name_quick tw13640514254501968386 for c0 by c0_self
name_quick tw17804436615005485693 for c0 by c0_self
name_quick tw15079194523842364033 for c0 by c0_self
name_quick tw10379131730601215995 for c0 by c0_self
name_quick tw5758256569797452207 for c0 by c0_self
name_quick tw3093977132361051618 for c0 by c0_self
name_quick tw15202239659555905331 for c0 by c0_self
name_quick tw4172830789200971933 for c0 by c0_self
name_quick tw774047393022817027 for c0 by c0_self
name_quick tw7275051467321613617 for c0 by c0_self
name_quick tw973662469405803806 for c0 by c0_self
name_quick tw17846936440860909165 for c0 by c0_self
name_quick tw15059462757989803610 for c0 by c0_self
name_quick tw17475289236778735526 for c0 by c0_self
name_quick tw10528696920762540405 for c0 by c0_self
name_quick tw12233582284571471492 for c0 by c0_self
name_quick tw17352973434858128600 for c0 by c0_self
name_quick tw6135381517318000843 for c0 by c0_self
name_quick tw12177649209318274912 for c0 by c0_self
name_quick tw17429684086410527887 for c0 by c0_self
name_quick tw16950312913027304927 for c0 by c0_self
name_quick tw10015664371746657536 for c0 by c0_self
name_quick tw5854881644878751223 for c0 by c0_self
name_quick tw1829445100760108279 for c0 by c0_self
name_quick tw10758392820592806131 for c0 by c0_self
name_quick tw6952355047532471503 for c0 by c0_self
name_quick tw1184552218554016812 for c0 by c0_self
name_quick tw3633577522364906407 for c0 by c0_self
name_quick tw2759451637364818457 for c0 by c0_self
name_quick tw9376109419431680627 for c0 by c0_self
name_quick tw189603312586018693 for c0 by c0_self
name_quick tw3766158894648301139 for c0 by c0_self
name_quick tw2736616831223182526 for c0 by c0_self
name_quick tw1355338860687761863 for c0 by c0_self
name_quick tw757081541053455785 for c0 by c0_self
name_quick tw682011567655089306 for c0 by c0_self
name_quick tw13241461904039861399 for c0 by c0_self
name_quick tw16413264400604254196 for c0 by c0_self
name_quick tw13471461260053382970 for c0 by c0_self
name_quick tw17719373434677690450 for c0 by c0_self
name_quick tw4109823476700235019 for c0 by c0_self
name_quick tw2948108419219029167 for c0 by c0_self
name_quick tw15020028541594565831 for c0 by c0_self
name_quick tw11306939235166856333 for c0 by c0_self
name_quick tw3952652319720093869 for c0 by c0_self
name_quick tw14952990662201256454 for c0 by c0_self
name_quick tw4011157648589011858 for c0 by c0_self
name_quick tw13180171748994924942 for c0 by c0_self
name_quick tw12268644228514654432 for c0 by c0_self
name_quick tw13526986893379352335 for c0 by c0_self
name_quick tw460243522976405022 for c0 by c0_self
name_quick tw8704618095886561957 for c0 by c0_self
name_quick tw4407734736301137906 for c0 by c0_self
name_quick tw13427988762788590312 for c0 by c0_self
name_quick tw4434333111790514575 for c0 by c0_self
name_quick tw8172093975534723114 for c0 by c0_self
name_quick tw13721567128424951087 for c0 by c0_self
name_quick tw17134893352704234603 for c0 by c0_self
name_quick tw9292931687148149277 for c0 by c0_self
name_quick tw5978237884098788730 for c0 by c0_self
name_quick tw704327219915372674 for c0 by c0_self
name_quick tw9787463984185863102 for c0 by c0_self
name_quick tw6144853644547557980 for c0 by c0_self
name_quick tw18350330562280901221 for c0 by c0_self
name_quick tw10010936943081839664 for c0 by c0_self
name_quick tw3315324234476444515 for c0 by c0_self
name_quick tw18273839248471157720 for c0 by c0_self
name_quick tw12821735335276811757 for c0 by c0_self
name_quick tw7619357645376055252 for c0 by c0_self
name_quick tw14896874001708588922 for c0 by c0_self
name_quick tw151948405760981731 for c0 by c0_self
name_quick tw9759809726879904816 for c0 by c0_self
name_quick tw5732905514179830355 for c0 by c0_self
name_quick tw7035115661146626270 for c0 by c0_self
name_quick tw607167704815816724 for c0 by c0_self
name_quick tw14311459727803291754 for c0 by c0_self
name_quick tw13607416678640721797 for c0 by c0_self
name_quick tw14186486079044719983 for c0 by c0_self
name_quick tw11277716924127702174 for c0 by c0_self
name_quick tw13215998728584607739 for c0 by c0_self
name_quick tw15808557625122938864 for c0 by c0_self
name_quick tw2968979199505139716 for c0 by c0_self
name_quick tw16741492637210864865 for c0 by c0_self
name_quick tw16865151637890581275 for c0 by c0_self
name_quick tw9285146279643344392 for c0 by c0_self
name_quick tw4278798014809849964 for c0 by c0_self
name_quick tw17954736447514056666 for c0 by c0_self
name_quick tw10308316962582663543 for c0 by c0_self
name_quick tw11130039905162102590 for c0 by c0_self
name_quick tw18101931140130867144 for c0 by c0_self
name_quick tw2193789692954389824 for c0 by c0_self
name_quick tw1615719349143574890 for c0 by c0_self
name_quick tw10073347824450446311 for c0 by c0_self
name_quick tw5149714755402479525 for c0 by c0_self
name_quick tw7585139358526817783 for c0 by c0_self
name_quick tw15168306246750427876 for c0 by c0_self
name_quick tw1617757218408452269 for c0 by c0_self
name_quick tw951843321253372498 for c0 by c0_self
name_quick tw14386061602966655976 for c0 by c0_self
name_quick tw8473563963867554017 for c0 by c0_self
name_quick tw3891137856419664920 for c0 by c0_self
name_quick tw13915792640404377917 for c0 by c0_self
name_quick tw17101871299007795629 for c0 by c0_self
name_quick tw13789449189825218787 for c0 by c0_self
name_quick tw16643379632663270332 for c0 by c0_self
name_quick tw16966814322356759819 for c0 by c0_self
name_quick tw4658958612460137192 for c0 by c0_self
name_quick tw8708707556590381134 for c0 by c0_self
name_quick tw12376627436020646176 for c0 by c0_self
name_quick tw17964007177503468958 for c0 by c0_self
name_quick tw16413963553889246368 for c0 by c0_self
name_quick tw6587116730350146372 for c0 by c0_self
name_quick tw18310272354389090212 for c0 by c0_self
name_quick tw3355348695024010778 for c0 by c0_self
name_quick tw16494616584097029746 for c0 by c0_self
name_quick tw1267870562809915468 for c0 by c0_self
name_quick tw7299951869573292228 for c0 by c0_self
name_quick tw17888162413812561239 for c0 by c0_self
name_quick tw17138261911001417010 for c0 by c0_self
name_quick tw14537914154153760125 for c0 by c0_self
name_quick tw4615046776614313329 for c0 by c0_self
name_quick tw503676674663206642 for c0 by c0_self
name_quick tw5882768191206486792 for c0 by c0_self
name_quick tw4275521005467322725 for c0 by c0_self
name_quick tw10190238754879171395 for c0 by c0_self
name_quick tw14108194823987119177 for c0 by c0_self
name_quick tw9736788993784561348 for c0 by c0_self
name_quick tw3577408171920636059 for c0 by c0_self
name_quick tw912392155897948271 for c0 by c0_self
name_quick tw8180830640274347804 for c0 by c0_self
name_quick tw17164873540382356111 for c0 by c0_self
name_quick tw7543195961347049332 for c0 by c0_self
name_quick tw17071476683966804577 for c0 by c0_self
name_quick tw13102660428377437172 for c0 by c0_self
name_quick tw1544652992362985085 for c0 by c0_self
name_quick tw17344680358763864322 for c0 by c0_self
name_quick tw17842620306162639686 for c0 by c0_self
name_quick tw8430678208038309684 for c0 by c0_self
name_quick tw5152784196030571298 for c0 by c0_self
name_quick tw14780915534977879293 for c0 by c0_self
name_quick tw18260038339965228139 for c0 by c0_self
name_quick tw4613930686462287906 for c0 by c0_self
name_quick tw39160002569200845 for c0 by c0_self
name_quick tw8902219603052485911 for c0 by c0_self
name_quick tw1320183511955256522 for c0 by c0_self
name_quick tw15806122291839087668 for c0 by c0_self
name_quick tw2011108890870493169 for c0 by c0_self
name_quick tw9979284746773624096 for c0 by c0_self
name_quick tw14126943448341045398 for c0 by c0_self
name_quick tw4858009861420398278 for c0 by c0_self
name_quick tw10939839348159177617 for c0 by c0_self
name_quick tw6589095468515690095 for c0 by c0_self
name_quick tw11270796479367742343 for c0 by c0_self
name_quick tw3820604794100220378 for c0 by c0_self
name_quick tw8649964590619651473 for c0 by c0_self
name_quick tw3345107109950449737 for c0 by c0_self
name_quick tw8032284361305108907 for c0 by c0_self
name_quick tw8656719876789144132 for c0 by c0_self
name_quick tw15278061642289888581 for c0 by c0_self
name_quick tw3698559305507148144 for c0 by c0_self
name_quick tw4405960384096086239 for c0 by c0_self
name_quick tw3427515755752030745 for c0 by c0_self
name_quick tw12731603968600162155 for c0 by c0_self
name_quick tw17274371674624000324 for c0 by c0_self
name_quick tw9145300766654197600 for c0 by c0_self
name_quick tw5357591511691535388 for c0 by c0_self
name_quick tw4527066259768149269 for c0 by c0_self
name_quick tw8224813933742928703 for c0 by c0_self
name_quick tw1055568401681811165 for c0 by c0_self
name_quick tw14333388528381170442 for c0 by c0_self
name_quick tw11853533878840232495 for c0 by c0_self
name_quick tw18371169792594650754 for c0 by c0_self
name_quick tw6132934438814934913 for c0 by c0_self
name_quick tw12825359941727978080 for c0 by c0_self
name_quick tw17899373020297197333 for c0 by c0_self
name_quick tw10045867985992453528 for c0 by c0_self
name_quick tw16039550372008468697 for c0 by c0_self
name_quick tw3362959441861295915 for c0 by c0_self
name_quick tw11166942722945506595 for c0 by c0_self
name_quick tw8579058602437062094 for c0 by c0_self
name_quick tw7618406622816332465 for c0 by c0_self
name_quick tw12393455550290869266 for c0 by c0_self
name_quick tw5068434257544371817 for c0 by c0_self
name_quick tw16406328271908756883 for c0 by c0_self
name_quick tw17111948838632640456 for c0 by c0_self
name_quick tw4319705520415482375 for c0 by c0_self
name_quick tw17139780236743587250 for c0 by c0_self
name_quick tw16817318245366136608 for c0 by c0_self
name_quick tw16548257151911338427 for c0 by c0_self
name_quick tw17552769576498331613 for c0 by c0_self
name_quick tw6990963922061375149 for c0 by c0_self
name_quick tw13580328829973926956 for c0 by c0_self
name_quick tw1735497430108182060 for c0 by c0_self
name_quick tw16947794391021106201 for c0 by c0_self
name_quick tw4978915544186085027 for c0 by c0_self
name_quick tw13902233598862641821 for c0 by c0_self
name_quick tw4292500188555128830 for c0 by c0_self
name_quick tw9893030918988833448 for c0 by c0_self
name_quick tw5823794197072137003 for c0 by c0_self
name_quick tw2315820567201803617 for c0 by c0_self
name_quick tw16531745337717519161 for c0 by c0_self
name_quick tw10650810973499830745 for c0 by c0_self
name_quick tw7496433998918960881 for c0 by c0_self
name_quick tw17069979004554194336 for c0 by c0_self
name_quick tw15902184279288820625 for c0 by c0_self
name_quick tw13912434898499826684 for c0 by c0_self
name_quick tw3740020263889925745 for c0 by c0_self
name_quick tw15315713394281565010 for c0 by c0_self
name_quick tw3953757239420563355 for c0 by c0_self
name_quick tw13746126617404028095 for c0 by c0_self
name_quick tw14834023430324568649 for c0 by c0_self
name_quick tw11740888236361828772 for c0 by c0_self
name_quick tw1503297043503765363 for c0 by c0_self
name_quick tw7573151900890175926 for c0 by c0_self
name_quick tw13016732220969518872 for c0 by c0_self
name_quick tw7499937903120025604 for c0 by c0_self
name_quick tw1139862187096482527 for c0 by c0_self
name_quick tw5076957145309523181 for c0 by c0_self
name_quick tw17394056326795013819 for c0 by c0_self
name_quick tw12659028871203227004 for c0 by c0_self
name_quick tw9931943479562821362 for c0 by c0_self
name_quick tw15509189653189762431 for c0 by c0_self
name_quick tw2378363196638174374 for c0 by c0_self
name_quick tw12933145988944269653 for c0 by c0_self
name_quick tw5721027456603625697 for c0 by c0_self
name_quick tw3826639566459466600 for c0 by c0_self
name_quick tw13317431791736044220 for c0 by c0_self
name_quick tw389472881494512206 for c0 by c0_self
name_quick tw6122645084068987007 for c0 by c0_self
name_quick tw6607189417530752870 for c0 by c0_self
name_quick tw15562837088269578035 for c0 by c0_self
name_quick tw15039117976438264115 for c0 by c0_self
name_quick tw8777329075199875621 for c0 by c0_self
name_quick tw1537898542681612871 for c0 by c0_self
name_quick tw14209830616999942402 for c0 by c0_self
name_quick tw15880737140895825463 for c0 by c0_self
name_quick tw14714103240675001986 for c0 by c0_self
name_quick tw1041845030581493396 for c0 by c0_self
name_quick tw17503288770812694035 for c0 by c0_self
name_quick tw2422670821966735624 for c0 by c0_self
name_quick tw8860024209350480642 for c0 by c0_self
name_quick tw8719427161674164953 for c0 by c0_self
name_quick tw5936146933674214641 for c0 by c0_self
name_quick tw7581816359482902497 for c0 by c0_self
name_quick tw9594665118957945026 for c0 by c0_self
name_quick tw1708024556718086227 for c0 by c0_self
name_quick tw11891824955294080559 for c0 by c0_self
name_quick tw3778451253796500701 for c0 by c0_self
name_quick tw9676229304581654039 for c0 by c0_self
name_quick tw3267979357774110234 for c0 by c0_self
name_quick tw7397068168572129948 for c0 by c0_self
name_quick tw17476080006546285661 for c0 by c0_self
name_quick tw11333186260410459676 for c0 by c0_self
name_quick tw15423634916342008072 for c0 by c0_self
name_quick tw16869277618539721502 for c0 by c0_self
name_quick tw9082586571710850966 for c0 by c0_self
name_quick tw9501820088010722379 for c0 by c0_self
name_quick tw3797612339304411714 for c0 by c0_self
name_quick tw4800724452203346748 for c0 by c0_self
name_quick tw2627984346626558326 for c0 by c0_self
name_quick tw3282434896037501709 for c0 by c0_self
name_quick tw13670895902755119475 for c0 by c0_self
name_quick tw16317912014791525384 for c0 by c0_self
name_quick tw16752143609539240740 for c0 by c0_self
name_quick tw7198390536060210744 for c0 by c0_self
name_quick tw5082074563857973206 for c0 by c0_self
name_quick tw5565278806992967083 for c0 by c0_self
name_quick tw11519604305632133818 for c0 by c0_self
name_quick tw14096952598973939363 for c0 by c0_self
name_quick tw15823609455315575823 for c0 by c0_self
name_quick tw12898947447245864913 for c0 by c0_self
name_quick tw16350708796919097252 for c0 by c0_self
name_quick tw2460228577881660442 for c0 by c0_self
name_quick tw724751600484774222 for c0 by c0_self
name_quick tw5952267759425050802 for c0 by c0_self
name_quick tw2283851925072248500 for c0 by c0_self
name_quick tw17954471519018878134 for c0 by c0_self
name_quick tw4302124980754421698 for c0 by c0_self
name_quick tw725871291056497461 for c0 by c0_self
name_quick tw6179359751918216688 for c0 by c0_self
name_quick tw6789855027759293466 for c0 by c0_self
name_quick tw9458956999447867950 for c0 by c0_self
name_quick tw5529568453561195837 for c0 by c0_self
name_quick tw5923252988546675246 for c0 by c0_self
name_quick tw14909702598903578594 for c0 by c0_self
name_quick tw2674190319118857908 for c0 by c0_self
name_quick tw12734952128020822468 for c0 by c0_self
name_quick tw667198328695590252 for c0 by c0_self
name_quick tw7094674258960923220 for c0 by c0_self
name_quick tw13314330512976039754 for c0 by c0_self
name_quick tw148260917463534702 for c0 by c0_self
name_quick tw16127339712140622707 for c0 by c0_self
name_quick tw13951257522405164796 for c0 by c0_self
name_quick tw17803129079492736432 for c0 by c0_self
name_quick tw8796240567053077481 for c0 by c0_self
name_quick tw4966893808263662355 for c0 by c0_self
name_quick tw10919533547850550483 for c0 by c0_self
name_quick tw2506853364499732696 for c0 by c0_self
name_quick tw1574873078441994576 for c0 by c0_self
name_quick tw11817470609975844035 for c0 by c0_self
name_quick tw8450942572126056277 for c0 by c0_self
name_quick tw14981143343336467331 for c0 by c0_self
name_quick tw17679261114430710190 for c0 by c0_self
name_quick tw17000155066101142889 for c0 by c0_self
name_quick tw16439824349840649037 for c0 by c0_self
name_quick tw11559843095181728734 for c0 by c0_self
name_quick tw2334299552400917057 for c0 by c0_self
name_quick tw17280976486791472633 for c0 by c0_self
name_quick tw14323765505736481980 for c0 by c0_self
name_quick tw6993175162768986339 for c0 by c0_self
name_quick tw16593013826814733010 for c0 by c0_self
name_quick tw7057405563618977329 for c0 by c0_self
name_quick tw15490439104401381959 for c0 by c0_self
name_quick tw16374537267813192141 for c0 by c0_self
name_quick tw10887116778572429059 for c0 by c0_self
name_quick tw1419416864934026935 for c0 by c0_self
name_quick tw9300948228871686676 for c0 by c0_self
name_quick tw10323183001455561277 for c0 by c0_self
name_quick tw3424931102881643321 for c0 by c0_self
name_quick tw9219426015542480343 for c0 by c0_self
name_quick tw1631149150583789468 for c0 by c0_self
name_quick tw5349121933718820234 for c0 by c0_self
name_quick tw7528362787312075124 for c0 by c0_self
name_quick tw9136488742655976645 for c0 by c0_self
name_quick tw2735471455948067141 for c0 by c0_self
name_quick tw15919542637913265678 for c0 by c0_self
name_quick tw16645262185327669138 for c0 by c0_self
name_quick tw15980859228951719591 for c0 by c0_self
name_quick tw17532440430192770315 for c0 by c0_self
name_quick tw15300170045991075079 for c0 by c0_self
name_quick tw7398270241245271220 for c0 by c0_self
name_quick tw2670528217467546775 for c0 by c0_self
name_quick tw10885399304501877467 for c0 by c0_self
name_quick tw11825729669827539873 for c0 by c0_self
name_quick tw2478078296215019888 for c0 by c0_self
name_quick tw11964429278604863157 for c0 by c0_self
name_quick tw2611137233208623240 for c0 by c0_self
name_quick tw15773981995205291829 for c0 by c0_self
name_quick tw1102190903223815498 for c0 by c0_self
name_quick tw8206430501311747189 for c0 by c0_self
name_quick tw16758808235637498351 for c0 by c0_self
name_quick tw8540232549379673566 for c0 by c0_self
name_quick tw2387720566874501970 for c0 by c0_self
name_quick tw3105397867545767578 for c0 by c0_self
name_quick tw1402947280878808549 for c0 by c0_self
name_quick tw10028428298569065181 for c0 by c0_self
name_quick tw16296994325663420285 for c0 by c0_self
name_quick tw3976722010076183465 for c0 by c0_self
name_quick tw1258299570235058372 for c0 by c0_self
name_quick tw6909570525239066004 for c0 by c0_self
name_quick tw13833065179229638619 for c0 by c0_self
name_quick tw3520652585798765729 for c0 by c0_self
name_quick tw6722154040420286063 for c0 by c0_self
name_quick tw17853915177807527196 for c0 by c0_self
name_quick tw139799656371268569 for c0 by c0_self
name_quick tw17988542015724977305 for c0 by c0_self
name_quick tw16846860572762119324 for c0 by c0_self
name_quick tw18410474027866654770 for c0 by c0_self
name_quick tw2370070277545300124 for c0 by c0_self
name_quick tw17672482021469178181 for c0 by c0_self
name_quick tw3972328310683599613 for c0 by c0_self
name_quick tw5396446701170858492 for c0 by c0_self
name_quick tw6679490504615227074 for c0 by c0_self
name_quick tw8802822988693486460 for c0 by c0_self
name_quick tw4936483359421988267 for c0 by c0_self
name_quick tw3327986453032591115 for c0 by c0_self
name_quick tw3695515675974049574 for c0 by c0_self
name_quick tw18163462532019968843 for c0 by c0_self
name_quick tw14168537005229113720 for c0 by c0_self
name_quick tw895181541206596675 for c0 by c0_self
name_quick tw5697894365363955025 for c0 by c0_self
name_quick tw8693227569615203950 for c0 by c0_self
name_quick tw3442601649717412197 for c0 by c0_self
name_quick tw932993149863042379 for c0 by c0_self
name_quick tw5512085447785999860 for c0 by c0_self
name_quick tw8753696776887207221 for c0 by c0_self
name_quick tw6580340599500149305 for c0 by c0_self
name_quick tw3264259588550801142 for c0 by c0_self
name_quick tw11462045893675790159 for c0 by c0_self
name_quick tw1189734492583310 for c0 by c0_self
name_quick tw6380047634161181297 for c0 by c0_self
name_quick tw14073706353221006472 for c0 by c0_self
name_quick tw13678640442995254988 for c0 by c0_self
name_quick tw17596809139577655471 for c0 by c0_self
name_quick tw16417370028952169744 for c0 by c0_self
name_quick tw11543547407058413889 for c0 by c0_self
name_quick tw13925586954763233925 for c0 by c0_self
name_quick tw1886563365779066154 for c0 by c0_self
name_quick tw15965015591981942514 for c0 by c0_self
name_quick tw11161088081135249708 for c0 by c0_self
name_quick tw7405434945208526273 for c0 by c0_self
name_quick tw1702518465993881591 for c0 by c0_self
name_quick tw4549333791460862111 for c0 by c0_self
name_quick tw6019396324639902685 for c0 by c0_self
name_quick tw5720267713326709755 for c0 by c0_self
name_quick tw15230126450353165504 for c0 by c0_self
name_quick tw2401699919119007470 for c0 by c0_self
name_quick tw1085346719588807367 for c0 by c0_self
name_quick tw8253183596043897158 for c0 by c0_self
name_quick tw5862295025349918931 for c0 by c0_self
name_quick tw6363645014702824404 for c0 by c0_self
name_quick tw8075568018651887793 for c0 by c0_self
name_quick tw17001327861769816259 for c0 by c0_self
name_quick tw9537544019596298400 for c0 by c0_self
name_quick tw5268983451555188008 for c0 by c0_self
name_quick tw14971970265804392439 for c0 by c0_self
name_quick tw3094477031063562474 for c0 by c0_self
name_quick tw14214133299417103183 for c0 by c0_self
name_quick tw4090926877573551719 for c0 by c0_self
name_quick tw9577309144901391297 for c0 by c0_self
name_quick tw15542691292777871779 for c0 by c0_self
name_quick tw12813236842856870187 for c0 by c0_self
name_quick tw13335737130258781183 for c0 by c0_self
name_quick tw1156252341971683116 for c0 by c0_self
name_quick tw5950129339639070837 for c0 by c0_self
name_quick tw7987952416473584550 for c0 by c0_self
name_quick tw12832477231654346042 for c0 by c0_self
name_quick tw5450187663091677483 for c0 by c0_self
name_quick tw6519424955469430661 for c0 by c0_self
name_quick tw14907048974825807369 for c0 by c0_self
name_quick tw7140130562030077042 for c0 by c0_self
name_quick tw9151444980202551346 for c0 by c0_self
name_quick tw313226197891681235 for c0 by c0_self
name_quick tw18428756778242999024 for c0 by c0_self
name_quick tw16018607276475445134 for c0 by c0_self
name_quick tw15034313371233782410 for c0 by c0_self
name_quick tw3152983702415266003 for c0 by c0_self
name_quick tw3436264866546951355 for c0 by c0_self
name_quick tw6944952908185719654 for c0 by c0_self
name_quick tw1706496860858754268 for c0 by c0_self
name_quick tw9396933662098498411 for c0 by c0_self
name_quick tw13254397897704925713 for c0 by c0_self
name_quick tw8125055898148337911 for c0 by c0_self
name_quick tw7269565832213808900 for c0 by c0_self
name_quick tw13776390136698705113 for c0 by c0_self
name_quick tw11625766737575182897 for c0 by c0_self
name_quick tw7503421922109321716 for c0 by c0_self
name_quick tw6550987210724342151 for c0 by c0_self
name_quick tw1210750091971509897 for c0 by c0_self
name_quick tw15615819752592202608 for c0 by c0_self
name_quick tw11186114360453789277 for c0 by c0_self
name_quick tw900395245841561262 for c0 by c0_self
name_quick tw6434265647005701932 for c0 by c0_self
name_quick tw11445135464325071761 for c0 by c0_self
name_quick tw4921902886906138986 for c0 by c0_self
name_quick tw716658179208862652 for c0 by c0_self
name_quick tw11788150170368784547 for c0 by c0_self
name_quick tw16328912562034613984 for c0 by c0_self
name_quick tw7098571738820278039 for c0 by c0_self
name_quick tw6891000109920058784 for c0 by c0_self
name_quick tw1401972060568974870 for c0 by c0_self
name_quick tw2963401690265292820 for c0 by c0_self
name_quick tw14305139224198610471 for c0 by c0_self
name_quick tw3209381107111851631 for c0 by c0_self
name_quick tw12945451867199242903 for c0 by c0_self
name_quick tw8098380416015320538 for c0 by c0_self
name_quick tw11790162104776037713 for c0 by c0_self
name_quick tw17325535178939296128 for c0 by c0_self
name_quick tw7401281599722004195 for c0 by c0_self
name_quick tw11310463157757771331 for c0 by c0_self
name_quick tw6127375697748050860 for c0 by c0_self
name_quick tw4525517667737911620 for c0 by c0_self
name_quick tw9265879793445154701 for c0 by c0_self
name_quick tw15195428891847259777 for c0 by c0_self
name_quick tw17026713947507217902 for c0 by c0_self
name_quick tw12224578244612797663 for c0 by c0_self
name_quick tw18283703058932287227 for c0 by c0_self
name_quick tw3865406201487662470 for c0 by c0_self
name_quick tw12095823642532355627 for c0 by c0_self
name_quick tw5386766301290243201 for c0 by c0_self
name_quick tw16697116713213952808 for c0 by c0_self
name_quick tw608726401823008365 for c0 by c0_self
name_quick tw1536587703002861866 for c0 by c0_self
name_quick tw6148621092414575339 for c0 by c0_self
name_quick tw878741703135273975 for c0 by c0_self
name_quick tw5345256250457102556 for c0 by c0_self
name_quick tw9281714027785469542 for c0 by c0_self
name_quick tw5770868932273138760 for c0 by c0_self
name_quick tw5248340912204065574 for c0 by c0_self
name_quick tw14097648870716263351 for c0 by c0_self
name_quick tw1962928258387122110 for c0 by c0_self
name_quick tw16241802466949684156 for c0 by c0_self
name_quick tw9315938663221665524 for c0 by c0_self
name_quick tw5853609219237828028 for c0 by c0_self
name_quick tw6059929106960060952 for c0 by c0_self
name_quick tw13085293262715045196 for c0 by c0_self
name_quick tw4904739604578439355 for c0 by c0_self
name_quick tw1333364371103165705 for c0 by c0_self
name_quick tw1204117194425446250 for c0 by c0_self
name_quick tw9673203406766833760 for c0 by c0_self
name_quick tw12237943961548833269 for c0 by c0_self
name_quick tw2922074901204462755 for c0 by c0_self
name_quick tw13642483538084851733 for c0 by c0_self
name_quick tw15663404670287596823 for c0 by c0_self
name_quick tw8603108125212654177 for c0 by c0_self
name_quick tw11994158751524154303 for c0 by c0_self
name_quick tw6214688769961185500 for c0 by c0_self
name_quick tw17300597898927385350 for c0 by c0_self
name_quick tw15199281503961881116 for c0 by c0_self
name_quick tw4039474712603431140 for c0 by c0_self
name_quick tw17554001833073541016 for c0 by c0_self
name_quick tw1218959903707654005 for c0 by c0_self
name_quick tw11863081143760314161 for c0 by c0_self
name_quick tw12989987162080215863 for c0 by c0_self
name_quick tw11838138170533393997 for c0 by c0_self
name_quick tw12540713548012372134 for c0 by c0_self
name_quick tw10205541121877940668 for c0 by c0_self
name_quick tw7299303143086499733 for c0 by c0_self
name_quick tw9840607970257141820 for c0 by c0_self
name_quick tw9575731206691268911 for c0 by c0_self
name_quick tw3988873048329089060 for c0 by c0_self
name_quick tw7365555872484859036 for c0 by c0_self
name_quick tw12809422525583811893 for c0 by c0_self
name_quick tw4898924896068977566 for c0 by c0_self
name_quick tw16916688483869632129 for c0 by c0_self
name_quick tw17828083071136270317 for c0 by c0_self
name_quick tw10042830170769951172 for c0 by c0_self
name_quick tw8703263022893421829 for c0 by c0_self
name_quick tw13169248704851481478 for c0 by c0_self
name_quick tw3325841961599345399 for c0 by c0_self
name_quick tw921073385446354868 for c0 by c0_self
name_quick tw9236875199018929784 for c0 by c0_self
name_quick tw1620339239838986703 for c0 by c0_self
name_quick tw12945968074294007009 for c0 by c0_self
name_quick tw14553827428707814869 for c0 by c0_self
name_quick tw3039592710220408265 for c0 by c0_self
name_quick tw16172117957621229858 for c0 by c0_self
name_quick tw4575980220486274672 for c0 by c0_self
name_quick tw2660918139993853925 for c0 by c0_self
name_quick tw558745408833754511 for c0 by c0_self
name_quick tw7581352650102555174 for c0 by c0_self
name_quick tw17532718790514356516 for c0 by c0_self
name_quick tw10833955939284561965 for c0 by c0_self
name_quick tw15323854079317868165 for c0 by c0_self
name_quick tw14837249469386935497 for c0 by c0_self
name_quick tw2370425770031549630 for c0 by c0_self
name_quick tw9948023125614773506 for c0 by c0_self
name_quick tw4933834842325187142 for c0 by c0_self
name_quick tw563124612126607214 for c0 by c0_self
name_quick tw10938465397075749097 for c0 by c0_self
name_quick tw3118938333895590913 for c0 by c0_self
name_quick tw721709456127091705 for c0 by c0_self
name_quick tw16180483070735683940 for c0 by c0_self
name_quick tw11682084944484805031 for c0 by c0_self
name_quick tw13903129631018457399 for c0 by c0_self
name_quick tw17230556039016184743 for c0 by c0_self
name_quick tw8946543629884556368 for c0 by c0_self
name_quick tw17730428716208468724 for c0 by c0_self
name_quick tw9794667896261083176 for c0 by c0_self
name_quick tw1414301608579184545 for c0 by c0_self
name_quick tw14737664238857459083 for c0 by c0_self
name_quick tw14223099787259518943 for c0 by c0_self
name_quick tw18163708392712065173 for c0 by c0_self
name_quick tw2569364866550412066 for c0 by c0_self
name_quick tw12456492676567594705 for c0 by c0_self
name_quick tw17018628822417861297 for c0 by c0_self
name_quick tw950723637873067451 for c0 by c0_self
name_quick tw8385612375773290118 for c0 by c0_self
name_quick tw15475462885187679331 for c0 by c0_self
name_quick tw3636048126100218174 for c0 by c0_self
name_quick tw16568743728048016525 for c0 by c0_self
name_quick tw10964334890339321822 for c0 by c0_self
name_quick tw5706481520468235054 for c0 by c0_self
name_quick tw8595292554425487202 for c0 by c0_self
name_quick tw11985326045990495214 for c0 by c0_self
name_quick tw12177639751122801600 for c0 by c0_self
name_quick tw5925582254088234700 for c0 by c0_self
name_quick tw11796506867022685745 for c0 by c0_self
name_quick tw6929956602132211858 for c0 by c0_self
name_quick tw18126140380344562322 for c0 by c0_self
name_quick tw17020146562604978829 for c0 by c0_self
name_quick tw16979880578912567463 for c0 by c0_self
name_quick tw13236226663087606529 for c0 by c0_self
name_quick tw12981051755390344553 for c0 by c0_self
name_quick tw17057272898397164401 for c0 by c0_self
name_quick tw17815586953681464072 for c0 by c0_self
name_quick tw7783732958741208154 for c0 by c0_self
name_quick tw178441218286455893 for c0 by c0_self
name_quick tw1107438419126420414 for c0 by c0_self
name_quick tw12392613427281201732 for c0 by c0_self
name_quick tw12973657651903071711 for c0 by c0_self
name_quick tw392140993173905013 for c0 by c0_self
name_quick tw7504490480230193789 for c0 by c0_self
name_quick tw18056578402003937789 for c0 by c0_self
name_quick tw10352308551163946355 for c0 by c0_self
name_quick tw7286323032743288035 for c0 by c0_self
name_quick tw14934708107589980039 for c0 by c0_self
name_quick tw10029231156530900338 for c0 by c0_self
name_quick tw8119918657739134586 for c0 by c0_self
name_quick tw14874922208557711187 for c0 by c0_self
name_quick tw8488268690174267210 for c0 by c0_self
name_quick tw4879560196417449868 for c0 by c0_self
name_quick tw18416463498863911781 for c0 by c0_self
name_quick tw11636919720809706868 for c0 by c0_self
name_quick tw12371321757623732685 for c0 by c0_self
name_quick tw17183712847048597117 for c0 by c0_self
name_quick tw5315457868209417068 for c0 by c0_self
name_quick tw383695940523520267 for c0 by c0_self
name_quick tw8537084889766193716 for c0 by c0_self
name_quick tw10719484529398299949 for c0 by c0_self
name_quick tw9720828393056574044 for c0 by c0_self
name_quick tw16707610438920864966 for c0 by c0_self
name_quick tw17497748084772794779 for c0 by c0_self
name_quick tw4071324889030633612 for c0 by c0_self
name_quick tw12172078356533094185 for c0 by c0_self
name_quick tw12726346659333912481 for c0 by c0_self
name_quick tw396607853666888187 for c0 by c0_self
name_quick tw662354867322794072 for c0 by c0_self
name_quick tw15376083050721069600 for c0 by c0_self
name_quick tw10181792811725400092 for c0 by c0_self
name_quick tw15112985482279097393 for c0 by c0_self
name_quick tw4445901975914265736 for c0 by c0_self
name_quick tw7670514497116975361 for c0 by c0_self
name_quick tw12635297910168745909 for c0 by c0_self
name_quick tw3365093317950918147 for c0 by c0_self
name_quick tw18340240734955500558 for c0 by c0_self
name_quick tw4091194055036891139 for c0 by c0_self
name_quick tw2958062672499776758 for c0 by c0_self
name_quick tw13809362725867891129 for c0 by c0_self
name_quick tw13871001218405608335 for c0 by c0_self
name_quick tw8610040677353227653 for c0 by c0_self
name_quick tw4287028408620065468 for c0 by c0_self
name_quick tw13002492023102617099 for c0 by c0_self
name_quick tw13251646731365433171 for c0 by c0_self
name_quick tw16437185098154296904 for c0 by c0_self
name_quick tw13505292571300825877 for c0 by c0_self
name_quick tw13559156169165276386 for c0 by c0_self
name_quick tw6967401301877209104 for c0 by c0_self
name_quick tw3386650904741475044 for c0 by c0_self
name_quick tw2951486255847992690 for c0 by c0_self
name_quick tw12679591844961189642 for c0 by c0_self
name_quick tw11707371222683016368 for c0 by c0_self
name_quick tw14766643958189025262 for c0 by c0_self
name_quick tw12850107946570832962 for c0 by c0_self
name_quick tw4558998842232669794 for c0 by c0_self
name_quick tw7892128664451923741 for c0 by c0_self
name_quick tw2664551874359636763 for c0 by c0_self
name_quick tw347637069881736656 for c0 by c0_self
name_quick tw4318056027017086478 for c0 by c0_self
name_quick tw1638017585896720355 for c0 by c0_self
name_quick tw10819683100428557426 for c0 by c0_self
name_quick tw14427280190107063356 for c0 by c0_self
name_quick tw8400853705098224536 for c0 by c0_self
name_quick tw7733015712792483723 for c0 by c0_self
name_quick tw2883484788219351825 for c0 by c0_self
name_quick tw4681523508651956083 for c0 by c0_self
name_quick tw5646442142991981755 for c0 by c0_self
name_quick tw18220123701641295943 for c0 by c0_self
name_quick tw11036193050239951465 for c0 by c0_self
name_quick tw4824431525194463578 for c0 by c0_self
name_quick tw10487160056961263569 for c0 by c0_self
name_quick tw10058976618658966374 for c0 by c0_self
name_quick tw9951705424602377420 for c0 by c0_self
name_quick tw10030586065758793078 for c0 by c0_self
name_quick tw14302742528174841744 for c0 by c0_self
name_quick tw17765544955259793912 for c0 by c0_self
name_quick tw4552823106982906706 for c0 by c0_self
name_quick tw11957962974430299695 for c0 by c0_self
name_quick tw2039238271031011813 for c0 by c0_self
name_quick tw2078703811421203504 for c0 by c0_self
name_quick tw13759679279233594173 for c0 by c0_self
name_quick tw16326889199254633757 for c0 by c0_self
name_quick tw10706342367453228570 for c0 by c0_self
name_quick tw16289391198768371057 for c0 by c0_self
name_quick tw2447775223705975068 for c0 by c0_self
name_quick tw11277413387252134812 for c0 by c0_self
name_quick tw1869930749605803152 for c0 by c0_self
name_quick tw11495947367809530248 for c0 by c0_self
name_quick tw15542503528162795033 for c0 by c0_self
name_quick tw4679858250743294509 for c0 by c0_self
name_quick tw11346108149598046533 for c0 by c0_self
name_quick tw11707433790658880453 for c0 by c0_self
name_quick tw441327347791068078 for c0 by c0_self
name_quick tw2571919107429820419 for c0 by c0_self
name_quick tw17768419659990539469 for c0 by c0_self
name_quick tw9908251947323293946 for c0 by c0_self
name_quick tw18345786424863182364 for c0 by c0_self
name_quick tw505943868828395459 for c0 by c0_self
name_quick tw13505808771043648510 for c0 by c0_self
name_quick tw9407582987413476825 for c0 by c0_self
name_quick tw10670733350059645105 for c0 by c0_self
name_quick tw8588708647495961459 for c0 by c0_self
name_quick tw7276740287692124622 for c0 by c0_self
name_quick tw17520869792638436183 for c0 by c0_self
name_quick tw8800560270773162519 for c0 by c0_self
name_quick tw10314498396905981064 for c0 by c0_self
name_quick tw15750371108467400348 for c0 by c0_self
name_quick tw16644606511662114574 for c0 by c0_self
name_quick tw17814930658547583709 for c0 by c0_self
name_quick tw3142773779024712118 for c0 by c0_self
name_quick tw14420389602138693270 for c0 by c0_self
name_quick tw6012508502120743258 for c0 by c0_self
name_quick tw618205885557783147 for c0 by c0_self
name_quick tw14224011070414065920 for c0 by c0_self
name_quick tw6213141578215901147 for c0 by c0_self
name_quick tw14210447440969649564 for c0 by c0_self
name_quick tw5701610774189311196 for c0 by c0_self
name_quick tw11317593695737139937 for c0 by c0_self
name_quick tw6817277305950994716 for c0 by c0_self
name_quick tw16349216596472256690 for c0 by c0_self
name_quick tw17774800907425398282 for c0 by c0_self
name_quick tw17913803186225011329 for c0 by c0_self
name_quick tw6090905460779295987 for c0 by c0_self
name_quick tw11420187438672877268 for c0 by c0_self
name_quick tw12866136484021002089 for c0 by c0_self
name_quick tw9575948337506731703 for c0 by c0_self
name_quick tw5111356299099525756 for c0 by c0_self
name_quick tw9821368406582625841 for c0 by c0_self
name_quick tw14112274594779413971 for c0 by c0_self
name_quick tw11939915149646268982 for c0 by c0_self
name_quick tw8642067239939848140 for c0 by c0_self
name_quick tw17993156020533580102 for c0 by c0_self
name_quick tw11013792430000457035 for c0 by c0_self
name_quick tw5832503352825792928 for c0 by c0_self
name_quick tw5518745428033880147 for c0 by c0_self
name_quick tw18011898689540126615 for c0 by c0_self
name_quick tw7745614565497352828 for c0 by c0_self
name_quick tw535072334866317008 for c0 by c0_self
name_quick tw8732485361984058174 for c0 by c0_self
name_quick tw17537794083376710389 for c0 by c0_self
name_quick tw6683783046931543321 for c0 by c0_self
name_quick tw8727135674562949291 for c0 by c0_self
name_quick tw4797165386629745026 for c0 by c0_self
name_quick tw16189536214700107852 for c0 by c0_self
name_quick tw12022618010286034681 for c0 by c0_self
name_quick tw17894057611463924538 for c0 by c0_self
name_quick tw2599325451414397859 for c0 by c0_self
name_quick tw17434858337260393937 for c0 by c0_self
name_quick tw4157132240345071046 for c0 by c0_self
name_quick tw10057510723706494237 for c0 by c0_self
name_quick tw14979626087600564940 for c0 by c0_self
name_quick tw470574548607681690 for c0 by c0_self
name_quick tw11452132507678324671 for c0 by c0_self
name_quick tw10532037691210839823 for c0 by c0_self
name_quick tw18123110421147349612 for c0 by c0_self
name_quick tw2408619945344806742 for c0 by c0_self
name_quick tw3560238982266916124 for c0 by c0_self
name_quick tw8424611434330503625 for c0 by c0_self
name_quick tw6125931036764729998 for c0 by c0_self
name_quick tw13900631225919944168 for c0 by c0_self
name_quick tw16223305294053301992 for c0 by c0_self
name_quick tw14023627001141898710 for c0 by c0_self
name_quick tw4299136966843209011 for c0 by c0_self
name_quick tw15809354239759208672 for c0 by c0_self
name_quick tw9862997608875712007 for c0 by c0_self
name_quick tw7731394104533254306 for c0 by c0_self
name_quick tw8376441433122354887 for c0 by c0_self
name_quick tw15894407043143930727 for c0 by c0_self
name_quick tw18350638575300117064 for c0 by c0_self
name_quick tw16942504070071679284 for c0 by c0_self
name_quick tw12635813782599140982 for c0 by c0_self
name_quick tw7231524377534056507 for c0 by c0_self
name_quick tw12114495157272644582 for c0 by c0_self
name_quick tw15207642765257501584 for c0 by c0_self
name_quick tw15215539614974913122 for c0 by c0_self
name_quick tw4224760802259116069 for c0 by c0_self
name_quick tw13581749221687468397 for c0 by c0_self
name_quick tw5976474108018559520 for c0 by c0_self
name_quick tw11729385059970357855 for c0 by c0_self
name_quick tw14544052848187043789 for c0 by c0_self
name_quick tw11328821685186248670 for c0 by c0_self
name_quick tw13981391230805400906 for c0 by c0_self
name_quick tw363390406909901203 for c0 by c0_self
name_quick tw16366562015402752707 for c0 by c0_self
name_quick tw10227693086864044499 for c0 by c0_self
name_quick tw14326252917377295143 for c0 by c0_self
name_quick tw3825061337978711158 for c0 by c0_self
name_quick tw6654550962395885724 for c0 by c0_self
name_quick tw7543618554067911206 for c0 by c0_self
name_quick tw1393629259489396696 for c0 by c0_self
name_quick tw6245536207120538393 for c0 by c0_self
name_quick tw7229665172594901996 for c0 by c0_self
name_quick tw14185684948912167051 for c0 by c0_self
name_quick tw3470799630455053000 for c0 by c0_self
name_quick tw16349804527192203551 for c0 by c0_self
name_quick tw7074795694173733578 for c0 by c0_self
name_quick tw15450981722951097364 for c0 by c0_self
name_quick tw17015423121036801654 for c0 by c0_self
name_quick tw7788680626742099145 for c0 by c0_self
name_quick tw2504098582860672743 for c0 by c0_self
name_quick tw5200128776193632040 for c0 by c0_self
name_quick tw12450158673883907302 for c0 by c0_self
name_quick tw1377046205977697930 for c0 by c0_self
name_quick tw9564595351457756722 for c0 by c0_self
name_quick tw6380782515089751550 for c0 by c0_self
name_quick tw7323676302269181137 for c0 by c0_self
name_quick tw12359285113459375979 for c0 by c0_self
name_quick tw387338674003428930 for c0 by c0_self
name_quick tw17000458434675057986 for c0 by c0_self
name_quick tw5135500740108067664 for c0 by c0_self
name_quick tw3880421473898291048 for c0 by c0_self
name_quick tw16792545251062261874 for c0 by c0_self
name_quick tw17024950926791866790 for c0 by c0_self
name_quick tw15480198773659482676 for c0 by c0_self
name_quick tw14043711374191979534 for c0 by c0_self
name_quick tw16049961110935095269 for c0 by c0_self
name_quick tw7650934615059315214 for c0 by c0_self
name_quick tw11767421526060770920 for c0 by c0_self
name_quick tw9529234661008812162 for c0 by c0_self
name_quick tw17045043414572947948 for c0 by c0_self
name_quick tw18211773271919218964 for c0 by c0_self
name_quick tw6834602518627153040 for c0 by c0_self
name_quick tw13551572312386263098 for c0 by c0_self
name_quick tw9467589175468403638 for c0 by c0_self
name_quick tw10508251915553800215 for c0 by c0_self
name_quick tw8987815912523675519 for c0 by c0_self
name_quick tw17341736924252097559 for c0 by c0_self
name_quick tw117213463901210413 for c0 by c0_self
name_quick tw17863021456227041891 for c0 by c0_self
name_quick tw15742981410569661332 for c0 by c0_self
name_quick tw4775785305629353868 for c0 by c0_self
name_quick tw10317580896714288900 for c0 by c0_self
name_quick tw14530364306720264245 for c0 by c0_self
name_quick tw5902227825499142635 for c0 by c0_self
name_quick tw16655555454665732581 for c0 by c0_self
name_quick tw8989982439271903415 for c0 by c0_self
name_quick tw17279654841073493023 for c0 by c0_self
name_quick tw9413167413068371254 for c0 by c0_self
name_quick tw9800571698397750058 for c0 by c0_self
name_quick tw11566699232636054958 for c0 by c0_self
name_quick tw10424941004445345732 for c0 by c0_self
name_quick tw16176465441171805009 for c0 by c0_self
name_quick tw9206804518496725263 for c0 by c0_self
name_quick tw8686407601681055034 for c0 by c0_self
name_quick tw13512673800721320934 for c0 by c0_self
open_top hd for PySem.Challenge.rw_jn0050_01


structure Rm (A : Around) (n : Nat) : Prop where
  hd : A.handled = none
  dep : A.depth + n < 900
  un : A.units + 20 * n < 9000
theorem Rm.mono {A : Around} {n k : Nat} (h : Rm A n) (e : k ≤ n) : Rm A k := ⟨h.hd, by have := h.dep; omega, by have := h.un; omega⟩
theorem Rm.deeper {A : Around} {n : Nat} (env : Env) (h : Rm A (n + 1)) : Rm (A.deeper env) n :=
  ⟨h.hd, by have := h.dep; show A.depth + 1 + n < 900; omega, by have := h.un; show A.units + 3 + 20 * n < 9000; omega⟩
theorem Rm.in1 {A : Around} {n : Nat} (h : Rm A (n + 1)) : Rm A.in1 n :=
  ⟨h.hd, by have := h.dep; show A.depth + n < 900; omega, by have := h.un; show A.units + 1 + 20 * n < 9000; omega⟩
theorem Rm.room {A : Around} {n : Nat} (h : Rm A n) : A.depth < recursionLimit := by have := h.dep; show A.depth < 1000; omega
theorem Rm.cu {A : Around} {n : Nat} (h : Rm A n) : A.units < cLine := by have := h.un; show A.units < 9900; omega

noncomputable def Sub (h h' : Heap) : Prop := ∀ b o, h.get? b = some o → h'.get? b = some o
theorem Sub.refl (h : Heap) : Sub h h := fun _ _ e => e
theorem Sub.trans {a b c : Heap} (h : Sub a b) (k : Sub b c) : Sub a c := fun x o e => k x o (h x o e)

noncomputable def Chg (ms : List Addr) (h h' : Heap) : Prop := ∀ b o, h.get? b = some o → b ∉ ms → h'.get? b = some o

structure Gd (w : World) (h : Heap) : Prop where
  X : (Mine.hd.heap_39 w.params).In h
  T : ∃ p loose mean mg mb, Top p loose mean mg mb h
theorem Gd.keeps {w : World} {h h' : Heap} (G : Gd w h) (k : Sub h h') : Gd w h' :=
  ⟨G.X.keeps k, let ⟨p, loose, mean, mg, mb, T⟩ := G.T; ⟨p, loose, mean, mg, mb, T.keeps k⟩⟩
theorem Gd.nolimit {w : World} {h : Heap} (G : Gd w h) : h.NoLimit := let ⟨_, _, _, _, _, T⟩ := G.T; T.nolimit

/-- the part of the heap that a call leaves as it is: all but ms -/
theorem hide_sub {hB h : Heap} {ms : List Addr} (k : Sub hB h) (f : ∀ a ∈ ms, hB.get? a = none) : Sub hB (hideAll h ms) := fun b o e =>
  hideAll_get ms (k b o e) fun q => by rw [f b q] at e; cases e

section
variable {prog : Program} {w : World} {A : Around} {E : Value → Shared → Prop} {s : Shared} {K : Frag} {Q : Value → Shared → Prop}
  {name qual : Str} {params : Arguments} {body : List Stmt} {scope : Scope} {dV kV doc pm cdv ct oc : Value} {an od : Option Addr} {osl : Array (Option Value)} {f : Addr} {pos : List Value} {kw : List (Str × Value)} {binds : List (Str × Value)}
  {hB : Heap} {mods : List (Addr × Obj)}

theorem enterC {n : Nat} (R : Rm A n) (G : Gd w hB) (k : Sub hB s.heap) (M : ∀ p ∈ mods, s.heap.get? p.1 = some p.2 ∧ hB.get? p.1 = none)
    (ho : (Mine.hd.heap_39 w.params).lookup f = some ⟨oc, od, .func (fnOf name qual params body scope dV kV doc pm an cdv ct), osl⟩) (hcd : codeIn (Mine.hd.heap_39 w.params) cdv qual = true)
    (hbind : BindsTo s (fnOf name qual params body scope dV kV doc pm an cdv ct) ⟨pos, kw⟩ binds) (hloc : ∀ y ∈ binds, scope.names.lookup y.1 = some .local)
    (h : ∀ g L h₁, (∀ b o, s.heap.get? b = some o → b ∉ mods.map (·.1) → g.get? b = some o) → Sub hB g → Fr g L h₁ (fun y => binds.reverse.lookup y) → News g L h₁ mods → (Mine.hd.heap_39 w.params).In g →
      (∃ p loose mean mg mb, Top p loose mean mg mb g) → (∀ p ∈ mods, p.1 < L) →
      wpAny (model prog w) (A.deeper (envOf qual scope L f cdv)) (execs body (envOf qual scope L f cdv))
        (fun fl s' => Q (match fl with | .ret v => v | _ => .none) s') (fun _ _ => False)
        { s with heap := h₁, toks := s.toks + binds.length })
    (hco : scope.isCoroutine = false) (hgen : scope.isGenerator = false) (hk : scope.kind = .function)
    (hcell : ∀ x ∈ scope.names, x.2 ≠ .cell) : codeAny (model prog w) A (.call (.ref f) ⟨pos, kw⟩) (fun r s' => match r with | .ok (.ret v) => Q v s' | .ok _ => False | .error e => E e s') s := by
  have G' := G.keeps k
  refine (codeAny_call_def (fd := fnOf name qual params body scope dV kV doc pm an cdv ct) (body := body) (binds := binds) R.room (G'.X _ _ ho) rfl G'.nolimit (codeRec_of G'.X hcd) rfl hbind hcell hloc (fun h₁ hns hk₁ => ?_) hco hgen hk)
  have hn : ∀ b ∈ mods.map (·.1), hB.get? b = none := fun b hb => by
    obtain ⟨p, hp, rfl⟩ := List.mem_map.mp hb
    exact (M p hp).2
  have hs := hide_sub k hn
  refine wpAny_mono (h (hideAll s.heap (mods.map (·.1))) s.heap.objs.size h₁ (fun b o e nb => hideAll_get _ e nb) hs ⟨hns, fun b o e => hk₁ b o (of_hideAll _ e), Nat.le_of_eq (hideAll_size _ _)⟩
    (fun p hp => ⟨hk₁ _ _ (M p hp).1, Nat.ne_of_lt (Heap.lt_size (M p hp).1), hideAll_none _ (List.mem_map_of_mem hp)⟩) (G.keeps hs).X (G.keeps hs).T (fun p hp => Heap.lt_size (M p hp).1)) (fun _ _ y => y) fun _ _ y => y.elim
theorem enter {n : Nat} (R : Rm A n) (G : Gd w hB) (k : Sub hB s.heap) (M : ∀ p ∈ mods, s.heap.get? p.1 = some p.2 ∧ hB.get? p.1 = none)
    (ho : (Mine.hd.heap_39 w.params).lookup f = some ⟨oc, od, .func (fnOf name qual params body scope dV kV doc pm an cdv ct), osl⟩) (hcd : codeIn (Mine.hd.heap_39 w.params) cdv qual = true)
    (hbind : BindsTo s (fnOf name qual params body scope dV kV doc pm an cdv ct) ⟨pos, kw⟩ binds) (hloc : ∀ y ∈ binds, scope.names.lookup y.1 = some .local)
    (h : ∀ g L h₁, (∀ b o, s.heap.get? b = some o → b ∉ mods.map (·.1) → g.get? b = some o) → Sub hB g → Fr g L h₁ (fun y => binds.reverse.lookup y) → News g L h₁ mods → (Mine.hd.heap_39 w.params).In g →
      (∃ p loose mean mg mb, Top p loose mean mg mb g) → (∀ p ∈ mods, p.1 < L) →
      wpAny (model prog w) (A.deeper (envOf qual scope L f cdv)) (execs body (envOf qual scope L f cdv))
        (fun fl s' => Q (match fl with | .ret v => v | _ => .none) s') (fun _ _ => False)
        { s with heap := h₁, toks := s.toks + binds.length })
    (hco : scope.isCoroutine = false) (hgen : scope.isGenerator = false) (hk : scope.kind = .function)
    (hcell : ∀ x ∈ scope.names, x.2 ≠ .cell) : wpAny (model prog w) A (call (.ref f) pos kw) Q E s :=
  wpAny_call (enterC R G k M ho hcd hbind hloc h hco hgen hk hcell)
end

theorem fills {w : World} {hB : Heap} (G : Gd w hB) : (Mine.hd.heap_39 w.params).In hB ∧ PySem.Challenge.rw_jn0050_01 = PySem.Challenge.rw_jn0050_01 := by
  k_fill
  exact ⟨G.X, rfl⟩

/-! ## values of a map -/
theorem valueAt_without (kvs : List (Str × Value)) (k x : Str) : valueAt (without kvs k) x = if x = k then none else valueAt kvs x := by
  induction kvs with
  | nil => simp [valueAt, without]
  | cons p r ih =>
    unfold valueAt without at *
    by_cases h : p.1 = k
    · rw [List.filter_cons, if_neg (by simp [h]), ih, List.find?_cons]
      by_cases q : x = k
      · simp [q]
      · have : ¬ p.1 = x := fun e => q (e ▸ h)
        simp [q, this]
    · rw [List.filter_cons, if_pos (by simp [h]), List.find?_cons, List.find?_cons]
      by_cases q : p.1 = x
      · have : ¬ x = k := fun e => h (q ▸ e)
        simp [q, this]
      · simp only [q, decide_false]
        exact ih
theorem valueAt_map_store (kvs : List (Str × Value)) (k x : Str) (v : Value) : valueAt (kvs.map fun kv => if kv.1 = k then (kv.1, v) else kv) x = if x = k ∧ (valueAt kvs k).isSome then some v else valueAt kvs x := by
  induction kvs with
  | nil => simp [valueAt]
  | cons p r ih =>
    unfold valueAt at *
    rw [List.map_cons, List.find?_cons, List.find?_cons, List.find?_cons]
    by_cases h : p.1 = k
    · subst h
      by_cases q : p.1 = x
      · subst q; simp
      · have : ¬ x = p.1 := fun e => q e.symm
        simp only [if_pos, q, decide_false, ih, this, false_and, if_false]
    · by_cases q : p.1 = x
      · subst q
        simp [h]
      · simp only [h, if_false, q, decide_false]
        exact ih
theorem valueAt_append (kvs : List (Str × Value)) (k x : Str) (v : Value) (hn : valueAt kvs k = none) : valueAt (kvs ++ [(k, v)]) x = if x = k then some v else valueAt kvs x := by
  induction kvs with
  | nil =>
    by_cases h : k = x
    · subst h; simp [valueAt]
    · have : ¬ x = k := fun e => h e.symm
      simp [valueAt, h, this]
  | cons p r ih =>
    unfold valueAt at *
    rw [List.cons_append, List.find?_cons, List.find?_cons] at *
    by_cases h : p.1 = k
    · simp [h] at hn
    · simp only [h, decide_false] at hn
      by_cases q : p.1 = x
      · have : ¬ x = k := fun e => h (q ▸ e)
        simp [q, this]
      · simp only [q, decide_false]
        exact ih hn
theorem any_valueAt (kvs : List (Str × Value)) (k : Str) : (kvs.any fun kv => decide (kv.1 = k)) = (valueAt kvs k).isSome := by
  induction kvs with
  | nil => rfl
  | cons p r ih =>
    unfold valueAt at *
    rw [List.any_cons, List.find?_cons]
    by_cases h : p.1 = k
    · simp [h]
    · simp only [h, decide_false, Bool.false_or]; exact ih
theorem valueAt_stored (kvs : List (Str × Value)) (k x : Str) (v : Value) : valueAt (stored kvs k v) x = if x = k then some v else valueAt kvs x := by
  unfold stored
  cases h : valueAt kvs k with
  | none =>
    rw [if_neg (by rw [any_valueAt, h]; exact Bool.false_ne_true), valueAt_append _ _ _ _ h]
  | some u =>
    rw [if_pos (by rw [any_valueAt, h]; rfl), valueAt_map_store, h]
    by_cases q : x = k <;> simp [q]
theorem without_length (kvs : List (Str × Value)) (k : Str) : (without kvs k).length ≤ kvs.length := List.length_filter_le _ _

/-! ## the maps -/
noncomputable def del {α : Type} (f : Str → Option α) (k : Str) : Str → Option α := fun x => if x = k then none else f x
noncomputable def put {α : Type} (f : Str → Option α) (k : Str) (a : α) : Str → Option α := fun x => if x = k then some a else f x

noncomputable def RelI (v : Option Value) : Option Int → Prop
  | none => v = none
  | some i => ∃ t, v = some (.int i t)
noncomputable def IsI (w : World) (o : Obj) (f : Str → Option Int) (b : Nat) : Prop :=
  ∃ kvs, o.IsDictOf (PySem.strKind PySem.Challenge.rw_jn0050_01.row.prog w) kvs ∧ kvs.length ≤ b ∧ ∀ k, RelI (valueAt kvs k) (f k)
theorem IsI.mono {w : World} {o : Obj} {f : Str → Option Int} {b c : Nat} (h : IsI w o f b) (e : b ≤ c) : IsI w o f c := let ⟨k, a, l, r⟩ := h; ⟨k, a, Nat.le_trans l e, r⟩

section
variable {w : World} {A : Around} {E : Value → Shared → Prop} {s : Shared} {h₀ : Heap} {L d : Addr} {m : Str → Option Value} {news : List (Addr × Obj)} {g : Obj → List (Addr × Obj)} {o : Obj} {k : Str} {t ti : Tok} {i : Int} {f : Str → Option Int} {b : Nat}

theorem dict_pop2 {kvs : List (Str × Value)} {dflt : Value} {Q : Value → Shared → Prop} (hD : s.heap.DictOf (PySem.strKind PySem.Challenge.rw_jn0050_01.row.prog w) d kvs) (lo : (d == sysModules) = false) (hsz : kvs.length ≤ sizeLine)
    (h : ∀ h', h'.DictOf (PySem.strKind PySem.Challenge.rw_jn0050_01.row.prog w) d (without kvs k) → Heap.SameBut d s.heap h' → Q ((valueAt kvs k).getD dflt) { s with heap := h', toks := s.toks + 1 }) :
    wpAny (model PySem.Challenge.rw_jn0050_01.row.prog w) A (call (.builtin "dict.pop") [.ref d, .str k t, dflt]) Q E s := by
  cases hv : valueAt kvs k with
  | none =>
    refine call_meetsIn PySem.F.slot_dict_pop hD.typeIs PySem.F.entry_dict_pop (PySem.F.args_dict_pop_3 _ _ _) (meets_dict_pop_default _ d (strKind_is _ _ k t) lo rfl dflt) ⟨kvs, hD, hv, ?_⟩
    have hw : without kvs k = kvs := without_of_not_mem kvs k fun hm => by
      obtain ⟨p, hp, rfl⟩ := List.mem_map.mp hm
      have := any_valueAt kvs p.1
      rw [hv] at this
      exact absurd (List.any_eq_false.mp this p hp) (by simp)
    have := h s.heap (by rw [hw]; exact hD) (Heap.SameBut.refl ..)
    rw [hv] at this
    exact this
  | some v =>
    refine call_meetsIn PySem.F.slot_dict_pop hD.typeIs PySem.F.entry_dict_pop (PySem.F.args_dict_pop_3 _ _ _) (meets_dict_pop_there _ d (strKind_is _ _ k t) [dflt] (.inr ⟨_, rfl⟩) rfl) ⟨kvs, v, hD, hsz, hv, fun h' a b' => ?_⟩
    have := h h' a b'
    rw [hv] at this
    exact this

theorem D_get {id : String} {name : Str} {pl : Sem Bool} {Q : Value × List Value → Shared → Prop} {kvs : List (Str × Value)} (slot : Slot "dict" name id) (ty : typeOf (.builtin id) = pure (.type "method_descriptor")) (N : News h₀ L s.heap news) (hp : (d, o) ∈ news)
    (hd : o.IsDictOf (PySem.strKind PySem.Challenge.rw_jn0050_01.row.prog w) kvs) (h : Q (.builtin id, [.ref d]) s) : wpAny (model PySem.Challenge.rw_jn0050_01.row.prog w) A (getMethod (.ref d) name pl) Q E s := kob_method slot ty N hp hd h
theorem I_meth {id : String} {name : Str} {pl : Sem Bool} {Q : Value × List Value → Shared → Prop} (slot : Slot "dict" name id) (ty : typeOf (.builtin id) = pure (.type "method_descriptor")) (N : News h₀ L s.heap news) (hp : (d, o) ∈ news)
    (hd : IsI w o f b) (h : Q (.builtin id, [.ref d]) s) : wpAny (model PySem.Challenge.rw_jn0050_01.row.prog w) A (getMethod (.ref d) name pl) Q E s := let ⟨_, hd, _⟩ := hd; kob_method slot ty N hp hd h
theorem I_get {Q : Value → Shared → Prop} (N : News h₀ L s.heap news) (hp : (d, o) ∈ news) (hd : IsI w o f b) (lo : (d == sysModules) = false)
    (h : ∀ t', Q (.int ((f k).getD i) t') { s with toks := s.toks + 1 }) : wpAny (model PySem.Challenge.rw_jn0050_01.row.prog w) A (call (.builtin "dict.get") [.ref d, .str k t, .int i ti]) Q E s := by
  obtain ⟨kvs, hd, _, hr⟩ := hd
  refine kdg_get2 N hp hd lo (strKind_is _ _ _ _) _ rfl ?_
  have := hr k
  cases hf : f k with
  | none => rw [hf] at this h; rw [show valueAt kvs k = none from this]; exact h ti
  | some j =>
    rw [hf] at this h
    obtain ⟨t', e⟩ := this
    rw [e]
    exact h t'
theorem I_item {value slice : PySem.Expr} {Q : Value → Shared → Prop} (N : News h₀ L s.heap news) (hp : (d, o) ∈ news) (hd : IsI w o f b) (hf : f k = some i)
    (h : ∀ t', Q (.int i t') { s with toks := s.toks + 1 })
    (hs : subscripted slice false (.ref d) (.str k t) = operate [.ref d, (.str k t)] (getItem (.ref d) (.str k t)) := by with_unfolding_all rfl) (hg : ∀ r, letTemporaryGo value (.ref d) r = pure () := by intro _; with_unfolding_all rfl) :
    wpAny (model PySem.Challenge.rw_jn0050_01.row.prog w) A (subscriptTail value slice (.ref d) (.str k t)) Q E s := by
  obtain ⟨kvs, hd, _, hr⟩ := hd
  have := hr k
  rw [hf] at this
  obtain ⟨t', e⟩ := this
  exact kda_item N hp hd (strKind_is _ _ _ _) e (h t') hs hg
theorem RelI.put {v : Value} {kvs : List (Str × Value)} (hr : ∀ k, RelI (valueAt kvs k) (f k)) (hv : v = .int i t) (x : Str) : RelI (valueAt (stored kvs k v) x) (put f k i x) := by
  rw [valueAt_stored]
  unfold Mine.put
  by_cases q : x = k
  · rw [if_pos q, if_pos q]; exact ⟨t, by rw [hv]⟩
  · rw [if_neg q, if_neg q]; exact hr x
theorem RelI.del {kvs : List (Str × Value)} (hr : ∀ k, RelI (valueAt kvs k) (f k)) (x : Str) : RelI (valueAt (without kvs k) x) (del f k x) := by
  rw [valueAt_without]
  unfold Mine.del
  by_cases q : x = k
  · rw [if_pos q, if_pos q]; exact rfl
  · rw [if_neg q, if_neg q]; exact hr x
theorem I_set {Q : Unit → Shared → Prop} (F : Fr h₀ L s.heap m) (N : News h₀ L s.heap news) (U : UpdF d o news g) (hd : IsI w o f b) (hb : b ≤ 1000000)
    (h : ∀ h' o', Fr h₀ L h' m → News h₀ L h' (g o') → IsI w o' (put f k i) (b + 1) → Q () { s with heap := h', toks := s.toks + 1 }) :
    wpAny (model PySem.Challenge.rw_jn0050_01.row.prog w) A (setItem (.ref d) (.str k t) (.int i ti)) Q E s := by
  obtain ⟨kvs, hd, hl, hr⟩ := hd
  exact kda_set F N U hd (strKind_is _ _ _ _) (by rw [sizeLine_eq]; omega) fun h' o' F' N' hd' => h h' o' F' N' ⟨_, hd', Nat.le_trans (stored_length_le ..) (Nat.succ_le_succ hl), RelI.put hr rfl⟩
theorem I_pop {Q : Value → Shared → Prop} (F : Fr h₀ L s.heap m) (N : News h₀ L s.heap news) (U : UpdF d o news g) (hd : IsI w o f b) (lo : (d == sysModules) = false) (hb : b ≤ 1000000)
    (h : ∀ h' o' v, Fr h₀ L h' m → News h₀ L h' (g o') → IsI w o' (del f k) b → Q v { s with heap := h', toks := s.toks + 1 }) :
    wpAny (model PySem.Challenge.rw_jn0050_01.row.prog w) A (call (.builtin "dict.pop") [.ref d, .str k t, .none]) Q E s := by
  obtain ⟨kvs, hd, hl, hr⟩ := hd
  obtain ⟨pre, post, rfl, hg, a, c⟩ := U.split
  have hm := N (d, o) (List.mem_append_right _ (.head _))
  refine dict_pop2 (Heap.dictOf_iff.mpr ⟨o, hm.1, hd⟩) lo (by rw [sizeLine_eq]; omega) fun h' hmm hs => ?_
  obtain ⟨o', ho', hd'⟩ := Heap.dictOf_iff.mp hmm
  exact h h' o' _ (F.change hs hm.2.1 hm.2.2) (hg o' ▸ N.setIn a c hs ho') ⟨_, hd', Nat.le_trans (without_length ..) hl, RelI.del hr⟩
end

/-! ## the clock, the store -/
noncomputable def Clk (w : World) (hB h : Heap) (lam : Addr) (T : Int) (fp : List Addr) : Prop :=
  ∀ (s : Shared) (A : Around) (E Q : Value → Shared → Prop), Rm A 4 → Sub hB s.heap → (∀ b ∈ fp, ∀ o, h.get? b = some o → s.heap.get? b = some o) →
    (∀ h' tk t, Sub s.heap h' → Q (.int T t) { s with heap := h', toks := tk }) → wpAny (model PySem.Challenge.rw_jn0050_01.row.prog w) A (call (.ref lam) [] []) Q E s
theorem Clk.mono {w : World} {hB h h' : Heap} {lam : Addr} {T : Int} {fp : List Addr} (c : Clk w hB h lam T fp) (k : ∀ b ∈ fp, ∀ o, h.get? b = some o → h'.get? b = some o) : Clk w hB h' lam T fp :=
  fun s A E Q R S e q => c s A E Q R S (fun b hb o ho => e b hb o (k b hb o ho)) q

structure SA where
  st : Addr
  dst : Addr
  lam : Addr
  dS : Addr
  dX : Addr
  dE : Addr
  t1 : Tok
  t2 : Tok
  t3 : Tok
  t4 : Tok
  n : Nat
  fp : List Addr
abbrev SA.od (w : World) (a : SA) : Obj := dictOf [⟨PyData.keyHash w.params "clock", .str "clock" a.t1, .ref a.lam⟩, ⟨PyData.keyHash w.params "storage", .str "storage" a.t2, .ref a.dS⟩,
  ⟨PyData.keyHash w.params "expirations", .str "expirations" a.t3, .ref a.dX⟩, ⟨PyData.keyHash w.params "events", .str "events" a.t4, .ref a.dE⟩] a.n
structure Sto (w : World) (hB h : Heap) (a : SA) (T : Int) : Prop where
  inst : InstAt h a.st (instObj 691 a.dst) 691 (some (a.od w))
  clk : Clk w hB h a.lam T a.fp
  off : ∀ b ∈ a.st :: a.dst :: a.fp, b ≠ a.dS ∧ b ≠ a.dX ∧ b ≠ a.dE
  ne : a.dS ≠ a.dX ∧ a.dS ≠ a.dE ∧ a.dX ≠ a.dE
  fr : hB.get? a.dS = none ∧ hB.get? a.dX = none ∧ hB.get? a.dE = none
  lo : (a.dS == sysModules) = false ∧ (a.dX == sysModules) = false ∧ (a.dE == sysModules) = false
  fn : FnAt a.lam h
  lamfp : a.lam ∈ a.fp
theorem instAt_on {h h' : Heap} {x C dx : Addr} {od : Obj} (I : InstAt h x (instObj C dx) C (some od)) (k : ∀ b ∈ [x, dx], ∀ o, h.get? b = some o → h'.get? b = some o) : InstAt h' x (instObj C dx) C (some od) :=
  ⟨k x (.head _) _ I.at_, I.cls, I.no, k dx (.tail _ (.head _)) _ I.dict⟩
theorem Sto.on {w : World} {hB h h' : Heap} {a : SA} {T : Int} (S : Sto w hB h a T) (k : ∀ b ∈ a.st :: a.dst :: a.fp, ∀ o, h.get? b = some o → h'.get? b = some o) : Sto w hB h' a T :=
  ⟨instAt_on S.inst fun b hb => k b (by rcases List.mem_cons.mp hb with rfl | hb; exact .head _; exact List.mem_singleton.mp hb ▸ .tail _ (.head _)),
    S.clk.mono fun b hb => k b (.tail _ (.tail _ hb)), S.off, S.ne, S.fr, S.lo, (let ⟨a1, a2, a3, a4, e⟩ := S.fn; ⟨a1, a2, a3, a4, k _ (.tail _ (.tail _ S.lamfp)) _ e⟩), S.lamfp⟩
theorem Sto.sub {w : World} {hB h h' : Heap} {a : SA} {T : Int} (S : Sto w hB h a T) (k : Sub h h') : Sto w hB h' a T := S.on fun b _ o e => k b o e
theorem Sto.chg {w : World} {hB h h' : Heap} {a : SA} {T : Int} {ms : List Addr} (S : Sto w hB h a T) (k : Chg ms h h') (hm : ∀ b ∈ ms, b = a.dS ∨ b = a.dX ∨ b = a.dE) : Sto w hB h' a T :=
  S.on fun b hb o e => k b o e fun q => by
    have := S.off b hb
    rcases hm b q with r | r | r
    · exact this.1 r
    · exact this.2.1 r
    · exact this.2.2 r

noncomputable def AtI (w : World) (h : Heap) (d : Addr) (f : Str → Option Int) (b : Nat) : Prop := ∃ o, h.get? d = some o ∧ IsI w o f b
theorem Fr.chg {g h h' : Heap} {L : Addr} {m : Str → Option Value} {news : List (Addr × Obj)} {ms : List Addr} (F : Fr g L h m) (N : News g L h news) (C : Chg ms h h') (hm : ∀ a ∈ ms, ∃ o, (a, o) ∈ news) : Fr g L h' m := by
  obtain ⟨oL, es, ep, hL, r⟩ := F.ns
  refine ⟨⟨oL, es, ep, C L oL hL fun q => ?_, r⟩, fun b o e => C b o (F.keep b o e) fun q => ?_, F.above⟩
  · obtain ⟨o, ho⟩ := hm L q
    exact (N _ ho).2.1 rfl
  · obtain ⟨o', ho⟩ := hm b q
    have := (N _ ho).2.2
    rw [e] at this
    cases this
theorem News.chg {g h h' : Heap} {L : Addr} {news news' : List (Addr × Obj)} (N : News g L h news) (k : ∀ p ∈ news', h'.get? p.1 = some p.2 ∧ ∃ o, (p.1, o) ∈ news) : News g L h' news' := fun p hp => by
  obtain ⟨a, o, ho⟩ := k p hp
  exact ⟨a, (N _ ho).2⟩
theorem Chg.of {s g h' : Heap} {ms : List Addr} (Hg : ∀ b o, s.get? b = some o → b ∉ ms → g.get? b = some o) {L : Addr} {m : Str → Option Value} (F : Fr g L h' m) : Chg ms s h' := fun b o e n => F.keep b o (Hg b o e n)
theorem inst_sub {g h : Heap} {x C : Addr} {ox : Obj} {od : Option Obj} (I : W.InstAt g x ox C od) (k : Sub g h) : W.InstAt h x ox C od :=
  ⟨k _ _ I.at_, I.cls, I.no, by
    have := I.dict
    revert this
    cases ox.dict <;> cases od <;> intro q <;> first | exact q | exact k _ _ q⟩
theorem inst_fr {g h : Heap} {L x C : Addr} {m : Str → Option Value} {ox : Obj} {od : Option Obj} (I : W.InstAt g x ox C od) (F : Fr g L h m) : W.InstAt h x ox C od :=
  ⟨F.keep _ _ I.at_, I.cls, I.no, by
    have := I.dict
    revert this
    cases ox.dict <;> cases od <;> intro q <;> first | exact q | exact F.keep _ _ q⟩
section
variable {w : World} {A : Around} {E : Value → Shared → Prop} {s : Shared} {Q : Value → Shared → Prop} {hB g : Heap} {L lam : Addr} {m : Str → Option Value} {news : List (Addr × Obj)} {T : Int} {fp : List Addr}
theorem clk_call (c : Clk w hB g lam T fp) (R : Rm A 4) (Sg : Sub hB g) (F : Fr g L s.heap m) (N : News g L s.heap news)
    (h : ∀ h' tk t, Fr g L h' m → News g L h' news → Q (.int T t) { s with heap := h', toks := tk }) : wpAny (model PySem.Challenge.rw_jn0050_01.row.prog w) A (call (.ref lam) [] []) Q E s :=
  c s A E Q R (fun b o e => F.keep b o (Sg b o e)) (fun b _ o e => F.keep b o e) fun h' tk t k =>
    h h' tk t (Fr.chg (ms := []) F N (fun b o e _ => k b o e) (fun _ q => nomatch q)) (fun p hp => ⟨k _ _ (N p hp).1, (N p hp).2⟩)
end
theorem fn_fr {g h : Heap} {L q : Addr} {m : Str → Option Value} (I : FnAt q g) (F : Fr g L h m) : FnAt q h := let ⟨a1, a2, a3, a4, e⟩ := I; ⟨a1, a2, a3, a4, F.keep _ _ e⟩

namespace Ar
section
variable {n m a b c d j : Nat} {x y t k z mu m2 : Int}
theorem n0 (h : b = 2000 * n) (hn : n < 10) : b ≤ 50000 := by omega
theorem n1 (h : b = 2000 * n) (hn : n < 10) (e : c ≤ 30000) : b + c ≤ 50000 := by omega
theorem n2 (h : b = 2000 * n) (hn : n < 10) (e : c + d ≤ 30000) : b + c + d ≤ 50000 := by rw [Nat.add_assoc]; exact n1 h hn e
theorem n3 (h : b = 2000 * n) (hn : n < 10) (e : c + d + a ≤ 30000) : b + c + d + a ≤ 50000 := by rw [Nat.add_assoc b, Nat.add_assoc b]; exact n1 h hn e
theorem n4 (h : b = 2000 * n) (hn : n < 10) (e : c + d + a + m ≤ 30000) : b + c + d + a + m ≤ 50000 := by rw [Nat.add_assoc b, Nat.add_assoc b, Nat.add_assoc b]; exact n1 h hn e
theorem nj (h : b = 2000 * n) (hn : n < 10) (hj : j < 3) : b + 500 + 200 * j ≤ 50000 := n2 h hn (by omega)
theorem nj1 (h : b = 2000 * n) (hn : n < 10) (hj : j < 3) : b + 500 + 200 * j + 60 ≤ 50000 := n3 h hn (by omega)
theorem z0 (h : z = 2000 * (n : Int)) : 0 ≤ z := by omega
theorem z1 (h : z = 2000 * (n : Int)) (e : 0 ≤ x) : 0 ≤ z + x := Int.add_nonneg (z0 h) e
theorem z2 (h : z = 2000 * (n : Int)) (e : 0 ≤ x) (f : 0 ≤ y) : 0 ≤ z + x + y := Int.add_nonneg (z1 h e) f
theorem z3 (h : z = 2000 * (n : Int)) (e : 0 ≤ x) (f : 0 ≤ y) (g : 0 ≤ t) : 0 ≤ z + x + y + t := Int.add_nonneg (z2 h e f) g
theorem zj (h : z = 2000 * (n : Int)) (e : 0 ≤ x) : 0 ≤ z + x + 200 * (j : Int) := Int.add_nonneg (z1 h e) (by omega)
theorem t1 (h : t ≤ 8 + 50 * (n : Int)) (hn : n < 10) (hk : k ≤ 50) : t + k ≤ 1000 := by omega
theorem t2 (h : mu ≤ t) (h2 : 1 ≤ mu ∧ mu ≤ 7) (hk : 0 ≤ k) : 0 ≤ t + k := by omega
theorem t3 (h : mu ≤ t) (hk : 0 ≤ k) : mu ≤ t + k := by omega
theorem t4 (e : mu = m2) (h : mu ≤ t) (hk : 0 ≤ k) : m2 ≤ t + k := e ▸ t3 h hk
theorem t5 (e : mu = m2) (h : mu ≤ t) : m2 ≤ t := e ▸ h
theorem t6 (h : t ≤ 8 + 50 * (n : Int)) (hk : k ≤ 50) : t + k ≤ 8 + 50 * ((n + 1 : Nat) : Int) := by omega
theorem kk5 (h : t ≤ 5 + 10 * (n : Int)) (hn : n < 10) : t + 1 + 1 + 1 + 1 + 1 < 1000 := by omega
theorem kk4 (h : t ≤ 5 + 10 * (n : Int)) (hn : n < 10) : t + 1 + 1 + 1 + 1 < 1000 := Int.lt_trans (Int.lt_succ _) (kk5 h hn)
theorem kk3 (h : t ≤ 5 + 10 * (n : Int)) (hn : n < 10) : t + 1 + 1 + 1 < 1000 := Int.lt_trans (Int.lt_succ _) (kk4 h hn)
theorem kk2 (h : t ≤ 5 + 10 * (n : Int)) (hn : n < 10) : t + 1 + 1 < 1000 := Int.lt_trans (Int.lt_succ _) (kk3 h hn)
theorem kk1 (h : t ≤ 5 + 10 * (n : Int)) (hn : n < 10) : t + 1 < 1000 := Int.lt_trans (Int.lt_succ _) (kk2 h hn)
theorem kk0 (h : t ≤ 5 + 10 * (n : Int)) (hn : n < 10) : t < 1000 := Int.lt_trans (Int.lt_succ _) (kk1 h hn)
theorem kk6 (h : t ≤ 5 + 10 * (n : Int)) : t + 1 + 1 + 1 + 1 + 1 + 1 ≤ 5 + 10 * ((n + 1 : Nat) : Int) := by omega
theorem nn1 (h : 0 ≤ t) : 0 ≤ t + 1 := Int.add_nonneg h (by decide)
theorem nn2 (h : 0 ≤ t) : 0 ≤ t + 1 + 1 := nn1 (nn1 h)
theorem nn3 (h : 0 ≤ t) : 0 ≤ t + 1 + 1 + 1 := nn1 (nn2 h)
theorem nn4 (h : 0 ≤ t) : 0 ≤ t + 1 + 1 + 1 + 1 := nn1 (nn3 h)
theorem nn5 (h : 0 ≤ t) : 0 ≤ t + 1 + 1 + 1 + 1 + 1 := nn1 (nn4 h)
theorem nn6 (h : 0 ≤ t) : 0 ≤ t + 1 + 1 + 1 + 1 + 1 + 1 := nn1 (nn5 h)
theorem ad1 (e : 0 ≤ x) : z ≤ z + x := Int.le_add_of_nonneg_right e
theorem ad4 (e : x + y + t + k ≤ mu) : z + x + y + t + k ≤ z + mu := by omega
theorem ad4' (e : x + y + t + k ≤ mu) : z + x + y + t + k ≤ z + mu + 200 * ((0 : Nat) : Int) := by omega
theorem adj (e : 50 ≤ x) : z + 400 + 200 * (j : Int) + 50 ≤ z + 400 + 200 * ((j + 1 : Nat) : Int) := by omega
theorem adn (h : z = 2000 * (n : Int)) : z + 400 + 200 * ((3 : Nat) : Int) ≤ 2000 * ((n + 1 : Nat) : Int) := by omega
theorem bn3 (h : b = 2000 * n) (e : a ≤ b + 500 + 200 * 3) : a ≤ 2000 * (n + 1) := by omega
theorem bn0 (h : b = 2000 * n) (e : a ≤ b + 300 + 60 + 60 + 60) : a ≤ b + 500 + 200 * 0 := by omega
theorem bnj (e : a ≤ b + 500 + 200 * j + 120) : a ≤ b + 500 + 200 * (j + 1) := by omega
theorem d64 (hn : n < 10) (h : z = 2000 * (n : Int)) (hj : j < 3) (e : x ≤ z + 400 + 200 * (j : Int) + 1) : x < 2 ^ 64 := by omega
theorem l64 (h : 0 ≤ x) : -2 ^ 64 < x := by omega
theorem j0 : (0 : Int) ≤ (j : Int) := Int.natCast_nonneg j
theorem j3 (h : j < 3) : (j : Int) < 3 := Int.ofNat_lt.mpr h
theorem len63 (h : ¬ (63 : Int) < (n : Int)) : n ≤ 63 := by omega
theorem len63' (h : ¬ ((63 : Nat) : Int) < (n : Int)) : n ≤ 63 := by omega
theorem m2t (h : 1 ≤ mu ∧ mu ≤ 7) : 0 ≤ 2 * mu := by omega
theorem m2u (h : 1 ≤ mu ∧ mu ≤ 7) : 2 * mu ≤ 50 := by omega
theorem mp (h : 1 ≤ mu ∧ mu ≤ 7) : 0 < mu := by omega
theorem mp0 (h : 1 ≤ mu ∧ mu ≤ 7) : 0 ≤ mu := Int.le_of_lt (mp h)
theorem mm (h : 1 ≤ mu ∧ mu ≤ 7) : 0 ≤ mu - 1 := by omega
theorem mm2 (h : 1 ≤ mu ∧ mu ≤ 7) : mu - 1 ≤ 50 := by omega
theorem bisA (h : a - b ≤ c + 1) (h2 : b < a) : a - ((b + a) / 2 + 1) ≤ c := by omega
theorem bisB (h : a - b ≤ c + 1) (h2 : b < a) : (b + a) / 2 - b ≤ c := by omega
theorem bisC (h : a - b ≤ 0) (h2 : b < a) : False := by omega
theorem mid (h : a < b) : (a + b) / 2 < b := by omega
theorem mid0 (h : a < b) : a ≤ (a + b) / 2 := by omega
theorem mid1 (h : a < b) : (a + b) / 2 + 1 ≤ b := mid h
theorem nabs (h : 0 ≤ x) (h1 : x ≤ y) (e : y.toNat < c) : x.natAbs < c := by omega
theorem nabs' (h : 0 < x) (h1 : x ≤ y) (e : y.toNat < c) : x.natAbs < c := by omega
theorem tn (h1 : x ≤ y) (e : y.toNat ≤ c) : x.toNat ≤ c := by omega
theorem tnp (h1 : x ≤ y) (h2 : a ≤ b) (e : y.toNat + b ≤ c) : x.toNat + a ≤ c := by omega
theorem up1920 (h : x.natAbs < 1000000000) : x < 2 ^ 1920 := by omega
theorem lo1920 (h : x.natAbs < 1000000000) : -2 ^ 1920 < x := by omega
theorem up1920' (h : x ≤ 1000) : x < 2 ^ 1920 := by omega
theorem lo1920' (h : 0 ≤ x) : -2 ^ 1920 < x := by omega
theorem u900 (h : n + 8 < 900) : n + 1 + 6 < 900 := Nat.lt_of_le_of_lt (Nat.le_succ _) h
theorem u9000 (h : n + 20 * 8 < 9000) (e : c ≤ 40) : n + c + 120 < 9000 := by omega
theorem dv (h : x ≤ y) : 0 ≤ y - x := Int.sub_nonneg_of_le h
theorem m60 (h : 0 < x) : 0 ≤ 60 * x := by omega
theorem sc1 : 60 * x + y + 60 * z = 60 * (x + z) + y := by omega
theorem sc2 : 60 * x + y + 60 * z = 60 * (x + z) + y * 1 := by omega
theorem sc3 : 60 * x + y = 60 * x + y * 1 := by omega
theorem leN (h1 : a = b) (h : a ≤ c) (e : c ≤ d) : b ≤ d := h1 ▸ Nat.le_trans h e
theorem leN' (h1 : b = a) (h : a ≤ c) (e : c ≤ d) : b ≤ d := h1 ▸ Nat.le_trans h e
theorem lt63 (h : a ≤ c) (e : (c : Int) < k) : (a : Int) < k := Int.lt_of_le_of_lt (Int.ofNat_le.mpr h) e
end
section
variable {d : Nat}
theorem kzA1 {x a m s z c : Nat} (h : z ≤ x + (a + (m + (s + 0))) + (0 + 1 + 1 + 1) * 1) (hx : x ≤ 1000) (ha : a ≤ 10) (hm : m ≤ 10) (hs : s ≤ 10) (e : 1033 ≤ c) : z ≤ c := by omega
theorem kzA2 {x y a m s z c : Nat} (h : z ≤ x + (y + (a + (m + (s + 0)))) + (0 + 1 + 1 + 1 + 1) * 1) (hx : x ≤ 1000) (hy : y ≤ 1000) (ha : a ≤ 10) (hm : m ≤ 10) (hs : s ≤ 10) (e : 2034 ≤ c) : z ≤ c := by omega
theorem kzn {n z c : Nat} (hn : n ≤ 1000) (h : z ≤ c) (e : 1001 + c ≤ d) : 0 + n + 1 + z ≤ d := by omega
theorem kzB1 {x a m s z n : Nat} (h : z ≤ x + (a + (m + (s + 0))) + (0 + 1 + 1 + 1) * 1) (hx : x ≤ 1000) (ha : a ≤ 10) (hm : m ≤ 10) (hs : s ≤ 10) (hn : n ≤ 1000) : 0 + n + 1 + z ≤ 10000 := kzn hn (kzA1 h hx ha hm hs (Nat.le_refl _)) (by decide)
theorem kzB2 {x y a m s z n : Nat} (h : z ≤ x + (y + (a + (m + (s + 0)))) + (0 + 1 + 1 + 1 + 1) * 1) (hx : x ≤ 1000) (hy : y ≤ 1000) (ha : a ≤ 10) (hm : m ≤ 10) (hs : s ≤ 10) (hn : n ≤ 1000) : 0 + n + 1 + z ≤ 10000 := kzn hn (kzA2 h hx hy ha hm hs (Nat.le_refl _)) (by decide)
theorem kzC1 {x a m s : Nat} (hx : x ≤ 1000) (ha : a ≤ 10) (hm : m ≤ 10) (hs : s ≤ 10) : x + (a + (m + (s + 0))) + (0 + 1 + 1 + 1 + 1) ≤ 1048576 := by omega
theorem kzC2 {x y a m s : Nat} (hx : x ≤ 1000) (hy : y ≤ 1000) (ha : a ≤ 10) (hm : m ≤ 10) (hs : s ≤ 10) : x + (y + (a + (m + (s + 0)))) + (0 + 1 + 1 + 1 + 1 + 1) ≤ 1048576 := by omega
theorem kzE {n l v k c : Nat} (h : v ≤ n + l ∧ n + l ≤ v) (hl : l = 1) (hn : n ≤ k) (e : k + 1 ≤ c) : v ≤ c := by omega
theorem kzD {n l v z w k t c : Nat} (h2 : w ≤ v + z ∧ v + z ≤ w) (h : v ≤ n + l ∧ n + l ≤ v) (hl : l = 1) (hn : n ≤ k) (hz : z ≤ t) (e : k + 1 + t ≤ c) : w ≤ c := by omega
theorem kzD1 {x a m s n l v z w : Nat} (h2 : w ≤ v + z ∧ v + z ≤ w) (h1 : v ≤ n + l ∧ n + l ≤ v) (hl : l = 1) (hn : n ≤ 1000) (h : z ≤ x + (a + (m + (s + 0))) + (0 + 1 + 1 + 1) * 1) (hx : x ≤ 1000) (ha : a ≤ 10) (hm : m ≤ 10) (hs : s ≤ 10) : w ≤ 16777216 := kzD h2 h1 hl hn (kzA1 h hx ha hm hs (Nat.le_refl _)) (by decide)
theorem kzD2 {x y a m s n l v z w : Nat} (h2 : w ≤ v + z ∧ v + z ≤ w) (h1 : v ≤ n + l ∧ n + l ≤ v) (hl : l = 1) (hn : n ≤ 1000) (h : z ≤ x + (y + (a + (m + (s + 0)))) + (0 + 1 + 1 + 1 + 1) * 1) (hx : x ≤ 1000) (hy : y ≤ 1000) (ha : a ≤ 10) (hm : m ≤ 10) (hs : s ≤ 10) : w ≤ 16777216 := kzD h2 h1 hl hn (kzA2 h hx hy ha hm hs (Nat.le_refl _)) (by decide)
theorem z0n {n k c : Nat} (hn : n ≤ k) (e : k ≤ c) : 0 + n ≤ c := by rw [Nat.zero_add]; exact Nat.le_trans hn e
theorem bisD {a b : Nat} (h : b < a) : a - ((b + a) / 2 + 1) < a - b := by omega
theorem bisE {a b : Nat} (h : b < a) : (b + a) / 2 - b < a - b := by omega
theorem bisF {a b : Nat} (h : b < a) : a - ((b + a) / 2 + 1) ≤ a - b - 1 := Nat.le_sub_one_of_lt (bisD h)
theorem bisG {a b : Nat} (h : b < a) : (b + a) / 2 - b ≤ a - b - 1 := Nat.le_sub_one_of_lt (bisE h)
theorem tn1 {n : Nat} : ((n : Int) - 1).toNat = n - 1 := by omega
theorem ltv {a b c : Nat} (h : a ≤ b) (h2 : b ≤ c) {k : Int} (e : (c : Int) < k) : (a : Int) - 1 < k := by omega
theorem bdd {x y z : Int} (h : 0 ≤ x ∧ x ≤ 50) (h2 : 0 ≤ y ∧ y ≤ z) : y + x ≤ z + 50 := by omega
end
end Ar
noncomputable def SegOn : Prop := True
theorem seg_let {α : Type} {M : Model} {A : Around} {E : Value → Shared → Prop} {s s0 : Shared} {g : Heap} {L : Addr} {t : Sem α} {Q : α → Shared → Prop} {m : Str → Option Value} {news : List (Addr × Obj)} (F : Fr g L s.heap m) (N : News g L s.heap news)
    (hs : s = { s0 with heap := s.heap, toks := s.toks }) (h : let A' := A; let m' := m; let n' := news; let Q' := Q; ∀ hp tk, Fr g L hp m' → News g L hp n' → wpAny M A' t Q' E { s0 with heap := hp, toks := tk }) : wpAny M A t Q E s := by
  rw [hs]
  exact h _ _ F N
theorem seg_q {α : Type} {M : Model} {A : Around} {E : Value → Shared → Prop} {s s0 : Shared} {g hp : Heap} {L : Addr} {t : Sem α} {Q : α → Shared → Prop} {m : Str → Option Value} (_F : Fr g L hp m)
    (hs : s = { s0 with heap := hp, toks := s.toks }) (h : let A' := A; let Q' := Q; ∀ tk, wpAny M A' t Q' E { s0 with heap := hp, toks := tk }) : wpAny M A t Q E s := by
  rw [hs]
  exact h _
theorem keep {P : Prop} (h : P) : P := h
theorem cu_type (a : Args) : (Code.builtin "type.__call__" a).cUnits ≤ 4 := by
  show 1 + 3 * (Code.frames (.builtin "type.__call__" a)) ≤ 4
  have : Code.frames (.builtin "type.__call__" a) = (if (Code.builtin "type.__call__" a).isFrame then 1 else 0) := by with_unfolding_all rfl
  rw [this]
  split <;> decide
theorem cu_room {n u m k : Nat} (h : n + 20 * m < 9000) (hu : u ≤ 4) (e : 4 + 20 * k ≤ 20 * m) : n + u + 20 * k < 9000 := by omega
section
local macro_rules | `(tactic| omega) => `(tactic| k_extra "ar")
local macro_rules | `(tactic| k_lt $h:ident) => `(tactic| (replace $h := allLt_of $h; dsimp +zetaDelta only [AllLt] at $h:ident))
theorem reg_ar : True := by
  (k_with "cj" => (with_reducible first | assumption | exact (And.left (by assumption)) | exact (And.left (And.right (by assumption))) | exact (And.right (by assumption)) | exact (And.left (And.right (And.right (by assumption)))) | exact (And.right (And.right (by assumption))) | exact (And.left (And.right (And.right (And.right (by assumption))))) | exact (And.right (And.right (And.right (by assumption)))) | exact (And.left (And.right (And.right (And.right (And.right (by assumption)))))) | exact (And.right (And.right (And.right (And.right (by assumption))))) | exact (And.left (And.right (And.right (And.right (And.right (And.right (by assumption))))))) | exact (And.right (And.right (And.right (And.right (And.right (by assumption)))))) | exact (And.left (And.right (And.right (And.right (And.right (And.right (And.right (by assumption)))))))) | exact (And.right (And.right (And.right (And.right (And.right (And.right (by assumption))))))) | exact (And.left (And.right (And.right (And.right (And.right (And.right (And.right (And.right (by assumption))))))))) | exact (And.right (And.right (And.right (And.right (And.right (And.right (And.right (by assumption)))))))) | exact (And.left (And.right (And.right (And.right (And.right (And.right (And.right (And.right (And.right (by assumption)))))))))) | exact (And.right (And.right (And.right (And.right (And.right (And.right (And.right (And.right (by assumption))))))))) | exact (And.left (And.right (And.right (And.right (And.right (And.right (And.right (And.right (And.right (And.right (by assumption))))))))))) | exact (And.right (And.right (And.right (And.right (And.right (And.right (And.right (And.right (And.right (by assumption)))))))))) | exact (And.left (And.right (And.right (And.right (And.right (And.right (And.right (And.right (And.right (And.right (And.right (by assumption)))))))))))) | exact (And.right (And.right (And.right (And.right (And.right (And.right (And.right (And.right (And.right (And.right (by assumption))))))))))) | exact (And.left (And.right (And.right (And.right (And.right (And.right (And.right (And.right (And.right (And.right (And.right (And.right (by assumption))))))))))))) | exact (And.right (And.right (And.right (And.right (And.right (And.right (And.right (And.right (And.right (And.right (And.right (by assumption)))))))))))) | exact (And.left (And.right (And.right (And.right (And.right (And.right (And.right (And.right (And.right (And.right (And.right (And.right (And.right (by assumption)))))))))))))) | exact (And.right (And.right (And.right (And.right (And.right (And.right (And.right (And.right (And.right (And.right (And.right (And.right (by assumption))))))))))))) | exact (And.left (And.right (And.right (And.right (And.right (And.right (And.right (And.right (And.right (And.right (And.right (And.right (And.right (And.right (by assumption))))))))))))))) | exact (And.right (And.right (And.right (And.right (And.right (And.right (And.right (And.right (And.right (And.right (And.right (And.right (And.right (by assumption)))))))))))))) | exact (And.left (And.right (And.right (And.right (And.right (And.right (And.right (And.right (And.right (And.right (And.right (And.right (And.right (And.right (And.right (by assumption)))))))))))))))) | exact (And.right (And.right (And.right (And.right (And.right (And.right (And.right (And.right (And.right (And.right (And.right (And.right (And.right (And.right (by assumption))))))))))))))) | exact (And.left (And.right (And.right (And.right (And.right (And.right (And.right (And.right (And.right (And.right (And.right (And.right (And.right (And.right (And.right (And.right (by assumption))))))))))))))))) | exact (And.right (And.right (And.right (And.right (And.right (And.right (And.right (And.right (And.right (And.right (And.right (And.right (And.right (And.right (And.right (by assumption)))))))))))))))) | fail "ar"))
  (k_with "ne" => (with_reducible first | with_reducible assumption | exact Ne.symm (by assumption) | exact Nat.ne_of_gt (by k_extra "cj") | exact Nat.ne_of_lt (by k_extra "cj") | k_extra "cj" | exact Ne.symm (by k_extra "cj") | (refine' Nat.ne_of_gt (Nat.lt_trans ?ar1 ?ar2); (case ar2 => with_reducible assumption); (case ar1 => k_extra "cj")) | (refine' Nat.ne_of_lt (Nat.lt_trans ?ar1 ?ar2); (case ar2 => with_reducible assumption); (case ar1 => k_extra "cj")) | fail "ar"))
  (k_with "nle" => (with_reducible first | with_reducible assumption | decide +kernel | exact Nat.le_add_right _ _ | exact Nat.le_trans (by assumption) (by decide +kernel) | exact Nat.le_of_lt (by assumption) | exact Nat.le_trans (Nat.le_of_lt (by assumption)) (by decide +kernel) | exact Ar.n0 (by assumption) (by assumption) | exact Ar.n1 (by assumption) (by assumption) (by decide +kernel) | exact Ar.n2 (by assumption) (by assumption) (by decide +kernel) | exact Ar.n3 (by assumption) (by assumption) (by decide +kernel) | exact Ar.n4 (by assumption) (by assumption) (by decide +kernel) | exact Ar.nj (by assumption) (by assumption) (by assumption) | exact Ar.nj1 (by assumption) (by assumption) (by assumption) | exact Ar.bn3 (by assumption) (by assumption) | exact Ar.bn0 (by assumption) (by assumption) | exact Ar.bnj (by assumption) | exact Ar.kzA1 (by assumption) (by assumption) (by assumption) (by assumption) (by assumption) (by decide +kernel) | exact Ar.kzA2 (by assumption) (by assumption) (by assumption) (by assumption) (by assumption) (by assumption) (by decide +kernel) | exact Ar.kzB1 (by assumption) (by assumption) (by assumption) (by assumption) (by assumption) (by assumption) | exact Ar.kzB2 (by assumption) (by assumption) (by assumption) (by assumption) (by assumption) (by assumption) (by assumption) | exact Ar.kzC1 (by assumption) (by assumption) (by assumption) (by assumption) | exact Ar.kzC2 (by assumption) (by assumption) (by assumption) (by assumption) (by assumption) | exact Ar.kzE (by assumption) (by assumption) (by assumption) (by decide +kernel) | exact Ar.kzD1 (by assumption) (by assumption) (by assumption) (by assumption) (by assumption) (by assumption) (by assumption) (by assumption) (by assumption) | exact Ar.kzD2 (by assumption) (by assumption) (by assumption) (by assumption) (by assumption) (by assumption) (by assumption) (by assumption) (by assumption) (by assumption) | exact Ar.kzD (by assumption) (by assumption) (by assumption) (by assumption) (by assumption) (by decide +kernel) | exact Ar.z0n (by assumption) (by decide +kernel) | exact Ar.bisF (by assumption) | exact Ar.bisG (by assumption) | exact Ar.bisA (by assumption) (by assumption) | exact Ar.bisB (by assumption) (by assumption) | exact Ar.mid1 (by assumption) | exact Ar.mid0 (by assumption) | exact Ar.len63 (by assumption) | exact Ar.len63' (by assumption) | exact Ar.tn (by assumption) (by decide +kernel) | exact Ar.tnp (by assumption) (by assumption) (by decide +kernel) | exact Ar.leN (by assumption) (by assumption) (by decide +kernel) | exact Ar.leN' (by assumption) (by assumption) (by decide +kernel) | k_extra "cj" | fail "ar"))
  (k_with "nlt" => (with_reducible first | with_reducible assumption | decide +kernel | exact Nat.lt_of_le_of_lt (by assumption) (by decide +kernel) | exact Nat.lt_of_lt_of_le (by assumption) (by decide +kernel) | exact Ar.bisD (by assumption) | exact Ar.bisE (by assumption) | exact Ar.nabs (by assumption) (by assumption) (by decide +kernel) | exact Ar.nabs' (by assumption) (by assumption) (by decide +kernel) | exact Ar.mid (by assumption) | exact Ar.u900 (by assumption) | exact Ar.u9000 (by assumption) (by decide +kernel) | k_extra "cj" | fail "ar"))
  (k_with "ile" => (with_reducible first | with_reducible assumption | decide +kernel | exact Int.le_trans (by assumption) (by decide +kernel) | exact Int.le_of_lt (by assumption) | exact Int.le_trans (by decide +kernel) (by assumption) | exact Ar.nn1 (by assumption) | exact Ar.nn2 (by assumption) | exact Ar.nn3 (by assumption) | exact Ar.nn4 (by assumption) | exact Ar.nn5 (by assumption) | exact Ar.nn6 (by assumption) | exact Ar.t1 (by assumption) (by assumption) (by assumption) | exact Ar.t3 (by assumption) (by assumption) | exact Ar.t2 (by assumption) (by k_extra "cj") (by assumption) | exact Ar.t4 (by assumption) (by assumption) (by assumption) | exact Ar.t5 (by assumption) (by assumption) | exact Ar.t6 (by assumption) (by assumption) | exact Ar.kk6 (by assumption) | exact Ar.z0 (by assumption) | exact Ar.z1 (by assumption) (by decide +kernel) | exact Ar.z2 (by assumption) (by decide +kernel) (by decide +kernel) | exact Ar.z3 (by assumption) (by decide +kernel) (by decide +kernel) (by decide +kernel) | exact Ar.zj (by assumption) (by decide +kernel) | exact Ar.ad1 (by decide +kernel) | exact Ar.ad4 (by decide +kernel) | exact Ar.ad4' (by decide +kernel) | exact Ar.adj (by decide +kernel) | exact Ar.adn (by assumption) | exact Ar.j0 | exact Ar.m2t (by k_extra "cj") | exact Ar.m2u (by k_extra "cj") | exact Ar.mm (by k_extra "cj") | exact Ar.mm2 (by k_extra "cj") | exact Ar.dv (by assumption) | exact Ar.m60 (by assumption) | k_extra "cj" | exact Int.le_trans (by k_extra "cj") (by decide +kernel) | exact Ar.mp0 (by k_extra "cj") | fail "ar"))
  (k_with "ilt" => (with_reducible first | with_reducible assumption | decide +kernel | exact Int.lt_of_le_of_lt (by assumption) (by decide +kernel) | exact Int.lt_of_lt_of_le (by assumption) (by decide +kernel) | exact Int.lt_of_lt_of_le (by decide +kernel) (by assumption) | exact Ar.kk0 (by assumption) (by assumption) | exact Ar.kk1 (by assumption) (by assumption) | exact Ar.kk2 (by assumption) (by assumption) | exact Ar.kk3 (by assumption) (by assumption) | exact Ar.kk4 (by assumption) (by assumption) | exact Ar.kk5 (by assumption) (by assumption) | exact Ar.d64 (by assumption) (by assumption) (by assumption) (by assumption) | exact Ar.l64 (by assumption) | exact Ar.j3 (by assumption) | exact Ar.mp (by k_extra "cj") | exact Ar.up1920 (by assumption) | exact Ar.lo1920 (by assumption) | exact Ar.up1920' (by assumption) | exact Ar.lo1920' (by assumption) | exact Ar.ltv (by assumption) (by assumption) (by decide +kernel) | exact Ar.lt63 (by assumption) (by decide +kernel) | k_extra "cj" | fail "ar"))
  (k_with "ar" => (with_reducible (k_whole; first | ((show @Ne Nat _ _); k_extra "ne") | ((show @LE.le Nat _ _ _); k_extra "nle") | ((show @LT.lt Nat _ _ _); k_extra "nlt") | ((show @LE.le Int _ _ _); k_extra "ile") | ((show @LT.lt Int _ _ _); k_extra "ilt") | ((show False); exact Ar.bisC (by assumption) (by assumption)) | ((show @Eq Nat _ _); first | with_reducible assumption | exact Ar.tn1) | ((show @Eq Int _ _); first | with_reducible assumption | exact Ar.sc1 | exact Ar.sc2 | exact Ar.sc3) | fail "ar")))
  trivial

local macro_rules | `(tactic| walk_at $s:str) => `(tactic| k_extra $s)
local macro_rules | `(tactic| k_all) => `(tactic| k_extra "k_all")
local macro_rules | `(tactic| k_updF) => `(tactic| k_extra "k_updF")
local macro_rules | `(tactic| k_upd) => `(tactic| k_extra "k_upd")
local macro_rules | `(tactic| k_inst) => `(tactic| k_extra "k_inst")
theorem reg_mac : True := by
  (k_with "k_inst" => (exact inst_fr (by assumption) (by assumption)))
  (k_with "getMethod ref" => ((k_dflt (first
  | (refine' method_inst ?k1z1mac ?k2z1mac ?k3z1mac ?k4z1mac ?k5z1mac ?k6z1mac ?k7z1mac ?_; (case k3z1mac => k_inst); (case k1z1mac => k_asm); (case k2z1mac => k_asm); (case k4z1mac => k_is); (case k5z1mac => k_is); (case k6z1mac => k_is); (case k7z1mac => k_get))
  | (refine' kmu_own ?k1z1mac ?k2z1mac ?k3z1mac ?k4z1mac ?k5z1mac ?_; (case k3z1mac => k_inst); (case k1z1mac => k_asm); (case k2z1mac => k_asm); (case k4z1mac => k_is); (case k5z1mac => k_is))
  | (refine' kmu_cm ?k1z1mac ?k2z1mac ?k3z1mac ?k4z1mac ?k5z1mac ?k6z1mac ?k7z1mac ?k8z1mac ?k9z1mac ?k10z1mac ?k11z1mac ?k12z1mac ?k13z1mac ?_; (case k4z1mac => k_inst); (case k1z1mac => k_asm); (case k2z1mac => k_asm); (case k3z1mac => k_asm); (case k5z1mac => k_is); (case k6z1mac => k_is); (case k7z1mac => k_is); (case k8z1mac => k_is); (case k9z1mac => k_is); (case k10z1mac => k_is); (case k11z1mac => decide +kernel); (case k12z1mac => k_get); (case k13z1mac => k_is); intro q'z1mac h'z1mac F'z1mac N'z1mac l1z1mac; (try k_lt l1z1mac))
  | refine I_meth PySem.F.slot_dict_get PySem.F.type_dict_get (by k_asm) (by k_mem) (by assumption) ?_
  | refine I_meth PySem.F.slot_dict_pop PySem.F.type_dict_pop (by k_asm) (by k_mem) (by assumption) ?_))))
  (k_with "call builtin:dict.get" => ((k_dflt (refine I_get (by k_asm) (by k_mem) (by assumption) (by assumption) ?_); intro t'z2mac)))
  (k_with "call builtin:dict.pop" => ((k_dflt (refine' I_pop ?Fz3mac ?Nz3mac ?Uz3mac ?dz3mac ?lz3mac ?bz3mac ?_; (case Fz3mac => k_asm); (case Nz3mac => k_asm); (case Uz3mac => k_updF); (case dz3mac => assumption); (case lz3mac => assumption); (case bz3mac => omega)); intro h'z3mac o'z3mac v'z3mac F'z3mac N'z3mac d'z3mac; (try dsimp only at N'z3mac))))
  (k_with "callWith ref" => ((k_dflt (first
  | (refine' callWith_M ?k1z4mac ?k2z4mac ?k3z4mac ?k4z4mac ?_; (case k1z4mac => k_asm); (case k2z4mac => k_asm); (case k3z4mac => k_mem); (case k4z4mac => k_is))
  | (refine' callWith_F ?k1z4mac ?_; (case k1z4mac => exact fn_fr (by assumption) (by assumption)))
  | (refine' callWith_F0 ?k1z4mac ?_; (case k1z4mac => exact fn_fr (by assumption) (by assumption)); try dsimp only [List.nil_append, List.cons_append])
  | (refine' callWith_K ?k1z4mac ?k2z4mac ?_; (case k1z4mac => k_asm); (case k2z4mac => k_is))
  | (refine' callWith_K0 ?k1z4mac ?k2z4mac ?_; (case k1z4mac => k_in); (case k2z4mac => k_is))))))
  (k_with "call ref" => ((refine' clk_call ?k1z5mac ?k2z5mac ?k3z5mac ?k4z5mac ?k5z5mac ?_; (case k1z5mac => assumption); (case k2z5mac => exact Rm.mono (Rm.deeper _ (by assumption)) (by decide)); (case k3z5mac => assumption); (case k4z5mac => k_asm); (case k5z5mac => k_asm); intro h'z5mac tk'z5mac t'z5mac F'z5mac N'z5mac)))
  (k_with "eval Name" => ((k_dflt (refine' ld ?k1z6mac ?k2z6mac ?_; (case k1z6mac => k_asm); (case k2z6mac => exact rfl)))))
  (k_with "execs cons" => ((k_dflt (refine' seg_q (s0 := s) ?Fqz7mac ?hsqz7mac ?_; (case Fqz7mac => k_asm); (case hsqz7mac => exact rfl)); intro kqAA kqQQ kqtk; refine wpAny_execs_cons ?_)))
  (k_with "execs cons" => (((with_reducible rename SegOn => kqOn); k_dflt (refine' seg_let (s0 := s) ?Fqz8mac ?Nqz8mac ?hsqz8mac ?_; (case Fqz8mac => k_asm); (case Nqz8mac => k_asm); (case hsqz8mac => exact rfl)); intro kqAA kqmm kqnn kqQQ kqhp kqtk kqFF kqNN; refine wpAny_execs_cons ?_)))
  trivial
section
theorem put_self {α : Type} (f : Str → Option α) (k : Str) (a : α) : put f k a k = some a := if_pos rfl
noncomputable def getX (T : Int) (ex : Str → Option Int) (k : Str) : Str → Option Int := if (ex k).getD 0 ≤ T then del ex k else ex
noncomputable def getC (T : Int) (ex cnt : Str → Option Int) (k : Str) : Str → Option Int := if (ex k).getD 0 ≤ T then del cnt k else cnt
theorem AtI.of {w : World} {g h : Heap} {L d : Addr} {news : List (Addr × Obj)} {o : Obj} {f : Str → Option Int} {b : Nat} (N : News g L h news) (hm : (d, o) ∈ news) (hi : IsI w o f b) : AtI w h d f b := ⟨o, (N _ hm).1, hi⟩
theorem UpdF.has {d : Addr} {o : Obj} {l : List (Addr × Obj)} {g : Obj → List (Addr × Obj)} (U : UpdF d o l g) : (d, o) ∈ l := by
  obtain ⟨pre, post, rfl, _⟩ := U.split
  exact List.mem_append_right _ (.head _)
theorem UpdF.mem {d : Addr} {o : Obj} {l : List (Addr × Obj)} {g : Obj → List (Addr × Obj)} (U : UpdF d o l g) (o' : Obj) {p : Addr × Obj} (hp : p ∈ g o') : p = (d, o') ∨ (p ∈ l ∧ p.1 ≠ d) := by
  obtain ⟨pre, post, rfl, e, a, b⟩ := U.split
  rw [e] at hp
  rcases List.mem_append.mp hp with hp | hp
  · exact .inr ⟨List.mem_append_left _ hp, a p hp⟩
  · rcases List.mem_cons.mp hp with rfl | hp
    · exact .inl rfl
    · exact .inr ⟨List.mem_append_right _ (.tail _ hp), b p hp⟩
theorem News.one {g h h' : Heap} {L d1 : Addr} {o1 o1' : Obj} {news : List (Addr × Obj)} {g1 : Obj → List (Addr × Obj)} (N : News g L h news) (U1 : UpdF d1 o1 news g1) (C : Chg [d1] h h') (e1 : h'.get? d1 = some o1') : News g L h' (g1 o1') := fun p hp => by
  rcases UpdF.mem U1 _ hp with rfl | ⟨hp, n1⟩
  · exact ⟨e1, (N _ (UpdF.has U1)).2⟩
  · exact ⟨C _ _ (N p hp).1 (by simp [n1]), (N p hp).2⟩
theorem News.two {g h h' : Heap} {L d1 d2 : Addr} {o1 o2 o1' o2' : Obj} {news : List (Addr × Obj)} {g1 : Obj → List (Addr × Obj)} {g2 : Obj → Obj → List (Addr × Obj)} (N : News g L h news) (U1 : UpdF d1 o1 news g1) (U2 : ∀ o, UpdF d2 o2 (g1 o) (g2 o))
    (C : Chg [d1, d2] h h') (e1 : h'.get? d1 = some o1') (e2 : h'.get? d2 = some o2') : News g L h' (g2 o1' o2') := fun p hp => by
  rcases UpdF.mem (U2 o1') _ hp with rfl | ⟨hp, n2⟩
  · refine ⟨e2, ?_⟩
    rcases UpdF.mem U1 _ (UpdF.has (U2 o1)) with e | ⟨q, _⟩
    · cases e; exact (N _ (UpdF.has U1)).2
    · exact (N _ q).2
  · rcases UpdF.mem U1 _ hp with rfl | ⟨hp, n1⟩
    · exact ⟨e1, (N _ (UpdF.has U1)).2⟩
    · exact ⟨C _ _ (N p hp).1 (by simp [n1, n2]), (N p hp).2⟩
theorem Sto.hide {w : World} {hB h g : Heap} {a : SA} {T : Int} {ms : List Addr} (S : Sto w hB h a T) (Hg : ∀ b o, h.get? b = some o → b ∉ ms → g.get? b = some o) (hm : ∀ b ∈ ms, b = a.dS ∨ b = a.dX ∨ b = a.dE) : Sto w hB g a T := S.chg Hg hm
section
variable {w : World} {A : Around} {E : Value → Shared → Prop} {s : Shared} {Q : Value → Shared → Prop} {hB : Heap}
theorem c_get {a : SA} {T : Int} {key : Str} {tk : Tok} {cnt ex : Str → Option Int} {b c : Nat} (R : Rm A 6) (G : Gd w hB) (kS : Sub hB s.heap)
  (S : Sto w hB s.heap a T) (hS : AtI w s.heap a.dS cnt b) (hX : AtI w s.heap a.dX ex c) (hb : b ≤ 1000000) (hc : c ≤ 1000000)
  (h : ∀ h' tk' t', Chg [a.dS, a.dX] s.heap h' → AtI w h' a.dS (getC T ex cnt key) b → AtI w h' a.dX (getX T ex key) c →
    Q (.int ((getC T ex cnt key key).getD 0) t') {s with heap := h', toks := tk'}) :
  wpAny (model PySem.Challenge.rw_jn0050_01.row.prog w) A (call (.ref 616) [.ref a.st, .str key tk] []) Q E s := by
  obtain ⟨oS, hS0, hS⟩ := hS
  obtain ⟨oX, hX0, hX⟩ := hX
  obtain ⟨ha, da, fa, ga, ua⟩ := A
  have hha := R.hd
  dsimp only at hha
  subst hha
  refine' enter (binds := [(Str.ofString "self", .ref a.st), (Str.ofString "key", .str key tk)]) (mods := [(a.dS, oS), (a.dX, oX)]) R G kS ?M ?ho ?hcd ?hb ?hl ?_ ?c2 ?c3 ?c4 ?c5
  case M => exact List.forall_mem_cons.mpr ⟨⟨hS0, S.fr.1⟩, List.forall_mem_cons.mpr ⟨⟨hX0, S.fr.2.1⟩, List.forall_mem_nil _⟩⟩
  case ho => k_is
  case hcd => k_is
  case hb => first | exact BindsTo.of_eq rfl | exact binds_K (G.X.keeps kS) rfl (by k_is) rfl rfl rfl | (rcases (by assumption : KwC _ _ _ _) with rfl | ⟨rfl, rfl, rfl⟩ <;> first | exact BindsTo.of_eq rfl | exact binds_K (G.X.keeps kS) rfl (by k_is) rfl rfl rfl)
  case hl => exact locs rfl
  case c2 => exact rfl
  case c3 => exact rfl
  case c4 => exact rfl
  case c5 => decide
  intro g L h₁ Hg Sg F N X ⟨p, loose, mean, mg, mb, T0⟩ l1
  have Sg' : Sto w hB g a T := S.hide Hg (by simp)
  obtain ⟨I, C, -, ⟨ne1, -, -⟩, -, ⟨lo1, lo2, -⟩, fnl, -⟩ := Sg'
  replace ne1 := neN ne1
  clear S G kS hS0 hX0
  (try dsimp only)
  k_steps
  · have e1 : getC T ex cnt key = del cnt key := if_pos ‹(ex key).getD 0 ≤ T›
    have e2 : getX T ex key = del ex key := if_pos ‹(ex key).getD 0 ≤ T›
    rw [e1, e2] at h
    exact h _ _ _ (Chg.of Hg (by k_asm)) (AtI.of (by k_asm) (by k_mem) (by k_asm)) (AtI.of (by k_asm) (by k_mem) (by k_asm))
  · have e1 : getC T ex cnt key = cnt := if_neg ‹¬ (ex key).getD 0 ≤ T›
    have e2 : getX T ex key = ex := if_neg ‹¬ (ex key).getD 0 ≤ T›
    rw [e1, e2] at h
    exact h _ _ _ (Chg.of Hg (by k_asm)) (AtI.of (by k_asm) (by k_mem) (by k_asm)) (AtI.of (by k_asm) (by k_mem) (by k_asm))

theorem u_get {a : SA} {T : Int} {key : Str} {tk : Tok} {cnt ex : Str → Option Int} {b c : Nat} {g : Heap} {L : Addr} {m : Str → Option Value} {news : List (Addr × Obj)} {oS oX : Obj} {g1 : Obj → List (Addr × Obj)} {g2 : Obj → Obj → List (Addr × Obj)}
  (R : Rm A 6) (G : Gd w hB) (Sg : Sub hB g) (S : Sto w hB g a T) (F : Fr g L s.heap m) (N : News g L s.heap news) (U1 : UpdF a.dS oS news g1) (hS : IsI w oS cnt b) (U2 : ∀ o, UpdF a.dX oX (g1 o) (g2 o)) (hX : IsI w oX ex c) (hb : b ≤ 1000000) (hc : c ≤ 1000000) (m2 : (a.dX, oX) ∈ news)
  (h : ∀ h' tk' t' oS' oX', Fr g L h' m → News g L h' (g2 oS' oX') → IsI w oS' (getC T ex cnt key) b → IsI w oX' (getX T ex key) c → Q (.int ((getC T ex cnt key key).getD 0) t') {s with heap := h', toks := tk'}) :
  wpAny (model PySem.Challenge.rw_jn0050_01.row.prog w) A (call (.ref 616) [.ref a.st, .str key tk] []) Q E s :=
  c_get R G (fun b o e => F.keep b o (Sg b o e)) (S.sub F.keep) (AtI.of N (UpdF.has U1) hS) (AtI.of N m2 hX) hb hc fun h' tk' t' C hS' hX' => by
    obtain ⟨oS', e1, hS'⟩ := hS'
    obtain ⟨oX', e2, hX'⟩ := hX'
    exact h h' tk' t' oS' oX' (Fr.chg F N C (by
      intro x hx
      rcases List.mem_cons.mp hx with rfl | hx
      · exact ⟨_, UpdF.has U1⟩
      · exact List.mem_singleton.mp hx ▸ ⟨_, m2⟩)) (News.two N U1 U2 C e1 e2) hS' hX'
end

end

theorem reg_G1 : True := by
  (k_with "setItem ref str" => ((k_dflt (refine' I_set ?Fz0G1 ?Nz0G1 ?Uz0G1 ?dz0G1 ?bz0G1 ?_; (case Fz0G1 => k_asm); (case Nz0G1 => k_asm); (case Uz0G1 => k_updF); (case dz0G1 => assumption); (case bz0G1 => omega)); intro h'z0G1 o'z0G1 F'z0G1 N'z0G1 d'z0G1; (try dsimp only at N'z0G1))))
  (k_with "subscriptTail" => (((with_reducible show wpAny _ _ (subscriptTail _ _ (Value.ref _) (Value.str _ _)) _ _ _); k_dflt (refine I_item (by k_asm) (by k_mem) (by assumption) (put_self _ _ _) ?_); intro t'z1G1)))
  (k_with "call ref" => (((with_reducible show wpAny _ _ (call (Value.ref 616) _ _) _ _ _); k_dflt (refine' u_get ?Rz2G1 ?Gz2G1 ?Sgz2G1 ?Sz2G1 ?Fz2G1 ?Nz2G1 ?U1z2G1 ?hSz2G1 ?U2z2G1 ?hXz2G1 ?hbz2G1 ?hcz2G1 ?m2z2G1 ?_; (case Rz2G1 => exact Rm.mono (Rm.deeper _ (by assumption)) (by decide)); (case Gz2G1 => assumption); (case Sgz2G1 => assumption); (case Sz2G1 => assumption); (case Fz2G1 => k_asm); (case Nz2G1 => k_asm); (case U1z2G1 => k_updF); (case hSz2G1 => assumption); (case U2z2G1 => intro oz2G1; (try dsimp only); k_updF); (case m2z2G1 => k_mem); (case hXz2G1 => assumption); (case hbz2G1 => omega); (case hcz2G1 => omega)); intro h'z2G1 tk'z2G1 t'z2G1 oS'z2G1 oX'z2G1 F'z2G1 N'z2G1 hS'z2G1 hX'z2G1; (try dsimp only at N'z2G1))))
  trivial
section
/-! ## the events -/
noncomputable def EntryAt (w : World) (av : List Addr) (h : Heap) (r : Addr) (x : Int × Int) : Prop :=
  ∃ dr n ta te t1 t2, W.InstAt h r (instObj 568 dr) 568 (some (dictOf [⟨PyData.keyHash w.params "atime", .str "atime" ta, .int x.1 t1⟩, ⟨PyData.keyHash w.params "expiry", .str "expiry" te, .int x.2 t2⟩] n)) ∧ r ∉ av ∧ dr ∉ av
noncomputable def Ents (w : World) (av : List Addr) (h : Heap) : List Value → List (Int × Int) → Prop
  | [], [] => True
  | .ref r :: vs, x :: l => EntryAt w av h r x ∧ Ents w av h vs l
  | _, _ => False
noncomputable def EvL (w : World) (av : List Addr) (h : Heap) (a : Addr) (l : List (Int × Int)) : Prop := ∃ vs ep, h.get? a = some (W.listOf (List.toArray vs) ep) ∧ a ∉ av ∧ Ents w av h vs l
noncomputable def RelE (w : World) (av : List Addr) (h : Heap) (v : Option Value) : Option (List (Int × Int)) → Prop
  | none => v = none
  | some l => ∃ a, v = some (.ref a) ∧ EvL w av h a l
noncomputable def EK (w : World) (av : List Addr) (h : Heap) (kvs : List (Str × Value)) (f : Str → Option (List (Int × Int))) (b : Nat) : Prop :=
  kvs.length ≤ b ∧ (∀ k, RelE w av h (valueAt kvs k) (f k)) ∧ ∀ k l, f k = some l → l.length ≤ b
noncomputable def AtE (w : World) (av : List Addr) (h : Heap) (d : Addr) (f : Str → Option (List (Int × Int))) (b : Nat) : Prop :=
  ∃ kvs, h.DictOf (PySem.strKind PySem.Challenge.rw_jn0050_01.row.prog w) d kvs ∧ EK w av h kvs f b
section
variable {w : World} {av : List Addr} {h h' : Heap}
noncomputable def Stay (av : List Addr) (h h' : Heap) : Prop := ∀ b o, h.get? b = some o → b ∉ av → h'.get? b = some o
theorem Stay.of {ms : List Addr} (C : Chg ms h h') (hm : ∀ b ∈ ms, b ∈ av) : Stay av h h' := fun b o e n => C b o e fun q => n (hm b q)
theorem Stay.sub (k : Sub h h') : Stay av h h' := fun b o e _ => k b o e
theorem EntryAt.on {r : Addr} {x : Int × Int} (E : EntryAt w av h r x) (k : Stay av h h') : EntryAt w av h' r x := by
  obtain ⟨dr, n, ta, te, t1, t2, I, a1, a2⟩ := E
  refine ⟨dr, n, ta, te, t1, t2, instAt_on I fun b hb o e => k b o e ?_, a1, a2⟩
  rcases List.mem_cons.mp hb with rfl | hb
  · exact a1
  · exact List.mem_singleton.mp hb ▸ a2
theorem Ents.ind {P : List Value → List (Int × Int) → Prop} (h0 : P [] []) (h1 : ∀ {r vs x l}, EntryAt w av h r x → Ents w av h vs l → P vs l → P (.ref r :: vs) (x :: l)) : ∀ {vs : List Value} {l : List (Int × Int)}, Ents w av h vs l → P vs l
  | [], [], _ => h0
  | .ref _ :: _, _ :: _, ⟨a, b⟩ => h1 a b (Ents.ind h0 h1 b)
theorem Ents.on (k : Stay av h h') {vs : List Value} {l : List (Int × Int)} (E : Ents w av h vs l) : Ents w av h' vs l :=
  Ents.ind (P := fun vs l => Ents w av h' vs l) trivial (fun a _ ih => ⟨a.on k, ih⟩) E
theorem EvL.on {a : Addr} {l : List (Int × Int)} (E : EvL w av h a l) (k : Stay av h h') : EvL w av h' a l := let ⟨vs, ep, e, n, r⟩ := E; ⟨vs, ep, k a _ e n, n, r.on k⟩
theorem RelE.on {v : Option Value} {x : Option (List (Int × Int))} (E : RelE w av h v x) (k : Stay av h h') : RelE w av h' v x := by
  cases x with
  | none => exact E
  | some l => obtain ⟨a, e, q⟩ := E; exact ⟨a, e, q.on k⟩
theorem EK.on {kvs : List (Str × Value)} {f : Str → Option (List (Int × Int))} {b : Nat} (E : EK w av h kvs f b) (k : Stay av h h') : EK w av h' kvs f b := ⟨E.1, fun x => (E.2.1 x).on k, E.2.2⟩
theorem EK.mono {kvs : List (Str × Value)} {f : Str → Option (List (Int × Int))} {b c : Nat} (E : EK w av h kvs f b) (e : b ≤ c) : EK w av h kvs f c := ⟨Nat.le_trans E.1 e, E.2.1, fun k l h => Nat.le_trans (E.2.2 k l h) e⟩
theorem AtE.of {d : Addr} {kvs : List (Str × Value)} {o : Obj} {f : Str → Option (List (Int × Int))} {b : Nat} (e : h.get? d = some o) (hd : o.IsDictOf (PySem.strKind PySem.Challenge.rw_jn0050_01.row.prog w) kvs) (hi : EK w av h kvs f b) : AtE w av h d f b := ⟨kvs, Heap.dictOf_iff.mpr ⟨o, e, hd⟩, hi⟩
theorem AtE.out {d : Addr} {f : Str → Option (List (Int × Int))} {b : Nat} (e : AtE w av h d f b) : ∃ o kvs, h.get? d = some o ∧ o.IsDictOf (PySem.strKind PySem.Challenge.rw_jn0050_01.row.prog w) kvs ∧ EK w av h kvs f b := let ⟨kvs, a, b⟩ := e; let ⟨o, x, y⟩ := Heap.dictOf_iff.mp a; ⟨o, kvs, x, y, b⟩
theorem Ents.length {vs : List Value} {l : List (Int × Int)} (E : Ents w av h vs l) : vs.length = l.length :=
  Ents.ind (P := fun vs l => vs.length = l.length) rfl (fun _ _ ih => congrArg (· + 1) ih) E
end
section
variable {w : World} {av : List Addr} {hh : Heap} {A : Around} {E : Value → Shared → Prop} {s : Shared} {h₀ : Heap} {L d : Addr} {m : Str → Option Value} {news : List (Addr × Obj)} {g : Obj → List (Addr × Obj)} {o : Obj} {k : Str} {t ti : Tok} {f : Str → Option (List (Int × Int))} {b : Nat}
theorem RelE.del {kvs : List (Str × Value)} (hr : ∀ k, RelE w av hh (valueAt kvs k) (f k)) (x : Str) : RelE w av hh (valueAt (without kvs k) x) (del f k x) := by
  rw [valueAt_without]
  unfold Mine.del
  by_cases q : x = k
  · rw [if_pos q, if_pos q]; exact rfl
  · rw [if_neg q, if_neg q]; exact hr x
theorem RelE.put {kvs : List (Str × Value)} {a : Addr} {l : List (Int × Int)} (hr : ∀ k, RelE w av hh (valueAt kvs k) (f k)) (hv : EvL w av hh a l) (x : Str) : RelE w av hh (valueAt (stored kvs k (.ref a)) x) (put f k l x) := by
  rw [valueAt_stored]
  unfold Mine.put
  by_cases q : x = k
  · rw [if_pos q, if_pos q]; exact ⟨a, rfl, hv⟩
  · rw [if_neg q, if_neg q]; exact hr x
theorem del_len {f : Str → Option (List (Int × Int))} (q : ∀ k l, f k = some l → l.length ≤ b) : ∀ x l, del f k x = some l → l.length ≤ b := fun x l e => by
  unfold Mine.del at e
  split at e
  · cases e
  · exact q x l e
theorem put_len {f : Str → Option (List (Int × Int))} {l₀ : List (Int × Int)} (q : ∀ k l, f k = some l → l.length ≤ b) (hl : l₀.length ≤ b) : ∀ x l, put f k l₀ x = some l → l.length ≤ b := fun x l e => by
  unfold Mine.put at e
  split at e
  · cases e; exact hl
  · exact q x l e
theorem EK.del {kvs : List (Str × Value)} (E : EK w av hh kvs f b) (k : Str) : EK w av hh (without kvs k) (Mine.del f k) b := ⟨Nat.le_trans (without_length ..) E.1, RelE.del E.2.1, del_len E.2.2⟩
theorem EK.put {kvs : List (Str × Value)} {a : Addr} {l : List (Int × Int)} (E : EK w av hh kvs f b) (k : Str) (hv : EvL w av hh a l) (hl : l.length ≤ b) : EK w av hh (stored kvs k (.ref a)) (Mine.put f k l) (b + 1) :=
  ⟨Nat.le_trans (stored_length_le ..) (Nat.succ_le_succ E.1), RelE.put E.2.1 hv, fun x l' e => Nat.le_succ_of_le (put_len E.2.2 hl x l' e)⟩
theorem D_pop {kvs : List (Str × Value)} {Q : Value → Shared → Prop} (F : Fr h₀ L s.heap m) (N : News h₀ L s.heap news) (U : UpdF d o news g) (hd : o.IsDictOf (PySem.strKind PySem.Challenge.rw_jn0050_01.row.prog w) kvs) (lo : (d == sysModules) = false) (hb : kvs.length ≤ 1000000)
    (h : ∀ h' o' v, Fr h₀ L h' m → News h₀ L h' (g o') → o'.IsDictOf (PySem.strKind PySem.Challenge.rw_jn0050_01.row.prog w) (without kvs k) → Q v { s with heap := h', toks := s.toks + 1 }) :
    wpAny (model PySem.Challenge.rw_jn0050_01.row.prog w) A (call (.builtin "dict.pop") [.ref d, .str k t, .none]) Q E s := by
  obtain ⟨pre, post, rfl, hg, a, c⟩ := U.split
  have hm := N (d, o) (List.mem_append_right _ (.head _))
  refine dict_pop2 (Heap.dictOf_iff.mpr ⟨o, hm.1, hd⟩) lo (by rw [sizeLine_eq]; omega) fun h' hmm hs => ?_
  obtain ⟨o', ho', hd'⟩ := Heap.dictOf_iff.mp hmm
  exact h h' o' _ (F.change hs hm.2.1 hm.2.2) (hg o' ▸ N.setIn a c hs ho') hd'
end

end

theorem reg_E0 : True := by
  (k_with "getMethod ref" => ((k_dflt (first
  | (refine' method_inst ?k1z0E0 ?k2z0E0 ?k3z0E0 ?k4z0E0 ?k5z0E0 ?k6z0E0 ?k7z0E0 ?_; (case k3z0E0 => k_inst); (case k1z0E0 => k_asm); (case k2z0E0 => k_asm); (case k4z0E0 => k_is); (case k5z0E0 => k_is); (case k6z0E0 => k_is); (case k7z0E0 => k_get))
  | (refine' kmu_own ?k1z0E0 ?k2z0E0 ?k3z0E0 ?k4z0E0 ?k5z0E0 ?_; (case k3z0E0 => k_inst); (case k1z0E0 => k_asm); (case k2z0E0 => k_asm); (case k4z0E0 => k_is); (case k5z0E0 => k_is))
  | (refine' kmu_cm ?k1z0E0 ?k2z0E0 ?k3z0E0 ?k4z0E0 ?k5z0E0 ?k6z0E0 ?k7z0E0 ?k8z0E0 ?k9z0E0 ?k10z0E0 ?k11z0E0 ?k12z0E0 ?k13z0E0 ?_; (case k4z0E0 => k_inst); (case k1z0E0 => k_asm); (case k2z0E0 => k_asm); (case k3z0E0 => k_asm); (case k5z0E0 => k_is); (case k6z0E0 => k_is); (case k7z0E0 => k_is); (case k8z0E0 => k_is); (case k9z0E0 => k_is); (case k10z0E0 => k_is); (case k11z0E0 => decide +kernel); (case k12z0E0 => k_get); (case k13z0E0 => k_is); intro q'z0E0 h'z0E0 F'z0E0 N'z0E0 l1z0E0; (try k_lt l1z0E0))
  | refine I_meth PySem.F.slot_dict_get PySem.F.type_dict_get (by k_asm) (by k_mem) (by assumption) ?_
  | refine I_meth PySem.F.slot_dict_pop PySem.F.type_dict_pop (by k_asm) (by k_mem) (by assumption) ?_
  | refine kob_method PySem.F.slot_dict_get PySem.F.type_dict_get (by k_asm) (by k_mem) (by assumption) ?_
  | refine kob_method PySem.F.slot_dict_pop PySem.F.type_dict_pop (by k_asm) (by k_mem) (by assumption) ?_))))
  (k_with "call builtin:dict.pop" => ((k_dflt (first | (refine' I_pop ?Fz1E0 ?Nz1E0 ?Uz1E0 ?dz1E0 ?lz1E0 ?bz1E0 ?_; (case Fz1E0 => k_asm); (case Nz1E0 => k_asm); (case Uz1E0 => k_updF); (case dz1E0 => assumption); (case lz1E0 => assumption); (case bz1E0 => omega)) | (refine' D_pop ?Fz1E0 ?Nz1E0 ?Uz1E0 ?dz1E0 ?lz1E0 ?bz1E0 ?_; (case Fz1E0 => k_asm); (case Nz1E0 => k_asm); (case Uz1E0 => k_updF); (case dz1E0 => assumption); (case lz1E0 => assumption); (case bz1E0 => omega))); intro h'z1E0 o'z1E0 v'z1E0 F'z1E0 N'z1E0 d'z1E0; (try dsimp only at N'z1E0))))
  trivial
section
theorem log_small {a : Int} (h : a.natAbs < 1000000000) : a.natAbs.log2 < 1920 := by
  by_cases z : a.natAbs = 0
  · rw [z]; decide
  · exact (Nat.log2_lt z).mpr (Nat.lt_trans h (by decide))
theorem text_small {a : Int} (h : a.natAbs < 1000000000) : (toString a).length ≤ 10 := int_text_length_le10 (k := 9) (by decide) (Nat.lt_of_lt_of_le h (by decide))
theorem fdiv_small {a b : Int} (h0 : 0 ≤ a) (h1 : a < 1000000000) (hb : 0 < b) : (a.fdiv b).natAbs < 1000000000 ∧ 0 ≤ a.fdiv b := by
  rw [Int.fdiv_eq_ediv_of_nonneg _ (Int.le_of_lt hb)]
  have a1 := Int.ediv_nonneg h0 (Int.le_of_lt hb)
  have a2 := Int.ediv_le_self b h0
  omega
theorem fresh_hide {h g : Heap} {ms : List Addr} {a : Addr} (Hg : ∀ b o, h.get? b = some o → b ∉ ms → g.get? b = some o) (e : g.get? a = none) (n : a ∉ ms := by simp) : h.get? a = none := by
  cases q : h.get? a with
  | none => rfl
  | some o => have := Hg a o q n; rw [e] at this; cases this
theorem Fr.grow {g h h' : Heap} {L : Addr} {m : Str → Option Value} (F : Fr g L h m) (K : Sub h h') : Fr g L h' m := ⟨F.ns.keeps K, fun b o e => K b o (F.keep b o e), F.above⟩
theorem News.keepsS {g h h' : Heap} {L : Addr} {news : List (Addr × Obj)} (N : News g L h news) (K : Sub h h') : News g L h' news := fun p hp => ⟨K _ _ (N p hp).1, (N p hp).2⟩
theorem News.grow {g h h' : Heap} {L a : Addr} {o : Obj} {m : Str → Option Value} {news : List (Addr × Obj)} (F : Fr g L h m) (N : News g L h news) (K : Sub h h') (e : h.get? a = none) (eo : h'.get? a = some o) : News g L h' ((a, o) :: news) := fun p hp => by
  rcases List.mem_cons.mp hp with rfl | hp
  · obtain ⟨oL, es, ep, hL, r⟩ := F.ns
    refine ⟨eo, fun q => ?_, ?_⟩
    · have q' : a = L := q
      rw [q', hL] at e; cases e
    · cases q : g.get? a with
      | none => rfl
      | some o' => have := F.keep a o' q; rw [e] at this; cases this
  · exact News.keepsS N K p hp
theorem News.apart {g h : Heap} {L a : Addr} {news : List (Addr × Obj)} (N : News g L h news) (e : h.get? a = none) : ∀ p ∈ news, p.1 ≠ a := fun p hp q => by
  have := (N p hp).1
  rw [q, e] at this; cases this
noncomputable def winKey (key : Str) (n : Int) : Str := Str.empty ++ key ++ Str.ofString "/" ++ Str.ofString (toString n)
noncomputable def AllNe (d : Addr) : List (Addr × Obj) → Prop
  | [] => True
  | p :: r => @Ne Nat p.1 d ∧ AllNe d r
theorem allNe_of {d : Addr} : ∀ {l : List (Addr × Obj)}, (∀ p ∈ l, p.1 ≠ d) → AllNe d l
  | [], _ => trivial
  | p :: _, h => ⟨h p (.head _), allNe_of fun q hq => h q (.tail _ hq)⟩

end

theorem reg_W0 : True := by
  (k_with "formatField int" => ((refine wpAny_formatField_int (log_small (by assumption)) ?_)))
  (k_with "And" => (((with_reducible show PySem.Str.length (_ ++ _) ≤ sizeLine ∧ _); refine ⟨by (simp only [PySem.Str.length_append, ofString_length]; rw [sizeLine_eq]; omega), ?_⟩)))
  (k_with "binaryOp Mult int int" => ((refine mul_int ?_ (by assumption))))
  trivial
section
section
variable {w : World} {A : Around} {E : Value → Shared → Prop} {s : Shared} {Q : Value → Shared → Prop} {hB : Heap}
theorem c_incr {a : SA} {T : Int} {key : Str} {tk t1 t2 : Tok} {expiry amount : Int} {cnt ex : Str → Option Int} {b c : Nat} (R : Rm A 8) (G : Gd w hB) (kS : Sub hB s.heap)
  (S : Sto w hB s.heap a T) (hS : AtI w s.heap a.dS cnt b) (hX : AtI w s.heap a.dX ex c) (hb : b < 1000000) (hc : c < 1000000)
  (h : ∀ h' tk' t', Chg [a.dS, a.dX] s.heap h' → AtI w h' a.dS (put (getC T ex cnt key) key ((getC T ex cnt key key).getD 0 + amount)) (b + 1) →
    AtI w h' a.dX (if (getC T ex cnt key key).getD 0 + amount = amount then put (getX T ex key) key (T + expiry) else getX T ex key) (c + 1) →
    Q (.int ((getC T ex cnt key key).getD 0 + amount) t') {s with heap := h', toks := tk'}) :
  wpAny (model PySem.Challenge.rw_jn0050_01.row.prog w) A (call (.ref 601) [.ref a.st, .str key tk, .int expiry t1] [("amount", .int amount t2)]) Q E s := by
  obtain ⟨oS, hS0, hS⟩ := hS
  obtain ⟨oX, hX0, hX⟩ := hX
  obtain ⟨ha, da, fa, ga, ua⟩ := A
  have hha := R.hd
  dsimp only at hha
  subst hha
  refine' enter (binds := [(Str.ofString "self", .ref a.st), (Str.ofString "key", .str key tk), (Str.ofString "expiry", .int expiry t1), (Str.ofString "amount", .int amount t2)]) (mods := [(a.dS, oS), (a.dX, oX)]) R G kS ?M ?ho ?hcd ?hb ?hl ?_ ?c2 ?c3 ?c4 ?c5
  case M => exact List.forall_mem_cons.mpr ⟨⟨hS0, S.fr.1⟩, List.forall_mem_cons.mpr ⟨⟨hX0, S.fr.2.1⟩, List.forall_mem_nil _⟩⟩
  case ho => k_is
  case hcd => k_is
  case hb => first | exact BindsTo.of_eq rfl | exact binds_K (G.X.keeps kS) rfl (by k_is) rfl rfl rfl | (rcases (by assumption : KwC _ _ _ _) with rfl | ⟨rfl, rfl, rfl⟩ <;> first | exact BindsTo.of_eq rfl | exact binds_K (G.X.keeps kS) rfl (by k_is) rfl rfl rfl)
  case hl => exact locs rfl
  case c2 => exact rfl
  case c3 => exact rfl
  case c4 => exact rfl
  case c5 => decide
  intro g L h₁ Hg Sg F N X ⟨p, loose, mean, mg, mb, T0⟩ l1
  have Sg' : Sto w hB g a T := S.hide Hg (by simp)
  clear S
  have S := Sg'
  obtain ⟨I, C, -, ⟨ne1, -, -⟩, -, ⟨lo1, lo2, -⟩, fnl, -⟩ := Sg'
  replace ne1 := neN ne1
  clear kS hS0 hX0
  (try dsimp only)
  k_steps
  · rw [if_pos ‹(getC T ex cnt key key).getD 0 + amount = amount›] at h
    rw [put_self, Option.getD_some]
    exact h _ _ _ (Chg.of Hg (by k_asm)) (AtI.of (by k_asm) (by k_mem) (by k_asm)) (AtI.of (by k_asm) (by k_mem) (by k_asm))
  · rw [if_neg ‹¬ (getC T ex cnt key key).getD 0 + amount = amount›] at h
    rw [put_self, Option.getD_some]
    exact h _ _ _ (Chg.of Hg (by k_asm)) (AtI.of (by k_asm) (by k_mem) (by k_asm)) (AtI.of (by k_asm) (by k_mem) (IsI.mono (by k_asm) (Nat.le_succ _)))
theorem u_incr {a : SA} {T : Int} {key : Str} {tk t1 t2 : Tok} {expiry amount : Int} {cnt ex : Str → Option Int} {b c : Nat} {g : Heap} {L : Addr} {m : Str → Option Value} {news : List (Addr × Obj)} {oS oX : Obj} {g1 : Obj → List (Addr × Obj)} {g2 : Obj → Obj → List (Addr × Obj)}
  (R : Rm A 8) (G : Gd w hB) (Sg : Sub hB g) (S : Sto w hB g a T) (F : Fr g L s.heap m) (N : News g L s.heap news) (U1 : UpdF a.dS oS news g1) (hS : IsI w oS cnt b) (U2 : ∀ o, UpdF a.dX oX (g1 o) (g2 o)) (hX : IsI w oX ex c) (hb : b < 1000000) (hc : c < 1000000) (m2 : (a.dX, oX) ∈ news)
  (h : ∀ h' tk' t' oS' oX', Fr g L h' m → News g L h' (g2 oS' oX') → IsI w oS' (put (getC T ex cnt key) key ((getC T ex cnt key key).getD 0 + amount)) (b + 1) →
    IsI w oX' (if (getC T ex cnt key key).getD 0 + amount = amount then put (getX T ex key) key (T + expiry) else getX T ex key) (c + 1) → Q (.int ((getC T ex cnt key key).getD 0 + amount) t') {s with heap := h', toks := tk'}) :
  wpAny (model PySem.Challenge.rw_jn0050_01.row.prog w) A (call (.ref 601) [.ref a.st, .str key tk, .int expiry t1] [("amount", .int amount t2)]) Q E s :=
  c_incr R G (fun b o e => F.keep b o (Sg b o e)) (S.sub F.keep) (AtI.of N (UpdF.has U1) hS) (AtI.of N m2 hX) hb hc fun h' tk' t' C hS' hX' => by
    obtain ⟨oS', e1, hS'⟩ := hS'
    obtain ⟨oX', e2, hX'⟩ := hX'
    exact h h' tk' t' oS' oX' (Fr.chg F N C (by
      intro x hx
      rcases List.mem_cons.mp hx with rfl | hx
      · exact ⟨_, UpdF.has U1⟩
      · exact List.mem_singleton.mp hx ▸ ⟨_, m2⟩)) (News.two N U1 U2 C e1 e2) hS' hX'
end

end

theorem reg_G2 : True := by
  (k_with "call ref" => (((with_reducible show wpAny _ _ (call (Value.ref 601) _ _) _ _ _); k_dflt (refine' u_incr ?Rz0G2 ?Gz0G2 ?Sgz0G2 ?Sz0G2 ?Fz0G2 ?Nz0G2 ?U1z0G2 ?hSz0G2 ?U2z0G2 ?hXz0G2 ?hbz0G2 ?hcz0G2 ?m2z0G2 ?_; (case Rz0G2 => exact Rm.mono (Rm.deeper _ (by assumption)) (by decide)); (case Gz0G2 => assumption); (case Sgz0G2 => assumption); (case Sz0G2 => assumption); (case Fz0G2 => k_asm); (case Nz0G2 => k_asm); (case U1z0G2 => k_updF); (case hSz0G2 => assumption); (case U2z0G2 => intro oz0G2; (try dsimp only); k_updF); (case m2z0G2 => k_mem); (case hXz0G2 => assumption); (case hbz0G2 => omega); (case hcz0G2 => omega)); intro h'z0G2 tk'z0G2 t'z0G2 oS'z0G2 oX'z0G2 F'z0G2 N'z0G2 hS'z0G2 hX'z0G2; (try dsimp only at N'z0G2))))
  trivial
section
section
variable {w : World} {A : Around} {E : Value → Shared → Prop} {s : Shared} {Q : Value → Shared → Prop} {hB : Heap}
theorem c_clear {a : SA} {T : Int} {key : Str} {tk : Tok} {cnt ex : Str → Option Int} {kvs : List (Str × Value)} {b c : Nat} (R : Rm A 6) (G : Gd w hB) (kS : Sub hB s.heap)
  (S : Sto w hB s.heap a T) (hS : AtI w s.heap a.dS cnt b) (hX : AtI w s.heap a.dX ex c) (hE : s.heap.DictOf (PySem.strKind PySem.Challenge.rw_jn0050_01.row.prog w) a.dE kvs) (hb : b ≤ 1000000) (hc : c ≤ 1000000) (hd : kvs.length ≤ 1000000)
  (h : ∀ h' tk', Chg [a.dS, a.dX, a.dE] s.heap h' → AtI w h' a.dS (del cnt key) b → AtI w h' a.dX (del ex key) c → h'.DictOf (PySem.strKind PySem.Challenge.rw_jn0050_01.row.prog w) a.dE (without kvs key) →
    Q .none {s with heap := h', toks := tk'}) :
  wpAny (model PySem.Challenge.rw_jn0050_01.row.prog w) A (call (.ref 623) [.ref a.st, .str key tk] []) Q E s := by
  obtain ⟨oS, hS0, hS⟩ := hS
  obtain ⟨oX, hX0, hX⟩ := hX
  obtain ⟨oE, hE0, hE⟩ := Heap.dictOf_iff.mp hE
  obtain ⟨ha, da, fa, ga, ua⟩ := A
  have hha := R.hd
  dsimp only at hha
  subst hha
  refine' enter (binds := [(Str.ofString "self", .ref a.st), (Str.ofString "key", .str key tk)]) (mods := [(a.dS, oS), (a.dX, oX), (a.dE, oE)]) R G kS ?M ?ho ?hcd ?hb ?hl ?_ ?c2 ?c3 ?c4 ?c5
  case M => exact List.forall_mem_cons.mpr ⟨⟨hS0, S.fr.1⟩, List.forall_mem_cons.mpr ⟨⟨hX0, S.fr.2.1⟩, List.forall_mem_cons.mpr ⟨⟨hE0, S.fr.2.2⟩, List.forall_mem_nil _⟩⟩⟩
  case ho => k_is
  case hcd => k_is
  case hb => first | exact BindsTo.of_eq rfl | exact binds_K (G.X.keeps kS) rfl (by k_is) rfl rfl rfl | (rcases (by assumption : KwC _ _ _ _) with rfl | ⟨rfl, rfl, rfl⟩ <;> first | exact BindsTo.of_eq rfl | exact binds_K (G.X.keeps kS) rfl (by k_is) rfl rfl rfl)
  case hl => exact locs rfl
  case c2 => exact rfl
  case c3 => exact rfl
  case c4 => exact rfl
  case c5 => decide
  intro g L h₁ Hg Sg F N X ⟨p, loose, mean, mg, mb, T0⟩ l1
  have Sg' : Sto w hB g a T := S.hide Hg (by simp)
  obtain ⟨I, C, -, ⟨ne1, ne2, ne3⟩, -, ⟨lo1, lo2, lo3⟩, fnl, -⟩ := Sg'
  replace ne1 := neN ne1
  replace ne2 := neN ne2
  replace ne3 := neN ne3
  clear S G kS hS0 hX0 hE0
  (try dsimp only)
  k_steps
  exact h _ _ (Chg.of Hg (by k_asm)) (AtI.of (by k_asm) (by k_mem) (by k_asm)) (AtI.of (by k_asm) (by k_mem) (by k_asm)) (Heap.dictOf_iff.mpr ⟨_, News.get (by k_asm) (by k_mem), by k_asm⟩)
theorem UpdF.map {d : Addr} {o : Obj} {l : List (Addr × Obj)} {g : Obj → List (Addr × Obj)} (U : UpdF d o l g) (o' : Obj) {p : Addr × Obj} (hp : p ∈ g o') : ∃ x, (p.1, x) ∈ l := by
  rcases UpdF.mem U _ hp with rfl | ⟨hp, _⟩
  · exact ⟨_, UpdF.has U⟩
  · exact ⟨_, hp⟩
theorem News.three {g h h' : Heap} {L d1 d2 d3 : Addr} {o1 o2 o3 o1' o2' o3' : Obj} {news : List (Addr × Obj)} {g1 : Obj → List (Addr × Obj)} {g2 : Obj → Obj → List (Addr × Obj)} {g3 : Obj → Obj → Obj → List (Addr × Obj)} (N : News g L h news) (U1 : UpdF d1 o1 news g1) (U2 : ∀ o, UpdF d2 o2 (g1 o) (g2 o)) (U3 : ∀ o o', UpdF d3 o3 (g2 o o') (g3 o o'))
    (m2 : (d2, o2) ∈ news) (m3 : (d3, o3) ∈ news) (C : Chg [d1, d2, d3] h h') (e1 : h'.get? d1 = some o1') (e2 : h'.get? d2 = some o2') (e3 : h'.get? d3 = some o3') : News g L h' (g3 o1' o2' o3') := fun p hp => by
  rcases UpdF.mem (U3 o1' o2') _ hp with rfl | ⟨hp, n3⟩
  · exact ⟨e3, (N _ m3).2⟩
  · rcases UpdF.mem (U2 o1') _ hp with rfl | ⟨hp, n2⟩
    · exact ⟨e2, (N _ m2).2⟩
    · rcases UpdF.mem U1 _ hp with rfl | ⟨hp, n1⟩
      · exact ⟨e1, (N _ (UpdF.has U1)).2⟩
      · exact ⟨C _ _ (N p hp).1 (by simp [n1, n2, n3]), (N p hp).2⟩
theorem u_clear {a : SA} {T : Int} {key : Str} {tk : Tok} {cnt ex : Str → Option Int} {kvs : List (Str × Value)} {b c : Nat} {g : Heap} {L : Addr} {m : Str → Option Value} {news : List (Addr × Obj)} {oS oX oE : Obj} {g1 : Obj → List (Addr × Obj)} {g2 : Obj → Obj → List (Addr × Obj)} {g3 : Obj → Obj → Obj → List (Addr × Obj)}
  (R : Rm A 6) (G : Gd w hB) (Sg : Sub hB g) (S : Sto w hB g a T) (F : Fr g L s.heap m) (N : News g L s.heap news) (U1 : UpdF a.dS oS news g1) (hS : IsI w oS cnt b) (U2 : ∀ o, UpdF a.dX oX (g1 o) (g2 o)) (m2 : (a.dX, oX) ∈ news) (hX : IsI w oX ex c)
  (U3 : ∀ o o', UpdF a.dE oE (g2 o o') (g3 o o')) (m3 : (a.dE, oE) ∈ news) (hE : oE.IsDictOf (PySem.strKind PySem.Challenge.rw_jn0050_01.row.prog w) kvs) (hb : b ≤ 1000000) (hc : c ≤ 1000000) (hd : kvs.length ≤ 1000000)
  (h : ∀ h' tk' oS' oX' oE', Fr g L h' m → News g L h' (g3 oS' oX' oE') → IsI w oS' (del cnt key) b → IsI w oX' (del ex key) c → oE'.IsDictOf (PySem.strKind PySem.Challenge.rw_jn0050_01.row.prog w) (without kvs key) → Q .none {s with heap := h', toks := tk'}) :
  wpAny (model PySem.Challenge.rw_jn0050_01.row.prog w) A (call (.ref 623) [.ref a.st, .str key tk] []) Q E s :=
  c_clear R G (fun b o e => F.keep b o (Sg b o e)) (S.sub F.keep) (AtI.of N (UpdF.has U1) hS) (AtI.of N m2 hX) (kda_dict N m3 hE) hb hc hd fun h' tk' C hS' hX' hE' => by
    obtain ⟨oS', e1, hS'⟩ := hS'
    obtain ⟨oX', e2, hX'⟩ := hX'
    obtain ⟨oE', e3, hE'⟩ := Heap.dictOf_iff.mp hE'
    exact h h' tk' oS' oX' oE' (Fr.chg F N C (by
      intro x hx
      rcases List.mem_cons.mp hx with rfl | hx
      · exact ⟨_, UpdF.has U1⟩
      · rcases List.mem_cons.mp hx with rfl | hx
        · exact ⟨_, m2⟩
        · exact List.mem_singleton.mp hx ▸ ⟨_, m3⟩)) (News.three N U1 U2 U3 m2 m3 C e1 e2 e3) hS' hX' hE'
theorem c_gexp {a : SA} {T : Int} {key : Str} {tk : Tok} {ex : Str → Option Int} {c : Nat} (R : Rm A 6) (G : Gd w hB) (kS : Sub hB s.heap)
  (S : Sto w hB s.heap a T) (hX : AtI w s.heap a.dX ex c)
  (h : ∀ h' tk' t', Sub s.heap h' → Q (.int ((ex key).getD T) t') {s with heap := h', toks := tk'}) :
  wpAny (model PySem.Challenge.rw_jn0050_01.row.prog w) A (call (.ref 638) [.ref a.st, .str key tk] []) Q E s := by
  obtain ⟨oX, hX0, hX⟩ := hX
  obtain ⟨ha, da, fa, ga, ua⟩ := A
  have hha := R.hd
  dsimp only at hha
  subst hha
  refine' enter (binds := [(Str.ofString "self", .ref a.st), (Str.ofString "key", .str key tk)]) (mods := [(a.dX, oX)]) R G kS ?M ?ho ?hcd ?hb ?hl ?_ ?c2 ?c3 ?c4 ?c5
  case M => exact List.forall_mem_cons.mpr ⟨⟨hX0, S.fr.2.1⟩, List.forall_mem_nil _⟩
  case ho => k_is
  case hcd => k_is
  case hb => first | exact BindsTo.of_eq rfl | exact binds_K (G.X.keeps kS) rfl (by k_is) rfl rfl rfl | (rcases (by assumption : KwC _ _ _ _) with rfl | ⟨rfl, rfl, rfl⟩ <;> first | exact BindsTo.of_eq rfl | exact binds_K (G.X.keeps kS) rfl (by k_is) rfl rfl rfl)
  case hl => exact locs rfl
  case c2 => exact rfl
  case c3 => exact rfl
  case c4 => exact rfl
  case c5 => decide
  intro g L h₁ Hg Sg F N X ⟨p, loose, mean, mg, mb, T0⟩ l1
  have Sg' : Sto w hB g a T := S.hide Hg (by simp)
  obtain ⟨I, C, -, ⟨ne1, ne2, ne3⟩, -, ⟨lo1, lo2, lo3⟩, fnl, -⟩ := Sg'
  clear S G kS
  (try dsimp only)
  k_steps
  refine h _ _ _ fun x o e => ?_
  by_cases q : x = a.dX
  · rw [q, hX0] at e
    cases e
    rw [q]
    exact (News.get (by k_asm) (by k_mem))
  · exact Chg.of Hg (by k_asm) x o e (by simp [q])
end

end

theorem reg_G3 : True := by
  (k_with "call ref" => (((with_reducible show wpAny _ _ (call (Value.ref 623) _ _) _ _ _); k_dflt (refine' u_clear ?Rz0G3 ?Gz0G3 ?Sgz0G3 ?Sz0G3 ?Fz0G3 ?Nz0G3 ?U1z0G3 ?hSz0G3 ?U2z0G3 ?m2z0G3 ?hXz0G3 ?U3z0G3 ?m3z0G3 ?hEz0G3 ?hbz0G3 ?hcz0G3 ?hdz0G3 ?_; (case Rz0G3 => exact Rm.mono (Rm.deeper _ (by assumption)) (by decide)); (case Gz0G3 => assumption); (case Sgz0G3 => assumption); (case Sz0G3 => assumption); (case Fz0G3 => k_asm); (case Nz0G3 => k_asm); (case U1z0G3 => k_updF); (case hSz0G3 => assumption); (case U2z0G3 => intro oz0G3; (try dsimp only); k_updF); (case m2z0G3 => k_mem); (case hXz0G3 => assumption); (case U3z0G3 => intro oz0G3 o'z0G3; (try dsimp only); k_updF); (case m3z0G3 => k_mem); (case hEz0G3 => assumption); (case hbz0G3 => omega); (case hcz0G3 => omega); (case hdz0G3 => first | assumption | (refine Nat.le_trans (without_length ..) ?_; assumption))); intro h'z0G3 tk'z0G3 oS'z0G3 oX'z0G3 oE'z0G3 F'z0G3 N'z0G3 hS'z0G3 hX'z0G3 hE'z0G3; (try dsimp only at N'z0G3))))
  trivial
section
section
variable {w : World} {A : Around} {E : Value → Shared → Prop} {s : Shared} {Q : Value → Shared → Prop} {hB : Heap}
theorem c_keys {key : Str} {tk t1 t2 : Tok} {expiry at_ : Int} (R : Rm A 6) (G : Gd w hB) (kS : Sub hB s.heap) (h0 : 0 < expiry) (h1 : expiry ≤ at_) (h2 : at_ < 1000000) (hk : key.length ≤ 20000)
  (h : ∀ h' tk' a t' t'', Sub s.heap h' → s.heap.get? a = none → h'.get? a = some { cls := .type "tuple", data := .seq [Value.str (winKey key ((at_ - expiry).fdiv expiry)) t', Value.str (winKey key (at_.fdiv expiry)) t''].toArray } → Q (.ref a) {s with heap := h', toks := tk'}) :
  codeAny (model PySem.Challenge.rw_jn0050_01.row.prog w) A (.call (.ref 534) ⟨[.ref 691, .str key tk, .int expiry t1, .int at_ t2], []⟩) (fun r s' => match r with | .ok (.ret v) => Q v s' | .ok _ => False | .error e => E e s') s := by
  obtain ⟨ha, da, fa, ga, ua⟩ := A
  have hha := R.hd
  dsimp only at hha
  subst hha
  refine' enterC (binds := [(Str.ofString "cls", .ref 691), (Str.ofString "key", .str key tk), (Str.ofString "expiry", .int expiry t1), (Str.ofString "at", .int at_ t2)]) (mods := []) R G kS ?M ?ho ?hcd ?hb ?hl ?_ ?c2 ?c3 ?c4 ?c5
  case M => exact List.forall_mem_nil _
  case ho => k_is
  case hcd => k_is
  case hb => first | exact BindsTo.of_eq rfl | exact binds_K (G.X.keeps kS) rfl (by k_is) rfl rfl rfl | (rcases (by assumption : KwC _ _ _ _) with rfl | ⟨rfl, rfl, rfl⟩ <;> first | exact BindsTo.of_eq rfl | exact binds_K (G.X.keeps kS) rfl (by k_is) rfl rfl rfl)
  case hl => exact locs rfl
  case c2 => exact rfl
  case c3 => exact rfl
  case c4 => exact rfl
  case c5 => decide
  intro g L h₁ Hg Sg F N X ⟨p, loose, mean, mg, mb, T0⟩ l1
  clear G kS
  obtain ⟨q1, -⟩ := fdiv_small (a := at_ - expiry) (b := expiry) (by omega) (by omega) h0
  obtain ⟨q2, -⟩ := fdiv_small (a := at_) (b := expiry) (by omega) (by omega) h0
  have u1 := text_small q1
  have u2 := text_small q2
  have u3 : ("/" : String).length = 1 := rfl
  have u4 : Str.empty.length = 0 := rfl
  (try dsimp only)
  k_steps
  refine h _ _ _ _ _ (fun x o e => Chg.of Hg (by k_asm) x o e (by simp)) ?_ (News.get (by k_asm) (by k_mem))
  exact fresh_hide Hg (News.fresh (by k_asm) (List.Mem.head _))
theorem u_keys {q : Addr} {key : Str} {tk t1 t2 : Tok} {expiry at_ : Int} {g : Heap} {L : Addr} {m : Str → Option Value} {news : List (Addr × Obj)} (R : Rm A 6) (G : Gd w hB) (Sg : Sub hB g) (F : Fr g L s.heap m) (N : News g L s.heap news)
  (hq : (q, methodObj (.ref 534) (.ref 691)) ∈ news) (h0 : 0 < expiry) (h1 : expiry ≤ at_) (h2 : at_ < 1000000) (hk : key.length ≤ 20000)
  (h : ∀ h' tk' a t' t'', Fr g L h' m → News g L h' ((a, { cls := .type "tuple", data := .seq [Value.str (winKey key ((at_ - expiry).fdiv expiry)) t', Value.str (winKey key (at_.fdiv expiry)) t''].toArray }) :: news) → (∀ p ∈ news, p.1 ≠ a) → Q (.ref a) {s with heap := h', toks := tk'}) :
  wpAny (model PySem.Challenge.rw_jn0050_01.row.prog w) A (call (.ref q) [.str key tk, .int expiry t1, .int at_ t2] []) Q E s :=
  call_meth N hq (c_keys R G (fun b o e => F.keep b o (Sg b o e)) h0 h1 h2 hk fun h' tk' a t' t'' K e eo => h h' tk' a t' t'' (Fr.grow F K) (News.grow F N K e eo) (News.apart N e))
end

end

theorem reg_G4 : True := by
  (k_with "call ref" => ((k_dflt (refine' u_keys ?Rz0G4 ?Gz0G4 ?Sgz0G4 ?Fz0G4 ?Nz0G4 ?hqz0G4 ?h0z0G4 ?h1z0G4 ?h2z0G4 ?hkz0G4 ?_; (case Nz0G4 => k_asm); (case hqz0G4 => k_mem); (case Rz0G4 => exact Rm.mono (Rm.deeper _ (by assumption)) (by decide)); (case Gz0G4 => assumption); (case Sgz0G4 => assumption); (case Fz0G4 => k_asm); (case h0z0G4 => omega); (case h1z0G4 => omega); (case h2z0G4 => omega); (case hkz0G4 => omega)); intro h'z0G4 tk'z0G4 a'z0G4 t'z0G4 t''z0G4 F'z0G4 N'z0G4 l1z0G4; (replace l1z0G4 := allNe_of l1z0G4); (dsimp +zetaDelta only [AllNe] at l1z0G4))))
  trivial
section
section
variable {w : World} {A : Around} {E : Value → Shared → Prop} {s : Shared} {Q : Value → Shared → Prop} {hB : Heap}
abbrev infoTup (P pt C ct : Int) (t1 t2 t3 t4 : Tok) : Obj := { cls := .type "tuple", data := .seq [Value.int P t1, .int pt t2, .int C t3, .int ct t4].toArray }
theorem c_info {a : SA} {T : Int} {pk ck : Str} {tk1 tk2 t1 t2 : Tok} {expiry : Int} {cnt ex : Str → Option Int} {b c : Nat} (R : Rm A 8) (G : Gd w hB) (kS : Sub hB s.heap)
  (S : Sto w hB s.heap a T) (hS : AtI w s.heap a.dS cnt b) (hX : AtI w s.heap a.dX ex c) (hb : b ≤ 1000000) (hc : c ≤ 1000000) (h0 : 0 < expiry)
  (h : ∀ h' tk' r u1 u2 u3 u4, Chg [a.dS, a.dX] s.heap h' → AtI w h' a.dS (getC T (getX T ex pk) (getC T ex cnt pk) ck) b → AtI w h' a.dX (getX T (getX T ex pk) ck) c → s.heap.get? r = none →
    h'.get? r = some (infoTup ((getC T ex cnt pk pk).getD 0) (if (getC T ex cnt pk pk).getD 0 = 0 then 0 else expiry - (T - expiry).fmod expiry) ((getC T (getX T ex pk) (getC T ex cnt pk) ck ck).getD 0) (expiry - T.fmod expiry + expiry) u1 u2 u3 u4) → Q (.ref r) {s with heap := h', toks := tk'}) :
  wpAny (model PySem.Challenge.rw_jn0050_01.row.prog w) A (call (.ref 660) [.ref a.st, .str pk tk1, .str ck tk2, .int expiry t1, .int T t2] []) Q E s := by
  obtain ⟨oS, hS0, hS⟩ := hS
  obtain ⟨oX, hX0, hX⟩ := hX
  obtain ⟨ha, da, fa, ga, ua⟩ := A
  have hha := R.hd
  dsimp only at hha
  subst hha
  refine' enter (binds := [(Str.ofString "self", .ref a.st), (Str.ofString "previous_key", .str pk tk1), (Str.ofString "current_key", .str ck tk2), (Str.ofString "expiry", .int expiry t1), (Str.ofString "now", .int T t2)]) (mods := [(a.dS, oS), (a.dX, oX)]) R G kS ?M ?ho ?hcd ?hb ?hl ?_ ?c2 ?c3 ?c4 ?c5
  case M => exact List.forall_mem_cons.mpr ⟨⟨hS0, S.fr.1⟩, List.forall_mem_cons.mpr ⟨⟨hX0, S.fr.2.1⟩, List.forall_mem_nil _⟩⟩
  case ho => k_is
  case hcd => k_is
  case hb => first | exact BindsTo.of_eq rfl | exact binds_K (G.X.keeps kS) rfl (by k_is) rfl rfl rfl | (rcases (by assumption : KwC _ _ _ _) with rfl | ⟨rfl, rfl, rfl⟩ <;> first | exact BindsTo.of_eq rfl | exact binds_K (G.X.keeps kS) rfl (by k_is) rfl rfl rfl)
  case hl => exact locs rfl
  case c2 => exact rfl
  case c3 => exact rfl
  case c4 => exact rfl
  case c5 => decide
  intro g L h₁ Hg Sg F N X ⟨p, loose, mean, mg, mb, T0⟩ l1
  have Sg' : Sto w hB g a T := S.hide Hg (by simp)
  clear S
  have S := Sg'
  obtain ⟨I, C, -, ⟨ne1, -, -⟩, -, ⟨lo1, lo2, -⟩, fnl, -⟩ := Sg'
  replace ne1 := neN ne1
  clear kS
  (try dsimp only)
  k_steps
  · rw [if_pos ‹(getC T ex cnt pk pk).getD 0 = 0›] at h
    exact h _ _ _ _ _ _ _ (Chg.of Hg (by k_asm)) (AtI.of (by k_asm) (by k_mem) (by k_asm)) (AtI.of (by k_asm) (by k_mem) (by k_asm))
      (fresh_hide Hg (News.fresh (by k_asm) (List.Mem.head _)) (by simp only [List.map_cons, List.map_nil, List.mem_cons, List.not_mem_nil, or_false, not_or]; refine ⟨?_, ?_⟩ <;> (refine neN ?_; omega))) (News.get (by k_asm) (List.Mem.head _))
  · rw [if_neg ‹¬ (getC T ex cnt pk pk).getD 0 = 0›] at h
    exact h _ _ _ _ _ _ _ (Chg.of Hg (by k_asm)) (AtI.of (by k_asm) (by k_mem) (by k_asm)) (AtI.of (by k_asm) (by k_mem) (by k_asm))
      (fresh_hide Hg (News.fresh (by k_asm) (List.Mem.head _)) (by simp only [List.map_cons, List.map_nil, List.mem_cons, List.not_mem_nil, or_false, not_or]; refine ⟨?_, ?_⟩ <;> (refine neN ?_; omega))) (News.get (by k_asm) (List.Mem.head _))
noncomputable abbrev infP (T : Int) (ex cnt : Str → Option Int) (pk : Str) : Int := (getC T ex cnt pk pk).getD 0
noncomputable abbrev infC (T : Int) (ex cnt : Str → Option Int) (pk ck : Str) : Int := (getC T (getX T ex pk) (getC T ex cnt pk) ck ck).getD 0
abbrev infTtl (T expiry : Int) (P : Int) : Int := if P = 0 then 0 else expiry - (T - expiry).fmod expiry
theorem u_info {a : SA} {T : Int} {pk ck : Str} {tk1 tk2 t1 t2 : Tok} {expiry : Int} {cnt ex : Str → Option Int} {b c : Nat} {g : Heap} {L : Addr} {m : Str → Option Value} {news : List (Addr × Obj)} {oS oX : Obj} {g1 : Obj → List (Addr × Obj)} {g2 : Obj → Obj → List (Addr × Obj)}
  (R : Rm A 8) (G : Gd w hB) (Sg : Sub hB g) (S : Sto w hB g a T) (F : Fr g L s.heap m) (N : News g L s.heap news) (U1 : UpdF a.dS oS news g1) (hS : IsI w oS cnt b) (U2 : ∀ o, UpdF a.dX oX (g1 o) (g2 o)) (hX : IsI w oX ex c) (hb : b ≤ 1000000) (hc : c ≤ 1000000) (h0 : 0 < expiry) (m2 : (a.dX, oX) ∈ news)
  (h : ∀ h' tk' r u1 u2 u3 u4 oS' oX', Fr g L h' m → News g L h' ((r, infoTup (infP T ex cnt pk) (infTtl T expiry (infP T ex cnt pk)) (infC T ex cnt pk ck) (expiry - T.fmod expiry + expiry) u1 u2 u3 u4) :: g2 oS' oX') →
    IsI w oS' (getC T (getX T ex pk) (getC T ex cnt pk) ck) b → IsI w oX' (getX T (getX T ex pk) ck) c → (∀ p ∈ g2 oS' oX', p.1 ≠ r) → Q (.ref r) {s with heap := h', toks := tk'}) :
  wpAny (model PySem.Challenge.rw_jn0050_01.row.prog w) A (call (.ref 660) [.ref a.st, .str pk tk1, .str ck tk2, .int expiry t1, .int T t2] []) Q E s :=
  c_info R G (fun b o e => F.keep b o (Sg b o e)) (S.sub F.keep) (AtI.of N (UpdF.has U1) hS) (AtI.of N m2 hX) hb hc h0 fun h' tk' r u1 u2 u3 u4 C hS' hX' e eo => by
    obtain ⟨oS', e1, hS'⟩ := hS'
    obtain ⟨oX', e2, hX'⟩ := hX'
    have F' := Fr.chg F N C (by
      intro x hx
      rcases List.mem_cons.mp hx with rfl | hx
      · exact ⟨_, UpdF.has U1⟩
      · exact List.mem_singleton.mp hx ▸ ⟨_, m2⟩)
    have N' := News.two N U1 U2 C e1 e2
    have ad : ∀ p ∈ g2 oS' oX', ∃ o, (p.1, o) ∈ news := fun p hp => by
      rcases UpdF.mem (U2 oS') _ hp with rfl | ⟨hp, _⟩
      · exact ⟨_, m2⟩
      · rcases UpdF.mem U1 _ hp with rfl | ⟨hp, _⟩
        · exact ⟨_, UpdF.has U1⟩
        · exact ⟨_, hp⟩
    refine h h' tk' r u1 u2 u3 u4 oS' oX' F' (fun p hp => ?_) hS' hX' fun p hp q => ?_
    · rcases List.mem_cons.mp hp with rfl | hp
      · obtain ⟨oL, es, ep, hL, _⟩ := F.ns
        refine ⟨eo, fun q => ?_, ?_⟩
        · have q' : r = L := q
          rw [q', hL] at e; cases e
        · cases q : g.get? r with
          | none => rfl
          | some o' => have := F.keep r o' q; rw [e] at this; cases this
      · exact N' p hp
    · obtain ⟨o, ho⟩ := ad p hp
      have := (N _ ho).1
      rw [q, e] at this
      cases this
end

end

theorem reg_G5 : True := by
  (k_with "call ref" => (((with_reducible show wpAny _ _ (call (Value.ref 660) _ _) _ _ _); k_dflt (refine' u_info ?Rz0G5 ?Gz0G5 ?Sgz0G5 ?Sz0G5 ?Fz0G5 ?Nz0G5 ?U1z0G5 ?hSz0G5 ?U2z0G5 ?hXz0G5 ?hbz0G5 ?hcz0G5 ?h0z0G5 ?m2z0G5 ?_; (case Rz0G5 => exact Rm.mono (Rm.deeper _ (by assumption)) (by decide)); (case Gz0G5 => assumption); (case Sgz0G5 => assumption); (case Sz0G5 => assumption); (case Fz0G5 => k_asm); (case Nz0G5 => k_asm); (case U1z0G5 => k_updF); (case hSz0G5 => assumption); (case U2z0G5 => intro oz0G5; (try dsimp only); k_updF); (case m2z0G5 => k_mem); (case hXz0G5 => assumption); (case hbz0G5 => omega); (case hcz0G5 => omega); (case h0z0G5 => omega)); intro h'z0G5 tk'z0G5 r'z0G5 u1z0G5 u2z0G5 u3z0G5 u4z0G5 oS'z0G5 oX'z0G5 F'z0G5 N'z0G5 hS'z0G5 hX'z0G5 l1z0G5; (try dsimp only at N'z0G5); (replace l1z0G5 := allNe_of l1z0G5); (dsimp +zetaDelta only [AllNe] at l1z0G5))))
  trivial
section
section
variable {w : World} {A : Around} {E : Value → Shared → Prop} {s : Shared} {Q : Value → Shared → Prop} {hB : Heap}
theorem c_gsw {a : SA} {T : Int} {key : Str} {tk t1 : Tok} {expiry : Int} {cnt ex : Str → Option Int} {b c : Nat} (R : Rm A 10) (G : Gd w hB) (kS : Sub hB s.heap)
  (S : Sto w hB s.heap a T) (hS : AtI w s.heap a.dS cnt b) (hX : AtI w s.heap a.dX ex c) (hb : b ≤ 1000000) (hc : c ≤ 1000000) (h0 : 0 < expiry) (h1 : expiry ≤ T) (h2 : T < 1000000) (hk : key.length ≤ 20000)
  (h : ∀ h' tk' r u1 u2 u3 u4, Chg [a.dS, a.dX] s.heap h' → AtI w h' a.dS (getC T (getX T ex (winKey key ((T - expiry).fdiv expiry))) (getC T ex cnt (winKey key ((T - expiry).fdiv expiry))) (winKey key (T.fdiv expiry))) b →
    AtI w h' a.dX (getX T (getX T ex (winKey key ((T - expiry).fdiv expiry))) (winKey key (T.fdiv expiry))) c → s.heap.get? r = none →
    h'.get? r = some (infoTup (infP T ex cnt (winKey key ((T - expiry).fdiv expiry))) (infTtl T expiry (infP T ex cnt (winKey key ((T - expiry).fdiv expiry)))) (infC T ex cnt (winKey key ((T - expiry).fdiv expiry)) (winKey key (T.fdiv expiry))) (expiry - T.fmod expiry + expiry) u1 u2 u3 u4) → Q (.ref r) {s with heap := h', toks := tk'}) :
  wpAny (model PySem.Challenge.rw_jn0050_01.row.prog w) A (call (.ref 667) [.ref a.st, .str key tk, .int expiry t1] []) Q E s := by
  obtain ⟨oS, hS0, hS⟩ := hS
  obtain ⟨oX, hX0, hX⟩ := hX
  obtain ⟨ha, da, fa, ga, ua⟩ := A
  have hha := R.hd
  dsimp only at hha
  subst hha
  refine' enter (binds := [(Str.ofString "self", .ref a.st), (Str.ofString "key", .str key tk), (Str.ofString "expiry", .int expiry t1)]) (mods := [(a.dS, oS), (a.dX, oX)]) R G kS ?M ?ho ?hcd ?hb ?hl ?_ ?c2 ?c3 ?c4 ?c5
  case M => exact List.forall_mem_cons.mpr ⟨⟨hS0, S.fr.1⟩, List.forall_mem_cons.mpr ⟨⟨hX0, S.fr.2.1⟩, List.forall_mem_nil _⟩⟩
  case ho => k_is
  case hcd => k_is
  case hb => first | exact BindsTo.of_eq rfl | exact binds_K (G.X.keeps kS) rfl (by k_is) rfl rfl rfl | (rcases (by assumption : KwC _ _ _ _) with rfl | ⟨rfl, rfl, rfl⟩ <;> first | exact BindsTo.of_eq rfl | exact binds_K (G.X.keeps kS) rfl (by k_is) rfl rfl rfl)
  case hl => exact locs rfl
  case c2 => exact rfl
  case c3 => exact rfl
  case c4 => exact rfl
  case c5 => decide
  intro g L h₁ Hg Sg F N X ⟨p, loose, mean, mg, mb, T0⟩ l1
  have Sg' : Sto w hB g a T := S.hide Hg (by simp)
  clear S
  have S := Sg'
  obtain ⟨I, C, -, ⟨ne1, -, -⟩, -, ⟨lo1, lo2, -⟩, fnl, -⟩ := Sg'
  replace ne1 := neN ne1
  clear kS
  (try dsimp only)
  k_steps
  exact h _ _ _ _ _ _ _ (Chg.of Hg (by k_asm)) (AtI.of (by k_asm) (by k_mem) (by k_asm)) (AtI.of (by k_asm) (by k_mem) (by k_asm))
    (fresh_hide Hg (News.fresh (by k_asm) (List.Mem.head _)) (by simp only [List.map_cons, List.map_nil, List.mem_cons, List.not_mem_nil, or_false, not_or]; refine ⟨?_, ?_⟩ <;> (refine neN ?_; omega))) (News.get (by k_asm) (List.Mem.head _))
theorem c_csw {a : SA} {T : Int} {key : Str} {tk t1 : Tok} {expiry : Int} {cnt ex : Str → Option Int} {kvs : List (Str × Value)} {b c : Nat} (R : Rm A 10) (G : Gd w hB) (kS : Sub hB s.heap)
  (S : Sto w hB s.heap a T) (hS : AtI w s.heap a.dS cnt b) (hX : AtI w s.heap a.dX ex c) (hE : s.heap.DictOf (PySem.strKind PySem.Challenge.rw_jn0050_01.row.prog w) a.dE kvs) (hb : b ≤ 1000000) (hc : c ≤ 1000000) (hd : kvs.length ≤ 1000000) (h0 : 0 < expiry) (h1 : expiry ≤ T) (h2 : T < 1000000) (hk : key.length ≤ 20000)
  (h : ∀ h' tk', Chg [a.dS, a.dX, a.dE] s.heap h' → AtI w h' a.dS (del (del cnt (winKey key ((T - expiry).fdiv expiry))) (winKey key (T.fdiv expiry))) b → AtI w h' a.dX (del (del ex (winKey key ((T - expiry).fdiv expiry))) (winKey key (T.fdiv expiry))) c →
    h'.DictOf (PySem.strKind PySem.Challenge.rw_jn0050_01.row.prog w) a.dE (without (without kvs (winKey key ((T - expiry).fdiv expiry))) (winKey key (T.fdiv expiry))) → Q .none {s with heap := h', toks := tk'}) :
  wpAny (model PySem.Challenge.rw_jn0050_01.row.prog w) A (call (.ref 674) [.ref a.st, .str key tk, .int expiry t1] []) Q E s := by
  obtain ⟨oS, hS0, hS⟩ := hS
  obtain ⟨oX, hX0, hX⟩ := hX
  obtain ⟨oE, hE0, hE⟩ := Heap.dictOf_iff.mp hE
  obtain ⟨ha, da, fa, ga, ua⟩ := A
  have hha := R.hd
  dsimp only at hha
  subst hha
  refine' enter (binds := [(Str.ofString "self", .ref a.st), (Str.ofString "key", .str key tk), (Str.ofString "expiry", .int expiry t1)]) (mods := [(a.dS, oS), (a.dX, oX), (a.dE, oE)]) R G kS ?M ?ho ?hcd ?hb ?hl ?_ ?c2 ?c3 ?c4 ?c5
  case M => exact List.forall_mem_cons.mpr ⟨⟨hS0, S.fr.1⟩, List.forall_mem_cons.mpr ⟨⟨hX0, S.fr.2.1⟩, List.forall_mem_cons.mpr ⟨⟨hE0, S.fr.2.2⟩, List.forall_mem_nil _⟩⟩⟩
  case ho => k_is
  case hcd => k_is
  case hb => first | exact BindsTo.of_eq rfl | exact binds_K (G.X.keeps kS) rfl (by k_is) rfl rfl rfl | (rcases (by assumption : KwC _ _ _ _) with rfl | ⟨rfl, rfl, rfl⟩ <;> first | exact BindsTo.of_eq rfl | exact binds_K (G.X.keeps kS) rfl (by k_is) rfl rfl rfl)
  case hl => exact locs rfl
  case c2 => exact rfl
  case c3 => exact rfl
  case c4 => exact rfl
  case c5 => decide
  intro g L h₁ Hg Sg F N X ⟨p, loose, mean, mg, mb, T0⟩ l1
  have Sg' : Sto w hB g a T := S.hide Hg (by simp)
  clear S
  have S := Sg'
  obtain ⟨I, C, -, ⟨ne1, ne2, ne3⟩, -, ⟨lo1, lo2, lo3⟩, fnl, -⟩ := Sg'
  replace ne1 := neN ne1
  replace ne2 := neN ne2
  replace ne3 := neN ne3
  clear kS
  (try dsimp only)
  k_steps
  exact h _ _ (Chg.of Hg (by k_asm)) (AtI.of (by k_asm) (by k_mem) (by k_asm)) (AtI.of (by k_asm) (by k_mem) (by k_asm)) (Heap.dictOf_iff.mpr ⟨_, News.get (by k_asm) (by k_mem), by k_asm⟩)
end

end
section
theorem getX_idem {T : Int} (hT : 0 ≤ T) (ex : Str → Option Int) (k : Str) : getX T (getX T ex k) k = getX T ex k := by
  unfold getX
  by_cases h : (ex k).getD 0 ≤ T
  · rw [if_pos h]
    have : del ex k k = none := if_pos rfl
    rw [this, if_pos (show (none : Option Int).getD 0 ≤ T from hT)]
    funext x
    unfold del
    by_cases q : x = k <;> simp [q]
  · rw [if_neg h, if_neg h]
theorem getC_idem {T : Int} (hT : 0 ≤ T) (ex cnt : Str → Option Int) (k : Str) : getC T (getX T ex k) (getC T ex cnt k) k = getC T ex cnt k := by
  unfold getC getX
  by_cases h : (ex k).getD 0 ≤ T
  · rw [if_pos h, if_pos h]
    have : del ex k k = none := if_pos rfl
    rw [this, if_pos (show (none : Option Int).getD 0 ≤ T from hT)]
    funext x
    unfold del
    by_cases q : x = k <;> simp [q]
  · rw [if_neg h, if_neg h, if_neg h]
theorem ttl_ok {T expiry P : Int} (h0 : 0 < expiry) (h2 : expiry < 1000000) : 0 ≤ infTtl T expiry P ∧ infTtl T expiry P ≤ expiry := by
  have a1 := Int.fmod_nonneg_of_pos (T - expiry) h0
  have a2 := Int.fmod_lt_of_pos (T - expiry) h0
  unfold infTtl
  split <;> omega
section
variable {w : World} {A : Around} {E : Value → Shared → Prop} {s : Shared} {Q : Value → Shared → Prop} {hB : Heap}
theorem c_asw {a : SA} {T : Int} {key : Str} {tk t1 t2 t3 : Tok} {limit expiry amount : Int} {cnt ex : Str → Option Int} {b c : Nat} {pk ck : Str} (hpk : pk = winKey key ((T - expiry).fdiv expiry)) (hck : ck = winKey key (T.fdiv expiry)) (R : Rm A 12) (G : Gd w hB) (kS : Sub hB s.heap)
  (S : Sto w hB s.heap a T) (hS : AtI w s.heap a.dS cnt b) (hX : AtI w s.heap a.dX ex c) (hb : b < 1000000) (hc : c < 1000000) (h0 : 0 < expiry) (h1 : expiry ≤ T) (h2 : T < 1000000) (hk : key.length ≤ 20000)
  (hno : limit < amount → ∀ h' tk', Chg [a.dS, a.dX] s.heap h' → AtI w h' a.dS cnt b → AtI w h' a.dX ex c → Q (.bool false) {s with heap := h', toks := tk'})
  (hfull : ¬ limit < amount → limit < (infP T ex cnt pk * infTtl T expiry (infP T ex cnt pk)).fdiv expiry + infC T ex cnt pk ck + amount → ∀ h' tk', Chg [a.dS, a.dX] s.heap h' →
    AtI w h' a.dS (getC T (getX T ex pk) (getC T ex cnt pk) ck) b → AtI w h' a.dX (getX T (getX T ex pk) ck) c → Q (.bool false) {s with heap := h', toks := tk'})
  (hyes : ¬ limit < amount → ¬ limit < (infP T ex cnt pk * infTtl T expiry (infP T ex cnt pk)).fdiv expiry + infC T ex cnt pk ck + amount → ∀ h' tk', Chg [a.dS, a.dX] s.heap h' →
    AtI w h' a.dS (put (getC T (getX T ex pk) (getC T ex cnt pk) ck) ck (infC T ex cnt pk ck + amount)) (b + 1) →
    AtI w h' a.dX (if infC T ex cnt pk ck + amount = amount then put (getX T (getX T ex pk) ck) ck (T + 2 * expiry) else getX T (getX T ex pk) ck) (c + 1) → Q (.bool true) {s with heap := h', toks := tk'}) :
  wpAny (model PySem.Challenge.rw_jn0050_01.row.prog w) A (call (.ref 653) [.ref a.st, .str key tk, .int limit t1, .int expiry t2, .int amount t3] []) Q E s := by
  obtain ⟨oS, hS0, hS⟩ := hS
  obtain ⟨oX, hX0, hX⟩ := hX
  obtain ⟨ha, da, fa, ga, ua⟩ := A
  have hha := R.hd
  dsimp only at hha
  subst hha
  refine' enter (binds := [(Str.ofString "self", .ref a.st), (Str.ofString "key", .str key tk), (Str.ofString "limit", .int limit t1), (Str.ofString "expiry", .int expiry t2), (Str.ofString "amount", .int amount t3)]) (mods := [(a.dS, oS), (a.dX, oX)]) R G kS ?M ?ho ?hcd ?hb ?hl ?_ ?c2 ?c3 ?c4 ?c5
  case M => exact List.forall_mem_cons.mpr ⟨⟨hS0, S.fr.1⟩, List.forall_mem_cons.mpr ⟨⟨hX0, S.fr.2.1⟩, List.forall_mem_nil _⟩⟩
  case ho => k_is
  case hcd => k_is
  case hb => first | exact BindsTo.of_eq rfl | exact binds_K (G.X.keeps kS) rfl (by k_is) rfl rfl rfl | (rcases (by assumption : KwC _ _ _ _) with rfl | ⟨rfl, rfl, rfl⟩ <;> first | exact BindsTo.of_eq rfl | exact binds_K (G.X.keeps kS) rfl (by k_is) rfl rfl rfl)
  case hl => exact locs rfl
  case c2 => exact rfl
  case c3 => exact rfl
  case c4 => exact rfl
  case c5 => decide
  intro g L h₁ Hg Sg F N X ⟨p, loose, mean, mg, mb, T0⟩ l1
  have Sg' : Sto w hB g a T := S.hide Hg (by simp)
  clear S
  have S := Sg'
  obtain ⟨I, C, -, ⟨ne1, -, -⟩, -, ⟨lo1, lo2, -⟩, fnl, -⟩ := Sg'
  replace ne1 := neN ne1
  have hT : 0 ≤ T := by omega
  have i1 := getC_idem hT (getX T ex pk) (getC T ex cnt pk) ck
  have i2 := getX_idem hT (getX T ex pk) ck
  have hm : IntMulOk (infP T ex cnt pk) (infTtl T expiry (infP T ex cnt pk)) := by
    obtain ⟨m1, m2⟩ := ttl_ok (T := T) (P := infP T ex cnt pk) h0 (by omega)
    exact IntMulOk.of_right (intBits_le_64 (by omega) (by omega))
  have hm2 : IntMulOk 2 expiry := IntMulOk.of_right (intBits_le_64 (by omega) (by omega))
  have i3 : (getC T (getX T (getX T ex pk) ck) (getC T (getX T ex pk) (getC T ex cnt pk) ck) ck ck).getD 0 = infC T ex cnt pk ck := by rw [i1]
  clear kS
  rw [hpk, hck] at *
  (try dsimp only)
  have kqOn : SegOn := trivial
  k_steps
  · exact hno (by omega) _ _ (Chg.of Hg (by k_asm)) (AtI.of (by k_asm) (by k_mem) (by k_asm)) (AtI.of (by k_asm) (by k_mem) (by k_asm))
  · exact hfull (by omega) (by omega) _ _ (Chg.of Hg (by k_asm)) (AtI.of (by k_asm) (by k_mem) (by k_asm)) (AtI.of (by k_asm) (by k_mem) (by k_asm))
  · rename IsI w _ (put _ _ _) _ => hSn
    rename IsI w _ (ite _ _ _) _ => hXn
    rw [i1] at hSn
    rw [i1, i2] at hXn
    exact hyes (by omega) (by omega) _ _ (Chg.of Hg (by k_asm)) (AtI.of (by k_asm) (by k_mem) hSn) (AtI.of (by k_asm) (by k_mem) hXn)
end

end
section
section
variable {prog : Program} {w : World} {A : Around} {E : Value → Shared → Prop} {s : Shared} {K : Frag} {C : Addr}
theorem issub_tuple {Q : Value → Shared → Prop} (X : K.In s.heap) (hm : mroIn K C (.type "tuple") = some true) (h : Q (.bool true) s) : wpAny (model prog w) A (call (.builtin "issubclass") [.ref C, .type "tuple"]) Q E s := by
  have L1 := looks_mroIn (M := model prog w) X hm
  obtain ⟨cd, hc, _⟩ := Option.bind_eq_some_iff.mp hm
  have hC : ∃ oc od sl, s.heap.get? C = some ⟨oc, od, .cls cd, sl⟩ := by
    unfold clsIn at hc
    split at hc
    · rename_i oc od cd' sl ho; cases hc; exact ⟨oc, od, sl, X _ _ ho⟩
    · cases hc
  obtain ⟨oc, od, sl, hC⟩ := hC
  have key : wpAny (model prog w) A.in1 (Builtin.«issubclass» ⟨[.ref C, .type "tuple"], []⟩) (fun fin s' => match fin with
      | .done f => (match (Except.ok f : Result) with | .ok (.ret v) => Q v s' | .ok _ => False | .error e => E e s')
      | .again c' => c'.quiet = true ∧ codeAny (model prog w) A c' (fun r s' => match r with | .ok (.ret v) => Q v s' | .ok _ => False | .error e => E e s') s') (fun e s' => E e s') s := by
    refine issubclass_outer (R := fun r s' => match r with | .ok (.ret v) => Q v s' | .ok _ => False | .error e => E e s') ?_
    obtain ⟨hh, gg, d, t, os⟩ := s
    dsimp only at hC
    unfold Builtin.«issubclass.nested»
    repeat lk
    exact h
  refine wpAny_call (codeAny_call_builtin F.plain_issubclass F.entry_issubclass ?_)
  simp only [checkBuiltinCall, F.kind_issubclass]
  have ha := F.args_issubclass_2 (.ref C) (.type "tuple")
  cases hsig : Manifest.signature? "issubclass" with
  | none => exact wpAny_pure key
  | some sig =>
    simp only [argsOk, hsig] at ha
    have h2 : Bind.checkArgs "issubclass" sig ⟨[.ref C, .type "tuple"], []⟩ = pure () := ha
    show wpAny _ A.in1 (Bind.checkArgs "issubclass" sig ⟨[.ref C, .type "tuple"], []⟩) _ _ s
    rw [h2]
    exact wpAny_pure key
theorem tup_item_sub {x : Addr} {od : Option Addr} {items : Array Value} {n k : Nat} {sl : Array (Option Value)} {i : Int} {u : Tok} {y : Value} {Q : Value → Shared → Prop} (X : K.In s.heap) (hx : s.heap.get? x = some ⟨.ref C, od, .seq items n, sl⟩) (hm : mroIn K C (.type "tuple") = some true)
    (hlo : 0 ≤ i) (hhi : i < 1000) (hk : seqIndex? i items.size = some k) (hy : items[k]? = some y) (h : Q y s) : wpAny (model prog w) A (call (.builtin "tuple.__getitem__") [.ref x, .int i u]) Q E s := by
  refine wpAny_call (codeAny_call_builtin PySem.F.slot_tuple_getitem.plain PySem.F.entry_tuple_getitem ?_)
  have hkd : builtinKind "tuple.__getitem__" = some .slot := by decide +kernel
  have hsp : splitId "tuple.__getitem__" = some ("tuple", "__getitem__") := by decide +kernel
  have ha := PySem.F.args_tuple_getitem_2 (.ref x) (.int i u)
  have L1 := looks_mroIn (M := model prog w) X hm
  have L0 : Looks (model prog w) s.heap (typeOf (.ref x)) (.ref C) := (Looks.ld hx).andThen .now
  have f1 := AutoSeq1.idx_int
  have hf : ¬ (decide (i < -2 ^ 63) || decide (i ≥ 2 ^ 63)) = true := by simp; omega
  obtain ⟨hh, gg, d, t, os⟩ := s
  dsimp only at hx L0 L1
  simp only [checkBuiltinCall, hkd, hsp]
  unfold isInstance
  repeat lk
  rw [if_neg hf]
  simp only [hk, hy, Option.bind_some]
  repeat lk
  exact h
end
section
open Builtin.ObjectAttr
variable {prog : Program} {w : World} {A : Around} {E : Value → Shared → Prop} {s : Shared} {K : Frag} {x C : Addr} {ox od : Obj} {name : Str} {expr : Bool} {Q : Value → Shared → Prop} {g a : Value}
theorem get_bindT (X : K.In s.heap) (I : W.InstAt s.heap x ox C (some od)) (hga : findIn K (.ref C) "__getattribute__" = some (some (.builtin "tuple.__getattribute__"))) (hm : mroIn K C (.type "tuple") = some true)
    (hf : findObj K C (some od) name = some (.bind g a)) (hk : findIn K (.ref C) "__getattr__" = some none)
    (h : wpAny (model prog w) A.in1 (call g [a, .ref x, .ref C]) (fun v s' => wpAny (model prog w) A (handedOut v) Q E s') (fun _ _ => False) { s with toks := s.toks + 1 }) :
    wpAny (model prog w) A (getAttr (.ref x) name expr) Q E s := by
  obtain ⟨hh, gg, d, t, os⟩ := s
  have L0 := I.type (M := model prog w)
  have L1 := looks_findIn (M := model prog w) X hga
  have L2 := looks_findIn (M := model prog w) X hk
  have L3 := looks_find (M := model prog w) X I hf
  have L4 := looks_mroIn (M := model prog w) X hm
  have hkd : builtinKind "tuple.__getattribute__" = some .slot := by decide +kernel
  have hsp : splitId "tuple.__getattribute__" = some ("tuple", "__getattribute__") := by decide +kernel
  have ha := PySem.F.args_tuple_getattribute_2 (.ref x) (.str name t)
  unfold getAttr getAttrBy
  refine wpAny_bind (wpAny_mkText (wpAny_holding (wpAny_bind (L0.at (wpAny_bind (L1.at ?_))))))
  show wpAny _ _ (getAttrByItsOwn (.ref x) (.str name t) (.ref C) (.builtin "tuple.__getattribute__") true expr) _ _ _
  unfold getAttrByItsOwn
  refine wpAny_bind ?_
  show wpAny _ _ (typeLookup (.ref C) "__getattr__") _ _ _
  refine L2.at ?_
  refine wpAny_bind (wpAny_attempt (wpAny_holding ?_))
  unfold callGetattribute
  rw [if_neg (by cases expr <;> exact Bool.false_ne_true)]
  unfold boundAndCalled
  rw [PySem.F.slot_tuple_getattribute.bind]
  refine wpAny_bind (wpAny_pure ?_)
  refine wpAny_call (codeAny_call_builtin PySem.F.slot_tuple_getattribute.plain am_entry_tuple_getattribute ?_)
  simp only [checkBuiltinCall, hkd, hsp]
  unfold isInstance
  repeat (first | (with_reducible refine wpAny_mono h ?_ (fun _ _ z => z.elim)) | lk)
  intro v s' z
  exact wpAny_pure z
end

end

theorem reg_H0 : True := by
  (k_with "call builtin:issubclass" => ((k_dflt (refine' issub_tuple ?k1z0H0 ?k2z0H0 ?_; (case k1z0H0 => k_in); (case k2z0H0 => k_is)))))
  (k_with "getMethod type:tuple" => ((refine' method_type ?Fz1H0 ?Xz1H0 ?mz1H0 (by decide +kernel) ?ez1H0 ?hz1H0 ?_; (case Fz1H0 => k_asm); (case Xz1H0 => k_asm); (case mz1H0 => exact PySem.F.isi_meta_tuple); (case ez1H0 => k_dflt k_is); (case hz1H0 => k_handed))))
  (k_with "call builtin:tuple.__getitem__" => ((k_dflt (refine' tup_item_sub ?k1z2H0 ?k2z2H0 ?k3z2H0 ?k4z2H0 ?k5z2H0 ?k6z2H0 ?k7z2H0 ?_; (case k1z2H0 => k_in); (case k2z2H0 => exact Fr.keep (by k_asm) _ _ (by assumption)); (case k3z2H0 => k_is); (case k4z2H0 => assumption); (case k5z2H0 => assumption); (case k6z2H0 => assumption); (case k7z2H0 => assumption)))))
  (k_with "call type:type" => ((k_dflt (refine' kto_own ?Iz3H0 ?_; (case Iz3H0 => exact inst_fr (by assumption) (by assumption))))))
  trivial
section
theorem arr0 {a b : Value} : ([a, b].toArray : Array Value)[0]? = some a := rfl
theorem arr1 {a b : Value} : ([a, b].toArray : Array Value)[1]? = some b := rfl
section
variable {w : World} {A : Around} {E : Value → Shared → Prop} {s : Shared} {Q : Value → Shared → Prop} {hB : Heap}
theorem c_tgL {x tg dtg : Addr} {od : Option Addr} {odo : Obj} {items : Array Value} {n n' k : Nat} {sl : Array (Option Value)} {y v' : Value} {i h1 h2 : Int} {t t' u : Tok} (R : Rm A 8) (G : Gd w hB) (kS : Sub hB s.heap)
  (hx : W.InstAt s.heap x ⟨.ref 416, od, .seq items n, sl⟩ 416 (some odo)) (It : W.InstAt s.heap tg (instObj 337 dtg) 337 (some (dictOf [⟨h1, .str "index" t, .int i u⟩, ⟨h2, .str "__doc__" t', v'⟩] n'))) (hi : 0 ≤ i ∧ i < 1000) (hk : seqIndex? i items.size = some k) (hy : items[k]? = some y)
  (h : ∀ h' tk', Sub s.heap h' → Q y {s with heap := h', toks := tk'}) :
  wpAny (model PySem.Challenge.rw_jn0050_01.row.prog w) A (call (.ref 320) [.ref tg, .ref x, .ref 416] []) Q E s := by
  obtain ⟨ha, da, fa, ga, ua⟩ := A
  have hha := R.hd
  dsimp only at hha
  subst hha
  refine' enter (binds := [(Str.ofString "self", .ref tg), (Str.ofString "obj", .ref x), (Str.ofString "objtype", .ref 416)]) (mods := []) R G kS ?M ?ho ?hcd ?hb ?hl ?_ ?c2 ?c3 ?c4 ?c5
  case M => exact List.forall_mem_nil _
  case ho => k_is
  case hcd => k_is
  case hb => first | exact BindsTo.of_eq rfl | exact binds_K (G.X.keeps kS) rfl (by k_is) rfl rfl rfl | (rcases (by assumption : KwC _ _ _ _) with rfl | ⟨rfl, rfl, rfl⟩ <;> first | exact BindsTo.of_eq rfl | exact binds_K (G.X.keeps kS) rfl (by k_is) rfl rfl rfl)
  case hl => exact locs rfl
  case c2 => exact rfl
  case c3 => exact rfl
  case c4 => exact rfl
  case c5 => decide
  intro g L h₁ Hg Sg F N X ⟨p, loose, mean, mg, mb, T0⟩ l1
  have I := inst_sub hx fun b o e => Hg b o e (by simp)
  have It := inst_sub It fun b o e => Hg b o e (by simp)
  have hx := I.at_
  obtain ⟨hi1, hi2⟩ := hi
  clear kS
  (try dsimp only)
  k_steps
  exact h _ _ fun b o e => Fr.keep (by k_asm) b o (Hg b o e (by simp))
theorem c_tgU {x tg dtg : Addr} {od : Option Addr} {odo : Obj} {items : Array Value} {n n' k : Nat} {sl : Array (Option Value)} {y v' : Value} {i h1 h2 : Int} {t t' u : Tok} (R : Rm A 8) (G : Gd w hB) (kS : Sub hB s.heap)
  (hx : W.InstAt s.heap x ⟨.ref 132, od, .seq items n, sl⟩ 132 (some odo)) (It : W.InstAt s.heap tg (instObj 60 dtg) 60 (some (dictOf [⟨h1, .str "index" t, .int i u⟩, ⟨h2, .str "__doc__" t', v'⟩] n'))) (hi : 0 ≤ i ∧ i < 1000) (hk : seqIndex? i items.size = some k) (hy : items[k]? = some y)
  (h : ∀ h' tk', Sub s.heap h' → Q y {s with heap := h', toks := tk'}) :
  wpAny (model PySem.Challenge.rw_jn0050_01.row.prog w) A (call (.ref 43) [.ref tg, .ref x, .ref 132] []) Q E s := by
  obtain ⟨ha, da, fa, ga, ua⟩ := A
  have hha := R.hd
  dsimp only at hha
  subst hha
  refine' enter (binds := [(Str.ofString "self", .ref tg), (Str.ofString "obj", .ref x), (Str.ofString "objtype", .ref 132)]) (mods := []) R G kS ?M ?ho ?hcd ?hb ?hl ?_ ?c2 ?c3 ?c4 ?c5
  case M => exact List.forall_mem_nil _
  case ho => k_is
  case hcd => k_is
  case hb => first | exact BindsTo.of_eq rfl | exact binds_K (G.X.keeps kS) rfl (by k_is) rfl rfl rfl | (rcases (by assumption : KwC _ _ _ _) with rfl | ⟨rfl, rfl, rfl⟩ <;> first | exact BindsTo.of_eq rfl | exact binds_K (G.X.keeps kS) rfl (by k_is) rfl rfl rfl)
  case hl => exact locs rfl
  case c2 => exact rfl
  case c3 => exact rfl
  case c4 => exact rfl
  case c5 => decide
  intro g L h₁ Hg Sg F N X ⟨p, loose, mean, mg, mb, T0⟩ l1
  have I := inst_sub hx fun b o e => Hg b o e (by simp)
  have It := inst_sub It fun b o e => Hg b o e (by simp)
  have hx := I.at_
  obtain ⟨hi1, hi2⟩ := hi
  clear kS
  (try dsimp only)
  k_steps
  exact h _ _ fun b o e => Fr.keep (by k_asm) b o (Hg b o e (by simp))
theorem u_gattrL {x tg dtg L : Addr} {g : Heap} {m : Str → Option Value} {news : List (Addr × Obj)} {name : Str} {expr : Bool} {od : Option Addr} {odo : Obj} {items : Array Value} {n n' k : Nat} {sl : Array (Option Value)} {y v' : Value} {i h1 h2 : Int} {t t' u : Tok} (R : Rm A 10) (G : Gd w hB) (Sg : Sub hB g) (F : Fr g L s.heap m) (N : News g L s.heap news)
  (hx : W.InstAt s.heap x ⟨.ref 416, od, .seq items n, sl⟩ 416 (some odo))
  (ha : findIn (Mine.hd.heap_39 w.params) (.ref 416) name = some (some (.ref tg)))
  (hgt : specialIn (Mine.hd.heap_39 w.params) (.ref tg) "__get__" = some (some (.ref 320))) (ht : takesIn (Mine.hd.heap_39 w.params) (.ref tg) = some true)
  (hga : findIn (Mine.hd.heap_39 w.params) (.ref 416) "__getattribute__" = some (some (.builtin "tuple.__getattribute__"))) (hm : mroIn (Mine.hd.heap_39 w.params) 416 (.type "tuple") = some true) (hgk : findIn (Mine.hd.heap_39 w.params) (.ref 416) "__getattr__" = some none) (hc : isClsIn (Mine.hd.heap_39 w.params) 416 = true)
  (It : W.InstAt s.heap tg (instObj 337 dtg) 337 (some (dictOf [⟨h1, .str "index" t, .int i u⟩, ⟨h2, .str "__doc__" t', v'⟩] n'))) (hi : 0 ≤ i ∧ i < 1000) (hk : seqIndex? i items.size = some k) (hy : items[k]? = some y) (hh : handedIn y = true)
  (h : ∀ h' tk', Fr g L h' m → News g L h' news → Q y {s with heap := h', toks := tk'}) : wpAny (model PySem.Challenge.rw_jn0050_01.row.prog w) A (getAttr (.ref x) name expr) Q E s := by
  have kS : Sub hB s.heap := fun b o e => F.keep b o (Sg b o e)
  refine get_bindT (G.keeps kS).X hx hga hm (findObj_data hc ha hgt ht) hgk (c_tgL (R.mono (k := 9) (by decide)).in1 G kS hx It hi hk hy fun h' tk' K => ?_)
  rw [handedOut_of hh]
  exact wpAny_pure (h h' tk' (Fr.grow F K) (News.keepsS N K))
theorem u_gattrU {x tg dtg L : Addr} {g : Heap} {m : Str → Option Value} {news : List (Addr × Obj)} {name : Str} {expr : Bool} {od : Option Addr} {odo : Obj} {items : Array Value} {n n' k : Nat} {sl : Array (Option Value)} {y v' : Value} {i h1 h2 : Int} {t t' u : Tok} (R : Rm A 10) (G : Gd w hB) (Sg : Sub hB g) (F : Fr g L s.heap m) (N : News g L s.heap news)
  (hx : W.InstAt s.heap x ⟨.ref 132, od, .seq items n, sl⟩ 132 (some odo))
  (ha : findIn (Mine.hd.heap_39 w.params) (.ref 132) name = some (some (.ref tg)))
  (hgt : specialIn (Mine.hd.heap_39 w.params) (.ref tg) "__get__" = some (some (.ref 43))) (ht : takesIn (Mine.hd.heap_39 w.params) (.ref tg) = some true)
  (hga : findIn (Mine.hd.heap_39 w.params) (.ref 132) "__getattribute__" = some (some (.builtin "tuple.__getattribute__"))) (hm : mroIn (Mine.hd.heap_39 w.params) 132 (.type "tuple") = some true) (hgk : findIn (Mine.hd.heap_39 w.params) (.ref 132) "__getattr__" = some none) (hc : isClsIn (Mine.hd.heap_39 w.params) 132 = true)
  (It : W.InstAt s.heap tg (instObj 60 dtg) 60 (some (dictOf [⟨h1, .str "index" t, .int i u⟩, ⟨h2, .str "__doc__" t', v'⟩] n'))) (hi : 0 ≤ i ∧ i < 1000) (hk : seqIndex? i items.size = some k) (hy : items[k]? = some y) (hh : handedIn y = true)
  (h : ∀ h' tk', Fr g L h' m → News g L h' news → Q y {s with heap := h', toks := tk'}) : wpAny (model PySem.Challenge.rw_jn0050_01.row.prog w) A (getAttr (.ref x) name expr) Q E s := by
  have kS : Sub hB s.heap := fun b o e => F.keep b o (Sg b o e)
  refine get_bindT (G.keeps kS).X hx hga hm (findObj_data hc ha hgt ht) hgk (c_tgU (R.mono (k := 9) (by decide)).in1 G kS hx It hi hk hy fun h' tk' K => ?_)
  rw [handedOut_of hh]
  exact wpAny_pure (h h' tk' (Fr.grow F K) (News.keepsS N K))
end

end

theorem reg_H1 : True := by
  (k_with "getAttr ref" => ((k_dflt (first
  | ((with_reducible show wpAny _ _ (getAttr (Value.ref _) (PySem.Str.ofString "seconds") _) _ _ _); (refine' u_gattrL (k := 0) ?Rz0H1 ?Gz0H1 ?Sgz0H1 ?Fz0H1 ?Nz0H1 ?hxz0H1 ?haz0H1 ?hgtz0H1 ?htz0H1 ?hgaz0H1 ?hmz0H1 ?hgkz0H1 ?hcz0H1 ?Itz0H1 ?hiz0H1 ?hkz0H1 ?hyz0H1 ?hhz0H1 ?_))
  | ((with_reducible show wpAny _ _ (getAttr (Value.ref _) (PySem.Str.ofString "name") _) _ _ _); (refine' u_gattrL (k := 1) ?Rz0H1 ?Gz0H1 ?Sgz0H1 ?Fz0H1 ?Nz0H1 ?hxz0H1 ?haz0H1 ?hgtz0H1 ?htz0H1 ?hgaz0H1 ?hmz0H1 ?hgkz0H1 ?hcz0H1 ?Itz0H1 ?hiz0H1 ?hkz0H1 ?hyz0H1 ?hhz0H1 ?_))
  | ((with_reducible show wpAny _ _ (getAttr (Value.ref _) (PySem.Str.ofString "reset_time") _) _ _ _); (refine' u_gattrU (k := 0) ?Rz0H1 ?Gz0H1 ?Sgz0H1 ?Fz0H1 ?Nz0H1 ?hxz0H1 ?haz0H1 ?hgtz0H1 ?htz0H1 ?hgaz0H1 ?hmz0H1 ?hgkz0H1 ?hcz0H1 ?Itz0H1 ?hiz0H1 ?hkz0H1 ?hyz0H1 ?hhz0H1 ?_))
  | ((with_reducible show wpAny _ _ (getAttr (Value.ref _) (PySem.Str.ofString "remaining") _) _ _ _); (refine' u_gattrU (k := 1) ?Rz0H1 ?Gz0H1 ?Sgz0H1 ?Fz0H1 ?Nz0H1 ?hxz0H1 ?haz0H1 ?hgtz0H1 ?htz0H1 ?hgaz0H1 ?hmz0H1 ?hgkz0H1 ?hcz0H1 ?Itz0H1 ?hiz0H1 ?hkz0H1 ?hyz0H1 ?hhz0H1 ?_))); (case Rz0H1 => exact Rm.mono (Rm.deeper _ (by assumption)) (by decide)); (case Gz0H1 => assumption); (case Sgz0H1 => assumption); (case Fz0H1 => k_asm); (case Nz0H1 => k_asm); (case hxz0H1 => exact inst_fr (by assumption) (by k_asm)); (case haz0H1 => k_is); (case hgtz0H1 => k_is); (case htz0H1 => k_is); (case hgaz0H1 => k_is); (case hmz0H1 => k_is); (case hgkz0H1 => k_is); (case hcz0H1 => k_is); (case Itz0H1 => k_inst); (case hiz0H1 => decide); (case hkz0H1 => rfl); (case hyz0H1 => first | exact arr0 | exact arr1); (case hhz0H1 => rfl); intro h'z0H1 tk'z0H1 F'z0H1 N'z0H1)))
  trivial
section
abbrev itemD (w : World) (ns : Str) (am mu : Int) (t1 t2 t3 u1 u2 u3 : Tok) (n : Nat) : Obj := dictOf [⟨PyData.keyHash w.params "namespace", .str "namespace" t1, .str ns u1⟩, ⟨PyData.keyHash w.params "amount", .str "amount" t2, .int am u2⟩, ⟨PyData.keyHash w.params "multiples", .str "multiples" t3, .int mu u3⟩] n
section
variable {w : World} {A : Around} {E : Value → Shared → Prop} {s : Shared} {Q : Value → Shared → Prop} {hB : Heap}
theorem gran_sec {h : Heap} (X : (Mine.hd.heap_39 w.params).In h) : ∃ t1 t2 n m, W.InstAt h 515 ⟨.ref 416, some 514, .seq #[.int 1 t1, .str "second" t2] n, #[]⟩ 416 (some ⟨.type "dict", none, .dict #[] m, #[]⟩) :=
  ⟨926, 927, 0, 0, X 515 _ (by k_is), rfl, rfl, X 514 _ (by k_is)⟩
theorem gran_min {h : Heap} (X : (Mine.hd.heap_39 w.params).In h) : ∃ t1 t2 n m, W.InstAt h 498 ⟨.ref 416, some 497, .seq #[.int 60 t1, .str "minute" t2] n, #[]⟩ 416 (some ⟨.type "dict", none, .dict #[] m, #[]⟩) :=
  ⟨898, 899, 0, 0, X 498 _ (by k_is), rfl, rfl, X 497 _ (by k_is)⟩
theorem tg_sec {h : Heap} (X : (Mine.hd.heap_39 w.params).In h) : ∃ h1 h2 t t' u v' n', W.InstAt h 408 (instObj 337 407) 337 (some (dictOf [⟨h1, .str "index" t, .int 0 u⟩, ⟨h2, .str "__doc__" t', v'⟩] n')) :=
  ⟨PyData.keyHash w.params "index", PyData.keyHash w.params "__doc__", 767, 769, 761, .str "Alias for field number 0" 762, 2, X 408 _ (by k_is), rfl, rfl, X 407 _ (by k_is)⟩
theorem tg_name {h : Heap} (X : (Mine.hd.heap_39 w.params).In h) : ∃ h1 h2 t t' u v' n', W.InstAt h 411 (instObj 337 410) 337 (some (dictOf [⟨h1, .str "index" t, .int 1 u⟩, ⟨h2, .str "__doc__" t', v'⟩] n')) :=
  ⟨PyData.keyHash w.params "index", PyData.keyHash w.params "__doc__", 777, 779, 771, .str "Alias for field number 1" 772, 2, X 411 _ (by k_is), rfl, rfl, X 410 _ (by k_is)⟩
theorem c_exp1 {it dit : Addr} {ns : Str} {am mu : Int} {t1 t2 t3 u1 u2 u3 : Tok} {n : Nat} (R : Rm A 12) (G : Gd w hB) (kS : Sub hB s.heap)
  (I : W.InstAt s.heap it (instObj 518 dit) 518 (some (itemD w ns am mu t1 t2 t3 u1 u2 u3 n)))
  (h : ∀ h' tk' t', Sub s.heap h' → Q (.int (1 * mu) t') {s with heap := h', toks := tk'}) :
  wpAny (model PySem.Challenge.rw_jn0050_01.row.prog w) A (call (.ref 451) [.ref it] []) Q E s := by
  obtain ⟨ha, da, fa, ga, ua⟩ := A
  have hha := R.hd
  dsimp only at hha
  subst hha
  refine' enter (binds := [(Str.ofString "self", .ref it)]) (mods := []) R G kS ?M ?ho ?hcd ?hb ?hl ?_ ?c2 ?c3 ?c4 ?c5
  case M => exact List.forall_mem_nil _
  case ho => k_is
  case hcd => k_is
  case hb => first | exact BindsTo.of_eq rfl | exact binds_K (G.X.keeps kS) rfl (by k_is) rfl rfl rfl | (rcases (by assumption : KwC _ _ _ _) with rfl | ⟨rfl, rfl, rfl⟩ <;> first | exact BindsTo.of_eq rfl | exact binds_K (G.X.keeps kS) rfl (by k_is) rfl rfl rfl)
  case hl => exact locs rfl
  case c2 => exact rfl
  case c3 => exact rfl
  case c4 => exact rfl
  case c5 => decide
  intro g L h₁ Hg Sg F N X ⟨p, loose, mean, mg, mb, T0⟩ l1
  have I := inst_sub I fun b o e => Hg b o e (by simp)
  obtain ⟨gt1, gt2, gn, gm, Igr⟩ := gran_sec X
  obtain ⟨i1, i2, i3, i4, i5, i6, i7, Itg⟩ := tg_sec X
  have hm : IntMulOk 1 mu := IntMulOk.of_left (intBits_le_64 (by omega) (by omega))
  clear kS
  (try dsimp only)
  k_steps
  exact h _ _ _ fun b o e => Fr.keep (by k_asm) b o (Hg b o e (by simp))
theorem c_exp60 {it dit : Addr} {ns : Str} {am mu : Int} {t1 t2 t3 u1 u2 u3 : Tok} {n : Nat} (R : Rm A 12) (G : Gd w hB) (kS : Sub hB s.heap)
  (I : W.InstAt s.heap it (instObj 501 dit) 501 (some (itemD w ns am mu t1 t2 t3 u1 u2 u3 n)))
  (h : ∀ h' tk' t', Sub s.heap h' → Q (.int (60 * mu) t') {s with heap := h', toks := tk'}) :
  wpAny (model PySem.Challenge.rw_jn0050_01.row.prog w) A (call (.ref 451) [.ref it] []) Q E s := by
  obtain ⟨ha, da, fa, ga, ua⟩ := A
  have hha := R.hd
  dsimp only at hha
  subst hha
  refine' enter (binds := [(Str.ofString "self", .ref it)]) (mods := []) R G kS ?M ?ho ?hcd ?hb ?hl ?_ ?c2 ?c3 ?c4 ?c5
  case M => exact List.forall_mem_nil _
  case ho => k_is
  case hcd => k_is
  case hb => first | exact BindsTo.of_eq rfl | exact binds_K (G.X.keeps kS) rfl (by k_is) rfl rfl rfl | (rcases (by assumption : KwC _ _ _ _) with rfl | ⟨rfl, rfl, rfl⟩ <;> first | exact BindsTo.of_eq rfl | exact binds_K (G.X.keeps kS) rfl (by k_is) rfl rfl rfl)
  case hl => exact locs rfl
  case c2 => exact rfl
  case c3 => exact rfl
  case c4 => exact rfl
  case c5 => decide
  intro g L h₁ Hg Sg F N X ⟨p, loose, mean, mg, mb, T0⟩ l1
  have I := inst_sub I fun b o e => Hg b o e (by simp)
  obtain ⟨gt1, gt2, gn, gm, Igr⟩ := gran_min X
  obtain ⟨i1, i2, i3, i4, i5, i6, i7, Itg⟩ := tg_sec X
  have hm : IntMulOk 60 mu := IntMulOk.of_left (intBits_le_64 (by omega) (by omega))
  clear kS
  (try dsimp only)
  k_steps
  exact h _ _ _ fun b o e => Fr.keep (by k_asm) b o (Hg b o e (by simp))
end

end
section
section
variable {w : World} {A : Around} {E : Value → Shared → Prop} {s : Shared} {Q : Value → Shared → Prop} {hB : Heap}
theorem c_ssS {x : Str} {t : Tok} (R : Rm A 6) (G : Gd w hB) (kS : Sub hB s.heap) (hx : x.length ≤ 1000)
  (h : ∀ h' tk' t', Sub s.heap h' → Q (.str x t') {s with heap := h', toks := tk'}) :
  wpAny (model PySem.Challenge.rw_jn0050_01.row.prog w) A (call (.ref 348) [.str x t] []) Q E s := by
  obtain ⟨ha, da, fa, ga, ua⟩ := A
  have hha := R.hd
  dsimp only at hha
  subst hha
  refine' enter (binds := [(Str.ofString "value", .str x t)]) (mods := []) R G kS ?M ?ho ?hcd ?hb ?hl ?_ ?c2 ?c3 ?c4 ?c5
  case M => exact List.forall_mem_nil _
  case ho => k_is
  case hcd => k_is
  case hb => first | exact BindsTo.of_eq rfl | exact binds_K (G.X.keeps kS) rfl (by k_is) rfl rfl rfl | (rcases (by assumption : KwC _ _ _ _) with rfl | ⟨rfl, rfl, rfl⟩ <;> first | exact BindsTo.of_eq rfl | exact binds_K (G.X.keeps kS) rfl (by k_is) rfl rfl rfl)
  case hl => exact locs rfl
  case c2 => exact rfl
  case c3 => exact rfl
  case c4 => exact rfl
  case c5 => decide
  intro g L h₁ Hg Sg F N X ⟨p, loose, mean, mg, mb, T0⟩ l1
  clear kS
  (try dsimp only)
  k_steps
  exact h _ _ _ fun b o e => Fr.keep (by k_asm) b o (Hg b o e (by simp))
theorem c_ssI {i : Int} {t : Tok} (R : Rm A 6) (G : Gd w hB) (kS : Sub hB s.heap) (hx : i.natAbs < 1000000000)
  (h : ∀ h' tk' t', Sub s.heap h' → Q (.str (Str.ofString (toString i)) t') {s with heap := h', toks := tk'}) :
  wpAny (model PySem.Challenge.rw_jn0050_01.row.prog w) A (call (.ref 348) [.int i t] []) Q E s := by
  obtain ⟨ha, da, fa, ga, ua⟩ := A
  have hha := R.hd
  dsimp only at hha
  subst hha
  refine' enter (binds := [(Str.ofString "value", .int i t)]) (mods := []) R G kS ?M ?ho ?hcd ?hb ?hl ?_ ?c2 ?c3 ?c4 ?c5
  case M => exact List.forall_mem_nil _
  case ho => k_is
  case hcd => k_is
  case hb => first | exact BindsTo.of_eq rfl | exact binds_K (G.X.keeps kS) rfl (by k_is) rfl rfl rfl | (rcases (by assumption : KwC _ _ _ _) with rfl | ⟨rfl, rfl, rfl⟩ <;> first | exact BindsTo.of_eq rfl | exact binds_K (G.X.keeps kS) rfl (by k_is) rfl rfl rfl)
  case hl => exact locs rfl
  case c2 => exact rfl
  case c3 => exact rfl
  case c4 => exact rfl
  case c5 => decide
  intro g L h₁ Hg Sg F N X ⟨p, loose, mean, mg, mb, T0⟩ l1
  clear kS
  (try dsimp only)
  k_steps
  exact h _ _ _ fun b o e => Fr.keep (by k_asm) b o (Hg b o e (by simp))
theorem u_ssS {x : Str} {t : Tok} {g : Heap} {L : Addr} {m : Str → Option Value} {news : List (Addr × Obj)} (R : Rm A 6) (G : Gd w hB) (Sg : Sub hB g) (F : Fr g L s.heap m) (N : News g L s.heap news) (hx : x.length ≤ 1000)
  (h : ∀ h' tk' t', Fr g L h' m → News g L h' news → Q (.str x t') {s with heap := h', toks := tk'}) :
  wpAny (model PySem.Challenge.rw_jn0050_01.row.prog w) A (call (.ref 348) [.str x t] []) Q E s := c_ssS R G (fun b o e => F.keep b o (Sg b o e)) hx fun h' tk' t' K => h h' tk' t' (Fr.grow F K) (News.keepsS N K)
theorem u_ssI {i : Int} {t : Tok} {g : Heap} {L : Addr} {m : Str → Option Value} {news : List (Addr × Obj)} (R : Rm A 6) (G : Gd w hB) (Sg : Sub hB g) (F : Fr g L s.heap m) (N : News g L s.heap news) (hx : i.natAbs < 1000000000)
  (h : ∀ h' tk' t', Fr g L h' m → News g L h' news → Q (.str (Str.ofString (toString i)) t') {s with heap := h', toks := tk'}) :
  wpAny (model PySem.Challenge.rw_jn0050_01.row.prog w) A (call (.ref 348) [.int i t] []) Q E s := c_ssI R G (fun b o e => F.keep b o (Sg b o e)) hx fun h' tk' t' K => h h' tk' t' (Fr.grow F K) (News.keepsS N K)
end

end

theorem reg_H3 : True := by
  (k_with "call ref" => (((with_reducible show wpAny _ _ (call (Value.ref 348) _ _) _ _ _); k_dflt (first
  | (refine' u_ssS ?Rz0H3 ?Gz0H3 ?Sgz0H3 ?Fz0H3 ?Nz0H3 ?hxz0H3 ?_; (case hxz0H3 => first | assumption | decide))
  | (refine' u_ssI ?Rz0H3 ?Gz0H3 ?Sgz0H3 ?Fz0H3 ?Nz0H3 ?hxz0H3 ?_; (case hxz0H3 => omega))); (case Rz0H3 => exact Rm.mono (Rm.deeper _ (by assumption)) (by decide)); (case Gz0H3 => assumption); (case Sgz0H3 => assumption); (case Fz0H3 => k_asm); (case Nz0H3 => k_asm); intro h'z0H3 tk'z0H3 t'z0H3 F'z0H3 N'z0H3)))
  (k_with "callWith ref" => (((with_reducible show wpAny _ _ (callWith _ (Value.ref 348) _ _ _) _ _ _); k_dflt (refine' callWith_K (f := .ref 348) ?k1z1H3 ?k2z1H3 ?_; (case k1z1H3 => k_asm); (case k2z1H3 => k_is)))))
  trivial
section
section
variable {w : World} {A : Around} {E : Value → Shared → Prop} {s : Shared} {h₀ : Heap} {L : Addr} {m : Str → Option Value} {env : Env}
noncomputable def TupSrc (w : World) (A : Around) (h₀ : Heap) (L : Addr) (m : Str → Option Value) (env : Env) (elt : PySem.Expr) (x : Str) (scope : Scope) (cl : List (Str × Addr)) (Fin : Shared → List Value → List (Addr × Obj) → Prop) (xv : Value) (s₁ : Shared) : Prop :=
  ∃ ax its n news, xv = .ref ax ∧ A.handled = none ∧ Fr h₀ L s₁.heap m ∧ News h₀ L s₁.heap news ∧ h₀.get? ax = some { cls := .type "tuple", data := .seq its n } ∧ its.size ≤ sizeLine ∧
    ∀ s₂ : Shared, (∃ h, s₂ = { s₁ with heap := h }) → LCg.CompRest PySem.Challenge.rw_jn0050_01.row.prog w A h₀ L m env elt x scope cl s₂ (fun _ => True) (fun i v => its[i]? = some v) (Fin s₂) its.size 0 [] news
theorem TupSrc.intro {elt : PySem.Expr} {x : Str} {scope : Scope} {cl : List (Str × Addr)} {Fin : Shared → List Value → List (Addr × Obj) → Prop} {ax : Addr} {its : Array Value} {n : Nat} {news : List (Addr × Obj)} {s₁ : Shared}
    (hh : A.handled = none) (F : Fr h₀ L s₁.heap m) (N : News h₀ L s₁.heap news) (hl : h₀.get? ax = some { cls := .type "tuple", data := .seq its n }) (hsz : its.size ≤ sizeLine)
    (h : ∀ g, LCg.CompRest PySem.Challenge.rw_jn0050_01.row.prog w A h₀ L m env elt x scope cl { s₁ with heap := g } (fun _ => True) (fun i v => its[i]? = some v) (Fin { s₁ with heap := g }) its.size 0 [] news) :
    TupSrc w A h₀ L m env elt x scope cl Fin (.ref ax) s₁ := ⟨ax, its, n, news, rfl, hh, F, N, hl, hsz, fun _ ⟨g, e⟩ => e ▸ h g⟩
theorem ListComp_Tup {elt iter : PySem.Expr} {x : Str} {px : Pos} {scope : Scope} {cl : List (Str × Addr)} {pos : Pos} {Q : Value → Shared → Prop} (F₀ : Fr h₀ L s.heap m)
    (hclos : closureFor scope env = pure cl) (hcell : ∀ y ∈ scope.names, y.2 ≠ .cell) (hkind : scope.kind = .function)
    (hnames : ∀ y ∈ scope.names, y.2 = .local → scope.names.lookup y.1 = some .local) (hx : scope.names.lookup x = some .local)
    (h : wpAny (model PySem.Challenge.rw_jn0050_01.row.prog w) A (eval iter env) (TupSrc w A h₀ L m env elt x scope cl (fun s₂ => LCg.FinE h₀ L m s₂ Q)) E s)
    (hs : ∀ x, foldedSetIterable iter env x = pure x := by intro _; rfl) :
    wpAny (model PySem.Challenge.rw_jn0050_01.row.prog w) A (eval (.ListComp elt [⟨.Name x px, iter, [], 0⟩] scope pos) env) Q E s := by
  rw [eval_ListComp]
  refine wpAny_comprehension_free (use := none) rfl hs hclos hkind hnames (wpAny_mono h (fun xv s₁ h₁ => ?_) fun _ _ e => e)
  rcases h₁ with ⟨ax, its, n, news, rfl, hh, F, N, S, hsz, R⟩
  have hl : s₁.heap.IsTuple ax its := ⟨_, F.keep _ _ S, rfl, n, rfl⟩
  have hlt : ax < s₁.heap.objs.size := Heap.lt_size (F.keep _ _ S)
  refine wpAny_pyIter_tuple hl ?_
  have up : ∀ b o, s₁.heap.get? b = some o → (s₁.heap.push { cls := .type "tuple_iterator", data := .fields #[.ref ax, .int 0 0] }).get? b = some o := fun b o e => Heap.get?_push_of_some _ e
  refine LCg.block_U (Walks.tuple hh s₁.heap.objs.size ax (Nat.ne_of_lt hlt) its) hsz (fun i h st => by obtain ⟨o, e, _⟩ := st.1; exact ⟨o, e⟩) (fun i h h' o nw st e e' k Nn _ => ⟨by obtain ⟨o', q, r⟩ := st.1; rw [e] at q; cases q; exact ⟨o, e', r⟩, ⟨_, k _ _ S, rfl, n, rfl⟩⟩) hcell hkind hx ⟨⟨_, Heap.get?_push_size _ rfl, rfl, rfl⟩, hl.at fun o e => up _ _ e⟩ (fun b hb => ?_)
    (F.keeps up) (N.grown up) (Nat.ne_of_lt F.ns.lt) (next_is_new F) (fun p hp => Nat.ne_of_lt (Heap.lt_size (N p hp).1)) trivial (R _ ⟨_, rfl⟩) ?_
  · show b < (s₁.heap.push _).objs.size
    rw [Heap.size_push]
    rcases List.mem_cons.mp hb with rfl | hb
    · exact Nat.lt_succ_self _
    · rw [List.mem_singleton.mp hb]; exact Nat.lt_succ_of_lt hlt
  · intro D C h tk m' ys news' F' N' o1 hn hC₀ hD₀ hCL hDL hCD offC fin
    refine ⟨m', hn, fun h'' hs'' => fin D h'' tk (F'.change hs'' hCL hC₀) (fun p hp => ?_) o1⟩
    refine ⟨hs''.extBut _ _ ?_ (N' p hp).1, (N' p hp).2⟩
    rcases List.mem_cons.mp hp with rfl | hp
    · exact Ne.symm hCD
    · exact offC p hp
end
section
variable {w : World} {A : Around} {E : Value → Shared → Prop} {s : Shared}
theorem join_nm {D : Addr} {items : Array Value} {x a : Str} {l : List Str} {t : Tok} {Q : Value → Shared → Prop} (hl : s.heap.IsList D items) (hi : StrsAre items.toList (a :: l)) (hsep : x.length ≤ 16) (hw : ((a :: l).map (·.length)).sum + (a :: l).length ≤ 1048576)
  (h : ∀ z t' k, z = Txt.join x (a :: l) → z.length ≤ ((a :: l).map (·.length)).sum + l.length * x.length → Q (.str z t') { s with toks := k }) : wpAny (model PySem.Challenge.rw_jn0050_01.row.prog w) A (call (.builtin "str.join") [.str x t, .ref D]) Q E s :=
  join_listW hl hi hsep hw fun t' k => h _ t' k rfl (by
    show (Builtin.Str.glued x (a :: l)).length ≤ _
    rw [StrLaws.glued_eq_join, len_join_cons]; exact Nat.le_refl _)
theorem fmt_str {x : Str} {t : Tok} {Q : Value → Shared → Prop} (hsz : x.length ≤ 1000000) (h : ∀ t' tk, Q (.str x t') { s with toks := tk }) : wpAny (model PySem.Challenge.rw_jn0050_01.row.prog w) A (formatField (.str x t) Str.empty) Q E s := formatField_str h (by rw [PySem.sizeLine_eq]; omega)
theorem empty_len : Str.empty.length = 0 := rfl
theorem slash_len : (Str.ofString "/").length = 1 := by decide
end

end

theorem reg_L0 : True := by
  (k_with "eval ListComp" => ((k_here; lcg_look; k_dflt (refine ListComp_Tup (F₀ := by k_asm) (by rfl) (by decide) (by rfl) (by decide) (by rfl) ?_); k_dflt walk1)))
  (k_with "TupSrc" => ((k_dflt (refine TupSrc.intro (by rfl) (by k_asm) (by k_asm) (by assumption) (by exact Nat.le_of_ble_eq_true rfl) ?_); intro g'z1L0; lcg_lit)))
  (k_with "call builtin:str.join" => ((k_dflt (refine join_nm (by is_list) (by kct_strs) (by decide +kernel) (by (simp only [List.map_cons, List.map_nil, List.sum_cons, List.sum_nil, List.length_cons, List.length_nil]; omega)) ?_); intro zjz2L0 _ _ hzz2L0 lzz2L0; (simp only [List.map_cons, List.map_nil, List.sum_cons, List.sum_nil, List.length_cons, List.length_nil, slash_len] at lzz2L0))))
  (k_with "formatField str" => ((refine fmt_str (by omega) ?_; intro _ _)))
  (k_with "le" => (((with_reducible show Str.length _ ≤ sizeLine); rw [PySem.sizeLine_eq]; (simp only [Str.length_append, empty_len, slash_len]); omega)))
  trivial
section
section
noncomputable def keyS (ns : Str) (xs : List Str) (am mu : Int) (gn : String) : Str := Str.empty ++ ns ++ Str.ofString "/" ++ Txt.join (Str.ofString "/") (xs ++ [Str.ofString (toString am), Str.ofString (toString mu), Str.ofString gn])
variable {w : World} {A : Around} {E : Value → Shared → Prop} {s : Shared} {Q : Value → Shared → Prop} {hB : Heap}
theorem c_keys_1 {it dit nm : Addr} {ns x : Str} {am mu : Int} {t1 t2 t3 u1 u2 u3 tx : Tok} {n n' : Nat} (R : Rm A 14) (G : Gd w hB) (kS : Sub hB s.heap)
  (I : W.InstAt s.heap it (instObj 518 dit) 518 (some (itemD w ns am mu t1 t2 t3 u1 u2 u3 n))) (hn : s.heap.get? nm = some { cls := .type "tuple", data := .seq ([.str x tx] : List Value).toArray n' })
  (hx : x.length ≤ 1000) (hns : ns.length ≤ 1000) (ha : 0 ≤ am ∧ am ≤ 1000) (hmu : 0 ≤ mu ∧ mu ≤ 1000)
  (h : ∀ h' tk' t', Sub s.heap h' → (keyS ns [x] am mu "second").length ≤ 10000 → Q (.str (keyS ns [x] am mu "second") t') {s with heap := h', toks := tk'}) :
  wpAny (model PySem.Challenge.rw_jn0050_01.row.prog w) A (call (.ref 458) [.ref it, .ref nm] []) Q E s := by
  obtain ⟨ha, da, fa, ga, ua⟩ := A
  have hha := R.hd
  dsimp only at hha
  subst hha
  refine' enter (binds := [(Str.ofString "self", .ref it), (Str.ofString "identifiers", .ref nm)]) (mods := []) R G kS ?M ?ho ?hcd ?hb ?hl ?_ ?c2 ?c3 ?c4 ?c5
  case M => exact List.forall_mem_nil _
  case ho => k_is
  case hcd => k_is
  case hb => first | exact BindsTo.of_eq rfl | exact binds_K (G.X.keeps kS) rfl (by k_is) rfl rfl rfl | (rcases (by assumption : KwC _ _ _ _) with rfl | ⟨rfl, rfl, rfl⟩ <;> first | exact BindsTo.of_eq rfl | exact binds_K (G.X.keeps kS) rfl (by k_is) rfl rfl rfl)
  case hl => exact locs rfl
  case c2 => exact rfl
  case c3 => exact rfl
  case c4 => exact rfl
  case c5 => decide
  intro g L h₁ Hg Sg F N X ⟨p, loose, mean, mg, mb, T0⟩ l1
  have I := inst_sub I fun b o e => Hg b o e (by simp)
  have hn := Hg _ _ hn (by simp)
  obtain ⟨gt1, gt2, gn, gm, Igr⟩ := gran_sec X
  obtain ⟨i1, i2, i3, i4, i5, i6, i7, Itg⟩ := tg_name X
  obtain ⟨ha1, ha2⟩ := ha
  obtain ⟨hmu1, hmu2⟩ := hmu
  have la : (Str.ofString (toString am)).length ≤ 10 := KT.len_num ha1 (by omega)
  have lm : (Str.ofString (toString mu)).length ≤ 10 := KT.len_num hmu1 (by omega)
  have ls : (Str.ofString "second").length ≤ 10 := by decide
  clear kS
  (try dsimp only)
  k_steps
  rename _ = Txt.join _ _ => hz; subst hz
  exact h _ _ _ (fun b o e => Fr.keep (by k_asm) b o (Hg b o e (by simp))) (by
    unfold keyS
    simp only [Str.length_append, empty_len, slash_len, List.cons_append, List.nil_append]
    omega)
theorem c_keys_2 {it dit nm : Addr} {ns x y : Str} {am mu : Int} {t1 t2 t3 u1 u2 u3 tx ty : Tok} {n n' : Nat} (R : Rm A 14) (G : Gd w hB) (kS : Sub hB s.heap)
  (I : W.InstAt s.heap it (instObj 518 dit) 518 (some (itemD w ns am mu t1 t2 t3 u1 u2 u3 n))) (hn : s.heap.get? nm = some { cls := .type "tuple", data := .seq ([.str x tx, .str y ty] : List Value).toArray n' })
  (hx : x.length ≤ 1000) (hy : y.length ≤ 1000) (hns : ns.length ≤ 1000) (ha : 0 ≤ am ∧ am ≤ 1000) (hmu : 0 ≤ mu ∧ mu ≤ 1000)
  (h : ∀ h' tk' t', Sub s.heap h' → (keyS ns [x, y] am mu "second").length ≤ 10000 → Q (.str (keyS ns [x, y] am mu "second") t') {s with heap := h', toks := tk'}) :
  wpAny (model PySem.Challenge.rw_jn0050_01.row.prog w) A (call (.ref 458) [.ref it, .ref nm] []) Q E s := by
  obtain ⟨ha, da, fa, ga, ua⟩ := A
  have hha := R.hd
  dsimp only at hha
  subst hha
  refine' enter (binds := [(Str.ofString "self", .ref it), (Str.ofString "identifiers", .ref nm)]) (mods := []) R G kS ?M ?ho ?hcd ?hb ?hl ?_ ?c2 ?c3 ?c4 ?c5
  case M => exact List.forall_mem_nil _
  case ho => k_is
  case hcd => k_is
  case hb => first | exact BindsTo.of_eq rfl | exact binds_K (G.X.keeps kS) rfl (by k_is) rfl rfl rfl | (rcases (by assumption : KwC _ _ _ _) with rfl | ⟨rfl, rfl, rfl⟩ <;> first | exact BindsTo.of_eq rfl | exact binds_K (G.X.keeps kS) rfl (by k_is) rfl rfl rfl)
  case hl => exact locs rfl
  case c2 => exact rfl
  case c3 => exact rfl
  case c4 => exact rfl
  case c5 => decide
  intro g L h₁ Hg Sg F N X ⟨p, loose, mean, mg, mb, T0⟩ l1
  have I := inst_sub I fun b o e => Hg b o e (by simp)
  have hn := Hg _ _ hn (by simp)
  obtain ⟨gt1, gt2, gn, gm, Igr⟩ := gran_sec X
  obtain ⟨i1, i2, i3, i4, i5, i6, i7, Itg⟩ := tg_name X
  obtain ⟨ha1, ha2⟩ := ha
  obtain ⟨hmu1, hmu2⟩ := hmu
  have la : (Str.ofString (toString am)).length ≤ 10 := KT.len_num ha1 (by omega)
  have lm : (Str.ofString (toString mu)).length ≤ 10 := KT.len_num hmu1 (by omega)
  have ls : (Str.ofString "second").length ≤ 10 := by decide
  clear kS
  (try dsimp only)
  k_steps
  rename _ = Txt.join _ _ => hz; subst hz
  exact h _ _ _ (fun b o e => Fr.keep (by k_asm) b o (Hg b o e (by simp))) (by
    unfold keyS
    simp only [Str.length_append, empty_len, slash_len, List.cons_append, List.nil_append]
    omega)
theorem c_keym_1 {it dit nm : Addr} {ns x : Str} {am mu : Int} {t1 t2 t3 u1 u2 u3 tx : Tok} {n n' : Nat} (R : Rm A 14) (G : Gd w hB) (kS : Sub hB s.heap)
  (I : W.InstAt s.heap it (instObj 501 dit) 501 (some (itemD w ns am mu t1 t2 t3 u1 u2 u3 n))) (hn : s.heap.get? nm = some { cls := .type "tuple", data := .seq ([.str x tx] : List Value).toArray n' })
  (hx : x.length ≤ 1000) (hns : ns.length ≤ 1000) (ha : 0 ≤ am ∧ am ≤ 1000) (hmu : 0 ≤ mu ∧ mu ≤ 1000)
  (h : ∀ h' tk' t', Sub s.heap h' → (keyS ns [x] am mu "minute").length ≤ 10000 → Q (.str (keyS ns [x] am mu "minute") t') {s with heap := h', toks := tk'}) :
  wpAny (model PySem.Challenge.rw_jn0050_01.row.prog w) A (call (.ref 458) [.ref it, .ref nm] []) Q E s := by
  obtain ⟨ha, da, fa, ga, ua⟩ := A
  have hha := R.hd
  dsimp only at hha
  subst hha
  refine' enter (binds := [(Str.ofString "self", .ref it), (Str.ofString "identifiers", .ref nm)]) (mods := []) R G kS ?M ?ho ?hcd ?hb ?hl ?_ ?c2 ?c3 ?c4 ?c5
  case M => exact List.forall_mem_nil _
  case ho => k_is
  case hcd => k_is
  case hb => first | exact BindsTo.of_eq rfl | exact binds_K (G.X.keeps kS) rfl (by k_is) rfl rfl rfl | (rcases (by assumption : KwC _ _ _ _) with rfl | ⟨rfl, rfl, rfl⟩ <;> first | exact BindsTo.of_eq rfl | exact binds_K (G.X.keeps kS) rfl (by k_is) rfl rfl rfl)
  case hl => exact locs rfl
  case c2 => exact rfl
  case c3 => exact rfl
  case c4 => exact rfl
  case c5 => decide
  intro g L h₁ Hg Sg F N X ⟨p, loose, mean, mg, mb, T0⟩ l1
  have I := inst_sub I fun b o e => Hg b o e (by simp)
  have hn := Hg _ _ hn (by simp)
  obtain ⟨gt1, gt2, gn, gm, Igr⟩ := gran_min X
  obtain ⟨i1, i2, i3, i4, i5, i6, i7, Itg⟩ := tg_name X
  obtain ⟨ha1, ha2⟩ := ha
  obtain ⟨hmu1, hmu2⟩ := hmu
  have la : (Str.ofString (toString am)).length ≤ 10 := KT.len_num ha1 (by omega)
  have lm : (Str.ofString (toString mu)).length ≤ 10 := KT.len_num hmu1 (by omega)
  have ls : (Str.ofString "minute").length ≤ 10 := by decide
  clear kS
  (try dsimp only)
  k_steps
  rename _ = Txt.join _ _ => hz; subst hz
  exact h _ _ _ (fun b o e => Fr.keep (by k_asm) b o (Hg b o e (by simp))) (by
    unfold keyS
    simp only [Str.length_append, empty_len, slash_len, List.cons_append, List.nil_append]
    omega)
theorem c_keym_2 {it dit nm : Addr} {ns x y : Str} {am mu : Int} {t1 t2 t3 u1 u2 u3 tx ty : Tok} {n n' : Nat} (R : Rm A 14) (G : Gd w hB) (kS : Sub hB s.heap)
  (I : W.InstAt s.heap it (instObj 501 dit) 501 (some (itemD w ns am mu t1 t2 t3 u1 u2 u3 n))) (hn : s.heap.get? nm = some { cls := .type "tuple", data := .seq ([.str x tx, .str y ty] : List Value).toArray n' })
  (hx : x.length ≤ 1000) (hy : y.length ≤ 1000) (hns : ns.length ≤ 1000) (ha : 0 ≤ am ∧ am ≤ 1000) (hmu : 0 ≤ mu ∧ mu ≤ 1000)
  (h : ∀ h' tk' t', Sub s.heap h' → (keyS ns [x, y] am mu "minute").length ≤ 10000 → Q (.str (keyS ns [x, y] am mu "minute") t') {s with heap := h', toks := tk'}) :
  wpAny (model PySem.Challenge.rw_jn0050_01.row.prog w) A (call (.ref 458) [.ref it, .ref nm] []) Q E s := by
  obtain ⟨ha, da, fa, ga, ua⟩ := A
  have hha := R.hd
  dsimp only at hha
  subst hha
  refine' enter (binds := [(Str.ofString "self", .ref it), (Str.ofString "identifiers", .ref nm)]) (mods := []) R G kS ?M ?ho ?hcd ?hb ?hl ?_ ?c2 ?c3 ?c4 ?c5
  case M => exact List.forall_mem_nil _
  case ho => k_is
  case hcd => k_is
  case hb => first | exact BindsTo.of_eq rfl | exact binds_K (G.X.keeps kS) rfl (by k_is) rfl rfl rfl | (rcases (by assumption : KwC _ _ _ _) with rfl | ⟨rfl, rfl, rfl⟩ <;> first | exact BindsTo.of_eq rfl | exact binds_K (G.X.keeps kS) rfl (by k_is) rfl rfl rfl)
  case hl => exact locs rfl
  case c2 => exact rfl
  case c3 => exact rfl
  case c4 => exact rfl
  case c5 => decide
  intro g L h₁ Hg Sg F N X ⟨p, loose, mean, mg, mb, T0⟩ l1
  have I := inst_sub I fun b o e => Hg b o e (by simp)
  have hn := Hg _ _ hn (by simp)
  obtain ⟨gt1, gt2, gn, gm, Igr⟩ := gran_min X
  obtain ⟨i1, i2, i3, i4, i5, i6, i7, Itg⟩ := tg_name X
  obtain ⟨ha1, ha2⟩ := ha
  obtain ⟨hmu1, hmu2⟩ := hmu
  have la : (Str.ofString (toString am)).length ≤ 10 := KT.len_num ha1 (by omega)
  have lm : (Str.ofString (toString mu)).length ≤ 10 := KT.len_num hmu1 (by omega)
  have ls : (Str.ofString "minute").length ≤ 10 := by decide
  clear kS
  (try dsimp only)
  k_steps
  rename _ = Txt.join _ _ => hz; subst hz
  exact h _ _ _ (fun b o e => Fr.keep (by k_asm) b o (Hg b o e (by simp))) (by
    unfold keyS
    simp only [Str.length_append, empty_len, slash_len, List.cons_append, List.nil_append]
    omega)
end

end
section
section
variable {w : World} {A : Around} {E : Value → Shared → Prop} {s : Shared} {Q : Value → Shared → Prop} {hB : Heap}
theorem c_einit {x dx : Addr} {e at' : Int} {te ta : Tok} (R : Rm A 6) (G : Gd w hB) (kS : Sub hB s.heap) (hx : s.heap.get? x = some (instObj 568 dx)) (hd : s.heap.get? dx = some (dictOf [] 0)) (fx : hB.get? x = none) (fd : hB.get? dx = none) (ne : @Ne Nat x dx)
  (he : e.natAbs < 1000000) (ha : at'.natAbs < 1000000)
  (h : ∀ h' tk', Chg [x, dx] s.heap h' → h'.get? x = some (instObj 568 dx) → (∃ n te ta t1 t2, h'.get? dx = some (dictOf [⟨PyData.keyHash w.params "atime", .str "atime" ta, .int at' t1⟩, ⟨PyData.keyHash w.params "expiry", .str "expiry" te, .int (at' + e) t2⟩] n)) → Q .none {s with heap := h', toks := tk'}) :
  codeAny (model PySem.Challenge.rw_jn0050_01.row.prog w) A (.call (.ref 565) ⟨[.ref x, .int e te, .int at' ta], []⟩) (fun r s' => match r with | .ok (.ret v) => Q v s' | .ok _ => False | .error e => E e s') s := by
  obtain ⟨ha, da, fa, ga, ua⟩ := A
  have hha := R.hd
  dsimp only at hha
  subst hha
  refine' enterC (binds := [(Str.ofString "self", .ref x), (Str.ofString "expiry", .int e te), (Str.ofString "atime", .int at' ta)]) (mods := [(x, instObj 568 dx), (dx, dictOf [] 0)]) R G kS ?M ?ho ?hcd ?hb ?hl ?_ ?c2 ?c3 ?c4 ?c5
  case M => exact List.forall_mem_cons.mpr ⟨⟨hx, fx⟩, List.forall_mem_cons.mpr ⟨⟨hd, fd⟩, List.forall_mem_nil _⟩⟩
  case ho => k_is
  case hcd => k_is
  case hb => first | exact BindsTo.of_eq rfl | exact binds_K (G.X.keeps kS) rfl (by k_is) rfl rfl rfl | (rcases (by assumption : KwC _ _ _ _) with rfl | ⟨rfl, rfl, rfl⟩ <;> first | exact BindsTo.of_eq rfl | exact binds_K (G.X.keeps kS) rfl (by k_is) rfl rfl rfl)
  case hl => exact locs rfl
  case c2 => exact rfl
  case c3 => exact rfl
  case c4 => exact rfl
  case c5 => decide
  intro g L h₁ Hg Sg F N X ⟨p, loose, mean, mg, mb, T0⟩ l1
  clear kS
  (try dsimp only)
  k_steps
  exact h _ _ (Chg.of Hg (by k_asm)) (News.get (by k_asm) (by k_mem)) ⟨_, _, _, _, _, News.get (by k_asm) (by k_mem)⟩
theorem u_entry {e at' : Int} {te ta : Tok} {g : Heap} {L : Addr} {m : Str → Option Value} {news : List (Addr × Obj)} (R : Rm A 8) (G : Gd w hB) (Sg : Sub hB g) (F : Fr g L s.heap m) (N : News g L s.heap news) (X : (Mine.hd.heap_39 w.params).In g) (he : e.natAbs < 1000000) (ha : at'.natAbs < 1000000)
  (h : ∀ h' tk' r dr n ta te t1 t2, Fr g L h' m → News g L h' ((r, instObj 568 dr) :: (dr, dictOf [⟨PyData.keyHash w.params "atime", .str "atime" ta, .int at' t1⟩, ⟨PyData.keyHash w.params "expiry", .str "expiry" te, .int (at' + e) t2⟩] n) :: news) → (∀ p ∈ news, @Ne Nat p.1 r) → (∀ p ∈ news, @Ne Nat p.1 dr) → @Ne Nat r dr → Q (.ref r) {s with heap := h', toks := tk'}) :
  wpAny (model PySem.Challenge.rw_jn0050_01.row.prog w) A (call (.ref 568) [.int e te, .int at' ta] []) Q E s := by
  refine' call_cls (fI := 565) F X N ?k4 ?k5 ?k6 fun x dx h1 F1 N1 l1 l2 => ?_
  case k4 => k_is
  case k5 => k_is
  case k6 => k_is
  have hx := N1 _ (.head _)
  have hd := N1 _ (.tail _ (.head _))
  have nb : ∀ {b}, g.get? b = none → hB.get? b = none := fun {b} e => by
    cases q : hB.get? b with
    | none => rfl
    | some o => have := Sg b o q; rw [e] at this; cases this
  refine' codeAny_mono (c_einit (Q := fun v s' => v = .none ∧ Q (.ref x) s') ?R G (fun b o q => F1.keep b o (Sg b o q)) hx.1 hd.1 (nb hx.2.2) (nb hd.2.2) (Nat.ne_of_gt l2) he ha fun h' tk' C e1 e2 => ⟨rfl, ?_⟩) ?m
  case R => exact ⟨R.hd, by have := R.dep; show A.depth + 1 + 6 < 900; omega, by have := R.un; show A.units + _ + 20 * 6 < 9000; exact cu_room this (cu_type _) (by decide)⟩
  case m => intro r s' q; exact q
  obtain ⟨n, te, ta, t1, t2, e2⟩ := e2
  refine h h' tk' x dx n ta te t1 t2 (Fr.chg F1 N1 C (by
    intro y hy
    rcases List.mem_cons.mp hy with rfl | hy
    · exact ⟨_, .head _⟩
    · exact List.mem_singleton.mp hy ▸ ⟨_, .tail _ (.head _)⟩)) (fun p hp => ?_) (fun p hp => Nat.ne_of_lt (Nat.lt_trans (l1 p hp) l2)) (fun p hp => Nat.ne_of_lt (l1 p hp)) (Nat.ne_of_gt l2)
  rcases List.mem_cons.mp hp with rfl | hp
  · exact ⟨e1, hx.2⟩
  rcases List.mem_cons.mp hp with rfl | hp
  · exact ⟨e2, hd.2⟩
  have q1 : p.1 < dx := l1 p hp
  have z := N1 p (.tail _ (.tail _ hp))
  refine ⟨C _ _ z.1 fun q => ?_, z.2⟩
  rcases List.mem_cons.mp q with q | q
  · exact absurd q (Nat.ne_of_lt (Nat.lt_trans q1 l2))
  · exact absurd (List.mem_singleton.mp q) (Nat.ne_of_lt q1)
end

end

theorem reg_H5 : True := by
  (k_with "callWith ref" => (((with_reducible show wpAny _ _ (callWith _ (Value.ref 568) _ _ _) _ _ _); k_dflt (refine' callWith_K (f := .ref 568) ?k1z0H5 ?k2z0H5 ?_; (case k1z0H5 => k_asm); (case k2z0H5 => k_is)))))
  (k_with "call ref" => (((with_reducible show wpAny _ _ (call (Value.ref 568) _ _) _ _ _); k_dflt (refine' u_entry ?Rz1H5 ?Gz1H5 ?Sgz1H5 ?Fz1H5 ?Nz1H5 ?Xz1H5 ?hez1H5 ?haz1H5 ?_; (case Rz1H5 => exact Rm.mono (Rm.deeper _ (by assumption)) (by decide)); (case Gz1H5 => assumption); (case Sgz1H5 => assumption); (case Fz1H5 => k_asm); (case Nz1H5 => k_asm); (case Xz1H5 => k_asm); (case hez1H5 => omega); (case haz1H5 => omega)); intro h'z1H5 tk'z1H5 rz1H5 drz1H5 nz1H5 taz1H5 tez1H5 t1z1H5 t2z1H5 F'z1H5 N'z1H5 a1z1H5 a2z1H5 a3z1H5; (replace a1z1H5 := allNe_of a1z1H5); (replace a2z1H5 := allNe_of a2z1H5); (dsimp +zetaDelta only [AllNe] at a1z1H5 a2z1H5))))
  trivial
section
section
open TI TT TLg
variable {w : World} {A₀ : Around} {E : Value → Shared → Prop} {s' : Shared} {g h : Heap} {L a e : Addr} {m : Str → Option Value} {name : Str} {scope : Scope} {cd : Value} {l : List Env} {frs new : List (Addr × Obj)} {K : Frag} {p : Program} {loose : List Str} {mean : ExcName → Option Value} {mg mb : Str → Option Value}
  {b₀ : Stmt} {suite : List Stmt} {pos np : Pos} {rest : List ExceptHandler} {Q : Flow → Shared → Prop}
theorem catch_idx (hfr : A₀.frames = some l) (Fs : Frs l frs) (hx : Heap.NewExc h s'.heap e "IndexError") (F : Fr g L h m) (N : News g L h (new ++ frs)) (hap : ∀ p ∈ new, p.1 ∉ L :: frs.map (·.1)) (X : K.In g) (T : Top p loose mean mg mb g)
    (ex : nsIn K mainGlobals (Str.ofString "IndexError") = some none)
    (k : ∀ h' frs', SameUp frs frs' → Frs l frs' → Fr g L h' m → News g L h' (new ++ frs') → wpAny (model PySem.Challenge.rw_jn0050_01.row.prog w) ((A₀.deeper (envOf name scope L a cd)).mark (some (.ref e))) (execs (b₀ :: suite) (envOf name scope L a cd)) Q E { s' with heap := h' })
    (hk : scope.kind = .function) (hxk : (envOf name scope L a cd).kindOf (Str.ofString "IndexError") = some .globalImplicit)
    (hE : PassesOwnAt (model PySem.Challenge.rw_jn0050_01.row.prog w) ((A₀.deeper (envOf name scope L a cd)).mark (some (.ref e))) (A₀.deeper (envOf name scope L a cd)) (envOf name scope L a cd) E) :
    wpAny (model PySem.Challenge.rw_jn0050_01.row.prog w) (A₀.deeper (envOf name scope L a cd)) (noteFrame (.ref e) (envOf name scope L a cd))
      (fun _ s₂ => wpAny (model PySem.Challenge.rw_jn0050_01.row.prog w) (A₀.deeper (envOf name scope L a cd)) (setFlight (.ref e) none) (fun _ s₃ =>
        wpAny (model PySem.Challenge.rw_jn0050_01.row.prog w) (A₀.deeper (envOf name scope L a cd)) (handleBy (.ref e) (envOf name scope L a cd) (.ExceptHandler (some (.Name (Str.ofString "IndexError") np)) none (b₀ :: suite) pos :: rest)) Q E s₃) E s₂) E s' := by
  refine noted_newA hfr Fs hx F N hap (fun h1 frs1 SU1 Fs1 H1 => ?_) hk
  refine H1.land fun h2 H2 => ?_
  refine wpAny_handleBy_builtin (X := "IndexError") (T := "IndexError") (b := true) (isSubtype_of_subB (by decide +kernel)) (isSubtype_of_subB (by decide +kernel)) (isSubtype_of_subB (by decide +kernel)) (wpAny_passesOwnAt hE (name_B H2.held.fr X (topRead_of T) ex Boot.IndexError (by decide) ⟨rfl, H2.isA, ?_⟩ hk hxk (by decide)))
  rw [if_pos rfl]
  exact H2.lands fun h3 F3 N3 => wpAny_passesOwnAt hE (k h3 frs1 SU1 Fs1 F3 N3)
end
section
variable {w : World} {A : Around} {E : Value → Shared → Prop} {s : Shared} {g : Heap} {L : Addr} {m : Str → Option Value} {news : List (Addr × Obj)}
theorem stored_self (kvs : List (Str × Value)) (k : Str) (v : Value) : valueAt (stored kvs k v) k = some v := by rw [valueAt_stored, if_pos rfl]
theorem d_item {value slice : PySem.Expr} {d : Addr} {o : Obj} {kvs : List (Str × Value)} {k : Str} {t : Tok} {v : Value} {Q : Value → Shared → Prop} (N : News g L s.heap news) (hp : (d, o) ∈ news) (hd : o.IsDictOf (PySem.strKind PySem.Challenge.rw_jn0050_01.row.prog w) kvs) (hl : valueAt kvs k = some v) (h : Q v { s with toks := s.toks + 1 })
    (hs : subscripted slice false (.ref d) (.str k t) = operate [.ref d, .str k t] (getItem (.ref d) (.str k t)) := by with_unfolding_all rfl) :
    wpAny (model PySem.Challenge.rw_jn0050_01.row.prog w) A (subscriptTail value slice (.ref d) (.str k t)) Q E s :=
  have hD := kda_dict N hp hd
  tail_any hD.typeIs slot_dict_getitem.lookup (wpAny_getItem_of (strKind_is _ _ k t) hD.mapOf hl h) hs
theorem list_item {value slice : PySem.Expr} {l : Addr} {vs : List Value} {k : Int} {u : Tok} {x : Value} {Q : Value → Shared → Prop} (hl : s.heap.IsList l vs.toArray)
    (h0 : 0 ≤ k) (hfit : k < 1000000) (hx : vs[k.toNat]? = some x) (h : Q x s)
    (hs : subscripted slice false (.ref l) (.int k u) = operate [.ref l, .int k u] (getItem (.ref l) (.int k u)) := by with_unfolding_all rfl) :
    wpAny (model PySem.Challenge.rw_jn0050_01.row.prog w) A (subscriptTail value slice (.ref l) (.int k u)) Q E s :=
  tail_any hl.typeIs slot_list_getitem.lookup (wpAny_getItem_list hl h0 (by omega) (by simpa using hx) h) hs
theorem list_out {value slice : PySem.Expr} {l : Addr} {vs : List Value} {k : Int} {u : Tok} {Q : Value → Shared → Prop} (hA : A.handled = none) (hl : s.heap.IsList l vs.toArray)
    (h0 : 0 ≤ k) (hfit : k < 1000000) (hx : vs[k.toNat]? = none)
    (hE : ∀ h' tk e, Heap.NewExc s.heap h' e "IndexError" → E (.ref e) { s with heap := h', toks := tk })
    (hs : subscripted slice false (.ref l) (.int k u) = operate [.ref l, .int k u] (getItem (.ref l) (.int k u)) := by with_unfolding_all rfl) :
    wpAny (model PySem.Challenge.rw_jn0050_01.row.prog w) A (subscriptTail value slice (.ref l) (.int k u)) Q E s :=
  item_outK hA hl (.inr (by have := List.getElem?_eq_none_iff.mp hx; simp; omega)) (by omega) (by omega) hE hs
theorem list_add {a b : Addr} {vs ws : List Value} {Q : Value → Shared → Prop} (F : Fr g L s.heap m) (N : News g L s.heap news) (ha : s.heap.IsList a (List.toArray vs)) (hb : s.heap.IsList b (List.toArray ws)) (hz : vs.length + ws.length ≤ 1000000)
    (h : ∀ D h', Fr g L h' m → News g L h' ((D, W.listOf (List.toArray (vs ++ ws)) 0) :: news) → (∀ p ∈ news, p.1 < D) → Q (.ref D) { s with heap := h' }) : wpAny (model PySem.Challenge.rw_jn0050_01.row.prog w) A (binaryOp .Add (.ref a) (.ref b)) Q E s :=
  kmk_add_lit F N ha hb rfl h (by rw [sizeLine_eq]; simpa using Nat.le_trans hz (by decide))
theorem list_mul {l : Addr} {x : Int} {u : Tok} {v : Value} {ep : Nat} {Q : Value → Shared → Prop} (F : Fr g L s.heap m) (N : News g L s.heap news) (hm : (l, W.listOf (List.toArray [v]) ep) ∈ news) (h0 : 0 ≤ x) (h1 : x ≤ 100)
    (h : ∀ D h', Fr g L h' m → News g L h' ((D, W.listOf (List.replicate x.toNat v).toArray 0) :: news) → (∀ p ∈ news, p.1 < D) → Q (.ref D) { s with heap := h' }) : wpAny (model PySem.Challenge.rw_jn0050_01.row.prog w) A (binaryOp .Mult (.ref l) (.int x u)) Q E s :=
  KMa.mul (vs := [v]) F N ⟨_, (N _ hm).1, rfl, ep, rfl⟩ (by omega) (by omega) (by simp; omega) (by
    generalize x.toNat = k
    induction k with
    | zero => rfl
    | succ k ih => rw [List.replicate_succ, List.flatten_cons, ih, List.replicate_succ]; rfl) h
end
section
open TI
theorem AllLt.mem {D : Addr} : ∀ {l : List (Addr × Obj)}, AllLt D l → ∀ p ∈ l, p.1 < D
  | [], _, _, h => nomatch h
  | _ :: _, x, p, h => by
    rcases List.mem_cons.mp h with rfl | h
    · exact x.1
    · exact AllLt.mem x.2 p h
theorem hap2 {g h : Heap} {L x y : Addr} {ox oy : Obj} {frs : List (Addr × Obj)} (N : News g L h ((x, ox) :: (y, oy) :: frs)) (h1 : AllLt x frs) (h2 : ∀ p ∈ frs, p.1 ≠ y) : ∀ p ∈ [(x, ox), (y, oy)], p.1 ∉ L :: frs.map (·.1) := by
  intro p hp q
  rcases List.mem_cons.mp q with q | q
  · refine (N p ?_).2.1 q
    rcases List.mem_cons.mp hp with rfl | hp
    · exact .head _
    · exact List.mem_singleton.mp hp ▸ .tail _ (.head _)
  · obtain ⟨r, hr, q⟩ := List.mem_map.mp q
    rcases List.mem_cons.mp hp with rfl | hp
    · have := AllLt.mem h1 r hr
      rw [show r.1 = x from q] at this
      exact Nat.lt_irrefl _ this
    · rw [List.mem_singleton.mp hp] at q
      exact h2 r hr q
theorem up_ne {d : Addr} : ∀ {a b : List (Addr × Obj)}, SameUp a b → (∀ p ∈ a, p.1 ≠ d) → ∀ p ∈ b, p.1 ≠ d := fun SU h p hp => by
  obtain ⟨x, hx, q⟩ := SU.fwd p hp
  rw [q]; exact h x hx
end

end

theorem reg_H6 : True := by
  (k_with "getMethod ref" => (((with_reducible show wpAny _ _ (getMethod (Value.ref _) (Str.ofString "setdefault") _) _ _ _); k_dflt (refine kob_method PySem.F.slot_dict_setdefault PySem.F.type_dict_setdefault (by k_asm) (by k_mem) (by assumption) ?_))))
  (k_with "call builtin:dict.setdefault" => ((k_dflt (first
  | refine kob_setdef_there (by k_asm) (by k_mem) (by assumption) (by assumption) (strKind_is _ _ _ _) (PySem.F.args_dict_setdefault_3 _ _ _) (by assumption) (by rw [sizeLine_eq]; omega) ?_
  | (refine' kob_setdef_new ?Fz1H6 ?Nz1H6 ?Uz1H6 ?dz1H6 ?oz1H6 (strKind_is _ _ _ _) (PySem.F.args_dict_setdefault_3 _ _ _) ?lz1H6 ?zz1H6 ?_; (case Fz1H6 => k_asm); (case Nz1H6 => k_asm); (case Uz1H6 => k_updF); (case dz1H6 => assumption); (case oz1H6 => assumption); (case lz1H6 => assumption); (case zz1H6 => rw [sizeLine_eq]; omega); intro h'z1H6 o'z1H6 F'z1H6 N'z1H6 hd'z1H6; (try dsimp only at N'z1H6))))))
  (k_with "subscriptTail" => (((with_reducible show wpAny _ _ (subscriptTail _ _ (Value.ref _) (Value.str _ _)) _ _ _); k_dflt (refine d_item (by k_asm) (by k_mem) (by assumption) (by first | assumption | exact stored_self _ _ _) ?_))))
  (k_with "subscriptTail" => (((with_reducible show wpAny _ _ (subscriptTail _ _ (Value.ref _) (Value.int _ _)) _ _ _); k_dflt (first
  | refine list_item (by is_list) (by omega) (by omega) (by assumption) ?_
  | (refine list_out (by rfl) (by is_list) (by omega) (by omega) (by first | assumption | rfl) ?_; intro h'z3H6 tk'z3H6 e'z3H6 X'z3H6)))))
  (k_with "binaryOp Mult ref int" => ((k_dflt (refine list_mul (by k_asm) (by k_asm) (by k_mem) (by omega) (by omega) ?_); intro D'z4H6 h'z4H6 F'z4H6 N'z4H6 l1z4H6; (try k_lt l1z4H6))))
  (k_with "binaryOp Add ref ref" => ((k_dflt (refine' list_add ?Fz5H6 ?Nz5H6 ?az5H6 ?bz5H6 ?zz5H6 ?_; (case Fz5H6 => k_asm); (case Nz5H6 => k_asm); (case az5H6 => is_list); (case bz5H6 => is_list); (case zz5H6 => simp only [List.length_replicate, List.length_nil]; omega)); intro D'z5H6 h'z5H6 F'z5H6 N'z5H6 l1z5H6; (try k_lt l1z5H6))))
  (k_with "setItem ref str" => (((with_reducible show wpAny _ _ (setItem (Value.ref _) (Value.str _ _) (Value.ref _)) _ _ _); k_dflt (refine' kda_set ?Fz6H6 ?Nz6H6 ?Uz6H6 ?dz6H6 (strKind_is _ _ _ _) ?zz6H6 ?_; (case Fz6H6 => k_asm); (case Nz6H6 => k_asm); (case Uz6H6 => k_updF); (case dz6H6 => assumption); (case zz6H6 => rw [sizeLine_eq]; first | omega | (refine Nat.le_trans (stored_length_le ..) ?_; omega))); intro kqth kqto kqtF kqtN kqthd; (try dsimp only at kqtN))))
  (k_with "k_all" => (assumption))
  (k_with "noteFrame ref" => ((k_dflt (refine' catch_idx (new := [_, _]) ?frz8H6 ?Fsz8H6 ?X'z8H6 ?Fz8H6 ?Nz8H6 ?hapz8H6 ?Xz8H6 ?Tz8H6 ?exz8H6 ?_ ?hkz8H6 ?hxz8H6 ?hEz8H6; (case frz8H6 => exact rfl); (case Fsz8H6 => assumption); (case X'z8H6 => assumption); (case Fz8H6 => k_asm); (case Nz8H6 => k_asm); (case Xz8H6 => k_asm); (case Tz8H6 => k_asm); (case exz8H6 => k_is); (case hkz8H6 => exact rfl); (case hxz8H6 => exact rfl); (case hEz8H6 => passes_own); (case hapz8H6 => exact hap2 (by k_asm) (by first | assumption | exact And.right (by assumption)) (by assumption))); intro h'z8H6 frs'z8H6 SU'z8H6 Fs'z8H6 F'z8H6 N'z8H6; (simp only [List.cons_append, List.nil_append] at N'z8H6); (have hfE'z8H6 := up_ne SU'z8H6 (by assumption)))))
  trivial
section
section
open TI
noncomputable def acqOK (l : List (Int × Int)) (T limit expiry amount : Int) : Bool := match l[(limit - amount).toNat]? with
  | some x => !(decide (T - expiry ≤ x.1))
  | none => true
noncomputable def acqR (f : Str → Option (List (Int × Int))) (key : Str) (T limit expiry amount : Int) : Bool := !(decide (limit < amount)) && acqOK ((f key).getD []) T limit expiry amount
noncomputable def acqF (f : Str → Option (List (Int × Int))) (key : Str) (T limit expiry amount : Int) : Str → Option (List (Int × Int)) :=
  if acqR f key T limit expiry amount = true then put f key (List.replicate amount.toNat (T, T + expiry) ++ (f key).getD []) else f
theorem AllLt.ne {D : Addr} : ∀ {l : List (Addr × Obj)}, AllLt D l → AllNe D l
  | [], _ => trivial
  | _ :: _, x => ⟨Nat.ne_of_lt x.1, AllLt.ne x.2⟩
theorem AllNe.mem' {D : Addr} : ∀ {l : List (Addr × Obj)}, AllNe D l → ∀ p ∈ l, p.1 ≠ D
  | [], _, _, h => nomatch h
  | _ :: _, x, p, h => by
    rcases List.mem_cons.mp h with rfl | h
    · exact x.1
    · exact AllNe.mem' x.2 p h
theorem notav {hs g : Heap} {x dE : Addr} {oE : Obj} {frs frs' : List (Addr × Obj)} {av : List Addr} (hav : ∀ y ∈ av, ∃ o, hs.get? y = some o) (Hg : ∀ b o, hs.get? b = some o → b ∉ ((dE, oE) :: frs).map (fun x => x.1) → g.get? b = some o)
    (e : g.get? x = none) (n1 : @Ne Nat dE x) (n2 : AllNe x frs') (SU : SameUp frs frs') : x ∉ av := fun hx => by
  obtain ⟨o, ho⟩ := hav x hx
  have := Hg x o ho fun q => by
    rcases List.mem_cons.mp q with q | q
    · exact n1 q.symm
    · obtain ⟨p, hp, q⟩ := List.mem_map.mp q
      obtain ⟨sl, hb⟩ := SU.back p hp
      exact AllNe.mem' n2 _ hb q
  rw [e] at this; cases this
theorem ents_rep {w : World} {av : List Addr} {h : Heap} {r : Addr} {x : Int × Int} (E : EntryAt w av h r x) {vs : List Value} {l : List (Int × Int)} (H : Ents w av h vs l) : ∀ n, Ents w av h (List.replicate n (.ref r) ++ vs) (List.replicate n x ++ l)
  | 0 => by simpa using H
  | n + 1 => by rw [List.replicate_succ, List.replicate_succ]; exact ⟨E, ents_rep E H n⟩
theorem EK.set {w : World} {av : List Addr} {h : Heap} {kvs kvs' : List (Str × Value)} {f : Str → Option (List (Int × Int))} {b c : Nat} {k : Str} {a : Addr} {l : List (Int × Int)} (H : EK w av h kvs f b) (hv : ∀ x, valueAt kvs' x = if x = k then some (.ref a) else valueAt kvs x) (hE : EvL w av h a l) (h1 : kvs'.length ≤ c) (h2 : l.length ≤ c) (h3 : b ≤ c) : EK w av h kvs' (Mine.put f k l) c :=
  ⟨h1, fun x => by
    rw [hv]
    unfold Mine.put
    by_cases q : x = k
    · rw [if_pos q, if_pos q]; exact ⟨a, rfl, hE⟩
    · rw [if_neg q, if_neg q]; exact H.2.1 x, fun x l' e => by
    unfold Mine.put at e
    split at e
    · cases e; exact h2
    · exact Nat.le_trans (H.2.2 x l' e) h3⟩
theorem getD_len {f : Str → Option (List (Int × Int))} {b : Nat} (h : ∀ k l, f k = some l → l.length ≤ b) (k : Str) : ((f k).getD []).length ≤ b := by
  cases e : f k with
  | none => exact Nat.zero_le _
  | some l => exact h k l e
theorem acq_yes {w : World} {av : List Addr} {hs g h' : Heap} {L dE D r dr : Addr} {m : Str → Option Value} {news frs : List (Addr × Obj)} {oE o' : Obj} {kvs kvs' : List (Str × Value)} {f : Str → Option (List (Int × Int))} {b n n' ep : Nat} {key : Str} {x : Int × Int} {ta te t1 t2 : Tok} {vs : List Value}
    (H : EK w av hs kvs f b) (hdE : dE ∈ av) (hfa : ∀ p ∈ frs, p.1 ∈ av) (Hg : ∀ b o, hs.get? b = some o → b ∉ ((dE, oE) :: frs).map (fun x => x.1) → g.get? b = some o) (F : Fr g L h' m) (N : News g L h' news)
    (hD : (D, W.listOf (List.toArray (List.replicate n (.ref r) ++ vs)) ep) ∈ news) (hr : (r, instObj 568 dr) ∈ news) (hdr : (dr, dictOf [⟨PyData.keyHash w.params "atime", .str "atime" ta, .int x.1 t1⟩, ⟨PyData.keyHash w.params "expiry", .str "expiry" te, .int x.2 t2⟩] n') ∈ news)
    (ho : (dE, o') ∈ news) (hd : o'.IsDictOf (PySem.strKind PySem.Challenge.rw_jn0050_01.row.prog w) kvs') (nD : D ∉ av) (nr : r ∉ av) (ndr : dr ∉ av)
    (hvs : Stay av hs h' → Ents w av h' vs ((f key).getD [])) (hn : n ≤ 50) (hlen : kvs'.length ≤ kvs.length + 2) (hv : ∀ y, valueAt kvs' y = if y = key then some (.ref D) else valueAt kvs y) :
    AtE w av h' dE (put f key (List.replicate n x ++ (f key).getD [])) (b + 60) := by
  have St : Stay av hs h' := fun b o e q => F.keep b o (Hg b o e fun q' => by
    rcases List.mem_cons.mp q' with q' | q'
    · exact q (by rw [q']; exact hdE)
    · obtain ⟨p, hp, e⟩ := List.mem_map.mp q'
      exact q (e ▸ hfa p hp))
  refine AtE.of (N _ ho).1 hd (EK.set (H.on St) hv ⟨_, ep, (N _ hD).1, nD, ents_rep ⟨dr, n', ta, te, t1, t2, InstAt.of_news N hr hdr, nr, ndr⟩ (hvs St) n⟩ ?_ ?_ (Nat.le_add_right _ _))
  · have := H.1; omega
  · have := getD_len H.2.2 key
    rw [List.length_append, List.length_replicate]; omega
theorem ents_get {w : World} {av : List Addr} {h : Heap} {vs : List Value} {l : List (Int × Int)} (E : Ents w av h vs l) (i : Nat) {y : Value} (e : vs[i]? = some y) : ∃ (r : Addr) (x : Int × Int), y = Value.ref r ∧ l[i]? = some x ∧ EntryAt w av h r x :=
  Ents.ind (P := fun vs l => ∀ (i : Nat) {y : Value}, vs[i]? = some y → ∃ (r : Addr) (x : Int × Int), y = Value.ref r ∧ l[i]? = some x ∧ EntryAt w av h r x) (fun i y e => by simp at e)
    (fun {r vs x l} a _ ih i y e => by cases i with | zero => exact ⟨r, x, (Option.some.inj e).symm, rfl, a⟩ | succ i => exact ih i e) E i e
end

end
section
section
open TI
theorem News.fresh {g h : Heap} {L a : Addr} {o : Obj} {news : List (Addr × Obj)} (N : News g L h news) (hm : (a, o) ∈ news) : g.get? a = none := (N _ hm).2.2
variable {w : World} {A : Around} {E : Value → Shared → Prop} {s : Shared} {Q : Value → Shared → Prop} {hB : Heap}
theorem c_acq {a : SA} {T : Int} {key : Str} {tk tl te ta : Tok} {limit expiry amount : Int} {kvs : List (Str × Value)} {l : List Env} {frs : List (Addr × Obj)} {oE : Obj} {f : Str → Option (List (Int × Int))} {av : List Addr} {b : Nat} (R : Rm A 14) (G : Gd w hB) (kS : Sub hB s.heap) (S : Sto w hB s.heap a T)
  (hfr : A.frames = some l) (Fs : Frs l frs) (hfs : ∀ p ∈ frs, s.heap.get? p.1 = some p.2 ∧ hB.get? p.1 = none) (hfo : ∀ p ∈ frs, p.1 ∉ a.st :: a.dst :: a.fp ∧ p.1 ≠ a.dE)
  (hE0 : s.heap.get? a.dE = some oE) (hE : oE.IsDictOf (PySem.strKind PySem.Challenge.rw_jn0050_01.row.prog w) kvs) (H : EK w av s.heap kvs f b) (hb : b ≤ 100000) (hdE : a.dE ∈ av) (hfa : ∀ p ∈ frs, p.1 ∈ av) (hav : ∀ y ∈ av, ∃ o, s.heap.get? y = some o)
  (hl : 0 ≤ limit ∧ limit ≤ 50) (ha : 0 ≤ amount ∧ amount ≤ 50) (he : 0 < expiry ∧ expiry ≤ 100000) (hT : 0 ≤ T ∧ T ≤ 100000)
  (h : ∀ h' tk' frs', Chg (a.dE :: frs.map (·.1)) s.heap h' → SameUp frs frs' → (∀ p ∈ frs', h'.get? p.1 = some p.2) → AtE w av h' a.dE (acqF f key T limit expiry amount) (b + 60) → Q (.bool (acqR f key T limit expiry amount)) {s with heap := h', toks := tk'}) :
  wpAny (model PySem.Challenge.rw_jn0050_01.row.prog w) A (call (.ref 631) [.ref a.st, .str key tk, .int limit tl, .int expiry te] [(Str.ofString "amount", .int amount ta)]) Q E s := by
  obtain ⟨hA, da, fa, ga, ua⟩ := A
  have hha := R.hd
  dsimp only at hha hfr
  subst hha
  subst hfr
  refine' enter (binds := [(Str.ofString "self", .ref a.st), (Str.ofString "key", .str key tk), (Str.ofString "limit", .int limit tl), (Str.ofString "expiry", .int expiry te), (Str.ofString "amount", .int amount ta)]) (mods := (a.dE, oE) :: frs) R G kS ?M ?ho ?hcd ?hb ?hl ?_ ?c2 ?c3 ?c4 ?c5
  case M => exact List.forall_mem_cons.mpr ⟨⟨hE0, S.fr.2.2⟩, hfs⟩
  case ho => k_is
  case hcd => k_is
  case hb => first | exact BindsTo.of_eq rfl | exact binds_K (G.X.keeps kS) rfl (by k_is) rfl rfl rfl
  case hl => exact locs rfl
  case c2 => exact rfl
  case c3 => exact rfl
  case c4 => exact rfl
  case c5 => decide
  intro g L h₁ Hg Sg F N X ⟨p, loose, mean, mg, mb, T0⟩ l1
  have Sg' : Sto w hB g a T := S.on fun b hb o e => Hg b o e (by
    intro q
    rcases List.mem_cons.mp q with q | q
    · exact (S.off b hb).2.2 q
    · obtain ⟨p, hp, q⟩ := List.mem_map.mp q
      exact (hfo p hp).1 (q ▸ hb))
  have Stg : Stay av s.heap g := fun b o e q => Hg b o e fun q' => by
    rcases List.mem_cons.mp q' with q' | q'
    · exact q (by rw [q']; exact hdE)
    · obtain ⟨p, hp, e⟩ := List.mem_map.mp q'
      exact q (e ▸ hfa p hp)
  obtain ⟨I, C, -, ⟨ne1, ne2, ne3⟩, -, ⟨lo1, lo2, lo3⟩, fnl, -⟩ := Sg'
  have hfE : ∀ p ∈ frs, p.1 ≠ a.dE := fun p hp => (hfo p hp).2
  have SU₀ := SameUp.refl frs
  have hk : kvs.length ≤ 100000 := Nat.le_trans H.1 hb
  obtain ⟨hl0, hl1⟩ := hl
  obtain ⟨ha0, ha1⟩ := ha
  obtain ⟨he0, he1⟩ := he
  obtain ⟨hT0, hT1⟩ := hT
  clear S kS hE0
  (try dsimp only)
  by_cases hla : limit < amount
  · have hR : acqR f key T limit expiry amount = false := by unfold acqR; simp [hla]
    have hF : acqF f key T limit expiry amount = f := by unfold acqF; rw [if_neg (by rw [hR]; decide)]
    rw [hF, hR] at h
    k_steps
    all_goals (try (exact absurd hla (by assumption)))
    refine h _ _ _ (Chg.of Hg (by k_asm)) SU₀ (fun p hp => (News.get (by k_asm) (List.mem_cons_of_mem _ hp))) ?_
    exact AtE.of (News.get (by k_asm) (.head _)) hE ((H.on Stg).on (Stay.sub (Fr.keep (by k_asm))) |>.mono (Nat.le_add_right _ _))
  · have hF : acqR f key T limit expiry amount = acqOK ((f key).getD []) T limit expiry amount := by unfold acqR; simp [hla]
    cases hv : valueAt kvs key with
    | none =>
      have hf : f key = none := by
        have := H.2.1 key
        rw [hv] at this
        cases e : f key with
        | none => rfl
        | some l => rw [e] at this; obtain ⟨_, q, _⟩ := this; cases q
      have hR : acqR f key T limit expiry amount = true := by rw [hF, hf]; rfl
      have hF' : acqF f key T limit expiry amount = _ := if_pos hR
      rw [hF', hR] at h
      k_steps
      all_goals (try (exact absurd (by assumption) hla))
      refine' h _ _ _ (Chg.of Hg (by k_asm)) (by assumption) (fun p hp => ?sl) (acq_yes (x := (T, T + expiry)) H hdE hfa Hg (by k_asm) (by k_asm) (by k_mem) (by k_mem) (by k_mem) (by k_mem) (by assumption) (notav hav Hg (News.fresh (by k_asm) (by k_mem)) (by omega) (AllLt.ne (And.right (And.right (And.right (And.right (And.right (And.right (by with_reducible assumption)))))))) (by with_reducible assumption)) (notav hav Hg (News.fresh (by k_asm) (by k_mem)) (by omega) (And.right (And.right (by with_reducible assumption))) (by with_reducible assumption)) (notav hav Hg (News.fresh (by k_asm) (by k_mem)) (by omega) (And.right (And.right (by with_reducible assumption))) (by with_reducible assumption)) (fun _ => by rw [hf]; exact trivial) (by omega) (Nat.le_trans (stored_length_le ..) (Nat.succ_le_succ (stored_length_le ..))) (fun y => by rw [valueAt_stored, valueAt_stored]; by_cases q : y = key <;> simp [q]))
      case sl =>
        refine' News.get ?n ?m
        case n => k_asm
        case m => repeat (first | exact hp | apply List.Mem.tail)
    | some v =>
      have hf := H.2.1 key
      rw [hv] at hf
      cases hf2 : f key with
      | none => rw [hf2] at hf; cases hf
      | some l0 =>
        rw [hf2] at hf
        obtain ⟨x, e, vs, ep, hx, nx, hvs⟩ := hf
        cases e
        have hxg := Stg _ _ hx nx
        have hvl : vs.length ≤ 100000 := by rw [hvs.length]; exact Nat.le_trans (H.2.2 _ _ hf2) hb
        have hxl : g.IsList x vs.toArray := ⟨_, hxg, rfl, ep, rfl⟩
        cases hi : vs[(limit - amount).toNat]? with
        | none =>
          have hi2 : l0[(limit - amount).toNat]? = none := by
            have := hvs.length
            have z := List.getElem?_eq_none_iff.mp hi
            exact List.getElem?_eq_none_iff.mpr (by omega)
          have hR : acqR f key T limit expiry amount = true := by rw [hF, hf2]; unfold acqOK; rw [show (some l0).getD [] = l0 from rfl, hi2]
          have hF' : acqF f key T limit expiry amount = _ := if_pos hR
          rw [hF', hR] at h
          k_steps
          all_goals (try (exact absurd (by assumption) hla))
          refine' h _ _ _ (Chg.of Hg (by k_asm)) (by assumption) (fun p hp => ?sl) (acq_yes (x := (T, T + expiry)) H hdE hfa Hg (by k_asm) (by k_asm) (by k_mem) (by k_mem) (by k_mem) (by k_mem) (by assumption) (notav hav Hg (News.fresh (by k_asm) (by k_mem)) (by omega) (AllLt.ne (And.right (And.right (And.right (And.right (And.right (And.right (by with_reducible assumption)))))))) (by with_reducible assumption)) (notav hav Hg (News.fresh (by k_asm) (by k_mem)) (by omega) (And.right (And.right (by with_reducible assumption))) (by with_reducible assumption)) (notav hav Hg (News.fresh (by k_asm) (by k_mem)) (by omega) (And.right (And.right (by with_reducible assumption))) (by with_reducible assumption)) (fun St => by rw [hf2]; exact hvs.on St) (by omega) (Nat.le_succ_of_le (stored_length_le ..)) (fun y => valueAt_stored ..))
          case sl =>
            refine' News.get ?n ?m
            case n => k_asm
            case m => repeat (first | exact hp | apply List.Mem.tail)
        | some y =>
          obtain ⟨r0, xx, rfl, hx2, hent⟩ := ents_get hvs _ hi
          obtain ⟨dr0, n0, tb, tc, u1, u2, Ie, na1, na2⟩ := hent.on Stg
          have hok : acqOK l0 T limit expiry amount = !(decide (T - expiry ≤ xx.1)) := by unfold acqOK; rw [hx2]
          k_steps
          all_goals (try (exact absurd (by assumption) hla))
          · have hc : T - expiry ≤ xx.1 := by first | assumption | omega
            have hR : acqR f key T limit expiry amount = false := by rw [hF, hf2, show (some l0).getD [] = l0 from rfl, hok]; simp [hc]
            have hF' : acqF f key T limit expiry amount = f := by unfold acqF; rw [if_neg (by rw [hR]; decide)]
            rw [hF', hR] at h
            refine' h _ _ _ (Chg.of Hg (by k_asm)) SU₀ (fun p hp => ?sl) (AtE.of (News.get (by k_asm) (by k_mem)) hE ((H.on Stg).on (Stay.sub (Fr.keep (by k_asm))) |>.mono (Nat.le_add_right _ _)))
            case sl =>
              refine' News.get ?n ?m
              case n => k_asm
              case m => repeat (first | exact hp | apply List.Mem.tail)
          · have hc : ¬ T - expiry ≤ xx.1 := by first | assumption | omega
            have hR : acqR f key T limit expiry amount = true := by rw [hF, hf2, show (some l0).getD [] = l0 from rfl, hok]; simp [hc]
            have hF' : acqF f key T limit expiry amount = _ := if_pos hR
            rw [hF', hR] at h
            refine' h _ _ _ (Chg.of Hg (by k_asm)) (by assumption) (fun p hp => ?sl) (acq_yes (x := (T, T + expiry)) H hdE hfa Hg (by k_asm) (by k_asm) (by k_mem) (by k_mem) (by k_mem) (by k_mem) (by assumption) (notav hav Hg (News.fresh (by k_asm) (by k_mem)) (by omega) (AllLt.ne (And.right (And.right (And.right (And.right (And.right (And.right (by with_reducible assumption)))))))) (by with_reducible assumption)) (notav hav Hg (News.fresh (by k_asm) (by k_mem)) (by omega) (And.right (And.right (by with_reducible assumption))) (by with_reducible assumption)) (notav hav Hg (News.fresh (by k_asm) (by k_mem)) (by omega) (And.right (And.right (by with_reducible assumption))) (by with_reducible assumption)) (fun St => by rw [hf2]; exact hvs.on St) (by omega) (Nat.le_succ_of_le (stored_length_le ..)) (fun y => valueAt_stored ..))
            case sl =>
              refine' News.get ?n ?m
              case n => k_asm
              case m => repeat (first | exact hp | apply List.Mem.tail)
end

end
section
abbrev icls (c : Bool) : Addr := match c with | true => 501 | false => 518
abbrev gname (c : Bool) : String := match c with | true => "minute" | false => "second"
abbrev gsec (c : Bool) : Int := match c with | true => 60 | false => 1
structure ItemAt (w : World) (h : Heap) (it : Addr) (ns : Str) (am mu : Int) (c : Bool) : Prop where
  inst : ∃ dit t1 t2 t3 u1 u2 u3 n, W.InstAt h it (instObj (icls c) dit) (icls c) (some (itemD w ns am mu t1 t2 t3 u1 u2 u3 n))
  hns : ns.length ≤ 1000
  ham : 0 ≤ am ∧ am ≤ 50
  hmu : 0 < mu ∧ mu ≤ 50
noncomputable def NamesAt (h : Heap) (nm : Addr) (xs : List Str) : Prop :=
  (∃ x t n, xs = [x] ∧ x.length ≤ 1000 ∧ h.get? nm = some { cls := .type "tuple", data := .seq ([.str x t] : List Value).toArray n }) ∨
  (∃ x y t u n, xs = [x, y] ∧ x.length ≤ 1000 ∧ y.length ≤ 1000 ∧ h.get? nm = some { cls := .type "tuple", data := .seq ([.str x t, .str y u] : List Value).toArray n })
section
variable {w : World} {A : Around} {E : Value → Shared → Prop} {s : Shared} {Q : Value → Shared → Prop} {hB : Heap} {g h' : Heap} {it nm : Addr} {ns : Str} {am mu : Int} {c : Bool} {xs : List Str} {L : Addr} {m : Str → Option Value} {news : List (Addr × Obj)}
theorem ItemAt.sub (I : ItemAt w g it ns am mu c) (k : Sub g h') : ItemAt w h' it ns am mu c := by
  obtain ⟨dit, t1, t2, t3, u1, u2, u3, n, I'⟩ := I.inst
  exact ⟨⟨dit, t1, t2, t3, u1, u2, u3, n, inst_sub I' k⟩, I.hns, I.ham, I.hmu⟩
theorem NamesAt.sub (I : NamesAt g nm xs) (k : Sub g h') : NamesAt h' nm xs := by
  rcases I with ⟨x, t, n, a, b, e⟩ | ⟨x, y, t, u, n, a, b, c, e⟩
  · exact .inl ⟨x, t, n, a, b, k _ _ e⟩
  · exact .inr ⟨x, y, t, u, n, a, b, c, k _ _ e⟩
theorem it_amount {expr : Bool} (I : ItemAt w g it ns am mu c) (F : Fr g L s.heap m) (X : (Mine.hd.heap_39 w.params).In g) (h : ∀ t, Q (.int am t) {s with toks := s.toks + 1}) : wpAny (model PySem.Challenge.rw_jn0050_01.row.prog w) A (getAttr (.ref it) (Str.ofString "amount") expr) Q E s := by
  obtain ⟨⟨dit, t1, t2, t3, u1, u2, u3, n, I⟩, -, -, -⟩ := I
  cases c
  · refine' get_own F X (inst_fr I F) ?k4 ?k5 ?k6 ?k7 ?k8 ?k9 (h u2)
    case k4 => k_is
    case k5 => k_is
    case k6 => k_is
    case k7 => k_is
    case k8 => k_get
    case k9 => k_handed
  · refine' get_own F X (inst_fr I F) ?k4 ?k5 ?k6 ?k7 ?k8 ?k9 (h u2)
    case k4 => k_is
    case k5 => k_is
    case k6 => k_is
    case k7 => k_is
    case k8 => k_get
    case k9 => k_handed
theorem it_meth_key {pl : Sem Bool} {Q : Value × List Value → Shared → Prop} (I : ItemAt w g it ns am mu c) (F : Fr g L s.heap m) (X : (Mine.hd.heap_39 w.params).In g) (h : Q (.ref 458, [.ref it]) s) : wpAny (model PySem.Challenge.rw_jn0050_01.row.prog w) A (getMethod (.ref it) (Str.ofString "key_for") pl) Q E s := by
  obtain ⟨⟨dit, t1, t2, t3, u1, u2, u3, n, I⟩, -, -, -⟩ := I
  cases c
  · refine' method_inst (f := 458) F X (inst_fr I F) ?k4 ?k5 ?k6 ?k7 h
    case k4 => k_is
    case k5 => k_is
    case k6 => k_is
    case k7 => k_get
  · refine' method_inst (f := 458) F X (inst_fr I F) ?k4 ?k5 ?k6 ?k7 h
    case k4 => k_is
    case k5 => k_is
    case k6 => k_is
    case k7 => k_get
theorem it_meth_exp {pl : Sem Bool} {Q : Value × List Value → Shared → Prop} (I : ItemAt w g it ns am mu c) (F : Fr g L s.heap m) (X : (Mine.hd.heap_39 w.params).In g) (h : Q (.ref 451, [.ref it]) s) : wpAny (model PySem.Challenge.rw_jn0050_01.row.prog w) A (getMethod (.ref it) (Str.ofString "get_expiry") pl) Q E s := by
  obtain ⟨⟨dit, t1, t2, t3, u1, u2, u3, n, I⟩, -, -, -⟩ := I
  cases c
  · refine' method_inst (f := 451) F X (inst_fr I F) ?k4 ?k5 ?k6 ?k7 h
    case k4 => k_is
    case k5 => k_is
    case k6 => k_is
    case k7 => k_get
  · refine' method_inst (f := 451) F X (inst_fr I F) ?k4 ?k5 ?k6 ?k7 h
    case k4 => k_is
    case k5 => k_is
    case k6 => k_is
    case k7 => k_get
theorem u_exp (R : Rm A 12) (G : Gd w hB) (Sg : Sub hB g) (F : Fr g L s.heap m) (N : News g L s.heap news) (I : ItemAt w g it ns am mu c)
  (h : ∀ h' tk' t', Sub s.heap h' → Fr g L h' m → News g L h' news → Q (.int (gsec c * mu) t') {s with heap := h', toks := tk'}) :
  wpAny (model PySem.Challenge.rw_jn0050_01.row.prog w) A (call (.ref 451) [.ref it] []) Q E s := by
  obtain ⟨⟨dit, t1, t2, t3, u1, u2, u3, n, I⟩, -, -, -⟩ := I
  cases c
  · exact c_exp1 R G (fun b o e => F.keep b o (Sg b o e)) (inst_sub I F.keep) fun h' tk' t' K => h h' tk' t' K (Fr.grow F K) (News.keepsS N K)
  · exact c_exp60 R G (fun b o e => F.keep b o (Sg b o e)) (inst_sub I F.keep) fun h' tk' t' K => h h' tk' t' K (Fr.grow F K) (News.keepsS N K)
theorem u_key (R : Rm A 14) (G : Gd w hB) (Sg : Sub hB g) (F : Fr g L s.heap m) (N : News g L s.heap news) (I : ItemAt w g it ns am mu c) (Nm : NamesAt g nm xs)
  (h : ∀ h' tk' t', Fr g L h' m → News g L h' news → (keyS ns xs am mu (gname c)).length ≤ 10000 → Q (.str (keyS ns xs am mu (gname c)) t') {s with heap := h', toks := tk'}) :
  wpAny (model PySem.Challenge.rw_jn0050_01.row.prog w) A (call (.ref 458) [.ref it, .ref nm] []) Q E s := by
  obtain ⟨⟨dit, t1, t2, t3, u1, u2, u3, n, I⟩, hns, ⟨ha1, ha2⟩, ⟨hm1, hm2⟩⟩ := I
  have kS : Sub hB s.heap := fun b o e => F.keep b o (Sg b o e)
  rcases Nm with ⟨x, t, n', rfl, hx, e⟩ | ⟨x, y, t, u, n', rfl, hx, hy, e⟩
  · cases c
    · exact c_keys_1 R G kS (inst_sub I F.keep) (F.keep _ _ e) hx hns ⟨ha1, by omega⟩ ⟨by omega, by omega⟩ fun h' tk' t' K l => h h' tk' t' (Fr.grow F K) (News.keepsS N K) l
    · exact c_keym_1 R G kS (inst_sub I F.keep) (F.keep _ _ e) hx hns ⟨ha1, by omega⟩ ⟨by omega, by omega⟩ fun h' tk' t' K l => h h' tk' t' (Fr.grow F K) (News.keepsS N K) l
  · cases c
    · exact c_keys_2 R G kS (inst_sub I F.keep) (F.keep _ _ e) hx hy hns ⟨ha1, by omega⟩ ⟨by omega, by omega⟩ fun h' tk' t' K l => h h' tk' t' (Fr.grow F K) (News.keepsS N K) l
    · exact c_keym_2 R G kS (inst_sub I F.keep) (F.keep _ _ e) hx hy hns ⟨ha1, by omega⟩ ⟨by omega, by omega⟩ fun h' tk' t' K l => h h' tk' t' (Fr.grow F K) (News.keepsS N K) l
end
abbrev limD (w : World) (st : Addr) (t : Tok) (n : Nat) : Obj := dictOf [⟨PyData.keyHash w.params "storage", .str "storage" t, .ref st⟩] n
structure Ctx (w : World) (hB : Heap) (a : SA) (C lim it nm : Addr) (ns : Str) (am mu : Int) (c : Bool) (xs : List Str) (T : Int) : Prop where
  sto : Sto w hB hB a T
  fpin : ∀ b ∈ a.fp, ∃ o, hB.get? b = some o
  lim : ∃ dl t n, W.InstAt hB lim (instObj C dl) C (some (limD w a.st t n))
  item : ItemAt w hB it ns am mu c
  names : NamesAt hB nm xs
  hT : 0 ≤ T ∧ T ≤ 100000

end

theorem reg_J0 : True := by
  (k_with "getAttr ref" => (((with_reducible show wpAny _ _ (getAttr (Value.ref _) (PySem.Str.ofString "amount") _) _ _ _); k_dflt (refine' it_amount ?Iz0J0 ?Fz0J0 ?Xz0J0 ?_; (case Iz0J0 => assumption); (case Fz0J0 => k_asm); (case Xz0J0 => k_asm)); intro t'z0J0)))
  (k_with "getMethod ref" => (((with_reducible show wpAny _ _ (getMethod (Value.ref _) (PySem.Str.ofString "key_for") _) _ _ _); k_dflt (refine' it_meth_key ?Iz1J0 ?Fz1J0 ?Xz1J0 ?_; (case Iz1J0 => assumption); (case Fz1J0 => k_asm); (case Xz1J0 => k_asm)))))
  (k_with "getMethod ref" => (((with_reducible show wpAny _ _ (getMethod (Value.ref _) (PySem.Str.ofString "get_expiry") _) _ _ _); k_dflt (refine' it_meth_exp ?Iz2J0 ?Fz2J0 ?Xz2J0 ?_; (case Iz2J0 => assumption); (case Fz2J0 => k_asm); (case Xz2J0 => k_asm)))))
  (k_with "callWith ref" => (((with_reducible show wpAny _ _ (callWith _ (Value.ref 458) _ _ _) _ _ _); k_dflt (refine' callWith_K (f := .ref 458) ?k1z3J0 ?k2z3J0 ?_; (case k1z3J0 => k_asm); (case k2z3J0 => k_is)))))
  (k_with "callWith ref" => (((with_reducible show wpAny _ _ (callWith _ (Value.ref 451) _ _ _) _ _ _); k_dflt (refine' callWith_K0 (f := .ref 451) ?k1z4J0 ?k2z4J0 ?_; (case k1z4J0 => k_in); (case k2z4J0 => k_is)))))
  (k_with "call ref" => (((with_reducible show wpAny _ _ (call (Value.ref 458) _ _) _ _ _); k_dflt (refine' u_key ?Rz5J0 ?Gz5J0 ?Sgz5J0 ?Fz5J0 ?Nz5J0 ?Iz5J0 ?Nmz5J0 ?_; (case Rz5J0 => exact Rm.mono (Rm.deeper _ (by assumption)) (by decide)); (case Gz5J0 => assumption); (case Sgz5J0 => assumption); (case Fz5J0 => k_asm); (case Nz5J0 => k_asm); (case Iz5J0 => assumption); (case Nmz5J0 => assumption)); intro h'z5J0 tk'z5J0 t'z5J0 F'z5J0 N'z5J0 lkz5J0)))
  (k_with "call ref" => (((with_reducible show wpAny _ _ (call (Value.ref 451) _ _) _ _ _); k_dflt (refine' u_exp ?Rz6J0 ?Gz6J0 ?Sgz6J0 ?Fz6J0 ?Nz6J0 ?Iz6J0 ?_; (case Rz6J0 => exact Rm.mono (Rm.deeper _ (by assumption)) (by decide)); (case Gz6J0 => assumption); (case Sgz6J0 => assumption); (case Fz6J0 => k_asm); (case Nz6J0 => k_asm); (case Iz6J0 => assumption)); intro h'z6J0 tk'z6J0 t'z6J0 K'z6J0 F'z6J0 N'z6J0)))
  (k_with "callWith ref" => (((with_reducible show wpAny _ _ (callWith _ (Value.ref 601) _ _ _) _ _ _); k_dflt (refine' callWith_KW (f := .ref 601) ?k1z7J0 ?k2z7J0 ?k3z7J0 ?_; (case k1z7J0 => k_asm); (case k2z7J0 => k_is); (case k3z7J0 => exact rfl)))))
  (k_with "callWith ref" => (((with_reducible show wpAny _ _ (callWith _ (Value.ref 616) _ _ _) _ _ _); k_dflt (refine' callWith_K (f := .ref 616) ?k1z8J0 ?k2z8J0 ?_; (case k1z8J0 => k_asm); (case k2z8J0 => k_is)))))
  (k_with "callWith ref" => (((with_reducible show wpAny _ _ (callWith _ (Value.ref 623) _ _ _) _ _ _); k_dflt (refine' callWith_K (f := .ref 623) ?k1z9J0 ?k2z9J0 ?_; (case k1z9J0 => k_asm); (case k2z9J0 => k_is)))))
  (k_with "callWith ref" => (((with_reducible show wpAny _ _ (callWith _ (Value.ref 631) _ _ _) _ _ _); k_dflt (refine' callWith_KW (f := .ref 631) ?k1z10J0 ?k2z10J0 ?k3z10J0 ?_; (case k1z10J0 => k_asm); (case k2z10J0 => k_is); (case k3z10J0 => exact rfl)))))
  (k_with "callWith ref" => (((with_reducible show wpAny _ _ (callWith _ (Value.ref 638) _ _ _) _ _ _); k_dflt (refine' callWith_K (f := .ref 638) ?k1z11J0 ?k2z11J0 ?_; (case k1z11J0 => k_asm); (case k2z11J0 => k_is)))))
  (k_with "callWith ref" => (((with_reducible show wpAny _ _ (callWith _ (Value.ref 645) _ _ _) _ _ _); k_dflt (refine' callWith_K (f := .ref 645) ?k1z12J0 ?k2z12J0 ?_; (case k1z12J0 => k_asm); (case k2z12J0 => k_is)))))
  (k_with "callWith ref" => (((with_reducible show wpAny _ _ (callWith _ (Value.ref 653) _ _ _) _ _ _); k_dflt (refine' callWith_K (f := .ref 653) ?k1z13J0 ?k2z13J0 ?_; (case k1z13J0 => k_asm); (case k2z13J0 => k_is)))))
  (k_with "callWith ref" => (((with_reducible show wpAny _ _ (callWith _ (Value.ref 667) _ _ _) _ _ _); k_dflt (refine' callWith_K (f := .ref 667) ?k1z14J0 ?k2z14J0 ?_; (case k1z14J0 => k_asm); (case k2z14J0 => k_is)))))
  (k_with "callWith ref" => (((with_reducible show wpAny _ _ (callWith _ (Value.ref 674) _ _ _) _ _ _); k_dflt (refine' callWith_K (f := .ref 674) ?k1z15J0 ?k2z15J0 ?_; (case k1z15J0 => k_asm); (case k2z15J0 => k_is)))))
  trivial
section
noncomputable def bisF (p : Nat → Bool) : Nat → Nat → Nat → Nat
  | 0, lo, _ => lo
  | n + 1, lo, hi => if lo < hi then (if p ((lo + hi) / 2) = true then bisF p n ((lo + hi) / 2 + 1) hi else bisF p n lo ((lo + hi) / 2)) else lo
noncomputable def bisW (p : Nat → Bool) (lo hi : Nat) : Nat := bisF p (hi - lo) lo hi
theorem bisF_eq (p : Nat → Bool) : ∀ n m lo hi, hi - lo ≤ n → hi - lo ≤ m → bisF p n lo hi = bisF p m lo hi := by
  intro n
  induction n with
  | zero =>
    intro m lo hi h _
    cases m with
    | zero => rfl
    | succ m => exact (if_neg (by omega)).symm
  | succ n ih =>
    intro m lo hi h1 h2
    cases m with
    | zero => exact if_neg (by omega)
    | succ m =>
      show (if lo < hi then _ else _) = (if lo < hi then _ else _)
      by_cases h : lo < hi
      · rw [if_pos h, if_pos h, ih m _ hi (by omega) (by omega), ih m lo _ (by omega) (by omega)]
      · rw [if_neg h, if_neg h]
theorem bisW_eq (p : Nat → Bool) (lo hi : Nat) : bisW p lo hi = if lo < hi then (if p ((lo + hi) / 2) = true then bisW p ((lo + hi) / 2 + 1) hi else bisW p lo ((lo + hi) / 2)) else lo := by
  by_cases h : lo < hi
  · have : bisW p lo hi = bisF p (hi - lo - 1 + 1) lo hi := bisF_eq p _ _ lo hi (by omega) (by omega)
    rw [this]
    show (if lo < hi then _ else _) = (if lo < hi then _ else _)
    rw [if_pos h, if_pos h, bisF_eq p _ (hi - ((lo + hi) / 2 + 1)) _ hi (by omega) (by omega), bisF_eq p _ ((lo + hi) / 2 - lo) lo _ (by omega) (by omega)]
    rfl
  · have : hi - lo = 0 := by omega
    rw [if_neg h]
    show bisF p (hi - lo) lo hi = lo
    rw [this]
    rfl
theorem bisW_le (p : Nat → Bool) : ∀ n lo hi, hi - lo ≤ n → lo ≤ hi → lo ≤ bisW p lo hi ∧ bisW p lo hi ≤ hi := by
  intro n
  induction n with
  | zero => intro lo hi h1 h2; rw [bisW_eq, if_neg (by omega)]; omega
  | succ n ih =>
    intro lo hi h1 h2
    rw [bisW_eq]
    by_cases h : lo < hi
    · rw [if_pos h]
      split
      · have := ih ((lo + hi) / 2 + 1) hi (by omega) (by omega); omega
      · have := ih lo ((lo + hi) / 2) (by omega) (by omega); omega
    · rw [if_neg h]; omega
theorem mid_cast (lo hi : Nat) : ((lo : Int) + (hi : Int)).fdiv 2 = (((lo + hi) / 2 : Nat) : Int) := by
  rw [Int.fdiv_eq_ediv_of_nonneg _ (by decide)]; omega
noncomputable def KeyFn (w : World) (av : List Addr) (hB : Heap) (kf : Addr) (φ : Int × Int → Int) : Prop :=
  ∀ (s : Shared) (A : Around) (E Q : Value → Shared → Prop) (r : Addr) (x : Int × Int), Rm A 6 → Sub hB s.heap → EntryAt w av s.heap r x →
    (∀ h' tk t, Sub s.heap h' → Q (.int (φ x) t) { s with heap := h', toks := tk }) → wpAny (model PySem.Challenge.rw_jn0050_01.row.prog w) A (call (.ref kf) [.ref r] []) Q E s
section
variable {w : World} {A : Around} {E : Value → Shared → Prop} {s : Shared} {Q : Value → Shared → Prop} {hB : Heap}
theorem key_call {av : List Addr} {kf r : Addr} {φ : Int × Int → Int} {x : Int × Int} {g : Heap} {L : Addr} {m : Str → Option Value} {news : List (Addr × Obj)} (c : KeyFn w av hB kf φ) (R : Rm A 6) (Sg : Sub hB g) (F : Fr g L s.heap m) (N : News g L s.heap news) (I : EntryAt w av g r x)
    (h : ∀ h' tk t, Fr g L h' m → News g L h' news → Q (.int (φ x) t) { s with heap := h', toks := tk }) : wpAny (model PySem.Challenge.rw_jn0050_01.row.prog w) A (call (.ref kf) [.ref r] []) Q E s :=
  c s A E Q r x R (fun b o e => F.keep b o (Sg b o e)) (I.on (Stay.sub F.keep)) fun h' tk t k => h h' tk t (Fr.grow F k) (News.keepsS N k)
theorem len_l {l : Addr} {vs : List Value} (hl : s.heap.IsList l vs.toArray) (hf : vs.length ≤ 1000000) (h : ∀ t k, Q (.int vs.length t) { s with toks := k }) : wpAny (model PySem.Challenge.rw_jn0050_01.row.prog w) A (call (.builtin "len") [.ref l]) Q E s :=
  len_list hl (by simp; omega) (by simpa using h _ _)
end

end

theorem reg_J2 : True := by
  (k_with "call builtin:len" => (((with_reducible show wpAny _ _ (call (Value.builtin "len") [Value.ref _]) _ _ _); k_dflt (refine len_l (by is_list) (by omega) ?_); intro t'z0J2 k'z0J2)))
  (k_with "call ref" => ((k_dflt (refine' key_call ?cz1J2 ?Rz1J2 ?Sgz1J2 ?Fz1J2 ?Nz1J2 ?Iz1J2 ?_; (case cz1J2 => assumption); (case Rz1J2 => exact Rm.mono (Rm.deeper _ (by assumption)) (by decide)); (case Sgz1J2 => assumption); (case Fz1J2 => k_asm); (case Nz1J2 => k_asm); (case Iz1J2 => assumption)); intro h'z1J2 tk'z1J2 t'z1J2 F'z1J2 N'z1J2)))
  (k_with "eval Name" => ((k_dflt (refine' ld ?k1z2J2 ?k2z2J2 ?_; (case k1z2J2 => k_asm); (case k2z2J2 => first | exact rfl | assumption)))))
  (k_with "call builtin:dict.get" => ((k_dflt (refine kdg_get2 (by k_asm) (by k_mem) (by assumption) (by assumption) (strKind_is _ _ _ _) _ (by assumption) ?_); dsimp only [Option.getD_some, Option.getD_none])))
  trivial
section
section
variable {w : World} {A : Around} {E : Value → Shared → Prop} {s : Shared} {Q : Value → Shared → Prop} {hB : Heap}
theorem c_bis {av : List Addr} {rows kf : Addr} {x : Int} {tx : Tok} {φ : Int × Int → Int} {vs : List Value} {ep : Nat} {l : List (Int × Int)} (R : Rm A 12) (G : Gd w hB) (kS : Sub hB s.heap) (Kf : KeyFn w av hB kf φ) (hr : hB.get? rows = some (W.listOf (List.toArray vs) ep)) (He : Ents w av hB vs l) (hl : l.length ≤ 100000) (fnk : FnAt kf hB)
  (h : ∀ h' tk' t', Sub s.heap h' → Q (.int (bisW (fun i => decide (φ (l.getD i (0, 0)) < x)) 0 l.length) t') {s with heap := h', toks := tk'}) :
  wpAny (model PySem.Challenge.rw_jn0050_01.row.prog w) A (call (.ref 551) [.ref rows, .int x tx] [(Str.ofString "key", .ref kf)]) Q E s := by
  obtain ⟨ha, da, fa, ga, ua⟩ := A
  have hha := R.hd
  dsimp only at hha
  subst hha
  refine' enter (binds := [(Str.ofString "rows", .ref rows), (Str.ofString "x", .int x tx), (Str.ofString "key", .ref kf)]) (mods := []) R G kS ?M ?ho ?hcd ?hb ?hl ?_ ?c2 ?c3 ?c4 ?c5
  case M => exact List.forall_mem_nil _
  case ho => k_is
  case hcd => k_is
  case hb => first | exact BindsTo.of_eq rfl | exact binds_K (G.X.keeps kS) rfl (by k_is) rfl rfl rfl | (rcases (by assumption : KwC _ _ _ _) with rfl | ⟨rfl, rfl, rfl⟩ <;> first | exact BindsTo.of_eq rfl | exact binds_K (G.X.keeps kS) rfl (by k_is) rfl rfl rfl)
  case hl => exact locs rfl
  case c2 => exact rfl
  case c3 => exact rfl
  case c4 => exact rfl
  case c5 => decide
  intro g L h₁ Hg Sg F N X ⟨p, loose, mean, mg, mb, T0⟩ l1
  have hrl : g.IsList rows (List.toArray vs) := ⟨_, Sg _ _ hr, rfl, ep, rfl⟩
  have He' := He.on (h' := g) (Stay.sub Sg)
  have fng : FnAt kf g := let ⟨a1, a2, a3, a4, e⟩ := fnk; ⟨a1, a2, a3, a4, Sg _ _ e⟩
  have hvl : vs.length = l.length := He.length
  clear kS
  (try dsimp only)
  repeat' ((fail_if_success (with_reducible show wpAny _ _ (exec (Stmt.While _ _ _ _) _) _ _ _)); (first | (k_unfold; (try dsimp only)) | (k_end; wrow_close) | walk1 | (dsimp only; walk1) | (leave1; walk_say "STEP leave1"; try dsimp only) | fail "no step"))
  refine While_inv (n₀ := vs.length - 0) (fun n m' news' => news' = [] ∧ ∃ lo hi : Nat, ∃ tl th, n = hi - lo ∧ lo ≤ hi ∧ hi ≤ vs.length ∧ bisW (fun i => decide (φ (l.getD i (0, 0)) < x)) lo hi = bisW (fun i => decide (φ (l.getD i (0, 0)) < x)) 0 vs.length ∧
    m' (Str.ofString "rows") = some (.ref rows) ∧ m' (Str.ofString "x") = some (.int x tx) ∧ m' (Str.ofString "key") = some (.ref kf) ∧ m' (Str.ofString "lo") = some (.int lo tl) ∧ m' (Str.ofString "hi") = some (.int hi th)) (by k_asm) (by k_asm)
    ⟨rfl, 0, vs.length, _, _, rfl, Nat.zero_le _, Nat.le_refl _, rfl, rfl, rfl, rfl, rfl, rfl⟩ ?_
  rintro n m₁ news₁ h₁ tk₁ F₁ N₁ ⟨rfl, lo, hi, tl, th, rfl, hle, hhi, hbis, mr, mx, mk, ml, mh⟩
  by_cases hlt : lo < hi
  · have hml : (lo + hi) / 2 < vs.length := by omega
    obtain ⟨r, x0, hv, hx0, hent⟩ := ents_get He' ((lo + hi) / 2) (List.getElem?_eq_getElem hml)
    have hgd : l.getD ((lo + hi) / 2) (0, 0) = x0 := by rw [List.getD_eq_getElem?_getD, hx0]; rfl
    have hmc := mid_cast lo hi
    have hi' : vs[(((lo : Int) + (hi : Int)).fdiv 2).toNat]? = some (.ref r) := by rw [hmc, ← hv]; exact List.getElem?_eq_getElem hml
    have hm0 : 0 ≤ ((lo : Int) + (hi : Int)).fdiv 2 := by rw [hmc]; omega
    have hm1 : ((lo : Int) + (hi : Int)).fdiv 2 < 1000000 := by rw [hmc]; omega
    k_steps
    · exact fn_fr fng (by k_asm)
    · have hp : decide (φ (l.getD ((lo + hi) / 2) (0, 0)) < x) = true := by rw [hgd]; exact decide_eq_true (by assumption)
      rw [bisW_eq, if_pos hlt, if_pos hp] at hbis
      refine' WhileStep.intro (n' := hi - ((lo + hi) / 2 + 1)) ?F ?N (by omega) ?_
      case F => k_asm
      case N => k_asm
      exact ⟨rfl, (lo + hi) / 2 + 1, hi, _, th, rfl, by omega, hhi, hbis, mr, mx, mk, (by show some (Value.int (((lo : Int) + (hi : Int)).fdiv 2 + 1) _) = _; rw [hmc]; rfl), mh⟩
    · have hp : ¬ (decide (φ (l.getD ((lo + hi) / 2) (0, 0)) < x) = true) := by rw [hgd]; exact fun q => absurd (of_decide_eq_true q) (by assumption)
      rw [bisW_eq, if_pos hlt, if_neg hp] at hbis
      refine' WhileStep.intro (n' := (lo + hi) / 2 - lo) ?F ?N (by omega) ?_
      case F => k_asm
      case N => k_asm
      exact ⟨rfl, lo, (lo + hi) / 2, tl, _, rfl, by omega, by omega, hbis, mr, mx, mk, ml, (by show some (Value.int (((lo : Int) + (hi : Int)).fdiv 2) _) = _; rw [hmc])⟩
  · k_steps
    rw [bisW_eq, if_neg hlt, hvl] at hbis
    rw [← hbis] at h
    exact h _ _ _ fun b o e => Fr.keep (by k_asm) b o (Hg b o e (by simp))
end

end
section
abbrev lamQ (cn : Str) : Str := cn ++ ".<locals>." ++ "<lambda>"
noncomputable def TabOk (av : List Addr) (h : Heap) (P : Addr) (qual : Str) (pos : Pos) (ps : Array Value) : Prop := h.get? P = some (tabObj ps) ∧ TriplesOk ps.toList ∧
  (codeAmong pos ps.toList = none ∨ ∃ c', codeAmong pos ps.toList = some (.ref c') ∧ h.CodeRec (.ref c') qual ∧ c' ∉ av)
theorem CodeRec.stay {av : List Addr} {h h' : Heap} {c' : Addr} {qual : Str} (e : h.CodeRec (.ref c') qual) (n : c' ∉ av) (k : Stay av h h') : h'.CodeRec (.ref c') qual := by
  obtain ⟨c, oc, vs, t, e1, e2, r⟩ := e
  cases e1
  exact ⟨c', oc, vs, t, rfl, k _ _ e2 n, r⟩
noncomputable def NoAv (g : Heap) (av ms : List Addr) : Prop := ∀ ns : List (Addr × Obj), (∀ m ∈ ms, m ∈ ns.map (·.1)) → ∀ c', g.get? c' = none → (∀ q ∈ ns, q.1 < c') → c' ∉ av
theorem NoAv.of {hs g : Heap} {av ms : List Addr} (hav : ∀ y ∈ av, ∃ o, hs.get? y = some o) (Hg : ∀ b o, hs.get? b = some o → b ∉ ms → g.get? b = some o) : NoAv g av ms := fun ns hm c' e l hc => by
  obtain ⟨o, ho⟩ := hav c' hc
  by_cases q : c' ∈ ms
  · obtain ⟨p, hp, e'⟩ := List.mem_map.mp (hm c' q)
    have := l p hp
    rw [e'] at this
    exact Nat.lt_irrefl _ this
  · rw [Hg c' o ho q] at e; cases e
section
variable {w : World} {A : Around} {E : Value → Shared → Prop} {s : Shared} {hB : Heap}
theorem lam_new {Q : Value → Shared → Prop} {g : Heap} {L a c P : Addr} {m mg mb : Str → Option Value} {cn : Str} {cs : Scope} {news : List (Addr × Obj)} {g1 : Obj → List (Addr × Obj)} {p : Program} {loose : List Str} {mean : ExcName → Option Value} {params : Arguments} {body : PySem.Expr} {scope : Scope} {ps : Array Value} {pos : Pos} {av : List Addr}
    (F : Fr g L s.heap m) (N : News g L s.heap news) (T : Top p loose mean mg mb g) (C : CodeHd g c P) (U : UpdF P (tabObj ps) news g1) (ht : TriplesOk ps.toList)
    (hc : codeAmong pos ps.toList = none) (hf : ∀ c', g.get? c' = none → (∀ q ∈ news, q.1 < c') → c' ∉ av)
    (hdef : defaultsOf params (envX cn cs L a (.ref c) []) = ([], [])) (hcl : closureFor scope (envX cn cs L a (.ref c) []) = pure [])
    (h : ∀ f c' ctv pm ps' oc vs t h' tk, Fr g L h' m → News g L h' ((f, kla_obj "<lambda>" (lamQ cn) params body scope [] pm c' ctv) :: (c', oc) :: g1 (tabObj ps')) → oc.data = .fields vs → vs[1]? = some (.str (lamQ cn) t) → TriplesOk ps'.toList → codeAmong pos ps'.toList = some (.ref c') → c' ∉ av →
      (∀ q ∈ news, q.1 < c') → c' < f → Q (.ref f) { s with heap := h', toks := tk }) :
    wpAny (model PySem.Challenge.rw_jn0050_01.row.prog w) A (eval (.Lambda params body scope pos) (envX cn cs L a (.ref c) [])) Q E s := by
  refine kla_eval hdef (kla_nest F N T C rfl U ht hc hcl fun f c' oc vs t ctv h' tk F' N' e1 e2 l1 l2 => ?_)
  have hl : (ps ++ #[rawInt pos.line, rawInt pos.col, .ref c']).toList = ps.toList ++ [rawInt pos.line, rawInt pos.col, .ref c'] := by simp
  have hm := N' _ (.tail _ (.head _))
  exact h f c' ctv _ _ oc vs t h' tk F' N' e1 e2 (by rw [hl]; exact TriplesOk_snoc _ _ _ _ ht) (by rw [hl]; exact codeAmong_snoc _ ht hc) (hf c' hm.2.2 l1) l1 l2
theorem lam_hit {Q : Value → Shared → Prop} {g : Heap} {L a c P c' : Addr} {m mg mb : Str → Option Value} {cn : Str} {cs : Scope} {news : List (Addr × Obj)} {p : Program} {loose : List Str} {mean : ExcName → Option Value} {params : Arguments} {body : PySem.Expr} {scope : Scope} {ps : Array Value} {pos : Pos}
    (F : Fr g L s.heap m) (N : News g L s.heap news) (T : Top p loose mean mg mb g) (C : CodeHd g c P) (hm : (P, tabObj ps) ∈ news) (ht : TriplesOk ps.toList)
    (hc : codeAmong pos ps.toList = some (.ref c'))
    (hdef : defaultsOf params (envX cn cs L a (.ref c) []) = ([], [])) (hcl : closureFor scope (envX cn cs L a (.ref c) []) = pure [])
    (h : ∀ f ctv pm h' tk, Fr g L h' m → News g L h' ((f, kla_obj "<lambda>" (lamQ cn) params body scope [] pm c' ctv) :: news) → (∀ q ∈ news, q.1 < f) → Q (.ref f) { s with heap := h', toks := tk }) :
    wpAny (model PySem.Challenge.rw_jn0050_01.row.prog w) A (eval (.Lambda params body scope pos) (envX cn cs L a (.ref c) [])) Q E s :=
  kla_eval hdef (kla_hit F N T C rfl hm ht hc hcl fun f ctv h' tk F' N' l1 => h f ctv ((mg "__name__").getD .none) h' tk F' N' l1)
theorem enterL {kf c' : Addr} {nm qual : Str} {params : Arguments} {body : PySem.Expr} {scope : Scope} {pm ctv : Value} {pos : List Value} {binds : List (Str × Value)} {n : Nat} {Q : Value → Shared → Prop} (R : Rm A n) (G : Gd w hB) (k : Sub hB s.heap)
    (hf : hB.get? kf = some (kla_obj nm qual params body scope [] pm c' ctv)) (hc : hB.CodeRec (.ref c') qual)
    (hbind : bindArgs (kla_fn nm qual params body scope [] pm (.ref c') ctv) ⟨pos, []⟩ = pure binds) (hloc : ∀ y ∈ binds, scope.names.lookup y.1 = some .local)
    (h : ∀ L h₁, Fr s.heap L h₁ (fun y => binds.reverse.lookup y) → wpAny (model PySem.Challenge.rw_jn0050_01.row.prog w) (A.deeper (envX qual scope L kf (.ref c') [])) (eval body (envX qual scope L kf (.ref c') [])) Q (fun _ _ => False) { s with heap := h₁, toks := s.toks + binds.length })
    (hco : scope.isCoroutine = false) (hgen : scope.isGenerator = false) (hk : scope.kind = .function) (hcell : ∀ x ∈ scope.names, x.2 ≠ .cell) : wpAny (model PySem.Challenge.rw_jn0050_01.row.prog w) A (call (.ref kf) pos []) Q E s := by
  have G' := G.keeps k
  refine wpAny_call (kla_callFunE R.room (k _ _ hf) rfl hco hgen rfl (CodeRec.stay (av := []) hc (by simp) (Stay.sub k)) ?_)
  rw [hbind]
  refine wpAny_pure (wpAny_newFunctionEnv hcell hloc (fun h₁ hns hsb => ⟨(G'.nolimit).fresh _ hsb, ?_⟩) hk)
  show codeAny _ _ (.expr body (envX qual scope s.heap.objs.size kf (.ref c') [])) _ _
  have hk₁ : ∀ b o, s.heap.get? b = some o → h₁.get? b = some o := fun b o e => hsb.extBut b o (Nat.ne_of_lt (Heap.lt_size e)) (Heap.get?_push_of_some _ e)
  exact kla_codeExpr (wpAny_mono (h _ h₁ ⟨hns, hk₁, Nat.le_refl _⟩) (fun v s' q => q) fun _ _ y => y.elim)
end

end
section
section
variable {w : World} {hB : Heap}
abbrev parG : Arguments := { posonlyargs := [], args := [{ arg := Str.ofString "entry", annotation := none, pos := { line := 502, col := 75, endLine := 502, endCol := 80 } }], vararg := none, kwonlyargs := [], kw_defaults := [], kwarg := none, defaults := [] }
abbrev bodG : PySem.Expr := (Expr.UnaryOp UnaryOp.USub ((Expr.Name (Str.ofString "entry") { line := 502, col := 83, endLine := 502, endCol := 88 }).Attribute (Str.ofString "atime") { line := 502, col := 83, endLine := 502, endCol := 94 }) { line := 502, col := 82, endLine := 502, endCol := 94 })
abbrev scG : Scope := { kind := ScopeKind.function, names := [(Str.ofString "entry", NameKind.local)], isGenerator := false, isCoroutine := false }
abbrev posG : Pos := { line := 502, col := 68, endLine := 502, endCol := 94 }
theorem keyG {av : List Addr} {kf c' : Addr} {nm qual : Str} {pm ctv : Value} (G : Gd w hB) (hf : hB.get? kf = some (kla_obj nm qual parG bodG scG [] pm c' ctv)) (hc : hB.CodeRec (.ref c') qual) : KeyFn w av hB kf (fun x => -x.1) := by
  intro s A E Q r x R kS I h
  obtain ⟨hA, da, fa, ga, ua⟩ := A
  have hha := R.hd
  dsimp only at hha
  subst hha
  obtain ⟨dr, n, ta, te, t1, t2, I, -, -⟩ := I
  refine enterL (binds := [(Str.ofString "entry", .ref r)]) R G kS hf hc rfl (locs rfl) (fun L h₁ F => ?_) rfl rfl rfl (by decide)
  have N : News s.heap L h₁ [] := News.nil
  have X := (G.keeps kS).X
  have Sg : Sub hB s.heap := kS
  obtain ⟨p, loose, mean, mg, mb, T0⟩ := (G.keeps kS).T
  k_steps
  exact h _ _ _ (Fr.keep (by k_asm))
end
section
variable {w : World} {A : Around} {E : Value → Shared → Prop} {s : Shared} {Q : Value → Shared → Prop} {hB : Heap} {g : Heap} {L : Addr} {m : Str → Option Value} {news : List (Addr × Obj)}
theorem u_bis {ko : Nat} {av : List Addr} {rows kf : Addr} {x : Int} {tx : Tok} {φ : Int × Int → Int} {vs : List Value} {ep : Nat} {l : List (Int × Int)} (R : Rm A 12) (G : Gd w hB) (Sg : Sub hB g) (F : Fr g L s.heap m) (N : News g L s.heap news) (Kf : KeyFn w av s.heap kf φ) (fnk : FnAt kf s.heap) (hr : g.get? rows = some (W.listOf (List.toArray vs) ep)) (He : Ents w av g vs l) (hl : l.length ≤ 100000) (hko : ko = bisW (fun i => decide (φ (l.getD i (0, 0)) < x)) 0 l.length)
  (h : ∀ h' tk' t', Fr g L h' m → News g L h' news → Q (.int ko t') {s with heap := h', toks := tk'}) :
  wpAny (model PySem.Challenge.rw_jn0050_01.row.prog w) A (call (.ref 551) [.ref rows, .int x tx] [(Str.ofString "key", .ref kf)]) Q E s :=
  c_bis R (G.keeps fun b o e => F.keep b o (Sg b o e)) (Sub.refl _) Kf (F.keep _ _ hr) (He.on (Stay.sub F.keep)) hl fnk fun h' tk' t' K => hko ▸ h h' tk' t' (Fr.grow F K) (News.keepsS N K)
theorem list_neg {value slice : PySem.Expr} {l : Addr} {vs : List Value} {k : Int} {u : Tok} {x : Value} (hl : s.heap.IsList l (List.toArray vs))
    (h0 : k < 0) (hfit : -(vs.length : Int) ≤ k) (hv : vs.length ≤ 1000000) (hx : vs[(k + vs.length).toNat]? = some x) (h : Q x s)
    (hs : subscripted slice false (.ref l) (.int k u) = operate [.ref l, .int k u] (getItem (.ref l) (.int k u)) := by with_unfolding_all rfl) :
    wpAny (model PySem.Challenge.rw_jn0050_01.row.prog w) A (subscriptTail value slice (.ref l) (.int k u)) Q E s :=
  tail_any hl.typeIs slot_list_getitem.lookup (wpAny_getItem_list_neg hl h0 (by simpa using hfit) (by omega) (by simpa using hx) h) hs
theorem list_pm {value slice : PySem.Expr} {l : Addr} {vs : List Value} {k : Int} {u : Tok} {x : Value} (hl : s.heap.IsList l (List.toArray vs)) (hv : vs.length ≤ 1000000) (hk : k < 1000000)
    (hx : (0 ≤ k ∧ vs[k.toNat]? = some x) ∨ (k < 0 ∧ -(vs.length : Int) ≤ k ∧ vs[(k + vs.length).toNat]? = some x)) (h : Q x s)
    (hs : subscripted slice false (.ref l) (.int k u) = operate [.ref l, .int k u] (getItem (.ref l) (.int k u)) := by with_unfolding_all rfl) :
    wpAny (model PySem.Challenge.rw_jn0050_01.row.prog w) A (subscriptTail value slice (.ref l) (.int k u)) Q E s := by
  rcases hx with ⟨h0, hx⟩ | ⟨h0, h1, hx⟩
  · exact list_item hl h0 hk hx h hs
  · exact list_neg hl h0 h1 hv hx h hs
end
noncomputable def gmwF (l : List (Int × Int)) (T expiry : Int) : Int × Int := match l with
  | [] => (T, 0)
  | _ => let k := bisW (fun i => decide (-(l.getD i (0, 0)).1 < -(T - expiry))) 0 l.length
         ((l.getD (if k = 0 then l.length - 1 else k - 1) (0, 0)).1, k)

end

theorem reg_J5 : True := by
  (k_with "eval Lambda" => ((k_dflt (first
  | (refine' lam_new ?Fz0J5 ?Nz0J5 ?Tz0J5 ?Cz0J5 ?Uz0J5 ?htz0J5 ?hcz0J5 ?hfz0J5 ?dz0J5 ?clz0J5 ?_; (case Fz0J5 => k_asm); (case Nz0J5 => k_asm); (case Tz0J5 => k_asm); (case Cz0J5 => assumption); (case Uz0J5 => k_updF); (case htz0J5 => assumption); (case hcz0J5 => assumption); (case hfz0J5 => refine (by assumption : NoAv _ _ _) _ ?_; simp); (case dz0J5 => exact rfl); (case clz0J5 => exact rfl); intro kqlf kqlc kqlctv kqlpm kqlps kqloc kqlvs kqlt kqlh kqltk kqlF kqlN kqlhd kqlhv kqlhtr kqlhca kqlhcv kqll1 kqll2; (try dsimp only at kqlN); (try k_lt kqll1); (try k_lt2 kqll2))
  | (refine' lam_hit ?Fz0J5 ?Nz0J5 ?Tz0J5 ?Cz0J5 ?mz0J5 ?htz0J5 ?hcz0J5 ?dz0J5 ?clz0J5 ?_; (case Fz0J5 => k_asm); (case Nz0J5 => k_asm); (case Tz0J5 => k_asm); (case Cz0J5 => assumption); (case mz0J5 => k_mem); (case htz0J5 => assumption); (case hcz0J5 => assumption); (case dz0J5 => exact rfl); (case clz0J5 => exact rfl); intro f'z0J5 ctv'z0J5 pm'z0J5 h'z0J5 tk'z0J5 F'z0J5 N'z0J5 l1z0J5; (try k_lt l1z0J5))))))
  (k_with "call ref" => (((with_reducible show wpAny _ _ (call (Value.ref 551) _ _) _ _ _); k_dflt (refine' u_bis ?Rz1J5 ?Gz1J5 ?Sgz1J5 ?Fz1J5 ?Nz1J5 ?Kfz1J5 ?fnz1J5 ?hrz1J5 ?Hez1J5 ?hlz1J5 ?hkz1J5 ?_; (case Rz1J5 => exact Rm.mono (Rm.deeper _ (by assumption)) (by decide)); (case Gz1J5 => assumption); (case Sgz1J5 => assumption); (case Fz1J5 => k_asm); (case Nz1J5 => k_asm); (case hrz1J5 => assumption); (case Hez1J5 => assumption); (case Kfz1J5 => exact keyG (Gd.keeps (by assumption) (fun b o e => Fr.keep (by k_asm) b o ((by assumption : Sub _ _) b o e))) (News.get (by k_asm) (by k_mem)) (by first | exact codeRec_news (by k_asm) (by k_mem) (by assumption) (by assumption) | exact CodeRec.stay (av := []) (by assumption) (by simp) (Stay.sub (Fr.keep (by k_asm))))); (case fnz1J5 => exact FnAt.of (by k_asm) (by k_mem)); (case hlz1J5 => omega); (case hkz1J5 => assumption)); intro h'z1J5 tk'z1J5 t'z1J5 F'z1J5 N'z1J5)))
  (k_with "subscriptTail" => (((with_reducible show wpAny _ _ (subscriptTail _ _ (Value.ref _) (Value.int _ _)) _ _ _); k_dflt (refine list_pm (by is_list) (by omega) (by omega) (by assumption) ?_))))
  trivial
section
section
variable {w : World} {A : Around} {E : Value → Shared → Prop} {s : Shared} {Q : Value → Shared → Prop} {hB : Heap}
theorem c_gmw {a : SA} {T : Int} {key : Str} {tk tl te : Tok} {limit expiry : Int} {kvs : List (Str × Value)} {oE : Obj} {f : Str → Option (List (Int × Int))} {av : List Addr} {b : Nat} {ps : Array Value} (R : Rm A 20) (G : Gd w hB) (kS : Sub hB s.heap) (S : Sto w hB s.heap a T)
  (hE0 : s.heap.get? a.dE = some oE) (hE : oE.IsDictOf (PySem.strKind PySem.Challenge.rw_jn0050_01.row.prog w) kvs) (H : EK w av s.heap kvs f b) (hb : b ≤ 100000) (hdE : a.dE ∈ av) (hav : ∀ y ∈ av, ∃ o, s.heap.get? y = some o)
  (ht : TabOk av s.heap 640 (lamQ (Str.ofString "MemoryStorage.get_moving_window")) posG ps) (htB : hB.get? 640 = none) (hta : 640 ∈ av) (ntE : a.dE ≠ 640) (ntS : ∀ b ∈ a.st :: a.dst :: a.fp, b ≠ 640)
  (he : 0 < expiry ∧ expiry ≤ 100000) (hT : 0 ≤ T ∧ T ≤ 100000)
  (h : ∀ h' tk' D t1 t2 ps', Chg [640] s.heap h' → TabOk av h' 640 (lamQ (Str.ofString "MemoryStorage.get_moving_window")) posG ps' → s.heap.get? D = none → h'.get? D = some { cls := .type "tuple", data := .seq ([.int (gmwF ((f key).getD []) T expiry).1 t1, .int (gmwF ((f key).getD []) T expiry).2 t2] : List Value).toArray } → Q (.ref D) {s with heap := h', toks := tk'}) :
  wpAny (model PySem.Challenge.rw_jn0050_01.row.prog w) A (call (.ref 645) [.ref a.st, .str key tk, .int limit tl, .int expiry te] []) Q E s := by
  obtain ⟨ha, da, fa, ga, ua⟩ := A
  have hha := R.hd
  dsimp only at hha
  subst hha
  refine' enter (binds := [(Str.ofString "self", .ref a.st), (Str.ofString "key", .str key tk), (Str.ofString "limit", .int limit tl), (Str.ofString "expiry", .int expiry te)]) (mods := [(a.dE, oE), (640, tabObj ps)]) R G kS ?M ?ho ?hcd ?hb ?hl ?_ ?c2 ?c3 ?c4 ?c5
  case M => exact List.forall_mem_cons.mpr ⟨⟨hE0, S.fr.2.2⟩, List.forall_mem_cons.mpr ⟨⟨ht.1, htB⟩, List.forall_mem_nil _⟩⟩
  case ho => k_is
  case hcd => k_is
  case hb => first | exact BindsTo.of_eq rfl | exact binds_K (G.X.keeps kS) rfl (by k_is) rfl rfl rfl | (rcases (by assumption : KwC _ _ _ _) with rfl | ⟨rfl, rfl, rfl⟩ <;> first | exact BindsTo.of_eq rfl | exact binds_K (G.X.keeps kS) rfl (by k_is) rfl rfl rfl)
  case hl => exact locs rfl
  case c2 => exact rfl
  case c3 => exact rfl
  case c4 => exact rfl
  case c5 => decide
  intro g L h₁ Hg Sg F N X ⟨p, loose, mean, mg, mb, T0⟩ l1
  have Sg' : Sto w hB g a T := S.on fun b hb o e => Hg b o e (by
    intro q
    rcases List.mem_cons.mp q with q | q
    · exact (S.off b hb).2.2 q
    · exact ntS b hb (List.mem_singleton.mp q))
  have Stg : Stay av s.heap g := fun b o e q => Hg b o e fun q' => by
    rcases List.mem_cons.mp q' with q' | q'
    · exact q (by rw [q']; exact hdE)
    · exact q (by rw [List.mem_singleton.mp q']; exact hta)
  have hfr : ∀ {x}, g.get? x = none → x ≠ a.dE → x ≠ 640 → s.heap.get? x = none := fun {x} e n1 n2 => by
    cases q : s.heap.get? x with
    | none => rfl
    | some o => have := Hg x o q (by simp [n1, n2]); rw [e] at this; cases this
  have hcf : NoAv g av [a.dE, 640] := NoAv.of hav Hg
  obtain ⟨I, C, -, ⟨ne1, ne2, ne3⟩, -, ⟨lo1, lo2, lo3⟩, fnl, -⟩ := Sg'
  have Ch : CodeHd g 644 640 := codeHd_of_K X (by first | decide | rfl)
  replace ntE := neN ntE
  obtain ⟨he0, he1⟩ := he
  obtain ⟨hT0, hT1⟩ := hT
  obtain ⟨ht0, ht1, ht2⟩ := ht
  have htg : codeAmong posG ps.toList = none ∨ ∃ c', codeAmong posG ps.toList = some (.ref c') ∧ g.CodeRec (.ref c') (lamQ (Str.ofString "MemoryStorage.get_moving_window")) ∧ c' ∉ av := by
    rcases ht2 with ht2 | ⟨c', e1, e2, e3⟩
    · exact .inl ht2
    · exact .inr ⟨c', e1, CodeRec.stay e2 e3 Stg, e3⟩
  have hk : kvs.length ≤ 100000 := Nat.le_trans H.1 hb
  have ends : ∀ {h' news}, Sub g h' → News g L h' news → (a.dE, oE) ∈ news → Chg [640] s.heap h' := fun {h' news} k N' hm b o e n => by
    by_cases q : b = a.dE
    · rw [q, hE0] at e; cases e; rw [q]; exact (N' _ hm).1
    · exact k _ _ (Hg b o e (by simp [q]; simpa using n))
  have keepT : ∀ {h' news}, Sub g h' → News g L h' news → (640, tabObj ps) ∈ news → TabOk av h' 640 (lamQ (Str.ofString "MemoryStorage.get_moving_window")) posG ps := fun {h' news} k N' hm => ⟨(N' _ hm).1, ht1, by
    rcases htg with ht2 | ⟨c', e1, e2, e3⟩
    · exact .inl ht2
    · exact .inr ⟨c', e1, CodeRec.stay e2 e3 (Stay.sub k), e3⟩⟩
  clear S kS
  (try dsimp only)
  have hfl : f key = none ∨ ∃ l, f key = some l := by cases f key <;> simp
  cases hv : valueAt kvs key with
  | none =>
    have hf : (f key).getD [] = [] := by
      have := H.2.1 key
      rw [hv] at this
      cases e : f key with
      | none => rfl
      | some l => rw [e] at this; obtain ⟨_, q, _⟩ := this; cases q
    rw [hf] at h
    k_steps
    exact h _ _ _ _ _ _ (ends (Fr.keep (by k_asm)) (by k_asm) (by k_mem)) (keepT (Fr.keep (by k_asm)) (by k_asm) (by k_mem)) (hfr (News.fresh (by k_asm) (by k_mem)) (by k_ne) (by k_ne)) (News.get (by k_asm) (by k_mem))
  | some v =>
    have hf := H.2.1 key
    rw [hv] at hf
    cases hf2 : f key with
    | none => rw [hf2] at hf; cases hf
    | some l0 =>
      rw [hf2] at hf
      rw [hf2] at h
      obtain ⟨x, e, vs, ep, hx, nx, hvs⟩ := hf
      cases e
      have hxg := Stg _ _ hx nx
      have hvl : vs.length ≤ 100000 := by rw [hvs.length]; exact Nat.le_trans (H.2.2 _ _ hf2) hb
      have hvll := hvs.length
      have hvg := hvs.on Stg
      have hxl : g.IsList x (List.toArray vs) := ⟨_, hxg, rfl, ep, rfl⟩
      by_cases hvz : vs = []
      · subst hvz
        have hl0 : l0 = [] := by cases l0 with
          | nil => rfl
          | cons _ _ => simp at hvll
        subst hl0
        k_steps
        exact h _ _ _ _ _ _ (ends (Fr.keep (by k_asm)) (by k_asm) (by k_mem)) (keepT (Fr.keep (by k_asm)) (by k_asm) (by k_mem)) (hfr (News.fresh (by k_asm) (by k_mem)) (by k_ne) (by k_ne)) (News.get (by k_asm) (by k_mem))
      · have hpos : 0 < vs.length := List.length_pos_iff.mpr hvz
        obtain ⟨ko, hko⟩ : ∃ ko, ko = bisW (fun i => decide (-(l0.getD i (0, 0)).1 < -(T - expiry))) 0 l0.length := ⟨_, rfl⟩
        have hkl : ko ≤ l0.length := by rw [hko]; exact (bisW_le _ _ 0 _ (Nat.le_refl _) (Nat.zero_le _)).2
        have hG : gmwF l0 T expiry = ((l0.getD (if ko = 0 then l0.length - 1 else ko - 1) (0, 0)).1, (ko : Int)) := by
          cases l0 with
          | nil => exact absurd (by simpa using hvll) hvz
          | cons a t => rw [hko]; rfl
        have hil : (if ko = 0 then l0.length - 1 else ko - 1) < vs.length := by split <;> omega
        obtain ⟨r, x0, hr0, hx0, hent⟩ := ents_get hvg _ (List.getElem?_eq_getElem hil)
        have hgd : l0.getD (if ko = 0 then l0.length - 1 else ko - 1) (0, 0) = x0 := by rw [List.getD_eq_getElem?_getD, hx0]; rfl
        rw [show (some l0).getD [] = l0 from rfl, hG, hgd] at h
        obtain ⟨dr0, n0, tb, tc, u1, u2, Ie, na1, na2⟩ := hent
        have hv1 : vs[(if ko = 0 then l0.length - 1 else ko - 1)]? = some (.ref r) := by rw [← hr0]; exact List.getElem?_eq_getElem hil
        have hpm : (0 ≤ ((ko : Int) - 1) ∧ vs[((ko : Int) - 1).toNat]? = some (.ref r)) ∨ (((ko : Int) - 1) < 0 ∧ -(vs.length : Int) ≤ ((ko : Int) - 1) ∧ vs[(((ko : Int) - 1) + vs.length).toNat]? = some (.ref r)) := by
          by_cases hz : ko = 0
          · rw [if_pos hz] at hv1
            exact .inr ⟨by omega, by omega, by rw [show (((ko : Int) - 1) + vs.length).toNat = l0.length - 1 by omega]; exact hv1⟩
          · rw [if_neg hz] at hv1
            exact .inl ⟨by omega, by rw [show ((ko : Int) - 1).toNat = ko - 1 by omega]; exact hv1⟩
        clear hG hgd hil hr0 hx0 hv1 hav
        rcases htg with htg | ⟨c', htg, hcg, hcn⟩
        · k_steps
          refine h _ _ _ _ _ _ (ends (Fr.keep (by k_asm)) (by k_asm) (by k_mem)) ⟨News.get (by k_asm) (by k_mem), by assumption, .inr ⟨_, by assumption, codeRec_news (by k_asm) (by k_mem) (by assumption) (by assumption), by assumption⟩⟩ (hfr (News.fresh (by k_asm) (by k_mem)) (by k_ne) (by k_ne)) (News.get (by k_asm) (by k_mem))
        · k_steps
          exact h _ _ _ _ _ _ (ends (Fr.keep (by k_asm)) (by k_asm) (by k_mem)) ⟨News.get (by k_asm) (by k_mem), by assumption, .inr ⟨_, by assumption, CodeRec.stay (av := []) hcg (by simp) (Stay.sub (Fr.keep (by k_asm))), by assumption⟩⟩ (hfr (News.fresh (by k_asm) (by k_mem)) (by k_ne) (by k_ne)) (News.get (by k_asm) (by k_mem))
end

end
section
open TI
abbrev qG : Str := lamQ (Str.ofString "MemoryStorage.get_moving_window")
abbrev qX : Str := lamQ (Str.ofString "MemoryStorage.expire_events")
abbrev posX : Pos := { line := 414, col := 64, endLine := 414, endCol := 91 }
structure Sta where
  cnt : Str → Option Int
  ex : Str → Option Int
  ev : Str → Option (List (Int × Int))
structure WSt (w : World) (av : List Addr) (h : Heap) (a : SA) (σ : Sta) (b : Nat) : Prop where
  S : AtI w h a.dS σ.cnt b
  X : AtI w h a.dX σ.ex b
  E : AtE w av h a.dE σ.ev b
structure Tabs (av : List Addr) (h : Heap) : Prop where
  g : ∃ ps, TabOk av h 640 qG posG ps
  x : ∃ ps, TabOk av h 588 qX posX ps
abbrev mods (a : SA) (frs : List (Addr × Obj)) : List Addr := a.dS :: a.dX :: a.dE :: 640 :: 588 :: frs.map (·.1)
structure Pre (w : World) (hB : Heap) (A : Around) (h : Heap) (av : List Addr) (a : SA) (σ : Sta) (b : Nat) (l : List Env) (frs : List (Addr × Obj)) : Prop where
  st : WSt w av h a σ b
  tb : Tabs av h
  hb : b ≤ 50000
  fr : A.frames = some l
  Fs : Frs l frs
  fs : ∀ p ∈ frs, h.get? p.1 = some p.2 ∧ hB.get? p.1 = none
  fne : ∀ p ∈ frs, p.1 ≠ a.dS ∧ p.1 ≠ a.dX ∧ p.1 ≠ a.dE ∧ p.1 ≠ 640 ∧ p.1 ≠ 588
  mav : ∀ x ∈ mods a frs, x ∈ av
  hav : ∀ y ∈ av, ∃ o, h.get? y = some o
  tB : hB.get? 640 = none ∧ hB.get? 588 = none
  tne : (a.dS ≠ 640 ∧ a.dX ≠ 640 ∧ a.dE ≠ 640) ∧ (a.dS ≠ 588 ∧ a.dX ≠ 588 ∧ a.dE ≠ 588)
structure Post (w : World) (h0 h' : Heap) (av : List Addr) (a : SA) (σ : Sta) (b : Nat) (frs : List (Addr × Obj)) : Prop where
  chg : Chg (mods a frs) h0 h'
  up : ∃ frs', SameUp frs frs' ∧ ∀ p ∈ frs', h'.get? p.1 = some p.2
  st : WSt w av h' a σ b
  tb : Tabs av h'
section
variable {w : World} {hB h0 h' : Heap} {A : Around} {av : List Addr} {a : SA} {σ : Sta} {b : Nat} {l : List Env} {frs : List (Addr × Obj)}
theorem AtI.mono {d : Addr} {f : Str → Option Int} {c : Nat} (H : AtI w h0 d f b) (e : b ≤ c) : AtI w h0 d f c := let ⟨o, x, y⟩ := H; ⟨o, x, y.mono e⟩
theorem AtE.mono' {d : Addr} {f : Str → Option (List (Int × Int))} {c : Nat} (H : AtE w av h0 d f b) (e : b ≤ c) : AtE w av h0 d f c := let ⟨o, x, y⟩ := H; ⟨o, x, y.mono e⟩
theorem AtI.on {d : Addr} {f : Str → Option Int} (H : AtI w h0 d f b) (k : ∀ o, h0.get? d = some o → h'.get? d = some o) : AtI w h' d f b := let ⟨o, x, y⟩ := H; ⟨o, k o x, y⟩
theorem AtE.on' {d : Addr} {f : Str → Option (List (Int × Int))} (H : AtE w av h0 d f b) (k : ∀ o, h0.get? d = some o → h'.get? d = some o) (s : Stay av h0 h') : AtE w av h' d f b := by
  obtain ⟨kvs, x, y⟩ := H
  obtain ⟨o, e, q⟩ := Heap.dictOf_iff.mp x
  exact ⟨kvs, Heap.dictOf_iff.mpr ⟨o, k o e, q⟩, y.on s⟩
theorem TabOk.on {P : Addr} {q : Str} {pos : Pos} {ps : Array Value} (H : TabOk av h0 P q pos ps) (k : ∀ o, h0.get? P = some o → h'.get? P = some o) (s : Stay av h0 h') : TabOk av h' P q pos ps :=
  ⟨k _ H.1, H.2.1, by
    rcases H.2.2 with x | ⟨c, e1, e2, e3⟩
    · exact .inl x
    · exact .inr ⟨c, e1, CodeRec.stay e2 e3 s, e3⟩⟩
theorem Pre.stay {ms : List Addr} (P : Pre w hB A h0 av a σ b l frs) (C : Chg ms h0 h') (hm : ∀ x ∈ ms, x ∈ mods a frs) : Stay av h0 h' := fun x o e n => C x o e fun q => n (P.mav _ (hm x q))
theorem Pre.post {ms : List Addr} {σ' : Sta} {b' : Nat} (P : Pre w hB A h0 av a σ b l frs) (C : Chg ms h0 h') (hm : ∀ x ∈ ms, x ∈ [a.dS, a.dX, a.dE])
    (hS : AtI w h' a.dS σ'.cnt b') (hX : AtI w h' a.dX σ'.ex b') (hE : AtE w av h' a.dE σ'.ev b') : Post w h0 h' av a σ' b' frs where
  chg := fun x o e n => C x o e fun q => n (by
    have := hm x q
    simp only [List.mem_cons, List.not_mem_nil, or_false] at this ⊢
    rcases this with r | r | r
    · exact .inl r
    · exact .inr (.inl r)
    · exact .inr (.inr (.inl r)))
  up := ⟨frs, SameUp.refl _, fun p hp => C _ _ (P.fs p hp).1 fun q => by
    have := hm _ q
    have f := P.fne p hp
    simp only [List.mem_cons, List.not_mem_nil, or_false] at this
    rcases this with r | r | r
    · exact f.1 r
    · exact f.2.1 r
    · exact f.2.2.1 r⟩
  st := ⟨hS, hX, hE⟩
  tb := by
    have st : Stay av h0 h' := fun x o e n => C x o e fun q => n (P.mav _ (by
      have := hm x q
      simp only [List.mem_cons, List.not_mem_nil, or_false] at this ⊢
      rcases this with r | r | r
      · exact .inl r
      · exact .inr (.inl r)
      · exact .inr (.inr (.inl r))))
    obtain ⟨⟨pg, tg⟩, ⟨px, tx⟩⟩ := P.tb
    obtain ⟨⟨n1, n2, n3⟩, ⟨n4, n5, n6⟩⟩ := P.tne
    refine ⟨⟨pg, tg.on (fun o e => C _ _ e fun q => ?_) st⟩, ⟨px, tx.on (fun o e => C _ _ e fun q => ?_) st⟩⟩
    · have := hm _ q
      simp only [List.mem_cons, List.not_mem_nil, or_false] at this
      rcases this with r | r | r
      · exact n1 r.symm
      · exact n2 r.symm
      · exact n3 r.symm
    · have := hm _ q
      simp only [List.mem_cons, List.not_mem_nil, or_false] at this
      rcases this with r | r | r
      · exact n4 r.symm
      · exact n5 r.symm
      · exact n6 r.symm
theorem Pre.E {ms : List Addr} (P : Pre w hB A h0 av a σ b l frs) (C : Chg ms h0 h') (hm : ∀ x ∈ ms, x ∈ [a.dS, a.dX]) (ne : a.dS ≠ a.dE ∧ a.dX ≠ a.dE) {c : Nat} (hc : b ≤ c) : AtE w av h' a.dE σ.ev c :=
  (P.st.E.on' (fun o e => C _ _ e fun q => by
    have := hm _ q
    simp only [List.mem_cons, List.not_mem_nil, or_false] at this
    rcases this with r | r
    · exact ne.1 r.symm
    · exact ne.2 r.symm) (P.stay C fun x q => by
    have := hm x q
    simp only [List.mem_cons, List.not_mem_nil, or_false] at this ⊢
    rcases this with r | r
    · exact .inl r
    · exact .inr (.inl r))).mono' hc
end

end
section
noncomputable def getS (σ : Sta) (T : Int) (key : Str) : Sta := ⟨getC T σ.ex σ.cnt key, getX T σ.ex key, σ.ev⟩
noncomputable def getV (σ : Sta) (T : Int) (key : Str) : Int := (getC T σ.ex σ.cnt key key).getD 0
noncomputable def incS (σ : Sta) (T : Int) (key : Str) (e amount : Int) : Sta := ⟨put (getC T σ.ex σ.cnt key) key (getV σ T key + amount), if getV σ T key + amount = amount then put (getX T σ.ex key) key (T + e) else getX T σ.ex key, σ.ev⟩
section
open TI
variable {w : World} {A : Around} {E : Value → Shared → Prop} {s : Shared} {Q : Value → Shared → Prop} {hB : Heap} {a : SA} {C lim it nm : Addr} {ns : Str} {am mu : Int} {c : Bool} {xs : List Str} {T : Int} {σ : Sta} {b : Nat} {av : List Addr} {l : List Env} {frs : List (Addr × Obj)}
theorem c_fhit {cost : Int} {tc : Tok} (R : Rm A 20) (G : Gd w hB) (kS : Sub hB s.heap) (Y : Ctx w hB a 241 lim it nm ns am mu c xs T) (P : Pre w hB A s.heap av a σ b l frs) (hc : 0 ≤ cost ∧ cost ≤ 50)
  (h : ∀ h' tk', Post w s.heap h' av a (incS σ T (keyS ns xs am mu (gname c)) (gsec c * mu) cost) (b + 60) frs → Q (.bool (decide (getV σ T (keyS ns xs am mu (gname c)) + cost ≤ am))) {s with heap := h', toks := tk'}) :
  wpAny (model PySem.Challenge.rw_jn0050_01.row.prog w) A (call (.ref 220) [.ref lim, .ref it, .ref nm] [(Str.ofString "cost", .int cost tc)]) Q E s := by
  obtain ⟨oS, hS0, hS⟩ := P.st.S
  obtain ⟨oX, hX0, hX⟩ := P.st.X
  have hb := P.hb
  have nE := Y.sto.ne
  replace P := P
  revert P
  intro P
  obtain ⟨ha, da, fa, ga, ua⟩ := A
  have hha := R.hd
  dsimp only at hha
  subst hha
  refine' enter (binds := [(Str.ofString "self", .ref lim), (Str.ofString "item", .ref it), (Str.ofString "identifiers", .ref nm), (Str.ofString "cost", .int cost tc)]) (mods := [(a.dS, oS), (a.dX, oX)]) R G kS ?M ?ho ?hcd ?hb ?hl ?_ ?c2 ?c3 ?c4 ?c5
  case M => exact List.forall_mem_cons.mpr ⟨⟨hS0, Y.sto.fr.1⟩, List.forall_mem_cons.mpr ⟨⟨hX0, Y.sto.fr.2.1⟩, List.forall_mem_nil _⟩⟩
  case ho => k_is
  case hcd => k_is
  case hb => first | exact BindsTo.of_eq rfl | exact binds_K (G.X.keeps kS) rfl (by k_is) rfl rfl rfl | (rcases (by assumption : KwC _ _ _ _) with rfl | ⟨rfl, rfl, rfl⟩ <;> first | exact BindsTo.of_eq rfl | exact binds_K (G.X.keeps kS) rfl (by k_is) rfl rfl rfl)
  case hl => exact locs rfl
  case c2 => exact rfl
  case c3 => exact rfl
  case c4 => exact rfl
  case c5 => decide
  intro g L h₁ Hg Sg F N X ⟨p, loose, mean, mg, mb, T0⟩ l1
  obtain ⟨Xs, -, ⟨dl, tl, nl, Il⟩, Ii, Inm, ⟨hT0, hT1⟩⟩ := Y
  have Sg' : Sto w hB g a T := Xs.sub Sg
  have Il := inst_sub Il Sg
  have Ii := Ii.sub Sg
  have Inm := Inm.sub Sg
  obtain ⟨I, C, -, ⟨ne1, -, -⟩, -, ⟨lo1, lo2, -⟩, fnl, -⟩ := id Sg'
  replace ne1 := neN ne1
  clear kS hS0 hX0
  (try dsimp only)
  k_steps
  have C9 : Chg [a.dS, a.dX] s.heap _ := Chg.of Hg (by k_asm)
  exact h _ _ (P.post C9 (by simp) ((AtI.of (by k_asm) (by k_mem) (by assumption)).mono (by omega)) ((AtI.of (by k_asm) (by k_mem) (by assumption)).mono (by omega)) (P.E C9 (by simp) ⟨nE.2.1, nE.2.2⟩ (by omega)))
end

end
section
noncomputable def pkO (T e : Int) (key : Str) : Str := winKey key ((T - e).fdiv e)
noncomputable def ckO (T e : Int) (key : Str) : Str := winKey key (T.fdiv e)
noncomputable def swP (σ : Sta) (T e : Int) (key : Str) : Int := infP T σ.ex σ.cnt (pkO T e key)
noncomputable def swC (σ : Sta) (T e : Int) (key : Str) : Int := infC T σ.ex σ.cnt (pkO T e key) (ckO T e key)
noncomputable def swW (σ : Sta) (T e : Int) (key : Str) : Int := (swP σ T e key * infTtl T e (swP σ T e key)).fdiv e + swC σ T e key
noncomputable def swI (σ : Sta) (T e : Int) (key : Str) : Sta := ⟨getC T (getX T σ.ex (pkO T e key)) (getC T σ.ex σ.cnt (pkO T e key)) (ckO T e key), getX T (getX T σ.ex (pkO T e key)) (ckO T e key), σ.ev⟩
noncomputable def swR (σ : Sta) (T e : Int) (key : Str) (limit amount : Int) : Bool := !(decide (limit < amount)) && !(decide (limit < swW σ T e key + amount))
noncomputable def swS (σ : Sta) (T e : Int) (key : Str) (limit amount : Int) : Sta :=
  if limit < amount then σ else if limit < swW σ T e key + amount then swI σ T e key else
  ⟨put (swI σ T e key).cnt (ckO T e key) (swC σ T e key + amount), if swC σ T e key + amount = amount then put (swI σ T e key).ex (ckO T e key) (T + 2 * e) else (swI σ T e key).ex, σ.ev⟩
section
variable {w : World} {A : Around} {E : Value → Shared → Prop} {s : Shared} {Q : Value → Shared → Prop} {hB : Heap} {a : SA} {T : Int} {key : Str} {tk t1 t2 t3 : Tok} {e limit amount : Int} {σ : Sta} {b : Nat} {g : Heap} {L : Addr} {m : Str → Option Value} {news : List (Addr × Obj)} {oS oX oE : Obj} {g1 : Obj → List (Addr × Obj)} {g2 : Obj → Obj → List (Addr × Obj)} {g3 : Obj → Obj → Obj → List (Addr × Obj)}
theorem u_asw (R : Rm A 12) (G : Gd w hB) (Sg : Sub hB g) (S : Sto w hB g a T) (F : Fr g L s.heap m) (N : News g L s.heap news) (U1 : UpdF a.dS oS news g1) (hS : IsI w oS σ.cnt b) (U2 : ∀ o, UpdF a.dX oX (g1 o) (g2 o)) (hX : IsI w oX σ.ex b) (hb : b < 1000000) (h0 : 0 < e) (h1 : e ≤ T) (h2 : T < 1000000) (hk : key.length ≤ 20000) (m2 : (a.dX, oX) ∈ news)
  (h : ∀ h' tk' oS' oX', Fr g L h' m → News g L h' (g2 oS' oX') → IsI w oS' (swS σ T e key limit amount).cnt (b + 1) → IsI w oX' (swS σ T e key limit amount).ex (b + 1) → Q (.bool (swR σ T e key limit amount)) {s with heap := h', toks := tk'}) :
  wpAny (model PySem.Challenge.rw_jn0050_01.row.prog w) A (call (.ref 653) [.ref a.st, .str key tk, .int limit t1, .int e t2, .int amount t3] []) Q E s := by
  have fin : ∀ (σ' : Sta) (r : Bool) (c : Nat), c ≤ b + 1 → swS σ T e key limit amount = σ' → swR σ T e key limit amount = r → ∀ h' tk', Chg [a.dS, a.dX] s.heap h' → AtI w h' a.dS σ'.cnt c → AtI w h' a.dX σ'.ex c → Q (.bool r) {s with heap := h', toks := tk'} := fun σ' r c hc e1 e2 h' tk' C hS' hX' => by
    subst e1 e2
    obtain ⟨oS', q1, hS'⟩ := hS'
    obtain ⟨oX', q2, hX'⟩ := hX'
    exact h h' tk' oS' oX' (Fr.chg F N C (by
      intro x hx
      rcases List.mem_cons.mp hx with rfl | hx
      · exact ⟨_, UpdF.has U1⟩
      · exact List.mem_singleton.mp hx ▸ ⟨_, m2⟩)) (News.two N U1 U2 C q1 q2) (hS'.mono hc) (hX'.mono hc)
  refine c_asw (pk := pkO T e key) (ck := ckO T e key) rfl rfl R G (fun b o e => F.keep b o (Sg b o e)) (S.sub F.keep) (AtI.of N (UpdF.has U1) hS) (AtI.of N m2 hX) hb hb h0 h1 h2 hk ?_ ?_ ?_
  · intro q h' tk' C x y
    exact fin σ false b (by omega) (by unfold swS; rw [if_pos q]) (by unfold swR; simp [q]) h' tk' C x y
  · intro q1 q2 h' tk' C x y
    exact fin (swI σ T e key) false b (by omega) (by unfold swS; rw [if_neg q1, if_pos (show limit < swW σ T e key + amount from q2)]) (by unfold swR; rw [show decide (limit < swW σ T e key + amount) = true from decide_eq_true q2]; simp) h' tk' C x y
  · intro q1 q2 h' tk' C x y
    exact fin _ true (b + 1) (by omega) (by unfold swS; rw [if_neg q1, if_neg (show ¬ limit < swW σ T e key + amount from q2)]) (by unfold swR; rw [show decide (limit < swW σ T e key + amount) = false from decide_eq_false q2]; simp [q1]) h' tk' C x y
theorem u_gsw (R : Rm A 10) (G : Gd w hB) (Sg : Sub hB g) (S : Sto w hB g a T) (F : Fr g L s.heap m) (N : News g L s.heap news) (U1 : UpdF a.dS oS news g1) (hS : IsI w oS σ.cnt b) (U2 : ∀ o, UpdF a.dX oX (g1 o) (g2 o)) (hX : IsI w oX σ.ex b) (hb : b < 1000000) (h0 : 0 < e) (h1 : e ≤ T) (h2 : T < 1000000) (hk : key.length ≤ 20000) (m2 : (a.dX, oX) ∈ news)
  (h : ∀ h' tk' r u1 u2 u3 u4 oS' oX', Fr g L h' m → News g L h' ((r, infoTup (swP σ T e key) (infTtl T e (swP σ T e key)) (swC σ T e key) (e - T.fmod e + e) u1 u2 u3 u4) :: g2 oS' oX') → IsI w oS' (swI σ T e key).cnt b → IsI w oX' (swI σ T e key).ex b → (∀ p ∈ g2 oS' oX', p.1 ≠ r) → Q (.ref r) {s with heap := h', toks := tk'}) :
  wpAny (model PySem.Challenge.rw_jn0050_01.row.prog w) A (call (.ref 667) [.ref a.st, .str key tk, .int e t1] []) Q E s :=
  c_gsw R G (fun b o e => F.keep b o (Sg b o e)) (S.sub F.keep) (AtI.of N (UpdF.has U1) hS) (AtI.of N m2 hX) (Nat.le_of_lt hb) (Nat.le_of_lt hb) h0 h1 h2 hk fun h' tk' r u1 u2 u3 u4 C hS' hX' e0 eo => by
    obtain ⟨oS', e1, hS'⟩ := hS'
    obtain ⟨oX', e2, hX'⟩ := hX'
    have F' := Fr.chg F N C (by
      intro x hx
      rcases List.mem_cons.mp hx with rfl | hx
      · exact ⟨_, UpdF.has U1⟩
      · exact List.mem_singleton.mp hx ▸ ⟨_, m2⟩)
    have N' := News.two N U1 U2 C e1 e2
    have fr : ∀ p ∈ g2 oS' oX', p.1 ≠ r := fun p hp q => by
      obtain ⟨x, hx⟩ := UpdF.map (U2 oS') oX' hp
      obtain ⟨y, hy⟩ := UpdF.map U1 oS' hx
      have := (N _ hy).1
      rw [show p.1 = r from q, e0] at this; cases this
    refine h h' tk' r u1 u2 u3 u4 oS' oX' F' (fun p hp => ?_) hS' hX' fr
    rcases List.mem_cons.mp hp with rfl | hp
    · refine ⟨eo, fun q => ?_, ?_⟩
      · obtain ⟨oL, es, ep, hL, _⟩ := F.ns
        rw [show r = L from q, hL] at e0; cases e0
      · cases q : g.get? r with
        | none => rfl
        | some o' => have := F.keep r o' q; rw [e0] at this; cases this
    · exact N' p hp
end

end

theorem reg_K2 : True := by
  (k_with "call ref" => (((with_reducible show wpAny _ _ (call (Value.ref 653) _ _) _ _ _); k_dflt (refine' u_asw ?Rz0K2 ?Gz0K2 ?Sgz0K2 ?Sz0K2 ?Fz0K2 ?Nz0K2 ?U1z0K2 ?hSz0K2 ?U2z0K2 ?hXz0K2 ?hbz0K2 ?h0z0K2 ?h1z0K2 ?h2z0K2 ?hkz0K2 ?m2z0K2 ?_; (case Rz0K2 => exact Rm.mono (Rm.deeper _ (by assumption)) (by decide)); (case Gz0K2 => assumption); (case Sgz0K2 => assumption); (case Sz0K2 => assumption); (case Fz0K2 => k_asm); (case Nz0K2 => k_asm); (case U1z0K2 => k_updF); (case hSz0K2 => assumption); (case U2z0K2 => intro oz0K2; (try dsimp only); k_updF); (case m2z0K2 => k_mem); (case hXz0K2 => assumption); (case hbz0K2 => omega); (case h0z0K2 => omega); (case h1z0K2 => omega); (case h2z0K2 => omega); (case hkz0K2 => omega)); intro h'z0K2 tk'z0K2 oS'z0K2 oX'z0K2 F'z0K2 N'z0K2 hS'z0K2 hX'z0K2; (try dsimp only at N'z0K2))))
  (k_with "call ref" => (((with_reducible show wpAny _ _ (call (Value.ref 667) _ _) _ _ _); k_dflt (refine' u_gsw ?Rz1K2 ?Gz1K2 ?Sgz1K2 ?Sz1K2 ?Fz1K2 ?Nz1K2 ?U1z1K2 ?hSz1K2 ?U2z1K2 ?hXz1K2 ?hbz1K2 ?h0z1K2 ?h1z1K2 ?h2z1K2 ?hkz1K2 ?m2z1K2 ?_; (case Rz1K2 => exact Rm.mono (Rm.deeper _ (by assumption)) (by decide)); (case Gz1K2 => assumption); (case Sgz1K2 => assumption); (case Sz1K2 => assumption); (case Fz1K2 => k_asm); (case Nz1K2 => k_asm); (case U1z1K2 => k_updF); (case hSz1K2 => assumption); (case U2z1K2 => intro oz1K2; (try dsimp only); k_updF); (case m2z1K2 => k_mem); (case hXz1K2 => assumption); (case hbz1K2 => omega); (case h0z1K2 => omega); (case h1z1K2 => omega); (case h2z1K2 => omega); (case hkz1K2 => omega)); intro h'z1K2 tk'z1K2 r'z1K2 u1z1K2 u2z1K2 u3z1K2 u4z1K2 oS'z1K2 oX'z1K2 F'z1K2 N'z1K2 hS'z1K2 hX'z1K2 l1z1K2; (try dsimp only at N'z1K2); (replace l1z1K2 := allNe_of l1z1K2); (dsimp +zetaDelta only [AllNe] at l1z1K2))))
  trivial
section
noncomputable def KwC (kw : List (Str × Value)) (cost : Int) (tc tok : Tok) : Prop := kw = [(Str.ofString "cost", .int cost tc)] ∨ (kw = [] ∧ cost = 1 ∧ tc = tok)
section
open TI
variable {w : World} {A : Around} {E : Value → Shared → Prop} {s : Shared} {Q : Value → Shared → Prop} {hB : Heap} {a : SA} {C lim it nm : Addr} {ns : Str} {am mu : Int} {c : Bool} {xs : List Str} {T : Int} {σ : Sta} {b : Nat} {av : List Addr} {l : List Env} {frs : List (Addr × Obj)}
theorem expb (c : Bool) {mu : Int} (h : 0 < mu ∧ mu ≤ 50) : 0 < gsec c * mu ∧ gsec c * mu ≤ 3000 ∧ True := by
  cases c <;> simp [gsec] <;> omega
theorem swS_ev {σ : Sta} {T e : Int} {key : Str} {limit amount : Int} : (swS σ T e key limit amount).ev = σ.ev := by
  unfold swS
  split
  · rfl
  · split <;> rfl
theorem c_wc {P tt cc : Int} {t1 t2 t3 : Tok} {lim : Addr} {dl : Addr} {odl : Obj} (R : Rm A 16) (G : Gd w hB) (kS : Sub hB s.heap) (Ii : ItemAt w hB it ns am mu c) (ht : 0 ≤ tt ∧ tt ≤ 1000000)
  (h : ∀ h' tk' t', Sub s.heap h' → Q (.int ((P * tt).fdiv (gsec c * mu) + cc) t') {s with heap := h', toks := tk'}) :
  wpAny (model PySem.Challenge.rw_jn0050_01.row.prog w) A (call (.ref 257) [.ref lim, .ref it, .int P t1, .int tt t2, .int cc t3] []) Q E s := by
  obtain ⟨ha, da, fa, ga, ua⟩ := A
  have hha := R.hd
  dsimp only at hha
  subst hha
  refine' enter (binds := [(Str.ofString "self", .ref lim), (Str.ofString "item", .ref it), (Str.ofString "previous_count", .int P t1), (Str.ofString "previous_expires_in", .int tt t2), (Str.ofString "current_count", .int cc t3)]) (mods := []) R G kS ?M ?ho ?hcd ?hb ?hl ?_ ?c2 ?c3 ?c4 ?c5
  case M => exact List.forall_mem_nil _
  case ho => k_is
  case hcd => k_is
  case hb => first | exact BindsTo.of_eq rfl | exact binds_K (G.X.keeps kS) rfl (by k_is) rfl rfl rfl | (rcases (by assumption : KwC _ _ _ _) with rfl | ⟨rfl, rfl, rfl⟩ <;> first | exact BindsTo.of_eq rfl | exact binds_K (G.X.keeps kS) rfl (by k_is) rfl rfl rfl)
  case hl => exact locs rfl
  case c2 => exact rfl
  case c3 => exact rfl
  case c4 => exact rfl
  case c5 => decide
  intro g L h₁ Hg Sg F N X ⟨p, loose, mean, mg, mb, T0⟩ l1
  have Ii := Ii.sub Sg
  have hmu := Ii.hmu
  obtain ⟨e0, e1, -⟩ := expb c hmu
  obtain ⟨ht0, ht1⟩ := ht
  have hm : IntMulOk P tt := IntMulOk.of_right (intBits_le_64 (by omega) (by omega))
  clear kS
  (try dsimp only)
  k_steps
  exact h _ _ _ fun b o e => Fr.keep (by k_asm) b o (Hg b o e (by simp))
theorem u_wc {P tt cc : Int} {t1 t2 t3 : Tok} {lim : Addr} {g : Heap} {L : Addr} {m : Str → Option Value} {news : List (Addr × Obj)} (R : Rm A 16) (G : Gd w hB) (Sg : Sub hB g) (F : Fr g L s.heap m) (N : News g L s.heap news) (Ii : ItemAt w g it ns am mu c) (ht : 0 ≤ tt ∧ tt ≤ 1000000)
  (h : ∀ h' tk' t', Fr g L h' m → News g L h' news → Q (.int ((P * tt).fdiv (gsec c * mu) + cc) t') {s with heap := h', toks := tk'}) :
  wpAny (model PySem.Challenge.rw_jn0050_01.row.prog w) A (call (.ref 257) [.ref lim, .ref it, .int P t1, .int tt t2, .int cc t3] []) Q E s :=
  c_wc (dl := 0) (odl := dictOf [] 0) R (G.keeps fun b o e => F.keep b o (Sg b o e)) (Sub.refl _) (Ii.sub F.keep) ht fun h' tk' t' K => h h' tk' t' (Fr.grow F K) (News.keepsS N K)
end
theorem reg_K3x1 : True := by
  (k_with "callWith ref" => (((with_reducible show wpAny _ _ (callWith _ (Value.ref 257) _ _ _) _ _ _); k_dflt (refine' callWith_K (f := .ref 257) ?k1z0K3x1 ?k2z0K3x1 ?_; (case k1z0K3x1 => k_asm); (case k2z0K3x1 => k_is)))))
  trivial
theorem reg_K3x2 : True := by
  (k_with "call ref" => (((with_reducible show wpAny _ _ (call (Value.ref 257) _ _) _ _ _); k_dflt (refine' u_wc ?Rz0K3x2 ?Gz0K3x2 ?Sgz0K3x2 ?Fz0K3x2 ?Nz0K3x2 ?Iz0K3x2 ?htz0K3x2 ?_; (case Rz0K3x2 => exact Rm.mono (Rm.deeper _ (by assumption)) (by decide)); (case Gz0K3x2 => assumption); (case Sgz0K3x2 => assumption); (case Fz0K3x2 => k_asm); (case Nz0K3x2 => k_asm); (case Iz0K3x2 => assumption); (case htz0K3x2 => assumption)); intro h'z0K3x2 tk'z0K3x2 t'z0K3x2 F'z0K3x2 N'z0K3x2)))
  trivial
section
open TI
variable {w : World} {A : Around} {E : Value → Shared → Prop} {s : Shared} {Q : Value → Shared → Prop} {hB : Heap} {a : SA} {C lim it nm : Addr} {ns : Str} {am mu : Int} {c : Bool} {xs : List Str} {T : Int} {σ : Sta} {b : Nat} {av : List Addr} {l : List Env} {frs : List (Addr × Obj)}
theorem c_ftest {kw : List (Str × Value)} {cost : Int} {tc : Tok} (R : Rm A 20) (G : Gd w hB) (kS : Sub hB s.heap) (Y : Ctx w hB a 241 lim it nm ns am mu c xs T) (P : Pre w hB A s.heap av a σ b l frs) (hc : 0 ≤ cost ∧ cost ≤ 50) (hkw : KwC kw cost tc 491)
  (h : ∀ h' tk', Post w s.heap h' av a (getS σ T (keyS ns xs am mu (gname c))) (b + 60) frs → Q (.bool (decide (getV σ T (keyS ns xs am mu (gname c)) < am - cost + 1))) {s with heap := h', toks := tk'}) :
  wpAny (model PySem.Challenge.rw_jn0050_01.row.prog w) A (call (.ref 229) [.ref lim, .ref it, .ref nm] kw) Q E s := by
  obtain ⟨oS, hS0, hS⟩ := P.st.S
  obtain ⟨oX, hX0, hX⟩ := P.st.X
  have hb := P.hb
  have nE := Y.sto.ne
  obtain ⟨ha, da, fa, ga, ua⟩ := A
  have hha := R.hd
  dsimp only at hha
  subst hha
  refine' enter (binds := [(Str.ofString "self", .ref lim), (Str.ofString "item", .ref it), (Str.ofString "identifiers", .ref nm), (Str.ofString "cost", .int cost tc)]) (mods := [(a.dS, oS), (a.dX, oX)]) R G kS ?M ?ho ?hcd ?hb ?hl ?_ ?c2 ?c3 ?c4 ?c5
  case M => exact List.forall_mem_cons.mpr ⟨⟨hS0, Y.sto.fr.1⟩, List.forall_mem_cons.mpr ⟨⟨hX0, Y.sto.fr.2.1⟩, List.forall_mem_nil _⟩⟩
  case ho => k_is
  case hcd => k_is
  case hb => first | exact BindsTo.of_eq rfl | exact binds_K (G.X.keeps kS) rfl (by k_is) rfl rfl rfl | (rcases (by assumption : KwC _ _ _ _) with rfl | ⟨rfl, rfl, rfl⟩ <;> first | exact BindsTo.of_eq rfl | exact binds_K (G.X.keeps kS) rfl (by k_is) rfl rfl rfl)
  case hl => exact locs rfl
  case c2 => exact rfl
  case c3 => exact rfl
  case c4 => exact rfl
  case c5 => decide
  intro g L h₁ Hg Sg F N X ⟨p, loose, mean, mg, mb, T0⟩ l1
  obtain ⟨Xs, -, ⟨dl, tl, nl, Il⟩, Ii, Inm, ⟨hT0, hT1⟩⟩ := Y
  have Sg' : Sto w hB g a T := Xs.sub Sg
  have Il := inst_sub Il Sg
  have Ii := Ii.sub Sg
  have Inm := Inm.sub Sg
  have ham := Ii.ham
  have hmu := Ii.hmu
  obtain ⟨I, C, -, ⟨ne1, -, -⟩, -, ⟨lo1, lo2, -⟩, fnl, -⟩ := id Sg'
  replace ne1 := neN ne1
  clear kS hS0 hX0
  (try dsimp only)
  k_steps
  have C9 : Chg [a.dS, a.dX] s.heap _ := Chg.of Hg (by k_asm)
  exact h _ _ (P.post C9 (by simp) ((AtI.of (by k_asm) (by k_mem) (by assumption)).mono (by omega)) ((AtI.of (by k_asm) (by k_mem) (by assumption)).mono (by omega)) (P.E C9 (by simp) ⟨nE.2.1, nE.2.2⟩ (by omega)))
theorem c_shit {cost : Int} {tc : Tok} (R : Rm A 20) (G : Gd w hB) (kS : Sub hB s.heap) (Y : Ctx w hB a 296 lim it nm ns am mu c xs T) (P : Pre w hB A s.heap av a σ b l frs) (hc : 0 ≤ cost ∧ cost ≤ 50) (hTe : gsec c * mu ≤ T)
  (h : ∀ h' tk', Post w s.heap h' av a (swS σ T (gsec c * mu) (keyS ns xs am mu (gname c)) am cost) (b + 60) frs → Q (.bool (swR σ T (gsec c * mu) (keyS ns xs am mu (gname c)) am cost)) {s with heap := h', toks := tk'}) :
  wpAny (model PySem.Challenge.rw_jn0050_01.row.prog w) A (call (.ref 266) [.ref lim, .ref it, .ref nm] [(Str.ofString "cost", .int cost tc)]) Q E s := by
  obtain ⟨oS, hS0, hS⟩ := P.st.S
  obtain ⟨oX, hX0, hX⟩ := P.st.X
  have hb := P.hb
  have nE := Y.sto.ne
  obtain ⟨ha, da, fa, ga, ua⟩ := A
  have hha := R.hd
  dsimp only at hha
  subst hha
  refine' enter (binds := [(Str.ofString "self", .ref lim), (Str.ofString "item", .ref it), (Str.ofString "identifiers", .ref nm), (Str.ofString "cost", .int cost tc)]) (mods := [(a.dS, oS), (a.dX, oX)]) R G kS ?M ?ho ?hcd ?hb ?hl ?_ ?c2 ?c3 ?c4 ?c5
  case M => exact List.forall_mem_cons.mpr ⟨⟨hS0, Y.sto.fr.1⟩, List.forall_mem_cons.mpr ⟨⟨hX0, Y.sto.fr.2.1⟩, List.forall_mem_nil _⟩⟩
  case ho => k_is
  case hcd => k_is
  case hb => first | exact BindsTo.of_eq rfl | exact binds_K (G.X.keeps kS) rfl (by k_is) rfl rfl rfl | (rcases (by assumption : KwC _ _ _ _) with rfl | ⟨rfl, rfl, rfl⟩ <;> first | exact BindsTo.of_eq rfl | exact binds_K (G.X.keeps kS) rfl (by k_is) rfl rfl rfl)
  case hl => exact locs rfl
  case c2 => exact rfl
  case c3 => exact rfl
  case c4 => exact rfl
  case c5 => decide
  intro g L h₁ Hg Sg F N X ⟨p, loose, mean, mg, mb, T0⟩ l1
  obtain ⟨Xs, -, ⟨dl, tl, nl, Il⟩, Ii, Inm, ⟨hT0, hT1⟩⟩ := Y
  have Sg' : Sto w hB g a T := Xs.sub Sg
  have Il := inst_sub Il Sg
  have Ii := Ii.sub Sg
  have Inm := Inm.sub Sg
  have ham := Ii.ham
  have hmu := Ii.hmu
  obtain ⟨I, C, -, ⟨ne1, -, -⟩, -, ⟨lo1, lo2, -⟩, fnl, -⟩ := id Sg'
  replace ne1 := neN ne1
  clear kS hS0 hX0
  (try dsimp only)
  obtain ⟨e0, e1, -⟩ := expb c hmu
  k_steps
  have C9 : Chg [a.dS, a.dX] s.heap _ := Chg.of Hg (by k_asm)
  exact h _ _ (P.post C9 (by simp) ((AtI.of (by k_asm) (by k_mem) (by assumption)).mono (by omega)) ((AtI.of (by k_asm) (by k_mem) (by assumption)).mono (by omega)) (by rw [swS_ev]; exact P.E C9 (by simp) ⟨nE.2.1, nE.2.2⟩ (by omega)))
theorem c_stest {kw : List (Str × Value)} {cost : Int} {tc : Tok} (R : Rm A 20) (G : Gd w hB) (kS : Sub hB s.heap) (Y : Ctx w hB a 296 lim it nm ns am mu c xs T) (P : Pre w hB A s.heap av a σ b l frs) (hc : 0 ≤ cost ∧ cost ≤ 50) (hkw : KwC kw cost tc 557) (hTe : gsec c * mu ≤ T)
  (h : ∀ h' tk', Post w s.heap h' av a (swI σ T (gsec c * mu) (keyS ns xs am mu (gname c))) (b + 60) frs → Q (.bool (decide (swW σ T (gsec c * mu) (keyS ns xs am mu (gname c)) < am - cost + 1))) {s with heap := h', toks := tk'}) :
  wpAny (model PySem.Challenge.rw_jn0050_01.row.prog w) A (call (.ref 275) [.ref lim, .ref it, .ref nm] kw) Q E s := by
  obtain ⟨oS, hS0, hS⟩ := P.st.S
  obtain ⟨oX, hX0, hX⟩ := P.st.X
  have hb := P.hb
  have nE := Y.sto.ne
  obtain ⟨ha, da, fa, ga, ua⟩ := A
  have hha := R.hd
  dsimp only at hha
  subst hha
  refine' enter (binds := [(Str.ofString "self", .ref lim), (Str.ofString "item", .ref it), (Str.ofString "identifiers", .ref nm), (Str.ofString "cost", .int cost tc)]) (mods := [(a.dS, oS), (a.dX, oX)]) R G kS ?M ?ho ?hcd ?hb ?hl ?_ ?c2 ?c3 ?c4 ?c5
  case M => exact List.forall_mem_cons.mpr ⟨⟨hS0, Y.sto.fr.1⟩, List.forall_mem_cons.mpr ⟨⟨hX0, Y.sto.fr.2.1⟩, List.forall_mem_nil _⟩⟩
  case ho => k_is
  case hcd => k_is
  case hb => first | exact BindsTo.of_eq rfl | exact binds_K (G.X.keeps kS) rfl (by k_is) rfl rfl rfl | (rcases (by assumption : KwC _ _ _ _) with rfl | ⟨rfl, rfl, rfl⟩ <;> first | exact BindsTo.of_eq rfl | exact binds_K (G.X.keeps kS) rfl (by k_is) rfl rfl rfl)
  case hl => exact locs rfl
  case c2 => exact rfl
  case c3 => exact rfl
  case c4 => exact rfl
  case c5 => decide
  intro g L h₁ Hg Sg F N X ⟨p, loose, mean, mg, mb, T0⟩ l1
  obtain ⟨Xs, -, ⟨dl, tl, nl, Il⟩, Ii, Inm, ⟨hT0, hT1⟩⟩ := Y
  have Sg' : Sto w hB g a T := Xs.sub Sg
  have Il := inst_sub Il Sg
  have Ii := Ii.sub Sg
  have Inm := Inm.sub Sg
  have ham := Ii.ham
  have hmu := Ii.hmu
  obtain ⟨I, C, -, ⟨ne1, -, -⟩, -, ⟨lo1, lo2, -⟩, fnl, -⟩ := id Sg'
  replace ne1 := neN ne1
  clear kS hS0 hX0
  (try dsimp only)
  obtain ⟨e0, e1, -⟩ := expb c hmu
  have ht9 : ∀ P, 0 ≤ infTtl T (gsec c * mu) P ∧ infTtl T (gsec c * mu) P ≤ 1000000 := fun P => ⟨(ttl_ok e0 (by omega)).1, Int.le_trans (ttl_ok e0 (by omega)).2 (by omega)⟩
  have ht8 := ht9 (swP σ T (gsec c * mu) (keyS ns xs am mu (gname c)))
  k_steps
  have C9 : Chg [a.dS, a.dX] s.heap _ := Chg.of Hg (by k_asm)
  exact h _ _ (P.post C9 (by simp) ((AtI.of (by k_asm) (by k_mem) (by assumption)).mono (by omega)) ((AtI.of (by k_asm) (by k_mem) (by assumption)).mono (by omega)) (P.E C9 (by simp) ⟨nE.2.1, nE.2.2⟩ (by omega)))
end

end

theorem reg_K3 : True := by
  (k_with "callWith ref" => (((with_reducible show wpAny _ _ (callWith _ (Value.ref 257) _ _ _) _ _ _); k_dflt (refine' callWith_K (f := .ref 257) ?k1z0K3 ?k2z0K3 ?_; (case k1z0K3 => k_asm); (case k2z0K3 => k_is)))))
  (k_with "call ref" => (((with_reducible show wpAny _ _ (call (Value.ref 257) _ _) _ _ _); k_dflt (refine' u_wc ?Rz1K3 ?Gz1K3 ?Sgz1K3 ?Fz1K3 ?Nz1K3 ?Iz1K3 ?htz1K3 ?_; (case Rz1K3 => exact Rm.mono (Rm.deeper _ (by assumption)) (by decide)); (case Gz1K3 => assumption); (case Sgz1K3 => assumption); (case Fz1K3 => k_asm); (case Nz1K3 => k_asm); (case Iz1K3 => assumption); (case htz1K3 => assumption)); intro h'z1K3 tk'z1K3 t'z1K3 F'z1K3 N'z1K3)))
  trivial
section
section
variable {w : World} {A : Around} {E : Value → Shared → Prop} {s : Shared} {Q : Value → Shared → Prop} {hB : Heap} {a : SA} {T : Int} {key : Str} {tk t1 t2 t3 : Tok} {e limit amount : Int} {σ : Sta} {b : Nat} {g : Heap} {L : Addr} {m : Str → Option Value} {news : List (Addr × Obj)} {oS oX oE : Obj} {g1 : Obj → List (Addr × Obj)} {g2 : Obj → Obj → List (Addr × Obj)} {g3 : Obj → Obj → Obj → List (Addr × Obj)}
noncomputable def delS (σ : Sta) (key : Str) : Sta := ⟨del σ.cnt key, del σ.ex key, del σ.ev key⟩
theorem u_csw {kvs : List (Str × Value)} (R : Rm A 10) (G : Gd w hB) (Sg : Sub hB g) (S : Sto w hB g a T) (F : Fr g L s.heap m) (N : News g L s.heap news) (U1 : UpdF a.dS oS news g1) (hS : IsI w oS σ.cnt b) (U2 : ∀ o, UpdF a.dX oX (g1 o) (g2 o)) (m2 : (a.dX, oX) ∈ news) (hX : IsI w oX σ.ex b)
  (U3 : ∀ o o', UpdF a.dE oE (g2 o o') (g3 o o')) (m3 : (a.dE, oE) ∈ news) (hE : oE.IsDictOf (PySem.strKind PySem.Challenge.rw_jn0050_01.row.prog w) kvs) (hb : b < 1000000) (hd : kvs.length ≤ 1000000) (h0 : 0 < e) (h1 : e ≤ T) (h2 : T < 1000000) (hk : key.length ≤ 20000)
  (h : ∀ h' tk' oS' oX' oE', Fr g L h' m → News g L h' (g3 oS' oX' oE') → IsI w oS' (delS (delS σ (pkO T e key)) (ckO T e key)).cnt b → IsI w oX' (delS (delS σ (pkO T e key)) (ckO T e key)).ex b → oE'.IsDictOf (PySem.strKind PySem.Challenge.rw_jn0050_01.row.prog w) (without (without kvs (pkO T e key)) (ckO T e key)) → Q .none {s with heap := h', toks := tk'}) :
  wpAny (model PySem.Challenge.rw_jn0050_01.row.prog w) A (call (.ref 674) [.ref a.st, .str key tk, .int e t1] []) Q E s :=
  c_csw R G (fun b o e => F.keep b o (Sg b o e)) (S.sub F.keep) (AtI.of N (UpdF.has U1) hS) (AtI.of N m2 hX) (kda_dict N m3 hE) (Nat.le_of_lt hb) (Nat.le_of_lt hb) hd h0 h1 h2 hk fun h' tk' C hS' hX' hE' => by
    obtain ⟨oS', e1, hS'⟩ := hS'
    obtain ⟨oX', e2, hX'⟩ := hX'
    obtain ⟨oE', e3, hE'⟩ := Heap.dictOf_iff.mp hE'
    exact h h' tk' oS' oX' oE' (Fr.chg F N C (by
      intro x hx
      rcases List.mem_cons.mp hx with rfl | hx
      · exact ⟨_, UpdF.has U1⟩
      · rcases List.mem_cons.mp hx with rfl | hx
        · exact ⟨_, m2⟩
        · exact List.mem_singleton.mp hx ▸ ⟨_, m3⟩)) (News.three N U1 U2 U3 m2 m3 C e1 e2 e3) hS' hX' hE'
end
theorem reg_K4x1 : True := by
  (k_with "call ref" => (((with_reducible show wpAny _ _ (call (Value.ref 674) _ _) _ _ _); k_dflt (refine' u_csw ?Rz0K4x1 ?Gz0K4x1 ?Sgz0K4x1 ?Sz0K4x1 ?Fz0K4x1 ?Nz0K4x1 ?U1z0K4x1 ?hSz0K4x1 ?U2z0K4x1 ?m2z0K4x1 ?hXz0K4x1 ?U3z0K4x1 ?m3z0K4x1 ?hEz0K4x1 ?hbz0K4x1 ?hdz0K4x1 ?h0z0K4x1 ?h1z0K4x1 ?h2z0K4x1 ?hkz0K4x1 ?_; (case Rz0K4x1 => exact Rm.mono (Rm.deeper _ (by assumption)) (by decide)); (case Gz0K4x1 => assumption); (case Sgz0K4x1 => assumption); (case Sz0K4x1 => assumption); (case Fz0K4x1 => k_asm); (case Nz0K4x1 => k_asm); (case U1z0K4x1 => k_updF); (case hSz0K4x1 => assumption); (case U2z0K4x1 => intro oz0K4x1; (try dsimp only); k_updF); (case m2z0K4x1 => k_mem); (case hXz0K4x1 => assumption); (case U3z0K4x1 => intro oz0K4x1 o'z0K4x1; (try dsimp only); k_updF); (case m3z0K4x1 => k_mem); (case hEz0K4x1 => assumption); (case hbz0K4x1 => omega); (case hdz0K4x1 => omega); (case h0z0K4x1 => omega); (case h1z0K4x1 => omega); (case h2z0K4x1 => omega); (case hkz0K4x1 => omega)); intro h'z0K4x1 tk'z0K4x1 oS'z0K4x1 oX'z0K4x1 oE'z0K4x1 F'z0K4x1 N'z0K4x1 hS'z0K4x1 hX'z0K4x1 hE'z0K4x1; (try dsimp only at N'z0K4x1))))
  trivial
section
open TI
variable {w : World} {A : Around} {E : Value → Shared → Prop} {s : Shared} {Q : Value → Shared → Prop} {hB : Heap} {a : SA} {C lim it nm : Addr} {ns : Str} {am mu : Int} {c : Bool} {xs : List Str} {T : Int} {σ : Sta} {b : Nat} {av : List Addr} {l : List Env} {frs : List (Addr × Obj)}
theorem c_fclear (R : Rm A 20) (G : Gd w hB) (kS : Sub hB s.heap) (Y : Ctx w hB a 241 lim it nm ns am mu c xs T) (P : Pre w hB A s.heap av a σ b l frs)
  (h : ∀ h' tk', Post w s.heap h' av a (delS σ (keyS ns xs am mu (gname c))) (b + 60) frs → Q .none {s with heap := h', toks := tk'}) :
  wpAny (model PySem.Challenge.rw_jn0050_01.row.prog w) A (call (.ref 158) [.ref lim, .ref it, .ref nm] []) Q E s := by
  obtain ⟨oS, hS0, hS⟩ := P.st.S
  obtain ⟨oX, hX0, hX⟩ := P.st.X
  have hb := P.hb
  have nE := Y.sto.ne
  obtain ⟨kvs, hE0, H⟩ := P.st.E
  obtain ⟨oE, hE0, hE⟩ := Heap.dictOf_iff.mp hE0
  have hkv : kvs.length ≤ 1000000 := by have := H.1; omega
  obtain ⟨ha, da, fa, ga, ua⟩ := A
  have hha := R.hd
  dsimp only at hha
  subst hha
  refine' enter (binds := [(Str.ofString "self", .ref lim), (Str.ofString "item", .ref it), (Str.ofString "identifiers", .ref nm)]) (mods := [(a.dS, oS), (a.dX, oX), (a.dE, oE)]) R G kS ?M ?ho ?hcd ?hb ?hl ?_ ?c2 ?c3 ?c4 ?c5
  case M => exact List.forall_mem_cons.mpr ⟨⟨hS0, Y.sto.fr.1⟩, List.forall_mem_cons.mpr ⟨⟨hX0, Y.sto.fr.2.1⟩, List.forall_mem_cons.mpr ⟨⟨hE0, Y.sto.fr.2.2⟩, List.forall_mem_nil _⟩⟩⟩
  case ho => k_is
  case hcd => k_is
  case hb => first | exact BindsTo.of_eq rfl | exact binds_K (G.X.keeps kS) rfl (by k_is) rfl rfl rfl | (rcases (by assumption : KwC _ _ _ _) with rfl | ⟨rfl, rfl, rfl⟩ <;> first | exact BindsTo.of_eq rfl | exact binds_K (G.X.keeps kS) rfl (by k_is) rfl rfl rfl)
  case hl => exact locs rfl
  case c2 => exact rfl
  case c3 => exact rfl
  case c4 => exact rfl
  case c5 => decide
  intro g L h₁ Hg Sg F N X ⟨p, loose, mean, mg, mb, T0⟩ l1
  obtain ⟨Xs, -, ⟨dl, tl, nl, Il⟩, Ii, Inm, ⟨hT0, hT1⟩⟩ := Y
  have Sg' : Sto w hB g a T := Xs.sub Sg
  have Il := inst_sub Il Sg
  have Ii := Ii.sub Sg
  have Inm := Inm.sub Sg
  have ham := Ii.ham
  have hmu := Ii.hmu
  obtain ⟨I, C, -, ⟨ne1, ne2, ne3⟩, -, ⟨lo1, lo2, lo3⟩, fnl, -⟩ := id Sg'
  replace ne1 := neN ne1
  replace ne2 := neN ne2
  replace ne3 := neN ne3
  clear kS hS0 hX0 hE0
  (try dsimp only)
  k_steps
  have C9 : Chg [a.dS, a.dX, a.dE] s.heap _ := Chg.of Hg (by k_asm)
  exact h _ _ (P.post C9 (by simp) ((AtI.of (by k_asm) (by k_mem) (by assumption)).mono (by omega)) ((AtI.of (by k_asm) (by k_mem) (by assumption)).mono (by omega)) (AtE.of (News.get (by k_asm) (by k_mem)) (by assumption) (((H.del _).on (P.stay C9 (by simp))).mono (by omega))))
theorem c_mclear (R : Rm A 20) (G : Gd w hB) (kS : Sub hB s.heap) (Y : Ctx w hB a 202 lim it nm ns am mu c xs T) (P : Pre w hB A s.heap av a σ b l frs)
  (h : ∀ h' tk', Post w s.heap h' av a (delS σ (keyS ns xs am mu (gname c))) (b + 60) frs → Q .none {s with heap := h', toks := tk'}) :
  wpAny (model PySem.Challenge.rw_jn0050_01.row.prog w) A (call (.ref 158) [.ref lim, .ref it, .ref nm] []) Q E s := by
  obtain ⟨oS, hS0, hS⟩ := P.st.S
  obtain ⟨oX, hX0, hX⟩ := P.st.X
  have hb := P.hb
  have nE := Y.sto.ne
  obtain ⟨kvs, hE0, H⟩ := P.st.E
  obtain ⟨oE, hE0, hE⟩ := Heap.dictOf_iff.mp hE0
  have hkv : kvs.length ≤ 1000000 := by have := H.1; omega
  obtain ⟨ha, da, fa, ga, ua⟩ := A
  have hha := R.hd
  dsimp only at hha
  subst hha
  refine' enter (binds := [(Str.ofString "self", .ref lim), (Str.ofString "item", .ref it), (Str.ofString "identifiers", .ref nm)]) (mods := [(a.dS, oS), (a.dX, oX), (a.dE, oE)]) R G kS ?M ?ho ?hcd ?hb ?hl ?_ ?c2 ?c3 ?c4 ?c5
  case M => exact List.forall_mem_cons.mpr ⟨⟨hS0, Y.sto.fr.1⟩, List.forall_mem_cons.mpr ⟨⟨hX0, Y.sto.fr.2.1⟩, List.forall_mem_cons.mpr ⟨⟨hE0, Y.sto.fr.2.2⟩, List.forall_mem_nil _⟩⟩⟩
  case ho => k_is
  case hcd => k_is
  case hb => first | exact BindsTo.of_eq rfl | exact binds_K (G.X.keeps kS) rfl (by k_is) rfl rfl rfl | (rcases (by assumption : KwC _ _ _ _) with rfl | ⟨rfl, rfl, rfl⟩ <;> first | exact BindsTo.of_eq rfl | exact binds_K (G.X.keeps kS) rfl (by k_is) rfl rfl rfl)
  case hl => exact locs rfl
  case c2 => exact rfl
  case c3 => exact rfl
  case c4 => exact rfl
  case c5 => decide
  intro g L h₁ Hg Sg F N X ⟨p, loose, mean, mg, mb, T0⟩ l1
  obtain ⟨Xs, -, ⟨dl, tl, nl, Il⟩, Ii, Inm, ⟨hT0, hT1⟩⟩ := Y
  have Sg' : Sto w hB g a T := Xs.sub Sg
  have Il := inst_sub Il Sg
  have Ii := Ii.sub Sg
  have Inm := Inm.sub Sg
  have ham := Ii.ham
  have hmu := Ii.hmu
  obtain ⟨I, C, -, ⟨ne1, ne2, ne3⟩, -, ⟨lo1, lo2, lo3⟩, fnl, -⟩ := id Sg'
  replace ne1 := neN ne1
  replace ne2 := neN ne2
  replace ne3 := neN ne3
  clear kS hS0 hX0 hE0
  (try dsimp only)
  k_steps
  have C9 : Chg [a.dS, a.dX, a.dE] s.heap _ := Chg.of Hg (by k_asm)
  exact h _ _ (P.post C9 (by simp) ((AtI.of (by k_asm) (by k_mem) (by assumption)).mono (by omega)) ((AtI.of (by k_asm) (by k_mem) (by assumption)).mono (by omega)) (AtE.of (News.get (by k_asm) (by k_mem)) (by assumption) (((H.del _).on (P.stay C9 (by simp))).mono (by omega))))
theorem c_sclear (R : Rm A 20) (G : Gd w hB) (kS : Sub hB s.heap) (Y : Ctx w hB a 296 lim it nm ns am mu c xs T) (P : Pre w hB A s.heap av a σ b l frs) (hTe : gsec c * mu ≤ T)
  (h : ∀ h' tk', Post w s.heap h' av a (delS (delS σ (pkO T (gsec c * mu) (keyS ns xs am mu (gname c)))) (ckO T (gsec c * mu) (keyS ns xs am mu (gname c)))) (b + 60) frs → Q .none {s with heap := h', toks := tk'}) :
  wpAny (model PySem.Challenge.rw_jn0050_01.row.prog w) A (call (.ref 293) [.ref lim, .ref it, .ref nm] []) Q E s := by
  obtain ⟨oS, hS0, hS⟩ := P.st.S
  obtain ⟨oX, hX0, hX⟩ := P.st.X
  have hb := P.hb
  have nE := Y.sto.ne
  obtain ⟨kvs, hE0, H⟩ := P.st.E
  obtain ⟨oE, hE0, hE⟩ := Heap.dictOf_iff.mp hE0
  have hkv : kvs.length ≤ 1000000 := by have := H.1; omega
  obtain ⟨ha, da, fa, ga, ua⟩ := A
  have hha := R.hd
  dsimp only at hha
  subst hha
  refine' enter (binds := [(Str.ofString "self", .ref lim), (Str.ofString "item", .ref it), (Str.ofString "identifiers", .ref nm)]) (mods := [(a.dS, oS), (a.dX, oX), (a.dE, oE)]) R G kS ?M ?ho ?hcd ?hb ?hl ?_ ?c2 ?c3 ?c4 ?c5
  case M => exact List.forall_mem_cons.mpr ⟨⟨hS0, Y.sto.fr.1⟩, List.forall_mem_cons.mpr ⟨⟨hX0, Y.sto.fr.2.1⟩, List.forall_mem_cons.mpr ⟨⟨hE0, Y.sto.fr.2.2⟩, List.forall_mem_nil _⟩⟩⟩
  case ho => k_is
  case hcd => k_is
  case hb => first | exact BindsTo.of_eq rfl | exact binds_K (G.X.keeps kS) rfl (by k_is) rfl rfl rfl | (rcases (by assumption : KwC _ _ _ _) with rfl | ⟨rfl, rfl, rfl⟩ <;> first | exact BindsTo.of_eq rfl | exact binds_K (G.X.keeps kS) rfl (by k_is) rfl rfl rfl)
  case hl => exact locs rfl
  case c2 => exact rfl
  case c3 => exact rfl
  case c4 => exact rfl
  case c5 => decide
  intro g L h₁ Hg Sg F N X ⟨p, loose, mean, mg, mb, T0⟩ l1
  obtain ⟨Xs, -, ⟨dl, tl, nl, Il⟩, Ii, Inm, ⟨hT0, hT1⟩⟩ := Y
  have Sg' : Sto w hB g a T := Xs.sub Sg
  have Il := inst_sub Il Sg
  have Ii := Ii.sub Sg
  have Inm := Inm.sub Sg
  have ham := Ii.ham
  have hmu := Ii.hmu
  obtain ⟨I, C, -, ⟨ne1, ne2, ne3⟩, -, ⟨lo1, lo2, lo3⟩, fnl, -⟩ := id Sg'
  replace ne1 := neN ne1
  replace ne2 := neN ne2
  replace ne3 := neN ne3
  clear kS hS0 hX0 hE0
  (try dsimp only)
  obtain ⟨e0, e1, -⟩ := expb c hmu
  k_steps
  have C9 : Chg [a.dS, a.dX, a.dE] s.heap _ := Chg.of Hg (by k_asm)
  exact h _ _ (P.post C9 (by simp) ((AtI.of (by k_asm) (by k_mem) (by assumption)).mono (by omega)) ((AtI.of (by k_asm) (by k_mem) (by assumption)).mono (by omega)) (AtE.of (News.get (by k_asm) (by k_mem)) (by assumption) ((((H.del _).del _).on (P.stay C9 (by simp))).mono (by omega))))
end

end
section
section
open TI
variable {w : World} {A : Around} {E : Value → Shared → Prop} {s : Shared} {Q : Value → Shared → Prop} {hB : Heap} {a : SA} {C lim it nm : Addr} {ns : Str} {am mu : Int} {c : Bool} {xs : List Str} {T : Int} {σ : Sta} {b : Nat} {av : List Addr} {l : List Env} {frs : List (Addr × Obj)}
theorem EntryAt.cons {g : Heap} {L r : Addr} {x : Int × Int} (e : g.get? L = none) (H : EntryAt w av g r x) : EntryAt w (L :: av) g r x := by
  obtain ⟨dr, n, ta, te, t1, t2, I, a1, a2⟩ := H
  refine ⟨dr, n, ta, te, t1, t2, I, fun q => ?_, fun q => ?_⟩
  · rcases List.mem_cons.mp q with q | q
    · have := I.at_; rw [q, e] at this; cases this
    · exact a1 q
  · rcases List.mem_cons.mp q with q | q
    · have h2 : g.get? dr = some _ := I.dict
      rw [q, e] at h2; cases h2
    · exact a2 q
theorem Ents.cons {g : Heap} {L : Addr} (e : g.get? L = none) {vs : List Value} {l : List (Int × Int)} (E : Ents w av g vs l) : Ents w (L :: av) g vs l :=
  Ents.ind (P := fun vs l => Ents w (L :: av) g vs l) trivial (fun a _ ih => ⟨a.cons e, ih⟩) E
theorem EK.cons {g : Heap} {L : Addr} {kvs : List (Str × Value)} {f : Str → Option (List (Int × Int))} (e : g.get? L = none) (H : EK w av g kvs f b) : EK w (L :: av) g kvs f b := by
  refine ⟨H.1, fun k => ?_, H.2.2⟩
  have := H.2.1 k
  cases q : f k with
  | none => rw [q] at this; exact this
  | some l =>
    rw [q] at this
    obtain ⟨x, e1, vs, ep, e2, n, r⟩ := this
    refine ⟨x, e1, vs, ep, e2, fun q => ?_, r.cons e⟩
    rcases List.mem_cons.mp q with q | q
    · rw [q, e] at e2; cases e2
    · exact n q
theorem EntryAt.weak {g : Heap} {av' : List Addr} {r : Addr} {x : Int × Int} (k : ∀ y ∈ av, y ∈ av') (H : EntryAt w av' g r x) : EntryAt w av g r x := by
  obtain ⟨dr, n, ta, te, t1, t2, I, a1, a2⟩ := H
  exact ⟨dr, n, ta, te, t1, t2, I, fun q => a1 (k _ q), fun q => a2 (k _ q)⟩
theorem Ents.weak {g : Heap} {av' : List Addr} (k : ∀ y ∈ av, y ∈ av') {vs : List Value} {l : List (Int × Int)} (E : Ents w av' g vs l) : Ents w av g vs l :=
  Ents.ind (P := fun vs l => Ents w av g vs l) trivial (fun a _ ih => ⟨a.weak k, ih⟩) E
theorem AtE.weak {g : Heap} {d : Addr} {av' : List Addr} {f : Str → Option (List (Int × Int))} (k : ∀ y ∈ av, y ∈ av') (H : AtE w av' g d f b) : AtE w av g d f b := by
  obtain ⟨kvs, x, H⟩ := H
  refine ⟨kvs, x, H.1, fun y => ?_, H.2.2⟩
  have := H.2.1 y
  cases q : f y with
  | none => rw [q] at this; exact this
  | some l =>
    rw [q] at this
    obtain ⟨x, e1, vs, ep, e2, n, r⟩ := this
    exact ⟨x, e1, vs, ep, e2, fun q => n (k _ q), r.weak k⟩
noncomputable def acqS (σ : Sta) (T e : Int) (key : Str) (limit amount : Int) : Sta := ⟨σ.cnt, σ.ex, acqF σ.ev key T limit e amount⟩
theorem c_mhit {cost : Int} {tc : Tok} (R : Rm A 20) (G : Gd w hB) (kS : Sub hB s.heap) (Y : Ctx w hB a 202 lim it nm ns am mu c xs T) (P : Pre w hB A s.heap av a σ b l frs) (hc : 0 ≤ cost ∧ cost ≤ 50)
  (h : ∀ h' tk', Post w s.heap h' av a (acqS σ T (gsec c * mu) (keyS ns xs am mu (gname c)) am cost) (b + 60) frs → Q (.bool (acqR σ.ev (keyS ns xs am mu (gname c)) T am (gsec c * mu) cost)) {s with heap := h', toks := tk'}) :
  wpAny (model PySem.Challenge.rw_jn0050_01.row.prog w) A (call (.ref 181) [.ref lim, .ref it, .ref nm] [(Str.ofString "cost", .int cost tc)]) Q E s := by
  obtain ⟨kvs, hE0, H⟩ := P.st.E
  obtain ⟨oE, hE0, hE⟩ := Heap.dictOf_iff.mp hE0
  have hb := P.hb
  have hfr := P.fr
  obtain ⟨hA, da, fa, ga, ua⟩ := A
  have hha := R.hd
  dsimp only at hha hfr
  subst hha
  subst hfr
  refine' enter (binds := [(Str.ofString "self", .ref lim), (Str.ofString "item", .ref it), (Str.ofString "identifiers", .ref nm), (Str.ofString "cost", .int cost tc)]) (mods := (a.dE, oE) :: frs) R G kS ?M ?ho ?hcd ?hb ?hl ?_ ?c2 ?c3 ?c4 ?c5
  case M => exact List.forall_mem_cons.mpr ⟨⟨hE0, Y.sto.fr.2.2⟩, P.fs⟩
  case ho => k_is
  case hcd => k_is
  case hb => first | exact BindsTo.of_eq rfl | exact binds_K (G.X.keeps kS) rfl (by k_is) rfl rfl rfl
  case hl => exact locs rfl
  case c2 => exact rfl
  case c3 => exact rfl
  case c4 => exact rfl
  case c5 => decide
  intro g L h₁ Hg Sg F N X ⟨p, loose, mean, mg, mb, T0⟩ l1
  have Y' := Y
  obtain ⟨Xs, fpin, ⟨dl, tl, nl, Il⟩, Ii, Inm, ⟨hT0, hT1⟩⟩ := Y
  have Sg' : Sto w hB g a T := Xs.sub Sg
  have Il := inst_sub Il Sg
  have Ii := Ii.sub Sg
  have Inm := Inm.sub Sg
  have ham := Ii.ham
  have hmu := Ii.hmu
  obtain ⟨e0, e1, -⟩ := expb c hmu
  obtain ⟨I, Ck, -, ⟨ne1, ne2, ne3⟩, -, ⟨lo1, lo2, lo3⟩, fnl, -⟩ := id Sg'
  (try dsimp only)
  have gL : g.get? L = none := Heap.get?_none_of_le F.above
  have Stg : Stay av s.heap g := fun b o e q => Hg b o e fun q' => by
    rcases List.mem_cons.mp q' with q' | q'
    · exact q (by rw [q']; exact P.mav _ (by simp))
    · exact q (P.mav _ (by simp only [List.mem_cons]; exact .inr (.inr (.inr (.inr (.inr q'))))))
  k_steps
  rename Fr _ _ _ _ => F9
  rename News _ _ _ _ => N9
  obtain ⟨oL, es, ep, hL, hLd, -⟩ := id F9.ns
  have keep : ∀ {h'}, Chg (a.dE :: ((L, oL) :: frs).map (·.1)) _ h' → ∀ x o, s.heap.get? x = some o → x ∉ a.dE :: frs.map (·.1) → h'.get? x = some o := fun {h'} C x o e n => C x o (F9.keep _ _ (Hg x o e n)) fun q => by
    rcases List.mem_cons.mp q with q | q
    · exact n (q ▸ .head _)
    · rcases List.mem_cons.mp q with q | q
      · have := Hg x o e n
        rw [show x = L from q, gL] at this; cases this
      · exact n (.tail _ q)
  have notL : ∀ {x o}, s.heap.get? x = some o → x ∉ a.dE :: frs.map (·.1) → x ≠ L := fun e n q => by
    have := Hg _ _ e n
    rw [q, gL] at this; cases this
  have LnB : hB.get? L = none := by
    cases q : hB.get? L with
    | none => rfl
    | some o => have := Sg _ _ q; rw [gL] at this; cases this
  refine c_acq (av := L :: av) (frs := (L, oL) :: frs) (Rm.mono (Rm.deeper _ R) (by decide)) G (fun b o e => F9.keep b o (Sg b o e)) (Sg'.sub F9.keep) rfl ⟨(show ScopeKind.function ≠ ScopeKind.module by decide), rfl, ⟨es, ep, hLd⟩, P.Fs⟩ ?_ ?_ (N9 _ (.head _)).1 hE (((H.on Stg).cons gL).on (Stay.sub F9.keep)) (by omega) (.tail _ (P.mav _ (by simp))) ?_ ?_ ham hc ⟨e0, by omega⟩ ⟨hT0, hT1⟩ fun h' tk' frs' C SU hp hE' => ?_
  · exact List.forall_mem_cons.mpr ⟨⟨hL, LnB⟩, fun p hp => ⟨(N9 _ (.tail _ hp)).1, (P.fs p hp).2⟩⟩
  · refine List.forall_mem_cons.mpr ⟨⟨fun q => ?_, fun q => ?_⟩, fun p hp => ⟨fun q => ?_, (P.fne p hp).2.2.1⟩⟩
    · have hin : ∃ o, hB.get? L = some o := by
        rcases List.mem_cons.mp q with q | q
        · exact ⟨_, q ▸ Xs.inst.at_⟩
        · rcases List.mem_cons.mp q with q | q
          · exact ⟨_, q ▸ Xs.inst.dict⟩
          · exact fpin _ q
      obtain ⟨o, ho⟩ := hin
      rw [LnB] at ho; cases ho
    · exact (N9 _ (.head _)).2.1 (show a.dE = L from (show L = a.dE from q).symm)
    · have hin : ∃ o, hB.get? p.1 = some o := by
        rcases List.mem_cons.mp q with q | q
        · exact ⟨_, q ▸ Xs.inst.at_⟩
        · rcases List.mem_cons.mp q with q | q
          · exact ⟨_, q ▸ Xs.inst.dict⟩
          · exact fpin _ q
      obtain ⟨o, ho⟩ := hin
      rw [(P.fs p hp).2] at ho; cases ho
  · exact List.forall_mem_cons.mpr ⟨.head _, fun p hp => .tail _ (P.mav _ (by simp only [List.mem_cons]; exact .inr (.inr (.inr (.inr (.inr (List.mem_map_of_mem hp)))))))⟩
  · refine List.forall_mem_cons.mpr ⟨⟨_, hL⟩, fun y hy => ?_⟩
    obtain ⟨o, ho⟩ := P.hav y hy
    by_cases q : y ∈ a.dE :: frs.map (·.1)
    · rcases List.mem_cons.mp q with q | q
      · exact ⟨_, q ▸ (N9 _ (.head _)).1⟩
      · obtain ⟨p, hp, q⟩ := List.mem_map.mp q
        exact ⟨_, q ▸ (N9 _ (.tail _ hp)).1⟩
    · exact ⟨o, F9.keep _ _ (Hg _ _ ho q)⟩
  · have k9 := fun x o e n => keep C x o e n
    have dne : ∀ {x}, x ≠ a.dE → (∀ p ∈ frs, p.1 ≠ x) → x ∉ a.dE :: frs.map (·.1) := fun n1 n2 q => by
      rcases List.mem_cons.mp q with q | q
      · exact n1 q
      · obtain ⟨p, hp, q⟩ := List.mem_map.mp q
        exact n2 p hp q
    have St9 : Stay av s.heap h' := fun x o e n => k9 x o e fun q => n (P.mav _ (by
      rcases List.mem_cons.mp q with q | q
      · rw [q]; simp
      · simp only [List.mem_cons]; exact .inr (.inr (.inr (.inr (.inr q))))))
    obtain ⟨⟨pg, tg⟩, ⟨px, tx⟩⟩ := P.tb
    obtain ⟨⟨n1, n2, n3⟩, ⟨n4, n5, n6⟩⟩ := P.tne
    refine h _ _ ⟨fun x o e n => k9 x o e fun q => n (by
      rcases List.mem_cons.mp q with q | q
      · rw [q]; simp
      · simp only [List.mem_cons]; exact .inr (.inr (.inr (.inr (.inr q))))), ?_, ⟨?_, ?_, AtE.weak (fun y hy => .tail _ hy) hE'⟩, ⟨⟨pg, tg.on (fun o e => k9 _ _ e (dne n3.symm fun p hp => (P.fne p hp).2.2.2.1)) St9⟩, ⟨px, tx.on (fun o e => k9 _ _ e (dne n6.symm fun p hp => (P.fne p hp).2.2.2.2)) St9⟩⟩⟩
    · cases frs' with
      | nil => exact False.elim SU
      | cons q qs => exact ⟨qs, SU.2.2, fun p hp' => hp p (.tail _ hp')⟩
    · exact (P.st.S.on fun o e => k9 _ _ e (dne ne2 fun p hp => (P.fne p hp).1)).mono (by omega)
    · exact (P.st.X.on fun o e => k9 _ _ e (dne ne3 fun p hp => (P.fne p hp).2.1)).mono (by omega)
end

end
section
section
open TI
variable {w : World} {A : Around} {E : Value → Shared → Prop} {s : Shared} {Q : Value → Shared → Prop} {hB : Heap} {a : SA} {C lim it nm : Addr} {ns : Str} {am mu : Int} {c : Bool} {xs : List Str} {T : Int} {σ : Sta} {b : Nat} {av : List Addr} {l : List Env} {frs : List (Addr × Obj)}
theorem Pre.postG {h0 h' : Heap} (P : Pre w hB A h0 av a σ b l frs) (C : Chg [640] h0 h') (t : ∃ ps, TabOk av h' 640 qG posG ps) : Post w h0 h' av a σ (b + 60) frs := by
  have st : Stay av h0 h' := fun x o e n => C x o e fun q => n (P.mav _ (by rw [List.mem_singleton.mp q]; simp))
  obtain ⟨⟨n1, n2, n3⟩, ⟨n4, n5, n6⟩⟩ := P.tne
  have ns : ∀ {x : Addr}, x ≠ 640 → x ∉ [640] := fun n q => n (List.mem_singleton.mp q)
  obtain ⟨px, tx⟩ := P.tb.x
  exact ⟨fun x o e n => C x o e fun q => n (by rw [List.mem_singleton.mp q]; simp), ⟨frs, SameUp.refl _, fun p hp => C _ _ (P.fs p hp).1 (ns (P.fne p hp).2.2.2.1)⟩,
    ⟨(P.st.S.on fun o e => C _ _ e (ns n1)).mono (by omega), (P.st.X.on fun o e => C _ _ e (ns n2)).mono (by omega), (P.st.E.on' (fun o e => C _ _ e (ns n3)) st).mono' (by omega)⟩, ⟨t, ⟨px, tx.on (fun o e => C _ _ e (by decide)) st⟩⟩⟩
noncomputable def TabK (av : List Addr) (g : Heap) (ex : List (Addr × Obj)) (qual : Str) (pos : Pos) (ps : Array Value) : Prop := TriplesOk ps.toList ∧
  (codeAmong pos ps.toList = none ∨ ∃ c', codeAmong pos ps.toList = some (.ref c') ∧ c' ∉ av ∧ (g.CodeRec (.ref c') qual ∨ ∃ oc vs t, (c', oc) ∈ ex ∧ oc.data = .fields vs ∧ vs[1]? = some (.str qual t)))
theorem TabK.ok {g h : Heap} {L P : Addr} {m : Str → Option Value} {news ex : List (Addr × Obj)} {qual : Str} {pos : Pos} {ps : Array Value} (T : TabK av g ex qual pos ps) (F : Fr g L h m) (N : News g L h news) (hm : (P, tabObj ps) ∈ news) (he : ∀ p ∈ ex, p ∈ news) : TabOk av h P qual pos ps :=
  ⟨(N _ hm).1, T.1, by
    rcases T.2 with x | ⟨c', e1, e2, e3⟩
    · exact .inl x
    · refine .inr ⟨c', e1, ?_, e2⟩
      rcases e3 with e3 | ⟨oc, vs, t, hoc, hd, hv⟩
      · exact CodeRec.stay (av := []) e3 (by simp) (Stay.sub F.keep)
      · exact codeRec_news N (he _ hoc) hd hv⟩
theorem TabOk.split {g h : Heap} {L P : Addr} {m : Str → Option Value} {news : List (Addr × Obj)} {qual : Str} {pos : Pos} {ps : Array Value} (T : TabOk av h P qual pos ps) (F : Fr g L h m) (N : News g L h news) : ∃ ex, News g L h (news ++ ex) ∧ TabK av g ex qual pos ps := by
  rcases T.2.2 with x | ⟨c', e1, ⟨c, oc, vs, t, q, e2, e3, e4⟩, e5⟩
  · exact ⟨[], by simpa using N, T.2.1, .inl x⟩
  · cases q
    cases q : g.get? c' with
    | some o =>
      have := F.keep _ _ q
      rw [e2] at this; cases this
      exact ⟨[], by simpa using N, T.2.1, .inr ⟨c', e1, e5, .inl ⟨c', oc, vs, t, rfl, q, e3, e4⟩⟩⟩
    | none =>
      refine ⟨[(c', oc)], fun p hp => ?_, T.2.1, .inr ⟨c', e1, e5, .inr ⟨oc, vs, t, .head _, e3, e4⟩⟩⟩
      rcases List.mem_append.mp hp with hp | hp
      · exact N p hp
      · rw [List.mem_singleton.mp hp]
        refine ⟨e2, fun z => ?_, q⟩
        obtain ⟨oL, es, ep, hL, hd, _⟩ := F.ns
        rw [show c' = L from z, hL] at e2
        cases e2; rw [hd] at e3; cases e3
theorem u_gmw {key : Str} {tk tl te : Tok} {limit expiry : Int} {kvs : List (Str × Value)} {oE : Obj} {f : Str → Option (List (Int × Int))} {ps : Array Value} {g : Heap} {L : Addr} {m : Str → Option Value} {news : List (Addr × Obj)} {g1 : Obj → List (Addr × Obj)} (R : Rm A 20) (G : Gd w hB) (Sg : Sub hB g) (S : Sto w hB g a T) (F : Fr g L s.heap m) (N : News g L s.heap news)
  (U : UpdF 640 (tabObj ps) news g1) (mE : (a.dE, oE) ∈ news) (hE : oE.IsDictOf (PySem.strKind PySem.Challenge.rw_jn0050_01.row.prog w) kvs) (H : EK w av g kvs f b) (hb : b ≤ 100000) (hdE : a.dE ∈ av) (hav : ∀ y ∈ av, y = a.dE ∨ y = 640 ∨ ∃ o, g.get? y = some o)
  (ht : TriplesOk ps.toList) (hc : codeAmong posG ps.toList = none ∨ ∃ c', codeAmong posG ps.toList = some (.ref c') ∧ g.CodeRec (.ref c') qG ∧ c' ∉ av) (hta : 640 ∈ av) (ntE : a.dE ≠ 640) (ntS : ∀ x ∈ a.st :: a.dst :: a.fp, x ≠ 640)
  (he : 0 < expiry ∧ expiry ≤ 100000) (hT : 0 ≤ T ∧ T ≤ 100000)
  (h : ∀ h' tk' D t1 t2 ps' ex, Fr g L h' m → News g L h' ((D, { cls := .type "tuple", data := .seq ([.int (gmwF ((f key).getD []) T expiry).1 t1, .int (gmwF ((f key).getD []) T expiry).2 t2] : List Value).toArray }) :: g1 (tabObj ps') ++ ex) → TabK av g ex qG posG ps' → (∀ p ∈ g1 (tabObj ps'), p.1 ≠ D) → Q (.ref D) {s with heap := h', toks := tk'}) :
  wpAny (model PySem.Challenge.rw_jn0050_01.row.prog w) A (call (.ref 645) [.ref a.st, .str key tk, .int limit tl, .int expiry te] []) Q E s := by
  have e640 := N _ (UpdF.has U)
  have gn : g.get? 640 = none := e640.2.2
  have hBn : hB.get? 640 = none := by
    cases q : hB.get? 640 with
    | none => rfl
    | some o => have := Sg _ _ q; rw [gn] at this; cases this
  have hav' : ∀ y ∈ av, ∃ o, s.heap.get? y = some o := fun y hy => by
    rcases hav y hy with r | r | ⟨o, r⟩
    · exact ⟨_, r ▸ (N _ mE).1⟩
    · exact ⟨_, r ▸ e640.1⟩
    · exact ⟨o, F.keep _ _ r⟩
  have hc' : codeAmong posG ps.toList = none ∨ ∃ c', codeAmong posG ps.toList = some (.ref c') ∧ s.heap.CodeRec (.ref c') qG ∧ c' ∉ av := by
    rcases hc with x | ⟨c', e1, e2, e3⟩
    · exact .inl x
    · exact .inr ⟨c', e1, CodeRec.stay e2 e3 (Stay.sub F.keep), e3⟩
  refine c_gmw R G (fun b o e => F.keep b o (Sg b o e)) (S.sub F.keep) (N _ mE).1 hE (H.on (Stay.sub F.keep)) hb hdE hav' ⟨e640.1, ht, hc'⟩ hBn hta ntE ntS he hT fun h' tk' D t1 t2 ps' C t e0 eD => ?_
  have F' := Fr.chg F N C (fun x hx => List.mem_singleton.mp hx ▸ ⟨_, UpdF.has U⟩)
  have N' := News.one N U C t.1
  have fr : ∀ p ∈ g1 (tabObj ps'), p.1 ≠ D := fun p hp q => by
    obtain ⟨y, hy⟩ := UpdF.map U _ hp
    have := (N _ hy).1
    rw [show p.1 = D from q, e0] at this; cases this
  have N2 : News g L h' ((D, { cls := .type "tuple", data := .seq ([.int (gmwF ((f key).getD []) T expiry).1 t1, .int (gmwF ((f key).getD []) T expiry).2 t2] : List Value).toArray }) :: g1 (tabObj ps')) := fun p hp => by
    rcases List.mem_cons.mp hp with rfl | hp
    · refine ⟨eD, fun q => ?_, ?_⟩
      · obtain ⟨oL, es, ep, hL, _⟩ := F.ns
        rw [show D = L from q, hL] at e0; cases e0
      · cases q : g.get? D with
        | none => rfl
        | some o' => have := F.keep D o' q; rw [e0] at this; cases this
    · exact N' p hp
  obtain ⟨ex, N3, K3⟩ := t.split F' N2
  exact h h' tk' D t1 t2 ps' ex F' N3 K3 fr
end
theorem reg_K6x1 : True := by
  (k_with "call ref" => (((with_reducible show wpAny _ _ (call (Value.ref 645) _ _) _ _ _); k_dflt (refine' u_gmw ?Rz0K6x1 ?Gz0K6x1 ?Sgz0K6x1 ?Sz0K6x1 ?Fz0K6x1 ?Nz0K6x1 ?Uz0K6x1 ?mEz0K6x1 ?hEz0K6x1 ?Hz0K6x1 ?hbz0K6x1 ?hdEz0K6x1 ?havz0K6x1 ?htz0K6x1 ?hcz0K6x1 ?htaz0K6x1 ?ntEz0K6x1 ?ntSz0K6x1 ?hez0K6x1 ?hTz0K6x1 ?_; (case Rz0K6x1 => exact Rm.mono (Rm.deeper _ (by assumption)) (by decide)); (case Gz0K6x1 => assumption); (case Sgz0K6x1 => assumption); (case Sz0K6x1 => assumption); (case Fz0K6x1 => k_asm); (case Nz0K6x1 => k_asm); (case Uz0K6x1 => k_updF); (case mEz0K6x1 => k_mem); (case hEz0K6x1 => assumption); (case Hz0K6x1 => assumption); (case hbz0K6x1 => omega); (case hdEz0K6x1 => assumption); (case havz0K6x1 => assumption); (case htz0K6x1 => assumption); (case hcz0K6x1 => assumption); (case htaz0K6x1 => assumption); (case ntEz0K6x1 => assumption); (case ntSz0K6x1 => assumption); (case hez0K6x1 => exact ⟨by omega, by omega⟩); (case hTz0K6x1 => exact ⟨by omega, by omega⟩)); intro h'z0K6x1 tk'z0K6x1 D'z0K6x1 t1z0K6x1 t2z0K6x1 ps'z0K6x1 ex'z0K6x1 F'z0K6x1 N'z0K6x1 tb'z0K6x1 l1z0K6x1; (try dsimp only at N'z0K6x1 l1z0K6x1); (try simp only [List.cons_append, List.nil_append] at N'z0K6x1); (replace l1z0K6x1 := allNe_of l1z0K6x1); (dsimp +zetaDelta only [AllNe] at l1z0K6x1))))
  trivial
section
open TI
variable {w : World} {A : Around} {E : Value → Shared → Prop} {s : Shared} {Q : Value → Shared → Prop} {hB : Heap} {a : SA} {C lim it nm : Addr} {ns : Str} {am mu : Int} {c : Bool} {xs : List Str} {T : Int} {σ : Sta} {b : Nat} {av : List Addr} {l : List Env} {frs : List (Addr × Obj)}
theorem c_mtest {kw : List (Str × Value)} {cost : Int} {tc : Tok} (R : Rm A 26) (G : Gd w hB) (kS : Sub hB s.heap) (Y : Ctx w hB a 202 lim it nm ns am mu c xs T) (P : Pre w hB A s.heap av a σ b l frs) (hc : 0 ≤ cost ∧ cost ≤ 50) (hkw : KwC kw cost tc 436)
  (h : ∀ h' tk', Post w s.heap h' av a σ (b + 60) frs → Q (.bool (decide ((gmwF ((σ.ev (keyS ns xs am mu (gname c))).getD []) T (gsec c * mu)).2 ≤ am - cost))) {s with heap := h', toks := tk'}) :
  wpAny (model PySem.Challenge.rw_jn0050_01.row.prog w) A (call (.ref 190) [.ref lim, .ref it, .ref nm] kw) Q E s := by
  obtain ⟨kvs, hE0, H⟩ := P.st.E
  obtain ⟨oE, hE0, hE⟩ := Heap.dictOf_iff.mp hE0
  obtain ⟨ps, ht0, ht, hcd⟩ := P.tb.g
  have hb := P.hb
  obtain ⟨ha, da, fa, ga, ua⟩ := A
  have hha := R.hd
  dsimp only at hha
  subst hha
  refine' enter (binds := [(Str.ofString "self", .ref lim), (Str.ofString "item", .ref it), (Str.ofString "identifiers", .ref nm), (Str.ofString "cost", .int cost tc)]) (mods := [(a.dE, oE), (640, tabObj ps)]) R G kS ?M ?ho ?hcd ?hb ?hl ?_ ?c2 ?c3 ?c4 ?c5
  case M => exact List.forall_mem_cons.mpr ⟨⟨hE0, Y.sto.fr.2.2⟩, List.forall_mem_cons.mpr ⟨⟨ht0, P.tB.1⟩, List.forall_mem_nil _⟩⟩
  case ho => k_is
  case hcd => k_is
  case hb => first | exact BindsTo.of_eq rfl | exact binds_K (G.X.keeps kS) rfl (by k_is) rfl rfl rfl | (rcases (by assumption : KwC _ _ _ _) with rfl | ⟨rfl, rfl, rfl⟩ <;> first | exact BindsTo.of_eq rfl | exact binds_K (G.X.keeps kS) rfl (by k_is) rfl rfl rfl)
  case hl => exact locs rfl
  case c2 => exact rfl
  case c3 => exact rfl
  case c4 => exact rfl
  case c5 => decide
  intro g L h₁ Hg Sg F N X ⟨p, loose, mean, mg, mb, T0⟩ l1
  obtain ⟨Xs, fpin, ⟨dl, tl, nl, Il⟩, Ii, Inm, ⟨hT0, hT1⟩⟩ := Y
  have Sg' : Sto w hB g a T := Xs.sub Sg
  have Il := inst_sub Il Sg
  have Ii := Ii.sub Sg
  have Inm := Inm.sub Sg
  have ham := Ii.ham
  have hmu := Ii.hmu
  obtain ⟨e0, e1, -⟩ := expb c hmu
  have ntS : ∀ x ∈ a.st :: a.dst :: a.fp, x ≠ 640 := fun x hx q => by
    have hin : ∃ o, hB.get? x = some o := by
      rcases List.mem_cons.mp hx with q | q
      · exact ⟨_, q ▸ Xs.inst.at_⟩
      · rcases List.mem_cons.mp q with q | q
        · exact ⟨_, q ▸ Xs.inst.dict⟩
        · exact fpin _ q
    obtain ⟨o, ho⟩ := hin
    rw [q, P.tB.1] at ho; cases ho
  have Stg : Stay av s.heap g := fun b o e q => Hg b o e fun q' => by
    rcases List.mem_cons.mp q' with q' | q'
    · exact q (by rw [q']; exact P.mav _ (by simp))
    · exact q (by rw [List.mem_singleton.mp q']; exact P.mav _ (by simp))
  have hdE : a.dE ∈ av := P.mav _ (by simp)
  have hta : 640 ∈ av := P.mav _ (by simp)
  have ntE : a.dE ≠ 640 := P.tne.1.2.2
  have hav : ∀ y ∈ av, y = a.dE ∨ y = 640 ∨ ∃ o, g.get? y = some o := fun y hy => by
    obtain ⟨o, ho⟩ := P.hav y hy
    by_cases q1 : y = a.dE
    · exact .inl q1
    · by_cases q2 : y = 640
      · exact .inr (.inl q2)
      · exact .inr (.inr ⟨o, Hg _ _ ho (by simp [q1, q2])⟩)
  have hcg : codeAmong posG ps.toList = none ∨ ∃ c', codeAmong posG ps.toList = some (.ref c') ∧ g.CodeRec (.ref c') qG ∧ c' ∉ av := by
    rcases hcd with x | ⟨c', e1, e2, e3⟩
    · exact .inl x
    · exact .inr ⟨c', e1, CodeRec.stay e2 e3 Stg, e3⟩
  have Hgg := H.on Stg
  obtain ⟨I, Ck, -, ⟨ne1, ne2, ne3⟩, -, ⟨lo1, lo2, lo3⟩, fnl, -⟩ := id Sg'
  replace ntE' := neN ntE
  (try dsimp only)
  k_steps
  refine h _ _ (P.postG (fun x o e n => ?_) ?_)
  · by_cases q : x = a.dE
    · rw [q, hE0] at e; cases e; rw [q]; exact (News.get (by k_asm) (by k_mem))
    · exact Fr.keep (by k_asm) _ _ (Hg x o e (by simp [q]; simpa using n))
  · exact ⟨_, TabK.ok (by assumption) (by k_asm) (by k_asm) (by k_mem) (fun p hp => by repeat (first | exact hp | apply List.Mem.tail))⟩
end

end

theorem reg_K6 : True := by
  (k_with "call ref" => (((with_reducible show wpAny _ _ (call (Value.ref 645) _ _) _ _ _); k_dflt (refine' u_gmw ?Rz0K6 ?Gz0K6 ?Sgz0K6 ?Sz0K6 ?Fz0K6 ?Nz0K6 ?Uz0K6 ?mEz0K6 ?hEz0K6 ?Hz0K6 ?hbz0K6 ?hdEz0K6 ?havz0K6 ?htz0K6 ?hcz0K6 ?htaz0K6 ?ntEz0K6 ?ntSz0K6 ?hez0K6 ?hTz0K6 ?_; (case Rz0K6 => exact Rm.mono (Rm.deeper _ (by assumption)) (by decide)); (case Gz0K6 => assumption); (case Sgz0K6 => assumption); (case Sz0K6 => assumption); (case Fz0K6 => k_asm); (case Nz0K6 => k_asm); (case Uz0K6 => k_updF); (case mEz0K6 => k_mem); (case hEz0K6 => assumption); (case Hz0K6 => assumption); (case hbz0K6 => omega); (case hdEz0K6 => assumption); (case havz0K6 => assumption); (case htz0K6 => assumption); (case hcz0K6 => assumption); (case htaz0K6 => assumption); (case ntEz0K6 => assumption); (case ntSz0K6 => assumption); (case hez0K6 => exact ⟨by omega, by omega⟩); (case hTz0K6 => exact ⟨by omega, by omega⟩)); intro h'z0K6 tk'z0K6 D'z0K6 t1z0K6 t2z0K6 ps'z0K6 ex'z0K6 F'z0K6 N'z0K6 tb'z0K6 l1z0K6; (try dsimp only at N'z0K6 l1z0K6); (try simp only [List.cons_append, List.nil_append] at N'z0K6); (replace l1z0K6 := allNe_of l1z0K6); (dsimp +zetaDelta only [AllNe] at l1z0K6))))
  trivial
section
section
variable {w : World} {A : Around} {E : Value → Shared → Prop} {s : Shared} {Q : Value → Shared → Prop} {hB : Heap}
theorem ws_made {h : Heap} (X : (Mine.hd.heap_39 w.params).In h) : Looks (model PySem.Challenge.rw_jn0050_01.row.prog w) h (Bind.madeBy (.ref 132)) none := Looks.of_peek X (by kernel_rfl)
theorem ws_base {h : Heap} (X : (Mine.hd.heap_39 w.params).In h) : Looks (model PySem.Challenge.rw_jn0050_01.row.prog w) h (Bind.staticBase (.ref 132)) (.type "tuple") := Looks.of_peek X (by kernel_rfl)
theorem ws_chk {h : Heap} {D : Addr} (X : (Mine.hd.heap_39 w.params).In h) : Looks (model PySem.Challenge.rw_jn0050_01.row.prog w) h (checkBuiltinCall "tuple.__new__" ⟨[.ref 132, .ref D], []⟩) () := Looks.of_peek X (by kernel_rfl)
end
section
variable {w : World} {A : Around} {E : Value → Shared → Prop} {s : Shared} {Q : Value → Shared → Prop} {hB : Heap}
theorem call_tnew {D : Addr} {o : Obj} {items : Array Value} {n : Nat} (X : (Mine.hd.heap_39 w.params).In s.heap) (ho : s.heap.get? D = some o) (hc : o.cls = .type "tuple") (hd : o.data = .seq items n) (hsz : items.size ≤ 100)
  (h : ∀ h' r d, Sub s.heap h' → s.heap.get? r = none → s.heap.get? d = none → @Ne Nat r d → h'.get? r = some { cls := .ref 132, dict := some d, data := .seq items } → h'.get? d = some emptyDict → Q (.ref r) {s with heap := h'}) :
  wpAny (model PySem.Challenge.rw_jn0050_01.row.prog w) A (call (.builtin "tuple.__new__") [.ref 132, .ref D] []) Q E s := by
  have h1 : Looks (model PySem.Challenge.rw_jn0050_01.row.prog w) s.heap (isType (.ref 132)) true := Looks.of_peek X (by kernel_rfl)
  have h2 : Looks (model PySem.Challenge.rw_jn0050_01.row.prog w) s.heap (isSubtype (.ref 132) (.type "tuple")) true := Looks.of_peek X (by kernel_rfl)
  have h3 : Looks (model PySem.Challenge.rw_jn0050_01.row.prog w) s.heap (Bind.madeHere "tuple.__new__" (.ref 132)) () := Looks.of_peek X (by kernel_rfl)
  have h4 : Looks (model PySem.Challenge.rw_jn0050_01.row.prog w) s.heap (typeLookup (.ref 132) "__init__") (some (.builtin "object.__init__")) := Looks.of_peek X (by kernel_rfl)
  have h5 := ws_chk (D := D) X
  refine wpAny_call ?_
  refine codeAny_call_builtin (by decide +kernel) F.entry_tuple_new ?_
  refine h5.here ?_
  obtain ⟨hh, g, d, t, os⟩ := s
  unfold Builtin.«tuple.__new__»
  repeat (first | (refine wpAny_collect_seq D (.inr rfl) ho hc hd (fun h1 hk => ?_) (by rw [sizeLine_eq]; omega)) | simp only [Bool.not_true, Bool.false_eq_true, if_false, beq_self_eq_true, if_true] | lk)
  rw [if_neg (by rw [sizeLine_eq]; simp; omega)]
  have hC := X 132 _ (by k_is)
  unfold newObjAsIs classHasDel
  refine wpAny_bind (wpAny_alloc (wpAny_bind (wpAny_bind (wpAny_load (Heap.get?_push_of_some _ (Heap.get?_push_of_some _ (hk _ _ hC))) (wpAny_pure ?_)))))
  refine wpAny_pure (wpAny_pure ?_)
  show Q _ _
  have fr : ∀ x, h1.objs.size ≤ x → hh.get? x = none := fun x hx => by
    cases q : hh.get? x with
    | none => rfl
    | some o => exact absurd (Heap.lt_size (hk _ _ q)) (Nat.not_lt.mpr hx)
  refine h _ _ h1.objs.size (fun b o e => Heap.get?_push_of_some _ (Heap.get?_push_of_some _ (hk _ _ e))) (fr _ (by rw [Heap.size_push]; omega)) (fr _ (Nat.le_refl _)) (by rw [Heap.size_push]; omega) ?_ (Heap.get?_push_of_some _ (Heap.get?_push_size _ rfl))
  rw [Heap.get?_push_size _ rfl]
end
section
variable {w : World} {A : Around} {E : Value → Shared → Prop} {s : Shared} {Q : Value → Shared → Prop} {hB : Heap}
theorem fresh_fr {hs g h9 : Heap} {L x : Addr} {m : Str → Option Value} (Hg : ∀ b o, hs.get? b = some o → b ∉ ([] : List (Addr × Obj)).map (fun x => x.1) → g.get? b = some o) (F : Fr g L h9 m) (e : h9.get? x = none) : hs.get? x = none := by
  cases q : hs.get? x with
  | none => rfl
  | some o => have := F.keep _ _ (Hg _ _ q (by simp)); rw [e] at this; cases this
abbrev wsObj (d : Addr) (v1 v2 : Value) : Obj := { cls := .ref 132, dict := some d, data := .seq ([v1, v2] : List Value).toArray }
theorem c_wsnew {v1 v2 : Value} (R : Rm A 10) (G : Gd w hB) (kS : Sub hB s.heap)
  (h : ∀ h' tk' r d, Sub s.heap h' → s.heap.get? r = none → s.heap.get? d = none → @Ne Nat r d → h'.get? r = some (wsObj d v1 v2) → h'.get? d = some emptyDict → Q (.ref r) {s with heap := h', toks := tk'}) :
  wpAny (model PySem.Challenge.rw_jn0050_01.row.prog w) A (call (.ref 82) [.ref 132, v1, v2] []) Q E s := by
  obtain ⟨ha, da, fa, ga, ua⟩ := A
  have hha := R.hd
  dsimp only at hha
  subst hha
  refine' enter (binds := [(Str.ofString "_cls", .ref 132), (Str.ofString "reset_time", v1), (Str.ofString "remaining", v2)]) (mods := []) R G kS ?M ?ho ?hcd ?hb ?hl ?_ ?c2 ?c3 ?c4 ?c5
  case M => exact List.forall_mem_nil _
  case ho => k_is
  case hcd => k_is
  case hb => first | exact BindsTo.of_eq rfl | exact binds_K (G.X.keeps kS) rfl (by k_is) rfl rfl rfl | (rcases (by assumption : KwC _ _ _ _) with rfl | ⟨rfl, rfl, rfl⟩ <;> first | exact BindsTo.of_eq rfl | exact binds_K (G.X.keeps kS) rfl (by k_is) rfl rfl rfl)
  case hl => exact locs rfl
  case c2 => exact rfl
  case c3 => exact rfl
  case c4 => exact rfl
  case c5 => decide
  intro g L h₁ Hg Sg F N X ⟨p, loose, mean, mg, mb, T0⟩ l1
  (try dsimp only)
  k_steps
  rename Fr _ _ _ _ => F9
  rename News _ _ _ _ => N9
  refine call_tnew (X.keeps F9.keep) (N9 _ (.head _)).1 rfl rfl (show ([v1, v2] : List Value).toArray.size ≤ 100 by simp) fun h' r d K e0 e1 ne er ed => ?_
  exact h _ _ r d (fun b o e => K _ _ (F9.keep _ _ (Hg b o e (by simp)))) (fresh_fr Hg F9 e0) (fresh_fr Hg F9 e1) ne er ed
end

end
section
section
variable {w : World} {A : Around} {E : Value → Shared → Prop} {s : Shared} {Q : Value → Shared → Prop} {hB : Heap}
theorem c_ws {v1 v2 : Value} (R : Rm A 14) (G : Gd w hB) (kS : Sub hB s.heap)
  (h : ∀ h' tk' r d, Sub s.heap h' → s.heap.get? r = none → s.heap.get? d = none → @Ne Nat r d → h'.get? r = some (wsObj d v1 v2) → h'.get? d = some emptyDict → Q (.ref r) {s with heap := h', toks := tk'}) :
  wpAny (model PySem.Challenge.rw_jn0050_01.row.prog w) A (call (.ref 132) [v1, v2] []) Q E s := by
  have X := G.X.keeps kS
  have hC := X 132 _ (by k_is)
  have call : Looks (model PySem.Challenge.rw_jn0050_01.row.prog w) s.heap (specialOf (.ref 132) "__call__") (some (.builtin "type.__call__")) := looks_specialIn X (by k_is)
  have typ : Looks (model PySem.Challenge.rw_jn0050_01.row.prog w) s.heap (isInstance (.ref 132) (.type "type")) true := looks_instIn X (by k_is)
  have made := ws_made (w := w) X
  have hm : Looks (model PySem.Challenge.rw_jn0050_01.row.prog w) s.heap (mroOf (.ref 132)) _ := ((Looks.ld (part := none) hC).andThen .now).andThen .now
  refine wpAny_call ?_
  obtain ⟨hh, g, d, t, os⟩ := s
  refine codeAny_of_tree ?_
  show wpAny _ _ (callAny (.ref 132) _) _ _ _
  refine nd_load hC ?_
  show wpAny _ _ (callAny.viaDunder (.ref 132) _) _ _ _
  unfold callAny.viaDunder
  refine wpAny_bind (call.at ?_)
  dsimp only
  rw [tc_bind]
  refine wpAny_bind (wpAny_pure (wpAny_bind (wpAny_pure ?_)))
  refine wpAny_pure (a := Fin.again (.call (.builtin "type.__call__") ⟨[.ref 132, v1, v2], []⟩)) (And.intro rfl ?_)
  refine codeAny_call_builtin_at (Code.quiet_builtin _ (by decide +kernel)) entry_typeCall (check_slot tc_kind tc_split typ (tc_args _ _ _) ?_)
  unfold Builtin.«type.__call__»
  dsimp only
  rw [if_neg (by decide)]
  refine wpAny_bind (hm.at ?_)
  rw [if_neg (by decide)]
  refine wpAny_bind (made.at ?_)
  dsimp only
  refine wpAny_bind (cls_bind (K := Mine.hd.heap_39 w.params) (mc := .type "type") (g := .builtin "staticmethod.__get__") (a := .ref 133) (obj := .none) (tp := .ref 132) X (by k_is) (by k_is) (wpAny_call (sm_get (K := Mine.hd.heap_39 w.params) (f := .ref 82) (rest := []) X (by k_is) (handed_on (by k_handed) ?_))))
  refine wpAny_bind (wpAny_holding ?_)
  refine c_wsnew (A := A.under (.builtin "type.__call__" ⟨[.ref 132, v1, v2], []⟩)) (Rm.mono (n := 10) ⟨R.hd, by have := R.dep; show A.depth + 1 + 10 < 900; omega, by have := R.un; show A.units + _ + 20 * 10 < 9000; exact cu_room this (cu_type _) (by decide)⟩ (Nat.le_refl _)) G kS fun h' tk' r dd K e0 e1 ne er ed => ?_
  have X' := X.keeps K
  have ty : Looks (model PySem.Challenge.rw_jn0050_01.row.prog w) h' (typeOf (.ref r)) (.ref 132) := (Looks.ld er).andThen .now
  have i1 : Looks (model PySem.Challenge.rw_jn0050_01.row.prog w) h' (isInstance (.ref r) (.ref 132)) true := ty.andThen (Looks.of_peek X' (by kernel_rfl))
  have i2 : Looks (model PySem.Challenge.rw_jn0050_01.row.prog w) h' (typeLookup (.ref 132) "__init__") (some (.builtin "object.__init__")) := Looks.of_peek X' (by kernel_rfl)
  have i3 : Looks (model PySem.Challenge.rw_jn0050_01.row.prog w) h' (isInstance (.ref r) (.type "object")) true := ty.andThen (Looks.of_peek X' (by kernel_rfl))
  have i4 := ws_made (w := w) X'
  refine wpAny_bind (i1.at ?_)
  rw [if_neg (by decide)]
  refine wpAny_bind (wpAny_holding ?_)
  have b1 : Looks (model PySem.Challenge.rw_jn0050_01.row.prog w) h' (bindSpecial (.builtin "object.__init__") (.ref r)) (.builtin "object.__init__", [.ref r]) := Looks.of_pure (oi_bind _)
  unfold callSpecial? specialOf
  repeat (first | with_reducible refine wpAny_call ?_ | lk)
  refine codeAny_call_builtin oi_plain entry_oi (check_slot oi_kind oi_split i3 (by unfold argsOk; kernel_rfl) ?_)
  unfold Builtin.«object.__init__»
  repeat (first | simp only [List.isEmpty_cons, Bool.not_false, Bool.true_or, if_true, bne_self_eq_false, Bool.false_eq_true, if_false] | lk)
  exact h h' _ r dd K e0 e1 ne er ed
end

end
section
section
variable {w : World} {A : Around} {E : Value → Shared → Prop} {s : Shared} {Q : Value → Shared → Prop} {hB : Heap} {g : Heap} {L : Addr} {m : Str → Option Value} {news : List (Addr × Obj)}
theorem u_ws {v1 v2 : Value} (R : Rm A 14) (G : Gd w hB) (Sg : Sub hB g) (F : Fr g L s.heap m) (N : News g L s.heap news)
  (h : ∀ h' tk' r d, Sub s.heap h' → Fr g L h' m → News g L h' ((r, wsObj d v1 v2) :: (d, emptyDict) :: news) → s.heap.get? r = none → s.heap.get? d = none → (∀ p ∈ news, p.1 ≠ r) → (∀ p ∈ news, p.1 ≠ d) → Q (.ref r) {s with heap := h', toks := tk'}) :
  wpAny (model PySem.Challenge.rw_jn0050_01.row.prog w) A (call (.ref 132) [v1, v2] []) Q E s :=
  c_ws R G (fun b o e => F.keep b o (Sg b o e)) fun h' tk' r d K e0 e1 ne er ed => by
    have fg : ∀ {x}, s.heap.get? x = none → g.get? x = none := fun {x} e => by
      cases q : g.get? x with
      | none => rfl
      | some o => have := F.keep _ _ q; rw [e] at this; cases this
    have fL : ∀ {x}, s.heap.get? x = none → x ≠ L := fun {x} e q => by
      obtain ⟨oL, es, ep, hL, _⟩ := F.ns
      rw [q, hL] at e; cases e
    have N' := News.keepsS N K
    refine h h' tk' r d K (Fr.grow F K) (fun p hp => ?_) e0 e1 (News.apart N e0) (News.apart N e1)
    rcases List.mem_cons.mp hp with rfl | hp
    · exact ⟨er, fL e0, fg e0⟩
    · rcases List.mem_cons.mp hp with rfl | hp
      · exact ⟨ed, fL e1, fg e1⟩
      · exact N' p hp
theorem fresh_mod {hs g h9 : Heap} {L x : Addr} {m : Str → Option Value} {news : List (Addr × Obj)} {ms : List Addr} (Hg : ∀ b o, hs.get? b = some o → b ∉ ms → g.get? b = some o) (e : h9.get? x = none) (F : Fr g L h9 m) (N : News g L h9 news) (hm : ∀ y ∈ ms, ∃ o, (y, o) ∈ news) : hs.get? x = none := by
  cases q : hs.get? x with
  | none => rfl
  | some o =>
    by_cases z : x ∈ ms
    · obtain ⟨o', ho⟩ := hm x z
      have := (N _ ho).1
      rw [e] at this; cases this
    · have := F.keep _ _ (Hg _ _ q z); rw [e] at this; cases this
theorem u_gexp {a : SA} {T : Int} {key : Str} {tk : Tok} {ex : Str → Option Int} {c : Nat} {oX : Obj} (R : Rm A 6) (G : Gd w hB) (Sg : Sub hB g) (S : Sto w hB g a T) (F : Fr g L s.heap m) (N : News g L s.heap news) (mX : (a.dX, oX) ∈ news) (hX : IsI w oX ex c)
  (h : ∀ h' tk' t', Fr g L h' m → News g L h' news → Q (.int ((ex key).getD T) t') {s with heap := h', toks := tk'}) :
  wpAny (model PySem.Challenge.rw_jn0050_01.row.prog w) A (call (.ref 638) [.ref a.st, .str key tk] []) Q E s :=
  c_gexp R G (fun b o e => F.keep b o (Sg b o e)) (S.sub F.keep) (AtI.of N mX hX) fun h' tk' t' K => h h' tk' t' (Fr.grow F K) (News.keepsS N K)
end
theorem reg_M3x1 : True := by
  (k_with "callWith ref" => (((with_reducible show wpAny _ _ (callWith _ (Value.ref 132) _ _ _) _ _ _); k_dflt (refine' callWith_K (f := .ref 132) ?k1z0M3x1 ?k2z0M3x1 ?_; (case k1z0M3x1 => k_asm); (case k2z0M3x1 => k_is)))))
  trivial
theorem reg_M3x2 : True := by
  (k_with "call ref" => (((with_reducible show wpAny _ _ (call (Value.ref 132) _ _) _ _ _); k_dflt (refine' u_ws ?Rz0M3x2 ?Gz0M3x2 ?Sgz0M3x2 ?Fz0M3x2 ?Nz0M3x2 ?_; (case Rz0M3x2 => exact Rm.mono (Rm.deeper _ (by assumption)) (by decide)); (case Gz0M3x2 => assumption); (case Sgz0M3x2 => assumption); (case Fz0M3x2 => k_asm); (case Nz0M3x2 => k_asm)); intro h'z0M3x2 tk'z0M3x2 r'z0M3x2 d'z0M3x2 K'z0M3x2 F'z0M3x2 N'z0M3x2 z1z0M3x2 z2z0M3x2 l1z0M3x2 l2z0M3x2; (replace l1z0M3x2 := allNe_of l1z0M3x2); (replace l2z0M3x2 := allNe_of l2z0M3x2); (dsimp +zetaDelta only [AllNe] at l1z0M3x2 l2z0M3x2))))
  trivial
theorem reg_M3x3 : True := by
  (k_with "call ref" => (((with_reducible show wpAny _ _ (call (Value.ref 638) _ _) _ _ _); k_dflt (refine' u_gexp ?Rz0M3x3 ?Gz0M3x3 ?Sgz0M3x3 ?Sz0M3x3 ?Fz0M3x3 ?Nz0M3x3 ?mXz0M3x3 ?hXz0M3x3 ?_; (case Rz0M3x3 => exact Rm.mono (Rm.deeper _ (by assumption)) (by decide)); (case Gz0M3x3 => assumption); (case Sgz0M3x3 => assumption); (case Sz0M3x3 => assumption); (case Fz0M3x3 => k_asm); (case Nz0M3x3 => k_asm); (case mXz0M3x3 => k_mem); (case hXz0M3x3 => assumption)); intro h'z0M3x3 tk'z0M3x3 t'z0M3x3 F'z0M3x3 N'z0M3x3)))
  trivial
section
variable {w : World} {A : Around} {E : Value → Shared → Prop} {s : Shared} {Q : Value → Shared → Prop} {hB : Heap} {g : Heap} {L : Addr} {m : Str → Option Value} {news : List (Addr × Obj)}
end
section
open TI
variable {w : World} {A : Around} {E : Value → Shared → Prop} {s : Shared} {Q : Value → Shared → Prop} {hB : Heap} {a : SA} {C lim it nm : Addr} {ns : Str} {am mu : Int} {c : Bool} {xs : List Str} {T : Int} {σ : Sta} {b : Nat} {av : List Addr} {l : List Env} {frs : List (Addr × Obj)}
theorem c_fstats (R : Rm A 20) (G : Gd w hB) (kS : Sub hB s.heap) (Y : Ctx w hB a 241 lim it nm ns am mu c xs T) (P : Pre w hB A s.heap av a σ b l frs)
  (h : ∀ h' tk' r d t1 t2, s.heap.get? r = none → s.heap.get? d = none → h'.get? r = some (wsObj d (.int ((getX T σ.ex (keyS ns xs am mu (gname c)) (keyS ns xs am mu (gname c))).getD T) t1) (.int (if am - getV σ T (keyS ns xs am mu (gname c)) > 0 then am - getV σ T (keyS ns xs am mu (gname c)) else 0) t2)) → h'.get? d = some emptyDict → Post w s.heap h' av a (getS σ T (keyS ns xs am mu (gname c))) (b + 60) frs → Q (.ref r) {s with heap := h', toks := tk'}) :
  wpAny (model PySem.Challenge.rw_jn0050_01.row.prog w) A (call (.ref 238) [.ref lim, .ref it, .ref nm] []) Q E s := by
  obtain ⟨oS, hS0, hS⟩ := P.st.S
  obtain ⟨oX, hX0, hX⟩ := P.st.X
  have hb := P.hb
  have nE := Y.sto.ne
  obtain ⟨ha, da, fa, ga, ua⟩ := A
  have hha := R.hd
  dsimp only at hha
  subst hha
  refine' enter (binds := [(Str.ofString "self", .ref lim), (Str.ofString "item", .ref it), (Str.ofString "identifiers", .ref nm)]) (mods := [(a.dS, oS), (a.dX, oX)]) R G kS ?M ?ho ?hcd ?hb ?hl ?_ ?c2 ?c3 ?c4 ?c5
  case M => exact List.forall_mem_cons.mpr ⟨⟨hS0, Y.sto.fr.1⟩, List.forall_mem_cons.mpr ⟨⟨hX0, Y.sto.fr.2.1⟩, List.forall_mem_nil _⟩⟩
  case ho => k_is
  case hcd => k_is
  case hb => first | exact BindsTo.of_eq rfl | exact binds_K (G.X.keeps kS) rfl (by k_is) rfl rfl rfl | (rcases (by assumption : KwC _ _ _ _) with rfl | ⟨rfl, rfl, rfl⟩ <;> first | exact BindsTo.of_eq rfl | exact binds_K (G.X.keeps kS) rfl (by k_is) rfl rfl rfl)
  case hl => exact locs rfl
  case c2 => exact rfl
  case c3 => exact rfl
  case c4 => exact rfl
  case c5 => decide
  intro g L h₁ Hg Sg F N X ⟨p, loose, mean, mg, mb, T0⟩ l1
  obtain ⟨Xs, -, ⟨dl, tl, nl, Il⟩, Ii, Inm, ⟨hT0, hT1⟩⟩ := Y
  have Sg' : Sto w hB g a T := Xs.sub Sg
  have Il := inst_sub Il Sg
  have Ii := Ii.sub Sg
  have Inm := Inm.sub Sg
  have ham := Ii.ham
  have hmu := Ii.hmu
  obtain ⟨I, C, -, ⟨ne1, -, -⟩, -, ⟨lo1, lo2, -⟩, fnl, -⟩ := id Sg'
  replace ne1 := neN ne1
  clear kS hS0 hX0
  (try dsimp only)
  k_steps
  have C9 : Chg [a.dS, a.dX] s.heap _ := Chg.of Hg (by k_asm)
  exact h _ _ _ _ _ _ (fresh_mod Hg (by assumption) (by k_asm) (by k_asm) (List.forall_mem_cons.mpr ⟨⟨_, by k_mem⟩, List.forall_mem_cons.mpr ⟨⟨_, by k_mem⟩, List.forall_mem_nil _⟩⟩)) (fresh_mod Hg (by assumption) (by k_asm) (by k_asm) (List.forall_mem_cons.mpr ⟨⟨_, by k_mem⟩, List.forall_mem_cons.mpr ⟨⟨_, by k_mem⟩, List.forall_mem_nil _⟩⟩)) (News.get (by k_asm) (by k_mem)) (News.get (by k_asm) (by k_mem)) (P.post C9 (by simp) ((AtI.of (by k_asm) (by k_mem) (by assumption)).mono (by omega)) ((AtI.of (by k_asm) (by k_mem) (by assumption)).mono (by omega)) (P.E C9 (by simp) ⟨nE.2.1, nE.2.2⟩ (by omega)))
end

end

theorem reg_M3 : True := by
  (k_with "callWith ref" => (((with_reducible show wpAny _ _ (callWith _ (Value.ref 132) _ _ _) _ _ _); k_dflt (refine' callWith_K (f := .ref 132) ?k1z0M3 ?k2z0M3 ?_; (case k1z0M3 => k_asm); (case k2z0M3 => k_is)))))
  (k_with "call ref" => (((with_reducible show wpAny _ _ (call (Value.ref 132) _ _) _ _ _); k_dflt (refine' u_ws ?Rz1M3 ?Gz1M3 ?Sgz1M3 ?Fz1M3 ?Nz1M3 ?_; (case Rz1M3 => exact Rm.mono (Rm.deeper _ (by assumption)) (by decide)); (case Gz1M3 => assumption); (case Sgz1M3 => assumption); (case Fz1M3 => k_asm); (case Nz1M3 => k_asm)); intro h'z1M3 tk'z1M3 r'z1M3 d'z1M3 K'z1M3 F'z1M3 N'z1M3 z1z1M3 z2z1M3 l1z1M3 l2z1M3; (replace l1z1M3 := allNe_of l1z1M3); (replace l2z1M3 := allNe_of l2z1M3); (dsimp +zetaDelta only [AllNe] at l1z1M3 l2z1M3))))
  (k_with "call ref" => (((with_reducible show wpAny _ _ (call (Value.ref 638) _ _) _ _ _); k_dflt (refine' u_gexp ?Rz2M3 ?Gz2M3 ?Sgz2M3 ?Sz2M3 ?Fz2M3 ?Nz2M3 ?mXz2M3 ?hXz2M3 ?_; (case Rz2M3 => exact Rm.mono (Rm.deeper _ (by assumption)) (by decide)); (case Gz2M3 => assumption); (case Sgz2M3 => assumption); (case Sz2M3 => assumption); (case Fz2M3 => k_asm); (case Nz2M3 => k_asm); (case mXz2M3 => k_mem); (case hXz2M3 => assumption)); intro h'z2M3 tk'z2M3 t'z2M3 F'z2M3 N'z2M3)))
  trivial
section
section
open TI
variable {w : World} {A : Around} {E : Value → Shared → Prop} {s : Shared} {Q : Value → Shared → Prop} {hB : Heap} {a : SA} {C lim it nm : Addr} {ns : Str} {am mu : Int} {c : Bool} {xs : List Str} {T : Int} {σ : Sta} {b : Nat} {av : List Addr} {l : List Env} {frs : List (Addr × Obj)}
theorem c_mstats (R : Rm A 26) (G : Gd w hB) (kS : Sub hB s.heap) (Y : Ctx w hB a 202 lim it nm ns am mu c xs T) (P : Pre w hB A s.heap av a σ b l frs)
  (h : ∀ h' tk' r d t1 t2, s.heap.get? r = none → s.heap.get? d = none → h'.get? r = some (wsObj d (.int ((gmwF ((σ.ev (keyS ns xs am mu (gname c))).getD []) T (gsec c * mu)).1 + gsec c * mu) t1) (.int (am - (gmwF ((σ.ev (keyS ns xs am mu (gname c))).getD []) T (gsec c * mu)).2) t2)) → h'.get? d = some emptyDict → Post w s.heap h' av a σ (b + 60) frs → Q (.ref r) {s with heap := h', toks := tk'}) :
  wpAny (model PySem.Challenge.rw_jn0050_01.row.prog w) A (call (.ref 199) [.ref lim, .ref it, .ref nm] []) Q E s := by
  obtain ⟨kvs, hE0, H⟩ := P.st.E
  obtain ⟨oE, hE0, hE⟩ := Heap.dictOf_iff.mp hE0
  obtain ⟨ps, ht0, ht, hcd⟩ := P.tb.g
  have hb := P.hb
  obtain ⟨ha, da, fa, ga, ua⟩ := A
  have hha := R.hd
  dsimp only at hha
  subst hha
  refine' enter (binds := [(Str.ofString "self", .ref lim), (Str.ofString "item", .ref it), (Str.ofString "identifiers", .ref nm)]) (mods := [(a.dE, oE), (640, tabObj ps)]) R G kS ?M ?ho ?hcd ?hb ?hl ?_ ?c2 ?c3 ?c4 ?c5
  case M => exact List.forall_mem_cons.mpr ⟨⟨hE0, Y.sto.fr.2.2⟩, List.forall_mem_cons.mpr ⟨⟨ht0, P.tB.1⟩, List.forall_mem_nil _⟩⟩
  case ho => k_is
  case hcd => k_is
  case hb => first | exact BindsTo.of_eq rfl | exact binds_K (G.X.keeps kS) rfl (by k_is) rfl rfl rfl | (rcases (by assumption : KwC _ _ _ _) with rfl | ⟨rfl, rfl, rfl⟩ <;> first | exact BindsTo.of_eq rfl | exact binds_K (G.X.keeps kS) rfl (by k_is) rfl rfl rfl)
  case hl => exact locs rfl
  case c2 => exact rfl
  case c3 => exact rfl
  case c4 => exact rfl
  case c5 => decide
  intro g L h₁ Hg Sg F N X ⟨p, loose, mean, mg, mb, T0⟩ l1
  obtain ⟨Xs, fpin, ⟨dl, tl, nl, Il⟩, Ii, Inm, ⟨hT0, hT1⟩⟩ := Y
  have Sg' : Sto w hB g a T := Xs.sub Sg
  have Il := inst_sub Il Sg
  have Ii := Ii.sub Sg
  have Inm := Inm.sub Sg
  have ham := Ii.ham
  have hmu := Ii.hmu
  obtain ⟨e0, e1, -⟩ := expb c hmu
  have ntS : ∀ x ∈ a.st :: a.dst :: a.fp, x ≠ 640 := fun x hx q => by
    have hin : ∃ o, hB.get? x = some o := by
      rcases List.mem_cons.mp hx with q | q
      · exact ⟨_, q ▸ Xs.inst.at_⟩
      · rcases List.mem_cons.mp q with q | q
        · exact ⟨_, q ▸ Xs.inst.dict⟩
        · exact fpin _ q
    obtain ⟨o, ho⟩ := hin
    rw [q, P.tB.1] at ho; cases ho
  have Stg : Stay av s.heap g := fun b o e q => Hg b o e fun q' => by
    rcases List.mem_cons.mp q' with q' | q'
    · exact q (by rw [q']; exact P.mav _ (by simp))
    · exact q (by rw [List.mem_singleton.mp q']; exact P.mav _ (by simp))
  have hdE : a.dE ∈ av := P.mav _ (by simp)
  have hta : 640 ∈ av := P.mav _ (by simp)
  have ntE : a.dE ≠ 640 := P.tne.1.2.2
  have hav : ∀ y ∈ av, y = a.dE ∨ y = 640 ∨ ∃ o, g.get? y = some o := fun y hy => by
    obtain ⟨o, ho⟩ := P.hav y hy
    by_cases q1 : y = a.dE
    · exact .inl q1
    · by_cases q2 : y = 640
      · exact .inr (.inl q2)
      · exact .inr (.inr ⟨o, Hg _ _ ho (by simp [q1, q2])⟩)
  have hcg : codeAmong posG ps.toList = none ∨ ∃ c', codeAmong posG ps.toList = some (.ref c') ∧ g.CodeRec (.ref c') qG ∧ c' ∉ av := by
    rcases hcd with x | ⟨c', e1, e2, e3⟩
    · exact .inl x
    · exact .inr ⟨c', e1, CodeRec.stay e2 e3 Stg, e3⟩
  have Hgg := H.on Stg
  obtain ⟨I, Ck, -, ⟨ne1, ne2, ne3⟩, -, ⟨lo1, lo2, lo3⟩, fnl, -⟩ := id Sg'
  replace ntE' := neN ntE
  (try dsimp only)
  k_steps
  refine h _ _ _ _ _ _ (fresh_mod Hg (by assumption) (by k_asm) (by k_asm) (List.forall_mem_cons.mpr ⟨⟨_, by k_mem⟩, List.forall_mem_cons.mpr ⟨⟨_, by k_mem⟩, List.forall_mem_nil _⟩⟩)) (fresh_mod Hg (by assumption) (by k_asm) (by k_asm) (List.forall_mem_cons.mpr ⟨⟨_, by k_mem⟩, List.forall_mem_cons.mpr ⟨⟨_, by k_mem⟩, List.forall_mem_nil _⟩⟩)) (News.get (by k_asm) (by k_mem)) (News.get (by k_asm) (by k_mem)) (P.postG (fun x o e n => ?_) ?_)
  · by_cases q : x = a.dE
    · rw [q, hE0] at e; cases e; rw [q]; exact (News.get (by k_asm) (by k_mem))
    · exact Fr.keep (by k_asm) _ _ (Hg x o e (by simp [q]; simpa using n))
  · exact ⟨_, TabK.ok (by assumption) (by k_asm) (by k_asm) (by k_mem) (fun p hp => by repeat (first | exact hp | apply List.Mem.tail))⟩
end

end
section
noncomputable def sRes (σ : Sta) (T e : Int) (key : Str) : Int × Int :=
  if swP σ T e key = 0 then (if swC σ T e key = 0 then (T, 1) else (T + (e - T.fmod e + e).fmod e, 1)) else
  (T * swP σ T e key + (if swC σ T e key = 0 then (infTtl T e (swP σ T e key) * swP σ T e key).fmod e else if (e - T.fmod e + e).fmod e * swP σ T e key < (infTtl T e (swP σ T e key) * swP σ T e key).fmod e then (e - T.fmod e + e).fmod e * swP σ T e key else (infTtl T e (swP σ T e key) * swP σ T e key).fmod e), swP σ T e key)
section
variable {σ : Sta} {T e : Int} {key : Str}
theorem sRes_0 (h1 : swP σ T e key = 0) (h2 : swC σ T e key = 0) : sRes σ T e key = (T, 1) := by unfold sRes; rw [if_pos h1, if_pos h2]
theorem sRes_1 (h1 : swP σ T e key = 0) (h2 : swC σ T e key ≠ 0) : sRes σ T e key = (T + (e - T.fmod e + e).fmod e, 1) := by unfold sRes; rw [if_pos h1, if_neg h2]
theorem sRes_2 (h1 : swP σ T e key ≠ 0) (h2 : swC σ T e key = 0) : sRes σ T e key = (T * swP σ T e key + (infTtl T e (swP σ T e key) * swP σ T e key).fmod e, swP σ T e key) := by unfold sRes; rw [if_neg h1, if_pos h2]
theorem sRes_3 (h1 : swP σ T e key ≠ 0) (h2 : swC σ T e key ≠ 0) : sRes σ T e key = (T * swP σ T e key + (if (e - T.fmod e + e).fmod e * swP σ T e key < (infTtl T e (swP σ T e key) * swP σ T e key).fmod e then (e - T.fmod e + e).fmod e * swP σ T e key else (infTtl T e (swP σ T e key) * swP σ T e key).fmod e), swP σ T e key) := by unfold sRes; rw [if_neg h1, if_neg h2]
end
theorem nw {hs g h9 : Heap} {L x dx d : Addr} {ox odx o : Obj} {news : List (Addr × Obj)} (Hg : ∀ b o, hs.get? b = some o → b ∉ [(x, ox), (dx, odx)].map (·.1) → g.get? b = some o) (hx : hs.get? x = some ox) (hd : hs.get? dx = some odx) (N : News g L h9 news) (hm : (d, o) ∈ news) (n1 : @Ne Nat d x) (n2 : @Ne Nat d dx) : hs.get? d = none := by
  cases q : hs.get? d with
  | none => rfl
  | some o' =>
    have := Hg d o' q (by simp only [List.map_cons, List.map_nil, List.mem_cons, List.not_mem_nil, or_false]; exact fun z => z.elim n1 n2)
    rw [(N _ hm).2.2] at this; cases this
section
open TI
variable {w : World} {A : Around} {E : Value → Shared → Prop} {s : Shared} {Q : Value → Shared → Prop} {hB : Heap} {a : SA} {C lim it nm : Addr} {ns : Str} {am mu : Int} {c : Bool} {xs : List Str} {T : Int} {σ : Sta} {b : Nat} {av : List Addr} {l : List Env} {frs : List (Addr × Obj)}
theorem c_sstats (R : Rm A 20) (G : Gd w hB) (kS : Sub hB s.heap) (Y : Ctx w hB a 296 lim it nm ns am mu c xs T) (P : Pre w hB A s.heap av a σ b l frs) (hTe : gsec c * mu ≤ T)
  (h : ∀ h' tk' r d tt t1 t2 t3, s.heap.get? r = none → s.heap.get? d = none → s.heap.get? tt = none → h'.get? r = some (wsObj d (.ref tt) (.int (if am - swW σ T (gsec c * mu) (keyS ns xs am mu (gname c)) > 0 then am - swW σ T (gsec c * mu) (keyS ns xs am mu (gname c)) else 0) t2)) → h'.get? d = some emptyDict → h'.get? tt = some { cls := .type "tuple", data := .seq ([.int (sRes σ T (gsec c * mu) (keyS ns xs am mu (gname c))).1 t1, .int (sRes σ T (gsec c * mu) (keyS ns xs am mu (gname c))).2 t3] : List Value).toArray } → Post w s.heap h' av a (swI σ T (gsec c * mu) (keyS ns xs am mu (gname c))) (b + 60) frs → Q (.ref r) {s with heap := h', toks := tk'}) :
  wpAny (model PySem.Challenge.rw_jn0050_01.row.prog w) A (call (.ref 284) [.ref lim, .ref it, .ref nm] []) Q E s := by
  obtain ⟨oS, hS0, hS⟩ := P.st.S
  obtain ⟨oX, hX0, hX⟩ := P.st.X
  have hb := P.hb
  have nE := Y.sto.ne
  obtain ⟨ha, da, fa, ga, ua⟩ := A
  have hha := R.hd
  dsimp only at hha
  subst hha
  refine' enter (binds := [(Str.ofString "self", .ref lim), (Str.ofString "item", .ref it), (Str.ofString "identifiers", .ref nm)]) (mods := [(a.dS, oS), (a.dX, oX)]) R G kS ?M ?ho ?hcd ?hb ?hl ?_ ?c2 ?c3 ?c4 ?c5
  case M => exact List.forall_mem_cons.mpr ⟨⟨hS0, Y.sto.fr.1⟩, List.forall_mem_cons.mpr ⟨⟨hX0, Y.sto.fr.2.1⟩, List.forall_mem_nil _⟩⟩
  case ho => k_is
  case hcd => k_is
  case hb => first | exact BindsTo.of_eq rfl | exact binds_K (G.X.keeps kS) rfl (by k_is) rfl rfl rfl | (rcases (by assumption : KwC _ _ _ _) with rfl | ⟨rfl, rfl, rfl⟩ <;> first | exact BindsTo.of_eq rfl | exact binds_K (G.X.keeps kS) rfl (by k_is) rfl rfl rfl)
  case hl => exact locs rfl
  case c2 => exact rfl
  case c3 => exact rfl
  case c4 => exact rfl
  case c5 => decide
  intro g L h₁ Hg Sg F N X ⟨p, loose, mean, mg, mb, T0⟩ l1
  obtain ⟨Xs, -, ⟨dl, tl, nl, Il⟩, Ii, Inm, ⟨hT0, hT1⟩⟩ := Y
  have Sg' : Sto w hB g a T := Xs.sub Sg
  have Il := inst_sub Il Sg
  have Ii := Ii.sub Sg
  have Inm := Inm.sub Sg
  have ham := Ii.ham
  have hmu := Ii.hmu
  obtain ⟨I, C, -, ⟨ne1, -, -⟩, -, ⟨lo1, lo2, -⟩, fnl, -⟩ := id Sg'
  replace ne1 := neN ne1
  clear kS
  (try dsimp only)
  obtain ⟨e0, e1, -⟩ := expb c hmu
  have ht9 : ∀ P, 0 ≤ infTtl T (gsec c * mu) P ∧ infTtl T (gsec c * mu) P ≤ 1000000 := fun P => ⟨(ttl_ok e0 (by omega)).1, Int.le_trans (ttl_ok e0 (by omega)).2 (by omega)⟩
  have ht8 := ht9 (swP σ T (gsec c * mu) (keyS ns xs am mu (gname c)))
  have hm8 : IntMulOk ((gsec c * mu - T.fmod (gsec c * mu) + gsec c * mu).fmod (gsec c * mu)) (swP σ T (gsec c * mu) (keyS ns xs am mu (gname c))) := by
    have b1 := Int.fmod_nonneg_of_pos (gsec c * mu - T.fmod (gsec c * mu) + gsec c * mu) e0
    have b2 := Int.fmod_lt_of_pos (gsec c * mu - T.fmod (gsec c * mu) + gsec c * mu) e0
    exact IntMulOk.of_left (intBits_le_64 (by omega) (by omega))
  have kqOn : SegOn := trivial
  k_steps
  all_goals (first
    | contradiction
    | ((first | rw [sRes_0 (by assumption) (by assumption)] at h | rw [sRes_1 (by assumption) (by assumption)] at h | rw [sRes_2 (by assumption) (by assumption)] at h | rw [sRes_3 (by assumption) (by assumption)] at h)
       have C9 : Chg [a.dS, a.dX] s.heap _ := Chg.of Hg (by k_asm)
       refine h _ _ _ _ _ _ _ _ (fresh_mod Hg (by assumption) (by k_asm) (by k_asm) (List.forall_mem_cons.mpr ⟨⟨_, by k_mem⟩, List.forall_mem_cons.mpr ⟨⟨_, by k_mem⟩, List.forall_mem_nil _⟩⟩)) (fresh_mod Hg (by assumption) (by k_asm) (by k_asm) (List.forall_mem_cons.mpr ⟨⟨_, by k_mem⟩, List.forall_mem_cons.mpr ⟨⟨_, by k_mem⟩, List.forall_mem_nil _⟩⟩)) ?_ (News.get (by k_asm) (by k_mem)) (News.get (by k_asm) (by k_mem)) (News.get (by k_asm) (by k_mem)) (P.post C9 (by simp) ((AtI.of (by k_asm) (by k_mem) (by assumption)).mono (by omega)) ((AtI.of (by k_asm) (by k_mem) (by assumption)).mono (by omega)) (P.E C9 (by simp) ⟨nE.2.1, nE.2.2⟩ (by omega)))
       exact nw Hg hS0 hX0 (by k_asm) (by k_mem) (by k_ne) (by k_ne)))
end

end
section
noncomputable def expL (T : Int) (l : List (Int × Int)) : List (Int × Int) := l.take (bisW (fun i => decide (-(l.getD i (0, 0)).2 < -T)) 0 l.length)
noncomputable def expS (σ : Sta) (T : Int) : Sta := ⟨fun k => match σ.ex k with | some v => if v ≤ T then none else σ.cnt k | none => σ.cnt k, fun k => match σ.ex k with | some v => if v ≤ T then none else some v | none => none, fun k => (σ.ev k).map (expL T)⟩
noncomputable def keysOf (ks : List Str) (vs : List Value) : Prop := vs.length = ks.length ∧ ∀ (j : Nat) (k : Str), ks[j]? = some k → ∃ t, vs[j]? = some (.str k t)
section
open TI
variable {w : World} {A : Around} {E : Value → Shared → Prop} {s : Shared} {hB : Heap} {g : Heap} {L : Addr} {m : Str → Option Value} {news : List (Addr × Obj)}
theorem list_keysview {D d : Addr} {o : Obj} {kvs : List (Str × Value)} {Q : Value → Shared → Prop} (hh : A.handled = none) (F : Fr g L s.heap m) (N : News g L s.heap news) (hv : (D, { cls := .type "dict_keys", data := .fields #[.ref d] }) ∈ news) (hp : (d, o) ∈ news) (hd : o.IsDictOf (PySem.strKind PySem.Challenge.rw_jn0050_01.row.prog w) kvs) (hn : kvs.length ≤ 1000000)
  (h : ∀ B c h' tk vs, keysOf (kvs.map (·.1)) vs → Fr g L h' m → News g L h' ((B, W.listOf (List.toArray vs) c) :: news) → (∀ q ∈ news, q.1 < B) → Q (.ref B) { s with heap := h', toks := tk }) :
  wpAny (model PySem.Challenge.rw_jn0050_01.row.prog w) A (call (.type "list") [.ref D]) Q E s := by
  obtain ⟨ep, hat⟩ := (kda_dict N hp hd).dictAt
  refine kdl_N (kdl_keys (knd := PySem.strKind PySem.Challenge.rw_jn0050_01.row.prog w) (kvs := kvs) (ep := ep)) hh F N ⟨⟨_, (N _ hv).1, rfl, rfl⟩, hat⟩ (kdl_size (by omega)) fun B c h' tk vs F' N' l1 hl hv => h B c h' tk vs ⟨by simpa using hl, fun j k hk => ?_⟩ F' N' l1
  have hj : j < vs.length := by rw [hl]; have := (List.getElem?_eq_some_iff.mp hk).1; simpa using this
  obtain ⟨k', x, e1, e2⟩ := hv j _ (List.getElem?_eq_getElem hj)
  obtain ⟨t, e3⟩ := Value.isStrOf_shape e2
  have : k' = k := by simpa [e1] using hk
  subst this
  exact ⟨t, by rw [List.getElem?_eq_getElem hj, e3]⟩
theorem iter_listN {env : Env} {x : Str} {body : List Stmt} {Q : Flow → Shared → Prop} {B : Addr} {vs : List Value} {c : Nat} {m₀ : Str → Option Value} {news news0 : List (Addr × Obj)}
    (hh : A.handled = none) (F : Fr g env.locals s.heap m₀) (N : News g env.locals s.heap news) (hB : (B, W.listOf (List.toArray vs) c) ∈ news)
    (J : Nat → (Str → Option Value) → List (Addr × Obj) → Prop) (hsub : ∀ p ∈ news0, p ∈ news) (h0 : J 0 m₀ news0)
    (turn : ∀ (i : Nat) v m₁ news₁ h tk own, vs[i]? = some v → J i m₁ news₁ → (∀ p ∈ news₁, p.1 ∉ [s.heap.objs.size]) → (∀ p ∈ own, p.1 ∈ [s.heap.objs.size, B]) →
      Fr g env.locals h (fun y => if y = x then some v else m₁ y) → News g env.locals h (own ++ news₁) → (∃ o, (s.heap.objs.size, o) ∈ own) →
      wpAny (model PySem.Challenge.rw_jn0050_01.row.prog w) A (execs body env) (LoopStepV g env.locals [s.heap.objs.size] own (J (i + 1)) { s with heap := h, toks := tk } (fun v s' => Q (.ret v) s') fun s' => Q .next s') E { s with heap := h, toks := tk })
    (done : ∀ h' tk m' news', Fr g env.locals h' m' → News g env.locals h' news' → J vs.length m' news' → Q .next { s with heap := h', toks := tk }) :
    wpAny (model PySem.Challenge.rw_jn0050_01.row.prog w) A (pyIter (.ref B)) (fun it s₂ => LoopAtV PySem.Challenge.rw_jn0050_01.row.prog w A g env x body Q E it s₂) E s := by
  have hls : s.heap.IsList B (List.toArray vs) := ⟨_, (N _ hB).1, rfl, c, rfl⟩
  have hlt : B < s.heap.objs.size := Heap.lt_size (N _ hB).1
  have hne : B ≠ s.heap.objs.size := Nat.ne_of_lt hlt
  refine wpAny_pyIter_list hls ?_
  have W := Walks.list (prog := PySem.Challenge.rw_jn0050_01.row.prog) (w := w) hh s.heap.objs.size B hne (List.toArray vs)
  rw [show (List.toArray vs).size = vs.length by simp] at W
  refine ⟨_, _, _, vs.length, _, _, m₀, news0, J, rfl, W, ?_, ?_, ?_, ⟨⟨_, Heap.get?_push_size _ rfl, rfl, rfl⟩, hls.at fun o e => Heap.get?_push_of_some _ e⟩, F.push _, (fun p hp => ⟨Heap.get?_push_of_some _ (N p (hsub p hp)).1, (N p (hsub p hp)).2⟩), h0, ?_, ?_⟩
  · intro hm
    rcases List.mem_cons.mp hm with e | hm
    · exact absurd F.ns.lt (e ▸ Nat.lt_irrefl _)
    · exact (N _ hB).2.1 (List.mem_singleton.mp hm).symm
  · intro b hb
    rw [List.mem_singleton.mp hb]
    exact next_is_new F
  · intro p hp hI
    exact absurd (Heap.lt_size (N p (hsub p hp)).1) ((List.mem_singleton.mp hI) ▸ Nat.lt_irrefl _)
  · rintro i v m₁ news₁ s₁ own ⟨hh', tk', rfl⟩ hi hP hJ hoff ho1 ho2 ho3 hst F₁ N₁
    obtain ⟨⟨oI, hoI, -⟩, -⟩ := hst
    exact turn i v m₁ news₁ hh' tk' own (by simpa using hP) hJ hoff ho1 F₁ N₁ ⟨oI, ho3 _ (.head _) (next_is_new F) _ hoI⟩
  · intro h' tk m' news' F' N' _ hJ
    exact done h' tk m' news' F' N' hJ
theorem list_upto {value slice : PySem.Expr} {l : Addr} {vs : List Value} {y : Nat} {ty : Tok} {Q : Value → Shared → Prop} (F : Fr g L s.heap m) (N : News g L s.heap news) (hl : s.heap.IsList l (List.toArray vs)) (hz : vs.length ≤ 1000000)
    (h : ∀ D h', Fr g L h' m → News g L h' ((D, W.listOf (List.toArray (vs.take y)) 0) :: news) → (∀ p ∈ news, p.1 < D) → Q (.ref D) { s with heap := h' })
    (hs : subscripted slice false (.ref l) (.ref s.heap.objs.size) = operate [.ref s.heap.objs.size, .ref l] (getItem (.ref l) (.ref s.heap.objs.size))) (ht : ∀ r, letTemporaryGo value (.ref l) r = pure ()) :
    wpAny (model PySem.Challenge.rw_jn0050_01.row.prog w) A (subscriptTail value slice (.ref l) (.ref s.heap.objs.size)) Q E { s with heap := s.heap.push { cls := .type "slice", data := .fields #[.none, .int y ty, .none] } } := by
  refine kmk_slice_lit (lo := none) (hi := some (y : Int)) F N hl ?_ ?_ ?_ h hs ht (by rw [sizeLine_eq]; simp; omega)
  · exact IsPart.none
  · exact IsPart.int _ _
  · have e : sliceBounds none (some (y : Int)) none (List.toArray vs).size = (((0 : Nat) : Int), ((min y (List.toArray vs).size : Nat) : Int), 1) := by
      simp only [sliceBounds, Option.getD_none, show (1 : Int) > 0 by decide, if_true, if_neg (show ¬ ((y : Int) < 0) by omega)]
      congr 1
      congr 1
      omega
    rw [kmk_pick_nat _ e]
    show ((vs.drop 0).take (min y (List.toArray vs).size - 0)) = _
    rw [List.drop_zero, Nat.sub_zero, List.size_toArray, kmk_take_min]
end
theorem stored_length_eq {kvs : List (Str × Value)} {k : Str} {v u : Value} (h : valueAt kvs k = some u) : (stored kvs k v).length = kvs.length := by
  unfold stored
  rw [if_pos (by rw [any_valueAt, h]; rfl)]
  simp
theorem valueAt_mem {kvs : List (Str × Value)} {k : Str} : (∃ v, valueAt kvs k = some v) ↔ k ∈ kvs.map (·.1) := by
  unfold valueAt
  induction kvs with
  | nil => simp
  | cons p r ih =>
    rw [List.find?_cons]
    by_cases q : p.1 = k
    · simp [q]
    · have : ¬ k = p.1 := fun e => q e.symm
      simp only [q, decide_false, List.map_cons, List.mem_cons, this, false_or]
      exact ih
abbrev parX : Arguments := { posonlyargs := [], args := [{ arg := Str.ofString "event", annotation := none, pos := { line := 414, col := 71, endLine := 414, endCol := 76 } }], vararg := none, kwonlyargs := [], kw_defaults := [], kwarg := none, defaults := [] }
abbrev bodX : PySem.Expr := (Expr.UnaryOp UnaryOp.USub ((Expr.Name (Str.ofString "event") { line := 414, col := 79, endLine := 414, endCol := 84 }).Attribute (Str.ofString "expiry") { line := 414, col := 79, endLine := 414, endCol := 91 }) { line := 414, col := 78, endLine := 414, endCol := 91 })
abbrev scX : Scope := { kind := ScopeKind.function, names := [(Str.ofString "event", NameKind.local)], isGenerator := false, isCoroutine := false }
theorem keyX {w : World} {hB : Heap} {av : List Addr} {kf c' : Addr} {nm qual : Str} {pm ctv : Value} (G : Gd w hB) (hf : hB.get? kf = some (kla_obj nm qual parX bodX scX [] pm c' ctv)) (hc : hB.CodeRec (.ref c') qual) : KeyFn w av hB kf (fun x => -x.2) := by
  intro s A E Q r x R kS I h
  obtain ⟨hA, da, fa, ga, ua⟩ := A
  have hha := R.hd
  dsimp only at hha
  subst hha
  obtain ⟨dr, n, ta, te, t1, t2, I, -, -⟩ := I
  refine enterL (binds := [(Str.ofString "event", .ref r)]) R G kS hf hc rfl (locs rfl) (fun L h₁ F => ?_) rfl rfl rfl (by decide)
  have N : News s.heap L h₁ [] := News.nil
  have X := (G.keeps kS).X
  have Sg : Sub hB s.heap := kS
  obtain ⟨p, loose, mean, mg, mb, T0⟩ := (G.keeps kS).T
  k_steps
  exact h _ _ _ (Fr.keep (by k_asm))
noncomputable def HasCode (g : Heap) (L : Addr) (tl : List (Addr × Obj)) (c' : Addr) (q : Str) : Prop := ∀ h' m' news', Fr g L h' m' → News g L h' news' → (∀ p ∈ tl, p ∈ news') → h'.CodeRec (.ref c') q
theorem HasCode.at_ {g h' : Heap} {L c' : Addr} {tl news : List (Addr × Obj)} {q : Str} {m : Str → Option Value} (H : HasCode g L tl c' q) (F : Fr g L h' m) (N : News g L h' news) (hs : ∀ p ∈ tl, p ∈ news) : h'.CodeRec (.ref c') q := H h' m news F N hs

end

theorem reg_X0 : True := by
  (k_with "call ref" => (((with_reducible show wpAny _ _ (call (Value.ref 551) _ _) _ _ _); k_dflt (refine' u_bis ?Rz0X0 ?Gz0X0 ?Sgz0X0 ?Fz0X0 ?Nz0X0 ?Kfz0X0 ?fnz0X0 ?hrz0X0 ?Hez0X0 ?hlz0X0 ?hkz0X0 ?_; (case Rz0X0 => exact Rm.mono (Rm.deeper _ (by assumption)) (by decide)); (case Gz0X0 => assumption); (case Sgz0X0 => assumption); (case Fz0X0 => k_asm); (case Nz0X0 => k_asm); (case hrz0X0 => assumption); (case Hez0X0 => assumption); (case Kfz0X0 => exact keyX (Gd.keeps (by assumption) (fun b o e => Fr.keep (by k_asm) b o ((by assumption : Sub _ _) b o e))) (News.get (by k_asm) (by k_mem)) (by first | exact codeRec_news (by k_asm) (by k_mem) (by assumption) (by assumption) | exact HasCode.at_ (by assumption) (by k_asm) (by k_asm) (fun p hp => by repeat (first | exact hp | apply List.Mem.tail)))); (case fnz0X0 => exact FnAt.of (by k_asm) (by k_mem)); (case hlz0X0 => omega); (case hkz0X0 => assumption)); intro h'z0X0 tk'z0X0 t'z0X0 F'z0X0 N'z0X0)))
  (k_with "subscriptTail Name Slice ref ref" => ((k_here; (with_reducible show wpAny _ _ (subscriptTail _ (PySem.Expr.Slice _ _ none _) (Value.ref _) (Value.ref _)) _ _ _); k_dflt (refine' list_upto ?Fz1X0 ?Nz1X0 ?lz1X0 ?zz1X0 ?_ ?sz1X0 ?tz1X0; (case Fz1X0 => k_asm); (case Nz1X0 => k_asm); (case lz1X0 => is_list); (case zz1X0 => omega); (case sz1X0 => with_unfolding_all rfl); (case tz1X0 => intro _; with_unfolding_all rfl)); intro kqsD kqsh kqsF kqsN kqsl1; (try k_lt kqsl1))))
  (k_with "call type:list" => ((k_dflt (refine' list_keysview ?hz2X0 ?Fz2X0 ?Nz2X0 ?vz2X0 ?pz2X0 ?dz2X0 ?nz2X0 ?_; (case hz2X0 => rfl); (case Fz2X0 => k_asm); (case Nz2X0 => k_asm); (case vz2X0 => k_mem); (case pz2X0 => k_mem); (case dz2X0 => assumption); (case nz2X0 => omega)); intro kqkB kqkc kqkh kqktk kqkvs kqkhk kqkF kqkN kqkl1; (try k_lt kqkl1))))
  trivial
section
section
open TI
variable {w : World}
noncomputable def ExpJ1 (w : World) (g : Heap) (a : SA) (av : List Addr) (σ : Sta) (T : Int) (kvs : List (Str × Value)) (oS oX : Obj) (i : Nat) (m : Str → Option Value) (news : List (Addr × Obj)) : Prop :=
  ∃ oE' ps' ex kvs', news = (588, tabObj ps') :: (a.dS, oS) :: (a.dX, oX) :: (a.dE, oE') :: ex ∧ m (Str.ofString "self") = some (.ref a.st) ∧ oE'.IsDictOf (PySem.strKind PySem.Challenge.rw_jn0050_01.row.prog w) kvs' ∧ kvs'.length = kvs.length ∧
    (∀ k, k ∉ (kvs.map (·.1)).take i → valueAt kvs' k = valueAt kvs k) ∧
    (∀ k ∈ (kvs.map (·.1)).take i, ∃ l0 x vs ep, σ.ev k = some l0 ∧ valueAt kvs' k = some (.ref x) ∧ x ∉ av ∧ Ents w av g vs (expL T l0) ∧ (g.get? x = some (W.listOf (List.toArray vs) ep) ∨ (x, W.listOf (List.toArray vs) ep) ∈ ex)) ∧
    TabK av g ex qX posX ps' ∧ ∀ p ∈ ex, p.1 ≠ 588 ∧ p.1 ≠ a.dS ∧ p.1 ≠ a.dX ∧ p.1 ≠ a.dE
theorem Ents.take {av : List Addr} {h : Heap} {vs : List Value} {l : List (Int × Int)} (n : Nat) (E : Ents w av h vs l) : Ents w av h (vs.take n) (l.take n) :=
  Ents.ind (P := fun vs l => ∀ n, Ents w av h (List.take n vs) (List.take n l)) (fun n => by cases n <;> exact trivial) (fun a _ ih n => by cases n with | zero => exact trivial | succ n => exact ⟨a, ih n⟩) E n
theorem take_succ_mem {ks : List Str} {i : Nat} {k x : Str} (h : ks[i]? = some k) : x ∈ ks.take (i + 1) ↔ x ∈ ks.take i ∨ x = k := by
  rw [List.take_add_one, h]; simp
theorem nodup_take {ks : List Str} (hn : ks.Nodup) {i : Nat} {k : Str} (h : ks[i]? = some k) : k ∉ ks.take i := fun hm => by
  obtain ⟨j, hj, e⟩ := List.getElem_of_mem hm
  rw [List.getElem_take] at e
  obtain ⟨hi, e2⟩ := List.getElem?_eq_some_iff.mp h
  have hj' : j < i := by have := hj; simp at this; omega
  have := (List.getElem_inj hn).mp (e.trans e2.symm)
  omega
theorem exp_step {g : Heap} {a : SA} {av : List Addr} {σ : Sta} {T : Int} {kvs kvs' kvs'' : List (Str × Value)} {oS oX o'' : Obj} {i : Nat} {m' : Str → Option Value} {ex ex'' : List (Addr × Obj)} {k : Str} {l0 : List (Int × Int)} {x : Addr} {vs : List Value} {ep : Nat} {ps'' : Array Value}
  (hk : (kvs.map (·.1))[i]? = some k) (hnk : k ∉ (kvs.map (·.1)).take i) (hσ : σ.ev k = some l0)
  (hun : ∀ k, k ∉ (kvs.map (·.1)).take i → valueAt kvs' k = valueAt kvs k)
  (hpr : ∀ k ∈ (kvs.map (·.1)).take i, ∃ l0 x vs ep, σ.ev k = some l0 ∧ valueAt kvs' k = some (.ref x) ∧ x ∉ av ∧ Ents w av g vs (expL T l0) ∧ (g.get? x = some (W.listOf (List.toArray vs) ep) ∨ (x, W.listOf (List.toArray vs) ep) ∈ ex))
  (hm : m' (Str.ofString "self") = some (.ref a.st)) (hd : o''.IsDictOf (PySem.strKind PySem.Challenge.rw_jn0050_01.row.prog w) kvs'') (hlen : kvs''.length = kvs.length)
  (hoth : ∀ y, y ≠ k → valueAt kvs'' y = valueAt kvs' y) (hval : valueAt kvs'' k = some (.ref x)) (hx : x ∉ av) (hents : Ents w av g vs (expL T l0)) (hat : g.get? x = some (W.listOf (List.toArray vs) ep) ∨ (x, W.listOf (List.toArray vs) ep) ∈ ex'')
  (htab : TabK av g ex'' qX posX ps'') (hex : ∀ p ∈ ex'', p.1 ≠ 588 ∧ p.1 ≠ a.dS ∧ p.1 ≠ a.dX ∧ p.1 ≠ a.dE) (hsub : ∀ p ∈ ex, p ∈ ex'') :
  ExpJ1 w g a av σ T kvs oS oX (i + 1) m' ((588, tabObj ps'') :: (a.dS, oS) :: (a.dX, oX) :: (a.dE, o'') :: ex'') := by
  refine ⟨o'', ps'', ex'', kvs'', rfl, hm, hd, hlen, fun y hy => ?_, fun y hy => ?_, htab, hex⟩
  · rw [take_succ_mem hk] at hy
    rw [hoth y fun q => hy (.inr q), hun y fun q => hy (.inl q)]
  · rcases (take_succ_mem hk).mp hy with hy | rfl
    · obtain ⟨l1, x1, vs1, ep1, e1, e2, e3, e4, e5⟩ := hpr y hy
      refine ⟨l1, x1, vs1, ep1, e1, ?_, e3, e4, e5.imp id (hsub _)⟩
      rw [hoth y fun q => hnk (q ▸ hy)]; exact e2
    · exact ⟨l0, x, vs, ep, hσ, hval, hx, hents, hat⟩
theorem valueAt_stored_ne {kvs : List (Str × Value)} {k y : Str} {v : Value} (h : y ≠ k) : valueAt (stored kvs k v) y = valueAt kvs y := by rw [valueAt_stored, if_neg h]
theorem TabK.more {g : Heap} {av : List Addr} {ex ex' : List (Addr × Obj)} {q : Str} {pos : Pos} {ps : Array Value} (H : TabK av g ex q pos ps) (hs : ∀ p ∈ ex, p ∈ ex') : TabK av g ex' q pos ps :=
  ⟨H.1, H.2.imp id fun ⟨c, e1, e2, e3⟩ => ⟨c, e1, e2, e3.imp id fun ⟨oc, vs, t, m, r⟩ => ⟨oc, vs, t, hs _ m, r⟩⟩⟩
theorem allLt_ne {D y : Addr} {tl : List (Addr × Obj)} {o : Obj} (h : AllLt D tl) (hm : (y, o) ∈ tl) : D ≠ y := fun q => Nat.lt_irrefl y (q ▸ AllLt.mem h (y, o) hm)
theorem noav4 {g : Heap} {av : List Addr} {a : SA} {D : Addr} (hcf : NoAv g av [a.dS, a.dX, a.dE, 588]) (e : g.get? D = none) (h0 : 588 < D) (h1 : a.dS < D) (h2 : a.dX < D) (h3 : a.dE < D) : D ∉ av :=
  hcf [(588, emptyDict), (a.dS, emptyDict), (a.dX, emptyDict), (a.dE, emptyDict)] (by simp) D e (by
    intro q hq
    simp only [List.mem_cons, List.not_mem_nil, or_false] at hq
    rcases hq with rfl | rfl | rfl | rfl <;> assumption)
theorem exp_del {f f' : Str → Option Int} {ks : List Str} {i : Nat} {k : Str} (hk : ks[i]? = some k) (h : f' k = none) : del (fun y => if y ∈ ks.take i then f' y else f y) k = fun y => if y ∈ ks.take (i + 1) then f' y else f y := by
  funext y
  show (if y = k then none else if y ∈ ks.take i then f' y else f y) = _
  by_cases q : y = k
  · subst q
    rw [if_pos rfl, if_pos ((take_succ_mem hk).mpr (.inr rfl)), h]
  · rw [if_neg q]
    by_cases r : y ∈ ks.take i
    · rw [if_pos r, if_pos ((take_succ_mem hk).mpr (.inl r))]
    · rw [if_neg r, if_neg fun z => ((take_succ_mem hk).mp z).elim r q]
theorem exp_same {f f' : Str → Option Int} {ks : List Str} {i : Nat} {k : Str} (hk : ks[i]? = some k) (hnk : k ∉ ks.take i) (h : f' k = f k) : (fun y => if y ∈ ks.take i then f' y else f y) = fun y => if y ∈ ks.take (i + 1) then f' y else f y := by
  funext y
  by_cases q : y = k
  · subst q
    rw [if_neg hnk, if_pos ((take_succ_mem hk).mpr (.inr rfl)), h]
  · by_cases r : y ∈ ks.take i
    · rw [if_pos r, if_pos ((take_succ_mem hk).mpr (.inl r))]
    · rw [if_neg r, if_neg fun z => ((take_succ_mem hk).mp z).elim r q]
theorem News.sub1 {g h : Heap} {L : Addr} {news : List (Addr × Obj)} {p : Addr × Obj} (N : News g L h news) (hp : p ∈ news) : News g L h [p] := fun q hq => List.mem_singleton.mp hq ▸ N p hp
theorem got {g h : Heap} {L d : Addr} {news : List (Addr × Obj)} {o : Obj} {f : Str → Option Int} {b : Nat} (N : News g L h news) (hp : (d, o) ∈ news) (hi : IsI w o f b) : ∃ o, IsI w o f b ∧ News g L h [(d, o)] := ⟨o, hi, News.sub1 N hp⟩
theorem exp_end {f f' : Str → Option Int} {ks : List Str} {n : Nat} (hn : ks.length ≤ n) (h : ∀ k, k ∉ ks → f' k = f k) : (fun y => if y ∈ ks.take n then f' y else f y) = f' := by
  funext y
  rw [List.take_of_length_le hn]
  by_cases q : y ∈ ks
  · rw [if_pos q]
  · rw [if_neg q, h y q]
noncomputable def ExpJ2 (w : World) (a : SA) (σ : Sta) (T : Int) (ks : List Str) (b : Nat) (oE : Obj) (ps : Array Value) (ex : List (Addr × Obj)) (i : Nat) (m : Str → Option Value) (news : List (Addr × Obj)) : Prop :=
  ∃ oS' oX', news = (588, tabObj ps) :: (a.dS, oS') :: (a.dX, oX') :: (a.dE, oE) :: ex ∧ m (Str.ofString "self") = some (.ref a.st) ∧
    IsI w oS' (fun k => if k ∈ ks.take i then (expS σ T).cnt k else σ.cnt k) b ∧ IsI w oX' (fun k => if k ∈ ks.take i then (expS σ T).ex k else σ.ex k) b
theorem exp_all {g h' : Heap} {a : SA} {av : List Addr} {σ : Sta} {T : Int} {kvs kvs' : List (Str × Value)} {b : Nat} {L : Addr} {m : Str → Option Value} {news ex : List (Addr × Obj)} {n : Nat} (hn : (kvs.map (·.1)).length ≤ n) (H : EK w av g kvs σ.ev b) (hlen : kvs'.length = kvs.length)
  (hun : ∀ k, k ∉ (kvs.map (·.1)).take n → valueAt kvs' k = valueAt kvs k)
  (hpr : ∀ k ∈ (kvs.map (·.1)).take n, ∃ l0 x vs ep, σ.ev k = some l0 ∧ valueAt kvs' k = some (.ref x) ∧ x ∉ av ∧ Ents w av g vs (expL T l0) ∧ (g.get? x = some (W.listOf (List.toArray vs) ep) ∨ (x, W.listOf (List.toArray vs) ep) ∈ ex))
  (F : Fr g L h' m) (N : News g L h' news) (hs : ∀ p ∈ ex, p ∈ news) : EK w av h' kvs' (expS σ T).ev b := by
  rw [List.take_of_length_le hn] at hun hpr
  refine ⟨hlen ▸ H.1, fun k => ?_, fun k l e => ?_⟩
  · by_cases hk : k ∈ kvs.map (·.1)
    · obtain ⟨l0, x, vs, ep, e1, e2, e3, e4, e5⟩ := hpr k hk
      show RelE w av h' _ ((σ.ev k).map (expL T))
      rw [e1, e2]
      refine ⟨x, rfl, vs, ep, ?_, e3, e4.on (Stay.sub F.keep)⟩
      rcases e5 with e5 | e5
      · exact F.keep _ _ e5
      · exact (N _ (hs _ e5)).1
    · have h1 : valueAt kvs k = none := by
        cases q : valueAt kvs k with
        | none => rfl
        | some v => exact absurd (valueAt_mem.mp ⟨v, q⟩) hk
      have h2 := H.2.1 k
      rw [h1] at h2
      show RelE w av h' _ ((σ.ev k).map (expL T))
      rw [hun k hk, h1]
      cases q : σ.ev k with
      | none => rfl
      | some l => rw [q] at h2; obtain ⟨_, q, _⟩ := h2; cases q
  · have e' : (σ.ev k).map (expL T) = some l := e
    cases q : σ.ev k with
    | none => rw [q] at e'; cases e'
    | some l0 =>
      rw [q] at e'
      cases e'
      exact Nat.le_trans (by unfold expL; simp; omega) (H.2.2 k l0 q)
theorem Pre.postX {hB h0 h' : Heap} {A : Around} {av : List Addr} {a : SA} {σ σ' : Sta} {b b' : Nat} {l : List Env} {frs : List (Addr × Obj)} (P : Pre w hB A h0 av a σ b l frs) (C : Chg [588, a.dS, a.dX, a.dE] h0 h') (st' : WSt w av h' a σ' b') (t : ∃ ps, TabOk av h' 588 qX posX ps) : Post w h0 h' av a σ' b' frs := by
  have st : Stay av h0 h' := fun x o e n => C x o e fun q => n (by
    have m1 := P.mav
    simp only [List.mem_cons, List.not_mem_nil, or_false] at q
    rcases q with q' | q' | q' | q'
    · exact (by rw [q']; exact m1 _ (by simp))
    · exact (by rw [q']; exact m1 _ (by simp))
    · exact (by rw [q']; exact m1 _ (by simp))
    · exact (by rw [q']; exact m1 _ (by simp)))
  obtain ⟨⟨n1, n2, n3⟩, ⟨n4, n5, n6⟩⟩ := P.tne
  obtain ⟨pg, tg⟩ := P.tb.g
  refine ⟨fun x o e n => C x o e fun q => n ?_, ⟨frs, SameUp.refl _, fun p hp => C _ _ (P.fs p hp).1 fun q => ?_⟩, st', ⟨⟨pg, tg.on (fun o e => C _ _ e fun q => ?_) st⟩, t⟩⟩
  · simp only [List.mem_cons, List.not_mem_nil, or_false] at q
    rcases q with q' | q' | q' | q' <;> (rw [q']; simp)
  · have f := P.fne p hp
    simp only [List.mem_cons, List.not_mem_nil, or_false] at q
    rcases q with r | r | r | r
    · exact f.2.2.2.2 r
    · exact f.1 r
    · exact f.2.1 r
    · exact f.2.2.1 r
  · simp only [List.mem_cons, List.not_mem_nil, or_false] at q
    rcases q with r | r | r | r
    · exact absurd r (by decide)
    · exact n1 r.symm
    · exact n2 r.symm
    · exact n3 r.symm
end
theorem reg_X1x1 : True := by
  (k_with "subscriptTail" => (((with_reducible show wpAny _ _ (subscriptTail _ _ (Value.ref _) (Value.str _ _)) _ _ _); k_dflt (first | refine d_item (by k_asm) (by k_mem) (by assumption) (by assumption) ?_ | (refine I_item (by k_asm) (by k_mem) (by assumption) (by assumption) ?_; intro t'z0X1x1)))))
  trivial
section
open TI
variable {w : World} {A : Around} {E : Value → Shared → Prop} {s : Shared} {Q : Value → Shared → Prop} {hB : Heap} {a : SA} {T : Int} {σ : Sta} {b : Nat} {av : List Addr} {l : List Env} {frs : List (Addr × Obj)}
theorem c_expire (R : Rm A 20) (G : Gd w hB) (kS : Sub hB s.heap) (Xs : Sto w hB hB a T) (fpin : ∀ b ∈ a.fp, ∃ o, hB.get? b = some o) (hT : 0 ≤ T ∧ T ≤ 100000) (P : Pre w hB A s.heap av a σ b l frs)
  (h : ∀ h' tk', Post w s.heap h' av a (expS σ T) (b + 60) frs → Q .none {s with heap := h', toks := tk'}) :
  wpAny (model PySem.Challenge.rw_jn0050_01.row.prog w) A (call (.ref 593) [.ref a.st] []) Q E s := by
  obtain ⟨oS, hS0, hS⟩ := P.st.S
  obtain ⟨oX, hX0, hX⟩ := P.st.X
  obtain ⟨kvs, hE0, H⟩ := P.st.E
  obtain ⟨oE, hE0, hE⟩ := Heap.dictOf_iff.mp hE0
  obtain ⟨ps, ht0, ht, hcd⟩ := P.tb.x
  have hb := P.hb
  have nE := Xs.ne
  have nS := Xs.fr
  have nT := P.tB
  obtain ⟨ha, da, fa, ga, ua⟩ := A
  have hha := R.hd
  dsimp only at hha
  subst hha
  refine' enter (binds := [(Str.ofString "self", .ref a.st)]) (mods := [(a.dS, oS), (a.dX, oX), (a.dE, oE), (588, tabObj ps)]) R G kS ?M ?ho ?hcd ?hb ?hl ?_ ?c2 ?c3 ?c4 ?c5
  case M => exact List.forall_mem_cons.mpr ⟨⟨hS0, nS.1⟩, List.forall_mem_cons.mpr ⟨⟨hX0, nS.2.1⟩, List.forall_mem_cons.mpr ⟨⟨hE0, nS.2.2⟩, List.forall_mem_cons.mpr ⟨⟨ht0, nT.2⟩, List.forall_mem_nil _⟩⟩⟩⟩
  case ho => k_is
  case hcd => k_is
  case hb => first | exact BindsTo.of_eq rfl | exact binds_K (G.X.keeps kS) rfl (by k_is) rfl rfl rfl | (rcases (by assumption : KwC _ _ _ _) with rfl | ⟨rfl, rfl, rfl⟩ <;> first | exact BindsTo.of_eq rfl | exact binds_K (G.X.keeps kS) rfl (by k_is) rfl rfl rfl)
  case hl => exact locs rfl
  case c2 => exact rfl
  case c3 => exact rfl
  case c4 => exact rfl
  case c5 => decide
  intro g L h₁ Hg Sg F N X ⟨p, loose, mean, mg, mb, T0⟩ l1
  have Sg' : Sto w hB g a T := Xs.sub Sg
  obtain ⟨I, C, -, ⟨ne1, ne2, ne3⟩, -, ⟨lo1, lo2, lo3⟩, fnl, -⟩ := id Sg'
  have hkl := H.1
  have hkl2 : kvs.length ≤ 50000 := Nat.le_trans hkl hb
  (try dsimp only)
  repeat' ((fail_if_success (with_reducible show wpAny _ _ (exec (Stmt.For _ _ _ _ _) _) _ _ _)); (first | (k_unfold; (try dsimp only)) | (k_end; wrow_close) | walk1 | (dsimp only; walk1) | (leave1; walk_say "STEP leave1"; try dsimp only) | fail "no step"))
  refine For_invV g (by exact rfl) (by exact rfl) ?_
  repeat' ((fail_if_success (with_reducible show wpAny _ _ (pyIter _) _ _ _)); (first | (k_unfold; (try dsimp only)) | (k_end; wrow_close) | walk1 | (dsimp only; walk1) | (leave1; walk_say "STEP leave1"; try dsimp only) | fail "no step"))
  revert kqkB kqkc kqkh kqktk kqkvs kqkhk kqkF kqkN kqkl1
  intro B c9 h9 tk9 vs9 hks F9 N9 l9
  have Stg : Stay av s.heap g := fun b o e q => Hg b o e fun q' => by
    have m1 := P.mav
    simp only [List.map_cons, List.map_nil, List.mem_cons, List.not_mem_nil, or_false] at q'
    rcases q' with q' | q' | q' | q'
    · exact q (by rw [q']; exact m1 _ (by simp))
    · exact q (by rw [q']; exact m1 _ (by simp))
    · exact q (by rw [q']; exact m1 _ (by simp))
    · exact q (by rw [q']; exact m1 _ (by simp))
  have Hgg := H.on Stg
  have hnd : (kvs.map (·.1)).Nodup := by obtain ⟨_, _, _, _, _, _, x⟩ := hE; exact x
  have hcf : NoAv g av [a.dS, a.dX, a.dE, 588] := NoAv.of P.hav Hg
  have hcg : codeAmong posX ps.toList = none ∨ ∃ c', codeAmong posX ps.toList = some (.ref c') ∧ g.CodeRec (.ref c') qX ∧ c' ∉ av := by
    rcases hcd with x | ⟨c', e1, e2, e3⟩
    · exact .inl x
    · exact .inr ⟨c', e1, CodeRec.stay e2 e3 Stg, e3⟩
  have Ch : CodeHd g 592 588 := codeHd_of_K X (by first | decide | rfl)
  have hT0 := hT.1
  have hT1 := hT.2
  have nt1 : a.dS ≠ 588 := P.tne.2.1
  have nt2 : a.dX ≠ 588 := P.tne.2.2.1
  have nt3 : a.dE ≠ 588 := P.tne.2.2.2
  refine iter_listN (by exact rfl) F9 N9 (.head _) (ExpJ1 w g a av σ T kvs oS oX) (news0 := [(588, tabObj ps), (a.dS, oS), (a.dX, oX), (a.dE, oE)]) ?_ ?_ ?_ ?_
  · intro p hp
    simp only [List.mem_cons, List.not_mem_nil, or_false] at hp ⊢
    rcases hp with rfl | rfl | rfl | rfl <;> simp
  · refine ⟨oE, ps, [], kvs, rfl, rfl, hE, rfl, fun _ _ => rfl, fun k hk => by simp at hk, ⟨ht, ?_⟩, fun _ q => nomatch q⟩
    rcases hcg with x | ⟨c', e1, e2, e3⟩
    · exact .inl x
    · exact .inr ⟨c', e1, e3, .inl e2⟩
  · rintro i v m₁ news₁ h8 tk8 own hv ⟨oE', ps', ex, kvs', rfl, hm, hd', hlen, hun, hpr, htk, hex⟩ hoff how F₁ N₁ ⟨oI, hoI⟩
    obtain ⟨hi, -⟩ := List.getElem?_eq_some_iff.mp hv
    rw [hks.1] at hi
    obtain ⟨k, hk⟩ : ∃ k, (kvs.map (·.1))[i]? = some k := ⟨_, List.getElem?_eq_getElem hi⟩
    obtain ⟨t, e⟩ := hks.2 i k hk
    rw [hv] at e
    cases e
    have hnk := nodup_take hnd hk
    obtain ⟨u, hu⟩ := valueAt_mem.mpr (List.mem_of_getElem? hk)
    have hr := Hgg.2.1 k
    rw [hu] at hr
    cases hσ : σ.ev k with
    | none => rw [hσ] at hr; cases hr
    | some l0 =>
    rw [hσ] at hr
    obtain ⟨x, e, vs, ep, hxg, nx, hvs⟩ := hr
    cases e
    have hu' : valueAt kvs' k = some (.ref x) := (hun k hnk).trans hu
    have hxl : g.IsList x (List.toArray vs) := ⟨_, hxg, rfl, ep, rfl⟩
    have hvl : vs.length ≤ 100000 := by rw [hvs.length]; exact Nat.le_trans (H.2.2 _ _ hσ) (by omega)
    have hvll := hvs.length
    have hll : l0.length ≤ 100000 := by omega
    have hkl' : kvs'.length ≤ 50000 := by omega
    have hI : ∀ y o, (y, o) ∈ [(588, tabObj ps'), (a.dS, oS), (a.dX, oX), (a.dE, oE')] → ∀ p ∈ own, p.1 ≠ y := fun y o hy p hp q => by
      have h1 := how p hp
      rcases List.mem_cons.mp h1 with h1 | h1
      · exact hoff (y, o) (by simp only [List.mem_cons, List.not_mem_nil, or_false] at hy ⊢; rcases hy with r | r | r | r <;> simp [r]) (by rw [← show p.1 = y from q, h1]; simp)
      · have h2 : y = B := q.symm.trans (List.mem_singleton.mp h1)
        simp only [List.mem_cons, List.not_mem_nil, or_false, Prod.mk.injEq] at hy
        obtain ⟨-, m1, m2, m3, m4, -⟩ := l9
        rcases hy with ⟨r, -⟩ | ⟨r, -⟩ | ⟨r, -⟩ | ⟨r, -⟩ <;> (rw [r] at h2; rw [← h2] at m1 m2 m3 m4; first | exact Nat.lt_irrefl _ m1 | exact Nat.lt_irrefl _ m2 | exact Nat.lt_irrefl _ m3 | exact Nat.lt_irrefl _ m4)
    obtain ⟨tl, htl⟩ : ∃ tl, tl = own ++ ex := ⟨_, rfl⟩
    have a1 : ∀ p ∈ tl, p.1 ≠ 588 ∧ p.1 ≠ a.dS ∧ p.1 ≠ a.dX ∧ p.1 ≠ a.dE := fun p hp => by
      rw [htl] at hp
      rcases List.mem_append.mp hp with hp | hp
      · exact ⟨hI _ _ (.head _) p hp, hI _ _ (.tail _ (.head _)) p hp, hI _ _ (.tail _ (.tail _ (.head _))) p hp, hI _ _ (.tail _ (.tail _ (.tail _ (.head _)))) p hp⟩
      · exact hex p hp
    have N₂ : News g L h8 ((588, tabObj ps') :: (a.dS, oS) :: (a.dX, oX) :: (a.dE, oE') :: tl) := fun p hp => N₁ p (by
      rw [htl] at hp
      simp only [List.mem_cons, List.mem_append] at hp ⊢
      rcases hp with r | r | r | r | r | r
      · exact .inr (.inl r)
      · exact .inr (.inr (.inl r))
      · exact .inr (.inr (.inr (.inl r)))
      · exact .inr (.inr (.inr (.inr (.inl r))))
      · exact .inl r
      · exact .inr (.inr (.inr (.inr (.inr r)))))
    have a2 : ∀ p ∈ tl, p.1 ≠ a.dE := fun p hp => (a1 p hp).2.2.2
    have a3 : ∀ p ∈ (a.dS, oS) :: (a.dX, oX) :: (a.dE, oE') :: tl, p.1 ≠ 588 := by
      intro p hp
      simp only [List.mem_cons] at hp
      rcases hp with r | r | r | r
      · rw [r]; exact nt1
      · rw [r]; exact nt2
      · rw [r]; exact nt3
      · exact (a1 p r).1
    clear N₁ N9 F9 F N l1 hI
    have nt3' := neN nt3
    have nt1' := neN nt1
    have nt2' := neN nt2
    have ne2' := neN ne2
    have ne3' := neN ne3
    have hoff0 : ∀ p ∈ ex, p.1 ∉ [h9.objs.size] := fun p hp => hoff p (.tail _ (.tail _ (.tail _ (.tail _ hp))))
    have ho0 : (588 : Addr) ∉ [h9.objs.size] := hoff _ (.head _)
    have ho1 : a.dS ∉ [h9.objs.size] := hoff _ (.tail _ (.head _))
    have ho2 : a.dX ∉ [h9.objs.size] := hoff _ (.tail _ (.tail _ (.head _)))
    have ho3 : a.dE ∉ [h9.objs.size] := hoff _ (.tail _ (.tail _ (.tail _ (.head _))))
    have hItl : (h9.objs.size, oI) ∈ tl := by rw [htl]; exact List.mem_append_left _ hoI
    have hextl : ∀ p ∈ ex, p ∈ tl := fun p hp => by rw [htl]; exact List.mem_append_right _ hp
    have howtl : ∀ p ∈ own, p ∈ tl := fun p hp => by rw [htl]; exact List.mem_append_left _ hp
    have htk0 := htk
    clear hoff
    obtain ⟨htr, htk⟩ := htk
    by_cases hvz : vs = []
    · subst hvz
      k_steps
      rename Fr _ _ _ _ => F5
      rename News _ _ _ _ => N5
      have hl0 : l0 = [] := by cases l0 with
        | nil => rfl
        | cons _ _ => simp at hvll
      subst hl0
      refine LoopStepU.intro (news₂ := (588, tabObj ps') :: (a.dS, oS) :: (a.dX, oX) :: (a.dE, oE') :: ex) F5 (fun p hp => N5 p ?_) (fun p hp => ?_) (exp_step hk hnk hσ hun hpr hm hd' hlen (fun _ _ => rfl) hu' nx (by show Ents w av g [] (List.take _ []); rw [List.take_nil]; exact hvs) (.inl hxg) htk0 hex (fun _ q => q))
      · rcases List.mem_append.mp hp with hp | hp
        · exact .tail _ (.tail _ (.tail _ (.tail _ (.tail _ (howtl _ hp)))))
        · simp only [List.mem_cons] at hp ⊢
          rcases hp with r | r | r | r | r
          · exact .inr (.inl r)
          · exact .inr (.inr (.inl r))
          · exact .inr (.inr (.inr (.inl r)))
          · exact .inr (.inr (.inr (.inr (.inl r))))
          · exact .inr (.inr (.inr (.inr (.inr (hextl _ r)))))
      · simp only [List.mem_cons] at hp
        rcases hp with r | r | r | r | r
        · rw [r]; exact ho0
        · rw [r]; exact ho1
        · rw [r]; exact ho2
        · rw [r]; exact ho3
        · exact hoff0 _ r
    · have hpos : 0 < vs.length := List.length_pos_iff.mpr hvz
      obtain ⟨ko, hko⟩ : ∃ ko, ko = bisW (fun i => decide (-(l0.getD i (0, 0)).2 < -T)) 0 l0.length := ⟨_, rfl⟩
      rcases htk with htk | ⟨c', htk, hcn, hcc⟩
      · k_steps
        obtain ⟨d1, d2, d3, d4, d5, d6, d7, d8⟩ := kqsl1
        obtain ⟨b1, b2, b3, b4, b5, b6⟩ := kqll1
        refine LoopStepU.intro (news₂ := (588, tabObj kqlps) :: (a.dS, oS) :: (a.dX, oX) :: (a.dE, kqto) :: (kqsD, W.listOf (List.toArray (vs.take ko)) 0) :: (kqlc, kqloc) :: ex) kqtF (fun p hp => kqtN p ?_) (fun p hp => ?_)
          (exp_step (ep := 0) hk hnk hσ hun hpr hm kqthd (by rw [stored_length_eq hu', hlen]) (fun y hy => valueAt_stored_ne hy) (stored_self _ _ _) (noav4 hcf (kqtN _ (.head _)).2.2 d4 d5 d6 d7) (by unfold expL; rw [← hko]; exact hvs.take ko) (.inr (.head _))
            ⟨kqlhtr, .inr ⟨kqlc, kqlhca, kqlhcv, .inr ⟨kqloc, kqlvs, kqlt, .tail _ (.head _), kqlhd, kqlhv⟩⟩⟩ ?_ (fun p hp => .tail _ (.tail _ hp)))
        · rcases List.mem_append.mp hp with hp | hp
          · exact .tail _ (.tail _ (.tail _ (.tail _ (.tail _ (.tail _ (.tail _ (.tail _ (howtl _ hp))))))))
          · simp only [List.mem_cons] at hp ⊢
            rcases hp with r | r | r | r | r | r | r
            · exact .inr (.inr (.inr (.inr (.inl r))))
            · exact .inr (.inr (.inr (.inr (.inr (.inl r)))))
            · exact .inr (.inr (.inr (.inr (.inr (.inr (.inl r))))))
            · exact .inr (.inr (.inr (.inr (.inr (.inr (.inr (.inl r)))))))
            · exact .inl r
            · exact .inr (.inr (.inl r))
            · exact .inr (.inr (.inr (.inr (.inr (.inr (.inr (.inr (hextl _ r))))))))
        · simp only [List.mem_cons] at hp
          rcases hp with r | r | r | r | r | r | r
          · rw [r]; exact ho0
          · rw [r]; exact ho1
          · rw [r]; exact ho2
          · rw [r]; exact ho3
          · rw [r]; exact fun q => allLt_ne d8 hItl (List.mem_singleton.mp q)
          · rw [r]; exact fun q => allLt_ne b6 hItl (List.mem_singleton.mp q)
          · exact hoff0 _ r
        · refine List.forall_mem_cons.mpr ⟨⟨Nat.ne_of_gt d4, Nat.ne_of_gt d5, Nat.ne_of_gt d6, Nat.ne_of_gt d7⟩, List.forall_mem_cons.mpr ⟨⟨Nat.ne_of_gt b2, Nat.ne_of_gt b3, Nat.ne_of_gt b4, Nat.ne_of_gt b5⟩, hex⟩⟩
      · have hcr : HasCode g L tl c' qX := fun h' m' news' F' N' hs => by
          rcases hcc with hcc | ⟨oc, vs', t', hoc, e1, e2⟩
          · exact CodeRec.stay (av := []) hcc (by simp) (Stay.sub F'.keep)
          · exact codeRec_news N' (hs _ (by rw [htl]; exact List.mem_append_right _ hoc)) e1 e2
        k_steps
        obtain ⟨d1, d3, d4, d5, d6, d7, d8⟩ := kqsl1
        refine LoopStepU.intro (news₂ := (588, tabObj ps') :: (a.dS, oS) :: (a.dX, oX) :: (a.dE, kqto) :: (kqsD, W.listOf (List.toArray (vs.take ko)) 0) :: ex) kqtF (fun p hp => kqtN p ?_) (fun p hp => ?_)
          (exp_step (ep := 0) hk hnk hσ hun hpr hm kqthd (by rw [stored_length_eq hu', hlen]) (fun y hy => valueAt_stored_ne hy) (stored_self _ _ _) (noav4 hcf (kqtN _ (.head _)).2.2 d4 d5 d6 d7) (by unfold expL; rw [← hko]; exact hvs.take ko) (.inr (.head _))
            (htk0.more fun p hp => .tail _ hp) ?_ (fun p hp => .tail _ hp))
        · rcases List.mem_append.mp hp with hp | hp
          · exact .tail _ (.tail _ (.tail _ (.tail _ (.tail _ (.tail _ (.tail _ (howtl _ hp)))))))
          · simp only [List.mem_cons] at hp ⊢
            rcases hp with r | r | r | r | r | r
            · exact .inr (.inr (.inr (.inl r)))
            · exact .inr (.inr (.inr (.inr (.inl r))))
            · exact .inr (.inr (.inr (.inr (.inr (.inl r)))))
            · exact .inr (.inr (.inr (.inr (.inr (.inr (.inl r))))))
            · exact .inl r
            · exact .inr (.inr (.inr (.inr (.inr (.inr (.inr (hextl _ r)))))))
        · simp only [List.mem_cons] at hp
          rcases hp with r | r | r | r | r | r
          · rw [r]; exact ho0
          · rw [r]; exact ho1
          · rw [r]; exact ho2
          · rw [r]; exact ho3
          · rw [r]; exact fun q => allLt_ne d8 hItl (List.mem_singleton.mp q)
          · exact hoff0 _ r
        · exact List.forall_mem_cons.mpr ⟨⟨Nat.ne_of_gt d4, Nat.ne_of_gt d5, Nat.ne_of_gt d6, Nat.ne_of_gt d7⟩, hex⟩
  · rintro h1 tk1 m1 news1 F1 N1 ⟨oE1, ps1, ex, kvs', rfl, hm, hd1, hlen, hun, hpr, htk, hex⟩
    obtain ⟨kv2, hdX, hl2, hr2⟩ := hX
    have hX : IsI w oX σ.ex b := ⟨kv2, hdX, hl2, hr2⟩
    have hnd2 : (kv2.map (·.1)).Nodup := by obtain ⟨_, _, _, _, _, _, x⟩ := hdX; exact x
    have hl3 : kv2.length ≤ 50000 := by omega
    clear F9 N9 F N l1
    repeat' ((fail_if_success (with_reducible show wpAny _ _ (exec (Stmt.For _ _ _ _ _) _) _ _ _)); (first | (k_unfold; (try dsimp only)) | (k_end; wrow_close) | walk1 | (dsimp only; walk1) | (leave1; walk_say "STEP leave1"; try dsimp only) | fail "no step"))
    refine For_invV g (by exact rfl) (by exact rfl) ?_
    repeat' ((fail_if_success (with_reducible show wpAny _ _ (pyIter _) _ _ _)); (first | (k_unfold; (try dsimp only)) | (k_end; wrow_close) | walk1 | (dsimp only; walk1) | (leave1; walk_say "STEP leave1"; try dsimp only) | fail "no step"))
    revert kqkB kqkc kqkh kqktk kqkvs kqkhk kqkF kqkN kqkl1
    intro B2 c2 h2 tk2 vs2 hks2 F2 N2 l2
    refine iter_listN (by exact rfl) F2 N2 (.head _) (ExpJ2 w a σ T (kv2.map (·.1)) b oE1 ps1 ex) (news0 := (588, tabObj ps1) :: (a.dS, oS) :: (a.dX, oX) :: (a.dE, oE1) :: ex) (fun p hp => .tail _ (.tail _ hp)) ⟨oS, oX, rfl, hm, by simpa using hS, by simpa using hX⟩ ?_ ?_
    · rintro i v m₁ news₁ h8 tk8 own hv ⟨oS', oX', rfl, hm2, hS', hX'⟩ hoff how F₁ N₁ ⟨oI, hoI⟩
      obtain ⟨hi, -⟩ := List.getElem?_eq_some_iff.mp hv
      rw [hks2.1] at hi
      obtain ⟨k, hk⟩ : ∃ k, (kv2.map (·.1))[i]? = some k := ⟨_, List.getElem?_eq_getElem hi⟩
      obtain ⟨t, e⟩ := hks2.2 i k hk
      rw [hv] at e
      cases e
      have hnk := nodup_take hnd2 hk
      obtain ⟨u, hu⟩ := valueAt_mem.mpr (List.mem_of_getElem? hk)
      have hr := hr2 k
      rw [hu] at hr
      cases hσ : σ.ex k with
      | none => rw [hσ] at hr; cases hr
      | some v0 =>
      have hI : ∀ y, y ∈ [588, a.dS, a.dX, a.dE] → ∀ p ∈ own, p.1 ≠ y := fun y hy p hp q => by
        have h1 := how p hp
        simp only [List.mem_cons, List.not_mem_nil, or_false] at hy
        rcases List.mem_cons.mp h1 with h1 | h1
        · rcases hy with r | r | r | r
          · exact hoff _ (.head _) (by rw [← r, ← show p.1 = y from q, h1]; simp)
          · exact hoff _ (.tail _ (.head _)) (by rw [← r, ← show p.1 = y from q, h1]; simp)
          · exact hoff _ (.tail _ (.tail _ (.head _))) (by rw [← r, ← show p.1 = y from q, h1]; simp)
          · exact hoff _ (.tail _ (.tail _ (.tail _ (.head _)))) (by rw [← r, ← show p.1 = y from q, h1]; simp)
        · have h2 : y = B2 := q.symm.trans (List.mem_singleton.mp h1)
          obtain ⟨-, m4, m1, m2, m3, -⟩ := l2
          rcases hy with r | r | r | r <;> (rw [r] at h2; rw [← h2] at m1 m2 m3 m4; first | exact Nat.lt_irrefl _ m1 | exact Nat.lt_irrefl _ m2 | exact Nat.lt_irrefl _ m3 | exact Nat.lt_irrefl _ m4)
      obtain ⟨tl, htl⟩ : ∃ tl, tl = own ++ ex := ⟨_, rfl⟩
      have a1 : ∀ p ∈ tl, p.1 ≠ 588 ∧ p.1 ≠ a.dS ∧ p.1 ≠ a.dX ∧ p.1 ≠ a.dE := fun p hp => by
        rw [htl] at hp
        rcases List.mem_append.mp hp with hp | hp
        · exact ⟨hI _ (.head _) p hp, hI _ (.tail _ (.head _)) p hp, hI _ (.tail _ (.tail _ (.head _))) p hp, hI _ (.tail _ (.tail _ (.tail _ (.head _)))) p hp⟩
        · exact hex p hp
      have N₂ : News g L h8 ((588, tabObj ps1) :: (a.dE, oE1) :: (a.dS, oS') :: (a.dX, oX') :: tl) := fun p hp => N₁ p (by
        rw [htl] at hp
        simp only [List.mem_cons, List.mem_append] at hp ⊢
        rcases hp with r | r | r | r | r | r
        · exact .inr (.inl r)
        · exact .inr (.inr (.inr (.inr (.inl r))))
        · exact .inr (.inr (.inl r))
        · exact .inr (.inr (.inr (.inl r)))
        · exact .inl r
        · exact .inr (.inr (.inr (.inr (.inr r)))))
      have a2 : ∀ p ∈ tl, p.1 ≠ a.dX := fun p hp => (a1 p hp).2.2.1
      have a3 : ∀ p ∈ (a.dX, oX') :: tl, p.1 ≠ a.dS := List.forall_mem_cons.mpr ⟨ne1.symm, fun p hp => (a1 p hp).2.1⟩
      have hf : (fun y => if y ∈ (kv2.map (·.1)).take i then (expS σ T).ex y else σ.ex y) k = some v0 := (if_neg hnk).trans hσ
      have ho0 : (588 : Addr) ∉ [h2.objs.size] := hoff _ (.head _)
      have ho1 : a.dS ∉ [h2.objs.size] := hoff _ (.tail _ (.head _))
      have ho2 : a.dX ∉ [h2.objs.size] := hoff _ (.tail _ (.tail _ (.head _)))
      have ho3 : a.dE ∉ [h2.objs.size] := hoff _ (.tail _ (.tail _ (.tail _ (.head _))))
      have hoff0 : ∀ p ∈ ex, p.1 ∉ [h2.objs.size] := fun p hp => hoff p (.tail _ (.tail _ (.tail _ (.tail _ hp))))
      have hextl : ∀ p ∈ ex, p ∈ tl := fun p hp => by rw [htl]; exact List.mem_append_right _ hp
      have howtl : ∀ p ∈ own, p ∈ tl := fun p hp => by rw [htl]; exact List.mem_append_left _ hp
      clear N₁ N2 F2 N1 F1 hI hoff
      have nt3' := neN nt3
      have nt1' := neN nt1
      have nt2' := neN nt2
      have ne1' := neN ne1
      have ne2' := neN ne2
      have ne3' := neN ne3
      k_steps
      all_goals (
        rename Fr _ _ _ _ => F5
        rename News _ _ _ _ => N5
        have hS9 := got (d := a.dS) (f := fun y => if y ∈ (kv2.map (·.1)).take (i + 1) then (expS σ T).cnt y else σ.cnt y) (b := b) N5 (by k_mem) (by
          first
          | (rw [← exp_del hk (by simp only [expS, hσ]; rw [if_pos (by assumption)])]; assumption)
          | (rw [← exp_same hk hnk (by simp only [expS, hσ]; rw [if_neg (by assumption)])]; assumption))
        have hX9 := got (d := a.dX) (f := fun y => if y ∈ (kv2.map (·.1)).take (i + 1) then (expS σ T).ex y else σ.ex y) (b := b) N5 (by k_mem) (by
          first
          | (rw [← exp_del hk (by simp only [expS, hσ]; rw [if_pos (by assumption)])]; assumption)
          | (rw [← exp_same hk hnk (by simp only [expS, hσ]; rw [if_neg (by assumption)])]; assumption))
        obtain ⟨oS9, iS9, nS9⟩ := hS9
        obtain ⟨oX9, iX9, nX9⟩ := hX9
        refine LoopStepU.intro (news₂ := (588, tabObj ps1) :: (a.dS, oS9) :: (a.dX, oX9) :: (a.dE, oE1) :: ex) F5 (fun p hp => ?_) (fun p hp => ?_) ⟨oS9, oX9, rfl, hm2, iS9, iX9⟩
        · rcases List.mem_append.mp hp with hp | hp
          · exact N5 p (.tail _ (.tail _ (.tail _ (.tail _ (howtl _ hp)))))
          · simp only [List.mem_cons] at hp
            rcases hp with r | r | r | r | r
            · exact N5 p (by rw [r]; exact .head _)
            · exact nS9 p (by rw [r]; exact .head _)
            · exact nX9 p (by rw [r]; exact .head _)
            · exact N5 p (by rw [r]; exact .tail _ (.head _))
            · exact N5 p (.tail _ (.tail _ (.tail _ (.tail _ (hextl _ r)))))
        · simp only [List.mem_cons] at hp
          rcases hp with r | r | r | r | r
          · rw [r]; exact ho0
          · rw [r]; exact ho1
          · rw [r]; exact ho2
          · rw [r]; exact ho3
          · exact hoff0 _ r)
    · rintro h9 tk9 m9 news9 F9 N9 ⟨oS9, oX9, rfl, hm9, hS9, hX9⟩
      rw [hks2.1] at hS9 hX9
      rw [hks.1] at hun hpr
      k_steps
      have hno : ∀ y, y ∉ kv2.map (·.1) → σ.ex y = none := fun y hy => by
        have h1 : valueAt kv2 y = none := by
          cases q : valueAt kv2 y with
          | none => rfl
          | some v => exact absurd (valueAt_mem.mp ⟨v, q⟩) hy
        have h2 := hr2 y
        rw [h1] at h2
        cases q : σ.ex y with
        | none => rfl
        | some v => rw [q] at h2; obtain ⟨_, q⟩ := h2; cases q
      rw [exp_end (Nat.le_refl _) (fun y hy => by simp only [expS, hno y hy])] at hS9 hX9
      refine h _ _ (P.postX (fun x o e n => ?_) ⟨?_, ?_, ?_⟩ ⟨_, TabK.ok htk F9 N9 (.head _) (fun p hp => .tail _ (.tail _ (.tail _ (.tail _ hp))))⟩)
      · exact F9.keep _ _ (Hg x o e (by simp only [List.map_cons, List.map_nil, List.mem_cons, List.not_mem_nil, or_false] at n ⊢; intro q; apply n; rcases q with q | q | q | q <;> simp [q]))
      · exact (AtI.of N9 (.tail _ (.head _)) hS9).mono (by omega)
      · exact (AtI.of N9 (.tail _ (.tail _ (.head _))) hX9).mono (by omega)
      · exact AtE.of (N9 _ (.tail _ (.tail _ (.tail _ (.head _))))).1 hd1 ((exp_all (a := a) (Nat.le_refl _) Hgg hlen hun hpr F9 N9 (fun p hp => .tail _ (.tail _ (.tail _ (.tail _ hp))))).mono (by omega))
end

end
section
section
variable {w : World} {A : Around} {E : Value → Shared → Prop} {s : Shared} {Q : Value → Shared → Prop} {hB : Heap}
theorem c_next {hd scr : Addr} {k many : Int} {t tm : Tok} {ep : Nat} {vs : List Value} {ns : List Int} (R : Rm A 2) (G : Gd w hB) (kS : Sub hB s.heap)
  (hh : s.heap.get? hd = some (W.listOf [.ref scr, .int k t].toArray ep)) (hf : hB.get? hd = none)
  (hs : hB.IsList scr vs.toArray) (hi : IntsAre vs ns) (hl : ns.length ≤ 63) (h0 : 0 ≤ k) (hk : k < 1000) (hm : 0 < many) (hm2 : many ≤ 100)
  (h : ∀ (h' : Heap) (r : Int) (t t' : Tok) (ep' tk' : Nat), 0 ≤ r → r < many → Chg [hd] s.heap h' → h'.get? hd = some (W.listOf [.ref scr, .int (k+1) t'].toArray ep') → Q (.int r t) {s with heap := h', toks := tk'}) :
  wpAny (model PySem.Challenge.rw_jn0050_01.row.prog w) A (call (.ref 700) [.ref hd, .int many tm] []) Q E s := by
  obtain ⟨ha, da, fa, ga, ua⟩ := A
  have hha := R.hd
  dsimp only at hha
  subst hha
  refine' enter (binds := [(Str.ofString "hand", .ref hd), (Str.ofString "many", .int many tm)]) (mods := [(hd, W.listOf [.ref scr, .int k t].toArray ep)]) R G kS ?M ?ho ?hcd ?hb ?hl ?_ ?c2 ?c3 ?c4 ?c5
  case M => exact List.forall_mem_cons.mpr ⟨⟨hh, hf⟩, List.forall_mem_nil _⟩
  case ho => k_is
  case hcd => k_is
  case hb => first | exact BindsTo.of_eq rfl | exact binds_K (G.X.keeps kS) rfl (by k_is) rfl rfl rfl | (rcases (by assumption : KwC _ _ _ _) with rfl | ⟨rfl, rfl, rfl⟩ <;> first | exact BindsTo.of_eq rfl | exact binds_K (G.X.keeps kS) rfl (by k_is) rfl rfl rfl)
  case hl => exact locs rfl
  case c2 => exact rfl
  case c3 => exact rfl
  case c4 => exact rfl
  case c5 => decide
  intro g L h₁ Hg Sg F N X ⟨p, loose, mean, mg, mb, T0⟩ l1
  have hsg := stays_list Sg hs
  clear hs G kS Sg
  try dsimp only
  k_steps
  all_goals exact h _ _ _ _ _ _ (Int.fmod_nonneg_of_pos _ hm) (Int.fmod_lt_of_pos _ hm) (Chg.of Hg (by k_asm)) (News.get (by k_asm) (by k_mem))
theorem u_next {hd scr : Addr} {k many : Int} {t tm : Tok} {ep : Nat} {vs : List Value} {ns : List Int} {g : Heap} {L : Addr} {m : Str → Option Value} {news : List (Addr × Obj)} {g1 : Obj → List (Addr × Obj)} (R : Rm A 2) (G : Gd w hB) (Sg : Sub hB g) (F : Fr g L s.heap m) (N : News g L s.heap news) (U : UpdF hd (W.listOf [.ref scr, .int k t].toArray ep) news g1)
  (hs : hB.IsList scr vs.toArray) (hi : IntsAre vs ns) (hl : ns.length ≤ 63) (h0 : 0 ≤ k) (hk : k < 1000) (hm : 0 < many) (hm2 : many ≤ 100)
  (h : ∀ (h' : Heap) (r : Int) (t t' : Tok) (ep' tk' : Nat), 0 ≤ r → r < many → Fr g L h' m → News g L h' (g1 (W.listOf [.ref scr, .int (k+1) t'].toArray ep')) → Q (.int r t) {s with heap := h', toks := tk'}) :
  wpAny (model PySem.Challenge.rw_jn0050_01.row.prog w) A (call (.ref 700) [.ref hd, .int many tm] []) Q E s := by
  have e0 := N _ (UpdF.has U)
  refine c_next R G (fun b o e => F.keep b o (Sg b o e)) e0.1 ?_ hs hi hl h0 hk hm hm2 fun h' r t t' ep' tk' r0 r1 C e1 => ?_
  · cases q : hB.get? hd with
    | none => rfl
    | some o => have := Sg _ _ q; rw [e0.2.2] at this; cases this
  · exact h h' r t t' ep' tk' r0 r1 (Fr.chg F N C fun x hx => List.mem_singleton.mp hx ▸ ⟨_, UpdF.has U⟩) (News.one N U C e1)
end

end

theorem reg_C1 : True := by
  (k_with "callWith ref" => (((with_reducible show wpAny _ _ (callWith _ (Value.ref 700) _ _ _) _ _ _); k_dflt (first | (refine' callWith_K (f := .ref 700) ?k1z0C1 ?k2z0C1 ?_; (case k1z0C1 => k_asm); (case k2z0C1 => k_is)) | (refine' callWith_K0 (f := .ref 700) ?k1z0C1 ?k2z0C1 ?_; (case k1z0C1 => k_in); (case k2z0C1 => k_is))))))
  (k_with "call ref" => (((with_reducible show wpAny _ _ (call (Value.ref 700) _ _) _ _ _); k_dflt (refine' u_next ?Rz1C1 ?Gz1C1 ?Sgz1C1 ?Fz1C1 ?Nz1C1 ?Uz1C1 ?hsz1C1 ?hiz1C1 ?hlz1C1 ?h0z1C1 ?hkz1C1 ?hmz1C1 ?hm2z1C1 ?_; (case Rz1C1 => exact Rm.mono (Rm.deeper _ (by assumption)) (by decide)); (case Gz1C1 => assumption); (case Sgz1C1 => exact Sub.refl _); (case Fz1C1 => k_asm); (case Nz1C1 => k_asm); (case Uz1C1 => k_updF); (case hsz1C1 => assumption); (case hiz1C1 => assumption); (case hlz1C1 => omega); (case h0z1C1 => omega); (case hkz1C1 => omega); (case hmz1C1 => omega); (case hm2z1C1 => omega)); intro h'z1C1 r'z1C1 t'z1C1 t1'z1C1 ep'z1C1 tk'z1C1 r0z1C1 r1z1C1 F'z1C1 N'z1C1; (try dsimp only at N'z1C1))))
  (k_with "eval Name" => ((k_dflt (refine' nameX_L ?Fz2C1 ?vz2C1 ?_ ?az2C1 ?bz2C1 ?cz2C1; (case az2C1 => rfl); (case bz2C1 => rfl); (case cz2C1 => decide); (case Fz2C1 => k_asm); (case vz2C1 => first | exact rfl | assumption)))))
  (k_with "k_all" => (first | assumption | exact List.forall_mem_nil _ | (refine' List.forall_mem_cons.mpr ⟨?az3C1, ?bz3C1⟩; (case az3C1 => first | assumption | exact Ne.symm (by assumption) | k_ne); (case bz3C1 => k_all))))
  (k_with "k_updF" => (first | (refine' UpdF.head ?az4C1; (case az4C1 => k_all)) | (refine' UpdF.tail ?az4C1 ?bz4C1; (case az4C1 => first | assumption | exact Ne.symm (by assumption) | k_ne); (case bz4C1 => k_updF))))
  (k_with "k_upd" => (first | (refine' Upd.head ?az5C1; (case az5C1 => k_all)) | (refine' Upd.tail ?az5C1 ?bz5C1; (case az5C1 => first | assumption | exact Ne.symm (by assumption) | k_ne); (case bz5C1 => k_upd))))
  trivial
section
open TI
abbrev Kd (k : Int) : Prop := k = 0 ∨ k = 1 ∨ k = 2
noncomputable def clsOf (k : Int) : Addr := if k = 0 then 241 else if k = 1 then 202 else 296
noncomputable def tstF (k : Int) : Addr := if k = 0 then 229 else if k = 1 then 190 else 275
noncomputable def hitF (k : Int) : Addr := if k = 0 then 220 else if k = 1 then 181 else 266
noncomputable def staF (k : Int) : Addr := if k = 0 then 238 else if k = 1 then 199 else 284
noncomputable def clrF (k : Int) : Addr := if k = 0 then 158 else if k = 1 then 158 else 293
noncomputable def tokT (k : Int) : Tok := if k = 0 then 491 else if k = 1 then 436 else 557
noncomputable def tstS (k : Int) (σ : Sta) (T e : Int) (key : Str) : Sta := if k = 0 then getS σ T key else if k = 1 then σ else swI σ T e key
noncomputable def tstR (k : Int) (σ : Sta) (T e : Int) (key : Str) (am cost : Int) : Bool := if k = 0 then decide (getV σ T key < am - cost + 1) else if k = 1 then decide ((gmwF ((σ.ev key).getD []) T e).2 ≤ am - cost) else decide (swW σ T e key < am - cost + 1)
noncomputable def hitS (k : Int) (σ : Sta) (T e : Int) (key : Str) (am cost : Int) : Sta := if k = 0 then incS σ T key e cost else if k = 1 then acqS σ T e key am cost else swS σ T e key am cost
noncomputable def hitR (k : Int) (σ : Sta) (T e : Int) (key : Str) (am cost : Int) : Bool := if k = 0 then decide (getV σ T key + cost ≤ am) else if k = 1 then acqR σ.ev key T am e cost else swR σ T e key am cost
noncomputable def clrS (k : Int) (σ : Sta) (T e : Int) (key : Str) : Sta := if k = 0 then delS σ key else if k = 1 then delS σ key else delS (delS σ (pkO T e key)) (ckO T e key)
noncomputable def staN (k : Int) (σ : Sta) (T e : Int) (key : Str) : Int := if k = 0 then (getX T σ.ex key key).getD T else if k = 1 then (gmwF ((σ.ev key).getD []) T e).1 + e else (sRes σ T e key).1
noncomputable def staD (k : Int) (σ : Sta) (T e : Int) (key : Str) : Int := if k = 0 then 1 else if k = 1 then 1 else (sRes σ T e key).2
noncomputable def staR (k : Int) (σ : Sta) (T e : Int) (key : Str) (am : Int) : Int := if k = 0 then (if am - getV σ T key > 0 then am - getV σ T key else 0) else if k = 1 then am - (gmwF ((σ.ev key).getD []) T e).2 else (if am - swW σ T e key > 0 then am - swW σ T e key else 0)
abbrev itup (a b : Value) : Obj := { cls := .type "tuple", data := .seq ([a, b] : List Value).toArray }
noncomputable def StV (h0 h : Heap) (k : Int) (v : Value) (n d : Int) : Prop := if k = 2 then ∃ tt t1 t3, v = .ref tt ∧ h0.get? tt = none ∧ h.get? tt = some (itup (.int n t1) (.int d t3)) else d = 1 ∧ ∃ t1, v = .int n t1
section
variable {w : World} {A : Around} {E : Value → Shared → Prop} {s : Shared} {Q : Value → Shared → Prop} {hB : Heap} {a : SA} {lim it nm : Addr} {ns : Str} {am mu : Int} {c : Bool} {xs : List Str} {T : Int} {σ : Sta} {b : Nat} {av : List Addr} {l : List Env} {frs : List (Addr × Obj)} {k : Int}
theorem k_test {kw : List (Str × Value)} {cost : Int} {tc : Tok} (hk : Kd k) (R : Rm A 26) (G : Gd w hB) (kS : Sub hB s.heap) (Y : Ctx w hB a (clsOf k) lim it nm ns am mu c xs T) (P : Pre w hB A s.heap av a σ b l frs) (hc : 0 ≤ cost ∧ cost ≤ 50) (hkw : KwC kw cost tc (tokT k)) (hTe : gsec c * mu ≤ T)
  (h : ∀ h' tk', Post w s.heap h' av a (tstS k σ T (gsec c * mu) (keyS ns xs am mu (gname c))) (b + 60) frs → Q (.bool (tstR k σ T (gsec c * mu) (keyS ns xs am mu (gname c)) am cost)) {s with heap := h', toks := tk'}) :
  wpAny (model PySem.Challenge.rw_jn0050_01.row.prog w) A (call (.ref (tstF k)) [.ref lim, .ref it, .ref nm] kw) Q E s := by
  rcases hk with rfl | rfl | rfl
  · exact c_ftest (Rm.mono R (by decide)) G kS Y P hc hkw h
  · exact c_mtest R G kS Y P hc hkw h
  · exact c_stest (Rm.mono R (by decide)) G kS Y P hc hkw hTe h
theorem k_hit {cost : Int} {tc : Tok} (hk : Kd k) (R : Rm A 26) (G : Gd w hB) (kS : Sub hB s.heap) (Y : Ctx w hB a (clsOf k) lim it nm ns am mu c xs T) (P : Pre w hB A s.heap av a σ b l frs) (hc : 0 ≤ cost ∧ cost ≤ 50) (hTe : gsec c * mu ≤ T)
  (h : ∀ h' tk', Post w s.heap h' av a (hitS k σ T (gsec c * mu) (keyS ns xs am mu (gname c)) am cost) (b + 60) frs → Q (.bool (hitR k σ T (gsec c * mu) (keyS ns xs am mu (gname c)) am cost)) {s with heap := h', toks := tk'}) :
  wpAny (model PySem.Challenge.rw_jn0050_01.row.prog w) A (call (.ref (hitF k)) [.ref lim, .ref it, .ref nm] [(Str.ofString "cost", .int cost tc)]) Q E s := by
  rcases hk with rfl | rfl | rfl
  · exact c_fhit (Rm.mono R (by decide)) G kS Y P hc h
  · exact c_mhit (Rm.mono R (by decide)) G kS Y P hc h
  · exact c_shit (Rm.mono R (by decide)) G kS Y P hc hTe h
theorem k_clear (hk : Kd k) (R : Rm A 26) (G : Gd w hB) (kS : Sub hB s.heap) (Y : Ctx w hB a (clsOf k) lim it nm ns am mu c xs T) (P : Pre w hB A s.heap av a σ b l frs) (hTe : gsec c * mu ≤ T)
  (h : ∀ h' tk', Post w s.heap h' av a (clrS k σ T (gsec c * mu) (keyS ns xs am mu (gname c))) (b + 60) frs → Q .none {s with heap := h', toks := tk'}) :
  wpAny (model PySem.Challenge.rw_jn0050_01.row.prog w) A (call (.ref (clrF k)) [.ref lim, .ref it, .ref nm] []) Q E s := by
  rcases hk with rfl | rfl | rfl
  · exact c_fclear (Rm.mono R (by decide)) G kS Y P h
  · exact c_mclear (Rm.mono R (by decide)) G kS Y P h
  · exact c_sclear (Rm.mono R (by decide)) G kS Y P hTe h
theorem k_stats (hk : Kd k) (R : Rm A 26) (G : Gd w hB) (kS : Sub hB s.heap) (Y : Ctx w hB a (clsOf k) lim it nm ns am mu c xs T) (P : Pre w hB A s.heap av a σ b l frs) (hTe : gsec c * mu ≤ T)
  (h : ∀ h' tk' r d v1 t2, s.heap.get? r = none → s.heap.get? d = none → h'.get? r = some (wsObj d v1 (.int (staR k σ T (gsec c * mu) (keyS ns xs am mu (gname c)) am) t2)) → h'.get? d = some emptyDict → StV s.heap h' k v1 (staN k σ T (gsec c * mu) (keyS ns xs am mu (gname c))) (staD k σ T (gsec c * mu) (keyS ns xs am mu (gname c))) → Post w s.heap h' av a (tstS k σ T (gsec c * mu) (keyS ns xs am mu (gname c))) (b + 60) frs → Q (.ref r) {s with heap := h', toks := tk'}) :
  wpAny (model PySem.Challenge.rw_jn0050_01.row.prog w) A (call (.ref (staF k)) [.ref lim, .ref it, .ref nm] []) Q E s := by
  rcases hk with rfl | rfl | rfl
  · exact c_fstats (Rm.mono R (by decide)) G kS Y P fun h' tk' r d t1 t2 e1 e2 e3 e4 p => h h' tk' r d _ t2 e1 e2 e3 e4 ⟨rfl, t1, rfl⟩ p
  · exact c_mstats R G kS Y P fun h' tk' r d t1 t2 e1 e2 e3 e4 p => h h' tk' r d _ t2 e1 e2 e3 e4 ⟨rfl, t1, rfl⟩ p
  · exact c_sstats (Rm.mono R (by decide)) G kS Y P hTe fun h' tk' r d tt t1 t2 t3 e1 e2 e0 e3 e4 e5 p => h h' tk' r d _ t2 e1 e2 e3 e4 ⟨tt, t1, t3, rfl, e0, e5⟩ p
end
/-! ## a frame more -/
section
variable {w : World} {hB hs h9 h' : Heap} {A A' : Around} {env : Env} {L : Addr} {oL : Obj} {a : SA} {σ : Sta} {b : Nat} {av : List Addr} {l : List Env} {frs : List (Addr × Obj)}
theorem TabOk.cons {P : Addr} {q : Str} {pos : Pos} {ps : Array Value} (H : TabOk av hs P q pos ps) (eL : hs.get? L = none) : TabOk (L :: av) hs P q pos ps :=
  ⟨H.1, H.2.1, H.2.2.imp id fun ⟨c, e1, e2, e3⟩ => ⟨c, e1, e2, fun m => by
    rcases List.mem_cons.mp m with r | r
    · obtain ⟨c', oc, vs, t, e, f, _⟩ := e2
      cases e
      rw [r, eL] at f; cases f
    · exact e3 r⟩⟩
theorem TabOk.weak {P : Addr} {q : Str} {pos : Pos} {ps : Array Value} (H : TabOk (L :: av) hs P q pos ps) : TabOk av hs P q pos ps :=
  ⟨H.1, H.2.1, H.2.2.imp id fun ⟨c, e1, e2, e3⟩ => ⟨c, e1, e2, fun m => e3 (.tail _ m)⟩⟩
theorem WSt.cons (S : WSt w av hs a σ b) (eL : hs.get? L = none) : WSt w (L :: av) hs a σ b :=
  ⟨S.S, S.X, let ⟨kvs, x, H⟩ := S.E; ⟨kvs, x, H.cons eL⟩⟩
theorem WSt.weak (S : WSt w (L :: av) hs a σ b) : WSt w av hs a σ b := ⟨S.S, S.X, AtE.weak (fun _ q => .tail _ q) S.E⟩
theorem WSt.sub (S : WSt w av hs a σ b) (K : Sub hs h9) : WSt w av h9 a σ b := ⟨S.S.on fun o e => K _ _ e, S.X.on fun o e => K _ _ e, S.E.on' (fun o e => K _ _ e) (Stay.sub K)⟩
theorem Tabs.sub (T : Tabs av hs) (K : Sub hs h9) : Tabs av h9 := ⟨let ⟨p, x⟩ := T.g; ⟨p, x.on (fun o e => K _ _ e) (Stay.sub K)⟩, let ⟨p, x⟩ := T.x; ⟨p, x.on (fun o e => K _ _ e) (Stay.sub K)⟩⟩
theorem Tabs.cons (T : Tabs av hs) (eL : hs.get? L = none) : Tabs (L :: av) hs := ⟨let ⟨p, x⟩ := T.g; ⟨p, x.cons eL⟩, let ⟨p, x⟩ := T.x; ⟨p, x.cons eL⟩⟩
theorem Tabs.weak (T : Tabs (L :: av) hs) : Tabs av hs := ⟨let ⟨p, x⟩ := T.g; ⟨p, x.weak⟩, let ⟨p, x⟩ := T.x; ⟨p, x.weak⟩⟩
theorem AtI.there {d : Addr} {f : Str → Option Int} (H : AtI w hs d f b) : ∃ o, hs.get? d = some o := let ⟨o, e, _⟩ := H; ⟨o, e⟩
theorem AtE.there {d : Addr} {f : Str → Option (List (Int × Int))} (H : AtE w av hs d f b) : ∃ o, hs.get? d = some o := by
  obtain ⟨o, kvs, e, _⟩ := H.out
  exact ⟨o, e⟩
theorem Pre.push (P : Pre w hB A hs av a σ b l frs) (kS : Sub hB hs) (K : Sub hs h9) (eL : hs.get? L = none) (hL : h9.get? L = some oL) (hfr : A'.frames = some (env :: l)) (hk : env.scope.kind ≠ .module) (hf : env.frame = some L) (hd : ∃ es ep, oL.data = .dict es ep) :
    Pre w hB A' h9 (L :: av) a σ b (env :: l) ((L, oL) :: frs) where
  st := (P.st.cons eL).sub K
  tb := (P.tb.cons eL).sub K
  hb := P.hb
  fr := hfr
  Fs := ⟨hk, hf, hd, P.Fs⟩
  fs := List.forall_mem_cons.mpr ⟨⟨hL, by
    cases q : hB.get? L with
    | none => rfl
    | some o => have := kS _ _ q; rw [eL] at this; cases this⟩, fun p hp => ⟨K _ _ (P.fs p hp).1, (P.fs p hp).2⟩⟩
  fne := by
    have nn : ∀ {x : Addr}, (∃ o, hs.get? x = some o) → L ≠ x := fun ⟨o, e⟩ q => by rw [← q, eL] at e; cases e
    exact List.forall_mem_cons.mpr ⟨⟨nn P.st.S.there, nn P.st.X.there, nn P.st.E.there, nn (let ⟨_, x⟩ := P.tb.g; ⟨_, x.1⟩), nn (let ⟨_, x⟩ := P.tb.x; ⟨_, x.1⟩)⟩, P.fne⟩
  mav := fun x hx => by
    simp only [List.map_cons, List.mem_cons] at hx
    rcases hx with r | r | r | r | r | r | r
    · exact .tail _ (P.mav _ (by rw [r]; simp))
    · exact .tail _ (P.mav _ (by rw [r]; simp))
    · exact .tail _ (P.mav _ (by rw [r]; simp))
    · exact .tail _ (P.mav _ (by rw [r]; simp))
    · exact .tail _ (P.mav _ (by rw [r]; simp))
    · rw [r]; exact .head _
    · exact .tail _ (P.mav _ (by simp only [List.mem_cons]; exact .inr (.inr (.inr (.inr (.inr r))))))
  hav := List.forall_mem_cons.mpr ⟨⟨_, hL⟩, fun y hy => let ⟨o, e⟩ := P.hav y hy; ⟨o, K _ _ e⟩⟩
  tB := P.tB
  tne := P.tne
theorem Post.pop (K : Sub hs h9) (eL : hs.get? L = none) (Q : Post w h9 h' (L :: av) a σ b ((L, oL) :: frs)) : Post w hs h' av a σ b frs where
  chg := fun x o e n => Q.chg x o (K _ _ e) fun m => by
    simp only [List.map_cons, List.mem_cons] at m n
    rcases m with r | r | r | r | r | r | r
    · exact n (.inl r)
    · exact n (.inr (.inl r))
    · exact n (.inr (.inr (.inl r)))
    · exact n (.inr (.inr (.inr (.inl r))))
    · exact n (.inr (.inr (.inr (.inr (.inl r)))))
    · rw [r, eL] at e; cases e
    · exact n (.inr (.inr (.inr (.inr (.inr r)))))
  up := by
    obtain ⟨frs', SU, hp⟩ := Q.up
    cases frs' with
    | nil => exact False.elim SU
    | cons q qs => exact ⟨qs, SU.2.2, fun p hp' => hp p (.tail _ hp')⟩
  st := Q.st.weak
  tb := Q.tb.weak
end
section
variable {w : World} {hB hs h9 h' h'' : Heap} {A A' : Around} {env : Env} {L : Addr} {oL : Obj} {a : SA} {σ σ' : Sta} {b b' : Nat} {av : List Addr} {l : List Env} {frs : List (Addr × Obj)}
theorem sameUp_fwd : ∀ {a b : List (Addr × Obj)}, SameUp a b → ∀ p ∈ a, ∃ q ∈ b, q.1 = p.1
  | [], _, _, _, hp => nomatch hp
  | _ :: _, [], h, _, _ => False.elim h
  | _ :: as, q :: bs, h, p, hp => by
    rcases List.mem_cons.mp hp with rfl | hp
    · exact ⟨q, .head _, h.1⟩
    · obtain ⟨y, hy, e⟩ := sameUp_fwd h.2.2 p hp
      exact ⟨y, .tail _ hy, e⟩
theorem sameUp_bwd : ∀ {a b : List (Addr × Obj)}, SameUp a b → ∀ q ∈ b, ∃ p ∈ a, q.1 = p.1
  | [], [], _, _, hp => nomatch hp
  | [], _ :: _, h, _, _ => False.elim h
  | _ :: _, [], h, _, _ => False.elim h
  | p :: as, _ :: bs, h, q, hq => by
    rcases List.mem_cons.mp hq with rfl | hq
    · exact ⟨p, .head _, h.1⟩
    · obtain ⟨y, hy, e⟩ := sameUp_bwd h.2.2 q hq
      exact ⟨y, .tail _ hy, e⟩
theorem Post.there (Q : Post w hs h' av a σ b frs) {x : Addr} {o : Obj} (e : hs.get? x = some o) : ∃ o', h'.get? x = some o' := by
  by_cases m : x ∈ mods a frs
  · simp only [List.mem_cons] at m
    rcases m with r | r | r | r | r | r
    · exact r ▸ Q.st.S.there
    · exact r ▸ Q.st.X.there
    · exact r ▸ Q.st.E.there
    · obtain ⟨p, t⟩ := Q.tb.g; exact r ▸ ⟨_, t.1⟩
    · obtain ⟨p, t⟩ := Q.tb.x; exact r ▸ ⟨_, t.1⟩
    · obtain ⟨frs', SU, hp⟩ := Q.up
      obtain ⟨p, hp', e'⟩ := List.mem_map.mp r
      obtain ⟨q, hq, e2⟩ := sameUp_fwd SU p hp'
      exact ⟨_, e' ▸ e2 ▸ hp q hq⟩
  · exact ⟨o, Q.chg x o e m⟩
theorem Post.popC (P : Pre w hB A hs av a σ b l frs) (K : Sub hs h9) (eL : hs.get? L = none) (Q : Post w h9 h' (L :: av) a σ' b' ((L, oL) :: frs)) (C : Chg [L] h' h'') : Post w hs h'' av a σ' b' frs := by
  have nL : ∀ {x o}, hs.get? x = some o → x ∉ [L] := fun e q => by rw [List.mem_singleton.mp q, eL] at e; cases e
  have Q' := Q.pop K eL
  have St : Stay (L :: av) h' h'' := fun x o e n => C x o e fun q => n (by rw [List.mem_singleton.mp q]; exact .head _)
  obtain ⟨oS, eS⟩ := P.st.S.there
  obtain ⟨oX, eX⟩ := P.st.X.there
  obtain ⟨oE, eE⟩ := P.st.E.there
  obtain ⟨p1, t1⟩ := P.tb.g
  obtain ⟨p2, t2⟩ := P.tb.x
  obtain ⟨q1, u1⟩ := Q.tb.g
  obtain ⟨q2, u2⟩ := Q.tb.x
  refine ⟨fun x o e n => C _ _ (Q'.chg x o e n) (nL e), ?_, ⟨Q.st.S.on fun o e => C _ _ e (nL eS), Q.st.X.on fun o e => C _ _ e (nL eX), AtE.weak (fun _ q => .tail _ q) (Q.st.E.on' (fun o e => C _ _ e (nL eE)) St)⟩, ⟨⟨q1, (u1.on (fun o e => C _ _ e (nL t1.1)) St).weak⟩, ⟨q2, (u2.on (fun o e => C _ _ e (nL t2.1)) St).weak⟩⟩⟩
  obtain ⟨frs', SU, hp⟩ := Q'.up
  refine ⟨frs', SU, fun q hq => C _ _ (hp q hq) ?_⟩
  obtain ⟨p, hp', e⟩ := sameUp_bwd SU q hq
  rw [e]
  exact nL (P.fs p hp').1
end
/-! ## three limiters -/
noncomputable def limOf (l0 l1 l2 : Addr) (k : Int) : Addr := if k = 0 then l0 else if k = 1 then l1 else l2
noncomputable def LimAt (w : World) (h : Heap) (st : Addr) (C lim : Addr) : Prop := ∃ dl t n, W.InstAt h lim (instObj C dl) C (some (limD w st t n))
structure LCtx (w : World) (hB : Heap) (a : SA) (Ls l0 l1 l2 it nm : Addr) (ns : Str) (am mu : Int) (c : Bool) (xs : List Str) (T : Int) : Prop where
  sto : Sto w hB hB a T
  fpin : ∀ b ∈ a.fp, ∃ o, hB.get? b = some o
  lims : ∃ ep, hB.get? Ls = some (W.listOf (List.toArray [.ref l0, .ref l1, .ref l2]) ep)
  m0 : LimAt w hB a.st 241 l0
  m1 : LimAt w hB a.st 202 l1
  m2 : LimAt w hB a.st 296 l2
  item : ItemAt w hB it ns am mu c
  names : NamesAt hB nm xs
  hT : 0 ≤ T ∧ T ≤ 100000
section
variable {w : World} {A : Around} {E : Value → Shared → Prop} {s : Shared} {hB : Heap} {a : SA} {Ls l0 l1 l2 it nm : Addr} {ns : Str} {am mu : Int} {c : Bool} {xs : List Str} {T : Int} {k : Int} {g : Heap} {L : Addr} {m : Str → Option Value}
theorem LCtx.lim (Z : LCtx w hB a Ls l0 l1 l2 it nm ns am mu c xs T) (hk : Kd k) : LimAt w hB a.st (clsOf k) (limOf l0 l1 l2 k) := by
  rcases hk with rfl | rfl | rfl
  · exact Z.m0
  · exact Z.m1
  · exact Z.m2
theorem LCtx.ctx (Z : LCtx w hB a Ls l0 l1 l2 it nm ns am mu c xs T) (hk : Kd k) : Ctx w hB a (clsOf k) (limOf l0 l1 l2 k) it nm ns am mu c xs T :=
  ⟨Z.sto, Z.fpin, Z.lim hk, Z.item, Z.names, Z.hT⟩
theorem LimAt.sub {st C lim : Addr} {h h' : Heap} (H : LimAt w h st C lim) (K : Sub h h') : LimAt w h' st C lim := let ⟨d, t, n, I⟩ := H; ⟨d, t, n, inst_sub I K⟩
theorem lim_at (hk : Kd k) : ([.ref l0, .ref l1, .ref l2] : List Value)[k.toNat]? = some (.ref (limOf l0 l1 l2 k)) := by
  rcases hk with rfl | rfl | rfl <;> rfl
theorem km_test {lim st : Addr} {pl : Sem Bool} {Q : Value × List Value → Shared → Prop} (hk : Kd k) (I : LimAt w g st (clsOf k) lim) (F : Fr g L s.heap m) (X : (Mine.hd.heap_39 w.params).In g) (h : Q (.ref (tstF k), [.ref lim]) s) : wpAny (model PySem.Challenge.rw_jn0050_01.row.prog w) A (getMethod (.ref lim) (Str.ofString "test") pl) Q E s := by
  obtain ⟨d, t, n, I⟩ := I
  rcases hk with rfl | rfl | rfl
  · exact method_inst (f := 229) (C := 241) F X (inst_fr I F) (by k_is) (by k_is) (by k_is) (by k_get) h
  · exact method_inst (f := 190) (C := 202) F X (inst_fr I F) (by k_is) (by k_is) (by k_is) (by k_get) h
  · exact method_inst (f := 275) (C := 296) F X (inst_fr I F) (by k_is) (by k_is) (by k_is) (by k_get) h
theorem km_hit {lim st : Addr} {pl : Sem Bool} {Q : Value × List Value → Shared → Prop} (hk : Kd k) (I : LimAt w g st (clsOf k) lim) (F : Fr g L s.heap m) (X : (Mine.hd.heap_39 w.params).In g) (h : Q (.ref (hitF k), [.ref lim]) s) : wpAny (model PySem.Challenge.rw_jn0050_01.row.prog w) A (getMethod (.ref lim) (Str.ofString "hit") pl) Q E s := by
  obtain ⟨d, t, n, I⟩ := I
  rcases hk with rfl | rfl | rfl
  · exact method_inst (f := 220) (C := 241) F X (inst_fr I F) (by k_is) (by k_is) (by k_is) (by k_get) h
  · exact method_inst (f := 181) (C := 202) F X (inst_fr I F) (by k_is) (by k_is) (by k_is) (by k_get) h
  · exact method_inst (f := 266) (C := 296) F X (inst_fr I F) (by k_is) (by k_is) (by k_is) (by k_get) h
theorem km_sta {lim st : Addr} {pl : Sem Bool} {Q : Value × List Value → Shared → Prop} (hk : Kd k) (I : LimAt w g st (clsOf k) lim) (F : Fr g L s.heap m) (X : (Mine.hd.heap_39 w.params).In g) (h : Q (.ref (staF k), [.ref lim]) s) : wpAny (model PySem.Challenge.rw_jn0050_01.row.prog w) A (getMethod (.ref lim) (Str.ofString "get_window_stats") pl) Q E s := by
  obtain ⟨d, t, n, I⟩ := I
  rcases hk with rfl | rfl | rfl
  · exact method_inst (f := 238) (C := 241) F X (inst_fr I F) (by k_is) (by k_is) (by k_is) (by k_get) h
  · exact method_inst (f := 199) (C := 202) F X (inst_fr I F) (by k_is) (by k_is) (by k_is) (by k_get) h
  · exact method_inst (f := 284) (C := 296) F X (inst_fr I F) (by k_is) (by k_is) (by k_is) (by k_get) h
theorem km_clr {lim st : Addr} {pl : Sem Bool} {Q : Value × List Value → Shared → Prop} (hk : Kd k) (I : LimAt w g st (clsOf k) lim) (F : Fr g L s.heap m) (X : (Mine.hd.heap_39 w.params).In g) (h : Q (.ref (clrF k), [.ref lim]) s) : wpAny (model PySem.Challenge.rw_jn0050_01.row.prog w) A (getMethod (.ref lim) (Str.ofString "clear") pl) Q E s := by
  obtain ⟨d, t, n, I⟩ := I
  rcases hk with rfl | rfl | rfl
  · exact method_inst (f := 158) (C := 241) F X (inst_fr I F) (by k_is) (by k_is) (by k_is) (by k_get) h
  · exact method_inst (f := 158) (C := 202) F X (inst_fr I F) (by k_is) (by k_is) (by k_is) (by k_get) h
  · exact method_inst (f := 293) (C := 296) F X (inst_fr I F) (by k_is) (by k_is) (by k_is) (by k_get) h
theorem keep_tst (hk : Kd k) : keepIn (Mine.hd.heap_39 w.params) (.ref (tstF k)) = true := by
  rcases hk with rfl | rfl | rfl
  · show keepIn _ (.ref 229) = true; k_is
  · show keepIn _ (.ref 190) = true; k_is
  · show keepIn _ (.ref 275) = true; k_is
theorem keep_hit (hk : Kd k) : keepIn (Mine.hd.heap_39 w.params) (.ref (hitF k)) = true := by
  rcases hk with rfl | rfl | rfl
  · show keepIn _ (.ref 220) = true; k_is
  · show keepIn _ (.ref 181) = true; k_is
  · show keepIn _ (.ref 266) = true; k_is
theorem keep_sta (hk : Kd k) : keepIn (Mine.hd.heap_39 w.params) (.ref (staF k)) = true := by
  rcases hk with rfl | rfl | rfl
  · show keepIn _ (.ref 238) = true; k_is
  · show keepIn _ (.ref 199) = true; k_is
  · show keepIn _ (.ref 284) = true; k_is
theorem keep_clr (hk : Kd k) : keepIn (Mine.hd.heap_39 w.params) (.ref (clrF k)) = true := by
  rcases hk with rfl | rfl | rfl
  · show keepIn _ (.ref 158) = true; k_is
  · show keepIn _ (.ref 158) = true; k_is
  · show keepIn _ (.ref 293) = true; k_is
end

end

theorem reg_S0 : True := by
  (k_with "getMethod ref" => (((with_reducible show wpAny _ _ (getMethod (Value.ref _) (Str.ofString "test") _) _ _ _); k_dflt (refine' km_test ?hkz0S0 ?Iz0S0 ?Fz0S0 ?Xz0S0 ?_; (case hkz0S0 => assumption); (case Iz0S0 => assumption); (case Fz0S0 => k_asm); (case Xz0S0 => k_asm)))))
  (k_with "getMethod ref" => (((with_reducible show wpAny _ _ (getMethod (Value.ref _) (Str.ofString "hit") _) _ _ _); k_dflt (refine' km_hit ?hkz1S0 ?Iz1S0 ?Fz1S0 ?Xz1S0 ?_; (case hkz1S0 => assumption); (case Iz1S0 => assumption); (case Fz1S0 => k_asm); (case Xz1S0 => k_asm)))))
  (k_with "getMethod ref" => (((with_reducible show wpAny _ _ (getMethod (Value.ref _) (Str.ofString "clear") _) _ _ _); k_dflt (refine' km_clr ?hkz2S0 ?Iz2S0 ?Fz2S0 ?Xz2S0 ?_; (case hkz2S0 => assumption); (case Iz2S0 => assumption); (case Fz2S0 => k_asm); (case Xz2S0 => k_asm)))))
  (k_with "getMethod ref" => (((with_reducible show wpAny _ _ (getMethod (Value.ref _) (Str.ofString "get_window_stats") _) _ _ _); k_dflt (refine' km_sta ?hkz3S0 ?Iz3S0 ?Fz3S0 ?Xz3S0 ?_; (case hkz3S0 => assumption); (case Iz3S0 => assumption); (case Fz3S0 => k_asm); (case Xz3S0 => k_asm)))))
  (k_with "callWith ref" => (((with_reducible show wpAny _ _ (callWith _ (Value.ref (tstF _)) _ _ _) _ _ _); k_dflt (first | (refine' callWith_K ?k1z4S0 (keep_tst ?k2z4S0) ?_; (case k1z4S0 => k_asm); (case k2z4S0 => assumption)) | (refine' callWith_KW ?k1z4S0 (keep_tst ?k2z4S0) ?k3z4S0 ?_; (case k1z4S0 => k_asm); (case k2z4S0 => assumption); (case k3z4S0 => exact rfl))))))
  (k_with "callWith ref" => (((with_reducible show wpAny _ _ (callWith _ (Value.ref (hitF _)) _ _ _) _ _ _); k_dflt (refine' callWith_KW ?k1z5S0 (keep_hit ?k2z5S0) ?k3z5S0 ?_; (case k1z5S0 => k_asm); (case k2z5S0 => assumption); (case k3z5S0 => exact rfl)))))
  (k_with "callWith ref" => (((with_reducible show wpAny _ _ (callWith _ (Value.ref (clrF _)) _ _ _) _ _ _); k_dflt (refine' callWith_K ?k1z6S0 (keep_clr ?k2z6S0) ?_; (case k1z6S0 => k_asm); (case k2z6S0 => assumption)))))
  (k_with "callWith ref" => (((with_reducible show wpAny _ _ (callWith _ (Value.ref (staF _)) _ _ _) _ _ _); k_dflt (refine' callWith_K ?k1z7S0 (keep_sta ?k2z7S0) ?_; (case k1z7S0 => k_asm); (case k2z7S0 => assumption)))))
  (k_with "subscriptTail" => (((with_reducible show wpAny _ _ (subscriptTail _ _ (Value.ref _) (Value.int _ _)) _ _ _); k_dflt (refine list_item (by is_list) (by omega) (by omega) (by assumption) ?_))))
  trivial
section
section
variable {w : World} {A : Around} {E : Value → Shared → Prop} {s : Shared} {Q : Value → Shared → Prop} {hB : Heap}
theorem c_linit0 {x dx : Addr} {st : Addr} (R : Rm A 6) (G : Gd w hB) (kS : Sub hB s.heap) (hx : s.heap.get? x = some (instObj 241 dx)) (hd : s.heap.get? dx = some (dictOf [] 0)) (fx : hB.get? x = none) (fd : hB.get? dx = none) (ne : @Ne Nat x dx)
  (h : ∀ h' tk', Chg [x, dx] s.heap h' → h'.get? x = some (instObj 241 dx) → (∃ n t, h'.get? dx = some (limD w st t n)) → Q .none {s with heap := h', toks := tk'}) :
  codeAny (model PySem.Challenge.rw_jn0050_01.row.prog w) A (.call (.ref 149) ⟨[.ref x, .ref st], []⟩) (fun r s' => match r with | .ok (.ret v) => Q v s' | .ok _ => False | .error e => E e s') s := by
  obtain ⟨ha, da, fa, ga, ua⟩ := A
  have hha := R.hd
  dsimp only at hha
  subst hha
  refine' enterC (binds := [(Str.ofString "self", .ref x), (Str.ofString "storage", .ref st)]) (mods := [(x, instObj 241 dx), (dx, dictOf [] 0)]) R G kS ?M ?ho ?hcd ?hb ?hl ?_ ?c2 ?c3 ?c4 ?c5
  case M => exact List.forall_mem_cons.mpr ⟨⟨hx, fx⟩, List.forall_mem_cons.mpr ⟨⟨hd, fd⟩, List.forall_mem_nil _⟩⟩
  case ho => k_is
  case hcd => k_is
  case hb => first | exact BindsTo.of_eq rfl | exact binds_K (G.X.keeps kS) rfl (by k_is) rfl rfl rfl | (rcases (by assumption : KwC _ _ _ _) with rfl | ⟨rfl, rfl, rfl⟩ <;> first | exact BindsTo.of_eq rfl | exact binds_K (G.X.keeps kS) rfl (by k_is) rfl rfl rfl)
  case hl => exact locs rfl
  case c2 => exact rfl
  case c3 => exact rfl
  case c4 => exact rfl
  case c5 => decide
  intro g L h₁ Hg Sg F N X ⟨p, loose, mean, mg, mb, T0⟩ l1
  clear kS
  (try dsimp only)
  k_steps
  exact h _ _ (Chg.of Hg (by k_asm)) (News.get (by k_asm) (by k_mem)) ⟨_, _, News.get (by k_asm) (by k_mem)⟩
theorem c_linit1 {x dx : Addr} {st : Addr} (R : Rm A 6) (G : Gd w hB) (kS : Sub hB s.heap) (hx : s.heap.get? x = some (instObj 202 dx)) (hd : s.heap.get? dx = some (dictOf [] 0)) (fx : hB.get? x = none) (fd : hB.get? dx = none) (ne : @Ne Nat x dx)
  (h : ∀ h' tk', Chg [x, dx] s.heap h' → h'.get? x = some (instObj 202 dx) → (∃ n t, h'.get? dx = some (limD w st t n)) → Q .none {s with heap := h', toks := tk'}) :
  codeAny (model PySem.Challenge.rw_jn0050_01.row.prog w) A (.call (.ref 149) ⟨[.ref x, .ref st], []⟩) (fun r s' => match r with | .ok (.ret v) => Q v s' | .ok _ => False | .error e => E e s') s := by
  obtain ⟨ha, da, fa, ga, ua⟩ := A
  have hha := R.hd
  dsimp only at hha
  subst hha
  refine' enterC (binds := [(Str.ofString "self", .ref x), (Str.ofString "storage", .ref st)]) (mods := [(x, instObj 202 dx), (dx, dictOf [] 0)]) R G kS ?M ?ho ?hcd ?hb ?hl ?_ ?c2 ?c3 ?c4 ?c5
  case M => exact List.forall_mem_cons.mpr ⟨⟨hx, fx⟩, List.forall_mem_cons.mpr ⟨⟨hd, fd⟩, List.forall_mem_nil _⟩⟩
  case ho => k_is
  case hcd => k_is
  case hb => first | exact BindsTo.of_eq rfl | exact binds_K (G.X.keeps kS) rfl (by k_is) rfl rfl rfl | (rcases (by assumption : KwC _ _ _ _) with rfl | ⟨rfl, rfl, rfl⟩ <;> first | exact BindsTo.of_eq rfl | exact binds_K (G.X.keeps kS) rfl (by k_is) rfl rfl rfl)
  case hl => exact locs rfl
  case c2 => exact rfl
  case c3 => exact rfl
  case c4 => exact rfl
  case c5 => decide
  intro g L h₁ Hg Sg F N X ⟨p, loose, mean, mg, mb, T0⟩ l1
  clear kS
  (try dsimp only)
  k_steps
  exact h _ _ (Chg.of Hg (by k_asm)) (News.get (by k_asm) (by k_mem)) ⟨_, _, News.get (by k_asm) (by k_mem)⟩
theorem c_linit2 {x dx : Addr} {st : Addr} (R : Rm A 6) (G : Gd w hB) (kS : Sub hB s.heap) (hx : s.heap.get? x = some (instObj 296 dx)) (hd : s.heap.get? dx = some (dictOf [] 0)) (fx : hB.get? x = none) (fd : hB.get? dx = none) (ne : @Ne Nat x dx)
  (h : ∀ h' tk', Chg [x, dx] s.heap h' → h'.get? x = some (instObj 296 dx) → (∃ n t, h'.get? dx = some (limD w st t n)) → Q .none {s with heap := h', toks := tk'}) :
  codeAny (model PySem.Challenge.rw_jn0050_01.row.prog w) A (.call (.ref 149) ⟨[.ref x, .ref st], []⟩) (fun r s' => match r with | .ok (.ret v) => Q v s' | .ok _ => False | .error e => E e s') s := by
  obtain ⟨ha, da, fa, ga, ua⟩ := A
  have hha := R.hd
  dsimp only at hha
  subst hha
  refine' enterC (binds := [(Str.ofString "self", .ref x), (Str.ofString "storage", .ref st)]) (mods := [(x, instObj 296 dx), (dx, dictOf [] 0)]) R G kS ?M ?ho ?hcd ?hb ?hl ?_ ?c2 ?c3 ?c4 ?c5
  case M => exact List.forall_mem_cons.mpr ⟨⟨hx, fx⟩, List.forall_mem_cons.mpr ⟨⟨hd, fd⟩, List.forall_mem_nil _⟩⟩
  case ho => k_is
  case hcd => k_is
  case hb => first | exact BindsTo.of_eq rfl | exact binds_K (G.X.keeps kS) rfl (by k_is) rfl rfl rfl | (rcases (by assumption : KwC _ _ _ _) with rfl | ⟨rfl, rfl, rfl⟩ <;> first | exact BindsTo.of_eq rfl | exact binds_K (G.X.keeps kS) rfl (by k_is) rfl rfl rfl)
  case hl => exact locs rfl
  case c2 => exact rfl
  case c3 => exact rfl
  case c4 => exact rfl
  case c5 => decide
  intro g L h₁ Hg Sg F N X ⟨p, loose, mean, mg, mb, T0⟩ l1
  clear kS
  (try dsimp only)
  k_steps
  exact h _ _ (Chg.of Hg (by k_asm)) (News.get (by k_asm) (by k_mem)) ⟨_, _, News.get (by k_asm) (by k_mem)⟩
theorem c_iinit1 {x dx : Addr} {am mu : Int} {ns : Str} {ta tm tn : Tok} (R : Rm A 6) (G : Gd w hB) (kS : Sub hB s.heap) (hx : s.heap.get? x = some (instObj 501 dx)) (hd : s.heap.get? dx = some (dictOf [] 0)) (fx : hB.get? x = none) (fd : hB.get? dx = none) (ne : @Ne Nat x dx) (hmu : 0 < mu ∧ mu ≤ 50)
  (h : ∀ h' tk', Chg [x, dx] s.heap h' → h'.get? x = some (instObj 501 dx) → (∃ t1 t2 t3 u1 u2 u3 n, h'.get? dx = some (itemD w ns am mu t1 t2 t3 u1 u2 u3 n)) → Q .none {s with heap := h', toks := tk'}) :
  codeAny (model PySem.Challenge.rw_jn0050_01.row.prog w) A (.call (.ref 434) ⟨[.ref x, .int am ta, .int mu tm, .str ns tn], []⟩) (fun r s' => match r with | .ok (.ret v) => Q v s' | .ok _ => False | .error e => E e s') s := by
  obtain ⟨ha, da, fa, ga, ua⟩ := A
  have hha := R.hd
  dsimp only at hha
  subst hha
  refine' enterC (binds := [(Str.ofString "self", .ref x), (Str.ofString "amount", .int am ta), (Str.ofString "multiples", .int mu tm), (Str.ofString "namespace", .str ns tn)]) (mods := [(x, instObj 501 dx), (dx, dictOf [] 0)]) R G kS ?M ?ho ?hcd ?hb ?hl ?_ ?c2 ?c3 ?c4 ?c5
  case M => exact List.forall_mem_cons.mpr ⟨⟨hx, fx⟩, List.forall_mem_cons.mpr ⟨⟨hd, fd⟩, List.forall_mem_nil _⟩⟩
  case ho => k_is
  case hcd => k_is
  case hb => first | exact BindsTo.of_eq rfl | exact binds_K (G.X.keeps kS) rfl (by k_is) rfl rfl rfl | (rcases (by assumption : KwC _ _ _ _) with rfl | ⟨rfl, rfl, rfl⟩ <;> first | exact BindsTo.of_eq rfl | exact binds_K (G.X.keeps kS) rfl (by k_is) rfl rfl rfl)
  case hl => exact locs rfl
  case c2 => exact rfl
  case c3 => exact rfl
  case c4 => exact rfl
  case c5 => decide
  intro g L h₁ Hg Sg F N X ⟨p, loose, mean, mg, mb, T0⟩ l1
  clear kS
  obtain ⟨hm0, hm1⟩ := hmu
  (try dsimp only)
  k_steps
  all_goals first | (exfalso; omega) | exact h _ _ (Chg.of Hg (by k_asm)) (News.get (by k_asm) (by k_mem)) ⟨_, _, _, _, _, _, _, News.get (by k_asm) (by k_mem)⟩
theorem c_iinit0 {x dx : Addr} {am mu : Int} {ta tm : Tok} (R : Rm A 6) (G : Gd w hB) (kS : Sub hB s.heap) (hx : s.heap.get? x = some (instObj 518 dx)) (hd : s.heap.get? dx = some (dictOf [] 0)) (fx : hB.get? x = none) (fd : hB.get? dx = none) (ne : @Ne Nat x dx) (hmu : 0 < mu ∧ mu ≤ 50)
  (h : ∀ h' tk', Chg [x, dx] s.heap h' → h'.get? x = some (instObj 518 dx) → (∃ t1 t2 t3 u1 u2 u3 n, h'.get? dx = some (itemD w "LIMITER" am mu t1 t2 t3 u1 u2 u3 n)) → Q .none {s with heap := h', toks := tk'}) :
  codeAny (model PySem.Challenge.rw_jn0050_01.row.prog w) A (.call (.ref 434) ⟨[.ref x, .int am ta, .int mu tm], []⟩) (fun r s' => match r with | .ok (.ret v) => Q v s' | .ok _ => False | .error e => E e s') s := by
  obtain ⟨ha, da, fa, ga, ua⟩ := A
  have hha := R.hd
  dsimp only at hha
  subst hha
  refine' enterC (binds := [(Str.ofString "self", .ref x), (Str.ofString "amount", .int am ta), (Str.ofString "multiples", .int mu tm), (Str.ofString "namespace", .str "LIMITER" 803)]) (mods := [(x, instObj 518 dx), (dx, dictOf [] 0)]) R G kS ?M ?ho ?hcd ?hb ?hl ?_ ?c2 ?c3 ?c4 ?c5
  case M => exact List.forall_mem_cons.mpr ⟨⟨hx, fx⟩, List.forall_mem_cons.mpr ⟨⟨hd, fd⟩, List.forall_mem_nil _⟩⟩
  case ho => k_is
  case hcd => k_is
  case hb => first | exact BindsTo.of_eq rfl | exact binds_K (G.X.keeps kS) rfl (by k_is) rfl rfl rfl | (rcases (by assumption : KwC _ _ _ _) with rfl | ⟨rfl, rfl, rfl⟩ <;> first | exact BindsTo.of_eq rfl | exact binds_K (G.X.keeps kS) rfl (by k_is) rfl rfl rfl)
  case hl => exact locs rfl
  case c2 => exact rfl
  case c3 => exact rfl
  case c4 => exact rfl
  case c5 => decide
  intro g L h₁ Hg Sg F N X ⟨p, loose, mean, mg, mb, T0⟩ l1
  clear kS
  obtain ⟨hm0, hm1⟩ := hmu
  (try dsimp only)
  k_steps
  all_goals first | (exfalso; omega) | exact h _ _ (Chg.of Hg (by k_asm)) (News.get (by k_asm) (by k_mem)) ⟨_, _, _, _, _, _, _, News.get (by k_asm) (by k_mem)⟩
theorem u_lim0 {st : Addr} {g : Heap} {L : Addr} {m : Str → Option Value} {news : List (Addr × Obj)} (R : Rm A 8) (G : Gd w hB) (Sg : Sub hB g) (F : Fr g L s.heap m) (N : News g L s.heap news) (X : (Mine.hd.heap_39 w.params).In g)
  (h : ∀ h' tk' x dx n t, Fr g L h' m → News g L h' ((x, instObj 241 dx) :: (dx, limD w st t n) :: news) → (∀ p ∈ news, p.1 < x) → (∀ p ∈ news, p.1 < dx) → dx < x → Q (.ref x) {s with heap := h', toks := tk'}) :
  wpAny (model PySem.Challenge.rw_jn0050_01.row.prog w) A (call (.ref 241) [.ref st] []) Q E s := by
  refine' call_cls (fI := 149) F X N ?k4 ?k5 ?k6 fun x dx h1 F1 N1 l1 l2 => ?_
  case k4 => k_is
  case k5 => k_is
  case k6 => k_is
  have hx := N1 _ (.head _)
  have hd := N1 _ (.tail _ (.head _))
  have nb : ∀ {b}, g.get? b = none → hB.get? b = none := fun {b} e => by
    cases q : hB.get? b with
    | none => rfl
    | some o => have := Sg b o q; rw [e] at this; cases this
  refine' codeAny_mono (c_linit0 (Q := fun v s' => v = .none ∧ Q (.ref x) s') ?R G (fun b o q => F1.keep b o (Sg b o q)) hx.1 hd.1 (nb hx.2.2) (nb hd.2.2) (Nat.ne_of_gt l2) fun h' tk' C e1 e2 => ⟨rfl, ?_⟩) ?m
  case R => exact ⟨R.hd, by have := R.dep; show A.depth + 1 + 6 < 900; omega, by have := R.un; show A.units + _ + 20 * 6 < 9000; exact cu_room this (cu_type _) (by decide)⟩
  case m => intro r s' q; exact q
  obtain ⟨n, t, e2⟩ := e2
  refine h h' tk' x dx n t (Fr.chg F1 N1 C (by
    intro y hy
    rcases List.mem_cons.mp hy with rfl | hy
    · exact ⟨_, .head _⟩
    · exact List.mem_singleton.mp hy ▸ ⟨_, .tail _ (.head _)⟩)) (fun p hp => ?_) (fun p hp => Nat.lt_trans (l1 p hp) l2) l1 l2
  rcases List.mem_cons.mp hp with rfl | hp
  · exact ⟨e1, hx.2⟩
  rcases List.mem_cons.mp hp with rfl | hp
  · exact ⟨e2, hd.2⟩
  have q1 : p.1 < dx := l1 p hp
  have z := N1 p (.tail _ (.tail _ hp))
  refine ⟨C _ _ z.1 fun q => ?_, z.2⟩
  rcases List.mem_cons.mp q with q | q
  · exact absurd q (Nat.ne_of_lt (Nat.lt_trans q1 l2))
  · exact absurd (List.mem_singleton.mp q) (Nat.ne_of_lt q1)
theorem u_lim1 {st : Addr} {g : Heap} {L : Addr} {m : Str → Option Value} {news : List (Addr × Obj)} (R : Rm A 8) (G : Gd w hB) (Sg : Sub hB g) (F : Fr g L s.heap m) (N : News g L s.heap news) (X : (Mine.hd.heap_39 w.params).In g)
  (h : ∀ h' tk' x dx n t, Fr g L h' m → News g L h' ((x, instObj 202 dx) :: (dx, limD w st t n) :: news) → (∀ p ∈ news, p.1 < x) → (∀ p ∈ news, p.1 < dx) → dx < x → Q (.ref x) {s with heap := h', toks := tk'}) :
  wpAny (model PySem.Challenge.rw_jn0050_01.row.prog w) A (call (.ref 202) [.ref st] []) Q E s := by
  refine' call_cls (fI := 149) F X N ?k4 ?k5 ?k6 fun x dx h1 F1 N1 l1 l2 => ?_
  case k4 => k_is
  case k5 => k_is
  case k6 => k_is
  have hx := N1 _ (.head _)
  have hd := N1 _ (.tail _ (.head _))
  have nb : ∀ {b}, g.get? b = none → hB.get? b = none := fun {b} e => by
    cases q : hB.get? b with
    | none => rfl
    | some o => have := Sg b o q; rw [e] at this; cases this
  refine' codeAny_mono (c_linit1 (Q := fun v s' => v = .none ∧ Q (.ref x) s') ?R G (fun b o q => F1.keep b o (Sg b o q)) hx.1 hd.1 (nb hx.2.2) (nb hd.2.2) (Nat.ne_of_gt l2) fun h' tk' C e1 e2 => ⟨rfl, ?_⟩) ?m
  case R => exact ⟨R.hd, by have := R.dep; show A.depth + 1 + 6 < 900; omega, by have := R.un; show A.units + _ + 20 * 6 < 9000; exact cu_room this (cu_type _) (by decide)⟩
  case m => intro r s' q; exact q
  obtain ⟨n, t, e2⟩ := e2
  refine h h' tk' x dx n t (Fr.chg F1 N1 C (by
    intro y hy
    rcases List.mem_cons.mp hy with rfl | hy
    · exact ⟨_, .head _⟩
    · exact List.mem_singleton.mp hy ▸ ⟨_, .tail _ (.head _)⟩)) (fun p hp => ?_) (fun p hp => Nat.lt_trans (l1 p hp) l2) l1 l2
  rcases List.mem_cons.mp hp with rfl | hp
  · exact ⟨e1, hx.2⟩
  rcases List.mem_cons.mp hp with rfl | hp
  · exact ⟨e2, hd.2⟩
  have q1 : p.1 < dx := l1 p hp
  have z := N1 p (.tail _ (.tail _ hp))
  refine ⟨C _ _ z.1 fun q => ?_, z.2⟩
  rcases List.mem_cons.mp q with q | q
  · exact absurd q (Nat.ne_of_lt (Nat.lt_trans q1 l2))
  · exact absurd (List.mem_singleton.mp q) (Nat.ne_of_lt q1)
theorem u_lim2 {st : Addr} {g : Heap} {L : Addr} {m : Str → Option Value} {news : List (Addr × Obj)} (R : Rm A 8) (G : Gd w hB) (Sg : Sub hB g) (F : Fr g L s.heap m) (N : News g L s.heap news) (X : (Mine.hd.heap_39 w.params).In g)
  (h : ∀ h' tk' x dx n t, Fr g L h' m → News g L h' ((x, instObj 296 dx) :: (dx, limD w st t n) :: news) → (∀ p ∈ news, p.1 < x) → (∀ p ∈ news, p.1 < dx) → dx < x → Q (.ref x) {s with heap := h', toks := tk'}) :
  wpAny (model PySem.Challenge.rw_jn0050_01.row.prog w) A (call (.ref 296) [.ref st] []) Q E s := by
  refine' call_cls (fI := 149) F X N ?k4 ?k5 ?k6 fun x dx h1 F1 N1 l1 l2 => ?_
  case k4 => k_is
  case k5 => k_is
  case k6 => k_is
  have hx := N1 _ (.head _)
  have hd := N1 _ (.tail _ (.head _))
  have nb : ∀ {b}, g.get? b = none → hB.get? b = none := fun {b} e => by
    cases q : hB.get? b with
    | none => rfl
    | some o => have := Sg b o q; rw [e] at this; cases this
  refine' codeAny_mono (c_linit2 (Q := fun v s' => v = .none ∧ Q (.ref x) s') ?R G (fun b o q => F1.keep b o (Sg b o q)) hx.1 hd.1 (nb hx.2.2) (nb hd.2.2) (Nat.ne_of_gt l2) fun h' tk' C e1 e2 => ⟨rfl, ?_⟩) ?m
  case R => exact ⟨R.hd, by have := R.dep; show A.depth + 1 + 6 < 900; omega, by have := R.un; show A.units + _ + 20 * 6 < 9000; exact cu_room this (cu_type _) (by decide)⟩
  case m => intro r s' q; exact q
  obtain ⟨n, t, e2⟩ := e2
  refine h h' tk' x dx n t (Fr.chg F1 N1 C (by
    intro y hy
    rcases List.mem_cons.mp hy with rfl | hy
    · exact ⟨_, .head _⟩
    · exact List.mem_singleton.mp hy ▸ ⟨_, .tail _ (.head _)⟩)) (fun p hp => ?_) (fun p hp => Nat.lt_trans (l1 p hp) l2) l1 l2
  rcases List.mem_cons.mp hp with rfl | hp
  · exact ⟨e1, hx.2⟩
  rcases List.mem_cons.mp hp with rfl | hp
  · exact ⟨e2, hd.2⟩
  have q1 : p.1 < dx := l1 p hp
  have z := N1 p (.tail _ (.tail _ hp))
  refine ⟨C _ _ z.1 fun q => ?_, z.2⟩
  rcases List.mem_cons.mp q with q | q
  · exact absurd q (Nat.ne_of_lt (Nat.lt_trans q1 l2))
  · exact absurd (List.mem_singleton.mp q) (Nat.ne_of_lt q1)
theorem u_item1 {am mu : Int} {ns : Str} {ta tm tn : Tok} {g : Heap} {L : Addr} {m : Str → Option Value} {news : List (Addr × Obj)} (R : Rm A 8) (G : Gd w hB) (Sg : Sub hB g) (F : Fr g L s.heap m) (N : News g L s.heap news) (X : (Mine.hd.heap_39 w.params).In g) (hmu : 0 < mu ∧ mu ≤ 50)
  (h : ∀ h' tk' x dx t1 t2 t3 u1 u2 u3 n, Fr g L h' m → News g L h' ((x, instObj 501 dx) :: (dx, itemD w ns am mu t1 t2 t3 u1 u2 u3 n) :: news) → (∀ p ∈ news, p.1 < x) → (∀ p ∈ news, p.1 < dx) → dx < x → Q (.ref x) {s with heap := h', toks := tk'}) :
  wpAny (model PySem.Challenge.rw_jn0050_01.row.prog w) A (call (.ref 501) [.int am ta, .int mu tm, .str ns tn] []) Q E s := by
  refine' call_cls (fI := 434) F X N ?k4 ?k5 ?k6 fun x dx h1 F1 N1 l1 l2 => ?_
  case k4 => k_is
  case k5 => k_is
  case k6 => k_is
  have hx := N1 _ (.head _)
  have hd := N1 _ (.tail _ (.head _))
  have nb : ∀ {b}, g.get? b = none → hB.get? b = none := fun {b} e => by
    cases q : hB.get? b with
    | none => rfl
    | some o => have := Sg b o q; rw [e] at this; cases this
  refine' codeAny_mono (c_iinit1 (Q := fun v s' => v = .none ∧ Q (.ref x) s') ?R G (fun b o q => F1.keep b o (Sg b o q)) hx.1 hd.1 (nb hx.2.2) (nb hd.2.2) (Nat.ne_of_gt l2) hmu fun h' tk' C e1 e2 => ⟨rfl, ?_⟩) ?m
  case R => exact ⟨R.hd, by have := R.dep; show A.depth + 1 + 6 < 900; omega, by have := R.un; show A.units + _ + 20 * 6 < 9000; exact cu_room this (cu_type _) (by decide)⟩
  case m => intro r s' q; exact q
  obtain ⟨t1, t2, t3, u1, u2, u3, n, e2⟩ := e2
  refine h h' tk' x dx t1 t2 t3 u1 u2 u3 n (Fr.chg F1 N1 C (by
    intro y hy
    rcases List.mem_cons.mp hy with rfl | hy
    · exact ⟨_, .head _⟩
    · exact List.mem_singleton.mp hy ▸ ⟨_, .tail _ (.head _)⟩)) (fun p hp => ?_) (fun p hp => Nat.lt_trans (l1 p hp) l2) l1 l2
  rcases List.mem_cons.mp hp with rfl | hp
  · exact ⟨e1, hx.2⟩
  rcases List.mem_cons.mp hp with rfl | hp
  · exact ⟨e2, hd.2⟩
  have q1 : p.1 < dx := l1 p hp
  have z := N1 p (.tail _ (.tail _ hp))
  refine ⟨C _ _ z.1 fun q => ?_, z.2⟩
  rcases List.mem_cons.mp q with q | q
  · exact absurd q (Nat.ne_of_lt (Nat.lt_trans q1 l2))
  · exact absurd (List.mem_singleton.mp q) (Nat.ne_of_lt q1)
theorem u_item0 {am mu : Int} {ta tm : Tok} {g : Heap} {L : Addr} {m : Str → Option Value} {news : List (Addr × Obj)} (R : Rm A 8) (G : Gd w hB) (Sg : Sub hB g) (F : Fr g L s.heap m) (N : News g L s.heap news) (X : (Mine.hd.heap_39 w.params).In g) (hmu : 0 < mu ∧ mu ≤ 50)
  (h : ∀ h' tk' x dx t1 t2 t3 u1 u2 u3 n, Fr g L h' m → News g L h' ((x, instObj 518 dx) :: (dx, itemD w "LIMITER" am mu t1 t2 t3 u1 u2 u3 n) :: news) → (∀ p ∈ news, p.1 < x) → (∀ p ∈ news, p.1 < dx) → dx < x → Q (.ref x) {s with heap := h', toks := tk'}) :
  wpAny (model PySem.Challenge.rw_jn0050_01.row.prog w) A (call (.ref 518) [.int am ta, .int mu tm] []) Q E s := by
  refine' call_cls (fI := 434) F X N ?k4 ?k5 ?k6 fun x dx h1 F1 N1 l1 l2 => ?_
  case k4 => k_is
  case k5 => k_is
  case k6 => k_is
  have hx := N1 _ (.head _)
  have hd := N1 _ (.tail _ (.head _))
  have nb : ∀ {b}, g.get? b = none → hB.get? b = none := fun {b} e => by
    cases q : hB.get? b with
    | none => rfl
    | some o => have := Sg b o q; rw [e] at this; cases this
  refine' codeAny_mono (c_iinit0 (Q := fun v s' => v = .none ∧ Q (.ref x) s') ?R G (fun b o q => F1.keep b o (Sg b o q)) hx.1 hd.1 (nb hx.2.2) (nb hd.2.2) (Nat.ne_of_gt l2) hmu fun h' tk' C e1 e2 => ⟨rfl, ?_⟩) ?m
  case R => exact ⟨R.hd, by have := R.dep; show A.depth + 1 + 6 < 900; omega, by have := R.un; show A.units + _ + 20 * 6 < 9000; exact cu_room this (cu_type _) (by decide)⟩
  case m => intro r s' q; exact q
  obtain ⟨t1, t2, t3, u1, u2, u3, n, e2⟩ := e2
  refine h h' tk' x dx t1 t2 t3 u1 u2 u3 n (Fr.chg F1 N1 C (by
    intro y hy
    rcases List.mem_cons.mp hy with rfl | hy
    · exact ⟨_, .head _⟩
    · exact List.mem_singleton.mp hy ▸ ⟨_, .tail _ (.head _)⟩)) (fun p hp => ?_) (fun p hp => Nat.lt_trans (l1 p hp) l2) l1 l2
  rcases List.mem_cons.mp hp with rfl | hp
  · exact ⟨e1, hx.2⟩
  rcases List.mem_cons.mp hp with rfl | hp
  · exact ⟨e2, hd.2⟩
  have q1 : p.1 < dx := l1 p hp
  have z := N1 p (.tail _ (.tail _ hp))
  refine ⟨C _ _ z.1 fun q => ?_, z.2⟩
  rcases List.mem_cons.mp q with q | q
  · exact absurd q (Nat.ne_of_lt (Nat.lt_trans q1 l2))
  · exact absurd (List.mem_singleton.mp q) (Nat.ne_of_lt q1)
abbrev storeD (w : World) (lam dS dX dE : Addr) (t1 t2 t3 t4 : Tok) (n : Nat) : Obj := dictOf [⟨PyData.keyHash w.params "clock", .str "clock" t1, .ref lam⟩, ⟨PyData.keyHash w.params "storage", .str "storage" t2, .ref dS⟩,
  ⟨PyData.keyHash w.params "expirations", .str "expirations" t3, .ref dX⟩, ⟨PyData.keyHash w.params "events", .str "events" t4, .ref dE⟩] n
noncomputable def NewD (w : World) (h : Heap) (d : Addr) : Prop := ∃ o, h.get? d = some o ∧ o.IsDictOf (PySem.strKind PySem.Challenge.rw_jn0050_01.row.prog w) [] ∧ (d == sysModules) = false
theorem nwN {hs g h9 : Heap} {L x dx d : Addr} {ox odx o : Obj} {news : List (Addr × Obj)} (Hg : ∀ b o, hs.get? b = some o → b ∉ [(x, ox), (dx, odx)].map (·.1) → g.get? b = some o) (hx : hs.get? x = some ox) (hd : hs.get? dx = some odx) (N : News g L h9 news) (hm : (d, o) ∈ news) (n1 : @Ne Nat d x) (n2 : @Ne Nat d dx) : hs.get? d = none := by
  cases q : hs.get? d with
  | none => rfl
  | some o' =>
    have := Hg d o' q (by simp only [List.map_cons, List.map_nil, List.mem_cons, List.not_mem_nil, or_false]; exact fun z => z.elim n1 n2)
    rw [(N _ hm).2.2] at this; cases this
theorem c_sinit {x dx : Addr} {lam : Addr} (R : Rm A 6) (G : Gd w hB) (kS : Sub hB s.heap) (hx : s.heap.get? x = some (instObj 691 dx)) (hd : s.heap.get? dx = some (dictOf [] 0)) (fx : hB.get? x = none) (fd : hB.get? dx = none) (ne : @Ne Nat x dx)
  (h : ∀ h' tk' dS dX dE n t1 t2 t3 t4, Chg [x, dx] s.heap h' → h'.get? x = some (instObj 691 dx) → h'.get? dx = some (storeD w lam dS dX dE t1 t2 t3 t4 n) → s.heap.get? dS = none → s.heap.get? dX = none → s.heap.get? dE = none → @Ne Nat dS dX → @Ne Nat dS dE → @Ne Nat dX dE → NewD w h' dS → NewD w h' dX → NewD w h' dE → Q .none {s with heap := h', toks := tk'}) :
  codeAny (model PySem.Challenge.rw_jn0050_01.row.prog w) A (.call (.ref 586) ⟨[.ref x, .ref lam], []⟩) (fun r s' => match r with | .ok (.ret v) => Q v s' | .ok _ => False | .error e => E e s') s := by
  obtain ⟨ha, da, fa, ga, ua⟩ := A
  have hha := R.hd
  dsimp only at hha
  subst hha
  refine' enterC (binds := [(Str.ofString "self", .ref x), (Str.ofString "clock", .ref lam)]) (mods := [(x, instObj 691 dx), (dx, dictOf [] 0)]) R G kS ?M ?ho ?hcd ?hb ?hl ?_ ?c2 ?c3 ?c4 ?c5
  case M => exact List.forall_mem_cons.mpr ⟨⟨hx, fx⟩, List.forall_mem_cons.mpr ⟨⟨hd, fd⟩, List.forall_mem_nil _⟩⟩
  case ho => k_is
  case hcd => k_is
  case hb => first | exact BindsTo.of_eq rfl | exact binds_K (G.X.keeps kS) rfl (by k_is) rfl rfl rfl | (rcases (by assumption : KwC _ _ _ _) with rfl | ⟨rfl, rfl, rfl⟩ <;> first | exact BindsTo.of_eq rfl | exact binds_K (G.X.keeps kS) rfl (by k_is) rfl rfl rfl)
  case hl => exact locs rfl
  case c2 => exact rfl
  case c3 => exact rfl
  case c4 => exact rfl
  case c5 => decide
  intro g L h₁ Hg Sg F N X ⟨p, loose, mean, mg, mb, T0⟩ l1
  clear kS
  (try dsimp only)
  k_steps
  exact h _ _ _ _ _ _ _ _ _ _ (Chg.of Hg (by k_asm)) (News.get (by k_asm) (by k_mem)) (News.get (by k_asm) (by k_mem)) (nwN Hg hx hd (by k_asm) (by k_mem) (by k_ne) (by k_ne)) (nwN Hg hx hd (by k_asm) (by k_mem) (by k_ne) (by k_ne)) (nwN Hg hx hd (by k_asm) (by k_mem) (by k_ne) (by k_ne)) (by k_ne) (by k_ne) (by k_ne) ⟨_, News.get (by k_asm) (by k_mem), by assumption, by assumption⟩ ⟨_, News.get (by k_asm) (by k_mem), by assumption, by assumption⟩ ⟨_, News.get (by k_asm) (by k_mem), by assumption, by assumption⟩
end

end
section
noncomputable def stepS (deed k : Int) (σ : Sta) (T e : Int) (key : Str) (am cost : Int) : Sta := if deed = 0 then tstS k σ T e key else if deed = 1 then clrS k σ T e key else if deed = 2 then expS σ T else hitS k σ T e key am cost
noncomputable def stepV (deed k : Int) (σ : Sta) (T e : Int) (key : Str) (am cost : Int) : Value := if deed = 0 then .bool (tstR k σ T e key am cost) else if deed = 1 then .none else if deed = 2 then .none else .bool (hitR k σ T e key am cost)
theorem stepS_0 {deed k : Int} {σ : Sta} {T e : Int} {key : Str} {am cost : Int} (h : deed = 0) : stepS deed k σ T e key am cost = tstS k σ T e key ∧ stepV deed k σ T e key am cost = .bool (tstR k σ T e key am cost) := by unfold stepS stepV; simp [h]
theorem stepS_1 {deed k : Int} {σ : Sta} {T e : Int} {key : Str} {am cost : Int} (h : deed = 1) : stepS deed k σ T e key am cost = clrS k σ T e key ∧ stepV deed k σ T e key am cost = .none := by unfold stepS stepV; simp [h]
theorem stepS_2 {deed k : Int} {σ : Sta} {T e : Int} {key : Str} {am cost : Int} (h : deed = 2) : stepS deed k σ T e key am cost = expS σ T ∧ stepV deed k σ T e key am cost = .none := by unfold stepS stepV; simp [h]
theorem stepS_3 {deed k : Int} {σ : Sta} {T e : Int} {key : Str} {am cost : Int} (h0 : deed ≠ 0) (h1 : deed ≠ 1) (h2 : deed ≠ 2) : stepS deed k σ T e key am cost = hitS k σ T e key am cost ∧ stepV deed k σ T e key am cost = .bool (hitR k σ T e key am cost) := by unfold stepS stepV; simp [h0, h1, h2]
section
variable {w : World} {A : Around} {E : Value → Shared → Prop} {s : Shared} {Q : Value → Shared → Prop} {hB : Heap} {a : SA} {Ls l0 l1 l2 it nm : Addr} {ns : Str} {am mu : Int} {c : Bool} {xs : List Str} {T : Int} {σ : Sta} {b : Nat} {av : List Addr} {l : List Env} {frs : List (Addr × Obj)} {k : Int}
theorem c_lstep {deed cost : Int} {td tk tc : Tok} (hk : Kd k) (R : Rm A 40) (G : Gd w hB) (kS : Sub hB s.heap) (Z : LCtx w hB a Ls l0 l1 l2 it nm ns am mu c xs T) (P : Pre w hB A s.heap av a σ b l frs) (hc : 0 ≤ cost ∧ cost ≤ 50) (hd : 0 ≤ deed ∧ deed ≤ 7) (hTe : gsec c * mu ≤ T)
  (h : ∀ h' tk', Post w s.heap h' av a (stepS deed k σ T (gsec c * mu) (keyS ns xs am mu (gname c)) am cost) (b + 60) frs → Q (stepV deed k σ T (gsec c * mu) (keyS ns xs am mu (gname c)) am cost) {s with heap := h', toks := tk'}) :
  wpAny (model PySem.Challenge.rw_jn0050_01.row.prog w) A (call (.ref 721) [.ref Ls, .ref a.st, .int deed td, .int k tk, .ref it, .ref nm, .int cost tc] []) Q E s := by
  have hfr := P.fr
  obtain ⟨hA, da, fa, ga, ua⟩ := A
  have hha := R.hd
  dsimp only at hha hfr
  subst hha
  subst hfr
  refine' enter (binds := [(Str.ofString "limiters", .ref Ls), (Str.ofString "store", .ref a.st), (Str.ofString "deed", .int deed td), (Str.ofString "kind", .int k tk), (Str.ofString "item", .ref it), (Str.ofString "names", .ref nm), (Str.ofString "cost", .int cost tc)]) (mods := []) R G kS ?M ?ho ?hcd ?hb ?hl ?_ ?c2 ?c3 ?c4 ?c5
  case M => exact List.forall_mem_nil _
  case ho => k_is
  case hcd => k_is
  case hb => first | exact BindsTo.of_eq rfl | exact binds_K (G.X.keeps kS) rfl (by k_is) rfl rfl rfl
  case hl => exact locs rfl
  case c2 => exact rfl
  case c3 => exact rfl
  case c4 => exact rfl
  case c5 => decide
  intro g L h₁ Hg Sg F N X ⟨p, loose, mean, mg, mb, T0⟩ l9
  have Sk : Sub s.heap g := fun b o e => Hg b o e (by simp)
  have gL : g.get? L = none := Heap.get?_none_of_le F.above
  have eL : s.heap.get? L = none := by
    cases q : s.heap.get? L with
    | none => rfl
    | some o => have := Sk _ _ q; rw [gL] at this; cases this
  have Il := LimAt.sub (Z.lim hk) Sg
  have hkl := lim_at (l0 := l0) (l1 := l1) (l2 := l2) hk
  obtain ⟨epl, hls⟩ := Z.lims
  have hll : g.IsList Ls (List.toArray [.ref l0, .ref l1, .ref l2]) := ⟨_, Sg _ _ hls, rfl, epl, rfl⟩
  have hk0 : 0 ≤ k := by rcases hk with rfl | rfl | rfl <;> decide
  have hk9 : k < 1000000 := by rcases hk with rfl | rfl | rfl <;> decide
  have I := inst_sub Z.sto.inst Sg
  have Yk := Z.ctx hk
  generalize hlk : limOf l0 l1 l2 k = lk at *
  (try dsimp only)
  k_steps
  · rename Fr _ _ _ _ => F9
    obtain ⟨oL, es, ep, hL, hLd, -⟩ := id F9.ns
    have K9 : Sub s.heap _ := fun b o e => F9.keep b o (Sk b o e)
    refine k_test (kw := [(Str.ofString "cost", .int cost tc)]) hk (Rm.mono (Rm.deeper _ R) (by decide)) G (fun b o e => F9.keep b o (Sg b o e)) Yk (P.push kS K9 eL hL rfl (show ScopeKind.function ≠ ScopeKind.module by decide) rfl ⟨es, ep, hLd⟩) hc (.inl rfl) hTe fun h' tk' PO => ?_
    have PO := PO.pop K9 eL
    rw [(stepS_0 (by assumption)).1, (stepS_0 (by assumption)).2] at h
    k_steps
    exact h _ _ PO
  · rename Fr _ _ _ _ => F9
    obtain ⟨oL, es, ep, hL, hLd, -⟩ := id F9.ns
    have K9 : Sub s.heap _ := fun b o e => F9.keep b o (Sk b o e)
    refine k_clear hk (Rm.mono (Rm.deeper _ R) (by decide)) G (fun b o e => F9.keep b o (Sg b o e)) Yk (P.push kS K9 eL hL rfl (show ScopeKind.function ≠ ScopeKind.module by decide) rfl ⟨es, ep, hLd⟩) hTe fun h' tk' PO => ?_
    have PO := PO.pop K9 eL
    rw [(stepS_1 (by assumption)).1, (stepS_1 (by assumption)).2] at h
    k_steps
    exact h _ _ PO
  · rename Fr _ _ _ _ => F9
    obtain ⟨oL, es, ep, hL, hLd, -⟩ := id F9.ns
    have K9 : Sub s.heap _ := fun b o e => F9.keep b o (Sk b o e)
    refine c_expire (Rm.mono (Rm.deeper _ R) (by decide)) G (fun b o e => F9.keep b o (Sg b o e)) Z.sto Z.fpin Z.hT (P.push kS K9 eL hL rfl (show ScopeKind.function ≠ ScopeKind.module by decide) rfl ⟨es, ep, hLd⟩) fun h' tk' PO => ?_
    have PO := PO.pop K9 eL
    rw [(stepS_2 (by assumption)).1, (stepS_2 (by assumption)).2] at h
    k_steps
    exact h _ _ PO
  · rename Fr _ _ _ _ => F9
    obtain ⟨oL, es, ep, hL, hLd, -⟩ := id F9.ns
    have K9 : Sub s.heap _ := fun b o e => F9.keep b o (Sk b o e)
    refine k_hit hk (Rm.mono (Rm.deeper _ R) (by decide)) G (fun b o e => F9.keep b o (Sg b o e)) Yk (P.push kS K9 eL hL rfl (show ScopeKind.function ≠ ScopeKind.module by decide) rfl ⟨es, ep, hLd⟩) hc hTe fun h' tk' PO => ?_
    have PO := PO.pop K9 eL
    rw [(stepS_3 (by assumption) (by assumption) (by assumption)).1, (stepS_3 (by assumption) (by assumption) (by assumption)).2] at h
    k_steps
    exact h _ _ PO
end

end
section
section
open TI
/-! what a call of the store leaves: a ledger of all the rest -/
theorem rest_ex {g h : Heap} {L : Addr} {m : Str → Option Value} (fr : List Addr) (F : Fr g L h m) : ∃ ex, News g L h ex ∧ (∀ p ∈ ex, p.1 ∉ fr) ∧ (∀ h' m', Fr g L h' m' → News g L h' ex → Chg (L :: fr) h h') ∧ ∀ x o, h.get? x = some o → x ≠ L → x ∉ fr → g.get? x = none → (x, o) ∈ ex := by
  refine ⟨(List.range h.objs.size).filterMap fun x => if x = L ∨ x ∈ fr then none else match h.get? x with | none => none | some o => match g.get? x with | none => some (x, o) | some _ => none, fun p hp => ?_, fun p hp => ?_, fun h' m' F' N' x o e n => ?_, fun x o e n1 n2 e2 => ?_⟩
  · obtain ⟨x, -, hx⟩ := List.mem_filterMap.mp hp
    by_cases q : x = L ∨ x ∈ fr
    · rw [if_pos q] at hx; cases hx
    · rw [if_neg q] at hx
      cases e1 : h.get? x with
      | none => rw [e1] at hx; cases hx
      | some o =>
        rw [e1] at hx
        cases e2 : g.get? x with
        | some o' => simp only [e2] at hx; cases hx
        | none =>
          simp only [e2] at hx
          cases hx
          exact ⟨e1, fun z => q (.inl z), e2⟩
  · obtain ⟨x, -, hx⟩ := List.mem_filterMap.mp hp
    by_cases q : x = L ∨ x ∈ fr
    · rw [if_pos q] at hx; cases hx
    · rw [if_neg q] at hx
      cases e1 : h.get? x with
      | none => rw [e1] at hx; cases hx
      | some o =>
        rw [e1] at hx
        cases e2 : g.get? x with
        | some o' => simp only [e2] at hx; cases hx
        | none =>
          simp only [e2] at hx
          cases hx
          exact fun z => q (.inr z)
  · cases e2 : g.get? x with
    | some o' =>
      have := F.keep _ _ e2
      rw [e] at this; cases this
      exact F'.keep _ _ e2
    | none =>
      refine (N' (x, o) (List.mem_filterMap.mpr ⟨x, List.mem_range.mpr (Heap.lt_size e), ?_⟩)).1
      have q : ¬ (x = L ∨ x ∈ fr) := fun z => n (z.elim (fun y => by rw [y]; exact .head _) fun y => .tail _ y)
      rw [if_neg q, e]
      simp only [e2]
  · refine List.mem_filterMap.mpr ⟨x, List.mem_range.mpr (Heap.lt_size e), ?_⟩
    rw [if_neg (fun z => z.elim n1 n2), e]
    simp only [e2]
theorem Fr.sameUp {g h h' : Heap} {L : Addr} {oL oL' : Obj} {m : Str → Option Value} {sl : Array (Option Value)} (F : Fr g L h m) (hL : h.get? L = some oL) (e : oL' = { oL with slots := sl }) (hL' : h'.get? L = some oL') (k : ∀ b o, g.get? b = some o → h'.get? b = some o) : Fr g L h' m := by
  obtain ⟨o, es, ep, h1, h2, h3⟩ := F.ns
  rw [hL] at h1; cases h1
  exact ⟨⟨oL', es, ep, hL', by rw [e]; exact h2, h3⟩, k, F.above⟩
end
theorem ws_inst {g h : Heap} {L r d : Addr} {v1 v2 : Value} {news : List (Addr × Obj)} (N : News g L h news) (m1 : (r, wsObj d v1 v2) ∈ news) (m2 : (d, emptyDict) ∈ news) : W.InstAt h r (wsObj d v1 v2) 132 (some emptyDict) := ⟨(N _ m1).1, rfl, rfl, (N _ m2).1⟩
theorem reg_S2x1 : True := by
  (k_with "getAttr ref" => ((k_dflt (first
  | ((with_reducible show wpAny _ _ (getAttr (Value.ref _) (PySem.Str.ofString "reset_time") _) _ _ _); (refine' u_gattrU (k := 0) ?Rz0S2x1 ?Gz0S2x1 ?Sgz0S2x1 ?Fz0S2x1 ?Nz0S2x1 ?hxz0S2x1 ?haz0S2x1 ?hgtz0S2x1 ?htz0S2x1 ?hgaz0S2x1 ?hmz0S2x1 ?hgkz0S2x1 ?hcz0S2x1 ?Itz0S2x1 ?hiz0S2x1 ?hkz0S2x1 ?hyz0S2x1 ?hhz0S2x1 ?_))
  | ((with_reducible show wpAny _ _ (getAttr (Value.ref _) (PySem.Str.ofString "remaining") _) _ _ _); (refine' u_gattrU (k := 1) ?Rz0S2x1 ?Gz0S2x1 ?Sgz0S2x1 ?Fz0S2x1 ?Nz0S2x1 ?hxz0S2x1 ?haz0S2x1 ?hgtz0S2x1 ?htz0S2x1 ?hgaz0S2x1 ?hmz0S2x1 ?hgkz0S2x1 ?hcz0S2x1 ?Itz0S2x1 ?hiz0S2x1 ?hkz0S2x1 ?hyz0S2x1 ?hhz0S2x1 ?_))); (case Rz0S2x1 => exact Rm.mono (Rm.deeper _ (by assumption)) (by decide)); (case Gz0S2x1 => assumption); (case Sgz0S2x1 => assumption); (case Fz0S2x1 => k_asm); (case Nz0S2x1 => k_asm); (case hxz0S2x1 => exact ws_inst (by k_asm) (by k_mem) (by k_mem)); (case haz0S2x1 => k_is); (case hgtz0S2x1 => k_is); (case htz0S2x1 => k_is); (case hgaz0S2x1 => k_is); (case hmz0S2x1 => k_is); (case hgkz0S2x1 => k_is); (case hcz0S2x1 => k_is); (case Itz0S2x1 => k_inst); (case hiz0S2x1 => decide); (case hkz0S2x1 => rfl); (case hyz0S2x1 => first | exact arr0 | exact arr1); (case hhz0S2x1 => rfl); intro h'z0S2x1 tk'z0S2x1 F'z0S2x1 N'z0S2x1)))
  trivial
section
open TI
variable {w : World} {A : Around} {E : Value → Shared → Prop} {s : Shared} {Q : Value → Shared → Prop} {hB : Heap} {a : SA} {Ls l0 l1 l2 it nm : Addr} {ns : Str} {am mu : Int} {c : Bool} {xs : List Str} {T : Int} {σ : Sta} {b : Nat} {av : List Addr} {l : List Env} {frs : List (Addr × Obj)} {k : Int}
theorem Pre.ml (P : Pre w hB A s.heap av a σ b l frs) (fr : hB.get? a.dS = none ∧ hB.get? a.dX = none ∧ hB.get? a.dE = none) : ∃ ml : List (Addr × Obj), ml.map (·.1) = mods a frs ∧ ∀ p ∈ ml, s.heap.get? p.1 = some p.2 ∧ hB.get? p.1 = none := by
  obtain ⟨oS, eS⟩ := P.st.S.there
  obtain ⟨oX, eX⟩ := P.st.X.there
  obtain ⟨oE, eE⟩ := P.st.E.there
  obtain ⟨p1, t1⟩ := P.tb.g
  obtain ⟨p2, t2⟩ := P.tb.x
  refine ⟨(a.dS, oS) :: (a.dX, oX) :: (a.dE, oE) :: (640, tabObj p1) :: (588, tabObj p2) :: frs, rfl, fun p hp => ?_⟩
  simp only [List.mem_cons] at hp
  rcases hp with rfl | rfl | rfl | rfl | rfl | hp
  · exact ⟨eS, fr.1⟩
  · exact ⟨eX, fr.2.1⟩
  · exact ⟨eE, fr.2.2⟩
  · exact ⟨t1.1, P.tB.1⟩
  · exact ⟨t2.1, P.tB.2⟩
  · exact P.fs p hp
theorem c_lstats {tk : Tok} (hk : Kd k) (R : Rm A 40) (G : Gd w hB) (kS : Sub hB s.heap) (Z : LCtx w hB a Ls l0 l1 l2 it nm ns am mu c xs T) (P : Pre w hB A s.heap av a σ b l frs) (hTe : gsec c * mu ≤ T)
  (h : ∀ h' tk' r p t1 t2 t3, s.heap.get? r = none → s.heap.get? p = none → h'.get? r = some (itup (.ref p) (.int (staR k σ T (gsec c * mu) (keyS ns xs am mu (gname c)) am) t3)) → h'.get? p = some (itup (.int (staN k σ T (gsec c * mu) (keyS ns xs am mu (gname c))) t1) (.int (staD k σ T (gsec c * mu) (keyS ns xs am mu (gname c))) t2)) → Post w s.heap h' av a (tstS k σ T (gsec c * mu) (keyS ns xs am mu (gname c))) (b + 60) frs → Q (.ref r) {s with heap := h', toks := tk'}) :
  wpAny (model PySem.Challenge.rw_jn0050_01.row.prog w) A (call (.ref 714) [.ref Ls, .int k tk, .ref it, .ref nm] []) Q E s := by
  have hfr := P.fr
  obtain ⟨hA, da, fa, ga, ua⟩ := A
  have hha := R.hd
  dsimp only at hha hfr
  subst hha
  subst hfr
  obtain ⟨ml, hml, hmo⟩ := P.ml Z.sto.fr
  refine' enter (binds := [(Str.ofString "limiters", .ref Ls), (Str.ofString "kind", .int k tk), (Str.ofString "item", .ref it), (Str.ofString "names", .ref nm)]) (mods := ml) R G kS ?M ?ho ?hcd ?hb ?hl ?_ ?c2 ?c3 ?c4 ?c5
  case M => exact hmo
  case ho => k_is
  case hcd => k_is
  case hb => first | exact BindsTo.of_eq rfl | exact binds_K (G.X.keeps kS) rfl (by k_is) rfl rfl rfl
  case hl => exact locs rfl
  case c2 => exact rfl
  case c3 => exact rfl
  case c4 => exact rfl
  case c5 => decide
  intro g L h₁ Hg Sg F N X ⟨p, loose, mean, mg, mb, T0⟩ l9
  have gL : g.get? L = none := Heap.get?_none_of_le F.above
  rw [hml] at Hg
  have Il := LimAt.sub (Z.lim hk) Sg
  have hkl := lim_at (l0 := l0) (l1 := l1) (l2 := l2) hk
  obtain ⟨epl, hls⟩ := Z.lims
  have hll : g.IsList Ls (List.toArray [.ref l0, .ref l1, .ref l2]) := ⟨_, Sg _ _ hls, rfl, epl, rfl⟩
  have hk0 : 0 ≤ k := by rcases hk with rfl | rfl | rfl <;> decide
  have hk9 : k < 1000000 := by rcases hk with rfl | rfl | rfl <;> decide
  have Yk := Z.ctx hk
  generalize hlk : limOf l0 l1 l2 k = lk at *
  (try dsimp only)
  have kqOn : SegOn := trivial
  k_steps
  rename Fr _ _ _ _ => F9
  rename News _ _ _ _ => N9
  obtain ⟨oL, es, ep, hL, hLd, -⟩ := id F9.ns
  have eL : s.heap.get? L = none := by
    cases q : s.heap.get? L with
    | none => rfl
    | some o =>
      by_cases z : L ∈ mods a frs
      · rw [← hml] at z
        obtain ⟨y, hy, z⟩ := List.mem_map.mp z
        exact absurd z (N9 y hy).2.1
      · have := Hg _ _ q z; rw [gL] at this; cases this
  have K9 : Sub s.heap _ := fun b o e => by
    by_cases z : b ∈ mods a frs
    · rw [← hml] at z
      obtain ⟨y, hy, z⟩ := List.mem_map.mp z
      have h1 := (hmo y hy).1
      rw [z, e] at h1
      cases h1
      exact z ▸ (N9 y hy).1
    · exact F9.keep _ _ (Hg _ _ e z)
  have gm : ∀ b o, g.get? b = some o → b ∉ mods a ((L, oL) :: frs) := fun b o e z => by
    have z' : b ∈ mods a frs ∨ b = L := by
      simp only [List.map_cons, List.mem_cons] at z ⊢
      rcases z with r | r | r | r | r | r | r
      · exact .inl (.inl r)
      · exact .inl (.inr (.inl r))
      · exact .inl (.inr (.inr (.inl r)))
      · exact .inl (.inr (.inr (.inr (.inl r))))
      · exact .inl (.inr (.inr (.inr (.inr (.inl r)))))
      · exact .inr r
      · exact .inl (.inr (.inr (.inr (.inr (.inr r)))))
    rcases z' with z | z
    · rw [← hml] at z
      obtain ⟨y, hy, z⟩ := List.mem_map.mp z
      have := (N9 y hy).2.2
      rw [z, e] at this; cases this
    · rw [z, gL] at e; cases e
  refine k_stats hk (Rm.mono (Rm.deeper _ R) (by decide)) G (fun b o e => F9.keep b o (Sg b o e)) Yk (P.push kS K9 eL hL rfl (show ScopeKind.function ≠ ScopeKind.module by decide) rfl ⟨es, ep, hLd⟩) hTe fun h' tk' r d v1 t2 e0 e1 er ed sv PO => ?_
  obtain ⟨frs', SU, hup⟩ := PO.up
  cases frs' with
  | nil => exact False.elim SU
  | cons q qs =>
  obtain ⟨su1, ⟨sl, su2⟩, -⟩ := SU
  have hL' : h'.get? L = some { oL with slots := sl } := by have := hup q (.head _); rw [su1, su2] at this; exact this
  have F8 : Fr g L h' _ := Fr.sameUp F9 hL rfl hL' fun b o e => PO.chg b o (F9.keep _ _ e) (gm b o e)
  obtain ⟨ex, N8, -, CH, EX⟩ := rest_ex [] F8
  have nr : r ≠ L := fun z => by rw [z, hL] at e0; cases e0
  have nd : d ≠ L := fun z => by rw [z, hL] at e1; cases e1
  have gr : ∀ {x}, s.heap.get? x = none → True := fun _ => trivial
  have gn : ∀ {x o}, h'.get? x = some o → (∀ o', g.get? x = some o' → False) → x ≠ L → News g L h' [(x, o)] := fun {x o} e z n p hp => by
    rw [List.mem_singleton.mp hp]
    refine ⟨e, n, ?_⟩
    cases q : g.get? x with
    | none => rfl
    | some o' => exact (z o' q).elim
  have Nr := gn er (fun o' z => by have := F9.keep _ _ z; rw [e0] at this; cases this) nr
  have Nd := gn ed (fun o' z => by have := F9.keep _ _ z; rw [e1] at this; cases this) nd
  have N7 : News g L h' ((r, wsObj d v1 (.int (staR k σ T (gsec c * mu) (keyS ns xs am mu (gname c)) am) t2)) :: (d, emptyDict) :: ex) := fun p hp => by
    rcases List.mem_cons.mp hp with rfl | hp
    · exact Nr _ (.head _)
    rcases List.mem_cons.mp hp with rfl | hp
    · exact Nd _ (.head _)
    exact N8 p hp
  have hsn : ∀ {x : Addr} {o : Obj}, x ≠ L → g.get? x = none → AllLt x ex → s.heap.get? x = none := fun {x o} nL gx hx => by
    cases q : s.heap.get? x with
    | none => rfl
    | some o =>
      obtain ⟨o', e'⟩ := PO.there (K9 _ _ q)
      exact absurd rfl (allLt_ne hx (EX x o' e' nL (by simp) gx))
  clear F9 N9 Nr Nd N8 hup
  unfold StV at sv
  by_cases hk2 : k = 2
  · rw [if_pos hk2] at sv
    obtain ⟨tt, t1, t3, rfl, ht0, htt⟩ := sv
    have ntt : tt ≠ L := fun z => by rw [z, hL] at ht0; cases ht0
    have ht0' : s.heap.get? tt = none := by
      cases q : s.heap.get? tt with
      | none => rfl
      | some o => rw [K9 _ _ q] at ht0; cases ht0
    k_steps
    all_goals first | contradiction | skip
    rename Fr _ _ _ _ => F6
    rename News _ _ _ _ => N6
    rename_i lD
    have CL := CH _ _ F6 (fun p hp => N6 p (by repeat (first | exact hp | apply List.Mem.tail)))
    have hr := N6 _ (.head _)
    exact h _ _ _ _ _ _ _ (hsn (o := emptyDict) hr.2.1 hr.2.2 lD.2.2) ht0' hr.1 (CL _ _ htt (by simpa using ntt)) (Post.popC P K9 eL PO CL)
  · rw [if_neg hk2] at sv
    obtain ⟨hD1, t1, rfl⟩ := sv
    k_steps
    all_goals first | contradiction | skip
    rename Fr _ _ _ _ => F6
    rename News _ _ _ _ => N6
    rename_i lD
    have CL := CH _ _ F6 (fun p hp => N6 p (by repeat (first | exact hp | apply List.Mem.tail)))
    have hr := N6 _ (.head _)
    have hp := N6 _ (.tail _ (.head _))
    rw [hD1] at h
    trace_state
    exact h _ _ _ _ _ _ _ (hsn (o := emptyDict) hr.2.1 hr.2.2 lD.2.2.2) (hsn (o := emptyDict) hp.2.1 hp.2.2 (And.right (And.right (by assumption)))) hr.1 hp.1 (Post.popC P K9 eL PO CL)
end

end
section
section
open TI
variable {w : World} {A : Around} {E : Value → Shared → Prop} {s : Shared} {Q : Value → Shared → Prop} {hB : Heap}
noncomputable def Ap3 (a b c : Addr) : Prop := a ≠ b ∧ a ≠ c ∧ b ≠ c
theorem u_store {lam : Addr} {g : Heap} {L : Addr} {m : Str → Option Value} {news : List (Addr × Obj)} (R : Rm A 8) (G : Gd w hB) (Sg : Sub hB g) (F : Fr g L s.heap m) (N : News g L s.heap news) (X : (Mine.hd.heap_39 w.params).In g)
  (h : ∀ h' tk' x dx dS dX dE oS oX oE n t1 t2 t3 t4, Fr g L h' m → News g L h' ((x, instObj 691 dx) :: (dx, storeD w lam dS dX dE t1 t2 t3 t4 n) :: (dS, oS) :: (dX, oX) :: (dE, oE) :: news) →
    (∀ p ∈ news, p.1 < dx) → dx < x → (∀ p ∈ news, p.1 ≠ dS) → (∀ p ∈ news, p.1 ≠ dX) → (∀ p ∈ news, p.1 ≠ dE) → Ap3 dS dX dE →
    oS.IsDictOf (PySem.strKind PySem.Challenge.rw_jn0050_01.row.prog w) [] ∧ oX.IsDictOf (PySem.strKind PySem.Challenge.rw_jn0050_01.row.prog w) [] ∧ oE.IsDictOf (PySem.strKind PySem.Challenge.rw_jn0050_01.row.prog w) [] →
    (dS == sysModules) = false ∧ (dX == sysModules) = false ∧ (dE == sysModules) = false → Q (.ref x) {s with heap := h', toks := tk'}) :
  wpAny (model PySem.Challenge.rw_jn0050_01.row.prog w) A (call (.ref 691) [.ref lam] []) Q E s := by
  refine' call_cls (fI := 586) F X N ?k4 ?k5 ?k6 fun x dx h1 F1 N1 l1 l2 => ?_
  case k4 => k_is
  case k5 => k_is
  case k6 => k_is
  have hx := N1 _ (.head _)
  have hd := N1 _ (.tail _ (.head _))
  have nb : ∀ {b}, g.get? b = none → hB.get? b = none := fun {b} e => by
    cases q : hB.get? b with
    | none => rfl
    | some o => have := Sg b o q; rw [e] at this; cases this
  refine' codeAny_mono (c_sinit (Q := fun v s' => v = .none ∧ Q (.ref x) s') ?R G (fun b o q => F1.keep b o (Sg b o q)) hx.1 hd.1 (nb hx.2.2) (nb hd.2.2) (Nat.ne_of_gt l2) fun h' tk' dS dX dE n t1 t2 t3 t4 C e1 e2 f1 f2 f3 n1 n2 n3 d1 d2 d3 => ⟨rfl, ?_⟩) ?m
  case R => exact ⟨R.hd, by have := R.dep; show A.depth + 1 + 6 < 900; omega, by have := R.un; show A.units + _ + 20 * 6 < 9000; exact cu_room this (cu_type _) (by decide)⟩
  case m => intro r s' q; exact q
  obtain ⟨oS, o1, i1, s1⟩ := d1
  obtain ⟨oX, o2, i2, s2⟩ := d2
  obtain ⟨oE, o3, i3, s3⟩ := d3
  have F2 : Fr g L h' m := Fr.chg F1 N1 C (by
    intro y hy
    rcases List.mem_cons.mp hy with rfl | hy
    · exact ⟨_, .head _⟩
    · exact List.mem_singleton.mp hy ▸ ⟨_, .tail _ (.head _)⟩)
  have hm : ∀ {p}, p ∈ news → p ∈ (x, instObj 691 dx) :: (dx, dictOf [] 0) :: news := fun hp => .tail _ (.tail _ hp)
  have nf : ∀ {d o}, h1.get? d = none → h'.get? d = some o → h'.get? d = some o ∧ d ≠ L ∧ g.get? d = none := fun {d o} e e' => by
    refine ⟨e', fun q => ?_, ?_⟩
    · obtain ⟨oL, es, ep, hL, _⟩ := F1.ns
      rw [q, hL] at e; cases e
    · cases q : g.get? d with
      | none => rfl
      | some o' => have := F1.keep _ _ q; rw [e] at this; cases this
  have ap : ∀ {d}, h1.get? d = none → ∀ p ∈ news, p.1 ≠ d := fun {d} e p hp q => by
    have := (N1 p (hm hp)).1
    rw [q, e] at this; cases this
  refine h h' tk' x dx dS dX dE oS oX oE n t1 t2 t3 t4 F2 (fun p hp => ?_) l1 l2 (ap f1) (ap f2) (ap f3) ⟨n1, n2, n3⟩ ⟨i1, i2, i3⟩ ⟨s1, s2, s3⟩
  rcases List.mem_cons.mp hp with rfl | hp
  · exact ⟨e1, hx.2⟩
  rcases List.mem_cons.mp hp with rfl | hp
  · exact ⟨e2, hd.2⟩
  rcases List.mem_cons.mp hp with rfl | hp
  · exact nf f1 o1
  rcases List.mem_cons.mp hp with rfl | hp
  · exact nf f2 o2
  rcases List.mem_cons.mp hp with rfl | hp
  · exact nf f3 o3
  have q1 : p.1 < dx := l1 p hp
  have z := N1 p (hm hp)
  refine ⟨C _ _ z.1 fun q => ?_, z.2⟩
  rcases List.mem_cons.mp q with q | q
  · exact absurd q (Nat.ne_of_lt (Nat.lt_trans q1 l2))
  · exact absurd (List.mem_singleton.mp q) (Nat.ne_of_lt q1)
end
theorem reg_N1x1 : True := by
  (k_with "callWith ref" => (((with_reducible show wpAny _ _ (callWith _ (Value.ref 241) _ _ _) _ _ _); k_dflt (refine' callWith_K (f := .ref 241) ?k1z0N1x1 ?k2z0N1x1 ?_; (case k1z0N1x1 => k_asm); (case k2z0N1x1 => k_is)))))
  trivial
theorem reg_N1x2 : True := by
  (k_with "call ref" => (((with_reducible show wpAny _ _ (call (Value.ref 241) _ _) _ _ _); k_dflt (refine' u_lim0 ?Rz0N1x2 ?Gz0N1x2 ?Sgz0N1x2 ?Fz0N1x2 ?Nz0N1x2 ?Xz0N1x2 ?_; (case Rz0N1x2 => exact Rm.mono (Rm.deeper _ (by assumption)) (by decide)); (case Gz0N1x2 => assumption); (case Sgz0N1x2 => assumption); (case Fz0N1x2 => k_asm); (case Nz0N1x2 => k_asm); (case Xz0N1x2 => k_asm)); intro h'z0N1x2 tk'z0N1x2 x'z0N1x2 dx'z0N1x2 n'z0N1x2 t'z0N1x2 F'z0N1x2 N'z0N1x2 l1z0N1x2 l2z0N1x2 l3z0N1x2; (try k_lt l1z0N1x2); (try k_lt l2z0N1x2))))
  trivial
theorem reg_N1x3 : True := by
  (k_with "callWith ref" => (((with_reducible show wpAny _ _ (callWith _ (Value.ref 202) _ _ _) _ _ _); k_dflt (refine' callWith_K (f := .ref 202) ?k1z0N1x3 ?k2z0N1x3 ?_; (case k1z0N1x3 => k_asm); (case k2z0N1x3 => k_is)))))
  trivial
theorem reg_N1x4 : True := by
  (k_with "call ref" => (((with_reducible show wpAny _ _ (call (Value.ref 202) _ _) _ _ _); k_dflt (refine' u_lim1 ?Rz0N1x4 ?Gz0N1x4 ?Sgz0N1x4 ?Fz0N1x4 ?Nz0N1x4 ?Xz0N1x4 ?_; (case Rz0N1x4 => exact Rm.mono (Rm.deeper _ (by assumption)) (by decide)); (case Gz0N1x4 => assumption); (case Sgz0N1x4 => assumption); (case Fz0N1x4 => k_asm); (case Nz0N1x4 => k_asm); (case Xz0N1x4 => k_asm)); intro h'z0N1x4 tk'z0N1x4 x'z0N1x4 dx'z0N1x4 n'z0N1x4 t'z0N1x4 F'z0N1x4 N'z0N1x4 l1z0N1x4 l2z0N1x4 l3z0N1x4; (try k_lt l1z0N1x4); (try k_lt l2z0N1x4))))
  trivial
theorem reg_N1x5 : True := by
  (k_with "callWith ref" => (((with_reducible show wpAny _ _ (callWith _ (Value.ref 296) _ _ _) _ _ _); k_dflt (refine' callWith_K (f := .ref 296) ?k1z0N1x5 ?k2z0N1x5 ?_; (case k1z0N1x5 => k_asm); (case k2z0N1x5 => k_is)))))
  trivial
theorem reg_N1x6 : True := by
  (k_with "call ref" => (((with_reducible show wpAny _ _ (call (Value.ref 296) _ _) _ _ _); k_dflt (refine' u_lim2 ?Rz0N1x6 ?Gz0N1x6 ?Sgz0N1x6 ?Fz0N1x6 ?Nz0N1x6 ?Xz0N1x6 ?_; (case Rz0N1x6 => exact Rm.mono (Rm.deeper _ (by assumption)) (by decide)); (case Gz0N1x6 => assumption); (case Sgz0N1x6 => assumption); (case Fz0N1x6 => k_asm); (case Nz0N1x6 => k_asm); (case Xz0N1x6 => k_asm)); intro h'z0N1x6 tk'z0N1x6 x'z0N1x6 dx'z0N1x6 n'z0N1x6 t'z0N1x6 F'z0N1x6 N'z0N1x6 l1z0N1x6 l2z0N1x6 l3z0N1x6; (try k_lt l1z0N1x6); (try k_lt l2z0N1x6))))
  trivial
section
open TI
variable {w : World} {A : Around} {E : Value → Shared → Prop} {s : Shared} {Q : Value → Shared → Prop} {hB : Heap}
abbrev limsL (w : World) (st Ls l0 d0 l1 d1 l2 d2 : Addr) (ep n0 n1 n2 : Nat) (t0 t1 t2 : Tok) : List (Addr × Obj) :=
  [(Ls, W.listOf (List.toArray [.ref l0, .ref l1, .ref l2]) ep), (l2, instObj 296 d2), (d2, limD w st t2 n2), (l1, instObj 202 d1), (d1, limD w st t1 n1), (l0, instObj 241 d0), (d0, limD w st t0 n0)]
theorem c_lims {st : Addr} (R : Rm A 20) (G : Gd w hB) (kS : Sub hB s.heap)
  (h : ∀ (h' : Heap) (tk' : Nat) (Ls l0 d0 l1 d1 l2 d2 : Addr) (ep n0 n1 n2 : Nat) (t0 t1 t2 : Tok), Sub s.heap h' → (∀ p ∈ limsL w st Ls l0 d0 l1 d1 l2 d2 ep n0 n1 n2 t0 t1 t2, s.heap.get? p.1 = none ∧ h'.get? p.1 = some p.2) → Q (.ref Ls) {s with heap := h', toks := tk'}) :
  wpAny (model PySem.Challenge.rw_jn0050_01.row.prog w) A (call (.ref 707) [.ref st] []) Q E s := by
  obtain ⟨ha, da, fa, ga, ua⟩ := A
  have hha := R.hd
  dsimp only at hha
  subst hha
  refine' enter (binds := [(Str.ofString "store", .ref st)]) (mods := []) R G kS ?M ?ho ?hcd ?hb ?hl ?_ ?c2 ?c3 ?c4 ?c5
  case M => exact List.forall_mem_nil _
  case ho => k_is
  case hcd => k_is
  case hb => first | exact BindsTo.of_eq rfl | exact binds_K (G.X.keeps kS) rfl (by k_is) rfl rfl rfl | (rcases (by assumption : KwC _ _ _ _) with rfl | ⟨rfl, rfl, rfl⟩ <;> first | exact BindsTo.of_eq rfl | exact binds_K (G.X.keeps kS) rfl (by k_is) rfl rfl rfl)
  case hl => exact locs rfl
  case c2 => exact rfl
  case c3 => exact rfl
  case c4 => exact rfl
  case c5 => decide
  intro g L h₁ Hg Sg F N X ⟨p, loose, mean, mg, mb, T0⟩ l1
  have Sk : Sub s.heap g := fun b o e => Hg b o e (by simp)
  clear kS
  (try dsimp only)
  k_steps
  rename Fr _ _ _ _ => F9
  rename News _ _ _ _ => N9
  refine h _ _ _ _ _ _ _ _ _ _ _ _ _ _ _ _ (fun b o e => F9.keep _ _ (Sk _ _ e)) (fun p hp => ⟨?_, (N9 p hp).1⟩)
  cases q : s.heap.get? p.1 with
  | none => rfl
  | some o => have := Sk _ _ q; rw [(N9 p hp).2.2] at this; cases this
end

end
section
open TI
noncomputable def tagB (o : Obj) : Bool := match o.data with | .seq .. => true | .cell _ => true | .fields _ => (match o.cls with | .none => false | _ => true) | _ => false
noncomputable def setB {α : Type} (f : Bool → α) (sd : Bool) (v : α) : Bool → α := fun x => if x = sd then v else f x
theorem setB_le {b : Bool → Nat} {Bn : Nat} (hb : ∀ x, b x ≤ Bn) (sd x : Bool) : setB b sd (b sd + 60) x ≤ Bn + 60 := by
  unfold setB; split
  · exact Nat.add_le_add_right (hb sd) 60
  · exact Nat.le_trans (hb x) (Nat.le_add_right _ _)
structure LP where
  a : Bool → SA
  Ls : Bool → Addr
  m0 : Bool → Addr
  m1 : Bool → Addr
  m2 : Bool → Addr
  fp : Bool → List Addr
  hand : Addr
  now : Addr
  xtra : List Addr
  am : Int
  mu : Int
  ah : Int
noncomputable def LP.T (p : LP) (sd : Bool) (t : Int) : Int := if sd = true then 60 * t + p.ah else t
noncomputable def D9 (p : LP) : List Addr := [(p.a false).dS, (p.a false).dX, (p.a false).dE, (p.a true).dS, (p.a true).dX, (p.a true).dE, 640, 588]
noncomputable def avOf (p : LP) (L : Addr) : List Addr := p.xtra ++ (L :: p.hand :: p.now :: D9 p)
noncomputable def ClkS (w : World) (h : Heap) (lam now : Addr) (fp : List Addr) (f : Int → Int) : Prop :=
  ∀ hB t tk ep, Gd w hB → (∀ b ∈ fp, ∀ o, h.get? b = some o → hB.get? b = some o) → hB.get? now = some (W.listOf (List.toArray [.int t tk]) ep) → 0 ≤ t → t ≤ 1000 → Clk w hB hB lam (f t) (now :: fp)
structure LF (w : World) (p : LP) (h : Heap) : Prop where
  i : ∀ sd, InstAt h (p.a sd).st (instObj 691 (p.a sd).dst) 691 (some ((p.a sd).od w))
  c : ∀ sd, ClkS w h (p.a sd).lam p.now (p.fp sd) (p.T sd)
  fpin : ∀ sd, ∀ b ∈ p.fp sd, ∃ o, h.get? b = some o
  fn : ∀ sd, FnAt (p.a sd).lam h
  ls : ∀ sd, ∃ ep, h.get? (p.Ls sd) = some (W.listOf (List.toArray [.ref (p.m0 sd), .ref (p.m1 sd), .ref (p.m2 sd)]) ep)
  l0 : ∀ sd, LimAt w h (p.a sd).st 241 (p.m0 sd)
  l1 : ∀ sd, LimAt w h (p.a sd).st 202 (p.m1 sd)
  l2 : ∀ sd, LimAt w h (p.a sd).st 296 (p.m2 sd)
  g3 : GrownAt 723 h
noncomputable def Stb (av : List Addr) (h : Heap) (P : Heap → Prop) : Prop := ∀ h', Stay av h h' → P h'
theorem Stay.trans {av : List Addr} {a b c : Heap} (x : Stay av a b) (y : Stay av b c) : Stay av a c := fun z o e n => y z o (x z o e n) n
theorem Stb.on {av : List Addr} {h h' : Heap} {P : Heap → Prop} (S : Stb av h P) (k : Stay av h h') : Stb av h' P := fun h2 k2 => S h2 (k.trans k2)
structure LQ (p : LP) (g : Heap) (L : Addr) : Prop where
  nd : (L :: p.hand :: p.now :: D9 p).Nodup
  xt : ∀ x ∈ p.xtra, x ∉ L :: p.hand :: p.now :: D9 p
  gn : ∀ x ∈ avOf p L, g.get? x = none
  lo : ∀ sd, ((p.a sd).dS == sysModules) = false ∧ ((p.a sd).dX == sysModules) = false ∧ ((p.a sd).dE == sysModules) = false
  fpe : ∀ sd, (p.a sd).fp = p.now :: p.fp sd
  lam : ∀ sd, (p.a sd).lam ∈ p.fp sd
  am : 0 ≤ p.am ∧ p.am ≤ 5
  mu : 1 ≤ p.mu ∧ p.mu ≤ 7
  ah : 0 ≤ p.ah ∧ p.ah ≤ 5000
structure Wd (w : World) (p : LP) (av : List Addr) (its : List (Addr × Str × Bool)) (σ : Bool → Sta) (b : Bool → Nat) (h : Heap) : Prop where
  f : Stb av h (LF w p)
  it : ∀ q ∈ its, Stb av h (fun h' => ItemAt w h' q.1 q.2.1 p.am p.mu q.2.2)
  s : ∀ sd, WSt w av h (p.a sd) (σ sd) (b sd)
  tb : Tabs av h
section
variable {w : World} {p : LP} {g h h' : Heap} {L : Addr} {its : List (Addr × Str × Bool)} {σ : Bool → Sta} {b : Bool → Nat} {m : Str → Option Value}
theorem nd_ne {l : List Addr} (h : l.Nodup) {i j : Nat} {a b : Addr} (e : Nat.blt i j = true) (h1 : l[i]? = some a) (h2 : l[j]? = some b) : a ≠ b := fun z => by
  have hi : i < j := Nat.le_of_ble_eq_true e
  obtain ⟨hl, -⟩ := List.getElem?_eq_some_iff.mp h1
  have := (List.getElem?_inj hl h).mp (h1.trans ((congrArg some z).trans h2.symm))
  exact Nat.lt_irrefl _ (this ▸ hi)
theorem nin3 {x a b c : Addr} (h1 : a ≠ x) (h2 : b ≠ x) (h3 : c ≠ x) : x ∉ [a, b, c] := by
  simp only [List.mem_cons, List.not_mem_nil, or_false, not_or]; exact ⟨h1.symm, h2.symm, h3.symm⟩
theorem nin33 {a b c d e f : Addr} (h1 : a ≠ d) (h2 : a ≠ e) (h3 : a ≠ f) (h4 : b ≠ d) (h5 : b ≠ e) (h6 : b ≠ f) (h7 : c ≠ d) (h8 : c ≠ e) (h9 : c ≠ f) : ∀ x ∈ [a, b, c], x ∉ [d, e, f] := fun x hx => by
  simp only [List.mem_cons, List.not_mem_nil, or_false] at hx
  rcases hx with r | r | r <;> rw [r]
  · exact nin3 h1.symm h2.symm h3.symm
  · exact nin3 h4.symm h5.symm h6.symm
  · exact nin3 h7.symm h8.symm h9.symm
theorem nin33' {a b c d e f : Addr} (h1 : a ≠ d) (h2 : a ≠ e) (h3 : a ≠ f) (h4 : b ≠ d) (h5 : b ≠ e) (h6 : b ≠ f) (h7 : c ≠ d) (h8 : c ≠ e) (h9 : c ≠ f) : ∀ x ∈ [d, e, f], x ∉ [a, b, c] :=
  nin33 h1.symm h4.symm h7.symm h2.symm h5.symm h8.symm h3.symm h6.symm h9.symm
theorem LQ.ne (Q : LQ p g L) : (∀ sd, (p.a sd).dS ∉ [L, p.hand, p.now] ∧ (p.a sd).dX ∉ [L, p.hand, p.now] ∧ (p.a sd).dE ∉ [L, p.hand, p.now] ∧ ((p.a sd).dS ≠ (p.a sd).dX ∧ (p.a sd).dS ≠ (p.a sd).dE ∧ (p.a sd).dX ≠ (p.a sd).dE) ∧ ((p.a sd).dS ≠ 640 ∧ (p.a sd).dX ≠ 640 ∧ (p.a sd).dE ≠ 640) ∧ ((p.a sd).dS ≠ 588 ∧ (p.a sd).dX ≠ 588 ∧ (p.a sd).dE ≠ 588)) ∧ (640 : Addr) ∉ [L, p.hand, p.now] ∧ (588 : Addr) ∉ [L, p.hand, p.now] ∧
    ∀ sd sd', sd ≠ sd' → ∀ x ∈ [(p.a sd).dS, (p.a sd).dX, (p.a sd).dE], x ∉ [(p.a sd').dS, (p.a sd').dX, (p.a sd').dE] := by
  have q : ∀ {i j : Nat} {a b : Addr}, Nat.blt i j = true → (L :: p.hand :: p.now :: D9 p)[i]? = some a → (L :: p.hand :: p.now :: D9 p)[j]? = some b → a ≠ b := fun {i j a b} => nd_ne Q.nd
  refine ⟨fun sd => ?_, (nin3 (q (i := 0) (j := 9) rfl rfl rfl) (q (i := 1) (j := 9) rfl rfl rfl) (q (i := 2) (j := 9) rfl rfl rfl)), (nin3 (q (i := 0) (j := 10) rfl rfl rfl) (q (i := 1) (j := 10) rfl rfl rfl) (q (i := 2) (j := 10) rfl rfl rfl)), fun sd sd' n x hx => ?_⟩
  · cases sd
    · exact ⟨(nin3 (q (i := 0) (j := 3) rfl rfl rfl) (q (i := 1) (j := 3) rfl rfl rfl) (q (i := 2) (j := 3) rfl rfl rfl)), (nin3 (q (i := 0) (j := 4) rfl rfl rfl) (q (i := 1) (j := 4) rfl rfl rfl) (q (i := 2) (j := 4) rfl rfl rfl)), (nin3 (q (i := 0) (j := 5) rfl rfl rfl) (q (i := 1) (j := 5) rfl rfl rfl) (q (i := 2) (j := 5) rfl rfl rfl)), ⟨(q (i := 3) (j := 4) rfl rfl rfl), (q (i := 3) (j := 5) rfl rfl rfl), (q (i := 4) (j := 5) rfl rfl rfl)⟩, ⟨(q (i := 3) (j := 9) rfl rfl rfl), (q (i := 4) (j := 9) rfl rfl rfl), (q (i := 5) (j := 9) rfl rfl rfl)⟩, ⟨(q (i := 3) (j := 10) rfl rfl rfl), (q (i := 4) (j := 10) rfl rfl rfl), (q (i := 5) (j := 10) rfl rfl rfl)⟩⟩
    · exact ⟨(nin3 (q (i := 0) (j := 6) rfl rfl rfl) (q (i := 1) (j := 6) rfl rfl rfl) (q (i := 2) (j := 6) rfl rfl rfl)), (nin3 (q (i := 0) (j := 7) rfl rfl rfl) (q (i := 1) (j := 7) rfl rfl rfl) (q (i := 2) (j := 7) rfl rfl rfl)), (nin3 (q (i := 0) (j := 8) rfl rfl rfl) (q (i := 1) (j := 8) rfl rfl rfl) (q (i := 2) (j := 8) rfl rfl rfl)), ⟨(q (i := 6) (j := 7) rfl rfl rfl), (q (i := 6) (j := 8) rfl rfl rfl), (q (i := 7) (j := 8) rfl rfl rfl)⟩, ⟨(q (i := 6) (j := 9) rfl rfl rfl), (q (i := 7) (j := 9) rfl rfl rfl), (q (i := 8) (j := 9) rfl rfl rfl)⟩, ⟨(q (i := 6) (j := 10) rfl rfl rfl), (q (i := 7) (j := 10) rfl rfl rfl), (q (i := 8) (j := 10) rfl rfl rfl)⟩⟩
  · cases sd <;> cases sd'
    · exact absurd rfl n
    · exact nin33 (q (i := 3) (j := 6) rfl rfl rfl) (q (i := 3) (j := 7) rfl rfl rfl) (q (i := 3) (j := 8) rfl rfl rfl) (q (i := 4) (j := 6) rfl rfl rfl) (q (i := 4) (j := 7) rfl rfl rfl) (q (i := 4) (j := 8) rfl rfl rfl) (q (i := 5) (j := 6) rfl rfl rfl) (q (i := 5) (j := 7) rfl rfl rfl) (q (i := 5) (j := 8) rfl rfl rfl) _ hx
    · exact nin33' (q (i := 3) (j := 6) rfl rfl rfl) (q (i := 3) (j := 7) rfl rfl rfl) (q (i := 3) (j := 8) rfl rfl rfl) (q (i := 4) (j := 6) rfl rfl rfl) (q (i := 4) (j := 7) rfl rfl rfl) (q (i := 4) (j := 8) rfl rfl rfl) (q (i := 5) (j := 6) rfl rfl rfl) (q (i := 5) (j := 7) rfl rfl rfl) (q (i := 5) (j := 8) rfl rfl rfl) _ hx
    · exact absurd rfl n
theorem Tabs.chg {av ms : List Addr} (T : Tabs av h) (C : Chg ms h h') (n1 : (640 : Addr) ∉ ms) (n2 : (588 : Addr) ∉ ms) (hm : ∀ x ∈ ms, x ∈ av) : Tabs av h' :=
  have st : Stay av h h' := fun x o e n => C x o e fun q => n (hm x q)
  ⟨let ⟨p, x⟩ := T.g; ⟨p, x.on (fun o e => C _ _ e n1) st⟩, let ⟨p, x⟩ := T.x; ⟨p, x.on (fun o e => C _ _ e n2) st⟩⟩
theorem WSt.chg {av ms : List Addr} {a : SA} {σ : Sta} {b : Nat} (S : WSt w av h a σ b) (C : Chg ms h h') (n1 : a.dS ∉ ms) (n2 : a.dX ∉ ms) (n3 : a.dE ∉ ms) (hm : ∀ x ∈ ms, x ∈ av) : WSt w av h' a σ b :=
  have st : Stay av h h' := fun x o e n => C x o e fun q => n (hm x q)
  ⟨S.S.on fun o e => C _ _ e n1, S.X.on fun o e => C _ _ e n2, S.E.on' (fun o e => C _ _ e n3) st⟩
theorem Wd.on (Q : LQ p g L) (W : Wd w p (avOf p L) its σ b h) (C : Chg (L :: p.hand :: p.now :: p.xtra) h h') : Wd w p (avOf p L) its σ b h' := by
  have hm : ∀ x ∈ L :: p.hand :: p.now :: p.xtra, x ∈ avOf p L := fun x hx => by
    simp only [List.mem_cons] at hx
    unfold avOf
    rcases hx with r | r | r | r
    · exact List.mem_append_right _ (by rw [r]; exact .head _)
    · exact List.mem_append_right _ (by rw [r]; exact .tail _ (.head _))
    · exact List.mem_append_right _ (by rw [r]; exact .tail _ (.tail _ (.head _)))
    · exact List.mem_append_left _ r
  have st : Stay (avOf p L) h h' := fun x o e n => C x o e fun q => n (hm x q)
  obtain ⟨n, n1, n2, -⟩ := Q.ne
  have up : ∀ {x}, x ∈ D9 p → x ∉ [L, p.hand, p.now] → x ∉ L :: p.hand :: p.now :: p.xtra := fun {x} hx hn hq => by
    simp only [List.mem_cons] at hq
    rcases hq with r | r | r | r
    · exact hn (by rw [r]; exact .head _)
    · exact hn (by rw [r]; exact .tail _ (.head _))
    · exact hn (by rw [r]; exact .tail _ (.tail _ (.head _)))
    · exact Q.xt x r (.tail _ (.tail _ (.tail _ hx)))
  exact ⟨W.f.on st, fun q hq => (W.it q hq).on st, fun sd => (W.s sd).chg C (up (by cases sd <;> simp [D9]) (n sd).1) (up (by cases sd <;> simp [D9]) (n sd).2.1) (up (by cases sd <;> simp [D9]) (n sd).2.2.1) hm, W.tb.chg C (up (by simp [D9]) n1) (up (by simp [D9]) n2) hm⟩
noncomputable def Tl (g : Heap) (L : Addr) (ex : List (Addr × Obj)) (P : Heap → Prop) : Prop := ∀ h m, Fr g L h m → News g L h ex → P h
theorem Wd.ex (Q : LQ p g L) (W : Wd w p (avOf p L) its σ b h) (F : Fr g L h m) : ∃ ex, News g L h ex ∧ (∀ q ∈ ex, q.1 ≠ p.hand ∧ q.1 ≠ p.now ∧ q.1 ∉ p.xtra) ∧ Tl g L ex (Wd w p (avOf p L) its σ b) := by
  obtain ⟨ex, N, n, C, -⟩ := rest_ex (p.hand :: p.now :: p.xtra) F
  refine ⟨ex, N, fun q hq => ⟨fun z => n q hq (by rw [z]; exact .head _), fun z => n q hq (by rw [z]; exact .tail _ (.head _)), fun z => n q hq (.tail _ (.tail _ z))⟩, fun h2 m2 F2 N2 => W.on Q (C h2 m2 F2 N2)⟩
theorem isD_data {knd : KeyKind PySem.Challenge.rw_jn0050_01.row.prog w Str} {o : Obj} {kvs : List (Str × Value)} (H : o.IsDictOf knd kvs) : tagB o = false := by
  obtain ⟨es, ep, -, e, -⟩ := H
  unfold tagB; rw [e]
theorem WSt.tag {av : List Addr} {a : SA} {σ : Sta} {b : Nat} (S : WSt w av h a σ b) : ∀ x ∈ [a.dS, a.dX, a.dE], ∃ o, h.get? x = some o ∧ tagB o = false := fun x hx => by
  simp only [List.mem_cons, List.not_mem_nil, or_false] at hx
  rcases hx with rfl | rfl | rfl
  · obtain ⟨o, e, kvs, d, -⟩ := S.S
    exact ⟨o, e, isD_data d⟩
  · obtain ⟨o, e, kvs, d, -⟩ := S.X
    exact ⟨o, e, isD_data d⟩
  · obtain ⟨o, kvs, e, d, -⟩ := S.E.out
    exact ⟨o, e, isD_data d⟩
theorem Wd.mods_tag (W : Wd w p (avOf p L) its σ b h) (sd : Bool) {oL : Obj} (hL : h.get? L = some oL) (hd : ∃ es ep, oL.data = .dict es ep) : ∀ x ∈ mods (p.a sd) [(L, oL)], ∃ o, h.get? x = some o ∧ tagB o = false := fun x hx => by
  have st := (W.s sd).tag
  simp only [List.map_cons, List.map_nil, List.mem_cons, List.not_mem_nil, or_false] at hx
  rcases hx with r | r | r | r | r | r
  · exact st x (by simp [r])
  · exact st x (by simp [r])
  · exact st x (by simp [r])
  · obtain ⟨ps, t⟩ := W.tb.g; exact r ▸ ⟨_, t.1, rfl⟩
  · obtain ⟨ps, t⟩ := W.tb.x; exact r ▸ ⟨_, t.1, rfl⟩
  · obtain ⟨es, ep, e⟩ := hd
    exact r ▸ ⟨_, hL, by unfold tagB; rw [e]⟩
theorem Wd.off (W : Wd w p (avOf p L) its σ b h) (sd : Bool) {oL : Obj} (hL : h.get? L = some oL) (hd : ∃ es ep, oL.data = .dict es ep) {x : Addr} {o : Obj} (e : h.get? x = some o) (t : tagB o = true) : x ∉ mods (p.a sd) [(L, oL)] := fun q => by
  obtain ⟨o', e', t'⟩ := W.mods_tag sd hL hd x q
  rw [e] at e'; cases e'
  rw [t] at t'; cases t'
theorem mods_av (sd : Bool) {oL : Obj} : ∀ x ∈ mods (p.a sd) [(L, oL)], x ∈ avOf p L := fun x hx => by
  simp only [List.map_cons, List.map_nil, List.mem_cons, List.not_mem_nil, or_false] at hx
  unfold avOf
  refine List.mem_append_right _ ?_
  simp only [D9, List.mem_cons, List.not_mem_nil, or_false]
  cases sd
  · rcases hx with r | r | r | r | r | r <;> simp [r]
  · rcases hx with r | r | r | r | r | r <;> simp [r]
theorem Wd.pre {A : Around} {env : Env} {oL : Obj} {t : Int} {tk : Tok} {ep : Nat} (Q : LQ p g L) (G : Gd w g) (W : Wd w p (avOf p L) its σ b h) (kg : Sub g h) (hL : h.get? L = some oL) (hd : ∃ es ep, oL.data = .dict es ep) (hh : ∃ o, h.get? p.hand = some o) (hxt : ∀ x ∈ p.xtra, ∃ o, h.get? x = some o)
  (hnow : h.get? p.now = some (PySem.W.listOf (List.toArray [.int t tk]) ep)) (ht : 0 ≤ t ∧ t ≤ 1000) (hfr : A.frames = some [env]) (hk : env.scope.kind ≠ .module) (hf : env.frame = some L) (sd : Bool) (hb : b sd ≤ 50000) :
  ∃ hB, Gd w hB ∧ Sub hB h ∧ Pre w hB A h (avOf p L) (p.a sd) (σ sd) (b sd) [env] [(L, oL)] ∧ (∀ x o, h.get? x = some o → tagB o = true → hB.get? x = some o) ∧ (∀ q ∈ its, ItemAt w hB q.1 q.2.1 p.am p.mu q.2.2) ∧
    ∀ it ns nm xs, ItemAt w hB it ns p.am p.mu sd → NamesAt hB nm xs → LCtx w hB (p.a sd) (p.Ls sd) (p.m0 sd) (p.m1 sd) (p.m2 sd) it nm ns p.am p.mu sd xs (p.T sd t) := by
  obtain ⟨n, n1, n2, n3⟩ := Q.ne
  have hm := mods_av (p := p) (L := L) sd (oL := oL)
  have sub : Sub (hideAll h (mods (p.a sd) [(L, oL)])) h := fun x o e => of_hideAll _ e
  have tg : ∀ x o, h.get? x = some o → tagB o = true → (hideAll h (mods (p.a sd) [(L, oL)])).get? x = some o := fun x o e t => hideAll_get _ e (W.off sd hL hd e t)
  have hid : ∀ x ∈ mods (p.a sd) [(L, oL)], (hideAll h (mods (p.a sd) [(L, oL)])).get? x = none := fun x hx => hideAll_none _ hx
  have st : Stay (avOf p L) h (hideAll h (mods (p.a sd) [(L, oL)])) := fun x o e n => hideAll_get _ e fun q => n (hm x q)
  have f := W.f _ st
  have gB : Sub g (hideAll h (mods (p.a sd) [(L, oL)])) := fun x o e => hideAll_get _ (kg _ _ e) fun q => by rw [Q.gn x (hm x q)] at e; cases e
  have hnB := tg _ _ hnow rfl
  have inB : ∀ x ∈ (p.a sd).st :: (p.a sd).dst :: (p.a sd).fp, ∃ o, (hideAll h (mods (p.a sd) [(L, oL)])).get? x = some o := fun x hx => by
    rcases List.mem_cons.mp hx with r | hx
    · exact r ▸ ⟨_, (f.i sd).at_⟩
    rcases List.mem_cons.mp hx with r | hx
    · exact r ▸ ⟨_, (f.i sd).dict⟩
    rw [Q.fpe sd] at hx
    rcases List.mem_cons.mp hx with r | hx
    · exact r ▸ ⟨_, hnB⟩
    · exact f.fpin sd x hx
  have offB : ∀ x ∈ (p.a sd).st :: (p.a sd).dst :: (p.a sd).fp, x ≠ (p.a sd).dS ∧ x ≠ (p.a sd).dX ∧ x ≠ (p.a sd).dE := fun x hx => by
    obtain ⟨o, e⟩ := inB x hx
    refine ⟨fun q => ?_, fun q => ?_, fun q => ?_⟩
    · rw [q, hid _ (by simp)] at e; cases e
    · rw [q, hid _ (by simp)] at e; cases e
    · rw [q, hid _ (by simp)] at e; cases e
  refine ⟨_, G.keeps gB, sub, ?_, tg, fun q hq => W.it q hq _ st, fun it ns nm xs hi hn => ⟨⟨f.i sd, ?_, offB, (n sd).2.2.2.1, ⟨hid _ (by simp), hid _ (by simp), hid _ (by simp)⟩, Q.lo sd, f.fn sd, ?_⟩, fun x hx => inB x (.tail _ (.tail _ hx)), f.ls sd, f.l0 sd, f.l1 sd, f.l2 sd, hi, hn, ?_⟩⟩
  · exact {
      st := W.s sd
      tb := W.tb
      hb := hb
      fr := hfr
      Fs := ⟨hk, hf, hd, trivial⟩
      fs := fun q hq => by rw [List.mem_singleton.mp hq]; exact ⟨hL, hid _ (by simp)⟩
      fne := fun q hq => by
        rw [List.mem_singleton.mp hq]
        have e1 := (n sd).1
        have e2 := (n sd).2.1
        have e3 := (n sd).2.2.1
        exact ⟨fun z => e1 (by rw [← show L = _ from z]; simp), fun z => e2 (by rw [← show L = _ from z]; simp), fun z => e3 (by rw [← show L = _ from z]; simp), fun z => n1 (by rw [← show L = _ from z]; simp), fun z => n2 (by rw [← show L = _ from z]; simp)⟩
      mav := hm
      hav := fun y hy => by
        simp only [avOf, D9, List.mem_append, List.mem_cons, List.not_mem_nil, or_false] at hy
        rcases hy with r | r | r | r | r | r | r | r | r | r | r | r
        · exact hxt y r
        · exact r ▸ ⟨_, hL⟩
        · exact r ▸ hh
        · exact r ▸ ⟨_, hnow⟩
        · exact r ▸ (W.s false).S.there
        · exact r ▸ (W.s false).X.there
        · exact r ▸ (W.s false).E.there
        · exact r ▸ (W.s true).S.there
        · exact r ▸ (W.s true).X.there
        · exact r ▸ (W.s true).E.there
        · obtain ⟨ps, t⟩ := W.tb.g; exact r ▸ ⟨_, t.1⟩
        · obtain ⟨ps, t⟩ := W.tb.x; exact r ▸ ⟨_, t.1⟩
      tB := ⟨hid _ (by simp), hid _ (by simp)⟩
      tne := ⟨(n sd).2.2.2.2.1, (n sd).2.2.2.2.2⟩ }
  · rw [Q.fpe sd]
    exact f.c sd _ t tk ep (G.keeps gB) (fun _ _ _ e => e) hnB ht.1 ht.2
  · rw [Q.fpe sd]; exact .tail _ (Q.lam sd)
  · have a1 := Q.ah
    unfold LP.T
    split <;> omega
theorem Wd.post {oL : Obj} {σ' : Sta} {b' : Nat} {sd : Bool} (Q : LQ p g L) (W : Wd w p (avOf p L) its σ b h) (F : Fr g L h m) (hL : h.get? L = some oL) (hd : ∃ es ep, oL.data = .dict es ep) (PO : Post w h h' (avOf p L) (p.a sd) σ' b' [(L, oL)]) :
  Fr g L h' m ∧ Wd w p (avOf p L) its (setB σ sd σ') (setB b sd b') h' ∧ ∀ x o, h.get? x = some o → tagB o = true → h'.get? x = some o := by
  obtain ⟨n, n1, n2, n3⟩ := Q.ne
  have hm := mods_av (p := p) (L := L) sd (oL := oL)
  obtain ⟨frs', SU, hup⟩ := PO.up
  have F' : Fr g L h' m := by
    cases frs' with
    | nil => exact False.elim SU
    | cons q qs =>
      obtain ⟨su1, ⟨sl, su2⟩, -⟩ := SU
      have hL' : h'.get? L = some { oL with slots := sl } := by have := hup q (.head _); rw [su1, su2] at this; exact this
      exact Fr.sameUp F hL rfl hL' fun x o e => PO.chg x o (F.keep _ _ e) fun q => by rw [Q.gn x (hm x q)] at e; cases e
  have st : Stay (avOf p L) h h' := fun x o e n => PO.chg x o e fun q => n (hm x q)
  refine ⟨F', ⟨W.f.on st, fun q hq => (W.it q hq).on st, fun sd' => ?_, PO.tb⟩, fun x o e t => PO.chg x o e (W.off sd hL hd e t)⟩
  unfold setB
  by_cases q : sd' = sd
  · rw [if_pos q, if_pos q, q]; exact PO.st
  · rw [if_neg q, if_neg q]
    have nm : ∀ x ∈ [(p.a sd').dS, (p.a sd').dX, (p.a sd').dE], x ∉ mods (p.a sd) [(L, oL)] := fun x hx hy => by
      have z := n3 sd' sd q x hx
      simp only [List.map_cons, List.map_nil, List.mem_cons, List.not_mem_nil, or_false, not_or] at hy hx z
      obtain ⟨z1, z2, z3⟩ := z
      obtain ⟨u1, u2, u3, -, ⟨u4, u5, u6⟩, ⟨u7, u8, u9⟩⟩ := n sd'
      rcases hy with r | r | r | r | r | r
      · exact z1 r
      · exact z2 r
      · exact z3 r
      · rcases hx with e | e | e
        · exact u4 (e ▸ r)
        · exact u5 (e ▸ r)
        · exact u6 (e ▸ r)
      · rcases hx with e | e | e
        · exact u7 (e ▸ r)
        · exact u8 (e ▸ r)
        · exact u9 (e ▸ r)
      · rcases hx with e | e | e
        · exact u1 (by rw [← e, r]; simp)
        · exact u2 (by rw [← e, r]; simp)
        · exact u3 (by rw [← e, r]; simp)
    exact (W.s sd').chg PO.chg (nm _ (.head _)) (nm _ (.tail _ (.head _))) (nm _ (.tail _ (.tail _ (.head _)))) hm
theorem Wd.addI {h1 : Heap} {I : Addr} (hx : p.xtra = []) (W : Wd w p (avOf p L) its σ b h) (e : h.get? I = none) (K : Sub h h1) : Wd w { p with xtra := [I] } (avOf { p with xtra := [I] } L) its σ b h1 := by
  have av : avOf { p with xtra := [I] } L = I :: avOf p L := by unfold avOf; rw [hx]; rfl
  rw [av]
  have st : ∀ {h2}, Stay (I :: avOf p L) h1 h2 → Stay (avOf p L) h h2 := fun {h2} s x o ex n => s x o (K _ _ ex) fun q => by
    rcases List.mem_cons.mp q with q | q
    · rw [q, e] at ex; cases ex
    · exact n q
  refine ⟨fun h2 s => ?_, fun q hq h2 s => W.it q hq h2 (st s), fun sd => ((W.s sd).cons e).sub K, (W.tb.cons e).sub K⟩
  obtain ⟨f1, f2, f3, f4, f5, f6, f7, f8, f9⟩ := W.f h2 (st s)
  exact ⟨f1, f2, f3, f4, f5, f6, f7, f8, f9⟩
theorem LQ.addI {I : Addr} (hx : p.xtra = []) (Q : LQ p g L) (hI : I ∉ L :: p.hand :: p.now :: D9 p) (eg : g.get? I = none) : LQ { p with xtra := [I] } g L where
  nd := Q.nd
  xt := fun x hx => by rw [List.mem_singleton.mp hx]; exact hI
  gn := fun x hx' => by
    have : x ∈ I :: (L :: p.hand :: p.now :: D9 p) := hx'
    rcases List.mem_cons.mp this with r | r
    · rw [r]; exact eg
    · exact Q.gn x (by unfold avOf; rw [hx]; exact r)
  lo := Q.lo
  fpe := Q.fpe
  lam := Q.lam
  am := Q.am
  mu := Q.mu
  ah := Q.ah
end

end
section
open TI
inductive Spl (ex : List (Addr × Obj)) : List (Addr × Obj) → List (Addr × Obj) → Prop
  | nil : Spl ex ex []
  | cons {q : Addr × Obj} {l f : List (Addr × Obj)} : Spl ex l f → Spl ex (q :: l) (q :: f)
theorem Spl.eq {ex l f : List (Addr × Obj)} (h : Spl ex l f) : l = f ++ ex := by
  induction h with
  | nil => rfl
  | cons _ ih => rw [ih]; rfl
theorem NamesAt.toB {h hB : Heap} {nm : Addr} {xs : List Str} (H : NamesAt h nm xs) (k : ∀ x o, h.get? x = some o → tagB o = true → hB.get? x = some o) : NamesAt hB nm xs := by
  rcases H with ⟨x, t, n, a, b, e⟩ | ⟨x, y, t, u, n, a, b, c, e⟩
  · exact .inl ⟨x, t, n, a, b, k _ _ e rfl⟩
  · exact .inr ⟨x, y, t, u, n, a, b, c, k _ _ e rfl⟩
theorem nm1 {g h : Heap} {L nm : Addr} {news : List (Addr × Obj)} {x : Str} {t : Tok} (N : News g L h news) (hm : (nm, { cls := .type "tuple", data := .seq ([.str x t] : List Value).toArray }) ∈ news) (hl : x.length ≤ 1000) : NamesAt h nm [x] := .inl ⟨x, t, 0, rfl, hl, (N _ hm).1⟩
theorem nm2 {g h : Heap} {L nm : Addr} {news : List (Addr × Obj)} {x y : Str} {t u : Tok} (N : News g L h news) (hm : (nm, { cls := .type "tuple", data := .seq ([.str x t, .str y u] : List Value).toArray }) ∈ news) (hl : x.length ≤ 1000) (hl2 : y.length ≤ 1000) : NamesAt h nm [x, y] := .inr ⟨x, y, t, u, 0, rfl, hl, hl2, (N _ hm).1⟩
theorem NamesAt.ite {h : Heap} {a b : Addr} {xs ys : List Str} {n : Int} (x : NamesAt h a xs) (y : NamesAt h b ys) : NamesAt h (if n = 0 then a else b) (if n = 0 then xs else ys) := by
  by_cases q : n = 0
  · rw [if_pos q, if_pos q]; exact x
  · rw [if_neg q, if_neg q]; exact y
section
variable {w : World} {p : LP} {A : Around} {E : Value → Shared → Prop} {s : Shared} {Q : Value → Shared → Prop} {env : Env} {g : Heap} {L : Addr} {its : List (Addr × Str × Bool)} {σ : Bool → Sta} {b : Bool → Nat} {m : Str → Option Value} {news front ex : List (Addr × Obj)} {t : Int} {tk : Tok} {ep : Nat} {sd : Bool}
theorem l_gen {c : Sem Value} {σ' : Sta} {Y : Heap → Value → Prop} (Q0 : LQ p g L) (G : Gd w g) (F : Fr g L s.heap m) (N : News g L s.heap news) (T : Tl g L ex (Wd w p (avOf p L) its σ b)) (Sp : Spl ex news front)
  (hnow : (p.now, W.listOf (List.toArray [.int t tk]) ep) ∈ news) (hh : ∃ o, (p.hand, o) ∈ news) (hxt : ∀ x ∈ p.xtra, ∃ o, (x, o) ∈ news) (tg : ∀ q ∈ front, tagB q.2 = true) (ht : 0 ≤ t ∧ t ≤ 1000) (hfr : A.frames = some [env]) (hk : env.scope.kind ≠ .module) (hf : env.frame = some L) (hb : b sd ≤ 50000)
  (call : ∀ hB oL, Gd w hB → Sub hB s.heap → Pre w hB A s.heap (avOf p L) (p.a sd) (σ sd) (b sd) [env] [(L, oL)] → (∀ q ∈ its, ItemAt w hB q.1 q.2.1 p.am p.mu q.2.2) →
    (∀ it ns nm xs, ItemAt w hB it ns p.am p.mu sd → NamesAt s.heap nm xs → LCtx w hB (p.a sd) (p.Ls sd) (p.m0 sd) (p.m1 sd) (p.m2 sd) it nm ns p.am p.mu sd xs (p.T sd t)) →
    (∀ h' tk' v, Y h' v → Post w s.heap h' (avOf p L) (p.a sd) σ' (b sd + 60) [(L, oL)] → Q v {s with heap := h', toks := tk'}) → wpAny (model PySem.Challenge.rw_jn0050_01.row.prog w) A c Q E s)
  (h : ∀ h' tk' v ex', Y h' v → Fr g L h' m → News g L h' (front ++ ex') → Tl g L ex' (Wd w p (avOf p L) its (setB σ sd σ') (setB b sd (b sd + 60))) → (∀ q ∈ ex', q.1 ≠ p.hand ∧ q.1 ≠ p.now ∧ q.1 ∉ p.xtra) → Q v {s with heap := h', toks := tk'}) : wpAny (model PySem.Challenge.rw_jn0050_01.row.prog w) A c Q E s := by
  have e := Sp.eq
  subst e
  have W := T s.heap m F (fun q hq => N q (List.mem_append_right _ hq))
  obtain ⟨oL, es, eq, hL, hLd, -⟩ := id F.ns
  obtain ⟨hB, GB, SB, PB, kB, iB, zB⟩ := W.pre (A := A) Q0 G F.keep hL ⟨es, eq, hLd⟩ (let ⟨o, ho⟩ := hh; ⟨o, (N _ ho).1⟩) (fun x hx => let ⟨o, ho⟩ := hxt x hx; ⟨o, (N _ ho).1⟩) (N _ hnow).1 ht hfr hk hf sd hb
  refine call hB oL GB SB PB iB (fun it ns nm xs hi hn => zB it ns nm xs hi (hn.toB kB)) fun h' tk' v y PO => ?_
  obtain ⟨F', W', k'⟩ := W.post Q0 F hL ⟨es, eq, hLd⟩ PO
  obtain ⟨ex', N', n', T'⟩ := W'.ex Q0 F'
  refine h h' tk' v ex' y F' (fun q hq => ?_) T' n'
  rcases List.mem_append.mp hq with hq | hq
  · have z := N q (List.mem_append_left _ hq)
    exact ⟨k' _ _ z.1 (tg q hq), z.2⟩
  · exact N' q hq
theorem gsec_le (Q0 : LQ p g L) (hmt : p.mu ≤ t) : gsec sd * p.mu ≤ p.T sd t := by
  have a1 := Q0.ah
  cases sd
  · show 1 * p.mu ≤ t; omega
  · show 60 * p.mu ≤ 60 * t + p.ah; omega
abbrev LP.e (p : LP) (sd : Bool) : Int := gsec sd * p.mu
noncomputable abbrev LP.key (p : LP) (sd : Bool) (ns : Str) (xs : List Str) : Str := keyS ns xs p.am p.mu (gname sd)
theorem l_test {it nm : Addr} {ns : Str} {xs : List Str} {k cost : Int} {kw : List (Str × Value)} {tc : Tok} (Q0 : LQ p g L) (G : Gd w g) (R : Rm A 40) (F : Fr g L s.heap m) (N : News g L s.heap news) (T : Tl g L ex (Wd w p (avOf p L) its σ b)) (Sp : Spl ex news front)
  (hnow : (p.now, W.listOf (List.toArray [.int t tk]) ep) ∈ news) (hh : ∃ o, (p.hand, o) ∈ news) (hxt : ∀ x ∈ p.xtra, ∃ o, (x, o) ∈ news) (tg : ∀ q ∈ front, tagB q.2 = true) (ht : 0 ≤ t ∧ t ≤ 1000) (hfr : A.frames = some [env]) (hk : env.scope.kind ≠ .module) (hf : env.frame = some L) (hb : b sd ≤ 50000)
  (hkd : Kd k) (hit : (it, ns, sd) ∈ its) (hnm : NamesAt s.heap nm xs) (hc : 0 ≤ cost ∧ cost ≤ 50) (hkw : KwC kw cost tc (tokT k)) (hmt : p.mu ≤ t)
  (h : ∀ h' tk' ex', Fr g L h' m → News g L h' (front ++ ex') → Tl g L ex' (Wd w p (avOf p L) its (setB σ sd (tstS k (σ sd) (p.T sd t) (p.e sd) (p.key sd ns xs))) (setB b sd (b sd + 60))) → (∀ q ∈ ex', q.1 ≠ p.hand ∧ q.1 ≠ p.now ∧ q.1 ∉ p.xtra) → Q (.bool (tstR k (σ sd) (p.T sd t) (p.e sd) (p.key sd ns xs) p.am cost)) {s with heap := h', toks := tk'}) :
  wpAny (model PySem.Challenge.rw_jn0050_01.row.prog w) A (call (.ref (tstF k)) [.ref (limOf (p.m0 sd) (p.m1 sd) (p.m2 sd) k), .ref it, .ref nm] kw) Q E s := by
  refine l_gen (Y := fun _ v => v = .bool (tstR k (σ sd) (p.T sd t) (p.e sd) (p.key sd ns xs) p.am cost)) Q0 G F N T Sp hnow hh hxt tg ht hfr hk hf hb (fun hB oL GB SB PB iB zB cont => ?_) fun h' tk' v ex' y F' N' T' n' => y ▸ h h' tk' ex' F' N' T' n'
  exact k_test hkd (Rm.mono R (by decide)) GB SB ((zB it ns nm xs (iB _ hit) hnm).ctx hkd) PB hc hkw (gsec_le Q0 hmt) fun h' tk' PO => cont h' tk' _ rfl PO
theorem l_hit {it nm : Addr} {ns : Str} {xs : List Str} {k cost : Int} {tc : Tok} (Q0 : LQ p g L) (G : Gd w g) (R : Rm A 40) (F : Fr g L s.heap m) (N : News g L s.heap news) (T : Tl g L ex (Wd w p (avOf p L) its σ b)) (Sp : Spl ex news front)
  (hnow : (p.now, W.listOf (List.toArray [.int t tk]) ep) ∈ news) (hh : ∃ o, (p.hand, o) ∈ news) (hxt : ∀ x ∈ p.xtra, ∃ o, (x, o) ∈ news) (tg : ∀ q ∈ front, tagB q.2 = true) (ht : 0 ≤ t ∧ t ≤ 1000) (hfr : A.frames = some [env]) (hk : env.scope.kind ≠ .module) (hf : env.frame = some L) (hb : b sd ≤ 50000)
  (hkd : Kd k) (hit : (it, ns, sd) ∈ its) (hnm : NamesAt s.heap nm xs) (hc : 0 ≤ cost ∧ cost ≤ 50) (hmt : p.mu ≤ t)
  (h : ∀ h' tk' ex', Fr g L h' m → News g L h' (front ++ ex') → Tl g L ex' (Wd w p (avOf p L) its (setB σ sd (hitS k (σ sd) (p.T sd t) (p.e sd) (p.key sd ns xs) p.am cost)) (setB b sd (b sd + 60))) → (∀ q ∈ ex', q.1 ≠ p.hand ∧ q.1 ≠ p.now ∧ q.1 ∉ p.xtra) → Q (.bool (hitR k (σ sd) (p.T sd t) (p.e sd) (p.key sd ns xs) p.am cost)) {s with heap := h', toks := tk'}) :
  wpAny (model PySem.Challenge.rw_jn0050_01.row.prog w) A (call (.ref (hitF k)) [.ref (limOf (p.m0 sd) (p.m1 sd) (p.m2 sd) k), .ref it, .ref nm] [(Str.ofString "cost", .int cost tc)]) Q E s := by
  refine l_gen (Y := fun _ v => v = .bool (hitR k (σ sd) (p.T sd t) (p.e sd) (p.key sd ns xs) p.am cost)) Q0 G F N T Sp hnow hh hxt tg ht hfr hk hf hb (fun hB oL GB SB PB iB zB cont => ?_) fun h' tk' v ex' y F' N' T' n' => y ▸ h h' tk' ex' F' N' T' n'
  exact k_hit hkd (Rm.mono R (by decide)) GB SB ((zB it ns nm xs (iB _ hit) hnm).ctx hkd) PB hc (gsec_le Q0 hmt) fun h' tk' PO => cont h' tk' _ rfl PO
theorem l_clear {it nm : Addr} {ns : Str} {xs : List Str} {k : Int} (Q0 : LQ p g L) (G : Gd w g) (R : Rm A 40) (F : Fr g L s.heap m) (N : News g L s.heap news) (T : Tl g L ex (Wd w p (avOf p L) its σ b)) (Sp : Spl ex news front)
  (hnow : (p.now, W.listOf (List.toArray [.int t tk]) ep) ∈ news) (hh : ∃ o, (p.hand, o) ∈ news) (hxt : ∀ x ∈ p.xtra, ∃ o, (x, o) ∈ news) (tg : ∀ q ∈ front, tagB q.2 = true) (ht : 0 ≤ t ∧ t ≤ 1000) (hfr : A.frames = some [env]) (hk : env.scope.kind ≠ .module) (hf : env.frame = some L) (hb : b sd ≤ 50000)
  (hkd : Kd k) (hit : (it, ns, sd) ∈ its) (hnm : NamesAt s.heap nm xs) (hmt : p.mu ≤ t)
  (h : ∀ h' tk' ex', Fr g L h' m → News g L h' (front ++ ex') → Tl g L ex' (Wd w p (avOf p L) its (setB σ sd (clrS k (σ sd) (p.T sd t) (p.e sd) (p.key sd ns xs))) (setB b sd (b sd + 60))) → (∀ q ∈ ex', q.1 ≠ p.hand ∧ q.1 ≠ p.now ∧ q.1 ∉ p.xtra) → Q .none {s with heap := h', toks := tk'}) :
  wpAny (model PySem.Challenge.rw_jn0050_01.row.prog w) A (call (.ref (clrF k)) [.ref (limOf (p.m0 sd) (p.m1 sd) (p.m2 sd) k), .ref it, .ref nm] []) Q E s := by
  refine l_gen (Y := fun _ v => v = .none) Q0 G F N T Sp hnow hh hxt tg ht hfr hk hf hb (fun hB oL GB SB PB iB zB cont => ?_) fun h' tk' v ex' y F' N' T' n' => y ▸ h h' tk' ex' F' N' T' n'
  exact k_clear hkd (Rm.mono R (by decide)) GB SB ((zB it ns nm xs (iB _ hit) hnm).ctx hkd) PB (gsec_le Q0 hmt) fun h' tk' PO => cont h' tk' _ rfl PO
theorem l_stats {it nm : Addr} {ns : Str} {xs : List Str} {k : Int} (Q0 : LQ p g L) (G : Gd w g) (R : Rm A 40) (F : Fr g L s.heap m) (N : News g L s.heap news) (T : Tl g L ex (Wd w p (avOf p L) its σ b)) (Sp : Spl ex news front)
  (hnow : (p.now, W.listOf (List.toArray [.int t tk]) ep) ∈ news) (hh : ∃ o, (p.hand, o) ∈ news) (hxt : ∀ x ∈ p.xtra, ∃ o, (x, o) ∈ news) (tg : ∀ q ∈ front, tagB q.2 = true) (ht : 0 ≤ t ∧ t ≤ 1000) (hfr : A.frames = some [env]) (hk : env.scope.kind ≠ .module) (hf : env.frame = some L) (hb : b sd ≤ 50000)
  (hkd : Kd k) (hit : (it, ns, sd) ∈ its) (hnm : NamesAt s.heap nm xs) (hmt : p.mu ≤ t)
  (h : ∀ h' tk' r ex', Fr g L h' m → News g L h' (front ++ ex') → Tl g L ex' (Wd w p (avOf p L) its (setB σ sd (tstS k (σ sd) (p.T sd t) (p.e sd) (p.key sd ns xs))) (setB b sd (b sd + 60))) → (∀ q ∈ ex', q.1 ≠ p.hand ∧ q.1 ≠ p.now ∧ q.1 ∉ p.xtra) → Q (.ref r) {s with heap := h', toks := tk'}) :
  wpAny (model PySem.Challenge.rw_jn0050_01.row.prog w) A (call (.ref (staF k)) [.ref (limOf (p.m0 sd) (p.m1 sd) (p.m2 sd) k), .ref it, .ref nm] []) Q E s := by
  refine l_gen (Y := fun _ v => ∃ r, v = .ref r) Q0 G F N T Sp hnow hh hxt tg ht hfr hk hf hb (fun hB oL GB SB PB iB zB cont => ?_) fun h' tk' v ex' y F' N' T' n' => y.elim fun r e => e ▸ h h' tk' r ex' F' N' T' n'
  exact k_stats hkd (Rm.mono R (by decide)) GB SB ((zB it ns nm xs (iB _ hit) hnm).ctx hkd) PB (gsec_le Q0 hmt) fun h' tk' r d v1 t2 _ _ _ _ _ PO => cont h' tk' _ ⟨r, rfl⟩ PO
theorem l_step {it nm : Addr} {ns : Str} {xs : List Str} {k cost deed : Int} {t1 t2 t3 : Tok} (Q0 : LQ p g L) (G : Gd w g) (R : Rm A 40) (F : Fr g L s.heap m) (N : News g L s.heap news) (T : Tl g L ex (Wd w p (avOf p L) its σ b)) (Sp : Spl ex news front)
  (hnow : (p.now, W.listOf (List.toArray [.int t tk]) ep) ∈ news) (hh : ∃ o, (p.hand, o) ∈ news) (hxt : ∀ x ∈ p.xtra, ∃ o, (x, o) ∈ news) (tg : ∀ q ∈ front, tagB q.2 = true) (ht : 0 ≤ t ∧ t ≤ 1000) (hfr : A.frames = some [env]) (hk : env.scope.kind ≠ .module) (hf : env.frame = some L) (hb : b sd ≤ 50000)
  (hkd : Kd k) (hit : (it, ns, sd) ∈ its) (hnm : NamesAt s.heap nm xs) (hc : 0 ≤ cost ∧ cost ≤ 50) (hdd : 0 ≤ deed ∧ deed ≤ 7) (hmt : p.mu ≤ t)
  (h : ∀ h' tk' ex', Fr g L h' m → News g L h' (front ++ ex') → Tl g L ex' (Wd w p (avOf p L) its (setB σ sd (stepS deed k (σ sd) (p.T sd t) (p.e sd) (p.key sd ns xs) p.am cost)) (setB b sd (b sd + 60))) → (∀ q ∈ ex', q.1 ≠ p.hand ∧ q.1 ≠ p.now ∧ q.1 ∉ p.xtra) → Q (stepV deed k (σ sd) (p.T sd t) (p.e sd) (p.key sd ns xs) p.am cost) {s with heap := h', toks := tk'}) :
  wpAny (model PySem.Challenge.rw_jn0050_01.row.prog w) A (call (.ref 721) [.ref (p.Ls sd), .ref (p.a sd).st, .int deed t1, .int k t2, .ref it, .ref nm, .int cost t3] []) Q E s := by
  refine l_gen (Y := fun _ v => v = stepV deed k (σ sd) (p.T sd t) (p.e sd) (p.key sd ns xs) p.am cost) Q0 G F N T Sp hnow hh hxt tg ht hfr hk hf hb (fun hB oL GB SB PB iB zB cont => ?_) fun h' tk' v ex' y F' N' T' n' => y ▸ h h' tk' ex' F' N' T' n'
  exact c_lstep hkd R GB SB (zB it ns nm xs (iB _ hit) hnm) PB hc hdd (gsec_le Q0 hmt) fun h' tk' PO => cont h' tk' _ rfl PO
theorem l_lstats {it nm : Addr} {ns : Str} {xs : List Str} {k : Int} {t2 : Tok} (Q0 : LQ p g L) (G : Gd w g) (R : Rm A 40) (F : Fr g L s.heap m) (N : News g L s.heap news) (T : Tl g L ex (Wd w p (avOf p L) its σ b)) (Sp : Spl ex news front)
  (hnow : (p.now, W.listOf (List.toArray [.int t tk]) ep) ∈ news) (hh : ∃ o, (p.hand, o) ∈ news) (hxt : ∀ x ∈ p.xtra, ∃ o, (x, o) ∈ news) (tg : ∀ q ∈ front, tagB q.2 = true) (ht : 0 ≤ t ∧ t ≤ 1000) (hfr : A.frames = some [env]) (hk : env.scope.kind ≠ .module) (hf : env.frame = some L) (hb : b sd ≤ 50000)
  (hkd : Kd k) (hit : (it, ns, sd) ∈ its) (hnm : NamesAt s.heap nm xs) (hmt : p.mu ≤ t)
  (h : ∀ h' tk' r q u1 u2 u3 ex', Fr g L h' m → News g L h' ((r, itup (.ref q) (.int (staR k (σ sd) (p.T sd t) (p.e sd) (p.key sd ns xs) p.am) u3)) :: (q, itup (.int (staN k (σ sd) (p.T sd t) (p.e sd) (p.key sd ns xs)) u1) (.int (staD k (σ sd) (p.T sd t) (p.e sd) (p.key sd ns xs)) u2)) :: (front ++ ex')) → Tl g L ex' (Wd w p (avOf p L) its (setB σ sd (tstS k (σ sd) (p.T sd t) (p.e sd) (p.key sd ns xs))) (setB b sd (b sd + 60))) → (∀ q ∈ ex', q.1 ≠ p.hand ∧ q.1 ≠ p.now ∧ q.1 ∉ p.xtra) → Q (.ref r) {s with heap := h', toks := tk'}) :
  wpAny (model PySem.Challenge.rw_jn0050_01.row.prog w) A (call (.ref 714) [.ref (p.Ls sd), .int k t2, .ref it, .ref nm] []) Q E s := by
  refine l_gen (σ' := tstS k (σ sd) (p.T sd t) (p.e sd) (p.key sd ns xs)) (Y := fun h' v => ∃ r q u1 u2 u3, v = .ref r ∧ s.heap.get? r = none ∧ s.heap.get? q = none ∧ h'.get? r = some (itup (.ref q) (.int (staR k (σ sd) (p.T sd t) (p.e sd) (p.key sd ns xs) p.am) u3)) ∧ h'.get? q = some (itup (.int (staN k (σ sd) (p.T sd t) (p.e sd) (p.key sd ns xs)) u1) (.int (staD k (σ sd) (p.T sd t) (p.e sd) (p.key sd ns xs)) u2))) Q0 G F N T Sp hnow hh hxt tg ht hfr hk hf hb (fun hB oL GB SB PB iB zB cont => ?_) fun h' tk' v ex' y F' N' T' n' => ?_
  · exact c_lstats hkd R GB SB (zB it ns nm xs (iB _ hit) hnm) PB (gsec_le Q0 hmt) fun h' tk' r q u1 u2 u3 e1 e2 e3 e4 PO => cont h' tk' _ ⟨r, q, u1, u2, u3, rfl, e1, e2, e3, e4⟩ PO
  · obtain ⟨r, q, u1, u2, u3, rfl, e1, e2, e3, e4⟩ := y
    have fresh : ∀ {x}, s.heap.get? x = none → x ≠ L ∧ g.get? x = none := fun {x} e => by
      constructor
      · intro z
        obtain ⟨oL, es, eq, hL, -⟩ := F.ns
        rw [z, hL] at e; cases e
      · cases z : g.get? x with
        | none => rfl
        | some o => have := F.keep _ _ z; rw [e] at this; cases this
    refine h h' tk' r q u1 u2 u3 ex' F' (fun x hx => ?_) T' n'
    rcases List.mem_cons.mp hx with rfl | hx
    · exact ⟨e3, fresh e1⟩
    rcases List.mem_cons.mp hx with rfl | hx
    · exact ⟨e4, fresh e2⟩
    · exact N' x hx
end

end
section
open TI
theorem u_lims {w : World} {A : Around} {E : Value → Shared → Prop} {s : Shared} {Q : Value → Shared → Prop} {hB : Heap} {st : Addr} {g : Heap} {L : Addr} {m : Str → Option Value} {news : List (Addr × Obj)} (R : Rm A 20) (G : Gd w hB) (Sg : Sub hB g) (F : Fr g L s.heap m) (N : News g L s.heap news)
  (h : ∀ (h' : Heap) (tk' : Nat) (Ls l0 d0 l1 d1 l2 d2 : Addr) (ep n0 n1 n2 : Nat) (t0 t1 t2 : Tok), Fr g L h' m → News g L h' (limsL w st Ls l0 d0 l1 d1 l2 d2 ep n0 n1 n2 t0 t1 t2 ++ news) → Q (.ref Ls) {s with heap := h', toks := tk'}) :
  wpAny (model PySem.Challenge.rw_jn0050_01.row.prog w) A (call (.ref 707) [.ref st] []) Q E s :=
  c_lims R G (fun b o e => F.keep b o (Sg b o e)) fun h' tk' Ls l0 d0 l1 d1 l2 d2 ep n0 n1 n2 t0 t1 t2 K e => h h' tk' Ls l0 d0 l1 d1 l2 d2 ep n0 n1 n2 t0 t1 t2 (Fr.grow F K) (fun q hq => by
    rcases List.mem_append.mp hq with hq | hq
    · obtain ⟨e1, e2⟩ := e q hq
      refine ⟨e2, fun z => ?_, ?_⟩
      · obtain ⟨oL, es, eq, hL, -⟩ := F.ns
        rw [z, hL] at e1; cases e1
      · cases z : g.get? q.1 with
        | none => rfl
        | some o => have := F.keep _ _ z; rw [e1] at this; cases this
    · exact ⟨K _ _ (N q hq).1, (N q hq).2⟩)

end

theorem reg_N2 : True := by
  (k_with "callWith ref" => (((with_reducible show wpAny _ _ (callWith _ (Value.ref 691) _ _ _) _ _ _); k_dflt (refine' callWith_K (f := .ref 691) ?k1z0N2 ?k2z0N2 ?_; (case k1z0N2 => k_asm); (case k2z0N2 => k_is)))))
  (k_with "callWith ref" => (((with_reducible show wpAny _ _ (callWith _ (Value.ref 707) _ _ _) _ _ _); k_dflt (refine' callWith_K (f := .ref 707) ?k1z1N2 ?k2z1N2 ?_; (case k1z1N2 => k_asm); (case k2z1N2 => k_is)))))
  (k_with "callWith ref" => (((with_reducible show wpAny _ _ (callWith _ (Value.ref 518) _ _ _) _ _ _); k_dflt (refine' callWith_K (f := .ref 518) ?k1z2N2 ?k2z2N2 ?_; (case k1z2N2 => k_asm); (case k2z2N2 => k_is)))))
  (k_with "callWith ref" => (((with_reducible show wpAny _ _ (callWith _ (Value.ref 501) _ _ _) _ _ _); k_dflt (refine' callWith_K (f := .ref 501) ?k1z3N2 ?k2z3N2 ?_; (case k1z3N2 => k_asm); (case k2z3N2 => k_is)))))
  (k_with "call ref" => (((with_reducible show wpAny _ _ (call (Value.ref 691) _ _) _ _ _); k_dflt (refine' u_store ?Rz4N2 ?Gz4N2 ?Sgz4N2 ?Fz4N2 ?Nz4N2 ?Xz4N2 ?_; (case Rz4N2 => exact Rm.mono (Rm.deeper _ (by assumption)) (by decide)); (case Gz4N2 => assumption); (case Sgz4N2 => exact Sub.refl _); (case Fz4N2 => k_asm); (case Nz4N2 => k_asm); (case Xz4N2 => k_asm)); intro h'z4N2 tk'z4N2 x'z4N2 dx'z4N2 dS'z4N2 dX'z4N2 dE'z4N2 oS'z4N2 oX'z4N2 oE'z4N2 n'z4N2 t1'z4N2 t2'z4N2 t3'z4N2 t4'z4N2 F'z4N2 N'z4N2 l1z4N2 l2z4N2 l3z4N2 l4z4N2 l5z4N2 l6z4N2 l7z4N2 l8z4N2; (k_dflt (have z3z4N2 : @Ne Nat _ 723 := (l3z4N2 (723, _) (by k_mem)).symm)); (k_dflt (have z4z4N2 : @Ne Nat _ 723 := (l4z4N2 (723, _) (by k_mem)).symm)); (k_dflt (have z5z4N2 : @Ne Nat _ 723 := (l5z4N2 (723, _) (by k_mem)).symm)); (try k_lt l1z4N2); (try k_lt2 l2z4N2))))
  (k_with "call ref" => (((with_reducible show wpAny _ _ (call (Value.ref 707) _ _) _ _ _); k_dflt (refine' u_lims ?Rz5N2 ?Gz5N2 ?Sgz5N2 ?Fz5N2 ?Nz5N2 ?_; (case Rz5N2 => exact Rm.mono (Rm.deeper _ (by assumption)) (by decide)); (case Gz5N2 => assumption); (case Sgz5N2 => exact Sub.refl _); (case Fz5N2 => k_asm); (case Nz5N2 => k_asm)); intro h'z5N2 tk'z5N2 Ls'z5N2 l0'z5N2 d0'z5N2 l1'z5N2 d1'z5N2 l2'z5N2 d2'z5N2 ep'z5N2 n0'z5N2 n1'z5N2 n2'z5N2 t0'z5N2 t1'z5N2 t2'z5N2 F'z5N2 N'z5N2; (simp only [limsL, List.cons_append, List.nil_append] at N'z5N2))))
  (k_with "call ref" => (((with_reducible show wpAny _ _ (call (Value.ref 518) _ _) _ _ _); k_dflt (refine' u_item0 ?Rz6N2 ?Gz6N2 ?Sgz6N2 ?Fz6N2 ?Nz6N2 ?Xz6N2 ?hmuz6N2 ?_; (case Rz6N2 => exact Rm.mono (Rm.deeper _ (by assumption)) (by decide)); (case Gz6N2 => assumption); (case Sgz6N2 => exact Sub.refl _); (case Fz6N2 => k_asm); (case Nz6N2 => k_asm); (case Xz6N2 => k_asm); (case hmuz6N2 => exact ⟨by omega, by omega⟩)); intro h'z6N2 tk'z6N2 x'z6N2 dx'z6N2 t1'z6N2 t2'z6N2 t3'z6N2 u1'z6N2 u2'z6N2 u3'z6N2 n'z6N2 F'z6N2 N'z6N2 l1z6N2 l2z6N2 l3z6N2; clear l1z6N2 l2z6N2 l3z6N2)))
  (k_with "call ref" => (((with_reducible show wpAny _ _ (call (Value.ref 501) _ _) _ _ _); k_dflt (refine' u_item1 ?Rz7N2 ?Gz7N2 ?Sgz7N2 ?Fz7N2 ?Nz7N2 ?Xz7N2 ?hmuz7N2 ?_; (case Rz7N2 => exact Rm.mono (Rm.deeper _ (by assumption)) (by decide)); (case Gz7N2 => assumption); (case Sgz7N2 => exact Sub.refl _); (case Fz7N2 => k_asm); (case Nz7N2 => k_asm); (case Xz7N2 => k_asm); (case hmuz7N2 => exact ⟨by omega, by omega⟩)); intro h'z7N2 tk'z7N2 x'z7N2 dx'z7N2 t1'z7N2 t2'z7N2 t3'z7N2 u1'z7N2 u2'z7N2 u3'z7N2 n'z7N2 F'z7N2 N'z7N2 l1z7N2 l2z7N2 l3z7N2; clear l1z7N2 l2z7N2 l3z7N2)))
  trivial
section
section
open TI
variable {w : World} {A : Around} {E : Value → Shared → Prop} {s : Shared} {hB : Heap}
theorem enterLC {kf c' : Addr} {nm qual : Str} {params : Arguments} {body : PySem.Expr} {scope : Scope} {cl : List (Str × Addr)} {pm ctv : Value} {pos : List Value} {binds : List (Str × Value)} {n : Nat} {Q : Value → Shared → Prop} (R : Rm A n) (G : Gd w hB) (k : Sub hB s.heap)
    (hf : hB.get? kf = some (kla_obj nm qual params body scope cl pm c' ctv)) (hc : hB.CodeRec (.ref c') qual)
    (hbind : bindArgs (kla_fn nm qual params body scope cl pm (.ref c') ctv) ⟨pos, []⟩ = pure binds) (hloc : ∀ y ∈ binds, scope.names.lookup y.1 = some .local)
    (h : ∀ L h₁, Fr s.heap L h₁ (fun y => binds.reverse.lookup y) → wpAny (model PySem.Challenge.rw_jn0050_01.row.prog w) (A.deeper (envX qual scope L kf (.ref c') cl)) (eval body (envX qual scope L kf (.ref c') cl)) Q (fun _ _ => False) { s with heap := h₁, toks := s.toks + binds.length })
    (hco : scope.isCoroutine = false) (hgen : scope.isGenerator = false) (hk : scope.kind = .function) (hcell : ∀ x ∈ scope.names, x.2 ≠ .cell) : wpAny (model PySem.Challenge.rw_jn0050_01.row.prog w) A (call (.ref kf) pos []) Q E s := by
  have G' := G.keeps k
  refine wpAny_call (kla_callFunE R.room (k _ _ hf) rfl hco hgen rfl (CodeRec.stay (av := []) hc (by simp) (Stay.sub k)) ?_)
  rw [hbind]
  refine wpAny_pure (wpAny_newFunctionEnv hcell hloc (fun h₁ hns hsb => ⟨(G'.nolimit).fresh _ hsb, ?_⟩) hk)
  show codeAny _ _ (.expr body (envX qual scope s.heap.objs.size kf (.ref c') cl)) _ _
  have hk₁ : ∀ b o, s.heap.get? b = some o → h₁.get? b = some o := fun b o e => hsb.extBut b o (Nat.ne_of_lt (Heap.lt_size e)) (Heap.get?_push_of_some _ e)
  exact kla_codeExpr (wpAny_mono (h _ h₁ ⟨hns, hk₁, Nat.le_refl _⟩) (fun v s' q => q) fun _ _ y => y.elim)
theorem nameFree {M : Model} {g : Heap} {L a c : Addr} {m : Str → Option Value} {cn : Str} {cs : Scope} {ccd : Value} {cl : List (Str × Addr)} {x : Str} {pos : Pos} {v : Value} {o : Obj} {Q : Value → Shared → Prop} (F : Fr g L s.heap m) (hc : cl.lookup x = some c) (hm : g.get? c = some o) (hd : o.data = .cell (some v)) (h : Q v s)
    (hk : cs.kind = .function := by rfl) (hx : (envX cn cs L a ccd cl).kindOf x = some .free := by rfl) (hb : (x == ("__debug__" : Str)) = false := by decide) (hn : (x == ("__classdict__" : Str)) = false := by decide) :
    wpAny M A (eval (.Name x pos) (envX cn cs L a ccd cl)) Q E s := wpAny_Name (wpAny_loadName_free hk hx hc ⟨o, F.keep _ _ hm, hd⟩ h hn) hb
abbrev parN : Arguments := { posonlyargs := [], args := [], vararg := none, kwonlyargs := [], kw_defaults := [], kwarg := none, defaults := [] }
abbrev bodS : PySem.Expr := ((Expr.Name (Str.ofString "now") { line := 582, col := 34, endLine := 582, endCol := 37 }).Subscript (Expr.Constant (Const.int 0) 0 { line := 582, col := 38, endLine := 582, endCol := 39 }) { line := 582, col := 34, endLine := 582, endCol := 40 })
abbrev scS : Scope := { kind := ScopeKind.function, names := [(Str.ofString "now", NameKind.free)], isGenerator := false, isCoroutine := false }
abbrev bodB : PySem.Expr := (((Expr.Constant (Const.int 60) 0 { line := 583, col := 34, endLine := 583, endCol := 36 }).BinOp Operator.Mult ((Expr.Name (Str.ofString "now") { line := 583, col := 39, endLine := 583, endCol := 42 }).Subscript (Expr.Constant (Const.int 0) 0 { line := 583, col := 43, endLine := 583, endCol := 44 }) { line := 583, col := 39, endLine := 583, endCol := 45 }) { line := 583, col := 34, endLine := 583, endCol := 45 }).BinOp Operator.Add (Expr.Name (Str.ofString "ahead") { line := 583, col := 48, endLine := 583, endCol := 53 }) { line := 583, col := 34, endLine := 583, endCol := 53 })
abbrev scB : Scope := { kind := ScopeKind.function, names := [(Str.ofString "ahead", NameKind.free), (Str.ofString "now", NameKind.free)], isGenerator := false, isCoroutine := false }
end
theorem reg_CKx1 : True := by
  (k_with "eval Name" => ((k_dflt (refine' nameFree ?Fz0CKx1 ?cz0CKx1 ?gz0CKx1 ?dz0CKx1 ?_; (case Fz0CKx1 => k_asm); (case cz0CKx1 => rfl); (case gz0CKx1 => assumption); (case dz0CKx1 => assumption)))))
  trivial
section
open TI
variable {w : World} {h : Heap}
theorem clkS1 {lam now cN c' : Addr} {qual : Str} {pm ct : Value} {oN oc : Obj} {vs : Array Value} {t0 : Tok} (h1 : h.get? lam = some (kla_obj "<lambda>" qual parN bodS scS [(Str.ofString "now", cN)] pm c' ct)) (h2 : h.get? cN = some oN) (h3 : oN.data = .cell (some (.ref now))) (h4 : h.get? c' = some oc) (h5 : oc.data = .fields vs) (h6 : vs[1]? = some (.str qual t0)) :
  ClkS w h lam now [lam, cN, c'] (fun t => t) := by
  intro hB t tk ep G kf hn ht0 ht1 s A E Q R kS kk q
  have b1 := kf lam (by simp) _ h1
  have b2 := kf cN (by simp) _ h2
  have b4 := kf c' (by simp) _ h4
  obtain ⟨hA, da, fa, ga, ua⟩ := A
  have hha := R.hd
  dsimp only at hha
  subst hha
  refine enterLC (binds := []) R G kS b1 ⟨c', oc, vs, t0, rfl, b4, h5, h6⟩ rfl (fun _ q => nomatch q) (fun L h₁ F => ?_) rfl rfl rfl (by decide)
  have N : News s.heap L h₁ [] := News.nil
  have X := (G.keeps kS).X
  obtain ⟨p, loose, mean, mg, mb, T0⟩ := (G.keeps kS).T
  have g2 := kS _ _ b2
  have hl : s.heap.IsList now (List.toArray [.int t tk]) := ⟨_, kS _ _ hn, rfl, ep, rfl⟩
  have hx : ([.int t tk] : List Value)[(0 : Int).toNat]? = some (.int t tk) := rfl
  have hx2 : ([.int t tk] : List Value)[((0 : Nat) : Int).toNat]? = some (.int t tk) := rfl
  clear b1 b2 b4 h1 h2 h4 kf
  k_steps
  exact q _ _ _ (Fr.keep (by k_asm))
theorem clkS2 {lam now cN cA c' : Addr} {qual : Str} {pm ct : Value} {oN oA oc : Obj} {vs : Array Value} {t0 ta : Tok} {ah : Int} (ha : 0 ≤ ah ∧ ah ≤ 5000) (h1 : h.get? lam = some (kla_obj "<lambda>" qual parN bodB scB [(Str.ofString "now", cN), (Str.ofString "ahead", cA)] pm c' ct)) (h2 : h.get? cN = some oN) (h3 : oN.data = .cell (some (.ref now))) (h2' : h.get? cA = some oA) (h3' : oA.data = .cell (some (.int ah ta))) (h4 : h.get? c' = some oc) (h5 : oc.data = .fields vs) (h6 : vs[1]? = some (.str qual t0)) :
  ClkS w h lam now [lam, cN, cA, c'] (fun t => 60 * t + ah) := by
  intro hB t tk ep G kf hn ht0 ht1 s A E Q R kS kk q
  have b1 := kf lam (by simp) _ h1
  have b2 := kf cN (by simp) _ h2
  have b3 := kf cA (by simp) _ h2'
  have b4 := kf c' (by simp) _ h4
  obtain ⟨hA, da, fa, ga, ua⟩ := A
  have hha := R.hd
  dsimp only at hha
  subst hha
  refine enterLC (binds := []) R G kS b1 ⟨c', oc, vs, t0, rfl, b4, h5, h6⟩ rfl (fun _ q => nomatch q) (fun L h₁ F => ?_) rfl rfl rfl (by decide)
  have N : News s.heap L h₁ [] := News.nil
  have X := (G.keeps kS).X
  obtain ⟨p, loose, mean, mg, mb, T0⟩ := (G.keeps kS).T
  have g2 := kS _ _ b2
  have g3 := kS _ _ b3
  have hl : s.heap.IsList now (List.toArray [.int t tk]) := ⟨_, kS _ _ hn, rfl, ep, rfl⟩
  have hx : ([.int t tk] : List Value)[(0 : Int).toNat]? = some (.int t tk) := rfl
  have hx2 : ([.int t tk] : List Value)[((0 : Nat) : Int).toNat]? = some (.int t tk) := rfl
  have hmo : IntMulOk 60 t := IntMulOk.of_right (intBits_le_64 (by omega) (by omega))
  clear b1 b2 b3 b4 h1 h2 h2' h4 kf
  k_steps
  exact q _ _ _ (Fr.keep (by k_asm))
end

end
section
open TI
noncomputable def ocode (o : Obj) : Nat := match o.data with | .seq a _ => 10 + a.size | .cell _ => 2 | .dict es _ => if es.size = 0 then 3 else 7 | .fields a => 1000 + a.size | .func _ => 5 | _ => 6
theorem ocode_empty {w : World} {o : Obj} (H : o.IsDictOf (PySem.strKind PySem.Challenge.rw_jn0050_01.row.prog w) []) : ocode o = 3 := by
  obtain ⟨es, ep, -, e, -, pr, -⟩ := H
  have : es.toList = [] := by cases h : es.toList with
    | nil => rfl
    | cons a l => rw [h] at pr; cases pr
  unfold ocode
  rw [e]
  show (if es.size = 0 then 3 else 7) = 3
  rw [if_pos (by rw [← Array.length_toList, this]; rfl)]
noncomputable def Sta.nil : Sta := ⟨fun _ => none, fun _ => none, fun _ => none⟩
section
variable {w : World} {g h : Heap} {L : Addr} {m : Str → Option Value}
theorem ClkS.on {h' : Heap} {lam now : Addr} {fp : List Addr} {f : Int → Int} (C : ClkS w h lam now fp f) (k : ∀ b ∈ fp, ∀ o, h.get? b = some o → h'.get? b = some o) : ClkS w h' lam now fp f :=
  fun hB t tk ep G kf => C hB t tk ep G fun b hb o e => kf b hb o (k b hb o e)
theorem empty_at {d : Addr} {o : Obj} (e : h.get? d = some o) (H : o.IsDictOf (PySem.strKind PySem.Challenge.rw_jn0050_01.row.prog w) []) : AtI w h d (fun _ => none) 0 := ⟨o, e, [], H, Nat.le_refl _, fun _ => rfl⟩
theorem empty_atE {av : List Addr} {d : Addr} {o : Obj} (e : h.get? d = some o) (H : o.IsDictOf (PySem.strKind PySem.Challenge.rw_jn0050_01.row.prog w) []) : AtE w av h d (fun _ => none) 0 :=
  ⟨[], Heap.dictOf_iff.mpr ⟨o, e, H⟩, Nat.le_refl _, fun _ => rfl, fun _ _ q => nomatch q⟩
theorem code_big {n : Nat} (h : 0 < n) : 1000 + n ≠ 12 ∧ 1000 + n ≠ 11 ∧ 1000 + n ≠ 3 ∧ 1000 + n ≠ 1000 := ⟨by omega, by omega, by omega, by omega⟩
theorem all_c {a y : Addr} {l : List Addr} (h : a ≠ y) (r : ∀ x ∈ l, a ≠ x) : ∀ x ∈ y :: l, a ≠ x := List.forall_mem_cons.mpr ⟨h, r⟩
theorem nod_c {a : Addr} {l : List Addr} (h : ∀ x ∈ l, a ≠ x) (n : l.Nodup) : (a :: l).Nodup := List.nodup_cons.mpr ⟨fun m => h a m rfl, n⟩
theorem nin_c {x a : Addr} {l : List Addr} (h : x ≠ a) (r : x ∉ l) : x ∉ a :: l := fun m => (List.mem_cons.mp m).elim h r
noncomputable def At (h : Heap) (L x : Addr) (o : Obj) : Prop := h.get? x = some o ∧ x ≠ L
theorem N_tl {q : Addr × Obj} {l : List (Addr × Obj)} (N : News g L h (q :: l)) : News g L h l := fun p hp => N p (.tail _ hp)
theorem N_at {x : Addr} {o : Obj} {l : List (Addr × Obj)} (N : News g L h ((x, o) :: l)) : At h L x o := ⟨(N _ (.head _)).1, (N _ (.head _)).2.1⟩
theorem N_g {x : Addr} {o : Obj} {l : List (Addr × Obj)} (N : News g L h ((x, o) :: l)) : g.get? x = none := (N _ (.head _)).2.2
theorem law_core {x1 dx1 dS1 dX1 dE1 f1 c1 x2 dx2 dS2 dX2 dE2 f2 c2 nw hd cN cA : Addr} {Ls1 p0 e0 p1 e1 p2 e2 Ls2 q0 r0 q1 r1 q2 r2 x3 dx3 x4 dx4 : Addr} {oS1 oX1 oE1 oS2 oX2 oE2 oc1 oc2 oN oA : Obj} {am mu ah t0 kk : Int} {scr : Value}
  {b1 b2 b3 b4 b5 b6 d1 d2 d3 d4 d5 d6 y1 y2 y3 z1 z2 z3 u1 u2 u3 u4 v1 v2 v3 v4 tk0 tk1 ta w1 w2 : Tok} {n1 n2 n3 n4 n5 n6 n7 n8 n9 n10 n11 n12 ep0 ep1 : Nat} {Q1 Q2 : Str} {pm1 ct1 pm2 ct2 : Value} {vs1 vs2 ps3 : Array Value} {newsX : List (Addr × Obj)}
  (F : Fr g L h m)
  (A_x4 : At h L x4 (instObj 501 dx4))
  (A_dx4 : At h L dx4 (itemD w "other" am mu b1 b2 b3 b4 b5 b6 n1))
  (A_x3 : At h L x3 (instObj 518 dx3))
  (A_dx3 : At h L dx3 (itemD w "LIMITER" am mu d1 d2 d3 d4 d5 d6 n2))
  (A_Ls2 : At h L Ls2 (W.listOf (List.toArray [.ref q0, .ref q1, .ref q2]) n3))
  (A_q2 : At h L q2 (instObj 296 r2))
  (A_r2 : At h L r2 (limD w x2 y1 n4))
  (A_q1 : At h L q1 (instObj 202 r1))
  (A_r1 : At h L r1 (limD w x2 y2 n5))
  (A_q0 : At h L q0 (instObj 241 r0))
  (A_r0 : At h L r0 (limD w x2 y3 n6))
  (A_Ls1 : At h L Ls1 (W.listOf (List.toArray [.ref p0, .ref p1, .ref p2]) n7))
  (A_p2 : At h L p2 (instObj 296 e2))
  (A_e2 : At h L e2 (limD w x1 z1 n8))
  (A_p1 : At h L p1 (instObj 202 e1))
  (A_e1 : At h L e1 (limD w x1 z2 n9))
  (A_p0 : At h L p0 (instObj 241 e0))
  (A_e0 : At h L e0 (limD w x1 z3 n10))
  (A_x2 : At h L x2 (instObj 691 dx2))
  (A_dx2 : At h L dx2 (storeD w f2 dS2 dX2 dE2 u1 u2 u3 u4 n11))
  (A_dS2 : At h L dS2 (oS2))
  (A_dX2 : At h L dX2 (oX2))
  (A_dE2 : At h L dE2 (oE2))
  (A_f2 : At h L f2 (kla_obj "<lambda>" Q2 parN bodB scB [(Str.ofString "now", cN), (Str.ofString "ahead", cA)] pm2 c2 ct2))
  (A_c2 : At h L c2 (oc2))
  (A_x1 : At h L x1 (instObj 691 dx1))
  (A_dx1 : At h L dx1 (storeD w f1 dS1 dX1 dE1 v1 v2 v3 v4 n12))
  (A_dS1 : At h L dS1 (oS1))
  (A_dX1 : At h L dX1 (oX1))
  (A_dE1 : At h L dE1 (oE1))
  (A_f1 : At h L f1 (kla_obj "<lambda>" Q1 parN bodS scS [(Str.ofString "now", cN)] pm1 c1 ct1))
  (A_c1 : At h L c1 (oc1))
  (A_nw : At h L nw (W.listOf (List.toArray [.int t0 tk0]) ep0))
  (A_hd : At h L hd (W.listOf (List.toArray [scr, .int kk tk1]) ep1))
  (A_cN : At h L cN (oN))
  (A_cA : At h L cA (oA))
  (A_t640 : At h L 640 (tabObj #[]))
  (A_t588 : At h L 588 (tabObj #[]))
  (A_t723 : At h L 723 (tabObj ps3))
  (g_hd : g.get? hd = none) (g_nw : g.get? nw = none) (g_dS1 : g.get? dS1 = none) (g_dX1 : g.get? dX1 = none) (g_dE1 : g.get? dE1 = none) (g_dS2 : g.get? dS2 = none) (g_dX2 : g.get? dX2 = none) (g_dE2 : g.get? dE2 = none) (g_t640 : g.get? 640 = none) (g_t588 : g.get? 588 = none)
  (a1 : Ap3 dS1 dX1 dE1) (a2 : Ap3 dS2 dX2 dE2) (i1 : oS1.IsDictOf (PySem.strKind PySem.Challenge.rw_jn0050_01.row.prog w) [] ∧ oX1.IsDictOf (PySem.strKind PySem.Challenge.rw_jn0050_01.row.prog w) [] ∧ oE1.IsDictOf (PySem.strKind PySem.Challenge.rw_jn0050_01.row.prog w) [])
  (i2 : oS2.IsDictOf (PySem.strKind PySem.Challenge.rw_jn0050_01.row.prog w) [] ∧ oX2.IsDictOf (PySem.strKind PySem.Challenge.rw_jn0050_01.row.prog w) [] ∧ oE2.IsDictOf (PySem.strKind PySem.Challenge.rw_jn0050_01.row.prog w) [])
  (l1 : (dS1 == sysModules) = false ∧ (dX1 == sysModules) = false ∧ (dE1 == sysModules) = false) (l2 : (dS2 == sysModules) = false ∧ (dX2 == sysModules) = false ∧ (dE2 == sysModules) = false)
  (hS : ∀ p ∈ newsX, p.1 ≠ dS2) (hX : ∀ p ∈ newsX, p.1 ≠ dX2) (hE : ∀ p ∈ newsX, p.1 ≠ dE2) (mx : (dS1, oS1) ∈ newsX ∧ (dX1, oX1) ∈ newsX ∧ (dE1, oE1) ∈ newsX)
  (k1 : oc1.data = .fields vs1) (k2 : vs1[1]? = some (.str Q1 w1)) (k3 : oc2.data = .fields vs2) (k4 : vs2[1]? = some (.str Q2 w2)) (kN : oN.data = .cell (some (.ref nw))) (kA : oA.data = .cell (some (.int ah ta)))
  (k5 : ps3.size ≠ 0) (ham : 0 ≤ am ∧ am ≤ 5) (hmu : 1 ≤ mu ∧ mu ≤ 7) (hah : 0 ≤ ah ∧ ah ≤ 5000) :
  ∃ p : LP, (p.xtra = [] ∧ p.hand = hd ∧ p.now = nw ∧ p.am = am ∧ p.mu = mu ∧ p.ah = ah ∧ p.Ls false = Ls1 ∧ p.Ls true = Ls2 ∧ (p.a false).st = x1 ∧ (p.a true).st = x2) ∧ LQ p g L ∧ Wd w p (avOf p L) [(x3, "LIMITER", false), (x4, "other", true)] (fun _ => Sta.nil) (fun _ => 0) h := by
  have ne : ∀ {x y : Addr} {o o' : Obj}, h.get? x = some o → h.get? y = some o' → ocode o ≠ ocode o' → x ≠ y := fun {x y o o'} e1 e2 n z => n (by rw [z, e2] at e1; cases e1; rfl)
  have cS1 := ocode_empty i1.1
  have cX1 := ocode_empty i1.2.1
  have cE1 := ocode_empty i1.2.2
  have cS2 := ocode_empty i2.1
  have cX2 := ocode_empty i2.2.1
  have cE2 := ocode_empty i2.2.2
  let A1 : SA := ⟨x1, dx1, f1, dS1, dX1, dE1, v1, v2, v3, v4, n12, nw :: [f1, cN, c1]⟩
  let A2 : SA := ⟨x2, dx2, f2, dS2, dX2, dE2, u1, u2, u3, u4, n11, nw :: [f2, cN, cA, c2]⟩
  let P : LP := ⟨fun b => if b = true then A2 else A1, fun b => if b = true then Ls2 else Ls1, fun b => if b = true then q0 else p0, fun b => if b = true then q1 else p1, fun b => if b = true then q2 else p2, fun b => if b = true then [f2, cN, cA, c2] else [f1, cN, c1], hd, nw, [], am, mu, ah⟩
  refine ⟨P, ⟨rfl, rfl, rfl, rfl, rfl, rfl, rfl, rfl, rfl, rfl⟩, ?_, ?_⟩
  · refine ⟨?_, fun _ q => (nomatch q), ?_, ?_, ?_, ?_, ham, hmu, hah⟩
    · show (L :: hd :: nw :: [dS1, dX1, dE1, dS2, dX2, dE2, 640, 588]).Nodup
      have k12 : ocode (W.listOf (List.toArray [scr, .int kk tk1]) ep1) = 12 := rfl
      have k11 : ocode (W.listOf (List.toArray [.int t0 tk0]) ep0) = 11 := rfl
      have kT : ocode (tabObj #[]) = 1000 := rfl
      have nh : ∀ {x o}, h.get? x = some o → ocode o = 3 ∨ ocode o = 1000 → hd ≠ x ∧ nw ≠ x := fun {x o} e c => ⟨ne A_hd.1 e (by rw [k12]; omega), ne A_nw.1 e (by rw [k11]; omega)⟩
      have hn : hd ≠ nw := ne A_hd.1 A_nw.1 (by rw [k12, k11]; decide)
      have nT : ∀ {x o}, h.get? x = some o → ocode o = 3 → x ≠ 640 ∧ x ≠ 588 := fun {x o} e c => ⟨ne e A_t640.1 (by rw [kT]; omega), ne e A_t588.1 (by rw [kT]; omega)⟩
      obtain ⟨a11, a12, a13⟩ := a1
      obtain ⟨a21, a22, a23⟩ := a2
      obtain ⟨mx1, mx2, mx3⟩ := mx
      exact (nod_c (all_c (Ne.symm A_hd.2) (all_c (Ne.symm A_nw.2) (all_c (Ne.symm A_dS1.2) (all_c (Ne.symm A_dX1.2) (all_c (Ne.symm A_dE1.2) (all_c (Ne.symm A_dS2.2) (all_c (Ne.symm A_dX2.2) (all_c (Ne.symm A_dE2.2) (all_c (Ne.symm A_t640.2) (all_c (Ne.symm A_t588.2) (List.forall_mem_nil _)))))))))))
        (nod_c (all_c (hn) (all_c ((nh A_dS1.1 (.inl cS1)).1) (all_c ((nh A_dX1.1 (.inl cX1)).1) (all_c ((nh A_dE1.1 (.inl cE1)).1) (all_c ((nh A_dS2.1 (.inl cS2)).1) (all_c ((nh A_dX2.1 (.inl cX2)).1) (all_c ((nh A_dE2.1 (.inl cE2)).1) (all_c ((nh A_t640.1 (.inr kT)).1) (all_c ((nh A_t588.1 (.inr kT)).1) (List.forall_mem_nil _))))))))))
        (nod_c (all_c ((nh A_dS1.1 (.inl cS1)).2) (all_c ((nh A_dX1.1 (.inl cX1)).2) (all_c ((nh A_dE1.1 (.inl cE1)).2) (all_c ((nh A_dS2.1 (.inl cS2)).2) (all_c ((nh A_dX2.1 (.inl cX2)).2) (all_c ((nh A_dE2.1 (.inl cE2)).2) (all_c ((nh A_t640.1 (.inr kT)).2) (all_c ((nh A_t588.1 (.inr kT)).2) (List.forall_mem_nil _)))))))))
        (nod_c (all_c (a11) (all_c (a12) (all_c (hS _ mx1) (all_c (hX _ mx1) (all_c (hE _ mx1) (all_c ((nT A_dS1.1 cS1).1) (all_c ((nT A_dS1.1 cS1).2) (List.forall_mem_nil _))))))))
        (nod_c (all_c (a13) (all_c (hS _ mx2) (all_c (hX _ mx2) (all_c (hE _ mx2) (all_c ((nT A_dX1.1 cX1).1) (all_c ((nT A_dX1.1 cX1).2) (List.forall_mem_nil _)))))))
        (nod_c (all_c (hS _ mx3) (all_c (hX _ mx3) (all_c (hE _ mx3) (all_c ((nT A_dE1.1 cE1).1) (all_c ((nT A_dE1.1 cE1).2) (List.forall_mem_nil _))))))
        (nod_c (all_c (a21) (all_c (a22) (all_c ((nT A_dS2.1 cS2).1) (all_c ((nT A_dS2.1 cS2).2) (List.forall_mem_nil _)))))
        (nod_c (all_c (a23) (all_c ((nT A_dX2.1 cX2).1) (all_c ((nT A_dX2.1 cX2).2) (List.forall_mem_nil _))))
        (nod_c (all_c ((nT A_dE2.1 cE2).1) (all_c ((nT A_dE2.1 cE2).2) (List.forall_mem_nil _)))
        (nod_c (all_c ((show (640 : Addr) ≠ 588 by decide)) (List.forall_mem_nil _))
        (nod_c (List.forall_mem_nil _) List.nodup_nil)))))))))))
    · show ∀ x ∈ L :: hd :: nw :: [dS1, dX1, dE1, dS2, dX2, dE2, 640, 588], g.get? x = none
      exact (List.forall_mem_cons.mpr ⟨(Heap.get?_none_of_le F.above), (List.forall_mem_cons.mpr ⟨g_hd, (List.forall_mem_cons.mpr ⟨g_nw, (List.forall_mem_cons.mpr ⟨g_dS1, (List.forall_mem_cons.mpr ⟨g_dX1, (List.forall_mem_cons.mpr ⟨g_dE1, (List.forall_mem_cons.mpr ⟨g_dS2, (List.forall_mem_cons.mpr ⟨g_dX2, (List.forall_mem_cons.mpr ⟨g_dE2, (List.forall_mem_cons.mpr ⟨g_t640, (List.forall_mem_cons.mpr ⟨g_t588, (List.forall_mem_nil _)⟩)⟩)⟩)⟩)⟩)⟩)⟩)⟩)⟩)⟩)⟩)
    · intro sd; cases sd
      · exact l1
      · exact l2
    · intro sd; cases sd <;> rfl
    · intro sd; cases sd
      · exact .head _
      · exact .head _
  · have off : ∀ {x o}, At h L x o → ocode o ≠ 12 ∧ ocode o ≠ 11 ∧ ocode o ≠ 3 ∧ ocode o ≠ 1000 → x ∉ L :: hd :: nw :: [dS1, dX1, dE1, dS2, dX2, dE2, 640, 588] := fun {x o} ⟨e, nL⟩ c hx => by
      exact (nin_c nL (nin_c (ne e A_hd.1 c.1) (nin_c (ne e A_nw.1 c.2.1) (nin_c (ne e A_dS1.1 (fun z => c.2.2.1 (z.trans cS1))) (nin_c (ne e A_dX1.1 (fun z => c.2.2.1 (z.trans cX1))) (nin_c (ne e A_dE1.1 (fun z => c.2.2.1 (z.trans cE1))) (nin_c (ne e A_dS2.1 (fun z => c.2.2.1 (z.trans cS2))) (nin_c (ne e A_dX2.1 (fun z => c.2.2.1 (z.trans cX2))) (nin_c (ne e A_dE2.1 (fun z => c.2.2.1 (z.trans cE2))) (nin_c (ne e A_t640.1 c.2.2.2) (nin_c (ne e A_t588.1 c.2.2.2) (List.not_mem_nil)))))))))))) hx
    have code1 : ocode oc1 ≠ 12 ∧ ocode oc1 ≠ 11 ∧ ocode oc1 ≠ 3 ∧ ocode oc1 ≠ 1000 := by
      have : ocode oc1 = 1000 + vs1.size := by unfold ocode; rw [k1]
      have hs : 1 < vs1.size := by obtain ⟨q, -⟩ := Array.getElem?_eq_some_iff.mp k2; exact q
      rw [this]; exact code_big (Nat.lt_trans Nat.zero_lt_one hs)
    have code2 : ocode oc2 ≠ 12 ∧ ocode oc2 ≠ 11 ∧ ocode oc2 ≠ 3 ∧ ocode oc2 ≠ 1000 := by
      have : ocode oc2 = 1000 + vs2.size := by unfold ocode; rw [k3]
      have hs : 1 < vs2.size := by obtain ⟨q, -⟩ := Array.getElem?_eq_some_iff.mp k4; exact q
      rw [this]; exact code_big (Nat.lt_trans Nat.zero_lt_one hs)
    have codeN : ocode oN ≠ 12 ∧ ocode oN ≠ 11 ∧ ocode oN ≠ 3 ∧ ocode oN ≠ 1000 := by
      have : ocode oN = 2 := by unfold ocode; rw [kN]
      rw [this]; decide
    have codeA : ocode oA ≠ 12 ∧ ocode oA ≠ 11 ∧ ocode oA ≠ 3 ∧ ocode oA ≠ 1000 := by
      have : ocode oA = 2 := by unfold ocode; rw [kA]
      rw [this]; decide
    have d6 : (6 : Nat) ≠ 12 ∧ (6 : Nat) ≠ 11 ∧ (6 : Nat) ≠ 3 ∧ (6 : Nat) ≠ 1000 := by decide
    have d5 : (5 : Nat) ≠ 12 ∧ (5 : Nat) ≠ 11 ∧ (5 : Nat) ≠ 3 ∧ (5 : Nat) ≠ 1000 := by decide
    have d7 : (7 : Nat) ≠ 12 ∧ (7 : Nat) ≠ 11 ∧ (7 : Nat) ≠ 3 ∧ (7 : Nat) ≠ 1000 := by decide
    have d13 : (13 : Nat) ≠ 12 ∧ (13 : Nat) ≠ 11 ∧ (13 : Nat) ≠ 3 ∧ (13 : Nat) ≠ 1000 := by decide
    have c723 : ocode (tabObj ps3) ≠ 12 ∧ ocode (tabObj ps3) ≠ 11 ∧ ocode (tabObj ps3) ≠ 3 ∧ ocode (tabObj ps3) ≠ 1000 := by
      have : ocode (tabObj ps3) = 1000 + ps3.size := rfl
      rw [this]; exact code_big (Nat.pos_of_ne_zero k5)
    refine ⟨fun h' st => ?_, fun q hq h' st => ?_, fun sd => ?_, ⟨⟨#[], A_t640.1, trivial, .inl rfl⟩, ⟨#[], A_t588.1, trivial, .inl rfl⟩⟩⟩
    · have kp : ∀ {x o}, At h L x o → ocode o ≠ 12 ∧ ocode o ≠ 11 ∧ ocode o ≠ 3 ∧ ocode o ≠ 1000 → h'.get? x = some o := fun e c => st _ _ e.1 (off e c)
      refine ⟨fun sd => ?_, fun sd => ?_, fun sd b hb => ?_, fun sd => ?_, fun sd => ?_, fun sd => ?_, fun sd => ?_, fun sd => ?_, ⟨ps3, kp A_t723 c723⟩⟩
      · cases sd
        · exact ⟨kp A_x1 d6, rfl, rfl, kp A_dx1 d7⟩
        · exact ⟨kp A_x2 d6, rfl, rfl, kp A_dx2 d7⟩
      · cases sd
        · exact clkS1 (kp A_f1 d5) (kp A_cN codeN) kN (kp A_c1 code1) k1 k2
        · exact clkS2 hah (kp A_f2 d5) (kp A_cN codeN) kN (kp A_cA codeA) kA (kp A_c2 code2) k3 k4
      · cases sd
        · have hb : b ∈ [f1, cN, c1] := hb
          simp only [List.mem_cons, List.not_mem_nil, or_false] at hb
          rcases hb with r | r | r
          · exact r ▸ ⟨_, kp A_f1 d5⟩
          · exact r ▸ ⟨_, kp A_cN codeN⟩
          · exact r ▸ ⟨_, kp A_c1 code1⟩
        · have hb : b ∈ [f2, cN, cA, c2] := hb
          simp only [List.mem_cons, List.not_mem_nil, or_false] at hb
          rcases hb with r | r | r | r
          · exact r ▸ ⟨_, kp A_f2 d5⟩
          · exact r ▸ ⟨_, kp A_cN codeN⟩
          · exact r ▸ ⟨_, kp A_cA codeA⟩
          · exact r ▸ ⟨_, kp A_c2 code2⟩
      · cases sd
        · exact ⟨_, _, _, _, kp A_f1 d5⟩
        · exact ⟨_, _, _, _, kp A_f2 d5⟩
      · cases sd
        · exact ⟨_, kp A_Ls1 d13⟩
        · exact ⟨_, kp A_Ls2 d13⟩
      · cases sd
        · exact ⟨_, _, _, ⟨kp A_p0 d6, rfl, rfl, kp A_e0 d7⟩⟩
        · exact ⟨_, _, _, ⟨kp A_q0 d6, rfl, rfl, kp A_r0 d7⟩⟩
      · cases sd
        · exact ⟨_, _, _, ⟨kp A_p1 d6, rfl, rfl, kp A_e1 d7⟩⟩
        · exact ⟨_, _, _, ⟨kp A_q1 d6, rfl, rfl, kp A_r1 d7⟩⟩
      · cases sd
        · exact ⟨_, _, _, ⟨kp A_p2 d6, rfl, rfl, kp A_e2 d7⟩⟩
        · exact ⟨_, _, _, ⟨kp A_q2 d6, rfl, rfl, kp A_r2 d7⟩⟩
    · have kp : ∀ {x o}, At h L x o → ocode o ≠ 12 ∧ ocode o ≠ 11 ∧ ocode o ≠ 3 ∧ ocode o ≠ 1000 → h'.get? x = some o := fun e c => st _ _ e.1 (off e c)
      simp only [List.mem_cons, List.not_mem_nil, or_false] at hq
      rcases hq with rfl | rfl
      · exact ⟨⟨dx3, _, _, _, _, _, _, _, ⟨kp A_x3 d6, rfl, rfl, kp A_dx3 d7⟩⟩, (show (Str.ofString "LIMITER").length ≤ 1000 by decide), ⟨ham.1, Int.le_trans ham.2 (by decide)⟩, ⟨Int.lt_of_lt_of_le (by decide) hmu.1, Int.le_trans hmu.2 (by decide)⟩⟩
      · exact ⟨⟨dx4, _, _, _, _, _, _, _, ⟨kp A_x4 d6, rfl, rfl, kp A_dx4 d7⟩⟩, (show (Str.ofString "other").length ≤ 1000 by decide), ⟨ham.1, Int.le_trans ham.2 (by decide)⟩, ⟨Int.lt_of_lt_of_le (by decide) hmu.1, Int.le_trans hmu.2 (by decide)⟩⟩
    · cases sd
      · exact ⟨empty_at A_dS1.1 i1.1, empty_at A_dX1.1 i1.2.1, empty_atE A_dE1.1 i1.2.2⟩
      · exact ⟨empty_at A_dS2.1 i2.1, empty_at A_dX2.1 i2.2.1, empty_atE A_dE2.1 i2.2.2⟩

theorem law_init {x1 dx1 dS1 dX1 dE1 f1 c1 x2 dx2 dS2 dX2 dE2 f2 c2 nw hd cN cA : Addr} {Ls1 p0 e0 p1 e1 p2 e2 Ls2 q0 r0 q1 r1 q2 r2 x3 dx3 x4 dx4 : Addr} {oS1 oX1 oE1 oS2 oX2 oE2 oc1 oc2 oN oA : Obj} {am mu ah t0 kk : Int} {scr : Value}
  {b1 b2 b3 b4 b5 b6 d1 d2 d3 d4 d5 d6 y1 y2 y3 z1 z2 z3 u1 u2 u3 u4 v1 v2 v3 v4 tk0 tk1 ta w1 w2 : Tok} {n1 n2 n3 n4 n5 n6 n7 n8 n9 n10 n11 n12 ep0 ep1 : Nat} {Q1 Q2 : Str} {pm1 ct1 pm2 ct2 : Value} {vs1 vs2 ps3 : Array Value} {newsX : List (Addr × Obj)} {rest : List (Addr × Obj)}
  (F : Fr g L h m)
  (N : News g L h ((x4, instObj 501 dx4) :: (dx4, itemD w "other" am mu b1 b2 b3 b4 b5 b6 n1) :: (x3, instObj 518 dx3) :: (dx3, itemD w "LIMITER" am mu d1 d2 d3 d4 d5 d6 n2) ::
    (Ls2, W.listOf (List.toArray [.ref q0, .ref q1, .ref q2]) n3) :: (q2, instObj 296 r2) :: (r2, limD w x2 y1 n4) :: (q1, instObj 202 r1) :: (r1, limD w x2 y2 n5) :: (q0, instObj 241 r0) :: (r0, limD w x2 y3 n6) ::
    (Ls1, W.listOf (List.toArray [.ref p0, .ref p1, .ref p2]) n7) :: (p2, instObj 296 e2) :: (e2, limD w x1 z1 n8) :: (p1, instObj 202 e1) :: (e1, limD w x1 z2 n9) :: (p0, instObj 241 e0) :: (e0, limD w x1 z3 n10) ::
    (x2, instObj 691 dx2) :: (dx2, storeD w f2 dS2 dX2 dE2 u1 u2 u3 u4 n11) :: (dS2, oS2) :: (dX2, oX2) :: (dE2, oE2) :: (f2, kla_obj "<lambda>" Q2 parN bodB scB [(Str.ofString "now", cN), (Str.ofString "ahead", cA)] pm2 c2 ct2) :: (c2, oc2) ::
    (x1, instObj 691 dx1) :: (dx1, storeD w f1 dS1 dX1 dE1 v1 v2 v3 v4 n12) :: (dS1, oS1) :: (dX1, oX1) :: (dE1, oE1) :: (f1, kla_obj "<lambda>" Q1 parN bodS scS [(Str.ofString "now", cN)] pm1 c1 ct1) :: (c1, oc1) ::
    (nw, W.listOf (List.toArray [.int t0 tk0]) ep0) :: (hd, W.listOf (List.toArray [scr, .int kk tk1]) ep1) :: (cN, oN) :: (cA, oA) :: (640, tabObj #[]) :: (588, tabObj #[]) :: (723, tabObj ps3) :: rest))
  (a1 : Ap3 dS1 dX1 dE1) (a2 : Ap3 dS2 dX2 dE2) (i1 : oS1.IsDictOf (PySem.strKind PySem.Challenge.rw_jn0050_01.row.prog w) [] ∧ oX1.IsDictOf (PySem.strKind PySem.Challenge.rw_jn0050_01.row.prog w) [] ∧ oE1.IsDictOf (PySem.strKind PySem.Challenge.rw_jn0050_01.row.prog w) [])
  (i2 : oS2.IsDictOf (PySem.strKind PySem.Challenge.rw_jn0050_01.row.prog w) [] ∧ oX2.IsDictOf (PySem.strKind PySem.Challenge.rw_jn0050_01.row.prog w) [] ∧ oE2.IsDictOf (PySem.strKind PySem.Challenge.rw_jn0050_01.row.prog w) [])
  (l1 : (dS1 == sysModules) = false ∧ (dX1 == sysModules) = false ∧ (dE1 == sysModules) = false) (l2 : (dS2 == sysModules) = false ∧ (dX2 == sysModules) = false ∧ (dE2 == sysModules) = false)
  (hS : ∀ p ∈ newsX, p.1 ≠ dS2) (hX : ∀ p ∈ newsX, p.1 ≠ dX2) (hE : ∀ p ∈ newsX, p.1 ≠ dE2) (mx : (dS1, oS1) ∈ newsX ∧ (dX1, oX1) ∈ newsX ∧ (dE1, oE1) ∈ newsX)
  (k1 : oc1.data = .fields vs1) (k2 : vs1[1]? = some (.str Q1 w1)) (k3 : oc2.data = .fields vs2) (k4 : vs2[1]? = some (.str Q2 w2)) (kN : oN.data = .cell (some (.ref nw))) (kA : oA.data = .cell (some (.int ah ta)))
  (k5 : ps3.size ≠ 0) (ham : 0 ≤ am ∧ am ≤ 5) (hmu : 1 ≤ mu ∧ mu ≤ 7) (hah : 0 ≤ ah ∧ ah ≤ 5000) :
  ∃ p : LP, (p.xtra = [] ∧ p.hand = hd ∧ p.now = nw ∧ p.am = am ∧ p.mu = mu ∧ p.ah = ah ∧ p.Ls false = Ls1 ∧ p.Ls true = Ls2 ∧ (p.a false).st = x1 ∧ (p.a true).st = x2) ∧ LQ p g L ∧ Wd w p (avOf p L) [(x3, "LIMITER", false), (x4, "other", true)] (fun _ => Sta.nil) (fun _ => 0) h :=
  law_core F (N_at N) (N_at (N_tl N)) (N_at (N_tl (N_tl N))) (N_at (N_tl (N_tl (N_tl N)))) (N_at (N_tl (N_tl (N_tl (N_tl N))))) (N_at (N_tl (N_tl (N_tl (N_tl (N_tl N)))))) (N_at (N_tl (N_tl (N_tl (N_tl (N_tl (N_tl N))))))) (N_at (N_tl (N_tl (N_tl (N_tl (N_tl (N_tl (N_tl N)))))))) (N_at (N_tl (N_tl (N_tl (N_tl (N_tl (N_tl (N_tl (N_tl N))))))))) (N_at (N_tl (N_tl (N_tl (N_tl (N_tl (N_tl (N_tl (N_tl (N_tl N)))))))))) (N_at (N_tl (N_tl (N_tl (N_tl (N_tl (N_tl (N_tl (N_tl (N_tl (N_tl N))))))))))) (N_at (N_tl (N_tl (N_tl (N_tl (N_tl (N_tl (N_tl (N_tl (N_tl (N_tl (N_tl N)))))))))))) (N_at (N_tl (N_tl (N_tl (N_tl (N_tl (N_tl (N_tl (N_tl (N_tl (N_tl (N_tl (N_tl N))))))))))))) (N_at (N_tl (N_tl (N_tl (N_tl (N_tl (N_tl (N_tl (N_tl (N_tl (N_tl (N_tl (N_tl (N_tl N)))))))))))))) (N_at (N_tl (N_tl (N_tl (N_tl (N_tl (N_tl (N_tl (N_tl (N_tl (N_tl (N_tl (N_tl (N_tl (N_tl N))))))))))))))) (N_at (N_tl (N_tl (N_tl (N_tl (N_tl (N_tl (N_tl (N_tl (N_tl (N_tl (N_tl (N_tl (N_tl (N_tl (N_tl N)))))))))))))))) (N_at (N_tl (N_tl (N_tl (N_tl (N_tl (N_tl (N_tl (N_tl (N_tl (N_tl (N_tl (N_tl (N_tl (N_tl (N_tl (N_tl N))))))))))))))))) (N_at (N_tl (N_tl (N_tl (N_tl (N_tl (N_tl (N_tl (N_tl (N_tl (N_tl (N_tl (N_tl (N_tl (N_tl (N_tl (N_tl (N_tl N)))))))))))))))))) (N_at (N_tl (N_tl (N_tl (N_tl (N_tl (N_tl (N_tl (N_tl (N_tl (N_tl (N_tl (N_tl (N_tl (N_tl (N_tl (N_tl (N_tl (N_tl N))))))))))))))))))) (N_at (N_tl (N_tl (N_tl (N_tl (N_tl (N_tl (N_tl (N_tl (N_tl (N_tl (N_tl (N_tl (N_tl (N_tl (N_tl (N_tl (N_tl (N_tl (N_tl N)))))))))))))))))))) (N_at (N_tl (N_tl (N_tl (N_tl (N_tl (N_tl (N_tl (N_tl (N_tl (N_tl (N_tl (N_tl (N_tl (N_tl (N_tl (N_tl (N_tl (N_tl (N_tl (N_tl N))))))))))))))))))))) (N_at (N_tl (N_tl (N_tl (N_tl (N_tl (N_tl (N_tl (N_tl (N_tl (N_tl (N_tl (N_tl (N_tl (N_tl (N_tl (N_tl (N_tl (N_tl (N_tl (N_tl (N_tl N)))))))))))))))))))))) (N_at (N_tl (N_tl (N_tl (N_tl (N_tl (N_tl (N_tl (N_tl (N_tl (N_tl (N_tl (N_tl (N_tl (N_tl (N_tl (N_tl (N_tl (N_tl (N_tl (N_tl (N_tl (N_tl N))))))))))))))))))))))) (N_at (N_tl (N_tl (N_tl (N_tl (N_tl (N_tl (N_tl (N_tl (N_tl (N_tl (N_tl (N_tl (N_tl (N_tl (N_tl (N_tl (N_tl (N_tl (N_tl (N_tl (N_tl (N_tl (N_tl N)))))))))))))))))))))))) (N_at (N_tl (N_tl (N_tl (N_tl (N_tl (N_tl (N_tl (N_tl (N_tl (N_tl (N_tl (N_tl (N_tl (N_tl (N_tl (N_tl (N_tl (N_tl (N_tl (N_tl (N_tl (N_tl (N_tl (N_tl N))))))))))))))))))))))))) (N_at (N_tl (N_tl (N_tl (N_tl (N_tl (N_tl (N_tl (N_tl (N_tl (N_tl (N_tl (N_tl (N_tl (N_tl (N_tl (N_tl (N_tl (N_tl (N_tl (N_tl (N_tl (N_tl (N_tl (N_tl (N_tl N)))))))))))))))))))))))))) (N_at (N_tl (N_tl (N_tl (N_tl (N_tl (N_tl (N_tl (N_tl (N_tl (N_tl (N_tl (N_tl (N_tl (N_tl (N_tl (N_tl (N_tl (N_tl (N_tl (N_tl (N_tl (N_tl (N_tl (N_tl (N_tl (N_tl N))))))))))))))))))))))))))) (N_at (N_tl (N_tl (N_tl (N_tl (N_tl (N_tl (N_tl (N_tl (N_tl (N_tl (N_tl (N_tl (N_tl (N_tl (N_tl (N_tl (N_tl (N_tl (N_tl (N_tl (N_tl (N_tl (N_tl (N_tl (N_tl (N_tl (N_tl N)))))))))))))))))))))))))))) (N_at (N_tl (N_tl (N_tl (N_tl (N_tl (N_tl (N_tl (N_tl (N_tl (N_tl (N_tl (N_tl (N_tl (N_tl (N_tl (N_tl (N_tl (N_tl (N_tl (N_tl (N_tl (N_tl (N_tl (N_tl (N_tl (N_tl (N_tl (N_tl N))))))))))))))))))))))))))))) (N_at (N_tl (N_tl (N_tl (N_tl (N_tl (N_tl (N_tl (N_tl (N_tl (N_tl (N_tl (N_tl (N_tl (N_tl (N_tl (N_tl (N_tl (N_tl (N_tl (N_tl (N_tl (N_tl (N_tl (N_tl (N_tl (N_tl (N_tl (N_tl (N_tl N)))))))))))))))))))))))))))))) (N_at (N_tl (N_tl (N_tl (N_tl (N_tl (N_tl (N_tl (N_tl (N_tl (N_tl (N_tl (N_tl (N_tl (N_tl (N_tl (N_tl (N_tl (N_tl (N_tl (N_tl (N_tl (N_tl (N_tl (N_tl (N_tl (N_tl (N_tl (N_tl (N_tl (N_tl N))))))))))))))))))))))))))))))) (N_at (N_tl (N_tl (N_tl (N_tl (N_tl (N_tl (N_tl (N_tl (N_tl (N_tl (N_tl (N_tl (N_tl (N_tl (N_tl (N_tl (N_tl (N_tl (N_tl (N_tl (N_tl (N_tl (N_tl (N_tl (N_tl (N_tl (N_tl (N_tl (N_tl (N_tl (N_tl N)))))))))))))))))))))))))))))))) (N_at (N_tl (N_tl (N_tl (N_tl (N_tl (N_tl (N_tl (N_tl (N_tl (N_tl (N_tl (N_tl (N_tl (N_tl (N_tl (N_tl (N_tl (N_tl (N_tl (N_tl (N_tl (N_tl (N_tl (N_tl (N_tl (N_tl (N_tl (N_tl (N_tl (N_tl (N_tl (N_tl N))))))))))))))))))))))))))))))))) (N_at (N_tl (N_tl (N_tl (N_tl (N_tl (N_tl (N_tl (N_tl (N_tl (N_tl (N_tl (N_tl (N_tl (N_tl (N_tl (N_tl (N_tl (N_tl (N_tl (N_tl (N_tl (N_tl (N_tl (N_tl (N_tl (N_tl (N_tl (N_tl (N_tl (N_tl (N_tl (N_tl (N_tl N)))))))))))))))))))))))))))))))))) (N_at (N_tl (N_tl (N_tl (N_tl (N_tl (N_tl (N_tl (N_tl (N_tl (N_tl (N_tl (N_tl (N_tl (N_tl (N_tl (N_tl (N_tl (N_tl (N_tl (N_tl (N_tl (N_tl (N_tl (N_tl (N_tl (N_tl (N_tl (N_tl (N_tl (N_tl (N_tl (N_tl (N_tl (N_tl N))))))))))))))))))))))))))))))))))) (N_at (N_tl (N_tl (N_tl (N_tl (N_tl (N_tl (N_tl (N_tl (N_tl (N_tl (N_tl (N_tl (N_tl (N_tl (N_tl (N_tl (N_tl (N_tl (N_tl (N_tl (N_tl (N_tl (N_tl (N_tl (N_tl (N_tl (N_tl (N_tl (N_tl (N_tl (N_tl (N_tl (N_tl (N_tl (N_tl N)))))))))))))))))))))))))))))))))))) (N_at (N_tl (N_tl (N_tl (N_tl (N_tl (N_tl (N_tl (N_tl (N_tl (N_tl (N_tl (N_tl (N_tl (N_tl (N_tl (N_tl (N_tl (N_tl (N_tl (N_tl (N_tl (N_tl (N_tl (N_tl (N_tl (N_tl (N_tl (N_tl (N_tl (N_tl (N_tl (N_tl (N_tl (N_tl (N_tl (N_tl N))))))))))))))))))))))))))))))))))))) (N_at (N_tl (N_tl (N_tl (N_tl (N_tl (N_tl (N_tl (N_tl (N_tl (N_tl (N_tl (N_tl (N_tl (N_tl (N_tl (N_tl (N_tl (N_tl (N_tl (N_tl (N_tl (N_tl (N_tl (N_tl (N_tl (N_tl (N_tl (N_tl (N_tl (N_tl (N_tl (N_tl (N_tl (N_tl (N_tl (N_tl (N_tl N)))))))))))))))))))))))))))))))))))))) (N_at (N_tl (N_tl (N_tl (N_tl (N_tl (N_tl (N_tl (N_tl (N_tl (N_tl (N_tl (N_tl (N_tl (N_tl (N_tl (N_tl (N_tl (N_tl (N_tl (N_tl (N_tl (N_tl (N_tl (N_tl (N_tl (N_tl (N_tl (N_tl (N_tl (N_tl (N_tl (N_tl (N_tl (N_tl (N_tl (N_tl (N_tl (N_tl N))))))))))))))))))))))))))))))))))))))) (N_g (N_tl (N_tl (N_tl (N_tl (N_tl (N_tl (N_tl (N_tl (N_tl (N_tl (N_tl (N_tl (N_tl (N_tl (N_tl (N_tl (N_tl (N_tl (N_tl (N_tl (N_tl (N_tl (N_tl (N_tl (N_tl (N_tl (N_tl (N_tl (N_tl (N_tl (N_tl (N_tl (N_tl N)))))))))))))))))))))))))))))))))) (N_g (N_tl (N_tl (N_tl (N_tl (N_tl (N_tl (N_tl (N_tl (N_tl (N_tl (N_tl (N_tl (N_tl (N_tl (N_tl (N_tl (N_tl (N_tl (N_tl (N_tl (N_tl (N_tl (N_tl (N_tl (N_tl (N_tl (N_tl (N_tl (N_tl (N_tl (N_tl (N_tl N))))))))))))))))))))))))))))))))) (N_g (N_tl (N_tl (N_tl (N_tl (N_tl (N_tl (N_tl (N_tl (N_tl (N_tl (N_tl (N_tl (N_tl (N_tl (N_tl (N_tl (N_tl (N_tl (N_tl (N_tl (N_tl (N_tl (N_tl (N_tl (N_tl (N_tl (N_tl N)))))))))))))))))))))))))))) (N_g (N_tl (N_tl (N_tl (N_tl (N_tl (N_tl (N_tl (N_tl (N_tl (N_tl (N_tl (N_tl (N_tl (N_tl (N_tl (N_tl (N_tl (N_tl (N_tl (N_tl (N_tl (N_tl (N_tl (N_tl (N_tl (N_tl (N_tl (N_tl N))))))))))))))))))))))))))))) (N_g (N_tl (N_tl (N_tl (N_tl (N_tl (N_tl (N_tl (N_tl (N_tl (N_tl (N_tl (N_tl (N_tl (N_tl (N_tl (N_tl (N_tl (N_tl (N_tl (N_tl (N_tl (N_tl (N_tl (N_tl (N_tl (N_tl (N_tl (N_tl (N_tl N)))))))))))))))))))))))))))))) (N_g (N_tl (N_tl (N_tl (N_tl (N_tl (N_tl (N_tl (N_tl (N_tl (N_tl (N_tl (N_tl (N_tl (N_tl (N_tl (N_tl (N_tl (N_tl (N_tl (N_tl N))))))))))))))))))))) (N_g (N_tl (N_tl (N_tl (N_tl (N_tl (N_tl (N_tl (N_tl (N_tl (N_tl (N_tl (N_tl (N_tl (N_tl (N_tl (N_tl (N_tl (N_tl (N_tl (N_tl (N_tl N)))))))))))))))))))))) (N_g (N_tl (N_tl (N_tl (N_tl (N_tl (N_tl (N_tl (N_tl (N_tl (N_tl (N_tl (N_tl (N_tl (N_tl (N_tl (N_tl (N_tl (N_tl (N_tl (N_tl (N_tl (N_tl N))))))))))))))))))))))) (N_g (N_tl (N_tl (N_tl (N_tl (N_tl (N_tl (N_tl (N_tl (N_tl (N_tl (N_tl (N_tl (N_tl (N_tl (N_tl (N_tl (N_tl (N_tl (N_tl (N_tl (N_tl (N_tl (N_tl (N_tl (N_tl (N_tl (N_tl (N_tl (N_tl (N_tl (N_tl (N_tl (N_tl (N_tl (N_tl (N_tl N))))))))))))))))))))))))))))))))))))) (N_g (N_tl (N_tl (N_tl (N_tl (N_tl (N_tl (N_tl (N_tl (N_tl (N_tl (N_tl (N_tl (N_tl (N_tl (N_tl (N_tl (N_tl (N_tl (N_tl (N_tl (N_tl (N_tl (N_tl (N_tl (N_tl (N_tl (N_tl (N_tl (N_tl (N_tl (N_tl (N_tl (N_tl (N_tl (N_tl (N_tl (N_tl N)))))))))))))))))))))))))))))))))))))) a1 a2 i1 i2 l1 l2 hS hX hE mx k1 k2 k3 k4 kN kA k5 ham hmu hah
theorem ocode_cell {o : Obj} {v : Option Value} (e : o.data = .cell v) : ocode o = 2 := by unfold ocode; rw [e]
theorem ne_code {x y : Addr} {o o' : Obj} (e1 : h.get? x = some o) (e2 : h.get? y = some o') (n : ocode o ≠ ocode o') : x ≠ y := fun z => n (by rw [z, e2] at e1; cases e1; rfl)
theorem law_init2 {x1 dx1 dS1 dX1 dE1 f1 c1 x2 dx2 dS2 dX2 dE2 f2 c2 nw hd cN cA : Addr} {Ls1 p0 e0 p1 e1 p2 e2 Ls2 q0 r0 q1 r1 q2 r2 x3 dx3 x4 dx4 : Addr} {oS1 oX1 oE1 oS2 oX2 oE2 oc1 oc2 oN oA : Obj} {am mu ah t0 kk : Int} {scr : Value}
  {b1 b2 b3 b4 b5 b6 d1 d2 d3 d4 d5 d6 y1 y2 y3 z1 z2 z3 u1 u2 u3 u4 v1 v2 v3 v4 tk0 tk1 ta w1 w2 : Tok} {n1 n2 n3 n4 n5 n6 n7 n8 n9 n10 n11 n12 ep0 ep1 : Nat} {Q1 Q2 : Str} {pm1 ct1 pm2 ct2 : Value} {vs1 vs2 ps3 : Array Value} {newsX : List (Addr × Obj)} {rest : List (Addr × Obj)}
  (F : Fr g L h m)
  (N : News g L h ((x4, instObj 501 dx4) :: (dx4, itemD w "other" am mu b1 b2 b3 b4 b5 b6 n1) :: (x3, instObj 518 dx3) :: (dx3, itemD w "LIMITER" am mu d1 d2 d3 d4 d5 d6 n2) ::
    (Ls2, W.listOf (List.toArray [.ref q0, .ref q1, .ref q2]) n3) :: (q2, instObj 296 r2) :: (r2, limD w x2 y1 n4) :: (q1, instObj 202 r1) :: (r1, limD w x2 y2 n5) :: (q0, instObj 241 r0) :: (r0, limD w x2 y3 n6) ::
    (Ls1, W.listOf (List.toArray [.ref p0, .ref p1, .ref p2]) n7) :: (p2, instObj 296 e2) :: (e2, limD w x1 z1 n8) :: (p1, instObj 202 e1) :: (e1, limD w x1 z2 n9) :: (p0, instObj 241 e0) :: (e0, limD w x1 z3 n10) ::
    (x2, instObj 691 dx2) :: (dx2, storeD w f2 dS2 dX2 dE2 u1 u2 u3 u4 n11) :: (dS2, oS2) :: (dX2, oX2) :: (dE2, oE2) :: (f2, kla_obj "<lambda>" Q2 parN bodB scB [(Str.ofString "now", cN), (Str.ofString "ahead", cA)] pm2 c2 ct2) :: (c2, oc2) ::
    (x1, instObj 691 dx1) :: (dx1, storeD w f1 dS1 dX1 dE1 v1 v2 v3 v4 n12) :: (dS1, oS1) :: (dX1, oX1) :: (dE1, oE1) :: (f1, kla_obj "<lambda>" Q1 parN bodS scS [(Str.ofString "now", cN)] pm1 c1 ct1) :: (c1, oc1) ::
    (nw, W.listOf (List.toArray [.int t0 tk0]) ep0) :: (hd, W.listOf (List.toArray [scr, .int kk tk1]) ep1) :: (cN, oN) :: (cA, oA) :: (640, tabObj #[]) :: (588, tabObj #[]) :: (723, tabObj ps3) :: rest))
  (a1 : Ap3 dS1 dX1 dE1) (a2 : Ap3 dS2 dX2 dE2) (i1 : oS1.IsDictOf (PySem.strKind PySem.Challenge.rw_jn0050_01.row.prog w) [] ∧ oX1.IsDictOf (PySem.strKind PySem.Challenge.rw_jn0050_01.row.prog w) [] ∧ oE1.IsDictOf (PySem.strKind PySem.Challenge.rw_jn0050_01.row.prog w) [])
  (i2 : oS2.IsDictOf (PySem.strKind PySem.Challenge.rw_jn0050_01.row.prog w) [] ∧ oX2.IsDictOf (PySem.strKind PySem.Challenge.rw_jn0050_01.row.prog w) [] ∧ oE2.IsDictOf (PySem.strKind PySem.Challenge.rw_jn0050_01.row.prog w) [])
  (l1 : (dS1 == sysModules) = false ∧ (dX1 == sysModules) = false ∧ (dE1 == sysModules) = false) (l2 : (dS2 == sysModules) = false ∧ (dX2 == sysModules) = false ∧ (dE2 == sysModules) = false)
  (hS : ∀ p ∈ newsX, p.1 ≠ dS2) (hX : ∀ p ∈ newsX, p.1 ≠ dX2) (hE : ∀ p ∈ newsX, p.1 ≠ dE2) (mx : (dS1, oS1) ∈ newsX ∧ (dX1, oX1) ∈ newsX ∧ (dE1, oE1) ∈ newsX)
  (k1 : oc1.data = .fields vs1) (k2 : vs1[1]? = some (.str Q1 w1)) (k3 : oc2.data = .fields vs2) (k4 : vs2[1]? = some (.str Q2 w2)) (kN : oN.data = .cell (some (.ref nw))) (kA : oA.data = .cell (some (.int ah ta)))
  (k5 : ps3.size ≠ 0) (ham : 0 ≤ am ∧ am ≤ 5) (hmu : 1 ≤ mu ∧ mu ≤ 7) (hah : 0 ≤ ah ∧ ah ≤ 5000) :
  ∃ p : LP, (p.xtra = [] ∧ p.hand = hd ∧ p.now = nw ∧ p.am = am ∧ p.mu = mu ∧ p.ah = ah ∧ p.Ls false = Ls1 ∧ p.Ls true = Ls2 ∧ (p.a false).st = x1 ∧ (p.a true).st = x2) ∧ LQ p g L ∧ (hd ≠ nw ∧ hd ≠ cN ∧ hd ≠ cA ∧ nw ≠ cN ∧ nw ≠ cA) ∧
    ∃ ex, News g L h ((hd, W.listOf (List.toArray [scr, .int kk tk1]) ep1) :: (nw, W.listOf (List.toArray [.int t0 tk0]) ep0) :: (cN, oN) :: (cA, oA) :: ex) ∧ (∀ q ∈ ex, q.1 ≠ hd ∧ q.1 ≠ nw) ∧ Tl g L ex (Wd w p (avOf p L) [(x3, "LIMITER", false), (x4, "other", true)] (fun _ => Sta.nil) (fun _ => 0)) := by
  obtain ⟨p, es, Q0, W0⟩ := law_init F N a1 a2 i1 i2 l1 l2 hS hX hE mx k1 k2 k3 k4 kN kA k5 ham hmu hah
  obtain ⟨ex, NE, ne, TE⟩ := W0.ex Q0 F
  have g1 := N (hd, W.listOf (List.toArray [scr, .int kk tk1]) ep1) (by repeat (first | exact List.Mem.head _ | apply List.Mem.tail))
  have g2 := N (nw, W.listOf (List.toArray [.int t0 tk0]) ep0) (by repeat (first | exact List.Mem.head _ | apply List.Mem.tail))
  have g3 := N (cN, oN) (by repeat (first | exact List.Mem.head _ | apply List.Mem.tail))
  have g4 := N (cA, oA) (by repeat (first | exact List.Mem.head _ | apply List.Mem.tail))
  have c1 : ocode (W.listOf (List.toArray [scr, .int kk tk1]) ep1) = 12 := rfl
  have c2 : ocode (W.listOf (List.toArray [.int t0 tk0]) ep0) = 11 := rfl
  have c3 := ocode_cell kN
  have c4 := ocode_cell kA
  refine ⟨p, es, Q0, ⟨ne_code g1.1 g2.1 (by rw [c1, c2]; decide), ne_code g1.1 g3.1 (by rw [c1, c3]; decide), ne_code g1.1 g4.1 (by rw [c1, c4]; decide), ne_code g2.1 g3.1 (by rw [c2, c3]; decide), ne_code g2.1 g4.1 (by rw [c2, c4]; decide)⟩, ex, fun q hq => ?_, fun q hq => ?_, TE⟩
  · rcases List.mem_cons.mp hq with rfl | hq
    · exact g1
    rcases List.mem_cons.mp hq with rfl | hq
    · exact g2
    rcases List.mem_cons.mp hq with rfl | hq
    · exact g3
    rcases List.mem_cons.mp hq with rfl | hq
    · exact g4
    exact NE q hq
  · obtain ⟨-, e1, e2, -⟩ := es
    have := ne q hq
    rw [e1, e2] at this
    exact ⟨this.1, this.2.1⟩
theorem law_iter {p0 : LP} {its : List (Addr × Str × Bool)} {σ : Bool → Sta} {b : Bool → Nat} {hd nw cN cA I Ls1 Ls2 x1 x2 : Addr} {am mu ah : Int} {o1 o2 oN oA : Obj} {ex : List (Addr × Obj)}
  (es : p0.xtra = [] ∧ p0.hand = hd ∧ p0.now = nw ∧ p0.am = am ∧ p0.mu = mu ∧ p0.ah = ah ∧ p0.Ls false = Ls1 ∧ p0.Ls true = Ls2 ∧ (p0.a false).st = x1 ∧ (p0.a true).st = x2) (Q0 : LQ p0 g L) (F : Fr g L h m)
  (N : News g L h ((hd, o1) :: (nw, o2) :: (cN, oN) :: (cA, oA) :: ex)) (T : Tl g L ex (Wd w p0 (avOf p0 L) its σ b)) (e : h.get? I = none) :
  ∃ p : LP, (p.xtra = [I] ∧ p.hand = hd ∧ p.now = nw ∧ p.am = am ∧ p.mu = mu ∧ p.ah = ah ∧ p.Ls false = Ls1 ∧ p.Ls true = Ls2 ∧ (p.a false).st = x1 ∧ (p.a true).st = x2) ∧ LQ p g L ∧
    ∃ ex, News g L h ((hd, o1) :: (nw, o2) :: (cN, oN) :: (cA, oA) :: ex) ∧ (∀ q ∈ ex, q.1 ≠ hd ∧ q.1 ≠ nw ∧ q.1 ∉ p.xtra) ∧ Tl g L ex (Wd w p (avOf p L) its σ b) := by
  obtain ⟨e0, e1, e2, es⟩ := es
  have W0 := T h m F (fun q hq => N q (.tail _ (.tail _ (.tail _ (.tail _ hq)))))
  have gI : g.get? I = none := by
    cases z : g.get? I with
    | none => rfl
    | some o => have := F.keep _ _ z; rw [e] at this; cases this
  have nI : ∀ {x : Addr}, (∃ o, h.get? x = some o) → I ≠ x := fun ⟨o, q⟩ z => by rw [← z, e] at q; cases q
  have hI : I ∉ L :: p0.hand :: p0.now :: D9 p0 := fun hy => by
    simp only [D9, List.mem_cons, List.not_mem_nil, or_false] at hy
    rcases hy with r | r | r | r | r | r | r | r | r | r | r
    · obtain ⟨oL, _, _, hL, _⟩ := F.ns; exact nI ⟨_, hL⟩ r
    · exact nI ⟨_, (N _ (.head _)).1⟩ (e1 ▸ r)
    · exact nI ⟨_, (N _ (.tail _ (.head _))).1⟩ (e2 ▸ r)
    · exact nI (W0.s false).S.there r
    · exact nI (W0.s false).X.there r
    · exact nI (W0.s false).E.there r
    · exact nI (W0.s true).S.there r
    · exact nI (W0.s true).X.there r
    · exact nI (W0.s true).E.there r
    · obtain ⟨ps, t⟩ := W0.tb.g; exact nI ⟨_, t.1⟩ r
    · obtain ⟨ps, t⟩ := W0.tb.x; exact nI ⟨_, t.1⟩ r
  have Q1 := Q0.addI e0 hI gI
  have W1 := W0.addI (I := I) e0 e (Sub.refl h)
  obtain ⟨ex1, NE, ne, TE⟩ := W1.ex Q1 F
  refine ⟨{ p0 with xtra := [I] }, ⟨rfl, e1, e2, es⟩, Q1, ex1, fun q hq => ?_, fun q hq => ?_, TE⟩
  · rcases List.mem_cons.mp hq with rfl | hq
    · exact N _ (.head _)
    rcases List.mem_cons.mp hq with rfl | hq
    · exact N _ (.tail _ (.head _))
    rcases List.mem_cons.mp hq with rfl | hq
    · exact N _ (.tail _ (.tail _ (.head _)))
    rcases List.mem_cons.mp hq with rfl | hq
    · exact N _ (.tail _ (.tail _ (.tail _ (.head _))))
    exact NE q hq
  · have := ne q hq
    exact ⟨fun z => this.1 (z.trans e1.symm), fun z => this.2.1 (z.trans e2.symm), this.2.2⟩
theorem ah_bd {a b : Int} (h0 : 0 ≤ a) (h1 : a < 7) (h2 : 0 ≤ b) (h3 : b < 9) : 0 ≤ 60 * (1 + a) * (1 + b) ∧ 60 * (1 + a) * (1 + b) ≤ 5000 := by
  have e1 : 60 * (1 + a) ≤ 420 := by omega
  have e2 : 1 + b ≤ 9 := by omega
  have e3 : 60 * (1 + a) * (1 + b) ≤ 420 * 9 := Int.mul_le_mul e1 e2 (by omega) (by decide)
  exact ⟨Int.mul_nonneg (by omega) (by omega), Int.le_trans e3 (by decide)⟩
end

end
section
open TI
section
variable {w : World} {p : LP} {A : Around} {E : Value → Shared → Prop} {s : Shared} {g : Heap} {L : Addr} {its : List (Addr × Str × Bool)} {σ : Bool → Sta} {b : Bool → Nat} {m : Str → Option Value} {news front ex : List (Addr × Obj)} {sd : Bool} {k : Int}
theorem wd_at (F : Fr g L s.heap m) (N : News g L s.heap news) (T : Tl g L ex (Wd w p (avOf p L) its σ b)) (Sp : Spl ex news front) : LF w p s.heap :=
  (T s.heap m F (fun q hq => N q (Sp.eq ▸ List.mem_append_right _ hq))).f _ (fun _ _ e _ => e)
theorem l_sub {value slice : PySem.Expr} {t : Tok} {Q : Value → Shared → Prop} (F : Fr g L s.heap m) (N : News g L s.heap news) (T : Tl g L ex (Wd w p (avOf p L) its σ b)) (Sp : Spl ex news front) (hk : Kd k) (h : Q (.ref (limOf (p.m0 sd) (p.m1 sd) (p.m2 sd) k)) s)
    (hs : subscripted slice false (.ref (p.Ls sd)) (.int k t) = operate [.ref (p.Ls sd), .int k t] (getItem (.ref (p.Ls sd)) (.int k t)) := by with_unfolding_all rfl) :
    wpAny (model PySem.Challenge.rw_jn0050_01.row.prog w) A (subscriptTail value slice (.ref (p.Ls sd)) (.int k t)) Q E s := by
  obtain ⟨ep, e⟩ := (wd_at F N T Sp).ls sd
  exact list_item (vs := [.ref (p.m0 sd), .ref (p.m1 sd), .ref (p.m2 sd)]) ⟨_, e, rfl, ep, rfl⟩ (by rcases hk with rfl | rfl | rfl <;> decide) (by rcases hk with rfl | rfl | rfl <;> decide) (lim_at hk) h hs
theorem lim_here (F : Fr g L s.heap m) (N : News g L s.heap news) (T : Tl g L ex (Wd w p (avOf p L) its σ b)) (Sp : Spl ex news front) (hk : Kd k) : LimAt w s.heap (p.a sd).st (clsOf k) (limOf (p.m0 sd) (p.m1 sd) (p.m2 sd) k) := by
  have f := wd_at F N T Sp
  rcases hk with rfl | rfl | rfl
  · exact f.l0 sd
  · exact f.l1 sd
  · exact f.l2 sd
theorem lm_test {pl : Sem Bool} {Q : Value × List Value → Shared → Prop} (X : (Mine.hd.heap_39 w.params).In g) (F : Fr g L s.heap m) (N : News g L s.heap news) (T : Tl g L ex (Wd w p (avOf p L) its σ b)) (Sp : Spl ex news front) (hk : Kd k) (h : Q (.ref (tstF k), [.ref (limOf (p.m0 sd) (p.m1 sd) (p.m2 sd) k)]) s) : wpAny (model PySem.Challenge.rw_jn0050_01.row.prog w) A (getMethod (.ref (limOf (p.m0 sd) (p.m1 sd) (p.m2 sd) k)) (Str.ofString "test") pl) Q E s := by
  obtain ⟨d, t, n, I⟩ := lim_here (sd := sd) F N T Sp hk
  revert I h
  generalize limOf (p.m0 sd) (p.m1 sd) (p.m2 sd) k = lim
  intro h I
  rcases hk with rfl | rfl | rfl
  · exact method_inst (f := 229) (C := 241) F X I (by k_is) (by k_is) (by k_is) (by k_get) h
  · exact method_inst (f := 190) (C := 202) F X I (by k_is) (by k_is) (by k_is) (by k_get) h
  · exact method_inst (f := 275) (C := 296) F X I (by k_is) (by k_is) (by k_is) (by k_get) h
theorem lm_hit {pl : Sem Bool} {Q : Value × List Value → Shared → Prop} (X : (Mine.hd.heap_39 w.params).In g) (F : Fr g L s.heap m) (N : News g L s.heap news) (T : Tl g L ex (Wd w p (avOf p L) its σ b)) (Sp : Spl ex news front) (hk : Kd k) (h : Q (.ref (hitF k), [.ref (limOf (p.m0 sd) (p.m1 sd) (p.m2 sd) k)]) s) : wpAny (model PySem.Challenge.rw_jn0050_01.row.prog w) A (getMethod (.ref (limOf (p.m0 sd) (p.m1 sd) (p.m2 sd) k)) (Str.ofString "hit") pl) Q E s := by
  obtain ⟨d, t, n, I⟩ := lim_here (sd := sd) F N T Sp hk
  revert I h
  generalize limOf (p.m0 sd) (p.m1 sd) (p.m2 sd) k = lim
  intro h I
  rcases hk with rfl | rfl | rfl
  · exact method_inst (f := 220) (C := 241) F X I (by k_is) (by k_is) (by k_is) (by k_get) h
  · exact method_inst (f := 181) (C := 202) F X I (by k_is) (by k_is) (by k_is) (by k_get) h
  · exact method_inst (f := 266) (C := 296) F X I (by k_is) (by k_is) (by k_is) (by k_get) h
theorem lm_sta {pl : Sem Bool} {Q : Value × List Value → Shared → Prop} (X : (Mine.hd.heap_39 w.params).In g) (F : Fr g L s.heap m) (N : News g L s.heap news) (T : Tl g L ex (Wd w p (avOf p L) its σ b)) (Sp : Spl ex news front) (hk : Kd k) (h : Q (.ref (staF k), [.ref (limOf (p.m0 sd) (p.m1 sd) (p.m2 sd) k)]) s) : wpAny (model PySem.Challenge.rw_jn0050_01.row.prog w) A (getMethod (.ref (limOf (p.m0 sd) (p.m1 sd) (p.m2 sd) k)) (Str.ofString "get_window_stats") pl) Q E s := by
  obtain ⟨d, t, n, I⟩ := lim_here (sd := sd) F N T Sp hk
  revert I h
  generalize limOf (p.m0 sd) (p.m1 sd) (p.m2 sd) k = lim
  intro h I
  rcases hk with rfl | rfl | rfl
  · exact method_inst (f := 238) (C := 241) F X I (by k_is) (by k_is) (by k_is) (by k_get) h
  · exact method_inst (f := 199) (C := 202) F X I (by k_is) (by k_is) (by k_is) (by k_get) h
  · exact method_inst (f := 284) (C := 296) F X I (by k_is) (by k_is) (by k_is) (by k_get) h
theorem lm_clr {pl : Sem Bool} {Q : Value × List Value → Shared → Prop} (X : (Mine.hd.heap_39 w.params).In g) (F : Fr g L s.heap m) (N : News g L s.heap news) (T : Tl g L ex (Wd w p (avOf p L) its σ b)) (Sp : Spl ex news front) (hk : Kd k) (h : Q (.ref (clrF k), [.ref (limOf (p.m0 sd) (p.m1 sd) (p.m2 sd) k)]) s) : wpAny (model PySem.Challenge.rw_jn0050_01.row.prog w) A (getMethod (.ref (limOf (p.m0 sd) (p.m1 sd) (p.m2 sd) k)) (Str.ofString "clear") pl) Q E s := by
  obtain ⟨d, t, n, I⟩ := lim_here (sd := sd) F N T Sp hk
  revert I h
  generalize limOf (p.m0 sd) (p.m1 sd) (p.m2 sd) k = lim
  intro h I
  rcases hk with rfl | rfl | rfl
  · exact method_inst (f := 158) (C := 241) F X I (by k_is) (by k_is) (by k_is) (by k_get) h
  · exact method_inst (f := 158) (C := 202) F X I (by k_is) (by k_is) (by k_is) (by k_get) h
  · exact method_inst (f := 293) (C := 296) F X I (by k_is) (by k_is) (by k_is) (by k_get) h
/-! the item of the third namespace -/
theorem l_third {ta tm tn : Tok} {ns : Str} {Q : Value → Shared → Prop} (Q0 : LQ p g L) (G : Gd w g) (R : Rm A 40) (X : (Mine.hd.heap_39 w.params).In g) (F : Fr g L s.heap m) (N : News g L s.heap news) (T : Tl g L ex (Wd w p (avOf p L) its σ b)) (Sp : Spl ex news front) (hh : ∃ o, (p.hand, o) ∈ news) (hn : ∃ o, (p.now, o) ∈ news) (hxt : ∀ x ∈ p.xtra, ∃ o, (x, o) ∈ news) (hns : ns.length ≤ 1000)
  (h : ∀ h' tk' x ex', Fr g L h' m → News g L h' (front ++ ex') → Tl g L ex' (Wd w p (avOf p L) ((x, ns, true) :: its) σ b) → (∀ q ∈ ex', q.1 ≠ p.hand ∧ q.1 ≠ p.now ∧ q.1 ∉ p.xtra) → Q (.ref x) {s with heap := h', toks := tk'}) :
  wpAny (model PySem.Challenge.rw_jn0050_01.row.prog w) A (call (.ref 501) [.int p.am ta, .int p.mu tm, .str ns tn] []) Q E s := by
  have e := Sp.eq
  subst e
  have W := T s.heap m F (fun q hq => N q (List.mem_append_right _ hq))
  have a1 := Q0.am
  have a2 := Q0.mu
  obtain ⟨exF, NF, -, CF, EX⟩ := rest_ex [] F
  refine u_item1 (Rm.mono R (by decide)) G (Sub.refl _) F NF X ⟨by omega, by omega⟩ fun h' tk' x dx t1 t2 t3 u1 u2 u3 n F' N' l1 l2 l3 => ?_
  have hx := N' _ (.head _)
  have hd := N' _ (.tail _ (.head _))
  have CL := CF h' m F' (fun q hq => N' q (.tail _ (.tail _ hq)))
  have W1 : Wd w p (avOf p L) its σ b h' := W.on Q0 fun y o e n => CL y o e fun q => n (by rw [List.mem_singleton.mp q]; exact .head _)
  have there : ∀ y ∈ avOf p L, y = L ∨ ∃ o, s.heap.get? y = some o := fun y hy => by
    simp only [avOf, D9, List.mem_append, List.mem_cons, List.not_mem_nil, or_false] at hy
    rcases hy with r | r | r | r | r | r | r | r | r | r | r | r
    · obtain ⟨o, ho⟩ := hxt y r; exact .inr ⟨o, (N _ ho).1⟩
    · exact .inl r
    · obtain ⟨o, ho⟩ := hh; exact .inr (r ▸ ⟨o, (N _ ho).1⟩)
    · obtain ⟨o, ho⟩ := hn; exact .inr (r ▸ ⟨o, (N _ ho).1⟩)
    · exact .inr (r ▸ (W.s false).S.there)
    · exact .inr (r ▸ (W.s false).X.there)
    · exact .inr (r ▸ (W.s false).E.there)
    · exact .inr (r ▸ (W.s true).S.there)
    · exact .inr (r ▸ (W.s true).X.there)
    · exact .inr (r ▸ (W.s true).E.there)
    · obtain ⟨ps, t⟩ := W.tb.g; exact .inr (r ▸ ⟨_, t.1⟩)
    · obtain ⟨ps, t⟩ := W.tb.x; exact .inr (r ▸ ⟨_, t.1⟩)
  have nx : x ∉ avOf p L := fun hy => by
    rcases there x hy with r | ⟨o, e⟩
    · exact hx.2.1 r
    · exact Nat.lt_irrefl _ (l1 _ (EX x o e hx.2.1 (by simp) (Q0.gn x hy)))
  have nd : dx ∉ avOf p L := fun hy => by
    rcases there dx hy with r | ⟨o, e⟩
    · exact hd.2.1 r
    · exact Nat.lt_irrefl _ (l2 _ (EX dx o e hd.2.1 (by simp) (Q0.gn dx hy)))
  have W2 : Wd w p (avOf p L) ((x, ns, true) :: its) σ b h' := ⟨W1.f, fun q hq h2 st => by
    rcases List.mem_cons.mp hq with rfl | hq
    · exact ⟨⟨dx, t1, t2, t3, u1, u2, u3, n, ⟨st _ _ hx.1 nx, rfl, rfl, st _ _ hd.1 nd⟩⟩, hns, ⟨a1.1, by omega⟩, ⟨by omega, by omega⟩⟩
    · exact W1.it q hq h2 st, W1.s, W1.tb⟩
  obtain ⟨ex', NE, ne, TE⟩ := W2.ex Q0 F'
  refine h h' tk' x ex' F' (fun q hq => ?_) TE ne
  rcases List.mem_append.mp hq with hq | hq
  · have z := N q (List.mem_append_left _ hq)
    exact ⟨CL _ _ z.1 (by simpa using z.2.1), z.2⟩
  · exact NE q hq
end

end
section
open TI
noncomputable def mineX (n : Int) : List Str := if n = 0 then ["a"] else ["a", "b"]
noncomputable def yoursX (n : Int) : List Str := if n = 0 then ["zz", "q"] else ["y"]
noncomputable def K1 (p : LP) (n : Int) : Str := p.key false "LIMITER" (mineX n)
noncomputable def K2 (p : LP) (n : Int) : Str := p.key true "other" (yoursX n)
noncomputable def key1 (p : LP) (n : Int) : Option Nat → Str | none => K1 p n | some j => winKey (K1 p n) j
noncomputable def key2 (p : LP) (c : Int) (n : Int) : Option Nat → Str | none => K2 p n | some j => winKey (K2 p n) (j + c)
noncomputable def sc (p : LP) (x : Int) : Int := 60 * x + p.ah
structure LB (p : LP) (c : Int) : Prop where
  am : 0 ≤ p.am ∧ p.am ≤ 5
  mu : 1 ≤ p.mu ∧ p.mu ≤ 7
  hc : 1 ≤ c ∧ c ≤ 9
  ah : p.ah = 60 * p.mu * c
structure Rel (p : LP) (c : Int) (B : Int) (σ : Bool → Sta) : Prop where
  cnt : ∀ n i, (σ true).cnt (key2 p c n i) = (σ false).cnt (key1 p n i)
  ex : ∀ n i, (σ true).ex (key2 p c n i) = ((σ false).ex (key1 p n i)).map (sc p)
  ev : ∀ n i, (σ true).ev (key2 p c n i) = ((σ false).ev (key1 p n i)).map (List.map fun x => (sc p x.1, sc p x.2))
  bd : ∀ sd k v, (σ sd).cnt k = some v → 0 ≤ v ∧ v ≤ B
noncomputable def Strange (ns : Str) (xs : List Str) : Prop := (ns = Str.ofString "other" ∧ (xs = ([Str.ofString "stranger"] : List Str) ∨ xs = ([Str.ofString "stranger", Str.ofString "q"] : List Str))) ∨ (ns = Str.ofString "third" ∧ ∃ n, xs = yoursX n)
theorem Rel.mono {p : LP} {c B B' : Int} {σ : Bool → Sta} (H : Rel p c B σ) (h : B ≤ B') : Rel p c B' σ := ⟨H.cnt, H.ex, H.ev, fun sd k v e => let ⟨a, b⟩ := H.bd sd k v e; ⟨a, Int.le_trans b h⟩⟩
theorem Rel.nil (p : LP) (c : Int) : Rel p c 0 (fun _ => Sta.nil) := ⟨fun _ _ => rfl, fun _ _ => rfl, fun _ _ => rfl, fun _ _ _ e => nomatch e⟩

end
section
open TI PySem.W.KIN PySem.NumText
theorem L_append (a b : Str) : (a ++ b).cps.toList = a.cps.toList ++ b.cps.toList := by
  show (a.cps ++ b.cps).toList = _
  simp
theorem sz_append (a b : Str) : (a ++ b).cps.size = a.cps.size + b.cps.size := by
  show (a.cps ++ b.cps).size = _
  simp
theorem split_last : ∀ {a b d d' : List Nat}, a ++ 47 :: d = b ++ 47 :: d' → 47 ∉ d → 47 ∉ d' → a = b ∧ d = d'
  | [], [], d, d', h, _, _ => ⟨rfl, by simpa using h⟩
  | [], x :: b, d, d', h, n, _ => by
    simp only [List.nil_append, List.cons_append, List.cons.injEq] at h
    exact absurd (by rw [h.2]; simp) n
  | y :: a, [], d, d', h, _, n => by
    simp only [List.nil_append, List.cons_append, List.cons.injEq] at h
    exact absurd (by rw [← h.2]; simp) n
  | y :: a, x :: b, d, d', h, n, n' => by
    simp only [List.cons_append, List.cons.injEq] at h
    obtain ⟨e1, e2⟩ := split_last h.2 n n'
    exact ⟨by rw [h.1, e1], e2⟩
theorem dig_rng {m c : Nat} (h : c ∈ (Str.ofString (toString ((m : Nat) : Int))).cps.toList) : 48 ≤ c ∧ c ≤ 57 := by
  rw [signs_num] at h
  obtain ⟨ch, hch, e⟩ := List.mem_map.mp h
  have r := digit_range (Nat.isDigit_of_mem_toDigits (by decide) (by decide) hch)
  rw [← e]; exact r
theorem dig_ne (m : Nat) : (Str.ofString (toString ((m : Nat) : Int))).cps.toList ≠ [] := by
  rw [signs_num]
  intro h
  have := congrArg List.length h
  simp only [List.length_map, List.length_nil] at this
  have h2 := toDigits_len_ge 10 m
  omega
theorem dig_inj {m k : Nat} (h : (Str.ofString (toString ((m : Nat) : Int))).cps.toList = (Str.ofString (toString ((k : Nat) : Int))).cps.toList) : m = k := by
  rw [signs_num, signs_num] at h
  rw [← val_back m, ← val_back k, h]
theorem win_L (K : Str) (j : Int) : (winKey K j).cps.toList = K.cps.toList ++ 47 :: (Str.ofString (toString j)).cps.toList := by
  unfold winKey
  rw [L_append, L_append, L_append]
  show [] ++ K.cps.toList ++ [47] ++ _ = _
  simp
theorem win_inj {K K' : Str} {j j' : Nat} (h : winKey K (j : Int) = winKey K' (j' : Int)) : K = K' ∧ j = j' := by
  have e := congrArg (fun s => s.cps.toList) h
  simp only [win_L] at e
  obtain ⟨e1, e2⟩ := split_last e (fun q => absurd (dig_rng q).1 (by decide)) (fun q => absurd (dig_rng q).1 (by decide))
  exact ⟨by cases K; cases K'; simpa using e1, dig_inj e2⟩
noncomputable def Base (s : Str) : Prop := ∃ c, s.cps.toList.getLast? = some c ∧ 57 < c
theorem base_win {K s : Str} {j : Nat} (h : Base s) : s ≠ winKey K (j : Int) := fun q => by
  obtain ⟨c, e, hc⟩ := h
  rw [q, win_L] at e
  have hne := dig_ne j
  rw [List.getLast?_append, List.getLast?_cons] at e
  cases hd : (Str.ofString (toString ((j : Nat) : Int))).cps.toList.getLast? with
  | none => exact hne (by simpa using hd)
  | some d =>
    rw [hd] at e
    simp at e
    have := (dig_rng (List.mem_of_getLast? hd)).2
    omega
noncomputable def T3 (am mu : Int) (gn : String) : Str := Str.ofString (toString am) ++ Str.ofString "/" ++ (Str.ofString (toString mu) ++ Str.ofString "/" ++ Str.ofString gn)
theorem str_app (a b : Str) : (a ++ b).cps = a.cps ++ b.cps := rfl
theorem join4 (p a b c d : Str) : Txt.join p [a, b, c, d] = a ++ p ++ (b ++ p ++ (c ++ p ++ d)) := by
  show (⟨a.cps ++ p.cps ++ b.cps ++ p.cps ++ c.cps ++ p.cps ++ d.cps⟩ : Str) = ⟨a.cps ++ p.cps ++ (b.cps ++ p.cps ++ (c.cps ++ p.cps ++ d.cps))⟩
  simp only [Array.append_assoc]
theorem join5 (p a b c d e : Str) : Txt.join p [a, b, c, d, e] = a ++ p ++ (b ++ p ++ (c ++ p ++ (d ++ p ++ e))) := by
  show (⟨a.cps ++ p.cps ++ b.cps ++ p.cps ++ c.cps ++ p.cps ++ d.cps ++ p.cps ++ e.cps⟩ : Str) = ⟨a.cps ++ p.cps ++ (b.cps ++ p.cps ++ (c.cps ++ p.cps ++ (d.cps ++ p.cps ++ e.cps)))⟩
  simp only [Array.append_assoc]
theorem key_1 (ns x : Str) (am mu : Int) (gn : String) : keyS ns [x] am mu gn = Str.empty ++ ns ++ Str.ofString "/" ++ (x ++ Str.ofString "/" ++ T3 am mu gn) := by
  show Str.empty ++ ns ++ Str.ofString "/" ++ Txt.join (Str.ofString "/") [x, Str.ofString (toString am), Str.ofString (toString mu), Str.ofString gn] = _
  rw [join4]; rfl
theorem key_2 (ns x y : Str) (am mu : Int) (gn : String) : keyS ns [x, y] am mu gn = Str.empty ++ ns ++ Str.ofString "/" ++ (x ++ Str.ofString "/" ++ (y ++ Str.ofString "/" ++ T3 am mu gn)) := by
  show Str.empty ++ ns ++ Str.ofString "/" ++ Txt.join (Str.ofString "/") [x, y, Str.ofString (toString am), Str.ofString (toString mu), Str.ofString gn] = _
  rw [join5]; rfl
theorem key_sz1 (ns x : Str) (am mu : Int) (gn : String) : (keyS ns [x] am mu gn).cps.size = ns.cps.size + 1 + x.cps.size + 1 + (T3 am mu gn).cps.size := by
  rw [key_1]
  simp only [sz_append]
  show 0 + _ + 1 + (_ + 1 + _) = _
  omega
theorem key_sz2 (ns x y : Str) (am mu : Int) (gn : String) : (keyS ns [x, y] am mu gn).cps.size = ns.cps.size + 1 + x.cps.size + 1 + y.cps.size + 1 + (T3 am mu gn).cps.size := by
  rw [key_2]
  simp only [sz_append]
  show 0 + _ + 1 + (_ + 1 + (_ + 1 + _)) = _
  omega
theorem T3_base (am mu : Int) (c : Bool) : Base (T3 am mu (gname c)) := by
  have e : (T3 am mu (gname c)).cps.toList = (Str.ofString (toString am) ++ Str.ofString "/" ++ (Str.ofString (toString mu) ++ Str.ofString "/")).cps.toList ++ (Str.ofString (gname c)).cps.toList := by
    show (Str.ofString (toString am) ++ Str.ofString "/" ++ (Str.ofString (toString mu) ++ Str.ofString "/" ++ Str.ofString (gname c))).cps.toList = _
    simp only [L_append, List.append_assoc]
  unfold Base
  rw [e]
  cases c
  · exact ⟨100, by rw [List.getLast?_append]; rfl, by decide⟩
  · exact ⟨101, by rw [List.getLast?_append]; rfl, by decide⟩
theorem Base.pre {a b : Str} (h : Base b) : Base (a ++ b) := by
  obtain ⟨c, e, hc⟩ := h
  refine ⟨c, ?_, hc⟩
  rw [L_append, List.getLast?_append, e]; rfl
theorem key_base1 (ns x : Str) (am mu : Int) (c : Bool) : Base (keyS ns [x] am mu (gname c)) := by rw [key_1]; exact (T3_base am mu c).pre.pre
theorem key_base2 (ns x y : Str) (am mu : Int) (c : Bool) : Base (keyS ns [x, y] am mu (gname c)) := by rw [key_2]; exact (T3_base am mu c).pre.pre.pre

end
section
open TI PySem.W.KIN PySem.NumText
section
variable {p : LP} {c n m : Int} {i i' : Option Nat}
theorem K1_base (p : LP) (n : Int) : Base (K1 p n) := by
  unfold K1 mineX
  by_cases h : n = 0
  · rw [if_pos h]; exact key_base1 _ _ _ _ false
  · rw [if_neg h]; exact key_base2 _ _ _ _ _ false
theorem K2_base (p : LP) (n : Int) : Base (K2 p n) := by
  unfold K2 yoursX
  by_cases h : n = 0
  · rw [if_pos h]; exact key_base2 _ _ _ _ _ true
  · rw [if_neg h]; exact key_base1 _ _ _ _ true
theorem K1_sz (p : LP) (n : Int) : (K1 p n).cps.size = (if n = 0 then 10 else 12) + (T3 p.am p.mu (gname false)).cps.size := by
  unfold K1 mineX
  by_cases h : n = 0
  · rw [if_pos h, if_pos h]; show (keyS _ _ _ _ _).cps.size = _; rw [key_sz1]; show 7 + 1 + 1 + 1 + _ = _; omega
  · rw [if_neg h, if_neg h]; show (keyS _ _ _ _ _).cps.size = _; rw [key_sz2]; show 7 + 1 + 1 + 1 + 1 + 1 + _ = _; omega
theorem K2_sz (p : LP) (n : Int) : (K2 p n).cps.size = (if n = 0 then 11 else 8) + (T3 p.am p.mu (gname true)).cps.size := by
  unfold K2 yoursX
  by_cases h : n = 0
  · rw [if_pos h, if_pos h]; show (keyS _ _ _ _ _).cps.size = _; rw [key_sz2]; show 5 + 1 + 2 + 1 + 1 + 1 + _ = _; omega
  · rw [if_neg h, if_neg h]; show (keyS _ _ _ _ _).cps.size = _; rw [key_sz1]; show 5 + 1 + 1 + 1 + _ = _; omega
theorem K1_inj (h : K1 p n = K1 p m) : (n = 0 ↔ m = 0) := by
  have e := congrArg (fun s => s.cps.size) h
  simp only [K1_sz] at e
  by_cases a : n = 0 <;> by_cases b : m = 0 <;> simp [a, b] at e ⊢
theorem K2_inj (h : K2 p n = K2 p m) : (n = 0 ↔ m = 0) := by
  have e := congrArg (fun s => s.cps.size) h
  simp only [K2_sz] at e
  by_cases a : n = 0 <;> by_cases b : m = 0 <;> simp [a, b] at e ⊢
theorem K1_iff (h : (n = 0 ↔ m = 0)) : K1 p n = K1 p m := by
  unfold K1 mineX
  by_cases a : n = 0
  · rw [if_pos a, if_pos (h.mp a)]
  · rw [if_neg a, if_neg fun z => a (h.mpr z)]
theorem K2_iff (h : (n = 0 ↔ m = 0)) : K2 p n = K2 p m := by
  unfold K2 yoursX
  by_cases a : n = 0
  · rw [if_pos a, if_pos (h.mp a)]
  · rw [if_neg a, if_neg fun z => a (h.mpr z)]
noncomputable def Ix (n m : Int) (i i' : Option Nat) : Prop := (n = 0 ↔ m = 0) ∧ i = i'
theorem key1_iff : key1 p n i = key1 p m i' ↔ Ix n m i i' := by
  constructor
  · intro h
    cases i with
    | none => cases i' with
      | none => exact ⟨K1_inj h, rfl⟩
      | some j => exact absurd h (base_win (K1_base p n))
    | some j => cases i' with
      | none => exact absurd h.symm (base_win (K1_base p m))
      | some j' =>
        obtain ⟨a, b⟩ := win_inj h
        exact ⟨K1_inj a, congrArg some b⟩
  · rintro ⟨a, rfl⟩
    cases i with
    | none => exact K1_iff a
    | some j => show winKey _ _ = winKey _ _; rw [K1_iff a]
theorem c_nat (b : LB p c) (j : Nat) : (j : Int) + c = ((j + c.toNat : Nat) : Int) := by have := b.hc; omega
theorem key2_iff (b : LB p c) : key2 p c n i = key2 p c m i' ↔ Ix n m i i' := by
  constructor
  · intro h
    cases i with
    | none => cases i' with
      | none => exact ⟨K2_inj h, rfl⟩
      | some j =>
        have h : K2 p n = winKey (K2 p m) ((j : Int) + c) := h
        rw [c_nat b] at h
        exact absurd h (base_win (K2_base p n))
    | some j => cases i' with
      | none =>
        have h : winKey (K2 p n) ((j : Int) + c) = K2 p m := h
        rw [c_nat b] at h
        exact absurd h.symm (base_win (K2_base p m))
      | some j' =>
        have h : winKey (K2 p n) ((j : Int) + c) = winKey (K2 p m) ((j' : Int) + c) := h
        rw [c_nat b, c_nat b] at h
        obtain ⟨a, d⟩ := win_inj h
        exact ⟨K2_inj a, congrArg some (by omega)⟩
  · rintro ⟨a, rfl⟩
    cases i with
    | none => exact K2_iff a
    | some j => show winKey _ _ = winKey _ _; rw [K2_iff a]
theorem str_head {a b : Str} {x y : Nat} (h : a.cps.toList.head? = some x) (h' : b.cps.toList.head? = some y) (n : x ≠ y) : a ≠ b := fun e => by rw [e, h'] at h; exact n (Option.some.inj h).symm
theorem key_head (ns : Str) (xs : List Str) (am mu : Int) (gn : String) {x : Nat} (h : ns.cps.toList.head? = some x) : (keyS ns xs am mu gn).cps.toList.head? = some x := by
  have e : (keyS ns xs am mu gn).cps.toList = ns.cps.toList ++ ((Str.ofString "/").cps.toList ++ (Txt.join (Str.ofString "/") (xs ++ [Str.ofString (toString am), Str.ofString (toString mu), Str.ofString gn])).cps.toList) := by
    unfold keyS
    simp only [L_append]
    show [] ++ _ ++ _ ++ _ = _
    simp
  rw [e]
  cases q : ns.cps.toList with
  | nil => rw [q] at h; cases h
  | cons a l => rw [q] at h; exact h
theorem strange_base {ns : Str} {xs : List Str} (hs : Strange ns xs) : Base (p.key true ns xs) := by
  rcases hs with ⟨rfl, rfl | rfl⟩ | ⟨rfl, n, rfl⟩
  · exact key_base1 _ _ _ _ true
  · exact key_base2 _ _ _ _ _ true
  · unfold yoursX
    by_cases h : n = 0
    · rw [if_pos h]; exact key_base2 _ _ _ _ _ true
    · rw [if_neg h]; exact key_base1 _ _ _ _ true
theorem strange_ne {ns : Str} {xs : List Str} (hs : Strange ns xs) (n : Int) : K2 p n ≠ p.key true ns xs := by
  have e2 := K2_sz p n
  rcases hs with ⟨rfl, rfl | rfl⟩ | ⟨rfl, k, rfl⟩
  · intro q
    rw [q] at e2
    have : (p.key true (Str.ofString "other") [Str.ofString "stranger"]).cps.size = 5 + 1 + 8 + 1 + (T3 p.am p.mu (gname true)).cps.size := key_sz1 _ _ _ _ _
    rw [this] at e2
    split at e2 <;> omega
  · intro q
    rw [q] at e2
    have : (p.key true (Str.ofString "other") [Str.ofString "stranger", Str.ofString "q"]).cps.size = 5 + 1 + 8 + 1 + 1 + 1 + (T3 p.am p.mu (gname true)).cps.size := key_sz2 _ _ _ _ _ _
    rw [this] at e2
    split at e2 <;> omega
  · exact str_head (key_head _ _ _ _ _ (x := 111) rfl) (key_head _ _ _ _ _ (x := 116) rfl) (by decide)
/-- what a stranger's call may change -/
noncomputable def Tch (S : Str) (k : Str) : Prop := k = S ∨ ∃ j : Int, 0 ≤ j ∧ k = winKey S j
theorem strange_off (b : LB p c) {ns : Str} {xs : List Str} (hs : Strange ns xs) (n : Int) (i : Option Nat) : ¬ Tch (p.key true ns xs) (key2 p c n i) := by
  rintro (h | ⟨j, hj, h⟩)
  · cases i with
    | none => exact strange_ne hs n h
    | some k =>
      have h : winKey (K2 p n) ((k : Int) + c) = p.key true ns xs := h
      rw [c_nat b] at h
      exact base_win (strange_base hs) h.symm
  · obtain ⟨j', rfl⟩ := Int.eq_ofNat_of_zero_le hj
    cases i with
    | none => exact base_win (K2_base p n) h
    | some k =>
      have h : winKey (K2 p n) ((k : Int) + c) = winKey (p.key true ns xs) j' := h
      rw [c_nat b] at h
      exact strange_ne hs n (win_inj h).1
end

end
section
open TI
/-! only a stranger's keys are touched -/
noncomputable def Only (S : Str) (σ σ' : Sta) : Prop := ∀ k, ¬ Tch S k → σ'.cnt k = σ.cnt k ∧ σ'.ex k = σ.ex k ∧ σ'.ev k = σ.ev k
section
variable {S k : Str} {σ σ' σ'' : Sta} {T e : Int}
theorem Only.refl (S : Str) (σ : Sta) : Only S σ σ := fun _ _ => ⟨rfl, rfl, rfl⟩
theorem Only.trans (a : Only S σ σ') (b : Only S σ' σ'') : Only S σ σ'' := fun k h => by
  obtain ⟨a1, a2, a3⟩ := a k h
  obtain ⟨b1, b2, b3⟩ := b k h
  exact ⟨b1.trans a1, b2.trans a2, b3.trans a3⟩
theorem getX_off (f : Str → Option Int) {x : Str} (h : x ≠ k) : getX T f k x = f x := by
  unfold getX; split
  · unfold del; rw [if_neg h]
  · rfl
theorem getC_off (f g : Str → Option Int) {x : Str} (h : x ≠ k) : getC T f g k x = g x := by
  unfold getC; split
  · unfold del; rw [if_neg h]
  · rfl
theorem del_off {α : Type} (f : Str → Option α) {x : Str} (h : x ≠ k) : del f k x = f x := by unfold del; rw [if_neg h]
theorem put_off {α : Type} (f : Str → Option α) {x : Str} {a : α} (h : x ≠ k) : put f k a x = f x := by unfold put; rw [if_neg h]
theorem getS_only (h : Tch S k) : Only S σ (getS σ T k) := fun x hx => by
  have n : x ≠ k := fun q => hx (q ▸ h)
  exact ⟨getC_off _ _ n, getX_off _ n, rfl⟩
theorem delS_only (h : Tch S k) : Only S σ (delS σ k) := fun x hx => by
  have n : x ≠ k := fun q => hx (q ▸ h)
  exact ⟨del_off _ n, del_off _ n, del_off _ n⟩
theorem swI_only (hp : Tch S (pkO T e k)) (hc : Tch S (ckO T e k)) : Only S σ (swI σ T e k) := fun x hx => by
  have n1 : x ≠ pkO T e k := fun q => hx (q ▸ hp)
  have n2 : x ≠ ckO T e k := fun q => hx (q ▸ hc)
  refine ⟨?_, ?_, rfl⟩
  · show getC T _ _ _ x = _
    rw [getC_off _ _ n2, getC_off _ _ n1]
  · show getX T _ _ x = _
    rw [getX_off _ n2, getX_off _ n1]
end
noncomputable def Bd (B : Int) (f : Str → Option Int) : Prop := ∀ k v, f k = some v → 0 ≤ v ∧ v ≤ B
section
variable {p : LP} {c B B' T e t cost k n am : Int} {K : Str} {f g : Str → Option Int} {σ : Sta} {ns : Str} {xs : List Str}
theorem Bd.mono (h : Bd B f) (q : B ≤ B') : Bd B' f := fun k v x => ⟨(h k v x).1, Int.le_trans (h k v x).2 q⟩
theorem Bd.del (h : Bd B f) : Bd B (del f K) := fun k v x => by
  unfold Mine.del at x
  split at x
  · cases x
  · exact h k v x
theorem Bd.put (h : Bd B f) {a : Int} (ha : 0 ≤ a ∧ a ≤ B) : Bd B (put f K a) := fun k v x => by
  unfold Mine.put at x
  split at x
  · cases x; exact ha
  · exact h k v x
theorem Bd.getC (h : Bd B f) : Bd B (getC T g f K) := by
  unfold Mine.getC
  split
  · exact h.del
  · exact h
theorem Bd.val (h : Bd B f) (hB : 0 ≤ B) (k : Str) : 0 ≤ (f k).getD 0 ∧ (f k).getD 0 ≤ B := by
  cases q : f k with
  | none => exact ⟨Int.le_refl _, hB⟩
  | some v => exact h k v q
theorem Bd.swI (h : Bd B σ.cnt) : Bd B (swI σ T e K).cnt := (h.getC (T := T) (g := σ.ex) (K := pkO T e K)).getC (T := T)
theorem Bd.tst (h : Bd B σ.cnt) : Bd B (tstS k σ T e K).cnt := by
  unfold tstS
  split
  · exact h.getC
  · split
    · exact h
    · exact h.swI
theorem Bd.hit (h : Bd B σ.cnt) (hB : 0 ≤ B) (hc : 0 ≤ cost ∧ cost ≤ 50) : Bd (B + 50) (hitS k σ T e K am cost).cnt := by
  unfold hitS
  split
  · have v := (h.getC (T := T) (g := σ.ex) (K := K)).val hB K
    refine ((h.getC (T := T) (g := σ.ex) (K := K)).mono (by omega)).put ⟨?_, ?_⟩
    · show 0 ≤ getV σ T K + cost; unfold getV; omega
    · show getV σ T K + cost ≤ _; unfold getV; omega
  · split
    · exact h.mono (by omega)
    · unfold swS
      split
      · exact h.mono (by omega)
      · split
        · exact h.swI.mono (by omega)
        · have v := (h.swI (T := T) (e := e) (K := K)).val hB (ckO T e K)
          refine (h.swI.mono (by omega)).put ⟨?_, ?_⟩
          · show 0 ≤ swC σ T e K + cost
            have : swC σ T e K = ((Mine.swI σ T e K).cnt (ckO T e K)).getD 0 := rfl
            omega
          · show swC σ T e K + cost ≤ _
            have : swC σ T e K = ((Mine.swI σ T e K).cnt (ckO T e K)).getD 0 := rfl
            omega
theorem Bd.clr (h : Bd B σ.cnt) : Bd B (clrS k σ T e K).cnt := by
  unfold clrS
  split
  · exact h.del
  · split
    · exact h.del
    · exact h.del.del
theorem Bd.exp (h : Bd B σ.cnt) : Bd B (expS σ T).cnt := fun k v x => by
  have x : (match σ.ex k with | some v => if v ≤ T then none else σ.cnt k | none => σ.cnt k) = some v := x
  split at x
  · split at x
    · cases x
    · exact h k v x
  · exact h k v x
theorem tch_self (K : Str) : Tch K K := .inl rfl
theorem tch_p (h0 : 0 < e) (h1 : e ≤ T) : Tch K (pkO T e K) := .inr ⟨_, by rw [Int.fdiv_eq_ediv_of_nonneg _ (by omega)]; exact Int.ediv_nonneg (by omega) (by omega), rfl⟩
theorem tch_c (h0 : 0 < e) (h1 : e ≤ T) : Tch K (ckO T e K) := .inr ⟨_, by rw [Int.fdiv_eq_ediv_of_nonneg _ (by omega)]; exact Int.ediv_nonneg (by omega) (by omega), rfl⟩
theorem only_tst (h0 : 0 < e) (h1 : e ≤ T) : Only K σ (tstS k σ T e K) := by
  unfold tstS
  split
  · exact getS_only (tch_self K)
  · split
    · exact Only.refl _ _
    · exact swI_only (tch_p h0 h1) (tch_c h0 h1)
theorem only_hit (h0 : 0 < e) (h1 : e ≤ T) : Only K σ (hitS k σ T e K am cost) := by
  unfold hitS
  split
  · refine (getS_only (T := T) (tch_self K)).trans fun x hx => ?_
    have n : x ≠ K := fun q => hx (q ▸ tch_self K)
    refine ⟨put_off _ n, ?_, rfl⟩
    show (if _ then put (getX T σ.ex K) K _ else getX T σ.ex K) x = _
    split
    · exact put_off _ n
    · rfl
  · split
    · intro x hx
      have n : x ≠ K := fun q => hx (q ▸ tch_self K)
      refine ⟨rfl, rfl, ?_⟩
      show acqF σ.ev K T am e cost x = _
      unfold acqF
      split
      · exact put_off _ n
      · rfl
    · unfold swS
      split
      · exact Only.refl _ _
      · split
        · exact swI_only (tch_p h0 h1) (tch_c h0 h1)
        · refine (swI_only (T := T) (e := e) (tch_p h0 h1) (tch_c h0 h1)).trans fun x hx => ?_
          have n : x ≠ ckO T e K := fun q => hx (q ▸ tch_c h0 h1)
          refine ⟨put_off _ n, ?_, rfl⟩
          show (if _ then put (swI σ T e K).ex _ _ else (swI σ T e K).ex) x = _
          split
          · exact put_off _ n
          · rfl
theorem only_clr (h0 : 0 < e) (h1 : e ≤ T) : Only K σ (clrS k σ T e K) := by
  unfold clrS
  split
  · exact delS_only (tch_self K)
  · split
    · exact delS_only (tch_self K)
    · exact (delS_only (tch_p h0 h1)).trans (delS_only (tch_c h0 h1))
theorem Rel.strange {σ : Bool → Sta} {τ : Sta} (b : LB p c) (H : Rel p c B σ) (hs : Strange ns xs) (O : Only (p.key true ns xs) (σ true) τ) (hb : Bd B' τ.cnt) (hB : B ≤ B') : Rel p c B' (setB σ true τ) where
  cnt := fun n i => ((O _ (strange_off b hs n i)).1).trans (H.cnt n i)
  ex := fun n i => ((O _ (strange_off b hs n i)).2.1).trans (H.ex n i)
  ev := fun n i => ((O _ (strange_off b hs n i)).2.2).trans (H.ev n i)
  bd := fun sd k v e => by
    cases sd
    · obtain ⟨x, y⟩ := H.bd false k v e
      exact ⟨x, by omega⟩
    · exact hb k v e
variable {σ2 : Bool → Sta}
theorem rel_test (b : LB p c) (H : Rel p c B σ2) (hs : Strange ns xs) (he : 0 < e ∧ e ≤ T) : Rel p c (B + 50) (setB σ2 true (tstS k (σ2 true) T e (p.key true ns xs))) :=
  H.strange b hs (only_tst he.1 he.2) ((show Bd B (σ2 true).cnt from H.bd true).tst.mono (by omega)) (by omega)
theorem rel_hit (b : LB p c) (H : Rel p c B σ2) (hs : Strange ns xs) (he : 0 < e ∧ e ≤ T) (hB : 0 ≤ B) (hc : 0 ≤ cost ∧ cost ≤ 50) : Rel p c (B + 50) (setB σ2 true (hitS k (σ2 true) T e (p.key true ns xs) p.am cost)) :=
  H.strange b hs (only_hit he.1 he.2) ((show Bd B (σ2 true).cnt from H.bd true).hit hB hc) (by omega)
theorem rel_clr (b : LB p c) (H : Rel p c B σ2) (hs : Strange ns xs) (he : 0 < e ∧ e ≤ T) : Rel p c (B + 50) (setB σ2 true (clrS k (σ2 true) T e (p.key true ns xs))) :=
  H.strange b hs (only_clr he.1 he.2) ((show Bd B (σ2 true).cnt from H.bd true).clr.mono (by omega)) (by omega)
theorem w_e (b : LB p c) (hmt : p.mu ≤ t) : 0 < p.e true ∧ p.e true ≤ p.T true t := by
  have a1 := b.mu
  have a2 := b.hc
  have a3 := b.ah
  constructor
  · show 0 < 60 * p.mu; omega
  · show 60 * p.mu ≤ 60 * t + p.ah
    have : 0 ≤ 60 * p.mu * c := Int.mul_nonneg (by omega) (by omega)
    omega
end

end
section
open TI
noncomputable def R1 {α β : Type} (p : LP) (c : Int) (r : α → β) (f1 : Str → Option α) (f2 : Str → Option β) : Prop := ∀ m i, f2 (key2 p c m i) = (f1 (key1 p m i)).map r
noncomputable abbrev scp (p : LP) (x : Int × Int) : Int × Int := (sc p x.1, sc p x.2)
structure RP (p : LP) (c : Int) (σ1 σ2 : Sta) : Prop where
  cnt : R1 p c (fun x : Int => x) σ1.cnt σ2.cnt
  ex : R1 p c (sc p) σ1.ex σ2.ex
  ev : R1 p c (List.map (scp p)) σ1.ev σ2.ev
section
variable {α β : Type} {p : LP} {c t n : Int} {i : Option Nat} {r : α → β} {f1 : Str → Option α} {f2 : Str → Option β} {x1 x2 g1 g2 : Str → Option Int} {σ1 σ2 : Sta}
theorem R1.del (b : LB p c) (H : R1 p c r f1 f2) : R1 p c r (del f1 (key1 p n i)) (del f2 (key2 p c n i)) := fun m j => by
  unfold Mine.del
  by_cases q : Ix m n j i
  · rw [if_pos ((key2_iff b).mpr q), if_pos (key1_iff.mpr q)]; rfl
  · rw [if_neg fun z => q ((key2_iff b).mp z), if_neg fun z => q (key1_iff.mp z)]; exact H m j
theorem R1.put (b : LB p c) (H : R1 p c r f1 f2) {a : α} {a' : β} (e : a' = r a) : R1 p c r (put f1 (key1 p n i) a) (put f2 (key2 p c n i) a') := fun m j => by
  unfold Mine.put
  by_cases q : Ix m n j i
  · rw [if_pos ((key2_iff b).mpr q), if_pos (key1_iff.mpr q), e]; rfl
  · rw [if_neg fun z => q ((key2_iff b).mp z), if_neg fun z => q (key1_iff.mp z)]; exact H m j
theorem ah_nn (b : LB p c) : 0 ≤ p.ah := by
  have a1 := b.mu
  have a2 := b.hc
  rw [b.ah]; exact Int.mul_nonneg (by omega) (by omega)
theorem exp_iff (b : LB p c) (X : R1 p c (sc p) x1 x2) (ht : 1 ≤ t) : (x2 (key2 p c n i)).getD 0 ≤ sc p t ↔ (x1 (key1 p n i)).getD 0 ≤ t := by
  have a := ah_nn b
  rw [X n i]
  cases x1 (key1 p n i) with
  | none => show 0 ≤ 60 * t + p.ah ↔ 0 ≤ t; omega
  | some x => show 60 * x + p.ah ≤ 60 * t + p.ah ↔ x ≤ t; omega
theorem R1.getX (b : LB p c) (X : R1 p c (sc p) x1 x2) (ht : 1 ≤ t) : R1 p c (sc p) (getX t x1 (key1 p n i)) (getX (sc p t) x2 (key2 p c n i)) := by
  have e := exp_iff (n := n) (i := i) b X ht
  unfold Mine.getX
  by_cases q : (x1 (key1 p n i)).getD 0 ≤ t
  · rw [if_pos q, if_pos (e.mpr q)]; exact X.del b
  · rw [if_neg q, if_neg fun z => q (e.mp z)]; exact X
theorem R1.getC (b : LB p c) (X : R1 p c (sc p) x1 x2) (C : R1 p c (fun x : Int => x) g1 g2) (ht : 1 ≤ t) : R1 p c (fun x : Int => x) (getC t x1 g1 (key1 p n i)) (getC (sc p t) x2 g2 (key2 p c n i)) := by
  have e := exp_iff (n := n) (i := i) b X ht
  unfold Mine.getC
  by_cases q : (x1 (key1 p n i)).getD 0 ≤ t
  · rw [if_pos q, if_pos (e.mpr q)]; exact C.del b
  · rw [if_neg q, if_neg fun z => q (e.mp z)]; exact C
theorem R1.val (C : R1 p c (fun x : Int => x) g1 g2) : (g2 (key2 p c n i)).getD 0 = (g1 (key1 p n i)).getD 0 := by
  rw [C n i]; cases g1 (key1 p n i) <;> rfl
theorem RP.get (b : LB p c) (H : RP p c σ1 σ2) (ht : 1 ≤ t) : RP p c (getS σ1 t (key1 p n i)) (getS σ2 (sc p t) (key2 p c n i)) ∧ getV σ2 (sc p t) (key2 p c n i) = getV σ1 t (key1 p n i) :=
  ⟨⟨H.ex.getC b H.cnt ht, H.ex.getX b ht, H.ev⟩, (H.ex.getC b H.cnt ht).val⟩
theorem RP.dl (b : LB p c) (H : RP p c σ1 σ2) : RP p c (delS σ1 (key1 p n i)) (delS σ2 (key2 p c n i)) := ⟨H.cnt.del b, H.ex.del b, H.ev.del b⟩
theorem fdiv_sc {mu x : Int} (hm : 0 < mu) (hc : 0 ≤ c) (hx : 0 ≤ x) : (60 * x + 60 * mu * c).fdiv (60 * mu) = x.fdiv mu + c := by
  rw [Int.fdiv_eq_ediv_of_nonneg _ (by omega), Int.fdiv_eq_ediv_of_nonneg _ (by omega)]
  have : 60 * x + 60 * mu * c = 60 * (x + mu * c) := by rw [Int.mul_add, Int.mul_assoc]
  rw [this, Int.mul_ediv_mul_of_pos _ _ (by decide), Int.add_mul_ediv_left _ _ (by omega)]
theorem fmod_sc {mu x : Int} (hm : 0 < mu) : (60 * x + 60 * mu * c).fmod (60 * mu) = 60 * x.fmod mu := by
  rw [Int.fmod_eq_emod_of_nonneg _ (by omega), Int.fmod_eq_emod_of_nonneg _ (by omega), Int.mul_assoc, ← Int.mul_add, Int.mul_emod_mul_of_pos _ _ (by decide), Int.add_mul_emod_self_left]
theorem bisW_congr {P Q : Nat → Bool} : ∀ k lo hi, hi - lo ≤ k → (∀ i, i < hi → P i = Q i) → bisW P lo hi = bisW Q lo hi := by
  intro k
  induction k with
  | zero => intro lo hi h _; rw [bisW_eq, if_neg (by omega), bisW_eq, if_neg (by omega)]
  | succ k ih =>
    intro lo hi h e
    rw [bisW_eq]
    conv => rhs; rw [bisW_eq]
    by_cases q : lo < hi
    · rw [if_pos q, if_pos q, e _ (by omega), ih _ hi (by omega) e, ih lo _ (by omega) fun i hi' => e i (by omega)]
    · rw [if_neg q, if_neg q]
theorem bis_sc (l : List (Int × Int)) (f : Int × Int → Int) (f' : Int × Int → Int) (y y' : Int) (h : ∀ x, (f' (scp p x) < y') ↔ (f x < y)) :
    bisW (fun i => decide (f' ((l.map (scp p)).getD i (0, 0)) < y')) 0 (l.map (scp p)).length = bisW (fun i => decide (f (l.getD i (0, 0)) < y)) 0 l.length := by
  rw [List.length_map]
  refine bisW_congr l.length 0 _ (by omega) fun i hi => ?_
  have e : (l.map (scp p)).getD i (0, 0) = scp p (l.getD i (0, 0)) := by
    rw [List.getD_eq_getElem?_getD, List.getD_eq_getElem?_getD, List.getElem?_map, List.getElem?_eq_getElem hi]; rfl
  rw [e]
  exact decide_eq_decide.mpr (h _)
theorem gmw_ne {l : List (Int × Int)} {t e : Int} (h : l ≠ []) : gmwF l t e = ((l.getD (if bisW (fun i => decide (-(l.getD i (0, 0)).1 < -(t - e))) 0 l.length = 0 then l.length - 1 else bisW (fun i => decide (-(l.getD i (0, 0)).1 < -(t - e))) 0 l.length - 1) (0, 0)).1, ((bisW (fun i => decide (-(l.getD i (0, 0)).1 < -(t - e))) 0 l.length : Nat) : Int)) := by
  cases l with
  | nil => exact absurd rfl h
  | cons a r => rfl
theorem getD_sc (l : List (Int × Int)) {j : Nat} (hj : j < l.length) : (l.map (scp p)).getD j (0, 0) = scp p (l.getD j (0, 0)) := by
  rw [List.getD_eq_getElem?_getD, List.getD_eq_getElem?_getD, List.getElem?_map, List.getElem?_eq_getElem hj]; rfl
theorem gmw_sc (l : List (Int × Int)) (t e : Int) : gmwF (l.map (scp p)) (sc p t) (60 * e) = (sc p (gmwF l t e).1, (gmwF l t e).2) := by
  by_cases h : l = []
  · subst h; rfl
  · have hb := bis_sc (p := p) l (fun x => -x.1) (fun x => -x.1) (-(t - e)) (-(sc p t - 60 * e)) (fun x => by show -(60 * x.1 + p.ah) < -(60 * t + p.ah - 60 * e) ↔ -x.1 < -(t - e); omega)
    have hk := (bisW_le (fun i => decide (-(l.getD i (0, 0)).1 < -(t - e))) l.length 0 l.length (Nat.le_refl _) (Nat.zero_le _)).2
    have hp : 0 < l.length := List.length_pos_iff.mpr h
    rw [gmw_ne h, gmw_ne (fun q => h (List.map_eq_nil_iff.mp q))]
    rw [hb, List.length_map]
    generalize bisW (fun i => decide (-(l.getD i (0, 0)).1 < -(t - e))) 0 l.length = K at hk ⊢
    have hi : (if K = 0 then l.length - 1 else K - 1) < l.length := by split <;> omega
    rw [getD_sc l hi]
theorem exp_sc (l : List (Int × Int)) (t : Int) : expL (sc p t) (l.map (scp p)) = (expL t l).map (scp p) := by
  unfold expL
  rw [bis_sc (p := p) l (fun x => -x.2) (fun x => -x.2) (-t) (-(sc p t)) (fun x => by show -(60 * x.2 + p.ah) < -(60 * t + p.ah) ↔ -x.2 < -t; omega), List.map_take]
end

end
section
open TI
section
variable {p : LP} {c t n B k cost deed am limit amount : Int} {i : Option Nat} {σ1 σ2 : Sta}
noncomputable def jp (p : LP) (t : Int) : Nat := ((t - p.mu).fdiv p.mu).toNat
noncomputable def jc (p : LP) (t : Int) : Nat := (t.fdiv p.mu).toNat
theorem e_one (p : LP) : p.e false = p.mu := Int.one_mul _
theorem nn_div {x m : Int} (h : 0 ≤ x) (hm : 0 < m) : ((x.fdiv m).toNat : Int) = x.fdiv m := by
  rw [Int.fdiv_eq_ediv_of_nonneg _ (by omega)]
  have := Int.ediv_nonneg h (Int.le_of_lt hm)
  omega
theorem pk1 (b : LB p c) (hmt : p.mu ≤ t) : pkO t (p.e false) (K1 p n) = key1 p n (some (jp p t)) := by
  have := b.mu
  show winKey _ _ = winKey _ _
  rw [e_one, jp, nn_div (by omega) (by omega)]
theorem ck1 (b : LB p c) (hmt : p.mu ≤ t) : ckO t (p.e false) (K1 p n) = key1 p n (some (jc p t)) := by
  have := b.mu
  show winKey _ _ = winKey _ _
  rw [e_one, jc, nn_div (by omega) (by omega)]
theorem pk2 (b : LB p c) (hmt : p.mu ≤ t) : pkO (sc p t) (p.e true) (K2 p n) = key2 p c n (some (jp p t)) := by
  have h1 := b.mu
  have h2 := b.hc
  show winKey _ _ = winKey _ _
  rw [jp, nn_div (by omega) (by omega), ← fdiv_sc (by omega) (by omega) (by omega)]
  congr 2
  show 60 * t + p.ah - 60 * p.mu = _
  rw [b.ah]; omega
theorem ck2 (b : LB p c) (hmt : p.mu ≤ t) : ckO (sc p t) (p.e true) (K2 p n) = key2 p c n (some (jc p t)) := by
  have h1 := b.mu
  have h2 := b.hc
  show winKey _ _ = winKey _ _
  rw [jc, nn_div (by omega) (by omega), ← fdiv_sc (by omega) (by omega) (by omega)]
  congr 2
  show 60 * t + p.ah = _
  rw [b.ah]
theorem RP.swI (b : LB p c) (H : RP p c σ1 σ2) (hmt : p.mu ≤ t) : RP p c (swI σ1 t (p.e false) (K1 p n)) (swI σ2 (sc p t) (p.e true) (K2 p n)) := by
  have ht : 1 ≤ t := by have := b.mu; omega
  unfold Mine.swI
  rw [pk1 b hmt, ck1 b hmt, pk2 b hmt, ck2 b hmt]
  exact ⟨(H.ex.getX b ht).getC b (H.ex.getC b H.cnt ht) ht, (H.ex.getX b ht).getX b ht, H.ev⟩
theorem swP_sc (b : LB p c) (H : RP p c σ1 σ2) (hmt : p.mu ≤ t) : swP σ2 (sc p t) (p.e true) (K2 p n) = swP σ1 t (p.e false) (K1 p n) := by
  have ht : 1 ≤ t := by have := b.mu; omega
  unfold swP infP
  rw [pk1 b hmt, pk2 b hmt]
  exact (H.ex.getC b H.cnt ht).val
theorem swC_sc (b : LB p c) (H : RP p c σ1 σ2) (hmt : p.mu ≤ t) : swC σ2 (sc p t) (p.e true) (K2 p n) = swC σ1 t (p.e false) (K1 p n) := by
  have ht : 1 ≤ t := by have := b.mu; omega
  unfold swC infC
  rw [pk1 b hmt, ck1 b hmt, pk2 b hmt, ck2 b hmt]
  exact ((H.ex.getX b ht).getC b (H.ex.getC b H.cnt ht) ht).val
theorem ttl_sc (b : LB p c) (P : Int) : infTtl (sc p t) (p.e true) P = 60 * infTtl t (p.e false) P := by
  have h1 := b.mu
  unfold infTtl
  split
  · rfl
  · rw [e_one]
    have : (sc p t - p.e true).fmod (p.e true) = 60 * (t - p.mu).fmod p.mu := by
      rw [← fmod_sc (c := c) (by omega)]
      show (60 * t + p.ah - 60 * p.mu).fmod (60 * p.mu) = _
      congr 1
      rw [b.ah]; omega
    rw [this]
    show 60 * p.mu - _ = _
    omega
theorem fdiv60 {x m : Int} (hm : 0 < m) : (60 * x).fdiv (60 * m) = x.fdiv m := by
  rw [Int.fdiv_eq_ediv_of_nonneg _ (by omega), Int.fdiv_eq_ediv_of_nonneg _ (by omega), Int.mul_ediv_mul_of_pos _ _ (by decide)]
theorem fmod60 {x m : Int} (hm : 0 < m) : (60 * x).fmod (60 * m) = 60 * x.fmod m := by
  rw [Int.fmod_eq_emod_of_nonneg _ (by omega), Int.fmod_eq_emod_of_nonneg _ (by omega), Int.mul_emod_mul_of_pos _ _ (by decide)]
theorem swW_sc (b : LB p c) (H : RP p c σ1 σ2) (hmt : p.mu ≤ t) : swW σ2 (sc p t) (p.e true) (K2 p n) = swW σ1 t (p.e false) (K1 p n) := by
  have h1 := b.mu
  unfold swW
  rw [swP_sc b H hmt, swC_sc b H hmt, ttl_sc b, e_one]
  congr 1
  show ((_ : Int) * (60 * _)).fdiv (60 * p.mu) = _
  rw [Int.mul_left_comm, fdiv60 (by omega)]
theorem swR_sc (b : LB p c) (H : RP p c σ1 σ2) (hmt : p.mu ≤ t) : swR σ2 (sc p t) (p.e true) (K2 p n) limit amount = swR σ1 t (p.e false) (K1 p n) limit amount := by
  unfold swR; rw [swW_sc b H hmt]
theorem RP.swS (b : LB p c) (H : RP p c σ1 σ2) (hmt : p.mu ≤ t) : RP p c (swS σ1 t (p.e false) (K1 p n) limit amount) (swS σ2 (sc p t) (p.e true) (K2 p n) limit amount) := by
  have HI := H.swI (n := n) b hmt
  have h1 := b.mu
  unfold Mine.swS
  rw [swW_sc b H hmt, swC_sc b H hmt]
  split
  · exact H
  · split
    · exact HI
    · rw [ck1 b hmt, ck2 b hmt]
      refine ⟨HI.cnt.put b rfl, ?_, HI.ev⟩
      show R1 p c _ (if _ then _ else _) (if _ then _ else _)
      split
      · refine HI.ex.put b ?_
        show 60 * t + p.ah + 2 * (60 * p.mu) = 60 * (t + 2 * p.e false) + p.ah
        rw [e_one]; omega
      · exact HI.ex
theorem acq_sc (l : List (Int × Int)) (limit e amount : Int) : acqOK (l.map (scp p)) (sc p t) limit (60 * e) amount = acqOK l t limit e amount := by
  unfold acqOK
  rw [List.getElem?_map]
  cases l[(limit - amount).toNat]? with
  | none => rfl
  | some x =>
    show (!(decide (60 * t + p.ah - 60 * e ≤ 60 * x.1 + p.ah))) = !(decide (t - e ≤ x.1))
    congr 1
    exact decide_eq_decide.mpr (by omega)
theorem evD (H : RP p c σ1 σ2) : (σ2.ev (K2 p n)).getD [] = ((σ1.ev (K1 p n)).getD []).map (scp p) := by
  have := H.ev n none
  show (σ2.ev (key2 p c n none)).getD [] = ((σ1.ev (key1 p n none)).getD []).map (scp p)
  rw [this]
  cases σ1.ev (key1 p n none) <;> rfl
theorem acqR_sc (H : RP p c σ1 σ2) : acqR σ2.ev (K2 p n) (sc p t) limit (p.e true) amount = acqR σ1.ev (K1 p n) t limit (p.e false) amount := by
  unfold acqR
  rw [evD H, e_one]
  show (_ && acqOK _ _ _ (60 * p.mu) _) = _
  rw [acq_sc]
theorem RP.acq (b : LB p c) (H : RP p c σ1 σ2) : RP p c (acqS σ1 t (p.e false) (K1 p n) limit amount) (acqS σ2 (sc p t) (p.e true) (K2 p n) limit amount) := by
  refine ⟨H.cnt, H.ex, ?_⟩
  show R1 p c _ (acqF _ _ _ _ _ _) (acqF _ _ _ _ _ _)
  unfold acqF
  rw [acqR_sc H]
  split
  · refine R1.put (i := none) b H.ev ?_
    rw [evD H, List.map_append, List.map_replicate]
    congr 2
    show (60 * t + p.ah, 60 * t + p.ah + 60 * p.mu) = (60 * t + p.ah, 60 * (t + p.e false) + p.ah)
    rw [e_one]
    congr 1
    omega
  · exact H.ev
theorem RP.inc (b : LB p c) (H : RP p c σ1 σ2) (ht : 1 ≤ t) : RP p c (incS σ1 t (K1 p n) (p.e false) amount) (incS σ2 (sc p t) (K2 p n) (p.e true) amount) := by
  obtain ⟨Hg, hv⟩ := H.get (n := n) (i := none) b ht
  have hv : getV σ2 (sc p t) (K2 p n) = getV σ1 t (K1 p n) := hv
  refine ⟨R1.put (i := none) b Hg.cnt (by rw [hv]), ?_, H.ev⟩
  show R1 p c _ (if _ then _ else _) (if _ then _ else _)
  rw [hv]
  split
  · refine R1.put (i := none) b Hg.ex ?_
    show 60 * t + p.ah + 60 * p.mu = 60 * (t + p.e false) + p.ah
    rw [e_one]; omega
  · exact Hg.ex
theorem RP.exp (b : LB p c) (H : RP p c σ1 σ2) : RP p c (expS σ1 t) (expS σ2 (sc p t)) := by
  refine ⟨fun m j => ?_, fun m j => ?_, fun m j => ?_⟩
  · show (match σ2.ex (key2 p c m j) with | some v => if v ≤ sc p t then none else σ2.cnt (key2 p c m j) | none => σ2.cnt (key2 p c m j)) = Option.map _ (match σ1.ex (key1 p m j) with | some v => if v ≤ t then none else σ1.cnt (key1 p m j) | none => σ1.cnt (key1 p m j))
    rw [H.ex m j, H.cnt m j]
    cases σ1.ex (key1 p m j) with
    | none => rfl
    | some x =>
      show (if 60 * x + p.ah ≤ 60 * t + p.ah then _ else _) = Option.map _ (if x ≤ t then _ else _)
      by_cases q : x ≤ t
      · rw [if_pos q, if_pos (by omega)]; rfl
      · rw [if_neg q, if_neg (by omega)]
  · show (match σ2.ex (key2 p c m j) with | some v => if v ≤ sc p t then none else some v | none => none) = Option.map _ (match σ1.ex (key1 p m j) with | some v => if v ≤ t then none else some v | none => none)
    rw [H.ex m j]
    cases σ1.ex (key1 p m j) with
    | none => rfl
    | some x =>
      show (if 60 * x + p.ah ≤ 60 * t + p.ah then _ else _) = Option.map _ (if x ≤ t then _ else _)
      by_cases q : x ≤ t
      · rw [if_pos q, if_pos (by omega)]; rfl
      · rw [if_neg q, if_neg (by omega)]; rfl
  · show (σ2.ev (key2 p c m j)).map (expL (sc p t)) = ((σ1.ev (key1 p m j)).map (expL t)).map _
    rw [H.ev m j]
    cases σ1.ev (key1 p m j) with
    | none => rfl
    | some l => show some _ = some _; rw [exp_sc]
end

end
section
open TI
section
variable {p : LP} {c B B' k cost t deed n : Int} {σ : Bool → Sta} {σ1 σ2 τ1 τ2 : Sta}
theorem Rel.rp (H : Rel p c B σ) : RP p c (σ false) (σ true) := ⟨fun m i => by rw [H.cnt m i]; cases (σ false).cnt (key1 p m i) <;> rfl, fun m i => H.ex m i, fun m i => H.ev m i⟩
theorem Rel.mk' (H : RP p c τ1 τ2) (b1 : Bd B' τ1.cnt) (b2 : Bd B' τ2.cnt) : Rel p c B' (setB (setB σ false τ1) true τ2) where
  cnt := fun m i => by
    have := H.cnt m i
    show τ2.cnt (key2 p c m i) = τ1.cnt (key1 p m i)
    rw [this]; cases τ1.cnt (key1 p m i) <;> rfl
  ex := fun m i => H.ex m i
  ev := fun m i => H.ev m i
  bd := fun sd k v e => by
    cases sd
    · exact b1 k v e
    · exact b2 k v e
theorem RP.tst (b : LB p c) (H : RP p c σ1 σ2) (hmt : p.mu ≤ t) : RP p c (tstS k σ1 t (p.e false) (K1 p n)) (tstS k σ2 (sc p t) (p.e true) (K2 p n)) := by
  unfold tstS
  split
  · exact (H.get (i := none) b (by have := b.mu; omega)).1
  · split
    · exact H
    · exact H.swI b hmt
theorem gmw2 (H : RP p c σ1 σ2) : gmwF ((σ2.ev (K2 p n)).getD []) (sc p t) (p.e true) = (sc p (gmwF ((σ1.ev (K1 p n)).getD []) t (p.e false)).1, (gmwF ((σ1.ev (K1 p n)).getD []) t (p.e false)).2) := by
  rw [evD H, e_one]
  exact gmw_sc _ _ _
theorem getV2 (b : LB p c) (H : RP p c σ1 σ2) (hmt : p.mu ≤ t) : getV σ2 (sc p t) (K2 p n) = getV σ1 t (K1 p n) := (H.get (i := none) b (by have := b.mu; omega)).2
theorem tstR_sc {am : Int} (b : LB p c) (H : RP p c σ1 σ2) (hmt : p.mu ≤ t) : tstR k σ2 (sc p t) (p.e true) (K2 p n) am cost = tstR k σ1 t (p.e false) (K1 p n) am cost := by
  unfold tstR
  rw [getV2 b H hmt, gmw2 H, swW_sc b H hmt]
theorem RP.hit {am : Int} (b : LB p c) (H : RP p c σ1 σ2) (hmt : p.mu ≤ t) : RP p c (hitS k σ1 t (p.e false) (K1 p n) am cost) (hitS k σ2 (sc p t) (p.e true) (K2 p n) am cost) := by
  unfold hitS
  split
  · exact H.inc b (by have := b.mu; omega)
  · split
    · exact H.acq b
    · exact H.swS b hmt
theorem hitR_sc {am : Int} (b : LB p c) (H : RP p c σ1 σ2) (hmt : p.mu ≤ t) : hitR k σ2 (sc p t) (p.e true) (K2 p n) am cost = hitR k σ1 t (p.e false) (K1 p n) am cost := by
  unfold hitR
  rw [getV2 b H hmt, acqR_sc H, swR_sc b H hmt]
theorem RP.clr (b : LB p c) (H : RP p c σ1 σ2) (hmt : p.mu ≤ t) : RP p c (clrS k σ1 t (p.e false) (K1 p n)) (clrS k σ2 (sc p t) (p.e true) (K2 p n)) := by
  unfold clrS
  rw [pk1 b hmt, ck1 b hmt, pk2 b hmt, ck2 b hmt]
  split
  · exact H.dl (i := none) b
  · split
    · exact H.dl (i := none) b
    · exact (H.dl b).dl b
theorem Bd.step {T e : Int} {K : Str} {am : Int} (h : Bd B σ1.cnt) (hB : 0 ≤ B) (hc : 0 ≤ cost ∧ cost ≤ 50) : Bd (B + 50) (stepS deed k σ1 T e K am cost).cnt := by
  unfold stepS
  split
  · exact h.tst.mono (by omega)
  · split
    · exact h.clr.mono (by omega)
    · split
      · exact h.exp.mono (by omega)
      · exact h.hit hB hc
theorem rel_step (b : LB p c) (H : Rel p c B σ) (hk : Kd k) (hB : 0 ≤ B) (hc : 0 ≤ cost ∧ cost ≤ 50) (hmt : p.mu ≤ t) :
  stepV deed k (σ true) (p.T true t) (p.e true) (K2 p n) p.am cost = stepV deed k (σ false) (p.T false t) (p.e false) (K1 p n) p.am cost ∧
  Rel p c (B + 50) (setB (setB σ false (stepS deed k (σ false) (p.T false t) (p.e false) (K1 p n) p.am cost)) true (stepS deed k (σ true) (p.T true t) (p.e true) (K2 p n) p.am cost)) := by
  have R := H.rp
  show stepV deed k (σ true) (sc p t) (p.e true) (K2 p n) p.am cost = stepV deed k (σ false) t (p.e false) (K1 p n) p.am cost ∧
    Rel p c (B + 50) (setB (setB σ false (stepS deed k (σ false) t (p.e false) (K1 p n) p.am cost)) true (stepS deed k (σ true) (sc p t) (p.e true) (K2 p n) p.am cost))
  refine ⟨?_, Rel.mk' ?_ ((show Bd B (σ false).cnt from H.bd false).step hB hc) ((show Bd B (σ true).cnt from H.bd true).step hB hc)⟩
  · unfold stepV
    rw [tstR_sc b R hmt, hitR_sc b R hmt]
  · unfold stepS
    split
    · exact R.tst b hmt
    · split
      · exact R.clr b hmt
      · split
        · exact R.exp b
        · exact R.hit b hmt
theorem sRes_sc (b : LB p c) (R : RP p c σ1 σ2) (hmt : p.mu ≤ t) : (sRes σ2 (sc p t) (p.e true) (K2 p n)).2 = (sRes σ1 t (p.e false) (K1 p n)).2 ∧ (sRes σ2 (sc p t) (p.e true) (K2 p n)).1 = 60 * (sRes σ1 t (p.e false) (K1 p n)).1 + p.ah * (sRes σ1 t (p.e false) (K1 p n)).2 := by
  have h1 := b.mu
  have hct : p.e true - (sc p t).fmod (p.e true) + p.e true = 60 * (p.e false - t.fmod (p.e false) + p.e false) := by
    rw [e_one]
    have : (sc p t).fmod (p.e true) = 60 * t.fmod p.mu := by
      rw [← fmod_sc (c := c) (by omega)]
      show (60 * t + p.ah).fmod (60 * p.mu) = _
      congr 1
      rw [b.ah]
    rw [this]
    show 60 * p.mu - _ + 60 * p.mu = _
    omega
  have f60 : ∀ x : Int, (60 * x).fmod (p.e true) = 60 * x.fmod (p.e false) := fun x => by
    rw [e_one]; exact fmod60 (by omega)
  unfold sRes
  rw [swP_sc b R hmt, swC_sc b R hmt, hct, ttl_sc b, f60]
  generalize swP σ1 t (p.e false) (K1 p n) = P
  generalize swC σ1 t (p.e false) (K1 p n) = C
  generalize (p.e false - t.fmod (p.e false) + p.e false).fmod (p.e false) = x
  rw [Int.mul_assoc 60 (infTtl t (p.e false) P) P, f60]
  generalize (infTtl t (p.e false) P * P).fmod (p.e false) = y
  rw [Int.mul_assoc 60 x P]
  generalize hxP : x * P = z
  by_cases hP : P = 0
  · rw [if_pos hP, if_pos hP]
    by_cases hC : C = 0
    · rw [if_pos hC, if_pos hC]
      refine ⟨rfl, ?_⟩
      show 60 * t + p.ah = 60 * t + p.ah * 1
      omega
    · rw [if_neg hC, if_neg hC]
      refine ⟨rfl, ?_⟩
      show 60 * t + p.ah + 60 * x = 60 * (t + x) + p.ah * 1
      omega
  · rw [if_neg hP, if_neg hP]
    refine ⟨rfl, ?_⟩
    show (60 * t + p.ah) * P + (if C = 0 then 60 * y else if 60 * z < 60 * y then 60 * z else 60 * y) = 60 * (t * P + (if C = 0 then y else if z < y then z else y)) + p.ah * P
    have e1 : (if C = 0 then 60 * y else if 60 * z < 60 * y then 60 * z else 60 * y) = 60 * (if C = 0 then y else if z < y then z else y) := by
      by_cases hC : C = 0
      · rw [if_pos hC, if_pos hC]
      · rw [if_neg hC, if_neg hC]
        by_cases q : z < y
        · rw [if_pos q, if_pos (by omega)]
        · rw [if_neg q, if_neg (by omega)]
    rw [e1, Int.add_mul, Int.mul_add, Int.mul_assoc]
    omega
theorem sRes_bd {T e : Int} {K : Str} (h : Bd B σ1.cnt) (hB : 0 ≤ B) : 0 ≤ (sRes σ1 T e K).2 ∧ (sRes σ1 T e K).2 ≤ B + 1 := by
  have v := (h.getC (T := T) (g := σ1.ex) (K := pkO T e K)).val hB (pkO T e K)
  have v : 0 ≤ swP σ1 T e K ∧ swP σ1 T e K ≤ B := v
  unfold sRes
  split
  · split
    · exact ⟨(by show (0 : Int) ≤ 1; decide), by show (1 : Int) ≤ B + 1; omega⟩
    · exact ⟨(by show (0 : Int) ≤ 1; decide), by show (1 : Int) ≤ B + 1; omega⟩
  · exact ⟨v.1, by show swP σ1 T e K ≤ B + 1; omega⟩
theorem staD_bd {T e : Int} {K : Str} (h : Bd B σ1.cnt) (hB : 0 ≤ B) : 0 ≤ staD k σ1 T e K ∧ staD k σ1 T e K ≤ B + 1 := by
  unfold staD
  split
  · exact ⟨by decide, by omega⟩
  · split
    · exact ⟨by decide, by omega⟩
    · exact sRes_bd h hB
theorem sta_sc (b : LB p c) (R : RP p c σ1 σ2) (hmt : p.mu ≤ t) : staD k σ2 (sc p t) (p.e true) (K2 p n) = staD k σ1 t (p.e false) (K1 p n) ∧ staN k σ2 (sc p t) (p.e true) (K2 p n) = 60 * staN k σ1 t (p.e false) (K1 p n) + p.ah * staD k σ1 t (p.e false) (K1 p n) := by
  have ht : 1 ≤ t := by have := b.mu; omega
  unfold staD staN
  split
  · refine ⟨rfl, ?_⟩
    have X := R1.getX (n := n) (i := none) b R.ex ht
    have X : (getX (sc p t) σ2.ex (K2 p n) (K2 p n)) = (getX t σ1.ex (K1 p n) (K1 p n)).map (sc p) := X n none
    rw [X]
    cases getX t σ1.ex (K1 p n) (K1 p n) with
    | none => show 60 * t + p.ah = 60 * t + p.ah * 1; omega
    | some x => show 60 * x + p.ah = 60 * x + p.ah * 1; omega
  · split
    · refine ⟨rfl, ?_⟩
      rw [gmw2 R, e_one]
      show 60 * _ + p.ah + 60 * p.mu = 60 * (_ + p.mu) + p.ah * 1
      omega
    · exact sRes_sc b R hmt
theorem rel_stats (b : LB p c) (H : Rel p c B σ) (hk : Kd k) (hB : 0 ≤ B) (hmt : p.mu ≤ t) :
  staR k (σ true) (p.T true t) (p.e true) (K2 p n) p.am = staR k (σ false) (p.T false t) (p.e false) (K1 p n) p.am ∧
  staN k (σ true) (p.T true t) (p.e true) (K2 p n) * staD k (σ false) (p.T false t) (p.e false) (K1 p n) = (60 * staN k (σ false) (p.T false t) (p.e false) (K1 p n) + p.ah * staD k (σ false) (p.T false t) (p.e false) (K1 p n)) * staD k (σ true) (p.T true t) (p.e true) (K2 p n) ∧
  (0 ≤ staD k (σ false) (p.T false t) (p.e false) (K1 p n) ∧ staD k (σ false) (p.T false t) (p.e false) (K1 p n) ≤ B + 1) ∧ (0 ≤ staD k (σ true) (p.T true t) (p.e true) (K2 p n) ∧ staD k (σ true) (p.T true t) (p.e true) (K2 p n) ≤ B + 1) ∧
  Rel p c (B + 50) (setB (setB σ false (tstS k (σ false) (p.T false t) (p.e false) (K1 p n))) true (tstS k (σ true) (p.T true t) (p.e true) (K2 p n))) := by
  have R := H.rp
  have b1 : Bd B (σ false).cnt := H.bd false
  have b2 : Bd B (σ true).cnt := H.bd true
  obtain ⟨s1, s2⟩ := sta_sc (k := k) (n := n) b R hmt
  have s1 : staD k (σ true) (p.T true t) (p.e true) (K2 p n) = staD k (σ false) (p.T false t) (p.e false) (K1 p n) := s1
  have s2 : staN k (σ true) (p.T true t) (p.e true) (K2 p n) = 60 * staN k (σ false) (p.T false t) (p.e false) (K1 p n) + p.ah * staD k (σ false) (p.T false t) (p.e false) (K1 p n) := s2
  refine ⟨?_, by rw [s1, s2], staD_bd b1 hB, staD_bd b2 hB, Rel.mk' (R.tst b hmt) (b1.tst.mono (by omega)) (b2.tst.mono (by omega))⟩
  show staR k (σ true) (sc p t) (p.e true) (K2 p n) p.am = staR k (σ false) t (p.e false) (K1 p n) p.am
  unfold staR
  rw [getV2 b R hmt, gmw2 R, swW_sc b R hmt]
end

end
section
open TI
section
variable {w : World} {p : LP} {A : Around} {E : Value → Shared → Prop} {s : Shared} {Q : Value → Shared → Prop} {env : Env} {g : Heap} {L : Addr} {its : List (Addr × Str × Bool)} {σ σ1 σ0 : Bool → Sta} {b : Bool → Nat} {Bn : Nat} {m : Str → Option Value} {news front ex : List (Addr × Obj)} {t : Int} {tk : Tok} {ep : Nat} {it nm : Addr} {ns : Str} {xs : List Str} {k cost deed n c B : Int} {kw : List (Str × Value)} {tc : Tok}
theorem w_test (Q0 : LQ p g L) (G : Gd w g) (R : Rm A 40) (F : Fr g L s.heap m) (N : News g L s.heap news) (T : Tl g L ex (Wd w p (avOf p L) its σ b)) (Sp : Spl ex news front)
  (hnow : (p.now, W.listOf (List.toArray [.int t tk]) ep) ∈ news) (hh : ∃ o, (p.hand, o) ∈ news) (hxt : ∀ x ∈ p.xtra, ∃ o, (x, o) ∈ news) (tg : ∀ q ∈ front, tagB q.2 = true) (ht : 0 ≤ t ∧ t ≤ 1000) (hfr : A.frames = some [env]) (hk : env.scope.kind ≠ .module) (hf : env.frame = some L) (hb : ∀ x, b x ≤ Bn) (hBn : Bn ≤ 50000)
  (hkd : Kd k) (hit : (it, ns, true) ∈ its) (hnm : NamesAt s.heap nm xs) (hmt : p.mu ≤ t) (hkw : KwC kw cost tc (tokT k)) (hc : 0 ≤ cost ∧ cost ≤ 50) (lb : LB p c) (hr : Rel p c B σ) (hs : Strange ns xs) (hB : 0 ≤ B)
  (h : ∀ v, ∀ h' tk' ex' σ' b', Fr g L h' m → News g L h' (front ++ ex') → Tl g L ex' (Wd w p (avOf p L) its σ' b') → (∀ q ∈ ex', q.1 ≠ p.hand ∧ q.1 ≠ p.now ∧ q.1 ∉ p.xtra) → (∀ x, b' x ≤ Bn + 60) → Rel p c (B + 50) σ' → Q (.bool v) {s with heap := h', toks := tk'}) :
  wpAny (model PySem.Challenge.rw_jn0050_01.row.prog w) A (call (.ref (tstF k)) [.ref (limOf (p.m0 true) (p.m1 true) (p.m2 true) k), .ref it, .ref nm] kw) Q E s :=
  l_test Q0 G R F N T Sp hnow hh hxt tg ht hfr hk hf (Nat.le_trans (hb true) hBn) hkd hit hnm hc hkw hmt fun h' tk' ex' F' N' T' n' => h _ h' tk' ex' _ _ F' N' T' n' (setB_le hb true) (rel_test lb hr hs (w_e lb hmt))
theorem w_hit (Q0 : LQ p g L) (G : Gd w g) (R : Rm A 40) (F : Fr g L s.heap m) (N : News g L s.heap news) (T : Tl g L ex (Wd w p (avOf p L) its σ b)) (Sp : Spl ex news front)
  (hnow : (p.now, W.listOf (List.toArray [.int t tk]) ep) ∈ news) (hh : ∃ o, (p.hand, o) ∈ news) (hxt : ∀ x ∈ p.xtra, ∃ o, (x, o) ∈ news) (tg : ∀ q ∈ front, tagB q.2 = true) (ht : 0 ≤ t ∧ t ≤ 1000) (hfr : A.frames = some [env]) (hk : env.scope.kind ≠ .module) (hf : env.frame = some L) (hb : ∀ x, b x ≤ Bn) (hBn : Bn ≤ 50000)
  (hkd : Kd k) (hit : (it, ns, true) ∈ its) (hnm : NamesAt s.heap nm xs) (hmt : p.mu ≤ t) (hc : 0 ≤ cost ∧ cost ≤ 50) (lb : LB p c) (hr : Rel p c B σ) (hs : Strange ns xs) (hB : 0 ≤ B)
  (h : ∀ v, ∀ h' tk' ex' σ' b', Fr g L h' m → News g L h' (front ++ ex') → Tl g L ex' (Wd w p (avOf p L) its σ' b') → (∀ q ∈ ex', q.1 ≠ p.hand ∧ q.1 ≠ p.now ∧ q.1 ∉ p.xtra) → (∀ x, b' x ≤ Bn + 60) → Rel p c (B + 50) σ' → Q (.bool v) {s with heap := h', toks := tk'}) :
  wpAny (model PySem.Challenge.rw_jn0050_01.row.prog w) A (call (.ref (hitF k)) [.ref (limOf (p.m0 true) (p.m1 true) (p.m2 true) k), .ref it, .ref nm] [(Str.ofString "cost", .int cost tc)]) Q E s :=
  l_hit Q0 G R F N T Sp hnow hh hxt tg ht hfr hk hf (Nat.le_trans (hb true) hBn) hkd hit hnm hc hmt fun h' tk' ex' F' N' T' n' => h _ h' tk' ex' _ _ F' N' T' n' (setB_le hb true) (rel_hit lb hr hs (w_e lb hmt) hB hc)
theorem w_clear (Q0 : LQ p g L) (G : Gd w g) (R : Rm A 40) (F : Fr g L s.heap m) (N : News g L s.heap news) (T : Tl g L ex (Wd w p (avOf p L) its σ b)) (Sp : Spl ex news front)
  (hnow : (p.now, W.listOf (List.toArray [.int t tk]) ep) ∈ news) (hh : ∃ o, (p.hand, o) ∈ news) (hxt : ∀ x ∈ p.xtra, ∃ o, (x, o) ∈ news) (tg : ∀ q ∈ front, tagB q.2 = true) (ht : 0 ≤ t ∧ t ≤ 1000) (hfr : A.frames = some [env]) (hk : env.scope.kind ≠ .module) (hf : env.frame = some L) (hb : ∀ x, b x ≤ Bn) (hBn : Bn ≤ 50000)
  (hkd : Kd k) (hit : (it, ns, true) ∈ its) (hnm : NamesAt s.heap nm xs) (hmt : p.mu ≤ t) (lb : LB p c) (hr : Rel p c B σ) (hs : Strange ns xs) (hB : 0 ≤ B)
  (h : ∀ h' tk' ex' σ' b', Fr g L h' m → News g L h' (front ++ ex') → Tl g L ex' (Wd w p (avOf p L) its σ' b') → (∀ q ∈ ex', q.1 ≠ p.hand ∧ q.1 ≠ p.now ∧ q.1 ∉ p.xtra) → (∀ x, b' x ≤ Bn + 60) → Rel p c (B + 50) σ' → Q .none {s with heap := h', toks := tk'}) :
  wpAny (model PySem.Challenge.rw_jn0050_01.row.prog w) A (call (.ref (clrF k)) [.ref (limOf (p.m0 true) (p.m1 true) (p.m2 true) k), .ref it, .ref nm] []) Q E s :=
  l_clear Q0 G R F N T Sp hnow hh hxt tg ht hfr hk hf (Nat.le_trans (hb true) hBn) hkd hit hnm hmt fun h' tk' ex' F' N' T' n' => h h' tk' ex' _ _ F' N' T' n' (setB_le hb true) (rel_clr lb hr hs (w_e lb hmt))
theorem w_stats (Q0 : LQ p g L) (G : Gd w g) (R : Rm A 40) (F : Fr g L s.heap m) (N : News g L s.heap news) (T : Tl g L ex (Wd w p (avOf p L) its σ b)) (Sp : Spl ex news front)
  (hnow : (p.now, W.listOf (List.toArray [.int t tk]) ep) ∈ news) (hh : ∃ o, (p.hand, o) ∈ news) (hxt : ∀ x ∈ p.xtra, ∃ o, (x, o) ∈ news) (tg : ∀ q ∈ front, tagB q.2 = true) (ht : 0 ≤ t ∧ t ≤ 1000) (hfr : A.frames = some [env]) (hk : env.scope.kind ≠ .module) (hf : env.frame = some L) (hb : ∀ x, b x ≤ Bn) (hBn : Bn ≤ 50000)
  (hkd : Kd k) (hit : (it, ns, true) ∈ its) (hnm : NamesAt s.heap nm xs) (hmt : p.mu ≤ t) (lb : LB p c) (hr : Rel p c B σ) (hs : Strange ns xs) (hB : 0 ≤ B)
  (h : ∀ h' tk' r ex' σ' b', Fr g L h' m → News g L h' (front ++ ex') → Tl g L ex' (Wd w p (avOf p L) its σ' b') → (∀ q ∈ ex', q.1 ≠ p.hand ∧ q.1 ≠ p.now ∧ q.1 ∉ p.xtra) → (∀ x, b' x ≤ Bn + 60) → Rel p c (B + 50) σ' → Q (.ref r) {s with heap := h', toks := tk'}) :
  wpAny (model PySem.Challenge.rw_jn0050_01.row.prog w) A (call (.ref (staF k)) [.ref (limOf (p.m0 true) (p.m1 true) (p.m2 true) k), .ref it, .ref nm] []) Q E s :=
  l_stats Q0 G R F N T Sp hnow hh hxt tg ht hfr hk hf (Nat.le_trans (hb true) hBn) hkd hit hnm hmt fun h' tk' r ex' F' N' T' n' => h h' tk' r ex' _ _ F' N' T' n' (setB_le hb true) (rel_test lb hr hs (w_e lb hmt))
theorem w_stepA {t1 t2 t3 : Tok} (Q0 : LQ p g L) (G : Gd w g) (R : Rm A 40) (F : Fr g L s.heap m) (N : News g L s.heap news) (T : Tl g L ex (Wd w p (avOf p L) its σ b)) (Sp : Spl ex news front)
  (hnow : (p.now, W.listOf (List.toArray [.int t tk]) ep) ∈ news) (hh : ∃ o, (p.hand, o) ∈ news) (hxt : ∀ x ∈ p.xtra, ∃ o, (x, o) ∈ news) (tg : ∀ q ∈ front, tagB q.2 = true) (ht : 0 ≤ t ∧ t ≤ 1000) (hfr : A.frames = some [env]) (hk : env.scope.kind ≠ .module) (hf : env.frame = some L) (hb : ∀ x, b x ≤ Bn) (hBn : Bn ≤ 50000)
  (hkd : Kd k) (hit : (it, Str.ofString "LIMITER", false) ∈ its) (hnm : NamesAt s.heap nm (mineX n)) (hmt : p.mu ≤ t) (hc : 0 ≤ cost ∧ cost ≤ 50) (hdd : 0 ≤ deed ∧ deed ≤ 7) (hr : Rel p c B σ)
  (h : ∀ h' tk' v ex' σ' b', Fr g L h' m → News g L h' (front ++ ex') → Tl g L ex' (Wd w p (avOf p L) its σ' b') → (∀ q ∈ ex', q.1 ≠ p.hand ∧ q.1 ≠ p.now ∧ q.1 ∉ p.xtra) → (∀ x, b' x ≤ Bn + 60) → (Rel p c B σ ∧ v = stepV deed k (σ false) (p.T false t) (p.e false) (K1 p n) p.am cost ∧ σ' = setB σ false (stepS deed k (σ false) (p.T false t) (p.e false) (K1 p n) p.am cost)) → Q v {s with heap := h', toks := tk'}) :
  wpAny (model PySem.Challenge.rw_jn0050_01.row.prog w) A (call (.ref 721) [.ref (p.Ls false), .ref (p.a false).st, .int deed t1, .int k t2, .ref it, .ref nm, .int cost t3] []) Q E s :=
  l_step Q0 G R F N T Sp hnow hh hxt tg ht hfr hk hf (Nat.le_trans (hb false) hBn) hkd hit hnm hc hdd hmt fun h' tk' ex' F' N' T' n' => h h' tk' _ ex' _ _ F' N' T' n' (setB_le hb false) ⟨hr, rfl, rfl⟩
theorem w_stepB {v : Value} {t1 t2 t3 : Tok} (Q0 : LQ p g L) (G : Gd w g) (R : Rm A 40) (F : Fr g L s.heap m) (N : News g L s.heap news) (T : Tl g L ex (Wd w p (avOf p L) its σ b)) (Sp : Spl ex news front)
  (hnow : (p.now, W.listOf (List.toArray [.int t tk]) ep) ∈ news) (hh : ∃ o, (p.hand, o) ∈ news) (hxt : ∀ x ∈ p.xtra, ∃ o, (x, o) ∈ news) (tg : ∀ q ∈ front, tagB q.2 = true) (ht : 0 ≤ t ∧ t ≤ 1000) (hfr : A.frames = some [env]) (hk : env.scope.kind ≠ .module) (hf : env.frame = some L) (hb : ∀ x, b x ≤ Bn) (hBn : Bn ≤ 50000)
  (hkd : Kd k) (hit : (it, Str.ofString "other", true) ∈ its) (hnm : NamesAt s.heap nm (yoursX n)) (hmt : p.mu ≤ t) (hc : 0 ≤ cost ∧ cost ≤ 50) (hdd : 0 ≤ deed ∧ deed ≤ 7) (lb : LB p c) (hB : 0 ≤ B) (hr : Rel p c B σ0 ∧ v = stepV deed k (σ0 false) (p.T false t) (p.e false) (K1 p n) p.am cost ∧ σ = setB σ0 false (stepS deed k (σ0 false) (p.T false t) (p.e false) (K1 p n) p.am cost))
  (h : ∀ h' tk' ex' σ' b', Fr g L h' m → News g L h' (front ++ ex') → Tl g L ex' (Wd w p (avOf p L) its σ' b') → (∀ q ∈ ex', q.1 ≠ p.hand ∧ q.1 ≠ p.now ∧ q.1 ∉ p.xtra) → (∀ x, b' x ≤ Bn + 60) → Rel p c (B + 50) σ' → Q v {s with heap := h', toks := tk'}) :
  wpAny (model PySem.Challenge.rw_jn0050_01.row.prog w) A (call (.ref 721) [.ref (p.Ls true), .ref (p.a true).st, .int deed t1, .int k t2, .ref it, .ref nm, .int cost t3] []) Q E s := by
  obtain ⟨hr, hv, hσ⟩ := hr
  have e0 : σ true = σ0 true := by rw [hσ]; rfl
  obtain ⟨e1, e2⟩ := rel_step (deed := deed) (n := n) lb hr hkd hB hc hmt
  rw [← e0, ← hv] at e1
  rw [← e0, ← hσ] at e2
  refine l_step Q0 G R F N T Sp hnow hh hxt tg ht hfr hk hf (Nat.le_trans (hb true) hBn) hkd hit hnm hc hdd hmt fun h' tk' ex' F' N' T' n' => ?_
  have := h h' tk' ex' _ _ F' N' T' n' (setB_le hb true) e2
  rw [← e1] at this
  exact this
theorem w_lsA {t2 : Tok} (Q0 : LQ p g L) (G : Gd w g) (R : Rm A 40) (F : Fr g L s.heap m) (N : News g L s.heap news) (T : Tl g L ex (Wd w p (avOf p L) its σ b)) (Sp : Spl ex news front)
  (hnow : (p.now, W.listOf (List.toArray [.int t tk]) ep) ∈ news) (hh : ∃ o, (p.hand, o) ∈ news) (hxt : ∀ x ∈ p.xtra, ∃ o, (x, o) ∈ news) (tg : ∀ q ∈ front, tagB q.2 = true) (ht : 0 ≤ t ∧ t ≤ 1000) (hfr : A.frames = some [env]) (hk : env.scope.kind ≠ .module) (hf : env.frame = some L) (hb : ∀ x, b x ≤ Bn) (hBn : Bn ≤ 50000)
  (hkd : Kd k) (hit : (it, Str.ofString "LIMITER", false) ∈ its) (hnm : NamesAt s.heap nm (mineX n)) (hmt : p.mu ≤ t) (hr : Rel p c B σ)
  (h : ∀ h' tk' (r q : Addr) (u1 u2 u3 : Tok) (r1 n1 d1 : Int) ex' σ' b', Fr g L h' m → News g L h' ((r, itup (.ref q) (.int r1 u3)) :: (q, itup (.int n1 u1) (.int d1 u2)) :: (front ++ ex')) → Tl g L ex' (Wd w p (avOf p L) its σ' b') → (∀ q ∈ ex', q.1 ≠ p.hand ∧ q.1 ≠ p.now ∧ q.1 ∉ p.xtra) → (∀ x, b' x ≤ Bn + 60) → (Rel p c B σ ∧ (r1 = staR k (σ false) (p.T false t) (p.e false) (K1 p n) p.am ∧ n1 = staN k (σ false) (p.T false t) (p.e false) (K1 p n) ∧ d1 = staD k (σ false) (p.T false t) (p.e false) (K1 p n)) ∧ σ' = setB σ false (tstS k (σ false) (p.T false t) (p.e false) (K1 p n))) → Q (.ref r) {s with heap := h', toks := tk'}) :
  wpAny (model PySem.Challenge.rw_jn0050_01.row.prog w) A (call (.ref 714) [.ref (p.Ls false), .int k t2, .ref it, .ref nm] []) Q E s :=
  l_lstats Q0 G R F N T Sp hnow hh hxt tg ht hfr hk hf (Nat.le_trans (hb false) hBn) hkd hit hnm hmt fun h' tk' r q u1 u2 u3 ex' F' N' T' n' => h h' tk' r q u1 u2 u3 _ _ _ ex' _ _ F' N' T' n' (setB_le hb false) ⟨hr, ⟨rfl, rfl, rfl⟩, rfl⟩
theorem w_lsB {r1 n1 d1 : Int} {t2 : Tok} (Q0 : LQ p g L) (G : Gd w g) (R : Rm A 40) (F : Fr g L s.heap m) (N : News g L s.heap news) (T : Tl g L ex (Wd w p (avOf p L) its σ b)) (Sp : Spl ex news front)
  (hnow : (p.now, W.listOf (List.toArray [.int t tk]) ep) ∈ news) (hh : ∃ o, (p.hand, o) ∈ news) (hxt : ∀ x ∈ p.xtra, ∃ o, (x, o) ∈ news) (tg : ∀ q ∈ front, tagB q.2 = true) (ht : 0 ≤ t ∧ t ≤ 1000) (hfr : A.frames = some [env]) (hk : env.scope.kind ≠ .module) (hf : env.frame = some L) (hb : ∀ x, b x ≤ Bn) (hBn : Bn ≤ 50000)
  (hkd : Kd k) (hit : (it, Str.ofString "other", true) ∈ its) (hnm : NamesAt s.heap nm (yoursX n)) (hmt : p.mu ≤ t) (lb : LB p c) (hB : 0 ≤ B) (hr : (Rel p c B σ0 ∧ (r1 = staR k (σ0 false) (p.T false t) (p.e false) (K1 p n) p.am ∧ n1 = staN k (σ0 false) (p.T false t) (p.e false) (K1 p n) ∧ d1 = staD k (σ0 false) (p.T false t) (p.e false) (K1 p n)) ∧ σ = setB σ0 false (tstS k (σ0 false) (p.T false t) (p.e false) (K1 p n))))
  (h : ∀ h' tk' (r q : Addr) (u1 u2 u3 : Tok) (n2 d2 : Int) ex' σ' b', Fr g L h' m → News g L h' ((r, itup (.ref q) (.int r1 u3)) :: (q, itup (.int n2 u1) (.int d2 u2)) :: (front ++ ex')) → Tl g L ex' (Wd w p (avOf p L) its σ' b') → (∀ q ∈ ex', q.1 ≠ p.hand ∧ q.1 ≠ p.now ∧ q.1 ∉ p.xtra) → (∀ x, b' x ≤ Bn + 60) → (n2 * d1 = (60 * n1 + p.ah * d1) * d2 ∧ (0 ≤ d1 ∧ d1 ≤ B + 1) ∧ (0 ≤ d2 ∧ d2 ≤ B + 1)) → Rel p c (B + 50) σ' → Q (.ref r) {s with heap := h', toks := tk'}) :
  wpAny (model PySem.Challenge.rw_jn0050_01.row.prog w) A (call (.ref 714) [.ref (p.Ls true), .int k t2, .ref it, .ref nm] []) Q E s := by
  obtain ⟨hr, ⟨f1, f2, f3⟩, hσ⟩ := hr
  have e0 : σ true = σ0 true := by rw [hσ]; rfl
  obtain ⟨g1, g2, g3, g4, g5⟩ := rel_stats (n := n) lb hr hkd hB hmt
  rw [← e0, ← f1] at g1
  rw [← e0, ← f2, ← f3] at g2
  rw [← f3] at g3
  rw [← e0] at g4
  rw [← e0, ← hσ] at g5
  refine l_lstats Q0 G R F N T Sp hnow hh hxt tg ht hfr hk hf (Nat.le_trans (hb true) hBn) hkd hit hnm hmt fun h' tk' r q u1 u2 u3 ex' F' N' T' n' => ?_
  have N2 := N'
  refine h h' tk' r q u1 u2 u3 _ _ ex' _ _ F' ?_ T' n' (setB_le hb true) ⟨g2, g3, g4⟩ g5
  rw [← g1]
  exact N2
end

end
section
open TI
theorem tag_cell {o : Obj} {v : Option Value} (h : o.data = .cell v) : tagB o = true := by unfold tagB; rw [h]
theorem kd_of {k : Int} (h0 : 0 ≤ k) (h1 : k < 3) : Kd k := by
  show k = 0 ∨ k = 1 ∨ k = 2
  omega
section
variable {w : World} {A : Around} {E : Value → Shared → Prop} {s : Shared} {g : Heap} {L : Addr}
theorem iter_rangeN {env : Env} {x : Str} {body : List Stmt} {Q : Flow → Shared → Prop} {r : Addr} {b₀ : Int} {t₀ u₀ v₀ : Tok} {n : Nat} {m₀ : Str → Option Value} {news news0 : List (Addr × Obj)}
    (hh : A.handled = none) (hr : IsRange s.heap r 0 b₀ 1 t₀ u₀ v₀) (hsmall : Builtin.Range.small 0 b₀ 1 = true) (hn : Builtin.Range.rangeSize 0 b₀ 1 = (n : Int)) (F : Fr g env.locals s.heap m₀) (N : News g env.locals s.heap news)
    (J : Nat → (Str → Option Value) → List (Addr × Obj) → Prop) (hsub : ∀ p ∈ news0, p ∈ news) (h0 : J 0 m₀ news0)
    (turn : ∀ (i : Nat) t m₁ news₁ h tk o own, i < n → J i m₁ news₁ → (∀ q ∈ news₁, q.1 ≠ s.heap.objs.size) → (∀ q ∈ own, q = (s.heap.objs.size, o)) → tagB o = true →
      Fr g env.locals h (fun y => if y = x then some (.int (i : Int) t) else m₁ y) → News g env.locals h ((s.heap.objs.size, o) :: news₁) →
      wpAny (model PySem.Challenge.rw_jn0050_01.row.prog w) A (execs body env) (LoopStepV g env.locals [s.heap.objs.size] own (J (i + 1)) { s with heap := h, toks := tk } (fun v s' => Q (.ret v) s') fun s' => Q .next s') E { s with heap := h, toks := tk })
    (done : ∀ h' tk m' news', Fr g env.locals h' m' → News g env.locals h' news' → J n m' news' → Q .next { s with heap := h', toks := tk }) :
    wpAny (model PySem.Challenge.rw_jn0050_01.row.prog w) A (pyIter (.ref r)) (fun it s₂ => LoopAtV PySem.Challenge.rw_jn0050_01.row.prog w A g env x body Q E it s₂) E s := by
  refine wpAny_pyIter_range hr hsmall ?_
  have W := Walks.range (prog := PySem.Challenge.rw_jn0050_01.row.prog) (w := w) hh s.heap.objs.size 0 1 n
  refine ⟨_, _, _, n, _, _, m₀, news0, J, rfl, W, ?_, ?_, ?_, (by show IsRangeIter _ _ _ _ _; rw [hn]; simpa using Heap.get?_push_size _ rfl), F.push _, (fun p hp => ⟨Heap.get?_push_of_some _ (N p (hsub p hp)).1, (N p (hsub p hp)).2⟩), h0, ?_, ?_⟩
  · intro hm
    exact absurd F.ns.lt ((List.mem_singleton.mp hm) ▸ Nat.lt_irrefl _)
  · intro b hb
    rw [List.mem_singleton.mp hb]
    exact next_is_new F
  · intro p hp hI
    exact absurd (Heap.lt_size (N p (hsub p hp)).1) ((List.mem_singleton.mp hI) ▸ Nat.lt_irrefl _)
  · rintro i v m₁ news₁ s₁ own ⟨hh', tk', rfl⟩ hi ⟨t, rfl⟩ hJ hoff ho1 ho2 ho3 hst F₁ N₁
    obtain ⟨oI, hI, hIt⟩ : ∃ o, hh'.get? s.heap.objs.size = some o ∧ tagB o = true := ⟨_, hst, rfl⟩
    have hIn := ho3 _ (.head _) (next_is_new F) _ hI
    have e1 : (0 : Int) + (i : Int) * 1 = (i : Int) := by omega
    rw [e1] at F₁
    refine turn i t m₁ news₁ hh' tk' oI own hi hJ (fun q hq z => hoff q hq (by rw [z]; simp)) (fun q hq => ?_) hIt F₁ (fun q hq => N₁ q ?_)
    · have z := List.mem_singleton.mp (ho1 q hq)
      have y := ho2 q hq
      rw [z, hI] at y
      exact Prod.ext z (Option.some.inj y).symm
    · rcases List.mem_cons.mp hq with rfl | hq
      · exact List.mem_append_left _ hIn
      · exact List.mem_append_right _ hq
  · intro h' tk m' news' F' N' _ hJ
    exact done h' tk m' news' F' N' hJ
theorem list_pick {value slice : PySem.Expr} {l : Addr} {vs : List Value} {k lo hi : Int} {u : Tok} {Q : Value → Shared → Prop} (hl : s.heap.IsList l (List.toArray vs)) (h0 : 0 ≤ k) (h1 : k < vs.length) (hz : vs.length ≤ 1000) (hv : ∀ v ∈ vs, ∃ i t, v = .int i t ∧ lo ≤ i ∧ i ≤ hi) (h : ∀ i t, lo ≤ i → i ≤ hi → Q (.int i t) s)
    (hs : subscripted slice false (.ref l) (.int k u) = operate [.ref l, .int k u] (getItem (.ref l) (.int k u)) := by with_unfolding_all rfl) :
    wpAny (model PySem.Challenge.rw_jn0050_01.row.prog w) A (subscriptTail value slice (.ref l) (.int k u)) Q E s := by
  have hk : k.toNat < vs.length := by omega
  obtain ⟨i, t, e, a, b⟩ := hv _ (List.getElem_mem hk)
  exact list_item hl h0 (by omega) ((List.getElem?_eq_getElem hk).trans (congrArg some e)) (h i t a b) hs
theorem list_pickD {g : Heap} {L : Addr} {news : List (Addr × Obj)} {ep : Nat} {value slice : PySem.Expr} {l : Addr} {vs : List Value} {k lo hi : Int} {u : Tok} {Q : Value → Shared → Prop} (N : News g L s.heap ((l, W.listOf (List.toArray vs) ep) :: news)) (h0 : 0 ≤ k) (h1 : k < vs.length) (hz : vs.length ≤ 1000) (hv : ∀ v ∈ vs, ∃ i t, v = .int i t ∧ lo ≤ i ∧ i ≤ hi)
    (h : ∀ i t, lo ≤ i → i ≤ hi → News g L s.heap news → Q (.int i t) s)
    (hs : subscripted slice false (.ref l) (.int k u) = operate [.ref l, .int k u] (getItem (.ref l) (.int k u)) := by with_unfolding_all rfl) :
    wpAny (model PySem.Challenge.rw_jn0050_01.row.prog w) A (subscriptTail value slice (.ref l) (.int k u)) Q E s :=
  list_pick (lo := lo) (hi := hi) ⟨_, (N _ (.head _)).1, rfl, ep, rfl⟩ h0 h1 hz hv (fun i t a b => h i t a b fun p hp => N p (.tail _ hp)) hs
theorem list_zero {value slice : PySem.Expr} {l : Addr} {v : Value} {u : Tok} {Q : Value → Shared → Prop} (hl : s.heap.IsList l (List.toArray [v])) (h : Q v s)
    (hs : subscripted slice false (.ref l) (.int 0 u) = operate [.ref l, .int 0 u] (getItem (.ref l) (.int 0 u)) := by with_unfolding_all rfl) :
    wpAny (model PySem.Challenge.rw_jn0050_01.row.prog w) A (subscriptTail value slice (.ref l) (.int 0 u)) Q E s := list_item hl (by decide) (by decide) rfl h hs
theorem list_two {value slice : PySem.Expr} {l : Addr} {a b : Addr} {k : Int} {u : Tok} {Q : Value → Shared → Prop} (hl : s.heap.IsList l (List.toArray [.ref a, .ref b])) (h0 : 0 ≤ k) (h1 : k < 2) (h : Q (.ref (if k = 0 then a else b)) s)
    (hs : subscripted slice false (.ref l) (.int k u) = operate [.ref l, .int k u] (getItem (.ref l) (.int k u)) := by with_unfolding_all rfl) :
    wpAny (model PySem.Challenge.rw_jn0050_01.row.prog w) A (subscriptTail value slice (.ref l) (.int k u)) Q E s := by
  have : k = 0 ∨ k = 1 := by omega
  rcases this with rfl | rfl
  · exact list_item hl h0 (by decide) rfl h hs
  · exact list_item hl h0 (by decide) rfl h hs
theorem list_twoD {g : Heap} {L : Addr} {news : List (Addr × Obj)} {ep : Nat} {value slice : PySem.Expr} {l : Addr} {a b : Addr} {k : Int} {u : Tok} {Q : Value → Shared → Prop} (N : News g L s.heap ((l, W.listOf (List.toArray [.ref a, .ref b]) ep) :: news)) (h0 : 0 ≤ k) (h1 : k < 2) (h : News g L s.heap news → Q (.ref (if k = 0 then a else b)) s)
    (hs : subscripted slice false (.ref l) (.int k u) = operate [.ref l, .int k u] (getItem (.ref l) (.int k u)) := by with_unfolding_all rfl) :
    wpAny (model PySem.Challenge.rw_jn0050_01.row.prog w) A (subscriptTail value slice (.ref l) (.int k u)) Q E s :=
  list_two ⟨_, (N _ (.head _)).1, rfl, ep, rfl⟩ h0 h1 (h fun p hp => N p (.tail _ hp)) hs
end
noncomputable def LawJ (w : World) (g : Heap) (L : Addr) (p : LP) (c : Int) (scr cN cA x3 x4 : Addr) (oN oA : Obj) (i : Nat) (m : Str → Option Value) (news : List (Addr × Obj)) : Prop :=
  ∃ (kk t : Int) (tk1 tkn : Tok) (epH epN : Nat) (ex : List (Addr × Obj)) (σ : Bool → Sta) (b : Bool → Nat) (u1 u2 : Tok),
    news = (p.hand, W.listOf (List.toArray [.ref scr, .int kk tk1]) epH) :: (p.now, W.listOf (List.toArray [.int t tkn]) epN) :: (cN, oN) :: (cA, oA) :: ex ∧
    (0 ≤ kk ∧ kk ≤ 5 + 10 * (i : Int)) ∧ (p.mu ≤ t ∧ t ≤ 8 + 50 * (i : Int)) ∧ Tl g L ex (Wd w p (avOf p L) [(x3, Str.ofString "LIMITER", false), (x4, Str.ofString "other", true)] σ b) ∧ (∀ q ∈ ex, q.1 ≠ p.hand ∧ q.1 ≠ p.now ∧ q.1 ∉ p.xtra) ∧
    (∀ x, b x ≤ 2000 * i) ∧ Rel p c (2000 * (i : Int)) σ ∧
    m (Str.ofString "hand") = some (.ref p.hand) ∧ m (Str.ofString "amount") = some (.int p.am u1) ∧ m (Str.ofString "length") = some (.int p.mu u2) ∧ m (Str.ofString "small") = some (.ref (p.a false).st) ∧ m (Str.ofString "great") = some (.ref (p.a true).st) ∧
    m (Str.ofString "seconds") = some (.ref (p.Ls false)) ∧ m (Str.ofString "minutes") = some (.ref (p.Ls true)) ∧ m (Str.ofString "item") = some (.ref x3) ∧ m (Str.ofString "other") = some (.ref x4)

end

theorem reg_R4 : True := by
  (k_with "subscriptTail" => (((with_reducible show wpAny _ _ (subscriptTail _ _ (Value.ref (LP.Ls _ _)) (Value.int _ _)) _ _ _); k_dflt (refine' l_sub ?Fz0R4 ?Nz0R4 ?Tz0R4 ?Spz0R4 ?hkz0R4 ?_; (case Fz0R4 => k_asm); (case Nz0R4 => k_asm); (case Tz0R4 => assumption); (case Spz0R4 => (repeat (first | exact Spl.nil | apply Spl.cons))); (case hkz0R4 => first | assumption | exact kd_of (by first | assumption | omega) (by first | assumption | omega))); skip)))
  (k_with "subscriptTail Name Name ref int" => (((with_reducible show wpAny _ _ (subscriptTail _ _ (Value.ref (LP.Ls _ _)) (Value.int _ _)) _ _ _); k_dflt (refine' l_sub ?Fz1R4 ?Nz1R4 ?Tz1R4 ?Spz1R4 ?hkz1R4 ?_; (case Fz1R4 => k_asm); (case Nz1R4 => k_asm); (case Tz1R4 => assumption); (case Spz1R4 => (repeat (first | exact Spl.nil | apply Spl.cons))); (case hkz1R4 => first | assumption | exact kd_of (by first | assumption | omega) (by first | assumption | omega))); skip)))
  (k_with "subscriptTail Name Call ref int" => (((with_reducible show wpAny _ _ (subscriptTail _ _ (Value.ref (LP.Ls _ _)) (Value.int _ _)) _ _ _); k_dflt (refine' l_sub ?Fz2R4 ?Nz2R4 ?Tz2R4 ?Spz2R4 ?hkz2R4 ?_; (case Fz2R4 => k_asm); (case Nz2R4 => k_asm); (case Tz2R4 => assumption); (case Spz2R4 => (repeat (first | exact Spl.nil | apply Spl.cons))); (case hkz2R4 => first | assumption | exact kd_of (by first | assumption | omega) (by first | assumption | omega))); skip)))
  (k_with "getMethod ref" => (((with_reducible show wpAny _ _ (getMethod (Value.ref (limOf _ _ _ _)) (Str.ofString "test") _) _ _ _); k_dflt (refine' lm_test ?Xz3R4 ?Fz3R4 ?Nz3R4 ?Tz3R4 ?Spz3R4 ?hkz3R4 ?_; (case Xz3R4 => k_asm); (case Fz3R4 => k_asm); (case Nz3R4 => k_asm); (case Tz3R4 => assumption); (case Spz3R4 => (repeat (first | exact Spl.nil | apply Spl.cons))); (case hkz3R4 => first | assumption | exact kd_of (by first | assumption | omega) (by first | assumption | omega))); skip)))
  (k_with "getMethod ref" => (((with_reducible show wpAny _ _ (getMethod (Value.ref (limOf _ _ _ _)) (Str.ofString "hit") _) _ _ _); k_dflt (refine' lm_hit ?Xz4R4 ?Fz4R4 ?Nz4R4 ?Tz4R4 ?Spz4R4 ?hkz4R4 ?_; (case Xz4R4 => k_asm); (case Fz4R4 => k_asm); (case Nz4R4 => k_asm); (case Tz4R4 => assumption); (case Spz4R4 => (repeat (first | exact Spl.nil | apply Spl.cons))); (case hkz4R4 => first | assumption | exact kd_of (by first | assumption | omega) (by first | assumption | omega))); skip)))
  (k_with "getMethod ref" => (((with_reducible show wpAny _ _ (getMethod (Value.ref (limOf _ _ _ _)) (Str.ofString "get_window_stats") _) _ _ _); k_dflt (refine' lm_sta ?Xz5R4 ?Fz5R4 ?Nz5R4 ?Tz5R4 ?Spz5R4 ?hkz5R4 ?_; (case Xz5R4 => k_asm); (case Fz5R4 => k_asm); (case Nz5R4 => k_asm); (case Tz5R4 => assumption); (case Spz5R4 => (repeat (first | exact Spl.nil | apply Spl.cons))); (case hkz5R4 => first | assumption | exact kd_of (by first | assumption | omega) (by first | assumption | omega))); skip)))
  (k_with "getMethod ref" => (((with_reducible show wpAny _ _ (getMethod (Value.ref (limOf _ _ _ _)) (Str.ofString "clear") _) _ _ _); k_dflt (refine' lm_clr ?Xz6R4 ?Fz6R4 ?Nz6R4 ?Tz6R4 ?Spz6R4 ?hkz6R4 ?_; (case Xz6R4 => k_asm); (case Fz6R4 => k_asm); (case Nz6R4 => k_asm); (case Tz6R4 => assumption); (case Spz6R4 => (repeat (first | exact Spl.nil | apply Spl.cons))); (case hkz6R4 => first | assumption | exact kd_of (by first | assumption | omega) (by first | assumption | omega))); skip)))
  (k_with "callWith ref" => (((with_reducible show wpAny _ _ (callWith _ (Value.ref (tstF _)) _ _ _) _ _ _); k_dflt (first | (refine' callWith_K ?k1z7R4 (keep_tst ?k2z7R4) ?_; (case k1z7R4 => k_asm); (case k2z7R4 => (first | assumption | exact kd_of (by first | assumption | omega) (by first | assumption | omega)))) | (refine' callWith_KW ?k1z7R4 (keep_tst ?k2z7R4) ?k3z7R4 ?_; (case k1z7R4 => k_asm); (case k2z7R4 => (first | assumption | exact kd_of (by first | assumption | omega) (by first | assumption | omega))); (case k3z7R4 => exact rfl))))))
  (k_with "callWith ref" => (((with_reducible show wpAny _ _ (callWith _ (Value.ref (hitF _)) _ _ _) _ _ _); k_dflt (first | (refine' callWith_K ?k1z8R4 (keep_hit ?k2z8R4) ?_; (case k1z8R4 => k_asm); (case k2z8R4 => (first | assumption | exact kd_of (by first | assumption | omega) (by first | assumption | omega)))) | (refine' callWith_KW ?k1z8R4 (keep_hit ?k2z8R4) ?k3z8R4 ?_; (case k1z8R4 => k_asm); (case k2z8R4 => (first | assumption | exact kd_of (by first | assumption | omega) (by first | assumption | omega))); (case k3z8R4 => exact rfl))))))
  (k_with "callWith ref" => (((with_reducible show wpAny _ _ (callWith _ (Value.ref (clrF _)) _ _ _) _ _ _); k_dflt (first | (refine' callWith_K ?k1z9R4 (keep_clr ?k2z9R4) ?_; (case k1z9R4 => k_asm); (case k2z9R4 => (first | assumption | exact kd_of (by first | assumption | omega) (by first | assumption | omega)))) | (refine' callWith_KW ?k1z9R4 (keep_clr ?k2z9R4) ?k3z9R4 ?_; (case k1z9R4 => k_asm); (case k2z9R4 => (first | assumption | exact kd_of (by first | assumption | omega) (by first | assumption | omega))); (case k3z9R4 => exact rfl))))))
  (k_with "callWith ref" => (((with_reducible show wpAny _ _ (callWith _ (Value.ref (staF _)) _ _ _) _ _ _); k_dflt (first | (refine' callWith_K ?k1z10R4 (keep_sta ?k2z10R4) ?_; (case k1z10R4 => k_asm); (case k2z10R4 => (first | assumption | exact kd_of (by first | assumption | omega) (by first | assumption | omega)))) | (refine' callWith_KW ?k1z10R4 (keep_sta ?k2z10R4) ?k3z10R4 ?_; (case k1z10R4 => k_asm); (case k2z10R4 => (first | assumption | exact kd_of (by first | assumption | omega) (by first | assumption | omega))); (case k3z10R4 => exact rfl))))))
  (k_with "callWith ref" => (((with_reducible show wpAny _ _ (callWith _ (Value.ref 721) _ _ _) _ _ _); k_dflt (refine' callWith_K (f := .ref 721) ?k1z11R4 ?k2z11R4 ?_; (case k1z11R4 => k_asm); (case k2z11R4 => k_is)))))
  (k_with "callWith ref" => (((with_reducible show wpAny _ _ (callWith _ (Value.ref 714) _ _ _) _ _ _); k_dflt (refine' callWith_K (f := .ref 714) ?k1z12R4 ?k2z12R4 ?_; (case k1z12R4 => k_asm); (case k2z12R4 => k_is)))))
  (k_with "callWith ref" => (((with_reducible show wpAny _ _ (callWith _ (Value.ref 501) _ _ _) _ _ _); k_dflt (refine' callWith_K (f := .ref 501) ?k1z13R4 ?k2z13R4 ?_; (case k1z13R4 => k_asm); (case k2z13R4 => k_is)))))
  (k_with "call ref" => (((with_reducible show wpAny _ _ (call (Value.ref (tstF _)) _ _) _ _ _); k_dflt (refine' w_test ?Q0z14R4 ?Gz14R4 ?Rz14R4 ?Fz14R4 ?Nz14R4 ?Tz14R4 ?Spz14R4 ?hnowz14R4 ?hhz14R4 ?hxtz14R4 ?tgz14R4 ?htz14R4 ?hfrz14R4 ?hkz14R4 ?hfz14R4 ?hbz14R4 ?hBnz14R4 ?hkdz14R4 ?hitz14R4 ?hnmz14R4 ?hmtz14R4 ?hkwz14R4 ?hcz14R4 ?lbz14R4 ?hrz14R4 ?hsz14R4 ?hBz14R4 ?_; (case Q0z14R4 => assumption); (case Gz14R4 => assumption); (case Rz14R4 => exact Rm.mono (Rm.deeper _ (by assumption)) (by decide)); (case Fz14R4 => k_asm); (case Nz14R4 => k_asm); (case Tz14R4 => assumption); (case Spz14R4 => (repeat (first | exact Spl.nil | apply Spl.cons))); (case hnowz14R4 => k_mem); (case hhz14R4 => exact ⟨_, by k_mem⟩); (case hxtz14R4 => rw [(by assumption : LP.xtra _ = _)]; (repeat (first | exact List.forall_mem_nil _ | refine List.forall_mem_cons.mpr ⟨⟨_, by k_mem⟩, ?_⟩))); (case tgz14R4 => (repeat' (first | exact List.forall_mem_nil _ | refine List.forall_mem_cons.mpr ⟨?_, ?_⟩ | assumption | exact rfl | exact tag_cell (by assumption)))); (case htz14R4 => exact ⟨by omega, by omega⟩); (case hfrz14R4 => exact rfl); (case hkz14R4 => exact (show ScopeKind.function ≠ ScopeKind.module by decide)); (case hfz14R4 => exact rfl); (case hbz14R4 => assumption); (case hBnz14R4 => omega); (case hkdz14R4 => first | assumption | exact kd_of (by first | assumption | omega) (by first | assumption | omega)); (case hitz14R4 => (repeat (first | exact List.Mem.head _ | apply List.Mem.tail))); (case hnmz14R4 => (first | exact nm1 (by k_asm) (by k_mem) (by decide) | exact nm2 (by k_asm) (by k_mem) (by decide) (by decide) | exact NamesAt.ite (nm1 (by k_asm) (by k_mem) (by decide)) (nm2 (by k_asm) (by k_mem) (by decide) (by decide)) | exact NamesAt.ite (nm2 (by k_asm) (by k_mem) (by decide) (by decide)) (nm1 (by k_asm) (by k_mem) (by decide)))); (case hmtz14R4 => omega); (case hkwz14R4 => first | exact .inr ⟨rfl, rfl, rfl⟩ | exact .inl rfl); (case hcz14R4 => exact ⟨by first | decide | assumption | omega, by first | decide | assumption | omega⟩); (case lbz14R4 => assumption); (case hrz14R4 => assumption); (case hsz14R4 => first | exact .inl ⟨rfl, .inl rfl⟩ | exact .inl ⟨rfl, .inr rfl⟩ | exact .inr ⟨rfl, _, rfl⟩); (case hBz14R4 => omega)); intro v'z14R4 h'z14R4 tk'z14R4 ex'z14R4 σ'z14R4 b'z14R4 F'z14R4 N'z14R4 T'z14R4 n'z14R4 hb'z14R4 hr'z14R4; (try simp only [List.cons_append, List.nil_append] at N'z14R4); (have nh'z14R4 := fun q hq => (n'z14R4 q hq).1); (have nn'z14R4 := fun q hq => (n'z14R4 q hq).2.1); (have nx'z14R4 := fun q hq => (n'z14R4 q hq).2.2); clear n'z14R4)))
  (k_with "call ref" => (((with_reducible show wpAny _ _ (call (Value.ref (hitF _)) _ _) _ _ _); k_dflt (refine' w_hit ?Q0z15R4 ?Gz15R4 ?Rz15R4 ?Fz15R4 ?Nz15R4 ?Tz15R4 ?Spz15R4 ?hnowz15R4 ?hhz15R4 ?hxtz15R4 ?tgz15R4 ?htz15R4 ?hfrz15R4 ?hkz15R4 ?hfz15R4 ?hbz15R4 ?hBnz15R4 ?hkdz15R4 ?hitz15R4 ?hnmz15R4 ?hmtz15R4 ?hcz15R4 ?lbz15R4 ?hrz15R4 ?hsz15R4 ?hBz15R4 ?_; (case Q0z15R4 => assumption); (case Gz15R4 => assumption); (case Rz15R4 => exact Rm.mono (Rm.deeper _ (by assumption)) (by decide)); (case Fz15R4 => k_asm); (case Nz15R4 => k_asm); (case Tz15R4 => assumption); (case Spz15R4 => (repeat (first | exact Spl.nil | apply Spl.cons))); (case hnowz15R4 => k_mem); (case hhz15R4 => exact ⟨_, by k_mem⟩); (case hxtz15R4 => rw [(by assumption : LP.xtra _ = _)]; (repeat (first | exact List.forall_mem_nil _ | refine List.forall_mem_cons.mpr ⟨⟨_, by k_mem⟩, ?_⟩))); (case tgz15R4 => (repeat' (first | exact List.forall_mem_nil _ | refine List.forall_mem_cons.mpr ⟨?_, ?_⟩ | assumption | exact rfl | exact tag_cell (by assumption)))); (case htz15R4 => exact ⟨by omega, by omega⟩); (case hfrz15R4 => exact rfl); (case hkz15R4 => exact (show ScopeKind.function ≠ ScopeKind.module by decide)); (case hfz15R4 => exact rfl); (case hbz15R4 => assumption); (case hBnz15R4 => omega); (case hkdz15R4 => first | assumption | exact kd_of (by first | assumption | omega) (by first | assumption | omega)); (case hitz15R4 => (repeat (first | exact List.Mem.head _ | apply List.Mem.tail))); (case hnmz15R4 => (first | exact nm1 (by k_asm) (by k_mem) (by decide) | exact nm2 (by k_asm) (by k_mem) (by decide) (by decide) | exact NamesAt.ite (nm1 (by k_asm) (by k_mem) (by decide)) (nm2 (by k_asm) (by k_mem) (by decide) (by decide)) | exact NamesAt.ite (nm2 (by k_asm) (by k_mem) (by decide) (by decide)) (nm1 (by k_asm) (by k_mem) (by decide)))); (case hmtz15R4 => omega); (case hcz15R4 => exact ⟨by first | decide | assumption | omega, by first | decide | assumption | omega⟩); (case lbz15R4 => assumption); (case hrz15R4 => assumption); (case hsz15R4 => first | exact .inl ⟨rfl, .inl rfl⟩ | exact .inl ⟨rfl, .inr rfl⟩ | exact .inr ⟨rfl, _, rfl⟩); (case hBz15R4 => omega)); intro v'z15R4 h'z15R4 tk'z15R4 ex'z15R4 σ'z15R4 b'z15R4 F'z15R4 N'z15R4 T'z15R4 n'z15R4 hb'z15R4 hr'z15R4; (try simp only [List.cons_append, List.nil_append] at N'z15R4); (have nh'z15R4 := fun q hq => (n'z15R4 q hq).1); (have nn'z15R4 := fun q hq => (n'z15R4 q hq).2.1); (have nx'z15R4 := fun q hq => (n'z15R4 q hq).2.2); clear n'z15R4)))
  (k_with "call ref" => (((with_reducible show wpAny _ _ (call (Value.ref (clrF _)) _ _) _ _ _); k_dflt (refine' w_clear ?Q0z16R4 ?Gz16R4 ?Rz16R4 ?Fz16R4 ?Nz16R4 ?Tz16R4 ?Spz16R4 ?hnowz16R4 ?hhz16R4 ?hxtz16R4 ?tgz16R4 ?htz16R4 ?hfrz16R4 ?hkz16R4 ?hfz16R4 ?hbz16R4 ?hBnz16R4 ?hkdz16R4 ?hitz16R4 ?hnmz16R4 ?hmtz16R4 ?lbz16R4 ?hrz16R4 ?hsz16R4 ?hBz16R4 ?_; (case Q0z16R4 => assumption); (case Gz16R4 => assumption); (case Rz16R4 => exact Rm.mono (Rm.deeper _ (by assumption)) (by decide)); (case Fz16R4 => k_asm); (case Nz16R4 => k_asm); (case Tz16R4 => assumption); (case Spz16R4 => (repeat (first | exact Spl.nil | apply Spl.cons))); (case hnowz16R4 => k_mem); (case hhz16R4 => exact ⟨_, by k_mem⟩); (case hxtz16R4 => rw [(by assumption : LP.xtra _ = _)]; (repeat (first | exact List.forall_mem_nil _ | refine List.forall_mem_cons.mpr ⟨⟨_, by k_mem⟩, ?_⟩))); (case tgz16R4 => (repeat' (first | exact List.forall_mem_nil _ | refine List.forall_mem_cons.mpr ⟨?_, ?_⟩ | assumption | exact rfl | exact tag_cell (by assumption)))); (case htz16R4 => exact ⟨by omega, by omega⟩); (case hfrz16R4 => exact rfl); (case hkz16R4 => exact (show ScopeKind.function ≠ ScopeKind.module by decide)); (case hfz16R4 => exact rfl); (case hbz16R4 => assumption); (case hBnz16R4 => omega); (case hkdz16R4 => first | assumption | exact kd_of (by first | assumption | omega) (by first | assumption | omega)); (case hitz16R4 => (repeat (first | exact List.Mem.head _ | apply List.Mem.tail))); (case hnmz16R4 => (first | exact nm1 (by k_asm) (by k_mem) (by decide) | exact nm2 (by k_asm) (by k_mem) (by decide) (by decide) | exact NamesAt.ite (nm1 (by k_asm) (by k_mem) (by decide)) (nm2 (by k_asm) (by k_mem) (by decide) (by decide)) | exact NamesAt.ite (nm2 (by k_asm) (by k_mem) (by decide) (by decide)) (nm1 (by k_asm) (by k_mem) (by decide)))); (case hmtz16R4 => omega); (case lbz16R4 => assumption); (case hrz16R4 => assumption); (case hsz16R4 => first | exact .inl ⟨rfl, .inl rfl⟩ | exact .inl ⟨rfl, .inr rfl⟩ | exact .inr ⟨rfl, _, rfl⟩); (case hBz16R4 => omega)); intro h'z16R4 tk'z16R4 ex'z16R4 σ'z16R4 b'z16R4 F'z16R4 N'z16R4 T'z16R4 n'z16R4 hb'z16R4 hr'z16R4; (try simp only [List.cons_append, List.nil_append] at N'z16R4); (have nh'z16R4 := fun q hq => (n'z16R4 q hq).1); (have nn'z16R4 := fun q hq => (n'z16R4 q hq).2.1); (have nx'z16R4 := fun q hq => (n'z16R4 q hq).2.2); clear n'z16R4)))
  (k_with "call ref" => (((with_reducible show wpAny _ _ (call (Value.ref (staF _)) _ _) _ _ _); k_dflt (refine' w_stats ?Q0z17R4 ?Gz17R4 ?Rz17R4 ?Fz17R4 ?Nz17R4 ?Tz17R4 ?Spz17R4 ?hnowz17R4 ?hhz17R4 ?hxtz17R4 ?tgz17R4 ?htz17R4 ?hfrz17R4 ?hkz17R4 ?hfz17R4 ?hbz17R4 ?hBnz17R4 ?hkdz17R4 ?hitz17R4 ?hnmz17R4 ?hmtz17R4 ?lbz17R4 ?hrz17R4 ?hsz17R4 ?hBz17R4 ?_; (case Q0z17R4 => assumption); (case Gz17R4 => assumption); (case Rz17R4 => exact Rm.mono (Rm.deeper _ (by assumption)) (by decide)); (case Fz17R4 => k_asm); (case Nz17R4 => k_asm); (case Tz17R4 => assumption); (case Spz17R4 => (repeat (first | exact Spl.nil | apply Spl.cons))); (case hnowz17R4 => k_mem); (case hhz17R4 => exact ⟨_, by k_mem⟩); (case hxtz17R4 => rw [(by assumption : LP.xtra _ = _)]; (repeat (first | exact List.forall_mem_nil _ | refine List.forall_mem_cons.mpr ⟨⟨_, by k_mem⟩, ?_⟩))); (case tgz17R4 => (repeat' (first | exact List.forall_mem_nil _ | refine List.forall_mem_cons.mpr ⟨?_, ?_⟩ | assumption | exact rfl | exact tag_cell (by assumption)))); (case htz17R4 => exact ⟨by omega, by omega⟩); (case hfrz17R4 => exact rfl); (case hkz17R4 => exact (show ScopeKind.function ≠ ScopeKind.module by decide)); (case hfz17R4 => exact rfl); (case hbz17R4 => assumption); (case hBnz17R4 => omega); (case hkdz17R4 => first | assumption | exact kd_of (by first | assumption | omega) (by first | assumption | omega)); (case hitz17R4 => (repeat (first | exact List.Mem.head _ | apply List.Mem.tail))); (case hnmz17R4 => (first | exact nm1 (by k_asm) (by k_mem) (by decide) | exact nm2 (by k_asm) (by k_mem) (by decide) (by decide) | exact NamesAt.ite (nm1 (by k_asm) (by k_mem) (by decide)) (nm2 (by k_asm) (by k_mem) (by decide) (by decide)) | exact NamesAt.ite (nm2 (by k_asm) (by k_mem) (by decide) (by decide)) (nm1 (by k_asm) (by k_mem) (by decide)))); (case hmtz17R4 => omega); (case lbz17R4 => assumption); (case hrz17R4 => assumption); (case hsz17R4 => first | exact .inl ⟨rfl, .inl rfl⟩ | exact .inl ⟨rfl, .inr rfl⟩ | exact .inr ⟨rfl, _, rfl⟩); (case hBz17R4 => omega)); intro h'z17R4 tk'z17R4 r'z17R4 ex'z17R4 σ'z17R4 b'z17R4 F'z17R4 N'z17R4 T'z17R4 n'z17R4 hb'z17R4 hr'z17R4; (try simp only [List.cons_append, List.nil_append] at N'z17R4); (have nh'z17R4 := fun q hq => (n'z17R4 q hq).1); (have nn'z17R4 := fun q hq => (n'z17R4 q hq).2.1); (have nx'z17R4 := fun q hq => (n'z17R4 q hq).2.2); clear n'z17R4)))
  (k_with "call ref" => (((with_reducible show wpAny _ _ (call (Value.ref 721) (Value.ref (LP.Ls _ false) :: _) _) _ _ _); k_dflt (refine' w_stepA ?Q0z18R4 ?Gz18R4 ?Rz18R4 ?Fz18R4 ?Nz18R4 ?Tz18R4 ?Spz18R4 ?hnowz18R4 ?hhz18R4 ?hxtz18R4 ?tgz18R4 ?htz18R4 ?hfrz18R4 ?hkz18R4 ?hfz18R4 ?hbz18R4 ?hBnz18R4 ?hkdz18R4 ?hitz18R4 ?hnmz18R4 ?hmtz18R4 ?hcz18R4 ?hddz18R4 ?hrz18R4 ?_; (case Q0z18R4 => assumption); (case Gz18R4 => assumption); (case Rz18R4 => exact Rm.mono (Rm.deeper _ (by assumption)) (by decide)); (case Fz18R4 => k_asm); (case Nz18R4 => k_asm); (case Tz18R4 => assumption); (case Spz18R4 => (repeat (first | exact Spl.nil | apply Spl.cons))); (case hnowz18R4 => k_mem); (case hhz18R4 => exact ⟨_, by k_mem⟩); (case hxtz18R4 => rw [(by assumption : LP.xtra _ = _)]; (repeat (first | exact List.forall_mem_nil _ | refine List.forall_mem_cons.mpr ⟨⟨_, by k_mem⟩, ?_⟩))); (case tgz18R4 => (repeat' (first | exact List.forall_mem_nil _ | refine List.forall_mem_cons.mpr ⟨?_, ?_⟩ | assumption | exact rfl | exact tag_cell (by assumption)))); (case htz18R4 => exact ⟨by omega, by omega⟩); (case hfrz18R4 => exact rfl); (case hkz18R4 => exact (show ScopeKind.function ≠ ScopeKind.module by decide)); (case hfz18R4 => exact rfl); (case hbz18R4 => assumption); (case hBnz18R4 => omega); (case hkdz18R4 => first | assumption | exact kd_of (by first | assumption | omega) (by first | assumption | omega)); (case hitz18R4 => (repeat (first | exact List.Mem.head _ | apply List.Mem.tail))); (case hnmz18R4 => (first | exact nm1 (by k_asm) (by k_mem) (by decide) | exact nm2 (by k_asm) (by k_mem) (by decide) (by decide) | exact NamesAt.ite (nm1 (by k_asm) (by k_mem) (by decide)) (nm2 (by k_asm) (by k_mem) (by decide) (by decide)) | exact NamesAt.ite (nm2 (by k_asm) (by k_mem) (by decide) (by decide)) (nm1 (by k_asm) (by k_mem) (by decide)))); (case hmtz18R4 => omega); (case hcz18R4 => exact ⟨by first | decide | assumption | omega, by first | decide | assumption | omega⟩); (case hddz18R4 => exact ⟨by first | assumption | omega, by first | exact Int.le_of_lt_add_one (by assumption) | omega⟩); (case hrz18R4 => assumption)); intro h'z18R4 tk'z18R4 v'z18R4 ex'z18R4 σ'z18R4 b'z18R4 F'z18R4 N'z18R4 T'z18R4 n'z18R4 hb'z18R4 hr'z18R4; (try simp only [List.cons_append, List.nil_append] at N'z18R4); (have nh'z18R4 := fun q hq => (n'z18R4 q hq).1); (have nn'z18R4 := fun q hq => (n'z18R4 q hq).2.1); (have nx'z18R4 := fun q hq => (n'z18R4 q hq).2.2); clear n'z18R4)))
  (k_with "call ref" => (((with_reducible show wpAny _ _ (call (Value.ref 721) (Value.ref (LP.Ls _ true) :: _) _) _ _ _); k_dflt (refine' w_stepB ?Q0z19R4 ?Gz19R4 ?Rz19R4 ?Fz19R4 ?Nz19R4 ?Tz19R4 ?Spz19R4 ?hnowz19R4 ?hhz19R4 ?hxtz19R4 ?tgz19R4 ?htz19R4 ?hfrz19R4 ?hkz19R4 ?hfz19R4 ?hbz19R4 ?hBnz19R4 ?hkdz19R4 ?hitz19R4 ?hnmz19R4 ?hmtz19R4 ?hcz19R4 ?hddz19R4 ?lbz19R4 ?hBz19R4 ?hrz19R4 ?_; (case Q0z19R4 => assumption); (case Gz19R4 => assumption); (case Rz19R4 => exact Rm.mono (Rm.deeper _ (by assumption)) (by decide)); (case Fz19R4 => k_asm); (case Nz19R4 => k_asm); (case Tz19R4 => assumption); (case Spz19R4 => (repeat (first | exact Spl.nil | apply Spl.cons))); (case hnowz19R4 => k_mem); (case hhz19R4 => exact ⟨_, by k_mem⟩); (case hxtz19R4 => rw [(by assumption : LP.xtra _ = _)]; (repeat (first | exact List.forall_mem_nil _ | refine List.forall_mem_cons.mpr ⟨⟨_, by k_mem⟩, ?_⟩))); (case tgz19R4 => (repeat' (first | exact List.forall_mem_nil _ | refine List.forall_mem_cons.mpr ⟨?_, ?_⟩ | assumption | exact rfl | exact tag_cell (by assumption)))); (case htz19R4 => exact ⟨by omega, by omega⟩); (case hfrz19R4 => exact rfl); (case hkz19R4 => exact (show ScopeKind.function ≠ ScopeKind.module by decide)); (case hfz19R4 => exact rfl); (case hbz19R4 => assumption); (case hBnz19R4 => omega); (case hkdz19R4 => first | assumption | exact kd_of (by first | assumption | omega) (by first | assumption | omega)); (case hitz19R4 => (repeat (first | exact List.Mem.head _ | apply List.Mem.tail))); (case hnmz19R4 => (first | exact nm1 (by k_asm) (by k_mem) (by decide) | exact nm2 (by k_asm) (by k_mem) (by decide) (by decide) | exact NamesAt.ite (nm1 (by k_asm) (by k_mem) (by decide)) (nm2 (by k_asm) (by k_mem) (by decide) (by decide)) | exact NamesAt.ite (nm2 (by k_asm) (by k_mem) (by decide) (by decide)) (nm1 (by k_asm) (by k_mem) (by decide)))); (case hmtz19R4 => omega); (case hcz19R4 => exact ⟨by first | decide | assumption | omega, by first | decide | assumption | omega⟩); (case hddz19R4 => exact ⟨by first | assumption | omega, by first | exact Int.le_of_lt_add_one (by assumption) | omega⟩); (case lbz19R4 => assumption); (case hrz19R4 => assumption); (case hBz19R4 => omega)); intro h'z19R4 tk'z19R4 ex'z19R4 σ'z19R4 b'z19R4 F'z19R4 N'z19R4 T'z19R4 n'z19R4 hb'z19R4 hr'z19R4; (try simp only [List.cons_append, List.nil_append] at N'z19R4); (have nh'z19R4 := fun q hq => (n'z19R4 q hq).1); (have nn'z19R4 := fun q hq => (n'z19R4 q hq).2.1); (have nx'z19R4 := fun q hq => (n'z19R4 q hq).2.2); clear n'z19R4)))
  (k_with "call ref" => (((with_reducible show wpAny _ _ (call (Value.ref 714) (Value.ref (LP.Ls _ false) :: _) _) _ _ _); k_dflt (refine' w_lsA ?Q0z20R4 ?Gz20R4 ?Rz20R4 ?Fz20R4 ?Nz20R4 ?Tz20R4 ?Spz20R4 ?hnowz20R4 ?hhz20R4 ?hxtz20R4 ?tgz20R4 ?htz20R4 ?hfrz20R4 ?hkz20R4 ?hfz20R4 ?hbz20R4 ?hBnz20R4 ?hkdz20R4 ?hitz20R4 ?hnmz20R4 ?hmtz20R4 ?hrz20R4 ?_; (case Q0z20R4 => assumption); (case Gz20R4 => assumption); (case Rz20R4 => exact Rm.mono (Rm.deeper _ (by assumption)) (by decide)); (case Fz20R4 => k_asm); (case Nz20R4 => k_asm); (case Tz20R4 => assumption); (case Spz20R4 => (repeat (first | exact Spl.nil | apply Spl.cons))); (case hnowz20R4 => k_mem); (case hhz20R4 => exact ⟨_, by k_mem⟩); (case hxtz20R4 => rw [(by assumption : LP.xtra _ = _)]; (repeat (first | exact List.forall_mem_nil _ | refine List.forall_mem_cons.mpr ⟨⟨_, by k_mem⟩, ?_⟩))); (case tgz20R4 => (repeat' (first | exact List.forall_mem_nil _ | refine List.forall_mem_cons.mpr ⟨?_, ?_⟩ | assumption | exact rfl | exact tag_cell (by assumption)))); (case htz20R4 => exact ⟨by omega, by omega⟩); (case hfrz20R4 => exact rfl); (case hkz20R4 => exact (show ScopeKind.function ≠ ScopeKind.module by decide)); (case hfz20R4 => exact rfl); (case hbz20R4 => assumption); (case hBnz20R4 => omega); (case hkdz20R4 => first | assumption | exact kd_of (by first | assumption | omega) (by first | assumption | omega)); (case hitz20R4 => (repeat (first | exact List.Mem.head _ | apply List.Mem.tail))); (case hnmz20R4 => (first | exact nm1 (by k_asm) (by k_mem) (by decide) | exact nm2 (by k_asm) (by k_mem) (by decide) (by decide) | exact NamesAt.ite (nm1 (by k_asm) (by k_mem) (by decide)) (nm2 (by k_asm) (by k_mem) (by decide) (by decide)) | exact NamesAt.ite (nm2 (by k_asm) (by k_mem) (by decide) (by decide)) (nm1 (by k_asm) (by k_mem) (by decide)))); (case hmtz20R4 => omega); (case hrz20R4 => assumption)); intro h'z20R4 tk'z20R4 r'z20R4 q'z20R4 u1z20R4 u2z20R4 u3z20R4 r1z20R4 n1z20R4 d1z20R4 ex'z20R4 σ'z20R4 b'z20R4 F'z20R4 N'z20R4 T'z20R4 n'z20R4 hb'z20R4 hr'z20R4; (try simp only [List.cons_append, List.nil_append] at N'z20R4); (have nh'z20R4 := fun q hq => (n'z20R4 q hq).1); (have nn'z20R4 := fun q hq => (n'z20R4 q hq).2.1); (have nx'z20R4 := fun q hq => (n'z20R4 q hq).2.2); clear n'z20R4)))
  (k_with "call ref" => (((with_reducible show wpAny _ _ (call (Value.ref 714) (Value.ref (LP.Ls _ true) :: _) _) _ _ _); k_dflt (refine' w_lsB ?Q0z21R4 ?Gz21R4 ?Rz21R4 ?Fz21R4 ?Nz21R4 ?Tz21R4 ?Spz21R4 ?hnowz21R4 ?hhz21R4 ?hxtz21R4 ?tgz21R4 ?htz21R4 ?hfrz21R4 ?hkz21R4 ?hfz21R4 ?hbz21R4 ?hBnz21R4 ?hkdz21R4 ?hitz21R4 ?hnmz21R4 ?hmtz21R4 ?lbz21R4 ?hBz21R4 ?hrz21R4 ?_; (case Q0z21R4 => assumption); (case Gz21R4 => assumption); (case Rz21R4 => exact Rm.mono (Rm.deeper _ (by assumption)) (by decide)); (case Fz21R4 => k_asm); (case Nz21R4 => k_asm); (case Tz21R4 => assumption); (case Spz21R4 => (repeat (first | exact Spl.nil | apply Spl.cons))); (case hnowz21R4 => k_mem); (case hhz21R4 => exact ⟨_, by k_mem⟩); (case hxtz21R4 => rw [(by assumption : LP.xtra _ = _)]; (repeat (first | exact List.forall_mem_nil _ | refine List.forall_mem_cons.mpr ⟨⟨_, by k_mem⟩, ?_⟩))); (case tgz21R4 => (repeat' (first | exact List.forall_mem_nil _ | refine List.forall_mem_cons.mpr ⟨?_, ?_⟩ | assumption | exact rfl | exact tag_cell (by assumption)))); (case htz21R4 => exact ⟨by omega, by omega⟩); (case hfrz21R4 => exact rfl); (case hkz21R4 => exact (show ScopeKind.function ≠ ScopeKind.module by decide)); (case hfz21R4 => exact rfl); (case hbz21R4 => assumption); (case hBnz21R4 => omega); (case hkdz21R4 => first | assumption | exact kd_of (by first | assumption | omega) (by first | assumption | omega)); (case hitz21R4 => (repeat (first | exact List.Mem.head _ | apply List.Mem.tail))); (case hnmz21R4 => (first | exact nm1 (by k_asm) (by k_mem) (by decide) | exact nm2 (by k_asm) (by k_mem) (by decide) (by decide) | exact NamesAt.ite (nm1 (by k_asm) (by k_mem) (by decide)) (nm2 (by k_asm) (by k_mem) (by decide) (by decide)) | exact NamesAt.ite (nm2 (by k_asm) (by k_mem) (by decide) (by decide)) (nm1 (by k_asm) (by k_mem) (by decide)))); (case hmtz21R4 => omega); (case lbz21R4 => assumption); (case hrz21R4 => assumption); (case hBz21R4 => omega)); intro h'z21R4 tk'z21R4 r'z21R4 q'z21R4 u1z21R4 u2z21R4 u3z21R4 n2z21R4 d2z21R4 ex'z21R4 σ'z21R4 b'z21R4 F'z21R4 N'z21R4 T'z21R4 n'z21R4 hb'z21R4 heq'z21R4 hr'z21R4; obtain ⟨he1z21R4, ⟨he2z21R4, he3z21R4⟩, he4, he5⟩ := heq'z21R4; (try simp only [List.cons_append, List.nil_append] at N'z21R4); (have nh'z21R4 := fun q hq => (n'z21R4 q hq).1); (have nn'z21R4 := fun q hq => (n'z21R4 q hq).2.1); (have nx'z21R4 := fun q hq => (n'z21R4 q hq).2.2); clear n'z21R4)))
  (k_with "call ref" => (((with_reducible show wpAny _ _ (call (Value.ref 501) _ _) _ _ _); k_dflt (refine' l_third ?Q0z22R4 ?Gz22R4 ?Rz22R4 ?Xz22R4 ?Fz22R4 ?Nz22R4 ?Tz22R4 ?Spz22R4 ?hhz22R4 ?hnz22R4 ?hxtz22R4 ?hnsz22R4 ?_; (case Q0z22R4 => assumption); (case Gz22R4 => assumption); (case Rz22R4 => exact Rm.mono (Rm.deeper _ (by assumption)) (by decide)); (case Xz22R4 => k_asm); (case Fz22R4 => k_asm); (case Nz22R4 => k_asm); (case Tz22R4 => assumption); (case Spz22R4 => (repeat (first | exact Spl.nil | apply Spl.cons))); (case hhz22R4 => exact ⟨_, by k_mem⟩); (case hnz22R4 => exact ⟨_, by k_mem⟩); (case hxtz22R4 => rw [(by assumption : LP.xtra _ = _)]; (repeat (first | exact List.forall_mem_nil _ | refine List.forall_mem_cons.mpr ⟨⟨_, by k_mem⟩, ?_⟩))); (case hnsz22R4 => decide)); intro h'z22R4 tk'z22R4 x'z22R4 ex'z22R4 F'z22R4 N'z22R4 T'z22R4 n'z22R4; (try simp only [List.cons_append, List.nil_append] at N'z22R4); (have nh'z22R4 := fun q hq => (n'z22R4 q hq).1); (have nn'z22R4 := fun q hq => (n'z22R4 q hq).2.1); (have nx'z22R4 := fun q hq => (n'z22R4 q hq).2.2); clear n'z22R4)))
  (k_with "subscriptTail" => (((with_reducible show wpAny _ _ (subscriptTail (PySem.Expr.List _ _) _ (Value.ref _) (Value.int _ _)) _ _ _); k_dflt (first | (refine' list_twoD ?Nz23R4 ?h0z23R4 ?h1z23R4 ?_; (case Nz23R4 => k_asm); (case h0z23R4 => omega); (case h1z23R4 => omega); intro nq'z23R4) | (refine' list_two ?lz23R4 ?h0z23R4 ?h1z23R4 ?_; (case lz23R4 => is_list); (case h0z23R4 => omega); (case h1z23R4 => omega)) | (refine' list_pickD (lo := 0) (hi := 50) ?Nz23R4 ?h0z23R4 ?h1z23R4 ?hzz23R4 ?hvz23R4 ?_; (case Nz23R4 => k_asm); (case h0z23R4 => omega); (case h1z23R4 => simp only [List.length_cons, List.length_nil]; omega); (case hzz23R4 => simp only [List.length_cons, List.length_nil]; omega); (case hvz23R4 => repeat' (first | exact List.forall_mem_nil _ | refine List.forall_mem_cons.mpr ⟨⟨_, _, rfl, by omega, by omega⟩, ?_⟩)); intro i'z23R4 t'z23R4 b0z23R4 b1z23R4 nq'z23R4) | (refine' list_pick (lo := 0) (hi := 50) ?lz23R4 ?h0z23R4 ?h1z23R4 ?hzz23R4 ?hvz23R4 ?_; (case lz23R4 => is_list); (case h0z23R4 => omega); (case h1z23R4 => simp only [List.length_cons, List.length_nil]; omega); (case hzz23R4 => simp only [List.length_cons, List.length_nil]; omega); (case hvz23R4 => repeat' (first | exact List.forall_mem_nil _ | refine List.forall_mem_cons.mpr ⟨⟨_, _, rfl, by omega, by omega⟩, ?_⟩)); intro i'z23R4 t'z23R4 b0z23R4 b1z23R4)))))
  (k_with "subscriptTail List cons Call ref int" => (((with_reducible show wpAny _ _ (subscriptTail (PySem.Expr.List _ _) _ (Value.ref _) (Value.int _ _)) _ _ _); k_dflt (first | (refine' list_twoD ?Nz24R4 ?h0z24R4 ?h1z24R4 ?_; (case Nz24R4 => k_asm); (case h0z24R4 => omega); (case h1z24R4 => omega); intro nq'z24R4) | (refine' list_two ?lz24R4 ?h0z24R4 ?h1z24R4 ?_; (case lz24R4 => is_list); (case h0z24R4 => omega); (case h1z24R4 => omega)) | (refine' list_pickD (lo := 0) (hi := 50) ?Nz24R4 ?h0z24R4 ?h1z24R4 ?hzz24R4 ?hvz24R4 ?_; (case Nz24R4 => k_asm); (case h0z24R4 => omega); (case h1z24R4 => simp only [List.length_cons, List.length_nil]; omega); (case hzz24R4 => simp only [List.length_cons, List.length_nil]; omega); (case hvz24R4 => repeat' (first | exact List.forall_mem_nil _ | refine List.forall_mem_cons.mpr ⟨⟨_, _, rfl, by omega, by omega⟩, ?_⟩)); intro i'z24R4 t'z24R4 b0z24R4 b1z24R4 nq'z24R4) | (refine' list_pick (lo := 0) (hi := 50) ?lz24R4 ?h0z24R4 ?h1z24R4 ?hzz24R4 ?hvz24R4 ?_; (case lz24R4 => is_list); (case h0z24R4 => omega); (case h1z24R4 => simp only [List.length_cons, List.length_nil]; omega); (case hzz24R4 => simp only [List.length_cons, List.length_nil]; omega); (case hvz24R4 => repeat' (first | exact List.forall_mem_nil _ | refine List.forall_mem_cons.mpr ⟨⟨_, _, rfl, by omega, by omega⟩, ?_⟩)); intro i'z24R4 t'z24R4 b0z24R4 b1z24R4)))))
  (k_with "subscriptTail List cons Name ref int" => (((with_reducible show wpAny _ _ (subscriptTail (PySem.Expr.List _ _) _ (Value.ref _) (Value.int _ _)) _ _ _); k_dflt (first | (refine' list_twoD ?Nz25R4 ?h0z25R4 ?h1z25R4 ?_; (case Nz25R4 => k_asm); (case h0z25R4 => omega); (case h1z25R4 => omega); intro nq'z25R4) | (refine' list_two ?lz25R4 ?h0z25R4 ?h1z25R4 ?_; (case lz25R4 => is_list); (case h0z25R4 => omega); (case h1z25R4 => omega)) | (refine' list_pickD (lo := 0) (hi := 50) ?Nz25R4 ?h0z25R4 ?h1z25R4 ?hzz25R4 ?hvz25R4 ?_; (case Nz25R4 => k_asm); (case h0z25R4 => omega); (case h1z25R4 => simp only [List.length_cons, List.length_nil]; omega); (case hzz25R4 => simp only [List.length_cons, List.length_nil]; omega); (case hvz25R4 => repeat' (first | exact List.forall_mem_nil _ | refine List.forall_mem_cons.mpr ⟨⟨_, _, rfl, by omega, by omega⟩, ?_⟩)); intro i'z25R4 t'z25R4 b0z25R4 b1z25R4 nq'z25R4) | (refine' list_pick (lo := 0) (hi := 50) ?lz25R4 ?h0z25R4 ?h1z25R4 ?hzz25R4 ?hvz25R4 ?_; (case lz25R4 => is_list); (case h0z25R4 => omega); (case h1z25R4 => simp only [List.length_cons, List.length_nil]; omega); (case hzz25R4 => simp only [List.length_cons, List.length_nil]; omega); (case hvz25R4 => repeat' (first | exact List.forall_mem_nil _ | refine List.forall_mem_cons.mpr ⟨⟨_, _, rfl, by omega, by omega⟩, ?_⟩)); intro i'z25R4 t'z25R4 b0z25R4 b1z25R4)))))
  (k_with "subscriptTail Name Constant ref int" => (((with_reducible show wpAny _ _ (subscriptTail _ _ (Value.ref (LP.now _)) (Value.int _ _)) _ _ _); k_dflt (refine' list_zero ?lz26R4 ?_; (case lz26R4 => is_list)))))
  (k_with "exec If" => ((k_dflt (refine wpAny_If ?_))))
  trivial
section
open TI
section
variable {w : World} {A : Around} {E : Value → Shared → Prop} {s : Shared} {p : LP} {g h h' : Heap} {L : Addr} {its : List (Addr × Str × Bool)} {σ : Bool → Sta} {b : Bool → Nat} {m : Str → Option Value} {news ex front : List (Addr × Obj)} {c B : Int}
theorem if_cut {env : Env} {test : PySem.Expr} {body rest : List Stmt} {pos : Pos} {Q : Flow → Shared → Prop} (Mid : Shared → Prop) (h1 : wpAny (model PySem.Challenge.rw_jn0050_01.row.prog w) A (isTrue test env (eval test env)) (fun b s' => b = false ∧ Mid s') E s) (h2 : ∀ s', Mid s' → wpAny (model PySem.Challenge.rw_jn0050_01.row.prog w) A (execs rest env) Q E s') :
    wpAny (model PySem.Challenge.rw_jn0050_01.row.prog w) A (execs (.If test body [] pos :: rest) env) Q E s :=
  wpAny_execs_cons (wpAny_If (wpAny_mono h1 (fun b s' hz => by obtain ⟨e, k⟩ := hz; subst e; exact wpAny_execs_nil (h2 _ k)) fun _ _ e => e))
noncomputable def Mid (w : World) (g : Heap) (L : Addr) (p : LP) (c : Int) (its : List (Addr × Str × Bool)) (front : List (Addr × Obj)) (m : Str → Option Value) (Bn : Nat) (B : Int) (s s' : Shared) : Prop :=
  ∃ h' tk' ex' σ' b', s' = {s with heap := h', toks := tk'} ∧ Fr g L h' m ∧ News g L h' (front ++ ex') ∧ Tl g L ex' (Wd w p (avOf p L) its σ' b') ∧ (∀ q ∈ ex', q.1 ≠ p.hand ∧ q.1 ≠ p.now ∧ q.1 ∉ p.xtra) ∧ (∀ x, b' x ≤ Bn) ∧ Rel p c B σ'
theorem if_cutM {env : Env} {test : PySem.Expr} {body rest : List Stmt} {pos : Pos} {Q : Flow → Shared → Prop} (F : Fr g L s.heap m) (N : News g L s.heap news) (T : Tl g L ex (Wd w p (avOf p L) its σ b)) (Sp : Spl ex news front) (Bn : Nat) (B : Int)
    (h1 : ∀ MM : Shared → Prop, (∀ h' tk' ex' σ' b', Fr g L h' m → News g L h' (front ++ ex') → Tl g L ex' (Wd w p (avOf p L) its σ' b') → (∀ q ∈ ex', q.1 ≠ p.hand ∧ q.1 ≠ p.now ∧ q.1 ∉ p.xtra) → (∀ x, b' x ≤ Bn) → Rel p c B σ' → MM {s with heap := h', toks := tk'}) → wpAny (model PySem.Challenge.rw_jn0050_01.row.prog w) A (isTrue test env (eval test env)) (fun b s' => b = false ∧ MM s') E s)
    (h2 : ∀ h' tk' ex' σ' b', Fr g L h' m → News g L h' (front ++ ex') → Tl g L ex' (Wd w p (avOf p L) its σ' b') → (∀ q ∈ ex', q.1 ≠ p.hand ∧ q.1 ≠ p.now ∧ q.1 ∉ p.xtra) → (∀ x, b' x ≤ Bn) → Rel p c B σ' → wpAny (model PySem.Challenge.rw_jn0050_01.row.prog w) A (execs rest env) Q E {s with heap := h', toks := tk'}) :
    wpAny (model PySem.Challenge.rw_jn0050_01.row.prog w) A (execs (.If test body [] pos :: rest) env) Q E s :=
  if_cut (Mid w g L p c its front m Bn B s) (h1 _ fun h' tk' ex' σ' b' F' N' T' n' hb' hr' => ⟨h', tk', ex', σ', b', rfl, F', N', T', n', hb', hr'⟩) fun s' hz => by obtain ⟨h', tk', ex', σ', b', e, F', N', T', n', hb', hr'⟩ := hz; subst e; exact h2 h' tk' ex' σ' b' F' N' T' n' hb' hr'
theorem stepV_cases {deed k : Int} {σ : Sta} {T e : Int} {key : Str} {am cost : Int} : ((deed = 1 ∨ deed = 2) ∧ stepV deed k σ T e key am cost = .none) ∨ (deed ≠ 1 ∧ deed ≠ 2 ∧ ∃ b, stepV deed k σ T e key am cost = .bool b) := by
  by_cases h0 : deed = 0
  · exact .inr ⟨by omega, by omega, _, (stepS_0 h0).2⟩
  by_cases h1 : deed = 1
  · exact .inl ⟨.inl h1, (stepS_1 h1).2⟩
  by_cases h2 : deed = 2
  · exact .inl ⟨.inr h2, (stepS_2 h2).2⟩
  exact .inr ⟨h1, h2, _, (stepS_3 h0 h1 h2).2⟩
theorem stepV_split {P R : Prop} {v : Value} {deed k : Int} {σ : Sta} {T e : Int} {key : Str} {am cost : Int} (h : P ∧ v = stepV deed k σ T e key am cost ∧ R) : (deed = 1 ∧ v = .none) ∨ (deed = 2 ∧ v = .none) ∨ (deed ≠ 1 ∧ deed ≠ 2 ∧ ∃ b, v = .bool b) := by
  rcases stepV_cases (deed := deed) (k := k) (σ := σ) (T := T) (e := e) (key := key) (am := am) (cost := cost) with ⟨a | a, b⟩ | ⟨a, b, x, c⟩
  · exact .inl ⟨a, h.2.1.trans b⟩
  · exact .inr (.inl ⟨a, h.2.1.trans b⟩)
  · exact .inr (.inr ⟨a, b, x, h.2.1.trans c⟩)
theorem LB.addI {I : Addr} (H : LB p c) : LB { p with xtra := I :: p.xtra } c := ⟨H.am, H.mu, H.hc, H.ah⟩
theorem Rel.addI {I : Addr} (H : Rel p c B σ) : Rel { p with xtra := I :: p.xtra } c B σ := ⟨H.cnt, H.ex, H.ev, H.bd⟩
theorem Rel.dropI {I : Addr} (H : Rel { p with xtra := I :: p.xtra } c B σ) : Rel p c B σ := ⟨H.cnt, H.ex, H.ev, H.bd⟩
theorem Wd.addJ {I : Addr} (W : Wd w p (avOf p L) its σ b h) (e : h.get? I = none) : Wd w { p with xtra := I :: p.xtra } (avOf { p with xtra := I :: p.xtra } L) its σ b h := by
  have av : avOf { p with xtra := I :: p.xtra } L = I :: avOf p L := rfl
  rw [av]
  have st : ∀ {h2}, Stay (I :: avOf p L) h h2 → Stay (avOf p L) h h2 := fun {h2} s x o ex n => s x o ex fun q => by
    rcases List.mem_cons.mp q with q | q
    · rw [q, e] at ex; cases ex
    · exact n q
  refine ⟨fun h2 s => ?_, fun q hq h2 s => W.it q hq h2 (st s), fun sd => (W.s sd).cons e, W.tb.cons e⟩
  obtain ⟨f1, f2, f3, f4, f5, f6, f7, f8, f9⟩ := W.f h2 (st s)
  exact ⟨f1, f2, f3, f4, f5, f6, f7, f8, f9⟩
theorem Wd.dropJ {I : Addr} (W : Wd w { p with xtra := I :: p.xtra } (avOf { p with xtra := I :: p.xtra } L) its σ b h) : Wd w p (avOf p L) its σ b h := by
  have av : avOf { p with xtra := I :: p.xtra } L = I :: avOf p L := rfl
  rw [av] at W
  have st : ∀ {h2}, Stay (avOf p L) h h2 → Stay (I :: avOf p L) h h2 := fun {h2} s x o ex n => s x o ex fun q => n (.tail _ q)
  refine ⟨fun h2 s => ?_, fun q hq h2 s => W.it q hq h2 (st s), fun sd => (W.s sd).weak, W.tb.weak⟩
  obtain ⟨f1, f2, f3, f4, f5, f6, f7, f8, f9⟩ := W.f h2 (st s)
  exact ⟨f1, f2, f3, f4, f5, f6, f7, f8, f9⟩
theorem Tl.dropJ {I : Addr} (T : Tl g L ex (Wd w { p with xtra := I :: p.xtra } (avOf { p with xtra := I :: p.xtra } L) its σ b)) : Tl g L ex (Wd w p (avOf p L) its σ b) := fun h m F N => (T h m F N).dropJ
theorem LQ.addJ {I : Addr} (Q : LQ p g L) (hI : I ∉ L :: p.hand :: p.now :: D9 p) (eg : g.get? I = none) : LQ { p with xtra := I :: p.xtra } g L where
  nd := Q.nd
  xt := fun x hx => by
    rcases List.mem_cons.mp hx with r | r
    · rw [r]; exact hI
    · exact Q.xt x r
  gn := fun x hx' => by
    have : x ∈ I :: avOf p L := hx'
    rcases List.mem_cons.mp this with r | r
    · rw [r]; exact eg
    · exact Q.gn x r
  lo := Q.lo
  fpe := Q.fpe
  lam := Q.lam
  am := Q.am
  mu := Q.mu
  ah := Q.ah
theorem law_iter3 {I : Addr} (Q0 : LQ p g L) (F : Fr g L h m) (N : News g L h news) (T : Tl g L ex (Wd w p (avOf p L) its σ b)) (Sp : Spl ex news front) (hh : ∃ o, (p.hand, o) ∈ news) (hn : ∃ o, (p.now, o) ∈ news) (e : h.get? I = none) :
    LQ { p with xtra := I :: p.xtra } g L ∧ ∃ ex1, News g L h (front ++ ex1) ∧ (∀ q ∈ ex1, q.1 ≠ p.hand ∧ q.1 ≠ p.now ∧ q.1 ∉ I :: p.xtra) ∧ Tl g L ex1 (Wd w { p with xtra := I :: p.xtra } (avOf { p with xtra := I :: p.xtra } L) its σ b) := by
  have en := Sp.eq
  subst en
  have W0 := T h m F (fun q hq => N q (List.mem_append_right _ hq))
  have gI : g.get? I = none := by
    cases z : g.get? I with
    | none => rfl
    | some o => have := F.keep _ _ z; rw [e] at this; cases this
  have nI : ∀ {x : Addr}, (∃ o, h.get? x = some o) → I ≠ x := fun ⟨o, q⟩ z => by rw [← z, e] at q; cases q
  have hI : I ∉ L :: p.hand :: p.now :: D9 p := fun hy => by
    simp only [D9, List.mem_cons, List.not_mem_nil, or_false] at hy
    rcases hy with r | r | r | r | r | r | r | r | r | r | r
    · obtain ⟨oL, _, _, hL, _⟩ := F.ns; exact nI ⟨_, hL⟩ r
    · obtain ⟨o, q⟩ := hh; exact nI ⟨_, (N _ q).1⟩ r
    · obtain ⟨o, q⟩ := hn; exact nI ⟨_, (N _ q).1⟩ r
    · exact nI (W0.s false).S.there r
    · exact nI (W0.s false).X.there r
    · exact nI (W0.s false).E.there r
    · exact nI (W0.s true).S.there r
    · exact nI (W0.s true).X.there r
    · exact nI (W0.s true).E.there r
    · obtain ⟨ps, t⟩ := W0.tb.g; exact nI ⟨_, t.1⟩ r
    · obtain ⟨ps, t⟩ := W0.tb.x; exact nI ⟨_, t.1⟩ r
  have Q1 := Q0.addJ hI gI
  have W1 := W0.addJ (I := I) e
  obtain ⟨ex1, NE, ne, TE⟩ := W1.ex Q1 F
  refine ⟨Q1, ex1, fun q hq => ?_, fun q hq => ne q hq, TE⟩
  rcases List.mem_append.mp hq with hq | hq
  · exact N _ (List.mem_append_left _ hq)
  · exact NE q hq
theorem law_iter4 {I : Addr} (Q0 : LQ p g L) (F : Fr g L h m) (N : News g L h news) (T : Tl g L ex (Wd w p (avOf p L) its σ b)) (Sp : Spl ex news front) (hh : ∃ o, (p.hand, o) ∈ news) (hn : ∃ o, (p.now, o) ∈ news) (e : h.get? I = none) :
    ∃ p2 : LP, { p with xtra := I :: p.xtra } = p2 ∧ LQ p2 g L ∧ ∃ ex1, News g L h (front ++ ex1) ∧ (∀ q ∈ ex1, q.1 ≠ p.hand ∧ q.1 ≠ p.now ∧ q.1 ∉ I :: p.xtra) ∧ Tl g L ex1 (Wd w p2 (avOf p2 L) its σ b) :=
  ⟨_, rfl, law_iter3 Q0 F N T Sp hh hn e⟩
end
noncomputable def LawK (w : World) (g : Heap) (L : Addr) (p : LP) (c : Int) (its : List (Addr × Str × Bool)) (front : List (Addr × Obj)) (v1 v2 : Value) (x3 x4 : Addr) (u1 u2 : Tok) (Bn : Nat) (B : Int) (i : Nat) (m : Str → Option Value) (news : List (Addr × Obj)) : Prop :=
  ∃ (ex : List (Addr × Obj)) (σ : Bool → Sta) (b : Bool → Nat),
    news = front ++ ex ∧ Tl g L ex (Wd w p (avOf p L) its σ b) ∧ (∀ q ∈ ex, q.1 ≠ p.hand ∧ q.1 ≠ p.now ∧ q.1 ∉ p.xtra) ∧
    (∀ x, b x ≤ Bn + 200 * i) ∧ Rel p c (B + 200 * (i : Int)) σ ∧
    m (Str.ofString "hand") = some (.ref p.hand) ∧ m (Str.ofString "amount") = some (.int p.am u1) ∧ m (Str.ofString "length") = some (.int p.mu u2) ∧ m (Str.ofString "small") = some (.ref (p.a false).st) ∧ m (Str.ofString "great") = some (.ref (p.a true).st) ∧
    m (Str.ofString "seconds") = some (.ref (p.Ls false)) ∧ m (Str.ofString "minutes") = some (.ref (p.Ls true)) ∧ m (Str.ofString "item") = some (.ref x3) ∧ m (Str.ofString "other") = some (.ref x4) ∧
    m (Str.ofString "mine") = some v1 ∧ m (Str.ofString "yours") = some v2
section
variable {w : World} {A : Around} {E : Value → Shared → Prop} {s : Shared}
theorem notin12 {D : Addr} {t1 t2 u : Tok} {d : Int} {r : Bool} {Q : Value → Shared → Prop} (ht : IsTup s.heap D (List.toArray [.int 1 t1, .int 2 t2])) (hr : (r = true ∧ d ≠ 1 ∧ d ≠ 2) ∨ (r = false ∧ (d = 1 ∨ d = 2))) (h : Q (.bool r) s) :
    wpAny (model PySem.Challenge.rw_jn0050_01.row.prog w) A (compareOp .NotIn (.int d u) (.ref D)) Q E s := by
  refine notin_tuple_ints (ns := [1, 2]) ht (.cons 1 t1 (.cons 2 t2 .nil)) ?_
  have : (!(([1, 2] : List Int).any (· == d))) = r := by
    rcases hr with ⟨rfl, a, b⟩ | ⟨rfl, rfl | rfl⟩
    · simp [Ne.symm a, Ne.symm b]
    · rfl
    · rfl
  rw [this]
  exact h
end
section
variable {w : World} {A : Around} {E : Value → Shared → Prop} {s : Shared}
theorem Tl.dropT {g : Heap} {L : Addr} {ex : List (Addr × Obj)} {p : LP} {av : List Addr} {its : List (Addr × Str × Bool)} {q0 : Addr × Str × Bool} {σ : Bool → Sta} {b : Bool → Nat} (T : Tl g L ex (Wd w p av (q0 :: its) σ b)) : Tl g L ex (Wd w p av its σ b) :=
  fun h m F N => let W := T h m F N; ⟨W.f, fun q hq => W.it q (.tail _ hq), W.s, W.tb⟩
theorem ne_int_of {a b : Int} {t u : Tok} {Q : Value → Shared → Prop} (e : a = b) (h : Q (.bool false) s) : wpAny (model PySem.Challenge.rw_jn0050_01.row.prog w) A (compareOp .NotEq (.int a t) (.int b u)) Q E s := by
  subst e
  refine ne_int ?_
  simpa using h
end
section
variable {w : World} {A : Around} {E : Value → Shared → Prop} {s : Shared} {g : Heap} {L : Addr} {news : List (Addr × Obj)}
theorem itup_0 {value slice : PySem.Expr} {q : Addr} {a b : Value} {u : Tok} {Q : Value → Shared → Prop} (N : News g L s.heap news) (hm : (q, itup a b) ∈ news) (h : Q a s)
    (hs : subscripted slice false (.ref q) (.int 0 u) = operate [.ref q, .int 0 u] (getItem (.ref q) (.int 0 u)) := by with_unfolding_all rfl) : wpAny (model PySem.Challenge.rw_jn0050_01.row.prog w) A (subscriptTail value slice (.ref q) (.int 0 u)) Q E s :=
  have ht : IsTup s.heap q #[a, b] := News.isTup N hm
  tail_any ht.typeIs slot_tuple_getitem.lookup (getItem_tuple (j := 0) ht (by decide) (by decide) rfl rfl h) hs
theorem itup_1 {value slice : PySem.Expr} {q : Addr} {a b : Value} {u : Tok} {Q : Value → Shared → Prop} (N : News g L s.heap news) (hm : (q, itup a b) ∈ news) (h : Q b s)
    (hs : subscripted slice false (.ref q) (.int 1 u) = operate [.ref q, .int 1 u] (getItem (.ref q) (.int 1 u)) := by with_unfolding_all rfl) : wpAny (model PySem.Challenge.rw_jn0050_01.row.prog w) A (subscriptTail value slice (.ref q) (.int 1 u)) Q E s :=
  have ht : IsTup s.heap q #[a, b] := News.isTup N hm
  tail_any ht.typeIs slot_tuple_getitem.lookup (getItem_tuple (j := 1) ht (by decide) (by decide) rfl rfl h) hs
end
section
variable {w : World} {A : Around} {E : Value → Shared → Prop} {s : Shared} {g : Heap} {L : Addr}
theorem iter_rangeT {env : Env} {x : Str} {body : List Stmt} {Q : Flow → Shared → Prop} {r : Addr} {b₀ : Int} {t₀ u₀ v₀ : Tok} {n : Nat} {m₀ : Str → Option Value} {news news0 : List (Addr × Obj)}
    (hh : A.handled = none) (hr : IsRange s.heap r 0 b₀ 1 t₀ u₀ v₀) (hsmall : Builtin.Range.small 0 b₀ 1 = true) (hn : Builtin.Range.rangeSize 0 b₀ 1 = (n : Int)) (F : Fr g env.locals s.heap m₀) (N : News g env.locals s.heap news)
    (J : Nat → (Str → Option Value) → List (Addr × Obj) → Prop) (hsub : ∀ p ∈ news0, p ∈ news) (h0 : J 0 m₀ news0)
    (turn : ∀ (i : Nat) t m₁ news₁ h tk o own (s0 : Shared) (I : Addr) (QQ : Flow → Shared → Prop), i < n → J i m₁ news₁ → I = s.heap.objs.size → (∀ q ∈ news₁, q.1 ≠ I) → (∀ q ∈ own, q = (I, o)) → tagB o = true →
      Fr g env.locals h (fun y => if y = x then some (.int (i : Int) t) else m₁ y) → News g env.locals h ((I, o) :: news₁) →
      (∀ h' tk' m₂ news₂, Fr g env.locals h' m₂ → News g env.locals h' (own ++ news₂) → (∀ p ∈ news₂, p.1 ≠ I) → J (i + 1) m₂ news₂ → QQ .next { s0 with heap := h', toks := tk' }) →
      wpAny (model PySem.Challenge.rw_jn0050_01.row.prog w) A (execs body env) QQ (fun _ _ => False) { s0 with heap := h, toks := tk })
    (done : ∀ h' tk m' news', Fr g env.locals h' m' → News g env.locals h' news' → J n m' news' → Q .next { s with heap := h', toks := tk }) :
    wpAny (model PySem.Challenge.rw_jn0050_01.row.prog w) A (pyIter (.ref r)) (fun it s₂ => LoopAtV PySem.Challenge.rw_jn0050_01.row.prog w A g env x body Q E it s₂) E s :=
  iter_rangeN hh hr hsmall hn F N J hsub h0 (fun i t m₁ news₁ h tk o own hi hJ hoff how htI F₁ N₁ =>
    wpAny_mono (turn i t m₁ news₁ h tk o own s _ (LoopStepV g env.locals [s.heap.objs.size] own (J (i + 1)) { s with heap := h, toks := tk } (fun v s' => Q (.ret v) s') fun s' => Q .next s') hi hJ rfl hoff how htI F₁ N₁
      (fun h' tk' m₂ news₂ F' N' a hJ' => LoopStepV.next (LoopStepU.intro F' N' (fun p hp q => a p hp (List.mem_singleton.mp q)) hJ'))) (fun _ _ q => q) fun _ _ f => f.elim) done
end
theorem law_cut {M : Model} {A : Around} {E : Value → Shared → Prop} {s : Shared} {g : Heap} {L : Addr} {body : List Stmt} {env : Env} {Q : Flow → Shared → Prop} {tabs : List (Addr × Addr)} {m : Str → Option Value} (_F : Fr g L s.heap m)
    (h : ∀ (s0 : Shared) (QQ : Flow → Shared → Prop), (∀ h' tk' m', Fr g L h' m' → GrownAll tabs h' → QQ (.ret (.bool true)) { s0 with heap := h', toks := tk' }) → wpAny M A (execs body env) QQ (fun _ _ => False) { s0 with heap := s.heap, toks := s.toks })
    (hq : ∀ h' tk' m', Fr g L h' m' → GrownAll tabs h' → Q (.ret (.bool true)) { s with heap := h', toks := tk' }) : wpAny M A (execs body env) Q E s :=
  wpAny_mono (h s Q hq) (fun _ _ q => q) fun _ _ f => f.elim
inductive Sb : List (Addr × Obj) → List (Addr × Obj) → Prop
  | same (l : List (Addr × Obj)) : Sb l l
  | keep {q : Addr × Obj} {a b : List (Addr × Obj)} : Sb a b → Sb (q :: a) (q :: b)
  | drop {q : Addr × Obj} {a b : List (Addr × Obj)} : Sb a b → Sb a (q :: b)
theorem Sb.mem {a b : List (Addr × Obj)} (h : Sb a b) : ∀ p ∈ a, p ∈ b := by
  induction h with
  | same l => exact fun _ q => q
  | keep _ ih => intro p hp; rcases List.mem_cons.mp hp with rfl | hp; exact .head _; exact .tail _ (ih p hp)
  | drop _ ih => exact fun p hp => .tail _ (ih p hp)
theorem seg_cut {α : Type} {M : Model} {A : Around} {E : Value → Shared → Prop} {s s0 : Shared} {g : Heap} {L : Addr} {t : Sem α} {Q : α → Shared → Prop} {m : Str → Option Value} {news news' : List (Addr × Obj)} (F : Fr g L s.heap m) (N : News g L s.heap news)
    (hs : s = { s0 with heap := s.heap, toks := s.toks }) (S : Sb news' news) (h : ∀ hp tk, Fr g L hp m → News g L hp news' → wpAny M A t Q E { s0 with heap := hp, toks := tk }) : wpAny M A t Q E s := by
  rw [hs]
  exact h _ _ F fun p hp => N p (S.mem p hp)

end

theorem reg_R7 : True := by
  (k_with "compareOp NotIn int ref" => ((k_dflt (refine' notin12 ?htz0R7 ?hrz0R7 ?_; (case htz0R7 => exact News.isTup (by k_asm) (by k_mem)); (case hrz0R7 => first | exact .inl ⟨rfl, by assumption, by assumption⟩ | exact .inr ⟨rfl, .inl (by assumption)⟩ | exact .inr ⟨rfl, .inr (by assumption)⟩)))))
  (k_with "compareOp NotEq int int" => ((k_dflt (refine' ne_int_of ?hez1R7 ?_; (case hez1R7 => first | assumption | exact rfl)))))
  (k_with "subscriptTail Name Constant ref int" => (((with_reducible show wpAny _ _ (subscriptTail _ _ (Value.ref _) (Value.int 0 _)) _ _ _); k_dflt (refine' itup_0 ?Nz2R7 ?hmz2R7 ?_; (case Nz2R7 => k_asm); (case hmz2R7 => k_mem)))))
  (k_with "subscriptTail Name Constant ref int" => (((with_reducible show wpAny _ _ (subscriptTail _ _ (Value.ref _) (Value.int 1 _)) _ _ _); k_dflt (refine' itup_1 ?Nz3R7 ?hmz3R7 ?_; (case Nz3R7 => k_asm); (case hmz3R7 => k_mem)))))
  trivial
section
theorem post_ok (xs : List Int) : PySem.Challenge.rw_jn0050_01.row.claim.post [ofPy (PyData.list (List.map PyData.int xs))] (.bool true) [ofPy (PyData.list (List.map PyData.int xs))] = true := by
  wrow_post
theorem raises_ok (xs : List Int) : ∀ cls, PySem.Challenge.rw_jn0050_01.row.claim.raises [ofPy (PyData.list (List.map PyData.int xs))] cls = false := raisesW_false (by wrow_none_raised)

end
theorem reg_none : True := by
  k_with_none
  trivial
theorem reg_arL : True := by
  (k_with "cj" => (with_reducible first | assumption | exact (And.left (by assumption)) | exact (And.left (And.right (by assumption))) | exact (And.right (by assumption)) | exact (And.left (And.right (And.right (by assumption)))) | exact (And.right (And.right (by assumption))) | exact (And.left (And.right (And.right (And.right (by assumption))))) | exact (And.right (And.right (And.right (by assumption)))) | exact (And.left (And.right (And.right (And.right (And.right (by assumption)))))) | exact (And.right (And.right (And.right (And.right (by assumption))))) | exact (And.left (And.right (And.right (And.right (And.right (And.right (by assumption))))))) | exact (And.right (And.right (And.right (And.right (And.right (by assumption)))))) | exact (And.left (And.right (And.right (And.right (And.right (And.right (And.right (by assumption)))))))) | exact (And.right (And.right (And.right (And.right (And.right (And.right (by assumption))))))) | exact (And.left (And.right (And.right (And.right (And.right (And.right (And.right (And.right (by assumption))))))))) | exact (And.right (And.right (And.right (And.right (And.right (And.right (And.right (by assumption)))))))) | exact (And.left (And.right (And.right (And.right (And.right (And.right (And.right (And.right (And.right (by assumption)))))))))) | exact (And.right (And.right (And.right (And.right (And.right (And.right (And.right (And.right (by assumption))))))))) | exact (And.left (And.right (And.right (And.right (And.right (And.right (And.right (And.right (And.right (And.right (by assumption))))))))))) | exact (And.right (And.right (And.right (And.right (And.right (And.right (And.right (And.right (And.right (by assumption)))))))))) | exact (And.left (And.right (And.right (And.right (And.right (And.right (And.right (And.right (And.right (And.right (And.right (by assumption)))))))))))) | exact (And.right (And.right (And.right (And.right (And.right (And.right (And.right (And.right (And.right (And.right (by assumption))))))))))) | exact (And.left (And.right (And.right (And.right (And.right (And.right (And.right (And.right (And.right (And.right (And.right (And.right (by assumption))))))))))))) | exact (And.right (And.right (And.right (And.right (And.right (And.right (And.right (And.right (And.right (And.right (And.right (by assumption)))))))))))) | exact (And.left (And.right (And.right (And.right (And.right (And.right (And.right (And.right (And.right (And.right (And.right (And.right (And.right (by assumption)))))))))))))) | exact (And.right (And.right (And.right (And.right (And.right (And.right (And.right (And.right (And.right (And.right (And.right (And.right (by assumption))))))))))))) | exact (And.left (And.right (And.right (And.right (And.right (And.right (And.right (And.right (And.right (And.right (And.right (And.right (And.right (And.right (by assumption))))))))))))))) | exact (And.right (And.right (And.right (And.right (And.right (And.right (And.right (And.right (And.right (And.right (And.right (And.right (And.right (by assumption)))))))))))))) | exact (And.left (And.right (And.right (And.right (And.right (And.right (And.right (And.right (And.right (And.right (And.right (And.right (And.right (And.right (And.right (by assumption)))))))))))))))) | exact (And.right (And.right (And.right (And.right (And.right (And.right (And.right (And.right (And.right (And.right (And.right (And.right (And.right (And.right (by assumption))))))))))))))) | exact (And.left (And.right (And.right (And.right (And.right (And.right (And.right (And.right (And.right (And.right (And.right (And.right (And.right (And.right (And.right (And.right (by assumption))))))))))))))))) | exact (And.right (And.right (And.right (And.right (And.right (And.right (And.right (And.right (And.right (And.right (And.right (And.right (And.right (And.right (And.right (by assumption)))))))))))))))) | fail "ar"))
  (k_with "ne" => (with_reducible first | with_reducible assumption | exact Ne.symm (by assumption) | exact Nat.ne_of_gt (by k_extra "cj") | exact Nat.ne_of_lt (by k_extra "cj") | k_extra "cj" | exact Ne.symm (by k_extra "cj") | (refine' Nat.ne_of_gt (Nat.lt_trans ?ar1 ?ar2); (case ar2 => with_reducible assumption); (case ar1 => k_extra "cj")) | (refine' Nat.ne_of_lt (Nat.lt_trans ?ar1 ?ar2); (case ar2 => with_reducible assumption); (case ar1 => k_extra "cj")) | fail "ar"))
  (k_with "nle" => (with_reducible first | with_reducible assumption | decide +kernel | exact Nat.le_add_right _ _ | exact Nat.le_trans (by assumption) (by decide +kernel) | exact Nat.le_of_lt (by assumption) | exact Nat.le_trans (Nat.le_of_lt (by assumption)) (by decide +kernel) | exact Ar.n0 (by assumption) (by assumption) | exact Ar.n1 (by assumption) (by assumption) (by decide +kernel) | exact Ar.n2 (by assumption) (by assumption) (by decide +kernel) | exact Ar.n3 (by assumption) (by assumption) (by decide +kernel) | exact Ar.n4 (by assumption) (by assumption) (by decide +kernel) | exact Ar.nj (by assumption) (by assumption) (by assumption) | exact Ar.nj1 (by assumption) (by assumption) (by assumption) | exact Ar.bn3 (by assumption) (by assumption) | exact Ar.bn0 (by assumption) (by assumption) | exact Ar.bnj (by assumption) | exact Ar.kzA1 (by assumption) (by assumption) (by assumption) (by assumption) (by assumption) (by decide +kernel) | exact Ar.kzA2 (by assumption) (by assumption) (by assumption) (by assumption) (by assumption) (by assumption) (by decide +kernel) | exact Ar.kzB1 (by assumption) (by assumption) (by assumption) (by assumption) (by assumption) (by assumption) | exact Ar.kzB2 (by assumption) (by assumption) (by assumption) (by assumption) (by assumption) (by assumption) (by assumption) | exact Ar.kzC1 (by assumption) (by assumption) (by assumption) (by assumption) | exact Ar.kzC2 (by assumption) (by assumption) (by assumption) (by assumption) (by assumption) | exact Ar.kzE (by assumption) (by assumption) (by assumption) (by decide +kernel) | exact Ar.kzD1 (by assumption) (by assumption) (by assumption) (by assumption) (by assumption) (by assumption) (by assumption) (by assumption) (by assumption) | exact Ar.kzD2 (by assumption) (by assumption) (by assumption) (by assumption) (by assumption) (by assumption) (by assumption) (by assumption) (by assumption) (by assumption) | exact Ar.kzD (by assumption) (by assumption) (by assumption) (by assumption) (by assumption) (by decide +kernel) | exact Ar.z0n (by assumption) (by decide +kernel) | exact Ar.bisF (by assumption) | exact Ar.bisG (by assumption) | exact Ar.bisA (by assumption) (by assumption) | exact Ar.bisB (by assumption) (by assumption) | exact Ar.mid1 (by assumption) | exact Ar.mid0 (by assumption) | exact Ar.len63 (by assumption) | exact Ar.len63' (by assumption) | exact Ar.tn (by assumption) (by decide +kernel) | exact Ar.tnp (by assumption) (by assumption) (by decide +kernel) | exact Ar.leN (by assumption) (by assumption) (by decide +kernel) | exact Ar.leN' (by assumption) (by assumption) (by decide +kernel) | k_extra "cj" | fail "ar"))
  (k_with "nlt" => (with_reducible first | with_reducible assumption | decide +kernel | exact Nat.lt_of_le_of_lt (by assumption) (by decide +kernel) | exact Nat.lt_of_lt_of_le (by assumption) (by decide +kernel) | exact Ar.bisD (by assumption) | exact Ar.bisE (by assumption) | exact Ar.nabs (by assumption) (by assumption) (by decide +kernel) | exact Ar.nabs' (by assumption) (by assumption) (by decide +kernel) | exact Ar.mid (by assumption) | exact Ar.u900 (by assumption) | exact Ar.u9000 (by assumption) (by decide +kernel) | k_extra "cj" | fail "ar"))
  (k_with "ile" => (with_reducible first | with_reducible assumption | decide +kernel | exact Int.le_trans (by assumption) (by decide +kernel) | exact Int.le_of_lt (by assumption) | exact Int.le_trans (by decide +kernel) (by assumption) | exact Ar.nn1 (by assumption) | exact Ar.nn2 (by assumption) | exact Ar.nn3 (by assumption) | exact Ar.nn4 (by assumption) | exact Ar.nn5 (by assumption) | exact Ar.nn6 (by assumption) | exact Ar.t1 (by assumption) (by assumption) (by assumption) | exact Ar.t3 (by assumption) (by assumption) | exact Ar.t2 (by assumption) (by k_extra "cj") (by assumption) | exact Ar.t4 (by assumption) (by assumption) (by assumption) | exact Ar.t5 (by assumption) (by assumption) | exact Ar.t6 (by assumption) (by assumption) | exact Ar.kk6 (by assumption) | exact Ar.z0 (by assumption) | exact Ar.z1 (by assumption) (by decide +kernel) | exact Ar.z2 (by assumption) (by decide +kernel) (by decide +kernel) | exact Ar.z3 (by assumption) (by decide +kernel) (by decide +kernel) (by decide +kernel) | exact Ar.zj (by assumption) (by decide +kernel) | exact Ar.ad1 (by decide +kernel) | exact Ar.ad4 (by decide +kernel) | exact Ar.ad4' (by decide +kernel) | exact Ar.adj (by decide +kernel) | exact Ar.adn (by assumption) | exact Ar.j0 | exact Ar.m2t (by k_extra "cj") | exact Ar.m2u (by k_extra "cj") | exact Ar.mm (by k_extra "cj") | exact Ar.mm2 (by k_extra "cj") | exact Ar.dv (by assumption) | exact Ar.m60 (by assumption) | k_extra "cj" | exact Int.le_trans (by k_extra "cj") (by decide +kernel) | exact Ar.mp0 (by k_extra "cj") | fail "ar"))
  (k_with "ilt" => (with_reducible first | with_reducible assumption | decide +kernel | exact Int.lt_of_le_of_lt (by assumption) (by decide +kernel) | exact Int.lt_of_lt_of_le (by assumption) (by decide +kernel) | exact Int.lt_of_lt_of_le (by decide +kernel) (by assumption) | exact Ar.kk0 (by assumption) (by assumption) | exact Ar.kk1 (by assumption) (by assumption) | exact Ar.kk2 (by assumption) (by assumption) | exact Ar.kk3 (by assumption) (by assumption) | exact Ar.kk4 (by assumption) (by assumption) | exact Ar.kk5 (by assumption) (by assumption) | exact Ar.d64 (by assumption) (by assumption) (by assumption) (by assumption) | exact Ar.l64 (by assumption) | exact Ar.j3 (by assumption) | exact Ar.mp (by k_extra "cj") | exact Ar.up1920 (by assumption) | exact Ar.lo1920 (by assumption) | exact Ar.up1920' (by assumption) | exact Ar.lo1920' (by assumption) | exact Ar.ltv (by assumption) (by assumption) (by decide +kernel) | exact Ar.lt63 (by assumption) (by decide +kernel) | k_extra "cj" | fail "ar"))
  (k_with "ar" => (with_reducible (k_whole; first | ((show @Ne Nat _ _); k_extra "ne") | ((show @LE.le Nat _ _ _); k_extra "nle") | ((show @LT.lt Nat _ _ _); k_extra "nlt") | ((show @LE.le Int _ _ _); k_extra "ile") | ((show @LT.lt Int _ _ _); k_extra "ilt") | ((show False); exact Ar.bisC (by assumption) (by assumption)) | ((show @Eq Nat _ _); first | with_reducible assumption | exact Ar.tn1) | ((show @Eq Int _ _); first | with_reducible assumption | exact Ar.sc1 | exact Ar.sc2 | exact Ar.sc3) | fail "ar")))
  trivial
theorem reg_Lmac : True := by
  (k_with "k_inst" => (exact inst_fr (by assumption) (by assumption)))
  (k_with "getMethod ref" => ((k_dflt (first
  | (refine' method_inst ?k1z1Lmac ?k2z1Lmac ?k3z1Lmac ?k4z1Lmac ?k5z1Lmac ?k6z1Lmac ?k7z1Lmac ?_; (case k3z1Lmac => k_inst); (case k1z1Lmac => k_asm); (case k2z1Lmac => k_asm); (case k4z1Lmac => k_is); (case k5z1Lmac => k_is); (case k6z1Lmac => k_is); (case k7z1Lmac => k_get))
  | (refine' kmu_own ?k1z1Lmac ?k2z1Lmac ?k3z1Lmac ?k4z1Lmac ?k5z1Lmac ?_; (case k3z1Lmac => k_inst); (case k1z1Lmac => k_asm); (case k2z1Lmac => k_asm); (case k4z1Lmac => k_is); (case k5z1Lmac => k_is))
  | (refine' kmu_cm ?k1z1Lmac ?k2z1Lmac ?k3z1Lmac ?k4z1Lmac ?k5z1Lmac ?k6z1Lmac ?k7z1Lmac ?k8z1Lmac ?k9z1Lmac ?k10z1Lmac ?k11z1Lmac ?k12z1Lmac ?k13z1Lmac ?_; (case k4z1Lmac => k_inst); (case k1z1Lmac => k_asm); (case k2z1Lmac => k_asm); (case k3z1Lmac => k_asm); (case k5z1Lmac => k_is); (case k6z1Lmac => k_is); (case k7z1Lmac => k_is); (case k8z1Lmac => k_is); (case k9z1Lmac => k_is); (case k10z1Lmac => k_is); (case k11z1Lmac => decide +kernel); (case k12z1Lmac => k_get); (case k13z1Lmac => k_is); intro q'z1Lmac h'z1Lmac F'z1Lmac N'z1Lmac l1z1Lmac; (try k_lt l1z1Lmac))
  | refine I_meth PySem.F.slot_dict_get PySem.F.type_dict_get (by k_asm) (by k_mem) (by assumption) ?_
  | refine I_meth PySem.F.slot_dict_pop PySem.F.type_dict_pop (by k_asm) (by k_mem) (by assumption) ?_))))
  (k_with "call builtin:dict.get" => ((k_dflt (refine I_get (by k_asm) (by k_mem) (by assumption) (by assumption) ?_); intro t'z2Lmac)))
  (k_with "call builtin:dict.pop" => ((k_dflt (refine' I_pop ?Fz3Lmac ?Nz3Lmac ?Uz3Lmac ?dz3Lmac ?lz3Lmac ?bz3Lmac ?_; (case Fz3Lmac => k_asm); (case Nz3Lmac => k_asm); (case Uz3Lmac => k_updF); (case dz3Lmac => assumption); (case lz3Lmac => assumption); (case bz3Lmac => omega)); intro h'z3Lmac o'z3Lmac v'z3Lmac F'z3Lmac N'z3Lmac d'z3Lmac; (try dsimp only at N'z3Lmac))))
  (k_with "callWith ref" => ((k_dflt (first
  | (refine' callWith_M ?k1z4Lmac ?k2z4Lmac ?k3z4Lmac ?k4z4Lmac ?_; (case k1z4Lmac => k_asm); (case k2z4Lmac => k_asm); (case k3z4Lmac => k_mem); (case k4z4Lmac => k_is))
  | (refine' callWith_F ?k1z4Lmac ?_; (case k1z4Lmac => exact fn_fr (by assumption) (by assumption)))
  | (refine' callWith_F0 ?k1z4Lmac ?_; (case k1z4Lmac => exact fn_fr (by assumption) (by assumption)); try dsimp only [List.nil_append, List.cons_append])
  | (refine' callWith_K ?k1z4Lmac ?k2z4Lmac ?_; (case k1z4Lmac => k_asm); (case k2z4Lmac => k_is))
  | (refine' callWith_K0 ?k1z4Lmac ?k2z4Lmac ?_; (case k1z4Lmac => k_in); (case k2z4Lmac => k_is))))))
  (k_with "call ref" => ((refine' clk_call ?k1z5Lmac ?k2z5Lmac ?k3z5Lmac ?k4z5Lmac ?k5z5Lmac ?_; (case k1z5Lmac => assumption); (case k2z5Lmac => exact Rm.mono (Rm.deeper _ (by assumption)) (by decide)); (case k3z5Lmac => assumption); (case k4z5Lmac => k_asm); (case k5z5Lmac => k_asm); intro h'z5Lmac tk'z5Lmac t'z5Lmac F'z5Lmac N'z5Lmac)))
  (k_with "execs cons" => ((k_dflt (refine' seg_q (s0 := s) ?Fqz6Lmac ?hsqz6Lmac ?_; (case Fqz6Lmac => k_asm); (case hsqz6Lmac => exact rfl)); intro kqAA kqQQ kqtk; refine wpAny_execs_cons ?_)))
  (k_with "execs cons" => (((with_reducible rename SegOn => kqOn); k_dflt (refine' seg_let (s0 := s) ?Fqz7Lmac ?Nqz7Lmac ?hsqz7Lmac ?_; (case Fqz7Lmac => k_asm); (case Nqz7Lmac => k_asm); (case hsqz7Lmac => exact rfl)); intro kqAA kqmm kqnn kqQQ kqhp kqtk kqFF kqNN; refine wpAny_execs_cons ?_)))
  trivial
theorem reg_LG1 : True := by
  (k_with "setItem ref str" => ((k_dflt (refine' I_set ?Fz0LG1 ?Nz0LG1 ?Uz0LG1 ?dz0LG1 ?bz0LG1 ?_; (case Fz0LG1 => k_asm); (case Nz0LG1 => k_asm); (case Uz0LG1 => k_updF); (case dz0LG1 => assumption); (case bz0LG1 => omega)); intro h'z0LG1 o'z0LG1 F'z0LG1 N'z0LG1 d'z0LG1; (try dsimp only at N'z0LG1))))
  (k_with "subscriptTail" => (((with_reducible show wpAny _ _ (subscriptTail _ _ (Value.ref _) (Value.str _ _)) _ _ _); k_dflt (refine I_item (by k_asm) (by k_mem) (by assumption) (put_self _ _ _) ?_); intro t'z1LG1)))
  (k_with "call ref" => (((with_reducible show wpAny _ _ (call (Value.ref 616) _ _) _ _ _); k_dflt (refine' u_get ?Rz2LG1 ?Gz2LG1 ?Sgz2LG1 ?Sz2LG1 ?Fz2LG1 ?Nz2LG1 ?U1z2LG1 ?hSz2LG1 ?U2z2LG1 ?hXz2LG1 ?hbz2LG1 ?hcz2LG1 ?m2z2LG1 ?_; (case Rz2LG1 => exact Rm.mono (Rm.deeper _ (by assumption)) (by decide)); (case Gz2LG1 => assumption); (case Sgz2LG1 => assumption); (case Sz2LG1 => assumption); (case Fz2LG1 => k_asm); (case Nz2LG1 => k_asm); (case U1z2LG1 => k_updF); (case hSz2LG1 => assumption); (case U2z2LG1 => intro oz2LG1; (try dsimp only); k_updF); (case m2z2LG1 => k_mem); (case hXz2LG1 => assumption); (case hbz2LG1 => omega); (case hcz2LG1 => omega)); intro h'z2LG1 tk'z2LG1 t'z2LG1 oS'z2LG1 oX'z2LG1 F'z2LG1 N'z2LG1 hS'z2LG1 hX'z2LG1; (try dsimp only at N'z2LG1))))
  trivial
theorem reg_LE0 : True := by
  (k_with "getMethod ref" => ((k_dflt (first
  | (refine' method_inst ?k1z0LE0 ?k2z0LE0 ?k3z0LE0 ?k4z0LE0 ?k5z0LE0 ?k6z0LE0 ?k7z0LE0 ?_; (case k3z0LE0 => k_inst); (case k1z0LE0 => k_asm); (case k2z0LE0 => k_asm); (case k4z0LE0 => k_is); (case k5z0LE0 => k_is); (case k6z0LE0 => k_is); (case k7z0LE0 => k_get))
  | (refine' kmu_own ?k1z0LE0 ?k2z0LE0 ?k3z0LE0 ?k4z0LE0 ?k5z0LE0 ?_; (case k3z0LE0 => k_inst); (case k1z0LE0 => k_asm); (case k2z0LE0 => k_asm); (case k4z0LE0 => k_is); (case k5z0LE0 => k_is))
  | (refine' kmu_cm ?k1z0LE0 ?k2z0LE0 ?k3z0LE0 ?k4z0LE0 ?k5z0LE0 ?k6z0LE0 ?k7z0LE0 ?k8z0LE0 ?k9z0LE0 ?k10z0LE0 ?k11z0LE0 ?k12z0LE0 ?k13z0LE0 ?_; (case k4z0LE0 => k_inst); (case k1z0LE0 => k_asm); (case k2z0LE0 => k_asm); (case k3z0LE0 => k_asm); (case k5z0LE0 => k_is); (case k6z0LE0 => k_is); (case k7z0LE0 => k_is); (case k8z0LE0 => k_is); (case k9z0LE0 => k_is); (case k10z0LE0 => k_is); (case k11z0LE0 => decide +kernel); (case k12z0LE0 => k_get); (case k13z0LE0 => k_is); intro q'z0LE0 h'z0LE0 F'z0LE0 N'z0LE0 l1z0LE0; (try k_lt l1z0LE0))
  | refine I_meth PySem.F.slot_dict_get PySem.F.type_dict_get (by k_asm) (by k_mem) (by assumption) ?_
  | refine I_meth PySem.F.slot_dict_pop PySem.F.type_dict_pop (by k_asm) (by k_mem) (by assumption) ?_
  | refine kob_method PySem.F.slot_dict_get PySem.F.type_dict_get (by k_asm) (by k_mem) (by assumption) ?_
  | refine kob_method PySem.F.slot_dict_pop PySem.F.type_dict_pop (by k_asm) (by k_mem) (by assumption) ?_))))
  (k_with "call builtin:dict.pop" => ((k_dflt (first | (refine' I_pop ?Fz1LE0 ?Nz1LE0 ?Uz1LE0 ?dz1LE0 ?lz1LE0 ?bz1LE0 ?_; (case Fz1LE0 => k_asm); (case Nz1LE0 => k_asm); (case Uz1LE0 => k_updF); (case dz1LE0 => assumption); (case lz1LE0 => assumption); (case bz1LE0 => omega)) | (refine' D_pop ?Fz1LE0 ?Nz1LE0 ?Uz1LE0 ?dz1LE0 ?lz1LE0 ?bz1LE0 ?_; (case Fz1LE0 => k_asm); (case Nz1LE0 => k_asm); (case Uz1LE0 => k_updF); (case dz1LE0 => assumption); (case lz1LE0 => assumption); (case bz1LE0 => omega))); intro h'z1LE0 o'z1LE0 v'z1LE0 F'z1LE0 N'z1LE0 d'z1LE0; (try dsimp only at N'z1LE0))))
  trivial
theorem reg_LW0 : True := by
  (k_with "formatField int" => ((refine wpAny_formatField_int (log_small (by assumption)) ?_)))
  (k_with "And" => (((with_reducible show PySem.Str.length (_ ++ _) ≤ sizeLine ∧ _); refine ⟨by (simp only [PySem.Str.length_append, ofString_length]; rw [sizeLine_eq]; omega), ?_⟩)))
  (k_with "binaryOp Mult int int" => ((refine mul_int ?_ (by assumption))))
  trivial
theorem reg_LH0 : True := by
  (k_with "call builtin:issubclass" => ((k_dflt (refine' issub_tuple ?k1z0LH0 ?k2z0LH0 ?_; (case k1z0LH0 => k_in); (case k2z0LH0 => k_is)))))
  (k_with "getMethod type:tuple" => ((refine' method_type ?Fz1LH0 ?Xz1LH0 ?mz1LH0 (by decide +kernel) ?ez1LH0 ?hz1LH0 ?_; (case Fz1LH0 => k_asm); (case Xz1LH0 => k_asm); (case mz1LH0 => exact PySem.F.isi_meta_tuple); (case ez1LH0 => k_dflt k_is); (case hz1LH0 => k_handed))))
  (k_with "call builtin:tuple.__getitem__" => ((k_dflt (refine' tup_item_sub ?k1z2LH0 ?k2z2LH0 ?k3z2LH0 ?k4z2LH0 ?k5z2LH0 ?k6z2LH0 ?k7z2LH0 ?_; (case k1z2LH0 => k_in); (case k2z2LH0 => exact Fr.keep (by k_asm) _ _ (by assumption)); (case k3z2LH0 => k_is); (case k4z2LH0 => assumption); (case k5z2LH0 => assumption); (case k6z2LH0 => assumption); (case k7z2LH0 => assumption)))))
  (k_with "call type:type" => ((k_dflt (refine' kto_own ?Iz3LH0 ?_; (case Iz3LH0 => exact inst_fr (by assumption) (by assumption))))))
  trivial
theorem reg_LH1 : True := by
  (k_with "getAttr ref" => ((k_dflt (first
  | ((with_reducible show wpAny _ _ (getAttr (Value.ref _) (PySem.Str.ofString "seconds") _) _ _ _); (refine' u_gattrL (k := 0) ?Rz0LH1 ?Gz0LH1 ?Sgz0LH1 ?Fz0LH1 ?Nz0LH1 ?hxz0LH1 ?haz0LH1 ?hgtz0LH1 ?htz0LH1 ?hgaz0LH1 ?hmz0LH1 ?hgkz0LH1 ?hcz0LH1 ?Itz0LH1 ?hiz0LH1 ?hkz0LH1 ?hyz0LH1 ?hhz0LH1 ?_))
  | ((with_reducible show wpAny _ _ (getAttr (Value.ref _) (PySem.Str.ofString "name") _) _ _ _); (refine' u_gattrL (k := 1) ?Rz0LH1 ?Gz0LH1 ?Sgz0LH1 ?Fz0LH1 ?Nz0LH1 ?hxz0LH1 ?haz0LH1 ?hgtz0LH1 ?htz0LH1 ?hgaz0LH1 ?hmz0LH1 ?hgkz0LH1 ?hcz0LH1 ?Itz0LH1 ?hiz0LH1 ?hkz0LH1 ?hyz0LH1 ?hhz0LH1 ?_))
  | ((with_reducible show wpAny _ _ (getAttr (Value.ref _) (PySem.Str.ofString "reset_time") _) _ _ _); (refine' u_gattrU (k := 0) ?Rz0LH1 ?Gz0LH1 ?Sgz0LH1 ?Fz0LH1 ?Nz0LH1 ?hxz0LH1 ?haz0LH1 ?hgtz0LH1 ?htz0LH1 ?hgaz0LH1 ?hmz0LH1 ?hgkz0LH1 ?hcz0LH1 ?Itz0LH1 ?hiz0LH1 ?hkz0LH1 ?hyz0LH1 ?hhz0LH1 ?_))
  | ((with_reducible show wpAny _ _ (getAttr (Value.ref _) (PySem.Str.ofString "remaining") _) _ _ _); (refine' u_gattrU (k := 1) ?Rz0LH1 ?Gz0LH1 ?Sgz0LH1 ?Fz0LH1 ?Nz0LH1 ?hxz0LH1 ?haz0LH1 ?hgtz0LH1 ?htz0LH1 ?hgaz0LH1 ?hmz0LH1 ?hgkz0LH1 ?hcz0LH1 ?Itz0LH1 ?hiz0LH1 ?hkz0LH1 ?hyz0LH1 ?hhz0LH1 ?_))); (case Rz0LH1 => exact Rm.mono (Rm.deeper _ (by assumption)) (by decide)); (case Gz0LH1 => assumption); (case Sgz0LH1 => assumption); (case Fz0LH1 => k_asm); (case Nz0LH1 => k_asm); (case hxz0LH1 => exact inst_fr (by assumption) (by k_asm)); (case haz0LH1 => k_is); (case hgtz0LH1 => k_is); (case htz0LH1 => k_is); (case hgaz0LH1 => k_is); (case hmz0LH1 => k_is); (case hgkz0LH1 => k_is); (case hcz0LH1 => k_is); (case Itz0LH1 => k_inst); (case hiz0LH1 => decide); (case hkz0LH1 => rfl); (case hyz0LH1 => first | exact arr0 | exact arr1); (case hhz0LH1 => rfl); intro h'z0LH1 tk'z0LH1 F'z0LH1 N'z0LH1)))
  trivial
theorem reg_LH5 : True := by
  (k_with "callWith ref" => (((with_reducible show wpAny _ _ (callWith _ (Value.ref 568) _ _ _) _ _ _); k_dflt (refine' callWith_K (f := .ref 568) ?k1z0LH5 ?k2z0LH5 ?_; (case k1z0LH5 => k_asm); (case k2z0LH5 => k_is)))))
  (k_with "call ref" => (((with_reducible show wpAny _ _ (call (Value.ref 568) _ _) _ _ _); k_dflt (refine' u_entry ?Rz1LH5 ?Gz1LH5 ?Sgz1LH5 ?Fz1LH5 ?Nz1LH5 ?Xz1LH5 ?hez1LH5 ?haz1LH5 ?_; (case Rz1LH5 => exact Rm.mono (Rm.deeper _ (by assumption)) (by decide)); (case Gz1LH5 => assumption); (case Sgz1LH5 => assumption); (case Fz1LH5 => k_asm); (case Nz1LH5 => k_asm); (case Xz1LH5 => k_asm); (case hez1LH5 => omega); (case haz1LH5 => omega)); intro h'z1LH5 tk'z1LH5 rz1LH5 drz1LH5 nz1LH5 taz1LH5 tez1LH5 t1z1LH5 t2z1LH5 F'z1LH5 N'z1LH5 a1z1LH5 a2z1LH5 a3z1LH5; (replace a1z1LH5 := allNe_of a1z1LH5); (replace a2z1LH5 := allNe_of a2z1LH5); (dsimp +zetaDelta only [AllNe] at a1z1LH5 a2z1LH5))))
  trivial
theorem reg_LC1 : True := by
  (k_with "callWith ref" => (((with_reducible show wpAny _ _ (callWith _ (Value.ref 700) _ _ _) _ _ _); k_dflt (first | (refine' callWith_K (f := .ref 700) ?k1z0LC1 ?k2z0LC1 ?_; (case k1z0LC1 => k_asm); (case k2z0LC1 => k_is)) | (refine' callWith_K0 (f := .ref 700) ?k1z0LC1 ?k2z0LC1 ?_; (case k1z0LC1 => k_in); (case k2z0LC1 => k_is))))))
  (k_with "call ref" => (((with_reducible show wpAny _ _ (call (Value.ref 700) _ _) _ _ _); k_dflt (refine' u_next ?Rz1LC1 ?Gz1LC1 ?Sgz1LC1 ?Fz1LC1 ?Nz1LC1 ?Uz1LC1 ?hsz1LC1 ?hiz1LC1 ?hlz1LC1 ?h0z1LC1 ?hkz1LC1 ?hmz1LC1 ?hm2z1LC1 ?_; (case Rz1LC1 => exact Rm.mono (Rm.deeper _ (by assumption)) (by decide)); (case Gz1LC1 => assumption); (case Sgz1LC1 => exact Sub.refl _); (case Fz1LC1 => k_asm); (case Nz1LC1 => k_asm); (case Uz1LC1 => k_updF); (case hsz1LC1 => assumption); (case hiz1LC1 => assumption); (case hlz1LC1 => omega); (case h0z1LC1 => omega); (case hkz1LC1 => omega); (case hmz1LC1 => omega); (case hm2z1LC1 => omega)); intro h'z1LC1 r'z1LC1 t'z1LC1 t1'z1LC1 ep'z1LC1 tk'z1LC1 r0z1LC1 r1z1LC1 F'z1LC1 N'z1LC1; (try dsimp only at N'z1LC1))))
  (k_with "eval Name" => ((k_dflt (refine' nameX_L ?Fz2LC1 ?vz2LC1 ?_ ?az2LC1 ?bz2LC1 ?cz2LC1; (case az2LC1 => rfl); (case bz2LC1 => rfl); (case cz2LC1 => decide); (case Fz2LC1 => k_asm); (case vz2LC1 => first | exact rfl | assumption)))))
  (k_with "k_all" => (first | assumption | exact List.forall_mem_nil _ | (refine' List.forall_mem_cons.mpr ⟨?az3LC1, ?bz3LC1⟩; (case az3LC1 => first | assumption | exact Ne.symm (by assumption) | k_ne); (case bz3LC1 => k_all))))
  (k_with "k_updF" => (first | (refine' UpdF.head ?az4LC1; (case az4LC1 => k_all)) | (refine' UpdF.tail ?az4LC1 ?bz4LC1; (case az4LC1 => first | assumption | exact Ne.symm (by assumption) | k_ne); (case bz4LC1 => k_updF))))
  (k_with "k_upd" => (first | (refine' Upd.head ?az5LC1; (case az5LC1 => k_all)) | (refine' Upd.tail ?az5LC1 ?bz5LC1; (case az5LC1 => first | assumption | exact Ne.symm (by assumption) | k_ne); (case bz5LC1 => k_upd))))
  trivial
theorem reg_LN2 : True := by
  (k_with "callWith ref" => (((with_reducible show wpAny _ _ (callWith _ (Value.ref 691) _ _ _) _ _ _); k_dflt (refine' callWith_K (f := .ref 691) ?k1z0LN2 ?k2z0LN2 ?_; (case k1z0LN2 => k_asm); (case k2z0LN2 => k_is)))))
  (k_with "callWith ref" => (((with_reducible show wpAny _ _ (callWith _ (Value.ref 707) _ _ _) _ _ _); k_dflt (refine' callWith_K (f := .ref 707) ?k1z1LN2 ?k2z1LN2 ?_; (case k1z1LN2 => k_asm); (case k2z1LN2 => k_is)))))
  (k_with "callWith ref" => (((with_reducible show wpAny _ _ (callWith _ (Value.ref 518) _ _ _) _ _ _); k_dflt (refine' callWith_K (f := .ref 518) ?k1z2LN2 ?k2z2LN2 ?_; (case k1z2LN2 => k_asm); (case k2z2LN2 => k_is)))))
  (k_with "callWith ref" => (((with_reducible show wpAny _ _ (callWith _ (Value.ref 501) _ _ _) _ _ _); k_dflt (refine' callWith_K (f := .ref 501) ?k1z3LN2 ?k2z3LN2 ?_; (case k1z3LN2 => k_asm); (case k2z3LN2 => k_is)))))
  (k_with "call ref" => (((with_reducible show wpAny _ _ (call (Value.ref 691) _ _) _ _ _); k_dflt (refine' u_store ?Rz4LN2 ?Gz4LN2 ?Sgz4LN2 ?Fz4LN2 ?Nz4LN2 ?Xz4LN2 ?_; (case Rz4LN2 => exact Rm.mono (Rm.deeper _ (by assumption)) (by decide)); (case Gz4LN2 => assumption); (case Sgz4LN2 => exact Sub.refl _); (case Fz4LN2 => k_asm); (case Nz4LN2 => k_asm); (case Xz4LN2 => k_asm)); intro h'z4LN2 tk'z4LN2 x'z4LN2 dx'z4LN2 dS'z4LN2 dX'z4LN2 dE'z4LN2 oS'z4LN2 oX'z4LN2 oE'z4LN2 n'z4LN2 t1'z4LN2 t2'z4LN2 t3'z4LN2 t4'z4LN2 F'z4LN2 N'z4LN2 l1z4LN2 l2z4LN2 l3z4LN2 l4z4LN2 l5z4LN2 l6z4LN2 l7z4LN2 l8z4LN2; (k_dflt (have z3z4LN2 : @Ne Nat _ 723 := (l3z4LN2 (723, _) (by k_mem)).symm)); (k_dflt (have z4z4LN2 : @Ne Nat _ 723 := (l4z4LN2 (723, _) (by k_mem)).symm)); (k_dflt (have z5z4LN2 : @Ne Nat _ 723 := (l5z4LN2 (723, _) (by k_mem)).symm)); (try k_lt l1z4LN2); (try k_lt2 l2z4LN2))))
  (k_with "call ref" => (((with_reducible show wpAny _ _ (call (Value.ref 707) _ _) _ _ _); k_dflt (refine' u_lims ?Rz5LN2 ?Gz5LN2 ?Sgz5LN2 ?Fz5LN2 ?Nz5LN2 ?_; (case Rz5LN2 => exact Rm.mono (Rm.deeper _ (by assumption)) (by decide)); (case Gz5LN2 => assumption); (case Sgz5LN2 => exact Sub.refl _); (case Fz5LN2 => k_asm); (case Nz5LN2 => k_asm)); intro h'z5LN2 tk'z5LN2 Ls'z5LN2 l0'z5LN2 d0'z5LN2 l1'z5LN2 d1'z5LN2 l2'z5LN2 d2'z5LN2 ep'z5LN2 n0'z5LN2 n1'z5LN2 n2'z5LN2 t0'z5LN2 t1'z5LN2 t2'z5LN2 F'z5LN2 N'z5LN2; (simp only [limsL, List.cons_append, List.nil_append] at N'z5LN2))))
  (k_with "call ref" => (((with_reducible show wpAny _ _ (call (Value.ref 518) _ _) _ _ _); k_dflt (refine' u_item0 ?Rz6LN2 ?Gz6LN2 ?Sgz6LN2 ?Fz6LN2 ?Nz6LN2 ?Xz6LN2 ?hmuz6LN2 ?_; (case Rz6LN2 => exact Rm.mono (Rm.deeper _ (by assumption)) (by decide)); (case Gz6LN2 => assumption); (case Sgz6LN2 => exact Sub.refl _); (case Fz6LN2 => k_asm); (case Nz6LN2 => k_asm); (case Xz6LN2 => k_asm); (case hmuz6LN2 => exact ⟨by omega, by omega⟩)); intro h'z6LN2 tk'z6LN2 x'z6LN2 dx'z6LN2 t1'z6LN2 t2'z6LN2 t3'z6LN2 u1'z6LN2 u2'z6LN2 u3'z6LN2 n'z6LN2 F'z6LN2 N'z6LN2 l1z6LN2 l2z6LN2 l3z6LN2; clear l1z6LN2 l2z6LN2 l3z6LN2)))
  (k_with "call ref" => (((with_reducible show wpAny _ _ (call (Value.ref 501) _ _) _ _ _); k_dflt (refine' u_item1 ?Rz7LN2 ?Gz7LN2 ?Sgz7LN2 ?Fz7LN2 ?Nz7LN2 ?Xz7LN2 ?hmuz7LN2 ?_; (case Rz7LN2 => exact Rm.mono (Rm.deeper _ (by assumption)) (by decide)); (case Gz7LN2 => assumption); (case Sgz7LN2 => exact Sub.refl _); (case Fz7LN2 => k_asm); (case Nz7LN2 => k_asm); (case Xz7LN2 => k_asm); (case hmuz7LN2 => exact ⟨by omega, by omega⟩)); intro h'z7LN2 tk'z7LN2 x'z7LN2 dx'z7LN2 t1'z7LN2 t2'z7LN2 t3'z7LN2 u1'z7LN2 u2'z7LN2 u3'z7LN2 n'z7LN2 F'z7LN2 N'z7LN2 l1z7LN2 l2z7LN2 l3z7LN2; clear l1z7LN2 l2z7LN2 l3z7LN2)))
  trivial
theorem reg_LR4 : True := by
  (k_with "subscriptTail" => (((with_reducible show wpAny _ _ (subscriptTail _ _ (Value.ref (LP.Ls _ _)) (Value.int _ _)) _ _ _); k_dflt (refine' l_sub ?Fz0LR4 ?Nz0LR4 ?Tz0LR4 ?Spz0LR4 ?hkz0LR4 ?_; (case Fz0LR4 => k_asm); (case Nz0LR4 => k_asm); (case Tz0LR4 => assumption); (case Spz0LR4 => (repeat (first | exact Spl.nil | apply Spl.cons))); (case hkz0LR4 => first | assumption | exact kd_of (by first | assumption | omega) (by first | assumption | omega))); skip)))
  (k_with "subscriptTail Name Name ref int" => (((with_reducible show wpAny _ _ (subscriptTail _ _ (Value.ref (LP.Ls _ _)) (Value.int _ _)) _ _ _); k_dflt (refine' l_sub ?Fz1LR4 ?Nz1LR4 ?Tz1LR4 ?Spz1LR4 ?hkz1LR4 ?_; (case Fz1LR4 => k_asm); (case Nz1LR4 => k_asm); (case Tz1LR4 => assumption); (case Spz1LR4 => (repeat (first | exact Spl.nil | apply Spl.cons))); (case hkz1LR4 => first | assumption | exact kd_of (by first | assumption | omega) (by first | assumption | omega))); skip)))
  (k_with "subscriptTail Name Call ref int" => (((with_reducible show wpAny _ _ (subscriptTail _ _ (Value.ref (LP.Ls _ _)) (Value.int _ _)) _ _ _); k_dflt (refine' l_sub ?Fz2LR4 ?Nz2LR4 ?Tz2LR4 ?Spz2LR4 ?hkz2LR4 ?_; (case Fz2LR4 => k_asm); (case Nz2LR4 => k_asm); (case Tz2LR4 => assumption); (case Spz2LR4 => (repeat (first | exact Spl.nil | apply Spl.cons))); (case hkz2LR4 => first | assumption | exact kd_of (by first | assumption | omega) (by first | assumption | omega))); skip)))
  (k_with "getMethod ref" => (((with_reducible show wpAny _ _ (getMethod (Value.ref (limOf _ _ _ _)) (Str.ofString "test") _) _ _ _); k_dflt (refine' lm_test ?Xz3LR4 ?Fz3LR4 ?Nz3LR4 ?Tz3LR4 ?Spz3LR4 ?hkz3LR4 ?_; (case Xz3LR4 => k_asm); (case Fz3LR4 => k_asm); (case Nz3LR4 => k_asm); (case Tz3LR4 => assumption); (case Spz3LR4 => (repeat (first | exact Spl.nil | apply Spl.cons))); (case hkz3LR4 => first | assumption | exact kd_of (by first | assumption | omega) (by first | assumption | omega))); skip)))
  (k_with "getMethod ref" => (((with_reducible show wpAny _ _ (getMethod (Value.ref (limOf _ _ _ _)) (Str.ofString "hit") _) _ _ _); k_dflt (refine' lm_hit ?Xz4LR4 ?Fz4LR4 ?Nz4LR4 ?Tz4LR4 ?Spz4LR4 ?hkz4LR4 ?_; (case Xz4LR4 => k_asm); (case Fz4LR4 => k_asm); (case Nz4LR4 => k_asm); (case Tz4LR4 => assumption); (case Spz4LR4 => (repeat (first | exact Spl.nil | apply Spl.cons))); (case hkz4LR4 => first | assumption | exact kd_of (by first | assumption | omega) (by first | assumption | omega))); skip)))
  (k_with "getMethod ref" => (((with_reducible show wpAny _ _ (getMethod (Value.ref (limOf _ _ _ _)) (Str.ofString "get_window_stats") _) _ _ _); k_dflt (refine' lm_sta ?Xz5LR4 ?Fz5LR4 ?Nz5LR4 ?Tz5LR4 ?Spz5LR4 ?hkz5LR4 ?_; (case Xz5LR4 => k_asm); (case Fz5LR4 => k_asm); (case Nz5LR4 => k_asm); (case Tz5LR4 => assumption); (case Spz5LR4 => (repeat (first | exact Spl.nil | apply Spl.cons))); (case hkz5LR4 => first | assumption | exact kd_of (by first | assumption | omega) (by first | assumption | omega))); skip)))
  (k_with "getMethod ref" => (((with_reducible show wpAny _ _ (getMethod (Value.ref (limOf _ _ _ _)) (Str.ofString "clear") _) _ _ _); k_dflt (refine' lm_clr ?Xz6LR4 ?Fz6LR4 ?Nz6LR4 ?Tz6LR4 ?Spz6LR4 ?hkz6LR4 ?_; (case Xz6LR4 => k_asm); (case Fz6LR4 => k_asm); (case Nz6LR4 => k_asm); (case Tz6LR4 => assumption); (case Spz6LR4 => (repeat (first | exact Spl.nil | apply Spl.cons))); (case hkz6LR4 => first | assumption | exact kd_of (by first | assumption | omega) (by first | assumption | omega))); skip)))
  (k_with "callWith ref" => (((with_reducible show wpAny _ _ (callWith _ (Value.ref (tstF _)) _ _ _) _ _ _); k_dflt (first | (refine' callWith_K ?k1z7LR4 (keep_tst ?k2z7LR4) ?_; (case k1z7LR4 => k_asm); (case k2z7LR4 => (first | assumption | exact kd_of (by first | assumption | omega) (by first | assumption | omega)))) | (refine' callWith_KW ?k1z7LR4 (keep_tst ?k2z7LR4) ?k3z7LR4 ?_; (case k1z7LR4 => k_asm); (case k2z7LR4 => (first | assumption | exact kd_of (by first | assumption | omega) (by first | assumption | omega))); (case k3z7LR4 => exact rfl))))))
  (k_with "callWith ref" => (((with_reducible show wpAny _ _ (callWith _ (Value.ref (hitF _)) _ _ _) _ _ _); k_dflt (first | (refine' callWith_K ?k1z8LR4 (keep_hit ?k2z8LR4) ?_; (case k1z8LR4 => k_asm); (case k2z8LR4 => (first | assumption | exact kd_of (by first | assumption | omega) (by first | assumption | omega)))) | (refine' callWith_KW ?k1z8LR4 (keep_hit ?k2z8LR4) ?k3z8LR4 ?_; (case k1z8LR4 => k_asm); (case k2z8LR4 => (first | assumption | exact kd_of (by first | assumption | omega) (by first | assumption | omega))); (case k3z8LR4 => exact rfl))))))
  (k_with "callWith ref" => (((with_reducible show wpAny _ _ (callWith _ (Value.ref (clrF _)) _ _ _) _ _ _); k_dflt (first | (refine' callWith_K ?k1z9LR4 (keep_clr ?k2z9LR4) ?_; (case k1z9LR4 => k_asm); (case k2z9LR4 => (first | assumption | exact kd_of (by first | assumption | omega) (by first | assumption | omega)))) | (refine' callWith_KW ?k1z9LR4 (keep_clr ?k2z9LR4) ?k3z9LR4 ?_; (case k1z9LR4 => k_asm); (case k2z9LR4 => (first | assumption | exact kd_of (by first | assumption | omega) (by first | assumption | omega))); (case k3z9LR4 => exact rfl))))))
  (k_with "callWith ref" => (((with_reducible show wpAny _ _ (callWith _ (Value.ref (staF _)) _ _ _) _ _ _); k_dflt (first | (refine' callWith_K ?k1z10LR4 (keep_sta ?k2z10LR4) ?_; (case k1z10LR4 => k_asm); (case k2z10LR4 => (first | assumption | exact kd_of (by first | assumption | omega) (by first | assumption | omega)))) | (refine' callWith_KW ?k1z10LR4 (keep_sta ?k2z10LR4) ?k3z10LR4 ?_; (case k1z10LR4 => k_asm); (case k2z10LR4 => (first | assumption | exact kd_of (by first | assumption | omega) (by first | assumption | omega))); (case k3z10LR4 => exact rfl))))))
  (k_with "callWith ref" => (((with_reducible show wpAny _ _ (callWith _ (Value.ref 721) _ _ _) _ _ _); k_dflt (refine' callWith_K (f := .ref 721) ?k1z11LR4 ?k2z11LR4 ?_; (case k1z11LR4 => k_asm); (case k2z11LR4 => k_is)))))
  (k_with "callWith ref" => (((with_reducible show wpAny _ _ (callWith _ (Value.ref 714) _ _ _) _ _ _); k_dflt (refine' callWith_K (f := .ref 714) ?k1z12LR4 ?k2z12LR4 ?_; (case k1z12LR4 => k_asm); (case k2z12LR4 => k_is)))))
  (k_with "callWith ref" => (((with_reducible show wpAny _ _ (callWith _ (Value.ref 501) _ _ _) _ _ _); k_dflt (refine' callWith_K (f := .ref 501) ?k1z13LR4 ?k2z13LR4 ?_; (case k1z13LR4 => k_asm); (case k2z13LR4 => k_is)))))
  (k_with "call ref" => (((with_reducible show wpAny _ _ (call (Value.ref (tstF _)) _ _) _ _ _); k_dflt (refine' w_test ?Q0z14LR4 ?Gz14LR4 ?Rz14LR4 ?Fz14LR4 ?Nz14LR4 ?Tz14LR4 ?Spz14LR4 ?hnowz14LR4 ?hhz14LR4 ?hxtz14LR4 ?tgz14LR4 ?htz14LR4 ?hfrz14LR4 ?hkz14LR4 ?hfz14LR4 ?hbz14LR4 ?hBnz14LR4 ?hkdz14LR4 ?hitz14LR4 ?hnmz14LR4 ?hmtz14LR4 ?hkwz14LR4 ?hcz14LR4 ?lbz14LR4 ?hrz14LR4 ?hsz14LR4 ?hBz14LR4 ?_; (case Q0z14LR4 => assumption); (case Gz14LR4 => assumption); (case Rz14LR4 => exact Rm.mono (Rm.deeper _ (by assumption)) (by decide)); (case Fz14LR4 => k_asm); (case Nz14LR4 => k_asm); (case Tz14LR4 => assumption); (case Spz14LR4 => (repeat (first | exact Spl.nil | apply Spl.cons))); (case hnowz14LR4 => k_mem); (case hhz14LR4 => exact ⟨_, by k_mem⟩); (case hxtz14LR4 => rw [(by assumption : LP.xtra _ = _)]; (repeat (first | exact List.forall_mem_nil _ | refine List.forall_mem_cons.mpr ⟨⟨_, by k_mem⟩, ?_⟩))); (case tgz14LR4 => (repeat' (first | exact List.forall_mem_nil _ | refine List.forall_mem_cons.mpr ⟨?_, ?_⟩ | assumption | exact rfl | exact tag_cell (by assumption)))); (case htz14LR4 => exact ⟨by omega, by omega⟩); (case hfrz14LR4 => exact rfl); (case hkz14LR4 => exact (show ScopeKind.function ≠ ScopeKind.module by decide)); (case hfz14LR4 => exact rfl); (case hbz14LR4 => assumption); (case hBnz14LR4 => omega); (case hkdz14LR4 => first | assumption | exact kd_of (by first | assumption | omega) (by first | assumption | omega)); (case hitz14LR4 => (repeat (first | exact List.Mem.head _ | apply List.Mem.tail))); (case hnmz14LR4 => (first | exact nm1 (by k_asm) (by k_mem) (by decide) | exact nm2 (by k_asm) (by k_mem) (by decide) (by decide) | exact NamesAt.ite (nm1 (by k_asm) (by k_mem) (by decide)) (nm2 (by k_asm) (by k_mem) (by decide) (by decide)) | exact NamesAt.ite (nm2 (by k_asm) (by k_mem) (by decide) (by decide)) (nm1 (by k_asm) (by k_mem) (by decide)))); (case hmtz14LR4 => omega); (case hkwz14LR4 => first | exact .inr ⟨rfl, rfl, rfl⟩ | exact .inl rfl); (case hcz14LR4 => exact ⟨by first | decide | assumption | omega, by first | decide | assumption | omega⟩); (case lbz14LR4 => assumption); (case hrz14LR4 => assumption); (case hsz14LR4 => first | exact .inl ⟨rfl, .inl rfl⟩ | exact .inl ⟨rfl, .inr rfl⟩ | exact .inr ⟨rfl, _, rfl⟩); (case hBz14LR4 => omega)); intro v'z14LR4 h'z14LR4 tk'z14LR4 ex'z14LR4 σ'z14LR4 b'z14LR4 F'z14LR4 N'z14LR4 T'z14LR4 n'z14LR4 hb'z14LR4 hr'z14LR4; (try simp only [List.cons_append, List.nil_append] at N'z14LR4); (have nh'z14LR4 := fun q hq => (n'z14LR4 q hq).1); (have nn'z14LR4 := fun q hq => (n'z14LR4 q hq).2.1); (have nx'z14LR4 := fun q hq => (n'z14LR4 q hq).2.2); clear n'z14LR4)))
  (k_with "call ref" => (((with_reducible show wpAny _ _ (call (Value.ref (hitF _)) _ _) _ _ _); k_dflt (refine' w_hit ?Q0z15LR4 ?Gz15LR4 ?Rz15LR4 ?Fz15LR4 ?Nz15LR4 ?Tz15LR4 ?Spz15LR4 ?hnowz15LR4 ?hhz15LR4 ?hxtz15LR4 ?tgz15LR4 ?htz15LR4 ?hfrz15LR4 ?hkz15LR4 ?hfz15LR4 ?hbz15LR4 ?hBnz15LR4 ?hkdz15LR4 ?hitz15LR4 ?hnmz15LR4 ?hmtz15LR4 ?hcz15LR4 ?lbz15LR4 ?hrz15LR4 ?hsz15LR4 ?hBz15LR4 ?_; (case Q0z15LR4 => assumption); (case Gz15LR4 => assumption); (case Rz15LR4 => exact Rm.mono (Rm.deeper _ (by assumption)) (by decide)); (case Fz15LR4 => k_asm); (case Nz15LR4 => k_asm); (case Tz15LR4 => assumption); (case Spz15LR4 => (repeat (first | exact Spl.nil | apply Spl.cons))); (case hnowz15LR4 => k_mem); (case hhz15LR4 => exact ⟨_, by k_mem⟩); (case hxtz15LR4 => rw [(by assumption : LP.xtra _ = _)]; (repeat (first | exact List.forall_mem_nil _ | refine List.forall_mem_cons.mpr ⟨⟨_, by k_mem⟩, ?_⟩))); (case tgz15LR4 => (repeat' (first | exact List.forall_mem_nil _ | refine List.forall_mem_cons.mpr ⟨?_, ?_⟩ | assumption | exact rfl | exact tag_cell (by assumption)))); (case htz15LR4 => exact ⟨by omega, by omega⟩); (case hfrz15LR4 => exact rfl); (case hkz15LR4 => exact (show ScopeKind.function ≠ ScopeKind.module by decide)); (case hfz15LR4 => exact rfl); (case hbz15LR4 => assumption); (case hBnz15LR4 => omega); (case hkdz15LR4 => first | assumption | exact kd_of (by first | assumption | omega) (by first | assumption | omega)); (case hitz15LR4 => (repeat (first | exact List.Mem.head _ | apply List.Mem.tail))); (case hnmz15LR4 => (first | exact nm1 (by k_asm) (by k_mem) (by decide) | exact nm2 (by k_asm) (by k_mem) (by decide) (by decide) | exact NamesAt.ite (nm1 (by k_asm) (by k_mem) (by decide)) (nm2 (by k_asm) (by k_mem) (by decide) (by decide)) | exact NamesAt.ite (nm2 (by k_asm) (by k_mem) (by decide) (by decide)) (nm1 (by k_asm) (by k_mem) (by decide)))); (case hmtz15LR4 => omega); (case hcz15LR4 => exact ⟨by first | decide | assumption | omega, by first | decide | assumption | omega⟩); (case lbz15LR4 => assumption); (case hrz15LR4 => assumption); (case hsz15LR4 => first | exact .inl ⟨rfl, .inl rfl⟩ | exact .inl ⟨rfl, .inr rfl⟩ | exact .inr ⟨rfl, _, rfl⟩); (case hBz15LR4 => omega)); intro v'z15LR4 h'z15LR4 tk'z15LR4 ex'z15LR4 σ'z15LR4 b'z15LR4 F'z15LR4 N'z15LR4 T'z15LR4 n'z15LR4 hb'z15LR4 hr'z15LR4; (try simp only [List.cons_append, List.nil_append] at N'z15LR4); (have nh'z15LR4 := fun q hq => (n'z15LR4 q hq).1); (have nn'z15LR4 := fun q hq => (n'z15LR4 q hq).2.1); (have nx'z15LR4 := fun q hq => (n'z15LR4 q hq).2.2); clear n'z15LR4)))
  (k_with "call ref" => (((with_reducible show wpAny _ _ (call (Value.ref (clrF _)) _ _) _ _ _); k_dflt (refine' w_clear ?Q0z16LR4 ?Gz16LR4 ?Rz16LR4 ?Fz16LR4 ?Nz16LR4 ?Tz16LR4 ?Spz16LR4 ?hnowz16LR4 ?hhz16LR4 ?hxtz16LR4 ?tgz16LR4 ?htz16LR4 ?hfrz16LR4 ?hkz16LR4 ?hfz16LR4 ?hbz16LR4 ?hBnz16LR4 ?hkdz16LR4 ?hitz16LR4 ?hnmz16LR4 ?hmtz16LR4 ?lbz16LR4 ?hrz16LR4 ?hsz16LR4 ?hBz16LR4 ?_; (case Q0z16LR4 => assumption); (case Gz16LR4 => assumption); (case Rz16LR4 => exact Rm.mono (Rm.deeper _ (by assumption)) (by decide)); (case Fz16LR4 => k_asm); (case Nz16LR4 => k_asm); (case Tz16LR4 => assumption); (case Spz16LR4 => (repeat (first | exact Spl.nil | apply Spl.cons))); (case hnowz16LR4 => k_mem); (case hhz16LR4 => exact ⟨_, by k_mem⟩); (case hxtz16LR4 => rw [(by assumption : LP.xtra _ = _)]; (repeat (first | exact List.forall_mem_nil _ | refine List.forall_mem_cons.mpr ⟨⟨_, by k_mem⟩, ?_⟩))); (case tgz16LR4 => (repeat' (first | exact List.forall_mem_nil _ | refine List.forall_mem_cons.mpr ⟨?_, ?_⟩ | assumption | exact rfl | exact tag_cell (by assumption)))); (case htz16LR4 => exact ⟨by omega, by omega⟩); (case hfrz16LR4 => exact rfl); (case hkz16LR4 => exact (show ScopeKind.function ≠ ScopeKind.module by decide)); (case hfz16LR4 => exact rfl); (case hbz16LR4 => assumption); (case hBnz16LR4 => omega); (case hkdz16LR4 => first | assumption | exact kd_of (by first | assumption | omega) (by first | assumption | omega)); (case hitz16LR4 => (repeat (first | exact List.Mem.head _ | apply List.Mem.tail))); (case hnmz16LR4 => (first | exact nm1 (by k_asm) (by k_mem) (by decide) | exact nm2 (by k_asm) (by k_mem) (by decide) (by decide) | exact NamesAt.ite (nm1 (by k_asm) (by k_mem) (by decide)) (nm2 (by k_asm) (by k_mem) (by decide) (by decide)) | exact NamesAt.ite (nm2 (by k_asm) (by k_mem) (by decide) (by decide)) (nm1 (by k_asm) (by k_mem) (by decide)))); (case hmtz16LR4 => omega); (case lbz16LR4 => assumption); (case hrz16LR4 => assumption); (case hsz16LR4 => first | exact .inl ⟨rfl, .inl rfl⟩ | exact .inl ⟨rfl, .inr rfl⟩ | exact .inr ⟨rfl, _, rfl⟩); (case hBz16LR4 => omega)); intro h'z16LR4 tk'z16LR4 ex'z16LR4 σ'z16LR4 b'z16LR4 F'z16LR4 N'z16LR4 T'z16LR4 n'z16LR4 hb'z16LR4 hr'z16LR4; (try simp only [List.cons_append, List.nil_append] at N'z16LR4); (have nh'z16LR4 := fun q hq => (n'z16LR4 q hq).1); (have nn'z16LR4 := fun q hq => (n'z16LR4 q hq).2.1); (have nx'z16LR4 := fun q hq => (n'z16LR4 q hq).2.2); clear n'z16LR4)))
  (k_with "call ref" => (((with_reducible show wpAny _ _ (call (Value.ref (staF _)) _ _) _ _ _); k_dflt (refine' w_stats ?Q0z17LR4 ?Gz17LR4 ?Rz17LR4 ?Fz17LR4 ?Nz17LR4 ?Tz17LR4 ?Spz17LR4 ?hnowz17LR4 ?hhz17LR4 ?hxtz17LR4 ?tgz17LR4 ?htz17LR4 ?hfrz17LR4 ?hkz17LR4 ?hfz17LR4 ?hbz17LR4 ?hBnz17LR4 ?hkdz17LR4 ?hitz17LR4 ?hnmz17LR4 ?hmtz17LR4 ?lbz17LR4 ?hrz17LR4 ?hsz17LR4 ?hBz17LR4 ?_; (case Q0z17LR4 => assumption); (case Gz17LR4 => assumption); (case Rz17LR4 => exact Rm.mono (Rm.deeper _ (by assumption)) (by decide)); (case Fz17LR4 => k_asm); (case Nz17LR4 => k_asm); (case Tz17LR4 => assumption); (case Spz17LR4 => (repeat (first | exact Spl.nil | apply Spl.cons))); (case hnowz17LR4 => k_mem); (case hhz17LR4 => exact ⟨_, by k_mem⟩); (case hxtz17LR4 => rw [(by assumption : LP.xtra _ = _)]; (repeat (first | exact List.forall_mem_nil _ | refine List.forall_mem_cons.mpr ⟨⟨_, by k_mem⟩, ?_⟩))); (case tgz17LR4 => (repeat' (first | exact List.forall_mem_nil _ | refine List.forall_mem_cons.mpr ⟨?_, ?_⟩ | assumption | exact rfl | exact tag_cell (by assumption)))); (case htz17LR4 => exact ⟨by omega, by omega⟩); (case hfrz17LR4 => exact rfl); (case hkz17LR4 => exact (show ScopeKind.function ≠ ScopeKind.module by decide)); (case hfz17LR4 => exact rfl); (case hbz17LR4 => assumption); (case hBnz17LR4 => omega); (case hkdz17LR4 => first | assumption | exact kd_of (by first | assumption | omega) (by first | assumption | omega)); (case hitz17LR4 => (repeat (first | exact List.Mem.head _ | apply List.Mem.tail))); (case hnmz17LR4 => (first | exact nm1 (by k_asm) (by k_mem) (by decide) | exact nm2 (by k_asm) (by k_mem) (by decide) (by decide) | exact NamesAt.ite (nm1 (by k_asm) (by k_mem) (by decide)) (nm2 (by k_asm) (by k_mem) (by decide) (by decide)) | exact NamesAt.ite (nm2 (by k_asm) (by k_mem) (by decide) (by decide)) (nm1 (by k_asm) (by k_mem) (by decide)))); (case hmtz17LR4 => omega); (case lbz17LR4 => assumption); (case hrz17LR4 => assumption); (case hsz17LR4 => first | exact .inl ⟨rfl, .inl rfl⟩ | exact .inl ⟨rfl, .inr rfl⟩ | exact .inr ⟨rfl, _, rfl⟩); (case hBz17LR4 => omega)); intro h'z17LR4 tk'z17LR4 r'z17LR4 ex'z17LR4 σ'z17LR4 b'z17LR4 F'z17LR4 N'z17LR4 T'z17LR4 n'z17LR4 hb'z17LR4 hr'z17LR4; (try simp only [List.cons_append, List.nil_append] at N'z17LR4); (have nh'z17LR4 := fun q hq => (n'z17LR4 q hq).1); (have nn'z17LR4 := fun q hq => (n'z17LR4 q hq).2.1); (have nx'z17LR4 := fun q hq => (n'z17LR4 q hq).2.2); clear n'z17LR4)))
  (k_with "call ref" => (((with_reducible show wpAny _ _ (call (Value.ref 721) (Value.ref (LP.Ls _ false) :: _) _) _ _ _); k_dflt (refine' w_stepA ?Q0z18LR4 ?Gz18LR4 ?Rz18LR4 ?Fz18LR4 ?Nz18LR4 ?Tz18LR4 ?Spz18LR4 ?hnowz18LR4 ?hhz18LR4 ?hxtz18LR4 ?tgz18LR4 ?htz18LR4 ?hfrz18LR4 ?hkz18LR4 ?hfz18LR4 ?hbz18LR4 ?hBnz18LR4 ?hkdz18LR4 ?hitz18LR4 ?hnmz18LR4 ?hmtz18LR4 ?hcz18LR4 ?hddz18LR4 ?hrz18LR4 ?_; (case Q0z18LR4 => assumption); (case Gz18LR4 => assumption); (case Rz18LR4 => exact Rm.mono (Rm.deeper _ (by assumption)) (by decide)); (case Fz18LR4 => k_asm); (case Nz18LR4 => k_asm); (case Tz18LR4 => assumption); (case Spz18LR4 => (repeat (first | exact Spl.nil | apply Spl.cons))); (case hnowz18LR4 => k_mem); (case hhz18LR4 => exact ⟨_, by k_mem⟩); (case hxtz18LR4 => rw [(by assumption : LP.xtra _ = _)]; (repeat (first | exact List.forall_mem_nil _ | refine List.forall_mem_cons.mpr ⟨⟨_, by k_mem⟩, ?_⟩))); (case tgz18LR4 => (repeat' (first | exact List.forall_mem_nil _ | refine List.forall_mem_cons.mpr ⟨?_, ?_⟩ | assumption | exact rfl | exact tag_cell (by assumption)))); (case htz18LR4 => exact ⟨by omega, by omega⟩); (case hfrz18LR4 => exact rfl); (case hkz18LR4 => exact (show ScopeKind.function ≠ ScopeKind.module by decide)); (case hfz18LR4 => exact rfl); (case hbz18LR4 => assumption); (case hBnz18LR4 => omega); (case hkdz18LR4 => first | assumption | exact kd_of (by first | assumption | omega) (by first | assumption | omega)); (case hitz18LR4 => (repeat (first | exact List.Mem.head _ | apply List.Mem.tail))); (case hnmz18LR4 => (first | exact nm1 (by k_asm) (by k_mem) (by decide) | exact nm2 (by k_asm) (by k_mem) (by decide) (by decide) | exact NamesAt.ite (nm1 (by k_asm) (by k_mem) (by decide)) (nm2 (by k_asm) (by k_mem) (by decide) (by decide)) | exact NamesAt.ite (nm2 (by k_asm) (by k_mem) (by decide) (by decide)) (nm1 (by k_asm) (by k_mem) (by decide)))); (case hmtz18LR4 => omega); (case hcz18LR4 => exact ⟨by first | decide | assumption | omega, by first | decide | assumption | omega⟩); (case hddz18LR4 => exact ⟨by first | assumption | omega, by first | exact Int.le_of_lt_add_one (by assumption) | omega⟩); (case hrz18LR4 => assumption)); intro h'z18LR4 tk'z18LR4 v'z18LR4 ex'z18LR4 σ'z18LR4 b'z18LR4 F'z18LR4 N'z18LR4 T'z18LR4 n'z18LR4 hb'z18LR4 hr'z18LR4; (try simp only [List.cons_append, List.nil_append] at N'z18LR4); (have nh'z18LR4 := fun q hq => (n'z18LR4 q hq).1); (have nn'z18LR4 := fun q hq => (n'z18LR4 q hq).2.1); (have nx'z18LR4 := fun q hq => (n'z18LR4 q hq).2.2); clear n'z18LR4)))
  (k_with "call ref" => (((with_reducible show wpAny _ _ (call (Value.ref 721) (Value.ref (LP.Ls _ true) :: _) _) _ _ _); k_dflt (refine' w_stepB ?Q0z19LR4 ?Gz19LR4 ?Rz19LR4 ?Fz19LR4 ?Nz19LR4 ?Tz19LR4 ?Spz19LR4 ?hnowz19LR4 ?hhz19LR4 ?hxtz19LR4 ?tgz19LR4 ?htz19LR4 ?hfrz19LR4 ?hkz19LR4 ?hfz19LR4 ?hbz19LR4 ?hBnz19LR4 ?hkdz19LR4 ?hitz19LR4 ?hnmz19LR4 ?hmtz19LR4 ?hcz19LR4 ?hddz19LR4 ?lbz19LR4 ?hBz19LR4 ?hrz19LR4 ?_; (case Q0z19LR4 => assumption); (case Gz19LR4 => assumption); (case Rz19LR4 => exact Rm.mono (Rm.deeper _ (by assumption)) (by decide)); (case Fz19LR4 => k_asm); (case Nz19LR4 => k_asm); (case Tz19LR4 => assumption); (case Spz19LR4 => (repeat (first | exact Spl.nil | apply Spl.cons))); (case hnowz19LR4 => k_mem); (case hhz19LR4 => exact ⟨_, by k_mem⟩); (case hxtz19LR4 => rw [(by assumption : LP.xtra _ = _)]; (repeat (first | exact List.forall_mem_nil _ | refine List.forall_mem_cons.mpr ⟨⟨_, by k_mem⟩, ?_⟩))); (case tgz19LR4 => (repeat' (first | exact List.forall_mem_nil _ | refine List.forall_mem_cons.mpr ⟨?_, ?_⟩ | assumption | exact rfl | exact tag_cell (by assumption)))); (case htz19LR4 => exact ⟨by omega, by omega⟩); (case hfrz19LR4 => exact rfl); (case hkz19LR4 => exact (show ScopeKind.function ≠ ScopeKind.module by decide)); (case hfz19LR4 => exact rfl); (case hbz19LR4 => assumption); (case hBnz19LR4 => omega); (case hkdz19LR4 => first | assumption | exact kd_of (by first | assumption | omega) (by first | assumption | omega)); (case hitz19LR4 => (repeat (first | exact List.Mem.head _ | apply List.Mem.tail))); (case hnmz19LR4 => (first | exact nm1 (by k_asm) (by k_mem) (by decide) | exact nm2 (by k_asm) (by k_mem) (by decide) (by decide) | exact NamesAt.ite (nm1 (by k_asm) (by k_mem) (by decide)) (nm2 (by k_asm) (by k_mem) (by decide) (by decide)) | exact NamesAt.ite (nm2 (by k_asm) (by k_mem) (by decide) (by decide)) (nm1 (by k_asm) (by k_mem) (by decide)))); (case hmtz19LR4 => omega); (case hcz19LR4 => exact ⟨by first | decide | assumption | omega, by first | decide | assumption | omega⟩); (case hddz19LR4 => exact ⟨by first | assumption | omega, by first | exact Int.le_of_lt_add_one (by assumption) | omega⟩); (case lbz19LR4 => assumption); (case hrz19LR4 => assumption); (case hBz19LR4 => omega)); intro h'z19LR4 tk'z19LR4 ex'z19LR4 σ'z19LR4 b'z19LR4 F'z19LR4 N'z19LR4 T'z19LR4 n'z19LR4 hb'z19LR4 hr'z19LR4; (try simp only [List.cons_append, List.nil_append] at N'z19LR4); (have nh'z19LR4 := fun q hq => (n'z19LR4 q hq).1); (have nn'z19LR4 := fun q hq => (n'z19LR4 q hq).2.1); (have nx'z19LR4 := fun q hq => (n'z19LR4 q hq).2.2); clear n'z19LR4)))
  (k_with "call ref" => (((with_reducible show wpAny _ _ (call (Value.ref 714) (Value.ref (LP.Ls _ false) :: _) _) _ _ _); k_dflt (refine' w_lsA ?Q0z20LR4 ?Gz20LR4 ?Rz20LR4 ?Fz20LR4 ?Nz20LR4 ?Tz20LR4 ?Spz20LR4 ?hnowz20LR4 ?hhz20LR4 ?hxtz20LR4 ?tgz20LR4 ?htz20LR4 ?hfrz20LR4 ?hkz20LR4 ?hfz20LR4 ?hbz20LR4 ?hBnz20LR4 ?hkdz20LR4 ?hitz20LR4 ?hnmz20LR4 ?hmtz20LR4 ?hrz20LR4 ?_; (case Q0z20LR4 => assumption); (case Gz20LR4 => assumption); (case Rz20LR4 => exact Rm.mono (Rm.deeper _ (by assumption)) (by decide)); (case Fz20LR4 => k_asm); (case Nz20LR4 => k_asm); (case Tz20LR4 => assumption); (case Spz20LR4 => (repeat (first | exact Spl.nil | apply Spl.cons))); (case hnowz20LR4 => k_mem); (case hhz20LR4 => exact ⟨_, by k_mem⟩); (case hxtz20LR4 => rw [(by assumption : LP.xtra _ = _)]; (repeat (first | exact List.forall_mem_nil _ | refine List.forall_mem_cons.mpr ⟨⟨_, by k_mem⟩, ?_⟩))); (case tgz20LR4 => (repeat' (first | exact List.forall_mem_nil _ | refine List.forall_mem_cons.mpr ⟨?_, ?_⟩ | assumption | exact rfl | exact tag_cell (by assumption)))); (case htz20LR4 => exact ⟨by omega, by omega⟩); (case hfrz20LR4 => exact rfl); (case hkz20LR4 => exact (show ScopeKind.function ≠ ScopeKind.module by decide)); (case hfz20LR4 => exact rfl); (case hbz20LR4 => assumption); (case hBnz20LR4 => omega); (case hkdz20LR4 => first | assumption | exact kd_of (by first | assumption | omega) (by first | assumption | omega)); (case hitz20LR4 => (repeat (first | exact List.Mem.head _ | apply List.Mem.tail))); (case hnmz20LR4 => (first | exact nm1 (by k_asm) (by k_mem) (by decide) | exact nm2 (by k_asm) (by k_mem) (by decide) (by decide) | exact NamesAt.ite (nm1 (by k_asm) (by k_mem) (by decide)) (nm2 (by k_asm) (by k_mem) (by decide) (by decide)) | exact NamesAt.ite (nm2 (by k_asm) (by k_mem) (by decide) (by decide)) (nm1 (by k_asm) (by k_mem) (by decide)))); (case hmtz20LR4 => omega); (case hrz20LR4 => assumption)); intro h'z20LR4 tk'z20LR4 r'z20LR4 q'z20LR4 u1z20LR4 u2z20LR4 u3z20LR4 r1z20LR4 n1z20LR4 d1z20LR4 ex'z20LR4 σ'z20LR4 b'z20LR4 F'z20LR4 N'z20LR4 T'z20LR4 n'z20LR4 hb'z20LR4 hr'z20LR4; (try simp only [List.cons_append, List.nil_append] at N'z20LR4); (have nh'z20LR4 := fun q hq => (n'z20LR4 q hq).1); (have nn'z20LR4 := fun q hq => (n'z20LR4 q hq).2.1); (have nx'z20LR4 := fun q hq => (n'z20LR4 q hq).2.2); clear n'z20LR4)))
  (k_with "call ref" => (((with_reducible show wpAny _ _ (call (Value.ref 714) (Value.ref (LP.Ls _ true) :: _) _) _ _ _); k_dflt (refine' w_lsB ?Q0z21LR4 ?Gz21LR4 ?Rz21LR4 ?Fz21LR4 ?Nz21LR4 ?Tz21LR4 ?Spz21LR4 ?hnowz21LR4 ?hhz21LR4 ?hxtz21LR4 ?tgz21LR4 ?htz21LR4 ?hfrz21LR4 ?hkz21LR4 ?hfz21LR4 ?hbz21LR4 ?hBnz21LR4 ?hkdz21LR4 ?hitz21LR4 ?hnmz21LR4 ?hmtz21LR4 ?lbz21LR4 ?hBz21LR4 ?hrz21LR4 ?_; (case Q0z21LR4 => assumption); (case Gz21LR4 => assumption); (case Rz21LR4 => exact Rm.mono (Rm.deeper _ (by assumption)) (by decide)); (case Fz21LR4 => k_asm); (case Nz21LR4 => k_asm); (case Tz21LR4 => assumption); (case Spz21LR4 => (repeat (first | exact Spl.nil | apply Spl.cons))); (case hnowz21LR4 => k_mem); (case hhz21LR4 => exact ⟨_, by k_mem⟩); (case hxtz21LR4 => rw [(by assumption : LP.xtra _ = _)]; (repeat (first | exact List.forall_mem_nil _ | refine List.forall_mem_cons.mpr ⟨⟨_, by k_mem⟩, ?_⟩))); (case tgz21LR4 => (repeat' (first | exact List.forall_mem_nil _ | refine List.forall_mem_cons.mpr ⟨?_, ?_⟩ | assumption | exact rfl | exact tag_cell (by assumption)))); (case htz21LR4 => exact ⟨by omega, by omega⟩); (case hfrz21LR4 => exact rfl); (case hkz21LR4 => exact (show ScopeKind.function ≠ ScopeKind.module by decide)); (case hfz21LR4 => exact rfl); (case hbz21LR4 => assumption); (case hBnz21LR4 => omega); (case hkdz21LR4 => first | assumption | exact kd_of (by first | assumption | omega) (by first | assumption | omega)); (case hitz21LR4 => (repeat (first | exact List.Mem.head _ | apply List.Mem.tail))); (case hnmz21LR4 => (first | exact nm1 (by k_asm) (by k_mem) (by decide) | exact nm2 (by k_asm) (by k_mem) (by decide) (by decide) | exact NamesAt.ite (nm1 (by k_asm) (by k_mem) (by decide)) (nm2 (by k_asm) (by k_mem) (by decide) (by decide)) | exact NamesAt.ite (nm2 (by k_asm) (by k_mem) (by decide) (by decide)) (nm1 (by k_asm) (by k_mem) (by decide)))); (case hmtz21LR4 => omega); (case lbz21LR4 => assumption); (case hrz21LR4 => assumption); (case hBz21LR4 => omega)); intro h'z21LR4 tk'z21LR4 r'z21LR4 q'z21LR4 u1z21LR4 u2z21LR4 u3z21LR4 n2z21LR4 d2z21LR4 ex'z21LR4 σ'z21LR4 b'z21LR4 F'z21LR4 N'z21LR4 T'z21LR4 n'z21LR4 hb'z21LR4 heq'z21LR4 hr'z21LR4; obtain ⟨he1z21LR4, ⟨he2z21LR4, he3z21LR4⟩, he4, he5⟩ := heq'z21LR4; (try simp only [List.cons_append, List.nil_append] at N'z21LR4); (have nh'z21LR4 := fun q hq => (n'z21LR4 q hq).1); (have nn'z21LR4 := fun q hq => (n'z21LR4 q hq).2.1); (have nx'z21LR4 := fun q hq => (n'z21LR4 q hq).2.2); clear n'z21LR4)))
  (k_with "call ref" => (((with_reducible show wpAny _ _ (call (Value.ref 501) _ _) _ _ _); k_dflt (refine' l_third ?Q0z22LR4 ?Gz22LR4 ?Rz22LR4 ?Xz22LR4 ?Fz22LR4 ?Nz22LR4 ?Tz22LR4 ?Spz22LR4 ?hhz22LR4 ?hnz22LR4 ?hxtz22LR4 ?hnsz22LR4 ?_; (case Q0z22LR4 => assumption); (case Gz22LR4 => assumption); (case Rz22LR4 => exact Rm.mono (Rm.deeper _ (by assumption)) (by decide)); (case Xz22LR4 => k_asm); (case Fz22LR4 => k_asm); (case Nz22LR4 => k_asm); (case Tz22LR4 => assumption); (case Spz22LR4 => (repeat (first | exact Spl.nil | apply Spl.cons))); (case hhz22LR4 => exact ⟨_, by k_mem⟩); (case hnz22LR4 => exact ⟨_, by k_mem⟩); (case hxtz22LR4 => rw [(by assumption : LP.xtra _ = _)]; (repeat (first | exact List.forall_mem_nil _ | refine List.forall_mem_cons.mpr ⟨⟨_, by k_mem⟩, ?_⟩))); (case hnsz22LR4 => decide)); intro h'z22LR4 tk'z22LR4 x'z22LR4 ex'z22LR4 F'z22LR4 N'z22LR4 T'z22LR4 n'z22LR4; (try simp only [List.cons_append, List.nil_append] at N'z22LR4); (have nh'z22LR4 := fun q hq => (n'z22LR4 q hq).1); (have nn'z22LR4 := fun q hq => (n'z22LR4 q hq).2.1); (have nx'z22LR4 := fun q hq => (n'z22LR4 q hq).2.2); clear n'z22LR4)))
  (k_with "subscriptTail" => (((with_reducible show wpAny _ _ (subscriptTail (PySem.Expr.List _ _) _ (Value.ref _) (Value.int _ _)) _ _ _); k_dflt (first | (refine' list_twoD ?Nz23LR4 ?h0z23LR4 ?h1z23LR4 ?_; (case Nz23LR4 => k_asm); (case h0z23LR4 => omega); (case h1z23LR4 => omega); intro nq'z23LR4) | (refine' list_two ?lz23LR4 ?h0z23LR4 ?h1z23LR4 ?_; (case lz23LR4 => is_list); (case h0z23LR4 => omega); (case h1z23LR4 => omega)) | (refine' list_pickD (lo := 0) (hi := 50) ?Nz23LR4 ?h0z23LR4 ?h1z23LR4 ?hzz23LR4 ?hvz23LR4 ?_; (case Nz23LR4 => k_asm); (case h0z23LR4 => omega); (case h1z23LR4 => simp only [List.length_cons, List.length_nil]; omega); (case hzz23LR4 => simp only [List.length_cons, List.length_nil]; omega); (case hvz23LR4 => repeat' (first | exact List.forall_mem_nil _ | refine List.forall_mem_cons.mpr ⟨⟨_, _, rfl, by omega, by omega⟩, ?_⟩)); intro i'z23LR4 t'z23LR4 b0z23LR4 b1z23LR4 nq'z23LR4) | (refine' list_pick (lo := 0) (hi := 50) ?lz23LR4 ?h0z23LR4 ?h1z23LR4 ?hzz23LR4 ?hvz23LR4 ?_; (case lz23LR4 => is_list); (case h0z23LR4 => omega); (case h1z23LR4 => simp only [List.length_cons, List.length_nil]; omega); (case hzz23LR4 => simp only [List.length_cons, List.length_nil]; omega); (case hvz23LR4 => repeat' (first | exact List.forall_mem_nil _ | refine List.forall_mem_cons.mpr ⟨⟨_, _, rfl, by omega, by omega⟩, ?_⟩)); intro i'z23LR4 t'z23LR4 b0z23LR4 b1z23LR4)))))
  (k_with "subscriptTail List cons Call ref int" => (((with_reducible show wpAny _ _ (subscriptTail (PySem.Expr.List _ _) _ (Value.ref _) (Value.int _ _)) _ _ _); k_dflt (first | (refine' list_twoD ?Nz24LR4 ?h0z24LR4 ?h1z24LR4 ?_; (case Nz24LR4 => k_asm); (case h0z24LR4 => omega); (case h1z24LR4 => omega); intro nq'z24LR4) | (refine' list_two ?lz24LR4 ?h0z24LR4 ?h1z24LR4 ?_; (case lz24LR4 => is_list); (case h0z24LR4 => omega); (case h1z24LR4 => omega)) | (refine' list_pickD (lo := 0) (hi := 50) ?Nz24LR4 ?h0z24LR4 ?h1z24LR4 ?hzz24LR4 ?hvz24LR4 ?_; (case Nz24LR4 => k_asm); (case h0z24LR4 => omega); (case h1z24LR4 => simp only [List.length_cons, List.length_nil]; omega); (case hzz24LR4 => simp only [List.length_cons, List.length_nil]; omega); (case hvz24LR4 => repeat' (first | exact List.forall_mem_nil _ | refine List.forall_mem_cons.mpr ⟨⟨_, _, rfl, by omega, by omega⟩, ?_⟩)); intro i'z24LR4 t'z24LR4 b0z24LR4 b1z24LR4 nq'z24LR4) | (refine' list_pick (lo := 0) (hi := 50) ?lz24LR4 ?h0z24LR4 ?h1z24LR4 ?hzz24LR4 ?hvz24LR4 ?_; (case lz24LR4 => is_list); (case h0z24LR4 => omega); (case h1z24LR4 => simp only [List.length_cons, List.length_nil]; omega); (case hzz24LR4 => simp only [List.length_cons, List.length_nil]; omega); (case hvz24LR4 => repeat' (first | exact List.forall_mem_nil _ | refine List.forall_mem_cons.mpr ⟨⟨_, _, rfl, by omega, by omega⟩, ?_⟩)); intro i'z24LR4 t'z24LR4 b0z24LR4 b1z24LR4)))))
  (k_with "subscriptTail List cons Name ref int" => (((with_reducible show wpAny _ _ (subscriptTail (PySem.Expr.List _ _) _ (Value.ref _) (Value.int _ _)) _ _ _); k_dflt (first | (refine' list_twoD ?Nz25LR4 ?h0z25LR4 ?h1z25LR4 ?_; (case Nz25LR4 => k_asm); (case h0z25LR4 => omega); (case h1z25LR4 => omega); intro nq'z25LR4) | (refine' list_two ?lz25LR4 ?h0z25LR4 ?h1z25LR4 ?_; (case lz25LR4 => is_list); (case h0z25LR4 => omega); (case h1z25LR4 => omega)) | (refine' list_pickD (lo := 0) (hi := 50) ?Nz25LR4 ?h0z25LR4 ?h1z25LR4 ?hzz25LR4 ?hvz25LR4 ?_; (case Nz25LR4 => k_asm); (case h0z25LR4 => omega); (case h1z25LR4 => simp only [List.length_cons, List.length_nil]; omega); (case hzz25LR4 => simp only [List.length_cons, List.length_nil]; omega); (case hvz25LR4 => repeat' (first | exact List.forall_mem_nil _ | refine List.forall_mem_cons.mpr ⟨⟨_, _, rfl, by omega, by omega⟩, ?_⟩)); intro i'z25LR4 t'z25LR4 b0z25LR4 b1z25LR4 nq'z25LR4) | (refine' list_pick (lo := 0) (hi := 50) ?lz25LR4 ?h0z25LR4 ?h1z25LR4 ?hzz25LR4 ?hvz25LR4 ?_; (case lz25LR4 => is_list); (case h0z25LR4 => omega); (case h1z25LR4 => simp only [List.length_cons, List.length_nil]; omega); (case hzz25LR4 => simp only [List.length_cons, List.length_nil]; omega); (case hvz25LR4 => repeat' (first | exact List.forall_mem_nil _ | refine List.forall_mem_cons.mpr ⟨⟨_, _, rfl, by omega, by omega⟩, ?_⟩)); intro i'z25LR4 t'z25LR4 b0z25LR4 b1z25LR4)))))
  (k_with "subscriptTail Name Constant ref int" => (((with_reducible show wpAny _ _ (subscriptTail _ _ (Value.ref (LP.now _)) (Value.int _ _)) _ _ _); k_dflt (refine' list_zero ?lz26LR4 ?_; (case lz26LR4 => is_list)))))
  (k_with "exec If" => ((k_dflt (refine wpAny_If ?_))))
  trivial
theorem reg_LR7 : True := by
  (k_with "compareOp NotIn int ref" => ((k_dflt (refine' notin12 ?htz0LR7 ?hrz0LR7 ?_; (case htz0LR7 => exact News.isTup (by k_asm) (by k_mem)); (case hrz0LR7 => first | exact .inl ⟨rfl, by assumption, by assumption⟩ | exact .inr ⟨rfl, .inl (by assumption)⟩ | exact .inr ⟨rfl, .inr (by assumption)⟩)))))
  (k_with "compareOp NotEq int int" => ((k_dflt (refine' ne_int_of ?hez1LR7 ?_; (case hez1LR7 => first | assumption | exact rfl)))))
  (k_with "subscriptTail Name Constant ref int" => (((with_reducible show wpAny _ _ (subscriptTail _ _ (Value.ref _) (Value.int 0 _)) _ _ _); k_dflt (refine' itup_0 ?Nz2LR7 ?hmz2LR7 ?_; (case Nz2LR7 => k_asm); (case hmz2LR7 => k_mem)))))
  (k_with "subscriptTail Name Constant ref int" => (((with_reducible show wpAny _ _ (subscriptTail _ _ (Value.ref _) (Value.int 1 _)) _ _ _); k_dflt (refine' itup_1 ?Nz3LR7 ?hmz3LR7 ?_; (case Nz3LR7 => k_asm); (case hmz3LR7 => k_mem)))))
  trivial
theorem law_holds : PySem.Challenge.rw_jn0050_01.Holds := by
  refine hd ?_
  (k_with "execs cons" => (k_dflt (first | (refine' seg_let (s0 := s8) ?Fq ?Nq ?hsq ?_; (case Fq => k_asm); (case Nq => k_asm); (case hsq => exact rfl)) | (refine' seg_let (s0 := s9) ?Fq ?Nq ?hsq ?_; (case Fq => k_asm); (case Nq => k_asm); (case hsq => exact rfl)) | ((with_reducible rename SegOn => kqOn); refine' seg_let (s0 := s0) ?Fq ?Nq ?hsq ?_; (case Fq => k_asm); (case Nq => k_asm); (case hsq => exact rfl))); intro AAq mmq nnq QQq hpq tkq Fq Nq; refine wpAny_execs_cons ?_))
  k_go0
  all_goals try k_fold
  rename Fr _ _ _ _ => F0
  rename News _ _ _ _ => N0
  rename Top _ _ _ _ _ (ghostOf _ _) => T0
  rename (Mine.hd.heap_39 _).In _ => X0
  rename Below _ _ _ _ => K0
  rename IntsAre _ _ => hI0
  have G := Gd.mk X0 ⟨_, _, _, _, _, T0⟩
  have R2 : Rm callerA 60 := ⟨rfl, by decide, by decide⟩
  refine law_cut (tabs := [(644, 640), (592, 588), (727, 723)]) F0 ?_ ?_
  rotate_left
  · intro h' tk' m' F GA
    exact ⟨goodW_bool F (by assumption) (raises_ok _) (post_ok _), GA⟩
  intro s0 QQ hQ
  have kqOn : SegOn := trivial
  rename_i y1 y2 y3 y4 y5 y6 y7 y8 y9 y10 y11 y12 y13 y14 y15 y16 y17 y18 y19 y20 y21 y22 y23 y24 y25 y26 y27 y28 y29 y30 y31 y32 y33 y34 y35 y36 y37 y38 y39 y40 y41 y42 y43 y44 y45 y46 y47 y48 y49
  clear y6 y7 y12 y13 hT8 y14 y15 y16 y17 y18 y19 hT9 y20 y22 y23 y24 y25 y26 y32 y33 y34 y35 y36 y38 y39
  generalize hL9 : y3.heap.objs.size = L9 at *
  generalize hg9 : ghostOf y3.heap [(644, 640), (592, 588), (727, 723)] = g9 at *
  clear hL9 hg9
  revert L9 g9
  refine keep ?_
  set_option tactic.hygienic false in intros
  (try dsimp only)
  repeat' ((fail_if_success (with_reducible show wpAny _ _ (exec (Stmt.For _ _ _ _ _) _) _ _ _)); (first | (k_unfold; (try dsimp only)) | (k_end; wrow_close) | walk1 | (dsimp only; walk1) | (leave1; walk_say "STEP leave1"; try dsimp only) | fail "no step"))
  rename Fr _ _ _ _ => F9
  rename News _ _ _ _ => N9
  obtain ⟨p0, es, Q0, ⟨q1, q2, q3, q4, q5⟩, ex, N8, nex, T8⟩ := law_init2 F9 N9 (by assumption) (by assumption) (by assumption) (by assumption) (by assumption) (by assumption) (by assumption) (by assumption) (by assumption) ⟨by k_mem, by k_mem, by k_mem⟩ (by assumption) (by assumption) (by assumption) (by assumption) (by assumption) (by assumption) (by simp) ⟨by omega, by omega⟩ ⟨by omega, by omega⟩ (ah_bd (by assumption) (by assumption) (by assumption) (by assumption))
  have nh0 := fun q hq => (nex q hq).1
  have nn0 := fun q hq => (nex q hq).2
  clear nex N9
  with_unfolding_all refine' For_invVF F9 ?k1 ?k2 ?_
  case k1 => exact rfl
  case k2 => exact rfl
  repeat' ((fail_if_success (with_reducible show wpAny _ _ (pyIter _) _ _ _)); (first | (k_unfold; (try dsimp only)) | (k_end; wrow_close) | walk1 | (dsimp only; walk1) | (leave1; walk_say "STEP leave1"; try dsimp only) | fail "no step"))
  rename Fr _ _ _ _ => F7
  rename News _ _ _ _ => N7
  rename IsRange _ _ _ _ _ _ _ _ => rg
  obtain ⟨p, ⟨exx, eh, en, ea, em, eah, eL1, eL2, es1, es2⟩, Q1, ex1, N6, ne6, T6⟩ := law_iter es Q0 F7 N7 T8 (Heap.get?_none_of_le (Nat.le_refl _))
  clear es Q0 T8 N8 N7 nh0 nn0
  subst eh
  subst en
  subst ea
  subst eL1
  subst eL2
  subst es1
  subst es2
  obtain ⟨c, hc0, hc1, hc2⟩ : ∃ c, p.ah = 60 * p.mu * c ∧ 1 ≤ c ∧ c ≤ 9 := ⟨1 + _, by rw [eah, em], by omega, by omega⟩
  have lb : LB p c := ⟨Q1.am, Q1.mu, ⟨hc1, hc2⟩, hc0⟩
  refine iter_rangeT (by exact rfl) rg (small_one (by decide) (by decide) (by omega) (by omega)) (rangeSize_nat _ _) F7 N6 (LawJ _ _ _ p c _ _ _ _ _ _ _) (fun _ q => q) ⟨_, _, _, _, _, _, _, _, _, _, _, rfl, ⟨by omega, by omega⟩, ⟨by omega, by omega⟩, T6, ne6, fun _ => Nat.zero_le _, (Rel.nil p c).mono (by omega), by exact rfl, by exact rfl, by rw [em]; exact rfl, by exact rfl, by exact rfl, by exact rfl, by exact rfl, by exact rfl, by exact rfl⟩ ?_ ?_
  · repeat (rename Fr _ _ _ _ => x; clear x)
    repeat (rename News _ _ _ _ => x; clear x)
    repeat (rename Tl _ _ _ _ => x; clear x)
    repeat (rename _ < _ ∧ _ => x; clear x)
    repeat (rename CodeHd _ _ _ => x; clear x)
    rintro i ti m₁ news₁ h8 tk8 oI own s9 I9 QT hi ⟨kk, t, tk1, tkn, epH, epN, ex, σ, b, u1, u2, rfl, ⟨hk0, hk1⟩, ⟨ht0, ht1⟩, T5, ne5, hb5, hr5, mh, ma, ml, msm, mgr, mse, mmi, mit, mot⟩ hI9 hoff how htI F₁ N₁ hQT
    have exx : p.xtra = [I9] := by rw [hI9]; exact exx
    have am := Q1.am
    have mu := Q1.mu
    have hi9 : i < 10 := by omega
    obtain ⟨B, hB⟩ : ∃ B : Int, B = 2000 * (i : Int) := ⟨_, rfl⟩
    obtain ⟨Bn, hBn⟩ : ∃ Bn : Nat, Bn = 2000 * i := ⟨_, rfl⟩
    rw [← hB] at hr5
    rw [← hBn] at hb5
    have hf1 : p.hand ≠ I9 := hoff _ (.head _)
    have hf2 : p.now ≠ I9 := hoff _ (.tail _ (.head _))
    have nh5 := fun q hq => (ne5 q hq).1
    have nn5 := fun q hq => (ne5 q hq).2.1
    (try dsimp only at F₁ N₁)
    rename _ = Data.cell (some (Value.int _ _)) => z80
    rw [← eah] at z80
    clear hI9 eah em rg
    repeat' ((fail_if_success (with_reducible show wpAny _ _ (execs (Stmt.If _ _ _ _ :: _) _) _ _ _)); (first | (k_unfold; (try dsimp only)) | (k_end; wrow_close) | walk1 | (dsimp only; walk1) | (leave1; walk_say "STEP leave1"; try dsimp only) | fail "no step"))
    rename Fr _ _ _ _ => F5
    rename News _ _ _ _ => N5
    replace N5 := N_tl (N_tl (N_tl N5))
    rename Tl _ _ _ _ => T6
    refine if_cutM (c := c) F5 N5 T6 (by (repeat (first | exact Spl.nil | apply Spl.cons))) (Bn + 300) (B + 200) ?_ ?_
    · intro MM hM
      repeat' ((fail_if_success (with_reducible show wpAny _ _ (compareOp _ _ _) _ _ _)); (first | (k_unfold; (try dsimp only)) | (k_end; wrow_close) | walk1 | (dsimp only; walk1) | (leave1; walk_say "STEP leave1"; try dsimp only) | fail "no step"))
      rename _ ∧ _ = stepV _ _ _ _ _ _ _ _ ∧ _ => hs
      rename Fr _ _ _ _ => F6
      rename News _ _ _ _ => N6
      rename Tl _ _ _ _ => T7
      have hs9 := stepV_split hs
      clear hs
      rcases hs9 with ⟨hd0, hv⟩ | ⟨hd0, hv⟩ | ⟨hd0, hd1, _ | _, hv⟩
      · subst hv
        repeat' ((fail_if_success (with_reducible show _ = _ ∧ _)); (first | (k_unfold; (try dsimp only)) | walk1 | (dsimp only; walk1) | fail "no step"))
        rename Fr _ _ _ _ => F9
        rename News _ _ _ _ => N9
        refine ⟨rfl, hM _ _ _ _ _ F9 (fun q hq => N9 q ?_) T7 ?_ ?_ ?_⟩
        · exact List.Mem.tail _ hq
        · exact fun q hq => ⟨(by assumption : ∀ q ∈ _, q.1 ≠ p.hand) q hq, (by assumption : ∀ q ∈ _, q.1 ≠ p.now) q hq, (by assumption : ∀ q ∈ _, ¬ q.1 ∈ p.xtra) q hq⟩
        · assumption
        · exact Rel.mono (by assumption) (by omega)
      · subst hv
        repeat' ((fail_if_success (with_reducible show _ = _ ∧ _)); (first | (k_unfold; (try dsimp only)) | walk1 | (dsimp only; walk1) | fail "no step"))
        rename Fr _ _ _ _ => F9
        rename News _ _ _ _ => N9
        refine ⟨rfl, hM _ _ _ _ _ F9 (fun q hq => N9 q ?_) T7 ?_ ?_ ?_⟩
        · exact List.Mem.tail _ hq
        · exact fun q hq => ⟨(by assumption : ∀ q ∈ _, q.1 ≠ p.hand) q hq, (by assumption : ∀ q ∈ _, q.1 ≠ p.now) q hq, (by assumption : ∀ q ∈ _, ¬ q.1 ∈ p.xtra) q hq⟩
        · assumption
        · exact Rel.mono (by assumption) (by omega)
      · subst hv
        repeat' ((fail_if_success (with_reducible show _ = _ ∧ _)); (first | (k_unfold; (try dsimp only)) | walk1 | (dsimp only; walk1) | fail "no step"))
        rename Fr _ _ _ _ => F9
        rename News _ _ _ _ => N9
        refine ⟨rfl, hM _ _ _ _ _ F9 (fun q hq => N9 q ?_) T7 ?_ ?_ ?_⟩
        · exact List.Mem.tail _ hq
        · exact fun q hq => ⟨(by assumption : ∀ q ∈ _, q.1 ≠ p.hand) q hq, (by assumption : ∀ q ∈ _, q.1 ≠ p.now) q hq, (by assumption : ∀ q ∈ _, ¬ q.1 ∈ p.xtra) q hq⟩
        · assumption
        · exact Rel.mono (by assumption) (by omega)
      · subst hv
        repeat' ((fail_if_success (with_reducible show _ = _ ∧ _)); (first | (k_unfold; (try dsimp only)) | walk1 | (dsimp only; walk1) | fail "no step"))
        rename Fr _ _ _ _ => F9
        rename News _ _ _ _ => N9
        refine ⟨rfl, hM _ _ _ _ _ F9 (fun q hq => N9 q ?_) T7 ?_ ?_ ?_⟩
        · exact List.Mem.tail _ hq
        · exact fun q hq => ⟨(by assumption : ∀ q ∈ _, q.1 ≠ p.hand) q hq, (by assumption : ∀ q ∈ _, q.1 ≠ p.now) q hq, (by assumption : ∀ q ∈ _, ¬ q.1 ∈ p.xtra) q hq⟩
        · assumption
        · exact Rel.mono (by assumption) (by omega)
    · clear F5 N5 T6
      repeat (rename Fr _ _ _ _ => x; clear x)
      repeat (rename News _ _ _ _ => x; clear x)
      repeat (rename Tl _ _ _ _ => x; clear x)
      repeat (rename ∀ q ∈ _, q.1 ≠ _ => x; clear x)
      repeat (rename ∀ q ∈ _, ¬ q.1 ∈ _ => x; clear x)
      repeat (rename Rel _ _ _ _ => x; clear x)
      repeat (rename Rel _ _ _ _ ∧ _ => x; clear x)
      repeat (rename _ < _ ∧ _ => x; clear x)
      intro h7 tk7 ex7 σ7 b7 F7 N7 T7 n7 hb7 hr7
      have nh7 := fun q hq => (n7 q hq).1
      have nn7 := fun q hq => (n7 q hq).2.1
      have nx7 := fun q hq => (n7 q hq).2.2
      clear n7
      simp only [List.cons_append, List.nil_append] at N7
      repeat' ((fail_if_success (with_reducible show wpAny _ _ (execs (Stmt.For _ _ _ _ _ :: _) _) _ _ _)); (first | (k_unfold; (try dsimp only)) | (k_end; wrow_close) | walk1 | (dsimp only; walk1) | (leave1; walk_say "STEP leave1"; try dsimp only) | fail "no step"))
      rename Fr _ _ _ _ => F8
      rename News _ _ _ _ => N8
      replace N8 := N_tl (N_tl N8)
      rename Tl _ _ _ _ => T8
      have T8 := T8.dropT
      rename Rel _ _ _ _ => hr8
      refine wpAny_execs_cons ?_
      with_unfolding_all refine' For_invVF F8 ?k1 ?k2 ?_
      case k1 => exact rfl
      case k2 => exact rfl
      repeat' ((fail_if_success (with_reducible show wpAny _ _ (pyIter _) _ _ _)); (first | (k_unfold; (try dsimp only)) | (k_end; wrow_close) | walk1 | (dsimp only; walk1) | (leave1; walk_say "STEP leave1"; try dsimp only) | fail "no step"))
      rename Fr _ _ _ _ => F9
      rename News _ _ _ _ => N9
      rename IsRange _ _ _ _ _ _ _ _ => rg
      obtain ⟨p2, hp2, Q2, ex2, N2, ne2, T2⟩ := law_iter4 Q1 F9 N9 T8 (by (repeat (first | exact Spl.nil | apply Spl.cons))) ⟨_, by k_mem⟩ ⟨_, by k_mem⟩ (Heap.get?_none_of_le (Nat.le_refl _))
      have e1 : p.hand = p2.hand := by rw [← hp2]
      have e2 : p.now = p2.now := by rw [← hp2]
      have e3 : p.am = p2.am := by rw [← hp2]
      have e4 : p.mu = p2.mu := by rw [← hp2]
      have e5 : p.ah = p2.ah := by rw [← hp2]
      have e6 : p.a = p2.a := by rw [← hp2]
      have e7 : p.Ls = p2.Ls := by rw [← hp2]
      have e8 := congrArg LP.xtra hp2
      dsimp only at e8
      have lb2 : LB p2 c := (show ∀ {B}, LB p B → LB p2 B from fun h => by subst hp2; exact h.addI) lb
      have hr2 := (show ∀ {B σ}, Rel p c B σ → Rel p2 c B σ from fun h => by subst hp2; exact h.addI) hr8
      rw [e1, e2] at N2
      rw [e8, e1, e2] at ne2
      rw [exx] at e8
      have e8 := e8.symm
      rw [e1] at mh
      rw [e3] at ma
      rw [e4] at ml
      rw [e6] at msm mgr
      rw [e7] at mse mmi
      rw [e5] at z80
      have hmt2 : p2.mu ≤ t := by omega
      have am2 := Q2.am
      have mu2 := Q2.mu
      clear N9 T8 T7 hr7 hr8 hb7 nh7 nn7 nx7
      refine iter_rangeT (n := 3) (by exact rfl) rg (by exact rfl) (by exact rfl) F9 N2 (LawK _ _ _ p2 c _ _ _ _ _ _ _ _ (Bn + 500) (B + 400)) (fun _ q => q) ⟨ex2, _, _, rfl, T2, ne2, ?_, ?_, by exact mh, by exact ma, by exact ml, by exact msm, by exact mgr, by exact mse, by exact mmi, by exact mit, by exact mot, by exact rfl, by exact rfl⟩ ?_ ?_
      · intro x
        have := (by assumption : ∀ x, _ ≤ Bn + 300 + 60 + 60 + 60) x
        omega
      · exact Rel.mono hr2 (by omega)
      · rintro j tj m₂ news₂ hk8 tkk8 oJ ownJ s8 I8 QJ hj ⟨exk, σk, bk, en9, Tk, nek, hbk, hrk, kh, ka, kl, ksm, kgr, kse, kmi, kit, kot, kmn, kyr⟩ hI8 hoffk howk htJ F₂ N₂ hQJ
        subst en9
        have e8 : p2.xtra = [I8, I9] := by rw [hI8]; exact e8
        clear F9 N2 T2 ne2 hI8
        (try dsimp only at F₂ N₂)
        simp only [List.cons_append, List.nil_append] at N₂
        have nhk := fun q hq => (nek q hq).1
        have nnk := fun q hq => (nek q hq).2.1
        have nxk := fun q hq => (nek q hq).2.2
        repeat' ((fail_if_success (with_reducible show wpAny _ _ (execs (Stmt.If _ _ _ _ :: _) _) _ _ _)); (first | (k_unfold; (try dsimp only)) | (k_end; wrow_close) | walk1 | (dsimp only; walk1) | (leave1; walk_say "STEP leave1"; try dsimp only) | fail "no step"))
        rename Fr _ _ _ _ => F5
        rename News _ _ _ _ => N5
        rename Tl _ _ _ _ => T6
        refine if_cutM (c := c) F5 N5 T6 (by (repeat (first | exact Spl.nil | apply Spl.cons))) (Bn + 500 + 200 * j + 120) (B + 400 + 200 * (j : Int) + 50) ?_ ?_
        · intro MM hM
          repeat' ((fail_if_success (with_reducible show _ = _ ∧ _)); (first | (k_unfold; (try dsimp only)) | walk1 | (dsimp only; walk1) | fail "no step"))
          rename Fr _ _ _ _ => F9
          rename News _ _ _ _ => N9
          refine ⟨rfl, hM _ _ _ _ _ F9 N9 T6 ?_ ?_ ?_⟩
          · exact fun q hq => ⟨(by assumption : ∀ q ∈ _, q.1 ≠ p2.hand) q hq, (by assumption : ∀ q ∈ _, q.1 ≠ p2.now) q hq, (by assumption : ∀ q ∈ _, ¬ q.1 ∈ p2.xtra) q hq⟩
          · assumption
          · exact Rel.mono (by assumption) (by omega)
        · intro h7 tk7 ex7 σ7 b7 F7 N7 T7 n7 hb7 hr7
          refine wpAny_execs_nil ?_
          refine hQJ _ _ _ _ F7 (fun q hq => ?_) (fun q hq => ?_) ⟨ex7, σ7, b7, rfl, T7, n7, ?_, ?_, by exact kh, by exact ka, by exact kl, by exact ksm, by exact kgr, by exact kse, by exact kmi, by exact kit, by exact kot, by exact kmn, by exact kyr⟩
          · rcases List.mem_append.mp hq with hq | hq
            · have z := howk q hq
              subst z
              exact N7 _ (by k_mem)
            · exact N7 q (.tail _ (.tail _ (.tail _ (.tail _ (.tail _ hq)))))
          · rcases List.mem_append.mp hq with hq | hq
            · intro z
              exact hoffk q (List.mem_append_left _ hq) z
            · intro z
              exact (n7 q hq).2.2 (by rw [e8, z]; exact .head _)
          · intro x
            have := hb7 x
            omega
          · exact Rel.mono hr7 (by omega)
      · rintro hk9 tkk9 mk9 newsk9 Fk9 Nk9 ⟨exk, σk, bk, rfl, Tk, nek, hbk, hrk, kh, ka, kl, ksm, kgr, kse, kmi, kit, kot, kmn, kyr⟩
        refine wpAny_execs_nil ?_
        have Tp := (show ∀ {I : Addr} {p2 : LP} {ex its σ b}, LP.mk _ _ _ _ _ _ _ _ (I :: p.xtra) _ _ _ = p2 → Tl _ _ ex (Wd _ p2 (avOf p2 _) its σ b) → Tl _ _ ex (Wd _ p (avOf p _) its σ b) from fun h T => by subst h; exact T.dropJ) hp2 Tk
        have hrp := (show ∀ {B σ}, Rel p2 c B σ → Rel p c B σ from fun h => by subst hp2; exact h.dropI) hrk
        rw [← e1, ← e2] at Nk9 nek
        rw [← e1] at kh
        rw [← e3] at ka
        rw [← e4] at kl
        rw [← e6] at ksm kgr
        rw [← e7] at kse kmi
        simp only [List.cons_append, List.nil_append] at Nk9
        obtain ⟨kk9, tk9', ep9, hkm, hka, hkb⟩ : ∃ kk tk ep, News g9 L9 hk9 [(p.hand, W.listOf (List.toArray [.ref y29, .int kk tk]) ep)] ∧ 0 ≤ kk ∧ kk ≤ 5 + 10 * ((i + 1 : Nat) : Int) := ⟨_, _, _, (fun q hq => Nk9 q (by rw [List.mem_singleton.mp hq]; k_mem)), by omega, by omega⟩
        obtain ⟨t9, tk9n, ep9n, htm, hta, htb⟩ : ∃ t tk ep, News g9 L9 hk9 [(p.now, W.listOf (List.toArray [.int t tk]) ep)] ∧ p.mu ≤ t ∧ t ≤ 8 + 50 * ((i + 1 : Nat) : Int) := ⟨_, _, _, (fun q hq => Nk9 q (by rw [List.mem_singleton.mp hq]; k_mem)), by omega, by omega⟩
        have hcn := hoff _ (.tail _ (.tail _ (.head _)))
        have hca := hoff _ (.tail _ (.tail _ (.tail _ (.head _))))
        refine hQT _ _ _ _ Fk9 (fun q hq => ?_) (fun q hq => ?_) ⟨kk9, t9, tk9', tk9n, ep9, ep9n, exk, σk, bk, _, _, rfl, ⟨hka, hkb⟩, ⟨hta, htb⟩, Tp, (fun q hq => ⟨(nek q hq).1, (nek q hq).2.1, fun z => (nek q hq).2.2 (by rw [exx] at z; rw [e8]; exact .tail _ z)⟩), ?_, ?_, by exact kh, by exact ka, by exact kl, by exact ksm, by exact kgr, by exact kse, by exact kmi, by exact kit, by exact kot⟩
        · rcases List.mem_append.mp hq with hq | hq
          · have z := how q hq
            subst z
            exact Nk9 _ (by k_mem)
          · rcases List.mem_cons.mp hq with z | hq
            · exact hkm q (List.mem_singleton.mpr z)
            rcases List.mem_cons.mp hq with z | hq
            · exact htm q (List.mem_singleton.mpr z)
            rcases List.mem_cons.mp hq with z | hq
            · rw [z]; exact Nk9 _ (by k_mem)
            rcases List.mem_cons.mp hq with z | hq
            · rw [z]; exact Nk9 _ (by k_mem)
            exact Nk9 q (by repeat (first | exact hq | apply List.Mem.tail))
        · intro z
          rcases List.mem_cons.mp hq with y | hq
          · rw [y] at z; exact hf1 z
          rcases List.mem_cons.mp hq with y | hq
          · rw [y] at z; exact hf2 z
          rcases List.mem_cons.mp hq with y | hq
          · rw [y] at z; exact hcn z
          rcases List.mem_cons.mp hq with y | hq
          · rw [y] at z; exact hca z
          exact (nek q hq).2.2 (by rw [e8, z]; exact .tail _ (.head _))
        · intro x
          have := hbk x
          omega
        · exact Rel.mono hrp (by omega)
  · clear kqOn
    rintro h9 tk9 m9 news9 F8 N9 ⟨kk, t, tk1, tkn, epH, epN, ex, σ, b, u1, u2, rfl, ⟨hk0, hk1⟩, ⟨ht0, ht1⟩, T5, ne5, hb5, hr5, mh, ma, ml, msm, mgr, mse, mmi, mit, mot⟩
    have Wf := T5 h9 m9 F8 (fun q hq => N9 q (.tail _ (.tail _ (.tail _ (.tail _ hq)))))
    obtain ⟨pg, tg⟩ := Wf.tb.g
    obtain ⟨px, tx⟩ := Wf.tb.x
    have GA : GrownAll [(644, 640), (592, 588), (727, 723)] h9 := ⟨⟨_, tg.1⟩, ⟨_, tx.1⟩, (Wf.f h9 (fun _ _ e _ => e)).g3, trivial⟩
    clear F9 F7 N6 T6 ne6
    dsimp only
    walk1
    walk1
    walk1
    dsimp only
    exact hQ _ _ _ F8 GA
end
end Mine
theorem PySem.Challenge.cw_jn0050_01_holds : PySem.Challenge.rw_jn0050_01.Holds := by
  exact Mine.law_holds
