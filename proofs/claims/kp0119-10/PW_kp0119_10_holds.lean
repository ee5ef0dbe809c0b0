import PyProof.Rows.All
import Wide.All
import OpenK.AllK
import Wide.FinOn
import PySem.Challenge.RW_kp0119_10
set_option Elab.async false
set_option maxRecDepth 100000
set_option maxHeartbeats 8000000
set_option compiler.extract_closed false
set_option linter.unusedVariables false
namespace PySem.W.Fast
theorem tw10007627690174824804 : True := trivial
theorem tw10010936943081839664 : True := trivial
theorem tw10015664371746657536 : True := trivial
theorem tw10028428298569065181 : True := trivial
theorem tw10029231156530900338 : True := trivial
theorem tw10030586065758793078 : True := trivial
theorem tw10040787053062605231 : True := trivial
theorem tw10042830170769951172 : True := trivial
theorem tw10045867985992453528 : True := trivial
theorem tw10057510723706494237 : True := trivial
theorem tw10058976618658966374 : True := trivial
theorem tw10073347824450446311 : True := trivial
theorem tw10093032338203421213 : True := trivial
theorem tw10138199336372458610 : True := trivial
theorem tw10181792811725400092 : True := trivial
theorem tw10190238754879171395 : True := trivial
theorem tw10205541121877940668 : True := trivial
theorem tw10227693086864044499 : True := trivial
theorem tw10314498396905981064 : True := trivial
theorem tw10317580896714288900 : True := trivial
theorem tw10323183001455561277 : True := trivial
theorem tw10352308551163946355 : True := trivial
theorem tw1041845030581493396 : True := trivial
theorem tw10424941004445345732 : True := trivial
theorem tw10455430044892516648 : True := trivial
theorem tw10460931487171540145 : True := trivial
theorem tw10470071008263537045 : True := trivial
theorem tw10500077913531017323 : True := trivial
theorem tw10508251915553800215 : True := trivial
theorem tw10589684114461592954 : True := trivial
theorem tw10650810973499830745 : True := trivial
theorem tw10670733350059645105 : True := trivial
theorem tw10719484529398299949 : True := trivial
theorem tw10727534119236929211 : True := trivial
theorem tw10758392820592806131 : True := trivial
theorem tw10767066097796618615 : True := trivial
theorem tw10819683100428557426 : True := trivial
theorem tw10833955939284561965 : True := trivial
theorem tw1085346719588807367 : True := trivial
theorem tw10885399304501877467 : True := trivial
theorem tw10887116778572429059 : True := trivial
theorem tw10903434022276703401 : True := trivial
theorem tw10919533547850550483 : True := trivial
theorem tw10938465397075749097 : True := trivial
theorem tw10939839348159177617 : True := trivial
theorem tw10948738476641704880 : True := trivial
theorem tw10964334890339321822 : True := trivial
theorem tw10970087489707964778 : True := trivial
theorem tw10996506086634736982 : True := trivial
theorem tw11013792430000457035 : True := trivial
theorem tw11036193050239951465 : True := trivial
theorem tw1107438419126420414 : True := trivial
theorem tw11130039905162102590 : True := trivial
theorem tw11166942722945506595 : True := trivial
theorem tw11186114360453789277 : True := trivial
theorem tw11270796479367742343 : True := trivial
theorem tw11277413387252134812 : True := trivial
theorem tw11306939235166856333 : True := trivial
theorem tw11317593695737139937 : True := trivial
theorem tw11328821685186248670 : True := trivial
theorem tw11333186260410459676 : True := trivial
theorem tw11386669929835065156 : True := trivial
theorem tw1139862187096482527 : True := trivial
theorem tw11420187438672877268 : True := trivial
theorem tw11445135464325071761 : True := trivial
theorem tw11452132507678324671 : True := trivial
theorem tw11462045893675790159 : True := trivial
theorem tw11510725203611331906 : True := trivial
theorem tw11518781747449614426 : True := trivial
theorem tw11543547407058413889 : True := trivial
theorem tw1156252341971683116 : True := trivial
theorem tw11566699232636054958 : True := trivial
theorem tw11588390666370768167 : True := trivial
theorem tw11625766737575182897 : True := trivial
theorem tw11682084944484805031 : True := trivial
theorem tw11707371222683016368 : True := trivial
theorem tw11707433790658880453 : True := trivial
theorem tw117213463901210413 : True := trivial
theorem tw11729385059970357855 : True := trivial
theorem tw11740888236361828772 : True := trivial
theorem tw11767421526060770920 : True := trivial
theorem tw11788150170368784547 : True := trivial
theorem tw11790162104776037713 : True := trivial
theorem tw11796506867022685745 : True := trivial
theorem tw11816105743526837780 : True := trivial
theorem tw11817470609975844035 : True := trivial
theorem tw11825729669827539873 : True := trivial
theorem tw11838138170533393997 : True := trivial
theorem tw1184552218554016812 : True := trivial
theorem tw11853533878840232495 : True := trivial
theorem tw11863081143760314161 : True := trivial
theorem tw11891824955294080559 : True := trivial
theorem tw11892598404827812706 : True := trivial
theorem tw1189734492583310 : True := trivial
theorem tw11957962974430299695 : True := trivial
theorem tw11964429278604863157 : True := trivial
theorem tw11985326045990495214 : True := trivial
theorem tw11994158751524154303 : True := trivial
theorem tw12022618010286034681 : True := trivial
theorem tw12025208970609079342 : True := trivial
theorem tw1204117194425446250 : True := trivial
theorem tw1210750091971509897 : True := trivial
theorem tw12114495157272644582 : True := trivial
theorem tw12128325577817847261 : True := trivial
theorem tw12170303376835216750 : True := trivial
theorem tw12172078356533094185 : True := trivial
theorem tw12177649209318274912 : True := trivial
theorem tw12182807814244774211 : True := trivial
theorem tw1218959903707654005 : True := trivial
theorem tw12233582284571471492 : True := trivial
theorem tw12237943961548833269 : True := trivial
theorem tw12268644228514654432 : True := trivial
theorem tw12290603225136948437 : True := trivial
theorem tw12329403913580668285 : True := trivial
theorem tw12359285113459375979 : True := trivial
theorem tw12371321757623732685 : True := trivial
theorem tw12392613427281201732 : True := trivial
theorem tw12393455550290869266 : True := trivial
theorem tw12456492676567594705 : True := trivial
theorem tw12488000419048109807 : True := trivial
theorem tw12494133203773749484 : True := trivial
theorem tw12514420918058828425 : True := trivial
theorem tw12526863579885937616 : True := trivial
theorem tw12540713548012372134 : True := trivial
theorem tw1258717718454355964 : True := trivial
theorem tw12635813782599140982 : True := trivial
theorem tw12647630874787467225 : True := trivial
theorem tw12659028871203227004 : True := trivial
theorem tw12660628722211587041 : True := trivial
theorem tw1267870562809915468 : True := trivial
theorem tw12679591844961189642 : True := trivial
theorem tw12726346659333912481 : True := trivial
theorem tw12731603968600162155 : True := trivial
theorem tw12807690338718825411 : True := trivial
theorem tw12813236842856870187 : True := trivial
theorem tw12821735335276811757 : True := trivial
theorem tw12825359941727978080 : True := trivial
theorem tw12832477231654346042 : True := trivial
theorem tw12835720964997663042 : True := trivial
theorem tw12850107946570832962 : True := trivial
theorem tw12866136484021002089 : True := trivial
theorem tw12898947447245864913 : True := trivial
theorem tw1291980286583624508 : True := trivial
theorem tw12945451867199242903 : True := trivial
theorem tw12945968074294007009 : True := trivial
theorem tw12973657651903071711 : True := trivial
theorem tw12981051755390344553 : True := trivial
theorem tw12989987162080215863 : True := trivial
theorem tw13002492023102617099 : True := trivial
theorem tw13016732220969518872 : True := trivial
theorem tw13036272033356848781 : True := trivial
theorem tw13049295678815447386 : True := trivial
theorem tw1305609685974793870 : True := trivial
theorem tw13102660428377437172 : True := trivial
theorem tw13121200027793486533 : True := trivial
theorem tw13141144453892091621 : True := trivial
theorem tw13156168479132978002 : True := trivial
theorem tw13169248704851481478 : True := trivial
theorem tw13180171748994924942 : True := trivial
theorem tw13191295725559111208 : True := trivial
theorem tw1320183511955256522 : True := trivial
theorem tw13215998728584607739 : True := trivial
theorem tw13236226663087606529 : True := trivial
theorem tw13251646731365433171 : True := trivial
theorem tw13252181687094117063 : True := trivial
theorem tw13254397897704925713 : True := trivial
theorem tw13314330512976039754 : True := trivial
theorem tw13317431791736044220 : True := trivial
theorem tw13329733208086693882 : True := trivial
theorem tw1333364371103165705 : True := trivial
theorem tw13336175834630783545 : True := trivial
theorem tw13427988762788590312 : True := trivial
theorem tw13471316229770301743 : True := trivial
theorem tw13471461260053382970 : True := trivial
theorem tw13479600455187215721 : True := trivial
theorem tw13505292571300825877 : True := trivial
theorem tw13512673800721320934 : True := trivial
theorem tw13526986893379352335 : True := trivial
theorem tw13551572312386263098 : True := trivial
theorem tw1355338860687761863 : True := trivial
theorem tw13580328829973926956 : True := trivial
theorem tw13581749221687468397 : True := trivial
theorem tw13607416678640721797 : True := trivial
theorem tw13615603153576403970 : True := trivial
theorem tw13640514254501968386 : True := trivial
theorem tw13642483538084851733 : True := trivial
theorem tw13678640442995254988 : True := trivial
theorem tw13725850141900786883 : True := trivial
theorem tw13746126617404028095 : True := trivial
theorem tw13759679279233594173 : True := trivial
theorem tw1377046205977697930 : True := trivial
theorem tw13776390136698705113 : True := trivial
theorem tw13789449189825218787 : True := trivial
theorem tw1379578315556383370 : True := trivial
theorem tw13804622635509601256 : True := trivial
theorem tw13809362725867891129 : True := trivial
theorem tw13833065179229638619 : True := trivial
theorem tw13853819408611901635 : True := trivial
theorem tw13871001218405608335 : True := trivial
theorem tw13900631225919944168 : True := trivial
theorem tw13902233598862641821 : True := trivial
theorem tw13903129631018457399 : True := trivial
theorem tw13912434898499826684 : True := trivial
theorem tw13925586954763233925 : True := trivial
theorem tw1393629259489396696 : True := trivial
theorem tw13951202360752479828 : True := trivial
theorem tw13951257522405164796 : True := trivial
theorem tw139799656371268569 : True := trivial
theorem tw13981391230805400906 : True := trivial
theorem tw13987355940573415152 : True := trivial
theorem tw1401972060568974870 : True := trivial
theorem tw14023627001141898710 : True := trivial
theorem tw14031254098957005024 : True := trivial
theorem tw14043711374191979534 : True := trivial
theorem tw14073706353221006472 : True := trivial
theorem tw14096952598973939363 : True := trivial
theorem tw14097648870716263351 : True := trivial
theorem tw14108194823987119177 : True := trivial
theorem tw14112274594779413971 : True := trivial
theorem tw14126943448341045398 : True := trivial
theorem tw14168537005229113720 : True := trivial
theorem tw14185684948912167051 : True := trivial
theorem tw14186486079044719983 : True := trivial
theorem tw1419416864934026935 : True := trivial
theorem tw14209830616999942402 : True := trivial
theorem tw14210447440969649564 : True := trivial
theorem tw14214133299417103183 : True := trivial
theorem tw14223099787259518943 : True := trivial
theorem tw14224011070414065920 : True := trivial
theorem tw1423138165483278961 : True := trivial
theorem tw14273802060069496912 : True := trivial
theorem tw14285029430470858289 : True := trivial
theorem tw14305139224198610471 : True := trivial
theorem tw14311459727803291754 : True := trivial
theorem tw14323765505736481980 : True := trivial
theorem tw14326252917377295143 : True := trivial
theorem tw14333388528381170442 : True := trivial
theorem tw14364280277409689854 : True := trivial
theorem tw14386061602966655976 : True := trivial
theorem tw14420389602138693270 : True := trivial
theorem tw14427280190107063356 : True := trivial
theorem tw14433975572909055671 : True := trivial
theorem tw14489655085307688843 : True := trivial
theorem tw14530364306720264245 : True := trivial
theorem tw14537914154153760125 : True := trivial
theorem tw14544052848187043789 : True := trivial
theorem tw14553827428707814869 : True := trivial
theorem tw14638366451347569053 : True := trivial
theorem tw14714103240675001986 : True := trivial
theorem tw14763704009068828915 : True := trivial
theorem tw14766643958189025262 : True := trivial
theorem tw14778209649434054790 : True := trivial
theorem tw14821650378409806113 : True := trivial
theorem tw148260917463534702 : True := trivial
theorem tw14834023430324568649 : True := trivial
theorem tw14837249469386935497 : True := trivial
theorem tw14874922208557711187 : True := trivial
theorem tw14884601019740666482 : True := trivial
theorem tw14896874001708588922 : True := trivial
theorem tw14907048974825807369 : True := trivial
theorem tw14909702598903578594 : True := trivial
theorem tw14971970265804392439 : True := trivial
theorem tw14973007898608030118 : True := trivial
theorem tw14979626087600564940 : True := trivial
theorem tw14981143343336467331 : True := trivial
theorem tw15007238320947547705 : True := trivial
theorem tw15020028541594565831 : True := trivial
theorem tw15028816761298942483 : True := trivial
theorem tw15034313371233782410 : True := trivial
theorem tw15039117976438264115 : True := trivial
theorem tw15041003319150489328 : True := trivial
theorem tw15059462757989803610 : True := trivial
theorem tw15066959818950650227 : True := trivial
theorem tw15079194523842364033 : True := trivial
theorem tw15105112419605019160 : True := trivial
theorem tw15112985482279097393 : True := trivial
theorem tw15194748194917737719 : True := trivial
theorem tw151948405760981731 : True := trivial
theorem tw15195428891847259777 : True := trivial
theorem tw15199281503961881116 : True := trivial
theorem tw15202239659555905331 : True := trivial
theorem tw15207642765257501584 : True := trivial
theorem tw15215539614974913122 : True := trivial
theorem tw15247426752500302083 : True := trivial
theorem tw15263041282635125899 : True := trivial
theorem tw15278061642289888581 : True := trivial
theorem tw15300170045991075079 : True := trivial
theorem tw15315713394281565010 : True := trivial
theorem tw15323854079317868165 : True := trivial
theorem tw1536587703002861866 : True := trivial
theorem tw1537898542681612871 : True := trivial
theorem tw15423634916342008072 : True := trivial
theorem tw1544652992362985085 : True := trivial
theorem tw15450981722951097364 : True := trivial
theorem tw15468230090516036684 : True := trivial
theorem tw15480198773659482676 : True := trivial
theorem tw15490439104401381959 : True := trivial
theorem tw15542503528162795033 : True := trivial
theorem tw15542691292777871779 : True := trivial
theorem tw15560500314895047343 : True := trivial
theorem tw15560853006256673968 : True := trivial
theorem tw15562837088269578035 : True := trivial
theorem tw15663404670287596823 : True := trivial
theorem tw15742981410569661332 : True := trivial
theorem tw1574873078441994576 : True := trivial
theorem tw15773981995205291829 : True := trivial
theorem tw15781324953245214433 : True := trivial
theorem tw15806122291839087668 : True := trivial
theorem tw15808557625122938864 : True := trivial
theorem tw15823609455315575823 : True := trivial
theorem tw15880737140895825463 : True := trivial
theorem tw15900120412870309639 : True := trivial
theorem tw15902184279288820625 : True := trivial
theorem tw15919542637913265678 : True := trivial
theorem tw15965015591981942514 : True := trivial
theorem tw15980859228951719591 : True := trivial
theorem tw16018607276475445134 : True := trivial
theorem tw16049961110935095269 : True := trivial
theorem tw16127339712140622707 : True := trivial
theorem tw16145008321745377990 : True := trivial
theorem tw1615719349143574890 : True := trivial
theorem tw16172117957621229858 : True := trivial
theorem tw16176465441171805009 : True := trivial
theorem tw16180483070735683940 : True := trivial
theorem tw16180582048198870337 : True := trivial
theorem tw16189536214700107852 : True := trivial
theorem tw1620339239838986703 : True := trivial
theorem tw16223305294053301992 : True := trivial
theorem tw16241802466949684156 : True := trivial
theorem tw16280195873916505411 : True := trivial
theorem tw16292439048969090190 : True := trivial
theorem tw16296994325663420285 : True := trivial
theorem tw1631149150583789468 : True := trivial
theorem tw16326889199254633757 : True := trivial
theorem tw16328912562034613984 : True := trivial
theorem tw16339471991904476338 : True := trivial
theorem tw16349216596472256690 : True := trivial
theorem tw16349804527192203551 : True := trivial
theorem tw16350708796919097252 : True := trivial
theorem tw16366562015402752707 : True := trivial
theorem tw16374537267813192141 : True := trivial
theorem tw1638017585896720355 : True := trivial
theorem tw16406328271908756883 : True := trivial
theorem tw16413963553889246368 : True := trivial
theorem tw16414604833108395602 : True := trivial
theorem tw16417370028952169744 : True := trivial
theorem tw16432479971616331241 : True := trivial
theorem tw16437185098154296904 : True := trivial
theorem tw16474492168511960337 : True := trivial
theorem tw16487025518467493737 : True := trivial
theorem tw16494616584097029746 : True := trivial
theorem tw16531745337717519161 : True := trivial
theorem tw16548257151911338427 : True := trivial
theorem tw16593013826814733010 : True := trivial
theorem tw16643706677886111943 : True := trivial
theorem tw16644606511662114574 : True := trivial
theorem tw16645262185327669138 : True := trivial
theorem tw16655555454665732581 : True := trivial
theorem tw1667231139898017245 : True := trivial
theorem tw16697116713213952808 : True := trivial
theorem tw16752143609539240740 : True := trivial
theorem tw16758808235637498351 : True := trivial
theorem tw16792545251062261874 : True := trivial
theorem tw16817318245366136608 : True := trivial
theorem tw16865151637890581275 : True := trivial
theorem tw16869277618539721502 : True := trivial
theorem tw16873187988247708562 : True := trivial
theorem tw16874561944515371726 : True := trivial
theorem tw16904869804480856166 : True := trivial
theorem tw1690735587144091376 : True := trivial
theorem tw16916688483869632129 : True := trivial
theorem tw16942504070071679284 : True := trivial
theorem tw16950312913027304927 : True := trivial
theorem tw16966814322356759819 : True := trivial
theorem tw16979880578912567463 : True := trivial
theorem tw17000155066101142889 : True := trivial
theorem tw17000458434675057986 : True := trivial
theorem tw17001327861769816259 : True := trivial
theorem tw17018628822417861297 : True := trivial
theorem tw17020146562604978829 : True := trivial
theorem tw17020626225693228618 : True := trivial
theorem tw17024950926791866790 : True := trivial
theorem tw1702518465993881591 : True := trivial
theorem tw17027947056734134637 : True := trivial
theorem tw17045043414572947948 : True := trivial
theorem tw17057272898397164401 : True := trivial
theorem tw17069979004554194336 : True := trivial
theorem tw1708024556718086227 : True := trivial
theorem tw17082801352038058188 : True := trivial
theorem tw17100903815162463580 : True := trivial
theorem tw17111948838632640456 : True := trivial
theorem tw17139780236743587250 : True := trivial
theorem tw17164873540382356111 : True := trivial
theorem tw17172517015917474193 : True := trivial
theorem tw17183712847048597117 : True := trivial
theorem tw17212143322351820752 : True := trivial
theorem tw17230556039016184743 : True := trivial
theorem tw17244072584429378644 : True := trivial
theorem tw17274371674624000324 : True := trivial
theorem tw17279654841073493023 : True := trivial
theorem tw17295947923314359676 : True := trivial
theorem tw17318589155259679147 : True := trivial
theorem tw17325535178939296128 : True := trivial
theorem tw17341736924252097559 : True := trivial
theorem tw17344680358763864322 : True := trivial
theorem tw17352973434858128600 : True := trivial
theorem tw1735497430108182060 : True := trivial
theorem tw17429684086410527887 : True := trivial
theorem tw17434858337260393937 : True := trivial
theorem tw17457227385753763069 : True := trivial
theorem tw17475289236778735526 : True := trivial
theorem tw17476080006546285661 : True := trivial
theorem tw17497748084772794779 : True := trivial
theorem tw1749818173716722547 : True := trivial
theorem tw17503288770812694035 : True := trivial
theorem tw17517737089405305841 : True := trivial
theorem tw17520869792638436183 : True := trivial
theorem tw17532440430192770315 : True := trivial
theorem tw17532718790514356516 : True := trivial
theorem tw17537794083376710389 : True := trivial
theorem tw17552769576498331613 : True := trivial
theorem tw17554001833073541016 : True := trivial
theorem tw17596809139577655471 : True := trivial
theorem tw1763209079605825380 : True := trivial
theorem tw17679261114430710190 : True := trivial
theorem tw1771862750571323454 : True := trivial
theorem tw17727738676932873817 : True := trivial
theorem tw17730428716208468724 : True := trivial
theorem tw17730448691065144110 : True := trivial
theorem tw17765544955259793912 : True := trivial
theorem tw17768419659990539469 : True := trivial
theorem tw17774800907425398282 : True := trivial
theorem tw17803129079492736432 : True := trivial
theorem tw17804436615005485693 : True := trivial
theorem tw17814930658547583709 : True := trivial
theorem tw17815586953681464072 : True := trivial
theorem tw17828083071136270317 : True := trivial
theorem tw17842620306162639686 : True := trivial
theorem tw178441218286455893 : True := trivial
theorem tw17846936440860909165 : True := trivial
theorem tw17853915177807527196 : True := trivial
theorem tw17863021456227041891 : True := trivial
theorem tw17888162413812561239 : True := trivial
theorem tw17899373020297197333 : True := trivial
theorem tw17913803186225011329 : True := trivial
theorem tw17919728810627054236 : True := trivial
theorem tw17943406268862710625 : True := trivial
theorem tw17954471519018878134 : True := trivial
theorem tw17964007177503468958 : True := trivial
theorem tw17975652961387846372 : True := trivial
theorem tw17988542015724977305 : True := trivial
theorem tw17993156020533580102 : True := trivial
theorem tw18011524253729791491 : True := trivial
theorem tw18056578402003937789 : True := trivial
theorem tw18101931140130867144 : True := trivial
theorem tw18123110421147349612 : True := trivial
theorem tw18126140380344562322 : True := trivial
theorem tw18163462532019968843 : True := trivial
theorem tw18163708392712065173 : True := trivial
theorem tw18188234029961486008 : True := trivial
theorem tw18211773271919218964 : True := trivial
theorem tw18220123701641295943 : True := trivial
theorem tw18260038339965228139 : True := trivial
theorem tw18263319221461684349 : True := trivial
theorem tw18273839248471157720 : True := trivial
theorem tw18283703058932287227 : True := trivial
theorem tw1829445100760108279 : True := trivial
theorem tw18310272354389090212 : True := trivial
theorem tw18312937565365389666 : True := trivial
theorem tw18315507643657518315 : True := trivial
theorem tw18340240734955500558 : True := trivial
theorem tw18345786424863182364 : True := trivial
theorem tw18350330562280901221 : True := trivial
theorem tw18371169792594650754 : True := trivial
theorem tw18386054884457128365 : True := trivial
theorem tw18410474027866654770 : True := trivial
theorem tw18416463498863911781 : True := trivial
theorem tw18428756778242999024 : True := trivial
theorem tw1869930749605803152 : True := trivial
theorem tw1886563365779066154 : True := trivial
theorem tw189603312586018693 : True := trivial
theorem tw1962928258387122110 : True := trivial
theorem tw196644378293983589 : True := trivial
theorem tw2001226814458364393 : True := trivial
theorem tw2011108890870493169 : True := trivial
theorem tw2039238271031011813 : True := trivial
theorem tw2077871619930789226 : True := trivial
theorem tw2078703811421203504 : True := trivial
theorem tw2111918204881537658 : True := trivial
theorem tw2118141222776746865 : True := trivial
theorem tw2134368852220247820 : True := trivial
theorem tw2193789692954389824 : True := trivial
theorem tw2283851925072248500 : True := trivial
theorem tw2302674139485633275 : True := trivial
theorem tw2315820567201803617 : True := trivial
theorem tw2334299552400917057 : True := trivial
theorem tw2354101950205528012 : True := trivial
theorem tw2370070277545300124 : True := trivial
theorem tw2370425770031549630 : True := trivial
theorem tw2408619945344806742 : True := trivial
theorem tw2460228577881660442 : True := trivial
theorem tw2478078296215019888 : True := trivial
theorem tw2504098582860672743 : True := trivial
theorem tw2506853364499732696 : True := trivial
theorem tw2569364866550412066 : True := trivial
theorem tw2571919107429820419 : True := trivial
theorem tw2599325451414397859 : True := trivial
theorem tw2611137233208623240 : True := trivial
theorem tw2627984346626558326 : True := trivial
theorem tw2660918139993853925 : True := trivial
theorem tw2664551874359636763 : True := trivial
theorem tw2674190319118857908 : True := trivial
theorem tw2711585505577850959 : True := trivial
theorem tw2718901123391026995 : True := trivial
theorem tw2735471455948067141 : True := trivial
theorem tw2736616831223182526 : True := trivial
theorem tw282004115355043989 : True := trivial
theorem tw2862820112641550484 : True := trivial
theorem tw2883484788219351825 : True := trivial
theorem tw2902314222560053993 : True := trivial
theorem tw2905824091091238844 : True := trivial
theorem tw2922074901204462755 : True := trivial
theorem tw293829605474521371 : True := trivial
theorem tw2948108419219029167 : True := trivial
theorem tw2949557819572172630 : True := trivial
theorem tw2951486255847992690 : True := trivial
theorem tw2958062672499776758 : True := trivial
theorem tw2968979199505139716 : True := trivial
theorem tw3039592710220408265 : True := trivial
theorem tw3093977132361051618 : True := trivial
theorem tw3094477031063562474 : True := trivial
theorem tw3118938333895590913 : True := trivial
theorem tw313226197891681235 : True := trivial
theorem tw3142773779024712118 : True := trivial
theorem tw3148276903521382524 : True := trivial
theorem tw3152983702415266003 : True := trivial
theorem tw3209381107111851631 : True := trivial
theorem tw325292655437039998 : True := trivial
theorem tw3256587380925597060 : True := trivial
theorem tw3264259588550801142 : True := trivial
theorem tw3267979357774110234 : True := trivial
theorem tw3278890724526064558 : True := trivial
theorem tw3282434896037501709 : True := trivial
theorem tw3302314484089059179 : True := trivial
theorem tw3315324234476444515 : True := trivial
theorem tw3325841961599345399 : True := trivial
theorem tw3327986453032591115 : True := trivial
theorem tw3345107109950449737 : True := trivial
theorem tw3355348695024010778 : True := trivial
theorem tw3365093317950918147 : True := trivial
theorem tw3386650904741475044 : True := trivial
theorem tw3421647286062184163 : True := trivial
theorem tw3424931102881643321 : True := trivial
theorem tw3427515755752030745 : True := trivial
theorem tw3436264866546951355 : True := trivial
theorem tw3442601649717412197 : True := trivial
theorem tw3470799630455053000 : True := trivial
theorem tw347637069881736656 : True := trivial
theorem tw3504847659760329788 : True := trivial
theorem tw3545756843259802059 : True := trivial
theorem tw3619232141914619222 : True := trivial
theorem tw3698559305507148144 : True := trivial
theorem tw3740020263889925745 : True := trivial
theorem tw3764465048917985505 : True := trivial
theorem tw3766158894648301139 : True := trivial
theorem tw3768068617246420682 : True := trivial
theorem tw3778451253796500701 : True := trivial
theorem tw3820604794100220378 : True := trivial
theorem tw3826639566459466600 : True := trivial
theorem tw383695940523520267 : True := trivial
theorem tw3856783459128436802 : True := trivial
theorem tw3865406201487662470 : True := trivial
theorem tw387338674003428930 : True := trivial
theorem tw3880421473898291048 : True := trivial
theorem tw3889259530307233657 : True := trivial
theorem tw3891137856419664920 : True := trivial
theorem tw389472881494512206 : True := trivial
theorem tw392140993173905013 : True := trivial
theorem tw3952652319720093869 : True := trivial
theorem tw3972328310683599613 : True := trivial
theorem tw3976722010076183465 : True := trivial
theorem tw4011157648589011858 : True := trivial
theorem tw4039474712603431140 : True := trivial
theorem tw4042386549635913901 : True := trivial
theorem tw4075660801711882420 : True := trivial
theorem tw4090926877573551719 : True := trivial
theorem tw4091194055036891139 : True := trivial
theorem tw4109823476700235019 : True := trivial
theorem tw4111355340424721971 : True := trivial
theorem tw4172830789200971933 : True := trivial
theorem tw4224760802259116069 : True := trivial
theorem tw4278798014809849964 : True := trivial
theorem tw4287028408620065468 : True := trivial
theorem tw4292500188555128830 : True := trivial
theorem tw4299136966843209011 : True := trivial
theorem tw4302124980754421698 : True := trivial
theorem tw4318056027017086478 : True := trivial
theorem tw4319705520415482375 : True := trivial
theorem tw43969757491396457 : True := trivial
theorem tw4405960384096086239 : True := trivial
theorem tw4407734736301137906 : True := trivial
theorem tw441327347791068078 : True := trivial
theorem tw4434333111790514575 : True := trivial
theorem tw447715330943862342 : True := trivial
theorem tw4525517667737911620 : True := trivial
theorem tw4527066259768149269 : True := trivial
theorem tw4549333791460862111 : True := trivial
theorem tw4552823106982906706 : True := trivial
theorem tw4558998842232669794 : True := trivial
theorem tw4575980220486274672 : True := trivial
theorem tw460243522976405022 : True := trivial
theorem tw4613930686462287906 : True := trivial
theorem tw4658958612460137192 : True := trivial
theorem tw4679858250743294509 : True := trivial
theorem tw4681523508651956083 : True := trivial
theorem tw4748654258956052638 : True := trivial
theorem tw4775785305629353868 : True := trivial
theorem tw4797165386629745026 : True := trivial
theorem tw4800724452203346748 : True := trivial
theorem tw4858009861420398278 : True := trivial
theorem tw487364732245791922 : True := trivial
theorem tw4879560196417449868 : True := trivial
theorem tw4888971946704870899 : True := trivial
theorem tw4904739604578439355 : True := trivial
theorem tw4921902886906138986 : True := trivial
theorem tw4933834842325187142 : True := trivial
theorem tw4936483359421988267 : True := trivial
theorem tw4949472239710415697 : True := trivial
theorem tw4966893808263662355 : True := trivial
theorem tw4978915544186085027 : True := trivial
theorem tw5032809538720368765 : True := trivial
theorem tw503676674663206642 : True := trivial
theorem tw505943868828395459 : True := trivial
theorem tw5065222861578795731 : True := trivial
theorem tw5068434257544371817 : True := trivial
theorem tw5076957145309523181 : True := trivial
theorem tw5111356299099525756 : True := trivial
theorem tw5135500740108067664 : True := trivial
theorem tw5144633987255907666 : True := trivial
theorem tw5149714755402479525 : True := trivial
theorem tw5152784196030571298 : True := trivial
theorem tw5189142188285759775 : True := trivial
theorem tw5195385864067281367 : True := trivial
theorem tw5200128776193632040 : True := trivial
theorem tw5228443966233409354 : True := trivial
theorem tw5248340912204065574 : True := trivial
theorem tw5268983451555188008 : True := trivial
theorem tw5303519439607764402 : True := trivial
theorem tw5310036984924271277 : True := trivial
theorem tw5315457868209417068 : True := trivial
theorem tw5345256250457102556 : True := trivial
theorem tw5349121933718820234 : True := trivial
theorem tw535072334866317008 : True := trivial
theorem tw5357591511691535388 : True := trivial
theorem tw5396446701170858492 : True := trivial
theorem tw5450187663091677483 : True := trivial
theorem tw5512085447785999860 : True := trivial
theorem tw5518745428033880147 : True := trivial
theorem tw5555313912996828296 : True := trivial
theorem tw5565278806992967083 : True := trivial
theorem tw563124612126607214 : True := trivial
theorem tw5646442142991981755 : True := trivial
theorem tw5656341101305198845 : True := trivial
theorem tw5659119934639910733 : True := trivial
theorem tw5697894365363955025 : True := trivial
theorem tw5701610774189311196 : True := trivial
theorem tw5706481520468235054 : True := trivial
theorem tw5732905514179830355 : True := trivial
theorem tw5758256569797452207 : True := trivial
theorem tw5770868932273138760 : True := trivial
theorem tw5832503352825792928 : True := trivial
theorem tw5853609219237828028 : True := trivial
theorem tw5854881644878751223 : True := trivial
theorem tw5862295025349918931 : True := trivial
theorem tw5889167727604068794 : True := trivial
theorem tw5902227825499142635 : True := trivial
theorem tw5925582254088234700 : True := trivial
theorem tw5936146933674214641 : True := trivial
theorem tw5946566240119215348 : True := trivial
theorem tw5950129339639070837 : True := trivial
theorem tw5952267759425050802 : True := trivial
theorem tw5976474108018559520 : True := trivial
theorem tw5978237884098788730 : True := trivial
theorem tw6059929106960060952 : True := trivial
theorem tw607167704815816724 : True := trivial
theorem tw608726401823008365 : True := trivial
theorem tw6090905460779295987 : True := trivial
theorem tw6122645084068987007 : True := trivial
theorem tw6123655918767846522 : True := trivial
theorem tw6125931036764729998 : True := trivial
theorem tw6127375697748050860 : True := trivial
theorem tw6132934438814934913 : True := trivial
theorem tw6135381517318000843 : True := trivial
theorem tw6144853644547557980 : True := trivial
theorem tw6148621092414575339 : True := trivial
theorem tw6179359751918216688 : True := trivial
theorem tw618205885557783147 : True := trivial
theorem tw6213141578215901147 : True := trivial
theorem tw6245536207120538393 : True := trivial
theorem tw6363645014702824404 : True := trivial
theorem tw6380047634161181297 : True := trivial
theorem tw6380782515089751550 : True := trivial
theorem tw6426273055680023932 : True := trivial
theorem tw6434138532213402376 : True := trivial
theorem tw6434265647005701932 : True := trivial
theorem tw6448080314894763839 : True := trivial
theorem tw6517296806544964722 : True := trivial
theorem tw6519424955469430661 : True := trivial
theorem tw6550987210724342151 : True := trivial
theorem tw6580340599500149305 : True := trivial
theorem tw6587116730350146372 : True := trivial
theorem tw6589095468515690095 : True := trivial
theorem tw6607189417530752870 : True := trivial
theorem tw662354867322794072 : True := trivial
theorem tw6654550962395885724 : True := trivial
theorem tw6662432510661729299 : True := trivial
theorem tw667198328695590252 : True := trivial
theorem tw6679490504615227074 : True := trivial
theorem tw6711915476519705758 : True := trivial
theorem tw6714822604882049554 : True := trivial
theorem tw6755680374467540070 : True := trivial
theorem tw6789855027759293466 : True := trivial
theorem tw6792406925840432001 : True := trivial
theorem tw6813294653679155843 : True := trivial
theorem tw6817277305950994716 : True := trivial
theorem tw682011567655089306 : True := trivial
theorem tw6832808476680081064 : True := trivial
theorem tw6834602518627153040 : True := trivial
theorem tw686183698351167624 : True := trivial
theorem tw6891000109920058784 : True := trivial
theorem tw6929956602132211858 : True := trivial
theorem tw6944952908185719654 : True := trivial
theorem tw6952355047532471503 : True := trivial
theorem tw6967401301877209104 : True := trivial
theorem tw6980910045739468074 : True := trivial
theorem tw6990963922061375149 : True := trivial
theorem tw6993175162768986339 : True := trivial
theorem tw7009043117176579089 : True := trivial
theorem tw7035115661146626270 : True := trivial
theorem tw704327219915372674 : True := trivial
theorem tw7081425507203772304 : True := trivial
theorem tw7082770336023389322 : True := trivial
theorem tw7094674258960923220 : True := trivial
theorem tw7098571738820278039 : True := trivial
theorem tw7112787868492120936 : True := trivial
theorem tw7191607858210974391 : True := trivial
theorem tw7198390536060210744 : True := trivial
theorem tw721709456127091705 : True := trivial
theorem tw7229665172594901996 : True := trivial
theorem tw7231524377534056507 : True := trivial
theorem tw7232422423428716515 : True := trivial
theorem tw724751600484774222 : True := trivial
theorem tw7250012664060256230 : True := trivial
theorem tw725871291056497461 : True := trivial
theorem tw7269565832213808900 : True := trivial
theorem tw7275051467321613617 : True := trivial
theorem tw7276740287692124622 : True := trivial
theorem tw7286323032743288035 : True := trivial
theorem tw7299303143086499733 : True := trivial
theorem tw7299951869573292228 : True := trivial
theorem tw7323676302269181137 : True := trivial
theorem tw7365555872484859036 : True := trivial
theorem tw7397068168572129948 : True := trivial
theorem tw7401281599722004195 : True := trivial
theorem tw7469732015759309437 : True := trivial
theorem tw7483462131439158144 : True := trivial
theorem tw7496433998918960881 : True := trivial
theorem tw7499937903120025604 : True := trivial
theorem tw7503421922109321716 : True := trivial
theorem tw7504490480230193789 : True := trivial
theorem tw7543195961347049332 : True := trivial
theorem tw7543618554067911206 : True := trivial
theorem tw7561037823649445926 : True := trivial
theorem tw757081541053455785 : True := trivial
theorem tw7573151900890175926 : True := trivial
theorem tw7574553109774388169 : True := trivial
theorem tw7581352650102555174 : True := trivial
theorem tw7581816359482902497 : True := trivial
theorem tw7585139358526817783 : True := trivial
theorem tw7618406622816332465 : True := trivial
theorem tw7619357645376055252 : True := trivial
theorem tw764782834095389478 : True := trivial
theorem tw7650934615059315214 : True := trivial
theorem tw7733015712792483723 : True := trivial
theorem tw774047393022817027 : True := trivial
theorem tw7745614565497352828 : True := trivial
theorem tw7788680626742099145 : True := trivial
theorem tw7802139600951554647 : True := trivial
theorem tw7892128664451923741 : True := trivial
theorem tw7987952416473584550 : True := trivial
theorem tw8032284361305108907 : True := trivial
theorem tw8047484207015712433 : True := trivial
theorem tw8075568018651887793 : True := trivial
theorem tw8098380416015320538 : True := trivial
theorem tw8123005709971320403 : True := trivial
theorem tw8162909057868654942 : True := trivial
theorem tw8172093975534723114 : True := trivial
theorem tw8206430501311747189 : True := trivial
theorem tw8224813933742928703 : True := trivial
theorem tw8253183596043897158 : True := trivial
theorem tw8283515000281207119 : True := trivial
theorem tw8376441433122354887 : True := trivial
theorem tw8385612375773290118 : True := trivial
theorem tw8400853705098224536 : True := trivial
theorem tw8424611434330503625 : True := trivial
theorem tw8430678208038309684 : True := trivial
theorem tw8450942572126056277 : True := trivial
theorem tw8459811325457737761 : True := trivial
theorem tw8473563963867554017 : True := trivial
theorem tw8488268690174267210 : True := trivial
theorem tw8537084889766193716 : True := trivial
theorem tw8540232549379673566 : True := trivial
theorem tw8579058602437062094 : True := trivial
theorem tw8588708647495961459 : True := trivial
theorem tw8595292554425487202 : True := trivial
theorem tw8603108125212654177 : True := trivial
theorem tw8610040677353227653 : True := trivial
theorem tw8620020772036689432 : True := trivial
theorem tw8642067239939848140 : True := trivial
theorem tw8649964590619651473 : True := trivial
theorem tw8654737378357257675 : True := trivial
theorem tw8656719876789144132 : True := trivial
theorem tw8686407601681055034 : True := trivial
theorem tw8693227569615203950 : True := trivial
theorem tw8703263022893421829 : True := trivial
theorem tw8704618095886561957 : True := trivial
theorem tw8708707556590381134 : True := trivial
theorem tw8719427161674164953 : True := trivial
theorem tw8727135674562949291 : True := trivial
theorem tw8753696776887207221 : True := trivial
theorem tw876465644420266413 : True := trivial
theorem tw878741703135273975 : True := trivial
theorem tw8795123598061512290 : True := trivial
theorem tw8796240567053077481 : True := trivial
theorem tw8800560270773162519 : True := trivial
theorem tw8802822988693486460 : True := trivial
theorem tw8860024209350480642 : True := trivial
theorem tw8881496252177385917 : True := trivial
theorem tw8902219603052485911 : True := trivial
theorem tw8946543629884556368 : True := trivial
theorem tw8987815912523675519 : True := trivial
theorem tw8989982439271903415 : True := trivial
theorem tw8999186272805695465 : True := trivial
theorem tw900395245841561262 : True := trivial
theorem tw9011979029575296479 : True := trivial
theorem tw9047900276149940361 : True := trivial
theorem tw9082586571710850966 : True := trivial
theorem tw912392155897948271 : True := trivial
theorem tw9131251417149488404 : True := trivial
theorem tw9136488742655976645 : True := trivial
theorem tw9151444980202551346 : True := trivial
theorem tw9206804518496725263 : True := trivial
theorem tw921073385446354868 : True := trivial
theorem tw9219426015542480343 : True := trivial
theorem tw9265879793445154701 : True := trivial
theorem tw9281714027785469542 : True := trivial
theorem tw9285146279643344392 : True := trivial
theorem tw9292931687148149277 : True := trivial
theorem tw9300948228871686676 : True := trivial
theorem tw9305782018832362445 : True := trivial
theorem tw930746551332336609 : True := trivial
theorem tw932993149863042379 : True := trivial
theorem tw9376109419431680627 : True := trivial
theorem tw9396933662098498411 : True := trivial
theorem tw9407582987413476825 : True := trivial
theorem tw9413167413068371254 : True := trivial
theorem tw9458956999447867950 : True := trivial
theorem tw9467589175468403638 : True := trivial
theorem tw9492235034089005946 : True := trivial
theorem tw9501820088010722379 : True := trivial
theorem tw9504726810853072989 : True := trivial
theorem tw950723637873067451 : True := trivial
theorem tw951843321253372498 : True := trivial
theorem tw9529234661008812162 : True := trivial
theorem tw9537544019596298400 : True := trivial
theorem tw9564595351457756722 : True := trivial
theorem tw9575731206691268911 : True := trivial
theorem tw9575948337506731703 : True := trivial
theorem tw9577309144901391297 : True := trivial
theorem tw9594665118957945026 : True := trivial
theorem tw9626621113073979434 : True := trivial
theorem tw9639903998291639651 : True := trivial
theorem tw9673203406766833760 : True := trivial
theorem tw9674257727999782656 : True := trivial
theorem tw9676229304581654039 : True := trivial
theorem tw9720828393056574044 : True := trivial
theorem tw9759809726879904816 : True := trivial
theorem tw9763268239775435451 : True := trivial
theorem tw9787396351842916947 : True := trivial
theorem tw9787463984185863102 : True := trivial
theorem tw9794667896261083176 : True := trivial
theorem tw9800571698397750058 : True := trivial
theorem tw9821368406582625841 : True := trivial
theorem tw9859472835145803560 : True := trivial
theorem tw9862997608875712007 : True := trivial
theorem tw9893030918988833448 : True := trivial
theorem tw9908251947323293946 : True := trivial
theorem tw9948023125614773506 : True := trivial
theorem tw9951705424602377420 : True := trivial
theorem tw9979284746773624096 : True := trivial
end PySem.W.Fast
open PySem PySem.W PyProof.Rows
namespace Mine
open_top hd for PySem.Challenge.rw_kp0119_10
theorem top_off : True := by (w_top off; exact trivial)
end Mine
section
open PySem PySem.W PyProof.Rows PySem.Calls
namespace Mine
local macro_rules | `(tactic| walk_at "execs cons") => `(tactic| ((with_reducible refine wpAny_execs_cons ?_); try dsimp only))
local macro_rules | `(tactic| walk_at "ite") => `(tactic| (k_closed; first | (with_reducible refine ite_pos (by decide) ?_) | (with_reducible refine ite_neg (by decide) ?_)))
local macro_rules | `(tactic| k_all) => `(tactic| first | exact List.forall_mem_nil _ | (refine' List.forall_mem_cons.mpr ⟨?a, ?b⟩; (case a => k_ne); (case b => k_all)))
section
open PySem PySem.W PyProof.Rows
abbrev pw : Program := PySem.Challenge.rw_kp0119_10.row.prog
noncomputable abbrev KK (P : Params) : Frag := hd.heap_39 P
/-- the n-th def of the text, its body, its scope -/
def stAt (n : Nat) : Stmt := pw.main.body.getD n default
def bodyOf : Stmt → List Stmt | .FunctionDef _ _ b .. => b | .For _ _ b _ _ => b | .If _ b _ _ => b | .While _ b _ _ => b | _ => []
def scopeOf : Stmt → Scope | .FunctionDef _ _ _ _ _ _ sc .. => sc | _ => default
def nth (l : List Stmt) (n : Nat) : Stmt := l.getD n default
def lawBody : List Stmt := bodyOf (stAt 20)
def lawScope : Scope := scopeOf (stAt 20)
def forSt : Stmt := nth lawBody 7
def forBody : List Stmt := bodyOf forSt
abbrev lawEnv (L fa : Addr) (cd : Value) : Env := envOf "law" lawScope L fa cd
abbrev lawA (L fa : Addr) (cd : Value) : Around := callerA.deeper (lawEnv L fa cd)
abbrev PP : Program := PySem.Challenge.rw_kp0119_10.row.prog
abbrev ent (P : Params) (n : Str) (t : Tok) (v : Value) : DictEntry := { hash := PyData.keyHash P n, key := .str n t, val := v }
/-- a node's own dict: the four handlers, the parent -/
abbrev nodeEs (P : Params) (q : Nat → Nat) (u : Nat → Value) (v : Value) : List DictEntry :=
  [ent P "_cont_handler" (q 0) (u 0), ent P "_dtd_handler" (q 1) (u 1), ent P "_ent_handler" (q 2) (u 2), ent P "_err_handler" (q 3) (u 3), ent P "_parent" (q 4) v]
/-- where the way along the parents ends -/
inductive Ends (par : Nat → Option Nat) : Option Nat → Option Nat → Prop
  | none : Ends par none none
  | low {k} : k < 2 → Ends par (some k) (some k)
  | step {k r} : 2 ≤ k → k < 7 → Ends par (par k) r → Ends par (some k) r
def nodeV (xs : Nat → Addr) : Option Nat → Value
  | none => .none
  | some k => .ref (xs k)
structure Filters (P : Params) (xs ds : Nat → Addr) (par : Nat → Option Nat) (q : Nat → Nat → Nat) (u : Nat → Nat → Value) (news : List (Addr × Obj)) : Prop where
  inst : ∀ k, 2 ≤ k → k < 7 → (xs k, instObj 616 (ds k)) ∈ news
  dict : ∀ k, 2 ≤ k → k < 7 → (ds k, dictOf (nodeEs P (q k) (u k) (nodeV xs (par k))) 5) ∈ news
/-- the i-th lambda of the reader: what it takes, what it does, its names -/
def readerBody : List Stmt := bodyOf (stAt 15)
def lamAt (i : Nat) : PySem.Expr := match nth readerBody (i + 1) with | .Assign _ v _ => v | _ => default
def lamArgs : PySem.Expr → Arguments | .Lambda a .. => a | _ => default
def lamBody : PySem.Expr → PySem.Expr | .Lambda _ b .. => b | _ => default
def lamScope : PySem.Expr → Scope | .Lambda _ _ sc _ => sc | _ => default
abbrev readerEs (P : Params) (q : Nat → Nat) (u : Nat → Value) (fn : Nat → Addr) : List DictEntry :=
  [ent P "_cont_handler" (q 0) (u 0), ent P "_dtd_handler" (q 1) (u 1), ent P "_ent_handler" (q 2) (u 2), ent P "_err_handler" (q 3) (u 3), ent P "setFeature" (q 4) (.ref (fn 0)), ent P "getFeature" (q 5) (.ref (fn 1)), ent P "setProperty" (q 6) (.ref (fn 2)), ent P "getProperty" (q 7) (.ref (fn 3)), ent P "setLocale" (q 8) (.ref (fn 4))]
/-- the cells of the reader's lambdas: name and address -/
abbrev lamCell (ce : Nat → Addr) : Nat → List (Str × Addr)
  | 0 => [("features", ce 0)]
  | 1 => [("features", ce 0)]
  | 2 => [("properties", ce 1)]
  | 3 => [("properties", ce 1)]
  | _ => [("locales", ce 2)]
structure LamAt (news : List (Addr × Obj)) (i : Nat) (f : Addr) (cl : List (Str × Addr)) (qual : Str) (pm ctv : Value) (c' : Addr) (oc : Obj) (vs : Array Value) (t : Tok) : Prop where
  fn : (f, kla_obj "<lambda>" qual (lamArgs (lamAt i)) (lamBody (lamAt i)) (lamScope (lamAt i)) cl pm c' ctv) ∈ news
  code : (c', oc) ∈ news
  data : oc.data = .fields vs
  name : vs[1]? = some (.str qual t)
structure CellAt (news : List (Addr × Obj)) (a : Addr) (v : Value) (o : Obj) : Prop where
  mem : (a, o) ∈ news
  data : o.data = .cell (some v)
structure RdAt (P : Params) (xs ds : Nat → Addr) (aF aP aL : Addr) (news : List (Addr × Obj)) (fn ce q0 : Nat → Nat) (u0 : Nat → Value) (qual : Nat → Str) (pm ctv : Nat → Value) (cc : Nat → Addr) (oc co : Nat → Obj) (vs : Nat → Array Value) (tt : Nat → Tok) : Prop where
  inst : (xs 0, instObj 405 (ds 0)) ∈ news
  dict : (ds 0, dictOf (readerEs P q0 u0 fn) 9) ∈ news
  lam : ∀ i, i < 5 → LamAt news i (fn i) (lamCell ce i) (qual i) (pm i) (ctv i) (cc i) (oc i) (vs i) (tt i)
  cF : CellAt news (ce 0) (.ref aF) (co 0)
  cP : CellAt news (ce 1) (.ref aP) (co 1)
  cL : CellAt news (ce 2) (.ref aL) (co 2)
/-- the ledger: what the reader changes first -/
abbrev led3 (aF aP aL : Addr) (oF oP oL : Obj) (rest : List (Addr × Obj)) : List (Addr × Obj) := (aF, oF) :: (aP, oP) :: (aL, oL) :: rest
structure Off3 (aF aP aL : Addr) (rest : List (Addr × Obj)) : Prop where
  f : ∀ p ∈ rest, p.1 ≠ aF
  p : ∀ p ∈ rest, p.1 ≠ aP
  l : ∀ p ∈ rest, p.1 ≠ aL
  fp : @LT.lt Nat _ aF aP
  pl : @LT.lt Nat _ aP aL
abbrev plainEs (P : Params) (q : Nat → Nat) (u : Nat → Value) : List DictEntry :=
  [ent P "_cont_handler" (q 0) (u 0), ent P "_dtd_handler" (q 1) (u 1), ent P "_ent_handler" (q 2) (u 2), ent P "_err_handler" (q 3) (u 3)]
structure Room (A : Around) (k : Nat) : Prop where
  handled : A.handled = none
  depth : A.depth + k < 900
  units : A.units + 10 * k < 9000
end
section
open PySem PySem.W PyProof.Rows
theorem getAttr_none_miss {prog : Program} {w : World} {A : Around} {E : Value → Shared → Prop} {s : Shared} {name : Str} {Q : Value → Shared → Prop} (hmiss : typeLookup (.type "NoneType") name = pure none) (hA : A.handled = none)
    (h : ∀ h' tk e, Heap.NewExcOf s.heap h' e "AttributeError" → E (.ref e) { s with heap := h', toks := tk }) (hsz : name.length + 100 ≤ sizeLine := by size_fits) :
    wpAny (model prog w) A (getAttr (.none) name) Q E s := by
  obtain ⟨hp, g, d, tk, os⟩ := s
  have hT : ∀ s' : Shared, s'.TypeIs (.none) "NoneType" := fun _ => rfl
  have f1 := sub_AttributeError
  have f3 := F.slot_NoneType_getattribute.lookup
  have f4 := F.slot_NoneType_getattribute.bind (.none)
  have f5 := am_none_getattr_none
  unfold getAttr getAttrBy
  refine wpAny_bind (wpAny_mkText ?_)
  refine wpAny_holding ?_
  refine wpAny_bind (wpAny_typeOf (hT _) ?_)
  refine wpAny_bind (wpAny_of_eq f3 ?_)
  show wpAny _ _ (getAttrByItsOwn _ _ _ _ _ _) _ _ _
  unfold getAttrByItsOwn
  repeat (any_goals (first | assumption | ((with_reducible show wpAny _ _ (call (Value.builtin "object.__getattribute__") _ _) _ _ _); refine call_meets F.slot_NoneType_getattribute (hT _) F.entry_object_getattribute (F.args_object_getattribute_2 _ _) (meets_getattribute_miss_none name _ hmiss hsz) ⟨hA, fun h' tk' e hx => ?_⟩) | wp_step))
  obtain ⟨t', u', he⟩ := hx.there
  show wpAny _ _ (getattributeRaised _ _ _ _ _ _ _) _ _ _
  unfold getattributeRaised
  repeat (any_goals (first | assumption | wp_step))
  exact h _ _ _ hx.of
theorem getMethod_none_miss {prog : Program} {w : World} {A : Around} {E : Value → Shared → Prop} {s : Shared} {name : Str} {pl : Sem Bool} {Q : Value × List Value → Shared → Prop} (hmiss : typeLookup (.type "NoneType") name = pure none) (hA : A.handled = none)
    (h : ∀ h' tk e, Heap.NewExcOf s.heap h' e "AttributeError" → E (.ref e) { s with heap := h', toks := tk }) (hsz : name.length + 100 ≤ sizeLine := by size_fits) :
    wpAny (model prog w) A (getMethod (.none) name pl) Q E s := by
  have hT : s.TypeIs (.none) "NoneType" := rfl
  unfold getMethod
  with_reducible refine wpAny_bind ?_
  with_reducible refine wpAny_specialOf hT F.slot_NoneType_getattribute.lookup ?_
  show wpAny _ A (if (Manifest.canonical "object.__getattribute__" != "object.__getattribute__") = true then _ else _) Q E s
  rw [F.canon_object_ga, if_neg Bool.false_ne_true]
  with_reducible refine wpAny_bind ?_
  with_reducible refine wpAny_specialOf hT am_none_getattr_none ?_
  rw [Option.isSome_none, if_neg Bool.false_ne_true]
  with_reducible refine wpAny_bind ?_
  with_reducible refine wpAny_specialOf hT hmiss ?_
  exact wpAny_bind (getAttr_none_miss hmiss hA (fun h' tk e hx => h h' tk e hx) hsz)
end
section
open PySem PySem.W PyProof.Rows PySem.Spec PySem.Calls
section
variable {M : Model} {A : Around} {E : Value → Shared → Prop} {s' : Shared} {base g g₂ h : Heap} {outer : List Env} {L e : Addr} {m : Str → Option Value} {env : Env} {Q : Unit → Shared → Prop} {news : List (Addr × Obj)}
/-- one frame more, of any def or lambda -/
theorem push_env (K : Below A base outer g) (F : Fr g L h m) (hf : env.frame = some L) (hk : env.scope.kind = .function) : Below (A.deeper env) base (env :: outer) h := by
  have hnew : base.get? L = none := by
    cases hq : base.get? L with
    | none => rfl
    | some o => exact absurd (Nat.lt_of_lt_of_le (Heap.lt_size (K.stays L o hq)) F.above) (Nat.lt_irrefl _)
  refine ⟨Around.frames_deeper K.stack, fun b o x => F.keep b o (K.stays b o x), ?_⟩
  exact .cons (by rw [hk]; decide) hf F.ns hnew (K.frames.of_keeps fun b o x _ => ⟨o, F.keep b o x, rfl⟩)
theorem mem_frames {b : Addr} (hf : env.frame = some L) (hm : b ∈ (env :: outer).filterMap (·.frame)) : b = L ∨ b ∈ outer.filterMap (·.frame) := by
  obtain ⟨x, hx, hb⟩ := List.mem_filterMap.mp hm
  rcases List.mem_cons.mp hx with rfl | hx
  · exact .inl (Option.some.inj (hb.symm.trans hf))
  · exact .inr (List.mem_filterMap.mpr ⟨x, hx, hb⟩)
/-- a frame is left by an exception that is new: whatever its fields behind the first two -/
theorem leave_newer {cls : Value} {oe : Obj} {vs : Array Value} {a0 : Value} (K : Below A base outer g) (F : Fr g L h m) (N : News g L h news)
    (hk9 : ∀ b o, h.get? b = some o → s'.heap.get? b = some o) (hen : h.get? e = none) (he : s'.heap.get? e = some oe) (hd : oe.data = .fields vs) (h0 : vs[0]? = some a0) (h1 : vs[1]? = some .none) (hcls : oe.cls = cls)
    (hf : env.frame = some L) (hk : env.scope.kind = .function)
    (hQ : ∀ h' B, base.StaysIn B → (∀ b o, g.get? b = some o → b ∉ outer.filterMap (·.frame) → B.get? b = some o) → (∀ q ∈ news, B.get? q.1 = some q.2 ∧ g.get? q.1 = none ∧ base.get? q.1 = none) → Heap.FlyingW B outer e cls a0 h' → (∀ b, h.get? b = none → B.get? b = none) →
      g.UpToSlots h' → s'.heap.UpToSlots h' → Q () { s' with heap := h' }) :
    wpAny M (A.deeper env) (leaving env (.ref e)) Q E s' := by
  subst hcls
  have K' := push_env K F hf hk
  let fs := (env :: outer).filterMap (·.frame)
  have hin : ∀ x ∈ (env :: outer), ∀ b, x.frame = some b → b ∈ fs := fun x he b hb => List.mem_filterMap.mpr ⟨x, he, hb⟩
  have st : base.StaysIn (hideAll h fs) := fun b o q => hideAll_get _ (K'.stays b o q) fun hm => by
    have z := (K'.frames.mem hm).1
    rw [z] at q
    exact nomatch q
  have sg : ∀ b o, g.get? b = some o → b ∉ outer.filterMap (·.frame) → (hideAll h fs).get? b = some o := fun b o q nm =>
    hideAll_get _ (F.keep b o q) fun hm => (mem_frames hf hm).elim (fun z => by rw [z, kts_self F] at q; exact nomatch q) nm
  have hl : ∀ q ∈ news, (hideAll h fs).get? q.1 = some q.2 ∧ g.get? q.1 = none ∧ base.get? q.1 = none := fun q hq => by
    have n3 := (N q hq).2.2
    refine ⟨hideAll_get _ (N q hq).1 fun hm => ?_, n3, fresh_of_stays K.stays n3⟩
    rcases mem_frames hf hm with z | z
    · exact (N q hq).2.1 z
    · obtain ⟨o, ho, _⟩ := (K.frames.mem z).2
      rw [n3] at ho
      exact nomatch ho
  have hid : ∀ b, h.get? b = none → (hideAll h fs).get? b = none := fun b hb => by
    cases q : (hideAll h fs).get? b with
    | none => rfl
    | some o => have z := of_hideAll _ q; rw [hb] at z; exact nomatch z
  refine wpAny_leaving_firstW (a0 := a0) K'.stack ((funFrames_hide K'.frames hin).of_keeps fun b o hb _ => ⟨o, hk9 b o hb, rfl⟩) hf he (fun b o hb => hk9 b o (of_hideAll _ hb)) (hid e hen) hd h1 h0 fun h' hL => ?_
  obtain ⟨k1, ⟨_, _, k2⟩, k3, k4⟩ := hL
  exact hQ h' _ st sg hl ⟨k1, hid e hen, k2, k3⟩ hid (((Heap.UpToSlots.of_keeps F.keep).trans (Heap.UpToSlots.of_keeps hk9)).trans k4) k4
theorem leave_newSO {cls : String} (K : Below A base outer g) (hx : Heap.NewExcOf h s'.heap e cls) (F : Fr g L h m) (N : News g L h news) (hf : env.frame = some L) (hk : env.scope.kind = .function)
    (hQ : ∀ h', RaisedSN base g outer e (.type cls) news h' → RaisedN base outer e (.type cls) news h' → g.UpToSlots h' → Q () { s' with heap := h' }) :
    wpAny M (A.deeper env) (leaving env (.ref e)) Q E s' := by
  obtain ⟨ob, vs, he, hcls, hd, h1⟩ := hx.there
  have hlt : 0 < vs.size := Nat.lt_trans (Nat.zero_lt_one) (Array.getElem?_eq_some_iff.mp h1).1
  refine leave_newer K F N hx.keeps hx.new he hd (Array.getElem?_eq_getElem hlt) h1 hcls hf hk (fun h' B b1 b2 b3 b4 _ b5 _ => ?_)
  have R : RaisedSN base g outer e (.type cls) news h' := ⟨B, _, b1, b2, b3, b4⟩
  exact hQ h' R R.toN b5
theorem leave_madeX {cls : Value} {vs : List Value} (K : Below A base outer g) (hx : Heap.MadeExcOf h s'.heap e cls vs) (F : Fr g L h m) (N : News g L h news) (hf : env.frame = some L) (hk : env.scope.kind = .function)
    (hQ : ∀ h' t, RaisedS base g outer e cls t vs news h' → RaisedK base outer e cls t vs news h' → g.UpToSlots h' → Q () { s' with heap := h' }) :
    wpAny M (A.deeper env) (leaving env (.ref e)) Q E s' := by
  obtain ⟨t, he, hn, ht⟩ := hx.there
  refine leave_newer K F N hx.keeps hx.new he rfl (a0 := .ref t) rfl rfl rfl hf hk (fun h' B b1 b2 b3 b4 b6 b5 b7 => ?_)
  have T : Heap.TupAt h' t vs := Heap.TupAt.of_slots ⟨_, 0, ht, rfl, rfl⟩ b7
  have R : RaisedS base g outer e cls t vs news h' := ⟨⟨B, b1, b2, b3, b4, b6 t hn⟩, T⟩
  exact hQ h' t R R.toK b5
end
end
section
open PySem PySem.W PyProof.Rows PySem.Spec PySem.Calls
section
variable {prog : Program} {w : World} {A : Around} {E : Value → Shared → Prop} {s : Shared} {K : Frag} {x C dx L f : Addr} {h₀ : Heap} {m : Str → Option Value} {news : List (Addr × Obj)} {ox : Obj} {es : List DictEntry} {n : Nat} {name : Str} {v : Value}
/-- a function in the own dict of an object stands ahead of the class's method of that name -/
theorem method_shadow {pl : Sem Bool} {g : Value} {Q : Value × List Value → Shared → Prop} (F : Fr h₀ L s.heap m) (X₀ : K.In h₀) (I : InstAt s.heap x ox C (some (dictOf es n))) (hg : plainGet K C name = true) (hh : hasDictIn K C = true)
    (hf : findIn K (.ref C) name = some (some (.ref f))) (ht : isFn K (.ref f) = true) (hsp : specialIn K (.ref f) "__get__" = some (some g)) (htk : takesIn K (.ref f) = some false) (hl : getL name es = some (some v)) (hv : handedIn v = true)
    (hd : ox.dict = some dx) (h : Q (v, []) { s with toks := s.toks + 1 }) : wpAny (model prog w) A (getMethod (.ref x) name pl) Q E s := by
  have X := X₀.keeps F.keep
  obtain ⟨hga, hk⟩ := plainGet_of hg
  have hobj : findObj K C (some (dictOf es n)) name = some (.value v) := by
    obtain ⟨cd, hc, hcd⟩ := any_some hh
    have hcd' : cd.hasDict = true := hcd
    have hl' : lookIn name (dictOf es n) = some (some v) := hl
    unfold findObj PySem.W.ownOf
    simp only [hc, hf, hsp, htk, Option.bind_some, hcd', if_true, hl']
  have key : ∀ (Q' : Value → Shared → Prop), Q' v { s with toks := s.toks + 1 } → wpAny (model prog w) A (getAttr (.ref x) name) Q' E s := fun Q' hq => get_value X I hga hobj hv hq
  have hcan := PySem.F.canon_object_ga
  unfold getMethod specialOf
  refine wpAny_bind (wpAny_bind (I.type.here ((looks_findIn X hga).here ?_)))
  dsimp only
  rw [hcan, if_neg (by decide)]
  refine wpAny_bind (wpAny_bind (I.type.here ((looks_findIn X hk).here ?_)))
  refine wpAny_bind (wpAny_bind (I.type.here ((looks_findIn X hf).here (wpAny_bind ((looks_typeIn X (beq_iff_eq.mp ht)).here ?_)))))
  rw [if_neg (by decide +kernel)]
  refine wpAny_bind (wpAny_loadPart I.at_ ?_)
  have hdd := I.dict
  rw [hd] at hdd ⊢
  have hdd' : s.heap.get? dx = some (dictOf es n) := hdd
  have hlook : lookIn name (dictOf es n) = some (some v) := hl
  refine wpAny_bind (wpAny_bind (wpAny_loadPart hdd' ?_))
  rw [nsLook_of hlook]
  refine wpAny_pure ?_
  dsimp only [Option.isSome_some]
  rw [if_pos rfl]
  exact wpAny_bind (key _ (wpAny_pure h))
theorem upd_dict {K' : Type} [DecidableEq K'] {knd : KeyKind prog w K'} {d o₂ : Addr} {o ob : Obj} {kvs more : List (K' × Value)} {g : Obj → List (Addr × Obj)} {Q : Value → Shared → Prop}
    (F : Fr h₀ L s.heap m) (N : News h₀ L s.heap news) (U : UpdF d o news g) (hd : o.IsDictOf knd kvs) (hm : (o₂, ob) ∈ news) (hd2 : ob.IsDictOf knd more) (lo : (o₂ == sysModules) = false) (hne : d ≠ o₂) (hsz : kvs.length + more.length ≤ sizeLine)
    (h : ∀ h' o', Fr h₀ L h' m → News h₀ L h' (g o') → o'.IsDictOf knd (merged kvs more) → Q .none { s with heap := h' }) :
    wpAny (model prog w) A (call (.builtin "dict.update") [.ref d, .ref o₂]) Q E s := by
  obtain ⟨pre, post, rfl, hg, a, b⟩ := U.split
  have hm1 := N (d, o) (List.mem_append_right _ (.head _))
  have hD : s.heap.DictOf knd d kvs := Heap.dictOf_iff.mpr ⟨o, hm1.1, hd⟩
  have hD2 : s.heap.DictOf knd o₂ more := Heap.dictOf_iff.mpr ⟨ob, (N _ hm).1, hd2⟩
  refine call_meetsIn PySem.F.slot_dict_update hD.typeIs PySem.F.entry_dict_update (PySem.F.args_dict_update_2 _ _) (meets_dict_update knd d o₂ hne lo)
    ⟨kvs, more, hD, hD2, hsz, fun h' hmm _ hs => ?_⟩
  obtain ⟨o', ho', hd'⟩ := Heap.dictOf_iff.mp hmm
  exact h h' o' (F.change hs hm1.2.1 hm1.2.2) (hg o' ▸ N.setIn a b hs ho') hd'
theorem item_found {K' : Type} [DecidableEq K'] {knd : KeyKind prog w K'} {d : Addr} {o : Obj} {kvs : List (K' × Value)} {k : K'} {key : Value} {Q : Value → Shared → Prop} (N : News h₀ L s.heap news) (hm : (d, o) ∈ news) (hd : o.IsDictOf knd kvs)
    (hkey : knd.is k key = true) (hv : valueAt kvs k = some v) (h : Q v { s with toks := s.toks + 1 }) : wpAny (model prog w) A (getItem (.ref d) key) Q E s :=
  wpAny_getItem_of hkey (Heap.DictOf.mapOf (Heap.dictOf_iff.mpr ⟨o, (N _ hm).1, hd⟩)) hv h
theorem item_missing {K' : Type} [DecidableEq K'] {knd : KeyKind prog w K'} {d : Addr} {o : Obj} {kvs : List (K' × Value)} {k : K'} {key : Value} {Q : Value → Shared → Prop} (N : News h₀ L s.heap news) (hmem : (d, o) ∈ news) (hdo : o.IsDictOf knd kvs)
    (hkey : knd.is k key = true) (hd : (d == sysModules) = false) (hh : A.handled = none) (hv : valueAt kvs k = none)
    (h : ∀ h' e, Heap.MadeExcOf s.heap h' e (.type "KeyError") [key] → E (.ref e) { s with heap := h', toks := s.toks + 1 }) : wpAny (model prog w) A (getItem (.ref d) key) Q E s := by
  have hm := Heap.DictOf.mapOf (Heap.dictOf_iff.mpr ⟨o, (N _ hmem).1, hdo⟩)
  unfold getItem
  try with_reducible refine wpAny_holding ?_
  refine wpAny_bind (wpAny_sequenceKey hm.typeIs (by decide) ?_)
  refine wpAny_bind (wpAny_callSpecial?_slot (name := Str.ofString "__getitem__") hm.typeIs slot_dict_getitem
    (wpAny_call_entry slot_dict_getitem hm.typeIs entry_dict_getitem ?_ (args_dict_getitem _ _)))
  show wpAny _ _ (dictGet d key >>= _) _ _ s
  refine wpAny_bind (wpAny_dictGet_of hkey hm ?_)
  rw [hv]
  show wpAny _ _ (Builtin.Dict.missed d key >>= _) _ _ _
  refine wpAny_bind (wpAny_missed_other hd ?_)
  refine wpAny_bind (wpAny_typeOf (s := { s with toks := s.toks + 1 }) hm.typeIs ?_)
  show wpAny _ _ (if (Value.type "dict" != Value.type "dict") = true then _ else _) _ _ _
  rw [if_neg (by decide)]
  refine wpAny_bind (wpAny_rule ?_)
  refine wpAny_bind ?_
  unfold newExc newTuple
  refine wpAny_bind (wpAny_newObj_type ?_ (by size_fits))
  refine wpAny_bind (m := firstArgMember _ _) (wpAny_of_eq (a := Value.none) (by simp only [firstArgMember, plainExc_KeyError.first]; rfl) ?_)
  rw [plainExc_KeyError.own]
  refine wpAny_newObj_type ?_ (by size_fits)
  unfold raiseNew
  refine wpAny_bind (wpAny_handled ?_)
  rw [show (Around.in1 A).handled = none from hh]
  first
    | refine wpAny_throw ?_
    | refine wpAny_bind (wpAny_pure (wpAny_throw ?_))
  refine h _ _ ⟨fun b o hb => Heap.get?_push_of_some _ (Heap.get?_push_of_some _ hb), Heap.get?_none_of_le (by simp), s.heap.objs.size, Heap.get?_push_size _ rfl, Heap.get?_none_of_le (Nat.le_refl _), ?_⟩
  exact Heap.get?_push_of_some _ (Heap.get?_push_size _ rfl)
theorem meth_update {K' : Type} [DecidableEq K'] {knd : KeyKind prog w K'} {d : Addr} {o : Obj} {kvs : List (K' × Value)} {pl : Sem Bool} {Q : Value × List Value → Shared → Prop} (N : News h₀ L s.heap news) (hm : (d, o) ∈ news) (hd : o.IsDictOf knd kvs)
    (h : Q (.builtin "dict.update", [.ref d]) s) : wpAny (model prog w) A (getMethod (.ref d) "update" pl) Q E s := by
  have hD : s.heap.DictOf knd d kvs := Heap.dictOf_iff.mpr ⟨o, (N _ hm).1, hd⟩
  exact getMethod_builtin hD.typeIs PySem.F.plainAttrs_dict PySem.F.slot_dict_update PySem.F.type_dict_update hD.mapOf.noDict h
theorem sub_missing {K' : Type} [DecidableEq K'] {knd : KeyKind prog w K'} {value slice : PySem.Expr} {d : Addr} {o : Obj} {kvs : List (K' × Value)} {k : K'} {key : Value} {Q : Value → Shared → Prop} (N : News h₀ L s.heap news) (hmem : (d, o) ∈ news) (hdo : o.IsDictOf knd kvs)
    (hkey : knd.is k key = true) (hd : (d == sysModules) = false) (hh : A.handled = none) (hv : valueAt kvs k = none)
    (h : ∀ h' e, Heap.MadeExcOf s.heap h' e (.type "KeyError") [key] → E (.ref e) { s with heap := h', toks := s.toks + 1 })
    (hs : subscripted slice false (.ref d) key = operate [.ref d, key] (getItem (.ref d) key) := by with_unfolding_all rfl) (hg : ∀ r, letTemporaryGo value (.ref d) r = pure () := by intro _; with_unfolding_all rfl) :
    wpAny (model prog w) A (subscriptTail value slice (.ref d) key) Q E s :=
  have hD := kda_dict N hmem hdo
  subscriptTail_builtin hD.typeIs slot_dict_getitem.lookup (item_missing N hmem hdo hkey hd hh hv h) hs hg
end
end
section
open PySem PySem.W PyProof.Rows PySem.Calls
/-- what may be said of a call at any depth of frames: how it ends, with a value or with an exception on its way -/
structure CallOK (w : World) (h₀ : Heap) (mg mb : Str → Option Value) (loose : List Str) (mean : ExcName → Option Value) (news : List (Addr × Obj)) (Rz : Value → List (Addr × Obj) → Prop) (P : Heap → List Env → Addr → Heap → Prop) (f : Addr) (args : List Value) (n : Nat) : Prop where
  run : ∀ {A₀ : Around} {outer : List Env} {g : Heap} {L a : Addr} {m : Str → Option Value} {name : Str} {scope : Scope} {cd : Value} {s : Shared} {E : Value → Shared → Prop} {Q : Value → Shared → Prop},
    (hd.heap_39 w.params).In g → Top topProg loose mean mg mb g → Below A₀ h₀ outer g → Fr g L s.heap m → News g L s.heap news → Room A₀ n → scope.kind = .function →
    (∀ h' tk v news', Rz v news' → Fr g L h' m → News g L h' news' → Q v { s with heap := h', toks := tk }) →
    (∀ g₂ h' tk e, Fr g L g₂ m → P g₂ (envOf name scope L a cd :: outer) e h' → g₂.UpToSlots h' → E (.ref e) { s with heap := h', toks := tk }) →
    wpAny (model PySem.Challenge.rw_kp0119_10.row.prog w) (A₀.deeper (envOf name scope L a cd)) (call (.ref f) args) Q E s
structure Carried (h₀ : Heap) (P : Heap → List Env → Addr → Heap → Prop) : Prop where
  on : ∀ {M : Model} {A : Around} {E : Value → Shared → Prop} {Q : Unit → Shared → Prop} {g g₂ : Heap} {outer : List Env} {L a e : Addr} {m : Str → Option Value} {name : Str} {scope : Scope} {cd : Value} {s' : Shared},
    Below A h₀ outer g → Fr g L g₂ m → P g₂ (envOf name scope L a cd :: outer) e s'.heap → g₂.UpToSlots s'.heap → (∀ h', P g outer e h' → g.UpToSlots h' → Q () { s' with heap := h' }) →
    wpAny M (A.deeper (envOf name scope L a cd)) (leaving (envOf name scope L a cd) (.ref e)) Q E s'
theorem carried_SN {h₀ : Heap} {cls : Value} {news : List (Addr × Obj)} : Carried h₀ (fun G l e h => RaisedSN h₀ G l e cls news h) :=
  ⟨fun B F R U k => leave_onSN B F R U fun h' a _ c => k h' a c⟩
theorem carried_S {h₀ : Heap} {cls : Value} {vs : List Value} {news : List (Addr × Obj)} : Carried h₀ (fun G l e h => ∃ t, RaisedS h₀ G l e cls t vs news h) :=
  ⟨fun B F R U k => by
    obtain ⟨t, R⟩ := R
    exact leave_onS B F R U fun h' a _ c => k h' ⟨t, a⟩ c⟩
theorem Room.less {A : Around} {n k : Nat} (R : Room A n) (h : k ≤ n) : Room A k := ⟨R.handled, by have := R.depth; omega, by have := R.units; omega⟩
theorem room2 {e1 e2 : Env} : Room ((callerA.deeper e1).deeper e2) 20 := ⟨rfl, by show callerA.depth + 1 + 1 + 20 < 900; decide, by show callerA.units + 3 + 3 + 10 * 20 < 9000; decide⟩
theorem Room.deeper {A : Around} {n : Nat} {env : Env} (R : Room A (n + 1)) : Room (A.deeper env) n :=
  ⟨R.handled, by have := R.depth; rw [depth_deeper]; omega, by have := R.units; rw [units_deeper]; omega⟩
end
section
open PySem PySem.W PyProof.Rows PySem.Calls
section
variable {w : World} {h₀ : Heap} {mg mb : Str → Option Value} {loose : List Str} {mean : ExcName → Option Value} {news : List (Addr × Obj)} {xs ds : Nat → Addr} {par : Nat → Option Nat} {q : Nat → Nat → Nat} {u : Nat → Nat → Value}
theorem CallOK.mono {Rz Rz' : Value → List (Addr × Obj) → Prop} {P P' : Heap → List Env → Addr → Heap → Prop} {f : Addr} {args : List Value} {n n' : Nat} (h : CallOK w h₀ mg mb loose mean news Rz P f args n) (hR : ∀ v l, Rz v l → Rz' v l) (hP : ∀ G l e h, P G l e h → P' G l e h) (hn : n ≤ n') :
    CallOK w h₀ mg mb loose mean news Rz' P' f args n' := by
  refine ⟨?_⟩
  intro A₀ outer g L a m name scope cd s E Q X T B F N R hk hQ hE
  exact h.run X T B F N (R.less hn) hk (fun h' tk v l r F' N' => hQ h' tk v l (hR v l r) F' N') (fun g₂ h' tk e F' p U => hE g₂ h' tk e F' (hP _ _ _ _ p) U)
theorem Filters.mono {P : Params} {news news' : List (Addr × Obj)} (FL : Filters P xs ds par q u news) (h : ∀ p ∈ news, p ∈ news') : Filters P xs ds par q u news' :=
  ⟨fun k a b => h _ (FL.inst k a b), fun k a b => h _ (FL.dict k a b)⟩
/-- the way along the parents: from its end back to any filter -/
theorem chain {Rz : Value → List (Addr × Obj) → Prop} {P : Heap → List Env → Addr → Heap → Prop} {f : Addr} {args : Nat → List Value} {r : Option Nat} (hpar : ∀ k k', 2 ≤ k → k < 7 → par k = some k' → k' < k)
    (base : ∀ j, 2 ≤ j → j < 7 → par j = r → CallOK w h₀ mg mb loose mean news Rz P f (args j) 10)
    (step : ∀ j k n, 2 ≤ j → j < 7 → par j = some k → 2 ≤ k → k < 7 → CallOK w h₀ mg mb loose mean news Rz P f (args k) n → CallOK w h₀ mg mb loose mean news Rz P f (args j) (n + 1)) :
    ∀ j, 2 ≤ j → j < 7 → Ends par (par j) r → CallOK w h₀ mg mb loose mean news Rz P f (args j) (10 + j) := by
  intro j
  induction j using Nat.strongRecOn with
  | ind j ih =>
    intro h2 h7 H
    cases hp : par j with
    | none =>
      rw [hp] at H
      cases H
      exact CallOK.mono (n := 10) (n' := 10 + j) (@base j h2 h7 hp) (fun _ _ x => x) (fun _ _ _ _ x => x) (by omega)
    | some k =>
      rw [hp] at H
      cases H with
      | low hk => exact CallOK.mono (n := 10) (n' := 10 + j) (@base j h2 h7 hp) (fun _ _ x => x) (fun _ _ _ _ x => x) (by omega)
      | step hk2 hk7 H =>
        have hlt := hpar j k h2 h7 hp
        exact CallOK.mono (n := 10 + k + 1) (n' := 10 + j) (@step j k (10 + k) h2 h7 hp hk2 hk7 (@ih k hlt hk2 hk7 H)) (fun _ _ x => x) (fun _ _ _ _ x => x) (by omega)
end
end
section
open PySem PySem.W PyProof.Rows PySem.Spec PySem.Calls
/-- a tree that calls nothing and whose stores leave every object's own dict where it is -/
def KD {α : Type} : Sem α → Prop
  | .pure _ => True
  | .raise _ => True
  | .unsupported _ => True
  | .finish _ => True
  | .rule _ k => KD (k ())
  | .at _ k => KD (k ())
  | .load _ _ k => ∀ o, KD (k o)
  | .update _ _ f k => (∀ o, (f o).dict = o.dict ∧ (f o).isFreed = o.isFreed) ∧ KD (k ())
  | .alloc _ k => ∀ a, KD (k a)
  | .loadIfAlive _ k => ∀ o, KD (k o)
  | .point _ k => KD (k ())
  | .fresh k => ∀ t, KD (k t)
  | .ask k => ∀ s, KD (k s)
  | .handled _ k => ∀ v, KD (k v)
  | .stack k => ∀ st, KD (k st)
  | .register .. => False
  | .choose .. => False
  | .os .. => False
  | .call .. => False
  | .newGen .. => False
  | .genState .. => False
  | .resume .. => False
  | .yield .. => False
  | .fork .. => False
  | .thread .. => False
  | .await .. => False
def DK (h h' : Heap) : Prop := ∀ b o, h.get? b = some o → ∃ o', h'.get? b = some o' ∧ o'.dict = o.dict
theorem DK.refl (h : Heap) : DK h h := fun _ o e => ⟨o, e, rfl⟩
theorem DK.trans {a b c : Heap} (x : DK a b) (y : DK b c) : DK a c := fun q o e => by
  obtain ⟨o1, e1, d1⟩ := x q o e
  obtain ⟨o2, e2, d2⟩ := y q o1 e1
  exact ⟨o2, e2, d2.trans d1⟩
theorem KD.bind {α β : Type} {f : α → Sem β} : ∀ {t : Sem α}, KD t → (∀ a, KD (f a)) → KD (t.bind f) := by
  intro t
  induction t with
  | pure a => intro _ h; exact h a
  | raise e => intro _ _; trivial
  | unsupported w => intro _ _; trivial
  | finish e => intro _ _; trivial
  | rule tg k ih => intro x h; exact ih () x h
  | «at» p k ih => intro x h; exact ih () x h
  | load a p k ih => intro x h o; exact ih o (x o) h
  | update a p g k ih => intro x h; exact ⟨x.1, ih () x.2 h⟩
  | alloc o k ih => intro x h a; exact ih a (x a) h
  | loadIfAlive a k ih => intro x h o; exact ih o (x o) h
  | point l k ih => intro x h; exact ih () x h
  | fresh k ih => intro x h t; exact ih t (x t) h
  | ask k ih => intro x h t; exact ih t (x t) h
  | handled o k ih => intro x h t; exact ih t (x t) h
  | stack k ih => intro x h t; exact ih t (x t) h
  | register => intro x; exact x.elim
  | choose => intro x; exact x.elim
  | os => intro x; exact x.elim
  | call => intro x; exact x.elim
  | newGen => intro x; exact x.elim
  | genState => intro x; exact x.elim
  | resume => intro x; exact x.elim
  | yield => intro x; exact x.elim
  | fork => intro x; exact x.elim
  | thread => intro x; exact x.elim
  | await => intro x; exact x.elim
theorem DK.push (h : Heap) (o : Obj) : DK h (h.push o) := fun _ x e => ⟨x, Heap.get?_push_of_some _ e, rfl⟩
theorem DK.update {h : Heap} {a : Addr} {f : Obj → Obj} (hf : ∀ o, (f o).dict = o.dict ∧ (f o).isFreed = o.isFreed) : DK h (h.update a f) := fun b o e => by
  by_cases q : a = b
  · subst q
    exact ⟨f o, Heap.get?_update_self f e ((hf o).2.trans (Heap.get?_some_iff.mp e).2), (hf o).1⟩
  · exact ⟨o, (Heap.get?_update_other _ _ q).trans e, rfl⟩
theorem wp_KD {α : Type} {M : Model} {Γ : PySem.Ctx} {h₀ : Heap} : ∀ {t : Sem α} {Q : α → Pos → Shared → Prop} {E : Value → Pos → Shared → Prop} {p : Pos} {s : Shared}, KD t → DK h₀ s.heap → Sem.wp M Γ t Q E p s →
    Sem.wp M Γ t (fun a p' s' => DK h₀ s'.heap ∧ Q a p' s') (fun e p' s' => DK h₀ s'.heap ∧ E e p' s') p s := by
  intro t
  induction t with
  | pure a => intro Q E p s _ d h; rw [Sem.wp] at h ⊢; exact ⟨d, h⟩
  | raise e => intro Q E p s _ d h; rw [Sem.wp] at h ⊢; exact ⟨d, h⟩
  | unsupported w => intro Q E p s _ _ h; rw [Sem.wp] at h; exact h.elim
  | finish e => intro Q E p s _ _ h; rw [Sem.wp] at h; exact h.elim
  | rule tg k ih => intro Q E p s x d h; rw [Sem.wp] at h ⊢; exact ih () x d h
  | «at» p k ih => intro Q E p s x d h; rw [Sem.wp] at h ⊢; exact ih () x d h
  | load a p k ih => intro Q E p s x d h; rw [Sem.wp] at h ⊢; obtain ⟨o, ho, h⟩ := h; exact ⟨o, ho, ih o (x o) d h⟩
  | update a p g k ih => intro Q E p s x d h; rw [Sem.wp] at h ⊢; exact ⟨h.1, ih () x.2 (d.trans (DK.update x.1)) h.2⟩
  | alloc o k ih => intro Q E p s x d h; rw [Sem.wp] at h ⊢; exact ih _ (x _) (d.trans (DK.push _ _)) h
  | loadIfAlive a k ih => intro Q E p s x d h; rw [Sem.wp] at h ⊢; exact ih _ (x _) d h
  | point l k ih => intro Q E p s x d h; rw [Sem.wp] at h ⊢; exact ih () x d h
  | fresh k ih => intro Q E p s x d h; rw [Sem.wp] at h ⊢; exact ih _ (x _) d h
  | ask k ih => intro Q E p s x d h; rw [Sem.wp] at h ⊢; exact ih _ (x _) d h
  | handled o k ih => intro Q E p s x d h; rw [Sem.wp] at h ⊢; exact ih _ (x _) d h
  | stack k ih => intro Q E p s x d h; rw [Sem.wp] at h ⊢; exact ih _ (x _) d h
  | register => intro Q E p s x; exact x.elim
  | choose => intro Q E p s x; exact x.elim
  | os => intro Q E p s x; exact x.elim
  | call => intro Q E p s x; exact x.elim
  | newGen => intro Q E p s x; exact x.elim
  | genState => intro Q E p s x; exact x.elim
  | resume => intro Q E p s x; exact x.elim
  | yield => intro Q E p s x; exact x.elim
  | fork => intro Q E p s x; exact x.elim
  | thread => intro Q E p s x; exact x.elim
  | await => intro Q E p s x; exact x.elim
theorem wpAny_KD {α : Type} {M : Model} {A : Around} {t : Sem α} {Q : α → Shared → Prop} {E : Value → Shared → Prop} {s : Shared} (k : KD t) (h : wpAny M A t Q E s) :
    wpAny M A t (fun a s' => DK s.heap s'.heap ∧ Q a s') (fun e s' => DK s.heap s'.heap ∧ E e s') s := fun Γ p hΓ => wp_KD k (DK.refl _) (h Γ p hΓ)
theorem kd_bind {α β : Type} {t : Sem α} {f : α → Sem β} (x : KD t) (h : ∀ a, KD (f a)) : KD (t >>= f) := KD.bind x h
theorem kd_pure {α : Type} (a : α) : KD (pure a : Sem α) := trivial
theorem kd_load (a : Addr) : KD (load a) := fun _ => trivial
theorem kd_loadPart (a : Addr) (p : Option Value) : KD (loadPart a p) := fun _ => trivial
theorem kd_uns {α : Type} (w : String) : KD (unsupported w : Sem α) := trivial
theorem kd_stack : KD stack := fun _ => trivial
theorem kd_alloc (o : Obj) : KD (alloc o) := fun _ => trivial
theorem kd_fieldsOf (v : Value) : KD (fieldsOf v) := by
  unfold fieldsOf
  split
  · refine kd_bind (kd_load _) fun o => ?_
    split <;> first | exact kd_pure _ | exact kd_uns _
  all_goals exact kd_uns _
theorem kd_field (v : Value) (i : Nat) : KD (field v i) := by
  unfold field
  refine kd_bind (kd_fieldsOf v) fun vs => ?_
  split <;> first | exact kd_pure _ | exact kd_uns _
theorem kd_setField (v : Value) (i : Nat) (x : Value) : KD (setField v i x) := by
  unfold setField
  split
  · unfold updateField
    refine kd_bind (kd_load _) fun o => ?_
    split
    · split
      · exact ⟨fun o => by
          obtain ⟨_, _, d, _⟩ := o
          cases d <;> exact ⟨rfl, rfl⟩, trivial⟩
      · exact kd_uns _
    · exact kd_uns _
  · exact kd_uns _
theorem kd_ite {α : Type} {c : Prop} [Decidable c] {a b : Sem α} (x : KD a) (y : KD b) : KD (if c then a else b) := by
  by_cases h : c
  · rw [if_pos h]; exact x
  · rw [if_neg h]; exact y
theorem kd_setFlight (e : Value) (f : Option Addr) : KD (setFlight e f) := by
  unfold setFlight
  refine kd_bind (kd_field _ _) fun tb => kd_ite (kd_setField _ _ _) (kd_pure _)
theorem kd_place (f : Addr) (b : Bool) : KD (entryPlaceOf f b) := by
  unfold entryPlaceOf
  refine kd_bind kd_stack fun st => ?_
  split <;> exact kd_pure _
theorem kd_entry (a b c d e : Value) (l : List Value) : KD (EntryCells.newEntry a b c d e l) := by
  unfold EntryCells.newEntry newFields newObj newObjAsIs
  repeat' (first | exact kd_uns _ | exact kd_pure _ | exact kd_alloc _ | exact kd_load _ | (refine kd_bind ?_ fun _ => ?_) | (refine kd_ite ?_ ?_) | (dsimp only))
theorem kd_ready : ∀ l : List Env, KD (readyFrames l)
  | [] => trivial
  | env :: outer => by
    unfold readyFrames
    split
    · refine kd_bind (kd_load _) fun o => kd_ite (kd_pure _) ?_
      refine kd_bind ?_ fun i => kd_bind ?_ fun b => ?_
      · unfold behindIsImport
        refine kd_ite (kd_pure _) (kd_ite (kd_pure _) (kd_bind (kd_field _ _) fun _ => kd_pure _))
      · unfold keptBack
        split
        · refine kd_ite (kd_pure _) (kd_bind ?_ fun _ => kd_pure _)
          unfold underTheClaimsCaller
          exact kd_bind kd_stack fun _ => kd_pure _
        · exact kd_pure _
      · refine kd_bind (t := update _ _) ⟨fun o => by
          obtain ⟨_, _, d, _⟩ := o
          cases d <;> exact ⟨rfl, rfl⟩, trivial⟩ fun _ => kd_ready outer
    · exact kd_uns _
theorem kd_frameOf (env : Env) : KD (PySem.frameOf env) := by
  unfold PySem.frameOf
  refine kd_bind (kd_bind kd_stack fun _ => kd_pure _) fun l => kd_bind ?_ fun r => ?_
  · unfold frameObject
    split
    · exact kd_pure _
    · exact kd_bind (kd_ready _) fun _ => kd_pure _
  · split <;> first | exact kd_pure _ | exact kd_uns _
theorem kd_noteFrame (e : Value) (env : Env) : KD (noteFrame e env) := by
  unfold noteFrame
  split
  · refine kd_bind (kd_field _ _) fun hd => ?_
    have tail : KD (do setField e 1 (← EntryCells.newEntry hd (← PySem.frameOf env) .none (rawInt (by assumption : Addr)) .none (← entryPlaceOf (by assumption : Addr) (hd != .none))) : Sem Unit) :=
      kd_bind (kd_frameOf _) fun _ => kd_bind (kd_place _ _) fun _ => kd_bind (kd_entry _ _ _ _ _ _) fun _ => kd_setField _ _ _
    refine kd_ite ?_ ?_
    · refine kd_bind (kd_field _ _) fun _ => kd_ite (kd_pure _) (kd_bind (kd_setField _ _ _) fun _ => tail)
    · exact tail
  · exact kd_uns _
theorem kd_leaving (e : Value) (env : Env) : KD (leaving env e) := by
  unfold leaving
  exact kd_bind (kd_noteFrame _ _) fun _ => kd_setFlight _ _
end
section
open PySem PySem.W PyProof.Rows PySem.Spec PySem.Calls
/-- the object has a dict of its own, and it is this one -/
def HasDict (h : Heap) (e de : Addr) : Prop := ∃ o, h.get? e = some o ∧ o.dict = some de
theorem HasDict.up {h h' : Heap} {e de : Addr} (x : HasDict h e de) (k : DK h h') : HasDict h' e de := by
  obtain ⟨o, e1, d1⟩ := x
  obtain ⟨o', e2, d2⟩ := k e o e1
  exact ⟨o', e2, d2.trans d1⟩
theorem HasDict.keeps {h h' : Heap} {e de : Addr} (x : HasDict h e de) (k : ∀ b o, h.get? b = some o → h'.get? b = some o) : HasDict h' e de := by
  obtain ⟨o, e1, d1⟩ := x
  exact ⟨o, k _ _ e1, d1⟩
def RaisedD (base G : Heap) (l : List Env) (e : Addr) (cls : Value) (t : Addr) (vs : List Value) (de : Addr) (news : List (Addr × Obj)) (h : Heap) : Prop := RaisedS base G l e cls t vs news h ∧ HasDict h e de
section
variable {M : Model} {A : Around} {E : Value → Shared → Prop} {s' : Shared} {base g g₂ h : Heap} {outer : List Env} {L e de t : Addr} {m : Str → Option Value} {name : Str} {scope : Scope} {a : Addr} {cd : Value} {env : Env} {Q : Unit → Shared → Prop} {news : List (Addr × Obj)}
theorem leave_onD {cls : Value} {vs : List Value} (K : Below A base outer g) (F : Fr g L g₂ m) (R : RaisedD base g₂ (envOf name scope L a cd :: outer) e cls t vs de news s'.heap) (hsm : g₂.UpToSlots s'.heap)
    (hQ : ∀ h', RaisedD base g outer e cls t vs de news h' → g.UpToSlots h' → Q () { s' with heap := h' }) :
    wpAny M (A.deeper (envOf name scope L a cd)) (leaving (envOf name scope L a cd) (.ref e)) Q E s' := by
  have H := wpAny_KD (kd_leaving (.ref e) (envOf name scope L a cd)) (leave_onS (M := M) (E := E) (Q := fun _ s => ∃ h', s = { s' with heap := h' } ∧ RaisedS base g outer e cls t vs news h' ∧ g.UpToSlots h') K F R.1 hsm fun h' x _ y => ⟨h', rfl, x, y⟩)
  refine wpAny_mono H (fun _ s z => ?_) fun _ _ z => z.2
  obtain ⟨d, h', rfl, x, y⟩ := z
  exact hQ h' ⟨x, R.2.up d⟩ y
theorem leave_firstD {C : Value} {vs : List Value} {oe ot : Obj} {ws : Array Value} {nt : Nat} (K : Below A base outer g) (F : Fr g L h m) (N : News g L h news)
    (hk9 : ∀ b o, h.get? b = some o → s'.heap.get? b = some o) (hen : h.get? e = none) (htn : h.get? t = none) (he : s'.heap.get? e = some oe) (hcls : oe.cls = C) (hdict : oe.dict = some de) (hd : oe.data = .fields ws) (h0 : ws[0]? = some (.ref t)) (h1 : ws[1]? = some .none)
    (ht : s'.heap.get? t = some ot) (htc : ot.cls = .type "tuple") (htd : ot.data = .seq vs.toArray nt)
    (hf : env.frame = some L) (hk : env.scope.kind = .function)
    (hQ : ∀ h', RaisedD base g outer e C t vs de news h' → g.UpToSlots h' → Q () { s' with heap := h' }) :
    wpAny M (A.deeper env) (leaving env (.ref e)) Q E s' := by
  have H := wpAny_KD (kd_leaving (.ref e) env) (leave_newer (M := M) (E := E) (Q := fun _ s => ∃ h', s = { s' with heap := h' } ∧ RaisedS base g outer e C t vs news h' ∧ g.UpToSlots h') K F N hk9 hen he hd h0 h1 hcls hf hk
    fun h' B b1 b2 b3 b4 b6 b5 b7 => ⟨h', rfl, ⟨⟨B, b1, b2, b3, b4, b6 t htn⟩, Heap.TupAt.of_slots ⟨ot, nt, ht, htc, htd⟩ b7⟩, b5⟩)
  refine wpAny_mono H (fun _ s z => ?_) fun _ _ z => z.2
  obtain ⟨d, h', rfl, x, y⟩ := z
  exact hQ h' ⟨x, HasDict.up ⟨oe, he, hdict⟩ d⟩ y
end
theorem carried_D {h₀ : Heap} {cls : Value} {vs : List Value} {news : List (Addr × Obj)} {de : Addr} : Carried h₀ (fun G l e h => ∃ t, RaisedD h₀ G l e cls t vs de news h) :=
  ⟨fun B F R U k => by
    obtain ⟨t, R⟩ := R
    exact leave_onD B F R U fun h' a c => k h' ⟨t, a⟩ c⟩
section
variable {prog : Program} {w : World} {A₀ : Around} {E : Value → Shared → Prop} {s' : Shared} {base g g₀ G : Heap} {outer : List Env} {L a e t de : Addr} {m : Str → Option Value} {name : Str} {scope : Scope} {cd cls : Value}
  {vs : List Value} {n : Str} {b₀ : Stmt} {suite : List Stmt} {pos : Pos} {rest hs : List ExceptHandler} {Q : Flow → Shared → Prop} {news : List (Addr × Obj)} {KF : Frag} {tt : PySem.Expr} {nm : Option Str} {body : List Stmt}
  {p : Program} {loose : List Str} {mean : ExcName → Option Value} {mg mb : Str → Option Value}
theorem look_D (R : RaisedD base G (envOf name scope L a cd :: outer) e cls t vs de news s'.heap) (F : Fr g L G m) (K : Below A₀ base outer g) (hsm : G.UpToSlots s'.heap)
    (k : ∀ h', RaisedD base G (envOf name scope L a cd :: outer) e cls t vs de news h' → G.UpToSlots h' → wpAny (model prog w) (A₀.deeper (envOf name scope L a cd)) (handleBy (.ref e) (envOf name scope L a cd) hs) Q E { s' with heap := h' }) :
    wpAny (model prog w) (A₀.deeper (envOf name scope L a cd)) (noteFrame (.ref e) (envOf name scope L a cd))
      (fun _ s₂ => wpAny (model prog w) (A₀.deeper (envOf name scope L a cd)) (setFlight (.ref e) none) (fun _ s₃ =>
        wpAny (model prog w) (A₀.deeper (envOf name scope L a cd)) (handleBy (.ref e) (envOf name scope L a cd) hs) Q E s₃) E s₂) E s' := by
  obtain ⟨⟨⟨B, hB, hBG, hl, hfl, hnew⟩, htup⟩, hdt⟩ := R
  refine wpAny_mono (wpAny_KD (kd_noteFrame (.ref e) (envOf name scope L a cd)) (wpAny_looks_onW (M := model prog w) (E := E) (Q := fun _ s => ∃ h₄, s = { s' with heap := h₄ } ∧ Heap.HeldW B (envOf name scope L a cd :: outer) e cls (.ref t) L h₄ ∧ s'.heap.UpToSlots h₄)
    (Around.frames_deeper K.stack) rfl hfl fun h₄ x y => ⟨h₄, rfl, x, y⟩)) (fun _ s₂ z => ?_) fun _ _ z => z.2
  obtain ⟨d₄, h₄, rfl, hheld₄, hsm₄⟩ := z
  refine wpAny_mono (wpAny_KD (kd_setFlight (.ref e) none) (wpAny_landsW (M := model prog w) (E := E) (s := { s' with heap := h₄ }) (Q := fun _ s => ∃ h₅, s = { s' with heap := h₅ } ∧ Heap.FlyingW B (envOf name scope L a cd :: outer) e cls (.ref t) h₅ ∧ h₄.UpToSlots h₅)
    hheld₄ fun h₅ x y => ⟨h₅, rfl, x, y⟩)) (fun _ s₃ z => ?_) fun _ _ z => z.2
  obtain ⟨d₅, h₅, rfl, hheld, hsm₅⟩ := z
  exact k h₅ ⟨⟨⟨B, hB, hBG, hl, hheld, hnew⟩, htup.of_slots (hsm₄.trans hsm₅)⟩, (hdt.up d₄).up d₅⟩ (hsm.trans (hsm₄.trans hsm₅))
theorem pass_D (R : RaisedD base G (envOf name scope L a cd :: outer) e cls t vs de news s'.heap) (F : Fr g L G m) (K : Below A₀ base outer g) (hsm : G.UpToSlots s'.heap) (XB : KF.In base) (TB : Top p loose mean mg mb base)
    (T : KtsTest prog w KF p loose mg mb name scope L a cd cls tt false)
    (k : ∀ h', RaisedD base G (envOf name scope L a cd :: outer) e cls t vs de news h' → G.UpToSlots h' → wpAny (model prog w) (A₀.deeper (envOf name scope L a cd)) (handleBy (.ref e) (envOf name scope L a cd) rest) Q E { s' with heap := h' }) :
    wpAny (model prog w) (A₀.deeper (envOf name scope L a cd)) (handleBy (.ref e) (envOf name scope L a cd) (.ExceptHandler (some tt) nm body pos :: rest)) Q E s' := by
  obtain ⟨RS, hdt⟩ := R
  have RS' := RS
  obtain ⟨⟨B, hB, hBG, hl, hfl, hnew⟩, htup⟩ := RS'
  obtain ⟨g₅, T₅, F₅, K₅⟩ := kts_ground K F hBG hfl.1 hsm
  refine wpAny_handleBy_cons (codeAny_handlers_test (T _ _ _ _ g₅ e m F₅ (XB.keeps K₅.stays) (topRead_of (TB.keeps K₅.stays)) RS.toSN.ty fun h' kp => ?_)) (by intro q; cases q)
  exact k h' ⟨RS.keeps kp, hdt.keeps kp⟩ (hsm.trans (Heap.UpToSlots.of_keeps kp))
theorem hit_D (R : RaisedD base G (envOf name scope L a cd :: outer) e cls t vs de news s'.heap) (F : Fr g L G m) (K : Below A₀ base outer g) (hsm : G.UpToSlots s'.heap) (XB : KF.In base) (TB : Top p loose mean mg mb base)
    (D : KtsDicts (outer.filterMap (·.frame)) g) (T0 : KtsTurn (outer.filterMap (·.frame)) g₀ g) (T : KtsTest prog w KF p loose mg mb name scope L a cd cls tt true)
    (k : ∀ h' g' oe sl ws tk, KtsTurn (outer.filterMap (·.frame)) g₀ g' → Fr g' L h' (fun y => if y = n then some (.ref e) else m y) → oe = { cls := cls, dict := some de, data := .fields ws, slots := sl } → News g' L h' ((e, oe) :: news) → Below A₀ base outer g' → KF.In g' → Top p loose mean mg mb g' → KtsDicts (outer.filterMap (·.frame)) g' →
      wpAny (model prog w) ((A₀.deeper (envOf name scope L a cd)).mark (some (.ref e))) (execs (b₀ :: suite) (envOf name scope L a cd))
        (fun f s₄ => wpAny (model prog w) (A₀.deeper (envOf name scope L a cd)) (do bindName (envOf name scope L a cd) n .none; unbindBehindTheSuite (envOf name scope L a cd) n pos) (fun _ s₅ => Q f s₅) E s₄)
        (AsSuiteRaised (model prog w) ((A₀.deeper (envOf name scope L a cd)).mark (some (.ref e))) (envOf name scope L a cd) n pos (notedBy (model prog w) ((A₀.deeper (envOf name scope L a cd)).mark (some (.ref e))) (envOf name scope L a cd) (cameBackBy (model prog w) (A₀.deeper (envOf name scope L a cd)) (envOf name scope L a cd) E)))
        { s' with heap := h', toks := tk })
    (hk : scope.kind = .function := by rfl) (hlo : (envOf name scope L a cd).kindOf n = some .local := by rfl) :
    wpAny (model prog w) (A₀.deeper (envOf name scope L a cd)) (handleBy (.ref e) (envOf name scope L a cd) (.ExceptHandler (some tt) (some n) (b₀ :: suite) pos :: rest)) Q E s' := by
  obtain ⟨RS, hdt⟩ := R
  have R' := RS
  obtain ⟨⟨B₁, _, hBG₁, _, hfl₁, _⟩, _⟩ := R'
  obtain ⟨g₅, T₅, F₅, K₅⟩ := kts_ground K F hBG₁ hfl₁.1 hsm
  refine wpAny_handleBy_cons (codeAny_handlers_test (T _ _ _ _ g₅ e m F₅ (XB.keeps K₅.stays) (topRead_of (TB.keeps K₅.stays)) RS.toSN.ty fun h₅ kp => ?_)) (by intro q; cases q)
  have hsm₅ : G.UpToSlots h₅ := hsm.trans (Heap.UpToSlots.of_keeps kp)
  obtain ⟨⟨B, hB, hBG, hl, hheld, hnew⟩, htup⟩ := RS.keeps kp
  have hL : B.get? L = none := by
    obtain ⟨_, ⟨L', _, hf, hn', _⟩, _⟩ := hheld.2.2.1
    obtain rfl : L = L' := Option.some.inj hf
    exact hn'
  refine codeAny_handlers_suite_as ?_
  refine wpAny_mono (wpAny_KD (kd_setFlight (.ref e) none) (lands_againW (M := model prog w) (s := { s' with heap := h₅ }) (Q := fun _ s => ∃ h₆, s = { s' with heap := h₆ } ∧ Heap.FlyingW B (envOf name scope L a cd :: outer) e cls (.ref t) h₆ ∧ h₅.UpToSlots h₆) (E := fun _ _ => False)
    hheld fun h₆ x y => ⟨h₆, rfl, x, y⟩)) (fun _ s₃ z => ?_) fun _ _ z => z.2.elim
  obtain ⟨d₆, h₆, rfl, hfl₆, hsm₆⟩ := z
  have hdt₆ := (hdt.keeps kp).up d₆
  obtain ⟨g₆, T₆, F₆, K₆⟩ := kts_ground K F hBG hfl₆.1 (hsm₅.trans hsm₆)
  obtain ⟨oe, ws, hoe, hoec, hoed, hoe0⟩ := hfl₆.first
  obtain ⟨oe', hoe', hod⟩ := hdt₆
  rw [hoe] at hoe'
  cases hoe'
  have ne₆ : g₆.get? e = none := T₆.none_ _ (kts_fresh F hBG hfl₆.2.1 fun o ho mm => by
    obtain ⟨_, o', ho', hd⟩ := K.frames.mem mm
    rw [ho] at ho'
    cases ho'
    obtain ⟨sl, hs⟩ := (hsm₅.trans hsm₆) _ _ (F.keep _ _ ho) hd
    rw [hoe] at hs
    cases hs
    exact hd _ hoed)
  have N₆ := News.more F₆ News.nil hoe (fun es n q => by rw [hoed] at q; cases q) ne₆
  have Nl : News g₆ L h₆ news := fun q hq => ⟨hfl₆.1 _ _ (hl q hq).1, (fun z => by have := (hl q hq).1; rw [z, hL] at this; cases this), T₆.none_ _ (kts_none F.keep (hl q hq).2.1)⟩
  have X₆ : KF.In g₆ := XB.keeps K₆.stays
  have P₆ : Top p loose mean mg mb g₆ := TB.keeps K₆.stays
  have D₆ : KtsDicts (outer.filterMap (·.frame)) g₆ := D.turn T₆
  refine stN F₆ (news := (e, oe) :: news) (fun q hq => (List.mem_cons.mp hq).elim (fun z => N₆ q (by rw [z]; exact .head _)) (Nl q)) (fun h₇ F₇ N₇ => ?_) hk hlo
  obtain ⟨oc, od, oda, osl⟩ := oe
  exact k h₇ g₆ _ osl ws _ (T0.trans T₆) F₇ (by dsimp only at hoec hod hoed; rw [hoec, hod, hoed]) N₇ K₆ X₆ P₆ D₆
end
end
section
open PySem PySem.W PyProof.Rows PySem.Spec PySem.Calls
/-- what stands above a class of the text that is made of SAXException -/
abbrev saxBm : List Value := [.ref 263, .type "Exception", .type "BaseException", .type "object"]
def saxIn (K : Frag) (C : Addr) : Bool := match K.lookup C with
  | some ⟨.type "type", _, .cls cd, sl⟩ => (match sl.toList with
    | [_, _, _, _, some (.builtin n), _] => n == "Exception.__new__" && cd.mro == .ref C :: saxBm && !cd.hasDel && cd.hasDict
    | _ => false)
  | _ => false
def SaxCls (h : Heap) (C : Addr) : Prop := ∃ nm q N bs sn sub ab col dd k0 k1 k2 k3 k5, h.get? C = some (excClassObj nm q C N bs saxBm true sn sub ab col dd k0 k1 k2 k3 k5 "Exception.__new__")
theorem sax_cls {K : Frag} {h : Heap} {C : Addr} (X : K.In h) (q : saxIn K C = true) : SaxCls h C := by
  unfold saxIn at q
  split at q
  · rename_i dd cd sl ho
    split at q
    · rename_i k0 k1 k2 k3 n k5 hs
      simp only [Bool.and_eq_true, beq_iff_eq, Bool.not_eq_true'] at q
      obtain ⟨⟨⟨rfl, hm⟩, hdel⟩, hd⟩ := q
      obtain ⟨nm, bs, mro, ns, qn, hdc, sn, sub, ab, col, del⟩ := cd
      dsimp only at hm hdel hd
      subst hm hdel hd
      have hsl : sl = #[k0, k1, k2, k3, some (.builtin "Exception.__new__"), k5] := by
        obtain ⟨l⟩ := sl
        simp only at hs
        rw [hs]
      subst hsl
      exact ⟨nm, qn, ns, bs, sn, sub, ab, col, dd, k0, k1, k2, k3, k5, X _ _ ho⟩
    · cases q
  · cases q
section
variable {M : Model} {A : Around} {E : Value → Shared → Prop} {h : Heap} {g : Array GenState} {d : Drawn} {t : Nat} {os : OsState}
variable {nm q : Str} {C N : Addr} {bs : List Value} {hdct : Bool} {sn : List Str} {sub : List Value} {ab : Bool} {col : Option Bool} {dd : Option Addr} {k0 k1 k2 k3 k5 : Option Value}
theorem sax_check_new {rest : List Value} {Q : Unit → Shared → Prop} (hC : h.get? C = some (excClassObj nm q C N bs saxBm hdct sn sub ab col dd k0 k1 k2 k3 k5 "Exception.__new__"))
    (hq : Q () ⟨h, g, d, t, os⟩) : wpAny M A (checkBuiltinCall "Exception.__new__" ⟨.ref C :: rest, []⟩) Q E ⟨h, g, d, t, os⟩ := by
  have F := PySem.F.excBase_Exception
  have hcont : (Value.ref C :: saxBm).contains (.type "Exception") = true := by rw [List.contains_cons]; rfl
  have hstar := F.noStar
  simp only [checkBuiltinCall, F.newKind, F.newSplit, F.newRow]
  repeat (first | refine wpAny_loadPart_at hC ?_ | (refine wpAny_isSubtype_exc hC ?_; rw [hcont]) | refine wpAny_staticBase_exc hC ?_ | refine wpAny_madeBy_exc hC ?_ | simp only [bne_self_eq_false, Bool.false_eq_true, if_false] | wp_step)
  exact hq
end
section
variable {prog : Program} {w : World} {A : Around} {R : Result → Shared → Prop} {E : Value → Shared → Prop} {h : Heap} {g : Array GenState} {d : Drawn} {t : Nat} {os : OsState}
variable {nm q : Str} {C N : Addr} {bs : List Value} {hdct : Bool} {sn : List Str} {sub : List Value} {ab : Bool} {col : Option Bool} {dd : Option Addr} {k0 k1 k2 k3 k5 : Option Value}
theorem sax_new {rest : List Value} (hC : h.get? C = some (excClassObj nm q C N bs saxBm hdct sn sub ab col dd k0 k1 k2 k3 k5 "Exception.__new__"))
    (hq : R (.ok (.ret (.ref (h.objs.size + 1)))) ⟨(h.push { cls := .type "tuple", data := .seq rest.toArray }).push
      { cls := .ref C, data := .fields #[.ref h.objs.size, .none, .none, .none, .bool false, .none] }, g, d, t, os⟩) (hrest : rest.length ≤ sizeLine := by size_fits) :
    codeAny (model prog w) A (.builtin "Exception.__new__" ⟨.ref C :: rest, []⟩) R ⟨h, g, d, t, os⟩ := by
  have F := PySem.F.excBase_Exception
  have hends := F.ends
  have hcB : (Value.ref C :: saxBm).contains (.type "Exception") = true := by rw [List.contains_cons]; rfl
  have hcA : (Value.ref C :: saxBm).contains (.type "AttributeError") = false := by rw [List.contains_cons]; rfl
  have hcN : (Value.ref C :: saxBm).contains (.type "NameError") = false := by rw [List.contains_cons]; rfl
  refine codeAny_builtinAt F.entry ?_
  unfold Builtin.«BaseException.__new__»
  refine PySem.wpAt_bind ?_
  show PySem.wpAt _ _ _ (stack >>= _) _ _ _
  refine PySem.wpAt_bind (PySem.wpAt_stack fun p below => PySem.wpAt_of_wpAny ?_)
  wp_walk
  refine PySem.wpAt_of_wpAny ?_
  rw [F.owner]
  repeat (first | with_reducible refine wpAny_madeHere_exc F.canon hC ?_ | with_reducible refine wpAny_loadPart_at hC ?_ | (with_reducible refine wpAny_isSubtype_exc hC ?_; first | rw [hcB] | rw [hcA] | rw [hcN]) | wp_step)
  show R _ _
  rw [Heap.size_push]
  exact hq
/-- a class of the text under SAXException is called: the object, then its own __init__ -/
theorem sax_call {rest : List Value} {fI : Addr} {Q : Value → Shared → Prop} (hC : h.get? C = some (excClassObj nm q C N bs saxBm hdct sn sub ab col dd k0 k1 k2 k3 k5 "Exception.__new__"))
    (hi : Looks (model prog w) h (typeLookup (.ref C) "__init__") (some (.ref fI))) (hb : ∀ self, Looks (model prog w) h (bindSpecial (.ref fI) self) (.ref fI, [self]))
    (hq : codeAny (model prog w) (A.under (.builtin "type.__call__" ⟨.ref C :: rest, []⟩)) (.call (.ref fI) ⟨.ref (h.objs.size + 1) :: rest, []⟩) (InitBack (h.objs.size + 1) (fun r s' => match r with | .ok (.ret v) => Q v s' | .ok _ => False | .error e => E e s'))
      ⟨(h.push { cls := .type "tuple", data := .seq rest.toArray }).push { cls := .ref C, data := .fields #[.ref h.objs.size, .none, .none, .none, .bool false, .none] }, g, d, t, os⟩) (hrest : rest.length ≤ sizeLine := by size_fits) :
    wpAny (model prog w) A (call (.ref C) rest) Q E ⟨h, g, d, t, os⟩ := by
  have f1 := tc_lookup
  have f2 := tc_bind (.ref C)
  have hT : (⟨h, g, d, t, os⟩ : Shared).TypeIs (.ref C) "type" := ⟨_, hC, rfl⟩
  refine wpAny_call (codeAny_of_tree ?_)
  show wpAny _ _ (callAny (.ref C) _) _ _ _
  repeat (any_goals (first | assumption | with_reducible refine wpAny_loadPart_at hC ?_ | wp_step))
  refine ⟨rfl, ?_⟩
  refine codeAny_call_builtin_at (Code.quiet_builtin _ (by decide +kernel)) entry_typeCall (wpAny_check_type_call_sub hC ?_)
  unfold Builtin.«type.__call__»
  repeat (first | with_reducible refine wpAny_loadPart_at hC ?_ | with_reducible refine wpAny_madeBy_exc hC ?_ | wp_step)
  refine codeAny_call_builtin_code (Code.quiet_builtin _ PySem.F.excBase_Exception.quiet) (sax_check_new hC ?_)
  refine sax_new hC ?_ hrest
  show wpAny _ _ _ _ _ _
  have k9 : ∀ b o, h.get? b = some o → ((h.push { cls := .type "tuple", data := .seq rest.toArray }).push { cls := .ref C, data := .fields #[.ref h.objs.size, .none, .none, .none, .bool false, .none] }).get? b = some o := fun b o e => Heap.get?_push_of_some _ (Heap.get?_push_of_some _ e)
  have hC₁ := k9 _ _ hC
  have hget : ((h.push { cls := .type "tuple", data := .seq rest.toArray }).push
      { cls := .ref C, data := .fields #[.ref h.objs.size, .none, .none, .none, .bool false, .none] }).get? (h.objs.size + 1) = some
      { cls := .ref C, data := .fields #[.ref h.objs.size, .none, .none, .none, .bool false, .none] } := by heap_get
  have hcC : (Value.ref C :: saxBm).contains (.ref C) = true := by simp
  have i1 := hi.keeps k9
  have b1 := (hb (.ref (h.objs.size + 1))).keeps k9
  unfold isInstance
  repeat (first | with_reducible refine wpAny_loadPart_at hget ?_ | wp_step)
  refine wpAny_isSubtype_exc hC₁ ?_
  rw [hcC]
  repeat (first | with_reducible refine wpAny_loadPart_at hget ?_ | wp_step)
  show wpAny _ _ (typeLookup (.ref C) _) _ _ _
  refine i1.at ?_
  refine wpAny_holding (wpAny_bind (b1.at ?_))
  refine wpAny_bind (wpAny_call (codeAny_mono hq fun r s' z => ?_))
  rcases r with e | (v | _ | _ | _) <;> first | exact z | exact z.elim | skip
  obtain ⟨rfl, z⟩ := z
  first
    | exact wpAny_pure (wpAny_pure z)
    | (wp_walk; exact z)
end
theorem sax276 (P : Params) : saxIn (hd.heap_39 P) 276 = true := by kernel_rfl
theorem sax288 (P : Params) : saxIn (hd.heap_39 P) 288 = true := by kernel_rfl
end
section
open PySem PySem.W PyProof.Rows PySem.Spec PySem.Calls PySem.Builtin.ObjectAttr
theorem sax_cd {K : Frag} {C : Addr} (q : saxIn K C = true) : ∃ cd, clsIn K C = some cd ∧ cd.mro = .ref C :: saxBm ∧ cd.hasDict = true := by
  unfold saxIn at q
  split at q
  · rename_i dd cd sl ho
    split at q
    · simp only [Bool.and_eq_true, beq_iff_eq, Bool.not_eq_true'] at q
      exact ⟨cd, by unfold clsIn; rw [ho], q.1.1.2, q.2⟩
    · cases q
  · cases q
theorem refuse_sax (self : Value) (C : Addr) : refuseLoop self "__setattr__" (.ref C :: saxBm) = pure () := by kernel_rfl
section
variable {prog : Program} {w : World} {A : Around} {E : Value → Shared → Prop} {s : Shared} {K : Frag} {x C L : Addr} {h₀ : Heap} {m : Str → Option Value} {news : List (Addr × Obj)} {R : Result → Shared → Prop}
theorem sax_open {ox : Obj} {od : Option Obj} {name : Str} {tk : Tok} {v : Value} (X : K.In s.heap) (I : InstAt s.heap x ox C od) (hs : saxIn K C = true) (ht : findIn K (.ref C) name = some none)
    (h : wpAny (model prog w) A.in1 (storeInOwnDict (.ref x) (.ref C) (.str name tk) name v false)
      (fun fin s' => match fin with | .done f => R (.ok f) s' | .again c' => c'.quiet = true ∧ codeAny (model prog w) A c' R s') (fun e s' => R (.error e) s') s) :
    codeAny (model prog w) A (.call (.builtin "object.__setattr__") ⟨[.ref x, .str name tk, v], []⟩) R s := by
  have SF := PySem.F.store_object
  obtain ⟨cd, hc, hmro, hdd⟩ := sax_cd hs
  have hobj : cd.mro.contains (.type "object") = true := by rw [hmro]; rfl
  have sub : Looks (model prog w) s.heap (isInstance (.ref x) (.type "object")) true := I.type.andThen (looks_mroIn X (by unfold mroIn; rw [hc, Option.bind_some, if_neg (by rw [hmro]; exact Bool.false_ne_true), hobj]))
  refine codeAny_call_builtin SF.slot.plain SF.entry (@check_slot (model prog w) _ _ s "object.__setattr__" "object" "__setattr__" (.ref x) [.str name tk, v] [] _ SF.kind SF.split sub (SF.args (.ref x) (.str name tk) v) ?_)
  have hm : Looks (model prog w) s.heap (mroOf (.ref C)) (.ref C :: saxBm) := hmro ▸ ((looks_clsIn X hc).andThen .now)
  rw [osa_eq, refuse_eq]
  refine wpAny_bind (wpAny_bind (I.type.here (wpAny_bind (hm.here ?_))))
  rw [refuse_sax]
  exact wpAny_pure (wpAny_bind (I.type.here (wpAny_bind ((looks_findIn X ht).here (wpAny_bind (wpAny_pure h))))))
theorem store_in {name : Str} {tk : Tok} {v : Value} {d : Addr} {es : List DictEntry} {n : Nat} {pre post : List (Addr × Obj)} {Q : PySem.Fin → Shared → Prop} (F : Fr h₀ L s.heap m) (N : News h₀ L s.heap (pre ++ (d, dictOf es n) :: post))
    (h1 : ∀ p ∈ pre, p.1 ≠ d) (h2 : ∀ p ∈ post, p.1 ≠ d) (hl : (getL name es).isSome = true) (hz : (putL name (PyData.keyHash w.params name) (.str name s.toks) v es).length ≤ 1000)
    (h : ∀ h', Fr h₀ L h' m → News h₀ L h' (pre ++ (d, dictOf (putL name (PyData.keyHash w.params name) (.str name s.toks) v es) (putN name es n)) :: post) → Q (.done (.ret .none)) { s with heap := h', toks := s.toks + 1 }) :
    wpAny (model prog w) A (storeInDict d (.str name tk) name v) Q E s := by
  obtain ⟨U1, U2⟩ := news_upd (f := Obj.putName name (PyData.keyHash w.params name) (.str name s.toks) v) F N h1 h2 (putName_dict name _ _ v es n) rfl
  have D := (N (d, dictOf es n) (by simp)).1
  have D' := (U2 (d, dictOf (putL name (PyData.keyHash w.params name) (.str name s.toks) v es) (putN name es n)) (by simp)).1
  refine wpAny_bind (wpAny_pure (wpAny_bind ?_))
  unfold nsSet
  refine wpAny_bind (wpAny_bind (wpAny_askSetting (wpAny_pure (wpAny_bind (wpAny_mkText (wpAny_bind (wpAny_loadPart D ?_)))))))
  dsimp only
  have c : (!es.toArray.any (·.key.isStr name) && es.toArray.any (·.refKey)) = false := by
    rw [← Array.any_toList, ← Array.any_toList]
    unfold getL at hl
    split at hl
    · rename_i en he
      rw [List.any_eq_true.mpr ⟨en, List.mem_of_find?_eq_some he, List.find?_some he⟩]; rfl
    · split at hl
      · cases hl
      · rename_i z; rw [Bool.not_eq_true] at z; rw [z, Bool.and_false]
  rw [aRefKeyMayBeTheName_at, c]
  refine wpAny_updatePart D ?_
  refine wpAny_bind (wpAny_lookBehind D' (pastItsLine_dict (by rw [List.size_toArray, sizeLine_eq]; omega)) ?_)
  exact wpAny_pure (h _ U1 U2)
/-- the first store into an exception of the text's own: its dict is made -/
theorem sax_set1 {name : Str} {v : Value} {ws : Array Value} {Q : Unit → Shared → Prop} (F : Fr h₀ L s.heap m) (X₀ : K.In h₀) (N : News h₀ L s.heap ((x, ({ cls := .ref C, data := .fields ws } : Obj)) :: news)) (hs : saxIn K C = true)
    (ha : findIn K (.ref C) "__setattr__" = some (some (.builtin "object.__setattr__"))) (ht : findIn K (.ref C) name = some none) (hoff : ∀ p ∈ news, p.1 ≠ x)
    (h : ∀ d h' tk, Fr h₀ L h' m → News h₀ L h' ((d, dictOf [⟨PyData.keyHash w.params name, .str name tk, v⟩] 1) :: (x, ({ cls := .ref C, dict := some d, data := .fields ws } : Obj)) :: news) → (∀ p ∈ news, p.1 < d) → x < d → (∀ p ∈ news, p.1 ≠ d) → Q () { s with heap := h', toks := s.toks + 2 }) :
    wpAny (model prog w) A (setAttr (.ref x) name v) Q E s := by
  have X := X₀.keeps F.keep
  have hx := (N _ (.head _)).1
  have I : InstAt s.heap x ({ cls := .ref C, data := .fields ws } : Obj) C none := ⟨hx, rfl, rfl, trivial⟩
  obtain ⟨cd, hc, hmro, hdd⟩ := sax_cd hs
  refine set_plain X I ha ?_
  refine sax_open (s := { s with toks := s.toks + 1 }) X I hs ht ?_
  have hN := N
  obtain ⟨hh, g, dr, t, os⟩ := s
  have D0 := dictOf [] 0
  refine wpAny_bind (wpAny_pure (wpAny_bind ?_))
  show wpAny _ _ (instanceDict x true) _ _ _
  unfold instanceDict
  refine wpAny_bind (wpAny_loadPart hx (wpAny_bind ((looks_clsIn (h := hh) X hc).at ?_)))
  rw [hdd]
  simp only [Bool.not_true, Bool.false_eq_true, if_false]
  iterate 6 wp_step
  refine wpAny_pure ?_
  have hlt : x < hh.objs.size := Heap.lt_size hx
  have F1 := F.push (dictOf [] 0)
  have N1 := hN.push F (dictOf [] 0) rfl
  obtain ⟨F2, N2⟩ := news_upd (pre := [(hh.objs.size, dictOf [] 0)]) (post := news) (f := fun o => { cls := o.cls, dict := some hh.objs.size, data := o.data, slots := o.slots }) (o' := { cls := .ref C, dict := some hh.objs.size, data := .fields ws }) F1 N1
    (fun p hp => by rw [List.mem_singleton.mp hp]; exact Nat.ne_of_gt hlt) hoff rfl rfl
  have hnew : ∀ p ∈ news, p.1 < hh.objs.size := fun p hp => Heap.lt_size (hN p (.tail _ hp)).1
  show wpAny _ _ (storeInDict hh.objs.size (Value.str name t) name v) _ _ _
  refine store_in (s := ⟨_, g, dr, t + 1, os⟩) (pre := []) (post := (x, _) :: news) (es := []) (n := 0) F2 N2 (fun _ h => nomatch h) (fun p hp => ?_) rfl (by show 1 ≤ 1000; decide) fun h' F' N' => ?_
  · rcases List.mem_cons.mp hp with rfl | hp
    · exact Nat.ne_of_lt hlt
    · exact Nat.ne_of_lt (hnew p hp)
  · exact h _ h' (t + 1) F' N' hnew hlt (fun p hp => Nat.ne_of_lt (hnew p hp))
/-- a store into an exception that has its dict -/
theorem sax_set2 {name : Str} {v : Value} {ws : Array Value} {d : Addr} {es : List DictEntry} {n : Nat} {Q : Unit → Shared → Prop} (F : Fr h₀ L s.heap m) (X₀ : K.In h₀) (N : News h₀ L s.heap ((d, dictOf es n) :: (x, ({ cls := .ref C, dict := some d, data := .fields ws } : Obj)) :: news)) (hs : saxIn K C = true)
    (ha : findIn K (.ref C) "__setattr__" = some (some (.builtin "object.__setattr__"))) (ht : findIn K (.ref C) name = some none) (hoff : ∀ p ∈ news, p.1 ≠ d) (hne : x ≠ d) (hl : (getL name es).isSome = true) (hz : es.length ≤ 900)
    (h : ∀ h' tk, Fr h₀ L h' m → News h₀ L h' ((d, dictOf (putL name (PyData.keyHash w.params name) (.str name tk) v es) (putN name es n)) :: (x, ({ cls := .ref C, dict := some d, data := .fields ws } : Obj)) :: news) → Q () { s with heap := h', toks := s.toks + 2 }) :
    wpAny (model prog w) A (setAttr (.ref x) name v) Q E s := by
  have X := X₀.keeps F.keep
  have hx := (N _ (.tail _ (.head _))).1
  have hd := (N _ (.head _)).1
  have I : InstAt s.heap x ({ cls := .ref C, dict := some d, data := .fields ws } : Obj) C (some (dictOf es n)) := ⟨hx, rfl, rfl, hd⟩
  obtain ⟨cd, hc, hmro, hdd⟩ := sax_cd hs
  refine set_plain X I ha ?_
  refine sax_open (s := { s with toks := s.toks + 1 }) X I hs ht ?_
  have hN := N
  obtain ⟨hh, g, dr, t, os⟩ := s
  refine wpAny_bind (wpAny_pure (wpAny_bind ?_))
  show wpAny _ _ (instanceDict x true) _ _ _
  unfold instanceDict
  refine wpAny_bind (wpAny_loadPart hx (wpAny_bind ((looks_clsIn (h := hh) X hc).at ?_)))
  rw [hdd]
  simp only [Bool.not_true, Bool.false_eq_true, if_false]
  refine wpAny_pure ?_
  show wpAny _ _ (storeInDict d (Value.str name t) name v) _ _ _
  refine store_in (s := ⟨_, g, dr, t + 1, os⟩) (pre := []) (post := (x, _) :: news) F hN (fun _ h => nomatch h) (fun p hp => ?_) hl ?_ fun h' F' N' => ?_
  · rcases List.mem_cons.mp hp with rfl | hp
    · exact hne
    · exact hoff p hp
  · have e := putL_find name (PyData.keyHash w.params name) (.str name (t + 1)) v es
    have : (putL name (PyData.keyHash w.params name) (.str name (t + 1)) v es).length ≤ es.length + 1 := by
      rw [← e]
      split <;> simp
    exact Nat.le_trans this (by omega)
  · exact h h' _ F' N'
end
end
section
open PySem PySem.W PyProof.Rows PySem.Spec PySem.Calls
section
variable {M : Model} {A : Around} {E : Value → Shared → Prop} {s' : Shared} {base g : Heap} {outer : List Env} {L e de t : Addr} {m : Str → Option Value} {env : Env} {Q : Unit → Shared → Prop} {news : List (Addr × Obj)}
/-- the frame that raised it is left: the exception and its words stand at the head of the ledger -/
theorem leave_bornD {C : Value} {vs : List Value} {oe ot : Obj} {ws : Array Value} {nt : Nat} (K : Below A base outer g) (F : Fr g L s'.heap m) (N : News g L s'.heap ((e, oe) :: (t, ot) :: news)) (hne : e ≠ t) (he9 : ∀ p ∈ news, p.1 ≠ e) (ht9 : ∀ p ∈ news, p.1 ≠ t)
    (hcls : oe.cls = C) (hdict : oe.dict = some de) (hd : oe.data = .fields ws) (h0 : ws[0]? = some (.ref t)) (h1 : ws[1]? = some .none) (htc : ot.cls = .type "tuple") (htd : ot.data = .seq vs.toArray nt)
    (hf : env.frame = some L) (hk : env.scope.kind = .function)
    (hQ : ∀ h', RaisedD base g outer e C t vs de news h' → g.UpToSlots h' → Q () { s' with heap := h' }) :
    wpAny M (A.deeper env) (leaving env (.ref e)) Q E s' := by
  have ne1 := N _ (.head _)
  have nt1 := N _ (.tail _ (.head _))
  have hL : L ∉ [e, t] := fun h => by
    rcases List.mem_cons.mp h with z | h
    · exact ne1.2.1 z.symm
    · exact nt1.2.1 (List.mem_singleton.mp h).symm
  have old : ∀ b o, g.get? b = some o → b ∉ [e, t] := fun b o q h => by
    rcases List.mem_cons.mp h with z | h
    · rw [z, ne1.2.2] at q; cases q
    · rw [List.mem_singleton.mp h, nt1.2.2] at q; cases q
  have F' : Fr g L (hideAll s'.heap [e, t]) m := ⟨F.ns.at' fun o q => hideAll_get _ q hL, fun b o q => hideAll_get _ (F.keep b o q) (old b o q), F.above⟩
  have N' : News g L (hideAll s'.heap [e, t]) news := fun p hp => by
    have n := N p (.tail _ (.tail _ hp))
    refine ⟨hideAll_get _ n.1 fun h => ?_, n.2⟩
    rcases List.mem_cons.mp h with z | h
    · exact he9 p hp z
    · exact ht9 p hp (List.mem_singleton.mp h)
  exact leave_firstD K F' N' (fun b o q => of_hideAll _ q) (hideAll_none _ (.head _)) (hideAll_none _ (.tail _ (.head _))) ne1.1 hcls hdict hd h0 h1 nt1.1 htc htd hf hk hQ
end
section
variable {M : Model} {A : Around} {E : Value → Shared → Prop} {h : Heap} {g : Array GenState} {d : Drawn} {t : Nat} {os : OsState}
variable {nm q : Str} {C N : Addr} {bs : List Value} {hdct : Bool} {sn : List Str} {sub : List Value} {ab : Bool} {col : Option Bool} {dd : Option Addr} {k0 k1 k2 k3 k5 : Option Value}
theorem sax_check_init {e : Addr} {oe : Obj} {rest : List Value} {Q : Unit → Shared → Prop}
    (hC : h.get? C = some (excClassObj nm q C N bs saxBm hdct sn sub ab col dd k0 k1 k2 k3 k5 "Exception.__new__")) (he : h.get? e = some oe) (hcls : oe.cls = .ref C) (hq : Q () ⟨h, g, d, t, os⟩) :
    wpAny M A (checkBuiltinCall "Exception.__init__" ⟨.ref e :: rest, []⟩) Q E ⟨h, g, d, t, os⟩ := by
  have F := PySem.F.excBase_Exception
  have hcB : (Value.ref C :: saxBm).contains (.type "Exception") = true := by rw [List.contains_cons]; rfl
  have hshort := F.noStar
  simp only [checkBuiltinCall, F.initKind, F.initSplit, F.initRow]
  repeat (first | (with_reducible refine wpAny_loadPart_at he ?_; rw [hcls]) | with_reducible refine wpAny_loadPart_at hC ?_ | (with_reducible refine wpAny_isSubtype_exc hC ?_; rw [hcB]) | wp_step)
  refine wpAny_onRaise ?_
  rw [show ∀ (a b : String) (n : Nat), Bind.check ⟨.positional, "*", "Exception", .self, [⟨"args", .varPos, false⟩]⟩ a b n (List.map (fun x => x.fst) ({ pos := Value.ref e :: rest } : Args).kw) = pure () from
    fun a b n => check_star_args _ _ _ _ _ _]
  exact wpAny_pure hq
end
/-- what the raise statement is to hand on, of a class under SAXException -/
def SaxRaise (E : Value → Shared → Prop) (v : Value) (s₁ : Shared) : Prop := ∃ e C oe ws, v = .ref e ∧ SaxCls s₁.heap C ∧ s₁.heap.get? e = some oe ∧ oe.cls = .ref C ∧ oe.data = .fields ws ∧ ws[1]? = some .none ∧ E (.ref e) s₁
section
variable {M : Model} {A : Around} {E : Value → Shared → Prop} {s : Shared} {env : Env}
theorem Raise_sax {e : PySem.Expr} {pos : Pos} {Q : Flow → Shared → Prop} (hh : A.handled = none)
    (h : wpAny M A (eval e env) (SaxRaise E) E s) : wpAny M A (exec (.Raise (some e) none pos) env) Q E s := by
  show wpAny M A (do standAt pos; raiseStmt env (some (do let v ← eval e env; standAt pos; pure v)) none) Q E s
  refine wpAny_bind (wpAny_standAt ?_)
  unfold raiseStmt
  dsimp only
  refine wpAny_bind (wpAny_bind (wpAny_mono h (fun v s₁ h₁ => wpAny_bind (wpAny_standAt (wpAny_pure ?_))) fun _ _ x => x))
  obtain ⟨a, C, oe, ws, rfl, hC, he, hcls, hd, h1, hE⟩ := h₁
  obtain ⟨nm, q, N, bs, sn, sub, ab, col, dd, k0, k1, k2, k3, k5, hC⟩ := hC
  obtain ⟨hp, g, d, tk, os⟩ := s₁
  obtain ⟨oc, od, oda, osl⟩ := oe
  dsimp only at hcls hd he hC
  subst hcls hd
  have hcB : (Value.ref C :: saxBm).contains (.type "BaseException") = true := by rw [List.contains_cons]; rfl
  repeat (first | with_reducible refine wpAny_loadPart_at he ?_ | with_reducible refine wpAny_loadPart_at hC ?_ | (with_reducible refine wpAny_isSubtype_exc hC ?_; rw [hcB]) | wp_step)
  rw [h1]
  refine wpAny_pure ?_
  rw [if_neg (by decide)]
  exact wpAny_pure (wpAny_raiseNew_none hh hE)
end
section
variable {prog : Program} {w : World} {A : Around} {E : Value → Shared → Prop} {s : Shared} {K : Frag} {x C L t : Addr} {h₀ : Heap} {m : Str → Option Value} {news : List (Addr × Obj)}
/-- Exception.__init__(self, v): the words are the one argument -/
theorem exc_init {v : Value} {oe : Obj} {de : Addr} {gl : Obj → List (Addr × Obj)} {Q : Value → Shared → Prop} (F : Fr h₀ L s.heap m) (X₀ : K.In h₀) (N : News h₀ L s.heap news) (hs : saxIn K C = true) (U : UpdF x oe news gl)
    (he : oe = { cls := .ref C, dict := some de, data := .fields #[.ref t, .none, .none, .none, .bool false, .none] })
    (h : ∀ t' h' , Fr h₀ L h' m → News h₀ L h' ((t', ({ cls := .type "tuple", data := .seq #[v] } : Obj)) :: gl { cls := .ref C, dict := some de, data := .fields #[.ref t', .none, .none, .none, .bool false, .none] }) → (∀ p ∈ news, p.1 < t') → (∀ p ∈ news, p.1 ≠ t') → Q .none { s with heap := h' }) :
    wpAny (model prog w) A (call (.builtin "Exception.__init__") [.ref x, v]) Q E s := by
  obtain ⟨pre, post, rfl, hg, hpre, hpost⟩ := U.split
  subst he
  have X := X₀.keeps F.keep
  have hx := (N (x, _) (List.mem_append_right _ (.head _))).1
  obtain ⟨nm, q, NN, bs, sn, sub, ab, col, dd, k0, k1, k2, k3, k5, hC⟩ := sax_cls X hs
  have FF := PySem.F.excBase_Exception
  have hN := N
  obtain ⟨hh, g, dr, tk, os⟩ := s
  have hlt : x < hh.objs.size := Heap.lt_size hx
  have F1 := F.push ({ cls := .type "tuple", data := .seq #[v] } : Obj)
  have N1 := hN.push F ({ cls := .type "tuple", data := .seq #[v] } : Obj) rfl
  obtain ⟨F2, N2⟩ := news_upd (pre := (hh.objs.size, ({ cls := .type "tuple", data := .seq #[v] } : Obj)) :: pre) (post := post) (f := Obj.mapFields fun x => x.setIfInBounds 0 (Value.ref hh.objs.size)) (o' := { cls := .ref C, dict := some de, data := .fields #[.ref hh.objs.size, .none, .none, .none, .bool false, .none] }) F1 N1
    (fun p hp => by
      rcases List.mem_cons.mp hp with rfl | hp
      · exact Nat.ne_of_gt hlt
      · exact hpre p hp) hpost rfl rfl
  refine wpAny_call (codeAny_call_builtin FF.init.plain FF.initEntry (sax_check_init hC hx rfl ?_))
  unfold Builtin.«BaseException.__init__»
  repeat wp_step
  exact h _ _ F2 (by rw [hg]; exact N2) (fun p hp => Heap.lt_size (hN p hp).1) (fun p hp => Nat.ne_of_lt (Heap.lt_size (hN p hp).1))
/-- a class under SAXException is called, as the walk sees it -/
theorem call_sax {rest : List Value} {fI : Addr} {Q : Value → Shared → Prop} (F : Fr h₀ L s.heap m) (X₀ : K.In h₀) (N : News h₀ L s.heap news) (hs : saxIn K C = true) (hi : findIn K (.ref C) "__init__" = some (some (.ref fI))) (hf : isFn K (.ref fI) = true)
    (h : ∀ e t h', Fr h₀ L h' m → News h₀ L h' ((e, ({ cls := .ref C, data := .fields #[.ref t, .none, .none, .none, .bool false, .none] } : Obj)) :: (t, ({ cls := .type "tuple", data := .seq rest.toArray } : Obj)) :: news) → (∀ p ∈ news, p.1 < t) → t < e → (∀ p ∈ (t, ({ cls := .type "tuple", data := .seq rest.toArray } : Obj)) :: news, p.1 ≠ e) → (∀ p ∈ news, p.1 ≠ t) →
      codeAny (model prog w) (A.under (.builtin "type.__call__" ⟨.ref C :: rest, []⟩)) (.call (.ref fI) ⟨.ref e :: rest, []⟩) (InitBack e (fun r s' => match r with | .ok (.ret v) => Q v s' | .ok _ => False | .error e => E e s')) { s with heap := h' }) (hrest : rest.length ≤ sizeLine := by size_fits) :
    wpAny (model prog w) A (call (.ref C) rest) Q E s := by
  have X := X₀.keeps F.keep
  obtain ⟨nm, q, NN, bs, sn, sub, ab, col, dd, k0, k1, k2, k3, k5, hC⟩ := sax_cls X hs
  have hN := N
  obtain ⟨hh, g, dr, tk, os⟩ := s
  have F1 := F.push ({ cls := .type "tuple", data := .seq rest.toArray } : Obj)
  have N1 := hN.push F ({ cls := .type "tuple", data := .seq rest.toArray } : Obj) rfl
  have F2 := F1.push ({ cls := .ref C, data := .fields #[.ref hh.objs.size, .none, .none, .none, .bool false, .none] } : Obj)
  have N2 := N1.push F1 ({ cls := .ref C, data := .fields #[.ref hh.objs.size, .none, .none, .none, .bool false, .none] } : Obj) rfl
  rw [Heap.size_push] at N2
  exact sax_call (hrest := hrest) hC (looks_findIn X hi) (fun self => bind_fn X self (beq_iff_eq.mp hf)) (h (hh.objs.size + 1) hh.objs.size _ F2 N2 (fun p hp => Heap.lt_size (hN p hp).1) (Nat.lt_succ_self _)
    (fun p hp => by
      rcases List.mem_cons.mp hp with rfl | hp
      · exact Nat.ne_of_lt (Nat.lt_succ_self _)
      · exact Nat.ne_of_lt (Nat.lt_succ_of_lt (Heap.lt_size (hN p hp).1))) (fun p hp => Nat.ne_of_lt (Heap.lt_size (hN p hp).1)))
end
/-- an exception of class C under SAXException is on its way: its words, no inner one -/
def SaxP (w : World) (h₀ : Heap) (C : Addr) (msg : Str) (news : List (Addr × Obj)) (G : Heap) (l : List Env) (e : Addr) (h : Heap) : Prop :=
  ∃ t vs de k1 k2 tm, RaisedD h₀ G l e (.ref C) t vs de ((de, dictOf [ent w.params "_msg" k1 (.str msg tm), ent w.params "_exception" k2 .none] 2) :: news) h
theorem carried_sax {w : World} {h₀ : Heap} {C : Addr} {msg : Str} {news : List (Addr × Obj)} : Carried h₀ (SaxP w h₀ C msg news) :=
  ⟨fun B F R U k => by
    obtain ⟨t, vs, de, k1, k2, tm, R⟩ := R
    exact leave_onD B F R U fun h' a c => k h' ⟨t, vs, de, k1, k2, tm, a⟩ c⟩
section
variable {M : Model} {A : Around} {E : Value → Shared → Prop} {s' : Shared} {base g : Heap} {outer : List Env} {L e de t t' : Addr} {m : Str → Option Value} {env : Env} {Q : Unit → Shared → Prop} {news : List (Addr × Obj)} {w : World} {C : Addr} {ot0 : Obj} {k1 k2 : Nat} {tm : Tok} {msg : Str}
theorem sax_leaves (K : Below A base outer g) (F : Fr g L s'.heap m)
    (N : News g L s'.heap ((t', ({ cls := .type "tuple", data := .seq #[.str msg tm] } : Obj)) :: (de, dictOf [ent w.params "_msg" k1 (.str msg tm), ent w.params "_exception" k2 .none] 2) :: (e, ({ cls := .ref C, dict := some de, data := .fields #[.ref t', .none, .none, .none, .bool false, .none] } : Obj)) :: (t, ot0) :: news))
    (o1 : ∀ p ∈ (t, ot0) :: news, p.1 ≠ e) (o3 : ∀ p ∈ (de, dictOf [ent w.params "_msg" k1 (.str msg tm), ent w.params "_exception" k2 .none] 2) :: (e, ({ cls := .ref C, dict := some de, data := .fields #[.ref t, .none, .none, .none, .bool false, .none] } : Obj)) :: (t, ot0) :: news, p.1 ≠ t') (hde : e < de)
    (hf : env.frame = some L) (hk : env.scope.kind = .function)
    (hQ : ∀ h', SaxP w base C msg news g outer e h' → g.UpToSlots h' → Q () { s' with heap := h' }) :
    wpAny M (A.deeper env) (leaving env (.ref e)) Q E s' := by
  refine leave_bornD (C := .ref C) (oe := { cls := .ref C, dict := some de, data := .fields #[.ref t', .none, .none, .none, .bool false, .none] }) (ot := { cls := .type "tuple", data := .seq #[.str msg tm] }) (vs := [.str msg tm]) (t := t') (de := de) (news := (de, dictOf [ent w.params "_msg" k1 (.str msg tm), ent w.params "_exception" k2 .none] 2) :: news) K F (fun p hp => N p ?_) ?_ ?_ ?_ rfl rfl rfl rfl rfl rfl rfl hf hk fun h' R U => hQ h' ⟨t', _, de, k1, k2, tm, R⟩ U
  · simp only [List.mem_cons] at hp ⊢
    rcases hp with h | h | h | h
    · exact .inr (.inr (.inl h))
    · exact .inl h
    · exact .inr (.inl h)
    · exact .inr (.inr (.inr (.inr h)))
  · exact o3 (e, _) (.tail _ (.head _))
  · intro p hp
    rcases List.mem_cons.mp hp with rfl | hp
    · exact Nat.ne_of_gt hde
    · exact o1 p (.tail _ hp)
  · intro p hp
    rcases List.mem_cons.mp hp with rfl | hp
    · exact o3 _ (.head _)
    · exact o3 p (.tail _ (.tail _ (.tail _ hp)))
end
end
section
open PySem PySem.W PyProof.Rows PySem.Spec PySem.Calls
theorem ga_exc : Slot "KeyError" "__getattribute__" "BaseException.__getattribute__" :=
  .of (owner := "BaseException") (n := "__getattribute__") (by rw [typeLookup_type, builtinLookup_eq_fast]; kernel_rfl) (by decide +kernel) (by decide +kernel) (by decide +kernel)
    (by first | exact .inl (by decide +kernel) | exact .inr (by decide +kernel)) (by rw [isSubtype_type]; kernel_rfl)
section
variable {prog : Program} {w : World} {A : Around} {E : Value → Shared → Prop} {s : Shared} {K : Frag} {x C L : Addr} {h₀ : Heap} {m : Str → Option Value} {news : List (Addr × Obj)}
theorem exc_entry {ox : Obj} {od : Option Obj} {name : Str} {tk : Tok} {v : Value} {Q : PySem.Fin → Shared → Prop} (X : K.In s.heap) (I : InstAt s.heap x ox C od)
    (hf : findObj K C od name = some (.value v)) (hq : Q (.done (.ret v)) s) : wpAny (model prog w) A (Builtin.«object.__getattribute__» ⟨[.ref x, .str name tk], []⟩) Q E s := by
  have L0 := I.type (M := model prog w)
  have L3 := looks_find (M := model prog w) X I hf
  obtain ⟨hh', g, d, t, os⟩ := s
  refine wpAny_bind (wpAny_pure (wpAny_bind (wpAny_pure (wpAny_bind (L0.at (wpAny_bind (L3.at ?_)))))))
  exact wpAny_pure hq
theorem exc_value {ox : Obj} {od : Option Obj} {name : Str} {expr : Bool} {v : Value} {Q : Value → Shared → Prop} (X : K.In s.heap) (I : InstAt s.heap x ox C od) (hs : saxIn K C = true)
    (hga : findIn K (.ref C) "__getattribute__" = some (some (.builtin "BaseException.__getattribute__"))) (hgt : findIn K (.ref C) "__getattr__" = some none)
    (hf : findObj K C od name = some (.value v)) (hh : handedIn v = true) (h : Q v { s with toks := s.toks + 1 }) : wpAny (model prog w) A (getAttr (.ref x) name expr) Q E s := by
  obtain ⟨cd, hc, hmro, hdd⟩ := sax_cd hs
  have f3 := ga_exc.bind (.ref x)
  have hx0 : (expr && onTheHeap (Value.builtin "BaseException.__getattribute__")) = false := by cases expr <;> rfl
  have hx2 : (Value.builtin "BaseException.__getattribute__" == Value.builtin "object.__getattribute__") = false := by decide +kernel
  have hx1 : (onTheHeap (Value.ref C) && Value.builtin "BaseException.__getattribute__" == Value.builtin "object.__getattribute__") = false := by rw [hx2]; rfl
  have hobj : cd.mro.contains (.type "BaseException") = true := by rw [hmro]; rfl
  have sub : Looks (model prog w) s.heap (isInstance (.ref x) (.type "BaseException")) true := I.type.andThen (looks_mroIn X (by unfold mroIn; rw [hc, Option.bind_some, if_neg (by rw [hmro]; exact Bool.false_ne_true), hobj]))
  have L0 := I.type (M := model prog w)
  have L1 := looks_findIn (M := model prog w) X hga
  have L2 := looks_findIn (M := model prog w) X hgt
  obtain ⟨hp, g, d, t, os⟩ := s
  unfold getAttr getAttrBy
  refine wpAny_bind (wpAny_mkText (wpAny_holding (wpAny_bind (L0.at (wpAny_bind (L1.at ?_))))))
  dsimp only
  rw [hx1]
  simp only [Bool.false_eq_true, if_false]
  unfold getAttrByItsOwn
  refine wpAny_bind (show wpAny _ _ (hookBefore (.ref C)) _ _ _ from L2.at ?_)
  unfold callGetattribute
  rw [hx0]
  simp only [Bool.false_eq_true, if_false]
  unfold boundAndCalled
  rw [f3]
  have code : ∀ {R : Result → Shared → Prop}, R (.ok (.ret v)) ⟨hp, g, d, t + 1, os⟩ → codeAny (model prog w) A (.call (.builtin "BaseException.__getattribute__") ⟨[.ref x, .str name t], []⟩) R ⟨hp, g, d, t + 1, os⟩ := fun hq =>
    codeAny_call_builtin ga_exc.plain F.entry_bexc_ga (@check_slot (model prog w) _ _ ⟨hp, g, d, t + 1, os⟩ "BaseException.__getattribute__" "BaseException" "__getattribute__" (.ref x) [.str name t] [] _ (by decide +kernel) (by decide +kernel) sub (F.args_bexc_ga (.ref x) (.str name t)) (exc_entry (s := ⟨hp, g, d, t + 1, os⟩) X I hf hq))
  repeat (any_goals (first | assumption | wp_step))
  refine code ?_
  repeat (any_goals (first | assumption | wp_step))
  have e := handedOut_of hh
  unfold handedOut at e
  rw [e]
  exact wpAny_pure h
/-- a method of its class on an exception of the text's own -/
theorem exc_method {ox : Obj} {od : Obj} {name : Str} {f de : Addr} {pl : Sem Bool} {Q : Value × List Value → Shared → Prop} (X : K.In s.heap) (I : InstAt s.heap x ox C (some od)) (hs : saxIn K C = true) (hde : ox.dict = some de)
    (hga : findIn K (.ref C) "__getattribute__" = some (some (.builtin "BaseException.__getattribute__"))) (hgt : findIn K (.ref C) "__getattr__" = some none)
    (hm : findIn K (.ref C) name = some (some (.ref f))) (hf : isFn K (.ref f) = true) (hno : lookIn name od = some none) (h : Q (.ref f, [.ref x]) s) : wpAny (model prog w) A (getMethod (.ref x) name pl) Q E s := by
  have hcan : Manifest.canonical "BaseException.__getattribute__" = "object.__getattribute__" := by decide +kernel
  unfold getMethod specialOf
  refine wpAny_bind (wpAny_bind (I.type.here ((looks_findIn X hga).here ?_)))
  dsimp only
  rw [hcan, if_neg (by decide)]
  refine wpAny_bind (wpAny_bind (I.type.here ((looks_findIn X hgt).here ?_)))
  refine wpAny_bind (wpAny_bind (I.type.here ((looks_findIn X hm).here (wpAny_bind ((looks_typeIn X (beq_iff_eq.mp hf)).here ?_)))))
  rw [if_neg (by decide +kernel)]
  refine wpAny_bind (wpAny_loadPart I.at_ ?_)
  have hdd := I.dict
  rw [hde] at hdd ⊢
  have hdd' : s.heap.get? de = some od := hdd
  refine wpAny_bind (wpAny_bind (wpAny_loadPart hdd' ?_))
  rw [nsLook_of hno]
  refine wpAny_pure ?_
  repeat (any_goals (first | assumption | wp_step))
theorem inst_exc {h : Heap} {de : Addr} {od : Obj} {ws : Array Value} {sl : Array (Option Value)} (N : News h₀ L h news) (h1 : (x, ({ cls := .ref C, dict := some de, data := .fields ws, slots := sl } : Obj)) ∈ news) (h2 : (de, od) ∈ news) :
    InstAt h x ({ cls := .ref C, dict := some de, data := .fields ws, slots := sl } : Obj) C (some od) := ⟨(N _ h1).1, rfl, rfl, (N _ h2).1⟩
theorem exc_get {es : List DictEntry} {n : Nat} {de : Addr} {ws : Array Value} {sl : Array (Option Value)} {name : Str} {expr : Bool} {v : Value} {Q : Value → Shared → Prop} (X : K.In s.heap) (N : News h₀ L s.heap news)
    (h1 : (x, ({ cls := .ref C, dict := some de, data := .fields ws, slots := sl } : Obj)) ∈ news) (h2 : (de, dictOf es n) ∈ news) (hs : saxIn K C = true)
    (hga : findIn K (.ref C) "__getattribute__" = some (some (.builtin "BaseException.__getattribute__"))) (hgt : findIn K (.ref C) "__getattr__" = some none)
    (hf : findIn K (.ref C) name = some none) (hl : getL name es = some (some v)) (hh : handedIn v = true) (h : Q v { s with toks := s.toks + 1 }) : wpAny (model prog w) A (getAttr (.ref x) name expr) Q E s := by
  refine exc_value X (inst_exc N h1 h2) hs hga hgt ?_ hh h
  obtain ⟨cd, hc, hmro, hdd⟩ := sax_cd hs
  have hl' : lookIn name (dictOf es n) = some (some v) := hl
  unfold findObj PySem.W.ownOf
  simp only [hc, hf, Option.bind_some, hdd, if_true, hl']
theorem exc_meth {es : List DictEntry} {n : Nat} {de f : Addr} {ws : Array Value} {sl : Array (Option Value)} {name : Str} {pl : Sem Bool} {Q : Value × List Value → Shared → Prop} (X : K.In s.heap) (N : News h₀ L s.heap news)
    (h1 : (x, ({ cls := .ref C, dict := some de, data := .fields ws, slots := sl } : Obj)) ∈ news) (h2 : (de, dictOf es n) ∈ news) (hs : saxIn K C = true)
    (hga : findIn K (.ref C) "__getattribute__" = some (some (.builtin "BaseException.__getattribute__"))) (hgt : findIn K (.ref C) "__getattr__" = some none)
    (hm : findIn K (.ref C) name = some (some (.ref f))) (hf : isFn K (.ref f) = true) (hl : getL name es = some none) (h : Q (.ref f, [.ref x]) s) : wpAny (model prog w) A (getMethod (.ref x) name pl) Q E s :=
  exc_method X (inst_exc N h1 h2) hs rfl hga hgt hm hf hl h
theorem exc_str {es : List DictEntry} {n : Nat} {de f : Addr} {ws : Array Value} {sl : Array (Option Value)} {Q : Value → Shared → Prop} (hu : A.in1.in1.units < cLine) (X : K.In s.heap) (N : News h₀ L s.heap news)
    (h1 : (x, ({ cls := .ref C, dict := some de, data := .fields ws, slots := sl } : Obj)) ∈ news) (h2 : (de, dictOf es n) ∈ news)
    (hm : findIn K (.ref C) "__str__" = some (some (.ref f))) (hf : isFn K (.ref f) = true)
    (h : wpAny (model prog w) A.in1.in1 (call (.ref f) [.ref x]) (StrBack Q) E s) : wpAny (model prog w) A (call (.type "str") [.ref x]) Q E s :=
  kso_call hu X (inst_exc N h1 h2) hm hf h
end
end
section
open PySem PySem.W PyProof.Rows PySem.Calls
variable {w : World} {g : Heap} {mg mb : Str → Option Value} {loose : List Str} {mean : ExcName → Option Value} {news : List (Addr × Obj)} {L : Addr} {m : Str → Option Value} {s : Shared} {E : Value → Shared → Prop} {Q : Value → Shared → Prop} {A : Around}
local macro_rules | `(tactic| kpc_piece) => `(tactic| first | (refine KPc.after_add0 (by kpc_g) (by kpc_text) (by kpc_obj) ?_; intro _ _) | (refine KPc.after_add (by kpc_g) (by kpc_text) (by kpc_obj) ?_; intro _ _) | (refine KPc.after_str0 (by kpc_g) (by kpc_len) (by kpc_obj) ?_; intro _ _) | (refine KPc.after_str (by kpc_g) (by kpc_len) (by kpc_obj) ?_; intro _ _))
theorem fmt_feature {nm : Str} {t1 t2 : Tok} (X : (hd.heap_39 w.params).In g) (T : Top topProg loose mean mg mb g) (F : Fr g L s.heap m) (N : News g L s.heap news) (hnm : nm.length ≤ 1000000)
   (hQ : ∀ k tk, Q (.str (Str.ofString "Feature '" ++ nm ++ Str.ofString "' not recognized") k) { s with toks := tk }) :
   wpAny (model PySem.Challenge.rw_kp0119_10.row.prog w) A (binaryOp .Mod (.str "Feature '%s' not recognized" t1) (.str nm t2)) Q E s := by
  k_steps
  exact hQ _ _
theorem fmt_property {nm : Str} {t1 t2 : Tok} (X : (hd.heap_39 w.params).In g) (T : Top topProg loose mean mg mb g) (F : Fr g L s.heap m) (N : News g L s.heap news) (hnm : nm.length ≤ 1000000)
   (hQ : ∀ k tk, Q (.str (Str.ofString "Property '" ++ nm ++ Str.ofString "' not recognized") k) { s with toks := tk }) :
   wpAny (model PySem.Challenge.rw_kp0119_10.row.prog w) A (binaryOp .Mod (.str "Property '%s' not recognized" t1) (.str nm t2)) Q E s := by
  k_steps
  exact hQ _ _
end
section
open PySem PySem.W PyProof.Rows PySem.Calls
theorem room1 {e1 : Env} : Room (callerA.deeper e1) 21 := ⟨rfl, by show callerA.depth + 1 + 21 < 900; decide, by show callerA.units + 3 + 10 * 21 < 9000; decide⟩
theorem news_skip2 {h₀ h : Heap} {L : Addr} {a b c : Addr × Obj} {l : List (Addr × Obj)} (N : News h₀ L h (a :: b :: c :: l)) : News h₀ L h (a :: l) := by
  intro p hp
  cases hp with
  | head => exact N _ (.head _)
  | tail _ hp => exact N _ (.tail _ (.tail _ (.tail _ hp)))
end
section
open PySem.SeqAt
local macro_rules | `(tactic| walk_at "getMethod none") => `(tactic| (k_here; k_dflt ((with_reducible refine' getMethod_none_miss ?a ?b ?_ ?z); (case z => size_fits); (case a => exact am_miss_of_fast (by decide +kernel)); (case b => (have hh9 := Room.handled (by assumption)); exact hh9); k_whole); intro h' tk' e' hx'))
local macro_rules | `(tactic| walk_at "leaving ref") => `(tactic| (k_here; k_dflt (refine' leave_newSO ?k1 ?k0 ?k2 ?k3 ?kf ?kk ?_; (case kf => exact rfl); (case kk => exact rfl); (case k0 => assumption); (case k2 => assumption); (case k1 => assumption); (case k3 => k_asm); k_whole; intro h' S' R' U'; (try dsimp only at S' R' U' ⊢))))
local macro_rules | `(tactic| walk_at "leaving ref") => `(tactic| (k_here; (with_reducible rename Carried _ _ => cP); k_dflt (refine' Carried.on cP ?k1 ?k2 ?k3 ?k4 ?_; (case k3 => assumption); (case k2 => assumption); (case k1 => assumption); (case k4 => assumption); k_whole; intro h' S' U'; (try dsimp only at S' U' ⊢))))
local macro_rules | `(tactic| k_mem) => `(tactic| assumption)
local macro_rules | `(tactic| k_room) => `(tactic| ((have hR9 := Room.depth (by assumption)); (simp only [depth_under_make, depth_under_kw, depth_in1, depth_deeper, depth_caller, recursionLimit] at *); omega))
local macro_rules | `(tactic| k_enter) => `(tactic| (refine' code_def ?k1 ?k2 ?k3 ?k4 ?k5 ?kA ?kF ?kK ?k6 ?k7 ?k8 ?k9 ?kB ?_ ?c2 ?c3 ?c4 ?c5; (case kA => exact Around.frames_deeper (Below.stack (by assumption))); (case kF => exact rfl); (case kK => first | exact rfl | assumption); (case k1 => k_asm); (case k2 => k_asm); (case k3 => k_asm); (case k4 => k_asm); (case k5 => k_asm); (case k6 => k_is); (case k7 => k_is); (case k8 => k_room); (case k9 => first | exact BindsTo.of_eq rfl | exact binds_K (by k_in) rfl (by k_is) rfl rfl rfl | fail "k_enter: no rule for these arguments"); (case c5 => decide); (case kB => exact locs rfl); (case c2 => exact rfl); (case c3 => exact rfl); (case c4 => exact rfl); k_whole; intro g' L' h' FG' F' N' B' X' T'; (try dsimp only); (try k_lift B'); (try k_fold)))
local macro_rules | `(tactic| walk_at "call ref") => `(tactic| (k_here; (with_reducible rename CallOK _ _ _ _ _ _ _ _ _ _ _ _ => ih); k_dflt (refine' CallOK.run ih ?x ?t ?b ?f ?n ?r ?k ?_ ?_; (case x => assumption); (case t => assumption); (case b => assumption); (case f => assumption); (case n => assumption); (case r => exact Room.deeper (by assumption)); (case k => exact rfl)); (first | (intro h' tk' v' n' hv' F' N') | (intro g' h' tk' e' F' S' U')); (try dsimp only)))
section
variable {w : World} {h₀ : Heap} {mg mb : Str → Option Value} {loose : List Str} {mean : ExcName → Option Value} {news : List (Addr × Obj)} {xs ds : Nat → Addr} {par : Nat → Option Nat} {q : Nat → Nat → Nat} {u : Nat → Nat → Value}
theorem setLocale_none {j : Nat} {v : Addr}  (FL : Filters w.params xs ds par q u news) (h2 : 2 ≤ j) (h7 : j < 7) (hp : par j = none) :
    CallOK w h₀ mg mb loose mean news (fun _ _ => False) (fun G l e h => RaisedSN h₀ G l e (.type "AttributeError") news h) 571 [.ref (xs j), .ref v] 3 := by
  refine ⟨?_⟩
  intro A₀ outer g L a m name scope cd s E Q X T B F N R hk hQ hE
  have e1 := FL.inst j h2 h7
  have e2 := FL.dict j h2 h7
  rw [hp] at e2
  simp only [nodeV] at e2
  revert X
  k_fill
  intro X
  k_steps
  (refine' hE _ _ _ _ ?zza ?zzb ?zzc; (case zzb => assumption); (case zzc => assumption); (case zza => assumption))
theorem setFeature_none {j : Nat} {nm : Str} {tn : Tok} {v : Addr}  (FL : Filters w.params xs ds par q u news) (h2 : 2 ≤ j) (h7 : j < 7) (hp : par j = none) :
    CallOK w h₀ mg mb loose mean news (fun _ _ => False) (fun G l e h => RaisedSN h₀ G l e (.type "AttributeError") news h) 585 [.ref (xs j), .str nm tn, .ref v] 3 := by
  refine ⟨?_⟩
  intro A₀ outer g L a m name scope cd s E Q X T B F N R hk hQ hE
  have e1 := FL.inst j h2 h7
  have e2 := FL.dict j h2 h7
  rw [hp] at e2
  simp only [nodeV] at e2
  revert X
  k_fill
  intro X
  k_steps
  (refine' hE _ _ _ _ ?zza ?zzb ?zzc; (case zzb => assumption); (case zzc => assumption); (case zza => assumption))
theorem setProperty_none {j : Nat} {nm : Str} {tn : Tok} {v : Addr}  (FL : Filters w.params xs ds par q u news) (h2 : 2 ≤ j) (h7 : j < 7) (hp : par j = none) :
    CallOK w h₀ mg mb loose mean news (fun _ _ => False) (fun G l e h => RaisedSN h₀ G l e (.type "AttributeError") news h) 599 [.ref (xs j), .str nm tn, .ref v] 3 := by
  refine ⟨?_⟩
  intro A₀ outer g L a m name scope cd s E Q X T B F N R hk hQ hE
  have e1 := FL.inst j h2 h7
  have e2 := FL.dict j h2 h7
  rw [hp] at e2
  simp only [nodeV] at e2
  revert X
  k_fill
  intro X
  k_steps
  (refine' hE _ _ _ _ ?zza ?zzb ?zzc; (case zzb => assumption); (case zzc => assumption); (case zza => assumption))
theorem getFeature_none {j : Nat} {nm : Str} {tn : Tok}  (FL : Filters w.params xs ds par q u news) (h2 : 2 ≤ j) (h7 : j < 7) (hp : par j = none) :
    CallOK w h₀ mg mb loose mean news (fun _ _ => False) (fun G l e h => RaisedSN h₀ G l e (.type "AttributeError") news h) 578 [.ref (xs j), .str nm tn] 3 := by
  refine ⟨?_⟩
  intro A₀ outer g L a m name scope cd s E Q X T B F N R hk hQ hE
  have e1 := FL.inst j h2 h7
  have e2 := FL.dict j h2 h7
  rw [hp] at e2
  simp only [nodeV] at e2
  revert X
  k_fill
  intro X
  k_steps
  (refine' hE _ _ _ _ ?zza ?zzb ?zzc; (case zzb => assumption); (case zzc => assumption); (case zza => assumption))
theorem getProperty_none {j : Nat} {nm : Str} {tn : Tok}  (FL : Filters w.params xs ds par q u news) (h2 : 2 ≤ j) (h7 : j < 7) (hp : par j = none) :
    CallOK w h₀ mg mb loose mean news (fun _ _ => False) (fun G l e h => RaisedSN h₀ G l e (.type "AttributeError") news h) 592 [.ref (xs j), .str nm tn] 3 := by
  refine ⟨?_⟩
  intro A₀ outer g L a m name scope cd s E Q X T B F N R hk hQ hE
  have e1 := FL.inst j h2 h7
  have e2 := FL.dict j h2 h7
  rw [hp] at e2
  simp only [nodeV] at e2
  revert X
  k_fill
  intro X
  k_steps
  (refine' hE _ _ _ _ ?zza ?zzb ?zzc; (case zzb => assumption); (case zzc => assumption); (case zza => assumption))
theorem setLocale_step {j k : Nat} {v : Addr}  {Rz : Value → List (Addr × Obj) → Prop} {P : Heap → List Env → Addr → Heap → Prop} {n : Nat} (FL : Filters w.params xs ds par q u news) (h2 : 2 ≤ j) (h7 : j < 7) (hp : par j = some k) (h2' : 2 ≤ k) (h7' : k < 7) (C : Carried h₀ P)
    (ih : CallOK w h₀ mg mb loose mean news Rz P 571 [.ref (xs k), .ref v] n) :
    CallOK w h₀ mg mb loose mean news (fun v l => v = .none ∧ ∃ v2, Rz v2 l) P 571 [.ref (xs j), .ref v] (n + 1) := by
  refine ⟨?_⟩
  intro A₀ outer g L a m name scope cd s E Q X T B F N R hk hQ hE
  have e1 := FL.inst j h2 h7
  have e2 := FL.dict j h2 h7
  rw [hp] at e2
  simp only [nodeV] at e2
  have e3 := FL.inst k h2' h7'
  have e4 := FL.dict k h2' h7'
  revert X
  k_fill
  intro X
  k_steps
  all_goals first | (refine' hE _ _ _ _ ?zza ?zzb ?zzc; (case zzb => assumption); (case zzc => assumption); (case zza => assumption)) | exact hQ _ _ _ _ (by first | assumption | exact ⟨rfl, _, by assumption⟩) (by assumption) (by assumption)
theorem setFeature_step {j k : Nat} {nm : Str} {tn : Tok} {v : Addr}  {Rz : Value → List (Addr × Obj) → Prop} {P : Heap → List Env → Addr → Heap → Prop} {n : Nat} (FL : Filters w.params xs ds par q u news) (h2 : 2 ≤ j) (h7 : j < 7) (hp : par j = some k) (h2' : 2 ≤ k) (h7' : k < 7) (C : Carried h₀ P)
    (ih : CallOK w h₀ mg mb loose mean news Rz P 585 [.ref (xs k), .str nm tn, .ref v] n) :
    CallOK w h₀ mg mb loose mean news (fun v l => v = .none ∧ ∃ v2, Rz v2 l) P 585 [.ref (xs j), .str nm tn, .ref v] (n + 1) := by
  refine ⟨?_⟩
  intro A₀ outer g L a m name scope cd s E Q X T B F N R hk hQ hE
  have e1 := FL.inst j h2 h7
  have e2 := FL.dict j h2 h7
  rw [hp] at e2
  simp only [nodeV] at e2
  have e3 := FL.inst k h2' h7'
  have e4 := FL.dict k h2' h7'
  revert X
  k_fill
  intro X
  k_steps
  all_goals first | (refine' hE _ _ _ _ ?zza ?zzb ?zzc; (case zzb => assumption); (case zzc => assumption); (case zza => assumption)) | exact hQ _ _ _ _ (by first | assumption | exact ⟨rfl, _, by assumption⟩) (by assumption) (by assumption)
theorem setProperty_step {j k : Nat} {nm : Str} {tn : Tok} {v : Addr}  {Rz : Value → List (Addr × Obj) → Prop} {P : Heap → List Env → Addr → Heap → Prop} {n : Nat} (FL : Filters w.params xs ds par q u news) (h2 : 2 ≤ j) (h7 : j < 7) (hp : par j = some k) (h2' : 2 ≤ k) (h7' : k < 7) (C : Carried h₀ P)
    (ih : CallOK w h₀ mg mb loose mean news Rz P 599 [.ref (xs k), .str nm tn, .ref v] n) :
    CallOK w h₀ mg mb loose mean news (fun v l => v = .none ∧ ∃ v2, Rz v2 l) P 599 [.ref (xs j), .str nm tn, .ref v] (n + 1) := by
  refine ⟨?_⟩
  intro A₀ outer g L a m name scope cd s E Q X T B F N R hk hQ hE
  have e1 := FL.inst j h2 h7
  have e2 := FL.dict j h2 h7
  rw [hp] at e2
  simp only [nodeV] at e2
  have e3 := FL.inst k h2' h7'
  have e4 := FL.dict k h2' h7'
  revert X
  k_fill
  intro X
  k_steps
  all_goals first | (refine' hE _ _ _ _ ?zza ?zzb ?zzc; (case zzb => assumption); (case zzc => assumption); (case zza => assumption)) | exact hQ _ _ _ _ (by first | assumption | exact ⟨rfl, _, by assumption⟩) (by assumption) (by assumption)
theorem getFeature_step {j k : Nat} {nm : Str} {tn : Tok}  {Rz : Value → List (Addr × Obj) → Prop} {P : Heap → List Env → Addr → Heap → Prop} {n : Nat} (FL : Filters w.params xs ds par q u news) (h2 : 2 ≤ j) (h7 : j < 7) (hp : par j = some k) (h2' : 2 ≤ k) (h7' : k < 7) (C : Carried h₀ P)
    (ih : CallOK w h₀ mg mb loose mean news Rz P 578 [.ref (xs k), .str nm tn] n) :
    CallOK w h₀ mg mb loose mean news Rz P 578 [.ref (xs j), .str nm tn] (n + 1) := by
  refine ⟨?_⟩
  intro A₀ outer g L a m name scope cd s E Q X T B F N R hk hQ hE
  have e1 := FL.inst j h2 h7
  have e2 := FL.dict j h2 h7
  rw [hp] at e2
  simp only [nodeV] at e2
  have e3 := FL.inst k h2' h7'
  have e4 := FL.dict k h2' h7'
  revert X
  k_fill
  intro X
  k_steps
  all_goals first | (refine' hE _ _ _ _ ?zza ?zzb ?zzc; (case zzb => assumption); (case zzc => assumption); (case zza => assumption)) | exact hQ _ _ _ _ (by first | assumption | exact ⟨rfl, _, by assumption⟩) (by assumption) (by assumption)
theorem getProperty_step {j k : Nat} {nm : Str} {tn : Tok}  {Rz : Value → List (Addr × Obj) → Prop} {P : Heap → List Env → Addr → Heap → Prop} {n : Nat} (FL : Filters w.params xs ds par q u news) (h2 : 2 ≤ j) (h7 : j < 7) (hp : par j = some k) (h2' : 2 ≤ k) (h7' : k < 7) (C : Carried h₀ P)
    (ih : CallOK w h₀ mg mb loose mean news Rz P 592 [.ref (xs k), .str nm tn] n) :
    CallOK w h₀ mg mb loose mean news Rz P 592 [.ref (xs j), .str nm tn] (n + 1) := by
  refine ⟨?_⟩
  intro A₀ outer g L a m name scope cd s E Q X T B F N R hk hQ hE
  have e1 := FL.inst j h2 h7
  have e2 := FL.dict j h2 h7
  rw [hp] at e2
  simp only [nodeV] at e2
  have e3 := FL.inst k h2' h7'
  have e4 := FL.dict k h2' h7'
  revert X
  k_fill
  intro X
  k_steps
  all_goals first | (refine' hE _ _ _ _ ?zza ?zzb ?zzc; (case zzb => assumption); (case zzc => assumption); (case zza => assumption)) | exact hQ _ _ _ _ (by first | assumption | exact ⟨rfl, _, by assumption⟩) (by assumption) (by assumption)
end
section
local macro_rules | `(tactic| walk_at "call ref") => `(tactic| (k_here; kn_here; k_dflt (refine wpAny_call ?_; (refine' kla_code ?k1 ?k2 ?k3 ?k4 ?k5 ?kA ?kF ?kK ?k6 ?k7 ?k8 ?k9 ?kB ?_ ?c2 ?c3 ?c4 ?c5; (case kA => exact Around.frames_deeper (Below.stack (by assumption))); (case kF => exact rfl); (case kK => first | exact rfl | assumption); (case k1 => k_asm); (case k2 => k_asm); (case k3 => k_asm); (case k4 => k_asm); (case k5 => k_asm); (case k6 => k_mem); (case k7 => exact codeRec_news (by k_asm) (by k_mem) (by assumption) (by assumption)); (case k8 => k_room); (case k9 => exact rfl); (case c5 => decide); (case kB => exact locs rfl); (case c2 => exact rfl); (case c3 => exact rfl); (case c4 => exact rfl); k_whole; intro g' L' h' FG' F' N' B' X' T'; (try dsimp only); (try k_lift B'); (try k_fold)))))
local macro_rules | `(tactic| k_all) => `(tactic| assumption)
local macro_rules | `(tactic| walk_at "getMethod ref") => `(tactic| (k_here; k_dflt (refine' meth_update (knd := PySem.strKind _ _) ?N ?m ?d ?_; (case N => k_asm); (case m => k_mem); (case d => assumption))))
local macro_rules | `(tactic| walk_at "callWith") => `(tactic| ((with_reducible show wpAny _ _ (callWith _ (Value.builtin _) (_ :: _) (backTo _ (starEach (_ :: _) _)) []) _ _ _); refine callWith_method1 ?_))
local macro_rules | `(tactic| walk_at "getMethod ref") => `(tactic| (k_here; k_dflt (refine' method_shadow ?k1 ?k2 ?k3 ?k4 ?k5 ?k6 ?k7 ?k8 ?k9 ?k10 ?k11 ?k12 ?_; (case k1 => k_asm); (case k2 => k_asm); (case k3 => k_inst); (case k4 => k_is); (case k5 => k_is); (case k6 => k_is); (case k7 => k_is); (case k8 => k_is); (case k9 => k_is); (case k10 => k_get); (case k11 => k_handed); (case k12 => exact rfl); k_whole)))
local macro_rules | `(tactic| walk_at "eval Dict") => `(tactic| (k_here; k_dflt (refine' kdn_eval (knd := PySem.strKind _ _) ?F ?N ?b ?a ?l ?e ?n ?_; (case F => k_asm); (case N => k_asm); (case b => exact Top.nolimit (by k_asm)); (case a => rfl); (case l => rfl); (case e => exact List.cons_ne_nil _ _); (case n => exact Nat.le_of_ble_eq_true rfl)); intro d' h' o' F' N' l1 lo' hd'; (try k_lt l1)))
local macro_rules | `(tactic| walk_at "call builtin:dict.update") => `(tactic| (k_here; (with_reducible show wpAny _ _ (call (Value.builtin "dict.update") [Value.ref _, Value.ref _]) _ _ _); k_dflt (refine' upd_dict (knd := PySem.strKind _ _) ?F ?N ?U ?d ?m ?f ?l ?n ?z ?_; (case F => k_asm); (case N => k_asm); (case U => k_updF); (case d => assumption); (case m => k_mem); (case f => assumption); (case l => assumption); (case n => k_ne); (case z => (simp only [List.length_cons, List.length_nil, sizeLine_eq, strPairs]; omega))); intro h' o' F' N' hd'; (try dsimp only at N')))
local macro_rules | `(tactic| walk_at "subscriptTail") => `(tactic| (k_here; (with_reducible show wpAny _ _ (subscriptTail _ _ (Value.ref _) (Value.str _ _)) _ _ _); k_dflt (refine' kda_item (knd := PySem.strKind _ _) ?N ?m ?d (strKind_is _ _ _ _) ?v ?_ ?s ?g; (case s => with_unfolding_all rfl); (case g => (intro _; with_unfolding_all rfl)); (case N => k_asm); (case m => k_mem); (case d => assumption); (case v => assumption))))
local macro_rules | `(tactic| walk_at "subscriptTail") => `(tactic| (k_here; (with_reducible show wpAny _ _ (subscriptTail _ _ (Value.ref _) (Value.str _ _)) _ _ _); k_dflt (refine' sub_missing (knd := PySem.strKind _ _) ?N ?m ?d (strKind_is _ _ _ _) ?l ?h ?v ?_ ?s ?g; (case s => with_unfolding_all rfl); (case g => (intro _; with_unfolding_all rfl)); (case N => k_asm); (case m => k_mem); (case d => assumption); (case v => assumption); (case l => assumption); (case h => (have hh9 := Room.handled (by assumption)); exact hh9)); intro h' e' hx'))
local macro_rules | `(tactic| walk_at "leaving ref") => `(tactic| (k_here; k_dflt (refine' leave_madeX ?k1 ?k0 ?k2 ?k3 ?kf ?kk ?_; (case kf => exact rfl); (case kk => exact rfl); (case k0 => assumption); (case k2 => assumption); (case k1 => assumption); (case k3 => k_asm); k_whole; intro h' t' S' R' U'; (try dsimp only at S' R' U' ⊢))))
local macro_rules | `(tactic| walk_at "leaving ref") => `(tactic| (k_here; k_dflt (refine' leave_onS ?k1 ?k2 ?k3 ?k4 ?_; (case k3 => assumption); (case k2 => assumption); (case k1 => assumption); (case k4 => assumption); k_whole; intro h' S' R' U'; (try dsimp only at S' R' U' ⊢))))
local macro_rules | `(tactic| k_mem) => `(tactic| first | assumption | exact List.Mem.head _ | (refine' List.Mem.tail _ ?_; k_mem))
variable {w : World} {h₀ : Heap} {mg mb : Str → Option Value} {loose : List Str} {mean : ExcName → Option Value} {news : List (Addr × Obj)} {xs ds : Nat → Addr} {par : Nat → Option Nat} {q : Nat → Nat → Nat} {u : Nat → Nat → Value}
variable {aF aP aL : Addr} {oF oP oL : Obj} {rest : List (Addr × Obj)} {fn ce q0 : Nat → Nat} {u0 : Nat → Value} {qual : Nat → Str} {pm ctv : Nat → Value} {cc : Nat → Addr} {oc co : Nat → Obj} {vs : Nat → Array Value} {tt : Nat → Tok} {c9 P9 : Addr} {kv : List (Str × Value)}
theorem setFeature_rdset {j : Nat} {nm : Str} {tn : Tok} {v : Addr} (hD : oF.IsDictOf (strKind PySem.Challenge.rw_kp0119_10.row.prog w) kv) (hlen : kv.length ≤ 1000) 
    (CH : CodeHd h₀ c9 P9) (O : Off3 aF aP aL rest) (FL : Filters w.params xs ds par q u rest) (RD : RdAt w.params xs ds aF aP aL rest fn ce q0 u0 qual pm ctv cc oc co vs tt)
    (h2 : 2 ≤ j) (h7 : j < 7) (hp : par j = some 0) :
    CallOK w h₀ mg mb loose mean (led3 aF aP aL oF oP oL rest) (fun v2 l => v2 = .none ∧ ∃ o2, o2.IsDictOf (strKind PySem.Challenge.rw_kp0119_10.row.prog w) (merged kv [(nm, Value.ref v)]) ∧ l = led3 aF aP aL o2 oP oL rest) (fun _ _ _ _ => False) 585 [.ref (xs j), .str nm tn, .ref v] 5 := by
  refine ⟨?_⟩
  intro A₀ outer g L a m name scope cd s E Q X T B F N R hk hQ hE
  have e1 := FL.inst j h2 h7
  have e2 := FL.dict j h2 h7
  rw [hp] at e2
  simp only [nodeV] at e2
  have i0 := RD.inst
  have d0 := RD.dict
  have LA := RD.lam 0 (by decide)
  have e3 : (fn 0, kla_obj "<lambda>" (qual 0) (Arguments.mk _ _ _ _ _ _ _) (PySem.Expr.BoolOp _ _ _) (Scope.mk _ _ _ _ _) _ (pm 0) (cc 0) (ctv 0)) ∈ rest := LA.fn
  have e4 := LA.code
  have e5 := LA.data
  have e6 := LA.name
  have e7 := RD.cF.mem
  have e8 := RD.cF.data
  have o1 := O.f
  have o2 := O.p
  have o3 := O.l
  have o4 := O.fp
  have o5 := O.pl
  skip
  revert X
  k_fill
  intro X
  k_steps
  exact hQ _ _ _ _ ⟨rfl, _, (by assumption), rfl⟩ (by assumption) (fun p hp => (by assumption : News _ _ _ _) p (by simp only [List.mem_cons] at hp ⊢; grind))
theorem setProperty_rdset {j : Nat} {nm : Str} {tn : Tok} {v : Addr} (hD : oP.IsDictOf (strKind PySem.Challenge.rw_kp0119_10.row.prog w) kv) (hlen : kv.length ≤ 1000) 
    (CH : CodeHd h₀ c9 P9) (O : Off3 aF aP aL rest) (FL : Filters w.params xs ds par q u rest) (RD : RdAt w.params xs ds aF aP aL rest fn ce q0 u0 qual pm ctv cc oc co vs tt)
    (h2 : 2 ≤ j) (h7 : j < 7) (hp : par j = some 0) :
    CallOK w h₀ mg mb loose mean (led3 aF aP aL oF oP oL rest) (fun v2 l => v2 = .none ∧ ∃ o2, o2.IsDictOf (strKind PySem.Challenge.rw_kp0119_10.row.prog w) (merged kv [(nm, Value.ref v)]) ∧ l = led3 aF aP aL oF o2 oL rest) (fun _ _ _ _ => False) 599 [.ref (xs j), .str nm tn, .ref v] 5 := by
  refine ⟨?_⟩
  intro A₀ outer g L a m name scope cd s E Q X T B F N R hk hQ hE
  have e1 := FL.inst j h2 h7
  have e2 := FL.dict j h2 h7
  rw [hp] at e2
  simp only [nodeV] at e2
  have i0 := RD.inst
  have d0 := RD.dict
  have LA := RD.lam 2 (by decide)
  have e3 : (fn 2, kla_obj "<lambda>" (qual 2) (Arguments.mk _ _ _ _ _ _ _) (PySem.Expr.BoolOp _ _ _) (Scope.mk _ _ _ _ _) _ (pm 2) (cc 2) (ctv 2)) ∈ rest := LA.fn
  have e4 := LA.code
  have e5 := LA.data
  have e6 := LA.name
  have e7 := RD.cP.mem
  have e8 := RD.cP.data
  have o1 := O.f
  have o2 := O.p
  have o3 := O.l
  have o4 := O.fp
  have o5 := O.pl
  skip
  revert X
  k_fill
  intro X
  k_steps
  exact hQ _ _ _ _ ⟨rfl, _, (by assumption), rfl⟩ (by assumption) (fun p hp => (by assumption : News _ _ _ _) p (by simp only [List.mem_cons] at hp ⊢; grind))
theorem getFeature_rdget {j : Nat} {nm : Str} {tn : Tok} (hD : oF.IsDictOf (strKind PySem.Challenge.rw_kp0119_10.row.prog w) kv) {v2 : Value} (hv : valueAt kv nm = some v2) 
    (CH : CodeHd h₀ c9 P9) (O : Off3 aF aP aL rest) (FL : Filters w.params xs ds par q u rest) (RD : RdAt w.params xs ds aF aP aL rest fn ce q0 u0 qual pm ctv cc oc co vs tt)
    (h2 : 2 ≤ j) (h7 : j < 7) (hp : par j = some 0) :
    CallOK w h₀ mg mb loose mean (led3 aF aP aL oF oP oL rest) (fun v3 l => v3 = v2 ∧ l = led3 aF aP aL oF oP oL rest) (fun _ _ _ _ => False) 578 [.ref (xs j), .str nm tn] 5 := by
  refine ⟨?_⟩
  intro A₀ outer g L a m name scope cd s E Q X T B F N R hk hQ hE
  have e1 := FL.inst j h2 h7
  have e2 := FL.dict j h2 h7
  rw [hp] at e2
  simp only [nodeV] at e2
  have i0 := RD.inst
  have d0 := RD.dict
  have LA := RD.lam 1 (by decide)
  have e3 : (fn 1, kla_obj "<lambda>" (qual 1) (Arguments.mk _ _ _ _ _ _ _) (PySem.Expr.Subscript _ _ _) (Scope.mk _ _ _ _ _) _ (pm 1) (cc 1) (ctv 1)) ∈ rest := LA.fn
  have e4 := LA.code
  have e5 := LA.data
  have e6 := LA.name
  have e7 := RD.cF.mem
  have e8 := RD.cF.data
  have o1 := O.f
  have o2 := O.p
  have o3 := O.l
  have o4 := O.fp
  have o5 := O.pl
  skip
  revert X
  k_fill
  intro X
  k_steps
  exact hQ _ _ _ _ ⟨rfl, rfl⟩ (by assumption) (by assumption)
theorem getFeature_rdmiss {j : Nat} {nm : Str} {tn : Tok} (hD : oF.IsDictOf (strKind PySem.Challenge.rw_kp0119_10.row.prog w) kv) (hv : valueAt kv nm = none) (hlo : (aF == sysModules) = false) 
    (CH : CodeHd h₀ c9 P9) (O : Off3 aF aP aL rest) (FL : Filters w.params xs ds par q u rest) (RD : RdAt w.params xs ds aF aP aL rest fn ce q0 u0 qual pm ctv cc oc co vs tt)
    (h2 : 2 ≤ j) (h7 : j < 7) (hp : par j = some 0) :
    CallOK w h₀ mg mb loose mean (led3 aF aP aL oF oP oL rest) (fun _ _ => False) (fun G l e h => ∃ t, RaisedS h₀ G l e (.type "KeyError") t [.str nm tn] (led3 aF aP aL oF oP oL rest) h) 578 [.ref (xs j), .str nm tn] 5 := by
  refine ⟨?_⟩
  intro A₀ outer g L a m name scope cd s E Q X T B F N R hk hQ hE
  have e1 := FL.inst j h2 h7
  have e2 := FL.dict j h2 h7
  rw [hp] at e2
  simp only [nodeV] at e2
  have i0 := RD.inst
  have d0 := RD.dict
  have LA := RD.lam 1 (by decide)
  have e3 : (fn 1, kla_obj "<lambda>" (qual 1) (Arguments.mk _ _ _ _ _ _ _) (PySem.Expr.Subscript _ _ _) (Scope.mk _ _ _ _ _) _ (pm 1) (cc 1) (ctv 1)) ∈ rest := LA.fn
  have e4 := LA.code
  have e5 := LA.data
  have e6 := LA.name
  have e7 := RD.cF.mem
  have e8 := RD.cF.data
  have o1 := O.f
  have o2 := O.p
  have o3 := O.l
  have o4 := O.fp
  have o5 := O.pl
  skip
  revert X
  k_fill
  intro X
  k_steps
  (refine' hE _ _ _ _ ?zza ?zzb ?zzc; (case zzc => assumption); (case zzb => (refine' Exists.intro ?t ?u; (case u => assumption))); (case zza => assumption))
theorem getProperty_rdget {j : Nat} {nm : Str} {tn : Tok} (hD : oP.IsDictOf (strKind PySem.Challenge.rw_kp0119_10.row.prog w) kv) {v2 : Value} (hv : valueAt kv nm = some v2) 
    (CH : CodeHd h₀ c9 P9) (O : Off3 aF aP aL rest) (FL : Filters w.params xs ds par q u rest) (RD : RdAt w.params xs ds aF aP aL rest fn ce q0 u0 qual pm ctv cc oc co vs tt)
    (h2 : 2 ≤ j) (h7 : j < 7) (hp : par j = some 0) :
    CallOK w h₀ mg mb loose mean (led3 aF aP aL oF oP oL rest) (fun v3 l => v3 = v2 ∧ l = led3 aF aP aL oF oP oL rest) (fun _ _ _ _ => False) 592 [.ref (xs j), .str nm tn] 5 := by
  refine ⟨?_⟩
  intro A₀ outer g L a m name scope cd s E Q X T B F N R hk hQ hE
  have e1 := FL.inst j h2 h7
  have e2 := FL.dict j h2 h7
  rw [hp] at e2
  simp only [nodeV] at e2
  have i0 := RD.inst
  have d0 := RD.dict
  have LA := RD.lam 3 (by decide)
  have e3 : (fn 3, kla_obj "<lambda>" (qual 3) (Arguments.mk _ _ _ _ _ _ _) (PySem.Expr.Subscript _ _ _) (Scope.mk _ _ _ _ _) _ (pm 3) (cc 3) (ctv 3)) ∈ rest := LA.fn
  have e4 := LA.code
  have e5 := LA.data
  have e6 := LA.name
  have e7 := RD.cP.mem
  have e8 := RD.cP.data
  have o1 := O.f
  have o2 := O.p
  have o3 := O.l
  have o4 := O.fp
  have o5 := O.pl
  skip
  revert X
  k_fill
  intro X
  k_steps
  exact hQ _ _ _ _ ⟨rfl, rfl⟩ (by assumption) (by assumption)
theorem getProperty_rdmiss {j : Nat} {nm : Str} {tn : Tok} (hD : oP.IsDictOf (strKind PySem.Challenge.rw_kp0119_10.row.prog w) kv) (hv : valueAt kv nm = none) (hlo : (aP == sysModules) = false) 
    (CH : CodeHd h₀ c9 P9) (O : Off3 aF aP aL rest) (FL : Filters w.params xs ds par q u rest) (RD : RdAt w.params xs ds aF aP aL rest fn ce q0 u0 qual pm ctv cc oc co vs tt)
    (h2 : 2 ≤ j) (h7 : j < 7) (hp : par j = some 0) :
    CallOK w h₀ mg mb loose mean (led3 aF aP aL oF oP oL rest) (fun _ _ => False) (fun G l e h => ∃ t, RaisedS h₀ G l e (.type "KeyError") t [.str nm tn] (led3 aF aP aL oF oP oL rest) h) 592 [.ref (xs j), .str nm tn] 5 := by
  refine ⟨?_⟩
  intro A₀ outer g L a m name scope cd s E Q X T B F N R hk hQ hE
  have e1 := FL.inst j h2 h7
  have e2 := FL.dict j h2 h7
  rw [hp] at e2
  simp only [nodeV] at e2
  have i0 := RD.inst
  have d0 := RD.dict
  have LA := RD.lam 3 (by decide)
  have e3 : (fn 3, kla_obj "<lambda>" (qual 3) (Arguments.mk _ _ _ _ _ _ _) (PySem.Expr.Subscript _ _ _) (Scope.mk _ _ _ _ _) _ (pm 3) (cc 3) (ctv 3)) ∈ rest := LA.fn
  have e4 := LA.code
  have e5 := LA.data
  have e6 := LA.name
  have e7 := RD.cP.mem
  have e8 := RD.cP.data
  have o1 := O.f
  have o2 := O.p
  have o3 := O.l
  have o4 := O.fp
  have o5 := O.pl
  skip
  revert X
  k_fill
  intro X
  k_steps
  (refine' hE _ _ _ _ ?zza ?zzb ?zzc; (case zzc => assumption); (case zzb => (refine' Exists.intro ?t ?u; (case u => assumption))); (case zza => assumption))
theorem setLocale_rdset {j : Nat} {v : Addr} {its : Array Value} {n9 : Nat} (hL : oL = listOf its n9) (hlen : its.size ≤ 1000) 
    (CH : CodeHd h₀ c9 P9) (O : Off3 aF aP aL rest) (FL : Filters w.params xs ds par q u rest) (RD : RdAt w.params xs ds aF aP aL rest fn ce q0 u0 qual pm ctv cc oc co vs tt)
    (h2 : 2 ≤ j) (h7 : j < 7) (hp : par j = some 0) :
    CallOK w h₀ mg mb loose mean (led3 aF aP aL oF oP oL rest) (fun v2 l => v2 = .none ∧ ∃ n8, l = led3 aF aP aL oF oP (listOf (its.push (Value.ref v)) n8) rest) (fun _ _ _ _ => False) 571 [.ref (xs j), .ref v] 5 := by
  refine ⟨?_⟩
  intro A₀ outer g L a m name scope cd s E Q X T B F N R hk hQ hE
  have e1 := FL.inst j h2 h7
  have e2 := FL.dict j h2 h7
  rw [hp] at e2
  simp only [nodeV] at e2
  have i0 := RD.inst
  have d0 := RD.dict
  have LA := RD.lam 4 (by decide)
  have e3 : (fn 4, kla_obj "<lambda>" (qual 4) (Arguments.mk _ _ _ _ _ _ _) (PySem.Expr.BoolOp _ _ _) (Scope.mk _ _ _ _ _) _ (pm 4) (cc 4) (ctv 4)) ∈ rest := LA.fn
  have e4 := LA.code
  have e5 := LA.data
  have e6 := LA.name
  have e7 := RD.cL.mem
  have e8 := RD.cL.data
  have o1 := O.f
  have o2 := O.p
  have o3 := O.l
  have o4 := O.fp
  have o5 := O.pl
  subst hL
  revert X
  k_fill
  intro X
  k_steps
  (refine' hQ _ _ _ _ ⟨rfl, ?n, rfl⟩ ?a ?b; (case b => assumption); (case a => assumption))
end
section
theorem frames_made {A : Around} {C : Addr} {vals : List Value} {l : List Env} (h : A.frames = some l) : (A.under (.builtin "type.__call__" ⟨.ref C :: vals, []⟩)).frames = some l := by
  unfold Around.under
  simp only [h]
  rfl
local macro_rules | `(tactic| k_enter) => `(tactic| (refine' code_def ?k1 ?k2 ?k3 ?k4 ?k5 ?kA ?kF ?kK ?k6 ?k7 ?k8 ?k9 ?kB ?_ ?c2 ?c3 ?c4 ?c5; (case kA => exact frames_made (Around.frames_deeper (Below.stack (by assumption)))); (case kF => exact rfl); (case kK => first | exact rfl | assumption); (case k1 => k_asm); (case k2 => k_asm); (case k3 => k_asm); (case k4 => k_asm); (case k5 => k_asm); (case k6 => k_is); (case k7 => k_is); (case k8 => k_room); (case k9 => first | exact BindsTo.of_eq rfl | exact binds_K (by k_in) rfl (by k_is) rfl rfl rfl | fail "k_enter: no rule for these arguments"); (case c5 => decide); (case kB => exact locs rfl); (case c2 => exact rfl); (case c3 => exact rfl); (case c4 => exact rfl); k_whole; intro g' L' h' FG' F' N' B' X' T'; (try dsimp only); (try k_lift B'); (try k_fold)))
local macro_rules | `(tactic| walk_at "binaryOp Mod str str") => `(tactic| (k_here; first
  | ((with_reducible show wpAny _ _ (binaryOp Operator.Mod (Value.str (PySem.Str.ofString "Feature '%s' not recognized") _) _) _ _ _); k_dflt (refine fmt_feature (by k_asm) (by k_asm) (by k_asm) (by k_asm) (by assumption) ?_); intro k' tk')
  | ((with_reducible show wpAny _ _ (binaryOp Operator.Mod (Value.str (PySem.Str.ofString "Property '%s' not recognized") _) _) _ _ _); k_dflt (refine fmt_property (by k_asm) (by k_asm) (by k_asm) (by k_asm) (by assumption) ?_); intro k' tk')))
local macro_rules | `(tactic| walk_at "exec Raise some none") => `(tactic| (k_here; (with_reducible show wpAny _ _ (exec (Stmt.Raise (some (PySem.Expr.Call _ _ _ _)) none _) _) _ _ _); k_dflt (refine' Raise_sax ?h ?_; (case h => (have hh9 := Room.handled (by assumption)); exact hh9))))
local macro_rules | `(tactic| walk_at "call ref") => `(tactic| (k_here; k_dflt (refine' call_sax ?k1 ?k2 ?k3 ?k4 ?k5 ?k6 ?_ ?z; (case k1 => k_asm); (case k2 => k_asm); (case k3 => k_asm); (case k4 => first | with_reducible exact sax276 _ | with_reducible exact sax288 _); (case k5 => k_is); (case k6 => k_is); (case z => exact Nat.le_of_ble_eq_true rfl); k_whole; intro e' t' h' F' N' l1 l2 o1 o2; (try k_lt l1); (try k_lt2 l2); (try k_sweep); k_enter)))
local macro_rules | `(tactic| walk_at "call builtin:Exception.__init__") => `(tactic| (k_here; k_dflt (refine' exc_init ?k1 ?k2 ?k3 ?k4 ?k5 ?k6 ?_; (case k1 => k_asm); (case k2 => k_asm); (case k3 => k_asm); (case k5 => k_updF); (case k6 => exact rfl); (case k4 => first | with_reducible exact sax276 _ | with_reducible exact sax288 _); k_whole; intro t' h' F' N' l1 o1; (try k_lt l1); (try dsimp only at N'))))
local macro_rules | `(tactic| k_all) => `(tactic| assumption)
local macro_rules | `(tactic| walk_at "getMethod type:Exception") => `(tactic| (k_here; refine' method_type ?F ?X ?m (by decide +kernel) ?e ?h ?_; (case F => k_asm); (case X => k_asm); (case m => kernel_rfl); (case e => k_dflt k_is); (case h => k_handed)))
local macro_rules | `(tactic| walk_at "setAttr ref") => `(tactic| (k_here; k_dflt (first
  | (refine' sax_set1 ?k1 ?k2 ?k3 ?k4 ?k5 ?k6 ?k7 ?_; (case k1 => k_asm); (case k2 => k_asm); (case k3 => k_asm); (case k4 => first | with_reducible exact sax276 _ | with_reducible exact sax288 _); (case k5 => k_is); (case k6 => k_is); (case k7 => assumption); k_whole; intro d' h' tk' F' N' l1 l2 o1; (try k_lt l1); (try k_lt2 l2); (try k_sweep))
  | (refine' sax_set2 ?k1 ?k2 ?k3 ?k4 ?k5 ?k6 ?k7 ?k8 ?k9 ?k10 ?_; (case k1 => k_asm); (case k2 => k_asm); (case k3 => k_asm); (case k4 => first | with_reducible exact sax276 _ | with_reducible exact sax288 _); (case k5 => k_is); (case k6 => k_is); (case k7 => assumption); (case k8 => k_ne); (case k9 => k_get); (case k10 => exact Nat.le_of_ble_eq_true rfl); k_whole; intro h' tk' F' N'; (try k_sweep)))))
variable {w : World} {h₀ : Heap} {mg mb : Str → Option Value} {loose : List Str} {mean : ExcName → Option Value} {news : List (Addr × Obj)} {xs ds : Nat → Addr} {par : Nat → Option Nat} {q : Nat → Nat → Nat} {u : Nat → Nat → Value}
theorem setLocale_pl {j : Nat} {v : Addr} {d1 : Nat → Nat} {u1 : Nat → Value} (FL : Filters w.params xs ds par q u news) (i1 : (xs 1, instObj 405 (ds 1)) ∈ news)
    (d1' : (ds 1, dictOf (plainEs w.params d1 u1) 4) ∈ news) (h2 : 2 ≤ j) (h7 : j < 7) (hp : par j = some 1) :
    CallOK w h₀ mg mb loose mean news (fun _ _ => False) (SaxP w h₀ 288 (Str.ofString "Locale support not implemented") news) 571 [.ref (xs j), .ref v] 10 := by
  refine ⟨?_⟩
  intro A₀ outer g L a m name scope cd s E Q X T B F N R hk hQ hE
  have e1 := FL.inst j h2 h7
  have e2 := FL.dict j h2 h7
  rw [hp] at e2
  simp only [nodeV] at e2
  have cS : Carried h₀ (SaxP w h₀ 288 (Str.ofString "Locale support not implemented") news) := carried_sax
  revert X
  k_fill
  intro X
  k_steps
  refine ⟨_, 288, _, _, rfl, sax_cls (K := hd.heap_39 w.params) (by k_in) (sax288 _), News.get (by assumption) (.tail _ (.tail _ (.head _))), rfl, rfl, rfl, ?_⟩
  k_unfold
  try dsimp only
  refine' sax_leaves ?k1 ?k2 ?k3 ?k4 ?k5 ?k6 ?kf ?kk ?_
  case k1 => assumption
  case k2 => assumption
  case k3 => assumption
  case k4 => assumption
  case k5 => assumption
  case k6 => assumption
  case kf => exact rfl
  case kk => exact rfl
  intro h' S' U'
  (try dsimp only)
  k_steps
  (refine' hE _ _ _ _ ?zza ?zzb ?zzc; (case zzb => assumption); (case zzc => assumption); (case zza => assumption))
theorem setFeature_pl {j : Nat} {nm : Str} {tn : Tok} {v : Addr} {d1 : Nat → Nat} {u1 : Nat → Value} (hnm : nm.length ≤ 1000000) (FL : Filters w.params xs ds par q u news) (i1 : (xs 1, instObj 405 (ds 1)) ∈ news)
    (d1' : (ds 1, dictOf (plainEs w.params d1 u1) 4) ∈ news) (h2 : 2 ≤ j) (h7 : j < 7) (hp : par j = some 1) :
    CallOK w h₀ mg mb loose mean news (fun _ _ => False) (SaxP w h₀ 276 (Str.ofString "Feature '" ++ nm ++ Str.ofString "' not recognized") news) 585 [.ref (xs j), .str nm tn, .ref v] 10 := by
  refine ⟨?_⟩
  intro A₀ outer g L a m name scope cd s E Q X T B F N R hk hQ hE
  have e1 := FL.inst j h2 h7
  have e2 := FL.dict j h2 h7
  rw [hp] at e2
  simp only [nodeV] at e2
  have cS : Carried h₀ (SaxP w h₀ 276 (Str.ofString "Feature '" ++ nm ++ Str.ofString "' not recognized") news) := carried_sax
  revert X
  k_fill
  intro X
  k_steps
  refine ⟨_, 276, _, _, rfl, sax_cls (K := hd.heap_39 w.params) (by k_in) (sax276 _), News.get (by assumption) (.tail _ (.tail _ (.head _))), rfl, rfl, rfl, ?_⟩
  k_unfold
  try dsimp only
  refine' sax_leaves ?k1 ?k2 ?k3 ?k4 ?k5 ?k6 ?kf ?kk ?_
  case k1 => assumption
  case k2 => assumption
  case k3 => assumption
  case k4 => assumption
  case k5 => assumption
  case k6 => assumption
  case kf => exact rfl
  case kk => exact rfl
  intro h' S' U'
  (try dsimp only)
  k_steps
  (refine' hE _ _ _ _ ?zza ?zzb ?zzc; (case zzb => assumption); (case zzc => assumption); (case zza => assumption))
theorem setProperty_pl {j : Nat} {nm : Str} {tn : Tok} {v : Addr} {d1 : Nat → Nat} {u1 : Nat → Value} (hnm : nm.length ≤ 1000000) (FL : Filters w.params xs ds par q u news) (i1 : (xs 1, instObj 405 (ds 1)) ∈ news)
    (d1' : (ds 1, dictOf (plainEs w.params d1 u1) 4) ∈ news) (h2 : 2 ≤ j) (h7 : j < 7) (hp : par j = some 1) :
    CallOK w h₀ mg mb loose mean news (fun _ _ => False) (SaxP w h₀ 276 (Str.ofString "Property '" ++ nm ++ Str.ofString "' not recognized") news) 599 [.ref (xs j), .str nm tn, .ref v] 10 := by
  refine ⟨?_⟩
  intro A₀ outer g L a m name scope cd s E Q X T B F N R hk hQ hE
  have e1 := FL.inst j h2 h7
  have e2 := FL.dict j h2 h7
  rw [hp] at e2
  simp only [nodeV] at e2
  have cS : Carried h₀ (SaxP w h₀ 276 (Str.ofString "Property '" ++ nm ++ Str.ofString "' not recognized") news) := carried_sax
  revert X
  k_fill
  intro X
  k_steps
  refine ⟨_, 276, _, _, rfl, sax_cls (K := hd.heap_39 w.params) (by k_in) (sax276 _), News.get (by assumption) (.tail _ (.tail _ (.head _))), rfl, rfl, rfl, ?_⟩
  k_unfold
  try dsimp only
  refine' sax_leaves ?k1 ?k2 ?k3 ?k4 ?k5 ?k6 ?kf ?kk ?_
  case k1 => assumption
  case k2 => assumption
  case k3 => assumption
  case k4 => assumption
  case k5 => assumption
  case k6 => assumption
  case kf => exact rfl
  case kk => exact rfl
  intro h' S' U'
  (try dsimp only)
  k_steps
  (refine' hE _ _ _ _ ?zza ?zzb ?zzc; (case zzb => assumption); (case zzc => assumption); (case zza => assumption))
theorem getFeature_pl {j : Nat} {nm : Str} {tn : Tok} {d1 : Nat → Nat} {u1 : Nat → Value} (hnm : nm.length ≤ 1000000) (FL : Filters w.params xs ds par q u news) (i1 : (xs 1, instObj 405 (ds 1)) ∈ news)
    (d1' : (ds 1, dictOf (plainEs w.params d1 u1) 4) ∈ news) (h2 : 2 ≤ j) (h7 : j < 7) (hp : par j = some 1) :
    CallOK w h₀ mg mb loose mean news (fun _ _ => False) (SaxP w h₀ 276 (Str.ofString "Feature '" ++ nm ++ Str.ofString "' not recognized") news) 578 [.ref (xs j), .str nm tn] 10 := by
  refine ⟨?_⟩
  intro A₀ outer g L a m name scope cd s E Q X T B F N R hk hQ hE
  have e1 := FL.inst j h2 h7
  have e2 := FL.dict j h2 h7
  rw [hp] at e2
  simp only [nodeV] at e2
  have cS : Carried h₀ (SaxP w h₀ 276 (Str.ofString "Feature '" ++ nm ++ Str.ofString "' not recognized") news) := carried_sax
  revert X
  k_fill
  intro X
  k_steps
  refine ⟨_, 276, _, _, rfl, sax_cls (K := hd.heap_39 w.params) (by k_in) (sax276 _), News.get (by assumption) (.tail _ (.tail _ (.head _))), rfl, rfl, rfl, ?_⟩
  k_unfold
  try dsimp only
  refine' sax_leaves ?k1 ?k2 ?k3 ?k4 ?k5 ?k6 ?kf ?kk ?_
  case k1 => assumption
  case k2 => assumption
  case k3 => assumption
  case k4 => assumption
  case k5 => assumption
  case k6 => assumption
  case kf => exact rfl
  case kk => exact rfl
  intro h' S' U'
  (try dsimp only)
  k_steps
  (refine' hE _ _ _ _ ?zza ?zzb ?zzc; (case zzb => assumption); (case zzc => assumption); (case zza => assumption))
theorem getProperty_pl {j : Nat} {nm : Str} {tn : Tok} {d1 : Nat → Nat} {u1 : Nat → Value} (hnm : nm.length ≤ 1000000) (FL : Filters w.params xs ds par q u news) (i1 : (xs 1, instObj 405 (ds 1)) ∈ news)
    (d1' : (ds 1, dictOf (plainEs w.params d1 u1) 4) ∈ news) (h2 : 2 ≤ j) (h7 : j < 7) (hp : par j = some 1) :
    CallOK w h₀ mg mb loose mean news (fun _ _ => False) (SaxP w h₀ 276 (Str.ofString "Property '" ++ nm ++ Str.ofString "' not recognized") news) 592 [.ref (xs j), .str nm tn] 10 := by
  refine ⟨?_⟩
  intro A₀ outer g L a m name scope cd s E Q X T B F N R hk hQ hE
  have e1 := FL.inst j h2 h7
  have e2 := FL.dict j h2 h7
  rw [hp] at e2
  simp only [nodeV] at e2
  have cS : Carried h₀ (SaxP w h₀ 276 (Str.ofString "Property '" ++ nm ++ Str.ofString "' not recognized") news) := carried_sax
  revert X
  k_fill
  intro X
  k_steps
  refine ⟨_, 276, _, _, rfl, sax_cls (K := hd.heap_39 w.params) (by k_in) (sax276 _), News.get (by assumption) (.tail _ (.tail _ (.head _))), rfl, rfl, rfl, ?_⟩
  k_unfold
  try dsimp only
  refine' sax_leaves ?k1 ?k2 ?k3 ?k4 ?k5 ?k6 ?kf ?kk ?_
  case k1 => assumption
  case k2 => assumption
  case k3 => assumption
  case k4 => assumption
  case k5 => assumption
  case k6 => assumption
  case kf => exact rfl
  case kk => exact rfl
  intro h' S' U'
  (try dsimp only)
  k_steps
  (refine' hE _ _ _ _ ?zza ?zzb ?zzc; (case zzb => assumption); (case zzc => assumption); (case zza => assumption))
end
section
variable {w : World} {h₀ : Heap} {mg mb : Str → Option Value} {loose : List Str} {mean : ExcName → Option Value} {news : List (Addr × Obj)} {xs ds : Nat → Addr} {par : Nat → Option Nat} {q : Nat → Nat → Nat} {u : Nat → Nat → Value}
variable {w : World} {h₀ : Heap} {mg mb : Str → Option Value} {loose : List Str} {mean : ExcName → Option Value} {news : List (Addr × Obj)} {L fa : Addr} {cd : Value} {m : Str → Option Value} {s : Shared} {E : Value → Shared → Prop} {Q : Value → Shared → Prop} {x dx : Addr} {es : List DictEntry}
theorem call_setLocale {x dx : Addr} {q1 : Nat → Nat} {u1 : Nat → Value} {pv : Value} {nm : Str} {tn tw : Tok} {v : Addr} {Rz : Value → List (Addr × Obj) → Prop} {P : Heap → List Env → Addr → Heap → Prop} {n : Nat} (i0 : (x, instObj 616 dx) ∈ news) (i1 : (dx, dictOf (nodeEs w.params q1 u1 pv) 5) ∈ news) (C : Carried h₀ P)
    (ih : CallOK w h₀ mg mb loose mean news Rz P 571 [.ref x, .ref v] n) : CallOK w h₀ mg mb loose mean news Rz P 637 [.ref x, .int 1 tw, .str nm tn, .ref v] (n + 1) := by
  refine ⟨?_⟩
  intro A₀ outer g L a m name scope cd s E Q X T B F N R hk hQ hE
  revert X
  k_fill
  intro X
  k_steps
  all_goals first | (refine' hE _ _ _ _ ?zza ?zzb ?zzc; (case zzb => assumption); (case zzc => assumption); (case zza => assumption)) | exact hQ _ _ _ _ (by assumption) (by assumption) (by assumption)
theorem call_setFeature {x dx : Addr} {q1 : Nat → Nat} {u1 : Nat → Value} {pv : Value} {nm : Str} {tn tw : Tok} {v : Addr} {Rz : Value → List (Addr × Obj) → Prop} {P : Heap → List Env → Addr → Heap → Prop} {n : Nat} (i0 : (x, instObj 616 dx) ∈ news) (i1 : (dx, dictOf (nodeEs w.params q1 u1 pv) 5) ∈ news) (C : Carried h₀ P)
    (ih : CallOK w h₀ mg mb loose mean news Rz P 585 [.ref x, .str nm tn, .ref v] n) : CallOK w h₀ mg mb loose mean news Rz P 637 [.ref x, .int 2 tw, .str nm tn, .ref v] (n + 1) := by
  refine ⟨?_⟩
  intro A₀ outer g L a m name scope cd s E Q X T B F N R hk hQ hE
  revert X
  k_fill
  intro X
  k_steps
  all_goals first | (refine' hE _ _ _ _ ?zza ?zzb ?zzc; (case zzb => assumption); (case zzc => assumption); (case zza => assumption)) | exact hQ _ _ _ _ (by assumption) (by assumption) (by assumption)
theorem call_setProperty {x dx : Addr} {q1 : Nat → Nat} {u1 : Nat → Value} {pv : Value} {nm : Str} {tn tw : Tok} {v : Addr} {Rz : Value → List (Addr × Obj) → Prop} {P : Heap → List Env → Addr → Heap → Prop} {n : Nat} (i0 : (x, instObj 616 dx) ∈ news) (i1 : (dx, dictOf (nodeEs w.params q1 u1 pv) 5) ∈ news) (C : Carried h₀ P)
    (ih : CallOK w h₀ mg mb loose mean news Rz P 599 [.ref x, .str nm tn, .ref v] n) : CallOK w h₀ mg mb loose mean news Rz P 637 [.ref x, .int 3 tw, .str nm tn, .ref v] (n + 1) := by
  refine ⟨?_⟩
  intro A₀ outer g L a m name scope cd s E Q X T B F N R hk hQ hE
  revert X
  k_fill
  intro X
  k_steps
  all_goals first | (refine' hE _ _ _ _ ?zza ?zzb ?zzc; (case zzb => assumption); (case zzc => assumption); (case zza => assumption)) | exact hQ _ _ _ _ (by assumption) (by assumption) (by assumption)
theorem call_getFeature {x dx : Addr} {q1 : Nat → Nat} {u1 : Nat → Value} {pv : Value} {nm : Str} {tn tw : Tok} {v : Addr} {Rz : Value → List (Addr × Obj) → Prop} {P : Heap → List Env → Addr → Heap → Prop} {n : Nat} (i0 : (x, instObj 616 dx) ∈ news) (i1 : (dx, dictOf (nodeEs w.params q1 u1 pv) 5) ∈ news) (C : Carried h₀ P)
    (ih : CallOK w h₀ mg mb loose mean news Rz P 578 [.ref x, .str nm tn] n) : CallOK w h₀ mg mb loose mean news Rz P 637 [.ref x, .int 4 tw, .str nm tn, .ref v] (n + 1) := by
  refine ⟨?_⟩
  intro A₀ outer g L a m name scope cd s E Q X T B F N R hk hQ hE
  revert X
  k_fill
  intro X
  k_steps
  all_goals first | (refine' hE _ _ _ _ ?zza ?zzb ?zzc; (case zzb => assumption); (case zzc => assumption); (case zza => assumption)) | exact hQ _ _ _ _ (by assumption) (by assumption) (by assumption)
theorem call_getProperty {x dx : Addr} {q1 : Nat → Nat} {u1 : Nat → Value} {pv : Value} {nm : Str} {tn tw : Tok} {v : Addr} {Rz : Value → List (Addr × Obj) → Prop} {P : Heap → List Env → Addr → Heap → Prop} {n : Nat} (i0 : (x, instObj 616 dx) ∈ news) (i1 : (dx, dictOf (nodeEs w.params q1 u1 pv) 5) ∈ news) (C : Carried h₀ P)
    (ih : CallOK w h₀ mg mb loose mean news Rz P 592 [.ref x, .str nm tn] n) : CallOK w h₀ mg mb loose mean news Rz P 637 [.ref x, .int 5 tw, .str nm tn, .ref v] (n + 1) := by
  refine ⟨?_⟩
  intro A₀ outer g L a m name scope cd s E Q X T B F N R hk hQ hE
  revert X
  k_fill
  intro X
  k_steps
  all_goals first | (refine' hE _ _ _ _ ?zza ?zzb ?zzc; (case zzb => assumption); (case zzc => assumption); (case zza => assumption)) | exact hQ _ _ _ _ (by assumption) (by assumption) (by assumption)
end
end
section
open PySem.SeqAt
local macro_rules | `(tactic| walk_at "leaving ref") => `(tactic| (k_here; k_dflt (refine' leave_newSO ?k1 ?k0 ?k2 ?k3 ?kf ?kk ?_; (case kf => exact rfl); (case kk => exact rfl); (case k0 => assumption); (case k2 => assumption); (case k1 => assumption); (case k3 => k_asm); k_whole; intro h' S' R' U'; (try dsimp only at S' R' U' ⊢))))
section
local macro_rules | `(tactic| walk_at "call ref") => `(tactic| (k_here; (with_reducible rename CallOK _ _ _ _ _ _ _ _ _ _ _ _ => ih); k_dflt (refine' CallOK.run ih ?x ?t ?b ?f ?n ?r ?k ?_ ?_; (case x => assumption); (case t => assumption); (case b => assumption); (case f => assumption); (case n => assumption); (case r => exact Room.less room1 (by omega)); (case k => exact rfl)); (rotate_left; (intro g' h' tk' e' F' S' U'; (try dsimp only at S')); rotate_left; (intro h' tk' v' n' hv' F' N'; exact False.elim hv'; (try dsimp only)))))
variable {w : World} {h₀ : Heap} {mg mb : Str → Option Value} {loose : List Str} {mean : ExcName → Option Value} {news : List (Addr × Obj)} {L fa : Addr} {cd : Value} {m : Str → Option Value} {s : Shared} {E : Value → Shared → Prop} {Q : Value → Shared → Prop} {x dx : Addr} {es : List DictEntry}
theorem told_none (X : (hd.heap_39 w.params).In h₀) (T : Top topProg loose mean mg mb h₀) (B : Below callerA h₀ [] h₀) (F : Fr h₀ L s.heap m) (N : News h₀ L s.heap news) {nm : Str} {tn tw : Tok} {v : Addr} {way : Int} 
   (ih : CallOK w h₀ mg mb loose mean news (fun _ _ => False) (fun G l e h => RaisedSN h₀ G l e (.type "AttributeError") news h) 637 [.ref x, .int way tw, .str nm tn, .ref v] 17)
   (hQ : ∀ t h' tk k1 k2, Fr h₀ L h' m → News h₀ L h' ((t, ({ cls := .type "tuple", data := .seq #[.str "refused" k1, .str "no parent" k2] } : Obj)) :: news) → (∀ p ∈ news, p.1 < t) → Q (.ref t) { s with heap := h', toks := tk }) :
   wpAny (model PySem.Challenge.rw_kp0119_10.row.prog w) (callerA.deeper (envOf "law" lawScope L fa cd)) (call (.ref 644) [.ref x, .int way tw, .str nm tn, .ref v]) Q E s := by
  show wpAny (model PySem.Challenge.rw_kp0119_10.row.prog w) (callerA.deeper (envOf _ (Scope.mk _ _ _ _ _) _ _ _)) _ _ _ _
  revert X
  k_fill
  intro X
  k_steps
  all_goals (exact hQ _ _ _ _ _ (by assumption) (by assumption) (by assumption))
end
section
local macro_rules | `(tactic| walk_at "zz") => `(tactic| skip)
local macro_rules | `(tactic| walk_at "call ref") => `(tactic| (k_here; (with_reducible rename CallOK _ _ _ _ _ _ _ _ _ _ _ _ => ih); k_dflt (refine' CallOK.run ih ?x ?t ?b ?f ?n ?r ?k ?_ ?_; (case x => assumption); (case t => assumption); (case b => assumption); (case f => assumption); (case n => assumption); (case r => exact Room.less room1 (by omega)); (case k => exact rfl)); (rotate_left; (intro g' h' tk' e' F' S' U'; exact False.elim S'); rotate_left; (intro h' tk' v' n' hv' F' N'; obtain ⟨hv1, hv2⟩ := hv'; subst hv1; (try dsimp only)))))
variable {w : World} {h₀ : Heap} {mg mb : Str → Option Value} {loose : List Str} {mean : ExcName → Option Value} {news : List (Addr × Obj)} {L fa : Addr} {cd : Value} {m : Str → Option Value} {s : Shared} {E : Value → Shared → Prop} {Q : Value → Shared → Prop} {x dx : Addr} {es : List DictEntry}
theorem told_set (X : (hd.heap_39 w.params).In h₀) (T : Top topProg loose mean mg mb h₀) (B : Below callerA h₀ [] h₀) (F : Fr h₀ L s.heap m) (N : News h₀ L s.heap news) {nm : Str} {tn tw : Tok} {v : Addr} {way : Int} {S : List (Addr × Obj) → Prop} 
   (ih : CallOK w h₀ mg mb loose mean news (fun v l => v = .none ∧ S l) (fun _ _ _ _ => False) 637 [.ref x, .int way tw, .str nm tn, .ref v] 17)
   (hQ : ∀ t h' tk k1 l, S l → Fr h₀ L h' m → News h₀ L h' ((t, ({ cls := .type "tuple", data := .seq #[.str "answer" k1, .none] } : Obj)) :: l) → (∀ p ∈ l, p.1 < t) → Q (.ref t) { s with heap := h', toks := tk }) :
   wpAny (model PySem.Challenge.rw_kp0119_10.row.prog w) (callerA.deeper (envOf "law" lawScope L fa cd)) (call (.ref 644) [.ref x, .int way tw, .str nm tn, .ref v]) Q E s := by
  show wpAny (model PySem.Challenge.rw_kp0119_10.row.prog w) (callerA.deeper (envOf _ (Scope.mk _ _ _ _ _) _ _ _)) _ _ _ _
  revert X
  k_fill
  intro X
  k_steps
  all_goals (exact hQ _ _ _ _ _ (by assumption) (by assumption) (by assumption) (by assumption))
end
section
local macro_rules | `(tactic| walk_at "call ref") => `(tactic| (k_here; (with_reducible rename CallOK _ _ _ _ _ _ _ _ _ _ _ _ => ih); k_dflt (refine' CallOK.run ih ?x ?t ?b ?f ?n ?r ?k ?_ ?_; (case x => assumption); (case t => assumption); (case b => assumption); (case f => assumption); (case n => assumption); (case r => exact Room.less room1 (by omega)); (case k => exact rfl)); (rotate_left; (intro g' h' tk' e' F' S' U'; exact False.elim S'); rotate_left; (intro h' tk' v' n' hv' F' N'; obtain ⟨hv1, hv2⟩ := hv'; subst hv1; subst hv2; (try dsimp only)))))
variable {w : World} {h₀ : Heap} {mg mb : Str → Option Value} {loose : List Str} {mean : ExcName → Option Value} {news : List (Addr × Obj)} {L fa : Addr} {cd : Value} {m : Str → Option Value} {s : Shared} {E : Value → Shared → Prop} {Q : Value → Shared → Prop} {x dx : Addr} {es : List DictEntry}
theorem told_get (X : (hd.heap_39 w.params).In h₀) (T : Top topProg loose mean mg mb h₀) (B : Below callerA h₀ [] h₀) (F : Fr h₀ L s.heap m) (N : News h₀ L s.heap news) {nm : Str} {tn tw : Tok} {v : Addr} {way : Int} {v2 : Value} 
   (ih : CallOK w h₀ mg mb loose mean news (fun v l => v = v2 ∧ l = news) (fun _ _ _ _ => False) 637 [.ref x, .int way tw, .str nm tn, .ref v] 17)
   (hQ : ∀ t h' tk k1, Fr h₀ L h' m → News h₀ L h' ((t, ({ cls := .type "tuple", data := .seq #[.str "answer" k1, v2] } : Obj)) :: news) → (∀ p ∈ news, p.1 < t) → Q (.ref t) { s with heap := h', toks := tk }) :
   wpAny (model PySem.Challenge.rw_kp0119_10.row.prog w) (callerA.deeper (envOf "law" lawScope L fa cd)) (call (.ref 644) [.ref x, .int way tw, .str nm tn, .ref v]) Q E s := by
  show wpAny (model PySem.Challenge.rw_kp0119_10.row.prog w) (callerA.deeper (envOf _ (Scope.mk _ _ _ _ _) _ _ _)) _ _ _ _
  revert X
  k_fill
  intro X
  k_steps
  all_goals (exact hQ _ _ _ _ (by assumption) (by assumption) (by assumption))
end
section
theorem attr_KeyError : ExcAttrFacts "KeyError" where
  ga := .of (owner := "BaseException") (n := "__getattribute__") (by rw [typeLookup_type, builtinLookup_eq_fast]; kernel_rfl) (by decide +kernel) (by decide +kernel) (by decide +kernel)
    (by first | exact .inl (by decide +kernel) | exact .inr (by decide +kernel)) (by rw [isSubtype_type]; kernel_rfl)
  lkArgs := by rw [typeLookup_type, builtinLookup_eq_fast]; kernel_rfl
  sub := by rw [isSubtype_type]; kernel_rfl
theorem args_got_led {prog : Program} {w : World} {A : Around} {E : Value → Shared → Prop} {h₀ : Heap} {L e t : Addr} {news₂ news : List (Addr × Obj)} {vs : List Value} {expr : Bool} {s : Shared} {X : String} {Q : Value → Shared → Prop}
    (FX : ExcAttrFacts X) (N₂ : News h₀ L s.heap news₂) (G : Got news₂ e t (.type X) vs) (N : News h₀ L s.heap news)
    (hq : ∀ ot nt, ot.cls = .type "tuple" → ot.data = .seq vs.toArray nt → News h₀ L s.heap ((t, ot) :: news) → Q (.ref t) { s with toks := s.toks + 1 }) :
    wpAny (model prog w) A (getAttr (.ref e) "args" expr) Q E s := by
  have G' := G
  obtain ⟨oe, ot, ws, nt, h1, h2, hc, hd, h0, oc, od⟩ := G'
  refine args_got_builtin FX N₂ G (hq ot nt oc od ?_)
  intro p hp
  cases hp with
  | head => exact N₂ _ h2
  | tail _ hp => exact N _ hp
local macro_rules | `(tactic| walk_at "getAttr ref") => `(tactic| (k_here; (with_reducible rename Got _ _ _ _ _ => gG); k_dflt (refine' args_got_led attr_KeyError ?N₂ gG ?N ?_; (case N₂ => assumption); (case N => assumption)); intro ot' nt' oc' od' N'; (try dsimp only)))
local macro_rules | `(tactic| walk_at "call ref") => `(tactic| (k_here; (with_reducible rename CallOK _ _ _ _ _ _ _ _ _ _ _ _ => ih); k_dflt (refine' CallOK.run ih ?x ?t ?b ?f ?n ?r ?k ?_ ?_; (case x => assumption); (case t => assumption); (case b => assumption); (case f => assumption); (case n => assumption); (case r => exact Room.less room1 (by omega)); (case k => exact rfl)); (rotate_left; (intro g' h' tk' e' F' S' U'; obtain ⟨t9, S9⟩ := S'); rotate_left; (intro h' tk' v' n' hv' F' N'; exact False.elim hv'; (try dsimp only)))))
variable {w : World} {h₀ : Heap} {mg mb : Str → Option Value} {loose : List Str} {mean : ExcName → Option Value} {news : List (Addr × Obj)} {L fa : Addr} {cd : Value} {m : Str → Option Value} {s : Shared} {E : Value → Shared → Prop} {Q : Value → Shared → Prop} {x dx : Addr} {es : List DictEntry}
theorem told_miss (X : (hd.heap_39 w.params).In h₀) (T : Top topProg loose mean mg mb h₀) (B : Below callerA h₀ [] h₀) (F : Fr h₀ L s.heap m) (N : News h₀ L s.heap news) {nm : Str} {tn tw : Tok} {v : Addr} {way : Int} 
   (ih : CallOK w h₀ mg mb loose mean news (fun _ _ => False) (fun G l e h => ∃ t, RaisedS h₀ G l e (.type "KeyError") t [.str nm tn] news h) 637 [.ref x, .int way tw, .str nm tn, .ref v] 17)
   (hQ : ∀ t h' tk k1 t9 ot nt, ot.cls = .type "tuple" → ot.data = .seq #[.str nm tn] nt → Fr h₀ L h' m → News h₀ L h' ((t, ({ cls := .type "tuple", data := .seq #[.str "refused" k1, .ref t9] } : Obj)) :: (t9, ot) :: news) → (∀ p ∈ (t9, ot) :: news, p.1 < t) → Q (.ref t) { s with heap := h', toks := tk }) :
   wpAny (model PySem.Challenge.rw_kp0119_10.row.prog w) (callerA.deeper (envOf "law" lawScope L fa cd)) (call (.ref 644) [.ref x, .int way tw, .str nm tn, .ref v]) Q E s := by
  show wpAny (model PySem.Challenge.rw_kp0119_10.row.prog w) (callerA.deeper (envOf _ (Scope.mk _ _ _ _ _) _ _ _)) _ _ _ _
  revert X
  k_fill
  intro X
  k_steps
  all_goals (exact hQ _ _ _ _ _ _ _ (by assumption) (by assumption) (by assumption) (by assumption) (by first | assumption | (rename _ ∧ AllLt _ _ => l9; exact kst_ltOf (l := _ :: _) l9)))
end
end
section
open PySem PySem.W PyProof.Rows PySem.Calls
local macro_rules | `(tactic| walk_at "leaving ref") => `(tactic| (k_here; k_dflt (refine' leave_onD ?k2 ?k1 ?k0 ?k3 ?_; (case k0 => assumption); (case k2 => assumption); (case k1 => assumption); (case k3 => k_asm)); intro h' R' U'; (try dsimp only at R' U' ⊢)))
local macro_rules | `(tactic| walk_at "noteFrame ref") => `(tactic| (k_here; k_dflt (refine' look_D ?R ?F ?K ?U ?_; (case R => assumption); (case F => assumption); (case K => assumption); (case U => assumption)); intro h' R' U'; (try dsimp only at R' U' ⊢)))
local macro_rules | `(tactic| walk_at "handleBy ref") => `(tactic| (k_here; (with_reducible rename KtsDicts _ _ => kdX); first
  | (k_dflt (refine' pass_D ?R ?F ?K ?U ?XB ?TB ?T ?_; (case R => assumption); (case F => assumption); (case K => assumption); (case U => assumption); (case XB => assumption); (case TB => assumption); (case T => kts_test); k_whole); intro h' R' U'; (try dsimp only at R' U' ⊢))
  | (k_dflt (refine' hit_D ?R ?F ?K ?U ?XB ?TB ?D ?T0 ?T ?_; (case R => assumption); (case F => assumption); (case K => assumption); (case U => assumption); (case XB => assumption); (case TB => assumption); (case D => assumption); (case T0 => first | assumption | exact KtsTurn.refl); (case T => kts_test); k_whole); intro h' g' oe' sl' ws' tk' T' F' oE' N' K' X' P' D'; subst oE'; (try k_lift K'); (try k_sweep))))
local macro_rules | `(tactic| walk_at "call type:str") => `(tactic| (k_here; k_dflt (refine' exc_str ?k1 ?k2 ?kn ?k3 ?k4 ?k5 ?k6 ?_; (case k1 => k_units); (case k2 => k_in); (case kn => assumption); (case k3 => k_mem); (case k4 => k_mem); (case k5 => k_is); (case k6 => k_is); k_whole)))
local macro_rules | `(tactic| walk_at "getAttr ref") => `(tactic| (k_here; k_dflt (refine' exc_get ?k2 ?kn ?k3 ?k4 ?k5 ?k6 ?k7 ?k8 ?k9 ?kk ?_; (case k2 => k_in); (case kn => assumption); (case k3 => k_mem); (case k4 => k_mem); (case k5 => first | with_reducible exact sax276 _ | with_reducible exact sax288 _); (case k6 => k_is); (case k7 => k_is); (case k8 => k_is); (case k9 => k_get); (case kk => exact rfl); k_whole)))
local macro_rules | `(tactic| walk_at "getMethod ref") => `(tactic| (k_here; k_dflt (refine' exc_meth ?k2 ?kn ?k3 ?k4 ?k5 ?k6 ?k7 ?k8 ?k9 ?kk ?_; (case k2 => k_in); (case kn => assumption); (case k3 => k_mem); (case k4 => k_mem); (case k5 => first | with_reducible exact sax276 _ | with_reducible exact sax288 _); (case k6 => k_is); (case k7 => k_is); (case k8 => k_is); (case k9 => k_is); (case kk => exact rfl); k_whole)))
local macro_rules | `(tactic| walk_at "call ref") => `(tactic| (k_here; (with_reducible rename CallOK _ _ _ _ _ _ _ _ _ _ _ _ => ih); k_dflt (refine' CallOK.run ih ?x ?t ?b ?f ?n ?r ?k ?_ ?_; (case x => assumption); (case t => assumption); (case b => assumption); (case f => assumption); (case n => assumption); (case r => exact Room.less room1 (by omega)); (case k => exact rfl)); (rotate_left; (intro g' h' tk' e' F' S' U'; (k_dflt (obtain ⟨t9, vs9, de9, k19, k29, tm9, S9⟩ := S'))); rotate_left; (intro h' tk' v' n' hv' F' N'; exact False.elim hv'; (try dsimp only)))))
variable {w : World} {h₀ : Heap} {mg mb : Str → Option Value} {loose : List Str} {mean : ExcName → Option Value} {news : List (Addr × Obj)} {L fa : Addr} {cd : Value} {m : Str → Option Value} {s : Shared} {E : Value → Shared → Prop} {Q : Value → Shared → Prop} {x dx : Addr} {es : List DictEntry}
theorem told_plain276 (X : (hd.heap_39 w.params).In h₀) (T : Top topProg loose mean mg mb h₀) (B : Below callerA h₀ [] h₀) (F : Fr h₀ L s.heap m) (N : News h₀ L s.heap news) {nm : Str} {tn tw : Tok} {v : Addr} {way : Int} {msg : Str} 
   (ih : CallOK w h₀ mg mb loose mean news (fun _ _ => False) (SaxP w h₀ 276 msg news) 637 [.ref x, .int way tw, .str nm tn, .ref v] 17)
   (hQ : ∀ t h' tk k1 k2 k3, Fr h₀ L h' m → News h₀ L h' ((t, ({ cls := .type "tuple", data := .seq #[.str "unknown" k1, .str msg k2, .str msg k3, .none] } : Obj)) :: news) → (∀ p ∈ news, p.1 < t) → Q (.ref t) { s with heap := h', toks := tk }) :
   wpAny (model PySem.Challenge.rw_kp0119_10.row.prog w) (callerA.deeper (envOf "law" lawScope L fa cd)) (call (.ref 644) [.ref x, .int way tw, .str nm tn, .ref v]) Q E s := by
  show wpAny (model PySem.Challenge.rw_kp0119_10.row.prog w) (callerA.deeper (envOf _ (Scope.mk _ _ _ _ _) _ _ _)) _ _ _ _
  revert X
  k_fill
  intro X
  k_steps
  all_goals (rename _ ∧ _ ∧ AllLt _ _ => l9; exact hQ _ _ _ _ _ _ (by assumption) (news_skip2 (by assumption)) (fun p hp => kst_ltOf l9.2.2 p hp))
theorem told_plain288 (X : (hd.heap_39 w.params).In h₀) (T : Top topProg loose mean mg mb h₀) (B : Below callerA h₀ [] h₀) (F : Fr h₀ L s.heap m) (N : News h₀ L s.heap news) {nm : Str} {tn tw : Tok} {v : Addr} {way : Int} {msg : Str} 
   (ih : CallOK w h₀ mg mb loose mean news (fun _ _ => False) (SaxP w h₀ 288 msg news) 637 [.ref x, .int way tw, .str nm tn, .ref v] 17)
   (hQ : ∀ t h' tk k1 k2 k3, Fr h₀ L h' m → News h₀ L h' ((t, ({ cls := .type "tuple", data := .seq #[.str "unsupported" k1, .str msg k2, .str msg k3, .none] } : Obj)) :: news) → (∀ p ∈ news, p.1 < t) → Q (.ref t) { s with heap := h', toks := tk }) :
   wpAny (model PySem.Challenge.rw_kp0119_10.row.prog w) (callerA.deeper (envOf "law" lawScope L fa cd)) (call (.ref 644) [.ref x, .int way tw, .str nm tn, .ref v]) Q E s := by
  show wpAny (model PySem.Challenge.rw_kp0119_10.row.prog w) (callerA.deeper (envOf _ (Scope.mk _ _ _ _ _) _ _ _)) _ _ _ _
  revert X
  k_fill
  intro X
  k_steps
  all_goals (rename _ ∧ _ ∧ AllLt _ _ => l9; exact hQ _ _ _ _ _ _ (by assumption) (news_skip2 (by assumption)) (fun p hp => kst_ltOf l9.2.2 p hp))
end
section
open PySem PySem.W PyProof.Rows PySem.Calls PySem.SeqAt
theorem news_sub {h₀ h : Heap} {L : Addr} {l l' : List (Addr × Obj)} (N : News h₀ L h l) (hs : ∀ p ∈ l', p ∈ l) : News h₀ L h l' := fun p hp => N p (hs p hp)
section
variable {prog : Program} {w : World} {A : Around} {E : Value → Shared → Prop} {s : Shared} {h₀ : Heap} {L a b : Addr} {news : List (Addr × Obj)} {Q : Value → Shared → Prop}
theorem ne_rc {y x : Value} {k : Bool} (H : RcNeAt A s y x k) (h : Q (.bool k) s) : wpAny (model prog w) A (compareOp .NotEq y x) Q E s := H prog w E Q h
theorem ne_list_nil {ys : List Value} {y : Value} {n : Nat} (N : News h₀ L s.heap news) (ha : (a, LCg.lst (ys ++ [y])) ∈ news) (hb : (b, ({ cls := .type "list", data := .seq #[] n } : Obj)) ∈ news) (hu : A.units < cLine) (h : Q (.bool true) s) :
    wpAny (model prog w) A (compareOp .NotEq (.ref a) (.ref b)) Q E s :=
  ne_rc (RcNeAt.lists_lengths (items := (ys ++ [y]).toArray) (items2 := #[]) ⟨_, (N _ ha).1, rfl, _, rfl⟩ ⟨_, (N _ hb).1, rfl, _, rfl⟩ (by simp) hu) h
theorem ne_nil_nil {n n' : Nat} (N : News h₀ L s.heap news) (ha : (a, ({ cls := .type "list", data := .seq #[] n' } : Obj)) ∈ news) (hb : (b, ({ cls := .type "list", data := .seq #[] n } : Obj)) ∈ news) (hu : A.units < cLine) (h : Q (.bool false) s) :
    wpAny (model prog w) A (compareOp .NotEq (.ref a) (.ref b)) Q E s :=
  ne_rc (RcNeAt.lists (items := #[]) (items2 := #[]) (e := fun _ => true) ⟨_, (N _ ha).1, rfl, _, rfl⟩ ⟨_, (N _ hb).1, rfl, _, rfl⟩ rfl hu (fun j h1 _ => absurd h1 (Nat.not_lt_zero _))) h
/-- two tuples of the same items, one by one -/
inductive SameAll (A : Around) (s : Shared) : List Value → List Value → Prop
  | nil : SameAll A s [] []
  | cons {x y : Value} {xs ys : List Value} : EqAt A s x y true → SameAll A s xs ys → SameAll A s (x :: xs) (y :: ys)
theorem SameAll.len {xs ys : List Value} (h : SameAll A s xs ys) : xs.length = ys.length := by
  induction h with
  | nil => rfl
  | cons _ _ ih => rw [List.length_cons, List.length_cons, ih]
theorem SameAll.at {xs ys : List Value} (h : SameAll A s xs ys) : ∀ (j : Nat) (h1 : j < xs.toArray.size) (h2 : j < ys.toArray.size), EqAt A s xs.toArray[j] ys.toArray[j] true := by
  induction h with
  | nil => intro j h1; exact absurd h1 (Nat.not_lt_zero _)
  | @cons x y xs ys e _ ih =>
    intro j h1 h2
    cases j with
    | zero => exact e
    | succ j => exact ih j (by simpa using h1) (by simpa using h2)
theorem tuples_same {xs ys : List Value} {oa ob : Obj} {n n' : Nat} (N : News h₀ L s.heap news) (ha : (a, oa) ∈ news) (ca : oa.cls = .type "tuple") (da : oa.data = .seq xs.toArray n) (hb : (b, ob) ∈ news) (cb : ob.cls = .type "tuple") (db : ob.data = .seq ys.toArray n')
    (hu : A.units < cLine) (H : SameAll A.in1 s xs ys) : RcNeAt A s (.ref a) (.ref b) false := by
  have r := RcNeAt.tuples (A := A) (e := fun _ => true) (items := xs.toArray) (items2 := ys.toArray) ⟨_, (N _ ha).1, ca, _, da⟩ ⟨_, (N _ hb).1, cb, _, db⟩ hu H.at
  have e : ((List.range (min xs.toArray.size ys.toArray.size)).all (fun _ => true) && xs.toArray.size == ys.toArray.size) = true := by
    simp [H.len]
  rw [e] at r
  exact r
theorem item_last {value slice : PySem.Expr} {ys zs : List Value} {y : Value} {n : Nat} {u : Tok} (N : News h₀ L s.heap news) (ha : (a, ({ cls := .type "list", data := .seq zs.toArray n } : Obj)) ∈ news) (e0 : zs = ys ++ [y]) (h : Q y s)
    (hs : subscripted slice false (.ref a) (.int (-1) u) = operate [.ref a, .int (-1) u] (getItem (.ref a) (.int (-1) u)) := by with_unfolding_all rfl) :
    wpAny (model prog w) A (subscriptTail value slice (.ref a) (.int (-1) u)) Q E s := by
  subst e0
  have hl : s.heap.IsList a (ys ++ [y]).toArray := ⟨_, (N _ ha).1, rfl, _, rfl⟩
  have e : (-1 + ((ys ++ [y]).toArray.size : Int)).toNat = ys.length := by simp; omega
  refine tail_any hl.typeIs slot_list_getitem.lookup (wpAny_getItem_list_neg hl (by decide) (by simp; omega) (by decide) ?_ h) hs
  rw [e]
  simp
theorem add_led {m : Str → Option Value} {xs ys zs : List Value} {n n' : Nat} (F : Fr h₀ L s.heap m) (N : News h₀ L s.heap news) (ha : (a, ({ cls := .type "list", data := .seq xs.toArray n } : Obj)) ∈ news) (hb : (b, ({ cls := .type "list", data := .seq ys.toArray n' } : Obj)) ∈ news) (e : xs ++ ys = zs)
    (h : ∀ D h', Fr h₀ L h' m → News h₀ L h' ((D, listOf zs.toArray 0) :: news) → (∀ p ∈ news, p.1 < D) → Q (.ref D) { s with heap := h' })
    (hz : xs.length + ys.length ≤ sizeLine) : wpAny (model prog w) A (binaryOp .Add (.ref a) (.ref b)) Q E s :=
  kmk_add_lit F N ⟨_, (N _ ha).1, rfl, _, rfl⟩ ⟨_, (N _ hb).1, rfl, _, rfl⟩ e h hz
theorem item_at {value slice : PySem.Expr} {ys : List Value} {y : Value} {k : Int} {n : Nat} {u : Tok} (N : News h₀ L s.heap news) (ha : (a, ({ cls := .type "list", data := .seq ys.toArray n } : Obj)) ∈ news) (h0 : 0 ≤ k) (hk : k < 2 ^ 63) (hx : ys[k.toNat]? = some y) (h : Q y s)
    (hs : subscripted slice false (.ref a) (.int k u) = operate [.ref a, .int k u] (getItem (.ref a) (.int k u)) := by with_unfolding_all rfl) :
    wpAny (model prog w) A (subscriptTail value slice (.ref a) (.int k u)) Q E s :=
  item_litK ⟨_, (N _ ha).1, rfl, _, rfl⟩ h0 hk hx h hs
theorem same_str {x : Str} {t u : Tok} : EqAt A s (.str x t) (.str x u) true := by
  have := EqAt.str_str (A := A) (s := s) x t x u
  rwa [beq_self_eq_true] at this
end
end
section
open PySem PySem.W PyProof.Rows PySem.Calls
theorem news_skip3 {h₀ h : Heap} {L : Addr} {a b c d : Addr × Obj} {l : List (Addr × Obj)} (N : News h₀ L h (a :: b :: c :: d :: l)) : News h₀ L h (a :: l) := by
  intro p hp
  cases hp with
  | head => exact N _ (.head _)
  | tail _ hp => exact N _ (.tail _ (.tail _ (.tail _ (.tail _ hp))))
variable {w : World} {h₀ : Heap} {mg mb : Str → Option Value} {loose : List Str} {mean : ExcName → Option Value} {news : List (Addr × Obj)} {L fa : Addr} {cd : Value} {m : Str → Option Value} {s : Shared} {E : Value → Shared → Prop} {Q : Value → Shared → Prop}
theorem due_none (X : (hd.heap_39 w.params).In h₀) (T : Top topProg loose mean mg mb h₀) (B : Below callerA h₀ [] h₀) (F : Fr h₀ L s.heap m) (N : News h₀ L s.heap news) {nm : Str} {tn tw te : Tok} {v pa : Addr} {way : Int} 
   (hnm : nm.length ≤ 1000) (hQ : ∀ t h' tk k1 k2, Fr h₀ L h' m → News h₀ L h' ((t, ({ cls := .type "tuple", data := .seq #[.str "refused" k1, .str "no parent" k2] } : Obj)) :: news) → (∀ p ∈ news, p.1 < t) → Q (.ref t) { s with heap := h', toks := tk }) :
   wpAny (model PySem.Challenge.rw_kp0119_10.row.prog w) (callerA.deeper (envOf "law" lawScope L fa cd)) (call (.ref 649) [.none, .int way tw, .str nm tn, .ref v, .ref pa]) Q E s := by
  show wpAny (model PySem.Challenge.rw_kp0119_10.row.prog w) (callerA.deeper (envOf _ (Scope.mk _ _ _ _ _) _ _ _)) _ _ _ _
  revert X
  k_fill
  intro X
  k_steps
  all_goals (first
    | ((with_reducible rename _ ∧ _ ∧ _ ∧ AllLt _ news => l9); exact hQ _ _ _ _ _ (by assumption) (news_skip3 (by assumption)) (fun p hp => kst_ltOf l9.2.2.2 p hp))
    | ((with_reducible rename _ ∧ _ ∧ AllLt _ news => l9); exact hQ _ _ _ _ _ (by assumption) (news_skip2 (by assumption)) (fun p hp => kst_ltOf l9.2.2 p hp)))
theorem due_sup (X : (hd.heap_39 w.params).In h₀) (T : Top topProg loose mean mg mb h₀) (B : Below callerA h₀ [] h₀) (F : Fr h₀ L s.heap m) (N : News h₀ L s.heap news) {nm : Str} {tn tw te : Tok} {v pa : Addr} 
   (hnm : nm.length ≤ 1000) (hQ : ∀ t h' tk k1 k2 k3, Fr h₀ L h' m → News h₀ L h' ((t, ({ cls := .type "tuple", data := .seq #[.str "unsupported" k1, .str "Locale support not implemented" k2, .str "Locale support not implemented" k3, .none] } : Obj)) :: news) → (∀ p ∈ news, p.1 < t) → Q (.ref t) { s with heap := h', toks := tk }) :
   wpAny (model PySem.Challenge.rw_kp0119_10.row.prog w) (callerA.deeper (envOf "law" lawScope L fa cd)) (call (.ref 649) [.int 1 te, .int 1 tw, .str nm tn, .ref v, .ref pa]) Q E s := by
  show wpAny (model PySem.Challenge.rw_kp0119_10.row.prog w) (callerA.deeper (envOf _ (Scope.mk _ _ _ _ _) _ _ _)) _ _ _ _
  revert X
  k_fill
  intro X
  k_steps
  all_goals (first
    | ((with_reducible rename _ ∧ _ ∧ _ ∧ AllLt _ news => l9); exact hQ _ _ _ _ _ _ (by assumption) (news_skip3 (by assumption)) (fun p hp => kst_ltOf l9.2.2.2 p hp))
    | ((with_reducible rename _ ∧ _ ∧ AllLt _ news => l9); exact hQ _ _ _ _ _ _ (by assumption) (news_skip2 (by assumption)) (fun p hp => kst_ltOf l9.2.2 p hp)))
theorem due_unk2 (X : (hd.heap_39 w.params).In h₀) (T : Top topProg loose mean mg mb h₀) (B : Below callerA h₀ [] h₀) (F : Fr h₀ L s.heap m) (N : News h₀ L s.heap news) {nm : Str} {tn tw te : Tok} {v pa : Addr} 
   (hnm : nm.length ≤ 1000) (hQ : ∀ t h' tk k1 k2 k3, Fr h₀ L h' m → News h₀ L h' ((t, ({ cls := .type "tuple", data := .seq #[.str "unknown" k1, .str ((("Feature" : Str) ++ (" '" : Str)) ++ nm ++ ("' not recognized" : Str)) k2, .str ((("Feature" : Str) ++ (" '" : Str)) ++ nm ++ ("' not recognized" : Str)) k3, .none] } : Obj)) :: news) → (∀ p ∈ news, p.1 < t) → Q (.ref t) { s with heap := h', toks := tk }) :
   wpAny (model PySem.Challenge.rw_kp0119_10.row.prog w) (callerA.deeper (envOf "law" lawScope L fa cd)) (call (.ref 649) [.int 1 te, .int 2 tw, .str nm tn, .ref v, .ref pa]) Q E s := by
  show wpAny (model PySem.Challenge.rw_kp0119_10.row.prog w) (callerA.deeper (envOf _ (Scope.mk _ _ _ _ _) _ _ _)) _ _ _ _
  revert X
  k_fill
  intro X
  k_steps
  all_goals (first
    | ((with_reducible rename _ ∧ _ ∧ _ ∧ AllLt _ news => l9); exact hQ _ _ _ _ _ _ (by assumption) (news_skip3 (by assumption)) (fun p hp => kst_ltOf l9.2.2.2 p hp))
    | ((with_reducible rename _ ∧ _ ∧ AllLt _ news => l9); exact hQ _ _ _ _ _ _ (by assumption) (news_skip2 (by assumption)) (fun p hp => kst_ltOf l9.2.2 p hp)))
theorem due_unk3 (X : (hd.heap_39 w.params).In h₀) (T : Top topProg loose mean mg mb h₀) (B : Below callerA h₀ [] h₀) (F : Fr h₀ L s.heap m) (N : News h₀ L s.heap news) {nm : Str} {tn tw te : Tok} {v pa : Addr} 
   (hnm : nm.length ≤ 1000) (hQ : ∀ t h' tk k1 k2 k3, Fr h₀ L h' m → News h₀ L h' ((t, ({ cls := .type "tuple", data := .seq #[.str "unknown" k1, .str ((("Property" : Str) ++ (" '" : Str)) ++ nm ++ ("' not recognized" : Str)) k2, .str ((("Property" : Str) ++ (" '" : Str)) ++ nm ++ ("' not recognized" : Str)) k3, .none] } : Obj)) :: news) → (∀ p ∈ news, p.1 < t) → Q (.ref t) { s with heap := h', toks := tk }) :
   wpAny (model PySem.Challenge.rw_kp0119_10.row.prog w) (callerA.deeper (envOf "law" lawScope L fa cd)) (call (.ref 649) [.int 1 te, .int 3 tw, .str nm tn, .ref v, .ref pa]) Q E s := by
  show wpAny (model PySem.Challenge.rw_kp0119_10.row.prog w) (callerA.deeper (envOf _ (Scope.mk _ _ _ _ _) _ _ _)) _ _ _ _
  revert X
  k_fill
  intro X
  k_steps
  all_goals (first
    | ((with_reducible rename _ ∧ _ ∧ _ ∧ AllLt _ news => l9); exact hQ _ _ _ _ _ _ (by assumption) (news_skip3 (by assumption)) (fun p hp => kst_ltOf l9.2.2.2 p hp))
    | ((with_reducible rename _ ∧ _ ∧ AllLt _ news => l9); exact hQ _ _ _ _ _ _ (by assumption) (news_skip2 (by assumption)) (fun p hp => kst_ltOf l9.2.2 p hp)))
theorem due_unk4 (X : (hd.heap_39 w.params).In h₀) (T : Top topProg loose mean mg mb h₀) (B : Below callerA h₀ [] h₀) (F : Fr h₀ L s.heap m) (N : News h₀ L s.heap news) {nm : Str} {tn tw te : Tok} {v pa : Addr} 
   (hnm : nm.length ≤ 1000) (hQ : ∀ t h' tk k1 k2 k3, Fr h₀ L h' m → News h₀ L h' ((t, ({ cls := .type "tuple", data := .seq #[.str "unknown" k1, .str ((("Feature" : Str) ++ (" '" : Str)) ++ nm ++ ("' not recognized" : Str)) k2, .str ((("Feature" : Str) ++ (" '" : Str)) ++ nm ++ ("' not recognized" : Str)) k3, .none] } : Obj)) :: news) → (∀ p ∈ news, p.1 < t) → Q (.ref t) { s with heap := h', toks := tk }) :
   wpAny (model PySem.Challenge.rw_kp0119_10.row.prog w) (callerA.deeper (envOf "law" lawScope L fa cd)) (call (.ref 649) [.int 1 te, .int 4 tw, .str nm tn, .ref v, .ref pa]) Q E s := by
  show wpAny (model PySem.Challenge.rw_kp0119_10.row.prog w) (callerA.deeper (envOf _ (Scope.mk _ _ _ _ _) _ _ _)) _ _ _ _
  revert X
  k_fill
  intro X
  k_steps
  all_goals (first
    | ((with_reducible rename _ ∧ _ ∧ _ ∧ AllLt _ news => l9); exact hQ _ _ _ _ _ _ (by assumption) (news_skip3 (by assumption)) (fun p hp => kst_ltOf l9.2.2.2 p hp))
    | ((with_reducible rename _ ∧ _ ∧ AllLt _ news => l9); exact hQ _ _ _ _ _ _ (by assumption) (news_skip2 (by assumption)) (fun p hp => kst_ltOf l9.2.2 p hp)))
theorem due_unk5 (X : (hd.heap_39 w.params).In h₀) (T : Top topProg loose mean mg mb h₀) (B : Below callerA h₀ [] h₀) (F : Fr h₀ L s.heap m) (N : News h₀ L s.heap news) {nm : Str} {tn tw te : Tok} {v pa : Addr} 
   (hnm : nm.length ≤ 1000) (hQ : ∀ t h' tk k1 k2 k3, Fr h₀ L h' m → News h₀ L h' ((t, ({ cls := .type "tuple", data := .seq #[.str "unknown" k1, .str ((("Property" : Str) ++ (" '" : Str)) ++ nm ++ ("' not recognized" : Str)) k2, .str ((("Property" : Str) ++ (" '" : Str)) ++ nm ++ ("' not recognized" : Str)) k3, .none] } : Obj)) :: news) → (∀ p ∈ news, p.1 < t) → Q (.ref t) { s with heap := h', toks := tk }) :
   wpAny (model PySem.Challenge.rw_kp0119_10.row.prog w) (callerA.deeper (envOf "law" lawScope L fa cd)) (call (.ref 649) [.int 1 te, .int 5 tw, .str nm tn, .ref v, .ref pa]) Q E s := by
  show wpAny (model PySem.Challenge.rw_kp0119_10.row.prog w) (callerA.deeper (envOf _ (Scope.mk _ _ _ _ _) _ _ _)) _ _ _ _
  revert X
  k_fill
  intro X
  k_steps
  all_goals (first
    | ((with_reducible rename _ ∧ _ ∧ _ ∧ AllLt _ news => l9); exact hQ _ _ _ _ _ _ (by assumption) (news_skip3 (by assumption)) (fun p hp => kst_ltOf l9.2.2.2 p hp))
    | ((with_reducible rename _ ∧ _ ∧ AllLt _ news => l9); exact hQ _ _ _ _ _ _ (by assumption) (news_skip2 (by assumption)) (fun p hp => kst_ltOf l9.2.2 p hp)))
theorem due_set1 (X : (hd.heap_39 w.params).In h₀) (T : Top topProg loose mean mg mb h₀) (B : Below callerA h₀ [] h₀) (F : Fr h₀ L s.heap m) (N : News h₀ L s.heap news) {nm : Str} {tn tw te : Tok} {v pa : Addr} 
   (hnm : nm.length ≤ 1000) (hQ : ∀ t h' tk k1, Fr h₀ L h' m → News h₀ L h' ((t, ({ cls := .type "tuple", data := .seq #[.str "answer" k1, .none] } : Obj)) :: news) → (∀ p ∈ news, p.1 < t) → Q (.ref t) { s with heap := h', toks := tk }) :
   wpAny (model PySem.Challenge.rw_kp0119_10.row.prog w) (callerA.deeper (envOf "law" lawScope L fa cd)) (call (.ref 649) [.int 0 te, .int 1 tw, .str nm tn, .ref v, .ref pa]) Q E s := by
  show wpAny (model PySem.Challenge.rw_kp0119_10.row.prog w) (callerA.deeper (envOf _ (Scope.mk _ _ _ _ _) _ _ _)) _ _ _ _
  revert X
  k_fill
  intro X
  k_steps
  all_goals (first
    | ((with_reducible rename _ ∧ _ ∧ _ ∧ AllLt _ news => l9); exact hQ _ _ _ _ (by assumption) (news_skip3 (by assumption)) (fun p hp => kst_ltOf l9.2.2.2 p hp))
    | ((with_reducible rename _ ∧ _ ∧ AllLt _ news => l9); exact hQ _ _ _ _ (by assumption) (news_skip2 (by assumption)) (fun p hp => kst_ltOf l9.2.2 p hp)))
theorem due_set2 (X : (hd.heap_39 w.params).In h₀) (T : Top topProg loose mean mg mb h₀) (B : Below callerA h₀ [] h₀) (F : Fr h₀ L s.heap m) (N : News h₀ L s.heap news) {nm : Str} {tn tw te : Tok} {v pa : Addr} 
   (hnm : nm.length ≤ 1000) (hQ : ∀ t h' tk k1, Fr h₀ L h' m → News h₀ L h' ((t, ({ cls := .type "tuple", data := .seq #[.str "answer" k1, .none] } : Obj)) :: news) → (∀ p ∈ news, p.1 < t) → Q (.ref t) { s with heap := h', toks := tk }) :
   wpAny (model PySem.Challenge.rw_kp0119_10.row.prog w) (callerA.deeper (envOf "law" lawScope L fa cd)) (call (.ref 649) [.int 0 te, .int 2 tw, .str nm tn, .ref v, .ref pa]) Q E s := by
  show wpAny (model PySem.Challenge.rw_kp0119_10.row.prog w) (callerA.deeper (envOf _ (Scope.mk _ _ _ _ _) _ _ _)) _ _ _ _
  revert X
  k_fill
  intro X
  k_steps
  all_goals (first
    | ((with_reducible rename _ ∧ _ ∧ _ ∧ AllLt _ news => l9); exact hQ _ _ _ _ (by assumption) (news_skip3 (by assumption)) (fun p hp => kst_ltOf l9.2.2.2 p hp))
    | ((with_reducible rename _ ∧ _ ∧ AllLt _ news => l9); exact hQ _ _ _ _ (by assumption) (news_skip2 (by assumption)) (fun p hp => kst_ltOf l9.2.2 p hp)))
theorem due_set3 (X : (hd.heap_39 w.params).In h₀) (T : Top topProg loose mean mg mb h₀) (B : Below callerA h₀ [] h₀) (F : Fr h₀ L s.heap m) (N : News h₀ L s.heap news) {nm : Str} {tn tw te : Tok} {v pa : Addr} 
   (hnm : nm.length ≤ 1000) (hQ : ∀ t h' tk k1, Fr h₀ L h' m → News h₀ L h' ((t, ({ cls := .type "tuple", data := .seq #[.str "answer" k1, .none] } : Obj)) :: news) → (∀ p ∈ news, p.1 < t) → Q (.ref t) { s with heap := h', toks := tk }) :
   wpAny (model PySem.Challenge.rw_kp0119_10.row.prog w) (callerA.deeper (envOf "law" lawScope L fa cd)) (call (.ref 649) [.int 0 te, .int 3 tw, .str nm tn, .ref v, .ref pa]) Q E s := by
  show wpAny (model PySem.Challenge.rw_kp0119_10.row.prog w) (callerA.deeper (envOf _ (Scope.mk _ _ _ _ _) _ _ _)) _ _ _ _
  revert X
  k_fill
  intro X
  k_steps
  all_goals (first
    | ((with_reducible rename _ ∧ _ ∧ _ ∧ AllLt _ news => l9); exact hQ _ _ _ _ (by assumption) (news_skip3 (by assumption)) (fun p hp => kst_ltOf l9.2.2.2 p hp))
    | ((with_reducible rename _ ∧ _ ∧ AllLt _ news => l9); exact hQ _ _ _ _ (by assumption) (news_skip2 (by assumption)) (fun p hp => kst_ltOf l9.2.2 p hp)))
end
section
open PySem PySem.W PyProof.Rows PySem.Calls
open LCg LCt in
theorem compEnd_mono {h₀ : Heap} {L : Addr} {m : Str → Option Value} {s₁ : Shared} {I : Addr} {oI : Obj} {C : Addr} {oC : Obj} {D : Addr} {oD : Obj} {S : List (Addr × Obj) → Prop} {rest rest' : Value → List (Addr × Obj) → Prop} {y : Value} {s₂ : Shared}
    (x : CompEnd h₀ L m s₁ I oI C oC D oD S rest y s₂) (k : ∀ l, rest y l → rest' y l) : CompEnd h₀ L m s₁ I oI C oC D oD S rest' y s₂ := by
  obtain ⟨h', tk, n, a, b, c, d, e, r⟩ := x
  exact ⟨h', tk, n, a, b, c, d, e, k _ r⟩
open LCg LCt in
/-- a comprehension with a test whose turns leave the ledger as it is -/
theorem rest_filter {prog : Program} {w : World} {A : Around} {h₀ : Heap} {L : Addr} {m : Str → Option Value} {env : Env} {ct elt : PySem.Expr} {x : Str} {scope : Scope} {cl : List (Str × Addr)} {s : Shared} {S : List (Addr × Obj) → Prop} {P : Nat → Value → Prop}
    {Fin : List Value → List (Addr × Obj) → Prop} {news : List (Addr × Obj)} {n : Nat} (f : Nat → Option Value) 
    (turn : ∀ i ys, i < n → ∀ v I oI C oC D m₂ h tk (E' : Value → Shared → Prop), P i v → NsObj oC m₂ → m₂ x = some v → Fr h₀ L h m → News h₀ L h ((I, oI) :: (C, oC) :: (D, LCg.lst ys) :: news) → LCg.Off3 I C D news → ((@Ne Nat I C) ∧ (@Ne Nat I D) ∧ (@Ne Nat C D)) →
      wpAny (model prog w) A (isTrue ct (compEnvC scope cl C env) (eval ct (compEnvC scope cl C env))) (fun ok s' => if ok = true then
        wpAny (model prog w) A (eval elt (compEnvC scope cl C env)) (CompEnd h₀ L m { s with heap := h, toks := tk } I oI C oC D (LCg.lst ys) S (fun y news' => news' = news ∧ f i = some y)) E' s'
        else CompEnd h₀ L m { s with heap := h, toks := tk } I oI C oC D (LCg.lst ys) S (fun _ news' => news' = news ∧ f i = none) Value.none s') E' { s with heap := h, toks := tk }) :
    ∀ k i ys, i + k = n → Fin (ys ++ (List.range' i k).filterMap f) news → CompRestT prog w A h₀ L m env ct elt x scope cl s S P Fin k i ys news := by
  intro k
  induction k with
  | zero =>
    intro i ys _ hF
    refine CompRestT.zero ?_
    simpa using hF
  | succ k ih =>
    intro i ys hik hF
    refine CompRestT.succ ?_
    intro v I oI C oC D m₂ h tk E' hP hC hx F N off ne
    refine wpAny_mono (turn i ys (by omega) v I oI C oC D m₂ h tk E' hP hC hx F N off ne) (fun ok s' z => ?_) fun _ _ y => y
    rw [List.range'_succ, List.filterMap_cons] at hF
    split at z
    · rename_i hok
      rw [if_pos hok]
      refine wpAny_mono z (fun y s'' z => compEnd_mono z ?_) fun _ _ y => y
      rintro l ⟨rfl, hf⟩
      rw [hf] at hF
      dsimp only at hF
      exact ih (i + 1) (ys ++ [y]) (by omega) (by rw [List.append_assoc]; exact hF)
    · rename_i hok
      rw [if_neg hok]
      refine compEnd_mono z ?_
      rintro l ⟨rfl, hf⟩
      rw [hf] at hF
      dsimp only at hF
      exact ih (i + 1) ys (by omega) hF
/-- an entry of the past: way, name, value -/
abbrev Past := List (Int × Str × Addr)
abbrev tupObj3 (w : Int) (tw : Tok) (nm : Str) (tn : Tok) (u : Addr) : Obj := { cls := .type "tuple", data := .seq #[.int w tw, .str nm tn, .ref u] }
structure PastAt (news : List (Addr × Obj)) (its : Array Value) (ps : Past) : Prop where
  size : its.size = ps.length
  item : ∀ (i : Nat) (p : Int × Str × Addr), ps[i]? = some p → ∃ (ta : Addr) (tw tn : Tok), its[i]? = some (Value.ref ta) ∧ (ta, tupObj3 p.1 tw p.2.1 tn p.2.2) ∈ news
def hit (W : Int) (nm : Str) (p : Int × Str × Addr) : Option Addr := if p.1 = W ∧ p.2.1 = nm then some p.2.2 else none
def vals (W : Int) (nm : Str) (ps : Past) : List Addr := ps.filterMap (hit W nm)
theorem hit_pos {W pw : Int} {pn nm : Str} {pu : Addr} (c1 : pw = W - 2) (c2 : (pn == nm) = true) : ((some (pw, pn, pu)).bind (hit (W - 2) nm)).map Value.ref = some (.ref pu) := by
  have c2 : pn = nm := beq_iff_eq.mp c2
  simp [hit, c1, c2]
theorem hit_neg {W pw : Int} {pn nm : Str} {pu : Addr} (c2 : (pn == nm) = false) : ((some (pw, pn, pu)).bind (hit (W - 2) nm)).map Value.ref = none := by
  have c2 : ¬ pn = nm := fun e => by rw [e, beq_self_eq_true] at c2; cases c2
  simp [hit, c2]
theorem hit_neg1 {W pw : Int} {pn nm : Str} {pu : Addr} (c1 : pw ≠ W - 2) : ((some (pw, pn, pu)).bind (hit (W - 2) nm)).map Value.ref = none := by
  simp [hit, c1]
theorem vals_range {f : Int × Str × Addr → Option Addr} (ps : Past) : (List.range' 0 ps.length).filterMap (fun i => ((ps[i]?).bind f).map Value.ref) = (ps.filterMap f).map Value.ref := by
  have key : ∀ (l : Past) (a : Past), (List.range' a.length l.length).filterMap (fun i => (((a ++ l)[i]?).bind f).map Value.ref) = (l.filterMap f).map Value.ref := by
    intro l
    induction l with
    | nil => intro a; rfl
    | cons p l ih =>
      intro a
      have e := ih (a ++ [p])
      rw [List.length_append, List.append_assoc] at e
      rw [List.length_cons, List.range'_succ, List.filterMap_cons, List.filterMap_cons]
      have e2 : (a ++ p :: l)[a.length]? = some p := by rw [List.getElem?_append_right (Nat.le_refl _), Nat.sub_self]; rfl
      rw [e2]
      have e3 : (List.range' (a.length + 1) l.length).filterMap (fun i => (((a ++ p :: l)[i]?).bind f).map Value.ref) = (l.filterMap f).map Value.ref := e
      rw [e3]
      cases h : f p with
      | none => simp [h]
      | some v => simp [h]
  exact key ps []
variable {w : World} {h₀ : Heap} {mg mb : Str → Option Value} {loose : List Str} {mean : ExcName → Option Value} {news : List (Addr × Obj)} {L fa : Addr} {cd : Value} {m : Str → Option Value} {s : Shared} {E : Value → Shared → Prop} {Q : Value → Shared → Prop}
local macro_rules | `(tactic| walk_at "CompSrcT") => `(tactic| (k_here; k_dflt (refine LCt.CompSrcT.ledger (by rfl) (by k_asm) (by k_asm) (by k_mem) (by assumption) ?_; intro g')))
local macro_rules | `(tactic| k_mem) => `(tactic| first | assumption | exact List.Mem.head _ | exact List.Mem.tail _ (List.Mem.head _) | exact List.Mem.tail _ (List.Mem.tail _ (List.Mem.head _)) | (refine List.Mem.tail _ ?_; assumption) | (refine List.Mem.tail _ (List.Mem.tail _ ?_); assumption) | (refine List.Mem.tail _ (List.Mem.tail _ (List.Mem.tail _ ?_)); assumption) | (refine List.Mem.tail _ (List.Mem.tail _ (List.Mem.tail _ (List.Mem.tail _ ?_))); assumption))
local macro_rules | `(tactic| walk_at "compareOp NotEq ref ref") => `(tactic| (k_here; k_dflt (first
  | (refine' ne_list_nil ?N ?a ?b ?u ?_; (case N => k_asm); (case a => k_mem); (case b => k_mem); (case u => k_units))
  | (refine' ne_nil_nil ?N ?a ?b ?u ?_; (case N => k_asm); (case a => k_mem); (case b => k_mem); (case u => k_units)))))
local macro_rules | `(tactic| walk_at "subscriptTail Name UnaryOp ref int") => `(tactic| (k_here; (with_reducible show wpAny _ _ (subscriptTail _ _ (Value.ref _) (Value.int (-1) _)) _ _ _); k_dflt (refine' item_last ?N ?a ?e ?_; (case N => k_asm); (case a => k_mem); (case e => rfl))))
theorem due_get4 (X : (hd.heap_39 w.params).In h₀) (T : Top topProg loose mean mg mb h₀) (B : Below callerA h₀ [] h₀) (F : Fr h₀ L s.heap m) (N : News h₀ L s.heap news) {nm : Str} {tn tw te : Tok} {v pa : Addr} {its : Array Value} {ki : Nat} {ps : Past}
   (hp : (pa, ({ cls := .type "list", data := .seq its ki } : Obj)) ∈ news) (hsz : its.size ≤ sizeLine) (PA : PastAt news its ps)
   (hQ1 : vals (4 - 2) nm ps = [] → ∀ t h' tk k1 k2 t9, Fr h₀ L h' m → News h₀ L h' ((t, ({ cls := .type "tuple", data := .seq #[.str "refused" k1, .ref t9] } : Obj)) :: (t9, ({ cls := .type "tuple", data := .seq #[.str nm k2] } : Obj)) :: news) → (∀ p ∈ (t9, ({ cls := .type "tuple", data := .seq #[.str nm k2] } : Obj)) :: news, p.1 < t) → Q (.ref t) { s with heap := h', toks := tk })
   (hQ2 : ∀ l u, vals (4 - 2) nm ps = l ++ [u] → ∀ t h' tk k1, Fr h₀ L h' m → News h₀ L h' ((t, ({ cls := .type "tuple", data := .seq #[.str "answer" k1, .ref u] } : Obj)) :: news) → (∀ p ∈ news, p.1 < t) → Q (.ref t) { s with heap := h', toks := tk }) :
   wpAny (model PySem.Challenge.rw_kp0119_10.row.prog w) (callerA.deeper (envOf "law" lawScope L fa cd)) (call (.ref 649) [.int 0 te, .int 4 tw, .str nm tn, .ref v, .ref pa]) Q E s := by
  show wpAny (model PySem.Challenge.rw_kp0119_10.row.prog w) (callerA.deeper (envOf _ (Scope.mk _ _ _ _ _) _ _ _)) _ _ _ _
  revert X
  k_fill
  intro X
  k_steps
  refine rest_filter (n := its.size) (fun i => ((ps[i]?).bind (hit (4 - 2) nm)).map Value.ref) ?turn _ 0 [] (by omega) ?fin
  case turn =>
    intro i ys hi v I oI C oC D m₂ h tk E' hv hC hx F N off ne
    have hlt : i < ps.length := PA.size ▸ hi
    obtain ⟨ta, tw', tn', e1, e2⟩ := PA.item i (ps[i]) (List.getElem?_eq_getElem hlt)
    rw [List.getElem?_eq_getElem hlt]
    generalize ps[i] = p at e2 ⊢
    obtain ⟨pw, pn, pu⟩ := p
    dsimp only at e2
    rw [e1] at hv
    cases hv
    k_steps
    all_goals exact LCg.CompEnd.intro (by assumption) (by assumption) _ (fun p hp => hp) off (.inr ⟨_, by k_mem, rfl, _, rfl⟩) ⟨rfl, by first | exact hit_pos (by assumption) (by assumption) | exact hit_neg (by assumption) | exact hit_neg1 (by assumption)⟩
  case fin =>
    rw [List.nil_append, PA.size, vals_range]
    intro D h tk F' N' off
    dsimp only
    rcases List.eq_nil_or_concat (ps.filterMap (hit (4 - 2) nm)) with hv | ⟨l, u, hv⟩
    · rw [hv] at N'
      k_steps
      all_goals exact hQ1 hv _ _ _ _ _ _ (by assumption) (news_sub (by assumption) (by kqd_sub)) (by (with_reducible rename _ ∧ _ ∧ _ ∧ _ ∧ _ ∧ AllLt _ news => l9); intro p hp; cases hp with | head => exact l9.1 | tail _ hp => exact kst_ltOf l9.2.2.2.2.2 p hp)
    · have hv' : ps.filterMap (hit (4 - 2) nm) = l ++ [u] := by rw [hv, List.concat_eq_append]
      rw [hv', List.map_append, List.map_cons, List.map_nil] at N'
      k_steps
      all_goals (exact hQ2 _ _ hv' _ _ _ _ (by assumption) (news_sub (by assumption) (by kqd_sub)) (by (with_reducible rename _ ∧ _ ∧ _ ∧ _ ∧ AllLt _ news => l9); exact fun p hp => kst_ltOf l9.2.2.2.2 p hp))
theorem due_get5 (X : (hd.heap_39 w.params).In h₀) (T : Top topProg loose mean mg mb h₀) (B : Below callerA h₀ [] h₀) (F : Fr h₀ L s.heap m) (N : News h₀ L s.heap news) {nm : Str} {tn tw te : Tok} {v pa : Addr} {its : Array Value} {ki : Nat} {ps : Past}
   (hp : (pa, ({ cls := .type "list", data := .seq its ki } : Obj)) ∈ news) (hsz : its.size ≤ sizeLine) (PA : PastAt news its ps)
   (hQ1 : vals (5 - 2) nm ps = [] → ∀ t h' tk k1 k2 t9, Fr h₀ L h' m → News h₀ L h' ((t, ({ cls := .type "tuple", data := .seq #[.str "refused" k1, .ref t9] } : Obj)) :: (t9, ({ cls := .type "tuple", data := .seq #[.str nm k2] } : Obj)) :: news) → (∀ p ∈ (t9, ({ cls := .type "tuple", data := .seq #[.str nm k2] } : Obj)) :: news, p.1 < t) → Q (.ref t) { s with heap := h', toks := tk })
   (hQ2 : ∀ l u, vals (5 - 2) nm ps = l ++ [u] → ∀ t h' tk k1, Fr h₀ L h' m → News h₀ L h' ((t, ({ cls := .type "tuple", data := .seq #[.str "answer" k1, .ref u] } : Obj)) :: news) → (∀ p ∈ news, p.1 < t) → Q (.ref t) { s with heap := h', toks := tk }) :
   wpAny (model PySem.Challenge.rw_kp0119_10.row.prog w) (callerA.deeper (envOf "law" lawScope L fa cd)) (call (.ref 649) [.int 0 te, .int 5 tw, .str nm tn, .ref v, .ref pa]) Q E s := by
  show wpAny (model PySem.Challenge.rw_kp0119_10.row.prog w) (callerA.deeper (envOf _ (Scope.mk _ _ _ _ _) _ _ _)) _ _ _ _
  revert X
  k_fill
  intro X
  k_steps
  refine rest_filter (n := its.size) (fun i => ((ps[i]?).bind (hit (5 - 2) nm)).map Value.ref) ?turn _ 0 [] (by omega) ?fin
  case turn =>
    intro i ys hi v I oI C oC D m₂ h tk E' hv hC hx F N off ne
    have hlt : i < ps.length := PA.size ▸ hi
    obtain ⟨ta, tw', tn', e1, e2⟩ := PA.item i (ps[i]) (List.getElem?_eq_getElem hlt)
    rw [List.getElem?_eq_getElem hlt]
    generalize ps[i] = p at e2 ⊢
    obtain ⟨pw, pn, pu⟩ := p
    dsimp only at e2
    rw [e1] at hv
    cases hv
    k_steps
    all_goals exact LCg.CompEnd.intro (by assumption) (by assumption) _ (fun p hp => hp) off (.inr ⟨_, by k_mem, rfl, _, rfl⟩) ⟨rfl, by first | exact hit_pos (by assumption) (by assumption) | exact hit_neg (by assumption) | exact hit_neg1 (by assumption)⟩
  case fin =>
    rw [List.nil_append, PA.size, vals_range]
    intro D h tk F' N' off
    dsimp only
    rcases List.eq_nil_or_concat (ps.filterMap (hit (5 - 2) nm)) with hv | ⟨l, u, hv⟩
    · rw [hv] at N'
      k_steps
      all_goals exact hQ1 hv _ _ _ _ _ _ (by assumption) (news_sub (by assumption) (by kqd_sub)) (by (with_reducible rename _ ∧ _ ∧ _ ∧ _ ∧ _ ∧ AllLt _ news => l9); intro p hp; cases hp with | head => exact l9.1 | tail _ hp => exact kst_ltOf l9.2.2.2.2.2 p hp)
    · have hv' : ps.filterMap (hit (5 - 2) nm) = l ++ [u] := by rw [hv, List.concat_eq_append]
      rw [hv', List.map_append, List.map_cons, List.map_nil] at N'
      k_steps
      all_goals (exact hQ2 _ _ hv' _ _ _ _ (by assumption) (news_sub (by assumption) (by kqd_sub)) (by (with_reducible rename _ ∧ _ ∧ _ ∧ _ ∧ AllLt _ news => l9); exact fun p hp => kst_ltOf l9.2.2.2.2 p hp))
end
section
open PySem.SeqAt
local macro_rules | `(tactic| walk_at "eval Name") => `(tactic| (k_here; k_dflt (refine' ld ?k1 ?k2 ?_; (case k1 => k_asm); (case k2 => assumption); k_whole)))
section
local macro_rules | `(tactic| walk_at "zz") => `(tactic| skip)
/-- a call in the law's frame that gives a new tuple -/
structure CallGives (w : World) (h₀ : Heap) (L fa : Addr) (cd : Value) (m : Str → Option Value) (news : List (Addr × Obj)) (f : Addr) (args : List Value) (Res : Addr → List (Addr × Obj) → Prop) : Prop where
  run : ∀ {s : Shared} {E : Value → Shared → Prop} {Q : Value → Shared → Prop}, Fr h₀ L s.heap m → News h₀ L s.heap news →
    (∀ t h' tk l, Res t l → Fr h₀ L h' m → News h₀ L h' l → Q (.ref t) { s with heap := h', toks := tk }) →
    wpAny (model PySem.Challenge.rw_kp0119_10.row.prog w) (callerA.deeper (envOf "law" lawScope L fa cd)) (call (.ref f) args) Q E s
variable {w : World} {h₀ : Heap} {mg mb : Str → Option Value} {loose : List Str} {mean : ExcName → Option Value} {news : List (Addr × Obj)} {L fa : Addr} {cd : Value} {m : Str → Option Value} {s : Shared} {E : Value → Shared → Prop} {Q : Flow → Shared → Prop}
local macro_rules | `(tactic| walk_at "call ref") => `(tactic| (k_here; (with_reducible rename CallGives _ _ _ _ _ _ _ _ _ _ => cG); k_dflt (refine' CallGives.run cG ?f ?n ?_; (case f => assumption); (case n => assumption)); intro t' h' tk' l' hR' F' N'; (try dsimp only)))
local macro_rules | `(tactic| walk_at "subscriptTail") => `(tactic| (k_here; (with_reducible show wpAny _ _ (subscriptTail _ _ (Value.ref _) (Value.int _ _)) _ _ _); k_dflt (refine' item_at ?N ?a ?h0 ?hk ?hx ?_; (case N => k_asm); (case a => assumption); (case h0 => assumption); (case hk => omega); (case hx => assumption))))
theorem st7 (X : (hd.heap_39 w.params).In h₀) (T : Top topProg loose mean mg mb h₀) (B : Below callerA h₀ [] h₀) (F : Fr h₀ L s.heap m) (N : News h₀ L s.heap news)
   {ev nv vv pv : Value} {way : Int} {tw : Tok} {Res : Addr → List (Addr × Obj) → Prop}
   (m1 : m "end" = some ev) (m2 : m "way" = some (.int way tw)) (m3 : m "name" = some nv) (m4 : m "value" = some vv) (m5 : m "past" = some pv)
   (cG : CallGives w h₀ L fa cd m news 649 [ev, .int way tw, nv, vv, pv] Res)
   (hQ : ∀ h' tk t l, Res t l → Fr h₀ L h' (fun z => if z = "due" then some (.ref t) else m z) → News h₀ L h' l → Q .next { s with heap := h', toks := tk }) :
   wpAny (model PySem.Challenge.rw_kp0119_10.row.prog w) (callerA.deeper (envOf "law" lawScope L fa cd)) (exec (nth forBody 7) (envOf "law" lawScope L fa cd)) Q E s := by
  show wpAny (model PySem.Challenge.rw_kp0119_10.row.prog w) (callerA.deeper (envOf _ (Scope.mk _ _ _ _ _) _ _ _)) (exec (Stmt.Assign _ _ _) (envOf _ (Scope.mk _ _ _ _ _) _ _ _)) _ _ _
  revert X; k_fill; intro X
  k_steps
  all_goals exact hQ _ _ _ _ (by assumption) (by assumption) (by assumption)
theorem st8 (X : (hd.heap_39 w.params).In h₀) (T : Top topProg loose mean mg mb h₀) (B : Below callerA h₀ [] h₀) (F : Fr h₀ L s.heap m) (N : News h₀ L s.heap news)
   {nv vv : Value} {way : Int} {tw : Tok} {Res : Addr → List (Addr × Obj) → Prop} {nd : Addr} {its : List Value} {kn : Nat} {one : Int} {to : Tok} {x : Value}
   (m1 : m "one" = some (.int one to)) (m2 : m "way" = some (.int way tw)) (m3 : m "name" = some nv) (m4 : m "value" = some vv) (m5 : m "nodes" = some (.ref nd))
   (hn : (nd, ({ cls := .type "list", data := .seq its.toArray kn } : Obj)) ∈ news) (h0 : 0 ≤ one) (h1 : one < 7) (hx : its[one.toNat]? = some x)
   (cG : CallGives w h₀ L fa cd m news 644 [x, .int way tw, nv, vv] Res)
   (hQ : ∀ h' tk t l, Res t l → Fr h₀ L h' (fun z => if z = "told" then some (.ref t) else m z) → News h₀ L h' l → Q .next { s with heap := h', toks := tk }) :
   wpAny (model PySem.Challenge.rw_kp0119_10.row.prog w) (callerA.deeper (envOf "law" lawScope L fa cd)) (exec (nth forBody 8) (envOf "law" lawScope L fa cd)) Q E s := by
  show wpAny (model PySem.Challenge.rw_kp0119_10.row.prog w) (callerA.deeper (envOf _ (Scope.mk _ _ _ _ _) _ _ _)) (exec (Stmt.Assign _ _ _) (envOf _ (Scope.mk _ _ _ _ _) _ _ _)) _ _ _
  revert X; k_fill; intro X
  k_steps
  all_goals exact hQ _ _ _ _ (by assumption) (by assumption) (by assumption)
end
section
variable {w : World} {h₀ : Heap} {mg mb : Str → Option Value} {loose : List Str} {mean : ExcName → Option Value} {news : List (Addr × Obj)} {L fa : Addr} {cd : Value} {m : Str → Option Value} {s : Shared} {E : Value → Shared → Prop} {Q : Flow → Shared → Prop}
def NeFalse (h₀ : Heap) (L : Addr) (news : List (Addr × Obj)) (t d : Addr) : Prop := ∀ {A : Around} {s' : Shared}, News h₀ L s'.heap news → A.units + 64 < cLine → RcNeAt A s' (.ref t) (.ref d) false
local macro_rules | `(tactic| k_mem) => `(tactic| assumption)
local macro_rules | `(tactic| walk_at "compareOp NotEq ref ref") => `(tactic| (k_here; (with_reducible rename NeFalse _ _ _ _ _ => nF); k_dflt (refine' ne_rc (nF ?N ?u) ?_; (case N => k_asm); (case u => k_units))))
theorem st9_no4 (X : (hd.heap_39 w.params).In h₀) (T : Top topProg loose mean mg mb h₀) (B : Below callerA h₀ [] h₀) (F : Fr h₀ L s.heap m) (N : News h₀ L s.heap news)
   {t d : Addr} {wd : Str} {k1 : Tok} {v1 v2 v3 : Value} (m1 : m "told" = some (.ref t)) (m2 : m "due" = some (.ref d))
   (ht : (t, ({ cls := .type "tuple", data := .seq #[.str wd k1, v1, v2, v3] } : Obj)) ∈ news) (hw : (wd == ("answer" : Str)) = false) (nF : NeFalse h₀ L news t d)
   (hQ : ∀ h' tk, Fr h₀ L h' m → News h₀ L h' news → Q .next { s with heap := h', toks := tk }) :
   wpAny (model PySem.Challenge.rw_kp0119_10.row.prog w) (callerA.deeper (envOf "law" lawScope L fa cd)) (exec (nth forBody 9) (envOf "law" lawScope L fa cd)) Q E s := by
  show wpAny (model PySem.Challenge.rw_kp0119_10.row.prog w) (callerA.deeper (envOf _ (Scope.mk _ _ _ _ _) _ _ _)) (exec (Stmt.If _ _ _ _) (envOf _ (Scope.mk _ _ _ _ _) _ _ _)) _ _ _
  revert X; k_fill; intro X
  k_steps
  all_goals exact hQ _ _ (by assumption) (by assumption)
theorem st9_no2 (X : (hd.heap_39 w.params).In h₀) (T : Top topProg loose mean mg mb h₀) (B : Below callerA h₀ [] h₀) (F : Fr h₀ L s.heap m) (N : News h₀ L s.heap news)
   {t d : Addr} {wd : Str} {k1 : Tok} {v1 : Value} (m1 : m "told" = some (.ref t)) (m2 : m "due" = some (.ref d))
   (ht : (t, ({ cls := .type "tuple", data := .seq #[.str wd k1, v1] } : Obj)) ∈ news) (hw : (wd == ("answer" : Str)) = false) (nF : NeFalse h₀ L news t d)
   (hQ : ∀ h' tk, Fr h₀ L h' m → News h₀ L h' news → Q .next { s with heap := h', toks := tk }) :
   wpAny (model PySem.Challenge.rw_kp0119_10.row.prog w) (callerA.deeper (envOf "law" lawScope L fa cd)) (exec (nth forBody 9) (envOf "law" lawScope L fa cd)) Q E s := by
  show wpAny (model PySem.Challenge.rw_kp0119_10.row.prog w) (callerA.deeper (envOf _ (Scope.mk _ _ _ _ _) _ _ _)) (exec (Stmt.If _ _ _ _) (envOf _ (Scope.mk _ _ _ _ _) _ _ _)) _ _ _
  revert X; k_fill; intro X
  k_steps
  all_goals exact hQ _ _ (by assumption) (by assumption)
theorem st9_none (X : (hd.heap_39 w.params).In h₀) (T : Top topProg loose mean mg mb h₀) (B : Below callerA h₀ [] h₀) (F : Fr h₀ L s.heap m) (N : News h₀ L s.heap news)
   {t d : Addr} {k1 k2 : Tok}  (m1 : m "told" = some (.ref t)) (m2 : m "due" = some (.ref d))
   (ht : (t, ({ cls := .type "tuple", data := .seq #[.str "answer" k1, .none] } : Obj)) ∈ news) (hd' : (d, ({ cls := .type "tuple", data := .seq #[.str "answer" k2, .none] } : Obj)) ∈ news) (nF : NeFalse h₀ L news t d)
   (hQ : ∀ h' tk, Fr h₀ L h' m → News h₀ L h' news → Q .next { s with heap := h', toks := tk }) :
   wpAny (model PySem.Challenge.rw_kp0119_10.row.prog w) (callerA.deeper (envOf "law" lawScope L fa cd)) (exec (nth forBody 9) (envOf "law" lawScope L fa cd)) Q E s := by
  show wpAny (model PySem.Challenge.rw_kp0119_10.row.prog w) (callerA.deeper (envOf _ (Scope.mk _ _ _ _ _) _ _ _)) (exec (Stmt.If _ _ _ _) (envOf _ (Scope.mk _ _ _ _ _) _ _ _)) _ _ _
  revert X; k_fill; intro X
  k_steps
  all_goals exact hQ _ _ (by assumption) (by assumption)
theorem st9_ref (X : (hd.heap_39 w.params).In h₀) (T : Top topProg loose mean mg mb h₀) (B : Below callerA h₀ [] h₀) (F : Fr h₀ L s.heap m) (N : News h₀ L s.heap news)
   {t d : Addr} {k1 k2 : Tok} {u : Addr} (m1 : m "told" = some (.ref t)) (m2 : m "due" = some (.ref d))
   (ht : (t, ({ cls := .type "tuple", data := .seq #[.str "answer" k1, .ref u] } : Obj)) ∈ news) (hd' : (d, ({ cls := .type "tuple", data := .seq #[.str "answer" k2, .ref u] } : Obj)) ∈ news) (nF : NeFalse h₀ L news t d)
   (hQ : ∀ h' tk, Fr h₀ L h' m → News h₀ L h' news → Q .next { s with heap := h', toks := tk }) :
   wpAny (model PySem.Challenge.rw_kp0119_10.row.prog w) (callerA.deeper (envOf "law" lawScope L fa cd)) (exec (nth forBody 9) (envOf "law" lawScope L fa cd)) Q E s := by
  show wpAny (model PySem.Challenge.rw_kp0119_10.row.prog w) (callerA.deeper (envOf _ (Scope.mk _ _ _ _ _) _ _ _)) (exec (Stmt.If _ _ _ _) (envOf _ (Scope.mk _ _ _ _ _) _ _ _)) _ _ _
  revert X; k_fill; intro X
  k_steps
  all_goals exact hQ _ _ (by assumption) (by assumption)
end
section
variable {w : World} {h₀ : Heap} {mg mb : Str → Option Value} {loose : List Str} {mean : ExcName → Option Value} {news rest : List (Addr × Obj)} {L fa : Addr} {cd : Value} {m : Str → Option Value} {s : Shared} {E : Value → Shared → Prop} {Q : Flow → Shared → Prop}
theorem st10_none (X : (hd.heap_39 w.params).In h₀) (T : Top topProg loose mean mg mb h₀) (B : Below callerA h₀ [] h₀) (F : Fr h₀ L s.heap m) (N : News h₀ L s.heap news)
   (m1 : m "end" = some .none) 
   (hQ : ∀ h' tk, Fr h₀ L h' m → News h₀ L h' news → Q .next { s with heap := h', toks := tk }) :
   wpAny (model PySem.Challenge.rw_kp0119_10.row.prog w) (callerA.deeper (envOf "law" lawScope L fa cd)) (exec (nth forBody 10) (envOf "law" lawScope L fa cd)) Q E s := by
  show wpAny (model PySem.Challenge.rw_kp0119_10.row.prog w) (callerA.deeper (envOf _ (Scope.mk _ _ _ _ _) _ _ _)) (exec (Stmt.If _ _ _ _) (envOf _ (Scope.mk _ _ _ _ _) _ _ _)) _ _ _
  revert X; k_fill; intro X
  k_steps
  all_goals exact hQ _ _ (by assumption) (by assumption)
theorem st10_one (X : (hd.heap_39 w.params).In h₀) (T : Top topProg loose mean mg mb h₀) (B : Below callerA h₀ [] h₀) (F : Fr h₀ L s.heap m) (N : News h₀ L s.heap news) {te : Tok}
   (m1 : m "end" = some (.int 1 te)) 
   (hQ : ∀ h' tk, Fr h₀ L h' m → News h₀ L h' news → Q .next { s with heap := h', toks := tk }) :
   wpAny (model PySem.Challenge.rw_kp0119_10.row.prog w) (callerA.deeper (envOf "law" lawScope L fa cd)) (exec (nth forBody 10) (envOf "law" lawScope L fa cd)) Q E s := by
  show wpAny (model PySem.Challenge.rw_kp0119_10.row.prog w) (callerA.deeper (envOf _ (Scope.mk _ _ _ _ _) _ _ _)) (exec (Stmt.If _ _ _ _) (envOf _ (Scope.mk _ _ _ _ _) _ _ _)) _ _ _
  revert X; k_fill; intro X
  k_steps
  all_goals exact hQ _ _ (by assumption) (by assumption)
local macro_rules | `(tactic| k_all) => `(tactic| assumption)
theorem st10_zero (X : (hd.heap_39 w.params).In h₀) (T : Top topProg loose mean mg mb h₀) (B : Below callerA h₀ [] h₀) (F : Fr h₀ L s.heap m) {te tw tn : Tok} {way : Int} {nm : Str} {v pa : Addr} {its : Array Value} {ki : Nat}
   (N : News h₀ L s.heap ((pa, ({ cls := .type "list", data := .seq its ki } : Obj)) :: rest)) (hoff : ∀ p ∈ rest, p.1 ≠ pa) (hsz : its.size ≤ 1000)
   (m1 : m "end" = some (.int 0 te)) (m2 : m "way" = some (.int way tw)) (m3 : m "name" = some (.str nm tn)) (m4 : m "value" = some (.ref v)) (m5 : m "past" = some (.ref pa))
   (hQ : ∀ h' tk ta kj, Fr h₀ L h' m → News h₀ L h' ((pa, listOf (its.push (.ref ta)) kj) :: (ta, ({ cls := .type "tuple", data := .seq #[.int way tw, .str nm tn, .ref v] } : Obj)) :: rest) → pa < ta → (∀ p ∈ rest, p.1 < ta) → Q .next { s with heap := h', toks := tk }) :
   wpAny (model PySem.Challenge.rw_kp0119_10.row.prog w) (callerA.deeper (envOf "law" lawScope L fa cd)) (exec (nth forBody 10) (envOf "law" lawScope L fa cd)) Q E s := by
  show wpAny (model PySem.Challenge.rw_kp0119_10.row.prog w) (callerA.deeper (envOf _ (Scope.mk _ _ _ _ _) _ _ _)) (exec (Stmt.If _ _ _ _) (envOf _ (Scope.mk _ _ _ _ _) _ _ _)) _ _ _
  revert X; k_fill; intro X
  k_steps
  rename _ ∧ AllLt _ _ => l9
  exact hQ _ _ _ _ (by assumption) (news_sub (by assumption) (by kqd_sub)) l9.1 (fun p hp => kst_ltOf l9.2 p hp)
end
section
def hitL (p : Int × Str × Addr) : Option Addr := if p.1 = 1 then some p.2.2 else none
def valsL (ps : Past) : List Addr := ps.filterMap hitL
theorem hitL_pos {pw : Int} {pn : Str} {pu : Addr} (c1 : pw = 1) : ((some (pw, pn, pu)).bind hitL).map Value.ref = some (.ref pu) := by simp [hitL, c1]
theorem hitL_neg {pw : Int} {pn : Str} {pu : Addr} (c1 : pw ≠ 1) : ((some (pw, pn, pu)).bind hitL).map Value.ref = none := by simp [hitL, c1]
variable {w : World} {h₀ : Heap} {mg mb : Str → Option Value} {loose : List Str} {mean : ExcName → Option Value} {news rest : List (Addr × Obj)} {L fa : Addr} {cd : Value} {m : Str → Option Value} {s : Shared} {E : Value → Shared → Prop} {Q : Flow → Shared → Prop}
local macro_rules | `(tactic| walk_at "CompSrcT") => `(tactic| (k_here; k_dflt (refine LCt.CompSrcT.ledger (by rfl) (by k_asm) (by k_asm) (by k_mem) (by assumption) ?_; intro g')))
local macro_rules | `(tactic| k_mem) => `(tactic| first | assumption | exact List.Mem.head _ | exact List.Mem.tail _ (List.Mem.head _) | exact List.Mem.tail _ (List.Mem.tail _ (List.Mem.head _)) | (refine List.Mem.tail _ ?_; assumption) | (refine List.Mem.tail _ (List.Mem.tail _ ?_); assumption) | (refine List.Mem.tail _ (List.Mem.tail _ (List.Mem.tail _ ?_)); assumption) | (refine List.Mem.tail _ (List.Mem.tail _ (List.Mem.tail _ (List.Mem.tail _ ?_))); assumption))
local macro_rules | `(tactic| walk_at "subscriptTail") => `(tactic| (k_here; (with_reducible show wpAny _ _ (subscriptTail _ _ (Value.ref _) (Value.int (-1) _)) _ _ _); k_dflt (refine' item_last ?N ?a ?e ?_; (case N => k_asm); (case a => k_mem); (case e => rfl))))
local macro_rules | `(tactic| walk_at "binaryOp Add ref ref") => `(tactic| (k_here; (with_reducible rename _ ++ List.map _ _ = _ => hE9); k_dflt (refine' add_led ?F ?N ?a ?b hE9 ?_ ?z; (case F => k_asm); (case N => k_asm); (case a => k_mem); (case b => k_mem); (case z => assumption)); intro D' h' F' N' l1))
theorem st11 (X : (hd.heap_39 w.params).In h₀) (T : Top topProg loose mean mg mb h₀) (B : Below callerA h₀ [] h₀) (F : Fr h₀ L s.heap m) (N : News h₀ L s.heap news)
   {pa aL : Addr} {its : Array Value} {ki nL : Nat} {ps : Past} {ysL : List Value} {y : Value}
   (hp : (pa, ({ cls := .type "list", data := .seq its ki } : Obj)) ∈ news) (hsz9 : its.size ≤ 1000) (PA : PastAt news its ps)
   (hl : (aL, listOf (ysL ++ [y]).toArray nL) ∈ news) (hy : ysL ++ [y] = .none :: (valsL ps).map .ref)
   (m1 : m "locales" = some (.ref aL)) (m2 : m "past" = some (.ref pa)) 
   (hQ : ∀ h' tk, Fr h₀ L h' m → News h₀ L h' news → Q .next { s with heap := h', toks := tk }) :
   wpAny (model PySem.Challenge.rw_kp0119_10.row.prog w) (callerA.deeper (envOf "law" lawScope L fa cd)) (exec (nth forBody 11) (envOf "law" lawScope L fa cd)) Q E s := by
  show wpAny (model PySem.Challenge.rw_kp0119_10.row.prog w) (callerA.deeper (envOf _ (Scope.mk _ _ _ _ _) _ _ _)) (exec (Stmt.If _ _ _ _) (envOf _ (Scope.mk _ _ _ _ _) _ _ _)) _ _ _
  have hsz : its.size ≤ sizeLine := Nat.le_trans hsz9 (by decide)
  revert X; k_fill; intro X
  k_steps
  refine rest_filter (n := its.size) (fun i => ((ps[i]?).bind hitL).map Value.ref) ?turn _ 0 [] (by omega) ?fin
  case turn =>
    intro i ys hi v I oI C oC D m₂ h tk E' hv hC hx F N off ne
    have hlt : i < ps.length := PA.size ▸ hi
    obtain ⟨ta, tw', tn', e1, e2⟩ := PA.item i (ps[i]) (List.getElem?_eq_getElem hlt)
    rw [List.getElem?_eq_getElem hlt]
    generalize ps[i] = p at e2 ⊢
    obtain ⟨pw, pn, pu⟩ := p
    dsimp only at e2
    rw [e1] at hv
    cases hv
    k_steps
    all_goals exact LCg.CompEnd.intro (by assumption) (by assumption) _ (fun p hp => hp) off (.inr ⟨_, by k_mem, rfl, _, rfl⟩) ⟨rfl, by first | exact hitL_pos (by assumption) | exact hitL_neg (by assumption)⟩
  case fin =>
    rw [List.nil_append, PA.size, vals_range]
    intro D h tk F' N' off
    dsimp only
    have hE9 : [Value.none] ++ List.map Value.ref (List.filterMap hitL ps) = ysL ++ [y] := hy.symm
    have hz9 : [Value.none].length + (List.map Value.ref (List.filterMap hitL ps)).length ≤ sizeLine := by
      have a1 := List.length_filterMap_le hitL ps
      have a2 := PA.size
      simp only [List.length_cons, List.length_nil, List.length_map]
      exact Nat.le_trans (show 0 + 1 + (List.filterMap hitL ps).length ≤ 1001 by omega) (by decide)
    have hyc : y = .none ∨ ∃ u, y = .ref u := by
      have hm : y ∈ Value.none :: (valsL ps).map Value.ref := by rw [← hy]; simp
      rcases List.mem_cons.mp hm with h | h
      · exact .inl h
      · obtain ⟨u, _, e⟩ := List.mem_map.mp h
        exact .inr ⟨u, e.symm⟩
    rcases hyc with hyc | ⟨u, hyc⟩
    all_goals
      subst hyc
      k_steps
      exact hQ _ _ (by assumption) (news_sub (by assumption) (by kqd_sub))
end
section
variable {w : World} {h₀ : Heap} {mg mb : Str → Option Value} {loose : List Str} {mean : ExcName → Option Value} {news rest : List (Addr × Obj)} {L fa : Addr} {cd : Value} {m : Str → Option Value} {s : Shared} {E : Value → Shared → Prop} {Q : Flow → Shared → Prop}
theorem pick_str {a b c : Str} {t1 t2 t3 : Tok} {k : Nat} {y : Value} (h : [Value.str a t1, Value.str b t2, Value.str c t3][k]? = some y) (ha : a.length ≤ 1000) (hb : b.length ≤ 1000) (hc : c.length ≤ 1000) : ∃ nm tn, y = .str nm tn ∧ nm.length ≤ 1000 := by
  match k, h with
  | 0, h => cases h; exact ⟨_, _, rfl, ha⟩
  | 1, h => cases h; exact ⟨_, _, rfl, hb⟩
  | 2, h => cases h; exact ⟨_, _, rfl, hc⟩
theorem item_pick {prog : Program} {A : Around} {Q : Value → Shared → Prop} {a : Addr} {value slice : PySem.Expr} {ys : List Value} {k : Int} {n : Nat} {u : Tok} (N : News h₀ L s.heap news) (ha : (a, listOf ys.toArray n) ∈ news) (h0 : 0 ≤ k) (hk : k < (ys.length : Int)) (hk2 : k < 2 ^ 63) (h : ∀ y, ys[k.toNat]? = some y → Q y s)
    (hs : subscripted slice false (.ref a) (.int k u) = operate [.ref a, .int k u] (getItem (.ref a) (.int k u)) := by with_unfolding_all rfl) :
    wpAny (model prog w) A (subscriptTail value slice (.ref a) (.int k u)) Q E s := by
  have hlt : k.toNat < ys.length := by omega
  exact item_at N ha h0 hk2 (List.getElem?_eq_getElem hlt) (h _ (List.getElem?_eq_getElem hlt)) hs
local macro_rules | `(tactic| walk_at "subscriptTail") => `(tactic| (k_here; (with_reducible show wpAny _ _ (subscriptTail _ _ (Value.ref _) (Value.int _ _)) _ _ _); k_dflt (refine' item_pick (ys := [_, _, _]) ?N ?a ?h0 ?hk ?hz ?_; (case N => k_asm); (case a => exact List.Mem.head _); (case h0 => exact Int.fmod_nonneg_of_pos _ (by decide)); (case hk => exact Int.fmod_lt_of_pos _ (by decide)); (case hz => exact Int.lt_trans (Int.fmod_lt_of_pos _ (by decide)) (by decide))); intro y9 hy9; k_dflt (obtain ⟨nm9, tn9, e9, hl9⟩ := pick_str hy9 (by decide) (by decide) (by decide)); subst e9))
theorem st0 (X : (hd.heap_39 w.params).In h₀) (T : Top topProg loose mean mg mb h₀) (B : Below callerA h₀ [] h₀) (F : Fr h₀ L s.heap m) (N : News h₀ L s.heap news) {n : Int} {tn : Tok}
   (hn : 0 ≤ n) (m1 : m "n" = some (.int n tn)) 
   (hQ : ∀ h' tk t, Fr h₀ L h' (fun z => if z = "one" then some (.int (2 + n.fmod 5) t) else m z) → News h₀ L h' news → Q .next { s with heap := h', toks := tk }) :
   wpAny (model PySem.Challenge.rw_kp0119_10.row.prog w) (callerA.deeper (envOf "law" lawScope L fa cd)) (exec (nth forBody 0) (envOf "law" lawScope L fa cd)) Q E s := by
  show wpAny (model PySem.Challenge.rw_kp0119_10.row.prog w) (callerA.deeper (envOf _ (Scope.mk _ _ _ _ _) _ _ _)) (exec (Stmt.Assign _ _ _) (envOf _ (Scope.mk _ _ _ _ _) _ _ _)) _ _ _
  revert X; k_fill; intro X
  k_steps
  all_goals exact hQ _ _ _ (by assumption) (by assumption)
theorem st1 (X : (hd.heap_39 w.params).In h₀) (T : Top topProg loose mean mg mb h₀) (B : Below callerA h₀ [] h₀) (F : Fr h₀ L s.heap m) (N : News h₀ L s.heap news) {n : Int} {tn : Tok}
   (hn : 0 ≤ n) (m1 : m "n" = some (.int n tn))
   (hQ : ∀ h' tk nm t, nm.length ≤ 1000 → Fr h₀ L h' (fun z => if z = "name" then some (.str nm t) else m z) → News h₀ L h' news → Q .next { s with heap := h', toks := tk }) :
   wpAny (model PySem.Challenge.rw_kp0119_10.row.prog w) (callerA.deeper (envOf "law" lawScope L fa cd)) (exec (nth forBody 1) (envOf "law" lawScope L fa cd)) Q E s := by
  show wpAny (model PySem.Challenge.rw_kp0119_10.row.prog w) (callerA.deeper (envOf _ (Scope.mk _ _ _ _ _) _ _ _)) (exec (Stmt.Assign _ _ _) (envOf _ (Scope.mk _ _ _ _ _) _ _ _)) _ _ _
  revert X; k_fill; intro X
  k_steps
  all_goals (exact hQ _ _ _ _ (by assumption) (by assumption) (news_sub (by assumption) (by kqd_sub)))
theorem st2 (X : (hd.heap_39 w.params).In h₀) (T : Top topProg loose mean mg mb h₀) (B : Below callerA h₀ [] h₀) (F : Fr h₀ L s.heap m) (N : News h₀ L s.heap news) {n : Int} {tn : Tok}
   (hn : 0 ≤ n) (m1 : m "n" = some (.int n tn))
   (hQ : ∀ h' tk v, Fr h₀ L h' (fun z => if z = "value" then some (.ref v) else m z) → News h₀ L h' news → Q .next { s with heap := h', toks := tk }) :
   wpAny (model PySem.Challenge.rw_kp0119_10.row.prog w) (callerA.deeper (envOf "law" lawScope L fa cd)) (exec (nth forBody 2) (envOf "law" lawScope L fa cd)) Q E s := by
  show wpAny (model PySem.Challenge.rw_kp0119_10.row.prog w) (callerA.deeper (envOf _ (Scope.mk _ _ _ _ _) _ _ _)) (exec (Stmt.Assign _ _ _) (envOf _ (Scope.mk _ _ _ _ _) _ _ _)) _ _ _
  revert X; k_fill; intro X
  k_steps
  all_goals exact hQ _ _ _ (by assumption) (news_sub (by assumption) (by kqd_sub))
theorem st4 (X : (hd.heap_39 w.params).In h₀) (T : Top topProg loose mean mg mb h₀) (B : Below callerA h₀ [] h₀) (F : Fr h₀ L s.heap m) (N : News h₀ L s.heap news) {way : Int} {tn : Tok}
   (hn : 0 ≤ way) (hn7 : way < 7) (m1 : m "way" = some (.int way tn))
   (hQ : ∀ h' tk t, Fr h₀ L h' (fun z => if z = "way" then some (.int (if 5 < way then 5 else way) t) else m z) → News h₀ L h' news → Q .next { s with heap := h', toks := tk }) :
   wpAny (model PySem.Challenge.rw_kp0119_10.row.prog w) (callerA.deeper (envOf "law" lawScope L fa cd)) (exec (nth forBody 4) (envOf "law" lawScope L fa cd)) Q E s := by
  show wpAny (model PySem.Challenge.rw_kp0119_10.row.prog w) (callerA.deeper (envOf _ (Scope.mk _ _ _ _ _) _ _ _)) (exec (Stmt.Assign _ _ _) (envOf _ (Scope.mk _ _ _ _ _) _ _ _)) _ _ _
  revert X; k_fill; intro X
  k_steps
  all_goals exact hQ _ _ _ (by assumption) (by assumption)
theorem st5 (X : (hd.heap_39 w.params).In h₀) (T : Top topProg loose mean mg mb h₀) (B : Below callerA h₀ [] h₀) (F : Fr h₀ L s.heap m) (N : News h₀ L s.heap news) {v : Value}
   (m1 : m "one" = some v) 
   (hQ : ∀ h' tk, Fr h₀ L h' (fun z => if z = "end" then some v else m z) → News h₀ L h' news → Q .next { s with heap := h', toks := tk }) :
   wpAny (model PySem.Challenge.rw_kp0119_10.row.prog w) (callerA.deeper (envOf "law" lawScope L fa cd)) (exec (nth forBody 5) (envOf "law" lawScope L fa cd)) Q E s := by
  show wpAny (model PySem.Challenge.rw_kp0119_10.row.prog w) (callerA.deeper (envOf _ (Scope.mk _ _ _ _ _) _ _ _)) (exec (Stmt.Assign _ _ _) (envOf _ (Scope.mk _ _ _ _ _) _ _ _)) _ _ _
  revert X; k_fill; intro X
  k_steps
  all_goals exact hQ _ _ (by assumption) (by assumption)
end
section
variable {w : World} {h₀ : Heap} {mg mb : Str → Option Value} {loose : List Str} {mean : ExcName → Option Value} {news rest : List (Addr × Obj)} {L fa : Addr} {cd : Value} {m : Str → Option Value} {s : Shared} {E : Value → Shared → Prop} {Q : Flow → Shared → Prop}
theorem st3_other (X : (hd.heap_39 w.params).In h₀) (T : Top topProg loose mean mg mb h₀) (B : Below callerA h₀ [] h₀) (F : Fr h₀ L s.heap m) (N : News h₀ L s.heap news) {way : Int} {tw : Tok}
   (h0 : 1 ≤ way) (m1 : m "way" = some (.int way tw)) 
   (hQ : ∀ h' tk, Fr h₀ L h' m → News h₀ L h' news → Q .next { s with heap := h', toks := tk }) :
   wpAny (model PySem.Challenge.rw_kp0119_10.row.prog w) (callerA.deeper (envOf "law" lawScope L fa cd)) (exec (nth forBody 3) (envOf "law" lawScope L fa cd)) Q E s := by
  show wpAny (model PySem.Challenge.rw_kp0119_10.row.prog w) (callerA.deeper (envOf _ (Scope.mk _ _ _ _ _) _ _ _)) (exec (Stmt.If _ _ _ _) (envOf _ (Scope.mk _ _ _ _ _) _ _ _)) _ _ _
  have hw : ¬ way = 0 := by omega
  revert X; k_fill; intro X
  k_steps
  all_goals first | exact hQ _ _ (by assumption) (by assumption) | (exfalso; omega)
theorem setL_set : ∀ (l : List Value) (k : Nat) (v : Value), k < l.length → ki_setL l k v = some (l.set k v)
  | [], _, _, h => absurd h (Nat.not_lt_zero _)
  | _ :: _, 0, _, _ => rfl
  | x :: r, k + 1, v, h => by
    have e := setL_set r k v (Nat.lt_of_succ_lt_succ h)
    show (match ki_setL r k v with | some q => some (x :: q) | none => none) = _
    rw [e]
    rfl
theorem set_led {prog : Program} {A : Around} {Q : Unit → Shared → Prop} {a : Addr} {ys : List Value} {k : Int} {n : Nat} {u : Tok} {v : Value} {all rest : List (Addr × Obj)} (F : Fr h₀ L s.heap m) (N : News h₀ L s.heap all) (sub : ∀ p ∈ (a, listOf ys.toArray n) :: rest, p ∈ all)
    (off : ∀ p ∈ rest, p.1 ≠ a) (h0 : 0 ≤ k) (hk : k < (ys.length : Int)) (hk2 : k < 2 ^ 63) (h : ∀ h', Fr h₀ L h' m → News h₀ L h' ((a, listOf (ys.set k.toNat v).toArray n) :: rest) → Q () { s with heap := h' }) : wpAny (model prog w) A (setItem (.ref a) (.int k u) v) Q E s :=
  ki_set F (news_sub N sub) h0 hk2 (by rw [List.toList_toArray]; exact setL_set _ _ _ (by omega)) (.head off) h
theorem pick_node {vs : List Value} {one : Int} {t0 t1 : Tok} {i : Nat} {y : Value} (hI : IntsAre vs (rangeKs 2 (one - 2).toNat)) (h2 : 2 ≤ one) (h : ([Value.int 0 t0, Value.int 1 t1, Value.none] ++ vs)[i]? = some y) :
    y = .none ∨ ∃ k t, y = .int k t ∧ 0 ≤ k ∧ k < one := by
  match i, h with
  | 0, h => cases h; exact .inr ⟨0, t0, rfl, by omega, by omega⟩
  | 1, h => cases h; exact .inr ⟨1, t1, rfl, by omega, by omega⟩
  | 2, h => cases h; exact .inl rfl
  | i + 3, h =>
    have h' : vs[i]? = some y := h
    obtain ⟨k, t, rfl, hk⟩ := hI.at i y h'
    have := mem_rangeKs (List.mem_of_getElem? hk)
    exact .inr ⟨k, t, rfl, by omega, by omega⟩
theorem item_any {prog : Program} {A : Around} {Q : Value → Shared → Prop} {a : Addr} {value slice : PySem.Expr} {ys : List Value} {k : Int} {n : Nat} {u : Tok} (N : News h₀ L s.heap news) (ha : (a, listOf ys.toArray n) ∈ news) (h0 : 0 ≤ k) (hk : k < (ys.length : Int)) (hk2 : k < 2 ^ 63) (h : ∀ y, ys[k.toNat]? = some y → Q y s)
    (hs : subscripted slice false (.ref a) (.int k u) = operate [.ref a, .int k u] (getItem (.ref a) (.int k u)) := by with_unfolding_all rfl) :
    wpAny (model prog w) A (subscriptTail value slice (.ref a) (.int k u)) Q E s := by
  have hlt : k.toNat < ys.length := by omega
  exact item_at N ha h0 hk2 (List.getElem?_eq_getElem hlt) (h _ (List.getElem?_eq_getElem hlt)) hs
local macro_rules | `(tactic| walk_at "binaryOp Add ref ref") => `(tactic| (k_here; (with_reducible rename IntsAre _ (rangeKs _ _) => hI9); (have hL9 := IntsAre.length hI9); k_dflt (refine' add_led ?F ?N ?a ?b rfl ?_ ?z; (case F => k_asm); (case N => k_asm); (case a => exact List.Mem.tail _ (List.Mem.head _)); (case b => exact List.Mem.head _); (case z => (rw [rangeKs_length] at hL9; simp only [List.length_cons, List.length_nil, hL9, sizeLine_eq]; omega))); intro D' h' F' N' l1))
local macro_rules | `(tactic| walk_at "subscriptTail") => `(tactic| (k_here; (with_reducible show wpAny _ _ (subscriptTail _ _ (Value.ref _) (Value.int _ _)) _ _ _); (with_reducible rename IntsAre _ (rangeKs _ _) => hI9); (with_reducible rename 2 ≤ _ => h29); (have hL9 := IntsAre.length hI9); k_dflt (refine' item_any (ys := _ ++ _) ?N ?a ?h0 ?hk ?hz ?_; (case N => k_asm); (case a => exact List.Mem.head _); (case h0 => exact Int.fmod_nonneg_of_pos _ (by omega)); (case hk => (rw [rangeKs_length] at hL9; refine Int.lt_of_lt_of_le (Int.fmod_lt_of_pos _ (by omega)) ?_; simp only [List.length_append, List.length_cons, List.length_nil, hL9]; omega)); (case hz => exact Int.lt_of_lt_of_le (Int.fmod_lt_of_pos _ (by omega)) (by omega))); intro y9 hy9; k_dflt (rcases pick_node hI9 h29 hy9 with e9 | ⟨k9, t9, e9, p9, r9⟩); all_goals subst e9))
local macro_rules | `(tactic| walk_at "setItem ref int") => `(tactic| (k_here; (with_reducible rename ∀ p ∈ (_, dictOf _ _) :: _, p.1 ≠ _ => off9); k_dflt (refine' set_led ?F ?N ?s off9 ?h0 ?hk ?hz ?_; (case F => k_asm); (case N => k_asm); (case s => kqd_sub); (case h0 => omega); (case hk => omega); (case hz => omega)); intro h' F' N'))
local macro_rules | `(tactic| k_mem) => `(tactic| first | assumption | exact List.Mem.head _ | exact List.Mem.tail _ (List.Mem.head _) | (refine List.Mem.tail _ (List.Mem.tail _ ?_); assumption))
local macro_rules | `(tactic| k_all) => `(tactic| assumption)
local macro_rules | `(tactic| walk_at "subscriptTail") => `(tactic| (k_here; (with_reducible show wpAny _ _ (subscriptTail _ _ (Value.ref _) (Value.int _ _)) _ _ _); (with_reducible rename ∀ k : Int, 0 ≤ k → k < 7 → _ => hx9); k_dflt (first
  | (refine' item_at ?N ?a ?h0 ?hk (hx9 _ ?p1 ?p2) ?_; (case N => k_asm); (case a => (refine List.Mem.tail _ (List.Mem.tail _ ?_); assumption)); (case h0 => omega); (case hk => omega); (case p1 => omega); (case p2 => omega))
  | (refine' item_at (ys := List.set _ _ _) ?N ?a ?h0 ?hk (List.getElem?_set_self ?p1) ?_; (case N => k_asm); (case a => exact List.Mem.head _); (case h0 => omega); (case hk => omega); (case p1 => omega)))))
theorem st3_zero (X : (hd.heap_39 w.params).In h₀) (T : Top topProg loose mean mg mb h₀) (B : Below callerA h₀ [] h₀) (F : Fr h₀ L s.heap m) {tw tn to : Tok} {n one : Int} {ap nd dx : Addr} {xs : Nat → Addr} {ips : List Value} {its : List Value} {kp kn : Nat} {q1 : Nat → Nat} {u1 : Nat → Value} {pv : Value}
   (N : News h₀ L s.heap ((ap, listOf ips.toArray kp) :: (dx, dictOf (nodeEs w.params q1 u1 pv) 5) :: rest))
   (hip : ips.length = 7) (off1 : ∀ p ∈ (dx, dictOf (nodeEs w.params q1 u1 pv) 5) :: rest, p.1 ≠ ap) (off2 : ∀ p ∈ rest, p.1 ≠ dx) (lt2 : @LT.lt Nat _ dx ap) (hn : 0 ≤ n) (h2 : 2 ≤ one) (h7 : one < 7) (m1 : m "way" = some (.int 0 tw)) (m2 : m "n" = some (.int n tn)) (m3 : m "one" = some (.int one to)) (m4 : m "parents" = some (.ref ap)) (m5 : m "nodes" = some (.ref nd))
   (i0 : (xs one.toNat, instObj 616 dx) ∈ rest) (hxs : ∀ k : Int, 0 ≤ k → k < 7 → its[k.toNat]? = some (Value.ref (xs k.toNat))) (i1 : (nd, ({ cls := .type "list", data := .seq its.toArray kn } : Obj)) ∈ rest)
   (hQ0 : ∀ h' tk, Fr h₀ L h' m → News h₀ L h' ((ap, listOf (ips.set one.toNat Value.none).toArray kp) :: (dx, dictOf (nodeEs w.params q1 u1 .none) 5) :: rest) → Q .cont { s with heap := h', toks := tk })
   (hQ1 : ∀ h' tk k t, 0 ≤ k → k < one → Fr h₀ L h' m → News h₀ L h' ((ap, listOf (ips.set one.toNat (Value.int k t)).toArray kp) :: (dx, dictOf (nodeEs w.params q1 u1 (.ref (xs k.toNat))) 5) :: rest) → Q .cont { s with heap := h', toks := tk }) :
   wpAny (model PySem.Challenge.rw_kp0119_10.row.prog w) (callerA.deeper (envOf "law" lawScope L fa cd)) (exec (nth forBody 3) (envOf "law" lawScope L fa cd)) Q E s := by
  show wpAny (model PySem.Challenge.rw_kp0119_10.row.prog w) (callerA.deeper (envOf _ (Scope.mk _ _ _ _ _) _ _ _)) (exec (Stmt.If _ _ _ _) (envOf _ (Scope.mk _ _ _ _ _) _ _ _)) _ _ _
  revert X; k_fill; intro X
  k_steps
  · exact hQ0 _ _ (by assumption) (by assumption)
  · exact hQ1 _ _ _ _ (by assumption) (by assumption) (by assumption) (by assumption)
end
section
def nodeInt : Option Nat → Tok → Value
  | none, _ => .none
  | some k, t => .int (k : Int) t
def whTest : PySem.Expr := match nth forBody 6 with | .While t _ _ _ => t | _ => default
def whBody : List Stmt := match nth forBody 6 with | .While _ b _ _ => b | _ => []
variable {w : World} {h₀ : Heap} {mg mb : Str → Option Value} {loose : List Str} {mean : ExcName → Option Value} {news rest : List (Addr × Obj)} {L fa : Addr} {cd : Value} {m : Str → Option Value} {s : Shared} {E : Value → Shared → Prop} {Q : Flow → Shared → Prop} {par : Nat → Option Nat}
local macro_rules | `(tactic| walk_at "subscriptTail") => `(tactic| (k_here; (with_reducible show wpAny _ _ (subscriptTail _ _ (Value.ref _) (Value.int _ _)) _ _ _); k_dflt (refine' item_at ?N ?a ?h0 ?hk ?hx ?_; (case N => k_asm); (case a => assumption); (case h0 => omega); (case hk => omega); (case hx => assumption))))
theorem turn_none {R T' : Shared → Prop} (X : (hd.heap_39 w.params).In h₀) (T : Top topProg loose mean mg mb h₀) (B : Below callerA h₀ [] h₀) (F : Fr h₀ L s.heap m) (N : News h₀ L s.heap news)
   (m1 : m "end" = some .none)
   (hQ : ∀ tk, R { s with toks := tk }) :
   wpAny (model PySem.Challenge.rw_kp0119_10.row.prog w) (callerA.deeper (envOf "law" lawScope L fa cd)) (isTrue whTest (envOf "law" lawScope L fa cd) (eval whTest (envOf "law" lawScope L fa cd))) (fun b s₂ => WhlIf b (T' s₂) (R s₂)) E s := by
  show wpAny (model PySem.Challenge.rw_kp0119_10.row.prog w) (callerA.deeper (envOf _ (Scope.mk _ _ _ _ _) _ _ _)) (isTrue (PySem.Expr.BoolOp _ _ _) (envOf _ (Scope.mk _ _ _ _ _) _ _ _) (eval (PySem.Expr.BoolOp _ _ _) (envOf _ (Scope.mk _ _ _ _ _) _ _ _))) _ _ _
  revert X; k_fill; intro X
  k_steps
  all_goals exact hQ _
theorem turn_low {R T' : Shared → Prop} {k : Int} {t : Tok} (X : (hd.heap_39 w.params).In h₀) (T : Top topProg loose mean mg mb h₀) (B : Below callerA h₀ [] h₀) (F : Fr h₀ L s.heap m) (N : News h₀ L s.heap news)
   (m1 : m "end" = some (.int k t)) (hk : k < 2)
   (hQ : ∀ tk, R { s with toks := tk }) :
   wpAny (model PySem.Challenge.rw_kp0119_10.row.prog w) (callerA.deeper (envOf "law" lawScope L fa cd)) (isTrue whTest (envOf "law" lawScope L fa cd) (eval whTest (envOf "law" lawScope L fa cd))) (fun b s₂ => WhlIf b (T' s₂) (R s₂)) E s := by
  show wpAny (model PySem.Challenge.rw_kp0119_10.row.prog w) (callerA.deeper (envOf _ (Scope.mk _ _ _ _ _) _ _ _)) (isTrue (PySem.Expr.BoolOp _ _ _) (envOf _ (Scope.mk _ _ _ _ _) _ _ _) (eval (PySem.Expr.BoolOp _ _ _) (envOf _ (Scope.mk _ _ _ _ _) _ _ _))) _ _ _
  revert X; k_fill; intro X
  k_steps
  all_goals exact hQ _
theorem turn_high {R T' : Shared → Prop} {k : Int} {t : Tok} (X : (hd.heap_39 w.params).In h₀) (T : Top topProg loose mean mg mb h₀) (B : Below callerA h₀ [] h₀) (F : Fr h₀ L s.heap m) (N : News h₀ L s.heap news)
   (m1 : m "end" = some (.int k t)) (hk : 2 ≤ k)
   (hQ : ∀ tk, T' { s with toks := tk }) :
   wpAny (model PySem.Challenge.rw_kp0119_10.row.prog w) (callerA.deeper (envOf "law" lawScope L fa cd)) (isTrue whTest (envOf "law" lawScope L fa cd) (eval whTest (envOf "law" lawScope L fa cd))) (fun b s₂ => WhlIf b (T' s₂) (R s₂)) E s := by
  show wpAny (model PySem.Challenge.rw_kp0119_10.row.prog w) (callerA.deeper (envOf _ (Scope.mk _ _ _ _ _) _ _ _)) (isTrue (PySem.Expr.BoolOp _ _ _) (envOf _ (Scope.mk _ _ _ _ _) _ _ _) (eval (PySem.Expr.BoolOp _ _ _) (envOf _ (Scope.mk _ _ _ _ _) _ _ _))) _ _ _
  revert X; k_fill; intro X
  k_steps
  all_goals exact hQ _
theorem turn_body {ap : Addr} {ips : List Value} {kp : Nat} {k : Int} {t : Tok} {y : Value} (X : (hd.heap_39 w.params).In h₀) (T : Top topProg loose mean mg mb h₀) (B : Below callerA h₀ [] h₀) (F : Fr h₀ L s.heap m) (N : News h₀ L s.heap news)
   (m1 : m "end" = some (.int k t)) (m2 : m "parents" = some (.ref ap)) (h2 : 2 ≤ k) (h7 : k < 7) (hp : (ap, ({ cls := .type "list", data := .seq ips.toArray kp } : Obj)) ∈ news) (hx : ips[k.toNat]? = some y)
   (hQ : ∀ h' tk, Fr h₀ L h' (fun z => if z = "end" then some y else m z) → News h₀ L h' news → Q .next { s with heap := h', toks := tk }) :
   wpAny (model PySem.Challenge.rw_kp0119_10.row.prog w) (callerA.deeper (envOf "law" lawScope L fa cd)) (execs whBody (envOf "law" lawScope L fa cd)) Q E s := by
  show wpAny (model PySem.Challenge.rw_kp0119_10.row.prog w) (callerA.deeper (envOf _ (Scope.mk _ _ _ _ _) _ _ _)) (execs [Stmt.Assign _ _ _] (envOf _ (Scope.mk _ _ _ _ _) _ _ _)) _ _ _
  revert X; k_fill; intro X
  k_steps
  all_goals exact hQ _ _ (by assumption) (by assumption)
theorem while_ends {ap : Addr} {ips : List Value} {kp : Nat} (X : (hd.heap_39 w.params).In h₀) (T : Top topProg loose mean mg mb h₀) (B : Below callerA h₀ [] h₀)
   (hp : (ap, ({ cls := .type "list", data := .seq ips.toArray kp } : Obj)) ∈ news) (hips : ∀ k, 2 ≤ k → k < 7 → ∃ t, ips[k]? = some (nodeInt (par k) t)) {r : Option Nat} {s₀ : Shared} :
   ∀ {e : Option Nat}, Ends par e r → ∀ {h : Heap} {tk : Nat} {m : Str → Option Value} {t : Tok}, Fr h₀ L h m → News h₀ L h news → m "end" = some (nodeInt e t) → m "parents" = some (.ref ap) →
   (∀ h' tk m' t', Fr h₀ L h' m' → (∀ z : Str, z ≠ ("end" : Str) → m' z = m z) → m' "end" = some (nodeInt r t') → News h₀ L h' news → Q .next { s₀ with heap := h', toks := tk }) →
   WhlRest PySem.Challenge.rw_kp0119_10.row.prog w (callerA.deeper (envOf "law" lawScope L fa cd)) (fun _ _ => False) (envOf "law" lawScope L fa cd) whTest whBody [] Q 0 { s₀ with heap := h, toks := tk } := by
  intro e H
  induction H with
  | none =>
    intro h tk m t F N m1 m2 hQ
    refine whl_turn (k := 0) PassesOwn.never (turn_none X T B F N m1 fun tk' => wpAny_execs_nil ?_)
    exact hQ _ _ m t F (fun _ _ => rfl) m1 N
  | @low k hk =>
    intro h tk m t F N m1 m2 hQ
    refine whl_turn (k := 0) PassesOwn.never (turn_low (k := (k : Int)) (t := t) X T B F N m1 (by omega) fun tk' => wpAny_execs_nil ?_)
    exact hQ _ _ m t F (fun _ _ => rfl) m1 N
  | @step k r h2 h7 H ih =>
    intro h tk m t F N m1 m2 hQ
    obtain ⟨t2, hx⟩ := hips k h2 h7
    refine whl_turn (k := 0) PassesOwn.never (turn_high (k := (k : Int)) (t := t) X T B F N m1 (by omega) fun tk' => ?_)
    refine turn_body (k := (k : Int)) (t := t) (y := nodeInt (par k) t2) X T B F N m1 m2 (by omega) (by omega) hp (by simpa using hx) fun h' tk'' F' N' => ?_
    refine ih F' N' (if_pos rfl) ((if_neg (by decide)).trans m2) fun h'' tk3 m' t' F'' same he N'' => hQ h'' tk3 m' t' F'' (fun z hz => (same z hz).trans (if_neg hz)) he N''
theorem st6 {ap : Addr} {ips : List Value} {kp : Nat} {one : Nat} {r : Option Nat} {to : Tok} (X : (hd.heap_39 w.params).In h₀) (T : Top topProg loose mean mg mb h₀) (B : Below callerA h₀ [] h₀) (F : Fr h₀ L s.heap m) (N : News h₀ L s.heap news)
   (hp : (ap, ({ cls := .type "list", data := .seq ips.toArray kp } : Obj)) ∈ news) (hips : ∀ k, 2 ≤ k → k < 7 → ∃ t, ips[k]? = some (nodeInt (par k) t)) (H : Ends par (some one) r)
   (m1 : m "end" = some (.int (one : Int) to)) (m2 : m "parents" = some (.ref ap))
   (hQ : ∀ h' tk m' t', Fr h₀ L h' m' → (∀ z : Str, z ≠ ("end" : Str) → m' z = m z) → m' "end" = some (nodeInt r t') → News h₀ L h' news → Q .next { s with heap := h', toks := tk }) :
   wpAny (model PySem.Challenge.rw_kp0119_10.row.prog w) (callerA.deeper (envOf "law" lawScope L fa cd)) (exec (nth forBody 6) (envOf "law" lawScope L fa cd)) Q E s := by
  obtain ⟨hh, g, d, tk, os⟩ := s
  have e := while_ends (par := par) (L := L) (fa := fa) (cd := cd) (Q := Q) (s₀ := ⟨hh, g, d, tk, os⟩) (h := hh) (tk := tk) (t := to) X T B hp hips H F N m1 m2 hQ
  exact wpAny_mono (whl_start (pos := match nth forBody 6 with | .While _ _ _ p => p | _ => default) 0 e) (fun _ _ z => z) fun _ _ z => z.elim
end
end
section
open PySem PySem.W PyProof.Rows PySem.Calls
variable {w : World} {h₀ : Heap} {mg mb : Str → Option Value} {loose : List Str} {mean : ExcName → Option Value} {news : List (Addr × Obj)} {xs ds : Nat → Addr} {par : Nat → Option Nat} {q : Nat → Nat → Nat} {u : Nat → Nat → Value}
theorem way_setLocale {nm : Str} {tn tw : Tok} {v : Addr} {r : Option Nat} {Rz : Value → List (Addr × Obj) → Prop} {P : Heap → List Env → Addr → Heap → Prop} (C : Carried h₀ P) (hRz : ∀ v l, (v = Value.none ∧ ∃ v2, Rz v2 l) → Rz v l) (FL : Filters w.params xs ds par q u news) (hpar : ∀ k k', 2 ≤ k → k < 7 → par k = some k' → k' < k)
    (base : ∀ j, 2 ≤ j → j < 7 → par j = r → CallOK w h₀ mg mb loose mean news Rz P 571 [.ref (xs j), .ref v] 10) {j : Nat} (h2 : 2 ≤ j) (h7 : j < 7) (H : Ends par (some j) r) :
    CallOK w h₀ mg mb loose mean news Rz P 637 [.ref (xs j), .int 1 tw, .str nm tn, .ref v] 17 := by
  have H' : Ends par (par j) r := by
    cases H with
    | low h => omega
    | step _ _ H => exact H
  have key := chain (args := fun j => [.ref (xs j), .ref v]) hpar base (fun j k n h2 h7 hp h2' h7' ih => CallOK.mono (setLocale_step FL h2 h7 hp h2' h7' C ih) (fun v l z => hRz v l z) (fun _ _ _ _ z => z) (Nat.le_refl _)) j h2 h7 H'
  exact CallOK.mono (call_setLocale (tn := tn) (nm := nm) (v := v) (tw := tw) (FL.inst j h2 h7) (FL.dict j h2 h7) C key) (fun _ _ z => z) (fun _ _ _ _ z => z) (by omega)
theorem way_setFeature {nm : Str} {tn tw : Tok} {v : Addr} {r : Option Nat} {Rz : Value → List (Addr × Obj) → Prop} {P : Heap → List Env → Addr → Heap → Prop} (C : Carried h₀ P) (hRz : ∀ v l, (v = Value.none ∧ ∃ v2, Rz v2 l) → Rz v l) (FL : Filters w.params xs ds par q u news) (hpar : ∀ k k', 2 ≤ k → k < 7 → par k = some k' → k' < k)
    (base : ∀ j, 2 ≤ j → j < 7 → par j = r → CallOK w h₀ mg mb loose mean news Rz P 585 [.ref (xs j), .str nm tn, .ref v] 10) {j : Nat} (h2 : 2 ≤ j) (h7 : j < 7) (H : Ends par (some j) r) :
    CallOK w h₀ mg mb loose mean news Rz P 637 [.ref (xs j), .int 2 tw, .str nm tn, .ref v] 17 := by
  have H' : Ends par (par j) r := by
    cases H with
    | low h => omega
    | step _ _ H => exact H
  have key := chain (args := fun j => [.ref (xs j), .str nm tn, .ref v]) hpar base (fun j k n h2 h7 hp h2' h7' ih => CallOK.mono (setFeature_step FL h2 h7 hp h2' h7' C ih) (fun v l z => hRz v l z) (fun _ _ _ _ z => z) (Nat.le_refl _)) j h2 h7 H'
  exact CallOK.mono (call_setFeature (tn := tn) (nm := nm) (v := v) (tw := tw) (FL.inst j h2 h7) (FL.dict j h2 h7) C key) (fun _ _ z => z) (fun _ _ _ _ z => z) (by omega)
theorem way_setProperty {nm : Str} {tn tw : Tok} {v : Addr} {r : Option Nat} {Rz : Value → List (Addr × Obj) → Prop} {P : Heap → List Env → Addr → Heap → Prop} (C : Carried h₀ P) (hRz : ∀ v l, (v = Value.none ∧ ∃ v2, Rz v2 l) → Rz v l) (FL : Filters w.params xs ds par q u news) (hpar : ∀ k k', 2 ≤ k → k < 7 → par k = some k' → k' < k)
    (base : ∀ j, 2 ≤ j → j < 7 → par j = r → CallOK w h₀ mg mb loose mean news Rz P 599 [.ref (xs j), .str nm tn, .ref v] 10) {j : Nat} (h2 : 2 ≤ j) (h7 : j < 7) (H : Ends par (some j) r) :
    CallOK w h₀ mg mb loose mean news Rz P 637 [.ref (xs j), .int 3 tw, .str nm tn, .ref v] 17 := by
  have H' : Ends par (par j) r := by
    cases H with
    | low h => omega
    | step _ _ H => exact H
  have key := chain (args := fun j => [.ref (xs j), .str nm tn, .ref v]) hpar base (fun j k n h2 h7 hp h2' h7' ih => CallOK.mono (setProperty_step FL h2 h7 hp h2' h7' C ih) (fun v l z => hRz v l z) (fun _ _ _ _ z => z) (Nat.le_refl _)) j h2 h7 H'
  exact CallOK.mono (call_setProperty (tn := tn) (nm := nm) (v := v) (tw := tw) (FL.inst j h2 h7) (FL.dict j h2 h7) C key) (fun _ _ z => z) (fun _ _ _ _ z => z) (by omega)
theorem way_getFeature {nm : Str} {tn tw : Tok} {v : Addr} {r : Option Nat} {Rz : Value → List (Addr × Obj) → Prop} {P : Heap → List Env → Addr → Heap → Prop} (C : Carried h₀ P) (FL : Filters w.params xs ds par q u news) (hpar : ∀ k k', 2 ≤ k → k < 7 → par k = some k' → k' < k)
    (base : ∀ j, 2 ≤ j → j < 7 → par j = r → CallOK w h₀ mg mb loose mean news Rz P 578 [.ref (xs j), .str nm tn] 10) {j : Nat} (h2 : 2 ≤ j) (h7 : j < 7) (H : Ends par (some j) r) :
    CallOK w h₀ mg mb loose mean news Rz P 637 [.ref (xs j), .int 4 tw, .str nm tn, .ref v] 17 := by
  have H' : Ends par (par j) r := by
    cases H with
    | low h => omega
    | step _ _ H => exact H
  have key := chain (args := fun j => [.ref (xs j), .str nm tn]) hpar base (fun j k n h2 h7 hp h2' h7' ih => CallOK.mono (getFeature_step FL h2 h7 hp h2' h7' C ih) (fun _ _ z => z) (fun _ _ _ _ z => z) (Nat.le_refl _)) j h2 h7 H'
  exact CallOK.mono (call_getFeature (tn := tn) (nm := nm) (v := v) (tw := tw) (FL.inst j h2 h7) (FL.dict j h2 h7) C key) (fun _ _ z => z) (fun _ _ _ _ z => z) (by omega)
theorem way_getProperty {nm : Str} {tn tw : Tok} {v : Addr} {r : Option Nat} {Rz : Value → List (Addr × Obj) → Prop} {P : Heap → List Env → Addr → Heap → Prop} (C : Carried h₀ P) (FL : Filters w.params xs ds par q u news) (hpar : ∀ k k', 2 ≤ k → k < 7 → par k = some k' → k' < k)
    (base : ∀ j, 2 ≤ j → j < 7 → par j = r → CallOK w h₀ mg mb loose mean news Rz P 592 [.ref (xs j), .str nm tn] 10) {j : Nat} (h2 : 2 ≤ j) (h7 : j < 7) (H : Ends par (some j) r) :
    CallOK w h₀ mg mb loose mean news Rz P 637 [.ref (xs j), .int 5 tw, .str nm tn, .ref v] 17 := by
  have H' : Ends par (par j) r := by
    cases H with
    | low h => omega
    | step _ _ H => exact H
  have key := chain (args := fun j => [.ref (xs j), .str nm tn]) hpar base (fun j k n h2 h7 hp h2' h7' ih => CallOK.mono (getProperty_step FL h2 h7 hp h2' h7' C ih) (fun _ _ z => z) (fun _ _ _ _ z => z) (Nat.le_refl _)) j h2 h7 H'
  exact CallOK.mono (call_getProperty (tn := tn) (nm := nm) (v := v) (tw := tw) (FL.inst j h2 h7) (FL.dict j h2 h7) C key) (fun _ _ z => z) (fun _ _ _ _ z => z) (by omega)
end
section
open PySem PySem.W PyProof.Rows PySem.Calls
variable {w : World} {h₀ : Heap} {mg mb : Str → Option Value} {loose : List Str} {mean : ExcName → Option Value} {news : List (Addr × Obj)} {xs ds : Nat → Addr} {par : Nat → Option Nat} {q : Nat → Nat → Nat} {u : Nat → Nat → Value} {L fa : Addr} {cd : Value} {m : Str → Option Value}
theorem five {W : Int} (h1 : 1 ≤ W) (h5 : W ≤ 5) : W = 1 ∨ W = 2 ∨ W = 3 ∨ W = 4 ∨ W = 5 := by omega
theorem noFalse : ∀ (v : Value) (l : List (Addr × Obj)), (v = Value.none ∧ ∃ _v2 : Value, False) → False := fun _ _ z => z.2.elim fun _ z => z
theorem gives_none {W : Int} (h1 : 1 ≤ W) (h5 : W ≤ 5) (X : (hd.heap_39 w.params).In h₀) (T : Top topProg loose mean mg mb h₀) (B : Below callerA h₀ [] h₀) (FL : Filters w.params xs ds par q u news) (hpar : ∀ k k', 2 ≤ k → k < 7 → par k = some k' → k' < k)
    {j : Nat} (h2 : 2 ≤ j) (h7 : j < 7) (H : Ends par (some j) none) {nm : Str} {tn tw : Tok} {v : Addr} :
    CallGives w h₀ L fa cd m news 644 [.ref (xs j), .int W tw, .str nm tn, .ref v] (fun t l => ∃ k1 k2, l = (t, ({ cls := .type "tuple", data := .seq #[.str "refused" k1, .str "no parent" k2] } : Obj)) :: news ∧ ∀ p ∈ news, p.1 < t) := by
  have ih : CallOK w h₀ mg mb loose mean news (fun _ _ => False) (fun G l e h => RaisedSN h₀ G l e (.type "AttributeError") news h) 637 [.ref (xs j), .int W tw, .str nm tn, .ref v] 17 := by
    rcases five h1 h5 with rfl | rfl | rfl | rfl | rfl
    · exact way_setLocale carried_SN noFalse FL hpar (fun j h2 h7 hp => CallOK.mono (setLocale_none FL h2 h7 hp) (fun _ _ z => z) (fun _ _ _ _ z => z) (by omega)) h2 h7 H
    · exact way_setFeature carried_SN noFalse FL hpar (fun j h2 h7 hp => CallOK.mono (setFeature_none FL h2 h7 hp) (fun _ _ z => z) (fun _ _ _ _ z => z) (by omega)) h2 h7 H
    · exact way_setProperty carried_SN noFalse FL hpar (fun j h2 h7 hp => CallOK.mono (setProperty_none FL h2 h7 hp) (fun _ _ z => z) (fun _ _ _ _ z => z) (by omega)) h2 h7 H
    · exact way_getFeature carried_SN FL hpar (fun j h2 h7 hp => CallOK.mono (getFeature_none FL h2 h7 hp) (fun _ _ z => z) (fun _ _ _ _ z => z) (by omega)) h2 h7 H
    · exact way_getProperty carried_SN FL hpar (fun j h2 h7 hp => CallOK.mono (getProperty_none FL h2 h7 hp) (fun _ _ z => z) (fun _ _ _ _ z => z) (by omega)) h2 h7 H
  exact ⟨fun F N k => told_none X T B F N ih fun t h' tk k1 k2 F' N' lt => k _ _ _ _ ⟨k1, k2, rfl, lt⟩ F' N'⟩
end
section
open PySem PySem.W PyProof.Rows PySem.Calls
section
variable {w : World} {h₀ : Heap} {mg mb : Str → Option Value} {loose : List Str} {mean : ExcName → Option Value} {news : List (Addr × Obj)} {xs ds : Nat → Addr} {par : Nat → Option Nat} {q : Nat → Nat → Nat} {u : Nat → Nat → Value} {L fa : Addr} {cd : Value} {m : Str → Option Value}
theorem gives_pl_setLocale (X : (hd.heap_39 w.params).In h₀) (T : Top topProg loose mean mg mb h₀) (B : Below callerA h₀ [] h₀) (FL : Filters w.params xs ds par q u news) (hpar : ∀ k k', 2 ≤ k → k < 7 → par k = some k' → k' < k)
    {d1 : Nat → Nat} {u1 : Nat → Value} (i1 : (xs 1, instObj 405 (ds 1)) ∈ news) (d1' : (ds 1, dictOf (plainEs w.params d1 u1) 4) ∈ news) {j : Nat} (h2 : 2 ≤ j) (h7 : j < 7) (H : Ends par (some j) (some 1)) {nm : Str} {tn tw : Tok} {v : Addr} (hnm : nm.length ≤ 1000000) :
    CallGives w h₀ L fa cd m news 644 [.ref (xs j), .int 1 tw, .str nm tn, .ref v] (fun t l => ∃ k1 k2 k3, l = (t, ({ cls := .type "tuple", data := .seq #[.str "unsupported" k1, .str (Str.ofString "Locale support not implemented") k2, .str (Str.ofString "Locale support not implemented") k3, .none] } : Obj)) :: news ∧ ∀ p ∈ news, p.1 < t) := by
  have ih : CallOK w h₀ mg mb loose mean news (fun _ _ => False) (SaxP w h₀ 288 (Str.ofString "Locale support not implemented") news) 637 [.ref (xs j), .int 1 tw, .str nm tn, .ref v] 17 :=
    way_setLocale carried_sax noFalse FL hpar (fun j h2 h7 hp => setLocale_pl FL i1 d1' h2 h7 hp) h2 h7 H
  exact ⟨fun F N k => told_plain288 X T B F N ih fun t h' tk k1 k2 k3 F' N' lt => k _ _ _ _ ⟨k1, k2, k3, rfl, lt⟩ F' N'⟩
theorem gives_pl_setFeature (X : (hd.heap_39 w.params).In h₀) (T : Top topProg loose mean mg mb h₀) (B : Below callerA h₀ [] h₀) (FL : Filters w.params xs ds par q u news) (hpar : ∀ k k', 2 ≤ k → k < 7 → par k = some k' → k' < k)
    {d1 : Nat → Nat} {u1 : Nat → Value} (i1 : (xs 1, instObj 405 (ds 1)) ∈ news) (d1' : (ds 1, dictOf (plainEs w.params d1 u1) 4) ∈ news) {j : Nat} (h2 : 2 ≤ j) (h7 : j < 7) (H : Ends par (some j) (some 1)) {nm : Str} {tn tw : Tok} {v : Addr} (hnm : nm.length ≤ 1000000) :
    CallGives w h₀ L fa cd m news 644 [.ref (xs j), .int 2 tw, .str nm tn, .ref v] (fun t l => ∃ k1 k2 k3, l = (t, ({ cls := .type "tuple", data := .seq #[.str "unknown" k1, .str (Str.ofString "Feature '" ++ nm ++ Str.ofString "' not recognized") k2, .str (Str.ofString "Feature '" ++ nm ++ Str.ofString "' not recognized") k3, .none] } : Obj)) :: news ∧ ∀ p ∈ news, p.1 < t) := by
  have ih : CallOK w h₀ mg mb loose mean news (fun _ _ => False) (SaxP w h₀ 276 (Str.ofString "Feature '" ++ nm ++ Str.ofString "' not recognized") news) 637 [.ref (xs j), .int 2 tw, .str nm tn, .ref v] 17 :=
    way_setFeature carried_sax noFalse FL hpar (fun j h2 h7 hp => setFeature_pl hnm FL i1 d1' h2 h7 hp) h2 h7 H
  exact ⟨fun F N k => told_plain276 X T B F N ih fun t h' tk k1 k2 k3 F' N' lt => k _ _ _ _ ⟨k1, k2, k3, rfl, lt⟩ F' N'⟩
theorem gives_pl_setProperty (X : (hd.heap_39 w.params).In h₀) (T : Top topProg loose mean mg mb h₀) (B : Below callerA h₀ [] h₀) (FL : Filters w.params xs ds par q u news) (hpar : ∀ k k', 2 ≤ k → k < 7 → par k = some k' → k' < k)
    {d1 : Nat → Nat} {u1 : Nat → Value} (i1 : (xs 1, instObj 405 (ds 1)) ∈ news) (d1' : (ds 1, dictOf (plainEs w.params d1 u1) 4) ∈ news) {j : Nat} (h2 : 2 ≤ j) (h7 : j < 7) (H : Ends par (some j) (some 1)) {nm : Str} {tn tw : Tok} {v : Addr} (hnm : nm.length ≤ 1000000) :
    CallGives w h₀ L fa cd m news 644 [.ref (xs j), .int 3 tw, .str nm tn, .ref v] (fun t l => ∃ k1 k2 k3, l = (t, ({ cls := .type "tuple", data := .seq #[.str "unknown" k1, .str (Str.ofString "Property '" ++ nm ++ Str.ofString "' not recognized") k2, .str (Str.ofString "Property '" ++ nm ++ Str.ofString "' not recognized") k3, .none] } : Obj)) :: news ∧ ∀ p ∈ news, p.1 < t) := by
  have ih : CallOK w h₀ mg mb loose mean news (fun _ _ => False) (SaxP w h₀ 276 (Str.ofString "Property '" ++ nm ++ Str.ofString "' not recognized") news) 637 [.ref (xs j), .int 3 tw, .str nm tn, .ref v] 17 :=
    way_setProperty carried_sax noFalse FL hpar (fun j h2 h7 hp => setProperty_pl hnm FL i1 d1' h2 h7 hp) h2 h7 H
  exact ⟨fun F N k => told_plain276 X T B F N ih fun t h' tk k1 k2 k3 F' N' lt => k _ _ _ _ ⟨k1, k2, k3, rfl, lt⟩ F' N'⟩
theorem gives_pl_getFeature (X : (hd.heap_39 w.params).In h₀) (T : Top topProg loose mean mg mb h₀) (B : Below callerA h₀ [] h₀) (FL : Filters w.params xs ds par q u news) (hpar : ∀ k k', 2 ≤ k → k < 7 → par k = some k' → k' < k)
    {d1 : Nat → Nat} {u1 : Nat → Value} (i1 : (xs 1, instObj 405 (ds 1)) ∈ news) (d1' : (ds 1, dictOf (plainEs w.params d1 u1) 4) ∈ news) {j : Nat} (h2 : 2 ≤ j) (h7 : j < 7) (H : Ends par (some j) (some 1)) {nm : Str} {tn tw : Tok} {v : Addr} (hnm : nm.length ≤ 1000000) :
    CallGives w h₀ L fa cd m news 644 [.ref (xs j), .int 4 tw, .str nm tn, .ref v] (fun t l => ∃ k1 k2 k3, l = (t, ({ cls := .type "tuple", data := .seq #[.str "unknown" k1, .str (Str.ofString "Feature '" ++ nm ++ Str.ofString "' not recognized") k2, .str (Str.ofString "Feature '" ++ nm ++ Str.ofString "' not recognized") k3, .none] } : Obj)) :: news ∧ ∀ p ∈ news, p.1 < t) := by
  have ih : CallOK w h₀ mg mb loose mean news (fun _ _ => False) (SaxP w h₀ 276 (Str.ofString "Feature '" ++ nm ++ Str.ofString "' not recognized") news) 637 [.ref (xs j), .int 4 tw, .str nm tn, .ref v] 17 :=
    way_getFeature carried_sax FL hpar (fun j h2 h7 hp => getFeature_pl hnm FL i1 d1' h2 h7 hp) h2 h7 H
  exact ⟨fun F N k => told_plain276 X T B F N ih fun t h' tk k1 k2 k3 F' N' lt => k _ _ _ _ ⟨k1, k2, k3, rfl, lt⟩ F' N'⟩
theorem gives_pl_getProperty (X : (hd.heap_39 w.params).In h₀) (T : Top topProg loose mean mg mb h₀) (B : Below callerA h₀ [] h₀) (FL : Filters w.params xs ds par q u news) (hpar : ∀ k k', 2 ≤ k → k < 7 → par k = some k' → k' < k)
    {d1 : Nat → Nat} {u1 : Nat → Value} (i1 : (xs 1, instObj 405 (ds 1)) ∈ news) (d1' : (ds 1, dictOf (plainEs w.params d1 u1) 4) ∈ news) {j : Nat} (h2 : 2 ≤ j) (h7 : j < 7) (H : Ends par (some j) (some 1)) {nm : Str} {tn tw : Tok} {v : Addr} (hnm : nm.length ≤ 1000000) :
    CallGives w h₀ L fa cd m news 644 [.ref (xs j), .int 5 tw, .str nm tn, .ref v] (fun t l => ∃ k1 k2 k3, l = (t, ({ cls := .type "tuple", data := .seq #[.str "unknown" k1, .str (Str.ofString "Property '" ++ nm ++ Str.ofString "' not recognized") k2, .str (Str.ofString "Property '" ++ nm ++ Str.ofString "' not recognized") k3, .none] } : Obj)) :: news ∧ ∀ p ∈ news, p.1 < t) := by
  have ih : CallOK w h₀ mg mb loose mean news (fun _ _ => False) (SaxP w h₀ 276 (Str.ofString "Property '" ++ nm ++ Str.ofString "' not recognized") news) 637 [.ref (xs j), .int 5 tw, .str nm tn, .ref v] 17 :=
    way_getProperty carried_sax FL hpar (fun j h2 h7 hp => getProperty_pl hnm FL i1 d1' h2 h7 hp) h2 h7 H
  exact ⟨fun F N k => told_plain276 X T B F N ih fun t h' tk k1 k2 k3 F' N' lt => k _ _ _ _ ⟨k1, k2, k3, rfl, lt⟩ F' N'⟩
end
section
variable {w : World} {h₀ : Heap} {mg mb : Str → Option Value} {loose : List Str} {mean : ExcName → Option Value} {xs ds : Nat → Addr} {par : Nat → Option Nat} {q : Nat → Nat → Nat} {u : Nat → Nat → Value} {L fa : Addr} {cd : Value} {m : Str → Option Value}
variable {aF aP aL : Addr} {oF oP oL : Obj} {rest : List (Addr × Obj)} {fn ce q0 : Nat → Nat} {u0 : Nat → Value} {qual : Nat → Str} {pm ctv : Nat → Value} {cc : Nat → Addr} {oc co : Nat → Obj} {vs : Nat → Array Value} {tt : Nat → Tok} {c9 P9 : Addr} {kv : List (Str × Value)}
theorem gives_rdset_setLocale {nm : Str} {tn tw : Tok} {v : Addr} {its : Array Value} {n9 : Nat} (hL : oL = listOf its n9) (hlen : its.size ≤ 1000) (X : (hd.heap_39 w.params).In h₀) (T : Top topProg loose mean mg mb h₀) (B : Below callerA h₀ [] h₀) (hpar : ∀ k k', 2 ≤ k → k < 7 → par k = some k' → k' < k)
    (CH : CodeHd h₀ c9 P9) (O : Off3 aF aP aL rest) (FL : Filters w.params xs ds par q u rest) (RD : RdAt w.params xs ds aF aP aL rest fn ce q0 u0 qual pm ctv cc oc co vs tt)
    {j : Nat} (h2 : 2 ≤ j) (h7 : j < 7) (H : Ends par (some j) (some 0)) :
    CallGives w h₀ L fa cd m (led3 aF aP aL oF oP oL rest) 644 [.ref (xs j), .int 1 tw, .str nm tn, .ref v] (fun t l => ∃ k1 l0, (fun l => ∃ n8, l = led3 aF aP aL oF oP (listOf (its.push (Value.ref v)) n8) rest) l0 ∧ l = (t, ({ cls := .type "tuple", data := .seq #[.str "answer" k1, .none] } : Obj)) :: l0 ∧ ∀ p ∈ l0, p.1 < t) := by
  have ih : CallOK w h₀ mg mb loose mean (led3 aF aP aL oF oP oL rest) (fun v2 l => v2 = Value.none ∧ (fun l => ∃ n8, l = led3 aF aP aL oF oP (listOf (its.push (Value.ref v)) n8) rest) l) (fun _ _ _ _ => False) 637 [.ref (xs j), .int 1 tw, .str nm tn, .ref v] 17 :=
    way_setLocale ⟨fun _ _ R _ _ => R.elim⟩ (fun v l z => ⟨z.1, z.2.elim fun _ z => z.2⟩) (FL.mono fun p hp => .tail _ (.tail _ (.tail _ hp))) hpar (fun j h2 h7 hp => CallOK.mono (setLocale_rdset hL hlen CH O FL RD h2 h7 hp) (fun _ _ z => z) (fun _ _ _ _ z => z) (by omega)) h2 h7 H
  exact ⟨fun F N k => told_set X T B F N ih fun t h' tk k1 l hS F' N' lt => k _ _ _ _ ⟨k1, l, hS, rfl, lt⟩ F' N'⟩
theorem gives_rdset_setFeature {nm : Str} {tn tw : Tok} {v : Addr} (hD : oF.IsDictOf (strKind PySem.Challenge.rw_kp0119_10.row.prog w) kv) (hlen : kv.length ≤ 1000) (X : (hd.heap_39 w.params).In h₀) (T : Top topProg loose mean mg mb h₀) (B : Below callerA h₀ [] h₀) (hpar : ∀ k k', 2 ≤ k → k < 7 → par k = some k' → k' < k)
    (CH : CodeHd h₀ c9 P9) (O : Off3 aF aP aL rest) (FL : Filters w.params xs ds par q u rest) (RD : RdAt w.params xs ds aF aP aL rest fn ce q0 u0 qual pm ctv cc oc co vs tt)
    {j : Nat} (h2 : 2 ≤ j) (h7 : j < 7) (H : Ends par (some j) (some 0)) :
    CallGives w h₀ L fa cd m (led3 aF aP aL oF oP oL rest) 644 [.ref (xs j), .int 2 tw, .str nm tn, .ref v] (fun t l => ∃ k1 l0, (fun l => ∃ o2, o2.IsDictOf (strKind PySem.Challenge.rw_kp0119_10.row.prog w) (merged kv [(nm, Value.ref v)]) ∧ l = led3 aF aP aL o2 oP oL rest) l0 ∧ l = (t, ({ cls := .type "tuple", data := .seq #[.str "answer" k1, .none] } : Obj)) :: l0 ∧ ∀ p ∈ l0, p.1 < t) := by
  have ih : CallOK w h₀ mg mb loose mean (led3 aF aP aL oF oP oL rest) (fun v2 l => v2 = Value.none ∧ (fun l => ∃ o2, o2.IsDictOf (strKind PySem.Challenge.rw_kp0119_10.row.prog w) (merged kv [(nm, Value.ref v)]) ∧ l = led3 aF aP aL o2 oP oL rest) l) (fun _ _ _ _ => False) 637 [.ref (xs j), .int 2 tw, .str nm tn, .ref v] 17 :=
    way_setFeature ⟨fun _ _ R _ _ => R.elim⟩ (fun v l z => ⟨z.1, z.2.elim fun _ z => z.2⟩) (FL.mono fun p hp => .tail _ (.tail _ (.tail _ hp))) hpar (fun j h2 h7 hp => CallOK.mono (setFeature_rdset hD hlen CH O FL RD h2 h7 hp) (fun _ _ z => z) (fun _ _ _ _ z => z) (by omega)) h2 h7 H
  exact ⟨fun F N k => told_set X T B F N ih fun t h' tk k1 l hS F' N' lt => k _ _ _ _ ⟨k1, l, hS, rfl, lt⟩ F' N'⟩
theorem gives_rdset_setProperty {nm : Str} {tn tw : Tok} {v : Addr} (hD : oP.IsDictOf (strKind PySem.Challenge.rw_kp0119_10.row.prog w) kv) (hlen : kv.length ≤ 1000) (X : (hd.heap_39 w.params).In h₀) (T : Top topProg loose mean mg mb h₀) (B : Below callerA h₀ [] h₀) (hpar : ∀ k k', 2 ≤ k → k < 7 → par k = some k' → k' < k)
    (CH : CodeHd h₀ c9 P9) (O : Off3 aF aP aL rest) (FL : Filters w.params xs ds par q u rest) (RD : RdAt w.params xs ds aF aP aL rest fn ce q0 u0 qual pm ctv cc oc co vs tt)
    {j : Nat} (h2 : 2 ≤ j) (h7 : j < 7) (H : Ends par (some j) (some 0)) :
    CallGives w h₀ L fa cd m (led3 aF aP aL oF oP oL rest) 644 [.ref (xs j), .int 3 tw, .str nm tn, .ref v] (fun t l => ∃ k1 l0, (fun l => ∃ o2, o2.IsDictOf (strKind PySem.Challenge.rw_kp0119_10.row.prog w) (merged kv [(nm, Value.ref v)]) ∧ l = led3 aF aP aL oF o2 oL rest) l0 ∧ l = (t, ({ cls := .type "tuple", data := .seq #[.str "answer" k1, .none] } : Obj)) :: l0 ∧ ∀ p ∈ l0, p.1 < t) := by
  have ih : CallOK w h₀ mg mb loose mean (led3 aF aP aL oF oP oL rest) (fun v2 l => v2 = Value.none ∧ (fun l => ∃ o2, o2.IsDictOf (strKind PySem.Challenge.rw_kp0119_10.row.prog w) (merged kv [(nm, Value.ref v)]) ∧ l = led3 aF aP aL oF o2 oL rest) l) (fun _ _ _ _ => False) 637 [.ref (xs j), .int 3 tw, .str nm tn, .ref v] 17 :=
    way_setProperty ⟨fun _ _ R _ _ => R.elim⟩ (fun v l z => ⟨z.1, z.2.elim fun _ z => z.2⟩) (FL.mono fun p hp => .tail _ (.tail _ (.tail _ hp))) hpar (fun j h2 h7 hp => CallOK.mono (setProperty_rdset hD hlen CH O FL RD h2 h7 hp) (fun _ _ z => z) (fun _ _ _ _ z => z) (by omega)) h2 h7 H
  exact ⟨fun F N k => told_set X T B F N ih fun t h' tk k1 l hS F' N' lt => k _ _ _ _ ⟨k1, l, hS, rfl, lt⟩ F' N'⟩
theorem gives_rdget_getFeature {nm : Str} {tn tw : Tok} {v : Addr} (hD : oF.IsDictOf (strKind PySem.Challenge.rw_kp0119_10.row.prog w) kv) {v2 : Value} (hv : valueAt kv nm = some v2) (X : (hd.heap_39 w.params).In h₀) (T : Top topProg loose mean mg mb h₀) (B : Below callerA h₀ [] h₀) (hpar : ∀ k k', 2 ≤ k → k < 7 → par k = some k' → k' < k)
    (CH : CodeHd h₀ c9 P9) (O : Off3 aF aP aL rest) (FL : Filters w.params xs ds par q u rest) (RD : RdAt w.params xs ds aF aP aL rest fn ce q0 u0 qual pm ctv cc oc co vs tt)
    {j : Nat} (h2 : 2 ≤ j) (h7 : j < 7) (H : Ends par (some j) (some 0)) :
    CallGives w h₀ L fa cd m (led3 aF aP aL oF oP oL rest) 644 [.ref (xs j), .int 4 tw, .str nm tn, .ref v] (fun t l => ∃ k1, l = (t, ({ cls := .type "tuple", data := .seq #[.str "answer" k1, v2] } : Obj)) :: (led3 aF aP aL oF oP oL rest) ∧ ∀ p ∈ (led3 aF aP aL oF oP oL rest), p.1 < t) := by
  have ih : CallOK w h₀ mg mb loose mean (led3 aF aP aL oF oP oL rest) (fun v3 l => v3 = v2 ∧ l = (led3 aF aP aL oF oP oL rest)) (fun _ _ _ _ => False) 637 [.ref (xs j), .int 4 tw, .str nm tn, .ref v] 17 :=
    way_getFeature ⟨fun _ _ R _ _ => R.elim⟩ (FL.mono fun p hp => .tail _ (.tail _ (.tail _ hp))) hpar (fun j h2 h7 hp => CallOK.mono (getFeature_rdget hD hv CH O FL RD h2 h7 hp) (fun _ _ z => z) (fun _ _ _ _ z => z) (by omega)) h2 h7 H
  exact ⟨fun F N k => told_get X T B F N ih fun t h' tk k1 F' N' lt => k _ _ _ _ ⟨k1, rfl, lt⟩ F' N'⟩
theorem gives_rdmiss_getFeature {nm : Str} {tn tw : Tok} {v : Addr} (hD : oF.IsDictOf (strKind PySem.Challenge.rw_kp0119_10.row.prog w) kv) (hv : valueAt kv nm = none) (hlo : (aF == sysModules) = false) (X : (hd.heap_39 w.params).In h₀) (T : Top topProg loose mean mg mb h₀) (B : Below callerA h₀ [] h₀) (hpar : ∀ k k', 2 ≤ k → k < 7 → par k = some k' → k' < k)
    (CH : CodeHd h₀ c9 P9) (O : Off3 aF aP aL rest) (FL : Filters w.params xs ds par q u rest) (RD : RdAt w.params xs ds aF aP aL rest fn ce q0 u0 qual pm ctv cc oc co vs tt)
    {j : Nat} (h2 : 2 ≤ j) (h7 : j < 7) (H : Ends par (some j) (some 0)) :
    CallGives w h₀ L fa cd m (led3 aF aP aL oF oP oL rest) 644 [.ref (xs j), .int 4 tw, .str nm tn, .ref v] (fun t l => ∃ k1 t9 ot nt, ot.cls = .type "tuple" ∧ ot.data = .seq #[.str nm tn] nt ∧ l = (t, ({ cls := .type "tuple", data := .seq #[.str "refused" k1, .ref t9] } : Obj)) :: (t9, ot) :: (led3 aF aP aL oF oP oL rest) ∧ ∀ p ∈ (t9, ot) :: (led3 aF aP aL oF oP oL rest), p.1 < t) := by
  have ih : CallOK w h₀ mg mb loose mean (led3 aF aP aL oF oP oL rest) (fun _ _ => False) (fun G l e h => ∃ t, RaisedS h₀ G l e (.type "KeyError") t [.str nm tn] (led3 aF aP aL oF oP oL rest) h) 637 [.ref (xs j), .int 4 tw, .str nm tn, .ref v] 17 :=
    way_getFeature carried_S (FL.mono fun p hp => .tail _ (.tail _ (.tail _ hp))) hpar (fun j h2 h7 hp => CallOK.mono (getFeature_rdmiss hD hv hlo CH O FL RD h2 h7 hp) (fun _ _ z => z) (fun _ _ _ _ z => z) (by omega)) h2 h7 H
  exact ⟨fun F N k => told_miss X T B F N ih fun t h' tk k1 t9 ot nt oc od F' N' lt => k _ _ _ _ ⟨k1, t9, ot, nt, oc, od, rfl, lt⟩ F' N'⟩
theorem gives_rdget_getProperty {nm : Str} {tn tw : Tok} {v : Addr} (hD : oP.IsDictOf (strKind PySem.Challenge.rw_kp0119_10.row.prog w) kv) {v2 : Value} (hv : valueAt kv nm = some v2) (X : (hd.heap_39 w.params).In h₀) (T : Top topProg loose mean mg mb h₀) (B : Below callerA h₀ [] h₀) (hpar : ∀ k k', 2 ≤ k → k < 7 → par k = some k' → k' < k)
    (CH : CodeHd h₀ c9 P9) (O : Off3 aF aP aL rest) (FL : Filters w.params xs ds par q u rest) (RD : RdAt w.params xs ds aF aP aL rest fn ce q0 u0 qual pm ctv cc oc co vs tt)
    {j : Nat} (h2 : 2 ≤ j) (h7 : j < 7) (H : Ends par (some j) (some 0)) :
    CallGives w h₀ L fa cd m (led3 aF aP aL oF oP oL rest) 644 [.ref (xs j), .int 5 tw, .str nm tn, .ref v] (fun t l => ∃ k1, l = (t, ({ cls := .type "tuple", data := .seq #[.str "answer" k1, v2] } : Obj)) :: (led3 aF aP aL oF oP oL rest) ∧ ∀ p ∈ (led3 aF aP aL oF oP oL rest), p.1 < t) := by
  have ih : CallOK w h₀ mg mb loose mean (led3 aF aP aL oF oP oL rest) (fun v3 l => v3 = v2 ∧ l = (led3 aF aP aL oF oP oL rest)) (fun _ _ _ _ => False) 637 [.ref (xs j), .int 5 tw, .str nm tn, .ref v] 17 :=
    way_getProperty ⟨fun _ _ R _ _ => R.elim⟩ (FL.mono fun p hp => .tail _ (.tail _ (.tail _ hp))) hpar (fun j h2 h7 hp => CallOK.mono (getProperty_rdget hD hv CH O FL RD h2 h7 hp) (fun _ _ z => z) (fun _ _ _ _ z => z) (by omega)) h2 h7 H
  exact ⟨fun F N k => told_get X T B F N ih fun t h' tk k1 F' N' lt => k _ _ _ _ ⟨k1, rfl, lt⟩ F' N'⟩
theorem gives_rdmiss_getProperty {nm : Str} {tn tw : Tok} {v : Addr} (hD : oP.IsDictOf (strKind PySem.Challenge.rw_kp0119_10.row.prog w) kv) (hv : valueAt kv nm = none) (hlo : (aP == sysModules) = false) (X : (hd.heap_39 w.params).In h₀) (T : Top topProg loose mean mg mb h₀) (B : Below callerA h₀ [] h₀) (hpar : ∀ k k', 2 ≤ k → k < 7 → par k = some k' → k' < k)
    (CH : CodeHd h₀ c9 P9) (O : Off3 aF aP aL rest) (FL : Filters w.params xs ds par q u rest) (RD : RdAt w.params xs ds aF aP aL rest fn ce q0 u0 qual pm ctv cc oc co vs tt)
    {j : Nat} (h2 : 2 ≤ j) (h7 : j < 7) (H : Ends par (some j) (some 0)) :
    CallGives w h₀ L fa cd m (led3 aF aP aL oF oP oL rest) 644 [.ref (xs j), .int 5 tw, .str nm tn, .ref v] (fun t l => ∃ k1 t9 ot nt, ot.cls = .type "tuple" ∧ ot.data = .seq #[.str nm tn] nt ∧ l = (t, ({ cls := .type "tuple", data := .seq #[.str "refused" k1, .ref t9] } : Obj)) :: (t9, ot) :: (led3 aF aP aL oF oP oL rest) ∧ ∀ p ∈ (t9, ot) :: (led3 aF aP aL oF oP oL rest), p.1 < t) := by
  have ih : CallOK w h₀ mg mb loose mean (led3 aF aP aL oF oP oL rest) (fun _ _ => False) (fun G l e h => ∃ t, RaisedS h₀ G l e (.type "KeyError") t [.str nm tn] (led3 aF aP aL oF oP oL rest) h) 637 [.ref (xs j), .int 5 tw, .str nm tn, .ref v] 17 :=
    way_getProperty carried_S (FL.mono fun p hp => .tail _ (.tail _ (.tail _ hp))) hpar (fun j h2 h7 hp => CallOK.mono (getProperty_rdmiss hD hv hlo CH O FL RD h2 h7 hp) (fun _ _ z => z) (fun _ _ _ _ z => z) (by omega)) h2 h7 H
  exact ⟨fun F N k => told_miss X T B F N ih fun t h' tk k1 t9 ot nt oc od F' N' lt => k _ _ _ _ ⟨k1, t9, ot, nt, oc, od, rfl, lt⟩ F' N'⟩
end
end
section
open PySem PySem.W PyProof.Rows PySem.Calls
section
variable {w : World} {h₀ : Heap} {mg mb : Str → Option Value} {loose : List Str} {mean : ExcName → Option Value} {news : List (Addr × Obj)} {L fa : Addr} {cd : Value} {m : Str → Option Value}
theorem msg_feature {nm : Str} : (((("Feature" : Str) ++ (" '" : Str)) ++ nm) ++ ("' not recognized" : Str)) = Str.ofString "Feature '" ++ nm ++ Str.ofString "' not recognized" := by
  have e : ("Feature" : Str) ++ (" '" : Str) = Str.ofString "Feature '" := by decide
  rw [e]
theorem msg_property {nm : Str} : (((("Property" : Str) ++ (" '" : Str)) ++ nm) ++ ("' not recognized" : Str)) = Str.ofString "Property '" ++ nm ++ Str.ofString "' not recognized" := by
  have e : ("Property" : Str) ++ (" '" : Str) = Str.ofString "Property '" := by decide
  rw [e]
theorem gives_due_none (X : (hd.heap_39 w.params).In h₀) (T : Top topProg loose mean mg mb h₀) (B : Below callerA h₀ [] h₀) {nm : Str} {tn tw te : Tok} {v pa : Addr} {way : Int} (hnm : nm.length ≤ 1000) :
    CallGives w h₀ L fa cd m news 649 [.none, .int way tw, .str nm tn, .ref v, .ref pa] (fun t l => ∃ k1 k2, l = (t, ({ cls := .type "tuple", data := .seq #[.str "refused" k1, .str "no parent" k2] } : Obj)) :: news ∧ ∀ p ∈ news, p.1 < t) :=
  ⟨fun F N k => due_none (te := te) X T B F N hnm fun t h' tk k1 k2 F' N' lt => k _ _ _ _ ⟨k1, k2, rfl, lt⟩ F' N'⟩
theorem gives_due_sup (X : (hd.heap_39 w.params).In h₀) (T : Top topProg loose mean mg mb h₀) (B : Below callerA h₀ [] h₀) {nm : Str} {tn tw te : Tok} {v pa : Addr} (hnm : nm.length ≤ 1000) :
    CallGives w h₀ L fa cd m news 649 [.int 1 te, .int 1 tw, .str nm tn, .ref v, .ref pa] (fun t l => ∃ k1 k2 k3, l = (t, ({ cls := .type "tuple", data := .seq #[.str "unsupported" k1, .str "Locale support not implemented" k2, .str "Locale support not implemented" k3, .none] } : Obj)) :: news ∧ ∀ p ∈ news, p.1 < t) :=
  ⟨fun F N k => due_sup (te := te) X T B F N hnm fun t h' tk k1 k2 k3 F' N' lt => k _ _ _ _ ⟨k1, k2, k3, rfl, lt⟩ F' N'⟩
theorem gives_due_unk2 (X : (hd.heap_39 w.params).In h₀) (T : Top topProg loose mean mg mb h₀) (B : Below callerA h₀ [] h₀) {nm : Str} {tn tw te : Tok} {v pa : Addr} (hnm : nm.length ≤ 1000) :
    CallGives w h₀ L fa cd m news 649 [.int 1 te, .int 2 tw, .str nm tn, .ref v, .ref pa] (fun t l => ∃ k1 k2 k3, l = (t, ({ cls := .type "tuple", data := .seq #[.str "unknown" k1, .str (Str.ofString "Feature '" ++ nm ++ Str.ofString "' not recognized") k2, .str (Str.ofString "Feature '" ++ nm ++ Str.ofString "' not recognized") k3, .none] } : Obj)) :: news ∧ ∀ p ∈ news, p.1 < t) :=
  ⟨fun F N k => due_unk2 (te := te) X T B F N hnm fun t h' tk k1 k2 k3 F' N' lt => k _ _ _ _ ⟨k1, k2, k3, by rw [msg_feature], lt⟩ F' N'⟩
theorem gives_due_unk3 (X : (hd.heap_39 w.params).In h₀) (T : Top topProg loose mean mg mb h₀) (B : Below callerA h₀ [] h₀) {nm : Str} {tn tw te : Tok} {v pa : Addr} (hnm : nm.length ≤ 1000) :
    CallGives w h₀ L fa cd m news 649 [.int 1 te, .int 3 tw, .str nm tn, .ref v, .ref pa] (fun t l => ∃ k1 k2 k3, l = (t, ({ cls := .type "tuple", data := .seq #[.str "unknown" k1, .str (Str.ofString "Property '" ++ nm ++ Str.ofString "' not recognized") k2, .str (Str.ofString "Property '" ++ nm ++ Str.ofString "' not recognized") k3, .none] } : Obj)) :: news ∧ ∀ p ∈ news, p.1 < t) :=
  ⟨fun F N k => due_unk3 (te := te) X T B F N hnm fun t h' tk k1 k2 k3 F' N' lt => k _ _ _ _ ⟨k1, k2, k3, by rw [msg_property], lt⟩ F' N'⟩
theorem gives_due_unk4 (X : (hd.heap_39 w.params).In h₀) (T : Top topProg loose mean mg mb h₀) (B : Below callerA h₀ [] h₀) {nm : Str} {tn tw te : Tok} {v pa : Addr} (hnm : nm.length ≤ 1000) :
    CallGives w h₀ L fa cd m news 649 [.int 1 te, .int 4 tw, .str nm tn, .ref v, .ref pa] (fun t l => ∃ k1 k2 k3, l = (t, ({ cls := .type "tuple", data := .seq #[.str "unknown" k1, .str (Str.ofString "Feature '" ++ nm ++ Str.ofString "' not recognized") k2, .str (Str.ofString "Feature '" ++ nm ++ Str.ofString "' not recognized") k3, .none] } : Obj)) :: news ∧ ∀ p ∈ news, p.1 < t) :=
  ⟨fun F N k => due_unk4 (te := te) X T B F N hnm fun t h' tk k1 k2 k3 F' N' lt => k _ _ _ _ ⟨k1, k2, k3, by rw [msg_feature], lt⟩ F' N'⟩
theorem gives_due_unk5 (X : (hd.heap_39 w.params).In h₀) (T : Top topProg loose mean mg mb h₀) (B : Below callerA h₀ [] h₀) {nm : Str} {tn tw te : Tok} {v pa : Addr} (hnm : nm.length ≤ 1000) :
    CallGives w h₀ L fa cd m news 649 [.int 1 te, .int 5 tw, .str nm tn, .ref v, .ref pa] (fun t l => ∃ k1 k2 k3, l = (t, ({ cls := .type "tuple", data := .seq #[.str "unknown" k1, .str (Str.ofString "Property '" ++ nm ++ Str.ofString "' not recognized") k2, .str (Str.ofString "Property '" ++ nm ++ Str.ofString "' not recognized") k3, .none] } : Obj)) :: news ∧ ∀ p ∈ news, p.1 < t) :=
  ⟨fun F N k => due_unk5 (te := te) X T B F N hnm fun t h' tk k1 k2 k3 F' N' lt => k _ _ _ _ ⟨k1, k2, k3, by rw [msg_property], lt⟩ F' N'⟩
theorem gives_due_set1 (X : (hd.heap_39 w.params).In h₀) (T : Top topProg loose mean mg mb h₀) (B : Below callerA h₀ [] h₀) {nm : Str} {tn tw te : Tok} {v pa : Addr} (hnm : nm.length ≤ 1000) :
    CallGives w h₀ L fa cd m news 649 [.int 0 te, .int 1 tw, .str nm tn, .ref v, .ref pa] (fun t l => ∃ k1, l = (t, ({ cls := .type "tuple", data := .seq #[.str "answer" k1, .none] } : Obj)) :: news ∧ ∀ p ∈ news, p.1 < t) :=
  ⟨fun F N k => due_set1 (te := te) X T B F N hnm fun t h' tk k1 F' N' lt => k _ _ _ _ ⟨k1, rfl, lt⟩ F' N'⟩
theorem gives_due_set2 (X : (hd.heap_39 w.params).In h₀) (T : Top topProg loose mean mg mb h₀) (B : Below callerA h₀ [] h₀) {nm : Str} {tn tw te : Tok} {v pa : Addr} (hnm : nm.length ≤ 1000) :
    CallGives w h₀ L fa cd m news 649 [.int 0 te, .int 2 tw, .str nm tn, .ref v, .ref pa] (fun t l => ∃ k1, l = (t, ({ cls := .type "tuple", data := .seq #[.str "answer" k1, .none] } : Obj)) :: news ∧ ∀ p ∈ news, p.1 < t) :=
  ⟨fun F N k => due_set2 (te := te) X T B F N hnm fun t h' tk k1 F' N' lt => k _ _ _ _ ⟨k1, rfl, lt⟩ F' N'⟩
theorem gives_due_set3 (X : (hd.heap_39 w.params).In h₀) (T : Top topProg loose mean mg mb h₀) (B : Below callerA h₀ [] h₀) {nm : Str} {tn tw te : Tok} {v pa : Addr} (hnm : nm.length ≤ 1000) :
    CallGives w h₀ L fa cd m news 649 [.int 0 te, .int 3 tw, .str nm tn, .ref v, .ref pa] (fun t l => ∃ k1, l = (t, ({ cls := .type "tuple", data := .seq #[.str "answer" k1, .none] } : Obj)) :: news ∧ ∀ p ∈ news, p.1 < t) :=
  ⟨fun F N k => due_set3 (te := te) X T B F N hnm fun t h' tk k1 F' N' lt => k _ _ _ _ ⟨k1, rfl, lt⟩ F' N'⟩
theorem gives_due_get4 (X : (hd.heap_39 w.params).In h₀) (T : Top topProg loose mean mg mb h₀) (B : Below callerA h₀ [] h₀) {nm : Str} {tn tw te : Tok} {v pa : Addr} {its : Array Value} {ki : Nat} {ps : Past}
    (hp : (pa, ({ cls := .type "list", data := .seq its ki } : Obj)) ∈ news) (hsz : its.size ≤ sizeLine) (PA : PastAt news its ps) :
    CallGives w h₀ L fa cd m news 649 [.int 0 te, .int 4 tw, .str nm tn, .ref v, .ref pa] (fun t l =>
      (vals (4 - 2) nm ps = [] ∧ ∃ k1 k2 t9, l = (t, ({ cls := .type "tuple", data := .seq #[.str "refused" k1, .ref t9] } : Obj)) :: (t9, ({ cls := .type "tuple", data := .seq #[.str nm k2] } : Obj)) :: news ∧ ∀ p ∈ (t9, ({ cls := .type "tuple", data := .seq #[.str nm k2] } : Obj)) :: news, p.1 < t) ∨
      (∃ l0 u k1, vals (4 - 2) nm ps = l0 ++ [u] ∧ l = (t, ({ cls := .type "tuple", data := .seq #[.str "answer" k1, .ref u] } : Obj)) :: news ∧ ∀ p ∈ news, p.1 < t)) :=
  ⟨fun F N k => due_get4 X T B F N hp hsz PA (fun hv t h' tk k1 k2 t9 F' N' lt => k _ _ _ _ (.inl ⟨hv, k1, k2, t9, rfl, lt⟩) F' N') (fun l0 u hv t h' tk k1 F' N' lt => k _ _ _ _ (.inr ⟨l0, u, k1, hv, rfl, lt⟩) F' N')⟩
theorem gives_due_get5 (X : (hd.heap_39 w.params).In h₀) (T : Top topProg loose mean mg mb h₀) (B : Below callerA h₀ [] h₀) {nm : Str} {tn tw te : Tok} {v pa : Addr} {its : Array Value} {ki : Nat} {ps : Past}
    (hp : (pa, ({ cls := .type "list", data := .seq its ki } : Obj)) ∈ news) (hsz : its.size ≤ sizeLine) (PA : PastAt news its ps) :
    CallGives w h₀ L fa cd m news 649 [.int 0 te, .int 5 tw, .str nm tn, .ref v, .ref pa] (fun t l =>
      (vals (5 - 2) nm ps = [] ∧ ∃ k1 k2 t9, l = (t, ({ cls := .type "tuple", data := .seq #[.str "refused" k1, .ref t9] } : Obj)) :: (t9, ({ cls := .type "tuple", data := .seq #[.str nm k2] } : Obj)) :: news ∧ ∀ p ∈ (t9, ({ cls := .type "tuple", data := .seq #[.str nm k2] } : Obj)) :: news, p.1 < t) ∨
      (∃ l0 u k1, vals (5 - 2) nm ps = l0 ++ [u] ∧ l = (t, ({ cls := .type "tuple", data := .seq #[.str "answer" k1, .ref u] } : Obj)) :: news ∧ ∀ p ∈ news, p.1 < t)) :=
  ⟨fun F N k => due_get5 X T B F N hp hsz PA (fun hv t h' tk k1 k2 t9 F' N' lt => k _ _ _ _ (.inl ⟨hv, k1, k2, t9, rfl, lt⟩) F' N') (fun l0 u hv t h' tk k1 F' N' lt => k _ _ _ _ (.inr ⟨l0, u, k1, hv, rfl, lt⟩) F' N')⟩
end
end
section
open PySem PySem.W PyProof.Rows PySem.Calls PySem.SeqAt
variable {h₀ : Heap} {news : List (Addr × Obj)} {L t d : Addr}
theorem line_of {A : Around} (h : A.units + 64 < cLine) : A.units < cLine := by omega
theorem ne_two {w1 : Str} {k1 k2 : Tok} {y y' : Value} (ht : (t, ({ cls := .type "tuple", data := .seq #[.str w1 k1, y] } : Obj)) ∈ news) (hd : (d, ({ cls := .type "tuple", data := .seq #[.str w1 k2, y'] } : Obj)) ∈ news)
    (e : ∀ {A : Around} {s' : Shared}, News h₀ L s'.heap news → A.units + 32 < cLine → EqAt A s' y y' true) : NeFalse h₀ L news t d := fun {A} {s'} N hu =>
  tuples_same (xs := [.str w1 k1, y]) (ys := [.str w1 k2, y']) N ht rfl rfl hd rfl rfl (by omega) (.cons same_str (.cons (e N (by show A.in1.units + 32 < cLine; have : A.in1.units ≤ A.units + 1 := Nat.le_of_eq rfl; omega)) .nil))
theorem ne_four {w1 msg : Str} {k1 k2 k3 j1 j2 j3 : Tok} (ht : (t, ({ cls := .type "tuple", data := .seq #[.str w1 k1, .str msg k2, .str msg k3, .none] } : Obj)) ∈ news) (hd : (d, ({ cls := .type "tuple", data := .seq #[.str w1 j1, .str msg j2, .str msg j3, .none] } : Obj)) ∈ news) :
    NeFalse h₀ L news t d := fun {A} {s'} N hu =>
  tuples_same (xs := [.str w1 k1, .str msg k2, .str msg k3, .none]) (ys := [.str w1 j1, .str msg j2, .str msg j3, .none]) N ht rfl rfl hd rfl rfl (by omega) (.cons same_str (.cons same_str (.cons same_str (.cons (EqAt.same _) .nil))))
theorem ne_none {w1 w2 : Str} {k1 k2 j1 j2 : Tok} (ht : (t, ({ cls := .type "tuple", data := .seq #[.str w1 k1, .str w2 k2] } : Obj)) ∈ news) (hd : (d, ({ cls := .type "tuple", data := .seq #[.str w1 j1, .str w2 j2] } : Obj)) ∈ news) : NeFalse h₀ L news t d :=
  ne_two ht hd fun _ _ => same_str
theorem ne_same {w1 : Str} {k1 k2 : Tok} {y : Value} (ht : (t, ({ cls := .type "tuple", data := .seq #[.str w1 k1, y] } : Obj)) ∈ news) (hd : (d, ({ cls := .type "tuple", data := .seq #[.str w1 k2, y] } : Obj)) ∈ news) : NeFalse h₀ L news t d :=
  ne_two ht hd fun _ _ => EqAt.same _
theorem ne_miss {w1 nm : Str} {k1 k2 tn tn' : Tok} {t9 d9 : Addr} {ot od : Obj} {n n' : Nat} (ht : (t, ({ cls := .type "tuple", data := .seq #[.str w1 k1, .ref t9] } : Obj)) ∈ news) (hd : (d, ({ cls := .type "tuple", data := .seq #[.str w1 k2, .ref d9] } : Obj)) ∈ news)
    (h9 : (t9, ot) ∈ news) (c9 : ot.cls = .type "tuple") (e9 : ot.data = .seq #[.str nm tn] n) (h8 : (d9, od) ∈ news) (c8 : od.cls = .type "tuple") (e8 : od.data = .seq #[.str nm tn'] n') : NeFalse h₀ L news t d := by
  refine ne_two ht hd fun {A} {s'} N hu => ?_
  by_cases e : t9 = d9
  · subst e; exact EqAt.same _
  · refine EqAt.of_refs e ?_
    have H : SameAll A.in1 s' [.str nm tn] [.str nm tn'] := .cons same_str .nil
    have r := RcAt.tuples (A := A) (s := s') (e := fun _ => true) (items := [Value.str nm tn].toArray) (items2 := [Value.str nm tn'].toArray) ⟨_, (N _ h9).1, c9, _, e9⟩ ⟨_, (N _ h8).1, c8, _, e8⟩ (by omega) H.at
    exact r
end
section
open PySem PySem.W PyProof.Rows PySem.Calls
/-- the dict holds for each name the last value of the past -/
def Holds (W : Int) (kv : List (Str × Value)) (ps : Past) : Prop := ∀ nm, valueAt kv nm = ((vals W nm ps).getLast?).map Value.ref
theorem valueAt_map (kv : List (Str × Value)) (a b : Str) (v : Value) : valueAt (kv.map fun p => if p.1 = a then (p.1, v) else p) b = if a = b then (valueAt kv b).map (fun _ => v) else valueAt kv b := by
  induction kv with
  | nil => simp [valueAt]
  | cons p r ih =>
    obtain ⟨pk, pv⟩ := p
    simp only [valueAt, List.map_cons, List.find?_cons] at ih ⊢
    by_cases hpa : pk = a <;> by_cases hpb : pk = b <;> by_cases hab : a = b <;> simp_all
theorem valueAt_stored (kv : List (Str × Value)) (a b : Str) (v : Value) : valueAt (stored kv a v) b = if a = b then some v else valueAt kv b := by
  unfold stored
  split
  · rename_i h
    rw [valueAt_map]
    by_cases hab : a = b
    · subst hab
      rw [if_pos rfl, if_pos rfl]
      obtain ⟨p, hp, hk⟩ := List.any_eq_true.mp h
      unfold valueAt
      cases hf : kv.find? (fun kv => decide (kv.fst = a)) with
      | some x => rfl
      | none => exact absurd hk (by simpa using List.find?_eq_none.mp hf p hp)
    · rw [if_neg hab, if_neg hab]
  · rename_i h
    have hn : kv.find? (fun kv => decide (kv.fst = a)) = none := by
      rw [List.find?_eq_none]
      intro p hp hk
      exact h (List.any_eq_true.mpr ⟨p, hp, hk⟩)
    unfold valueAt
    rw [List.find?_append]
    by_cases hab : a = b
    · subst hab
      simp [hn]
    · cases hf : kv.find? (fun kv => decide (kv.fst = b)) <;> simp [hf, hab]
theorem vals_push (W : Int) (nm : Str) (ps : Past) (p : Int × Str × Addr) : vals W nm (ps ++ [p]) = vals W nm ps ++ (hit W nm p).toList := by
  unfold vals
  rw [List.filterMap_append]
  cases h : hit W nm p <;> simp [h]
theorem Holds.other {W W' : Int} {kv : List (Str × Value)} {ps : Past} (H : Holds W kv ps) (h : W' ≠ W) (nm : Str) (v : Addr) : Holds W kv (ps ++ [(W', nm, v)]) := by
  intro nm'
  rw [vals_push, H nm']
  simp [hit, h]
theorem Holds.push {W : Int} {kv : List (Str × Value)} {ps : Past} (H : Holds W kv ps) (nm : Str) (v : Addr) : Holds W (merged kv [(nm, Value.ref v)]) (ps ++ [(W, nm, v)]) := by
  intro nm'
  rw [vals_push]
  show valueAt (stored kv nm (Value.ref v)) nm' = _
  rw [valueAt_stored]
  by_cases h : nm = nm'
  · simp [hit, h]
  · simp [hit, h, H nm']
theorem valsL_push (ps : Past) (p : Int × Str × Addr) : valsL (ps ++ [p]) = valsL ps ++ (hitL p).toList := by
  unfold valsL
  rw [List.filterMap_append]
  cases h : hitL p <;> simp [h]
theorem PastAt.mono {news news' : List (Addr × Obj)} {its : Array Value} {ps : Past} (P : PastAt news its ps) (h : ∀ p ∈ news, p ∈ news') : PastAt news' its ps :=
  ⟨P.size, fun i p e => let ⟨ta, tw, tn, a, b⟩ := P.item i p e; ⟨ta, tw, tn, a, h _ b⟩⟩
theorem PastAt.push {news : List (Addr × Obj)} {its : Array Value} {ps : Past} (P : PastAt news its ps) {p : Int × Str × Addr} {ta : Addr} {tw tn : Tok} (h : (ta, tupObj3 p.1 tw p.2.1 tn p.2.2) ∈ news) : PastAt news (its.push (.ref ta)) (ps ++ [p]) := by
  refine ⟨by rw [Array.size_push, List.length_append, P.size]; rfl, fun i p' e => ?_⟩
  by_cases hi : i < ps.length
  · rw [List.getElem?_append_left hi] at e
    obtain ⟨ta', tw', tn', a, b⟩ := P.item i p' e
    refine ⟨ta', tw', tn', ?_, b⟩
    rw [Array.getElem?_push, if_neg (by rw [P.size]; omega)]
    exact a
  · rw [List.getElem?_append_right (by omega)] at e
    have hz : i - ps.length = 0 := by
      false_or_by_contra
      rename_i hc
      rw [List.getElem?_eq_none (by simp; omega)] at e
      cases e
    rw [hz] at e
    cases e
    refine ⟨ta, tw, tn, ?_, h⟩
    rw [Array.getElem?_push, if_pos (by rw [P.size]; omega)]
end
section
open PySem PySem.W PyProof.Rows PySem.Calls PySem.SeqAt
theorem Off3.grow {aF aP aL t : Addr} {o : Obj} {oF oP oL : Obj} {rest : List (Addr × Obj)} (O : Off3 aF aP aL rest) (h : ∀ p ∈ led3 aF aP aL oF oP oL rest, p.1 < t) : Off3 aF aP aL ((t, o) :: rest) := by
  have hF : aF < t := h _ (.head _)
  have hP : aP < t := h _ (.tail _ (.head _))
  have hL : aL < t := h _ (.tail _ (.tail _ (.head _)))
  refine ⟨?_, ?_, ?_, O.fp, O.pl⟩ <;> intro p hp <;> rcases List.mem_cons.mp hp with rfl | hp
  · exact Nat.ne_of_gt hF
  · exact O.f p hp
  · exact Nat.ne_of_gt hP
  · exact O.p p hp
  · exact Nat.ne_of_gt hL
  · exact O.l p hp
theorem Off3.cons {aF aP aL t : Addr} {o : Obj} {rest : List (Addr × Obj)} (O : Off3 aF aP aL rest) (h1 : t ≠ aF) (h2 : t ≠ aP) (h3 : t ≠ aL) : Off3 aF aP aL ((t, o) :: rest) := by
  refine ⟨?_, ?_, ?_, O.fp, O.pl⟩ <;> intro p hp <;> rcases List.mem_cons.mp hp with rfl | hp
  · exact h1
  · exact O.f p hp
  · exact h2
  · exact O.p p hp
  · exact h3
  · exact O.l p hp
theorem RdAt.mono {P : Params} {xs ds : Nat → Addr} {aF aP aL : Addr} {news news' : List (Addr × Obj)} {fn ce q0 : Nat → Nat} {u0 : Nat → Value} {qual : Nat → Str} {pm ctv : Nat → Value} {cc : Nat → Addr} {oc co : Nat → Obj} {vs : Nat → Array Value} {tt : Nat → Tok}
    (R : RdAt P xs ds aF aP aL news fn ce q0 u0 qual pm ctv cc oc co vs tt) (h : ∀ p ∈ news, p ∈ news') : RdAt P xs ds aF aP aL news' fn ce q0 u0 qual pm ctv cc oc co vs tt :=
  ⟨h _ R.inst, h _ R.dict, fun i hi => ⟨h _ (R.lam i hi).fn, h _ (R.lam i hi).code, (R.lam i hi).data, (R.lam i hi).name⟩, ⟨h _ R.cF.mem, R.cF.data⟩, ⟨h _ R.cP.mem, R.cP.data⟩, ⟨h _ R.cL.mem, R.cL.data⟩⟩
/-- the names of the objects that the law's loop works with -/
structure Nm where
  xs : Nat → Addr
  ds : Nat → Addr
  q : Nat → Nat → Nat
  u : Nat → Nat → Value
  aF : Addr
  aP : Addr
  aL : Addr
  pa : Addr
  ap : Addr
  nd : Addr
  ax : Addr
  tp : Array Value
  d1 : Nat → Nat
  u1 : Nat → Value
  fn : Nat → Nat
  ce : Nat → Nat
  q0 : Nat → Nat
  u0 : Nat → Value
  qual : Nat → Str
  pm : Nat → Value
  ctv : Nat → Value
  cc : Nat → Addr
  oc : Nat → Obj
  co : Nat → Obj
  vs : Nat → Array Value
  tt : Nat → Tok
  its : List Value
  kn : Nat
  kp : Nat
  sv : List Value
  sn : Nat
/-- what the loop finds in the ledger's rest -/
structure Inv (P : Params) (Z : Nm) (par : Nat → Option Nat) (ips : List Value) (rest : List (Addr × Obj)) : Prop where
  filters : Filters P Z.xs Z.ds par Z.q Z.u rest
  reader : RdAt P Z.xs Z.ds Z.aF Z.aP Z.aL rest Z.fn Z.ce Z.q0 Z.u0 Z.qual Z.pm Z.ctv Z.cc Z.oc Z.co Z.vs Z.tt
  i1 : (Z.xs 1, instObj 405 (Z.ds 1)) ∈ rest
  d1 : (Z.ds 1, dictOf (plainEs P Z.d1 Z.u1) 4) ∈ rest
  parents : (Z.ap, listOf ips.toArray Z.kp) ∈ rest
  len : ips.length = 7
  val : ∀ k, 2 ≤ k → k < 7 → ∃ t, ips[k]? = some (nodeInt (par k) t)
  lower : ∀ k k', 2 ≤ k → k < 7 → par k = some k' → k' < k
  nodes : (Z.nd, listOf Z.its.toArray Z.kn) ∈ rest
  node : ∀ k, k < 7 → Z.its[k]? = some (.ref (Z.xs k))
  off : Off3 Z.aF Z.aP Z.aL rest
  offp : ∀ p ∈ rest, p.1 ≠ Z.pa
  pF : Z.pa ≠ Z.aF
  pP : Z.pa ≠ Z.aP
  pL : Z.pa ≠ Z.aL
  inj : ∀ k k', k < 7 → k' < 7 → Z.ds k = Z.ds k' → k = k'
  lt : ∀ k, 2 ≤ k → k < 7 → @LT.lt Nat _ (Z.ds k) Z.ap
  steps : (Z.ax, listOf Z.sv.toArray Z.sn) ∈ rest
  axp : Z.ax ≠ Z.ap
  ndp : Z.nd ≠ Z.ap
  tab : (620, tabObj Z.tp) ∈ rest
  step : ∀ (i : Nat) (v : Value), Z.sv[i]? = some v → ∃ (T : Addr) (way n : Int) (tw tn : Tok), v = .ref T ∧ 0 ≤ way ∧ way < 7 ∧ 0 ≤ n ∧ (T, ({ cls := .type "tuple", data := .seq #[.int way tw, .int n tn] } : Obj)) ∈ rest
  loF : (Z.aF == sysModules) = false
  loP : (Z.aP == sysModules) = false
/-- what was set until now -/
structure Tot (w : World) (kvF kvP : List (Str × Value)) (oF oP oL : Obj) (ps : Past) : Prop where
  dF : oF.IsDictOf (strKind PySem.Challenge.rw_kp0119_10.row.prog w) kvF
  dP : oP.IsDictOf (strKind PySem.Challenge.rw_kp0119_10.row.prog w) kvP
  hF : Holds 2 kvF ps
  hP : Holds 3 kvP ps
  lF : kvF.length ≤ ps.length
  lP : kvP.length ≤ ps.length
  loc : ∃ n, oL = listOf (Value.none :: (valsL ps).map Value.ref).toArray n
abbrev Led (Z : Nm) (oF oP oL : Obj) (pits : Array Value) (ki : Nat) (rest : List (Addr × Obj)) : List (Addr × Obj) := led3 Z.aF Z.aP Z.aL oF oP oL ((Z.pa, listOf pits ki) :: rest)
structure Good (w : World) (Z : Nm) (n : Nat) (news : List (Addr × Obj)) : Prop where
  is : ∃ (par : Nat → Option Nat) (ips : List Value) (rest : List (Addr × Obj)) (oF oP oL : Obj) (kvF kvP : List (Str × Value)) (pits : Array Value) (ki : Nat) (ps : Past), news = Led Z oF oP oL pits ki rest ∧ Inv w.params Z par ips rest ∧ Tot w kvF kvP oF oP oL ps ∧ PastAt rest pits ps ∧ ps.length ≤ n
structure Loc (Z : Nm) (m : Str → Option Value) : Prop where
  nodes : m "nodes" = some (.ref Z.nd)
  parents : m "parents" = some (.ref Z.ap)
  past : m "past" = some (.ref Z.pa)
  locales : m "locales" = some (.ref Z.aL)
section
variable {P : Params} {Z : Nm} {par : Nat → Option Nat} {ips : List Value} {rest rest' : List (Addr × Obj)} {h₀ h : Heap} {L : Addr} {w : World}
theorem Inv.big (V : Inv P Z par ips rest) {o : Obj} : Off3 Z.aF Z.aP Z.aL ((Z.pa, o) :: rest) := V.off.cons V.pF V.pP V.pL
theorem Inv.grow (V : Inv P Z par ips rest) {a : Addr} {o : Obj} (h1 : a ≠ Z.aF) (h2 : a ≠ Z.aP) (h3 : a ≠ Z.aL) (h4 : a ≠ Z.pa) : Inv P Z par ips ((a, o) :: rest) where
  filters := V.filters.mono fun p hp => .tail _ hp
  reader := V.reader.mono fun p hp => .tail _ hp
  i1 := .tail _ V.i1
  d1 := .tail _ V.d1
  parents := .tail _ V.parents
  len := V.len
  val := V.val
  lower := V.lower
  nodes := .tail _ V.nodes
  node := V.node
  off := V.off.cons h1 h2 h3
  offp := fun p hp => by
    rcases List.mem_cons.mp hp with rfl | hp
    · exact h4
    · exact V.offp p hp
  pF := V.pF
  pP := V.pP
  pL := V.pL
  inj := V.inj
  lt := V.lt
  steps := .tail _ V.steps
  axp := V.axp
  ndp := V.ndp
  tab := .tail _ V.tab
  step := fun i v e => let ⟨T, a, b, c, d, e, f, g, k, l⟩ := V.step i v e; ⟨T, a, b, c, d, e, f, g, k, .tail _ l⟩
  loF := V.loF
  loP := V.loP
theorem news_eq (N : News h₀ L h rest) {a : Addr} {o o' : Obj} (h1 : (a, o) ∈ rest) (h2 : (a, o') ∈ rest) : o = o' := Option.some.inj ((N.get h1).symm.trans (N.get h2))
def cut (a b : Addr) (rest : List (Addr × Obj)) : List (Addr × Obj) := rest.filter fun p => decide (p.1 ≠ a ∧ p.1 ≠ b)
theorem mem_cut {a b : Addr} {p : Addr × Obj} : p ∈ cut a b rest ↔ p ∈ rest ∧ p.1 ≠ a ∧ p.1 ≠ b := by simp [cut]
theorem cut_keep (N : News h₀ L h rest) {a b x : Addr} {oa ob o : Obj} (ha : (a, oa) ∈ rest) (hb : (b, ob) ∈ rest) (hp : (x, o) ∈ rest) (na : x ≠ a ∨ o ≠ oa) (nb : x ≠ b ∨ o ≠ ob) : (x, o) ∈ cut a b rest := by
  refine mem_cut.mpr ⟨hp, fun e => ?_, fun e => ?_⟩
  · have e : x = a := e
    subst e
    rcases na with na | na
    · exact na rfl
    · exact na (news_eq N hp ha)
  · have e : x = b := e
    subst e
    rcases nb with nb | nb
    · exact nb rfl
    · exact nb (news_eq N hp hb)
/-- a filter gets another parent: the ledger's rest after it -/
theorem Inv.parent (V : Inv P Z par ips rest) (N : News h₀ L h rest) {one : Nat} (h2 : 2 ≤ one) (h7 : one < 7) {p : Option Nat} {t : Tok} (hp : ∀ k, p = some k → k < one) :
    Inv P Z (fun k => if k = one then p else par k) (ips.set one (nodeInt p t)) ((Z.ap, listOf (ips.set one (nodeInt p t)).toArray Z.kp) :: (Z.ds one, dictOf (nodeEs P (Z.q one) (Z.u one) (nodeV Z.xs p)) 5) :: cut Z.ap (Z.ds one) rest) := by
  have hA := V.parents
  have hB := V.filters.dict one h2 h7
  have K : ∀ {x : Addr} {o : Obj}, (x, o) ∈ rest → (x ≠ Z.ap ∨ o ≠ _) → (x ≠ Z.ds one ∨ o ≠ _) → (x, o) ∈ (Z.ap, listOf (ips.set one (nodeInt p t)).toArray Z.kp) :: (Z.ds one, dictOf (nodeEs P (Z.q one) (Z.u one) (nodeV Z.xs p)) 5) :: cut Z.ap (Z.ds one) rest :=
    fun hp na nb => .tail _ (.tail _ (cut_keep N hA hB hp na nb))
  have cl : ∀ {a b : Obj}, a.cls ≠ b.cls → a ≠ b := fun h e => h (congrArg Obj.cls e)
  have da : ∀ {a b : Obj}, a.data ≠ b.data → a ≠ b := fun h e => h (congrArg Obj.data e)
  have nlt : Z.ds one ≠ Z.ap := Nat.ne_of_lt (V.lt one h2 h7)
  have aof : ∀ q ∈ (Z.ap, listOf (ips.set one (nodeInt p t)).toArray Z.kp) :: (Z.ds one, dictOf (nodeEs P (Z.q one) (Z.u one) (nodeV Z.xs p)) 5) :: cut Z.ap (Z.ds one) rest, ∃ o, (q.1, o) ∈ rest := fun q hq => by
    rcases List.mem_cons.mp hq with rfl | hq
    · exact ⟨_, hA⟩
    rcases List.mem_cons.mp hq with rfl | hq
    · exact ⟨_, hB⟩
    · exact ⟨q.2, (mem_cut.mp hq).1⟩
  exact {
    filters := ⟨fun k k2 k7 => K (V.filters.inst k k2 k7) (.inr (cl (by intro e; first | (injection e with e; exact absurd e (by decide)) | cases e))) (.inr (cl (by intro e; first | (injection e with e; exact absurd e (by decide)) | cases e))), fun k k2 k7 => by
      by_cases hk : k = one
      · subst hk
        rw [if_pos rfl]
        exact .tail _ (.head _)
      · rw [if_neg hk]
        exact K (V.filters.dict k k2 k7) (.inr (cl (by intro e; first | (injection e with e; exact absurd e (by decide)) | cases e))) (.inl fun e => hk (V.inj _ _ k7 h7 e))⟩
    reader := ⟨K V.reader.inst (.inr (cl (by intro e; first | (injection e with e; exact absurd e (by decide)) | cases e))) (.inr (cl (by intro e; first | (injection e with e; exact absurd e (by decide)) | cases e))), K V.reader.dict (.inr (cl (by intro e; first | (injection e with e; exact absurd e (by decide)) | cases e))) (.inl fun e => absurd (V.inj _ _ (by omega) h7 e) (by omega)),
      fun i hi => ⟨K (V.reader.lam i hi).fn (.inr (cl (by intro e; first | (injection e with e; exact absurd e (by decide)) | cases e))) (.inr (cl (by intro e; first | (injection e with e; exact absurd e (by decide)) | cases e))), K (V.reader.lam i hi).code (.inr (da (by rw [(V.reader.lam i hi).data]; intro e; cases e))) (.inr (da (by rw [(V.reader.lam i hi).data]; intro e; cases e))), (V.reader.lam i hi).data, (V.reader.lam i hi).name⟩,
      ⟨K V.reader.cF.mem (.inr (da (by rw [V.reader.cF.data]; intro e; cases e))) (.inr (da (by rw [V.reader.cF.data]; intro e; cases e))), V.reader.cF.data⟩,
      ⟨K V.reader.cP.mem (.inr (da (by rw [V.reader.cP.data]; intro e; cases e))) (.inr (da (by rw [V.reader.cP.data]; intro e; cases e))), V.reader.cP.data⟩,
      ⟨K V.reader.cL.mem (.inr (da (by rw [V.reader.cL.data]; intro e; cases e))) (.inr (da (by rw [V.reader.cL.data]; intro e; cases e))), V.reader.cL.data⟩⟩
    i1 := K V.i1 (.inr (cl (by intro e; first | (injection e with e; exact absurd e (by decide)) | cases e))) (.inr (cl (by intro e; first | (injection e with e; exact absurd e (by decide)) | cases e)))
    d1 := K V.d1 (.inr (cl (by intro e; first | (injection e with e; exact absurd e (by decide)) | cases e))) (.inl fun e => absurd (V.inj _ _ (by omega) h7 e) (by omega))
    parents := .head _
    len := by rw [List.length_set]; exact V.len
    val := fun k k2 k7 => by
      by_cases hk : k = one
      · subst hk
        refine ⟨t, ?_⟩
        rw [List.getElem?_set_self (by rw [V.len]; exact k7), if_pos rfl]
      · obtain ⟨t', e⟩ := V.val k k2 k7
        refine ⟨t', ?_⟩
        rw [List.getElem?_set_ne (fun e => hk e.symm), if_neg hk]
        exact e
    lower := fun k k' k2 k7 e => by
      by_cases hk : k = one
      · subst hk
        rw [if_pos rfl] at e
        exact hp _ e
      · rw [if_neg hk] at e
        exact V.lower k k' k2 k7 e
    nodes := K V.nodes (.inl V.ndp) (.inr (cl (by intro e; first | (injection e with e; exact absurd e (by decide)) | cases e)))
    node := V.node
    off := ⟨fun q hq => let ⟨o, ho⟩ := aof q hq; V.off.f (q.1, o) ho, fun q hq => let ⟨o, ho⟩ := aof q hq; V.off.p (q.1, o) ho, fun q hq => let ⟨o, ho⟩ := aof q hq; V.off.l (q.1, o) ho, V.off.fp, V.off.pl⟩
    offp := fun q hq => let ⟨o, ho⟩ := aof q hq; V.offp (q.1, o) ho
    pF := V.pF
    pP := V.pP
    pL := V.pL
    inj := V.inj
    lt := V.lt
    steps := K V.steps (.inl V.axp) (.inr (cl (by intro e; first | (injection e with e; exact absurd e (by decide)) | cases e)))
    axp := V.axp
    ndp := V.ndp
    tab := K V.tab (.inr (cl (by intro e; first | (injection e with e; exact absurd e (by decide)) | cases e))) (.inr (cl (by intro e; first | (injection e with e; exact absurd e (by decide)) | cases e)))
    step := fun i v e => let ⟨T, a, b, c, d, e, f, g, k, l⟩ := V.step i v e; ⟨T, a, b, c, d, e, f, g, k, K l (.inr (cl (by intro e; first | (injection e with e; exact absurd e (by decide)) | cases e))) (.inr (cl (by intro e; first | (injection e with e; exact absurd e (by decide)) | cases e)))⟩
    loF := V.loF
    loP := V.loP }
theorem PastAt.parent {pits : Array Value} {ps : Past} (PA : PastAt rest pits ps) (N : News h₀ L h rest) {a b : Addr} {ys : Array Value} {es : List DictEntry} {n n' : Nat} {oa ob : Obj} (hA : (a, listOf ys n) ∈ rest) (hB : (b, dictOf es n') ∈ rest) : PastAt ((a, oa) :: (b, ob) :: cut a b rest) pits ps :=
  ⟨PA.size, fun i p e => let ⟨ta, tw, tn, x, y⟩ := PA.item i p e; ⟨ta, tw, tn, x, .tail _ (.tail _ (cut_keep N hA hB y (.inr fun e => by have e := congrArg Obj.cls e; injection e with e; exact absurd e (by decide)) (.inr fun e => by have e := congrArg Obj.cls e; injection e with e; exact absurd e (by decide))))⟩⟩
theorem ends_ex {par : Nat → Option Nat} (lower : ∀ k k', 2 ≤ k → k < 7 → par k = some k' → k' < k) : ∀ (b k : Nat), k < b → k < 7 → ∃ r, Ends par (some k) r ∧ (r = none ∨ r = some 0 ∨ r = some 1)
  | 0, _, h, _ => absurd h (Nat.not_lt_zero _)
  | b + 1, k, h, h7 => by
    by_cases h2 : k < 2
    · exact ⟨some k, .low h2, by match k, h2 with | 0, _ => exact .inr (.inl rfl) | 1, _ => exact .inr (.inr rfl)⟩
    · cases e : par k with
      | none => exact ⟨none, .step (by omega) h7 (by rw [e]; exact .none), .inl rfl⟩
      | some k' =>
        have hk := lower k k' (by omega) h7 e
        obtain ⟨r, hr, c⟩ := ends_ex lower b k' (by omega) (by omega)
        exact ⟨r, .step (by omega) h7 (by rw [e]; exact hr), c⟩
theorem stored_len (kv : List (Str × Value)) (a : Str) (v : Value) : (merged kv [(a, v)]).length ≤ kv.length + 1 := by
  show (stored kv a v).length ≤ _
  unfold stored
  split
  · rw [List.length_map]; omega
  · rw [List.length_append]; simp
theorem last_split (l : List Value) (a : Value) : ∃ ys y, a :: l = ys ++ [y] := by
  rcases List.eq_nil_or_concat (a :: l) with h | ⟨ys, y, h⟩
  · cases h
  · exact ⟨ys, y, h.trans (List.concat_eq_append ..)⟩
end
end
section
open PySem PySem.W PyProof.Rows PySem.Calls PySem.SeqAt
theorem body_split : forBody = [nth forBody 0, nth forBody 1, nth forBody 2, nth forBody 3, nth forBody 4, nth forBody 5, nth forBody 6, nth forBody 7, nth forBody 8, nth forBody 9, nth forBody 10, nth forBody 11] := by rfl
variable {w : World} {h₀ : Heap} {mg mb : Str → Option Value} {loose : List Str} {mean : ExcName → Option Value} {news : List (Addr × Obj)} {xs ds : Nat → Addr} {par : Nat → Option Nat} {q : Nat → Nat → Nat} {u : Nat → Nat → Value} {L fa : Addr} {cd : Value} {m : Str → Option Value} {s : Shared} {E : Value → Shared → Prop} {Q : Flow → Shared → Prop}
theorem tail_none {W : Int} {one : Nat} {ap nd pa aL v : Addr} {ips its : List Value} {pits : Array Value} {kp kn ki nL : Nat} {ps : Past} {ysL : List Value} {y : Value} {nm : Str} {to tw tn : Tok} (h1 : 1 ≤ W) (h5 : W ≤ 5)
   (X : (hd.heap_39 w.params).In h₀) (T : Top topProg loose mean mg mb h₀) (B : Below callerA h₀ [] h₀) (F : Fr h₀ L s.heap m) (N : News h₀ L s.heap news)
   (hp : (ap, ({ cls := .type "list", data := .seq ips.toArray kp } : Obj)) ∈ news) (hips : ∀ k, 2 ≤ k → k < 7 → ∃ t, ips[k]? = some (nodeInt (par k) t)) (H : Ends par (some one) none) (h2 : 2 ≤ one) (h7 : one < 7)
   (hn : (nd, ({ cls := .type "list", data := .seq its.toArray kn } : Obj)) ∈ news) (hx : its[one]? = some (.ref (xs one))) (FL : Filters w.params xs ds par q u news) (hpar : ∀ k k', 2 ≤ k → k < 7 → par k = some k' → k' < k)
   (hpa : (pa, ({ cls := .type "list", data := .seq pits ki } : Obj)) ∈ news) (hsz : pits.size ≤ 1000) (PA : PastAt news pits ps) (hl : (aL, listOf (ysL ++ [y]).toArray nL) ∈ news) (hy : ysL ++ [y] = .none :: (valsL ps).map .ref) (hnm : nm.length ≤ 1000)
   (m1 : m "end" = some (.int (one : Int) to)) (m2 : m "parents" = some (.ref ap)) (m3 : m "way" = some (.int W tw)) (m4 : m "name" = some (.str nm tn)) (m5 : m "value" = some (.ref v)) (m6 : m "nodes" = some (.ref nd)) (m7 : m "one" = some (.int (one : Int) to))
   (m8 : m "past" = some (.ref pa)) (m9 : m "locales" = some (.ref aL))
   (hQ : ∀ h' tk m', Fr h₀ L h' m' → (∀ z : Str, z ≠ ("end" : Str) → z ≠ ("due" : Str) → z ≠ ("told" : Str) → m' z = m z) → News h₀ L h' news → Q .next { s with heap := h', toks := tk }) :
   wpAny (model PySem.Challenge.rw_kp0119_10.row.prog w) (callerA.deeper (envOf "law" lawScope L fa cd)) (execs [nth forBody 6, nth forBody 7, nth forBody 8, nth forBody 9, nth forBody 10, nth forBody 11] (envOf "law" lawScope L fa cd)) Q E s := by
  refine wpAny_execs_cons (st6 X T B F N hp hips H m1 m2 fun h6 k6 m6' t6 F6 same6 e6 N6 => ?_)
  have g : ∀ z : Str, z ≠ ("end" : Str) → m6' z = m z := same6
  refine wpAny_execs_cons (st7 X T B F6 N6 e6 ((g _ (by decide)).trans m3) ((g _ (by decide)).trans m4) ((g _ (by decide)).trans m5) ((g _ (by decide)).trans m8) (gives_due_none (te := 0) X T B hnm) fun h7' k7 t l R7 F7 N7 => ?_)
  obtain ⟨a1, a2, rfl, lt7⟩ := R7
  have g7 : ∀ z : Str, z ≠ ("end" : Str) → z ≠ ("due" : Str) → (if z = ("due" : Str) then some (Value.ref t) else m6' z) = m z := fun z p q => (if_neg q).trans (g z p)
  refine wpAny_execs_cons (st8 (one := (one : Int)) X T B F7 N7 ((g7 _ (by decide) (by decide)).trans m7) ((g7 _ (by decide) (by decide)).trans m3) ((g7 _ (by decide) (by decide)).trans m4) ((g7 _ (by decide) (by decide)).trans m5) ((g7 _ (by decide) (by decide)).trans m6)
    (.tail _ hn) (by omega) (by omega) (by simpa using hx) (gives_none h1 h5 X T B (FL.mono fun p hp => .tail _ hp) hpar h2 h7 H) fun h8 k8 t2 l R8 F8 N8 => ?_)
  obtain ⟨b1, b2, rfl, lt8⟩ := R8
  refine wpAny_execs_cons (st9_no2 (t := t2) (d := t) X T B F8 N8 (if_pos rfl) ((if_neg (by decide)).trans (if_pos rfl)) (.head _) (by decide) (ne_none (.head _) (.tail _ (.head _))) fun h9 k9 F9 N9 => ?_)
  refine wpAny_execs_cons (st10_none X T B F9 N9 ((if_neg (by decide)).trans ((if_neg (by decide)).trans e6)) fun h10 k10 F10 N10 => ?_)
  have N11 : News h₀ L h10 news := news_sub N10 fun p hp => .tail _ (.tail _ hp)
  have g8 : ∀ z : Str, z ≠ ("end" : Str) → z ≠ ("due" : Str) → z ≠ ("told" : Str) → (if z = ("told" : Str) then some (Value.ref t2) else if z = ("due" : Str) then some (Value.ref t) else m6' z) = m z := fun z p q r => (if_neg r).trans (g7 z p q)
  refine wpAny_execs_cons (st11 X T B F10 N11 hpa hsz PA hl hy ((g8 _ (by decide) (by decide) (by decide)).trans m9) ((g8 _ (by decide) (by decide) (by decide)).trans m8) fun h11 k11 F11 N12 => wpAny_execs_nil ?_)
  exact hQ _ _ _ F11 g8 N12
theorem tail_one_setLocale {one : Nat} {ap nd pa aL v : Addr} {ips its : List Value} {pits : Array Value} {kp kn ki nL : Nat} {ps : Past} {ysL : List Value} {y : Value} {nm : Str} {to tw tn : Tok} {d1 : Nat → Nat} {u1 : Nat → Value} (i1 : (xs 1, instObj 405 (ds 1)) ∈ news) (d1' : (ds 1, dictOf (plainEs w.params d1 u1) 4) ∈ news)
   (X : (hd.heap_39 w.params).In h₀) (T : Top topProg loose mean mg mb h₀) (B : Below callerA h₀ [] h₀) (F : Fr h₀ L s.heap m) (N : News h₀ L s.heap news)
   (hp : (ap, ({ cls := .type "list", data := .seq ips.toArray kp } : Obj)) ∈ news) (hips : ∀ k, 2 ≤ k → k < 7 → ∃ t, ips[k]? = some (nodeInt (par k) t)) (H : Ends par (some one) (some 1)) (h2 : 2 ≤ one) (h7 : one < 7)
   (hn : (nd, ({ cls := .type "list", data := .seq its.toArray kn } : Obj)) ∈ news) (hx : its[one]? = some (.ref (xs one))) (FL : Filters w.params xs ds par q u news) (hpar : ∀ k k', 2 ≤ k → k < 7 → par k = some k' → k' < k)
   (hpa : (pa, ({ cls := .type "list", data := .seq pits ki } : Obj)) ∈ news) (hsz : pits.size ≤ 1000) (PA : PastAt news pits ps) (hl : (aL, listOf (ysL ++ [y]).toArray nL) ∈ news) (hy : ysL ++ [y] = .none :: (valsL ps).map .ref) (hnm : nm.length ≤ 1000)
   (m1 : m "end" = some (.int (one : Int) to)) (m2 : m "parents" = some (.ref ap)) (m3 : m "way" = some (.int 1 tw)) (m4 : m "name" = some (.str nm tn)) (m5 : m "value" = some (.ref v)) (m6 : m "nodes" = some (.ref nd)) (m7 : m "one" = some (.int (one : Int) to))
   (m8 : m "past" = some (.ref pa)) (m9 : m "locales" = some (.ref aL))
   (hQ : ∀ h' tk m', Fr h₀ L h' m' → (∀ z : Str, z ≠ ("end" : Str) → z ≠ ("due" : Str) → z ≠ ("told" : Str) → m' z = m z) → News h₀ L h' news → Q .next { s with heap := h', toks := tk }) :
   wpAny (model PySem.Challenge.rw_kp0119_10.row.prog w) (callerA.deeper (envOf "law" lawScope L fa cd)) (execs [nth forBody 6, nth forBody 7, nth forBody 8, nth forBody 9, nth forBody 10, nth forBody 11] (envOf "law" lawScope L fa cd)) Q E s := by
  refine wpAny_execs_cons (st6 X T B F N hp hips H m1 m2 fun h6 k6 m6' t6 F6 same6 e6 N6 => ?_)
  have g : ∀ z : Str, z ≠ ("end" : Str) → m6' z = m z := same6
  refine wpAny_execs_cons (st7 X T B F6 N6 e6 ((g _ (by decide)).trans m3) ((g _ (by decide)).trans m4) ((g _ (by decide)).trans m5) ((g _ (by decide)).trans m8) (gives_due_sup (te := t6) X T B hnm) fun h7' k7 t l R7 F7 N7 => ?_)
  obtain ⟨a1, a2, a3, rfl, lt7⟩ := R7
  have g7 : ∀ z : Str, z ≠ ("end" : Str) → z ≠ ("due" : Str) → (if z = ("due" : Str) then some (Value.ref t) else m6' z) = m z := fun z p q => (if_neg q).trans (g z p)
  refine wpAny_execs_cons (st8 (one := (one : Int)) X T B F7 N7 ((g7 _ (by decide) (by decide)).trans m7) ((g7 _ (by decide) (by decide)).trans m3) ((g7 _ (by decide) (by decide)).trans m4) ((g7 _ (by decide) (by decide)).trans m5) ((g7 _ (by decide) (by decide)).trans m6)
    (.tail _ hn) (by omega) (by omega) (by simpa using hx) (gives_pl_setLocale X T B (FL.mono fun p hp => .tail _ hp) hpar (.tail _ i1) (.tail _ d1') h2 h7 H (Nat.le_trans hnm (by decide))) fun h8 k8 t2 l R8 F8 N8 => ?_)
  obtain ⟨b1, b2, b3, rfl, lt8⟩ := R8
  refine wpAny_execs_cons (st9_no4 (t := t2) (d := t) X T B F8 N8 (if_pos rfl) ((if_neg (by decide)).trans (if_pos rfl)) (.head _) (by decide) (ne_four (.head _) (.tail _ (.head _))) fun h9 k9 F9 N9 => ?_)
  refine wpAny_execs_cons (st10_one (te := t6) X T B F9 N9 ((if_neg (by decide)).trans ((if_neg (by decide)).trans e6)) fun h10 k10 F10 N10 => ?_)
  have N11 : News h₀ L h10 news := news_sub N10 fun p hp => .tail _ (.tail _ hp)
  have g8 : ∀ z : Str, z ≠ ("end" : Str) → z ≠ ("due" : Str) → z ≠ ("told" : Str) → (if z = ("told" : Str) then some (Value.ref t2) else if z = ("due" : Str) then some (Value.ref t) else m6' z) = m z := fun z p q r => (if_neg r).trans (g7 z p q)
  refine wpAny_execs_cons (st11 X T B F10 N11 hpa hsz PA hl hy ((g8 _ (by decide) (by decide) (by decide)).trans m9) ((g8 _ (by decide) (by decide) (by decide)).trans m8) fun h11 k11 F11 N12 => wpAny_execs_nil ?_)
  exact hQ _ _ _ F11 g8 N12
theorem tail_one_setFeature {one : Nat} {ap nd pa aL v : Addr} {ips its : List Value} {pits : Array Value} {kp kn ki nL : Nat} {ps : Past} {ysL : List Value} {y : Value} {nm : Str} {to tw tn : Tok} {d1 : Nat → Nat} {u1 : Nat → Value} (i1 : (xs 1, instObj 405 (ds 1)) ∈ news) (d1' : (ds 1, dictOf (plainEs w.params d1 u1) 4) ∈ news)
   (X : (hd.heap_39 w.params).In h₀) (T : Top topProg loose mean mg mb h₀) (B : Below callerA h₀ [] h₀) (F : Fr h₀ L s.heap m) (N : News h₀ L s.heap news)
   (hp : (ap, ({ cls := .type "list", data := .seq ips.toArray kp } : Obj)) ∈ news) (hips : ∀ k, 2 ≤ k → k < 7 → ∃ t, ips[k]? = some (nodeInt (par k) t)) (H : Ends par (some one) (some 1)) (h2 : 2 ≤ one) (h7 : one < 7)
   (hn : (nd, ({ cls := .type "list", data := .seq its.toArray kn } : Obj)) ∈ news) (hx : its[one]? = some (.ref (xs one))) (FL : Filters w.params xs ds par q u news) (hpar : ∀ k k', 2 ≤ k → k < 7 → par k = some k' → k' < k)
   (hpa : (pa, ({ cls := .type "list", data := .seq pits ki } : Obj)) ∈ news) (hsz : pits.size ≤ 1000) (PA : PastAt news pits ps) (hl : (aL, listOf (ysL ++ [y]).toArray nL) ∈ news) (hy : ysL ++ [y] = .none :: (valsL ps).map .ref) (hnm : nm.length ≤ 1000)
   (m1 : m "end" = some (.int (one : Int) to)) (m2 : m "parents" = some (.ref ap)) (m3 : m "way" = some (.int 2 tw)) (m4 : m "name" = some (.str nm tn)) (m5 : m "value" = some (.ref v)) (m6 : m "nodes" = some (.ref nd)) (m7 : m "one" = some (.int (one : Int) to))
   (m8 : m "past" = some (.ref pa)) (m9 : m "locales" = some (.ref aL))
   (hQ : ∀ h' tk m', Fr h₀ L h' m' → (∀ z : Str, z ≠ ("end" : Str) → z ≠ ("due" : Str) → z ≠ ("told" : Str) → m' z = m z) → News h₀ L h' news → Q .next { s with heap := h', toks := tk }) :
   wpAny (model PySem.Challenge.rw_kp0119_10.row.prog w) (callerA.deeper (envOf "law" lawScope L fa cd)) (execs [nth forBody 6, nth forBody 7, nth forBody 8, nth forBody 9, nth forBody 10, nth forBody 11] (envOf "law" lawScope L fa cd)) Q E s := by
  refine wpAny_execs_cons (st6 X T B F N hp hips H m1 m2 fun h6 k6 m6' t6 F6 same6 e6 N6 => ?_)
  have g : ∀ z : Str, z ≠ ("end" : Str) → m6' z = m z := same6
  refine wpAny_execs_cons (st7 X T B F6 N6 e6 ((g _ (by decide)).trans m3) ((g _ (by decide)).trans m4) ((g _ (by decide)).trans m5) ((g _ (by decide)).trans m8) (gives_due_unk2 (te := t6) X T B hnm) fun h7' k7 t l R7 F7 N7 => ?_)
  obtain ⟨a1, a2, a3, rfl, lt7⟩ := R7
  have g7 : ∀ z : Str, z ≠ ("end" : Str) → z ≠ ("due" : Str) → (if z = ("due" : Str) then some (Value.ref t) else m6' z) = m z := fun z p q => (if_neg q).trans (g z p)
  refine wpAny_execs_cons (st8 (one := (one : Int)) X T B F7 N7 ((g7 _ (by decide) (by decide)).trans m7) ((g7 _ (by decide) (by decide)).trans m3) ((g7 _ (by decide) (by decide)).trans m4) ((g7 _ (by decide) (by decide)).trans m5) ((g7 _ (by decide) (by decide)).trans m6)
    (.tail _ hn) (by omega) (by omega) (by simpa using hx) (gives_pl_setFeature X T B (FL.mono fun p hp => .tail _ hp) hpar (.tail _ i1) (.tail _ d1') h2 h7 H (Nat.le_trans hnm (by decide))) fun h8 k8 t2 l R8 F8 N8 => ?_)
  obtain ⟨b1, b2, b3, rfl, lt8⟩ := R8
  refine wpAny_execs_cons (st9_no4 (t := t2) (d := t) X T B F8 N8 (if_pos rfl) ((if_neg (by decide)).trans (if_pos rfl)) (.head _) (by decide) (ne_four (.head _) (.tail _ (.head _))) fun h9 k9 F9 N9 => ?_)
  refine wpAny_execs_cons (st10_one (te := t6) X T B F9 N9 ((if_neg (by decide)).trans ((if_neg (by decide)).trans e6)) fun h10 k10 F10 N10 => ?_)
  have N11 : News h₀ L h10 news := news_sub N10 fun p hp => .tail _ (.tail _ hp)
  have g8 : ∀ z : Str, z ≠ ("end" : Str) → z ≠ ("due" : Str) → z ≠ ("told" : Str) → (if z = ("told" : Str) then some (Value.ref t2) else if z = ("due" : Str) then some (Value.ref t) else m6' z) = m z := fun z p q r => (if_neg r).trans (g7 z p q)
  refine wpAny_execs_cons (st11 X T B F10 N11 hpa hsz PA hl hy ((g8 _ (by decide) (by decide) (by decide)).trans m9) ((g8 _ (by decide) (by decide) (by decide)).trans m8) fun h11 k11 F11 N12 => wpAny_execs_nil ?_)
  exact hQ _ _ _ F11 g8 N12
theorem tail_one_setProperty {one : Nat} {ap nd pa aL v : Addr} {ips its : List Value} {pits : Array Value} {kp kn ki nL : Nat} {ps : Past} {ysL : List Value} {y : Value} {nm : Str} {to tw tn : Tok} {d1 : Nat → Nat} {u1 : Nat → Value} (i1 : (xs 1, instObj 405 (ds 1)) ∈ news) (d1' : (ds 1, dictOf (plainEs w.params d1 u1) 4) ∈ news)
   (X : (hd.heap_39 w.params).In h₀) (T : Top topProg loose mean mg mb h₀) (B : Below callerA h₀ [] h₀) (F : Fr h₀ L s.heap m) (N : News h₀ L s.heap news)
   (hp : (ap, ({ cls := .type "list", data := .seq ips.toArray kp } : Obj)) ∈ news) (hips : ∀ k, 2 ≤ k → k < 7 → ∃ t, ips[k]? = some (nodeInt (par k) t)) (H : Ends par (some one) (some 1)) (h2 : 2 ≤ one) (h7 : one < 7)
   (hn : (nd, ({ cls := .type "list", data := .seq its.toArray kn } : Obj)) ∈ news) (hx : its[one]? = some (.ref (xs one))) (FL : Filters w.params xs ds par q u news) (hpar : ∀ k k', 2 ≤ k → k < 7 → par k = some k' → k' < k)
   (hpa : (pa, ({ cls := .type "list", data := .seq pits ki } : Obj)) ∈ news) (hsz : pits.size ≤ 1000) (PA : PastAt news pits ps) (hl : (aL, listOf (ysL ++ [y]).toArray nL) ∈ news) (hy : ysL ++ [y] = .none :: (valsL ps).map .ref) (hnm : nm.length ≤ 1000)
   (m1 : m "end" = some (.int (one : Int) to)) (m2 : m "parents" = some (.ref ap)) (m3 : m "way" = some (.int 3 tw)) (m4 : m "name" = some (.str nm tn)) (m5 : m "value" = some (.ref v)) (m6 : m "nodes" = some (.ref nd)) (m7 : m "one" = some (.int (one : Int) to))
   (m8 : m "past" = some (.ref pa)) (m9 : m "locales" = some (.ref aL))
   (hQ : ∀ h' tk m', Fr h₀ L h' m' → (∀ z : Str, z ≠ ("end" : Str) → z ≠ ("due" : Str) → z ≠ ("told" : Str) → m' z = m z) → News h₀ L h' news → Q .next { s with heap := h', toks := tk }) :
   wpAny (model PySem.Challenge.rw_kp0119_10.row.prog w) (callerA.deeper (envOf "law" lawScope L fa cd)) (execs [nth forBody 6, nth forBody 7, nth forBody 8, nth forBody 9, nth forBody 10, nth forBody 11] (envOf "law" lawScope L fa cd)) Q E s := by
  refine wpAny_execs_cons (st6 X T B F N hp hips H m1 m2 fun h6 k6 m6' t6 F6 same6 e6 N6 => ?_)
  have g : ∀ z : Str, z ≠ ("end" : Str) → m6' z = m z := same6
  refine wpAny_execs_cons (st7 X T B F6 N6 e6 ((g _ (by decide)).trans m3) ((g _ (by decide)).trans m4) ((g _ (by decide)).trans m5) ((g _ (by decide)).trans m8) (gives_due_unk3 (te := t6) X T B hnm) fun h7' k7 t l R7 F7 N7 => ?_)
  obtain ⟨a1, a2, a3, rfl, lt7⟩ := R7
  have g7 : ∀ z : Str, z ≠ ("end" : Str) → z ≠ ("due" : Str) → (if z = ("due" : Str) then some (Value.ref t) else m6' z) = m z := fun z p q => (if_neg q).trans (g z p)
  refine wpAny_execs_cons (st8 (one := (one : Int)) X T B F7 N7 ((g7 _ (by decide) (by decide)).trans m7) ((g7 _ (by decide) (by decide)).trans m3) ((g7 _ (by decide) (by decide)).trans m4) ((g7 _ (by decide) (by decide)).trans m5) ((g7 _ (by decide) (by decide)).trans m6)
    (.tail _ hn) (by omega) (by omega) (by simpa using hx) (gives_pl_setProperty X T B (FL.mono fun p hp => .tail _ hp) hpar (.tail _ i1) (.tail _ d1') h2 h7 H (Nat.le_trans hnm (by decide))) fun h8 k8 t2 l R8 F8 N8 => ?_)
  obtain ⟨b1, b2, b3, rfl, lt8⟩ := R8
  refine wpAny_execs_cons (st9_no4 (t := t2) (d := t) X T B F8 N8 (if_pos rfl) ((if_neg (by decide)).trans (if_pos rfl)) (.head _) (by decide) (ne_four (.head _) (.tail _ (.head _))) fun h9 k9 F9 N9 => ?_)
  refine wpAny_execs_cons (st10_one (te := t6) X T B F9 N9 ((if_neg (by decide)).trans ((if_neg (by decide)).trans e6)) fun h10 k10 F10 N10 => ?_)
  have N11 : News h₀ L h10 news := news_sub N10 fun p hp => .tail _ (.tail _ hp)
  have g8 : ∀ z : Str, z ≠ ("end" : Str) → z ≠ ("due" : Str) → z ≠ ("told" : Str) → (if z = ("told" : Str) then some (Value.ref t2) else if z = ("due" : Str) then some (Value.ref t) else m6' z) = m z := fun z p q r => (if_neg r).trans (g7 z p q)
  refine wpAny_execs_cons (st11 X T B F10 N11 hpa hsz PA hl hy ((g8 _ (by decide) (by decide) (by decide)).trans m9) ((g8 _ (by decide) (by decide) (by decide)).trans m8) fun h11 k11 F11 N12 => wpAny_execs_nil ?_)
  exact hQ _ _ _ F11 g8 N12
theorem tail_one_getFeature {one : Nat} {ap nd pa aL v : Addr} {ips its : List Value} {pits : Array Value} {kp kn ki nL : Nat} {ps : Past} {ysL : List Value} {y : Value} {nm : Str} {to tw tn : Tok} {d1 : Nat → Nat} {u1 : Nat → Value} (i1 : (xs 1, instObj 405 (ds 1)) ∈ news) (d1' : (ds 1, dictOf (plainEs w.params d1 u1) 4) ∈ news)
   (X : (hd.heap_39 w.params).In h₀) (T : Top topProg loose mean mg mb h₀) (B : Below callerA h₀ [] h₀) (F : Fr h₀ L s.heap m) (N : News h₀ L s.heap news)
   (hp : (ap, ({ cls := .type "list", data := .seq ips.toArray kp } : Obj)) ∈ news) (hips : ∀ k, 2 ≤ k → k < 7 → ∃ t, ips[k]? = some (nodeInt (par k) t)) (H : Ends par (some one) (some 1)) (h2 : 2 ≤ one) (h7 : one < 7)
   (hn : (nd, ({ cls := .type "list", data := .seq its.toArray kn } : Obj)) ∈ news) (hx : its[one]? = some (.ref (xs one))) (FL : Filters w.params xs ds par q u news) (hpar : ∀ k k', 2 ≤ k → k < 7 → par k = some k' → k' < k)
   (hpa : (pa, ({ cls := .type "list", data := .seq pits ki } : Obj)) ∈ news) (hsz : pits.size ≤ 1000) (PA : PastAt news pits ps) (hl : (aL, listOf (ysL ++ [y]).toArray nL) ∈ news) (hy : ysL ++ [y] = .none :: (valsL ps).map .ref) (hnm : nm.length ≤ 1000)
   (m1 : m "end" = some (.int (one : Int) to)) (m2 : m "parents" = some (.ref ap)) (m3 : m "way" = some (.int 4 tw)) (m4 : m "name" = some (.str nm tn)) (m5 : m "value" = some (.ref v)) (m6 : m "nodes" = some (.ref nd)) (m7 : m "one" = some (.int (one : Int) to))
   (m8 : m "past" = some (.ref pa)) (m9 : m "locales" = some (.ref aL))
   (hQ : ∀ h' tk m', Fr h₀ L h' m' → (∀ z : Str, z ≠ ("end" : Str) → z ≠ ("due" : Str) → z ≠ ("told" : Str) → m' z = m z) → News h₀ L h' news → Q .next { s with heap := h', toks := tk }) :
   wpAny (model PySem.Challenge.rw_kp0119_10.row.prog w) (callerA.deeper (envOf "law" lawScope L fa cd)) (execs [nth forBody 6, nth forBody 7, nth forBody 8, nth forBody 9, nth forBody 10, nth forBody 11] (envOf "law" lawScope L fa cd)) Q E s := by
  refine wpAny_execs_cons (st6 X T B F N hp hips H m1 m2 fun h6 k6 m6' t6 F6 same6 e6 N6 => ?_)
  have g : ∀ z : Str, z ≠ ("end" : Str) → m6' z = m z := same6
  refine wpAny_execs_cons (st7 X T B F6 N6 e6 ((g _ (by decide)).trans m3) ((g _ (by decide)).trans m4) ((g _ (by decide)).trans m5) ((g _ (by decide)).trans m8) (gives_due_unk4 (te := t6) X T B hnm) fun h7' k7 t l R7 F7 N7 => ?_)
  obtain ⟨a1, a2, a3, rfl, lt7⟩ := R7
  have g7 : ∀ z : Str, z ≠ ("end" : Str) → z ≠ ("due" : Str) → (if z = ("due" : Str) then some (Value.ref t) else m6' z) = m z := fun z p q => (if_neg q).trans (g z p)
  refine wpAny_execs_cons (st8 (one := (one : Int)) X T B F7 N7 ((g7 _ (by decide) (by decide)).trans m7) ((g7 _ (by decide) (by decide)).trans m3) ((g7 _ (by decide) (by decide)).trans m4) ((g7 _ (by decide) (by decide)).trans m5) ((g7 _ (by decide) (by decide)).trans m6)
    (.tail _ hn) (by omega) (by omega) (by simpa using hx) (gives_pl_getFeature X T B (FL.mono fun p hp => .tail _ hp) hpar (.tail _ i1) (.tail _ d1') h2 h7 H (Nat.le_trans hnm (by decide))) fun h8 k8 t2 l R8 F8 N8 => ?_)
  obtain ⟨b1, b2, b3, rfl, lt8⟩ := R8
  refine wpAny_execs_cons (st9_no4 (t := t2) (d := t) X T B F8 N8 (if_pos rfl) ((if_neg (by decide)).trans (if_pos rfl)) (.head _) (by decide) (ne_four (.head _) (.tail _ (.head _))) fun h9 k9 F9 N9 => ?_)
  refine wpAny_execs_cons (st10_one (te := t6) X T B F9 N9 ((if_neg (by decide)).trans ((if_neg (by decide)).trans e6)) fun h10 k10 F10 N10 => ?_)
  have N11 : News h₀ L h10 news := news_sub N10 fun p hp => .tail _ (.tail _ hp)
  have g8 : ∀ z : Str, z ≠ ("end" : Str) → z ≠ ("due" : Str) → z ≠ ("told" : Str) → (if z = ("told" : Str) then some (Value.ref t2) else if z = ("due" : Str) then some (Value.ref t) else m6' z) = m z := fun z p q r => (if_neg r).trans (g7 z p q)
  refine wpAny_execs_cons (st11 X T B F10 N11 hpa hsz PA hl hy ((g8 _ (by decide) (by decide) (by decide)).trans m9) ((g8 _ (by decide) (by decide) (by decide)).trans m8) fun h11 k11 F11 N12 => wpAny_execs_nil ?_)
  exact hQ _ _ _ F11 g8 N12
theorem tail_one_getProperty {one : Nat} {ap nd pa aL v : Addr} {ips its : List Value} {pits : Array Value} {kp kn ki nL : Nat} {ps : Past} {ysL : List Value} {y : Value} {nm : Str} {to tw tn : Tok} {d1 : Nat → Nat} {u1 : Nat → Value} (i1 : (xs 1, instObj 405 (ds 1)) ∈ news) (d1' : (ds 1, dictOf (plainEs w.params d1 u1) 4) ∈ news)
   (X : (hd.heap_39 w.params).In h₀) (T : Top topProg loose mean mg mb h₀) (B : Below callerA h₀ [] h₀) (F : Fr h₀ L s.heap m) (N : News h₀ L s.heap news)
   (hp : (ap, ({ cls := .type "list", data := .seq ips.toArray kp } : Obj)) ∈ news) (hips : ∀ k, 2 ≤ k → k < 7 → ∃ t, ips[k]? = some (nodeInt (par k) t)) (H : Ends par (some one) (some 1)) (h2 : 2 ≤ one) (h7 : one < 7)
   (hn : (nd, ({ cls := .type "list", data := .seq its.toArray kn } : Obj)) ∈ news) (hx : its[one]? = some (.ref (xs one))) (FL : Filters w.params xs ds par q u news) (hpar : ∀ k k', 2 ≤ k → k < 7 → par k = some k' → k' < k)
   (hpa : (pa, ({ cls := .type "list", data := .seq pits ki } : Obj)) ∈ news) (hsz : pits.size ≤ 1000) (PA : PastAt news pits ps) (hl : (aL, listOf (ysL ++ [y]).toArray nL) ∈ news) (hy : ysL ++ [y] = .none :: (valsL ps).map .ref) (hnm : nm.length ≤ 1000)
   (m1 : m "end" = some (.int (one : Int) to)) (m2 : m "parents" = some (.ref ap)) (m3 : m "way" = some (.int 5 tw)) (m4 : m "name" = some (.str nm tn)) (m5 : m "value" = some (.ref v)) (m6 : m "nodes" = some (.ref nd)) (m7 : m "one" = some (.int (one : Int) to))
   (m8 : m "past" = some (.ref pa)) (m9 : m "locales" = some (.ref aL))
   (hQ : ∀ h' tk m', Fr h₀ L h' m' → (∀ z : Str, z ≠ ("end" : Str) → z ≠ ("due" : Str) → z ≠ ("told" : Str) → m' z = m z) → News h₀ L h' news → Q .next { s with heap := h', toks := tk }) :
   wpAny (model PySem.Challenge.rw_kp0119_10.row.prog w) (callerA.deeper (envOf "law" lawScope L fa cd)) (execs [nth forBody 6, nth forBody 7, nth forBody 8, nth forBody 9, nth forBody 10, nth forBody 11] (envOf "law" lawScope L fa cd)) Q E s := by
  refine wpAny_execs_cons (st6 X T B F N hp hips H m1 m2 fun h6 k6 m6' t6 F6 same6 e6 N6 => ?_)
  have g : ∀ z : Str, z ≠ ("end" : Str) → m6' z = m z := same6
  refine wpAny_execs_cons (st7 X T B F6 N6 e6 ((g _ (by decide)).trans m3) ((g _ (by decide)).trans m4) ((g _ (by decide)).trans m5) ((g _ (by decide)).trans m8) (gives_due_unk5 (te := t6) X T B hnm) fun h7' k7 t l R7 F7 N7 => ?_)
  obtain ⟨a1, a2, a3, rfl, lt7⟩ := R7
  have g7 : ∀ z : Str, z ≠ ("end" : Str) → z ≠ ("due" : Str) → (if z = ("due" : Str) then some (Value.ref t) else m6' z) = m z := fun z p q => (if_neg q).trans (g z p)
  refine wpAny_execs_cons (st8 (one := (one : Int)) X T B F7 N7 ((g7 _ (by decide) (by decide)).trans m7) ((g7 _ (by decide) (by decide)).trans m3) ((g7 _ (by decide) (by decide)).trans m4) ((g7 _ (by decide) (by decide)).trans m5) ((g7 _ (by decide) (by decide)).trans m6)
    (.tail _ hn) (by omega) (by omega) (by simpa using hx) (gives_pl_getProperty X T B (FL.mono fun p hp => .tail _ hp) hpar (.tail _ i1) (.tail _ d1') h2 h7 H (Nat.le_trans hnm (by decide))) fun h8 k8 t2 l R8 F8 N8 => ?_)
  obtain ⟨b1, b2, b3, rfl, lt8⟩ := R8
  refine wpAny_execs_cons (st9_no4 (t := t2) (d := t) X T B F8 N8 (if_pos rfl) ((if_neg (by decide)).trans (if_pos rfl)) (.head _) (by decide) (ne_four (.head _) (.tail _ (.head _))) fun h9 k9 F9 N9 => ?_)
  refine wpAny_execs_cons (st10_one (te := t6) X T B F9 N9 ((if_neg (by decide)).trans ((if_neg (by decide)).trans e6)) fun h10 k10 F10 N10 => ?_)
  have N11 : News h₀ L h10 news := news_sub N10 fun p hp => .tail _ (.tail _ hp)
  have g8 : ∀ z : Str, z ≠ ("end" : Str) → z ≠ ("due" : Str) → z ≠ ("told" : Str) → (if z = ("told" : Str) then some (Value.ref t2) else if z = ("due" : Str) then some (Value.ref t) else m6' z) = m z := fun z p q r => (if_neg r).trans (g7 z p q)
  refine wpAny_execs_cons (st11 X T B F10 N11 hpa hsz PA hl hy ((g8 _ (by decide) (by decide) (by decide)).trans m9) ((g8 _ (by decide) (by decide) (by decide)).trans m8) fun h11 k11 F11 N12 => wpAny_execs_nil ?_)
  exact hQ _ _ _ F11 g8 N12
end
section
open PySem PySem.W PyProof.Rows PySem.Calls PySem.SeqAt
section
variable {w : World} {h₀ : Heap} {mg mb : Str → Option Value} {loose : List Str} {mean : ExcName → Option Value} {Z : Nm} {par : Nat → Option Nat} {ips : List Value} {rest : List (Addr × Obj)} {kvF kvP : List (Str × Value)} {oF oP oL : Obj} {pits : Array Value} {ki : Nat} {ps : Past} {L fa : Addr} {cd : Value} {m : Str → Option Value} {s : Shared} {E : Value → Shared → Prop} {Q : Flow → Shared → Prop} {c9 P9 : Addr}
theorem valsL_len (ps : Past) : (valsL ps).length ≤ ps.length := List.length_filterMap_le hitL ps
theorem dict_cls {o : Obj} {kv : List (Str × Value)} (h : o.IsDictOf (strKind PySem.Challenge.rw_kp0119_10.row.prog w) kv) : o.cls = .type "dict" := by
  obtain ⟨es, ep, hx, _⟩ := h
  exact hx.1
theorem tup_ne {o : Obj} {d : Data} {c : String} (h : o.cls = .type c) (hc : "tuple" ≠ c) : ({ cls := .type "tuple", data := d } : Obj) ≠ o := fun e => by
  rw [← e] at h
  injection h with h
  exact hc h
theorem tail_fin {W : Int} {v : Addr} {nm : Str} {te tw tn : Tok} {nL : Nat}
   (X : (hd.heap_39 w.params).In h₀) (T : Top topProg loose mean mg mb h₀) (B : Below callerA h₀ [] h₀) (F : Fr h₀ L s.heap m) (V : Inv w.params Z par ips rest)
   (N : News h₀ L s.heap (led3 Z.aF Z.aP Z.aL oF oP (listOf (Value.none :: (valsL (ps ++ [(W, nm, v)])).map Value.ref).toArray nL) ((Z.pa, listOf pits ki) :: rest)))
   (hsz : pits.size < 1000) (PA : PastAt rest pits ps)
   (m1 : m "end" = some (.int 0 te)) (m3 : m "way" = some (.int W tw)) (m4 : m "name" = some (.str nm tn)) (m5 : m "value" = some (.ref v)) (m8 : m "past" = some (.ref Z.pa)) (m9 : m "locales" = some (.ref Z.aL))
   (hQ : ∀ h' tk ta kj, Fr h₀ L h' m → News h₀ L h' (led3 Z.aF Z.aP Z.aL oF oP (listOf (Value.none :: (valsL (ps ++ [(W, nm, v)])).map Value.ref).toArray nL) ((Z.pa, listOf (pits.push (.ref ta)) kj) :: (ta, tupObj3 W tw nm tn v) :: rest)) →
      Inv w.params Z par ips ((ta, tupObj3 W tw nm tn v) :: rest) → PastAt ((ta, tupObj3 W tw nm tn v) :: rest) (pits.push (.ref ta)) (ps ++ [(W, nm, v)]) → Q .next { s with heap := h', toks := tk }) :
   wpAny (model PySem.Challenge.rw_kp0119_10.row.prog w) (callerA.deeper (envOf "law" lawScope L fa cd)) (execs [nth forBody 10, nth forBody 11] (envOf "law" lawScope L fa cd)) Q E s := by
  obtain ⟨ysL, y, hy⟩ := last_split ((valsL (ps ++ [(W, nm, v)])).map Value.ref) .none
  refine wpAny_execs_cons (st10_zero (rest := (Z.aF, oF) :: (Z.aP, oP) :: (Z.aL, listOf (Value.none :: (valsL (ps ++ [(W, nm, v)])).map Value.ref).toArray nL) :: rest) X T B F (te := te) (tw := tw) (tn := tn) (way := W) (nm := nm) (v := v) (news_sub N (by kqd_sub)) ?_ (Nat.le_of_lt hsz) m1 m3 m4 m5 m8 fun h1 k1 ta kj F1 N1 l1 l2 => ?_)
  · intro p hp
    rcases List.mem_cons.mp hp with rfl | hp
    · exact V.pF.symm
    rcases List.mem_cons.mp hp with rfl | hp
    · exact V.pP.symm
    rcases List.mem_cons.mp hp with rfl | hp
    · exact V.pL.symm
    · exact V.offp p hp
  have n1 : ta ≠ Z.aF := Nat.ne_of_gt (l2 _ (.head _))
  have n2 : ta ≠ Z.aP := Nat.ne_of_gt (l2 _ (.tail _ (.head _)))
  have n3 : ta ≠ Z.aL := Nat.ne_of_gt (l2 _ (.tail _ (.tail _ (.head _))))
  have V' : Inv w.params Z par ips ((ta, tupObj3 W tw nm tn v) :: rest) := V.grow n1 n2 n3 (Nat.ne_of_gt l1)
  have PA' : PastAt ((ta, tupObj3 W tw nm tn v) :: rest) (pits.push (.ref ta)) (ps ++ [(W, nm, v)]) := (PA.mono fun p hp => .tail _ hp).push (p := (W, nm, v)) (.head _)
  refine wpAny_execs_cons (st11 (nL := nL) (its := pits.push (.ref ta)) (ps := ps ++ [(W, nm, v)]) (ysL := ysL) (y := y) X T B F1 N1 (.head _) (by rw [Array.size_push]; omega) (PA'.mono fun p hp => ?_) ?_ hy.symm m9 m8 fun h2 k2 F2 N2 => wpAny_execs_nil ?_)
  · rcases List.mem_cons.mp hp with rfl | hp
    · exact .tail _ (.head _)
    · exact .tail _ (.tail _ (.tail _ (.tail _ (.tail _ hp))))
  · rw [← hy]
    exact .tail _ (.tail _ (.tail _ (.tail _ (.head _))))
  · exact hQ _ _ _ _ F2 (news_sub N2 (by kqd_sub)) V' PA'
theorem tail_zero_setLocale {one : Nat} {v : Addr} {nm : Str} {to tw tn : Tok}
   (X : (hd.heap_39 w.params).In h₀) (T : Top topProg loose mean mg mb h₀) (B : Below callerA h₀ [] h₀) (CH : CodeHd h₀ c9 P9) (F : Fr h₀ L s.heap m) (V : Inv w.params Z par ips rest) (D : Tot w kvF kvP oF oP oL ps)
   (N : News h₀ L s.heap (Led Z oF oP oL pits ki rest)) (hsz : ps.length < 900) (PA : PastAt rest pits ps) (H : Ends par (some one) (some 0)) (h2 : 2 ≤ one) (h7 : one < 7) (hnm : nm.length ≤ 1000)
   (m1 : m "end" = some (.int (one : Int) to)) (m3 : m "way" = some (.int 1 tw)) (m4 : m "name" = some (.str nm tn)) (m5 : m "value" = some (.ref v)) (m7 : m "one" = some (.int (one : Int) to)) (O : Loc Z m)
   (hQ : ∀ h' tk m' ta kj oF' oP' oL' kvF' kvP', Fr h₀ L h' m' → (∀ z : Str, z ≠ ("end" : Str) → z ≠ ("due" : Str) → z ≠ ("told" : Str) → m' z = m z) → News h₀ L h' (Led Z oF' oP' oL' (pits.push (.ref ta)) kj ((ta, tupObj3 1 tw nm tn v) :: rest)) →
      Inv w.params Z par ips ((ta, tupObj3 1 tw nm tn v) :: rest) → Tot w kvF' kvP' oF' oP' oL' (ps ++ [(1, nm, v)]) → PastAt ((ta, tupObj3 1 tw nm tn v) :: rest) (pits.push (.ref ta)) (ps ++ [(1, nm, v)]) → Q .next { s with heap := h', toks := tk }) :
   wpAny (model PySem.Challenge.rw_kp0119_10.row.prog w) (callerA.deeper (envOf "law" lawScope L fa cd)) (execs [nth forBody 6, nth forBody 7, nth forBody 8, nth forBody 9, nth forBody 10, nth forBody 11] (envOf "law" lawScope L fa cd)) Q E s := by
  have hpl := PA.size
  have hsz' : pits.size < 1000 := by omega
  obtain ⟨nL, rfl⟩ := D.loc
  refine wpAny_execs_cons (st6 (ap := Z.ap) (ips := ips) (kp := Z.kp) X T B F N (.tail _ (.tail _ (.tail _ (.tail _ V.parents)))) V.val H m1 O.parents fun h6 k6 m6 t6 F6 same6 e6 N6 => ?_)
  have g : ∀ z : Str, z ≠ ("end" : Str) → m6 z = m z := same6
  refine wpAny_execs_cons (st7 X T B F6 N6 e6 ((g _ (by decide)).trans m3) ((g _ (by decide)).trans m4) ((g _ (by decide)).trans m5) ((g _ (by decide)).trans O.past) (gives_due_set1 (te := t6) X T B hnm) fun h7' k7 t l R7 F7 N7 => ?_)
  have g7 : ∀ z : Str, z ≠ ("end" : Str) → z ≠ ("due" : Str) → (if z = ("due" : Str) then some (Value.ref t) else m6 z) = m z := fun z p q => (if_neg q).trans (g z p)
  have g8 : ∀ (t2 : Addr) (z : Str), z ≠ ("end" : Str) → z ≠ ("due" : Str) → z ≠ ("told" : Str) → (if z = ("told" : Str) then some (Value.ref t2) else if z = ("due" : Str) then some (Value.ref t) else m6 z) = m z := fun t2 z p q r => (if_neg r).trans (g7 z p q)
  obtain ⟨a1, rfl, lt7⟩ := R7
  have N8' : News h₀ L h7' (led3 Z.aF Z.aP Z.aL oF oP (listOf (Value.none :: (valsL ps).map Value.ref).toArray nL) ((t, ({ cls := .type "tuple", data := .seq #[.str "answer" a1, .none] } : Obj)) :: (Z.pa, listOf pits ki) :: rest)) := news_sub N7 (by kqd_sub)
  have O8 : Off3 Z.aF Z.aP Z.aL ((t, ({ cls := .type "tuple", data := .seq #[.str "answer" a1, .none] } : Obj)) :: (Z.pa, listOf pits ki) :: rest) := V.big.grow lt7
  have FL8 := V.filters.mono (news' := (t, ({ cls := .type "tuple", data := .seq #[.str "answer" a1, .none] } : Obj)) :: (Z.pa, listOf pits ki) :: rest) fun p hp => .tail _ (.tail _ hp)
  have RD8 := V.reader.mono (news' := (t, ({ cls := .type "tuple", data := .seq #[.str "answer" a1, .none] } : Obj)) :: (Z.pa, listOf pits ki) :: rest) fun p hp => .tail _ (.tail _ hp)
  have hmem : ∀ {p}, p ∈ rest → p ∈ led3 Z.aF Z.aP Z.aL oF oP (listOf (Value.none :: (valsL ps).map Value.ref).toArray nL) ((t, ({ cls := .type "tuple", data := .seq #[.str "answer" a1, .none] } : Obj)) :: (Z.pa, listOf pits ki) :: rest) := fun hp => .tail _ (.tail _ (.tail _ (.tail _ (.tail _ hp))))
  refine wpAny_execs_cons (st8 (one := (one : Int)) (nd := Z.nd) (its := Z.its) (kn := Z.kn) (x := .ref (Z.xs one)) X T B F7 N8' ((g7 _ (by decide) (by decide)).trans m7) ((g7 _ (by decide) (by decide)).trans m3) ((g7 _ (by decide) (by decide)).trans m4) ((g7 _ (by decide) (by decide)).trans m5) ((g7 _ (by decide) (by decide)).trans O.nodes)
    (hmem V.nodes) (by omega) (by omega) (by simpa using V.node one h7) (gives_rdset_setLocale rfl (by simp only [List.size_toArray, List.length_cons, List.length_map]; have := valsL_len ps; omega) X T B V.lower CH O8 FL8 RD8 h2 h7 H) fun h8 k8 t2 l8 R8 F8 N8 => ?_)
  obtain ⟨b1, l0, ⟨n8, rfl⟩, rfl, lt8⟩ := R8
  refine wpAny_execs_cons (st9_none (t := t2) (d := t) X T B F8 N8 (if_pos rfl) ((if_neg (by decide)).trans (if_pos rfl)) (.head _) (.tail _ (.tail _ (.tail _ (.tail _ (.head _))))) (ne_same (.head _) (.tail _ (.tail _ (.tail _ (.tail _ (.head _)))))) fun h9 k9 F9 N9 => ?_)
  have eL : (Value.none :: (valsL ps).map Value.ref).toArray.push (Value.ref v) = (Value.none :: (valsL (ps ++ [(1, nm, v)])).map Value.ref).toArray := by
    rw [valsL_push]
    simp [hitL]
  rw [eL] at N9
  refine tail_fin (W := 1) (ps := ps) (oF := oF) (oP := oP) (nL := n8) (te := t6) (tw := tw) (tn := tn) X T B F9 V (news_sub N9 (by kqd_sub)) hsz' PA ((if_neg (by decide)).trans ((if_neg (by decide)).trans e6)) ((g8 _ _ (by decide) (by decide) (by decide)).trans m3) ((g8 _ _ (by decide) (by decide) (by decide)).trans m4) ((g8 _ _ (by decide) (by decide) (by decide)).trans m5) ((g8 _ _ (by decide) (by decide) (by decide)).trans O.past) ((g8 _ _ (by decide) (by decide) (by decide)).trans O.locales) fun h10 k10 ta kj F10 N11 V11 PA11 => ?_
  exact hQ _ _ _ _ _ _ _ _ kvF kvP F10 (g8 _) N11 V11 ⟨D.dF, D.dP, D.hF.other (by decide) _ _, D.hP.other (by decide) _ _, by rw [List.length_append]; have := D.lF; omega, by rw [List.length_append]; have := D.lP; omega, ⟨n8, rfl⟩⟩ PA11
theorem tail_zero_setFeature {one : Nat} {v : Addr} {nm : Str} {to tw tn : Tok}
   (X : (hd.heap_39 w.params).In h₀) (T : Top topProg loose mean mg mb h₀) (B : Below callerA h₀ [] h₀) (CH : CodeHd h₀ c9 P9) (F : Fr h₀ L s.heap m) (V : Inv w.params Z par ips rest) (D : Tot w kvF kvP oF oP oL ps)
   (N : News h₀ L s.heap (Led Z oF oP oL pits ki rest)) (hsz : ps.length < 900) (PA : PastAt rest pits ps) (H : Ends par (some one) (some 0)) (h2 : 2 ≤ one) (h7 : one < 7) (hnm : nm.length ≤ 1000)
   (m1 : m "end" = some (.int (one : Int) to)) (m3 : m "way" = some (.int 2 tw)) (m4 : m "name" = some (.str nm tn)) (m5 : m "value" = some (.ref v)) (m7 : m "one" = some (.int (one : Int) to)) (O : Loc Z m)
   (hQ : ∀ h' tk m' ta kj oF' oP' oL' kvF' kvP', Fr h₀ L h' m' → (∀ z : Str, z ≠ ("end" : Str) → z ≠ ("due" : Str) → z ≠ ("told" : Str) → m' z = m z) → News h₀ L h' (Led Z oF' oP' oL' (pits.push (.ref ta)) kj ((ta, tupObj3 2 tw nm tn v) :: rest)) →
      Inv w.params Z par ips ((ta, tupObj3 2 tw nm tn v) :: rest) → Tot w kvF' kvP' oF' oP' oL' (ps ++ [(2, nm, v)]) → PastAt ((ta, tupObj3 2 tw nm tn v) :: rest) (pits.push (.ref ta)) (ps ++ [(2, nm, v)]) → Q .next { s with heap := h', toks := tk }) :
   wpAny (model PySem.Challenge.rw_kp0119_10.row.prog w) (callerA.deeper (envOf "law" lawScope L fa cd)) (execs [nth forBody 6, nth forBody 7, nth forBody 8, nth forBody 9, nth forBody 10, nth forBody 11] (envOf "law" lawScope L fa cd)) Q E s := by
  have hpl := PA.size
  have hsz' : pits.size < 1000 := by omega
  obtain ⟨nL, rfl⟩ := D.loc
  refine wpAny_execs_cons (st6 (ap := Z.ap) (ips := ips) (kp := Z.kp) X T B F N (.tail _ (.tail _ (.tail _ (.tail _ V.parents)))) V.val H m1 O.parents fun h6 k6 m6 t6 F6 same6 e6 N6 => ?_)
  have g : ∀ z : Str, z ≠ ("end" : Str) → m6 z = m z := same6
  refine wpAny_execs_cons (st7 X T B F6 N6 e6 ((g _ (by decide)).trans m3) ((g _ (by decide)).trans m4) ((g _ (by decide)).trans m5) ((g _ (by decide)).trans O.past) (gives_due_set2 (te := t6) X T B hnm) fun h7' k7 t l R7 F7 N7 => ?_)
  have g7 : ∀ z : Str, z ≠ ("end" : Str) → z ≠ ("due" : Str) → (if z = ("due" : Str) then some (Value.ref t) else m6 z) = m z := fun z p q => (if_neg q).trans (g z p)
  have g8 : ∀ (t2 : Addr) (z : Str), z ≠ ("end" : Str) → z ≠ ("due" : Str) → z ≠ ("told" : Str) → (if z = ("told" : Str) then some (Value.ref t2) else if z = ("due" : Str) then some (Value.ref t) else m6 z) = m z := fun t2 z p q r => (if_neg r).trans (g7 z p q)
  obtain ⟨a1, rfl, lt7⟩ := R7
  have N8' : News h₀ L h7' (led3 Z.aF Z.aP Z.aL oF oP (listOf (Value.none :: (valsL ps).map Value.ref).toArray nL) ((t, ({ cls := .type "tuple", data := .seq #[.str "answer" a1, .none] } : Obj)) :: (Z.pa, listOf pits ki) :: rest)) := news_sub N7 (by kqd_sub)
  have O8 : Off3 Z.aF Z.aP Z.aL ((t, ({ cls := .type "tuple", data := .seq #[.str "answer" a1, .none] } : Obj)) :: (Z.pa, listOf pits ki) :: rest) := V.big.grow lt7
  have FL8 := V.filters.mono (news' := (t, ({ cls := .type "tuple", data := .seq #[.str "answer" a1, .none] } : Obj)) :: (Z.pa, listOf pits ki) :: rest) fun p hp => .tail _ (.tail _ hp)
  have RD8 := V.reader.mono (news' := (t, ({ cls := .type "tuple", data := .seq #[.str "answer" a1, .none] } : Obj)) :: (Z.pa, listOf pits ki) :: rest) fun p hp => .tail _ (.tail _ hp)
  have hmem : ∀ {p}, p ∈ rest → p ∈ led3 Z.aF Z.aP Z.aL oF oP (listOf (Value.none :: (valsL ps).map Value.ref).toArray nL) ((t, ({ cls := .type "tuple", data := .seq #[.str "answer" a1, .none] } : Obj)) :: (Z.pa, listOf pits ki) :: rest) := fun hp => .tail _ (.tail _ (.tail _ (.tail _ (.tail _ hp))))
  refine wpAny_execs_cons (st8 (one := (one : Int)) (nd := Z.nd) (its := Z.its) (kn := Z.kn) (x := .ref (Z.xs one)) X T B F7 N8' ((g7 _ (by decide) (by decide)).trans m7) ((g7 _ (by decide) (by decide)).trans m3) ((g7 _ (by decide) (by decide)).trans m4) ((g7 _ (by decide) (by decide)).trans m5) ((g7 _ (by decide) (by decide)).trans O.nodes)
    (hmem V.nodes) (by omega) (by omega) (by simpa using V.node one h7) (gives_rdset_setFeature D.dF (by have := D.lF; omega) X T B V.lower CH O8 FL8 RD8 h2 h7 H) fun h8 k8 t2 l8 R8 F8 N8 => ?_)
  obtain ⟨b1, l0, ⟨o2, hD2, rfl⟩, rfl, lt8⟩ := R8
  refine wpAny_execs_cons (st9_none (t := t2) (d := t) X T B F8 N8 (if_pos rfl) ((if_neg (by decide)).trans (if_pos rfl)) (.head _) (.tail _ (.tail _ (.tail _ (.tail _ (.head _))))) (ne_same (.head _) (.tail _ (.tail _ (.tail _ (.tail _ (.head _)))))) fun h9 k9 F9 N9 => ?_)
  have eL : (Value.none :: (valsL ps).map Value.ref).toArray = (Value.none :: (valsL (ps ++ [(2, nm, v)])).map Value.ref).toArray := by
    rw [valsL_push]
    simp [hitL]
  rw [eL] at N9
  refine tail_fin (W := 2) (ps := ps) (oF := o2) (oP := oP) (nL := nL) (te := t6) (tw := tw) (tn := tn) X T B F9 V (news_sub N9 (by kqd_sub)) hsz' PA ((if_neg (by decide)).trans ((if_neg (by decide)).trans e6)) ((g8 _ _ (by decide) (by decide) (by decide)).trans m3) ((g8 _ _ (by decide) (by decide) (by decide)).trans m4) ((g8 _ _ (by decide) (by decide) (by decide)).trans m5) ((g8 _ _ (by decide) (by decide) (by decide)).trans O.past) ((g8 _ _ (by decide) (by decide) (by decide)).trans O.locales) fun h10 k10 ta kj F10 N11 V11 PA11 => ?_
  exact hQ _ _ _ _ _ _ _ _ (merged kvF [(nm, Value.ref v)]) kvP F10 (g8 _) N11 V11 ⟨hD2, D.dP, D.hF.push _ _, D.hP.other (by decide) _ _, by rw [List.length_append]; have := D.lF; have := stored_len kvF nm (.ref v); simp only [List.length_cons, List.length_nil]; omega, by rw [List.length_append]; have := D.lP; omega, ⟨nL, rfl⟩⟩ PA11
theorem tail_zero_setProperty {one : Nat} {v : Addr} {nm : Str} {to tw tn : Tok}
   (X : (hd.heap_39 w.params).In h₀) (T : Top topProg loose mean mg mb h₀) (B : Below callerA h₀ [] h₀) (CH : CodeHd h₀ c9 P9) (F : Fr h₀ L s.heap m) (V : Inv w.params Z par ips rest) (D : Tot w kvF kvP oF oP oL ps)
   (N : News h₀ L s.heap (Led Z oF oP oL pits ki rest)) (hsz : ps.length < 900) (PA : PastAt rest pits ps) (H : Ends par (some one) (some 0)) (h2 : 2 ≤ one) (h7 : one < 7) (hnm : nm.length ≤ 1000)
   (m1 : m "end" = some (.int (one : Int) to)) (m3 : m "way" = some (.int 3 tw)) (m4 : m "name" = some (.str nm tn)) (m5 : m "value" = some (.ref v)) (m7 : m "one" = some (.int (one : Int) to)) (O : Loc Z m)
   (hQ : ∀ h' tk m' ta kj oF' oP' oL' kvF' kvP', Fr h₀ L h' m' → (∀ z : Str, z ≠ ("end" : Str) → z ≠ ("due" : Str) → z ≠ ("told" : Str) → m' z = m z) → News h₀ L h' (Led Z oF' oP' oL' (pits.push (.ref ta)) kj ((ta, tupObj3 3 tw nm tn v) :: rest)) →
      Inv w.params Z par ips ((ta, tupObj3 3 tw nm tn v) :: rest) → Tot w kvF' kvP' oF' oP' oL' (ps ++ [(3, nm, v)]) → PastAt ((ta, tupObj3 3 tw nm tn v) :: rest) (pits.push (.ref ta)) (ps ++ [(3, nm, v)]) → Q .next { s with heap := h', toks := tk }) :
   wpAny (model PySem.Challenge.rw_kp0119_10.row.prog w) (callerA.deeper (envOf "law" lawScope L fa cd)) (execs [nth forBody 6, nth forBody 7, nth forBody 8, nth forBody 9, nth forBody 10, nth forBody 11] (envOf "law" lawScope L fa cd)) Q E s := by
  have hpl := PA.size
  have hsz' : pits.size < 1000 := by omega
  obtain ⟨nL, rfl⟩ := D.loc
  refine wpAny_execs_cons (st6 (ap := Z.ap) (ips := ips) (kp := Z.kp) X T B F N (.tail _ (.tail _ (.tail _ (.tail _ V.parents)))) V.val H m1 O.parents fun h6 k6 m6 t6 F6 same6 e6 N6 => ?_)
  have g : ∀ z : Str, z ≠ ("end" : Str) → m6 z = m z := same6
  refine wpAny_execs_cons (st7 X T B F6 N6 e6 ((g _ (by decide)).trans m3) ((g _ (by decide)).trans m4) ((g _ (by decide)).trans m5) ((g _ (by decide)).trans O.past) (gives_due_set3 (te := t6) X T B hnm) fun h7' k7 t l R7 F7 N7 => ?_)
  have g7 : ∀ z : Str, z ≠ ("end" : Str) → z ≠ ("due" : Str) → (if z = ("due" : Str) then some (Value.ref t) else m6 z) = m z := fun z p q => (if_neg q).trans (g z p)
  have g8 : ∀ (t2 : Addr) (z : Str), z ≠ ("end" : Str) → z ≠ ("due" : Str) → z ≠ ("told" : Str) → (if z = ("told" : Str) then some (Value.ref t2) else if z = ("due" : Str) then some (Value.ref t) else m6 z) = m z := fun t2 z p q r => (if_neg r).trans (g7 z p q)
  obtain ⟨a1, rfl, lt7⟩ := R7
  have N8' : News h₀ L h7' (led3 Z.aF Z.aP Z.aL oF oP (listOf (Value.none :: (valsL ps).map Value.ref).toArray nL) ((t, ({ cls := .type "tuple", data := .seq #[.str "answer" a1, .none] } : Obj)) :: (Z.pa, listOf pits ki) :: rest)) := news_sub N7 (by kqd_sub)
  have O8 : Off3 Z.aF Z.aP Z.aL ((t, ({ cls := .type "tuple", data := .seq #[.str "answer" a1, .none] } : Obj)) :: (Z.pa, listOf pits ki) :: rest) := V.big.grow lt7
  have FL8 := V.filters.mono (news' := (t, ({ cls := .type "tuple", data := .seq #[.str "answer" a1, .none] } : Obj)) :: (Z.pa, listOf pits ki) :: rest) fun p hp => .tail _ (.tail _ hp)
  have RD8 := V.reader.mono (news' := (t, ({ cls := .type "tuple", data := .seq #[.str "answer" a1, .none] } : Obj)) :: (Z.pa, listOf pits ki) :: rest) fun p hp => .tail _ (.tail _ hp)
  have hmem : ∀ {p}, p ∈ rest → p ∈ led3 Z.aF Z.aP Z.aL oF oP (listOf (Value.none :: (valsL ps).map Value.ref).toArray nL) ((t, ({ cls := .type "tuple", data := .seq #[.str "answer" a1, .none] } : Obj)) :: (Z.pa, listOf pits ki) :: rest) := fun hp => .tail _ (.tail _ (.tail _ (.tail _ (.tail _ hp))))
  refine wpAny_execs_cons (st8 (one := (one : Int)) (nd := Z.nd) (its := Z.its) (kn := Z.kn) (x := .ref (Z.xs one)) X T B F7 N8' ((g7 _ (by decide) (by decide)).trans m7) ((g7 _ (by decide) (by decide)).trans m3) ((g7 _ (by decide) (by decide)).trans m4) ((g7 _ (by decide) (by decide)).trans m5) ((g7 _ (by decide) (by decide)).trans O.nodes)
    (hmem V.nodes) (by omega) (by omega) (by simpa using V.node one h7) (gives_rdset_setProperty D.dP (by have := D.lP; omega) X T B V.lower CH O8 FL8 RD8 h2 h7 H) fun h8 k8 t2 l8 R8 F8 N8 => ?_)
  obtain ⟨b1, l0, ⟨o2, hD2, rfl⟩, rfl, lt8⟩ := R8
  refine wpAny_execs_cons (st9_none (t := t2) (d := t) X T B F8 N8 (if_pos rfl) ((if_neg (by decide)).trans (if_pos rfl)) (.head _) (.tail _ (.tail _ (.tail _ (.tail _ (.head _))))) (ne_same (.head _) (.tail _ (.tail _ (.tail _ (.tail _ (.head _)))))) fun h9 k9 F9 N9 => ?_)
  have eL : (Value.none :: (valsL ps).map Value.ref).toArray = (Value.none :: (valsL (ps ++ [(3, nm, v)])).map Value.ref).toArray := by
    rw [valsL_push]
    simp [hitL]
  rw [eL] at N9
  refine tail_fin (W := 3) (ps := ps) (oF := oF) (oP := o2) (nL := nL) (te := t6) (tw := tw) (tn := tn) X T B F9 V (news_sub N9 (by kqd_sub)) hsz' PA ((if_neg (by decide)).trans ((if_neg (by decide)).trans e6)) ((g8 _ _ (by decide) (by decide) (by decide)).trans m3) ((g8 _ _ (by decide) (by decide) (by decide)).trans m4) ((g8 _ _ (by decide) (by decide) (by decide)).trans m5) ((g8 _ _ (by decide) (by decide) (by decide)).trans O.past) ((g8 _ _ (by decide) (by decide) (by decide)).trans O.locales) fun h10 k10 ta kj F10 N11 V11 PA11 => ?_
  exact hQ _ _ _ _ _ _ _ _ kvF (merged kvP [(nm, Value.ref v)]) F10 (g8 _) N11 V11 ⟨D.dF, hD2, D.hF.other (by decide) _ _, D.hP.push _ _, by rw [List.length_append]; have := D.lF; omega, by rw [List.length_append]; have := D.lP; have := stored_len kvP nm (.ref v); simp only [List.length_cons, List.length_nil]; omega, ⟨nL, rfl⟩⟩ PA11
theorem tail_zero_getFeature {one : Nat} {v : Addr} {nm : Str} {to tw tn : Tok}
   (X : (hd.heap_39 w.params).In h₀) (T : Top topProg loose mean mg mb h₀) (B : Below callerA h₀ [] h₀) (CH : CodeHd h₀ c9 P9) (F : Fr h₀ L s.heap m) (V : Inv w.params Z par ips rest) (D : Tot w kvF kvP oF oP oL ps)
   (N : News h₀ L s.heap (Led Z oF oP oL pits ki rest)) (hsz : ps.length < 900) (PA : PastAt rest pits ps) (H : Ends par (some one) (some 0)) (h2 : 2 ≤ one) (h7 : one < 7) (hnm : nm.length ≤ 1000)
   (m1 : m "end" = some (.int (one : Int) to)) (m3 : m "way" = some (.int 4 tw)) (m4 : m "name" = some (.str nm tn)) (m5 : m "value" = some (.ref v)) (m7 : m "one" = some (.int (one : Int) to)) (O : Loc Z m)
   (hQ : ∀ h' tk m' ta kj oF' oP' oL' kvF' kvP', Fr h₀ L h' m' → (∀ z : Str, z ≠ ("end" : Str) → z ≠ ("due" : Str) → z ≠ ("told" : Str) → m' z = m z) → News h₀ L h' (Led Z oF' oP' oL' (pits.push (.ref ta)) kj ((ta, tupObj3 4 tw nm tn v) :: rest)) →
      Inv w.params Z par ips ((ta, tupObj3 4 tw nm tn v) :: rest) → Tot w kvF' kvP' oF' oP' oL' (ps ++ [(4, nm, v)]) → PastAt ((ta, tupObj3 4 tw nm tn v) :: rest) (pits.push (.ref ta)) (ps ++ [(4, nm, v)]) → Q .next { s with heap := h', toks := tk }) :
   wpAny (model PySem.Challenge.rw_kp0119_10.row.prog w) (callerA.deeper (envOf "law" lawScope L fa cd)) (execs [nth forBody 6, nth forBody 7, nth forBody 8, nth forBody 9, nth forBody 10, nth forBody 11] (envOf "law" lawScope L fa cd)) Q E s := by
  have hpl := PA.size
  have hsz' : pits.size < 1000 := by omega
  obtain ⟨nL, rfl⟩ := D.loc
  refine wpAny_execs_cons (st6 (ap := Z.ap) (ips := ips) (kp := Z.kp) X T B F N (.tail _ (.tail _ (.tail _ (.tail _ V.parents)))) V.val H m1 O.parents fun h6 k6 m6 t6 F6 same6 e6 N6 => ?_)
  have g : ∀ z : Str, z ≠ ("end" : Str) → m6 z = m z := same6
  refine wpAny_execs_cons (st7 X T B F6 N6 e6 ((g _ (by decide)).trans m3) ((g _ (by decide)).trans m4) ((g _ (by decide)).trans m5) ((g _ (by decide)).trans O.past) (gives_due_get4 (te := t6) X T B (.tail _ (.tail _ (.tail _ (.head _)))) (Nat.le_trans (Nat.le_of_lt hsz') (by decide)) (PA.mono fun p hp => .tail _ (.tail _ (.tail _ (.tail _ hp))))) fun h7' k7 t l R7 F7 N7 => ?_)
  have g7 : ∀ z : Str, z ≠ ("end" : Str) → z ≠ ("due" : Str) → (if z = ("due" : Str) then some (Value.ref t) else m6 z) = m z := fun z p q => (if_neg q).trans (g z p)
  have g8 : ∀ (t2 : Addr) (z : Str), z ≠ ("end" : Str) → z ≠ ("due" : Str) → z ≠ ("told" : Str) → (if z = ("told" : Str) then some (Value.ref t2) else if z = ("due" : Str) then some (Value.ref t) else m6 z) = m z := fun t2 z p q r => (if_neg r).trans (g7 z p q)
  have eL : (Value.none :: (valsL ps).map Value.ref).toArray = (Value.none :: (valsL (ps ++ [(4, nm, v)])).map Value.ref).toArray := by
    rw [valsL_push]
    simp [hitL]
  have DD : Tot w kvF kvP oF oP (listOf (Value.none :: (valsL (ps ++ [(4, nm, v)])).map Value.ref).toArray nL) (ps ++ [(4, nm, v)]) :=
    ⟨D.dF, D.dP, D.hF.other (by decide) _ _, D.hP.other (by decide) _ _, by rw [List.length_append]; have := D.lF; omega, by rw [List.length_append]; have := D.lP; omega, ⟨nL, rfl⟩⟩
  rcases R7 with ⟨hv, a1, a2, t9, rfl, lt7⟩ | ⟨l0, u, a1, hv, rfl, lt7⟩
  · have hk : valueAt kvF nm = none := by rw [D.hF nm]; have e : vals 2 nm ps = [] := hv; rw [e]; rfl
    have N8' : News h₀ L h7' (led3 Z.aF Z.aP Z.aL oF oP (listOf (Value.none :: (valsL ps).map Value.ref).toArray nL) ((t, ({ cls := .type "tuple", data := .seq #[.str "refused" a1, .ref t9] } : Obj)) :: (t9, ({ cls := .type "tuple", data := .seq #[.str nm a2] } : Obj)) :: (Z.pa, listOf pits ki) :: rest)) := news_sub N7 (by kqd_sub)
    have x9 : (t9, ({ cls := .type "tuple", data := .seq #[.str nm a2] } : Obj)) ∈ (t, ({ cls := .type "tuple", data := .seq #[.str "refused" a1, .ref t9] } : Obj)) :: (t9, ({ cls := .type "tuple", data := .seq #[.str nm a2] } : Obj)) :: Led Z oF oP (listOf (Value.none :: (valsL ps).map Value.ref).toArray nL) pits ki rest := .tail _ (.head _)
    have c1 : t9 ≠ Z.aF := fun e => absurd (news_eq N7 x9 (e ▸ .tail _ (.tail _ (.head _)))) (tup_ne (dict_cls D.dF) (by decide))
    have c2 : t9 ≠ Z.aP := fun e => absurd (news_eq N7 x9 (e ▸ .tail _ (.tail _ (.tail _ (.head _))))) (tup_ne (dict_cls D.dP) (by decide))
    have c3 : t9 ≠ Z.aL := fun e => absurd (news_eq N7 x9 (o' := listOf (Value.none :: (valsL ps).map Value.ref).toArray nL) (e ▸ .tail _ (.tail _ (.tail _ (.tail _ (.head _)))))) (tup_ne (c := "list") rfl (by decide))
    have O8 : Off3 Z.aF Z.aP Z.aL ((t, ({ cls := .type "tuple", data := .seq #[.str "refused" a1, .ref t9] } : Obj)) :: (t9, ({ cls := .type "tuple", data := .seq #[.str nm a2] } : Obj)) :: (Z.pa, listOf pits ki) :: rest) := (V.big.cons c1 c2 c3).cons (Nat.ne_of_gt (lt7 _ (.tail _ (.head _)))) (Nat.ne_of_gt (lt7 _ (.tail _ (.tail _ (.head _))))) (Nat.ne_of_gt (lt7 _ (.tail _ (.tail _ (.tail _ (.head _))))))
    have FL8 := V.filters.mono (news' := (t, ({ cls := .type "tuple", data := .seq #[.str "refused" a1, .ref t9] } : Obj)) :: (t9, ({ cls := .type "tuple", data := .seq #[.str nm a2] } : Obj)) :: (Z.pa, listOf pits ki) :: rest) fun p hp => .tail _ (.tail _ (.tail _ hp))
    have RD8 := V.reader.mono (news' := (t, ({ cls := .type "tuple", data := .seq #[.str "refused" a1, .ref t9] } : Obj)) :: (t9, ({ cls := .type "tuple", data := .seq #[.str nm a2] } : Obj)) :: (Z.pa, listOf pits ki) :: rest) fun p hp => .tail _ (.tail _ (.tail _ hp))
    have hmem : ∀ {p}, p ∈ rest → p ∈ led3 Z.aF Z.aP Z.aL oF oP (listOf (Value.none :: (valsL ps).map Value.ref).toArray nL) ((t, ({ cls := .type "tuple", data := .seq #[.str "refused" a1, .ref t9] } : Obj)) :: (t9, ({ cls := .type "tuple", data := .seq #[.str nm a2] } : Obj)) :: (Z.pa, listOf pits ki) :: rest) := fun hp => .tail _ (.tail _ (.tail _ (.tail _ (.tail _ (.tail _ hp)))))
    refine wpAny_execs_cons (st8 (one := (one : Int)) (nd := Z.nd) (its := Z.its) (kn := Z.kn) (x := .ref (Z.xs one)) X T B F7 N8' ((g7 _ (by decide) (by decide)).trans m7) ((g7 _ (by decide) (by decide)).trans m3) ((g7 _ (by decide) (by decide)).trans m4) ((g7 _ (by decide) (by decide)).trans m5) ((g7 _ (by decide) (by decide)).trans O.nodes)
      (hmem V.nodes) (by omega) (by omega) (by simpa using V.node one h7) (gives_rdmiss_getFeature D.dF hk V.loF X T B V.lower CH O8 FL8 RD8 h2 h7 H) fun h8 k8 t2 l8 R8 F8 N8 => ?_)
    obtain ⟨b1, t8, ot, nt, oc, od, rfl, lt8⟩ := R8
    refine wpAny_execs_cons (st9_no2 (t := t2) (d := t) X T B F8 N8 (if_pos rfl) ((if_neg (by decide)).trans (if_pos rfl)) (.head _) (by decide) (ne_miss (tn := tn) (tn' := a2) (t9 := t8) (d9 := t9) (.head _) (.tail _ (.tail _ (.tail _ (.tail _ (.tail _ (.head _)))))) (.tail _ (.head _)) oc od (.tail _ (.tail _ (.tail _ (.tail _ (.tail _ (.tail _ (.head _))))))) rfl rfl) fun h9 k9 F9 N9 => ?_)
    rw [eL] at N9
    refine tail_fin (W := 4) (ps := ps) (oF := oF) (oP := oP) (nL := nL) (te := t6) (tw := tw) (tn := tn) X T B F9 V (news_sub N9 (by kqd_sub)) hsz' PA ((if_neg (by decide)).trans ((if_neg (by decide)).trans e6)) ((g8 _ _ (by decide) (by decide) (by decide)).trans m3) ((g8 _ _ (by decide) (by decide) (by decide)).trans m4) ((g8 _ _ (by decide) (by decide) (by decide)).trans m5) ((g8 _ _ (by decide) (by decide) (by decide)).trans O.past) ((g8 _ _ (by decide) (by decide) (by decide)).trans O.locales) fun h10 k10 ta kj F10 N11 V11 PA11 => ?_
    exact hQ _ _ _ _ _ _ _ _ kvF kvP F10 (g8 _) N11 V11 DD PA11
  · have hk : valueAt kvF nm = some (.ref u) := by rw [D.hF nm]; have e : vals 2 nm ps = l0 ++ [u] := hv; rw [e]; simp
    have N8' : News h₀ L h7' (led3 Z.aF Z.aP Z.aL oF oP (listOf (Value.none :: (valsL ps).map Value.ref).toArray nL) ((t, ({ cls := .type "tuple", data := .seq #[.str "answer" a1, .ref u] } : Obj)) :: (Z.pa, listOf pits ki) :: rest)) := news_sub N7 (by kqd_sub)
    have O8 : Off3 Z.aF Z.aP Z.aL ((t, ({ cls := .type "tuple", data := .seq #[.str "answer" a1, .ref u] } : Obj)) :: (Z.pa, listOf pits ki) :: rest) := V.big.grow lt7
    have FL8 := V.filters.mono (news' := (t, ({ cls := .type "tuple", data := .seq #[.str "answer" a1, .ref u] } : Obj)) :: (Z.pa, listOf pits ki) :: rest) fun p hp => .tail _ (.tail _ hp)
    have RD8 := V.reader.mono (news' := (t, ({ cls := .type "tuple", data := .seq #[.str "answer" a1, .ref u] } : Obj)) :: (Z.pa, listOf pits ki) :: rest) fun p hp => .tail _ (.tail _ hp)
    have hmem : ∀ {p}, p ∈ rest → p ∈ led3 Z.aF Z.aP Z.aL oF oP (listOf (Value.none :: (valsL ps).map Value.ref).toArray nL) ((t, ({ cls := .type "tuple", data := .seq #[.str "answer" a1, .ref u] } : Obj)) :: (Z.pa, listOf pits ki) :: rest) := fun hp => .tail _ (.tail _ (.tail _ (.tail _ (.tail _ hp))))
    refine wpAny_execs_cons (st8 (one := (one : Int)) (nd := Z.nd) (its := Z.its) (kn := Z.kn) (x := .ref (Z.xs one)) X T B F7 N8' ((g7 _ (by decide) (by decide)).trans m7) ((g7 _ (by decide) (by decide)).trans m3) ((g7 _ (by decide) (by decide)).trans m4) ((g7 _ (by decide) (by decide)).trans m5) ((g7 _ (by decide) (by decide)).trans O.nodes)
      (hmem V.nodes) (by omega) (by omega) (by simpa using V.node one h7) (gives_rdget_getFeature D.dF hk X T B V.lower CH O8 FL8 RD8 h2 h7 H) fun h8 k8 t2 l8 R8 F8 N8 => ?_)
    obtain ⟨b1, rfl, lt8⟩ := R8
    refine wpAny_execs_cons (st9_ref (t := t2) (d := t) (u := u) X T B F8 N8 (if_pos rfl) ((if_neg (by decide)).trans (if_pos rfl)) (.head _) (.tail _ (.tail _ (.tail _ (.tail _ (.head _))))) (ne_same (.head _) (.tail _ (.tail _ (.tail _ (.tail _ (.head _)))))) fun h9 k9 F9 N9 => ?_)
    rw [eL] at N9
    refine tail_fin (W := 4) (ps := ps) (oF := oF) (oP := oP) (nL := nL) (te := t6) (tw := tw) (tn := tn) X T B F9 V (news_sub N9 (by kqd_sub)) hsz' PA ((if_neg (by decide)).trans ((if_neg (by decide)).trans e6)) ((g8 _ _ (by decide) (by decide) (by decide)).trans m3) ((g8 _ _ (by decide) (by decide) (by decide)).trans m4) ((g8 _ _ (by decide) (by decide) (by decide)).trans m5) ((g8 _ _ (by decide) (by decide) (by decide)).trans O.past) ((g8 _ _ (by decide) (by decide) (by decide)).trans O.locales) fun h10 k10 ta kj F10 N11 V11 PA11 => ?_
    exact hQ _ _ _ _ _ _ _ _ kvF kvP F10 (g8 _) N11 V11 DD PA11
theorem tail_zero_getProperty {one : Nat} {v : Addr} {nm : Str} {to tw tn : Tok}
   (X : (hd.heap_39 w.params).In h₀) (T : Top topProg loose mean mg mb h₀) (B : Below callerA h₀ [] h₀) (CH : CodeHd h₀ c9 P9) (F : Fr h₀ L s.heap m) (V : Inv w.params Z par ips rest) (D : Tot w kvF kvP oF oP oL ps)
   (N : News h₀ L s.heap (Led Z oF oP oL pits ki rest)) (hsz : ps.length < 900) (PA : PastAt rest pits ps) (H : Ends par (some one) (some 0)) (h2 : 2 ≤ one) (h7 : one < 7) (hnm : nm.length ≤ 1000)
   (m1 : m "end" = some (.int (one : Int) to)) (m3 : m "way" = some (.int 5 tw)) (m4 : m "name" = some (.str nm tn)) (m5 : m "value" = some (.ref v)) (m7 : m "one" = some (.int (one : Int) to)) (O : Loc Z m)
   (hQ : ∀ h' tk m' ta kj oF' oP' oL' kvF' kvP', Fr h₀ L h' m' → (∀ z : Str, z ≠ ("end" : Str) → z ≠ ("due" : Str) → z ≠ ("told" : Str) → m' z = m z) → News h₀ L h' (Led Z oF' oP' oL' (pits.push (.ref ta)) kj ((ta, tupObj3 5 tw nm tn v) :: rest)) →
      Inv w.params Z par ips ((ta, tupObj3 5 tw nm tn v) :: rest) → Tot w kvF' kvP' oF' oP' oL' (ps ++ [(5, nm, v)]) → PastAt ((ta, tupObj3 5 tw nm tn v) :: rest) (pits.push (.ref ta)) (ps ++ [(5, nm, v)]) → Q .next { s with heap := h', toks := tk }) :
   wpAny (model PySem.Challenge.rw_kp0119_10.row.prog w) (callerA.deeper (envOf "law" lawScope L fa cd)) (execs [nth forBody 6, nth forBody 7, nth forBody 8, nth forBody 9, nth forBody 10, nth forBody 11] (envOf "law" lawScope L fa cd)) Q E s := by
  have hpl := PA.size
  have hsz' : pits.size < 1000 := by omega
  obtain ⟨nL, rfl⟩ := D.loc
  refine wpAny_execs_cons (st6 (ap := Z.ap) (ips := ips) (kp := Z.kp) X T B F N (.tail _ (.tail _ (.tail _ (.tail _ V.parents)))) V.val H m1 O.parents fun h6 k6 m6 t6 F6 same6 e6 N6 => ?_)
  have g : ∀ z : Str, z ≠ ("end" : Str) → m6 z = m z := same6
  refine wpAny_execs_cons (st7 X T B F6 N6 e6 ((g _ (by decide)).trans m3) ((g _ (by decide)).trans m4) ((g _ (by decide)).trans m5) ((g _ (by decide)).trans O.past) (gives_due_get5 (te := t6) X T B (.tail _ (.tail _ (.tail _ (.head _)))) (Nat.le_trans (Nat.le_of_lt hsz') (by decide)) (PA.mono fun p hp => .tail _ (.tail _ (.tail _ (.tail _ hp))))) fun h7' k7 t l R7 F7 N7 => ?_)
  have g7 : ∀ z : Str, z ≠ ("end" : Str) → z ≠ ("due" : Str) → (if z = ("due" : Str) then some (Value.ref t) else m6 z) = m z := fun z p q => (if_neg q).trans (g z p)
  have g8 : ∀ (t2 : Addr) (z : Str), z ≠ ("end" : Str) → z ≠ ("due" : Str) → z ≠ ("told" : Str) → (if z = ("told" : Str) then some (Value.ref t2) else if z = ("due" : Str) then some (Value.ref t) else m6 z) = m z := fun t2 z p q r => (if_neg r).trans (g7 z p q)
  have eL : (Value.none :: (valsL ps).map Value.ref).toArray = (Value.none :: (valsL (ps ++ [(5, nm, v)])).map Value.ref).toArray := by
    rw [valsL_push]
    simp [hitL]
  have DD : Tot w kvF kvP oF oP (listOf (Value.none :: (valsL (ps ++ [(5, nm, v)])).map Value.ref).toArray nL) (ps ++ [(5, nm, v)]) :=
    ⟨D.dF, D.dP, D.hF.other (by decide) _ _, D.hP.other (by decide) _ _, by rw [List.length_append]; have := D.lF; omega, by rw [List.length_append]; have := D.lP; omega, ⟨nL, rfl⟩⟩
  rcases R7 with ⟨hv, a1, a2, t9, rfl, lt7⟩ | ⟨l0, u, a1, hv, rfl, lt7⟩
  · have hk : valueAt kvP nm = none := by rw [D.hP nm]; have e : vals 3 nm ps = [] := hv; rw [e]; rfl
    have N8' : News h₀ L h7' (led3 Z.aF Z.aP Z.aL oF oP (listOf (Value.none :: (valsL ps).map Value.ref).toArray nL) ((t, ({ cls := .type "tuple", data := .seq #[.str "refused" a1, .ref t9] } : Obj)) :: (t9, ({ cls := .type "tuple", data := .seq #[.str nm a2] } : Obj)) :: (Z.pa, listOf pits ki) :: rest)) := news_sub N7 (by kqd_sub)
    have x9 : (t9, ({ cls := .type "tuple", data := .seq #[.str nm a2] } : Obj)) ∈ (t, ({ cls := .type "tuple", data := .seq #[.str "refused" a1, .ref t9] } : Obj)) :: (t9, ({ cls := .type "tuple", data := .seq #[.str nm a2] } : Obj)) :: Led Z oF oP (listOf (Value.none :: (valsL ps).map Value.ref).toArray nL) pits ki rest := .tail _ (.head _)
    have c1 : t9 ≠ Z.aF := fun e => absurd (news_eq N7 x9 (e ▸ .tail _ (.tail _ (.head _)))) (tup_ne (dict_cls D.dF) (by decide))
    have c2 : t9 ≠ Z.aP := fun e => absurd (news_eq N7 x9 (e ▸ .tail _ (.tail _ (.tail _ (.head _))))) (tup_ne (dict_cls D.dP) (by decide))
    have c3 : t9 ≠ Z.aL := fun e => absurd (news_eq N7 x9 (o' := listOf (Value.none :: (valsL ps).map Value.ref).toArray nL) (e ▸ .tail _ (.tail _ (.tail _ (.tail _ (.head _)))))) (tup_ne (c := "list") rfl (by decide))
    have O8 : Off3 Z.aF Z.aP Z.aL ((t, ({ cls := .type "tuple", data := .seq #[.str "refused" a1, .ref t9] } : Obj)) :: (t9, ({ cls := .type "tuple", data := .seq #[.str nm a2] } : Obj)) :: (Z.pa, listOf pits ki) :: rest) := (V.big.cons c1 c2 c3).cons (Nat.ne_of_gt (lt7 _ (.tail _ (.head _)))) (Nat.ne_of_gt (lt7 _ (.tail _ (.tail _ (.head _))))) (Nat.ne_of_gt (lt7 _ (.tail _ (.tail _ (.tail _ (.head _))))))
    have FL8 := V.filters.mono (news' := (t, ({ cls := .type "tuple", data := .seq #[.str "refused" a1, .ref t9] } : Obj)) :: (t9, ({ cls := .type "tuple", data := .seq #[.str nm a2] } : Obj)) :: (Z.pa, listOf pits ki) :: rest) fun p hp => .tail _ (.tail _ (.tail _ hp))
    have RD8 := V.reader.mono (news' := (t, ({ cls := .type "tuple", data := .seq #[.str "refused" a1, .ref t9] } : Obj)) :: (t9, ({ cls := .type "tuple", data := .seq #[.str nm a2] } : Obj)) :: (Z.pa, listOf pits ki) :: rest) fun p hp => .tail _ (.tail _ (.tail _ hp))
    have hmem : ∀ {p}, p ∈ rest → p ∈ led3 Z.aF Z.aP Z.aL oF oP (listOf (Value.none :: (valsL ps).map Value.ref).toArray nL) ((t, ({ cls := .type "tuple", data := .seq #[.str "refused" a1, .ref t9] } : Obj)) :: (t9, ({ cls := .type "tuple", data := .seq #[.str nm a2] } : Obj)) :: (Z.pa, listOf pits ki) :: rest) := fun hp => .tail _ (.tail _ (.tail _ (.tail _ (.tail _ (.tail _ hp)))))
    refine wpAny_execs_cons (st8 (one := (one : Int)) (nd := Z.nd) (its := Z.its) (kn := Z.kn) (x := .ref (Z.xs one)) X T B F7 N8' ((g7 _ (by decide) (by decide)).trans m7) ((g7 _ (by decide) (by decide)).trans m3) ((g7 _ (by decide) (by decide)).trans m4) ((g7 _ (by decide) (by decide)).trans m5) ((g7 _ (by decide) (by decide)).trans O.nodes)
      (hmem V.nodes) (by omega) (by omega) (by simpa using V.node one h7) (gives_rdmiss_getProperty D.dP hk V.loP X T B V.lower CH O8 FL8 RD8 h2 h7 H) fun h8 k8 t2 l8 R8 F8 N8 => ?_)
    obtain ⟨b1, t8, ot, nt, oc, od, rfl, lt8⟩ := R8
    refine wpAny_execs_cons (st9_no2 (t := t2) (d := t) X T B F8 N8 (if_pos rfl) ((if_neg (by decide)).trans (if_pos rfl)) (.head _) (by decide) (ne_miss (tn := tn) (tn' := a2) (t9 := t8) (d9 := t9) (.head _) (.tail _ (.tail _ (.tail _ (.tail _ (.tail _ (.head _)))))) (.tail _ (.head _)) oc od (.tail _ (.tail _ (.tail _ (.tail _ (.tail _ (.tail _ (.head _))))))) rfl rfl) fun h9 k9 F9 N9 => ?_)
    rw [eL] at N9
    refine tail_fin (W := 5) (ps := ps) (oF := oF) (oP := oP) (nL := nL) (te := t6) (tw := tw) (tn := tn) X T B F9 V (news_sub N9 (by kqd_sub)) hsz' PA ((if_neg (by decide)).trans ((if_neg (by decide)).trans e6)) ((g8 _ _ (by decide) (by decide) (by decide)).trans m3) ((g8 _ _ (by decide) (by decide) (by decide)).trans m4) ((g8 _ _ (by decide) (by decide) (by decide)).trans m5) ((g8 _ _ (by decide) (by decide) (by decide)).trans O.past) ((g8 _ _ (by decide) (by decide) (by decide)).trans O.locales) fun h10 k10 ta kj F10 N11 V11 PA11 => ?_
    exact hQ _ _ _ _ _ _ _ _ kvF kvP F10 (g8 _) N11 V11 DD PA11
  · have hk : valueAt kvP nm = some (.ref u) := by rw [D.hP nm]; have e : vals 3 nm ps = l0 ++ [u] := hv; rw [e]; simp
    have N8' : News h₀ L h7' (led3 Z.aF Z.aP Z.aL oF oP (listOf (Value.none :: (valsL ps).map Value.ref).toArray nL) ((t, ({ cls := .type "tuple", data := .seq #[.str "answer" a1, .ref u] } : Obj)) :: (Z.pa, listOf pits ki) :: rest)) := news_sub N7 (by kqd_sub)
    have O8 : Off3 Z.aF Z.aP Z.aL ((t, ({ cls := .type "tuple", data := .seq #[.str "answer" a1, .ref u] } : Obj)) :: (Z.pa, listOf pits ki) :: rest) := V.big.grow lt7
    have FL8 := V.filters.mono (news' := (t, ({ cls := .type "tuple", data := .seq #[.str "answer" a1, .ref u] } : Obj)) :: (Z.pa, listOf pits ki) :: rest) fun p hp => .tail _ (.tail _ hp)
    have RD8 := V.reader.mono (news' := (t, ({ cls := .type "tuple", data := .seq #[.str "answer" a1, .ref u] } : Obj)) :: (Z.pa, listOf pits ki) :: rest) fun p hp => .tail _ (.tail _ hp)
    have hmem : ∀ {p}, p ∈ rest → p ∈ led3 Z.aF Z.aP Z.aL oF oP (listOf (Value.none :: (valsL ps).map Value.ref).toArray nL) ((t, ({ cls := .type "tuple", data := .seq #[.str "answer" a1, .ref u] } : Obj)) :: (Z.pa, listOf pits ki) :: rest) := fun hp => .tail _ (.tail _ (.tail _ (.tail _ (.tail _ hp))))
    refine wpAny_execs_cons (st8 (one := (one : Int)) (nd := Z.nd) (its := Z.its) (kn := Z.kn) (x := .ref (Z.xs one)) X T B F7 N8' ((g7 _ (by decide) (by decide)).trans m7) ((g7 _ (by decide) (by decide)).trans m3) ((g7 _ (by decide) (by decide)).trans m4) ((g7 _ (by decide) (by decide)).trans m5) ((g7 _ (by decide) (by decide)).trans O.nodes)
      (hmem V.nodes) (by omega) (by omega) (by simpa using V.node one h7) (gives_rdget_getProperty D.dP hk X T B V.lower CH O8 FL8 RD8 h2 h7 H) fun h8 k8 t2 l8 R8 F8 N8 => ?_)
    obtain ⟨b1, rfl, lt8⟩ := R8
    refine wpAny_execs_cons (st9_ref (t := t2) (d := t) (u := u) X T B F8 N8 (if_pos rfl) ((if_neg (by decide)).trans (if_pos rfl)) (.head _) (.tail _ (.tail _ (.tail _ (.tail _ (.head _))))) (ne_same (.head _) (.tail _ (.tail _ (.tail _ (.tail _ (.head _)))))) fun h9 k9 F9 N9 => ?_)
    rw [eL] at N9
    refine tail_fin (W := 5) (ps := ps) (oF := oF) (oP := oP) (nL := nL) (te := t6) (tw := tw) (tn := tn) X T B F9 V (news_sub N9 (by kqd_sub)) hsz' PA ((if_neg (by decide)).trans ((if_neg (by decide)).trans e6)) ((g8 _ _ (by decide) (by decide) (by decide)).trans m3) ((g8 _ _ (by decide) (by decide) (by decide)).trans m4) ((g8 _ _ (by decide) (by decide) (by decide)).trans m5) ((g8 _ _ (by decide) (by decide) (by decide)).trans O.past) ((g8 _ _ (by decide) (by decide) (by decide)).trans O.locales) fun h10 k10 ta kj F10 N11 V11 PA11 => ?_
    exact hQ _ _ _ _ _ _ _ _ kvF kvP F10 (g8 _) N11 V11 DD PA11
end
end
section
open PySem PySem.W PyProof.Rows PySem.Calls PySem.SeqAt
section
variable {w : World} {h₀ : Heap} {mg mb : Str → Option Value} {loose : List Str} {mean : ExcName → Option Value} {Z : Nm} {par : Nat → Option Nat} {ips : List Value} {rest : List (Addr × Obj)} {kvF kvP : List (Str × Value)} {oF oP oL io : Obj} {pits : Array Value} {ki : Nat} {ps : Past} {L fa I : Addr} {cd : Value} {m : Str → Option Value} {s : Shared} {E : Value → Shared → Prop} {Q : Flow → Shared → Prop} {c9 P9 : Addr} {nT : Nat}
theorem cls_ne {o o' : Obj} {a b : String} (h : o.cls = .type a) (h' : o'.cls = .type b) (hc : a ≠ b) : o ≠ o' := fun e => by
  subst e
  rw [h] at h'
  injection h' with h'
  exact hc h'
structure OffI (Z : Nm) (I : Addr) : Prop where
  f : I ≠ Z.aF
  p : I ≠ Z.aP
  l : I ≠ Z.aL
  a : I ≠ Z.pa
theorem offI {h : Heap} (N : News h₀ L h ((I, io) :: Led Z oF oP oL pits ki rest)) (D : Tot w kvF kvP oF oP oL ps) (hio : io.cls = .type "list_iterator") : OffI Z I := by
  obtain ⟨nL, e⟩ := D.loc
  have cL : oL.cls = .type "list" := by rw [e]
  refine ⟨fun e => ?_, fun e => ?_, fun e => ?_, fun e => ?_⟩ <;> subst e
  · exact cls_ne hio (dict_cls D.dF) (by decide) (news_eq N (.head _) (.tail _ (.head _)))
  · exact cls_ne hio (dict_cls D.dP) (by decide) (news_eq N (.head _) (.tail _ (.tail _ (.head _))))
  · exact cls_ne hio cL (by decide) (news_eq N (.head _) (.tail _ (.tail _ (.tail _ (.head _)))))
  · exact cls_ne (b := "list") hio rfl (by decide) (news_eq N (.head _) (.tail _ (.tail _ (.tail _ (.tail _ (.head _))))))
theorem Loc.set {a : Str} {v : Option Value} (O : Loc Z m) (h1 : ("nodes" : Str) ≠ a) (h2 : ("parents" : Str) ≠ a) (h3 : ("past" : Str) ≠ a) (h4 : ("locales" : Str) ≠ a) : Loc Z (fun z => if z = a then v else m z) :=
  ⟨(if_neg h1).trans O.nodes, (if_neg h2).trans O.parents, (if_neg h3).trans O.past, (if_neg h4).trans O.locales⟩
/-- statements 6..11 of a turn, at any end -/
theorem turn_tail {W : Int} {one : Nat} {v : Addr} {nm : Str} {to tw tn : Tok} (h1 : 1 ≤ W) (h5 : W ≤ 5)
   (X : (hd.heap_39 w.params).In h₀) (T : Top topProg loose mean mg mb h₀) (B : Below callerA h₀ [] h₀) (CH : CodeHd h₀ c9 P9) (F : Fr h₀ L s.heap m) (V : Inv w.params Z par ips rest) (D : Tot w kvF kvP oF oP oL ps)
   (N : News h₀ L s.heap ((I, io) :: Led Z oF oP oL pits ki rest)) (hio : io.cls = .type "list_iterator") (NI : ∀ p ∈ Led Z oF oP oL pits ki rest, p.1 ≠ I) (hps : ps.length ≤ nT) (hn : nT < 900) (PA : PastAt rest pits ps) (h2 : 2 ≤ one) (h7 : one < 7) (hnm : nm.length ≤ 1000)
   (m1 : m "end" = some (.int (one : Int) to)) (m3 : m "way" = some (.int W tw)) (m4 : m "name" = some (.str nm tn)) (m5 : m "value" = some (.ref v)) (m7 : m "one" = some (.int (one : Int) to)) (O : Loc Z m)
   (hQ : ∀ h' tk m' news', Fr h₀ L h' m' → Loc Z m' → News h₀ L h' ((I, io) :: news') → Good w Z (nT + 1) news' → (∀ p ∈ news', p.1 ≠ I) → Q .next { s with heap := h', toks := tk }) :
   wpAny (model PySem.Challenge.rw_kp0119_10.row.prog w) (callerA.deeper (envOf "law" lawScope L fa cd)) (execs [nth forBody 6, nth forBody 7, nth forBody 8, nth forBody 9, nth forBody 10, nth forBody 11] (envOf "law" lawScope L fa cd)) Q E s := by
  have hpl := PA.size
  have hsz : pits.size ≤ 1000 := by omega
  have hOI := offI N D hio
  have LO : ∀ {m' : Str → Option Value}, (∀ z : Str, z ≠ ("end" : Str) → z ≠ ("due" : Str) → z ≠ ("told" : Str) → m' z = m z) → Loc Z m' := fun h =>
    ⟨(h _ (by decide) (by decide) (by decide)).trans O.nodes, (h _ (by decide) (by decide) (by decide)).trans O.parents, (h _ (by decide) (by decide) (by decide)).trans O.past, (h _ (by decide) (by decide) (by decide)).trans O.locales⟩
  have sub : ∀ p ∈ rest, p ∈ (I, io) :: Led Z oF oP oL pits ki rest := fun p hp => .tail _ (.tail _ (.tail _ (.tail _ (.tail _ hp))))
  have same : Good w Z (nT + 1) (Led Z oF oP oL pits ki rest) := ⟨par, ips, rest, oF, oP, oL, kvF, kvP, pits, ki, ps, rfl, V, D, PA, by omega⟩
  obtain ⟨nL, hoL⟩ := D.loc
  obtain ⟨ysL, y, hy⟩ := last_split ((valsL ps).map Value.ref) .none
  have hl : (Z.aL, listOf (ysL ++ [y]).toArray nL) ∈ (I, io) :: Led Z oF oP oL pits ki rest := by
    rw [← hy, ← hoL]
    exact .tail _ (.tail _ (.tail _ (.head _)))
  have hpa : (Z.pa, listOf pits ki) ∈ (I, io) :: Led Z oF oP oL pits ki rest := .tail _ (.tail _ (.tail _ (.tail _ (.head _))))
  have hx : Z.its[one]? = some (.ref (Z.xs one)) := V.node one h7
  obtain ⟨r, H, hr⟩ := ends_ex V.lower (one + 1) one (by omega) h7
  rcases hr with rfl | rfl | rfl
  · exact tail_none (ap := Z.ap) (nd := Z.nd) (pa := Z.pa) (aL := Z.aL) (ips := ips) (its := Z.its) (kp := Z.kp) (kn := Z.kn) h1 h5 X T B F N (sub _ V.parents) V.val H h2 h7 (sub _ V.nodes) hx (V.filters.mono sub) V.lower hpa hsz (PA.mono sub) hl hy.symm hnm m1 O.parents m3 m4 m5 O.nodes m7 O.past O.locales
      fun h' tk m' F' g' N' => hQ _ _ _ _ F' (LO g') N' same NI
  · have V' := V.grow (o := io) hOI.f hOI.p hOI.l hOI.a
    have N0 : News h₀ L s.heap (Led Z oF oP oL pits ki ((I, io) :: rest)) := news_sub N (by kqd_sub)
    have fin : ∀ (W' : Int) h' tk m' ta kj oF' oP' oL' kvF' kvP', Fr h₀ L h' m' → (∀ z : Str, z ≠ ("end" : Str) → z ≠ ("due" : Str) → z ≠ ("told" : Str) → m' z = m z) → News h₀ L h' (Led Z oF' oP' oL' (pits.push (.ref ta)) kj ((ta, tupObj3 W' tw nm tn v) :: (I, io) :: rest)) →
        Inv w.params Z par ips ((ta, tupObj3 W' tw nm tn v) :: (I, io) :: rest) → Tot w kvF' kvP' oF' oP' oL' (ps ++ [(W', nm, v)]) → PastAt ((ta, tupObj3 W' tw nm tn v) :: (I, io) :: rest) (pits.push (.ref ta)) (ps ++ [(W', nm, v)]) → Q .next { s with heap := h', toks := tk } :=
      fun W' h' tk m' ta kj oF' oP' oL' kvF' kvP' F' g' N' V11 D' _ => by
        refine hQ _ _ _ (Led Z oF' oP' oL' (pits.push (.ref ta)) kj ((ta, tupObj3 W' tw nm tn v) :: rest)) F' (LO g') (news_sub N' (by kqd_sub)) ⟨par, ips, _, oF', oP', oL', kvF', kvP', _, kj, _, rfl, V.grow (V11.off.f _ (.head _)) (V11.off.p _ (.head _)) (V11.off.l _ (.head _)) (V11.offp _ (.head _)), D', (PA.mono fun p hp => .tail _ hp).push (p := (W', nm, v)) (.head _), by rw [List.length_append]; simp only [List.length_cons, List.length_nil]; omega⟩ fun p hp => ?_
        rcases List.mem_cons.mp hp with rfl | hp
        · exact hOI.f.symm
        rcases List.mem_cons.mp hp with rfl | hp
        · exact hOI.p.symm
        rcases List.mem_cons.mp hp with rfl | hp
        · exact hOI.l.symm
        rcases List.mem_cons.mp hp with rfl | hp
        · exact hOI.a.symm
        rcases List.mem_cons.mp hp with rfl | hp
        · intro e
          have e : ta = I := e
          subst e
          exact cls_ne (a := "tuple") rfl hio (by decide) (news_eq N' (.tail _ (.tail _ (.tail _ (.tail _ (.head _))))) (.tail _ (.tail _ (.tail _ (.tail _ (.tail _ (.head _)))))))
        · exact NI p (.tail _ (.tail _ (.tail _ (.tail _ hp))))
    have PA0 : PastAt ((I, io) :: rest) pits ps := PA.mono fun p hp => .tail _ hp
    have hW : W = 1 ∨ W = 2 ∨ W = 3 ∨ W = 4 ∨ W = 5 := by omega
    rcases hW with rfl | rfl | rfl | rfl | rfl
    · exact tail_zero_setLocale X T B CH F V' D N0 (by omega) PA0 H h2 h7 hnm m1 m3 m4 m5 m7 O (fin 1)
    · exact tail_zero_setFeature X T B CH F V' D N0 (by omega) PA0 H h2 h7 hnm m1 m3 m4 m5 m7 O (fin 2)
    · exact tail_zero_setProperty X T B CH F V' D N0 (by omega) PA0 H h2 h7 hnm m1 m3 m4 m5 m7 O (fin 3)
    · exact tail_zero_getFeature X T B CH F V' D N0 (by omega) PA0 H h2 h7 hnm m1 m3 m4 m5 m7 O (fin 4)
    · exact tail_zero_getProperty X T B CH F V' D N0 (by omega) PA0 H h2 h7 hnm m1 m3 m4 m5 m7 O (fin 5)
  · have hW : W = 1 ∨ W = 2 ∨ W = 3 ∨ W = 4 ∨ W = 5 := by omega
    rcases hW with rfl | rfl | rfl | rfl | rfl
    · exact tail_one_setLocale (ap := Z.ap) (nd := Z.nd) (pa := Z.pa) (aL := Z.aL) (ips := ips) (its := Z.its) (kp := Z.kp) (kn := Z.kn) (sub _ V.i1) (sub _ V.d1) X T B F N (sub _ V.parents) V.val H h2 h7 (sub _ V.nodes) hx (V.filters.mono sub) V.lower hpa hsz (PA.mono sub) hl hy.symm hnm m1 O.parents m3 m4 m5 O.nodes m7 O.past O.locales fun h' tk m' F' g' N' => hQ _ _ _ _ F' (LO g') N' same NI
    · exact tail_one_setFeature (ap := Z.ap) (nd := Z.nd) (pa := Z.pa) (aL := Z.aL) (ips := ips) (its := Z.its) (kp := Z.kp) (kn := Z.kn) (sub _ V.i1) (sub _ V.d1) X T B F N (sub _ V.parents) V.val H h2 h7 (sub _ V.nodes) hx (V.filters.mono sub) V.lower hpa hsz (PA.mono sub) hl hy.symm hnm m1 O.parents m3 m4 m5 O.nodes m7 O.past O.locales fun h' tk m' F' g' N' => hQ _ _ _ _ F' (LO g') N' same NI
    · exact tail_one_setProperty (ap := Z.ap) (nd := Z.nd) (pa := Z.pa) (aL := Z.aL) (ips := ips) (its := Z.its) (kp := Z.kp) (kn := Z.kn) (sub _ V.i1) (sub _ V.d1) X T B F N (sub _ V.parents) V.val H h2 h7 (sub _ V.nodes) hx (V.filters.mono sub) V.lower hpa hsz (PA.mono sub) hl hy.symm hnm m1 O.parents m3 m4 m5 O.nodes m7 O.past O.locales fun h' tk m' F' g' N' => hQ _ _ _ _ F' (LO g') N' same NI
    · exact tail_one_getFeature (ap := Z.ap) (nd := Z.nd) (pa := Z.pa) (aL := Z.aL) (ips := ips) (its := Z.its) (kp := Z.kp) (kn := Z.kn) (sub _ V.i1) (sub _ V.d1) X T B F N (sub _ V.parents) V.val H h2 h7 (sub _ V.nodes) hx (V.filters.mono sub) V.lower hpa hsz (PA.mono sub) hl hy.symm hnm m1 O.parents m3 m4 m5 O.nodes m7 O.past O.locales fun h' tk m' F' g' N' => hQ _ _ _ _ F' (LO g') N' same NI
    · exact tail_one_getProperty (ap := Z.ap) (nd := Z.nd) (pa := Z.pa) (aL := Z.aL) (ips := ips) (its := Z.its) (kp := Z.kp) (kn := Z.kn) (sub _ V.i1) (sub _ V.d1) X T B F N (sub _ V.parents) V.val H h2 h7 (sub _ V.nodes) hx (V.filters.mono sub) V.lower hpa hsz (PA.mono sub) hl hy.symm hnm m1 O.parents m3 m4 m5 O.nodes m7 O.past O.locales fun h' tk m' F' g' N' => hQ _ _ _ _ F' (LO g') N' same NI
/-- statement 3 when the way is 0: another parent -/
theorem turn_parent {one n : Int} {tw tn to : Tok} (h2 : 2 ≤ one) (h7 : one < 7) (hn : 0 ≤ n)
   (X : (hd.heap_39 w.params).In h₀) (T : Top topProg loose mean mg mb h₀) (B : Below callerA h₀ [] h₀) (F : Fr h₀ L s.heap m) (V : Inv w.params Z par ips rest) (D : Tot w kvF kvP oF oP oL ps)
   (N : News h₀ L s.heap ((I, io) :: Led Z oF oP oL pits ki rest)) (hio : io.cls = .type "list_iterator") (NI : ∀ p ∈ Led Z oF oP oL pits ki rest, p.1 ≠ I) (hps : ps.length ≤ nT) (PA : PastAt rest pits ps)
   (m1 : m "way" = some (.int 0 tw)) (m2 : m "n" = some (.int n tn)) (m3 : m "one" = some (.int one to)) (O : Loc Z m)
   (hQ : ∀ h' tk news', Fr h₀ L h' m → News h₀ L h' ((I, io) :: news') → Good w Z (nT + 1) news' → (∀ p ∈ news', p.1 ≠ I) → Q .cont { s with heap := h', toks := tk }) :
   wpAny (model PySem.Challenge.rw_kp0119_10.row.prog w) (callerA.deeper (envOf "law" lawScope L fa cd)) (exec (nth forBody 3) (envOf "law" lawScope L fa cd)) Q E s := by
  obtain ⟨k1, rfl⟩ : ∃ k1 : Nat, one = (k1 : Int) := ⟨one.toNat, (Int.toNat_of_nonneg (by omega)).symm⟩
  have h2' : 2 ≤ k1 := by omega
  have h7' : k1 < 7 := by omega
  have Nr : News h₀ L s.heap rest := news_sub N fun p hp => .tail _ (.tail _ (.tail _ (.tail _ (.tail _ hp))))
  have hA := V.parents
  have hB := V.filters.dict k1 h2' h7'
  have IA : I ≠ Z.ap := fun e => by
    subst e
    exact cls_ne (b := "list") hio rfl (by decide) (news_eq N (.head _) (.tail _ (.tail _ (.tail _ (.tail _ (.tail _ hA))))))
  have IB : I ≠ Z.ds k1 := fun e => by
    subst e
    exact cls_ne (b := "dict") hio rfl (by decide) (news_eq N (.head _) (.tail _ (.tail _ (.tail _ (.tail _ (.tail _ hB))))))
  have AB : Z.ds k1 ≠ Z.ap := Nat.ne_of_lt (V.lt k1 h2' h7')
  have K : ∀ {x : Addr} {o : Obj}, (x, o) ∈ rest → (x ≠ Z.ap ∨ o ≠ _) → (x ≠ Z.ds k1 ∨ o ≠ _) → (x, o) ∈ (I, io) :: (Z.aF, oF) :: (Z.aP, oP) :: (Z.aL, oL) :: (Z.pa, listOf pits ki) :: cut Z.ap (Z.ds k1) rest :=
    fun hp na nb => .tail _ (.tail _ (.tail _ (.tail _ (.tail _ (cut_keep Nr hA hB hp na nb)))))
  have off : ∀ (a : Addr) (o : Obj), (a, o) ∈ rest → I ≠ a → (∀ p ∈ cut Z.ap (Z.ds k1) rest, p.1 ≠ a) → ∀ p ∈ (I, io) :: (Z.aF, oF) :: (Z.aP, oP) :: (Z.aL, oL) :: (Z.pa, listOf pits ki) :: cut Z.ap (Z.ds k1) rest, p.1 ≠ a := fun a o ha hI hc p hp => by
    rcases List.mem_cons.mp hp with rfl | hp
    · exact hI
    rcases List.mem_cons.mp hp with rfl | hp
    · exact (V.off.f _ ha).symm
    rcases List.mem_cons.mp hp with rfl | hp
    · exact (V.off.p _ ha).symm
    rcases List.mem_cons.mp hp with rfl | hp
    · exact (V.off.l _ ha).symm
    rcases List.mem_cons.mp hp with rfl | hp
    · exact (V.offp _ ha).symm
    · exact hc p hp
  have good : ∀ (p : Option Nat) (t : Tok), (∀ k, p = some k → k < k1) → Good w Z (nT + 1) (Led Z oF oP oL pits ki ((Z.ap, listOf (ips.set k1 (nodeInt p t)).toArray Z.kp) :: (Z.ds k1, dictOf (nodeEs w.params (Z.q k1) (Z.u k1) (nodeV Z.xs p)) 5) :: cut Z.ap (Z.ds k1) rest)) := fun p t hp =>
    ⟨_, _, _, oF, oP, oL, kvF, kvP, pits, ki, ps, rfl, V.parent Nr h2' h7' hp, D, PA.parent Nr hA hB, by omega⟩
  have noI : ∀ (o1 o2 : Obj), ∀ p ∈ Led Z oF oP oL pits ki ((Z.ap, o1) :: (Z.ds k1, o2) :: cut Z.ap (Z.ds k1) rest), p.1 ≠ I := fun o1 o2 p hp => by
    rcases List.mem_cons.mp hp with rfl | hp
    · exact NI _ (.head _)
    rcases List.mem_cons.mp hp with rfl | hp
    · exact NI _ (.tail _ (.head _))
    rcases List.mem_cons.mp hp with rfl | hp
    · exact NI _ (.tail _ (.tail _ (.head _)))
    rcases List.mem_cons.mp hp with rfl | hp
    · exact NI _ (.tail _ (.tail _ (.tail _ (.head _))))
    rcases List.mem_cons.mp hp with rfl | hp
    · exact IA.symm
    rcases List.mem_cons.mp hp with rfl | hp
    · exact IB.symm
    · exact NI p (.tail _ (.tail _ (.tail _ (.tail _ (mem_cut.mp hp).1))))
  refine st3_zero (one := (k1 : Int)) (nd := Z.nd) (xs := Z.xs) (ips := ips) (its := Z.its) (kp := Z.kp) (kn := Z.kn) (dx := Z.ds k1) (q1 := Z.q k1) (u1 := Z.u k1) (pv := nodeV Z.xs (par k1)) (rest := (I, io) :: (Z.aF, oF) :: (Z.aP, oP) :: (Z.aL, oL) :: (Z.pa, listOf pits ki) :: cut Z.ap (Z.ds k1) rest) X T B F ?_ V.len ?_ ?_ (V.lt k1 h2' h7') hn h2 h7 m1 m2 m3 O.parents O.nodes ?_ (fun k a b => ?_) ?_ (fun h' tk F' N' => ?_) (fun h' tk k t a b F' N' => ?_)
  · intro p hp
    rcases List.mem_cons.mp hp with rfl | hp
    · exact .tail (α := Addr × Obj) (I, io) (.tail _ (.tail _ (.tail _ (.tail _ hA)))) |> N _
    rcases List.mem_cons.mp hp with rfl | hp
    · exact .tail (α := Addr × Obj) (I, io) (.tail _ (.tail _ (.tail _ (.tail _ hB)))) |> N _
    rcases List.mem_cons.mp hp with rfl | hp
    · exact N _ (.head _)
    rcases List.mem_cons.mp hp with rfl | hp
    · exact N _ (.tail _ (.head _))
    rcases List.mem_cons.mp hp with rfl | hp
    · exact N _ (.tail _ (.tail _ (.head _)))
    rcases List.mem_cons.mp hp with rfl | hp
    · exact N _ (.tail _ (.tail _ (.tail _ (.head _))))
    rcases List.mem_cons.mp hp with rfl | hp
    · exact N _ (.tail _ (.tail _ (.tail _ (.tail _ (.head _)))))
    · exact Nr _ (mem_cut.mp hp).1
  · intro p hp
    rcases List.mem_cons.mp hp with rfl | hp
    · exact AB
    · exact off _ _ hA IA (fun q hq => (mem_cut.mp hq).2.1) p hp
  · exact off _ _ hB IB (fun q hq => (mem_cut.mp hq).2.2)
  · exact K (V.filters.inst k1 h2' h7') (.inr fun e => by have e := congrArg Obj.cls e; cases e) (.inr fun e => by have e := congrArg Obj.cls e; cases e)
  · exact V.node k.toNat (by omega)
  · exact K V.nodes (.inl V.ndp) (.inr fun e => by have e := congrArg Obj.cls e; injection e with e; exact absurd e (by decide))
  · exact hQ _ _ _ F' (news_sub N' (by kqd_sub)) (good none 0 fun k e => by cases e) (noI _ _)
  · obtain ⟨k2, rfl⟩ : ∃ k2 : Nat, k = (k2 : Int) := ⟨k.toNat, (Int.toNat_of_nonneg (by omega)).symm⟩
    exact hQ _ _ _ F' (news_sub N' (by kqd_sub)) (good (some k2) t fun k e => by cases e; omega) (noI _ _)
theorem turn {way n : Int} {tw tn : Tok} (hw0 : 0 ≤ way) (hw7 : way < 7) (hn0 : 0 ≤ n) {news : List (Addr × Obj)}
   (X : (hd.heap_39 w.params).In h₀) (T : Top topProg loose mean mg mb h₀) (B : Below callerA h₀ [] h₀) (CH : CodeHd h₀ c9 P9) (F : Fr h₀ L s.heap m) (G : Good w Z nT news)
   (N : News h₀ L s.heap ((I, io) :: news)) (NI : ∀ p ∈ news, p.1 ≠ I) (hio : io.cls = .type "list_iterator") (hn : nT < 900)
   (m1 : m "way" = some (.int way tw)) (m2 : m "n" = some (.int n tn)) (O : Loc Z m)
   (hQ : ∀ fl h' tk m' news', (fl = .next ∨ fl = .cont) → Fr h₀ L h' m' → Loc Z m' → News h₀ L h' ((I, io) :: news') → Good w Z (nT + 1) news' → (∀ p ∈ news', p.1 ≠ I) → Q fl { s with heap := h', toks := tk }) :
   wpAny (model PySem.Challenge.rw_kp0119_10.row.prog w) (callerA.deeper (envOf "law" lawScope L fa cd)) (execs forBody (envOf "law" lawScope L fa cd)) Q E s := by
  obtain ⟨par, ips, rest, oF, oP, oL, kvF, kvP, pits, ki, ps, rfl, V, D, PA, hps⟩ := G.is
  rw [body_split]
  refine wpAny_execs_cons (st0 X T B F N hn0 m2 fun h1 k1 t1 F1 N1 => ?_)
  refine wpAny_execs_cons (st1 X T B F1 N1 hn0 ((if_neg (by decide)).trans m2) fun h2 k2 nm t2 hnm F2 N2 => ?_)
  refine wpAny_execs_cons (st2 X T B F2 N2 hn0 ((if_neg (by decide)).trans ((if_neg (by decide)).trans m2)) fun h3 k3 v F3 N3 => ?_)
  have b0 : 0 ≤ n.fmod 5 := Int.fmod_nonneg_of_pos _ (by decide)
  have b1 : n.fmod 5 < 5 := Int.fmod_lt_of_pos _ (by decide)
  have O3 := ((O.set (a := "one") (v := some (.int (2 + n.fmod 5) t1)) (by decide) (by decide) (by decide) (by decide)).set (a := "name") (v := some (.str nm t2)) (by decide) (by decide) (by decide) (by decide)).set (a := "value") (v := some (.ref v)) (by decide) (by decide) (by decide) (by decide)
  by_cases hz : way = 0
  · subst hz
    exact wpAny_execs_cons (turn_parent (one := 2 + n.fmod 5) (n := n) (tw := tw) (tn := tn) (to := t1) (by omega) (by omega) hn0 X T B F3 V D N3 hio NI hps PA ((if_neg (by decide)).trans ((if_neg (by decide)).trans ((if_neg (by decide)).trans m1))) ((if_neg (by decide)).trans ((if_neg (by decide)).trans ((if_neg (by decide)).trans m2))) ((if_neg (by decide)).trans ((if_neg (by decide)).trans (if_pos rfl))) O3
      fun h' tk news' F' N' G' I' => hQ _ _ _ _ _ (.inr rfl) F' O3 N' G' I')
  · refine wpAny_execs_cons (st3_other (way := way) (tw := tw) X T B F3 N3 (by omega) ((if_neg (by decide)).trans ((if_neg (by decide)).trans ((if_neg (by decide)).trans m1))) fun h4 k4 F4 N4 => ?_)
    refine wpAny_execs_cons (st4 (way := way) (tn := tw) X T B F4 N4 hw0 hw7 ((if_neg (by decide)).trans ((if_neg (by decide)).trans ((if_neg (by decide)).trans m1))) fun h5 k5 t5 F5 N5 => ?_)
    refine wpAny_execs_cons (st5 (v := .int (2 + n.fmod 5) t1) X T B F5 N5 ((if_neg (by decide)).trans ((if_neg (by decide)).trans ((if_neg (by decide)).trans (if_pos rfl)))) fun h6 k6 F6 N6 => ?_)
    obtain ⟨k9, hk9⟩ : ∃ k9 : Nat, 2 + n.fmod 5 = (k9 : Int) := ⟨(2 + n.fmod 5).toNat, (Int.toNat_of_nonneg (by omega)).symm⟩
    have O6 := (O3.set (a := "way") (v := some (.int (if 5 < way then 5 else way) t5)) (by decide) (by decide) (by decide) (by decide)).set (a := "end") (v := some (.int (2 + n.fmod 5) t1)) (by decide) (by decide) (by decide) (by decide)
    exact turn_tail (W := if 5 < way then 5 else way) (one := k9) (v := v) (nm := nm) (to := t1) (tw := t5) (tn := t2) (by split <;> omega) (by split <;> omega) X T B CH F6 V D N6 hio NI hps hn PA (by omega) (by omega) hnm
      (by rw [← hk9]; exact if_pos rfl) ((if_neg (by decide)).trans (if_pos rfl)) ((if_neg (by decide)).trans ((if_neg (by decide)).trans ((if_neg (by decide)).trans (if_pos rfl)))) ((if_neg (by decide)).trans ((if_neg (by decide)).trans (if_pos rfl)))
      (by rw [← hk9]; exact (if_neg (by decide)).trans ((if_neg (by decide)).trans ((if_neg (by decide)).trans ((if_neg (by decide)).trans (if_pos rfl))))) O6 fun h' tk m' news' F' O' N' G' I' => hQ _ _ _ _ _ (.inl rfl) F' O' N' G' I'
end
end
section
open PySem PySem.W PyProof.Rows PySem.Calls PySem.SeqAt
def forTarget : PySem.Expr := match forSt with | .For t _ _ _ _ => t | _ => default
section
variable {w : World} {h₀ : Heap} {mg mb : Str → Option Value} {loose : List Str} {mean : ExcName → Option Value} {Z : Nm} {rest news : List (Addr × Obj)} {L fa I : Addr} {cd : Value} {m : Str → Option Value} {s : Shared} {E : Value → Shared → Prop} {c9 P9 : Addr} {nT : Nat}
theorem for_assign {Q : Unit → Shared → Prop} {T9 : Addr} {way n : Int} {tw tn : Tok} (X : (hd.heap_39 w.params).In h₀) (T : Top topProg loose mean mg mb h₀) (B : Below callerA h₀ [] h₀) (F : Fr h₀ L s.heap m)
   (N : News h₀ L s.heap ((T9, ({ cls := .type "tuple", data := .seq #[.int way tw, .int n tn] } : Obj)) :: news))
   (hQ : ∀ h' tk, Fr h₀ L h' (fun z => if z = "n" then some (.int n tn) else if z = "way" then some (.int way tw) else m z) → News h₀ L h' ((T9, ({ cls := .type "tuple", data := .seq #[.int way tw, .int n tn] } : Obj)) :: news) → Q () { s with heap := h', toks := tk }) :
   wpAny (model PySem.Challenge.rw_kp0119_10.row.prog w) (callerA.deeper (envOf "law" lawScope L fa cd)) (assign forTarget (envOf "law" lawScope L fa cd) (.ref T9)) Q E s := by
  show wpAny (model PySem.Challenge.rw_kp0119_10.row.prog w) (callerA.deeper (envOf _ (Scope.mk _ _ _ _ _) _ _ _)) (assign (PySem.Expr.Tuple _ _ _) (envOf _ (Scope.mk _ _ _ _ _) _ _ _) _) _ _ _
  revert X; k_fill; intro X
  k_steps
  all_goals exact hQ _ _ (by assumption) (by assumption)
end
end
section
open PySem PySem.W PyProof.Rows PySem.Calls PySem.SeqAt
section
variable {w : World} {h₀ : Heap} {mg mb : Str → Option Value} {loose : List Str} {mean : ExcName → Option Value} {Z : Nm} {rest news : List (Addr × Obj)} {L fa I : Addr} {cd : Value} {m : Str → Option Value} {s : Shared} {E : Value → Shared → Prop} {Q : Flow → Shared → Prop} {c9 P9 : Addr} {nT : Nat}
theorem Good.steps (G : Good w Z nT news) : (Z.ax, listOf Z.sv.toArray Z.sn) ∈ news := by
  obtain ⟨par, ips, rest, oF, oP, oL, kvF, kvP, pits, ki, ps, rfl, V, D, PA, hps⟩ := G.is
  exact .tail _ (.tail _ (.tail _ (.tail _ V.steps)))
theorem Good.step (G : Good w Z nT news) {v : Value} (h : v ∈ Z.sv) : ∃ (T : Addr) (way n : Int) (tw tn : Tok), v = .ref T ∧ 0 ≤ way ∧ way < 7 ∧ 0 ≤ n ∧ (T, ({ cls := .type "tuple", data := .seq #[.int way tw, .int n tn] } : Obj)) ∈ news := by
  obtain ⟨par, ips, rest, oF, oP, oL, kvF, kvP, pits, ki, ps, rfl, V, D, PA, hps⟩ := G.is
  obtain ⟨i, hi⟩ := List.mem_iff_getElem?.mp h
  obtain ⟨T, way, n, tw, tn, a, b, c, d, e⟩ := V.step i v hi
  exact ⟨T, way, n, tw, tn, a, b, c, d, .tail _ (.tail _ (.tail _ (.tail _ e)))⟩
theorem items_rest (X : (hd.heap_39 w.params).In h₀) (T : Top topProg loose mean mg mb h₀) (B : Below callerA h₀ [] h₀) (CH : CodeHd h₀ c9 P9)
    (hQ : ∀ h' tk m' n' news', Fr h₀ L h' m' → News h₀ L h' news' → Good w Z n' news' → Q .next { s with heap := h', toks := tk }) :
    ∀ (l : List Value) (m : Str → Option Value) (news : List (Addr × Obj)) (nT : Nat), (∀ v ∈ l, v ∈ Z.sv) → Loc Z m → Good w Z nT news → (∀ p ∈ news, p.1 ≠ I) → nT + l.length ≤ 900 →
      ItemsRest PySem.Challenge.rw_kp0119_10.row.prog w (callerA.deeper (envOf "law" lawScope L fa cd)) E h₀ (envOf "law" lawScope L fa cd) forTarget forBody Q s [(I, "list_iterator")] [(Z.ax, listOf Z.sv.toArray Z.sn)] (l.map .val) m news
  | [], m, news, nT, _, _, G, _, _ => ItemsRest.zero fun h tk F N => hQ _ _ _ _ _ F N G
  | v :: r, m, news, nT, hl, O, G, NI, hn => ItemsRest.val fun h tk F => AllObj.cons fun io hio => AllObj.nil fun N => by
    obtain ⟨T9, way, n, tw, tn, rfl, w0, w7, n0, hT⟩ := G.step (hl v (.head _))
    have hn' : nT + (r.length + 1) ≤ 900 := hn
    refine for_assign (way := way) (n := n) (tw := tw) (tn := tn) (news := (I, io) :: news) X T B F (fun p hp => ?_) fun h1 k1 F1 N1 => ?_
    · rcases List.mem_cons.mp hp with rfl | hp
      · exact N _ (.tail _ hT)
      · exact N _ hp
    refine turn (way := way) (n := n) (tw := tw) (tn := tn) w0 w7 n0 X T B CH F1 G (news_sub N1 fun p hp => .tail _ hp) NI hio (by omega) ((if_neg (by decide)).trans (if_pos rfl)) (if_pos rfl)
      ((O.set (a := "way") (v := some (.int way tw)) (by decide) (by decide) (by decide) (by decide)).set (a := "n") (v := some (.int n tn)) (by decide) (by decide) (by decide) (by decide)) fun fl h' tk' m' news' hf F' O' N' G' I' => ?_
    have e : UnrEndW h₀ L { s with heap := h, toks := tk } [(I, io)] (fun m' n' => SubL [(Z.ax, listOf Z.sv.toArray Z.sn)] n' ∧ ItemsRest PySem.Challenge.rw_kp0119_10.row.prog w (callerA.deeper (envOf "law" lawScope L fa cd)) E h₀ (envOf "law" lawScope L fa cd) forTarget forBody Q s [(I, "list_iterator")] [(Z.ax, listOf Z.sv.toArray Z.sn)] (r.map .val) m' n') { s with heap := h', toks := tk' } :=
      ⟨h', tk', m', news', rfl, F', N', fun p hp q hq => by rw [List.mem_singleton.mp hq]; exact I' p hp, ⟨G'.steps, trivial⟩,
        items_rest X T B CH hQ r m' news' (nT + 1) (fun v h => hl v (.tail _ h)) O' G' I' (by omega)⟩
    rcases hf with rfl | rfl
    · exact e
    · exact e
theorem loop (X : (hd.heap_39 w.params).In h₀) (T : Top topProg loose mean mg mb h₀) (B : Below callerA h₀ [] h₀) (CH : CodeHd h₀ c9 P9) (F : Fr h₀ L s.heap m) (N : News h₀ L s.heap news) (O : Loc Z m) (G : Good w Z 0 news) (hlen : Z.sv.length ≤ 900)
    (hQ : ∀ h' tk m' n' news', Fr h₀ L h' m' → News h₀ L h' news' → Good w Z n' news' → Q .next { s with heap := h', toks := tk }) :
    wpAny (model PySem.Challenge.rw_kp0119_10.row.prog w) (callerA.deeper (envOf "law" lawScope L fa cd)) (pyIter (.ref Z.ax)) (fun it s₂ => TurnsAt PySem.Challenge.rw_kp0119_10.row.prog w (callerA.deeper (envOf "law" lawScope L fa cd)) h₀ (envOf "law" lawScope L fa cd) forTarget forBody Q E it s₂) E s :=
  iter_listTurns (env := envOf "law" lawScope L fa cd) rfl F N G.steps rfl rfl fun I hI => items_rest X T B CH hQ Z.sv m news 0 (fun _ h => h) O G (fun p hp => Nat.ne_of_lt (hI p hp)) (by omega)
end
end
section
open PySem PySem.W PyProof.Rows PySem.Calls PySem.SeqAt
abbrev stepTup (way : Int) (tw : Tok) (n : Int) (tn : Tok) : Obj := { cls := .type "tuple", data := .seq #[.int way tw, .int n tn] }
/-- a value that is a step of the ledger: a way below 7, a number -/
def IsStep (v : Value) (l : List (Addr × Obj)) : Prop := ∃ (T : Addr) (way n : Int) (tw tn : Tok), v = .ref T ∧ 0 ≤ way ∧ way < 7 ∧ 0 ≤ n ∧ (T, stepTup way tw n tn) ∈ l
theorem IsStep.mono {v : Value} {l l' : List (Addr × Obj)} (H : IsStep v l) (h : ∀ p ∈ l, p ∈ l') : IsStep v l' :=
  let ⟨T, a, b, c, d, e, f, g, i, k⟩ := H; ⟨T, a, b, c, d, e, f, g, i, h _ k⟩
def Tups (l : List (Addr × Obj)) : Prop := ∀ p ∈ l, p.2.cls = .type "tuple"
open LCg in
/-- a comprehension whose items are steps, each a new tuple -/
theorem rest_tups {prog : Program} {w : World} {A : Around} {h₀ : Heap} {L : Addr} {m : Str → Option Value} {env : Env} {elt : PySem.Expr} {x : Str} {scope : Scope} {cl : List (Str × Addr)} {s : Shared} {P : Nat → Value → Prop}
    {Fin : List Value → List (Addr × Obj) → Prop} {n : Nat} (W : List (Addr × Obj) → List (Addr × Obj))
    (turn : ∀ i ys t, i < n → ∀ v I oI C oC D m₂ h tk (E' : Value → Shared → Prop), P i v → NsObj oC m₂ → m₂ x = some v → Fr h₀ L h m → News h₀ L h ((I, oI) :: (C, oC) :: (D, LCg.lst ys) :: W t) → LCg.Off3 I C D (W t) → ((@Ne Nat I C) ∧ (@Ne Nat I D) ∧ (@Ne Nat C D)) →
      wpAny (model prog w) A (eval elt (compEnvC scope cl C env)) (CompEnd h₀ L m { s with heap := h, toks := tk } I oI C oC D (LCg.lst ys) (fun _ => True) (fun y l => ∃ T way tw k tk, y = .ref T ∧ 0 ≤ way ∧ way < 7 ∧ 0 ≤ k ∧ l = W ((T, stepTup way tw k tk) :: t))) E' { s with heap := h, toks := tk })
    (fin : ∀ ys t, ys.length = n → (∀ y ∈ ys, IsStep y t) → Tups t → Fin ys (W t)) :
    ∀ k i ys t, i + k = n → ys.length = i → (∀ y ∈ ys, IsStep y t) → Tups t → CompRest prog w A h₀ L m env elt x scope cl s (fun _ => True) P Fin k i ys (W t) := by
  intro k
  induction k with
  | zero =>
    intro i ys t hik hl hs ht
    exact CompRest.zero (fin ys t (by omega) hs ht)
  | succ k ih =>
    intro i ys t hik hl hs ht
    refine CompRest.succ ?_
    intro v I oI C oC D m₂ h tk E' hP hC hx F N off ne
    refine wpAny_mono (turn i ys t (by omega) v I oI C oC D m₂ h tk E' hP hC hx F N off ne) (fun y s' z => compEnd_mono z ?_) fun _ _ y => y
    rintro l ⟨T, way, tw, k2, tk2, rfl, w0, w7, k0, rfl⟩
    refine ih (i + 1) (ys ++ [.ref T]) _ (by omega) (by rw [List.length_append, hl]; rfl) (fun y hy => ?_) fun p hp => ?_
    · rcases List.mem_append.mp hy with hy | hy
      · exact (hs y hy).mono fun p hp => .tail _ hp
      · rw [List.mem_singleton.mp hy]
        exact ⟨T, way, k2, tw, tk2, rfl, w0, w7, k0, .head _⟩
    · rcases List.mem_cons.mp hp with rfl | hp
      · rfl
      · exact ht p hp
def isTup (p : Addr × Obj) : Bool := match p.2.cls with | .type c => c == "tuple" | _ => false
theorem IsStep.filter {v : Value} {l : List (Addr × Obj)} (H : IsStep v l) : IsStep v (l.filter isTup) :=
  let ⟨T, a, b, c, d, e, f, g, i, k⟩ := H; ⟨T, a, b, c, d, e, f, g, i, List.mem_filter.mpr ⟨k, rfl⟩⟩
theorem Tups.filter {l : List (Addr × Obj)} : Tups (l.filter isTup) := fun p hp => by
  have h := (List.mem_filter.mp hp).2
  unfold isTup at h
  split at h
  · rename_i c e
    rw [e, beq_iff_eq.mp h]
  · cases h
theorem step_cons {T : Addr} {way n : Int} {tw tn : Tok} {l : List (Addr × Obj)} {r : List Value} (hm : (T, stepTup way tw n tn) ∈ l) (h0 : 0 ≤ way) (h7 : way < 7) (hn : 0 ≤ n) (hr : ∀ v ∈ r, IsStep v l) : ∀ v ∈ Value.ref T :: r, IsStep v l := fun v hv => by
  rcases List.mem_cons.mp hv with rfl | hv
  · exact ⟨T, way, n, tw, tn, rfl, h0, h7, hn, hm⟩
  · exact hr v hv
theorem step_nil {l : List (Addr × Obj)} : ∀ v ∈ ([] : List Value), IsStep v l := fun _ h => nomatch h
theorem step_app {l : List (Addr × Obj)} {a b : List Value} (ha : ∀ v ∈ a, IsStep v l) (hb : ∀ v ∈ b, IsStep v l) : ∀ v ∈ a ++ b, IsStep v l := fun v hv => (List.mem_append.mp hv).elim (ha v) (hb v)
end
section
open PySem PySem.W PyProof.Rows PySem.Calls PySem.SeqAt
variable {w : World} {h₀ : Heap} {mg mb : Str → Option Value} {loose : List Str} {mean : ExcName → Option Value} {news : List (Addr × Obj)} {L fa : Addr} {cd : Value} {m : Str → Option Value} {s : Shared} {E : Value → Shared → Prop} {Q : Value → Shared → Prop}
theorem steps_fin {h' : Heap} {tk : Nat} {all t : List (Addr × Obj)} {D : Addr} {sv : List Value} (F : Fr h₀ L h' m) (N : News h₀ L h' all) (hD : (D, listOf sv.toArray 0) ∈ all) (hsub : ∀ p ∈ t ++ news, p ∈ all) (hst : ∀ v ∈ sv, IsStep v all) (hlen : sv.length ≤ 100) (hoff : ∀ p ∈ news, p.1 ≠ D)
   (hQ : ∀ t h' tk tups (sv : List Value) sn, Fr h₀ L h' m → News h₀ L h' ((t, ({ cls := .type "list", data := .seq sv.toArray sn } : Obj)) :: (tups ++ news)) → sv.length ≤ 100 → (∀ v ∈ sv, IsStep v tups) → Tups tups → (∀ p ∈ news, p.1 ≠ t) → Q (.ref t) { s with heap := h', toks := tk }) : Q (.ref D) { s with heap := h', toks := tk } :=
  hQ D h' tk (all.filter isTup) sv 0 F (fun p hp => by
    rcases List.mem_cons.mp hp with rfl | hp
    · exact N _ hD
    rcases List.mem_append.mp hp with hp | hp
    · exact N _ (List.mem_filter.mp hp).1
    · exact N _ (hsub _ (List.mem_append_right _ hp))) hlen (fun v hv => (hst v hv).filter) Tups.filter hoff
local macro_rules | `(tactic| walk_at "CompSrc") => `(tactic| (k_here; k_dflt (refine LCg.CompSrc.range (by rfl) (by k_asm) (by k_asm) (by assumption) (by exact small_one (by l_bnd) (by l_bnd) (by l_bnd) (by l_bnd)) (by first | exact rangeSize_nat _ _ | rfl) (by rw [PySem.sizeLine_eq]; omega) ?_); intro g'))
local macro_rules | `(tactic| walk_at "CompEnd") => `(tactic| (k_here; fail))
local macro_rules | `(tactic| walk_at "binaryOp Add ref ref") => `(tactic| (k_here; k_dflt (refine' add_led ?F ?N ?a ?b rfl ?_ ?z; (case F => k_asm); (case N => k_asm); (case a => first | exact (show (_, LCg.lst _) ∈ _ by k_mem) | k_mem); (case b => k_mem); (case z => (simp only [List.length_append, List.length_cons, List.length_nil, PySem.sizeLine_eq]; omega))); intro D' h' F' N' l1))
theorem steps_call (X : (hd.heap_39 w.params).In h₀) (T : Top topProg loose mean mg mb h₀) (B : Below callerA h₀ [] h₀) (F : Fr h₀ L s.heap m) {sc : Addr} {vs : List Value} {ks : List Int} {nn : Nat} (N : News h₀ L s.heap ((sc, ({ cls := .type "list", data := .seq vs.toArray nn } : Obj)) :: news))
   (hI : IntsAre vs ks) (hlen : ¬ 63 < ks.length)
   (hQ : ∀ t h' tk tups (sv : List Value) sn, Fr h₀ L h' m → News h₀ L h' ((t, ({ cls := .type "list", data := .seq sv.toArray sn } : Obj)) :: (tups ++ news)) → sv.length ≤ 100 → (∀ v ∈ sv, IsStep v tups) → Tups tups → (∀ p ∈ news, p.1 ≠ t) → Q (.ref t) { s with heap := h', toks := tk }) :
   wpAny (model PySem.Challenge.rw_kp0119_10.row.prog w) (callerA.deeper (envOf "law" lawScope L fa cd)) (call (.ref 630) [.ref sc]) Q E s := by
  show wpAny (model PySem.Challenge.rw_kp0119_10.row.prog w) (callerA.deeper (envOf _ (Scope.mk _ _ _ _ _) _ _ _)) _ _ _ _
  revert X
  k_fill
  intro X
  k_steps
  refine rest_tups (W := fun t => (_, _) :: (sc, _) :: (t ++ news)) (n := ((ks.length : Int) - 0).toNat) ?turn ?fin ((ks.length : Int) - 0).toNat 0 [] [] (by omega) rfl (fun _ h => nomatch h) (fun _ h => nomatch h)
  case turn =>
    intro i ys t hi v I oI C oC D m₂ h tk E' hv hC hx F N off ne
    obtain ⟨t9, rfl⟩ := hv
    have hlo9 : 0 ≤ (0 : Int) + (i : Int) := by omega
    have hhi9 : (0 : Int) + (i : Int) < (ks.length : Int) := by omega
    generalize (0 : Int) + (i : Int) = k at *
    have off0 := off
    simp only [LCg.Off3, and_true] at off
    k_steps
    (with_reducible rename _ ∧ _ ∧ _ ∧ _ ∧ _ ∧ AllLt _ _ => l9)
    refine LCg.CompEnd.intro (by assumption) (by assumption) ((_, _) :: (sc, _) :: (((_, stepTup _ _ _ _) :: t) ++ news)) (by kqd_sub) (LCg.Off3.of fun p hp => ?_) trivial ⟨_, _, _, _, _, rfl, Int.fmod_nonneg_of_pos _ (by decide), Int.fmod_lt_of_pos _ (by decide), ?_, rfl⟩
    · rcases List.mem_cons.mp hp with rfl | hp
      · exact off0.mem _ (.head _)
      rcases List.mem_cons.mp hp with rfl | hp
      · exact off0.mem _ (.tail _ (.head _))
      rcases List.mem_cons.mp hp with rfl | hp
      · exact ⟨Nat.ne_of_gt l9.1, Nat.ne_of_gt l9.2.1, Nat.ne_of_gt l9.2.2.1⟩
      · exact off0.mem _ (.tail _ (.tail _ hp))
    · split <;> omega
  case fin =>
    intro ys t hl hs ht
    dsimp only
    k_steps
    (with_reducible rename ∀ p : Addr × Obj, p ∈ _ → _ => l9)
    (with_reducible rename News h₀ L _ _ => kN)
    refine steps_fin (t := t) (news := news) (by assumption) kN (.head _) (by kqd_sub) ?st ?ln (fun p hp => Nat.ne_of_lt (l9 p ((show ∀ p ∈ t ++ news, p ∈ _ by kqd_sub) p (List.mem_append_right _ hp)))) hQ
    case st =>
      refine step_app (step_app (fun v hv => (hs v hv).mono fun p hp => (show ∀ p ∈ t ++ news, p ∈ _ by kqd_sub) p (List.mem_append_left _ hp)) ?_) ?_
      all_goals (repeat (refine' step_cons ?m ?a ?b ?c ?_; (case m => k_mem); (case a => decide); (case b => decide); (case c => decide)))
      all_goals exact step_nil
    case ln =>
      simp only [List.length_append, List.length_cons, List.length_nil]
      omega
end
section
open PySem PySem.W PyProof.Rows PySem.Calls
variable {z : Addr} {oz : Obj} {w : World} {h₀ : Heap} {mg mb : Str → Option Value} {loose : List Str} {mean : ExcName → Option Value} {news : List (Addr × Obj)} {L fa : Addr} {cd : Value} {m : Str → Option Value} {s : Shared} {E : Value → Shared → Prop} {Q : Value → Shared → Prop}
def tab5 {α : Type} (a b c d e : α) : Nat → α | 0 => a | 1 => b | 2 => c | 3 => d | _ => e
theorem node_fin {h' : Heap} {tk : Nat} {all : List (Addr × Obj)} {x d : Addr} {q0 q1 q2 q3 q4 : Nat} {u0 u1 u2 u3 : Value} (F : Fr h₀ L h' m) (N : News h₀ L h' all)
   (hx : (x, instObj 616 d) ∈ all) (hd' : (d, dictOf [ent w.params "_cont_handler" q0 u0, ent w.params "_dtd_handler" q1 u1, ent w.params "_ent_handler" q2 u2, ent w.params "_err_handler" q3 u3, ent w.params "_parent" q4 .none] 5) ∈ all)
   (hsub : ∀ p ∈ news, p ∈ all) (l9 : AllLt d news) (l8 : @LT.lt Nat _ d x)
   (hQ : ∀ x d q u h' tk, Fr h₀ L h' m → News h₀ L h' ((x, instObj 616 d) :: (d, dictOf (nodeEs w.params q u .none) 5) :: news) → (∀ p ∈ news, p.1 < x) → (∀ p ∈ news, p.1 < d) → @LT.lt Nat _ d x → Q (.ref x) { s with heap := h', toks := tk }) : Q (.ref x) { s with heap := h', toks := tk } :=
  hQ x d (tab5 q0 q1 q2 q3 q4) (tab5 u0 u1 u2 u3 .none) h' tk F (fun p hp => by
    rcases List.mem_cons.mp hp with rfl | hp
    · exact N _ hx
    rcases List.mem_cons.mp hp with rfl | hp
    · exact N _ hd'
    · exact N _ (hsub p hp)) (fun p hp => Nat.lt_trans (kst_ltOf l9 p hp) l8) (fun p hp => kst_ltOf l9 p hp) l8
theorem plain_fin {h' : Heap} {tk : Nat} {all : List (Addr × Obj)} {x d : Addr} {q0 q1 q2 q3 : Nat} {u0 u1 u2 u3 : Value} (F : Fr h₀ L h' m) (N : News h₀ L h' all)
   (hx : (x, instObj 405 d) ∈ all) (hd' : (d, dictOf [ent w.params "_cont_handler" q0 u0, ent w.params "_dtd_handler" q1 u1, ent w.params "_ent_handler" q2 u2, ent w.params "_err_handler" q3 u3] 4) ∈ all)
   (hsub : ∀ p ∈ news, p ∈ all) (l9 : AllLt d news) (l8 : @LT.lt Nat _ d x)
   (hQ : ∀ x d q u h' tk, Fr h₀ L h' m → News h₀ L h' ((x, instObj 405 d) :: (d, dictOf (plainEs w.params q u) 4) :: news) → (∀ p ∈ news, p.1 < x) → (∀ p ∈ news, p.1 < d) → @LT.lt Nat _ d x → Q (.ref x) { s with heap := h', toks := tk }) : Q (.ref x) { s with heap := h', toks := tk } :=
  hQ x d (tab5 q0 q1 q2 q3 0) (tab5 u0 u1 u2 u3 .none) h' tk F (fun p hp => by
    rcases List.mem_cons.mp hp with rfl | hp
    · exact N _ hx
    rcases List.mem_cons.mp hp with rfl | hp
    · exact N _ hd'
    · exact N _ (hsub p hp)) (fun p hp => Nat.lt_trans (kst_ltOf l9 p hp) l8) (fun p hp => kst_ltOf l9 p hp) l8
theorem plain_call (X : (hd.heap_39 w.params).In h₀) (T : Top topProg loose mean mg mb h₀) (B : Below callerA h₀ [] h₀) (F : Fr h₀ L s.heap m) (N : News h₀ L s.heap ((z, oz) :: news))
   (hQ : ∀ x d q u h' tk, Fr h₀ L h' m → News h₀ L h' ((x, instObj 405 d) :: (d, dictOf (plainEs w.params q u) 4) :: (z, oz) :: news) → (∀ p ∈ (z, oz) :: news, p.1 < x) → (∀ p ∈ (z, oz) :: news, p.1 < d) → @LT.lt Nat _ d x → Q (.ref x) { s with heap := h', toks := tk }) :
   wpAny (model PySem.Challenge.rw_kp0119_10.row.prog w) (callerA.deeper (envOf "law" lawScope L fa cd)) (call (.ref 405) []) Q E s := by
  show wpAny (model PySem.Challenge.rw_kp0119_10.row.prog w) (callerA.deeper (envOf _ (Scope.mk _ _ _ _ _) _ _ _)) _ _ _ _
  revert X
  k_fill
  intro X
  k_steps
  (with_reducible rename _ ∧ AllLt _ news => l9)
  (with_reducible rename News h₀ L _ _ => kN)
  exact plain_fin (news := (z, oz) :: news) (by assumption) kN (by k_mem) (by k_mem) (by kqd_sub) l9 (by assumption) hQ
theorem node_call (X : (hd.heap_39 w.params).In h₀) (T : Top topProg loose mean mg mb h₀) (B : Below callerA h₀ [] h₀) (F : Fr h₀ L s.heap m) (N : News h₀ L s.heap ((z, oz) :: news))
   (hQ : ∀ x d q u h' tk, Fr h₀ L h' m → News h₀ L h' ((x, instObj 616 d) :: (d, dictOf (nodeEs w.params q u .none) 5) :: (z, oz) :: news) → (∀ p ∈ (z, oz) :: news, p.1 < x) → (∀ p ∈ (z, oz) :: news, p.1 < d) → @LT.lt Nat _ d x → Q (.ref x) { s with heap := h', toks := tk }) :
   wpAny (model PySem.Challenge.rw_kp0119_10.row.prog w) (callerA.deeper (envOf "law" lawScope L fa cd)) (call (.ref 616) []) Q E s := by
  show wpAny (model PySem.Challenge.rw_kp0119_10.row.prog w) (callerA.deeper (envOf _ (Scope.mk _ _ _ _ _) _ _ _)) _ _ _ _
  revert X
  k_fill
  intro X
  k_steps
  (with_reducible rename _ ∧ AllLt _ news => l9)
  (with_reducible rename News h₀ L _ _ => kN)
  exact node_fin (news := (z, oz) :: news) (by assumption) kN (by k_mem) (by k_mem) (by kqd_sub) l9 (by assumption) hQ
end
section
open PySem PySem.W PyProof.Rows PySem.Calls
variable {w : World} {h₀ : Heap} {mg mb : Str → Option Value} {loose : List Str} {mean : ExcName → Option Value} {news : List (Addr × Obj)} {L fa : Addr} {cd : Value} {m : Str → Option Value} {s : Shared} {E : Value → Shared → Prop} {Q : Value → Shared → Prop}
def tab9 {α : Type} (a b c d e f g h i : α) : Nat → α | 0 => a | 1 => b | 2 => c | 3 => d | 4 => e | 5 => f | 6 => g | 7 => h | _ => i
/-- the reader as the law makes it: what the loop needs of it -/
theorem reader_fin {h' : Heap} {tk : Nat} {all : List (Addr × Obj)} {x d a b c e0 e1 e2 f0 f1 f2 f3 f4 c0 c1 c2 c3 c4 : Addr} {oF oP oL oS : Obj} {sc : Addr} {q0 q1 q2 q3 q4 q5 q6 q7 q8 : Nat} {u0 u1 u2 u3 : Value} {tp : Array Value} {co0 co1 co2 oc0 oc1 oc2 oc3 oc4 : Obj}
   {qu0 qu1 qu2 qu3 qu4 : Str} {pm0 pm1 pm2 pm3 pm4 ct0 ct1 ct2 ct3 ct4 : Value} {vs0 vs1 vs2 vs3 vs4 : Array Value} {t0 t1 t2 t3 t4 : Tok}
   (F : Fr h₀ L h' m) (N : News h₀ L h' all) (hx : (x, instObj 405 d) ∈ all)
   (hd' : (d, dictOf [ent w.params "_cont_handler" q0 u0, ent w.params "_dtd_handler" q1 u1, ent w.params "_ent_handler" q2 u2, ent w.params "_err_handler" q3 u3, ent w.params "setFeature" q4 (.ref f0), ent w.params "getFeature" q5 (.ref f1), ent w.params "setProperty" q6 (.ref f2), ent w.params "getProperty" q7 (.ref f3), ent w.params "setLocale" q8 (.ref f4)] 9) ∈ all)
   (hf0 : (f0, kla_obj "<lambda>" qu0 (lamArgs (lamAt 0)) (lamBody (lamAt 0)) (lamScope (lamAt 0)) [("features", e0)] pm0 c0 ct0) ∈ all) (hc0 : (c0, oc0) ∈ all) (hv0 : oc0.data = .fields vs0) (hn0 : vs0[1]? = some (.str qu0 t0))
   (hf1 : (f1, kla_obj "<lambda>" qu1 (lamArgs (lamAt 1)) (lamBody (lamAt 1)) (lamScope (lamAt 1)) [("features", e0)] pm1 c1 ct1) ∈ all) (hc1 : (c1, oc1) ∈ all) (hv1 : oc1.data = .fields vs1) (hn1 : vs1[1]? = some (.str qu1 t1))
   (hf2 : (f2, kla_obj "<lambda>" qu2 (lamArgs (lamAt 2)) (lamBody (lamAt 2)) (lamScope (lamAt 2)) [("properties", e1)] pm2 c2 ct2) ∈ all) (hc2 : (c2, oc2) ∈ all) (hv2 : oc2.data = .fields vs2) (hn2 : vs2[1]? = some (.str qu2 t2))
   (hf3 : (f3, kla_obj "<lambda>" qu3 (lamArgs (lamAt 3)) (lamBody (lamAt 3)) (lamScope (lamAt 3)) [("properties", e1)] pm3 c3 ct3) ∈ all) (hc3 : (c3, oc3) ∈ all) (hv3 : oc3.data = .fields vs3) (hn3 : vs3[1]? = some (.str qu3 t3))
   (hf4 : (f4, kla_obj "<lambda>" qu4 (lamArgs (lamAt 4)) (lamBody (lamAt 4)) (lamScope (lamAt 4)) [("locales", e2)] pm4 c4 ct4) ∈ all) (hc4 : (c4, oc4) ∈ all) (hv4 : oc4.data = .fields vs4) (hn4 : vs4[1]? = some (.str qu4 t4))
   (he0 : (e0, co0) ∈ all) (hk0 : co0.data = .cell (some (.ref a)))
   (he1 : (e1, co1) ∈ all) (hk1 : co1.data = .cell (some (.ref b)))
   (he2 : (e2, co2) ∈ all) (hk2 : co2.data = .cell (some (.ref c)))
   (ht : (620, tabObj tp) ∈ all) (hcc : (c, oL) ∈ all) (hb : (b, oP) ∈ all) (ha : (a, oF) ∈ all) (hs : (sc, oS) ∈ all) (hlt : @LT.lt Nat _ c d)
   (hQ : ∀ x d (fn ce q0 : Nat → Nat) (u0 : Nat → Value) (qual : Nat → Str) (pm ctv : Nat → Value) (cc : Nat → Addr) (oc co : Nat → Obj) (vs : Nat → Array Value) (tt : Nat → Tok) tp all h' tk, Fr h₀ L h' m → News h₀ L h' ((x, instObj 405 d) :: all) → RdAt w.params (fun _ => x) (fun _ => d) a b c ((x, instObj 405 d) :: all) fn ce q0 u0 qual pm ctv cc oc co vs tt →
      (620, tabObj tp) ∈ all → (c, oL) ∈ all → (b, oP) ∈ all → (a, oF) ∈ all → (sc, oS) ∈ all → @LT.lt Nat _ c d → Q (.ref x) { s with heap := h', toks := tk }) : Q (.ref x) { s with heap := h', toks := tk } :=
  hQ x d (tab5 f0 f1 f2 f3 f4) (tab5 e0 e1 e2 e2 e2) (tab9 q0 q1 q2 q3 q4 q5 q6 q7 q8) (tab5 u0 u1 u2 u3 .none) (tab5 qu0 qu1 qu2 qu3 qu4) (tab5 pm0 pm1 pm2 pm3 pm4) (tab5 ct0 ct1 ct2 ct3 ct4) (tab5 c0 c1 c2 c3 c4) (tab5 oc0 oc1 oc2 oc3 oc4) (tab5 co0 co1 co2 co2 co2) (tab5 vs0 vs1 vs2 vs3 vs4) (tab5 t0 t1 t2 t3 t4) tp all h' tk F
    (fun p hp => by
      rcases List.mem_cons.mp hp with rfl | hp
      · exact N _ hx
      · exact N _ hp)
    ⟨.head _, .tail _ hd', fun i hi => match i, hi with
      | 0, _ => ⟨.tail _ hf0, .tail _ hc0, hv0, hn0⟩
      | 1, _ => ⟨.tail _ hf1, .tail _ hc1, hv1, hn1⟩
      | 2, _ => ⟨.tail _ hf2, .tail _ hc2, hv2, hn2⟩
      | 3, _ => ⟨.tail _ hf3, .tail _ hc3, hv3, hn3⟩
      | 4, _ => ⟨.tail _ hf4, .tail _ hc4, hv4, hn4⟩, ⟨.tail _ he0, hk0⟩, ⟨.tail _ he1, hk1⟩, ⟨.tail _ he2, hk2⟩⟩ ht hcc hb ha hs hlt
theorem lt_of {a b : Nat} {o : Obj} {l : List (Addr × Obj)} (h : ∀ p ∈ l, p.1 < b) (hm : ((a : Addr), o) ∈ l) : @LT.lt Nat _ a b := h _ hm
theorem ne_gt {a b : Nat} {o : Obj} {l : List (Addr × Obj)} (h : ∀ p ∈ l, p.1 < a) (hm : ((b : Addr), o) ∈ l) : a ≠ b := Nat.ne_of_gt (h _ hm)
theorem ne_lt {a b : Nat} {o : Obj} {l : List (Addr × Obj)} (h : ∀ p ∈ l, p.1 < b) (hm : ((a : Addr), o) ∈ l) : a ≠ b := Nat.ne_of_lt (h _ hm)
theorem ne_gt2 {a b c : Nat} {o : Obj} {l : List (Addr × Obj)} (h2 : c < a) (h : ∀ p ∈ l, p.1 < c) (hm : ((b : Addr), o) ∈ l) : a ≠ b := Nat.ne_of_gt (Nat.lt_trans (h _ hm) h2)
theorem ne_lt2 {a b c : Nat} {o : Obj} {l : List (Addr × Obj)} (h2 : c < b) (h : ∀ p ∈ l, p.1 < c) (hm : ((a : Addr), o) ∈ l) : a ≠ b := Nat.ne_of_lt (Nat.lt_trans (h _ hm) h2)
theorem ne_gtA {a b : Nat} {o : Obj} {l : List (Addr × Obj)} (h : ∀ p ∈ l, p.1 < a) (hm : ((b : Addr), o) ∈ l) : a + 1 ≠ b := by have h := h _ hm; have h : b < a := h; omega
theorem ne_gtB {a b : Nat} {o : Obj} {l : List (Addr × Obj)} (h : ∀ p ∈ l, p.1 < a) (hm : ((b : Addr), o) ∈ l) : a + 1 + 1 ≠ b := by have h := h _ hm; have h : b < a := h; omega
theorem ne_gtC {a b : Nat} {o : Obj} {l : List (Addr × Obj)} (h : ∀ p ∈ l, p.1 < a) (hm : ((b : Addr), o) ∈ l) : a + 1 + 1 + 1 ≠ b := by have h := h _ hm; have h : b < a := h; omega
local macro_rules | `(tactic| k_lt $_) => `(tactic| skip)
local macro_rules | `(tactic| k_ne) => `(tactic| (refine neN ?_; (try dsimp only); first | exact ne_gt (by assumption) (by k_mem) | exact ne_lt (by assumption) (by k_mem) | exact ne_gt2 (by assumption) (by assumption) (by k_mem) | exact ne_lt2 (by assumption) (by assumption) (by k_mem) | exact ne_gtA (by assumption) (by k_mem) | exact ne_gtB (by assumption) (by k_mem) | exact ne_gtC (by assumption) (by k_mem) | omega))
theorem reader_call (X : (hd.heap_39 w.params).In h₀) (T : Top topProg loose mean mg mb h₀) (B : Below callerA h₀ [] h₀) (F : Fr h₀ L s.heap m) (C : CodeHd h₀ 624 620) {a b c sc : Addr} {oF oP oL oS : Obj}
   (N : News h₀ L s.heap [(c, oL), (b, oP), (a, oF), (sc, oS), (620, tabObj #[])]) (l1 : @LT.lt Nat _ sc a ∧ @LT.lt Nat _ 620 a) (l2 : @LT.lt Nat _ a b ∧ @LT.lt Nat _ sc b ∧ @LT.lt Nat _ 620 b) (l3 : @LT.lt Nat _ b c ∧ @LT.lt Nat _ a c ∧ @LT.lt Nat _ sc c ∧ @LT.lt Nat _ 620 c) (l4 : @LT.lt Nat _ 620 sc)
   (hQ : ∀ x d (fn ce q0 : Nat → Nat) (u0 : Nat → Value) (qual : Nat → Str) (pm ctv : Nat → Value) (cc : Nat → Addr) (oc co : Nat → Obj) (vs : Nat → Array Value) (tt : Nat → Tok) tp all h' tk, Fr h₀ L h' m → News h₀ L h' ((x, instObj 405 d) :: all) → RdAt w.params (fun _ => x) (fun _ => d) a b c ((x, instObj 405 d) :: all) fn ce q0 u0 qual pm ctv cc oc co vs tt →
      (620, tabObj tp) ∈ all → (c, oL) ∈ all → (b, oP) ∈ all → (a, oF) ∈ all → (sc, oS) ∈ all → @LT.lt Nat _ c d → Q (.ref x) { s with heap := h', toks := tk }) :
   wpAny (model PySem.Challenge.rw_kp0119_10.row.prog w) (callerA.deeper (envOf "law" lawScope L fa cd)) (call (.ref 625) [.ref a, .ref b, .ref c]) Q E s := by
  show wpAny (model PySem.Challenge.rw_kp0119_10.row.prog w) (callerA.deeper (envOf _ (Scope.mk _ _ _ _ _) _ _ _)) _ _ _ _
  revert X
  k_fill
  intro X
  k_steps
  (with_reducible rename News h₀ L _ _ => kN)
  refine' reader_fin (a := a) (b := b) (c := c) (oF := oF) (oP := oP) (oL := oL) (oS := oS) (sc := sc) ?F kN ?x ?d ?f0 ?c0 ?v0 ?n0 ?f1 ?c1 ?v1 ?n1 ?f2 ?c2 ?v2 ?n2 ?f3 ?c3 ?v3 ?n3 ?f4 ?c4 ?v4 ?n4 ?e0 ?k0 ?e1 ?k1 ?e2 ?k2 ?t ?hc ?hb ?ha ?hs ?lt hQ
  case F => assumption
  case x => k_mem
  case d => k_mem
  case f0 => k_dflt k_mem
  case c0 => k_mem
  case v0 => assumption
  case n0 => assumption
  case f1 => k_dflt k_mem
  case c1 => k_mem
  case v1 => assumption
  case n1 => assumption
  case f2 => k_dflt k_mem
  case c2 => k_mem
  case v2 => assumption
  case n2 => assumption
  case f3 => k_dflt k_mem
  case c3 => k_mem
  case v3 => assumption
  case n3 => assumption
  case f4 => k_dflt k_mem
  case c4 => k_mem
  case v4 => assumption
  case n4 => assumption
  case e0 => k_mem
  case k0 => assumption
  case e1 => k_mem
  case k1 => assumption
  case e2 => k_mem
  case k2 => assumption
  case t => k_mem
  case hc => k_mem
  case hb => k_mem
  case ha => k_mem
  case hs => k_mem
  case lt => exact lt_of (by assumption) (by k_mem)
end
section
open PySem PySem.W PyProof.Rows PySem.Calls PySem.SeqAt
def tab7 {α : Type} (a b c d e f g : α) : Nat → α | 0 => a | 1 => b | 2 => c | 3 => d | 4 => e | 5 => f | _ => g
theorem mono7 {f : Nat → Nat} (h : ∀ i, i < 6 → f i < f (i + 1)) : ∀ j i, i < j → j < 7 → f i < f j
  | 0, _, h0, _ => absurd h0 (Nat.not_lt_zero _)
  | j + 1, i, h1, h2 => by
    have hj := h j (by omega)
    by_cases e : i = j
    · subst e; exact hj
    · exact Nat.lt_trans (mono7 h j i (by omega) (by omega)) hj
theorem inj7 {f : Nat → Nat} (h : ∀ i, i < 6 → f i < f (i + 1)) (k k' : Nat) (hk : k < 7) (hk' : k' < 7) (e : f k = f k') : k = k' := by
  rcases Nat.lt_trichotomy k k' with g | g | g
  · have := mono7 h k' k g hk'; omega
  · exact g
  · have := mono7 h k k' g hk; omega
theorem le7 {f : Nat → Nat} (h : ∀ i, i < 6 → f i < f (i + 1)) (k : Nat) (hk : k < 7) : f 0 ≤ f k ∧ f k ≤ f 6 := by
  refine ⟨?_, ?_⟩
  · by_cases e : k = 0
    · subst e; exact Nat.le_refl _
    · exact Nat.le_of_lt (mono7 h k 0 (by omega) hk)
  · by_cases e : k = 6
    · subst e; exact Nat.le_refl _
    · exact Nat.le_of_lt (mono7 h 6 k (by omega) (by omega))
/-- the nodes as the law makes them, ahead of its loop -/
structure Made (P : Params) (Z : Nm) (all : List (Addr × Obj)) : Prop where
  filters : Filters P Z.xs Z.ds (fun _ => none) Z.q Z.u all
  reader : RdAt P Z.xs Z.ds Z.aF Z.aP Z.aL all Z.fn Z.ce Z.q0 Z.u0 Z.qual Z.pm Z.ctv Z.cc Z.oc Z.co Z.vs Z.tt
  i1 : (Z.xs 1, instObj 405 (Z.ds 1)) ∈ all
  d1 : (Z.ds 1, dictOf (plainEs P Z.d1 Z.u1) 4) ∈ all
  node : ∀ k, k < 7 → Z.its[k]? = some (.ref (Z.xs k))
  tab : (620, tabObj Z.tp) ∈ all
  inj : ∀ k k', k < 7 → k' < 7 → Z.ds k = Z.ds k' → k = k'
  gt : ∀ k, k < 7 → @LT.lt Nat _ Z.aL (Z.ds k)
  lt : ∀ k, k < 7 → @LT.lt Nat _ (Z.ds k) Z.nd
theorem RdAt.names {P : Params} {x d : Addr} {xs ds : Nat → Addr} {aF aP aL : Addr} {news : List (Addr × Obj)} {fn ce q0 : Nat → Nat} {u0 : Nat → Value} {qual : Nat → Str} {pm ctv : Nat → Value} {cc : Nat → Addr} {oc co : Nat → Obj} {vs : Nat → Array Value} {tt : Nat → Tok}
    (R : RdAt P (fun _ => x) (fun _ => d) aF aP aL news fn ce q0 u0 qual pm ctv cc oc co vs tt) (hx : xs 0 = x) (hd' : ds 0 = d) : RdAt P xs ds aF aP aL news fn ce q0 u0 qual pm ctv cc oc co vs tt :=
  ⟨by rw [hx, hd']; exact R.inst, by rw [hd']; exact R.dict, fun i hi => ⟨(R.lam i hi).fn, (R.lam i hi).code, (R.lam i hi).data, (R.lam i hi).name⟩, ⟨R.cF.mem, R.cF.data⟩, ⟨R.cP.mem, R.cP.data⟩, ⟨R.cL.mem, R.cL.data⟩⟩
/-- the names that the making gives; what comes later is given later -/
def nmOf (a b c nd x0 x1 x2 x3 x4 x5 x6 d0 d1 d2 d3 d4 d5 d6 : Addr) (q1 q2 q3 q4 q5 q6 : Nat → Nat) (u1 u2 u3 u4 u5 u6 : Nat → Value) (fn ce q0 : Nat → Nat) (u0 : Nat → Value) (qual : Nat → Str) (pm ctv : Nat → Value) (cc : Nat → Addr) (oc co : Nat → Obj) (vs : Nat → Array Value) (tt : Nat → Tok) (tp : Array Value) : Nm :=
  { xs := tab7 x0 x1 x2 x3 x4 x5 x6, ds := tab7 d0 d1 d2 d3 d4 d5 d6, q := tab7 q1 q1 q2 q3 q4 q5 q6, u := tab7 u1 u1 u2 u3 u4 u5 u6, aF := a, aP := b, aL := c, pa := 0, ap := 0, nd := nd, ax := 0, tp := tp, d1 := q1, u1 := u1, fn := fn, ce := ce, q0 := q0, u0 := u0, qual := qual, pm := pm, ctv := ctv, cc := cc, oc := oc, co := co, vs := vs, tt := tt,
    its := [.ref x0, .ref x1, .ref x2, .ref x3, .ref x4, .ref x5, .ref x6], kn := 0, kp := 0, sv := [], sn := 0 }
theorem made_fin {P : Params} {a b c nd x0 x1 x2 x3 x4 x5 x6 d0 d1 d2 d3 d4 d5 d6 : Addr} {q1 q2 q3 q4 q5 q6 : Nat → Nat} {u1 u2 u3 u4 u5 u6 : Nat → Value} {fn ce q0 : Nat → Nat} {u0 : Nat → Value} {qual : Nat → Str} {pm ctv : Nat → Value} {cc : Nat → Addr} {oc co : Nat → Obj} {vs : Nat → Array Value} {tt : Nat → Tok} {tp : Array Value} {all0 all : List (Addr × Obj)}
    (RD : RdAt P (fun _ => x0) (fun _ => d0) a b c all0 fn ce q0 u0 qual pm ctv cc oc co vs tt) (hsub : ∀ p ∈ all0, p ∈ all) (ht : (620, tabObj tp) ∈ all)
    (i1 : (x1, instObj 405 d1) ∈ all) (j1 : (d1, dictOf (plainEs P q1 u1) 4) ∈ all)
    (i2 : (x2, instObj 616 d2) ∈ all) (j2 : (d2, dictOf (nodeEs P q2 u2 .none) 5) ∈ all)
    (i3 : (x3, instObj 616 d3) ∈ all) (j3 : (d3, dictOf (nodeEs P q3 u3 .none) 5) ∈ all)
    (i4 : (x4, instObj 616 d4) ∈ all) (j4 : (d4, dictOf (nodeEs P q4 u4 .none) 5) ∈ all)
    (i5 : (x5, instObj 616 d5) ∈ all) (j5 : (d5, dictOf (nodeEs P q5 u5 .none) 5) ∈ all)
    (i6 : (x6, instObj 616 d6) ∈ all) (j6 : (d6, dictOf (nodeEs P q6 u6 .none) 5) ∈ all)
    (h0 : @LT.lt Nat _ c d0) (e1 : @LT.lt Nat _ d0 d1) (e2 : @LT.lt Nat _ d1 d2) (e3 : @LT.lt Nat _ d2 d3) (e4 : @LT.lt Nat _ d3 d4) (e5 : @LT.lt Nat _ d4 d5) (e6 : @LT.lt Nat _ d5 d6) (hn : @LT.lt Nat _ d6 nd) :
    Made P (nmOf a b c nd x0 x1 x2 x3 x4 x5 x6 d0 d1 d2 d3 d4 d5 d6 q1 q2 q3 q4 q5 q6 u1 u2 u3 u4 u5 u6 fn ce q0 u0 qual pm ctv cc oc co vs tt tp) all := by
  have up : ∀ i, i < 6 → tab7 d0 d1 d2 d3 d4 d5 d6 i < tab7 d0 d1 d2 d3 d4 d5 d6 (i + 1) := fun i hi => match i, hi with
    | 0, _ => e1 | 1, _ => e2 | 2, _ => e3 | 3, _ => e4 | 4, _ => e5 | 5, _ => e6
  exact {
    filters := ⟨fun k h2 h7 => match k, h2, h7 with
      | 2, _, _ => i2 | 3, _, _ => i3 | 4, _, _ => i4 | 5, _, _ => i5 | 6, _, _ => i6, fun k h2 h7 => match k, h2, h7 with
      | 2, _, _ => j2 | 3, _, _ => j3 | 4, _, _ => j4 | 5, _, _ => j5 | 6, _, _ => j6⟩
    reader := (RD.mono hsub).names rfl rfl
    i1 := i1
    d1 := j1
    node := fun k h7 => match k, h7 with
      | 0, _ => rfl | 1, _ => rfl | 2, _ => rfl | 3, _ => rfl | 4, _ => rfl | 5, _ => rfl | 6, _ => rfl
    tab := ht
    inj := fun k k' hk hk' e => inj7 up k k' hk hk' e
    gt := fun k hk => Nat.lt_of_lt_of_le h0 (le7 up k hk).1
    lt := fun k hk => Nat.lt_of_le_of_lt (le7 up k hk).2 hn }
end
section
open PySem.SeqAt
local macro_rules | `(tactic| walk_at "eval Name") => `(tactic| (k_here; k_dflt (refine' ld ?k1 ?k2 ?_; (case k1 => k_asm); (case k2 => assumption); k_whole)))
section
variable {w : World} {h₀ : Heap} {mg mb : Str → Option Value} {loose : List Str} {mean : ExcName → Option Value} {news : List (Addr × Obj)} {L fa : Addr} {cd : Value} {m : Str → Option Value} {s : Shared} {E : Value → Shared → Prop} {Q : Flow → Shared → Prop}
theorem mem_of {l l' : List (Addr × Obj)} {p : Addr × Obj} (h : p ∈ l) (hs : ∀ p ∈ l, p ∈ l') : p ∈ l' := hs p h
theorem one_end {s₁ : Shared} {h' : Heap} {tk : Nat} {I C D x d : Addr} {oI oC oD ox od : Obj} {led : List (Addr × Obj)} {rest : Value → List (Addr × Obj) → Prop} (F : Fr h₀ L h' m) (N : News h₀ L h' ((x, ox) :: (d, od) :: (I, oI) :: (C, oC) :: (D, oD) :: led)) (off : LCg.Off3 I C D led)
    (lx : ∀ p ∈ (I, oI) :: (C, oC) :: (D, oD) :: led, p.1 < x) (ld : ∀ p ∈ (I, oI) :: (C, oC) :: (D, oD) :: led, p.1 < d) (r : rest (.ref x) ((x, ox) :: (d, od) :: led)) : LCg.CompEnd h₀ L m s₁ I oI C oC D oD (fun _ => True) rest (.ref x) { s₁ with heap := h', toks := tk } :=
  LCg.CompEnd.intro F N ((x, ox) :: (d, od) :: led) (by kqd_sub) (LCg.Off3.of fun p hp => by
    rcases List.mem_cons.mp hp with rfl | hp
    · exact ⟨Nat.ne_of_gt (lx _ (.head _)), Nat.ne_of_gt (lx _ (.tail _ (.head _))), Nat.ne_of_gt (lx _ (.tail _ (.tail _ (.head _))))⟩
    rcases List.mem_cons.mp hp with rfl | hp
    · exact ⟨Nat.ne_of_gt (ld _ (.head _)), Nat.ne_of_gt (ld _ (.tail _ (.head _))), Nat.ne_of_gt (ld _ (.tail _ (.tail _ (.head _))))⟩
    · exact off.mem p hp) trivial r
local macro_rules | `(tactic| walk_at "CompEnd") => `(tactic| (k_here; k_dflt (refine' one_end ?F ?N ?off ?lx ?ld ?_; (case F => k_asm); (case N => k_asm); (case off => assumption); (case lx => assumption); (case ld => assumption))))
local macro_rules | `(tactic| walk_at "call ref") => `(tactic| (k_here; k_dflt (first
  | ((with_reducible show wpAny _ _ (call (Value.ref 625) _) _ _ _); (refine' reader_call ?X ?T ?B ?F ?C ?N ?l1 ?l2 ?l3 ?l4 ?_; (case X => k_asm); (case T => k_asm); (case B => k_asm); (case F => k_asm); (case C => k_asm); (case N => k_asm); (case l1 => assumption); (case l2 => assumption); (case l3 => assumption); (case l4 => assumption)); intro x0 d0 fn ce q0 u0 qual pm ctv cc oc co vs tt tp all h' tk' F' N' RD ht hcc hb ha hs hlt)
  | ((with_reducible show wpAny _ _ (call (Value.ref 405) _) _ _ _); (refine' plain_call ?X ?T ?B ?F ?N ?_; (case X => k_asm); (case T => k_asm); (case B => k_asm); (case F => k_asm); (case N => k_asm)); intro x1 d1 q1 u1 h' tk' F' N' lx1 ld1 ll1; (have e1 : @LT.lt Nat _ _ _ := ld1 _ (RdAt.dict (by assumption))))
  | ((with_reducible show wpAny _ _ (call (Value.ref 616) _) _ _ _); (refine' node_call ?X ?T ?B ?F ?N ?_; (case X => k_asm); (case T => k_asm); (case B => k_asm); (case F => k_asm); (case N => k_asm)); intro x' d' q' u' h' tk' F' N' lx' ld' ll'; (have e1 : @LT.lt Nat _ _ _ := ld' _ (.tail _ (.tail _ (.tail _ (.tail _ (.head _))))))))))
local macro_rules | `(tactic| walk_at "eval ListComp") => `(tactic| (k_here; k_dflt (refine LCg.ListComp_U (F₀ := by k_asm) (by with_unfolding_all rfl) (by decide) (by rfl) (by decide) (by rfl) ?_)))
theorem pro4 (X : (hd.heap_39 w.params).In h₀) (T : Top topProg loose mean mg mb h₀) (B : Below callerA h₀ [] h₀) (F : Fr h₀ L s.heap m) (C : CodeHd h₀ 624 620) {a b c sc : Addr} {oF oP oL oS : Obj}
   (N : News h₀ L s.heap [(c, oL), (b, oP), (a, oF), (sc, oS), (620, tabObj #[])]) (l1 : @LT.lt Nat _ sc a ∧ @LT.lt Nat _ 620 a) (l2 : @LT.lt Nat _ a b ∧ @LT.lt Nat _ sc b ∧ @LT.lt Nat _ 620 b) (l3 : @LT.lt Nat _ b c ∧ @LT.lt Nat _ a c ∧ @LT.lt Nat _ sc c ∧ @LT.lt Nat _ 620 c) (l4 : @LT.lt Nat _ 620 sc)
   (m1 : m "features" = some (.ref a)) (m2 : m "properties" = some (.ref b)) (m3 : m "locales" = some (.ref c))
   (hQ : ∀ (Z : Nm) tail h' tk, Z.aF = a → Z.aP = b → Z.aL = c → Fr h₀ L h' (fun z => if z = "nodes" then some (.ref Z.nd) else m z) → News h₀ L h' ((Z.nd, listOf Z.its.toArray Z.kn) :: tail) → Made w.params Z ((Z.nd, listOf Z.its.toArray Z.kn) :: tail) →
      (c, oL) ∈ tail → (b, oP) ∈ tail → (a, oF) ∈ tail → (sc, oS) ∈ tail → Q .next { s with heap := h', toks := tk }) :
   wpAny (model PySem.Challenge.rw_kp0119_10.row.prog w) (callerA.deeper (envOf "law" lawScope L fa cd)) (exec (nth lawBody 4) (envOf "law" lawScope L fa cd)) Q E s := by
  show wpAny (model PySem.Challenge.rw_kp0119_10.row.prog w) (callerA.deeper (envOf _ (Scope.mk _ _ _ _ _) _ _ _)) (exec (Stmt.Assign _ _ _) (envOf _ (Scope.mk _ _ _ _ _) _ _ _)) _ _ _
  revert X
  k_fill
  intro X
  k_steps
  (with_reducible rename RdAt _ _ _ _ _ _ _ _ _ _ _ _ _ _ _ _ _ _ _ => RD)
  (with_reducible rename News h₀ L _ _ => kN)
  (with_reducible rename (620, tabObj _) ∈ _ => ht9)
  (with_reducible rename (c, oL) ∈ _ => hc9)
  (with_reducible rename (b, oP) ∈ _ => hb9)
  (with_reducible rename (a, oF) ∈ _ => ha9)
  (with_reducible rename (sc, oS) ∈ _ => hs9)
  refine' hQ (nmOf a b c _ _ _ _ _ _ _ _ _ _ _ _ _ _ _ _ _ _ _ _ _ _ _ _ _ _ _ _ _ _ _ _ _ _ _ _ _ _ _ _) _ _ _ rfl rfl rfl ?F kN ?M ?a ?b ?c ?d
  case F => assumption
  case M =>
    refine' made_fin RD ?s ?t ?i1 ?j1 ?i2 ?j2 ?i3 ?j3 ?i4 ?j4 ?i5 ?j5 ?i6 ?j6 ?h0 ?e1 ?e2 ?e3 ?e4 ?e5 ?e6 ?hn
    case s => kqd_sub
    case t => exact mem_of ht9 (by kqd_sub)
    case i1 => k_mem
    case j1 => k_mem
    case i2 => k_mem
    case j2 => k_mem
    case i3 => k_mem
    case j3 => k_mem
    case i4 => k_mem
    case j4 => k_mem
    case i5 => k_mem
    case j5 => k_mem
    case i6 => k_mem
    case j6 => k_mem
    all_goals omega
  case a => exact mem_of hc9 (by kqd_sub)
  case b => exact mem_of hb9 (by kqd_sub)
  case c => exact mem_of ha9 (by kqd_sub)
  case d => exact mem_of hs9 (by kqd_sub)
end
section
variable {w : World} {h₀ : Heap} {mg mb : Str → Option Value} {loose : List Str} {mean : ExcName → Option Value} {news : List (Addr × Obj)} {L fa : Addr} {cd : Value} {m : Str → Option Value} {s : Shared} {E : Value → Shared → Prop} {Q : Flow → Shared → Prop}
theorem pro0 (X : (hd.heap_39 w.params).In h₀) (T : Top topProg loose mean mg mb h₀) (B : Below callerA h₀ [] h₀) (F : Fr h₀ L s.heap m) {sc0 : Addr} {vs : List Value} {ks : List Int} {ot : Obj}
   (N : News h₀ L s.heap [(620, ot)]) (hl : h₀.IsList sc0 vs.toArray) (hI : IntsAre vs ks) (hlen : ¬ ((63 : Nat) : Int) < (ks.length : Int)) (m1 : m "script" = some (.ref sc0))
   (hQ : ∀ h' tk sc vs' nn ks', IntsAre vs' ks' → ¬ 63 < ks'.length → Fr h₀ L h' (fun z => if z = "script" then some (.ref sc) else m z) → News h₀ L h' [(sc, ({ cls := .type "list", data := .seq vs'.toArray nn } : Obj)), (620, ot)] → @LT.lt Nat _ 620 sc → Q .next { s with heap := h', toks := tk }) :
   wpAny (model PySem.Challenge.rw_kp0119_10.row.prog w) (callerA.deeper (envOf "law" lawScope L fa cd)) (exec (nth lawBody 0) (envOf "law" lawScope L fa cd)) Q E s := by
  show wpAny (model PySem.Challenge.rw_kp0119_10.row.prog w) (callerA.deeper (envOf _ (Scope.mk _ _ _ _ _) _ _ _)) (exec (Stmt.Assign _ _ _) (envOf _ (Scope.mk _ _ _ _ _) _ _ _)) _ _ _
  revert X; k_fill; intro X
  k_steps
  (with_reducible rename IntsAre _ (List.take _ _) => hI9)
  have e9 : (List.take 63 ks).length = min 63 ks.length := List.length_take ..
  exact hQ _ _ _ _ 0 _ hI9 (by omega) (by assumption) (by assumption) (by assumption)
theorem pro1 (X : (hd.heap_39 w.params).In h₀) (T : Top topProg loose mean mg mb h₀) (B : Below callerA h₀ [] h₀) (F : Fr h₀ L s.heap m) {sc : Addr} {oS ot : Obj} (N : News h₀ L s.heap [(sc, oS), (620, ot)])
   (hQ : ∀ h' tk a oF, (a == sysModules) = false → oF.IsDictOf (strKind PySem.Challenge.rw_kp0119_10.row.prog w) [] → Fr h₀ L h' (fun z => if z = "features" then some (.ref a) else m z) → News h₀ L h' [(a, oF), (sc, oS), (620, ot)] → @LT.lt Nat _ sc a ∧ @LT.lt Nat _ 620 a → Q .next { s with heap := h', toks := tk }) :
   wpAny (model PySem.Challenge.rw_kp0119_10.row.prog w) (callerA.deeper (envOf "law" lawScope L fa cd)) (exec (nth lawBody 1) (envOf "law" lawScope L fa cd)) Q E s := by
  show wpAny (model PySem.Challenge.rw_kp0119_10.row.prog w) (callerA.deeper (envOf _ (Scope.mk _ _ _ _ _) _ _ _)) (exec (Stmt.Assign _ _ _) (envOf _ (Scope.mk _ _ _ _ _) _ _ _)) _ _ _
  revert X; k_fill; intro X
  k_steps
  exact hQ _ _ _ _ (by assumption) (by assumption) (by assumption) (by assumption) (by assumption)
theorem pro2 (X : (hd.heap_39 w.params).In h₀) (T : Top topProg loose mean mg mb h₀) (B : Below callerA h₀ [] h₀) (F : Fr h₀ L s.heap m) {a sc : Addr} {oF oS ot : Obj} (N : News h₀ L s.heap [(a, oF), (sc, oS), (620, ot)])
   (hQ : ∀ h' tk b oP, (b == sysModules) = false → oP.IsDictOf (strKind PySem.Challenge.rw_kp0119_10.row.prog w) [] → Fr h₀ L h' (fun z => if z = "properties" then some (.ref b) else m z) → News h₀ L h' [(b, oP), (a, oF), (sc, oS), (620, ot)] → @LT.lt Nat _ a b ∧ @LT.lt Nat _ sc b ∧ @LT.lt Nat _ 620 b → Q .next { s with heap := h', toks := tk }) :
   wpAny (model PySem.Challenge.rw_kp0119_10.row.prog w) (callerA.deeper (envOf "law" lawScope L fa cd)) (exec (nth lawBody 2) (envOf "law" lawScope L fa cd)) Q E s := by
  show wpAny (model PySem.Challenge.rw_kp0119_10.row.prog w) (callerA.deeper (envOf _ (Scope.mk _ _ _ _ _) _ _ _)) (exec (Stmt.Assign _ _ _) (envOf _ (Scope.mk _ _ _ _ _) _ _ _)) _ _ _
  revert X; k_fill; intro X
  k_steps
  exact hQ _ _ _ _ (by assumption) (by assumption) (by assumption) (by assumption) (by assumption)
theorem pro3 (X : (hd.heap_39 w.params).In h₀) (T : Top topProg loose mean mg mb h₀) (B : Below callerA h₀ [] h₀) (F : Fr h₀ L s.heap m) {a b sc : Addr} {oF oP oS ot : Obj} (N : News h₀ L s.heap [(b, oP), (a, oF), (sc, oS), (620, ot)])
   (hQ : ∀ h' tk c, Fr h₀ L h' (fun z => if z = "locales" then some (.ref c) else m z) → News h₀ L h' [(c, listOf #[.none] 0), (b, oP), (a, oF), (sc, oS), (620, ot)] → @LT.lt Nat _ b c ∧ @LT.lt Nat _ a c ∧ @LT.lt Nat _ sc c ∧ @LT.lt Nat _ 620 c → Q .next { s with heap := h', toks := tk }) :
   wpAny (model PySem.Challenge.rw_kp0119_10.row.prog w) (callerA.deeper (envOf "law" lawScope L fa cd)) (exec (nth lawBody 3) (envOf "law" lawScope L fa cd)) Q E s := by
  show wpAny (model PySem.Challenge.rw_kp0119_10.row.prog w) (callerA.deeper (envOf _ (Scope.mk _ _ _ _ _) _ _ _)) (exec (Stmt.Assign _ _ _) (envOf _ (Scope.mk _ _ _ _ _) _ _ _)) _ _ _
  revert X; k_fill; intro X
  k_steps
  exact hQ _ _ _ (by assumption) (by assumption) (by assumption)
local macro_rules | `(tactic| walk_at "binaryOp Mult ref int") => `(tactic| (k_here; k_dflt (refine' KMa.mul (vs := [.none]) (ws := [.none, .none, .none, .none, .none, .none, .none]) ?F ?N ?l (by decide) (by decide) (by decide) (by rfl) ?_; (case F => k_asm); (case N => k_asm); (case l => is_list)); intro D' h' F' N' l1))
theorem pro5 (X : (hd.heap_39 w.params).In h₀) (T : Top topProg loose mean mg mb h₀) (B : Below callerA h₀ [] h₀) (F : Fr h₀ L s.heap m) {nd : Addr} {oN : Obj} (N : News h₀ L s.heap ((nd, oN) :: news))
   (hQ : ∀ h' tk ap kp, Fr h₀ L h' (fun z => if z = "parents" then some (.ref ap) else m z) → News h₀ L h' ((ap, listOf ([.none, .none, .none, .none, .none, .none, .none] : List Value).toArray kp) :: (nd, oN) :: news) → (∀ p ∈ (nd, oN) :: news, p.1 < ap) → Q .next { s with heap := h', toks := tk }) :
   wpAny (model PySem.Challenge.rw_kp0119_10.row.prog w) (callerA.deeper (envOf "law" lawScope L fa cd)) (exec (nth lawBody 5) (envOf "law" lawScope L fa cd)) Q E s := by
  show wpAny (model PySem.Challenge.rw_kp0119_10.row.prog w) (callerA.deeper (envOf _ (Scope.mk _ _ _ _ _) _ _ _)) (exec (Stmt.Assign _ _ _) (envOf _ (Scope.mk _ _ _ _ _) _ _ _)) _ _ _
  revert X; k_fill; intro X
  k_steps
  (with_reducible rename ∀ p : Addr × Obj, p ∈ _ → _ => l9)
  exact hQ _ _ _ _ (by assumption) (news_sub (by assumption) (by kqd_sub)) (fun p hp => l9 p (.tail _ hp))
theorem pro6 (X : (hd.heap_39 w.params).In h₀) (T : Top topProg loose mean mg mb h₀) (B : Below callerA h₀ [] h₀) (F : Fr h₀ L s.heap m) {nd : Addr} {oN : Obj} (N : News h₀ L s.heap ((nd, oN) :: news))
   (hQ : ∀ h' tk pa, Fr h₀ L h' (fun z => if z = "past" then some (.ref pa) else m z) → News h₀ L h' ((pa, listOf #[] 0) :: (nd, oN) :: news) → (∀ p ∈ (nd, oN) :: news, p.1 < pa) → Q .next { s with heap := h', toks := tk }) :
   wpAny (model PySem.Challenge.rw_kp0119_10.row.prog w) (callerA.deeper (envOf "law" lawScope L fa cd)) (exec (nth lawBody 6) (envOf "law" lawScope L fa cd)) Q E s := by
  show wpAny (model PySem.Challenge.rw_kp0119_10.row.prog w) (callerA.deeper (envOf _ (Scope.mk _ _ _ _ _) _ _ _)) (exec (Stmt.Assign _ _ _) (envOf _ (Scope.mk _ _ _ _ _) _ _ _)) _ _ _
  revert X; k_fill; intro X
  k_steps
  (with_reducible rename _ ∧ AllLt _ _ => l9)
  exact hQ _ _ _ (by assumption) (by assumption) (fun p hp => by
    rcases List.mem_cons.mp hp with rfl | hp
    · exact l9.1
    · exact kst_ltOf l9.2 p hp)
theorem pro8 (X : (hd.heap_39 w.params).In h₀) (T : Top topProg loose mean mg mb h₀) (B : Below callerA h₀ [] h₀) (F : Fr h₀ L s.heap m) (N : News h₀ L s.heap news)
   (hQ : ∀ h' tk, Fr h₀ L h' m → News h₀ L h' news → Q (.ret (.bool true)) { s with heap := h', toks := tk }) :
   wpAny (model PySem.Challenge.rw_kp0119_10.row.prog w) (callerA.deeper (envOf "law" lawScope L fa cd)) (exec (nth lawBody 8) (envOf "law" lawScope L fa cd)) Q E s := by
  show wpAny (model PySem.Challenge.rw_kp0119_10.row.prog w) (callerA.deeper (envOf _ (Scope.mk _ _ _ _ _) _ _ _)) (exec (Stmt.Return _ _) (envOf _ (Scope.mk _ _ _ _ _) _ _ _)) _ _ _
  revert X; k_fill; intro X
  k_steps
  exact hQ _ _ (by assumption) (by assumption)
theorem law_split : lawBody = [nth lawBody 0, nth lawBody 1, nth lawBody 2, nth lawBody 3, nth lawBody 4, nth lawBody 5, nth lawBody 6, nth lawBody 7, nth lawBody 8] := by rfl
end
section
variable {w : World} {h₀ : Heap} {mg mb : Str → Option Value} {loose : List Str} {mean : ExcName → Option Value} {news : List (Addr × Obj)} {L fa : Addr} {cd : Value} {m : Str → Option Value} {s : Shared} {E : Value → Shared → Prop} {Q : Flow → Shared → Prop} {c9 P9 : Addr}
/-- the names with the lists that come later -/
def nmTo (Z : Nm) (pa ap ax : Addr) (kp : Nat) (sv : List Value) (sn : Nat) : Nm := { Z with pa := pa, ap := ap, ax := ax, kp := kp, sv := sv, sn := sn }
def keepP (a b c pa : Addr) (all : List (Addr × Obj)) : List (Addr × Obj) := all.filter fun p => decide (p.1 ≠ a ∧ p.1 ≠ b ∧ p.1 ≠ c ∧ p.1 ≠ pa)
theorem mem_keepP {a b c pa : Addr} {all : List (Addr × Obj)} {p : Addr × Obj} : p ∈ keepP a b c pa all ↔ p ∈ all ∧ p.1 ≠ a ∧ p.1 ≠ b ∧ p.1 ≠ c ∧ p.1 ≠ pa := by simp [keepP]
theorem start {Z : Nm} {a b c pa ap ax : Addr} {kp sn : Nat} {sv : List Value} {oF oP : Obj} {tail tups : List (Addr × Obj)} {h : Heap} (za : Z.aF = a) (zb : Z.aP = b) (zc : Z.aL = c)
   (M : Made w.params Z ((Z.nd, listOf Z.its.toArray Z.kn) :: tail)) (hc : (c, listOf #[.none] 0) ∈ tail) (hb : (b, oP) ∈ tail) (ha : (a, oF) ∈ tail)
   (N : News h₀ L h ((ax, listOf sv.toArray sn) :: (tups ++ (pa, listOf #[] 0) :: (ap, listOf ([.none, .none, .none, .none, .none, .none, .none] : List Value).toArray kp) :: (Z.nd, listOf Z.its.toArray Z.kn) :: tail)))
   (lab : @LT.lt Nat _ a b) (lbc : @LT.lt Nat _ b c) (lap : ∀ p ∈ (Z.nd, listOf Z.its.toArray Z.kn) :: tail, p.1 < ap) (lpa : ∀ p ∈ (ap, listOf ([.none, .none, .none, .none, .none, .none, .none] : List Value).toArray kp) :: (Z.nd, listOf Z.its.toArray Z.kn) :: tail, p.1 < pa)
   (lax : ∀ p ∈ (pa, listOf #[] 0) :: (ap, listOf ([.none, .none, .none, .none, .none, .none, .none] : List Value).toArray kp) :: (Z.nd, listOf Z.its.toArray Z.kn) :: tail, p.1 ≠ ax)
   (dF : oF.IsDictOf (strKind PySem.Challenge.rw_kp0119_10.row.prog w) []) (dP : oP.IsDictOf (strKind PySem.Challenge.rw_kp0119_10.row.prog w) []) (loF : (a == sysModules) = false) (loP : (b == sysModules) = false)
   (hst : ∀ v ∈ sv, IsStep v tups) (htu : Tups tups) :
   ∃ news', Good w (nmTo Z pa ap ax kp sv sn) 0 news' ∧ News h₀ L h news' := by
  subst za zb zc
  generalize hall : (ax, listOf sv.toArray sn) :: (tups ++ (pa, listOf #[] 0) :: (ap, listOf ([.none, .none, .none, .none, .none, .none, .none] : List Value).toArray kp) :: (Z.nd, listOf Z.its.toArray Z.kn) :: tail) = all at N
  have mO : ∀ p ∈ (pa, listOf #[] 0) :: (ap, listOf ([.none, .none, .none, .none, .none, .none, .none] : List Value).toArray kp) :: (Z.nd, listOf Z.its.toArray Z.kn) :: tail, p ∈ all := fun p hp => by
    rw [← hall]; exact .tail _ (List.mem_append_right _ hp)
  have mN : ∀ p ∈ (Z.nd, listOf Z.its.toArray Z.kn) :: tail, p ∈ all := fun p hp => mO p (.tail _ (.tail _ hp))
  have mA := mN _ (.tail _ ha)
  have mB := mN _ (.tail _ hb)
  have mC := mN _ (.tail _ hc)
  have mP := mO _ (.head _)
  have cF : oF.cls = .type "dict" := dict_cls dF
  have cP : oP.cls = .type "dict" := dict_cls dP
  obtain ⟨esF, epF, _, eF, _⟩ := id dF
  obtain ⟨esP, epP, _, eP, _⟩ := id dP
  have K : ∀ {x : Addr} {o : Obj}, (x, o) ∈ all → (x ≠ Z.aF ∨ o ≠ oF) → (x ≠ Z.aP ∨ o ≠ oP) → (x ≠ Z.aL ∨ o ≠ listOf #[.none] 0) → (x ≠ pa ∨ o ≠ listOf #[] 0) → (x, o) ∈ keepP Z.aF Z.aP Z.aL pa all := fun {x o} hp h1 h2 h3 h4 =>
    mem_keepP.mpr ⟨hp, fun e => h1.elim (fun h => h e) fun h => h (news_eq N hp (by rw [show x = Z.aF from e]; exact mA)), fun e => h2.elim (fun h => h e) fun h => h (news_eq N hp (by rw [show x = Z.aP from e]; exact mB)),
      fun e => h3.elim (fun h => h e) fun h => h (news_eq N hp (by rw [show x = Z.aL from e]; exact mC)), fun e => h4.elim (fun h => h e) fun h => h (news_eq N hp (by rw [show x = pa from e]; exact mP))⟩
  have KR : ∀ {x : Addr} {o : Obj} {r : Addr}, (x, o) ∈ all → o.cls = .ref r → (x, o) ∈ keepP Z.aF Z.aP Z.aL pa all := fun {x o r} hp h =>
    K hp (.inr fun e => by rw [e, cF] at h; cases h) (.inr fun e => by rw [e, cP] at h; cases h) (.inr fun e => by rw [e] at h; cases h) (.inr fun e => by rw [e] at h; cases h)
  have KT : ∀ {x : Addr} {o : Obj} {t : String}, (x, o) ∈ all → o.cls = .type t → t ≠ "dict" → t ≠ "list" → (x, o) ∈ keepP Z.aF Z.aP Z.aL pa all := fun {x o t} hp h h1 h2 =>
    K hp (.inr fun e => by rw [e, cF] at h; injection h with h; exact h1 h.symm) (.inr fun e => by rw [e, cP] at h; injection h with h; exact h1 h.symm) (.inr fun e => by rw [e] at h; injection h with h; exact h2 h.symm) (.inr fun e => by rw [e] at h; injection h with h; exact h2 h.symm)
  have KF : ∀ {x : Addr} {o : Obj} {vs : Array Value}, (x, o) ∈ all → o.data = .fields vs → (x, o) ∈ keepP Z.aF Z.aP Z.aL pa all := fun {x o vs} hp h =>
    K hp (.inr fun e => by rw [e, eF] at h; cases h) (.inr fun e => by rw [e, eP] at h; cases h) (.inr fun e => by rw [e] at h; cases h) (.inr fun e => by rw [e] at h; cases h)
  have KC : ∀ {x : Addr} {o : Obj} {v : Option Value}, (x, o) ∈ all → o.data = .cell v → (x, o) ∈ keepP Z.aF Z.aP Z.aL pa all := fun {x o v} hp h =>
    K hp (.inr fun e => by rw [e, eF] at h; cases h) (.inr fun e => by rw [e, eP] at h; cases h) (.inr fun e => by rw [e] at h; cases h) (.inr fun e => by rw [e] at h; cases h)
  have KD : ∀ {k : Nat} {es : List DictEntry} {n : Nat}, k < 7 → (Z.ds k, dictOf es n) ∈ all → (Z.ds k, dictOf es n) ∈ keepP Z.aF Z.aP Z.aL pa all := fun {k es n} hk hp => by
    have g := M.gt k hk
    exact K hp (.inl (by intro e; have e : @Eq Nat (Z.ds k) Z.aF := e; omega)) (.inl (by intro e; have e : @Eq Nat (Z.ds k) Z.aP := e; omega)) (.inr fun e => by have e := congrArg Obj.cls e; injection e with e; exact absurd e (by decide)) (.inr fun e => by have e := congrArg Obj.cls e; injection e with e; exact absurd e (by decide))
  have KL : ∀ {x : Addr} {its : Array Value} {n : Nat}, (x, listOf its n) ∈ all → x ≠ Z.aL → x ≠ pa → (x, listOf its n) ∈ keepP Z.aF Z.aP Z.aL pa all := fun {x its n} hp h1 h2 =>
    K hp (.inr fun e => by have e := congrArg Obj.cls e; rw [cF] at e; injection e with e; exact absurd e (by decide)) (.inr fun e => by have e := congrArg Obj.cls e; rw [cP] at e; injection e with e; exact absurd e (by decide)) (.inl h1) (.inl h2)
  have gnd : @LT.lt Nat _ Z.aL Z.nd := Nat.lt_trans (M.gt 0 (by omega)) (M.lt 0 (by omega))
  have lnd : @LT.lt Nat _ Z.nd ap := lap _ (.head _)
  have lpp : @LT.lt Nat _ ap pa := lpa _ (.head _)
  have hV : Inv w.params (nmTo Z pa ap ax kp sv sn) (fun _ => none) [.none, .none, .none, .none, .none, .none, .none] (keepP Z.aF Z.aP Z.aL pa all) := {
    filters := ⟨fun k h2 h7 => KR (mN _ (M.filters.inst k h2 h7)) rfl, fun k h2 h7 => KD h7 (mN _ (M.filters.dict k h2 h7))⟩
    reader := ⟨KR (mN _ M.reader.inst) rfl, KD (by omega) (mN _ M.reader.dict), fun i hi => ⟨KT (mN _ (M.reader.lam i hi).fn) rfl (by decide) (by decide), KF (mN _ (M.reader.lam i hi).code) (M.reader.lam i hi).data, (M.reader.lam i hi).data, (M.reader.lam i hi).name⟩,
      ⟨KC (mN _ M.reader.cF.mem) M.reader.cF.data, M.reader.cF.data⟩, ⟨KC (mN _ M.reader.cP.mem) M.reader.cP.data, M.reader.cP.data⟩, ⟨KC (mN _ M.reader.cL.mem) M.reader.cL.data, M.reader.cL.data⟩⟩
    i1 := KR (mN _ M.i1) rfl
    d1 := KD (by omega) (mN _ M.d1)
    parents := KL (mO _ (.tail _ (.head _))) (by intro e; have e : @Eq Nat ap Z.aL := e; omega) (by intro e; have e : @Eq Nat ap pa := e; omega)
    len := rfl
    val := fun k h2 h7 => ⟨0, match k, h2, h7 with | 2, _, _ => rfl | 3, _, _ => rfl | 4, _, _ => rfl | 5, _, _ => rfl | 6, _, _ => rfl⟩
    lower := fun _ _ _ _ e => nomatch e
    nodes := KL (mN _ (.head _)) (by intro e; have e : @Eq Nat Z.nd Z.aL := e; omega) (by intro e; have e : @Eq Nat Z.nd pa := e; omega)
    node := M.node
    off := ⟨fun p hp => (mem_keepP.mp hp).2.1, fun p hp => (mem_keepP.mp hp).2.2.1, fun p hp => (mem_keepP.mp hp).2.2.2.1, lab, lbc⟩
    offp := fun p hp => (mem_keepP.mp hp).2.2.2.2
    pF := Nat.ne_of_gt (lpa _ (.tail _ (.tail _ ha)))
    pP := Nat.ne_of_gt (lpa _ (.tail _ (.tail _ hb)))
    pL := Nat.ne_of_gt (lpa _ (.tail _ (.tail _ hc)))
    inj := M.inj
    lt := fun k h2 h7 => Nat.lt_trans (M.lt k h7) lnd
    steps := KL (by rw [← hall]; exact .head _) (lax _ (.tail _ (.tail _ (.tail _ hc)))).symm (lax _ (.head _)).symm
    axp := (lax _ (.tail _ (.head _))).symm
    ndp := Nat.ne_of_lt lnd
    tab := K (mN _ M.tab) (.inr fun e => by rw [← e] at cF; cases cF) (.inr fun e => by rw [← e] at cP; cases cP) (.inr fun e => by have e := congrArg Obj.cls e; cases e) (.inr fun e => by have e := congrArg Obj.cls e; cases e)
    step := fun i v e => by
      obtain ⟨T, way, n, tw, tn, e1, e2, e3, e4, e5⟩ := hst v (List.mem_of_getElem? e)
      exact ⟨T, way, n, tw, tn, e1, e2, e3, e4, KT (by rw [← hall]; exact .tail _ (List.mem_append_left _ e5)) rfl (by decide) (by decide)⟩
    loF := loF
    loP := loP }
  refine ⟨Led (nmTo Z pa ap ax kp sv sn) oF oP (listOf #[.none] 0) #[] 0 (keepP Z.aF Z.aP Z.aL pa all), ⟨_, _, _, oF, oP, _, [], [], #[], 0, [], rfl, hV, ⟨dF, dP, fun _ => rfl, fun _ => rfl, Nat.le_refl _, Nat.le_refl _, ⟨0, rfl⟩⟩, ⟨rfl, fun i p e => by cases e⟩, Nat.le_refl _⟩, fun p hp => ?_⟩
  rcases List.mem_cons.mp hp with rfl | hp
  · exact N _ mA
  rcases List.mem_cons.mp hp with rfl | hp
  · exact N _ mB
  rcases List.mem_cons.mp hp with rfl | hp
  · exact N _ mC
  rcases List.mem_cons.mp hp with rfl | hp
  · exact N _ mP
  · exact N _ (mem_keepP.mp hp).1
end
section
variable {w : World} {h₀ : Heap} {mg mb : Str → Option Value} {loose : List Str} {mean : ExcName → Option Value} {news : List (Addr × Obj)} {L fa : Addr} {cd : Value} {m : Str → Option Value} {s : Shared} {E : Value → Shared → Prop} {Q : Flow → Shared → Prop} {c9 P9 : Addr}
section
local macro_rules | `(tactic| walk_at "call ref") => `(tactic| (k_here; k_dflt ((with_reducible show wpAny _ _ (call (Value.ref 630) _) _ _ _); (refine' steps_call ?X ?T ?B ?F ?N ?I ?l ?_; (case X => k_asm); (case T => k_asm); (case B => k_asm); (case F => k_asm); (case N => k_asm); (case I => assumption); (case l => assumption)))))
local macro_rules | `(tactic| walk_at "pyIter ref") => `(tactic| (k_here; fail))
theorem pro7 (X : (hd.heap_39 w.params).In h₀) (T : Top topProg loose mean mg mb h₀) (B : Below callerA h₀ [] h₀) (F : Fr h₀ L s.heap m) {sc : Addr} {vs : List Value} {ks : List Int} {nn : Nat} (N : News h₀ L s.heap ((sc, ({ cls := .type "list", data := .seq vs.toArray nn } : Obj)) :: news))
   (hI : IntsAre vs ks) (hlen : ¬ 63 < ks.length) (m1 : m "script" = some (.ref sc))
   (hE : PassesOwn (model PySem.Challenge.rw_kp0119_10.row.prog w) (callerA.deeper (envOf "law" lawScope L fa cd)) (envOf "law" lawScope L fa cd) E)
   (hQ : ∀ t h' tk tups (sv : List Value) sn, Fr h₀ L h' m → News h₀ L h' ((t, ({ cls := .type "list", data := .seq sv.toArray sn } : Obj)) :: (tups ++ news)) → sv.length ≤ 100 → (∀ v ∈ sv, IsStep v tups) → Tups tups → (∀ p ∈ news, p.1 ≠ t) →
      wpAny (model PySem.Challenge.rw_kp0119_10.row.prog w) (callerA.deeper (envOf "law" lawScope L fa cd)) (pyIter (.ref t)) (fun it s₂ => TurnsAt PySem.Challenge.rw_kp0119_10.row.prog w (callerA.deeper (envOf "law" lawScope L fa cd)) h₀ (envOf "law" lawScope L fa cd) forTarget forBody Q E it s₂) E { s with heap := h', toks := tk }) :
   wpAny (model PySem.Challenge.rw_kp0119_10.row.prog w) (callerA.deeper (envOf "law" lawScope L fa cd)) (exec (nth lawBody 7) (envOf "law" lawScope L fa cd)) Q E s := by
  refine For_turns (env := envOf "law" lawScope L fa cd) (target := forTarget) (body := forBody) (iter := match forSt with | .For _ i _ _ _ => i | _ => default) (pos := match forSt with | .For _ _ _ _ p => p | _ => default) F ?_ (by intro _; rfl) hE
  show wpAny (model PySem.Challenge.rw_kp0119_10.row.prog w) (callerA.deeper (envOf _ (Scope.mk _ _ _ _ _) _ _ _)) (eval (PySem.Expr.Call _ _ _ _) (envOf _ (Scope.mk _ _ _ _ _) _ _ _)) _ _ _
  revert X; k_fill; intro X
  k_steps
  exact hQ _ _ _ _ _ _ (by assumption) (by assumption) (by assumption) (by assumption) (by assumption) (by assumption)
end
theorem Good.tab {Z : Nm} {n : Nat} {news : List (Addr × Obj)} (G : Good w Z n news) : (620, tabObj Z.tp) ∈ news := by
  obtain ⟨par, ips, rest, oF, oP, oL, kvF, kvP, pits, ki, ps, rfl, V, D, PA, hps⟩ := G.is
  exact .tail _ (.tail _ (.tail _ (.tail _ V.tab)))
theorem law_run (X : (hd.heap_39 w.params).In h₀) (T : Top topProg loose mean mg mb h₀) (B : Below callerA h₀ [] h₀) (F : Fr h₀ L s.heap m) (CH : CodeHd h₀ 624 620) {sc0 : Addr} {vs : List Value} {ks : List Int}
   (N : News h₀ L s.heap [(620, tabObj #[])]) (hl : h₀.IsList sc0 vs.toArray) (hI : IntsAre vs ks) (hlen : ¬ ((63 : Nat) : Int) < (ks.length : Int)) (m1 : m "script" = some (.ref sc0))
   (hE : PassesOwn (model PySem.Challenge.rw_kp0119_10.row.prog w) (callerA.deeper (envOf "law" lawScope L fa cd)) (envOf "law" lawScope L fa cd) E)
   (hQ : ∀ h' tk m' tp, Fr h₀ L h' m' → News h₀ L h' [(620, tabObj tp)] → Q (.ret (.bool true)) { s with heap := h', toks := tk }) :
   wpAny (model PySem.Challenge.rw_kp0119_10.row.prog w) (callerA.deeper (envOf "law" lawScope L fa cd)) (execs lawBody (envOf "law" lawScope L fa cd)) Q E s := by
  rw [law_split]
  refine wpAny_execs_cons (pro0 X T B F N hl hI hlen m1 fun h0 k0 sc vs' nn ks' hI' hl' F0 N0 g0 => ?_)
  refine wpAny_execs_cons (pro1 X T B F0 N0 fun h1 k1 a oF loF dF F1 N1 g1 => ?_)
  refine wpAny_execs_cons (pro2 X T B F1 N1 fun h2 k2 b oP loP dP F2 N2 g2 => ?_)
  refine wpAny_execs_cons (pro3 X T B F2 N2 fun h3 k3 c F3 N3 g3 => ?_)
  refine wpAny_execs_cons (pro4 X T B F3 CH N3 g1 g2 g3 g0 ((if_neg (by decide)).trans ((if_neg (by decide)).trans (if_pos rfl))) ((if_neg (by decide)).trans (if_pos rfl)) (if_pos rfl) fun Z tail h4 k4 za zb zc F4 N4 M hc hb ha hs => ?_)
  refine wpAny_execs_cons (pro5 X T B F4 N4 fun h5 k5 ap kp F5 N5 lap => ?_)
  refine wpAny_execs_cons (pro6 X T B F5 N5 fun h6 k6 pa F6 N6 lpa => ?_)
  have hsN : (sc, ({ cls := .type "list", data := .seq vs'.toArray nn } : Obj)) ∈ (pa, listOf #[] 0) :: (ap, listOf ([.none, .none, .none, .none, .none, .none, .none] : List Value).toArray kp) :: (Z.nd, listOf Z.its.toArray Z.kn) :: tail := .tail _ (.tail _ (.tail _ hs))
  refine wpAny_execs_cons (pro7 (sc := sc) (vs := vs') (ks := ks') (nn := nn) X T B F6 (fun p hp => (List.mem_cons.mp hp).elim (fun e => e ▸ N6 _ hsN) (N6 p)) hI' hl'
    ((if_neg (by decide)).trans ((if_neg (by decide)).trans ((if_neg (by decide)).trans ((if_neg (by decide)).trans ((if_neg (by decide)).trans ((if_neg (by decide)).trans (if_pos rfl))))))) hE fun ax h7 k7 tups sv sn F7 N7 hsv hst htu lax => ?_)
  obtain ⟨news', G, N8⟩ := start (sv := sv) (sn := sn) za zb zc M hc hb ha N7 g2.1 g3.1 lap lpa lax dF dP loF loP hst htu
  refine loop (Z := nmTo Z pa ap ax kp sv sn) X T B CH F7 N8 ⟨?_, ?_, ?_, ?_⟩ G (Nat.le_trans hsv (by decide)) fun h9 k9 m9 n9 news9 F9 N9 G9 => ?_
  · exact (if_neg (by decide)).trans ((if_neg (by decide)).trans (if_pos rfl))
  · exact (if_neg (by decide)).trans (if_pos rfl)
  · exact if_pos rfl
  · show _ = some (Value.ref Z.aL)
    rw [zc]
    exact (if_neg (by decide)).trans ((if_neg (by decide)).trans ((if_neg (by decide)).trans (if_pos rfl)))
  · refine wpAny_execs_cons (pro8 X T B F9 N9 fun h10 k10 F10 N10 => ?_)
    exact hQ _ _ _ _ F10 fun p hp => by
      rw [List.mem_singleton.mp hp]
      exact N10 _ G9.tab
end
end
end Mine
end
open PySem PySem.W PyProof.Rows PySem.Calls PySem.SeqAt
theorem PySem.Challenge.cw_kp0119_10_holds : PySem.Challenge.rw_kp0119_10.Holds :=
  Mine.hd (by
  k_go0
  (all_goals try k_fold)
  (with_reducible rename (Mine.hd.heap_39 _).In _ => X9)
  (with_reducible rename Top topProg _ _ _ _ _ => T9)
  (with_reducible rename Below callerA _ _ _ => B9)
  (with_reducible rename CodeHd _ _ _ => C9)
  (with_reducible rename Fr _ _ _ _ => F9)
  (with_reducible rename News _ _ _ _ => N9)
  (with_reducible rename IntsAre _ _ => I9)
  (with_reducible rename ¬ (_ : Int) < _ => l9)
  (with_reducible rename Heap.IsList (ghostOf _ _) _ _ => L9)
  refine Mine.law_run X9 T9 B9 F9 C9 N9 L9 I9 l9 ?_ ?_ ?_
  · rfl
  · passes_own
  · intro h' tk m' tp F' N'
    clear N9 F9
    k_steps)
