import PyProof.Rows.All
import Wide.All
import OpenK.AllK
import Wide.FinOn
import Lean
import PySem.Challenge.RW_ji0060_01
open PySem PySem.W PyProof.Rows PySem.Calls PyProof.V PySem.Spec
set_option Elab.async false
set_option maxRecDepth 100000
set_option maxHeartbeats 8000000
set_option rowWalk.seconds 0
set_option linter.all false
namespace Mine
theorem same : PySem.W.builtinNamed = PySem.W.builtinNamed := rfl
name_quick tw17765890119292912811 for PySem.W.builtinNamed by Mine.same
name_quick tw14935808482263218034 for PySem.W.builtinNamed by Mine.same
name_quick tw13987700758178989221 for PySem.W.builtinNamed by Mine.same
name_quick tw14546402689763028342 for PySem.W.builtinNamed by Mine.same
name_quick tw15222936783725397906 for PySem.W.builtinNamed by Mine.same
name_quick tw11947798178622157542 for PySem.W.builtinNamed by Mine.same
name_quick tw12131107306553986914 for PySem.W.builtinNamed by Mine.same
name_quick tw2609549216566000297 for PySem.W.builtinNamed by Mine.same
name_quick tw6869927729602746508 for PySem.W.builtinNamed by Mine.same
name_quick tw17490288655576757168 for PySem.W.builtinNamed by Mine.same
name_quick tw4826392766981384302 for PySem.W.builtinNamed by Mine.same
name_quick tw5657678126698467677 for PySem.W.builtinNamed by Mine.same
name_quick tw4611867582626475017 for PySem.W.builtinNamed by Mine.same
name_quick tw14375963352720148542 for PySem.W.builtinNamed by Mine.same
name_quick tw6380941820014770887 for PySem.W.builtinNamed by Mine.same
name_quick tw6701178348767249528 for PySem.W.builtinNamed by Mine.same
name_quick tw10107171214915081941 for PySem.W.builtinNamed by Mine.same
name_quick tw7165273495981847977 for PySem.W.builtinNamed by Mine.same
name_quick tw11351908024311585542 for PySem.W.builtinNamed by Mine.same
name_quick tw6299837774328325330 for PySem.W.builtinNamed by Mine.same
name_quick tw1838471277116072329 for PySem.W.builtinNamed by Mine.same
name_quick tw11937000114074067780 for PySem.W.builtinNamed by Mine.same
name_quick tw1079973150027690862 for PySem.W.builtinNamed by Mine.same
name_quick tw16344748958838268951 for PySem.W.builtinNamed by Mine.same
name_quick tw12392334066437946872 for PySem.W.builtinNamed by Mine.same
name_quick tw8403139960541448775 for PySem.W.builtinNamed by Mine.same
name_quick tw5399134317407593073 for PySem.W.builtinNamed by Mine.same
name_quick tw9441786884532282168 for PySem.W.builtinNamed by Mine.same
name_quick tw8961459597637378411 for PySem.W.builtinNamed by Mine.same
name_quick tw11935496883876711241 for PySem.W.builtinNamed by Mine.same
name_quick tw7938888453119795124 for PySem.W.builtinNamed by Mine.same
name_quick tw12163539342651646410 for PySem.W.builtinNamed by Mine.same
name_quick tw1845317713562199449 for PySem.W.builtinNamed by Mine.same
name_quick tw17510246701946199547 for PySem.W.builtinNamed by Mine.same
name_quick tw16556939256748051821 for PySem.W.builtinNamed by Mine.same
name_quick tw13466022962252580754 for PySem.W.builtinNamed by Mine.same
name_quick tw2121451671014115521 for PySem.W.builtinNamed by Mine.same
name_quick tw15948043362347342622 for PySem.W.builtinNamed by Mine.same
name_quick tw16162345646803186227 for PySem.W.builtinNamed by Mine.same
name_quick tw16291821466657704948 for PySem.W.builtinNamed by Mine.same
name_quick tw9723317003926923601 for PySem.W.builtinNamed by Mine.same
name_quick tw6883306634144013458 for PySem.W.builtinNamed by Mine.same
name_quick tw2413807604229578750 for PySem.W.builtinNamed by Mine.same
name_quick tw15312390833744627425 for PySem.W.builtinNamed by Mine.same
name_quick tw6669039898433852866 for PySem.W.builtinNamed by Mine.same
name_quick tw6820697357413783074 for PySem.W.builtinNamed by Mine.same
name_quick tw236464899474116529 for PySem.W.builtinNamed by Mine.same
name_quick tw56866815362916575 for PySem.W.builtinNamed by Mine.same
name_quick tw18361789730921899064 for PySem.W.builtinNamed by Mine.same
name_quick tw6364163039300263182 for PySem.W.builtinNamed by Mine.same
name_quick tw11040119051669904354 for PySem.W.builtinNamed by Mine.same
name_quick tw831219609482436666 for PySem.W.builtinNamed by Mine.same
name_quick tw4062723591138301005 for PySem.W.builtinNamed by Mine.same
name_quick tw15749424338863009777 for PySem.W.builtinNamed by Mine.same
name_quick tw15171437771834901901 for PySem.W.builtinNamed by Mine.same
name_quick tw1003259972624491245 for PySem.W.builtinNamed by Mine.same
name_quick tw14712583523952917632 for PySem.W.builtinNamed by Mine.same
name_quick tw13747589934090609470 for PySem.W.builtinNamed by Mine.same
name_quick tw2881715330879564503 for PySem.W.builtinNamed by Mine.same
name_quick tw12753524265053772686 for PySem.W.builtinNamed by Mine.same
name_quick tw14206215022458406082 for PySem.W.builtinNamed by Mine.same
name_quick tw763824061340275517 for PySem.W.builtinNamed by Mine.same
name_quick tw13081739545671470733 for PySem.W.builtinNamed by Mine.same
name_quick tw13736537191974665221 for PySem.W.builtinNamed by Mine.same
name_quick tw3557859405615330880 for PySem.W.builtinNamed by Mine.same
name_quick tw15606172996345204896 for PySem.W.builtinNamed by Mine.same
name_quick tw15790764372344315247 for PySem.W.builtinNamed by Mine.same
name_quick tw4458714603005428949 for PySem.W.builtinNamed by Mine.same
name_quick tw13047429554989357004 for PySem.W.builtinNamed by Mine.same
name_quick tw14968719047704862893 for PySem.W.builtinNamed by Mine.same
name_quick tw3019711633249751898 for PySem.W.builtinNamed by Mine.same
name_quick tw3190561404538329269 for PySem.W.builtinNamed by Mine.same
name_quick tw14219467222510488451 for PySem.W.builtinNamed by Mine.same
name_quick tw10370977426243299875 for PySem.W.builtinNamed by Mine.same
name_quick tw324687857050631260 for PySem.W.builtinNamed by Mine.same
name_quick tw10174420995824786253 for PySem.W.builtinNamed by Mine.same
name_quick tw1005486213723411704 for PySem.W.builtinNamed by Mine.same
name_quick tw17758509914172277768 for PySem.W.builtinNamed by Mine.same
name_quick tw635503231470822383 for PySem.W.builtinNamed by Mine.same
name_quick tw15273473366250816372 for PySem.W.builtinNamed by Mine.same
name_quick tw8283363068038363799 for PySem.W.builtinNamed by Mine.same
name_quick tw932564696582215243 for PySem.W.builtinNamed by Mine.same
name_quick tw359610635481030469 for PySem.W.builtinNamed by Mine.same
name_quick tw15572852359065928030 for PySem.W.builtinNamed by Mine.same
name_quick tw8165587814774229186 for PySem.W.builtinNamed by Mine.same
name_quick tw8693463559698953332 for PySem.W.builtinNamed by Mine.same
name_quick tw14836196794758949032 for PySem.W.builtinNamed by Mine.same
name_quick tw3566353523458520393 for PySem.W.builtinNamed by Mine.same
name_quick tw13957885192907023278 for PySem.W.builtinNamed by Mine.same
name_quick tw8659410193864663527 for PySem.W.builtinNamed by Mine.same
name_quick tw621136561980868157 for PySem.W.builtinNamed by Mine.same
name_quick tw9782135339655401579 for PySem.W.builtinNamed by Mine.same
name_quick tw8943069089995209788 for PySem.W.builtinNamed by Mine.same
name_quick tw8183525835515976384 for PySem.W.builtinNamed by Mine.same
name_quick tw4484557811141459300 for PySem.W.builtinNamed by Mine.same
name_quick tw14349927937860759479 for PySem.W.builtinNamed by Mine.same
name_quick tw278248380987635344 for PySem.W.builtinNamed by Mine.same
name_quick tw2619801066983785062 for PySem.W.builtinNamed by Mine.same
name_quick tw17123070430790698077 for PySem.W.builtinNamed by Mine.same
name_quick tw4512867803774423787 for PySem.W.builtinNamed by Mine.same
name_quick tw6217727039936017078 for PySem.W.builtinNamed by Mine.same
name_quick tw16386082214663358790 for PySem.W.builtinNamed by Mine.same
name_quick tw10911837008597817112 for PySem.W.builtinNamed by Mine.same
name_quick tw16821271899094238040 for PySem.W.builtinNamed by Mine.same
name_quick tw5036558568726553653 for PySem.W.builtinNamed by Mine.same
name_quick tw4536017239396226554 for PySem.W.builtinNamed by Mine.same
name_quick tw6278870154242366850 for PySem.W.builtinNamed by Mine.same
name_quick tw5253931004882914412 for PySem.W.builtinNamed by Mine.same
name_quick tw14124034558580679333 for PySem.W.builtinNamed by Mine.same
name_quick tw7213669635153114798 for PySem.W.builtinNamed by Mine.same
name_quick tw15994069886160475766 for PySem.W.builtinNamed by Mine.same
name_quick tw3802785356467963318 for PySem.W.builtinNamed by Mine.same
name_quick tw10625822384926582717 for PySem.W.builtinNamed by Mine.same
name_quick tw1832623323352642639 for PySem.W.builtinNamed by Mine.same
name_quick tw10259498394322156110 for PySem.W.builtinNamed by Mine.same
name_quick tw10486195230295687400 for PySem.W.builtinNamed by Mine.same
name_quick tw1877792269910585651 for PySem.W.builtinNamed by Mine.same
name_quick tw1487588882611995234 for PySem.W.builtinNamed by Mine.same
name_quick tw9843694215576245536 for PySem.W.builtinNamed by Mine.same
name_quick tw2235900406447983735 for PySem.W.builtinNamed by Mine.same
name_quick tw16905297552877454740 for PySem.W.builtinNamed by Mine.same
name_quick tw10135395814497728685 for PySem.W.builtinNamed by Mine.same
name_quick tw4939925202403637862 for PySem.W.builtinNamed by Mine.same
name_quick tw10518921392863836735 for PySem.W.builtinNamed by Mine.same
name_quick tw3073529525119192166 for PySem.W.builtinNamed by Mine.same
name_quick tw471612089076184782 for PySem.W.builtinNamed by Mine.same
name_quick tw16695709918185418452 for PySem.W.builtinNamed by Mine.same
name_quick tw4820996626589678886 for PySem.W.builtinNamed by Mine.same
name_quick tw11797389938168497334 for PySem.W.builtinNamed by Mine.same
name_quick tw14821861601749992815 for PySem.W.builtinNamed by Mine.same
name_quick tw15828273171449261304 for PySem.W.builtinNamed by Mine.same
name_quick tw13093406049682670325 for PySem.W.builtinNamed by Mine.same
name_quick tw504234804212378535 for PySem.W.builtinNamed by Mine.same
name_quick tw8277994911971327351 for PySem.W.builtinNamed by Mine.same
name_quick tw3954589117673892834 for PySem.W.builtinNamed by Mine.same
name_quick tw3341394541840090528 for PySem.W.builtinNamed by Mine.same
name_quick tw16748080836575587039 for PySem.W.builtinNamed by Mine.same
name_quick tw11535320247821201710 for PySem.W.builtinNamed by Mine.same
name_quick tw13662630887034756012 for PySem.W.builtinNamed by Mine.same
name_quick tw5529744959805744156 for PySem.W.builtinNamed by Mine.same
name_quick tw7733430939269062787 for PySem.W.builtinNamed by Mine.same
name_quick tw5425129026111379582 for PySem.W.builtinNamed by Mine.same
name_quick tw10264656693057960329 for PySem.W.builtinNamed by Mine.same
name_quick tw15339447492244078055 for PySem.W.builtinNamed by Mine.same
name_quick tw18093058545204823135 for PySem.W.builtinNamed by Mine.same
name_quick tw6258616261984751030 for PySem.W.builtinNamed by Mine.same
name_quick tw12880712583311929037 for PySem.W.builtinNamed by Mine.same
name_quick tw13462263225359940684 for PySem.W.builtinNamed by Mine.same
name_quick tw9493154514000843583 for PySem.W.builtinNamed by Mine.same
name_quick tw10310373789444376190 for PySem.W.builtinNamed by Mine.same
name_quick tw1212249339773212553 for PySem.W.builtinNamed by Mine.same
name_quick tw9564813573115029756 for PySem.W.builtinNamed by Mine.same
name_quick tw9214338796010893775 for PySem.W.builtinNamed by Mine.same
name_quick tw9882796052012253507 for PySem.W.builtinNamed by Mine.same
name_quick tw8070336223655475990 for PySem.W.builtinNamed by Mine.same
name_quick tw7049086385015950857 for PySem.W.builtinNamed by Mine.same
name_quick tw17604212109326805388 for PySem.W.builtinNamed by Mine.same
name_quick tw10701875015942570995 for PySem.W.builtinNamed by Mine.same
name_quick tw3209247280473836556 for PySem.W.builtinNamed by Mine.same
name_quick tw11637990289687013892 for PySem.W.builtinNamed by Mine.same
name_quick tw1180976166710508488 for PySem.W.builtinNamed by Mine.same
name_quick tw14253884601668717598 for PySem.W.builtinNamed by Mine.same
name_quick tw15465217159682997520 for PySem.W.builtinNamed by Mine.same
name_quick tw1287108568628042438 for PySem.W.builtinNamed by Mine.same
name_quick tw7321013405817249923 for PySem.W.builtinNamed by Mine.same
name_quick tw7985151966360094011 for PySem.W.builtinNamed by Mine.same
name_quick tw16890957471890283335 for PySem.W.builtinNamed by Mine.same
name_quick tw4231093261727588703 for PySem.W.builtinNamed by Mine.same
name_quick tw13564688453571463362 for PySem.W.builtinNamed by Mine.same
name_quick tw5908550434731509463 for PySem.W.builtinNamed by Mine.same
name_quick tw2430274047013396081 for PySem.W.builtinNamed by Mine.same
name_quick tw4485179105699015564 for PySem.W.builtinNamed by Mine.same
name_quick tw3998925602106894197 for PySem.W.builtinNamed by Mine.same
name_quick tw3192841019773747507 for PySem.W.builtinNamed by Mine.same
name_quick tw4468779571383381044 for PySem.W.builtinNamed by Mine.same
name_quick tw10933728512131883801 for PySem.W.builtinNamed by Mine.same
name_quick tw16741404306110078804 for PySem.W.builtinNamed by Mine.same
name_quick tw12417820869812716289 for PySem.W.builtinNamed by Mine.same
name_quick tw4710867739169124974 for PySem.W.builtinNamed by Mine.same
name_quick tw13506002754907297103 for PySem.W.builtinNamed by Mine.same
name_quick tw18336627609752280899 for PySem.W.builtinNamed by Mine.same
name_quick tw11185632053217419380 for PySem.W.builtinNamed by Mine.same
name_quick tw14548888892296898513 for PySem.W.builtinNamed by Mine.same
name_quick tw10576409046829790504 for PySem.W.builtinNamed by Mine.same
name_quick tw6442918598679262191 for PySem.W.builtinNamed by Mine.same
name_quick tw9167423241445851730 for PySem.W.builtinNamed by Mine.same
name_quick tw9803343129195627554 for PySem.W.builtinNamed by Mine.same
name_quick tw14384242714522158338 for PySem.W.builtinNamed by Mine.same
name_quick tw9977489317662141147 for PySem.W.builtinNamed by Mine.same
name_quick tw2886931167706184968 for PySem.W.builtinNamed by Mine.same
name_quick tw9334203189931341491 for PySem.W.builtinNamed by Mine.same
name_quick tw13659530592372771594 for PySem.W.builtinNamed by Mine.same
name_quick tw239895691651737985 for PySem.W.builtinNamed by Mine.same
name_quick tw12969845938888762743 for PySem.W.builtinNamed by Mine.same
name_quick tw6806279155570363864 for PySem.W.builtinNamed by Mine.same
name_quick tw6889549619850256862 for PySem.W.builtinNamed by Mine.same
name_quick tw17148468386165243477 for PySem.W.builtinNamed by Mine.same
name_quick tw15809393420182293849 for PySem.W.builtinNamed by Mine.same
name_quick tw8286020983483056885 for PySem.W.builtinNamed by Mine.same
name_quick tw5497976610084546405 for PySem.W.builtinNamed by Mine.same
name_quick tw1018666035158690629 for PySem.W.builtinNamed by Mine.same
name_quick tw6806118676310877730 for PySem.W.builtinNamed by Mine.same
name_quick tw9312077662991895385 for PySem.W.builtinNamed by Mine.same
name_quick tw4107193311202444746 for PySem.W.builtinNamed by Mine.same
name_quick tw5667206866542682710 for PySem.W.builtinNamed by Mine.same
name_quick tw772568155239984789 for PySem.W.builtinNamed by Mine.same
name_quick tw13947966239634940363 for PySem.W.builtinNamed by Mine.same
name_quick tw5594214808588667586 for PySem.W.builtinNamed by Mine.same
name_quick tw9890652396077810862 for PySem.W.builtinNamed by Mine.same
name_quick tw5443442382658945916 for PySem.W.builtinNamed by Mine.same
name_quick tw3450139735017335226 for PySem.W.builtinNamed by Mine.same
name_quick tw3230561360577147332 for PySem.W.builtinNamed by Mine.same
name_quick tw13395962948104522543 for PySem.W.builtinNamed by Mine.same
name_quick tw14075999913522887941 for PySem.W.builtinNamed by Mine.same
name_quick tw452974480168361481 for PySem.W.builtinNamed by Mine.same
name_quick tw12192867710165486006 for PySem.W.builtinNamed by Mine.same
name_quick tw4570200847975456853 for PySem.W.builtinNamed by Mine.same
name_quick tw9256553966135769110 for PySem.W.builtinNamed by Mine.same
name_quick tw1966509743730629842 for PySem.W.builtinNamed by Mine.same
name_quick tw7768245405469262885 for PySem.W.builtinNamed by Mine.same
name_quick tw17715465558245386583 for PySem.W.builtinNamed by Mine.same
name_quick tw2819961709785284872 for PySem.W.builtinNamed by Mine.same
name_quick tw2556179489198045896 for PySem.W.builtinNamed by Mine.same
name_quick tw6146343155856592717 for PySem.W.builtinNamed by Mine.same
name_quick tw2628172757949407048 for PySem.W.builtinNamed by Mine.same
name_quick tw13230703186325386075 for PySem.W.builtinNamed by Mine.same
name_quick tw12023685858437060488 for PySem.W.builtinNamed by Mine.same
name_quick tw13409275976153764349 for PySem.W.builtinNamed by Mine.same
name_quick tw9530084572488620777 for PySem.W.builtinNamed by Mine.same
name_quick tw17762615999747805395 for PySem.W.builtinNamed by Mine.same
name_quick tw1174204095750909421 for PySem.W.builtinNamed by Mine.same
name_quick tw1080282399789523781 for PySem.W.builtinNamed by Mine.same
name_quick tw2792228790993926727 for PySem.W.builtinNamed by Mine.same
name_quick tw283781392992846507 for PySem.W.builtinNamed by Mine.same
name_quick tw17378134022378180489 for PySem.W.builtinNamed by Mine.same
name_quick tw5137330670403824726 for PySem.W.builtinNamed by Mine.same
name_quick tw16170211750066364263 for PySem.W.builtinNamed by Mine.same
name_quick tw8064501304600337937 for PySem.W.builtinNamed by Mine.same
name_quick tw654529283365609709 for PySem.W.builtinNamed by Mine.same
name_quick tw5186812347590526071 for PySem.W.builtinNamed by Mine.same
name_quick tw4021464344289352773 for PySem.W.builtinNamed by Mine.same
name_quick tw15337130253774834994 for PySem.W.builtinNamed by Mine.same
name_quick tw4159635414807156690 for PySem.W.builtinNamed by Mine.same
name_quick tw5605519205118327553 for PySem.W.builtinNamed by Mine.same
name_quick tw16270934764875809010 for PySem.W.builtinNamed by Mine.same
name_quick tw8340181149785064845 for PySem.W.builtinNamed by Mine.same
name_quick tw9912644220960994360 for PySem.W.builtinNamed by Mine.same
name_quick tw6887123729473480690 for PySem.W.builtinNamed by Mine.same
name_quick tw17773930763006801077 for PySem.W.builtinNamed by Mine.same
name_quick tw16664525580734454474 for PySem.W.builtinNamed by Mine.same
name_quick tw3721259950475247031 for PySem.W.builtinNamed by Mine.same
name_quick tw399330849949673863 for PySem.W.builtinNamed by Mine.same
name_quick tw3157579825314394364 for PySem.W.builtinNamed by Mine.same
name_quick tw1077592814353289895 for PySem.W.builtinNamed by Mine.same
name_quick tw16853307065018473559 for PySem.W.builtinNamed by Mine.same
name_quick tw11007734028200460864 for PySem.W.builtinNamed by Mine.same
name_quick tw1701742851032049239 for PySem.W.builtinNamed by Mine.same
name_quick tw7547445462446354407 for PySem.W.builtinNamed by Mine.same
name_quick tw13010239622449640628 for PySem.W.builtinNamed by Mine.same
name_quick tw12975695706392819176 for PySem.W.builtinNamed by Mine.same
name_quick tw12792935633007503141 for PySem.W.builtinNamed by Mine.same
name_quick tw587927195927908655 for PySem.W.builtinNamed by Mine.same
name_quick tw4728018739393944921 for PySem.W.builtinNamed by Mine.same
name_quick tw7396047078964898226 for PySem.W.builtinNamed by Mine.same
name_quick tw7467429859572636060 for PySem.W.builtinNamed by Mine.same
name_quick tw13962723315682333324 for PySem.W.builtinNamed by Mine.same
name_quick tw16188209136327902244 for PySem.W.builtinNamed by Mine.same
name_quick tw149017950859261856 for PySem.W.builtinNamed by Mine.same
name_quick tw13442360802058062187 for PySem.W.builtinNamed by Mine.same
name_quick tw11705250722019329632 for PySem.W.builtinNamed by Mine.same
name_quick tw1359973099090416036 for PySem.W.builtinNamed by Mine.same
name_quick tw9318051184599435196 for PySem.W.builtinNamed by Mine.same
name_quick tw15547672608525270046 for PySem.W.builtinNamed by Mine.same
name_quick tw9843186129324065028 for PySem.W.builtinNamed by Mine.same
name_quick tw5322795754703913941 for PySem.W.builtinNamed by Mine.same
name_quick tw18057790014612762583 for PySem.W.builtinNamed by Mine.same
name_quick tw10075871512320844396 for PySem.W.builtinNamed by Mine.same
name_quick tw16987022687503243718 for PySem.W.builtinNamed by Mine.same
name_quick tw6451296204724595617 for PySem.W.builtinNamed by Mine.same
name_quick tw3764884261992751268 for PySem.W.builtinNamed by Mine.same
name_quick tw11104879983197146332 for PySem.W.builtinNamed by Mine.same
name_quick tw5833164064332945976 for PySem.W.builtinNamed by Mine.same
name_quick tw16490222111777447473 for PySem.W.builtinNamed by Mine.same
name_quick tw8100986719919566489 for PySem.W.builtinNamed by Mine.same
name_quick tw14928187142523371118 for PySem.W.builtinNamed by Mine.same
name_quick tw5224331271245175534 for PySem.W.builtinNamed by Mine.same
name_quick tw8674878145977495721 for PySem.W.builtinNamed by Mine.same
name_quick tw15057122438013472272 for PySem.W.builtinNamed by Mine.same
name_quick tw7367339903079687192 for PySem.W.builtinNamed by Mine.same
name_quick tw5746444070925331601 for PySem.W.builtinNamed by Mine.same
name_quick tw8055216252025181006 for PySem.W.builtinNamed by Mine.same
name_quick tw8167362227909290159 for PySem.W.builtinNamed by Mine.same
name_quick tw15365033042893241300 for PySem.W.builtinNamed by Mine.same
name_quick tw1524951117734292578 for PySem.W.builtinNamed by Mine.same
name_quick tw4553833442948217920 for PySem.W.builtinNamed by Mine.same
name_quick tw392316452771005069 for PySem.W.builtinNamed by Mine.same
name_quick tw18406259749595555382 for PySem.W.builtinNamed by Mine.same
name_quick tw15144493804048389425 for PySem.W.builtinNamed by Mine.same
name_quick tw5067929041772471671 for PySem.W.builtinNamed by Mine.same
name_quick tw13661161808740961123 for PySem.W.builtinNamed by Mine.same
name_quick tw16323587472688317505 for PySem.W.builtinNamed by Mine.same
name_quick tw6012357971237815710 for PySem.W.builtinNamed by Mine.same
name_quick tw995396339493167444 for PySem.W.builtinNamed by Mine.same
name_quick tw5508679326911683604 for PySem.W.builtinNamed by Mine.same
name_quick tw8201052966315238307 for PySem.W.builtinNamed by Mine.same
name_quick tw140807539891751681 for PySem.W.builtinNamed by Mine.same
name_quick tw8449478867250497089 for PySem.W.builtinNamed by Mine.same
name_quick tw11693603240716206151 for PySem.W.builtinNamed by Mine.same
name_quick tw4183815350912090106 for PySem.W.builtinNamed by Mine.same
name_quick tw15485290940082253110 for PySem.W.builtinNamed by Mine.same
name_quick tw7076086005701644345 for PySem.W.builtinNamed by Mine.same
name_quick tw18311493435773130022 for PySem.W.builtinNamed by Mine.same
name_quick tw5033709505225463266 for PySem.W.builtinNamed by Mine.same
name_quick tw8818166150611160467 for PySem.W.builtinNamed by Mine.same
name_quick tw8539536013687795691 for PySem.W.builtinNamed by Mine.same
name_quick tw722523939796224688 for PySem.W.builtinNamed by Mine.same
name_quick tw2631756721495805941 for PySem.W.builtinNamed by Mine.same
name_quick tw12383317116178747991 for PySem.W.builtinNamed by Mine.same
name_quick tw13878975785910253098 for PySem.W.builtinNamed by Mine.same
name_quick tw4551792814510417615 for PySem.W.builtinNamed by Mine.same
name_quick tw7124043436312266945 for PySem.W.builtinNamed by Mine.same
name_quick tw14568889021321218621 for PySem.W.builtinNamed by Mine.same
name_quick tw10130457385843319492 for PySem.W.builtinNamed by Mine.same
name_quick tw390165402945593382 for PySem.W.builtinNamed by Mine.same
name_quick tw9625248467396128542 for PySem.W.builtinNamed by Mine.same
name_quick tw1890052144573255014 for PySem.W.builtinNamed by Mine.same
name_quick tw10760903785710379735 for PySem.W.builtinNamed by Mine.same
name_quick tw8247506955672965647 for PySem.W.builtinNamed by Mine.same
name_quick tw6254767823624802131 for PySem.W.builtinNamed by Mine.same
name_quick tw14324650282680631772 for PySem.W.builtinNamed by Mine.same
name_quick tw13121447583974177305 for PySem.W.builtinNamed by Mine.same
name_quick tw14874626071484216755 for PySem.W.builtinNamed by Mine.same
name_quick tw12452074465605137766 for PySem.W.builtinNamed by Mine.same
name_quick tw564021999623035964 for PySem.W.builtinNamed by Mine.same
name_quick tw4528226883662371985 for PySem.W.builtinNamed by Mine.same
name_quick tw14925684857534796020 for PySem.W.builtinNamed by Mine.same
name_quick tw7209593202444845736 for PySem.W.builtinNamed by Mine.same
name_quick tw3465164100855987463 for PySem.W.builtinNamed by Mine.same
name_quick tw2344060218564842259 for PySem.W.builtinNamed by Mine.same
name_quick tw9266257219589214770 for PySem.W.builtinNamed by Mine.same
name_quick tw5051940530637309057 for PySem.W.builtinNamed by Mine.same
name_quick tw12231738217880304450 for PySem.W.builtinNamed by Mine.same
name_quick tw2157066567455259504 for PySem.W.builtinNamed by Mine.same
name_quick tw13843020212981224819 for PySem.W.builtinNamed by Mine.same
name_quick tw15721274272513806848 for PySem.W.builtinNamed by Mine.same
name_quick tw5346698170260756960 for PySem.W.builtinNamed by Mine.same
name_quick tw1316947792488361303 for PySem.W.builtinNamed by Mine.same
name_quick tw1582066815086470097 for PySem.W.builtinNamed by Mine.same
name_quick tw7241486377552735879 for PySem.W.builtinNamed by Mine.same
name_quick tw12763707219459486293 for PySem.W.builtinNamed by Mine.same
name_quick tw15423574518153992321 for PySem.W.builtinNamed by Mine.same
name_quick tw9470658479980526408 for PySem.W.builtinNamed by Mine.same
name_quick tw6848926263182462706 for PySem.W.builtinNamed by Mine.same
name_quick tw10690490952792556423 for PySem.W.builtinNamed by Mine.same
name_quick tw7988885332223431088 for PySem.W.builtinNamed by Mine.same
name_quick tw5170472078049488662 for PySem.W.builtinNamed by Mine.same
name_quick tw16087803183651607571 for PySem.W.builtinNamed by Mine.same
name_quick tw6267977289477999056 for PySem.W.builtinNamed by Mine.same
name_quick tw11411121177016311926 for PySem.W.builtinNamed by Mine.same
name_quick tw8575277984822008253 for PySem.W.builtinNamed by Mine.same
name_quick tw7654773712067035244 for PySem.W.builtinNamed by Mine.same
name_quick tw2294243455285256318 for PySem.W.builtinNamed by Mine.same
name_quick tw15432166692029144118 for PySem.W.builtinNamed by Mine.same
name_quick tw1418654741153939361 for PySem.W.builtinNamed by Mine.same
name_quick tw10323799509492320452 for PySem.W.builtinNamed by Mine.same
name_quick tw5104636844848578947 for PySem.W.builtinNamed by Mine.same
name_quick tw15611753642064658754 for PySem.W.builtinNamed by Mine.same
name_quick tw15675464857194701434 for PySem.W.builtinNamed by Mine.same
name_quick tw15047665732077612247 for PySem.W.builtinNamed by Mine.same
name_quick tw1114813822896423516 for PySem.W.builtinNamed by Mine.same
name_quick tw7768400534356770056 for PySem.W.builtinNamed by Mine.same
name_quick tw10587900047724805094 for PySem.W.builtinNamed by Mine.same
name_quick tw8098032621752649564 for PySem.W.builtinNamed by Mine.same
name_quick tw5595247858640713330 for PySem.W.builtinNamed by Mine.same
name_quick tw15645987884452268409 for PySem.W.builtinNamed by Mine.same
name_quick tw14926818218998136732 for PySem.W.builtinNamed by Mine.same
name_quick tw5600517304484940917 for PySem.W.builtinNamed by Mine.same
name_quick tw1428971933117114975 for PySem.W.builtinNamed by Mine.same
name_quick tw5628110112086015189 for PySem.W.builtinNamed by Mine.same
name_quick tw15854909796162283269 for PySem.W.builtinNamed by Mine.same
name_quick tw3220743179718508866 for PySem.W.builtinNamed by Mine.same
name_quick tw6599189474773909983 for PySem.W.builtinNamed by Mine.same
name_quick tw2216811617145289616 for PySem.W.builtinNamed by Mine.same
name_quick tw12703283752927783591 for PySem.W.builtinNamed by Mine.same
name_quick tw1743819623077352113 for PySem.W.builtinNamed by Mine.same
name_quick tw9278035998920557066 for PySem.W.builtinNamed by Mine.same
name_quick tw767611726410754551 for PySem.W.builtinNamed by Mine.same
name_quick tw5566129268184226775 for PySem.W.builtinNamed by Mine.same
name_quick tw3257047830155026298 for PySem.W.builtinNamed by Mine.same
name_quick tw7526922100881767749 for PySem.W.builtinNamed by Mine.same
name_quick tw16915267185663621630 for PySem.W.builtinNamed by Mine.same
name_quick tw7257395765612707969 for PySem.W.builtinNamed by Mine.same
name_quick tw17170440108752598240 for PySem.W.builtinNamed by Mine.same
name_quick tw16811041986775361175 for PySem.W.builtinNamed by Mine.same
name_quick tw2274745217480322620 for PySem.W.builtinNamed by Mine.same
name_quick tw39414321549452555 for PySem.W.builtinNamed by Mine.same
name_quick tw9495078012441039058 for PySem.W.builtinNamed by Mine.same
name_quick tw7546696864035105972 for PySem.W.builtinNamed by Mine.same
name_quick tw1538156033249374816 for PySem.W.builtinNamed by Mine.same
name_quick tw3855599437750891695 for PySem.W.builtinNamed by Mine.same
name_quick tw13779996379206222858 for PySem.W.builtinNamed by Mine.same
name_quick tw6451643703313303292 for PySem.W.builtinNamed by Mine.same
name_quick tw1762230944816601876 for PySem.W.builtinNamed by Mine.same
name_quick tw5334321346636923987 for PySem.W.builtinNamed by Mine.same
name_quick tw7026101007850047229 for PySem.W.builtinNamed by Mine.same
name_quick tw10640224195028866111 for PySem.W.builtinNamed by Mine.same
name_quick tw15812801437646067978 for PySem.W.builtinNamed by Mine.same
name_quick tw5833197976460081826 for PySem.W.builtinNamed by Mine.same
name_quick tw3355933355204477132 for PySem.W.builtinNamed by Mine.same
name_quick tw5918424481922706018 for PySem.W.builtinNamed by Mine.same
name_quick tw4022547110096353530 for PySem.W.builtinNamed by Mine.same
name_quick tw15196238354983407963 for PySem.W.builtinNamed by Mine.same
name_quick tw3658073714236363272 for PySem.W.builtinNamed by Mine.same
name_quick tw17509207153764664783 for PySem.W.builtinNamed by Mine.same
name_quick tw8544526651172748129 for PySem.W.builtinNamed by Mine.same
name_quick tw10568396367368474405 for PySem.W.builtinNamed by Mine.same
name_quick tw17924957049685373483 for PySem.W.builtinNamed by Mine.same
name_quick tw13555566128974707454 for PySem.W.builtinNamed by Mine.same
name_quick tw11491678885367532547 for PySem.W.builtinNamed by Mine.same
name_quick tw607022258586970951 for PySem.W.builtinNamed by Mine.same
name_quick tw6413337111881341186 for PySem.W.builtinNamed by Mine.same
name_quick tw17518053659042494363 for PySem.W.builtinNamed by Mine.same
name_quick tw10556325637872403733 for PySem.W.builtinNamed by Mine.same
name_quick tw16806198128448588524 for PySem.W.builtinNamed by Mine.same
name_quick tw12627187809656461275 for PySem.W.builtinNamed by Mine.same
name_quick tw12643816302597777117 for PySem.W.builtinNamed by Mine.same
name_quick tw12468507654342452576 for PySem.W.builtinNamed by Mine.same
name_quick tw13989450883521708045 for PySem.W.builtinNamed by Mine.same
name_quick tw1931492457569336949 for PySem.W.builtinNamed by Mine.same
name_quick tw18340351654256134258 for PySem.W.builtinNamed by Mine.same
name_quick tw14365038026979191097 for PySem.W.builtinNamed by Mine.same
name_quick tw12399759704475442213 for PySem.W.builtinNamed by Mine.same
name_quick tw7371151964084684955 for PySem.W.builtinNamed by Mine.same
name_quick tw89857462072719013 for PySem.W.builtinNamed by Mine.same
name_quick tw9959108758387755897 for PySem.W.builtinNamed by Mine.same
name_quick tw7287956165908374934 for PySem.W.builtinNamed by Mine.same
name_quick tw6423224361063863097 for PySem.W.builtinNamed by Mine.same
name_quick tw16460278859598590578 for PySem.W.builtinNamed by Mine.same
name_quick tw3194031947851491823 for PySem.W.builtinNamed by Mine.same
name_quick tw15768834545371692535 for PySem.W.builtinNamed by Mine.same
name_quick tw11603049743657732206 for PySem.W.builtinNamed by Mine.same
name_quick tw11355664528881290881 for PySem.W.builtinNamed by Mine.same
name_quick tw4431961193618441738 for PySem.W.builtinNamed by Mine.same
name_quick tw5041339186411373048 for PySem.W.builtinNamed by Mine.same
name_quick tw11636877632634364497 for PySem.W.builtinNamed by Mine.same
name_quick tw4607080819068979694 for PySem.W.builtinNamed by Mine.same
name_quick tw3672265587817265479 for PySem.W.builtinNamed by Mine.same
name_quick tw2708649419725508062 for PySem.W.builtinNamed by Mine.same
name_quick tw7310653330863092569 for PySem.W.builtinNamed by Mine.same
name_quick tw12556392298279315534 for PySem.W.builtinNamed by Mine.same
name_quick tw4144472095339119366 for PySem.W.builtinNamed by Mine.same
name_quick tw9076302509406563238 for PySem.W.builtinNamed by Mine.same
name_quick tw4590684211893071689 for PySem.W.builtinNamed by Mine.same
name_quick tw15706214338503282285 for PySem.W.builtinNamed by Mine.same
name_quick tw9401789670108449385 for PySem.W.builtinNamed by Mine.same
name_quick tw11348286893256144594 for PySem.W.builtinNamed by Mine.same
name_quick tw4377773555509667721 for PySem.W.builtinNamed by Mine.same
name_quick tw12394757228545633398 for PySem.W.builtinNamed by Mine.same
name_quick tw3997179727892964729 for PySem.W.builtinNamed by Mine.same
name_quick tw8863953000229271132 for PySem.W.builtinNamed by Mine.same
name_quick tw3157282822111013667 for PySem.W.builtinNamed by Mine.same
name_quick tw9867266410840973663 for PySem.W.builtinNamed by Mine.same
name_quick tw1070471454023948900 for PySem.W.builtinNamed by Mine.same
name_quick tw16421717081807973840 for PySem.W.builtinNamed by Mine.same
name_quick tw17190060761393679146 for PySem.W.builtinNamed by Mine.same
name_quick tw2992617523926648259 for PySem.W.builtinNamed by Mine.same
name_quick tw3204089287296870994 for PySem.W.builtinNamed by Mine.same
name_quick tw13806190507146975710 for PySem.W.builtinNamed by Mine.same
name_quick tw13500045701546134882 for PySem.W.builtinNamed by Mine.same
name_quick tw14611747934823827666 for PySem.W.builtinNamed by Mine.same
name_quick tw11042809789992138583 for PySem.W.builtinNamed by Mine.same
name_quick tw9102804779382121721 for PySem.W.builtinNamed by Mine.same
name_quick tw3147626856985178844 for PySem.W.builtinNamed by Mine.same
name_quick tw5826663686880238792 for PySem.W.builtinNamed by Mine.same
name_quick tw8131313407364682248 for PySem.W.builtinNamed by Mine.same
name_quick tw16083050490177186282 for PySem.W.builtinNamed by Mine.same
name_quick tw7228817247498508145 for PySem.W.builtinNamed by Mine.same
name_quick tw13287991009634118507 for PySem.W.builtinNamed by Mine.same
name_quick tw6322653654971564897 for PySem.W.builtinNamed by Mine.same
name_quick tw6258457937074378171 for PySem.W.builtinNamed by Mine.same
name_quick tw6380399123438948922 for PySem.W.builtinNamed by Mine.same
name_quick tw8781548578014834911 for PySem.W.builtinNamed by Mine.same
name_quick tw1314245787677981206 for PySem.W.builtinNamed by Mine.same
name_quick tw6386350586353409011 for PySem.W.builtinNamed by Mine.same
name_quick tw6719526428132290506 for PySem.W.builtinNamed by Mine.same
name_quick tw6064636281027788263 for PySem.W.builtinNamed by Mine.same
name_quick tw18376124746352338353 for PySem.W.builtinNamed by Mine.same
name_quick tw8243019186934151973 for PySem.W.builtinNamed by Mine.same
name_quick tw16547559128296770393 for PySem.W.builtinNamed by Mine.same
name_quick tw11751034367806878874 for PySem.W.builtinNamed by Mine.same
name_quick tw11717219301063711841 for PySem.W.builtinNamed by Mine.same
name_quick tw17422477518816911039 for PySem.W.builtinNamed by Mine.same
name_quick tw2092647040680868688 for PySem.W.builtinNamed by Mine.same
name_quick tw10736857162508060981 for PySem.W.builtinNamed by Mine.same
name_quick tw7915437007192516698 for PySem.W.builtinNamed by Mine.same
name_quick tw8680876785661556703 for PySem.W.builtinNamed by Mine.same
name_quick tw2569379427233429424 for PySem.W.builtinNamed by Mine.same
name_quick tw8662005325746947615 for PySem.W.builtinNamed by Mine.same
name_quick tw12605735070882980552 for PySem.W.builtinNamed by Mine.same
name_quick tw3784066813283486086 for PySem.W.builtinNamed by Mine.same
name_quick tw13526229651593548407 for PySem.W.builtinNamed by Mine.same
name_quick tw14576111052705202291 for PySem.W.builtinNamed by Mine.same
name_quick tw7211804844571614864 for PySem.W.builtinNamed by Mine.same
name_quick tw9508285917473510312 for PySem.W.builtinNamed by Mine.same
name_quick tw7069650079448634618 for PySem.W.builtinNamed by Mine.same
name_quick tw11440521547747169374 for PySem.W.builtinNamed by Mine.same
name_quick tw3789988103123796436 for PySem.W.builtinNamed by Mine.same
name_quick tw4080325145750172545 for PySem.W.builtinNamed by Mine.same
name_quick tw15259463088938024755 for PySem.W.builtinNamed by Mine.same
name_quick tw7577592302958527101 for PySem.W.builtinNamed by Mine.same
name_quick tw377019982011898690 for PySem.W.builtinNamed by Mine.same
name_quick tw15816787566881520730 for PySem.W.builtinNamed by Mine.same
name_quick tw6435087000062974347 for PySem.W.builtinNamed by Mine.same
name_quick tw6162967669669326144 for PySem.W.builtinNamed by Mine.same
name_quick tw3047614400763944916 for PySem.W.builtinNamed by Mine.same
name_quick tw12610893516796831555 for PySem.W.builtinNamed by Mine.same
name_quick tw11946592545046732584 for PySem.W.builtinNamed by Mine.same
name_quick tw13996271259099368016 for PySem.W.builtinNamed by Mine.same
name_quick tw4186705524631747307 for PySem.W.builtinNamed by Mine.same
name_quick tw11524684792860033401 for PySem.W.builtinNamed by Mine.same
name_quick tw9506928616363881636 for PySem.W.builtinNamed by Mine.same
name_quick tw18152946477881199021 for PySem.W.builtinNamed by Mine.same
name_quick tw13246738795717754427 for PySem.W.builtinNamed by Mine.same
name_quick tw6906707182644889494 for PySem.W.builtinNamed by Mine.same
name_quick tw1854579537452284827 for PySem.W.builtinNamed by Mine.same
name_quick tw5010750334508877263 for PySem.W.builtinNamed by Mine.same
name_quick tw13403114286537665727 for PySem.W.builtinNamed by Mine.same
name_quick tw17327838764837835324 for PySem.W.builtinNamed by Mine.same
name_quick tw10093138737291626114 for PySem.W.builtinNamed by Mine.same
name_quick tw4309552115877303680 for PySem.W.builtinNamed by Mine.same
name_quick tw8083570265265253036 for PySem.W.builtinNamed by Mine.same
name_quick tw996842250366383916 for PySem.W.builtinNamed by Mine.same
name_quick tw2280741961345178078 for PySem.W.builtinNamed by Mine.same
name_quick tw4248827110856455679 for PySem.W.builtinNamed by Mine.same
name_quick tw8864546769951347344 for PySem.W.builtinNamed by Mine.same
name_quick tw11279971385263731663 for PySem.W.builtinNamed by Mine.same
name_quick tw13318412902686757081 for PySem.W.builtinNamed by Mine.same
name_quick tw17918718276815854249 for PySem.W.builtinNamed by Mine.same
name_quick tw8995064129675966167 for PySem.W.builtinNamed by Mine.same
name_quick tw10375745879634585233 for PySem.W.builtinNamed by Mine.same
name_quick tw15653418951494648927 for PySem.W.builtinNamed by Mine.same
name_quick tw6343123290086978289 for PySem.W.builtinNamed by Mine.same
name_quick tw6446305241596162463 for PySem.W.builtinNamed by Mine.same
name_quick tw14876256309665492648 for PySem.W.builtinNamed by Mine.same
name_quick tw3926473451268080774 for PySem.W.builtinNamed by Mine.same
name_quick tw17960529966288479729 for PySem.W.builtinNamed by Mine.same
name_quick tw9701742555195594262 for PySem.W.builtinNamed by Mine.same
name_quick tw8379591107894288966 for PySem.W.builtinNamed by Mine.same
name_quick tw7556635844618541217 for PySem.W.builtinNamed by Mine.same
name_quick tw5615652815842208381 for PySem.W.builtinNamed by Mine.same
name_quick tw8999258098659886469 for PySem.W.builtinNamed by Mine.same
name_quick tw7874860259924676437 for PySem.W.builtinNamed by Mine.same
name_quick tw11688225444687860405 for PySem.W.builtinNamed by Mine.same
name_quick tw14092375061832278963 for PySem.W.builtinNamed by Mine.same
name_quick tw1157539527023902820 for PySem.W.builtinNamed by Mine.same
name_quick tw6594996852889820678 for PySem.W.builtinNamed by Mine.same
name_quick tw4774996882896595831 for PySem.W.builtinNamed by Mine.same
name_quick tw6506640869662766082 for PySem.W.builtinNamed by Mine.same
name_quick tw15216194349883376149 for PySem.W.builtinNamed by Mine.same
name_quick tw5654398567185175137 for PySem.W.builtinNamed by Mine.same
name_quick tw4924204653210451756 for PySem.W.builtinNamed by Mine.same
name_quick tw3726196046921080772 for PySem.W.builtinNamed by Mine.same
name_quick tw7540813594890726256 for PySem.W.builtinNamed by Mine.same
name_quick tw14713222506963597716 for PySem.W.builtinNamed by Mine.same
name_quick tw16602530050901124484 for PySem.W.builtinNamed by Mine.same
name_quick tw8224036509730482814 for PySem.W.builtinNamed by Mine.same
name_quick tw8279231002486317701 for PySem.W.builtinNamed by Mine.same
name_quick tw8690037792674472508 for PySem.W.builtinNamed by Mine.same
name_quick tw1440569414538268322 for PySem.W.builtinNamed by Mine.same
name_quick tw4196156624044457188 for PySem.W.builtinNamed by Mine.same
name_quick tw12217267350624847447 for PySem.W.builtinNamed by Mine.same
name_quick tw15784266638839002814 for PySem.W.builtinNamed by Mine.same
name_quick tw18314349533907039979 for PySem.W.builtinNamed by Mine.same
name_quick tw2462500682879460521 for PySem.W.builtinNamed by Mine.same
name_quick tw15229083304784449539 for PySem.W.builtinNamed by Mine.same
name_quick tw679411382544638733 for PySem.W.builtinNamed by Mine.same
name_quick tw6409639410131605996 for PySem.W.builtinNamed by Mine.same
name_quick tw6791395569936890074 for PySem.W.builtinNamed by Mine.same
name_quick tw8563982680670170771 for PySem.W.builtinNamed by Mine.same
name_quick tw15543001486523051592 for PySem.W.builtinNamed by Mine.same
name_quick tw6307338414865113563 for PySem.W.builtinNamed by Mine.same
name_quick tw1653501976447235586 for PySem.W.builtinNamed by Mine.same
name_quick tw5992308411525109793 for PySem.W.builtinNamed by Mine.same
name_quick tw5630738775198739931 for PySem.W.builtinNamed by Mine.same
name_quick tw1426093738576527082 for PySem.W.builtinNamed by Mine.same
name_quick tw16740809431367012072 for PySem.W.builtinNamed by Mine.same
name_quick tw11323373762250077835 for PySem.W.builtinNamed by Mine.same
name_quick tw9170269622370780916 for PySem.W.builtinNamed by Mine.same
name_quick tw6681610060505562933 for PySem.W.builtinNamed by Mine.same
name_quick tw17899344255478708456 for PySem.W.builtinNamed by Mine.same
name_quick tw17015087692585115974 for PySem.W.builtinNamed by Mine.same
name_quick tw4186512700621708740 for PySem.W.builtinNamed by Mine.same
name_quick tw13686827144338926801 for PySem.W.builtinNamed by Mine.same
name_quick tw7179554411714267339 for PySem.W.builtinNamed by Mine.same
name_quick tw24327950189074889 for PySem.W.builtinNamed by Mine.same
name_quick tw8875449494327990266 for PySem.W.builtinNamed by Mine.same
name_quick tw305262865318229498 for PySem.W.builtinNamed by Mine.same
name_quick tw10911116081644316238 for PySem.W.builtinNamed by Mine.same
name_quick tw12631508340437170816 for PySem.W.builtinNamed by Mine.same
name_quick tw5816912837239578665 for PySem.W.builtinNamed by Mine.same
name_quick tw17514078890883757211 for PySem.W.builtinNamed by Mine.same
name_quick tw7943328586354464026 for PySem.W.builtinNamed by Mine.same
name_quick tw7986701038411622016 for PySem.W.builtinNamed by Mine.same
name_quick tw2944380855085594752 for PySem.W.builtinNamed by Mine.same
name_quick tw890104149739467608 for PySem.W.builtinNamed by Mine.same
name_quick tw3690004473572535494 for PySem.W.builtinNamed by Mine.same
name_quick tw9508967734438309687 for PySem.W.builtinNamed by Mine.same
name_quick tw10986540004599326891 for PySem.W.builtinNamed by Mine.same
name_quick tw16946961585076671156 for PySem.W.builtinNamed by Mine.same
name_quick tw6979077022020848726 for PySem.W.builtinNamed by Mine.same
name_quick tw591345406885411481 for PySem.W.builtinNamed by Mine.same
name_quick tw10709910926391421053 for PySem.W.builtinNamed by Mine.same
name_quick tw16478173411631125936 for PySem.W.builtinNamed by Mine.same
name_quick tw3894809279576739091 for PySem.W.builtinNamed by Mine.same
name_quick tw12352520521738222429 for PySem.W.builtinNamed by Mine.same
name_quick tw10760617980445206966 for PySem.W.builtinNamed by Mine.same
name_quick tw1619224288640281375 for PySem.W.builtinNamed by Mine.same
name_quick tw5833596220364641661 for PySem.W.builtinNamed by Mine.same
name_quick tw10998742780806163804 for PySem.W.builtinNamed by Mine.same
name_quick tw16446585198246008316 for PySem.W.builtinNamed by Mine.same
name_quick tw9131790092241798575 for PySem.W.builtinNamed by Mine.same
name_quick tw15271521057477387279 for PySem.W.builtinNamed by Mine.same
name_quick tw11979448998509635796 for PySem.W.builtinNamed by Mine.same
name_quick tw6683302725252633267 for PySem.W.builtinNamed by Mine.same
name_quick tw8955342025782789642 for PySem.W.builtinNamed by Mine.same
name_quick tw3496805870979508223 for PySem.W.builtinNamed by Mine.same
name_quick tw13781690351317420907 for PySem.W.builtinNamed by Mine.same
name_quick tw1766933327754320537 for PySem.W.builtinNamed by Mine.same
name_quick tw10985140987826207362 for PySem.W.builtinNamed by Mine.same
name_quick tw2839026817515421663 for PySem.W.builtinNamed by Mine.same
name_quick tw15130456614080670545 for PySem.W.builtinNamed by Mine.same
name_quick tw1719556802569731188 for PySem.W.builtinNamed by Mine.same
name_quick tw5687603680080032254 for PySem.W.builtinNamed by Mine.same
name_quick tw15708397887730719774 for PySem.W.builtinNamed by Mine.same
name_quick tw10876638640949613078 for PySem.W.builtinNamed by Mine.same
name_quick tw5138570539597763711 for PySem.W.builtinNamed by Mine.same
name_quick tw16330123222990549550 for PySem.W.builtinNamed by Mine.same
name_quick tw14753180247821722389 for PySem.W.builtinNamed by Mine.same
name_quick tw2011485732798175068 for PySem.W.builtinNamed by Mine.same
name_quick tw3789883455205997487 for PySem.W.builtinNamed by Mine.same
name_quick tw13217531988935208079 for PySem.W.builtinNamed by Mine.same
name_quick tw6994475563950910066 for PySem.W.builtinNamed by Mine.same
name_quick tw1475531584000852890 for PySem.W.builtinNamed by Mine.same
name_quick tw16385172682136163151 for PySem.W.builtinNamed by Mine.same
name_quick tw14844528141039024724 for PySem.W.builtinNamed by Mine.same
name_quick tw2830260952808357635 for PySem.W.builtinNamed by Mine.same
name_quick tw6716273276048134129 for PySem.W.builtinNamed by Mine.same
name_quick tw13595907093041928134 for PySem.W.builtinNamed by Mine.same
name_quick tw7503511575894757095 for PySem.W.builtinNamed by Mine.same
name_quick tw16615630820238155465 for PySem.W.builtinNamed by Mine.same
name_quick tw9024877791047266775 for PySem.W.builtinNamed by Mine.same
name_quick tw2932118138721927472 for PySem.W.builtinNamed by Mine.same
name_quick tw12564495128862624401 for PySem.W.builtinNamed by Mine.same
name_quick tw6311498212537859073 for PySem.W.builtinNamed by Mine.same
name_quick tw17217393979242648641 for PySem.W.builtinNamed by Mine.same
name_quick tw10547332658413889657 for PySem.W.builtinNamed by Mine.same
name_quick tw12441527547890133186 for PySem.W.builtinNamed by Mine.same
name_quick tw14517328283008421335 for PySem.W.builtinNamed by Mine.same
name_quick tw5093101195285203624 for PySem.W.builtinNamed by Mine.same
name_quick tw16004477004552329596 for PySem.W.builtinNamed by Mine.same
name_quick tw184216342146927618 for PySem.W.builtinNamed by Mine.same
name_quick tw2940912266172280924 for PySem.W.builtinNamed by Mine.same
name_quick tw9815201717476464956 for PySem.W.builtinNamed by Mine.same
name_quick tw6974986795827744495 for PySem.W.builtinNamed by Mine.same
name_quick tw3431408902568643608 for PySem.W.builtinNamed by Mine.same
name_quick tw14131536561898173296 for PySem.W.builtinNamed by Mine.same
name_quick tw813726113106301227 for PySem.W.builtinNamed by Mine.same
name_quick tw6931873055117973706 for PySem.W.builtinNamed by Mine.same
name_quick tw11770536514261833218 for PySem.W.builtinNamed by Mine.same
name_quick tw3724861942406001584 for PySem.W.builtinNamed by Mine.same
name_quick tw16684250712206911090 for PySem.W.builtinNamed by Mine.same
name_quick tw7345040818267539162 for PySem.W.builtinNamed by Mine.same
name_quick tw16002638161346253638 for PySem.W.builtinNamed by Mine.same
name_quick tw14310859916061322240 for PySem.W.builtinNamed by Mine.same
name_quick tw6043044946066746005 for PySem.W.builtinNamed by Mine.same
name_quick tw12236028946580562652 for PySem.W.builtinNamed by Mine.same
name_quick tw17310124150387577701 for PySem.W.builtinNamed by Mine.same
name_quick tw2592733918425400688 for PySem.W.builtinNamed by Mine.same
name_quick tw6340081942632355631 for PySem.W.builtinNamed by Mine.same
name_quick tw10119662133050958738 for PySem.W.builtinNamed by Mine.same
name_quick tw16636530443417571727 for PySem.W.builtinNamed by Mine.same
name_quick tw9706954022631595677 for PySem.W.builtinNamed by Mine.same
name_quick tw6062427595159182352 for PySem.W.builtinNamed by Mine.same
name_quick tw8189013159251996862 for PySem.W.builtinNamed by Mine.same
name_quick tw10417951876998751367 for PySem.W.builtinNamed by Mine.same
name_quick tw3918472813188765375 for PySem.W.builtinNamed by Mine.same
name_quick tw2661281527520775525 for PySem.W.builtinNamed by Mine.same
name_quick tw736506037488448539 for PySem.W.builtinNamed by Mine.same
name_quick tw5249780327875952940 for PySem.W.builtinNamed by Mine.same
name_quick tw11179090561063263775 for PySem.W.builtinNamed by Mine.same
name_quick tw4140628106557628263 for PySem.W.builtinNamed by Mine.same
name_quick tw7496063868277158226 for PySem.W.builtinNamed by Mine.same
name_quick tw6407840730549124209 for PySem.W.builtinNamed by Mine.same
name_quick tw6390165058266779287 for PySem.W.builtinNamed by Mine.same
name_quick tw3593098261779877177 for PySem.W.builtinNamed by Mine.same
name_quick tw15478636215681596072 for PySem.W.builtinNamed by Mine.same
name_quick tw5573279809749147608 for PySem.W.builtinNamed by Mine.same
name_quick tw14837478308138769919 for PySem.W.builtinNamed by Mine.same
name_quick tw7598500810003778635 for PySem.W.builtinNamed by Mine.same
name_quick tw15057939803849301615 for PySem.W.builtinNamed by Mine.same
name_quick tw14133253228050852241 for PySem.W.builtinNamed by Mine.same
name_quick tw14683338212173448448 for PySem.W.builtinNamed by Mine.same
name_quick tw9268340379023216951 for PySem.W.builtinNamed by Mine.same
name_quick tw8870132402281992917 for PySem.W.builtinNamed by Mine.same
name_quick tw4248014009751388970 for PySem.W.builtinNamed by Mine.same
name_quick tw15473688543242519357 for PySem.W.builtinNamed by Mine.same
name_quick tw2546309167836173290 for PySem.W.builtinNamed by Mine.same
name_quick tw4139166373555267671 for PySem.W.builtinNamed by Mine.same
name_quick tw8230297438972278880 for PySem.W.builtinNamed by Mine.same
name_quick tw5370206494000746145 for PySem.W.builtinNamed by Mine.same
name_quick tw8866904016536251379 for PySem.W.builtinNamed by Mine.same
name_quick tw3028809238674069312 for PySem.W.builtinNamed by Mine.same
name_quick tw16992765971788618816 for PySem.W.builtinNamed by Mine.same
name_quick tw10526454548423928943 for PySem.W.builtinNamed by Mine.same
name_quick tw18369470151228448745 for PySem.W.builtinNamed by Mine.same
name_quick tw4571160746681325086 for PySem.W.builtinNamed by Mine.same
name_quick tw6356663948132360330 for PySem.W.builtinNamed by Mine.same
name_quick tw15646585774755835739 for PySem.W.builtinNamed by Mine.same
name_quick tw4741857744718784045 for PySem.W.builtinNamed by Mine.same
name_quick tw291027490537163499 for PySem.W.builtinNamed by Mine.same
name_quick tw11944995292548586135 for PySem.W.builtinNamed by Mine.same
name_quick tw1767167004020610190 for PySem.W.builtinNamed by Mine.same
name_quick tw17703235688659341081 for PySem.W.builtinNamed by Mine.same
name_quick tw17561452407022822359 for PySem.W.builtinNamed by Mine.same
name_quick tw595449262977222780 for PySem.W.builtinNamed by Mine.same
name_quick tw16583049161842780304 for PySem.W.builtinNamed by Mine.same
name_quick tw11731464870109976265 for PySem.W.builtinNamed by Mine.same
name_quick tw12083350655954774401 for PySem.W.builtinNamed by Mine.same
name_quick tw2880927215252931418 for PySem.W.builtinNamed by Mine.same
name_quick tw1250049867126257192 for PySem.W.builtinNamed by Mine.same
name_quick tw2293913923978586345 for PySem.W.builtinNamed by Mine.same
name_quick tw13561123945046976480 for PySem.W.builtinNamed by Mine.same
name_quick tw11794591606139121847 for PySem.W.builtinNamed by Mine.same
name_quick tw3277680111715945430 for PySem.W.builtinNamed by Mine.same
name_quick tw1582283490903073994 for PySem.W.builtinNamed by Mine.same
name_quick tw17270508763977648400 for PySem.W.builtinNamed by Mine.same
name_quick tw4352140532167239302 for PySem.W.builtinNamed by Mine.same
name_quick tw5527095812987440934 for PySem.W.builtinNamed by Mine.same
name_quick tw17698128942983848257 for PySem.W.builtinNamed by Mine.same
name_quick tw7048244180689168584 for PySem.W.builtinNamed by Mine.same
name_quick tw18083183532850269600 for PySem.W.builtinNamed by Mine.same
name_quick tw8760173865882748026 for PySem.W.builtinNamed by Mine.same
name_quick tw14127548858540820296 for PySem.W.builtinNamed by Mine.same
name_quick tw5262941305213763500 for PySem.W.builtinNamed by Mine.same
name_quick tw17268022438882417110 for PySem.W.builtinNamed by Mine.same
name_quick tw1092460346045001320 for PySem.W.builtinNamed by Mine.same
name_quick tw12486923159360889557 for PySem.W.builtinNamed by Mine.same
name_quick tw8246617427558122867 for PySem.W.builtinNamed by Mine.same
name_quick tw18213144143829557549 for PySem.W.builtinNamed by Mine.same
name_quick tw16129628973965826104 for PySem.W.builtinNamed by Mine.same
name_quick tw11312267165228063500 for PySem.W.builtinNamed by Mine.same
name_quick tw7860883155594668248 for PySem.W.builtinNamed by Mine.same
name_quick tw3021662142495882376 for PySem.W.builtinNamed by Mine.same
name_quick tw17365506260742958531 for PySem.W.builtinNamed by Mine.same
name_quick tw5126745296832811337 for PySem.W.builtinNamed by Mine.same
name_quick tw14330469869486821294 for PySem.W.builtinNamed by Mine.same
name_quick tw1513212758792147673 for PySem.W.builtinNamed by Mine.same
name_quick tw4163209795543262130 for PySem.W.builtinNamed by Mine.same
name_quick tw18420318852877684772 for PySem.W.builtinNamed by Mine.same
name_quick tw8792647436461257888 for PySem.W.builtinNamed by Mine.same
name_quick tw17261996812171352113 for PySem.W.builtinNamed by Mine.same
name_quick tw4311576340260289040 for PySem.W.builtinNamed by Mine.same
name_quick tw16672020586892946893 for PySem.W.builtinNamed by Mine.same
name_quick tw2782661232116948023 for PySem.W.builtinNamed by Mine.same
name_quick tw12615891267511702103 for PySem.W.builtinNamed by Mine.same
name_quick tw6523291683194011651 for PySem.W.builtinNamed by Mine.same
name_quick tw12677306799840223572 for PySem.W.builtinNamed by Mine.same
name_quick tw7372870670852997948 for PySem.W.builtinNamed by Mine.same
name_quick tw17623244596813022512 for PySem.W.builtinNamed by Mine.same
name_quick tw7670783782619047856 for PySem.W.builtinNamed by Mine.same
name_quick tw10752548139703035264 for PySem.W.builtinNamed by Mine.same
name_quick tw10364674029951165269 for PySem.W.builtinNamed by Mine.same
name_quick tw1002713245278838734 for PySem.W.builtinNamed by Mine.same
name_quick tw16987316532112667759 for PySem.W.builtinNamed by Mine.same
name_quick tw1607560716684386333 for PySem.W.builtinNamed by Mine.same
name_quick tw15914388493215095988 for PySem.W.builtinNamed by Mine.same
name_quick tw82954066167114527 for PySem.W.builtinNamed by Mine.same
name_quick tw113838640186960119 for PySem.W.builtinNamed by Mine.same
name_quick tw11257495744834945969 for PySem.W.builtinNamed by Mine.same
name_quick tw375169731763577080 for PySem.W.builtinNamed by Mine.same
name_quick tw15220607871083057097 for PySem.W.builtinNamed by Mine.same
name_quick tw3779372374772940738 for PySem.W.builtinNamed by Mine.same
name_quick tw14143910120438090499 for PySem.W.builtinNamed by Mine.same
name_quick tw14226553269443459984 for PySem.W.builtinNamed by Mine.same
name_quick tw10269538462011699649 for PySem.W.builtinNamed by Mine.same
name_quick tw12393498998521429876 for PySem.W.builtinNamed by Mine.same
name_quick tw18346022468723470583 for PySem.W.builtinNamed by Mine.same
name_quick tw9261663601489706039 for PySem.W.builtinNamed by Mine.same
name_quick tw17113192592152787139 for PySem.W.builtinNamed by Mine.same
name_quick tw8813665272056777699 for PySem.W.builtinNamed by Mine.same
name_quick tw3519141504089614893 for PySem.W.builtinNamed by Mine.same
name_quick tw2743145595313227731 for PySem.W.builtinNamed by Mine.same
name_quick tw10618949838904050771 for PySem.W.builtinNamed by Mine.same
name_quick tw15937026585992652461 for PySem.W.builtinNamed by Mine.same
name_quick tw8212701064242708811 for PySem.W.builtinNamed by Mine.same
name_quick tw1730632842394728049 for PySem.W.builtinNamed by Mine.same
name_quick tw5490201516904522765 for PySem.W.builtinNamed by Mine.same
name_quick tw3434801647370090300 for PySem.W.builtinNamed by Mine.same
name_quick tw4317797419650484853 for PySem.W.builtinNamed by Mine.same
name_quick tw11283844974245390056 for PySem.W.builtinNamed by Mine.same
name_quick tw8195485981903191309 for PySem.W.builtinNamed by Mine.same
name_quick tw11820481029500048000 for PySem.W.builtinNamed by Mine.same
name_quick tw14220907189754480162 for PySem.W.builtinNamed by Mine.same
name_quick tw14488931840207008791 for PySem.W.builtinNamed by Mine.same
name_quick tw10140713519498324101 for PySem.W.builtinNamed by Mine.same
name_quick tw15832553606309278540 for PySem.W.builtinNamed by Mine.same
name_quick tw9790309737679310992 for PySem.W.builtinNamed by Mine.same
name_quick tw4863852448278879157 for PySem.W.builtinNamed by Mine.same
name_quick tw14625573611706333423 for PySem.W.builtinNamed by Mine.same
name_quick tw4982600133327736497 for PySem.W.builtinNamed by Mine.same
name_quick tw9966120229849673342 for PySem.W.builtinNamed by Mine.same
name_quick tw6833851559015175665 for PySem.W.builtinNamed by Mine.same
name_quick tw3607986424251702926 for PySem.W.builtinNamed by Mine.same
name_quick tw17755809746826513570 for PySem.W.builtinNamed by Mine.same
name_quick tw6172964432078805767 for PySem.W.builtinNamed by Mine.same
name_quick tw485097105317790413 for PySem.W.builtinNamed by Mine.same
name_quick tw4191018913501547256 for PySem.W.builtinNamed by Mine.same
name_quick tw5552139386092002703 for PySem.W.builtinNamed by Mine.same
name_quick tw8370300000557623020 for PySem.W.builtinNamed by Mine.same
name_quick tw15960873916214235019 for PySem.W.builtinNamed by Mine.same
name_quick tw16838338858627771664 for PySem.W.builtinNamed by Mine.same
name_quick tw11099594429493053197 for PySem.W.builtinNamed by Mine.same
name_quick tw17528734644426814795 for PySem.W.builtinNamed by Mine.same
name_quick tw2129646429060759982 for PySem.W.builtinNamed by Mine.same
name_quick tw15793888557368814123 for PySem.W.builtinNamed by Mine.same
name_quick tw8953274413536512431 for PySem.W.builtinNamed by Mine.same
name_quick tw11809881552075458403 for PySem.W.builtinNamed by Mine.same
name_quick tw17702021673004350859 for PySem.W.builtinNamed by Mine.same
name_quick tw15316471864409804663 for PySem.W.builtinNamed by Mine.same
name_quick tw4687261247909765827 for PySem.W.builtinNamed by Mine.same
name_quick tw1205842492165896811 for PySem.W.builtinNamed by Mine.same
name_quick tw10829645603614710186 for PySem.W.builtinNamed by Mine.same
name_quick tw11690108482502146913 for PySem.W.builtinNamed by Mine.same
name_quick tw11470481056014883661 for PySem.W.builtinNamed by Mine.same
open_top hd1 for PySem.Challenge.rw_ji0060_01

theorem quiet : True := by
  w_top off
  trivial

section
theorem eps_ex {α : Type} (n : Nonempty α) (P : α → Prop) : ∃ v, P v → ∀ u, P u := by
  rcases Classical.em (∃ u, ¬ P u) with ⟨u, hu⟩ | h
  · exact ⟨u, fun q => absurd q hu⟩
  · obtain ⟨v⟩ := n
    exact ⟨v, fun _ u => Classical.byContradiction fun q => h ⟨u, q⟩⟩
noncomputable def Hid (P : Prop) : Prop := P
theorem Hid.out {P : Prop} (h : Hid P) : P := h
noncomputable def pick {α : Type} (n : Nonempty α) (P : α → Prop) : Nat → α
  | 0 => Classical.choose (eps_ex n P)
  | k + 1 => pick n P k
termination_by k => k
theorem pick_all {α : Type} {n : Nonempty α} {P : α → Prop} (h : P (pick n P 0)) : ∀ u, P u := by
  rw [pick] at h
  exact Classical.choose_spec (eps_ex n P) h
theorem subCons {α : Type} {a : α} {l l' : List α} (h : a ∈ l') (g : ∀ q ∈ l, q ∈ l') : ∀ q ∈ a :: l, q ∈ l' := fun q hq => by
  rcases List.mem_cons.mp hq with rfl | hq
  · exact h
  · exact g q hq
noncomputable def Mk (_ : Nat) : Prop := True
theorem tokN {α : Type} {M : Model} {A : Around} {t : Sem α} {Q : α → Shared → Prop} {E : Value → Shared → Prop} {h : Heap} {g : Array GenState} {d : Drawn} {o : OsState} (k0 : Nat) (H : ∀ k, wpAny M A t Q E ⟨h, g, d, k, o⟩) : wpAny M A t Q E ⟨h, g, d, k0, o⟩ := H k0
theorem neW : Nonempty World := ⟨⟨fun _ _ => 0, { strHash := fun _ => 0, shareClass := fun _ => 0, mergeTok := id, idOf := fun _ => 0, idOfShared := fun _ _ => 0, followText := fun _ => false, idOfImm := fun _ => 0 }⟩⟩
theorem neA : Nonempty Around := ⟨⟨none, 0, none, none, 1⟩⟩
theorem neS : Nonempty Shared := ⟨{}⟩
theorem neP {α β : Type} : Nonempty α → Nonempty β → Nonempty (α × β) := fun ⟨a⟩ ⟨b⟩ => ⟨(a, b)⟩

end
section

/-- the tree below holds at every smaller depth and count of C units -/
theorem lower {α : Type} {M : Model} {hd : Option Value} {fr : Option (List Env)} {gd : Option (List Code)} {dp dp' un un' : Nat} {t : Sem α} {Q : α → Shared → Prop} {E : Value → Shared → Prop} {s : Shared}
    (h : wpAny M { handled := hd, depth := dp', frames := fr, guards := gd, units := un' } t Q E s) (h1 : dp ≤ dp') (h2 : un ≤ un') :
    wpAny M { handled := hd, depth := dp, frames := fr, guards := gd, units := un } t Q E s :=
  fun Γ p hΓ => h Γ p ⟨hΓ.1, Nat.le_trans hΓ.2.1 h1, hΓ.2.2.1, hΓ.2.2.2.1, Nat.le_trans hΓ.2.2.2.2 h2⟩

section
variable {K : Type} [DecidableEq K]
theorem va_stored (kvs : List (K × Value)) (k j : K) (v : Value) : valueAt (stored kvs k v) j = if j = k then some v else valueAt kvs j := by
  unfold stored
  split
  · rename_i hc
    unfold valueAt
    induction kvs with
    | nil => simp at hc
    | cons p r ih =>
      rw [List.map_cons, List.find?_cons]
      by_cases hp : p.1 = k
      · rw [if_pos hp]
        by_cases hj : j = k
        · subst hj; simp [hp]
        · have hj' : ¬ p.1 = j := fun q => hj (q.symm.trans hp)
          have hj'' : ¬ k = j := fun q => hj q.symm
          simp only [hj', hp, hj'', decide_false, if_neg hj]
          rw [List.find?_cons]
          simp only [hj', hp, hj'', decide_false]
          by_cases hc' : (r.any fun kv => kv.1 = k) = true
          · rw [ih hc', if_neg hj]
          · have hr : (r.map fun kv => if kv.1 = k then (kv.1, v) else kv) = r := by
              conv => rhs; rw [← List.map_id r]
              refine List.map_congr_left fun q hq => ?_
              have : ¬ q.1 = k := fun e => hc' (List.any_eq_true.mpr ⟨q, hq, by simpa using e⟩)
              simp [this]
            rw [hr]
      · rw [if_neg hp]
        have hc' : (r.any fun kv => kv.1 = k) = true := by
          simpa [hp] using hc
        by_cases hpj : p.1 = j
        · have hj : ¬ j = k := fun q => hp (hpj.trans q)
          simp [hpj, hj]
        · simp only [hpj, decide_false]
          rw [List.find?_cons]
          simp only [hpj, decide_false]
          exact ih hc'
  · rename_i hc
    unfold valueAt
    rw [List.find?_append]
    by_cases hj : j = k
    · subst hj
      have : kvs.find? (fun kv => decide (kv.1 = j)) = none := by
        rw [List.find?_eq_none]
        intro q hq e
        exact hc (List.any_eq_true.mpr ⟨q, hq, e⟩)
      simp [this]
    · have : ¬ k = j := fun q => hj q.symm
      simp [hj, this]
theorem va_without (kvs : List (K × Value)) (k j : K) : valueAt (without kvs k) j = if j = k then none else valueAt kvs j := by
  unfold without valueAt
  induction kvs with
  | nil => simp
  | cons p r ih =>
    rw [List.filter_cons]
    by_cases hp : p.1 = k
    · have : decide (p.1 ≠ k) = false := by simp [hp]
      rw [this]
      simp only [Bool.false_eq_true, if_false]
      rw [ih, List.find?_cons]
      by_cases hj : j = k
      · simp [hj]
      · have : ¬ p.1 = j := fun q => hj (q.symm.trans hp)
        simp [hj, this]
    · have : decide (p.1 ≠ k) = true := by simp [hp]
      rw [this]
      simp only [if_true, List.find?_cons]
      by_cases hpj : p.1 = j
      · have hj : ¬ j = k := fun q => hp (hpj.trans q)
        simp [hpj, hj]
      · simp only [hpj, decide_false]
        exact ih
theorem without_len (kvs : List (K × Value)) (k : K) : (without kvs k).length ≤ kvs.length := List.length_filter_le _ _
end

noncomputable def upd {α : Type} (f : Str → Option α) (k : Str) (v : Option α) : Str → Option α := fun j => if j = k then v else f j
@[simp] theorem upd_same {α : Type} (f : Str → Option α) (k : Str) (v : Option α) : upd f k v k = v := by simp [upd]
theorem upd_other {α : Type} (f : Str → Option α) {k j : Str} (v : Option α) (h : j ≠ k) : upd f k v j = f j := by simp [upd, h]

noncomputable def OptR {α : Type} (P : Value → α → Prop) : Option Value → Option α → Prop
  | some v, some x => P v x
  | none, none => True
  | _, _ => False

noncomputable def IntV (v : Value) (i : Int) : Prop := ∃ t, v = .int i t
noncomputable def RefV (v : Value) (a : Addr) : Prop := v = .ref a

section
variable {prog : Program} {w : World} {α : Type} {P : Value → α → Prop}
/-- a dict of texts: what it holds, seen through P; at most n rows -/
noncomputable def DictV (prog : Program) (w : World) (P : Value → α → Prop) (o : Obj) (f : Str → Option α) (n : Nat) : Prop :=
  ∃ kvs, o.IsDictOf (PySem.strKind prog w) kvs ∧ kvs.length ≤ n ∧ ∀ k, OptR P (valueAt kvs k) (f k)
noncomputable abbrev IntD (prog : Program) (w : World) (o : Obj) (f : Str → Option Int) (n : Nat) : Prop := DictV prog w IntV o f n
noncomputable abbrev RefD (prog : Program) (w : World) (o : Obj) (f : Str → Option Addr) (n : Nat) : Prop := DictV prog w RefV o f n

theorem DictV.some {o : Obj} {f : Str → Option α} {kvs : List (Str × Value)} (h : ∀ k, OptR P (valueAt kvs k) (f k)) {k : Str} {x : α} (e : f k = some x) : ∃ v, valueAt kvs k = some v ∧ P v x := by
  have := h k
  rw [e] at this
  cases hv : valueAt kvs k with
  | none => rw [hv] at this; exact this.elim
  | some v => rw [hv] at this; exact ⟨v, rfl, this⟩
theorem DictV.none {o : Obj} {f : Str → Option α} {kvs : List (Str × Value)} (h : ∀ k, OptR P (valueAt kvs k) (f k)) {k : Str} (e : f k = none) : valueAt kvs k = none := by
  have := h k
  rw [e] at this
  cases hv : valueAt kvs k with
  | none => rfl
  | some v => rw [hv] at this; exact this.elim
theorem DictV.mono {o : Obj} {f : Str → Option α} {n n' : Nat} (h : DictV prog w P o f n) (hn : n ≤ n') : DictV prog w P o f n' := by
  obtain ⟨kvs, a, b, c⟩ := h
  exact ⟨kvs, a, Nat.le_trans b hn, c⟩

variable {A : Around} {E : Value → Shared → Prop} {s : Shared} {h₀ : Heap} {L d : Addr} {m : Str → Option Value} {news : List (Addr × Obj)} {g : Obj → List (Addr × Obj)} {o : Obj} {f : Str → Option α} {n : Nat} {k : Str} {tk : Tok}

theorem dv_get {dflt : Value} {Q : Value → Shared → Prop} (N : News h₀ L s.heap news) (hp : (d, o) ∈ news) (hd : DictV prog w P o f n) (lo : (d == sysModules) = false)
    (h : ∀ v, (∀ x, f k = some x → P v x) → (f k = none → v = dflt) → Q v { s with toks := s.toks + 1 }) : wpAny (model prog w) A (call (.builtin "dict.get") [.ref d, .str k tk, dflt]) Q E s := by
  obtain ⟨kvs, hd, hn, hf⟩ := hd
  refine kdg_get2 (knd := PySem.strKind _ _) N hp hd lo (strKind_is _ _ _ _) _ rfl (h _ (fun x e => ?_) fun e => ?_)
  · obtain ⟨v, hv, hx⟩ := DictV.some (o := o) hf e
    rw [hv]; exact hx
  · rw [DictV.none (o := o) hf e]; rfl

theorem dv_pop {dflt : Value} {Q : Value → Shared → Prop} (F : Fr h₀ L s.heap m) (N : News h₀ L s.heap news) (U : UpdF d o news g) (hd : DictV prog w P o f n) (lo : (d == sysModules) = false) (hz : n ≤ sizeLine)
    (h : ∀ v h' o', Fr h₀ L h' m → News h₀ L h' (g o') → DictV prog w P o' (upd f k none) n → Q v { s with heap := h', toks := s.toks + 1 }) :
    wpAny (model prog w) A (call (.builtin "dict.pop") [.ref d, .str k tk, dflt]) Q E s := by
  obtain ⟨kvs, hd, hn, hf⟩ := hd
  cases hv : valueAt kvs k with
  | some v =>
    refine kob_pop (knd := PySem.strKind _ _) (more := [dflt]) F N U hd (strKind_is _ _ _ _) (.inr ⟨_, rfl⟩) rfl (PySem.F.args_dict_pop_3 _ _ _) hv (Nat.le_trans hn hz) fun h' o' F' N' hd' => ?_
    refine h v h' o' F' N' ⟨_, hd', Nat.le_trans (without_len _ _) hn, fun j => ?_⟩
    rw [va_without]
    unfold upd
    split
    · trivial
    · exact hf j
  | none =>
    obtain ⟨pre, post, rfl, hg, a, b⟩ := U.split
    have hm := N (d, o) (List.mem_append_right _ (.head _))
    have hD : s.heap.DictOf (PySem.strKind prog w) d kvs := Heap.dictOf_iff.mpr ⟨o, hm.1, hd⟩
    refine call_meetsIn PySem.F.slot_dict_pop hD.typeIs PySem.F.entry_dict_pop (PySem.F.args_dict_pop_3 _ _ _) (meets_dict_pop_default (PySem.strKind prog w) d (strKind_is _ _ _ _) lo rfl dflt) ⟨kvs, hD, hv, ?_⟩
    refine h dflt s.heap o F (by rw [hg]; exact N) ⟨kvs, hd, hn, fun j => ?_⟩
    unfold upd
    split
    · rename_i e; subst e; rw [hv]; trivial
    · exact hf j

theorem dv_set {v : Value} {x : α} {Q : Unit → Shared → Prop} (F : Fr h₀ L s.heap m) (N : News h₀ L s.heap news) (U : UpdF d o news g) (hd : DictV prog w P o f n) (hz : n ≤ sizeLine) (hx : P v x)
    (h : ∀ h' o', Fr h₀ L h' m → News h₀ L h' (g o') → DictV prog w P o' (upd f k (some x)) (n + 1) → Q () { s with heap := h', toks := s.toks + 1 }) :
    wpAny (model prog w) A (setItem (.ref d) (.str k tk) v) Q E s := by
  obtain ⟨kvs, hd, hn, hf⟩ := hd
  refine kda_set (knd := PySem.strKind _ _) F N U hd (strKind_is _ _ _ _) (Nat.le_trans hn hz) fun h' o' F' N' hd' => ?_
  refine h h' o' F' N' ⟨_, hd', Nat.le_trans (stored_length_le _ _ _) (Nat.add_le_add_right hn 1), fun j => ?_⟩
  rw [va_stored]
  unfold upd
  split
  · exact hx
  · exact hf j

theorem dv_getItem {Q : Value → Shared → Prop} {x : α} (N : News h₀ L s.heap news) (hp : (d, o) ∈ news) (hd : DictV prog w P o f n) (e : f k = some x) (h : ∀ v, P v x → Q v { s with toks := s.toks + 1 }) :
    wpAny (model prog w) A (getItem (.ref d) (.str k tk)) Q E s := by
  obtain ⟨kvs, hd, hn, hf⟩ := hd
  obtain ⟨v, hv, hx⟩ := DictV.some (o := o) hf e
  exact kdt_getItem (knd := PySem.strKind _ _) N hp hd (strKind_is _ _ _ _) hv (h v hx)
theorem dv_tail {value slice : PySem.Expr} {key : Value} {Q : Value → Shared → Prop} (N : News h₀ L s.heap news) (hp : (d, o) ∈ news) (hd : DictV prog w P o f n) (h : wpAny (model prog w) A (getItem (.ref d) key) Q E s)
    (hs : subscripted slice false (.ref d) key = operate [.ref d, key] (getItem (.ref d) key) := by with_unfolding_all rfl) : wpAny (model prog w) A (subscriptTail value slice (.ref d) key) Q E s := by
  obtain ⟨kvs, hd, hn, hf⟩ := hd
  exact kdt_tail (knd := PySem.strKind _ _) N hp hd h hs
theorem dv_method {name : Str} {id : String} {pl : Sem Bool} {Q : Value × List Value → Shared → Prop} (slot : Slot "dict" name id) (ty : typeOf (.builtin id) = pure (.type "method_descriptor")) (N : News h₀ L s.heap news) (hp : (d, o) ∈ news) (hd : DictV prog w P o f n) (h : Q (.builtin id, [.ref d]) s) :
    wpAny (model prog w) A (getMethod (.ref d) name pl) Q E s := by
  obtain ⟨kvs, hd, hn, hf⟩ := hd
  exact kob_method slot ty N hp hd h
theorem dv_setdefault {dflt : Value} {x : α} {Q : Value → Shared → Prop} (F : Fr h₀ L s.heap m) (N : News h₀ L s.heap news) (U : UpdF d o news g) (hd : DictV prog w P o f n) (lo : (d == sysModules) = false) (hz : n ≤ sizeLine) (hx : P dflt x)
    (h : ∀ v h' o', Fr h₀ L h' m → News h₀ L h' (g o') → P v ((f k).getD x) → DictV prog w P o' (upd f k (some ((f k).getD x))) (n + 1) → Q v { s with heap := h', toks := s.toks + 1 }) :
    wpAny (model prog w) A (call (.builtin "dict.setdefault") [.ref d, .str k tk, dflt]) Q E s := by
  obtain ⟨kvs, hd, hn, hf⟩ := hd
  cases hv : valueAt kvs k with
  | some v =>
    have q := hf k
    rw [hv] at q
    cases hk : f k with
    | none => rw [hk] at q; exact q.elim
    | some y =>
      rw [hk] at q
      have U' := U
      obtain ⟨pre, post, rfl, hg, a, b⟩ := U.split
      refine kob_setdef_there (knd := PySem.strKind _ _) N (List.mem_append_right _ (.head _)) hd lo (strKind_is _ _ _ _) (PySem.F.args_dict_setdefault_3 _ _ _) hv (Nat.le_trans hn hz) ?_
      refine h v s.heap o F (by rw [hg]; exact N) (by rw [hk]; exact q) ⟨kvs, hd, Nat.le_succ_of_le hn, fun j => ?_⟩
      unfold upd
      split
      · rename_i e; subst e; rw [hv, hk]; exact q
      · exact hf j
  | none =>
    have q := hf k
    rw [hv] at q
    cases hk : f k with
    | some y => rw [hk] at q; exact q.elim
    | none =>
      refine kob_setdef_new (knd := PySem.strKind _ _) F N U hd lo (strKind_is _ _ _ _) (PySem.F.args_dict_setdefault_3 _ _ _) hv (Nat.le_trans hn hz) fun h' o' F' N' hd' => ?_
      refine h dflt h' o' F' N' (by rw [hk]; exact hx) ⟨_, hd', Nat.le_trans (stored_length_le _ _ _) (Nat.add_le_add_right hn 1), fun j => ?_⟩
      rw [va_stored, hk]
      unfold upd
      split
      · exact hx
      · exact hf j
end
section
variable {prog : Program} {w : World} {A : Around} {E : Value → Shared → Prop} {s : Shared} {h₀ : Heap} {L d : Addr} {m : Str → Option Value} {news : List (Addr × Obj)} {g : Obj → List (Addr × Obj)} {o : Obj} {f : Str → Option Int} {n : Nat} {k : Str} {tk : Tok}
theorem iv_get {i : Int} {ti : Tok} {Q : Value → Shared → Prop} (N : News h₀ L s.heap news) (hp : (d, o) ∈ news) (hd : IntD prog w o f n) (lo : (d == sysModules) = false)
    (h : ∀ t, Q (.int ((f k).getD i) t) { s with toks := s.toks + 1 }) : wpAny (model prog w) A (call (.builtin "dict.get") [.ref d, .str k tk, .int i ti]) Q E s := by
  refine dv_get N hp hd lo fun v h1 h2 => ?_
  cases hk : f k with
  | none => rw [h2 hk]; have := h ti; rw [hk] at this; exact this
  | some x => obtain ⟨t, rfl⟩ := h1 x hk; have := h t; rw [hk] at this; exact this
theorem iv_getItem {Q : Value → Shared → Prop} (N : News h₀ L s.heap news) (hp : (d, o) ∈ news) (hd : IntD prog w o f n) (e : (f k).isSome = true) (h : ∀ t, Q (.int ((f k).getD 0) t) { s with toks := s.toks + 1 }) :
    wpAny (model prog w) A (getItem (.ref d) (.str k tk)) Q E s := by
  obtain ⟨x, hx⟩ := Option.isSome_iff_exists.mp e
  refine dv_getItem N hp hd hx fun v hv => ?_
  obtain ⟨t, rfl⟩ := hv
  have := h t
  rw [hx] at this
  exact this
end

/-- what `get` leaves of a table f: a key whose time is over is taken out -/
noncomputable def swept {α : Type} (x : Str → Option Int) (k : Str) (t : Int) (f : Str → Option α) : Str → Option α := if (x k).getD 0 ≤ t then upd f k none else f

/-- the store's own parts, none of which a method turns -/
noncomputable def StoreAt (frz : List (Addr × Obj)) (st S E V clk : Addr) : Prop :=
  ∃ dx h1 h2 h3 h4 t1 t2 t3 t4 n oc od fd sl, (st, instObj 691 dx) ∈ frz ∧ (clk, (⟨oc, od, .func fd, sl⟩ : Obj)) ∈ frz ∧
    (dx, dictOf [⟨h1, .str (Str.ofString "clock") t1, .ref clk⟩, ⟨h2, .str (Str.ofString "storage") t2, .ref S⟩, ⟨h3, .str (Str.ofString "expirations") t3, .ref E⟩, ⟨h4, .str (Str.ofString "events") t4, .ref V⟩] n) ∈ frz


/-- called, the clock tells t and turns nothing -/
noncomputable def ClockOf (w : World) (ck : List (Addr × Obj)) (clk : Addr) (t : Int) : Prop :=
  ∀ (p : Program) (loose : List Str) (mean : ExcName → Option Value) (mg mb : Str → Option Value) (gd : Option (List Code)) (cn : Str) (cs : Scope) (a : Addr) (ccd : Value) (cl : List (Str × Addr)) (outer : List Env) (A₀ : Around) (base h₀ : Heap) (L : Addr) (m : Str → Option Value) (s : Shared) (Q E : Value → Shared → Prop) (news : List (Addr × Obj)),
    Below A₀ base outer h₀ → Fr h₀ L s.heap m → (Mine.hd1.heap_39 w.params).In h₀ → Top p loose mean mg mb h₀ → cs.kind = .function → News h₀ L s.heap news → (∀ q ∈ ck, q ∈ news) →
    (∀ r h' tk', Fr h₀ L h' m → News h₀ L h' news → Q (.int t r) { s with heap := h', toks := tk' }) →
    wpAny (model PySem.Challenge.rw_ji0060_01.row.prog w) (ktrTop 900 9000 gd cn cs L a ccd cl outer) (call (.ref clk) []) Q E s
theorem ClockOf.use {w : World} {frz news : List (Addr × Obj)} {clk : Addr} {t : Int} (C : ClockOf w frz clk t) {p : Program} {loose : List Str} {mean : ExcName → Option Value} {mg mb : Str → Option Value} {dp un : Nat} {gd : Option (List Code)} {cn : Str} {cs : Scope} {a : Addr} {ccd : Value} {cl : List (Str × Addr)} {outer : List Env} {A₀ : Around} {base h₀ : Heap} {L : Addr} {m : Str → Option Value} {s : Shared} {Q E : Value → Shared → Prop}
    (B : Below A₀ base outer h₀) (F : Fr h₀ L s.heap m) (X : (Mine.hd1.heap_39 w.params).In h₀) (T : Top p loose mean mg mb h₀) (hk : cs.kind = .function) (N : News h₀ L s.heap news) (hs : ∀ q ∈ frz, q ∈ news) (hd : dp ≤ 900) (hu : un ≤ 9000)
    (ret : ∀ r h' tk', Fr h₀ L h' m → News h₀ L h' news → Q (.int t r) { s with heap := h', toks := tk' }) :
    wpAny (model PySem.Challenge.rw_ji0060_01.row.prog w) (ktrTop dp un gd cn cs L a ccd cl outer) (call (.ref clk) []) Q E s :=
  lower (C p loose mean mg mb gd cn cs a ccd cl outer A₀ base h₀ L m s Q E news B F X T hk N hs ret) hd hu
section
variable {prog : Program} {w : World} {A : Around} {E : Value → Shared → Prop} {Q : Value → Shared → Prop} {s : Shared} {K : Frag} {x C L : Addr} {h₀ : Heap} {m : Str → Option Value}

theorem looks_isType {M : Model} {h : Heap} (X : K.In h) (e : isClsIn K C = true) : Looks M h (isType (.ref C)) true := by
  unfold isClsIn clsIn at e
  split at e
  · rename_i ho
    intro A' Q' E' s' k q
    unfold isType loadHead
    exact wpAny_bind (wpAny_loadPart (k _ _ (X _ _ ho)) (wpAny_pure q))
  · cases e

theorem c_issub (X : K.In s.heap) (e1 : subIn K (.ref C) (.type "tuple") = some true) (e2 : isClsIn K C = true) (hq : Q (.bool true) s) : wpAny (model prog w) A (call (.builtin "issubclass") [.ref C, .type "tuple"]) Q E s := by
  refine call_function_meets F.kind_issubclass F.plain_issubclass F.entry_issubclass (F.args_issubclass_2 _ _) (S := fun A R s => K.In s.heap ∧ R (.ok (.ret (.bool true))) s) (fun prog w A R s hs => issubclass_outer ?_) ⟨X, hq⟩
  obtain ⟨h0, g, d, tt, os⟩ := s
  obtain ⟨X, hq⟩ := hs
  have L1 := looks_isType (M := model prog w) X e2
  have L2 : Looks (model prog w) h0 (isSubtype (.ref C) (.type "tuple")) true := looks_subIn X e1
  have L3 : Looks (model prog w) h0 (typeOf (.type "tuple")) (.type "type") := Looks.of_pure (kitMeta_of (by decide +kernel))
  have L4 : Looks (model prog w) h0 (isType (.type "tuple")) true := Looks.of_pure rfl
  unfold Builtin.«issubclass.nested»
  repeat lk
  exact hq


end
theorem k1 : builtinKind "tuple.__getitem__" = some .slot := by decide +kernel
theorem k2 : splitId "tuple.__getitem__" = some ("tuple", "__getitem__") := by decide +kernel
section
variable {prog : Program} {w : World} {A : Around} {E : Value → Shared → Prop} {Q : Value → Shared → Prop} {s : Shared} {K : Frag} {x C L : Addr} {h₀ : Heap} {m : Str → Option Value}
theorem c_tupget {od : Option Addr} {its : Array Value} {n : Nat} {sl : Array (Option Value)} {i : Int} {u : Tok} {k : Nat} {v : Value} (X : K.In s.heap) (e1 : subIn K (.ref C) (.type "tuple") = some true) (hx : s.heap.get? x = some ⟨.ref C, od, .seq its n, sl⟩)
    (hlo : -2 ^ 63 ≤ i) (hhi : i < 2 ^ 63) (hk : seqIndex? i its.size = some k) (hy : its[k]? = some v) (hq : Q v s) : wpAny (model prog w) A (call (.builtin "tuple.__getitem__") [.ref x, .int i u]) Q E s := by
  obtain ⟨h0, g, d, tt, os⟩ := s
  dsimp only at hx X
  have LT : Looks (model prog w) h0 (typeOf (.ref x)) (.ref C) := (Looks.ld hx).andThen .now
  have LI : Looks (model prog w) h0 (isInstance (.ref x) (.type "tuple")) true := LT.andThen (looks_subIn X e1)
  refine wpAny_call (codeAny_call_builtin (PySem.F.slot_tuple_getitem).plain PySem.F.entry_tuple_getitem ?_)
  refine check_slot (i := "tuple.__getitem__") k1 k2 LI (PySem.F.args_tuple_getitem_2 _ _) ?_
  have LN : Looks (model prog w) h0 (typeOf (.int i u)) (.type "int") := Looks.of_pure rfl
  have LS : Looks (model prog w) h0 (specialOf (.int i u) (Str.ofString "__index__")) (some (.builtin "int.__index__")) := LN.andThen (Looks.of_pure AutoSeq1.idx_int)
  have LA : Looks (model prog w) h0 (asIndex (.int i u)) i := Looks.of_pure rfl
  have LD : Looks (model prog w) h0 (Builtin.Tuple.tupleItemsOf (.ref x)) its := by
    unfold Builtin.Tuple.tupleItemsOf seqItems?
    refine Looks.andThen (Looks.andThen (Looks.ld (part := none) hx) .now) .now
  have hf : ¬ (decide (i < -2 ^ 63) || decide (i ≥ 2 ^ 63)) = true := by simp; omega
  unfold Builtin.«tuple.__getitem__»
  refine wpAny_bind (wpAny_pure ?_)
  refine wpAny_bind (LD.at ?_)
  refine wpAny_bind (LN.at ?_)
  rw [if_neg (by decide)]
  refine wpAny_bind (LS.at ?_)
  rw [if_neg (by decide)]
  refine wpAny_bind (LA.at ?_)
  rw [if_neg hf]
  rw [hk, Option.bind_some, hy]
  exact wpAny_pure hq

theorem c_tupget_K {od : Option Addr} {its : Array Value} {n : Nat} {sl : Array (Option Value)} {i : Int} {u : Tok} {k : Nat} {v : Value} (F : Fr h₀ L s.heap m) (X : K.In h₀) (hx : K.lookup x = some ⟨.ref C, od, .seq its n, sl⟩) (e1 : subIn K (.ref C) (.type "tuple") = some true)
    (hlo : -2 ^ 63 ≤ i) (hhi : i < 2 ^ 63) (hk : seqIndex? i its.size = some k) (hy : its[k]? = some v) (hq : Q v s) : wpAny (model prog w) A (call (.builtin "tuple.__getitem__") [.ref x, .int i u]) Q E s :=
  c_tupget (X.keeps F.keep) e1 (F.keep _ _ (X _ _ hx)) hlo hhi hk hy hq
theorem c_tupget_N {news : List (Addr × Obj)} {od : Option Addr} {its : Array Value} {n : Nat} {sl : Array (Option Value)} {i : Int} {u : Tok} {k : Nat} {v : Value} (F : Fr h₀ L s.heap m) (X : K.In h₀) (N : News h₀ L s.heap news) (hx : (x, (⟨.ref C, od, .seq its n, sl⟩ : Obj)) ∈ news) (e1 : subIn K (.ref C) (.type "tuple") = some true)
    (hlo : -2 ^ 63 ≤ i) (hhi : i < 2 ^ 63) (hk : seqIndex? i its.size = some k) (hy : its[k]? = some v) (hq : Q v s) : wpAny (model prog w) A (call (.builtin "tuple.__getitem__") [.ref x, .int i u]) Q E s :=
  c_tupget (X.keeps F.keep) e1 (N _ hx).1 hlo hhi hk hy hq
theorem kg1 : builtinKind "tuple.__getattribute__" = some .slot := by decide +kernel
theorem kg2 : splitId "tuple.__getattribute__" = some ("tuple", "__getattribute__") := by decide +kernel
theorem get_tup {f dsc : Addr} {ox : Obj} {od : Option Obj} {name : Str} {expr : Bool} (F : Fr h₀ L s.heap m) (X₀ : K.In h₀) (I : InstAt s.heap x ox C od) (hg : findIn K (.ref C) "__getattribute__" = some (some (.builtin "tuple.__getattribute__"))) (hg2 : findIn K (.ref C) "__getattr__" = some none)
    (e1 : subIn K (.ref C) (.type "tuple") = some true) (hf : findObj K C od name = some (.bind (.ref f) (.ref dsc)))
    (h : wpAny (model prog w) A.in1 (call (.ref f) [.ref dsc, .ref x, .ref C]) (fun v s' => wpAny (model prog w) A (handedOut v) Q E s') (fun _ _ => False) { s with toks := s.toks + 1 }) :
    wpAny (model prog w) A (getAttr (.ref x) name expr) Q E s := by
  obtain ⟨hh, g, d, t, os⟩ := s
  have XX := X₀.keeps F.keep
  have L0 := I.type (M := model prog w)
  have L1 := looks_findIn (M := model prog w) XX hg
  have L2 := looks_findIn (M := model prog w) XX hg2
  have L3 := looks_find (M := model prog w) XX I hf
  have LI : Looks (model prog w) hh (isInstance (.ref x) (.type "tuple")) true := L0.andThen (looks_subIn XX e1)
  unfold getAttr getAttrBy
  refine wpAny_bind (wpAny_mkText (wpAny_holding (wpAny_bind (L0.at (wpAny_bind (L1.at ?_))))))
  show wpAny _ _ (getAttrByItsOwn _ _ _ _ _ _) _ _ _
  unfold getAttrByItsOwn hookBefore
  refine wpAny_bind (L2.at ?_)
  refine wpAny_bind (wpAny_attempt (wpAny_holding ?_))
  unfold callGetattribute
  rw [if_neg (by cases expr <;> decide)]
  unfold boundAndCalled
  rw [PySem.F.slot_tuple_getattribute.bind]
  refine wpAny_bind (wpAny_pure ?_)
  refine wpAny_call (codeAny_call_builtin (PySem.F.slot_tuple_getattribute).plain am_entry_tuple_getattribute ?_)
  refine check_slot (i := "tuple.__getattribute__") kg1 kg2 LI (PySem.F.args_tuple_getattribute_2 _ _) ?_
  unfold Builtin.«object.__getattribute__» slotArgs
  refine wpAny_bind (wpAny_pure ?_)
  refine wpAny_bind (wpAny_pure ?_)
  refine wpAny_bind (L0.at (wpAny_bind (L3.at ?_)))
  show wpAny _ _ (holding [.ref dsc] (call (.ref f) [.ref dsc, .ref x, .ref C]) >>= ret) _ _ _
  exact wpAny_bind (wpAny_holding (wpAny_mono h (fun v s' z => wpAny_pure z) fun _ _ z => z.elim))
theorem get_descr {f dsc : Addr} {ox : Obj} {od : Obj} {name : Str} {expr : Bool} (F : Fr h₀ L s.heap m) (X₀ : K.In h₀) (I : InstAt s.heap x ox C (some od)) (hg : findIn K (.ref C) "__getattribute__" = some (some (.builtin "tuple.__getattribute__"))) (hg2 : findIn K (.ref C) "__getattr__" = some none)
    (e1 : subIn K (.ref C) (.type "tuple") = some true) (hc : isClsIn K C = true) (ha : findIn K (.ref C) name = some (some (.ref dsc)))
    (hn : specialIn K (.ref dsc) "__get__" = some (some (.ref f))) (ht : takesIn K (.ref dsc) = some true)
    (h : wpAny (model prog w) A.in1 (call (.ref f) [.ref dsc, .ref x, .ref C]) (fun v s' => wpAny (model prog w) A (handedOut v) Q E s') (fun _ _ => False) { s with toks := s.toks + 1 }) :
    wpAny (model prog w) A (getAttr (.ref x) name expr) Q E s :=
  get_tup F X₀ I hg hg2 e1 (findObj_data hc ha hn ht) h
theorem inst_Kt {x C dx : Addr} {od : Obj} {sl : Array (Option Value)} {its : Array Value} {n : Nat} {h : Heap} (X : K.In h) (h1 : K.lookup x = some ⟨.ref C, some dx, .seq its n, sl⟩) (h2 : K.lookup dx = some od) :
    InstAt h x ⟨.ref C, some dx, .seq its n, sl⟩ C (some od) := ⟨X _ _ h1, rfl, rfl, X _ _ h2⟩
end
theorem pk_mb (P : Params) (g : Program) : peek (Mine.hd1.heap_39 P) ⟨g, P⟩ (Bind.madeBy (.ref 132)) = some none := by kernel_rfl
theorem pk_ck (P : Params) (g : Program) (t : Addr) : peek (Mine.hd1.heap_39 P) ⟨g, P⟩ (checkBuiltinCall "tuple.__new__" ⟨[.ref 132, .ref t], []⟩) = some () := by kernel_rfl
theorem pk_mh (P : Params) (g : Program) : peek (Mine.hd1.heap_39 P) ⟨g, P⟩ (Bind.madeHere "tuple.__new__" (.ref 132)) = some () := by kernel_rfl
theorem pk_in (P : Params) (g : Program) : peek (Mine.hd1.heap_39 P) ⟨g, P⟩ (typeLookup (.ref 132) "__init__") = some (some (.builtin "object.__init__")) := by kernel_rfl
theorem pk_tc (P : Params) (g : Program) (a b : Value): peek (Mine.hd1.heap_39 P) ⟨g, P⟩ (checkBuiltinCall "type.__call__" ⟨[.ref 132, a, b], []⟩) = some () := by kernel_rfl
theorem pk_st (P : Params) (g : Program)  : peek (Mine.hd1.heap_39 P) ⟨g, P⟩ (isSubtype (.ref 132) (.type "tuple")) = some true := by kernel_rfl
theorem pk_ss (P : Params) (g : Program)  : peek (Mine.hd1.heap_39 P) ⟨g, P⟩ (isSubtype (.ref 132) (.ref 132)) = some true := by kernel_rfl
theorem pk_so (P : Params) (g : Program)  : peek (Mine.hd1.heap_39 P) ⟨g, P⟩ (isSubtype (.ref 132) (.type "object")) = some true := by kernel_rfl
theorem pk_it (P : Params) (g : Program)  : peek (Mine.hd1.heap_39 P) ⟨g, P⟩ (isType (.ref 132)) = some true := by kernel_rfl
theorem pk_hd (P : Params) (g : Program)  : peek (Mine.hd1.heap_39 P) ⟨g, P⟩ (classHasDel 132) = some false := by kernel_rfl
theorem pk_cl (P : Params) (g : Program)  : peek (Mine.hd1.heap_39 P) ⟨g, P⟩ (specialOf (.ref 132) "__call__") = some (some (.builtin "type.__call__")) := by kernel_rfl
theorem pk_mr (P : Params) (g : Program)  : peek (Mine.hd1.heap_39 P) ⟨g, P⟩ (do return (← mroOf (.ref 132)).isEmpty) = some false := by kernel_rfl
noncomputable abbrev tupObj (d : Addr) (vs : List Value) : Obj := { cls := .ref 132, dict := some d, data := .seq vs.toArray }
section
variable {w : World} {A : Around} {E : Value → Shared → Prop} {s : Shared} {h₀ : Heap} {L : Addr} {m : Str → Option Value} {news : List (Addr × Obj)} {Q : Value → Shared → Prop}
theorem c_tupnew {t : Addr} {vs : List Value} {n : Nat} (F : Fr h₀ L s.heap m) (X : (Mine.hd1.heap_39 w.params).In h₀) (N : News h₀ L s.heap news) (hm : (t, ({ cls := .type "tuple", data := .seq vs.toArray n } : Obj)) ∈ news) (hz : vs.length ≤ sizeLine)
    (h : ∀ x d h', Fr h₀ L h' m → News h₀ L h' ((x, tupObj d vs) :: (d, emptyDict) :: news) → (∀ p ∈ news, p.1 < d) → d < x → Q (.ref x) { s with heap := h' }) :
    wpAny (model PySem.Challenge.rw_ji0060_01.row.prog w) A (call (.builtin "tuple.__new__") [.ref 132, .ref t]) Q E s := by
  obtain ⟨h0, g, d, tt, os⟩ := s
  have XX : (Mine.hd1.heap_39 w.params).In h0 := X.keeps F.keep
  dsimp only at F N
  let M := model PySem.Challenge.rw_ji0060_01.row.prog w
  have L1 : Looks M h0 (checkBuiltinCall "tuple.__new__" ⟨[.ref 132, .ref t], []⟩) () := Looks.of_peek XX (pk_ck _ _ _)
  have L2 : Looks M h0 (isType (.ref 132)) true := Looks.of_peek XX (pk_it _ _)
  have L3 : Looks M h0 (isSubtype (.ref 132) (.type "tuple")) true := Looks.of_peek XX (pk_st _ _)
  have L4 : Looks M h0 (Bind.madeHere "tuple.__new__" (.ref 132)) () := Looks.of_peek XX (pk_mh _ _)
  have L5 : Looks M h0 (typeLookup (.ref 132) "__init__") (some (.builtin "object.__init__")) := Looks.of_peek XX (pk_in _ _)
  refine wpAny_call (codeAny_call_builtin PySem.F.plain_tuple_new PySem.F.entry_tuple_new (L1.at ?_))
  unfold Builtin.«tuple.__new__»
  refine wpAny_bind (L2.at ?_)
  refine wpAny_bind (L3.at ?_)
  refine wpAny_bind (L4.at ?_)
  refine wpAny_bind (L5.at ?_)
  rw [if_pos (by decide +kernel)]
  refine wpAny_bind (wpAny_pure ?_)
  refine wpAny_bind (wpAny_pure ?_)
  dsimp only
  rw [if_neg (by decide)]
  refine wpAny_bind (wpAny_collect_seq t (o := { cls := .type "tuple", data := .seq vs.toArray n }) (.inr rfl) (N _ hm).1 rfl rfl (fun h' k => ?_) (by simpa using hz))
  refine wpAny_bind (wpAny_pure ?_)
  refine wpAny_bind (wpAny_alloc ?_)
  unfold newObj newObjAsIs
  have e : (vs.toArray.toList.toArray : Array Value) = vs.toArray := by simp
  rw [e]
  dsimp only
  rw [if_neg (by simpa using hz)]
  have k2 : ∀ (o1 o2 : Obj) b o, h0.get? b = some o → ((h'.push o1).push o2).get? b = some o := fun o1 o2 b o q => Heap.get?_push_of_some _ (Heap.get?_push_of_some _ (k b o q))
  have L6 : ∀ o1 o2, Looks M ((h'.push o1).push o2) (classHasDel 132) false := fun o1 o2 => (Looks.of_peek XX (pk_hd _ _)).keeps (k2 o1 o2)
  refine wpAny_bind (wpAny_bind (wpAny_alloc ?_))
  refine wpAny_bind ((L6 _ _).at ?_)
  have F' : Fr h₀ L h' m := F.after k
  have N' : News h₀ L h' news := fun p hp => ⟨k _ _ (N p hp).1, (N p hp).2⟩
  have N'' := (N'.push F' emptyDict).push (F'.push _) (tupObj h'.objs.size vs)
  have z := h _ h'.objs.size _ ((F'.push _).push _) N'' (fun p hp => Heap.lt_size (N' p hp).1) (by rw [Heap.size_push]; exact Nat.lt_succ_self _)
  exact wpAny_pure (wpAny_pure z)
end
end
local macro_rules | `(tactic| walk_at $s:str) => `(tactic| k_extra $s)
local macro_rules | `(tactic| walk_at "m none") => `(tactic| skip)
local macro_rules | `(tactic| k_mem) => `(tactic| first | with_reducible assumption | assumption)
local macro_rules | `(tactic| k_all) => `(tactic| with_reducible assumption)
local macro_rules | `(tactic| k_enter) => `(tactic| (refine' code_def ?k1 ?k2 ?k3 ?k4 ?k5 ?kA ?kF ?kK ?k6 ?k7 ?k8 ?k9 ?kB ?_ ?c2 ?c3 ?c4 ?c5; (case k3 => k_asm); (case k2 => k_asm); (case k6 => k_is); (case k9 => exact binds_K (by k_in) rfl (by k_is) rfl rfl rfl); (case kA => exact rfl); (case kF => exact rfl); (case kK => exact rfl); (case k1 => k_asm); (case k4 => k_asm); (case k5 => k_asm); (case k7 => k_is); (case k8 => k_room); (case c5 => decide); (case kB => exact locs rfl); (case c2 => exact rfl); (case c3 => exact rfl); (case c4 => exact rfl); k_whole; intro g' L' h' FG' F' N' B' X' T'; (try dsimp only); (try k_lift B'); (try k_fold)))
local macro_rules | `(tactic| k_lt $h:ident) => `(tactic| (replace $h := allLt_of $h; (try dsimp only [AllLt] at $h:ident)))
local macro_rules | `(tactic| k_ne) => `(tactic| walk_at "m nn")

theorem said_lines : True := by
  k_with "m nn" => (refine neN ?_; (try dsimp only); first | with_reducible assumption | exact Nat.ne_of_lt (by with_reducible assumption) | exact Nat.ne_of_gt (by with_reducible assumption) | exact Ne.symm (by with_reducible assumption) | walk_at "m ne" | omega)
  k_with "m ne" => (first | exact Nat.ne_of_gt (And.left (by with_reducible assumption)) | exact Nat.ne_of_lt (And.left (by with_reducible assumption)) | exact Nat.ne_of_gt (And.left (And.right (by with_reducible assumption))) | exact Nat.ne_of_lt (And.left (And.right (by with_reducible assumption))) | exact Nat.ne_of_gt (And.left (And.right (And.right (by with_reducible assumption)))) | exact Nat.ne_of_lt (And.left (And.right (And.right (by with_reducible assumption)))) | exact Nat.ne_of_gt (And.left (And.right (And.right (And.right (by with_reducible assumption))))) | exact Nat.ne_of_lt (And.left (And.right (And.right (And.right (by with_reducible assumption))))) | exact Nat.ne_of_gt (And.left (And.right (And.right (And.right (And.right (by with_reducible assumption)))))) | exact Nat.ne_of_lt (And.left (And.right (And.right (And.right (And.right (by with_reducible assumption)))))) | exact Nat.ne_of_gt (And.left (And.right (And.right (And.right (And.right (And.right (by with_reducible assumption))))))) | exact Nat.ne_of_lt (And.left (And.right (And.right (And.right (And.right (And.right (by with_reducible assumption))))))) | exact Nat.ne_of_gt (And.left (And.right (And.right (And.right (And.right (And.right (And.right (by with_reducible assumption)))))))) | exact Nat.ne_of_lt (And.left (And.right (And.right (And.right (And.right (And.right (And.right (by with_reducible assumption)))))))) | exact Nat.ne_of_gt (And.left (And.right (And.right (And.right (And.right (And.right (And.right (And.right (by with_reducible assumption))))))))) | exact Nat.ne_of_lt (And.left (And.right (And.right (And.right (And.right (And.right (And.right (And.right (by with_reducible assumption))))))))) | exact Nat.ne_of_gt (And.left (And.right (And.right (And.right (And.right (And.right (And.right (And.right (And.right (by with_reducible assumption)))))))))) | exact Nat.ne_of_lt (And.left (And.right (And.right (And.right (And.right (And.right (And.right (And.right (And.right (by with_reducible assumption)))))))))) | exact Nat.ne_of_gt (And.left (And.right (And.right (And.right (And.right (And.right (And.right (And.right (And.right (And.right (by with_reducible assumption))))))))))) | exact Nat.ne_of_lt (And.left (And.right (And.right (And.right (And.right (And.right (And.right (And.right (And.right (And.right (by with_reducible assumption))))))))))) | exact Nat.ne_of_gt (And.left (And.right (And.right (And.right (And.right (And.right (And.right (And.right (And.right (And.right (And.right (by with_reducible assumption)))))))))))) | exact Nat.ne_of_lt (And.left (And.right (And.right (And.right (And.right (And.right (And.right (And.right (And.right (And.right (And.right (by with_reducible assumption)))))))))))) | exact Nat.ne_of_gt (And.left (And.right (And.right (And.right (And.right (And.right (And.right (And.right (And.right (And.right (And.right (And.right (by with_reducible assumption))))))))))))) | exact Nat.ne_of_lt (And.left (And.right (And.right (And.right (And.right (And.right (And.right (And.right (And.right (And.right (And.right (And.right (by with_reducible assumption))))))))))))) | exact Nat.ne_of_gt (And.left (And.right (And.right (And.right (And.right (And.right (And.right (And.right (And.right (And.right (And.right (And.right (And.right (by with_reducible assumption)))))))))))))) | exact Nat.ne_of_lt (And.left (And.right (And.right (And.right (And.right (And.right (And.right (And.right (And.right (And.right (And.right (And.right (And.right (by with_reducible assumption)))))))))))))) | exact Nat.ne_of_gt (And.left (And.right (And.right (And.right (And.right (And.right (And.right (And.right (And.right (And.right (And.right (And.right (And.right (And.right (by with_reducible assumption))))))))))))))) | exact Nat.ne_of_lt (And.left (And.right (And.right (And.right (And.right (And.right (And.right (And.right (And.right (And.right (And.right (And.right (And.right (And.right (by with_reducible assumption))))))))))))))) | exact Nat.ne_of_gt (And.left (And.right (And.right (And.right (And.right (And.right (And.right (And.right (And.right (And.right (And.right (And.right (And.right (And.right (And.right (by with_reducible assumption)))))))))))))))) | exact Nat.ne_of_lt (And.left (And.right (And.right (And.right (And.right (And.right (And.right (And.right (And.right (And.right (And.right (And.right (And.right (And.right (And.right (by with_reducible assumption)))))))))))))))) | exact Nat.ne_of_gt (And.left (And.right (And.right (And.right (And.right (And.right (And.right (And.right (And.right (And.right (And.right (And.right (And.right (And.right (And.right (And.right (by with_reducible assumption))))))))))))))))) | exact Nat.ne_of_lt (And.left (And.right (And.right (And.right (And.right (And.right (And.right (And.right (And.right (And.right (And.right (And.right (And.right (And.right (And.right (And.right (by with_reducible assumption))))))))))))))))) | exact Nat.ne_of_gt (And.left (And.right (And.right (And.right (And.right (And.right (And.right (And.right (And.right (And.right (And.right (And.right (And.right (And.right (And.right (And.right (And.right (by with_reducible assumption)))))))))))))))))) | exact Nat.ne_of_lt (And.left (And.right (And.right (And.right (And.right (And.right (And.right (And.right (And.right (And.right (And.right (And.right (And.right (And.right (And.right (And.right (And.right (by with_reducible assumption)))))))))))))))))) | exact Nat.ne_of_gt (And.left (And.right (And.right (And.right (And.right (And.right (And.right (And.right (And.right (And.right (And.right (And.right (And.right (And.right (And.right (And.right (And.right (And.right (by with_reducible assumption))))))))))))))))))) | exact Nat.ne_of_lt (And.left (And.right (And.right (And.right (And.right (And.right (And.right (And.right (And.right (And.right (And.right (And.right (And.right (And.right (And.right (And.right (And.right (And.right (by with_reducible assumption))))))))))))))))))) | exact Nat.ne_of_gt (And.left (And.right (And.right (And.right (And.right (And.right (And.right (And.right (And.right (And.right (And.right (And.right (And.right (And.right (And.right (And.right (And.right (And.right (And.right (by with_reducible assumption)))))))))))))))))))) | exact Nat.ne_of_lt (And.left (And.right (And.right (And.right (And.right (And.right (And.right (And.right (And.right (And.right (And.right (And.right (And.right (And.right (And.right (And.right (And.right (And.right (And.right (by with_reducible assumption)))))))))))))))))))) | exact Nat.ne_of_gt (And.left (And.right (And.right (And.right (And.right (And.right (And.right (And.right (And.right (And.right (And.right (And.right (And.right (And.right (And.right (And.right (And.right (And.right (And.right (And.right (by with_reducible assumption))))))))))))))))))))) | exact Nat.ne_of_lt (And.left (And.right (And.right (And.right (And.right (And.right (And.right (And.right (And.right (And.right (And.right (And.right (And.right (And.right (And.right (And.right (And.right (And.right (And.right (And.right (by with_reducible assumption))))))))))))))))))))) | exact Nat.ne_of_gt (And.left (And.right (And.right (And.right (And.right (And.right (And.right (And.right (And.right (And.right (And.right (And.right (And.right (And.right (And.right (And.right (And.right (And.right (And.right (And.right (And.right (by with_reducible assumption)))))))))))))))))))))) | exact Nat.ne_of_lt (And.left (And.right (And.right (And.right (And.right (And.right (And.right (And.right (And.right (And.right (And.right (And.right (And.right (And.right (And.right (And.right (And.right (And.right (And.right (And.right (And.right (by with_reducible assumption)))))))))))))))))))))) | exact Nat.ne_of_gt (And.left (And.right (And.right (And.right (And.right (And.right (And.right (And.right (And.right (And.right (And.right (And.right (And.right (And.right (And.right (And.right (And.right (And.right (And.right (And.right (And.right (And.right (by with_reducible assumption))))))))))))))))))))))) | exact Nat.ne_of_lt (And.left (And.right (And.right (And.right (And.right (And.right (And.right (And.right (And.right (And.right (And.right (And.right (And.right (And.right (And.right (And.right (And.right (And.right (And.right (And.right (And.right (And.right (by with_reducible assumption))))))))))))))))))))))) | exact Nat.ne_of_gt (And.left (And.right (And.right (And.right (And.right (And.right (And.right (And.right (And.right (And.right (And.right (And.right (And.right (And.right (And.right (And.right (And.right (And.right (And.right (And.right (And.right (And.right (And.right (by with_reducible assumption)))))))))))))))))))))))) | exact Nat.ne_of_lt (And.left (And.right (And.right (And.right (And.right (And.right (And.right (And.right (And.right (And.right (And.right (And.right (And.right (And.right (And.right (And.right (And.right (And.right (And.right (And.right (And.right (And.right (And.right (by with_reducible assumption)))))))))))))))))))))))) | exact Nat.ne_of_gt (And.left (And.right (And.right (And.right (And.right (And.right (And.right (And.right (And.right (And.right (And.right (And.right (And.right (And.right (And.right (And.right (And.right (And.right (And.right (And.right (And.right (And.right (And.right (And.right (by with_reducible assumption))))))))))))))))))))))))) | exact Nat.ne_of_lt (And.left (And.right (And.right (And.right (And.right (And.right (And.right (And.right (And.right (And.right (And.right (And.right (And.right (And.right (And.right (And.right (And.right (And.right (And.right (And.right (And.right (And.right (And.right (And.right (by with_reducible assumption))))))))))))))))))))))))) | exact Nat.ne_of_gt (And.left (And.right (And.right (And.right (And.right (And.right (And.right (And.right (And.right (And.right (And.right (And.right (And.right (And.right (And.right (And.right (And.right (And.right (And.right (And.right (And.right (And.right (And.right (And.right (And.right (by with_reducible assumption)))))))))))))))))))))))))) | exact Nat.ne_of_lt (And.left (And.right (And.right (And.right (And.right (And.right (And.right (And.right (And.right (And.right (And.right (And.right (And.right (And.right (And.right (And.right (And.right (And.right (And.right (And.right (And.right (And.right (And.right (And.right (And.right (by with_reducible assumption)))))))))))))))))))))))))) | exact Nat.ne_of_gt (And.left (And.right (And.right (And.right (And.right (And.right (And.right (And.right (And.right (And.right (And.right (And.right (And.right (And.right (And.right (And.right (And.right (And.right (And.right (And.right (And.right (And.right (And.right (And.right (And.right (And.right (by with_reducible assumption))))))))))))))))))))))))))) | exact Nat.ne_of_lt (And.left (And.right (And.right (And.right (And.right (And.right (And.right (And.right (And.right (And.right (And.right (And.right (And.right (And.right (And.right (And.right (And.right (And.right (And.right (And.right (And.right (And.right (And.right (And.right (And.right (And.right (by with_reducible assumption))))))))))))))))))))))))))))
  k_with "m enter" => (refine' code_def ?zyk1 ?zyk2 ?zyk3 ?zyk4 ?zyk5 ?zykA ?zykF ?zykK ?zyk6 ?zyk7 ?zyk8 ?zyk9 ?zykB ?_ ?zyc2 ?zyc3 ?zyc4 ?zyc5; (case zykA => exact rfl); (case zykF => exact rfl); (case zykK => assumption); (case zyk1 => k_asm); (case zyk2 => k_asm); (case zyk3 => k_asm); (case zyk4 => k_asm); (case zyk5 => k_asm); (case zyk6 => k_is); (case zyk7 => k_is); (case zyk8 => first | exact Nat.le_of_ble_eq_true rfl | k_room); (case zyk9 => first | exact BindsTo.of_eq rfl | exact binds_K (by k_in) rfl (by k_is) rfl rfl rfl); (case zyc5 => decide); (case zykB => exact locs rfl); (case zyc2 => exact rfl); (case zyc3 => exact rfl); (case zyc4 => exact rfl); k_whole; intro g' L' h' FG' F' N' B' X' T'; (try dsimp only); (try k_fold))
  k_with "getMethod ref" => (k_here; k_dflt (first
      | ((with_reducible show wpAny _ _ (getMethod (Value.ref _) (Str.ofString "clock") _) _ _ _); refine' kmu_own ?zyk1 ?zyk2 ?zyk3 ?zyk4 ?zyk5 ?_; (case zyk1 => k_asm); (case zyk2 => k_asm); (case zyk3 => k_inst); (case zyk4 => k_is); (case zyk5 => k_is); k_whole)
      | ((with_reducible show wpAny _ _ (getMethod (Value.ref _) (Str.ofString "get") _) _ _ _); refine dv_method PySem.F.slot_dict_get PySem.F.type_dict_get (by k_asm) (by k_mem) (by assumption) ?_)
      | ((with_reducible show wpAny _ _ (getMethod (Value.ref _) (Str.ofString "pop") _) _ _ _); refine dv_method PySem.F.slot_dict_pop PySem.F.type_dict_pop (by k_asm) (by k_mem) (by assumption) ?_)
      | ((with_reducible show wpAny _ _ (getMethod (Value.ref _) (Str.ofString "setdefault") _) _ _ _); refine dv_method PySem.F.slot_dict_setdefault PySem.F.type_dict_setdefault (by k_asm) (by k_mem) (by assumption) ?_)
      | ((with_reducible show wpAny _ _ (getMethod (Value.ref _) (Str.ofString "sliding_window_keys") _) _ _ _); (refine' kmu_cm ?zyk1 ?zyk2 ?zyk3 ?zyk4 ?zyk5 ?zyk6 ?zyk7 ?zyk8 ?zyk9 ?zyk10 ?zyk11 ?zyk12 ?zyk13 ?_; (case zyk1 => k_asm); (case zyk2 => k_asm); (case zyk3 => k_asm); (case zyk4 => k_inst); (case zyk5 => k_is); (case zyk6 => k_is); (case zyk7 => k_is); (case zyk8 => k_is); (case zyk9 => k_is); (case zyk10 => k_is); (case zyk11 => decide +kernel); (case zyk12 => k_get); (case zyk13 => k_is); k_whole; intro q' h' F' N' l1; (try k_lt l1); (try k_sweep)))))
  k_with "call builtin:dict.get" => (k_here; k_dflt (refine iv_get (by k_asm) (by k_mem) (by assumption) (by assumption) ?_; intro tv'); (try dsimp only))
  k_with "call builtin:dict.pop" => (k_here; k_dflt (refine' dv_pop ?zyF ?zyN ?zyU ?zyhd ?zylo ?zyhz ?_; (case zyF => k_asm); (case zyN => k_asm); (case zyU => k_updF); (case zyhd => assumption); (case zylo => assumption); (case zyhz => walk_at "m om"); k_whole); (intro v' h' o' F' N' hd'; (try dsimp only at N'); (try dsimp only); (try k_sweep)))
  k_with "callWith ref" => (k_here; k_dflt (first
      | refine' callWith_K ?zyk1 ?zyk2 ?_; (case zyk1 => k_asm); (case zyk2 => k_is); k_whole
      | (refine' callWith_M ?zyk1 ?zyk2 ?zyk3 ?zyk4 ?_; (case zyk1 => k_asm); (case zyk2 => k_asm); (case zyk3 => k_mem); (case zyk4 => k_is); k_whole)
      | (refine' callWith_KW ?zyk1 ?zyk2 ?zyk3 ?_; (case zyk1 => k_asm); (case zyk2 => k_is); (case zyk3 => exact rfl); k_whole)
      | (refine' callWith_F0 ?zyk1 ?_; (case zyk1 => exact FnAt.of (by k_asm) (by k_mem)); k_whole; try dsimp only [List.nil_append, List.cons_append])
      | (refine' callWith_F ?zyk1 ?_; (case zyk1 => exact FnAt.of (by k_asm) (by k_mem)); k_whole)))
  k_with "m sub" => (intro q' hq' _; first | exact hq' | exact List.Mem.tail _ hq' | exact List.Mem.tail _ (List.Mem.tail _ hq') | exact List.Mem.tail _ (List.Mem.tail _ (List.Mem.tail _ hq')) | (repeat (first | exact hq' | refine List.Mem.tail _ ?_)))
  k_with "call type:type" => (k_here; k_dflt (refine' kto_own ?zyI ?_; (case zyI => (refine' inst_Kt ?zyX ?zyh1 ?zyh2; (case zyX => k_in); (case zyh1 => k_is); (case zyh2 => k_is))); k_whole))
  k_with "call builtin:issubclass" => (k_here; k_dflt (refine' c_issub ?zyX ?zya ?zyb ?_; (case zyX => k_in); (case zya => k_is); (case zyb => k_is); k_whole))
  k_with "call builtin:tuple.__getitem__" => (k_here; k_dflt (first
      | (refine' c_tupget_K ?zyF ?zyX ?zyb ?zya ?zyc ?zyd ?zye ?zyf ?_; (case zyF => k_asm); (case zyX => k_asm); (case zyb => k_is); (case zya => k_is); (case zyc => decide); (case zyd => decide); (case zye => rfl); (case zyf => rfl); k_whole)
      | (refine' c_tupget_N ?zyF ?zyX ?zyN ?zyb ?zya ?zyc ?zyd ?zye ?zyf ?_; (case zyF => k_asm); (case zyX => k_asm); (case zyN => k_asm); (case zyb => k_mem); (case zya => k_is); (case zyc => decide); (case zyd => decide); (case zye => rfl); (case zyf => rfl); k_whole)))
  k_with "getMethod type:tuple" => (k_here; k_dflt (refine' method_type ?zyF ?zyX ?zym ?zyst ?zye ?zyh ?_; (case zyF => k_asm); (case zyX => k_asm); (case zym => exact kitMeta_of (by decide +kernel)); (case zyst => decide +kernel); (case zye => k_is); (case zyh => k_handed); k_whole); (try dsimp only))
  k_with "call ref" => (k_here; (with_reducible show wpAny _ _ (call (Value.ref _) []) _ _ _); k_dflt (refine' Store.tick ?zyO ?zyB ?zyF ?zyX ?zyT ?zyk ?zyN ?zys ?zyd ?zyu ?_; (case zyO => assumption); (case zyB => k_asm); (case zyF => k_asm); (case zyX => k_asm); (case zyT => k_asm); (case zyk => first | exact rfl | assumption); (case zyN => k_asm); (case zys => walk_at "m sub"); (case zyd => exact Nat.le_of_ble_eq_true rfl); (case zyu => exact Nat.le_of_ble_eq_true rfl); k_whole); (intro r' h' tk' F' N'; (try dsimp only); (try k_sweep)))
  k_with "setItem ref str" => (k_here; k_dflt (refine' dv_set ?zyF ?zyN ?zyU ?zyhd ?zyhz ?zyhx ?_; (case zyF => k_asm); (case zyN => k_asm); (case zyU => k_updF); (case zyhd => assumption); (case zyhz => walk_at "m om"); (case zyhx => first | exact ⟨_, rfl⟩ | exact rfl); k_whole); (intro h' o' F' N' hd'; (try dsimp only at N'); (try dsimp only); (try k_sweep)))
  k_with "subscriptTail" => (k_here; k_dflt (refine' dv_tail ?zyN ?zyhp ?zyhd ?_; (case zyN => k_asm); (case zyhp => k_mem); (case zyhd => assumption); k_whole))
  k_with "getItem ref str" => (k_here; k_dflt (refine' iv_getItem ?zyN ?zyhp ?zyhd ?zye ?_; (case zyN => k_asm); (case zyhp => k_mem); (case zyhd => assumption); (case zye => simp [upd]); k_whole); (intro t'; (try dsimp only)))
  k_with "binaryOp FloorDiv int int" => (k_here; (with_reducible refine floordiv_int ?zykbe ?_ (Or.inl (PyProof.noPylong_small ?zykbp))); (case zykbe => walk_at "m om"); (case zykbp => walk_at "m om"))
  k_with "binaryOp Mod int int" => (k_here; (with_reducible refine mod_int' ?zykbe ?_); (case zykbe => walk_at "m om"))
  k_with "binaryOp Mult int int" => (k_here; first
      | ((with_reducible refine mul_int ?_ (IntMulOk.of_right (PySem.W.X.intBits_le_64 ?zyl ?zyr))); (case zyl => walk_at "m om"); (case zyr => walk_at "m om"))
      | ((with_reducible refine mul_int ?_ (IntMulOk.of_left (PySem.W.X.intBits_le_64 ?zyl ?zyr))); (case zyl => walk_at "m om"); (case zyr => walk_at "m om")))
  k_with "formatField int" => (k_here; (with_reducible refine wpAny_formatField_int (log2_small ?zykbb) ?_); (case zykbb => walk_at "m om"); (try dsimp only))
  k_with "newTuple" => (k_here; k_dflt (refine' newTuple_O ?zyF ?zyN ?_ ?zyz; (case zyF => k_asm); (case zyN => k_asm); (case zyz => first | exact Nat.le_of_ble_eq_true rfl | size_fits); k_whole); (intro q' h' F' N' l1; (replace l1 := allLt_of l1); (have l2 := l1); (try dsimp only [AllLt] at l2); (try dsimp only); (try k_sweep)))
  k_with "execs cons" => (k_here; (with_reducible show wpAny _ _ _ _ _ (Shared.mk _ _ _ (_ + _) _)); refine' tokN _ ?_; intro tkN)
  k_with "m lt" => first | with_reducible assumption | exact And.left (by with_reducible assumption) | exact And.left (And.right (by with_reducible assumption)) | exact And.left (And.right (And.right (by with_reducible assumption))) | exact And.left (And.right (And.right (And.right (by with_reducible assumption)))) | exact And.left (And.right (And.right (And.right (And.right (by with_reducible assumption))))) | exact And.left (And.right (And.right (And.right (And.right (And.right (by with_reducible assumption)))))) | exact And.left (And.right (And.right (And.right (And.right (And.right (And.right (by with_reducible assumption))))))) | exact And.left (And.right (And.right (And.right (And.right (And.right (And.right (And.right (by with_reducible assumption)))))))) | exact And.left (And.right (And.right (And.right (And.right (And.right (And.right (And.right (And.right (by with_reducible assumption))))))))) | exact And.left (And.right (And.right (And.right (And.right (And.right (And.right (And.right (And.right (And.right (by with_reducible assumption)))))))))) | exact And.left (And.right (And.right (And.right (And.right (And.right (And.right (And.right (And.right (And.right (And.right (by with_reducible assumption))))))))))) | exact And.left (And.right (And.right (And.right (And.right (And.right (And.right (And.right (And.right (And.right (And.right (And.right (by with_reducible assumption)))))))))))) | exact And.left (And.right (And.right (And.right (And.right (And.right (And.right (And.right (And.right (And.right (And.right (And.right (And.right (by with_reducible assumption))))))))))))) | exact And.left (And.right (And.right (And.right (And.right (And.right (And.right (And.right (And.right (And.right (And.right (And.right (And.right (And.right (by with_reducible assumption)))))))))))))) | omega
  k_with "m om" => first | with_reducible assumption | with_reducible exact Nat.le_refl _ | with_reducible exact Nat.le_add_right _ _ | with_reducible exact Nat.le_succ _ | with_reducible exact Int.le_refl _ | (with_reducible refine Nat.le_of_ble_eq_true ?_; with_reducible rfl) | omega
  trivial
section
section
variable {h₀ h : Heap} {L : Addr} {news frz : List (Addr × Obj)}
theorem updF_memg {d : Addr} {o : Obj} {l : List (Addr × Obj)} {g : Obj → List (Addr × Obj)} (U : UpdF d o l g) (a : Obj) (q : Addr × Obj) : q ∈ g a ↔ (q = (d, a) ∨ (q ∈ l ∧ q.1 ≠ d)) := by
  obtain ⟨pre, post, rfl, hg, h1, h2⟩ := U.split
  rw [hg]
  constructor
  · intro hq
    rcases List.mem_append.mp hq with hq | hq
    · exact .inr ⟨List.mem_append_left _ hq, h1 q hq⟩
    · rcases List.mem_cons.mp hq with e | hq
      · exact .inl e
      · exact .inr ⟨List.mem_append_right _ (.tail _ hq), h2 q hq⟩
  · rintro (e | ⟨hq, hn⟩)
    · subst e; exact List.mem_append_right _ (.head _)
    · rcases List.mem_append.mp hq with hq | hq
      · exact List.mem_append_left _ hq
      · rcases List.mem_cons.mp hq with e | hq
        · subst e; exact absurd rfl hn
        · exact List.mem_append_right _ (.tail _ hq)
theorem updF_mem0 {d : Addr} {o : Obj} {l : List (Addr × Obj)} {g : Obj → List (Addr × Obj)} (U : UpdF d o l g) : (d, o) ∈ l := by
  obtain ⟨pre, post, rfl, hg, h1, h2⟩ := U.split
  exact List.mem_append_right _ (.head _)

theorem news_of {l l' : List (Addr × Obj)} (N : News h₀ L h l) (hs : ∀ q, q ∈ l' → q ∈ l) : News h₀ L h l' := fun q hq => N q (hs q hq)
theorem cons_sub {a : Addr × Obj} {l l' : List (Addr × Obj)} (hs : ∀ q, q ∈ l' → q ∈ l) : ∀ q, q ∈ a :: l' → q ∈ a :: l := fun q hq => by
  rcases List.mem_cons.mp hq with e | hq
  · subst e; exact .head _
  · exact .tail _ (hs q hq)
theorem allLt_sub {d : Addr} {l l' : List (Addr × Obj)} (hs : ∀ q, q ∈ l' → q ∈ l) (h : ∀ p ∈ l, @LT.lt Nat _ p.1 d) : AllLt d l' := allLt_of fun q hq => h q (hs q hq)
theorem allLt_mem {d : Addr} : ∀ {l : List (Addr × Obj)}, AllLt d l → ∀ p ∈ l, @LT.lt Nat _ p.1 d
  | [], _, _, h => nomatch h
  | q :: r, h, p, hp => by
    rcases List.mem_cons.mp hp with e | hp
    · subst e; exact h.1
    · exact allLt_mem h.2 p hp
theorem split1 {d1 : Addr} {o1 : Obj} {g1 : Obj → List (Addr × Obj)} (U1 : UpdF d1 o1 news g1) (N : News h₀ L h news) :
    ∃ frz, (∀ q ∈ frz, q.1 ≠ d1) ∧ News h₀ L h ((d1, o1) :: frz) ∧ (∀ q ∈ news, q.1 ≠ d1 → q ∈ frz) ∧ (∀ a q, q ∈ g1 a → q ∈ (d1, a) :: frz) := by
  refine ⟨news.filter fun q => decide (q.1 ≠ d1), fun q hq => ?_, fun q hq => ?_, fun q hq h1 => ?_, fun a q hq => ?_⟩
  · exact of_decide_eq_true (List.mem_filter.mp hq).2
  · rcases List.mem_cons.mp hq with e | hq
    · subst e; exact N _ (updF_mem0 U1)
    · exact N q (List.mem_filter.mp hq).1
  · exact List.mem_filter.mpr ⟨hq, decide_eq_true h1⟩
  · rcases (updF_memg U1 a q).mp hq with e | ⟨hl, hn⟩
    · subst e; exact .head _
    · exact .tail _ (List.mem_filter.mpr ⟨hl, decide_eq_true hn⟩)
theorem split2 {d1 d2 : Addr} {o1 o2 : Obj} {g1 : Obj → List (Addr × Obj)} {g2 : Obj → Obj → List (Addr × Obj)} (hne : d2 ≠ d1) (U1 : UpdF d1 o1 news g1) (U2 : ∀ o, UpdF d2 o2 (g1 o) (g2 o)) (N : News h₀ L h news) :
    ∃ frz, (∀ q ∈ frz, q.1 ≠ d1) ∧ (∀ q ∈ frz, q.1 ≠ d2) ∧ News h₀ L h ((d1, o1) :: (d2, o2) :: frz) ∧ (∀ q ∈ news, q.1 ≠ d1 → q.1 ≠ d2 → q ∈ frz) ∧ (∀ a b q, q ∈ g2 a b → q ∈ (d1, a) :: (d2, b) :: frz) := by
  obtain ⟨f1, n1, N1, s1, r1⟩ := split1 U1 N
  have m2 : (d2, o2) ∈ news := by
    rcases (updF_memg U1 o1 (d2, o2)).mp (updF_mem0 (U2 o1)) with e | ⟨hl, _⟩
    · exact absurd (congrArg Prod.fst e) hne
    · exact hl
  refine ⟨f1.filter fun q => decide (q.1 ≠ d2), fun q hq => n1 q (List.mem_filter.mp hq).1, fun q hq => of_decide_eq_true (List.mem_filter.mp hq).2, fun q hq => ?_, fun q hq h1 h2 => List.mem_filter.mpr ⟨s1 q hq h1, decide_eq_true h2⟩, fun a b q hq => ?_⟩
  · rcases List.mem_cons.mp hq with e | hq
    · subst e; exact N1 _ (.head _)
    · rcases List.mem_cons.mp hq with e | hq
      · subst e; exact N _ m2
      · exact N1 _ (.tail _ (List.mem_filter.mp hq).1)
  · rcases (updF_memg (U2 a) b q).mp hq with e | ⟨hl, hn⟩
    · subst e; exact .tail _ (.head _)
    · rcases (updF_memg U1 a q).mp hl with e | ⟨hl, hn1⟩
      · subst e; exact .head _
      · exact .tail _ (.tail _ (List.mem_filter.mpr ⟨s1 q hl hn1, decide_eq_true hn⟩))
theorem split3 {d1 d2 d3 : Addr} {o1 o2 o3 : Obj} {g1 : Obj → List (Addr × Obj)} {g2 : Obj → Obj → List (Addr × Obj)} {g3 : Obj → Obj → Obj → List (Addr × Obj)} (hne : d2 ≠ d1) (hne1 : d3 ≠ d1) (hne2 : d3 ≠ d2) (U1 : UpdF d1 o1 news g1) (U2 : ∀ o, UpdF d2 o2 (g1 o) (g2 o)) (U3 : ∀ o o', UpdF d3 o3 (g2 o o') (g3 o o')) (N : News h₀ L h news) :
    ∃ frz, (∀ q ∈ frz, q.1 ≠ d1) ∧ (∀ q ∈ frz, q.1 ≠ d2) ∧ (∀ q ∈ frz, q.1 ≠ d3) ∧ News h₀ L h ((d1, o1) :: (d2, o2) :: (d3, o3) :: frz) ∧ (∀ q ∈ news, q.1 ≠ d1 → q.1 ≠ d2 → q.1 ≠ d3 → q ∈ frz) ∧ (∀ a b c q, q ∈ g3 a b c → q ∈ (d1, a) :: (d2, b) :: (d3, c) :: frz) := by
  obtain ⟨f1, n1, n2, N1, s1, r1⟩ := split2 hne U1 U2 N
  have m3 : (d3, o3) ∈ news := by
    rcases (updF_memg (U2 o1) o2 (d3, o3)).mp (updF_mem0 (U3 o1 o2)) with e | ⟨hl, _⟩
    · exact absurd (congrArg Prod.fst e) hne2
    · rcases (updF_memg U1 o1 (d3, o3)).mp hl with e | ⟨hl, _⟩
      · exact absurd (congrArg Prod.fst e) hne1
      · exact hl
  refine ⟨f1.filter fun q => decide (q.1 ≠ d3), fun q hq => n1 q (List.mem_filter.mp hq).1, fun q hq => n2 q (List.mem_filter.mp hq).1, fun q hq => of_decide_eq_true (List.mem_filter.mp hq).2, fun q hq => ?_, fun q hq h1 h2 h3 => List.mem_filter.mpr ⟨s1 q hq h1 h2, decide_eq_true h3⟩, fun a b c q hq => ?_⟩
  · rcases List.mem_cons.mp hq with e | hq
    · subst e; exact N1 _ (.head _)
    · rcases List.mem_cons.mp hq with e | hq
      · subst e; exact N1 _ (.tail _ (.head _))
      · rcases List.mem_cons.mp hq with e | hq
        · subst e; exact N _ m3
        · exact N1 _ (.tail _ (.tail _ (List.mem_filter.mp hq).1))
  · rcases (updF_memg (U3 a b) c q).mp hq with e | ⟨hl, hn⟩
    · subst e; exact .tail _ (.tail _ (.head _))
    · rcases (updF_memg (U2 a) b q).mp hl with e | ⟨hl, hn2⟩
      · subst e; exact .tail _ (.head _)
      · rcases (updF_memg U1 a q).mp hl with e | ⟨hl, hn1⟩
        · subst e; exact .head _
        · exact .tail _ (.tail _ (.tail _ (List.mem_filter.mpr ⟨s1 q hl hn1 hn2, decide_eq_true hn⟩)))
end

/-- not one of the three tables -/
noncomputable def Off (S X V a : Addr) : Prop := a ≠ S ∧ a ≠ X ∧ a ≠ V
structure Store (w : World) (news : List (Addr × Obj)) (st S X V clk : Addr) (t : Int) : Prop where
  parts : ∃ dx h1 h2 h3 h4 t1 t2 t3 t4 n oc od fd sl, (st, instObj 691 dx) ∈ news ∧ (clk, (⟨oc, od, .func fd, sl⟩ : Obj)) ∈ news ∧
    (dx, dictOf [⟨h1, .str (Str.ofString "clock") t1, .ref clk⟩, ⟨h2, .str (Str.ofString "storage") t2, .ref S⟩, ⟨h3, .str (Str.ofString "expirations") t3, .ref X⟩, ⟨h4, .str (Str.ofString "events") t4, .ref V⟩] n) ∈ news ∧
    @LT.lt Nat _ dx S ∧ @LT.lt Nat _ st S ∧ @LT.lt Nat _ clk S
  clock : ∃ ck, ClockOf w ck clk t ∧ (∀ q ∈ ck, q ∈ news) ∧ (∀ q ∈ ck, Off S X V q.1)
  sx : @LT.lt Nat _ S X
  xv : @LT.lt Nat _ X V
  lS : (S == sysModules) = false
  lX : (X == sysModules) = false
  lV : (V == sysModules) = false
theorem Store.sub {w : World} {news news' : List (Addr × Obj)} {st S X V clk : Addr} {t : Int} (O : Store w news st S X V clk t) (hs : ∀ q ∈ news, Off S X V q.1 → q ∈ news') : Store w news' st S X V clk t := by
  obtain ⟨⟨dx, h1, h2, h3, h4, t1, t2, t3, t4, n, oc, od, fd, sl, p1, p2, p3, l1, l2, l3⟩, ⟨ck, C, c1, c2⟩, sx, xv, lS, lX, lV⟩ := O
  have off : ∀ a : Addr, @LT.lt Nat _ a S → Off S X V a := fun a ha => ⟨Nat.ne_of_lt ha, Nat.ne_of_lt (Nat.lt_trans ha sx), Nat.ne_of_lt (Nat.lt_trans ha (Nat.lt_trans sx xv))⟩
  exact ⟨⟨dx, h1, h2, h3, h4, t1, t2, t3, t4, n, oc, od, fd, sl, hs _ p1 (off _ l2), hs _ p2 (off _ l3), hs _ p3 (off _ l1), l1, l2, l3⟩, ⟨ck, C, fun q hq => hs q (c1 q hq) (c2 q hq), c2⟩, sx, xv, lS, lX, lV⟩
theorem Store.xs {w : World} {news : List (Addr × Obj)} {st S X V clk : Addr} {t : Int} (O : Store w news st S X V clk t) : X ≠ S := (Nat.ne_of_lt O.sx).symm
theorem Store.vs {w : World} {news : List (Addr × Obj)} {st S X V clk : Addr} {t : Int} (O : Store w news st S X V clk t) : V ≠ S := (Nat.ne_of_lt (Nat.lt_trans O.sx O.xv)).symm
theorem Store.vx {w : World} {news : List (Addr × Obj)} {st S X V clk : Addr} {t : Int} (O : Store w news st S X V clk t) : V ≠ X := (Nat.ne_of_lt O.xv).symm
/-- the clock, called where all its parts lie -/
theorem Store.tick {w : World} {news : List (Addr × Obj)} {st S X V clk : Addr} {t : Int} (O : Store w news st S X V clk t) {p : Program} {loose : List Str} {mean : ExcName → Option Value} {mg mb : Str → Option Value} {dp un : Nat} {gd : Option (List Code)} {cn : Str} {cs : Scope} {a : Addr} {ccd : Value} {cl : List (Str × Addr)} {outer : List Env} {A₀ : Around} {base h₀ : Heap} {L : Addr} {m : Str → Option Value} {s : Shared} {Q E : Value → Shared → Prop} {news' : List (Addr × Obj)}
    (B : Below A₀ base outer h₀) (F : Fr h₀ L s.heap m) (X' : (Mine.hd1.heap_39 w.params).In h₀) (T : Top p loose mean mg mb h₀) (hk : cs.kind = .function) (N : News h₀ L s.heap news') (hs : ∀ q ∈ news, Off S X V q.1 → q ∈ news') (hd : dp ≤ 900) (hu : un ≤ 9000)
    (ret : ∀ r h' tk', Fr h₀ L h' m → News h₀ L h' news' → Q (.int t r) { s with heap := h', toks := tk' }) :
    wpAny (model PySem.Challenge.rw_ji0060_01.row.prog w) (ktrTop dp un gd cn cs L a ccd cl outer) (call (.ref clk) []) Q E s := by
  obtain ⟨ck, C, c1, c2⟩ := O.clock
  exact C.use B F X' T hk N (fun q hq => hs q (c1 q hq) (c2 q hq)) hd hu ret
theorem log2_small {a : Int} (h : a.natAbs < 18446744073709551616) : a.natAbs.log2 < 1920 := by
  by_cases h0 : a.natAbs = 0
  · rw [h0]; decide +kernel
  · exact Nat.lt_of_lt_of_le ((Nat.log2_lt h0).mpr (show a.natAbs < 2 ^ 64 from h)) (by decide)
theorem fdiv_bounds {t e : Int} (he : 0 < e) (ht : 0 ≤ t) : 0 ≤ t.fdiv e ∧ t.fdiv e ≤ t := by
  rw [Int.fdiv_eq_ediv_of_nonneg _ (Int.le_of_lt he)]
  exact ⟨Int.ediv_nonneg ht (Int.le_of_lt he), Int.ediv_le_self _ ht⟩
theorem fmod_bounds {t e : Int} (he : 0 < e) : 0 ≤ t.fmod e ∧ t.fmod e < e := by
  rw [Int.fmod_eq_emod_of_nonneg _ (Int.le_of_lt he)]
  exact ⟨Int.emod_nonneg _ (Int.ne_of_gt he), Int.emod_lt_of_pos _ he⟩
/-- an int's text -/
noncomputable def itx (n : Int) : Str := Str.ofString (toString n)
/-- a window's key -/
noncomputable def wkey (key : Str) (n : Int) : Str := Str.empty ++ key ++ Str.ofString "/" ++ Str.ofString (toString n)
section
variable {M : Model} {A : Around} {E : Value → Shared → Prop} {s : Shared} {h₀ : Heap} {L : Addr} {m : Str → Option Value} {news : List (Addr × Obj)}
theorem newTuple_O {vs : List Value} {Q : Value → Shared → Prop} (F : Fr h₀ L s.heap m) (N : News h₀ L s.heap news)
    (h : ∀ q h', Fr h₀ L h' m → News h₀ L h' ((q, { cls := .type "tuple", data := .seq vs.toArray }) :: news) → (∀ p ∈ news, p.1 < q) → Q (.ref q) { s with heap := h' }) (hsz : vs.length ≤ sizeLine := by size_fits) :
    wpAny M A (newTuple vs) Q E s := newTuple_N F N (fun h' F' N' => h _ h' F' N' fun p hp => Heap.lt_size (N p hp).1) hsz
end
/-- a text made by join -/
theorem join_O {prog : Program} {w : World} {A : Around} {E : Value → Shared → Prop} {s : Shared} {x : Str} {t : Tok} {Q : Value → Shared → Prop} {D : Addr} {items : Array Value} {ys : List Str} (hl : s.heap.IsList D items) (hi : StrsAre items.toList ys) (hsep : x.length ≤ 4) (hw : (ys.map (·.length)).sum + ys.length ≤ 1000)
    (h : ∀ r t' k, r = Txt.join x ys → r.length ≤ 4004 → Q (.str r t') { s with toks := k }) : wpAny (model prog w) A (call (.builtin "str.join") [.str x t, .ref D]) Q E s :=
  join_listW hl hi (by omega) (by omega) fun t' k => h _ t' k rfl (len_join_le (n := 1000) (Nat.le_succ_of_le hw) hsep)

end
section
section
variable {w : World} {p : Program} {loose : List Str} {mean : ExcName → Option Value} {mg mb : Str → Option Value} {dp un : Nat} {gd : Option (List Code)} {cn : Str} {cs : Scope} {a : Addr} {ccd : Value} {cl : List (Str × Addr)} {outer : List Env} {A₀ : Around} {base h₀ : Heap} {L : Addr} {m : Str → Option Value} {s : Shared} {Q E : Value → Shared → Prop}
  (B : Below A₀ base outer h₀) (F : Fr h₀ L s.heap m) (KX : (Mine.hd1.heap_39 w.params).In h₀) (T : Top p loose mean mg mb h₀) (hk : cs.kind = .function)
include B F KX T hk

theorem get_spec {news : List (Addr × Obj)} {oS oX : Obj} {g1 : Obj → List (Addr × Obj)} {g2 : Obj → Obj → List (Addr × Obj)} {f x : Str → Option Int} {nS nX : Nat} {st S X V clk : Addr} {key : Str} {tk : Tok} {t : Int}
    (N : News h₀ L s.heap news) (U1 : UpdF S oS news g1) (U2 : ∀ o, UpdF X oX (g1 o) (g2 o)) (O : Store w news st S X V clk t)
    (hS : IntD PySem.Challenge.rw_ji0060_01.row.prog w oS f nS) (hX : IntD PySem.Challenge.rw_ji0060_01.row.prog w oX x nX) (zS : nS ≤ sizeLine) (zX : nX ≤ sizeLine) (hd : dp ≤ 880) (hu : un ≤ 8800)
    (ret : ∀ r oS' oX' h' tk', Fr h₀ L h' m → News h₀ L h' (g2 oS' oX') → IntD PySem.Challenge.rw_ji0060_01.row.prog w oS' (swept x key t f) nS → IntD PySem.Challenge.rw_ji0060_01.row.prog w oX' (swept x key t x) nX → Q (.int ((swept x key t f key).getD 0) r) { s with heap := h', toks := tk' }) :
    wpAny (model PySem.Challenge.rw_ji0060_01.row.prog w) (ktrTop dp un gd cn cs L a ccd cl outer) (call (.ref 616) [.ref st, .str key tk]) Q E s := by
  refine lower ?_ hd hu
  obtain ⟨frz, n1, n2, N', sub, mem⟩ := split2 O.xs U1 U2 N
  have O' : Store w frz st S X V clk t := O.sub (fun q hq ho => sub q hq ho.1 ho.2.1)
  clear N U1 U2 sub O
  have O'' := O'
  obtain ⟨⟨dx, h1, h2, h3, h4, t1, t2, t3, t4, nn, oc, od, fd, sl, hst, hck, hdx, _, _, _⟩, _, sx, xv, lS, lX, lV⟩ := O''
  revert KX; k_fill; intro KX
  refine wpAny_call ?_
  walk_at "m enter"
  k_steps
  · have hc : (x key).getD 0 ≤ t := by assumption
    have e1 : swept x key t f = upd f key none := if_pos hc
    have e2 : swept x key t x = upd x key none := if_pos hc
    rw [e1, e2] at ret
    exact ret _ _ _ _ _ (by assumption) (news_of (by assumption) (mem _ _)) (by assumption) (by assumption)
  · have hc : ¬ (x key).getD 0 ≤ t := by assumption
    have e1 : swept x key t f = f := if_neg hc
    have e2 : swept x key t x = x := if_neg hc
    rw [e1, e2] at ret
    exact ret _ _ _ _ _ (by assumption) (news_of (by assumption) (mem _ _)) (by assumption) (by assumption)
end

end

theorem said_get : True := by
  k_with "call ref" => (k_here; (with_reducible show wpAny _ _ (call (Value.ref 616) _) _ _ _); k_dflt (refine' get_spec ?zyB ?zyF ?zyX ?zyT ?zyk ?zyN ?zyU1 ?zyU2 ?zyO ?zyhS ?zyhX ?zyzS ?zyzX ?zyd ?zyu ?_; (case zyB => k_asm); (case zyF => k_asm); (case zyX => k_asm); (case zyT => k_asm); (case zyk => first | exact rfl | assumption); (case zyN => k_asm); (case zyO => refine' Store.sub ?zyo ?zys; (case zyo => assumption); (case zys => walk_at "m sub")); (case zyU1 => k_updF); (case zyU2 => (intro o1; (try dsimp only); k_updF)); (case zyhS => assumption); (case zyhX => assumption); (case zyzS => first | assumption | omega); (case zyzX => first | assumption | omega); (case zyd => exact Nat.le_of_ble_eq_true rfl); (case zyu => exact Nat.le_of_ble_eq_true rfl); k_whole); (intro r' oS' oX' h' tk' F' N' hS' hX'; (try dsimp only at N'); (try dsimp only); (try k_sweep)))
  trivial
section
noncomputable def incF (f x : Str → Option Int) (key : Str) (t am : Int) : Str → Option Int := upd (swept x key t f) key (some ((swept x key t f key).getD 0 + am))
noncomputable def incX (f x : Str → Option Int) (key : Str) (t e am : Int) : Str → Option Int := if (swept x key t f key).getD 0 + am = am then upd (swept x key t x) key (some (t + e)) else swept x key t x
section
variable {w : World} {p : Program} {loose : List Str} {mean : ExcName → Option Value} {mg mb : Str → Option Value} {dp un : Nat} {gd : Option (List Code)} {cn : Str} {cs : Scope} {a : Addr} {ccd : Value} {cl : List (Str × Addr)} {outer : List Env} {A₀ : Around} {base h₀ : Heap} {L : Addr} {m : Str → Option Value} {s : Shared} {Q E : Value → Shared → Prop}
  (B : Below A₀ base outer h₀) (F : Fr h₀ L s.heap m) (KX : (Mine.hd1.heap_39 w.params).In h₀) (T : Top p loose mean mg mb h₀) (hk : cs.kind = .function)
include B F KX T hk

theorem incr_spec {news : List (Addr × Obj)} {oS oX : Obj} {g1 : Obj → List (Addr × Obj)} {g2 : Obj → Obj → List (Addr × Obj)} {f x : Str → Option Int} {nS nX : Nat} {st S X V clk : Addr} {key : Str} {tk te ta : Tok} {t e am : Int}
    (N : News h₀ L s.heap news) (U1 : UpdF S oS news g1) (U2 : ∀ o, UpdF X oX (g1 o) (g2 o)) (O : Store w news st S X V clk t)
    (hS : IntD PySem.Challenge.rw_ji0060_01.row.prog w oS f nS) (hX : IntD PySem.Challenge.rw_ji0060_01.row.prog w oX x nX) (zS : nS + 1 ≤ sizeLine) (zX : nX + 1 ≤ sizeLine) (hd : dp ≤ 860) (hu : un ≤ 8600)
    (ret : ∀ r oS' oX' h' tk', Fr h₀ L h' m → News h₀ L h' (g2 oS' oX') → IntD PySem.Challenge.rw_ji0060_01.row.prog w oS' (incF f x key t am) (nS + 1) → IntD PySem.Challenge.rw_ji0060_01.row.prog w oX' (incX f x key t e am) (nX + 1) → Q (.int ((swept x key t f key).getD 0 + am) r) { s with heap := h', toks := tk' }) :
    wpAny (model PySem.Challenge.rw_ji0060_01.row.prog w) (ktrTop dp un gd cn cs L a ccd cl outer) (call (.ref 601) [.ref st, .str key tk, .int e te] [(Str.ofString "amount", .int am ta)]) Q E s := by
  refine lower ?_ hd hu
  obtain ⟨frz, n1, n2, N', sub, mem⟩ := split2 O.xs U1 U2 N
  have O' : Store w frz st S X V clk t := O.sub (fun q hq ho => sub q hq ho.1 ho.2.1)
  clear N U1 U2 sub O
  have O'' := O'
  obtain ⟨⟨dx, h1, h2, h3, h4, t1, t2, t3, t4, nn, oc, od, fd, sl, hst, hck, hdx, _, _, _⟩, _, sx, xv, lS, lX, lV⟩ := O''
  revert KX; k_fill; intro KX
  refine wpAny_call ?_
  walk_at "m enter"
  k_steps
  all_goals rw [upd_same, Option.getD_some]
  · have hc := (by assumption : (upd (swept x key t f) key (some ((swept x key t f key).getD 0 + am)) key).getD 0 = am)
    rw [upd_same, Option.getD_some] at hc
    have e2 : incX f x key t e am = upd (swept x key t x) key (some (t + e)) := if_pos hc
    rw [e2] at ret
    exact ret _ _ _ _ _ (by assumption) (news_of (by assumption) (mem _ _)) (by assumption) (by assumption)
  · have hc := (by assumption : ¬ (upd (swept x key t f) key (some ((swept x key t f key).getD 0 + am)) key).getD 0 = am)
    rw [upd_same, Option.getD_some] at hc
    have e2 : incX f x key t e am = swept x key t x := if_neg hc
    rw [e2] at ret
    exact ret _ _ _ _ _ (by assumption) (news_of (by assumption) (mem _ _)) (by assumption) (DictV.mono (by assumption) (Nat.le_succ _))
end

end

theorem said_incr : True := by
  k_with "call ref" => (k_here; (with_reducible show wpAny _ _ (call (Value.ref 601) _ _) _ _ _); k_dflt (refine' incr_spec ?zyB ?zyF ?zyX ?zyT ?zyk ?zyN ?zyU1 ?zyU2 ?zyO ?zyhS ?zyhX ?zyzS ?zyzX ?zyd ?zyu ?_; (case zyB => k_asm); (case zyF => k_asm); (case zyX => k_asm); (case zyT => k_asm); (case zyk => first | exact rfl | assumption); (case zyN => k_asm); (case zyO => refine' Store.sub ?zyo ?zys; (case zyo => assumption); (case zys => walk_at "m sub")); (case zyU1 => k_updF); (case zyU2 => (intro o1; (try dsimp only); k_updF)); (case zyhS => assumption); (case zyhX => assumption); (case zyzS => first | assumption | omega); (case zyzX => first | assumption | omega); (case zyd => exact Nat.le_of_ble_eq_true rfl); (case zyu => exact Nat.le_of_ble_eq_true rfl); k_whole); (intro r' oS' oX' h' tk' F' N' hS' hX'; (try dsimp only at N'); (try dsimp only); (try k_sweep)))
  trivial
section
section
variable {w : World} {p : Program} {loose : List Str} {mean : ExcName → Option Value} {mg mb : Str → Option Value} {dp un : Nat} {gd : Option (List Code)} {cn : Str} {cs : Scope} {a : Addr} {ccd : Value} {cl : List (Str × Addr)} {outer : List Env} {A₀ : Around} {base h₀ : Heap} {L : Addr} {m : Str → Option Value} {s : Shared} {Q E : Value → Shared → Prop}
  (B : Below A₀ base outer h₀) (F : Fr h₀ L s.heap m) (KX : (Mine.hd1.heap_39 w.params).In h₀) (T : Top p loose mean mg mb h₀) (hk : cs.kind = .function)
include B F KX T hk

theorem clear_spec {news : List (Addr × Obj)} {oS oX oV : Obj} {g1 : Obj → List (Addr × Obj)} {g2 : Obj → Obj → List (Addr × Obj)} {g3 : Obj → Obj → Obj → List (Addr × Obj)} {f x : Str → Option Int} {ev : Str → Option Addr} {nS nX nV : Nat} {st S X V clk : Addr} {key : Str} {tk : Tok} {t : Int}
    (N : News h₀ L s.heap news) (O : Store w news st S X V clk t) (U1 : UpdF S oS news g1) (U2 : ∀ o, UpdF X oX (g1 o) (g2 o)) (U3 : ∀ o o', UpdF V oV (g2 o o') (g3 o o'))
    (hS : IntD PySem.Challenge.rw_ji0060_01.row.prog w oS f nS) (hX : IntD PySem.Challenge.rw_ji0060_01.row.prog w oX x nX) (hV : RefD PySem.Challenge.rw_ji0060_01.row.prog w oV ev nV) (zS : nS ≤ sizeLine) (zX : nX ≤ sizeLine) (zV : nV ≤ sizeLine) (hd : dp ≤ 880) (hu : un ≤ 8800)
    (ret : ∀ oS' oX' oV' h' tk', Fr h₀ L h' m → News h₀ L h' (g3 oS' oX' oV') → IntD PySem.Challenge.rw_ji0060_01.row.prog w oS' (upd f key none) nS → IntD PySem.Challenge.rw_ji0060_01.row.prog w oX' (upd x key none) nX → RefD PySem.Challenge.rw_ji0060_01.row.prog w oV' (upd ev key none) nV → Q .none { s with heap := h', toks := tk' }) :
    wpAny (model PySem.Challenge.rw_ji0060_01.row.prog w) (ktrTop dp un gd cn cs L a ccd cl outer) (call (.ref 623) [.ref st, .str key tk]) Q E s := by
  refine lower ?_ hd hu
  obtain ⟨frz, n1, n2, n3, N', sub, mem⟩ := split3 O.xs O.vs O.vx U1 U2 U3 N
  have O' : Store w frz st S X V clk t := O.sub (fun q hq ho => sub q hq ho.1 ho.2.1 ho.2.2)
  clear N U1 U2 U3 sub O
  have O'' := O'
  obtain ⟨⟨dx, h1, h2, h3, h4, t1, t2, t3, t4, nn, oc, od, fd, sl, hst, hck, hdx, _, _, _⟩, _, sx, xv, lS, lX, lV⟩ := O''
  revert KX; k_fill; intro KX
  refine wpAny_call ?_
  walk_at "m enter"
  k_steps
  exact ret _ _ _ _ _ (by assumption) (news_of (by assumption) (mem _ _ _)) (by assumption) (by assumption) (by assumption)
end

end

theorem said_clear : True := by
  k_with "call ref" => (k_here; (with_reducible show wpAny _ _ (call (Value.ref 623) _) _ _ _); k_dflt (refine' clear_spec ?zyB ?zyF ?zyX ?zyT ?zyk ?zyN ?zyO ?zyU1 ?zyU2 ?zyU3 ?zyhS ?zyhX ?zyhV ?zyzS ?zyzX ?zyzV ?zyd ?zyu ?_; (case zyB => k_asm); (case zyF => k_asm); (case zyX => k_asm); (case zyT => k_asm); (case zyk => first | exact rfl | assumption); (case zyN => k_asm); (case zyO => refine' Store.sub ?zyo ?zys; (case zyo => assumption); (case zys => walk_at "m sub")); (case zyU1 => k_updF); (case zyU2 => (intro o1; (try dsimp only); k_updF)); (case zyhS => assumption); (case zyhX => assumption); (case zyzS => first | assumption | omega); (case zyzX => first | assumption | omega); (case zyU3 => (intro o1 o2; (try dsimp only); k_updF)); (case zyhV => assumption); (case zyzV => walk_at "m om"); (case zyd => exact Nat.le_of_ble_eq_true rfl); (case zyu => exact Nat.le_of_ble_eq_true rfl); k_whole); (intro oS' oX' oV' h' tk' F' N' hS' hX' hV'; (try dsimp only at N'); (try dsimp only); (try k_sweep)))
  trivial
section
section
variable {w : World} {p : Program} {loose : List Str} {mean : ExcName → Option Value} {mg mb : Str → Option Value} {dp un : Nat} {gd : Option (List Code)} {cn : Str} {cs : Scope} {a : Addr} {ccd : Value} {cl : List (Str × Addr)} {outer : List Env} {A₀ : Around} {base h₀ : Heap} {L : Addr} {m : Str → Option Value} {s : Shared} {Q E : Value → Shared → Prop}
  (B : Below A₀ base outer h₀) (F : Fr h₀ L s.heap m) (KX : (Mine.hd1.heap_39 w.params).In h₀) (T : Top p loose mean mg mb h₀) (hk : cs.kind = .function)
include B F KX T hk

theorem swk_spec {news : List (Addr × Obj)} {q : Addr} {key : Str} {tk te tt : Tok} {t e : Int}
    (N : News h₀ L s.heap news) (hq : (q, methodObj (.ref 534) (.ref 691)) ∈ news) (he : 0 < e) (he2 : e < 1000000) (het : e ≤ t) (ht : t < 1000000000000) (hkl : key.length ≤ 1000) (hd : dp ≤ 880) (hu : un ≤ 8800)
    (ret : ∀ q' t1 t2 h' tk', Fr h₀ L h' m → News h₀ L h' ((q', { cls := .type "tuple", data := .seq #[.str (wkey key ((t - e).fdiv e)) t1, .str (wkey key (t.fdiv e)) t2] }) :: news) → AllLt q' news → Q (.ref q') { s with heap := h', toks := tk' }) :
    wpAny (model PySem.Challenge.rw_ji0060_01.row.prog w) (ktrTop dp un gd cn cs L a ccd cl outer) (call (.ref q) [.str key tk, .int e te, .int t tt]) Q E s := by
  refine lower ?_ hd hu
  revert KX; k_fill; intro KX
  have b1 := fdiv_bounds (t := t - e) he (by omega)
  have b2 := fdiv_bounds (t := t) he (by omega)
  refine call_meth N hq ?_
  walk_at "m enter"
  k_steps
  exact ret _ _ _ _ _ (by assumption) (by assumption) (by assumption)
end

end

theorem said_swk : True := by
  k_with "call ref" => (k_here; (with_reducible show wpAny _ _ (call (Value.ref _) [Value.str _ _, Value.int _ _, Value.int _ _]) _ _ _); k_dflt (refine' swk_spec ?zyB ?zyF ?zyX ?zyT ?zyk ?zyN ?zyq ?zye1 ?zye2 ?zye3 ?zye4 ?zye5 ?zyd ?zyu ?_; (case zyB => k_asm); (case zyF => k_asm); (case zyX => k_asm); (case zyT => k_asm); (case zyk => first | exact rfl | assumption); (case zyN => k_asm); (case zyq => k_mem); (case zye1 => walk_at "m om"); (case zye2 => walk_at "m om"); (case zye3 => walk_at "m om"); (case zye4 => walk_at "m om"); (case zye5 => walk_at "m om"); (case zyd => exact Nat.le_of_ble_eq_true rfl); (case zyu => exact Nat.le_of_ble_eq_true rfl); k_whole); (intro q' t1' t2' h' tk' F' N' l1; (have l2 := l1); (try dsimp only [AllLt] at l2); (try dsimp only at N'); (try dsimp only); (try k_sweep)))
  trivial
section
noncomputable def ttlF (pc now e : Int) : Int := if pc = 0 then 0 else e - (now - e).fmod e
theorem ttlF_bounds {pc now e : Int} (he : 0 < e) : 0 ≤ ttlF pc now e ∧ ttlF pc now e ≤ e := by
  unfold ttlF
  have := fmod_bounds (t := now - e) he
  split <;> omega
theorem swept_bounds {x f : Str → Option Int} {k : Str} {t b : Int} (hb : 0 ≤ b) (hf : ∀ j, 0 ≤ (f j).getD 0 ∧ (f j).getD 0 ≤ b) (j : Str) : 0 ≤ (swept x k t f j).getD 0 ∧ (swept x k t f j).getD 0 ≤ b := by
  unfold swept
  split
  · unfold upd
    split
    · exact ⟨Int.le_refl _, hb⟩
    · exact hf j
  · exact hf j
section
variable {w : World} {p : Program} {loose : List Str} {mean : ExcName → Option Value} {mg mb : Str → Option Value} {dp un : Nat} {gd : Option (List Code)} {cn : Str} {cs : Scope} {a : Addr} {ccd : Value} {cl : List (Str × Addr)} {outer : List Env} {A₀ : Around} {base h₀ : Heap} {L : Addr} {m : Str → Option Value} {s : Shared} {Q E : Value → Shared → Prop}
  (B : Below A₀ base outer h₀) (F : Fr h₀ L s.heap m) (KX : (Mine.hd1.heap_39 w.params).In h₀) (T : Top p loose mean mg mb h₀) (hk : cs.kind = .function)
include B F KX T hk

theorem info_spec {news : List (Addr × Obj)} {oS oX : Obj} {g1 : Obj → List (Addr × Obj)} {g2 : Obj → Obj → List (Addr × Obj)} {f x : Str → Option Int} {nS nX : Nat} {st S X V clk : Addr} {pk ck : Str} {tp tc te tn : Tok} {t e now : Int}
    (N : News h₀ L s.heap news) (O : Store w news st S X V clk t) (U1 : UpdF S oS news g1) (U2 : ∀ o, UpdF X oX (g1 o) (g2 o))
    (hS : IntD PySem.Challenge.rw_ji0060_01.row.prog w oS f nS) (hX : IntD PySem.Challenge.rw_ji0060_01.row.prog w oX x nX) (zS : nS ≤ sizeLine) (zX : nX ≤ sizeLine) (he : 0 < e) (he2 : e < 1000000)
    (hf : ∀ j, 0 ≤ (f j).getD 0 ∧ (f j).getD 0 ≤ 1000000) (hd : dp ≤ 860) (hu : un ≤ 8600)
    (ret : ∀ pc ttl cc q r1 r2 r3 r4 oS' oX' h' tk', pc = (swept x pk t f pk).getD 0 → ttl = ttlF pc now e → cc = (swept (swept x pk t x) ck t (swept x pk t f) ck).getD 0 →
      (0 ≤ pc ∧ pc ≤ 1000000 ∧ 0 ≤ ttl ∧ ttl ≤ e ∧ 0 ≤ cc ∧ cc ≤ 1000000) → Fr h₀ L h' m →
      News h₀ L h' ((q, { cls := .type "tuple", data := .seq #[.int pc r1, .int ttl r2, .int cc r3, .int (e - now.fmod e + e) r4] }) :: g2 oS' oX') → AllLt q (g2 oS' oX') →
      IntD PySem.Challenge.rw_ji0060_01.row.prog w oS' (swept (swept x pk t x) ck t (swept x pk t f)) nS → IntD PySem.Challenge.rw_ji0060_01.row.prog w oX' (swept (swept x pk t x) ck t (swept x pk t x)) nX → Q (.ref q) { s with heap := h', toks := tk' }) :
    wpAny (model PySem.Challenge.rw_ji0060_01.row.prog w) (ktrTop dp un gd cn cs L a ccd cl outer) (call (.ref 660) [.ref st, .str pk tp, .str ck tc, .int e te, .int now tn]) Q E s := by
  refine lower ?_ hd hu
  obtain ⟨frz, n1, n2, N', sub, mem⟩ := split2 O.xs U1 U2 N
  have O' : Store w frz st S X V clk t := O.sub (fun q hq ho => sub q hq ho.1 ho.2.1)
  clear N U1 U2 sub O
  have O'' := O'
  obtain ⟨⟨dx, h1, h2, h3, h4, t1, t2, t3, t4, nn, oc, od, fd, sl, hst, hck, hdx, _, _, _⟩, _, sx, xv, lS, lX, lV⟩ := O''
  have b1 := swept_bounds (x := x) (k := pk) (t := t) (by decide) hf
  have b2 := swept_bounds (x := swept x pk t x) (k := ck) (t := t) (by decide) b1
  have b3 := ttlF_bounds (pc := (swept x pk t f pk).getD 0) (now := now) he
  have b4 := b1 pk
  have b5 := b2 ck
  clear b1 b2 hf
  revert KX; k_fill; intro KX
  refine wpAny_call ?_
  walk_at "m enter"
  k_steps
  · have hc : (swept x pk t f pk).getD 0 = 0 := by assumption
    have e1 : ttlF ((swept x pk t f pk).getD 0) now e = 0 := if_pos hc
    rw [e1] at b3
    exact ret _ _ _ _ _ _ _ _ _ _ _ _ rfl e1.symm rfl ⟨b4.1, b4.2, b3.1, b3.2, b5.1, b5.2⟩ (by assumption) (news_of (by assumption) (cons_sub (mem _ _))) (allLt_sub (mem _ _) (allLt_mem (by assumption))) (by assumption) (by assumption)
  · have hc : ¬ (swept x pk t f pk).getD 0 = 0 := by assumption
    have e1 : ttlF ((swept x pk t f pk).getD 0) now e = e - (now - e).fmod e := if_neg hc
    rw [e1] at b3
    exact ret _ _ _ _ _ _ _ _ _ _ _ _ rfl e1.symm rfl ⟨b4.1, b4.2, b3.1, b3.2, b5.1, b5.2⟩ (by assumption) (news_of (by assumption) (cons_sub (mem _ _))) (allLt_sub (mem _ _) (allLt_mem (by assumption))) (by assumption) (by assumption)
end

end

theorem said_info : True := by
  k_with "call ref" => (k_here; (with_reducible show wpAny _ _ (call (Value.ref 660) _) _ _ _); k_dflt (refine' info_spec ?zyB ?zyF ?zyX ?zyT ?zyk ?zyN ?zyO ?zyU1 ?zyU2 ?zyhS ?zyhX ?zyzS ?zyzX ?zye1 ?zye2 ?zyhf ?zyd ?zyu ?_; (case zyB => k_asm); (case zyF => k_asm); (case zyX => k_asm); (case zyT => k_asm); (case zyk => first | exact rfl | assumption); (case zyN => k_asm); (case zyO => refine' Store.sub ?zyo ?zys; (case zyo => assumption); (case zys => walk_at "m sub")); (case zyU1 => k_updF); (case zyU2 => (intro o1; (try dsimp only); k_updF)); (case zyhS => assumption); (case zyhX => assumption); (case zyzS => first | assumption | omega); (case zyzX => first | assumption | omega); (case zye1 => walk_at "m om"); (case zye2 => walk_at "m om"); (case zyhf => assumption); (case zyd => exact Nat.le_of_ble_eq_true rfl); (case zyu => exact Nat.le_of_ble_eq_true rfl); k_whole); (intro pc' ttl' cc' q' r1' r2' r3' r4' oS' oX' h' tk' ep' et' ec' eb' F' N' l1 hS' hX'; (try dsimp only at l1); (have l2 := l1); (try dsimp only [AllLt] at l2); (try dsimp only at N'); (try dsimp only); (try k_sweep)))
  trivial
section
section
variable {w : World} {p : Program} {loose : List Str} {mean : ExcName → Option Value} {mg mb : Str → Option Value} {dp un : Nat} {gd : Option (List Code)} {cn : Str} {cs : Scope} {a : Addr} {ccd : Value} {cl : List (Str × Addr)} {outer : List Env} {A₀ : Around} {base h₀ : Heap} {L : Addr} {m : Str → Option Value} {s : Shared} {Q E : Value → Shared → Prop}
  (B : Below A₀ base outer h₀) (F : Fr h₀ L s.heap m) (KX : (Mine.hd1.heap_39 w.params).In h₀) (T : Top p loose mean mg mb h₀) (hk : cs.kind = .function)
include B F KX T hk

theorem gsw_spec {news : List (Addr × Obj)} {oS oX : Obj} {g1 : Obj → List (Addr × Obj)} {g2 : Obj → Obj → List (Addr × Obj)} {f x : Str → Option Int} {nS nX : Nat} {st S X V clk : Addr} {key pk ck : Str} {tp te : Tok} {t e : Int}
    (N : News h₀ L s.heap news) (O : Store w news st S X V clk t) (U1 : UpdF S oS news g1) (U2 : ∀ o, UpdF X oX (g1 o) (g2 o))
    (hS : IntD PySem.Challenge.rw_ji0060_01.row.prog w oS f nS) (hX : IntD PySem.Challenge.rw_ji0060_01.row.prog w oX x nX) (zS : nS ≤ sizeLine) (zX : nX ≤ sizeLine) (he : 0 < e) (he2 : e < 1000000) (het : e ≤ t) (ht : t < 1000000000000) (hkl : key.length ≤ 1000)
    (epk : pk = wkey key ((t - e).fdiv e)) (eck : ck = wkey key (t.fdiv e))
    (hf : ∀ j, 0 ≤ (f j).getD 0 ∧ (f j).getD 0 ≤ 1000000) (hd : dp ≤ 840) (hu : un ≤ 8400)
    (ret : ∀ pc ttl cc q r1 r2 r3 r4 oS' oX' h' tk', pc = (swept x pk t f pk).getD 0 → ttl = ttlF pc t e → cc = (swept (swept x pk t x) ck t (swept x pk t f) ck).getD 0 →
      (0 ≤ pc ∧ pc ≤ 1000000 ∧ 0 ≤ ttl ∧ ttl ≤ e ∧ 0 ≤ cc ∧ cc ≤ 1000000) → Fr h₀ L h' m →
      News h₀ L h' ((q, { cls := .type "tuple", data := .seq #[.int pc r1, .int ttl r2, .int cc r3, .int (e - t.fmod e + e) r4] }) :: g2 oS' oX') → AllLt q (g2 oS' oX') →
      IntD PySem.Challenge.rw_ji0060_01.row.prog w oS' (swept (swept x pk t x) ck t (swept x pk t f)) nS → IntD PySem.Challenge.rw_ji0060_01.row.prog w oX' (swept (swept x pk t x) ck t (swept x pk t x)) nX → Q (.ref q) { s with heap := h', toks := tk' }) :
    wpAny (model PySem.Challenge.rw_ji0060_01.row.prog w) (ktrTop dp un gd cn cs L a ccd cl outer) (call (.ref 667) [.ref st, .str key tp, .int e te]) Q E s := by
  subst epk eck
  refine lower ?_ hd hu
  obtain ⟨frz, n1, n2, N', sub, mem⟩ := split2 O.xs U1 U2 N
  have O' : Store w frz st S X V clk t := O.sub (fun q hq ho => sub q hq ho.1 ho.2.1)
  clear N U1 U2 sub O
  have O'' := O'
  obtain ⟨⟨dx, h1, h2, h3, h4, t1, t2, t3, t4, nn, oc, od, fd, sl, hst, hck, hdx, _, _, _⟩, _, sx, xv, lS, lX, lV⟩ := O''
  revert KX; k_fill; intro KX
  refine wpAny_call ?_
  walk_at "m enter"
  k_steps
  exact ret _ _ _ _ _ _ _ _ _ _ _ _ (by assumption) (by assumption) (by assumption) (by assumption) (by assumption) (news_of (by assumption) (cons_sub fun p hp => .tail _ (.tail _ (mem _ _ p hp)))) (allLt_sub (fun p hp => .tail _ (.tail _ (mem _ _ p hp))) (allLt_mem (by assumption))) (by assumption) (by assumption)
end

end

theorem said_gsw : True := by
  k_with "call ref" => (k_here; (with_reducible show wpAny _ _ (call (Value.ref 667) _) _ _ _); k_dflt (refine' gsw_spec ?zyB ?zyF ?zyX ?zyT ?zyk ?zyN ?zyO ?zyU1 ?zyU2 ?zyhS ?zyhX ?zyzS ?zyzX ?zye1 ?zye2 ?zye3 ?zye4 ?zye5 ?zyep ?zyec ?zyhf ?zyd ?zyu ?_; (case zyB => k_asm); (case zyF => k_asm); (case zyX => k_asm); (case zyT => k_asm); (case zyk => first | exact rfl | assumption); (case zyN => k_asm); (case zyO => refine' Store.sub ?zyo ?zys; (case zyo => assumption); (case zys => walk_at "m sub")); (case zyU1 => k_updF); (case zyU2 => (intro o1; (try dsimp only); k_updF)); (case zyhS => assumption); (case zyhX => assumption); (case zyzS => first | assumption | omega); (case zyzX => first | assumption | omega); (case zye1 => walk_at "m om"); (case zye2 => walk_at "m om"); (case zye3 => walk_at "m om"); (case zye4 => walk_at "m om"); (case zye5 => walk_at "m om"); (case zyep => first | assumption | rfl); (case zyec => first | assumption | rfl); (case zyhf => assumption); (case zyd => exact Nat.le_of_ble_eq_true rfl); (case zyu => exact Nat.le_of_ble_eq_true rfl); k_whole); (intro pc' ttl' cc' q' r1' r2' r3' r4' oS' oX' h' tk' ep' et' ec' eb' F' N' l1 hS' hX'; (try dsimp only at l1); (have l2 := l1); (try dsimp only [AllLt] at l2); (try dsimp only at N'); (try dsimp only); (try k_sweep)))
  trivial
section
section
variable {w : World} {p : Program} {loose : List Str} {mean : ExcName → Option Value} {mg mb : Str → Option Value} {dp un : Nat} {gd : Option (List Code)} {cn : Str} {cs : Scope} {a : Addr} {ccd : Value} {cl : List (Str × Addr)} {outer : List Env} {A₀ : Around} {base h₀ : Heap} {L : Addr} {m : Str → Option Value} {s : Shared} {Q E : Value → Shared → Prop}
  (B : Below A₀ base outer h₀) (F : Fr h₀ L s.heap m) (KX : (Mine.hd1.heap_39 w.params).In h₀) (T : Top p loose mean mg mb h₀) (hk : cs.kind = .function)
include B F KX T hk

theorem csw_spec {news : List (Addr × Obj)} {oS oX oV : Obj} {g1 : Obj → List (Addr × Obj)} {g2 : Obj → Obj → List (Addr × Obj)} {g3 : Obj → Obj → Obj → List (Addr × Obj)} {f x : Str → Option Int} {ev : Str → Option Addr} {nS nX nV : Nat} {st S X V clk : Addr} {key : Str} {tp te : Tok} {t e : Int}
    (N : News h₀ L s.heap news) (O : Store w news st S X V clk t) (U1 : UpdF S oS news g1) (U2 : ∀ o, UpdF X oX (g1 o) (g2 o)) (U3 : ∀ o o', UpdF V oV (g2 o o') (g3 o o'))
    (hS : IntD PySem.Challenge.rw_ji0060_01.row.prog w oS f nS) (hX : IntD PySem.Challenge.rw_ji0060_01.row.prog w oX x nX) (hV : RefD PySem.Challenge.rw_ji0060_01.row.prog w oV ev nV) (zS : nS ≤ sizeLine) (zX : nX ≤ sizeLine) (zV : nV ≤ sizeLine) (he : 0 < e) (he2 : e < 1000000) (het : e ≤ t) (ht : t < 1000000000000) (hkl : key.length ≤ 1000) (hd : dp ≤ 840) (hu : un ≤ 8400)
    (ret : ∀ oS' oX' oV' h' tk', Fr h₀ L h' m → News h₀ L h' (g3 oS' oX' oV') → IntD PySem.Challenge.rw_ji0060_01.row.prog w oS' (upd (upd f (wkey key ((t - e).fdiv e)) none) (wkey key (t.fdiv e)) none) nS → IntD PySem.Challenge.rw_ji0060_01.row.prog w oX' (upd (upd x (wkey key ((t - e).fdiv e)) none) (wkey key (t.fdiv e)) none) nX → RefD PySem.Challenge.rw_ji0060_01.row.prog w oV' (upd (upd ev (wkey key ((t - e).fdiv e)) none) (wkey key (t.fdiv e)) none) nV → Q .none { s with heap := h', toks := tk' }) :
    wpAny (model PySem.Challenge.rw_ji0060_01.row.prog w) (ktrTop dp un gd cn cs L a ccd cl outer) (call (.ref 674) [.ref st, .str key tp, .int e te]) Q E s := by
  refine lower ?_ hd hu
  obtain ⟨frz, n1, n2, n3, N', sub, mem⟩ := split3 O.xs O.vs O.vx U1 U2 U3 N
  have O' : Store w frz st S X V clk t := O.sub (fun q hq ho => sub q hq ho.1 ho.2.1 ho.2.2)
  clear N U1 U2 U3 sub O
  have O'' := O'
  obtain ⟨⟨dx, h1, h2, h3, h4, t1, t2, t3, t4, nn, oc, od, fd, sl, hst, hck, hdx, _, _, _⟩, _, sx, xv, lS, lX, lV⟩ := O''
  revert KX; k_fill; intro KX
  refine wpAny_call ?_
  walk_at "m enter"
  k_steps
  exact ret _ _ _ _ _ (by assumption) (news_of (by assumption) (fun p hp => .tail _ (.tail _ (mem _ _ _ p hp)))) (by assumption) (by assumption) (by assumption)
end

end

theorem said_csw : True := by
  k_with "call ref" => (k_here; (with_reducible show wpAny _ _ (call (Value.ref 674) _) _ _ _); k_dflt (refine' csw_spec ?zyB ?zyF ?zyX ?zyT ?zyk ?zyN ?zyO ?zyU1 ?zyU2 ?zyU3 ?zyhS ?zyhX ?zyhV ?zyzS ?zyzX ?zyzV ?zye1 ?zye2 ?zye3 ?zye4 ?zye5 ?zyd ?zyu ?_; (case zyB => k_asm); (case zyF => k_asm); (case zyX => k_asm); (case zyT => k_asm); (case zyk => first | exact rfl | assumption); (case zyN => k_asm); (case zyO => refine' Store.sub ?zyo ?zys; (case zyo => assumption); (case zys => walk_at "m sub")); (case zyU1 => k_updF); (case zyU2 => (intro o1; (try dsimp only); k_updF)); (case zyhS => assumption); (case zyhX => assumption); (case zyzS => first | assumption | omega); (case zyzX => first | assumption | omega); (case zyU3 => (intro o1 o2; (try dsimp only); k_updF)); (case zyhV => assumption); (case zyzV => walk_at "m om"); (case zye1 => walk_at "m om"); (case zye2 => walk_at "m om"); (case zye3 => walk_at "m om"); (case zye4 => walk_at "m om"); (case zye5 => walk_at "m om"); (case zyd => exact Nat.le_of_ble_eq_true rfl); (case zyu => exact Nat.le_of_ble_eq_true rfl); k_whole); (intro oS' oX' oV' h' tk' F' N' hS' hX' hV'; (try dsimp only at N'); (try dsimp only); (try k_sweep)))
  trivial
section
noncomputable def pcF (f x : Str → Option Int) (pk : Str) (t : Int) : Int := (swept x pk t f pk).getD 0
noncomputable def F2 {α : Type} (f : Str → Option α) (x : Str → Option Int) (pk ck : Str) (t : Int) : Str → Option α := swept (swept x pk t x) ck t (swept x pk t f)
noncomputable def ccF (f x : Str → Option Int) (pk ck : Str) (t : Int) : Int := (F2 f x pk ck t ck).getD 0
noncomputable def wF (f x : Str → Option Int) (pk ck : Str) (t e : Int) : Int := (pcF f x pk t * ttlF (pcF f x pk t) t e).fdiv e + ccF f x pk ck t
noncomputable def AcqPost (f x : Str → Option Int) (pk ck : Str) (t e limit am : Int) (b : Bool) (f' x' : Str → Option Int) : Prop :=
  (limit < am ∧ b = false ∧ f' = f ∧ x' = x) ∨ (am ≤ limit ∧ limit < wF f x pk ck t e + am ∧ b = false ∧ f' = F2 f x pk ck t ∧ x' = F2 x x pk ck t) ∨
  (am ≤ limit ∧ wF f x pk ck t e + am ≤ limit ∧ b = true ∧ f' = incF (F2 f x pk ck t) (F2 x x pk ck t) ck t am ∧ x' = incX (F2 f x pk ck t) (F2 x x pk ck t) ck t (2 * e) am)
theorem swept_idem {α : Type} {x : Str → Option Int} {f : Str → Option α} {k : Str} {t : Int} (ht : 0 ≤ t) : swept (swept x k t x) k t (swept x k t f) = swept x k t f := by
  unfold swept
  by_cases hc : (x k).getD 0 ≤ t
  · rw [if_pos hc, if_pos hc, if_pos (by rw [upd_same]; exact ht)]
    funext j
    unfold upd
    split <;> rfl
  · rw [if_neg hc, if_neg hc, if_neg hc]
section
variable {w : World} {p : Program} {loose : List Str} {mean : ExcName → Option Value} {mg mb : Str → Option Value} {dp un : Nat} {gd : Option (List Code)} {cn : Str} {cs : Scope} {a : Addr} {ccd : Value} {cl : List (Str × Addr)} {outer : List Env} {A₀ : Around} {base h₀ : Heap} {L : Addr} {m : Str → Option Value} {s : Shared} {Q E : Value → Shared → Prop}
  (B : Below A₀ base outer h₀) (F : Fr h₀ L s.heap m) (KX : (Mine.hd1.heap_39 w.params).In h₀) (T : Top p loose mean mg mb h₀) (hk : cs.kind = .function)
include B F KX T hk

end
noncomputable def acq_spec_St (w : World) (p : Program) (loose : List Str) (mean : ExcName → Option Value) (mg : Str → Option Value) (mb : Str → Option Value) (dp : Nat) (un : Nat) (gd : Option (List Code)) (cn : Str) (cs : Scope) (a : Addr) (ccd : Value) (cl : List (Str × Addr)) (outer : List Env) (A₀ : Around) (base : Heap) (h₀ : Heap) (L : Addr) (m : Str → Option Value) (s : Shared) (Q : Value → Shared → Prop) (E : Value → Shared → Prop) (news : List (Addr × Obj)) (oS : Obj) (oX : Obj) (g1 : Obj → List (Addr × Obj)) (g2 : Obj → Obj → List (Addr × Obj)) (f : Str → Option Int) (x : Str → Option Int) (nS : Nat) (nX : Nat) (st : Addr) (S : Addr) (X : Addr) (V : Addr) (clk : Addr) (key : Str) (tp : Tok) (tl : Tok) (te : Tok) (ta : Tok) (t : Int) (e : Int) (limit : Int) (am : Int) : Prop := ∀ (pk : Str) (ck : Str) (B : Below A₀ base outer h₀) (F : Fr h₀ L s.heap m) (KX : (Mine.hd1.heap_39 w.params).In h₀) (T : Top p loose mean mg mb h₀) (hk : cs.kind = .function) (N : News h₀ L s.heap news) (O : Store w news st S X V clk t) (U1 : UpdF S oS news g1) (U2 : ∀ o, UpdF X oX (g1 o) (g2 o)) (hS : IntD PySem.Challenge.rw_ji0060_01.row.prog w oS f nS) (hX : IntD PySem.Challenge.rw_ji0060_01.row.prog w oX x nX) (zS : nS + 1 ≤ sizeLine) (zX : nX + 1 ≤ sizeLine) (he : 0 < e) (he2 : e < 1000000) (het : e ≤ t) (ht : t < 1000000000000) (hkl : key.length ≤ 1000) (epk : pk = wkey key ((t - e).fdiv e)) (eck : ck = wkey key (t.fdiv e)) (hf : ∀ j, 0 ≤ (f j).getD 0 ∧ (f j).getD 0 ≤ 1000000) (hd : dp ≤ 840) (hu : un ≤ 8400) (retH : ∀ b f' x' oS' oX' h' tk', AcqPost f x pk ck t e limit am b f' x' → Fr h₀ L h' m → News h₀ L h' (g2 oS' oX') → IntD PySem.Challenge.rw_ji0060_01.row.prog w oS' f' (nS + 1) → IntD PySem.Challenge.rw_ji0060_01.row.prog w oX' x' (nX + 1) → Q (.bool b) { s with heap := h', toks := tk' }), wpAny (model PySem.Challenge.rw_ji0060_01.row.prog w) (ktrTop dp un gd cn cs L a ccd cl outer) (call (.ref 653) [.ref st, .str key tp, .int limit tl, .int e te, .int am ta]) Q E s
namespace c_acq_spec
noncomputable def zcv : (World) × (Program) × (List Str) × (ExcName → Option Value) × (Str → Option Value) × (Str → Option Value) × (Nat) × (Nat) × (Option (List Code)) × (Str) × (Scope) × (Addr) × (Value) × (List (Str × Addr)) × (List Env) × (Around) × (Heap) × (Heap) × (Addr) × (Str → Option Value) × (Shared) × (Value → Shared → Prop) × (Value → Shared → Prop) × (List (Addr × Obj)) × (Obj) × (Obj) × (Obj → List (Addr × Obj)) × (Obj → Obj → List (Addr × Obj)) × (Str → Option Int) × (Str → Option Int) × (Nat) × (Nat) × (Addr) × (Addr) × (Addr) × (Addr) × (Addr) × (Str) × (Tok) × (Tok) × (Tok) × (Tok) × (Int) × (Int) × (Int) × (Int) := pick (neP neW (neP inferInstance (neP inferInstance (neP inferInstance (neP inferInstance (neP inferInstance (neP inferInstance (neP inferInstance (neP inferInstance (neP inferInstance (neP inferInstance (neP inferInstance (neP inferInstance (neP inferInstance (neP inferInstance (neP neA (neP inferInstance (neP inferInstance (neP inferInstance (neP inferInstance (neP neS (neP inferInstance (neP inferInstance (neP inferInstance (neP inferInstance (neP inferInstance (neP inferInstance (neP inferInstance (neP inferInstance (neP inferInstance (neP inferInstance (neP inferInstance (neP inferInstance (neP inferInstance (neP inferInstance (neP inferInstance (neP inferInstance (neP inferInstance (neP inferInstance (neP inferInstance (neP inferInstance (neP inferInstance (neP inferInstance (neP inferInstance (neP inferInstance inferInstance))))))))))))))))))))))))))))))))))))))))))))) (fun v : (World) × (Program) × (List Str) × (ExcName → Option Value) × (Str → Option Value) × (Str → Option Value) × (Nat) × (Nat) × (Option (List Code)) × (Str) × (Scope) × (Addr) × (Value) × (List (Str × Addr)) × (List Env) × (Around) × (Heap) × (Heap) × (Addr) × (Str → Option Value) × (Shared) × (Value → Shared → Prop) × (Value → Shared → Prop) × (List (Addr × Obj)) × (Obj) × (Obj) × (Obj → List (Addr × Obj)) × (Obj → Obj → List (Addr × Obj)) × (Str → Option Int) × (Str → Option Int) × (Nat) × (Nat) × (Addr) × (Addr) × (Addr) × (Addr) × (Addr) × (Str) × (Tok) × (Tok) × (Tok) × (Tok) × (Int) × (Int) × (Int) × (Int) => acq_spec_St (v.1) (v.2.1) (v.2.2.1) (v.2.2.2.1) (v.2.2.2.2.1) (v.2.2.2.2.2.1) (v.2.2.2.2.2.2.1) (v.2.2.2.2.2.2.2.1) (v.2.2.2.2.2.2.2.2.1) (v.2.2.2.2.2.2.2.2.2.1) (v.2.2.2.2.2.2.2.2.2.2.1) (v.2.2.2.2.2.2.2.2.2.2.2.1) (v.2.2.2.2.2.2.2.2.2.2.2.2.1) (v.2.2.2.2.2.2.2.2.2.2.2.2.2.1) (v.2.2.2.2.2.2.2.2.2.2.2.2.2.2.1) (v.2.2.2.2.2.2.2.2.2.2.2.2.2.2.2.1) (v.2.2.2.2.2.2.2.2.2.2.2.2.2.2.2.2.1) (v.2.2.2.2.2.2.2.2.2.2.2.2.2.2.2.2.2.1) (v.2.2.2.2.2.2.2.2.2.2.2.2.2.2.2.2.2.2.1) (v.2.2.2.2.2.2.2.2.2.2.2.2.2.2.2.2.2.2.2.1) (v.2.2.2.2.2.2.2.2.2.2.2.2.2.2.2.2.2.2.2.2.1) (v.2.2.2.2.2.2.2.2.2.2.2.2.2.2.2.2.2.2.2.2.2.1) (v.2.2.2.2.2.2.2.2.2.2.2.2.2.2.2.2.2.2.2.2.2.2.1) (v.2.2.2.2.2.2.2.2.2.2.2.2.2.2.2.2.2.2.2.2.2.2.2.1) (v.2.2.2.2.2.2.2.2.2.2.2.2.2.2.2.2.2.2.2.2.2.2.2.2.1) (v.2.2.2.2.2.2.2.2.2.2.2.2.2.2.2.2.2.2.2.2.2.2.2.2.2.1) (v.2.2.2.2.2.2.2.2.2.2.2.2.2.2.2.2.2.2.2.2.2.2.2.2.2.2.1) (v.2.2.2.2.2.2.2.2.2.2.2.2.2.2.2.2.2.2.2.2.2.2.2.2.2.2.2.1) (v.2.2.2.2.2.2.2.2.2.2.2.2.2.2.2.2.2.2.2.2.2.2.2.2.2.2.2.2.1) (v.2.2.2.2.2.2.2.2.2.2.2.2.2.2.2.2.2.2.2.2.2.2.2.2.2.2.2.2.2.1) (v.2.2.2.2.2.2.2.2.2.2.2.2.2.2.2.2.2.2.2.2.2.2.2.2.2.2.2.2.2.2.1) (v.2.2.2.2.2.2.2.2.2.2.2.2.2.2.2.2.2.2.2.2.2.2.2.2.2.2.2.2.2.2.2.1) (v.2.2.2.2.2.2.2.2.2.2.2.2.2.2.2.2.2.2.2.2.2.2.2.2.2.2.2.2.2.2.2.2.1) (v.2.2.2.2.2.2.2.2.2.2.2.2.2.2.2.2.2.2.2.2.2.2.2.2.2.2.2.2.2.2.2.2.2.1) (v.2.2.2.2.2.2.2.2.2.2.2.2.2.2.2.2.2.2.2.2.2.2.2.2.2.2.2.2.2.2.2.2.2.2.1) (v.2.2.2.2.2.2.2.2.2.2.2.2.2.2.2.2.2.2.2.2.2.2.2.2.2.2.2.2.2.2.2.2.2.2.2.1) (v.2.2.2.2.2.2.2.2.2.2.2.2.2.2.2.2.2.2.2.2.2.2.2.2.2.2.2.2.2.2.2.2.2.2.2.2.1) (v.2.2.2.2.2.2.2.2.2.2.2.2.2.2.2.2.2.2.2.2.2.2.2.2.2.2.2.2.2.2.2.2.2.2.2.2.2.1) (v.2.2.2.2.2.2.2.2.2.2.2.2.2.2.2.2.2.2.2.2.2.2.2.2.2.2.2.2.2.2.2.2.2.2.2.2.2.2.1) (v.2.2.2.2.2.2.2.2.2.2.2.2.2.2.2.2.2.2.2.2.2.2.2.2.2.2.2.2.2.2.2.2.2.2.2.2.2.2.2.1) (v.2.2.2.2.2.2.2.2.2.2.2.2.2.2.2.2.2.2.2.2.2.2.2.2.2.2.2.2.2.2.2.2.2.2.2.2.2.2.2.2.1) (v.2.2.2.2.2.2.2.2.2.2.2.2.2.2.2.2.2.2.2.2.2.2.2.2.2.2.2.2.2.2.2.2.2.2.2.2.2.2.2.2.2.1) (v.2.2.2.2.2.2.2.2.2.2.2.2.2.2.2.2.2.2.2.2.2.2.2.2.2.2.2.2.2.2.2.2.2.2.2.2.2.2.2.2.2.2.1) (v.2.2.2.2.2.2.2.2.2.2.2.2.2.2.2.2.2.2.2.2.2.2.2.2.2.2.2.2.2.2.2.2.2.2.2.2.2.2.2.2.2.2.2.1) (v.2.2.2.2.2.2.2.2.2.2.2.2.2.2.2.2.2.2.2.2.2.2.2.2.2.2.2.2.2.2.2.2.2.2.2.2.2.2.2.2.2.2.2.2.1) (v.2.2.2.2.2.2.2.2.2.2.2.2.2.2.2.2.2.2.2.2.2.2.2.2.2.2.2.2.2.2.2.2.2.2.2.2.2.2.2.2.2.2.2.2.2)) 0
theorem zal (h : acq_spec_St (zcv.1) (zcv.2.1) (zcv.2.2.1) (zcv.2.2.2.1) (zcv.2.2.2.2.1) (zcv.2.2.2.2.2.1) (zcv.2.2.2.2.2.2.1) (zcv.2.2.2.2.2.2.2.1) (zcv.2.2.2.2.2.2.2.2.1) (zcv.2.2.2.2.2.2.2.2.2.1) (zcv.2.2.2.2.2.2.2.2.2.2.1) (zcv.2.2.2.2.2.2.2.2.2.2.2.1) (zcv.2.2.2.2.2.2.2.2.2.2.2.2.1) (zcv.2.2.2.2.2.2.2.2.2.2.2.2.2.1) (zcv.2.2.2.2.2.2.2.2.2.2.2.2.2.2.1) (zcv.2.2.2.2.2.2.2.2.2.2.2.2.2.2.2.1) (zcv.2.2.2.2.2.2.2.2.2.2.2.2.2.2.2.2.1) (zcv.2.2.2.2.2.2.2.2.2.2.2.2.2.2.2.2.2.1) (zcv.2.2.2.2.2.2.2.2.2.2.2.2.2.2.2.2.2.2.1) (zcv.2.2.2.2.2.2.2.2.2.2.2.2.2.2.2.2.2.2.2.1) (zcv.2.2.2.2.2.2.2.2.2.2.2.2.2.2.2.2.2.2.2.2.1) (zcv.2.2.2.2.2.2.2.2.2.2.2.2.2.2.2.2.2.2.2.2.2.1) (zcv.2.2.2.2.2.2.2.2.2.2.2.2.2.2.2.2.2.2.2.2.2.2.1) (zcv.2.2.2.2.2.2.2.2.2.2.2.2.2.2.2.2.2.2.2.2.2.2.2.1) (zcv.2.2.2.2.2.2.2.2.2.2.2.2.2.2.2.2.2.2.2.2.2.2.2.2.1) (zcv.2.2.2.2.2.2.2.2.2.2.2.2.2.2.2.2.2.2.2.2.2.2.2.2.2.1) (zcv.2.2.2.2.2.2.2.2.2.2.2.2.2.2.2.2.2.2.2.2.2.2.2.2.2.2.1) (zcv.2.2.2.2.2.2.2.2.2.2.2.2.2.2.2.2.2.2.2.2.2.2.2.2.2.2.2.1) (zcv.2.2.2.2.2.2.2.2.2.2.2.2.2.2.2.2.2.2.2.2.2.2.2.2.2.2.2.2.1) (zcv.2.2.2.2.2.2.2.2.2.2.2.2.2.2.2.2.2.2.2.2.2.2.2.2.2.2.2.2.2.1) (zcv.2.2.2.2.2.2.2.2.2.2.2.2.2.2.2.2.2.2.2.2.2.2.2.2.2.2.2.2.2.2.1) (zcv.2.2.2.2.2.2.2.2.2.2.2.2.2.2.2.2.2.2.2.2.2.2.2.2.2.2.2.2.2.2.2.1) (zcv.2.2.2.2.2.2.2.2.2.2.2.2.2.2.2.2.2.2.2.2.2.2.2.2.2.2.2.2.2.2.2.2.1) (zcv.2.2.2.2.2.2.2.2.2.2.2.2.2.2.2.2.2.2.2.2.2.2.2.2.2.2.2.2.2.2.2.2.2.1) (zcv.2.2.2.2.2.2.2.2.2.2.2.2.2.2.2.2.2.2.2.2.2.2.2.2.2.2.2.2.2.2.2.2.2.2.1) (zcv.2.2.2.2.2.2.2.2.2.2.2.2.2.2.2.2.2.2.2.2.2.2.2.2.2.2.2.2.2.2.2.2.2.2.2.1) (zcv.2.2.2.2.2.2.2.2.2.2.2.2.2.2.2.2.2.2.2.2.2.2.2.2.2.2.2.2.2.2.2.2.2.2.2.2.1) (zcv.2.2.2.2.2.2.2.2.2.2.2.2.2.2.2.2.2.2.2.2.2.2.2.2.2.2.2.2.2.2.2.2.2.2.2.2.2.1) (zcv.2.2.2.2.2.2.2.2.2.2.2.2.2.2.2.2.2.2.2.2.2.2.2.2.2.2.2.2.2.2.2.2.2.2.2.2.2.2.1) (zcv.2.2.2.2.2.2.2.2.2.2.2.2.2.2.2.2.2.2.2.2.2.2.2.2.2.2.2.2.2.2.2.2.2.2.2.2.2.2.2.1) (zcv.2.2.2.2.2.2.2.2.2.2.2.2.2.2.2.2.2.2.2.2.2.2.2.2.2.2.2.2.2.2.2.2.2.2.2.2.2.2.2.2.1) (zcv.2.2.2.2.2.2.2.2.2.2.2.2.2.2.2.2.2.2.2.2.2.2.2.2.2.2.2.2.2.2.2.2.2.2.2.2.2.2.2.2.2.1) (zcv.2.2.2.2.2.2.2.2.2.2.2.2.2.2.2.2.2.2.2.2.2.2.2.2.2.2.2.2.2.2.2.2.2.2.2.2.2.2.2.2.2.2.1) (zcv.2.2.2.2.2.2.2.2.2.2.2.2.2.2.2.2.2.2.2.2.2.2.2.2.2.2.2.2.2.2.2.2.2.2.2.2.2.2.2.2.2.2.2.1) (zcv.2.2.2.2.2.2.2.2.2.2.2.2.2.2.2.2.2.2.2.2.2.2.2.2.2.2.2.2.2.2.2.2.2.2.2.2.2.2.2.2.2.2.2.2.1) (zcv.2.2.2.2.2.2.2.2.2.2.2.2.2.2.2.2.2.2.2.2.2.2.2.2.2.2.2.2.2.2.2.2.2.2.2.2.2.2.2.2.2.2.2.2.2)) : ∀ u : (World) × (Program) × (List Str) × (ExcName → Option Value) × (Str → Option Value) × (Str → Option Value) × (Nat) × (Nat) × (Option (List Code)) × (Str) × (Scope) × (Addr) × (Value) × (List (Str × Addr)) × (List Env) × (Around) × (Heap) × (Heap) × (Addr) × (Str → Option Value) × (Shared) × (Value → Shared → Prop) × (Value → Shared → Prop) × (List (Addr × Obj)) × (Obj) × (Obj) × (Obj → List (Addr × Obj)) × (Obj → Obj → List (Addr × Obj)) × (Str → Option Int) × (Str → Option Int) × (Nat) × (Nat) × (Addr) × (Addr) × (Addr) × (Addr) × (Addr) × (Str) × (Tok) × (Tok) × (Tok) × (Tok) × (Int) × (Int) × (Int) × (Int), acq_spec_St (u.1) (u.2.1) (u.2.2.1) (u.2.2.2.1) (u.2.2.2.2.1) (u.2.2.2.2.2.1) (u.2.2.2.2.2.2.1) (u.2.2.2.2.2.2.2.1) (u.2.2.2.2.2.2.2.2.1) (u.2.2.2.2.2.2.2.2.2.1) (u.2.2.2.2.2.2.2.2.2.2.1) (u.2.2.2.2.2.2.2.2.2.2.2.1) (u.2.2.2.2.2.2.2.2.2.2.2.2.1) (u.2.2.2.2.2.2.2.2.2.2.2.2.2.1) (u.2.2.2.2.2.2.2.2.2.2.2.2.2.2.1) (u.2.2.2.2.2.2.2.2.2.2.2.2.2.2.2.1) (u.2.2.2.2.2.2.2.2.2.2.2.2.2.2.2.2.1) (u.2.2.2.2.2.2.2.2.2.2.2.2.2.2.2.2.2.1) (u.2.2.2.2.2.2.2.2.2.2.2.2.2.2.2.2.2.2.1) (u.2.2.2.2.2.2.2.2.2.2.2.2.2.2.2.2.2.2.2.1) (u.2.2.2.2.2.2.2.2.2.2.2.2.2.2.2.2.2.2.2.2.1) (u.2.2.2.2.2.2.2.2.2.2.2.2.2.2.2.2.2.2.2.2.2.1) (u.2.2.2.2.2.2.2.2.2.2.2.2.2.2.2.2.2.2.2.2.2.2.1) (u.2.2.2.2.2.2.2.2.2.2.2.2.2.2.2.2.2.2.2.2.2.2.2.1) (u.2.2.2.2.2.2.2.2.2.2.2.2.2.2.2.2.2.2.2.2.2.2.2.2.1) (u.2.2.2.2.2.2.2.2.2.2.2.2.2.2.2.2.2.2.2.2.2.2.2.2.2.1) (u.2.2.2.2.2.2.2.2.2.2.2.2.2.2.2.2.2.2.2.2.2.2.2.2.2.2.1) (u.2.2.2.2.2.2.2.2.2.2.2.2.2.2.2.2.2.2.2.2.2.2.2.2.2.2.2.1) (u.2.2.2.2.2.2.2.2.2.2.2.2.2.2.2.2.2.2.2.2.2.2.2.2.2.2.2.2.1) (u.2.2.2.2.2.2.2.2.2.2.2.2.2.2.2.2.2.2.2.2.2.2.2.2.2.2.2.2.2.1) (u.2.2.2.2.2.2.2.2.2.2.2.2.2.2.2.2.2.2.2.2.2.2.2.2.2.2.2.2.2.2.1) (u.2.2.2.2.2.2.2.2.2.2.2.2.2.2.2.2.2.2.2.2.2.2.2.2.2.2.2.2.2.2.2.1) (u.2.2.2.2.2.2.2.2.2.2.2.2.2.2.2.2.2.2.2.2.2.2.2.2.2.2.2.2.2.2.2.2.1) (u.2.2.2.2.2.2.2.2.2.2.2.2.2.2.2.2.2.2.2.2.2.2.2.2.2.2.2.2.2.2.2.2.2.1) (u.2.2.2.2.2.2.2.2.2.2.2.2.2.2.2.2.2.2.2.2.2.2.2.2.2.2.2.2.2.2.2.2.2.2.1) (u.2.2.2.2.2.2.2.2.2.2.2.2.2.2.2.2.2.2.2.2.2.2.2.2.2.2.2.2.2.2.2.2.2.2.2.1) (u.2.2.2.2.2.2.2.2.2.2.2.2.2.2.2.2.2.2.2.2.2.2.2.2.2.2.2.2.2.2.2.2.2.2.2.2.1) (u.2.2.2.2.2.2.2.2.2.2.2.2.2.2.2.2.2.2.2.2.2.2.2.2.2.2.2.2.2.2.2.2.2.2.2.2.2.1) (u.2.2.2.2.2.2.2.2.2.2.2.2.2.2.2.2.2.2.2.2.2.2.2.2.2.2.2.2.2.2.2.2.2.2.2.2.2.2.1) (u.2.2.2.2.2.2.2.2.2.2.2.2.2.2.2.2.2.2.2.2.2.2.2.2.2.2.2.2.2.2.2.2.2.2.2.2.2.2.2.1) (u.2.2.2.2.2.2.2.2.2.2.2.2.2.2.2.2.2.2.2.2.2.2.2.2.2.2.2.2.2.2.2.2.2.2.2.2.2.2.2.2.1) (u.2.2.2.2.2.2.2.2.2.2.2.2.2.2.2.2.2.2.2.2.2.2.2.2.2.2.2.2.2.2.2.2.2.2.2.2.2.2.2.2.2.1) (u.2.2.2.2.2.2.2.2.2.2.2.2.2.2.2.2.2.2.2.2.2.2.2.2.2.2.2.2.2.2.2.2.2.2.2.2.2.2.2.2.2.2.1) (u.2.2.2.2.2.2.2.2.2.2.2.2.2.2.2.2.2.2.2.2.2.2.2.2.2.2.2.2.2.2.2.2.2.2.2.2.2.2.2.2.2.2.2.1) (u.2.2.2.2.2.2.2.2.2.2.2.2.2.2.2.2.2.2.2.2.2.2.2.2.2.2.2.2.2.2.2.2.2.2.2.2.2.2.2.2.2.2.2.2.1) (u.2.2.2.2.2.2.2.2.2.2.2.2.2.2.2.2.2.2.2.2.2.2.2.2.2.2.2.2.2.2.2.2.2.2.2.2.2.2.2.2.2.2.2.2.2) := pick_all (P := fun v : (World) × (Program) × (List Str) × (ExcName → Option Value) × (Str → Option Value) × (Str → Option Value) × (Nat) × (Nat) × (Option (List Code)) × (Str) × (Scope) × (Addr) × (Value) × (List (Str × Addr)) × (List Env) × (Around) × (Heap) × (Heap) × (Addr) × (Str → Option Value) × (Shared) × (Value → Shared → Prop) × (Value → Shared → Prop) × (List (Addr × Obj)) × (Obj) × (Obj) × (Obj → List (Addr × Obj)) × (Obj → Obj → List (Addr × Obj)) × (Str → Option Int) × (Str → Option Int) × (Nat) × (Nat) × (Addr) × (Addr) × (Addr) × (Addr) × (Addr) × (Str) × (Tok) × (Tok) × (Tok) × (Tok) × (Int) × (Int) × (Int) × (Int) => acq_spec_St (v.1) (v.2.1) (v.2.2.1) (v.2.2.2.1) (v.2.2.2.2.1) (v.2.2.2.2.2.1) (v.2.2.2.2.2.2.1) (v.2.2.2.2.2.2.2.1) (v.2.2.2.2.2.2.2.2.1) (v.2.2.2.2.2.2.2.2.2.1) (v.2.2.2.2.2.2.2.2.2.2.1) (v.2.2.2.2.2.2.2.2.2.2.2.1) (v.2.2.2.2.2.2.2.2.2.2.2.2.1) (v.2.2.2.2.2.2.2.2.2.2.2.2.2.1) (v.2.2.2.2.2.2.2.2.2.2.2.2.2.2.1) (v.2.2.2.2.2.2.2.2.2.2.2.2.2.2.2.1) (v.2.2.2.2.2.2.2.2.2.2.2.2.2.2.2.2.1) (v.2.2.2.2.2.2.2.2.2.2.2.2.2.2.2.2.2.1) (v.2.2.2.2.2.2.2.2.2.2.2.2.2.2.2.2.2.2.1) (v.2.2.2.2.2.2.2.2.2.2.2.2.2.2.2.2.2.2.2.1) (v.2.2.2.2.2.2.2.2.2.2.2.2.2.2.2.2.2.2.2.2.1) (v.2.2.2.2.2.2.2.2.2.2.2.2.2.2.2.2.2.2.2.2.2.1) (v.2.2.2.2.2.2.2.2.2.2.2.2.2.2.2.2.2.2.2.2.2.2.1) (v.2.2.2.2.2.2.2.2.2.2.2.2.2.2.2.2.2.2.2.2.2.2.2.1) (v.2.2.2.2.2.2.2.2.2.2.2.2.2.2.2.2.2.2.2.2.2.2.2.2.1) (v.2.2.2.2.2.2.2.2.2.2.2.2.2.2.2.2.2.2.2.2.2.2.2.2.2.1) (v.2.2.2.2.2.2.2.2.2.2.2.2.2.2.2.2.2.2.2.2.2.2.2.2.2.2.1) (v.2.2.2.2.2.2.2.2.2.2.2.2.2.2.2.2.2.2.2.2.2.2.2.2.2.2.2.1) (v.2.2.2.2.2.2.2.2.2.2.2.2.2.2.2.2.2.2.2.2.2.2.2.2.2.2.2.2.1) (v.2.2.2.2.2.2.2.2.2.2.2.2.2.2.2.2.2.2.2.2.2.2.2.2.2.2.2.2.2.1) (v.2.2.2.2.2.2.2.2.2.2.2.2.2.2.2.2.2.2.2.2.2.2.2.2.2.2.2.2.2.2.1) (v.2.2.2.2.2.2.2.2.2.2.2.2.2.2.2.2.2.2.2.2.2.2.2.2.2.2.2.2.2.2.2.1) (v.2.2.2.2.2.2.2.2.2.2.2.2.2.2.2.2.2.2.2.2.2.2.2.2.2.2.2.2.2.2.2.2.1) (v.2.2.2.2.2.2.2.2.2.2.2.2.2.2.2.2.2.2.2.2.2.2.2.2.2.2.2.2.2.2.2.2.2.1) (v.2.2.2.2.2.2.2.2.2.2.2.2.2.2.2.2.2.2.2.2.2.2.2.2.2.2.2.2.2.2.2.2.2.2.1) (v.2.2.2.2.2.2.2.2.2.2.2.2.2.2.2.2.2.2.2.2.2.2.2.2.2.2.2.2.2.2.2.2.2.2.2.1) (v.2.2.2.2.2.2.2.2.2.2.2.2.2.2.2.2.2.2.2.2.2.2.2.2.2.2.2.2.2.2.2.2.2.2.2.2.1) (v.2.2.2.2.2.2.2.2.2.2.2.2.2.2.2.2.2.2.2.2.2.2.2.2.2.2.2.2.2.2.2.2.2.2.2.2.2.1) (v.2.2.2.2.2.2.2.2.2.2.2.2.2.2.2.2.2.2.2.2.2.2.2.2.2.2.2.2.2.2.2.2.2.2.2.2.2.2.1) (v.2.2.2.2.2.2.2.2.2.2.2.2.2.2.2.2.2.2.2.2.2.2.2.2.2.2.2.2.2.2.2.2.2.2.2.2.2.2.2.1) (v.2.2.2.2.2.2.2.2.2.2.2.2.2.2.2.2.2.2.2.2.2.2.2.2.2.2.2.2.2.2.2.2.2.2.2.2.2.2.2.2.1) (v.2.2.2.2.2.2.2.2.2.2.2.2.2.2.2.2.2.2.2.2.2.2.2.2.2.2.2.2.2.2.2.2.2.2.2.2.2.2.2.2.2.1) (v.2.2.2.2.2.2.2.2.2.2.2.2.2.2.2.2.2.2.2.2.2.2.2.2.2.2.2.2.2.2.2.2.2.2.2.2.2.2.2.2.2.2.1) (v.2.2.2.2.2.2.2.2.2.2.2.2.2.2.2.2.2.2.2.2.2.2.2.2.2.2.2.2.2.2.2.2.2.2.2.2.2.2.2.2.2.2.2.1) (v.2.2.2.2.2.2.2.2.2.2.2.2.2.2.2.2.2.2.2.2.2.2.2.2.2.2.2.2.2.2.2.2.2.2.2.2.2.2.2.2.2.2.2.2.1) (v.2.2.2.2.2.2.2.2.2.2.2.2.2.2.2.2.2.2.2.2.2.2.2.2.2.2.2.2.2.2.2.2.2.2.2.2.2.2.2.2.2.2.2.2.2)) h
noncomputable def w : World := zcv.1
noncomputable def p : Program := zcv.2.1
noncomputable def loose : List Str := zcv.2.2.1
noncomputable def mean : ExcName → Option Value := zcv.2.2.2.1
noncomputable def mg : Str → Option Value := zcv.2.2.2.2.1
noncomputable def mb : Str → Option Value := zcv.2.2.2.2.2.1
noncomputable def dp : Nat := zcv.2.2.2.2.2.2.1
noncomputable def un : Nat := zcv.2.2.2.2.2.2.2.1
noncomputable def gd : Option (List Code) := zcv.2.2.2.2.2.2.2.2.1
noncomputable def cn : Str := zcv.2.2.2.2.2.2.2.2.2.1
noncomputable def cs : Scope := zcv.2.2.2.2.2.2.2.2.2.2.1
noncomputable def a : Addr := zcv.2.2.2.2.2.2.2.2.2.2.2.1
noncomputable def ccd : Value := zcv.2.2.2.2.2.2.2.2.2.2.2.2.1
noncomputable def cl : List (Str × Addr) := zcv.2.2.2.2.2.2.2.2.2.2.2.2.2.1
noncomputable def outer : List Env := zcv.2.2.2.2.2.2.2.2.2.2.2.2.2.2.1
noncomputable def A₀ : Around := zcv.2.2.2.2.2.2.2.2.2.2.2.2.2.2.2.1
noncomputable def base : Heap := zcv.2.2.2.2.2.2.2.2.2.2.2.2.2.2.2.2.1
noncomputable def h₀ : Heap := zcv.2.2.2.2.2.2.2.2.2.2.2.2.2.2.2.2.2.1
noncomputable def L : Addr := zcv.2.2.2.2.2.2.2.2.2.2.2.2.2.2.2.2.2.2.1
noncomputable def m : Str → Option Value := zcv.2.2.2.2.2.2.2.2.2.2.2.2.2.2.2.2.2.2.2.1
noncomputable def s : Shared := zcv.2.2.2.2.2.2.2.2.2.2.2.2.2.2.2.2.2.2.2.2.1
noncomputable def Q : Value → Shared → Prop := zcv.2.2.2.2.2.2.2.2.2.2.2.2.2.2.2.2.2.2.2.2.2.1
noncomputable def E : Value → Shared → Prop := zcv.2.2.2.2.2.2.2.2.2.2.2.2.2.2.2.2.2.2.2.2.2.2.1
noncomputable def news : List (Addr × Obj) := zcv.2.2.2.2.2.2.2.2.2.2.2.2.2.2.2.2.2.2.2.2.2.2.2.1
noncomputable def oS : Obj := zcv.2.2.2.2.2.2.2.2.2.2.2.2.2.2.2.2.2.2.2.2.2.2.2.2.1
noncomputable def oX : Obj := zcv.2.2.2.2.2.2.2.2.2.2.2.2.2.2.2.2.2.2.2.2.2.2.2.2.2.1
noncomputable def g1 : Obj → List (Addr × Obj) := zcv.2.2.2.2.2.2.2.2.2.2.2.2.2.2.2.2.2.2.2.2.2.2.2.2.2.2.1
noncomputable def g2 : Obj → Obj → List (Addr × Obj) := zcv.2.2.2.2.2.2.2.2.2.2.2.2.2.2.2.2.2.2.2.2.2.2.2.2.2.2.2.1
noncomputable def f : Str → Option Int := zcv.2.2.2.2.2.2.2.2.2.2.2.2.2.2.2.2.2.2.2.2.2.2.2.2.2.2.2.2.1
noncomputable def x : Str → Option Int := zcv.2.2.2.2.2.2.2.2.2.2.2.2.2.2.2.2.2.2.2.2.2.2.2.2.2.2.2.2.2.1
noncomputable def nS : Nat := zcv.2.2.2.2.2.2.2.2.2.2.2.2.2.2.2.2.2.2.2.2.2.2.2.2.2.2.2.2.2.2.1
noncomputable def nX : Nat := zcv.2.2.2.2.2.2.2.2.2.2.2.2.2.2.2.2.2.2.2.2.2.2.2.2.2.2.2.2.2.2.2.1
noncomputable def st : Addr := zcv.2.2.2.2.2.2.2.2.2.2.2.2.2.2.2.2.2.2.2.2.2.2.2.2.2.2.2.2.2.2.2.2.1
noncomputable def S : Addr := zcv.2.2.2.2.2.2.2.2.2.2.2.2.2.2.2.2.2.2.2.2.2.2.2.2.2.2.2.2.2.2.2.2.2.1
noncomputable def X : Addr := zcv.2.2.2.2.2.2.2.2.2.2.2.2.2.2.2.2.2.2.2.2.2.2.2.2.2.2.2.2.2.2.2.2.2.2.1
noncomputable def V : Addr := zcv.2.2.2.2.2.2.2.2.2.2.2.2.2.2.2.2.2.2.2.2.2.2.2.2.2.2.2.2.2.2.2.2.2.2.2.1
noncomputable def clk : Addr := zcv.2.2.2.2.2.2.2.2.2.2.2.2.2.2.2.2.2.2.2.2.2.2.2.2.2.2.2.2.2.2.2.2.2.2.2.2.1
noncomputable def key : Str := zcv.2.2.2.2.2.2.2.2.2.2.2.2.2.2.2.2.2.2.2.2.2.2.2.2.2.2.2.2.2.2.2.2.2.2.2.2.2.1
noncomputable def tp : Tok := zcv.2.2.2.2.2.2.2.2.2.2.2.2.2.2.2.2.2.2.2.2.2.2.2.2.2.2.2.2.2.2.2.2.2.2.2.2.2.2.1
noncomputable def tl : Tok := zcv.2.2.2.2.2.2.2.2.2.2.2.2.2.2.2.2.2.2.2.2.2.2.2.2.2.2.2.2.2.2.2.2.2.2.2.2.2.2.2.1
noncomputable def te : Tok := zcv.2.2.2.2.2.2.2.2.2.2.2.2.2.2.2.2.2.2.2.2.2.2.2.2.2.2.2.2.2.2.2.2.2.2.2.2.2.2.2.2.1
noncomputable def ta : Tok := zcv.2.2.2.2.2.2.2.2.2.2.2.2.2.2.2.2.2.2.2.2.2.2.2.2.2.2.2.2.2.2.2.2.2.2.2.2.2.2.2.2.2.1
noncomputable def t : Int := zcv.2.2.2.2.2.2.2.2.2.2.2.2.2.2.2.2.2.2.2.2.2.2.2.2.2.2.2.2.2.2.2.2.2.2.2.2.2.2.2.2.2.2.1
noncomputable def e : Int := zcv.2.2.2.2.2.2.2.2.2.2.2.2.2.2.2.2.2.2.2.2.2.2.2.2.2.2.2.2.2.2.2.2.2.2.2.2.2.2.2.2.2.2.2.1
noncomputable def limit : Int := zcv.2.2.2.2.2.2.2.2.2.2.2.2.2.2.2.2.2.2.2.2.2.2.2.2.2.2.2.2.2.2.2.2.2.2.2.2.2.2.2.2.2.2.2.2.1
noncomputable def am : Int := zcv.2.2.2.2.2.2.2.2.2.2.2.2.2.2.2.2.2.2.2.2.2.2.2.2.2.2.2.2.2.2.2.2.2.2.2.2.2.2.2.2.2.2.2.2.2
noncomputable def zst2 : {P : ((List (Addr × Obj)) → (Addr) → (Int) → (Int) → (Int) → (Int) → (Tok) → (Tok) → (Tok) → (Tok) → (Nat) → (Value) → (Option Addr) → (FuncData) → (Array (Option Value)) → (Heap) → (Addr) → (Heap) → Prop) // Hid (∀ (frz : List (Addr × Obj)) (dx : Addr) (h1 : Int) (h2 : Int) (h3 : Int) (h4 : Int) (t1 : Tok) (t2 : Tok) (t3 : Tok) (t4 : Tok) (nn : Nat) (oc : Value) (od : Option Addr) (fd : FuncData) (sl : Array (Option Value)) (g' : Heap) (L' : Addr) (h' : Heap), P frz dx h1 h2 h3 h4 t1 t2 t3 t4 nn oc od fd sl g' L' h') → acq_spec_St w p loose mean mg mb dp un gd cn cs a ccd cl outer A₀ base h₀ L m s Q E news oS oX g1 g2 f x nS nX st S X V clk key tp tl te ta t e limit am} := by
  refine' ⟨_, fun HH1 => _⟩
  rotate_left 
  focus
    intro pk ck B F KX T hk N O U1 U2 hS hX zS zX he he2 het ht hkl epk eck hf hd hu retH
    subst epk eck
    refine lower ?_ hd hu
    obtain ⟨frz, n1, n2, N', sub, mem⟩ := split2 O.xs U1 U2 N
    have O' : Store w frz st S X V clk t := O.sub (fun q hq ho => sub q hq ho.1 ho.2.1)
    clear N U1 U2 sub O
    have O'' := O'
    obtain ⟨⟨dx, h1, h2, h3, h4, t1, t2, t3, t4, nn, oc, od, fd, sl, hst, hck, hdx, _, _, _⟩, _, sx, xv, lS, lX, lV⟩ := O''
    have ht0 : 0 ≤ t := by omega
    have hid := congrFun (swept_idem (x := swept x (wkey key ((t - e).fdiv e)) t x) (f := swept x (wkey key ((t - e).fdiv e)) t f) (k := wkey key (t.fdiv e)) ht0) (wkey key (t.fdiv e))
    have hid2 := congrArg (fun o : Option Int => o.getD 0) hid
    clear hid
    revert KX; k_fill; intro KX
    refine wpAny_call ?_
    walk_at "m enter"
    rename_i zi1 zi2 zi3 zi4 zi5
    revert B F T hk hS hX zS zX he he2 het ht hkl hf hd hu retH n1 n2 zi1 mem O' zi2 sx xv lS lX lV hst hck hdx zi3 zi4 zi5 ht0 hid2 KX FG' F' N' B' X' T' qk ek
    exact Hid.out HH1 frz dx h1 h2 h3 h4 t1 t2 t3 t4 nn oc od fd sl g' L' h'
namespace k1
noncomputable def zcv : (List (Addr × Obj)) × (Addr) × (Int) × (Int) × (Int) × (Int) × (Tok) × (Tok) × (Tok) × (Tok) × (Nat) × (Value) × (Option Addr) × (FuncData) × (Array (Option Value)) × (Heap) × (Addr) × (Heap) := pick (neP inferInstance (neP inferInstance (neP inferInstance (neP inferInstance (neP inferInstance (neP inferInstance (neP inferInstance (neP inferInstance (neP inferInstance (neP inferInstance (neP inferInstance (neP inferInstance (neP inferInstance (neP inferInstance (neP inferInstance (neP inferInstance (neP inferInstance inferInstance))))))))))))))))) (fun v : (List (Addr × Obj)) × (Addr) × (Int) × (Int) × (Int) × (Int) × (Tok) × (Tok) × (Tok) × (Tok) × (Nat) × (Value) × (Option Addr) × (FuncData) × (Array (Option Value)) × (Heap) × (Addr) × (Heap) => zst2.1 (v.1) (v.2.1) (v.2.2.1) (v.2.2.2.1) (v.2.2.2.2.1) (v.2.2.2.2.2.1) (v.2.2.2.2.2.2.1) (v.2.2.2.2.2.2.2.1) (v.2.2.2.2.2.2.2.2.1) (v.2.2.2.2.2.2.2.2.2.1) (v.2.2.2.2.2.2.2.2.2.2.1) (v.2.2.2.2.2.2.2.2.2.2.2.1) (v.2.2.2.2.2.2.2.2.2.2.2.2.1) (v.2.2.2.2.2.2.2.2.2.2.2.2.2.1) (v.2.2.2.2.2.2.2.2.2.2.2.2.2.2.1) (v.2.2.2.2.2.2.2.2.2.2.2.2.2.2.2.1) (v.2.2.2.2.2.2.2.2.2.2.2.2.2.2.2.2.1) (v.2.2.2.2.2.2.2.2.2.2.2.2.2.2.2.2.2)) 0
theorem zal (h : zst2.1 (zcv.1) (zcv.2.1) (zcv.2.2.1) (zcv.2.2.2.1) (zcv.2.2.2.2.1) (zcv.2.2.2.2.2.1) (zcv.2.2.2.2.2.2.1) (zcv.2.2.2.2.2.2.2.1) (zcv.2.2.2.2.2.2.2.2.1) (zcv.2.2.2.2.2.2.2.2.2.1) (zcv.2.2.2.2.2.2.2.2.2.2.1) (zcv.2.2.2.2.2.2.2.2.2.2.2.1) (zcv.2.2.2.2.2.2.2.2.2.2.2.2.1) (zcv.2.2.2.2.2.2.2.2.2.2.2.2.2.1) (zcv.2.2.2.2.2.2.2.2.2.2.2.2.2.2.1) (zcv.2.2.2.2.2.2.2.2.2.2.2.2.2.2.2.1) (zcv.2.2.2.2.2.2.2.2.2.2.2.2.2.2.2.2.1) (zcv.2.2.2.2.2.2.2.2.2.2.2.2.2.2.2.2.2)) : ∀ u : (List (Addr × Obj)) × (Addr) × (Int) × (Int) × (Int) × (Int) × (Tok) × (Tok) × (Tok) × (Tok) × (Nat) × (Value) × (Option Addr) × (FuncData) × (Array (Option Value)) × (Heap) × (Addr) × (Heap), zst2.1 (u.1) (u.2.1) (u.2.2.1) (u.2.2.2.1) (u.2.2.2.2.1) (u.2.2.2.2.2.1) (u.2.2.2.2.2.2.1) (u.2.2.2.2.2.2.2.1) (u.2.2.2.2.2.2.2.2.1) (u.2.2.2.2.2.2.2.2.2.1) (u.2.2.2.2.2.2.2.2.2.2.1) (u.2.2.2.2.2.2.2.2.2.2.2.1) (u.2.2.2.2.2.2.2.2.2.2.2.2.1) (u.2.2.2.2.2.2.2.2.2.2.2.2.2.1) (u.2.2.2.2.2.2.2.2.2.2.2.2.2.2.1) (u.2.2.2.2.2.2.2.2.2.2.2.2.2.2.2.1) (u.2.2.2.2.2.2.2.2.2.2.2.2.2.2.2.2.1) (u.2.2.2.2.2.2.2.2.2.2.2.2.2.2.2.2.2) := pick_all (P := fun v : (List (Addr × Obj)) × (Addr) × (Int) × (Int) × (Int) × (Int) × (Tok) × (Tok) × (Tok) × (Tok) × (Nat) × (Value) × (Option Addr) × (FuncData) × (Array (Option Value)) × (Heap) × (Addr) × (Heap) => zst2.1 (v.1) (v.2.1) (v.2.2.1) (v.2.2.2.1) (v.2.2.2.2.1) (v.2.2.2.2.2.1) (v.2.2.2.2.2.2.1) (v.2.2.2.2.2.2.2.1) (v.2.2.2.2.2.2.2.2.1) (v.2.2.2.2.2.2.2.2.2.1) (v.2.2.2.2.2.2.2.2.2.2.1) (v.2.2.2.2.2.2.2.2.2.2.2.1) (v.2.2.2.2.2.2.2.2.2.2.2.2.1) (v.2.2.2.2.2.2.2.2.2.2.2.2.2.1) (v.2.2.2.2.2.2.2.2.2.2.2.2.2.2.1) (v.2.2.2.2.2.2.2.2.2.2.2.2.2.2.2.1) (v.2.2.2.2.2.2.2.2.2.2.2.2.2.2.2.2.1) (v.2.2.2.2.2.2.2.2.2.2.2.2.2.2.2.2.2)) h
noncomputable def frz : List (Addr × Obj) := zcv.1
noncomputable def dx : Addr := zcv.2.1
noncomputable def h1 : Int := zcv.2.2.1
noncomputable def h2 : Int := zcv.2.2.2.1
noncomputable def h3 : Int := zcv.2.2.2.2.1
noncomputable def h4 : Int := zcv.2.2.2.2.2.1
noncomputable def t1 : Tok := zcv.2.2.2.2.2.2.1
noncomputable def t2 : Tok := zcv.2.2.2.2.2.2.2.1
noncomputable def t3 : Tok := zcv.2.2.2.2.2.2.2.2.1
noncomputable def t4 : Tok := zcv.2.2.2.2.2.2.2.2.2.1
noncomputable def nn : Nat := zcv.2.2.2.2.2.2.2.2.2.2.1
noncomputable def oc : Value := zcv.2.2.2.2.2.2.2.2.2.2.2.1
noncomputable def od : Option Addr := zcv.2.2.2.2.2.2.2.2.2.2.2.2.1
noncomputable def fd : FuncData := zcv.2.2.2.2.2.2.2.2.2.2.2.2.2.1
noncomputable def sl : Array (Option Value) := zcv.2.2.2.2.2.2.2.2.2.2.2.2.2.2.1
noncomputable def g' : Heap := zcv.2.2.2.2.2.2.2.2.2.2.2.2.2.2.2.1
noncomputable def L' : Addr := zcv.2.2.2.2.2.2.2.2.2.2.2.2.2.2.2.2.1
noncomputable def h' : Heap := zcv.2.2.2.2.2.2.2.2.2.2.2.2.2.2.2.2.2
theorem walk3 : zst2.1 frz dx h1 h2 h3 h4 t1 t2 t3 t4 nn oc od fd sl g' L' h' := by
  intro B F T hk hS hX zS zX he he2 het ht hkl hf hd hu retH n1 n2 zi1 mem O' zi2 sx xv lS lX lV hst hck hdx zi3 zi4 zi5 ht0 hid2 KX FG' F' N' B' X' T' qk ek
  k_steps
  · exact retH _ _ _ _ _ _ _ (Or.inl ⟨by assumption, rfl, rfl, rfl⟩) (by assumption) (news_of (by assumption) (mem _ _)) (DictV.mono (by assumption) (Nat.le_succ _)) (DictV.mono (by assumption) (Nat.le_succ _))
  · subst_vars
    exact retH _ _ _ _ _ _ _ (Or.inr (Or.inl ⟨Int.not_lt.mp (by assumption), by assumption, rfl, rfl, rfl⟩)) (by assumption) (news_of (by assumption) (fun p hp => .tail _ (.tail _ (.tail _ (mem _ _ p hp))))) (DictV.mono (by assumption) (Nat.le_succ _)) (DictV.mono (by assumption) (Nat.le_succ _))
  · subst_vars
    exact retH _ _ _ _ _ _ _ (Or.inr (Or.inr ⟨Int.not_lt.mp (by assumption), Int.not_lt.mp (by assumption), rfl, rfl, rfl⟩)) (by assumption) (news_of (by assumption) (fun p hp => .tail _ (.tail _ (.tail _ (mem _ _ p hp))))) (by assumption) (by assumption)
end k1
theorem up4 : acq_spec_St w p loose mean mg mb dp un gd cn cs a ccd cl outer A₀ base h₀ L m s Q E news oS oX g1 g2 f x nS nX st S X V clk key tp tl te ta t e limit am := zst2.2 (fun frz dx h1 h2 h3 h4 t1 t2 t3 t4 nn oc od fd sl g' L' h' => k1.zal k1.walk3 (frz, dx, h1, h2, h3, h4, t1, t2, t3, t4, nn, oc, od, fd, sl, g', L', h'))
end c_acq_spec
theorem acq_spec {w : World} {p : Program} {loose : List Str} {mean : ExcName → Option Value} {mg : Str → Option Value} {mb : Str → Option Value} {dp : Nat} {un : Nat} {gd : Option (List Code)} {cn : Str} {cs : Scope} {a : Addr} {ccd : Value} {cl : List (Str × Addr)} {outer : List Env} {A₀ : Around} {base : Heap} {h₀ : Heap} {L : Addr} {m : Str → Option Value} {s : Shared} {Q : Value → Shared → Prop} {E : Value → Shared → Prop} (B : Below A₀ base outer h₀) (F : Fr h₀ L s.heap m) (KX : (Mine.hd1.heap_39 w.params).In h₀) (T : Top p loose mean mg mb h₀) (hk : cs.kind = .function) {news : List (Addr × Obj)} {oS : Obj} {oX : Obj} {g1 : Obj → List (Addr × Obj)} {g2 : Obj → Obj → List (Addr × Obj)} {f : Str → Option Int} {x : Str → Option Int} {nS : Nat} {nX : Nat} {st : Addr} {S : Addr} {X : Addr} {V : Addr} {clk : Addr} {key : Str} {pk : Str} {ck : Str} {tp : Tok} {tl : Tok} {te : Tok} {ta : Tok} {t : Int} {e : Int} {limit : Int} {am : Int} (N : News h₀ L s.heap news) (O : Store w news st S X V clk t) (U1 : UpdF S oS news g1) (U2 : ∀ o, UpdF X oX (g1 o) (g2 o)) (hS : IntD PySem.Challenge.rw_ji0060_01.row.prog w oS f nS) (hX : IntD PySem.Challenge.rw_ji0060_01.row.prog w oX x nX) (zS : nS + 1 ≤ sizeLine) (zX : nX + 1 ≤ sizeLine) (he : 0 < e) (he2 : e < 1000000) (het : e ≤ t) (ht : t < 1000000000000) (hkl : key.length ≤ 1000) (epk : pk = wkey key ((t - e).fdiv e)) (eck : ck = wkey key (t.fdiv e)) (hf : ∀ j, 0 ≤ (f j).getD 0 ∧ (f j).getD 0 ≤ 1000000) (hd : dp ≤ 840) (hu : un ≤ 8400) (retH : ∀ b f' x' oS' oX' h' tk', AcqPost f x pk ck t e limit am b f' x' → Fr h₀ L h' m → News h₀ L h' (g2 oS' oX') → IntD PySem.Challenge.rw_ji0060_01.row.prog w oS' f' (nS + 1) → IntD PySem.Challenge.rw_ji0060_01.row.prog w oX' x' (nX + 1) → Q (.bool b) { s with heap := h', toks := tk' }) :
    wpAny (model PySem.Challenge.rw_ji0060_01.row.prog w) (ktrTop dp un gd cn cs L a ccd cl outer) (call (.ref 653) [.ref st, .str key tp, .int limit tl, .int e te, .int am ta]) Q E s :=
  c_acq_spec.zal c_acq_spec.up4 (w, p, loose, mean, mg, mb, dp, un, gd, cn, cs, a, ccd, cl, outer, A₀, base, h₀, L, m, s, Q, E, news, oS, oX, g1, g2, f, x, nS, nX, st, S, X, V, clk, key, tp, tl, te, ta, t, e, limit, am) _ _ B F KX T hk N O U1 U2 hS hX zS zX he he2 het ht hkl epk eck hf hd hu retH
section
variable {w : World} {p : Program} {loose : List Str} {mean : ExcName → Option Value} {mg mb : Str → Option Value} {dp un : Nat} {gd : Option (List Code)} {cn : Str} {cs : Scope} {a : Addr} {ccd : Value} {cl : List (Str × Addr)} {outer : List Env} {A₀ : Around} {base h₀ : Heap} {L : Addr} {m : Str → Option Value} {s : Shared} {Q E : Value → Shared → Prop}
  (B : Below A₀ base outer h₀) (F : Fr h₀ L s.heap m) (KX : (Mine.hd1.heap_39 w.params).In h₀) (T : Top p loose mean mg mb h₀) (hk : cs.kind = .function)
include B F KX T hk
end

end

theorem said_acq : True := by
  k_with "call ref" => (k_here; (with_reducible show wpAny _ _ (call (Value.ref 653) _) _ _ _); k_dflt (refine' acq_spec ?zyB ?zyF ?zyX ?zyT ?zyk ?zyN ?zyO ?zyU1 ?zyU2 ?zyhS ?zyhX ?zyzS ?zyzX ?zye1 ?zye2 ?zye3 ?zye4 ?zye5 ?zyep ?zyec ?zyhf ?zyd ?zyu ?_; (case zyB => k_asm); (case zyF => k_asm); (case zyX => k_asm); (case zyT => k_asm); (case zyk => first | exact rfl | assumption); (case zyN => k_asm); (case zyO => refine' Store.sub ?zyo ?zys; (case zyo => assumption); (case zys => walk_at "m sub")); (case zyU1 => k_updF); (case zyU2 => (intro o1; (try dsimp only); k_updF)); (case zyhS => assumption); (case zyhX => assumption); (case zyzS => first | assumption | omega); (case zyzX => first | assumption | omega); (case zye1 => walk_at "m om"); (case zye2 => walk_at "m om"); (case zye3 => walk_at "m om"); (case zye4 => walk_at "m om"); (case zye5 => walk_at "m om"); (case zyep => first | assumption | rfl); (case zyec => first | assumption | rfl); (case zyhf => assumption); (case zyd => exact Nat.le_of_ble_eq_true rfl); (case zyu => exact Nat.le_of_ble_eq_true rfl); k_whole); (intro b' f' x' oS' oX' h' tk' ap' F' N' hS' hX'; (try dsimp only at N'); (try dsimp only); (try k_sweep)))
  trivial
section
noncomputable abbrev entDict (h1 h2 : Int) (t1 t2 ta tx : Tok) (a x : Int) (n : Nat) : Obj := dictOf [⟨h1, .str (Str.ofString "atime") t1, .int a ta⟩, ⟨h2, .str (Str.ofString "expiry") t2, .int x tx⟩] n
/-- an entry: when, and till when -/
noncomputable def EntAt (news : List (Addr × Obj)) (S X V : Addr) (v : Value) (en : Int × Int) : Prop :=
  ∃ e d h1 h2 t1 t2 ta tx n, v = .ref e ∧ (e, instObj 568 d) ∈ news ∧ (d, entDict h1 h2 t1 t2 ta tx en.1 en.2 n) ∈ news ∧ Off S X V e ∧ Off S X V d
inductive Ents (news : List (Addr × Obj)) (S X V : Addr) : List Value → List (Int × Int) → Prop
  | nil : Ents news S X V [] []
  | cons {v : Value} {en : Int × Int} {vs : List Value} {ens : List (Int × Int)} : EntAt news S X V v en → Ents news S X V vs ens → Ents news S X V (v :: vs) (en :: ens)
section
variable {news news' : List (Addr × Obj)} {S X V : Addr} {vs us : List Value} {ens ems : List (Int × Int)}
theorem EntAt.sub {v : Value} {en : Int × Int} (h : EntAt news S X V v en) (hs : ∀ q ∈ news, Off S X V q.1 → q ∈ news') : EntAt news' S X V v en := by
  obtain ⟨e, d, h1, h2, t1, t2, ta, tx, n, hv, m1, m2, o1, o2⟩ := h
  exact ⟨e, d, h1, h2, t1, t2, ta, tx, n, hv, hs _ m1 o1, hs _ m2 o2, o1, o2⟩
theorem Ents.sub (h : Ents news S X V vs ens) (hs : ∀ q ∈ news, Off S X V q.1 → q ∈ news') : Ents news' S X V vs ens := by
  induction h with
  | nil => exact .nil
  | cons a _ ih => exact .cons (a.sub hs) ih
theorem Ents.len (h : Ents news S X V vs ens) : vs.length = ens.length := by
  induction h with
  | nil => rfl
  | cons _ _ ih => simp [ih]
theorem Ents.app (h : Ents news S X V vs ens) (g : Ents news S X V us ems) : Ents news S X V (vs ++ us) (ens ++ ems) := by
  induction h with
  | nil => exact g
  | cons a _ ih => exact .cons a ih
theorem Ents.rep {v : Value} {en : Int × Int} (h : EntAt news S X V v en) : ∀ n, Ents news S X V (List.replicate n v) (List.replicate n en)
  | 0 => .nil
  | n + 1 => .cons h (Ents.rep h n)
theorem Ents.take (h : Ents news S X V vs ens) : ∀ n, Ents news S X V (vs.take n) (ens.take n) := by
  induction h with
  | nil => intro n; rw [List.take_nil, List.take_nil]; exact .nil
  | cons a _ ih => intro n; cases n with
    | zero => exact .nil
    | succ n => exact .cons a (ih n)
theorem Ents.get (h : Ents news S X V vs ens) : ∀ {i : Nat} {v : Value}, vs[i]? = some v → ∃ en, ens[i]? = some en ∧ EntAt news S X V v en := by
  induction h with
  | nil => intro i v e; simp at e
  | cons a _ ih => intro i v e; cases i with
    | zero => simp at e; subst e; exact ⟨_, rfl, a⟩
    | succ i => exact ih (by simpa using e)
noncomputable def EvK (news : List (Addr × Obj)) (S X V : Addr) (z : Nat) : Option Addr → Option (List (Int × Int)) → Prop
  | some l, some ens => ∃ vs n, (l, listOf vs.toArray n) ∈ news ∧ Ents news S X V vs ens ∧ Off S X V l ∧ vs.length ≤ z
  | none, none => True
  | _, _ => False
theorem EvK.sub {z : Nat} {a : Option Addr} {b : Option (List (Int × Int))} (h : EvK news S X V z a b) (hs : ∀ q ∈ news, Off S X V q.1 → q ∈ news') : EvK news' S X V z a b := by
  cases a <;> cases b <;> try exact h
  obtain ⟨vs, n, m, e, o, l⟩ := h
  exact ⟨vs, n, hs _ m o, e.sub hs, o, l⟩
theorem EvK.mono {z z' : Nat} {a : Option Addr} {b : Option (List (Int × Int))} (h : EvK news S X V z a b) (hz : z ≤ z') : EvK news S X V z' a b := by
  cases a <;> cases b <;> try exact h
  obtain ⟨vs, n, m, e, o, l⟩ := h
  exact ⟨vs, n, m, e, o, Nat.le_trans l hz⟩
end
/-- the table of events: for each key a list of entries -/
noncomputable def EvD (prog : Program) (w : World) (news : List (Addr × Obj)) (S X V : Addr) (oV : Obj) (evs : Str → Option (List (Int × Int))) (nV z : Nat) : Prop :=
  ∃ ev, RefD prog w oV ev nV ∧ ∀ k, EvK news S X V z (ev k) (evs k)
noncomputable def AenPost (evs : Str → Option (List (Int × Int))) (key : Str) (t e limit am : Int) (b : Bool) (evs' : Str → Option (List (Int × Int))) : Prop :=
  (limit < am ∧ b = false ∧ evs' = evs) ∨ (am ≤ limit ∧ (∃ en, ((evs key).getD [])[(limit - am).toNat]? = some en ∧ t - e ≤ en.1) ∧ b = false ∧ evs' = upd evs key (some ((evs key).getD []))) ∨
  (am ≤ limit ∧ (∀ en, ((evs key).getD [])[(limit - am).toNat]? = some en → en.1 < t - e) ∧ b = true ∧ evs' = upd evs key (some (List.replicate am.toNat (t, t + e) ++ (evs key).getD [])))
section
variable {prog : Program} {w : World} {A : Around} {E : Value → Shared → Prop} {s : Shared} {h₀ : Heap} {L d : Addr} {m : Str → Option Value} {news : List (Addr × Obj)} {g : Obj → List (Addr × Obj)} {o : Obj} {f : Str → Option Addr} {n : Nat} {k : Str} {tk : Tok}
theorem rv_setdefault_new {l : Addr} {Q : Value → Shared → Prop} (F : Fr h₀ L s.heap m) (N : News h₀ L s.heap news) (U : UpdF d o news g) (hd : RefD prog w o f n) (lo : (d == sysModules) = false) (hz : n ≤ sizeLine) (hk : f k = none)
    (h : ∀ h' o', Fr h₀ L h' m → News h₀ L h' (g o') → RefD prog w o' (upd f k (some l)) (n + 1) → Q (.ref l) { s with heap := h', toks := s.toks + 1 }) :
    wpAny (model prog w) A (call (.builtin "dict.setdefault") [.ref d, .str k tk, .ref l]) Q E s := by
  refine dv_setdefault F N U hd lo hz (x := l) rfl fun v h' o' F' N' pv hd' => ?_
  rw [hk] at pv hd'
  have pv' : v = .ref l := pv
  subst pv'
  exact h h' o' F' N' hd'
theorem rv_setdefault_old {l y : Addr} {Q : Value → Shared → Prop} (F : Fr h₀ L s.heap m) (N : News h₀ L s.heap news) (U : UpdF d o news g) (hd : RefD prog w o f n) (lo : (d == sysModules) = false) (hz : n ≤ sizeLine) (hk : f k = some y)
    (h : ∀ h' o', Fr h₀ L h' m → News h₀ L h' (g o') → RefD prog w o' f (n + 1) → Q (.ref y) { s with heap := h', toks := s.toks + 1 }) :
    wpAny (model prog w) A (call (.builtin "dict.setdefault") [.ref d, .str k tk, .ref l]) Q E s := by
  refine dv_setdefault F N U hd lo hz (x := l) rfl fun v h' o' F' N' pv hd' => ?_
  rw [hk] at pv hd'
  have pv' : v = .ref y := pv
  subst pv'
  refine h h' o' F' N' ?_
  have e : upd f k (some ((some y).getD l)) = f := by
    funext j
    unfold upd
    split
    · rename_i e; rw [e, hk]; rfl
    · rfl
  rwa [e] at hd'
theorem rv_getItem {a : Addr} {Q : Value → Shared → Prop} (N : News h₀ L s.heap news) (hp : (d, o) ∈ news) (hd : RefD prog w o f n) (e : f k = some a) (h : Q (.ref a) { s with toks := s.toks + 1 }) :
    wpAny (model prog w) A (getItem (.ref d) (.str k tk)) Q E s := by
  refine dv_getItem N hp hd e fun v pv => ?_
  have pv' : v = .ref a := pv
  subst pv'
  exact h
end

end

theorem said_events : True := by
  k_with "call builtin:dict.setdefault" => (k_here; k_dflt (first
      | (refine' rv_setdefault_old ?zyF ?zyN ?zyU ?zyhd ?zylo ?zyhz ?zyhk ?_; (case zyF => k_asm); (case zyN => k_asm); (case zyU => k_updF); (case zyhd => assumption); (case zylo => assumption); (case zyhz => walk_at "m om"); (case zyhk => assumption); k_whole)
      | (refine' rv_setdefault_new ?zyF ?zyN ?zyU ?zyhd ?zylo ?zyhz ?zyhk ?_; (case zyF => k_asm); (case zyN => k_asm); (case zyU => k_updF); (case zyhd => assumption); (case zylo => assumption); (case zyhz => walk_at "m om"); (case zyhk => assumption); k_whole)); (intro h' o' F' N' hd'; (try dsimp only at N'); (try dsimp only); (try k_sweep)))
  k_with "getItem ref str" => (k_here; k_dflt (first
      | (refine' rv_getItem ?zyN ?zyhp ?zyhd ?zye ?_; (case zyN => k_asm); (case zyhp => k_mem); (case zyhd => assumption); (case zye => first | assumption | exact upd_same _ _ _); k_whole)
      | (refine' iv_getItem ?zyN ?zyhp ?zyhd ?zye ?_; (case zyN => k_asm); (case zyhp => k_mem); (case zyhd => assumption); (case zye => simp [upd]); k_whole; intro t')); (try dsimp only))
  trivial
section
section
variable {w : World} {p : Program} {loose : List Str} {mean : ExcName → Option Value} {mg mb : Str → Option Value} {dp un : Nat} {gd : Option (List Code)} {cn : Str} {cs : Scope} {a : Addr} {ccd : Value} {cl : List (Str × Addr)} {outer : List Env} {A₀ : Around} {base h₀ : Heap} {L : Addr} {m : Str → Option Value} {s : Shared} {Q E : Value → Shared → Prop}
  (B : Below A₀ base outer h₀) (F : Fr h₀ L s.heap m) (KX : (Mine.hd1.heap_39 w.params).In h₀) (T : Top p loose mean mg mb h₀) (hk : cs.kind = .function)
include B F KX T hk

theorem tget_s60 {news : List (Addr × Obj)} (N : News h₀ L s.heap news) (hd : dp ≤ 900) (hu : un ≤ 9000) (ret : ∀ r h' tk', Fr h₀ L h' m → News h₀ L h' news → Q (.int 60 r) { s with heap := h', toks := tk' }) :
    wpAny (model PySem.Challenge.rw_ji0060_01.row.prog w) (ktrTop dp un gd cn cs L a ccd cl outer) (call (.ref 320) [.ref 408, .ref 498, .ref 416]) Q E s := by
  refine lower ?_ hd hu
  revert KX; k_fill; intro KX
  refine wpAny_call ?_
  walk_at "m enter"
  k_steps
  exact ret _ _ _ (by assumption) (by assumption)
theorem tget_s1 {news : List (Addr × Obj)} (N : News h₀ L s.heap news) (hd : dp ≤ 900) (hu : un ≤ 9000) (ret : ∀ r h' tk', Fr h₀ L h' m → News h₀ L h' news → Q (.int 1 r) { s with heap := h', toks := tk' }) :
    wpAny (model PySem.Challenge.rw_ji0060_01.row.prog w) (ktrTop dp un gd cn cs L a ccd cl outer) (call (.ref 320) [.ref 408, .ref 515, .ref 416]) Q E s := by
  refine lower ?_ hd hu
  revert KX; k_fill; intro KX
  refine wpAny_call ?_
  walk_at "m enter"
  k_steps
  exact ret _ _ _ (by assumption) (by assumption)
theorem tget_nm {news : List (Addr × Obj)} (N : News h₀ L s.heap news) (hd : dp ≤ 900) (hu : un ≤ 9000) (ret : ∀ r h' tk', Fr h₀ L h' m → News h₀ L h' news → Q (.str (Str.ofString "minute") r) { s with heap := h', toks := tk' }) :
    wpAny (model PySem.Challenge.rw_ji0060_01.row.prog w) (ktrTop dp un gd cn cs L a ccd cl outer) (call (.ref 320) [.ref 411, .ref 498, .ref 416]) Q E s := by
  refine lower ?_ hd hu
  revert KX; k_fill; intro KX
  refine wpAny_call ?_
  walk_at "m enter"
  k_steps
  exact ret _ _ _ (by assumption) (by assumption)
theorem tget_ns {news : List (Addr × Obj)} (N : News h₀ L s.heap news) (hd : dp ≤ 900) (hu : un ≤ 9000) (ret : ∀ r h' tk', Fr h₀ L h' m → News h₀ L h' news → Q (.str (Str.ofString "second") r) { s with heap := h', toks := tk' }) :
    wpAny (model PySem.Challenge.rw_ji0060_01.row.prog w) (ktrTop dp un gd cn cs L a ccd cl outer) (call (.ref 320) [.ref 411, .ref 515, .ref 416]) Q E s := by
  refine lower ?_ hd hu
  revert KX; k_fill; intro KX
  refine wpAny_call ?_
  walk_at "m enter"
  k_steps
  exact ret _ _ _ (by assumption) (by assumption)
end

end

theorem said_tget : True := by
  k_with "getAttr ref" => (k_here; (with_reducible show wpAny _ _ (getAttr (Value.ref 498) (Str.ofString "seconds") _) _ _ _); k_dflt (refine' get_descr ?zygF ?zygX ?zygI ?zyga ?zyg2 ?zyg3 ?zygb ?zygc ?zygd ?zyge ?_; (case zygF => k_asm); (case zygX => k_asm); (case zygI => (refine' inst_Kt ?zyX ?zyh1 ?zyh2; (case zyX => k_in); (case zyh1 => k_is); (case zyh2 => k_is))); (case zyga => k_is); (case zyg2 => k_is); (case zyg3 => k_is); (case zygb => k_is); (case zygc => k_is); (case zygd => k_is); (case zyge => k_is)); k_dflt (refine' tget_s60 ?zyB ?zyF ?zyX ?zyT ?zyk ?zyN ?zyd ?zyu ?_; (case zyB => k_asm); (case zyF => k_asm); (case zyX => k_asm); (case zyT => k_asm); (case zyk => first | exact rfl | assumption); (case zyN => k_asm); (case zyd => exact Nat.le_of_ble_eq_true rfl); (case zyu => exact Nat.le_of_ble_eq_true rfl); k_whole); (intro r' h' tk' F' N'; refine handed_on rfl ?_; (try dsimp only at N'); (try dsimp only); (try k_sweep)))
  k_with "getAttr ref" => (k_here; (with_reducible show wpAny _ _ (getAttr (Value.ref 515) (Str.ofString "seconds") _) _ _ _); k_dflt (refine' get_descr ?zygF ?zygX ?zygI ?zyga ?zyg2 ?zyg3 ?zygb ?zygc ?zygd ?zyge ?_; (case zygF => k_asm); (case zygX => k_asm); (case zygI => (refine' inst_Kt ?zyX ?zyh1 ?zyh2; (case zyX => k_in); (case zyh1 => k_is); (case zyh2 => k_is))); (case zyga => k_is); (case zyg2 => k_is); (case zyg3 => k_is); (case zygb => k_is); (case zygc => k_is); (case zygd => k_is); (case zyge => k_is)); k_dflt (refine' tget_s1 ?zyB ?zyF ?zyX ?zyT ?zyk ?zyN ?zyd ?zyu ?_; (case zyB => k_asm); (case zyF => k_asm); (case zyX => k_asm); (case zyT => k_asm); (case zyk => first | exact rfl | assumption); (case zyN => k_asm); (case zyd => exact Nat.le_of_ble_eq_true rfl); (case zyu => exact Nat.le_of_ble_eq_true rfl); k_whole); (intro r' h' tk' F' N'; refine handed_on rfl ?_; (try dsimp only at N'); (try dsimp only); (try k_sweep)))
  k_with "getAttr ref" => (k_here; (with_reducible show wpAny _ _ (getAttr (Value.ref 498) (Str.ofString "name") _) _ _ _); k_dflt (refine' get_descr ?zygF ?zygX ?zygI ?zyga ?zyg2 ?zyg3 ?zygb ?zygc ?zygd ?zyge ?_; (case zygF => k_asm); (case zygX => k_asm); (case zygI => (refine' inst_Kt ?zyX ?zyh1 ?zyh2; (case zyX => k_in); (case zyh1 => k_is); (case zyh2 => k_is))); (case zyga => k_is); (case zyg2 => k_is); (case zyg3 => k_is); (case zygb => k_is); (case zygc => k_is); (case zygd => k_is); (case zyge => k_is)); k_dflt (refine' tget_nm ?zyB ?zyF ?zyX ?zyT ?zyk ?zyN ?zyd ?zyu ?_; (case zyB => k_asm); (case zyF => k_asm); (case zyX => k_asm); (case zyT => k_asm); (case zyk => first | exact rfl | assumption); (case zyN => k_asm); (case zyd => exact Nat.le_of_ble_eq_true rfl); (case zyu => exact Nat.le_of_ble_eq_true rfl); k_whole); (intro r' h' tk' F' N'; refine handed_on rfl ?_; (try dsimp only at N'); (try dsimp only); (try k_sweep)))
  k_with "getAttr ref" => (k_here; (with_reducible show wpAny _ _ (getAttr (Value.ref 515) (Str.ofString "name") _) _ _ _); k_dflt (refine' get_descr ?zygF ?zygX ?zygI ?zyga ?zyg2 ?zyg3 ?zygb ?zygc ?zygd ?zyge ?_; (case zygF => k_asm); (case zygX => k_asm); (case zygI => (refine' inst_Kt ?zyX ?zyh1 ?zyh2; (case zyX => k_in); (case zyh1 => k_is); (case zyh2 => k_is))); (case zyga => k_is); (case zyg2 => k_is); (case zyg3 => k_is); (case zygb => k_is); (case zygc => k_is); (case zygd => k_is); (case zyge => k_is)); k_dflt (refine' tget_ns ?zyB ?zyF ?zyX ?zyT ?zyk ?zyN ?zyd ?zyu ?_; (case zyB => k_asm); (case zyF => k_asm); (case zyX => k_asm); (case zyT => k_asm); (case zyk => first | exact rfl | assumption); (case zyN => k_asm); (case zyd => exact Nat.le_of_ble_eq_true rfl); (case zyu => exact Nat.le_of_ble_eq_true rfl); k_whole); (intro r' h' tk' F' N'; refine handed_on rfl ?_; (try dsimp only at N'); (try dsimp only); (try k_sweep)))
  trivial
section
noncomputable abbrev itemDict (h1 h2 h3 : Int) (t1 t2 t3 t4 t5 t6 : Tok) (ns : Str) (am mu : Int) (n : Nat) : Obj := dictOf [⟨h1, .str (Str.ofString "namespace") t1, .str ns t2⟩, ⟨h2, .str (Str.ofString "amount") t3, .int am t4⟩, ⟨h3, .str (Str.ofString "multiples") t5, .int mu t6⟩] n
section
variable {w : World} {p : Program} {loose : List Str} {mean : ExcName → Option Value} {mg mb : Str → Option Value} {dp un : Nat} {gd : Option (List Code)} {cn : Str} {cs : Scope} {a : Addr} {ccd : Value} {cl : List (Str × Addr)} {outer : List Env} {A₀ : Around} {base h₀ : Heap} {L : Addr} {m : Str → Option Value} {s : Shared} {Q E : Value → Shared → Prop}
  (B : Below A₀ base outer h₀) (F : Fr h₀ L s.heap m) (KX : (Mine.hd1.heap_39 w.params).In h₀) (T : Top p loose mean mg mb h₀) (hk : cs.kind = .function)
include B F KX T hk

theorem exp_s {news : List (Addr × Obj)} {it idx : Addr} {h1 h2 h3 : Int} {t1 t2 t3 t4 t5 t6 : Tok} {ns : Str} {am mu : Int} {n : Nat}
    (N : News h₀ L s.heap news) (hi : (it, instObj 518 idx) ∈ news) (hdx : (idx, itemDict h1 h2 h3 t1 t2 t3 t4 t5 t6 ns am mu n) ∈ news) (hm : 0 ≤ mu ∧ mu < 1000) (hd : dp ≤ 860) (hu : un ≤ 8600)
    (ret : ∀ r h' tk', Fr h₀ L h' m → News h₀ L h' news → Q (.int (1 * mu) r) { s with heap := h', toks := tk' }) :
    wpAny (model PySem.Challenge.rw_ji0060_01.row.prog w) (ktrTop dp un gd cn cs L a ccd cl outer) (call (.ref 451) [.ref it]) Q E s := by
  refine lower ?_ hd hu
  revert KX; k_fill; intro KX
  refine wpAny_call ?_
  walk_at "m enter"
  k_steps
  exact ret _ _ _ (by assumption) (by assumption)
theorem exp_m {news : List (Addr × Obj)} {it idx : Addr} {h1 h2 h3 : Int} {t1 t2 t3 t4 t5 t6 : Tok} {ns : Str} {am mu : Int} {n : Nat}
    (N : News h₀ L s.heap news) (hi : (it, instObj 501 idx) ∈ news) (hdx : (idx, itemDict h1 h2 h3 t1 t2 t3 t4 t5 t6 ns am mu n) ∈ news) (hm : 0 ≤ mu ∧ mu < 1000) (hd : dp ≤ 860) (hu : un ≤ 8600)
    (ret : ∀ r h' tk', Fr h₀ L h' m → News h₀ L h' news → Q (.int (60 * mu) r) { s with heap := h', toks := tk' }) :
    wpAny (model PySem.Challenge.rw_ji0060_01.row.prog w) (ktrTop dp un gd cn cs L a ccd cl outer) (call (.ref 451) [.ref it]) Q E s := by
  refine lower ?_ hd hu
  revert KX; k_fill; intro KX
  refine wpAny_call ?_
  walk_at "m enter"
  k_steps
  exact ret _ _ _ (by assumption) (by assumption)
end

end

theorem said_item : True := by
  k_with "call ref" => (k_here; (with_reducible show wpAny _ _ (call (Value.ref 451) _) _ _ _); k_dflt (first
      | (refine' exp_s ?zyB ?zyF ?zyX ?zyT ?zyk ?zyN ?zyhi ?zyhdx ?zyhm ?zyd ?zyu ?_; (case zyB => k_asm); (case zyF => k_asm); (case zyX => k_asm); (case zyT => k_asm); (case zyk => first | exact rfl | assumption); (case zyN => k_asm); (case zyhi => k_mem); (case zyhdx => k_mem); (case zyhm => walk_at "m om"); (case zyd => exact Nat.le_of_ble_eq_true rfl); (case zyu => exact Nat.le_of_ble_eq_true rfl); k_whole)
      | (refine' exp_m ?zyB ?zyF ?zyX ?zyT ?zyk ?zyN ?zyhi ?zyhdx ?zyhm ?zyd ?zyu ?_; (case zyB => k_asm); (case zyF => k_asm); (case zyX => k_asm); (case zyT => k_asm); (case zyk => first | exact rfl | assumption); (case zyN => k_asm); (case zyhi => k_mem); (case zyhdx => k_mem); (case zyhm => walk_at "m om"); (case zyd => exact Nat.le_of_ble_eq_true rfl); (case zyu => exact Nat.le_of_ble_eq_true rfl); k_whole)); (intro r' h' tk' F' N'; (try dsimp only at N'); (try dsimp only); (try k_sweep)))
  trivial
section
section
variable {w : World} {p : Program} {loose : List Str} {mean : ExcName → Option Value} {mg mb : Str → Option Value} {dp un : Nat} {gd : Option (List Code)} {cn : Str} {cs : Scope} {a : Addr} {ccd : Value} {cl : List (Str × Addr)} {outer : List Env} {A₀ : Around} {base h₀ : Heap} {L : Addr} {m : Str → Option Value} {s : Shared} {Q E : Value → Shared → Prop}
  (B : Below A₀ base outer h₀) (F : Fr h₀ L s.heap m) (KX : (Mine.hd1.heap_39 w.params).In h₀) (T : Top p loose mean mg mb h₀) (hk : cs.kind = .function)
include B F KX T hk

theorem safe_s {news : List (Addr × Obj)} {v : Str} {tv : Tok} (N : News h₀ L s.heap news) (hd : dp ≤ 880) (hu : un ≤ 8800)
    (ret : ∀ r h' tk', Fr h₀ L h' m → News h₀ L h' news → Q (.str v r) { s with heap := h', toks := tk' }) :
    wpAny (model PySem.Challenge.rw_ji0060_01.row.prog w) (ktrTop dp un gd cn cs L a ccd cl outer) (call (.ref 348) [.str v tv]) Q E s := by
  refine lower ?_ hd hu
  revert KX; k_fill; intro KX
  refine wpAny_call ?_
  walk_at "m enter"
  k_steps
  exact ret _ _ _ (by assumption) (by assumption)
theorem safe_i {news : List (Addr × Obj)} {v : Int} {tv : Tok} (N : News h₀ L s.heap news) (hv : v.natAbs < 18446744073709551616) (hd : dp ≤ 880) (hu : un ≤ 8800)
    (ret : ∀ r h' tk', Fr h₀ L h' m → News h₀ L h' news → Q (.str (itx v) r) { s with heap := h', toks := tk' }) :
    wpAny (model PySem.Challenge.rw_ji0060_01.row.prog w) (ktrTop dp un gd cn cs L a ccd cl outer) (call (.ref 348) [.int v tv]) Q E s := by
  refine lower ?_ hd hu
  revert KX; k_fill; intro KX
  refine wpAny_call ?_
  walk_at "m enter"
  k_steps
  exact ret _ _ _ (by assumption) (by assumption)
end

end

theorem said_key : True := by
  k_with "call ref" => (k_here; (with_reducible show wpAny _ _ (call (Value.ref 348) [Value.str _ _]) _ _ _); k_dflt (refine' safe_s ?zyB ?zyF ?zyX ?zyT ?zyk ?zyN ?zyd ?zyu ?_; (case zyB => k_asm); (case zyF => k_asm); (case zyX => k_asm); (case zyT => k_asm); (case zyk => first | exact rfl | assumption); (case zyN => k_asm); (case zyd => exact Nat.le_of_ble_eq_true rfl); (case zyu => exact Nat.le_of_ble_eq_true rfl); k_whole); (intro r' h' tk' F' N'; (try dsimp only at N'); (try dsimp only); (try k_sweep)))
  k_with "call ref" => (k_here; (with_reducible show wpAny _ _ (call (Value.ref 348) [Value.int _ _]) _ _ _); k_dflt (refine' safe_i ?zyB ?zyF ?zyX ?zyT ?zyk ?zyN ?zyhv ?zyd ?zyu ?_; (case zyB => k_asm); (case zyF => k_asm); (case zyX => k_asm); (case zyT => k_asm); (case zyk => first | exact rfl | assumption); (case zyN => k_asm); (case zyhv => walk_at "m om"); (case zyd => exact Nat.le_of_ble_eq_true rfl); (case zyu => exact Nat.le_of_ble_eq_true rfl); k_whole); (intro r' h' tk' F' N'; (try dsimp only at N'); (try dsimp only); (try k_sweep)))
  trivial
section
noncomputable def TupAt (ax : Addr) (its : Array Value) (news : List (Addr × Obj)) : Prop := False ∨ ∃ o, (ax, o) ∈ news ∧ o.cls = .type "tuple" ∧ ∃ n, o.data = .seq its n
section
variable {prog : Program} {w : World} {A : Around} {E : Value → Shared → Prop} {s : Shared} {h₀ : Heap} {L : Addr} {m : Str → Option Value} {env : Env}
theorem TupAt.tup {h₀ h : Heap} {L ax : Addr} {its : Array Value} {news : List (Addr × Obj)} (x : TupAt ax its news) (N : News h₀ L h news) : IsTup h ax its := by
  rcases x with x | ⟨o, hm, r⟩
  · exact x.elim
  · exact ⟨o, (N _ hm).1, r⟩
theorem tup_st {ax I : Addr} {its : Array Value} : ∀ i (h h' : Heap) (o : Obj) (nw : List (Addr × Obj)), (IsTupIter h I ax i ∧ IsTup h ax its) → h.get? I = some o → h'.get? I = some o → (∀ b o, h₀.get? b = some o → h'.get? b = some o) → News h₀ L h' nw → TupAt ax its nw → (IsTupIter h' I ax i ∧ IsTup h' ax its) :=
  fun i h h' o nw st e e' k N S => ⟨by obtain ⟨o', q, r⟩ := st.1; rw [e] at q; cases q; exact ⟨o, e', r⟩, S.tup N⟩
/-- where a comprehension's tuple lies -/
noncomputable def SrcTup (prog : Program) (w : World) (A : Around) (h₀ : Heap) (L : Addr) (m : Str → Option Value) (env : Env) (elt : Expr) (x : Str) (scope : Scope) (cl : List (Str × Addr)) (Fin : Shared → List Value → List (Addr × Obj) → Prop) (xv : Value) (s₁ : Shared) : Prop :=
  ∃ ax its news, xv = .ref ax ∧ A.handled = none ∧ Fr h₀ L s₁.heap m ∧ News h₀ L s₁.heap news ∧ TupAt ax its news ∧ its.size ≤ sizeLine ∧
    ∀ s₂ : Shared, (∃ h, s₂ = { s₁ with heap := h }) → LCg.CompRest prog w A h₀ L m env elt x scope cl s₂ (TupAt ax its) (fun i v => its[i]? = some v) (Fin s₂) its.size 0 [] news
theorem SrcTup.ledger {elt : Expr} {x : Str} {scope : Scope} {cl : List (Str × Addr)} {Fin : Shared → List Value → List (Addr × Obj) → Prop} {ax : Addr} {its : Array Value} {k : Nat} {news : List (Addr × Obj)} {s₁ : Shared}
    (hh : A.handled = none) (F : Fr h₀ L s₁.heap m) (N : News h₀ L s₁.heap news) (hm : (ax, ({ cls := .type "tuple", data := .seq its k } : Obj)) ∈ news) (hsz : its.size ≤ sizeLine)
    (h : ∀ g, LCg.CompRest prog w A h₀ L m env elt x scope cl { s₁ with heap := g } (TupAt ax its) (fun i v => its[i]? = some v) (Fin { s₁ with heap := g }) its.size 0 [] news) :
    SrcTup prog w A h₀ L m env elt x scope cl Fin (.ref ax) s₁ := ⟨ax, its, news, rfl, hh, F, N, .inr ⟨_, hm, rfl, _, rfl⟩, hsz, fun _ ⟨g, e⟩ => e ▸ h g⟩
theorem comp_tup {elt iter : Expr} {x : Str} {px : Pos} {scope : Scope} {cl : List (Str × Addr)} {pos : Pos} {Q : Value → Shared → Prop} (F₀ : Fr h₀ L s.heap m)
    (hclos : closureFor scope env = pure cl) (hcell : ∀ y ∈ scope.names, y.2 ≠ .cell) (hkind : scope.kind = .function)
    (hnames : ∀ y ∈ scope.names, y.2 = .local → scope.names.lookup y.1 = some .local) (hx : scope.names.lookup x = some .local)
    (h : wpAny (model prog w) A (eval iter env) (SrcTup prog w A h₀ L m env elt x scope cl (fun s₂ => LCg.FinE h₀ L m s₂ Q)) E s)
    (hs : ∀ x, foldedSetIterable iter env x = pure x := by intro _; rfl) :
    wpAny (model prog w) A (eval (.ListComp elt [⟨.Name x px, iter, [], 0⟩] scope pos) env) Q E s := by
  rw [eval_ListComp]
  refine wpAny_comprehension_free (use := none) rfl hs hclos hkind hnames (wpAny_mono h (fun xv s₁ h₁ => ?_) fun _ _ e => e)
  obtain ⟨ax, its, news, rfl, hh, F, N, S, hsz, R⟩ := h₁
  have hl := S.tup N
  have hlt : ax < s₁.heap.objs.size := by obtain ⟨_, e, _⟩ := hl; exact Heap.lt_size e
  refine wpAny_pyIter_tuple hl ?_
  have up : ∀ b o, s₁.heap.get? b = some o → (s₁.heap.push { cls := .type "tuple_iterator", data := .fields #[.ref ax, .int 0 0] }).get? b = some o := fun b o e => Heap.get?_push_of_some _ e
  refine LCg.block_U (Walks.tuple hh s₁.heap.objs.size ax (Nat.ne_of_lt hlt) its) hsz (fun i h st => by obtain ⟨o, e, _⟩ := st.1; exact ⟨o, e⟩) tup_st hcell hkind hx ⟨⟨_, Heap.get?_push_size _ rfl, rfl, rfl⟩, hl.push _⟩ (fun b hb => ?_)
    (F.keeps up) (N.grown up) (Nat.ne_of_lt F.ns.lt) (next_is_new F) (fun p hp => Nat.ne_of_lt (Heap.lt_size (N p hp).1)) S (R _ ⟨_, rfl⟩) ?_
  · show b < (s₁.heap.push _).objs.size
    rw [Heap.size_push]
    rcases List.mem_cons.mp hb with rfl | hb
    · exact Nat.lt_succ_self _
    · rw [List.mem_singleton.mp hb]; exact Nat.lt_succ_of_lt hlt
  · intro D C h tk m' ys news' F' N' o1 hn hC₀ hD₀ hCL hDL hCD offC fin
    refine ⟨m', hn, fun h'' hs'' => fin D h'' tk (F'.change hs'' hCL hC₀) (fun p hp => ?_) o1⟩
    refine ⟨hs''.extBut _ _ ?_ (N' p hp).1, (N' p hp).2⟩
    rcases List.mem_cons.mp hp with rfl | hp
    · exact Ne.symm hCD
    · exact offC p hp
end

end

theorem said_comp : True := by
  k_with "eval ListComp" => (k_here; lcg_look; k_dflt (refine comp_tup (F₀ := by k_asm) (by rfl) (by decide) (by rfl) (by decide) (by rfl) ?_))
  k_with "SrcTup" => (k_here; k_dflt (refine SrcTup.ledger (by rfl) (by k_asm) (by k_asm) (by k_mem) (by first | size_fits | exact Nat.le_of_ble_eq_true rfl) ?_; intro g'; lcg_lit))
  k_with "CompEnd" => (k_here; k_dflt (refine LCg.CompEnd.intro (by assumption) (by assumption) _ (fun _ hp => hp) (by assumption) (Or.inr ⟨_, by k_mem, rfl, _, rfl⟩) ?_))
  k_with "call builtin:str.join" => (k_here; k_dflt (refine' join_O ?zyjl ?zyji ?zyjs ?zyjw ?_; (case zyjl => exact News.isList (by assumption) (by k_mem)); (case zyji => kct_strs); (case zyjs => decide +kernel); (case zyjw => simp only [List.map_cons, List.map_nil, List.sum_cons, List.sum_nil, List.length_cons, List.length_nil]; omega); k_whole); intro jr' jt' jk' je' jl')
  trivial
section
/-- a limit's key -/
noncomputable def ikey (ns : Str) (ps : List Str) : Str := Str.empty ++ ns ++ Str.ofString "/" ++ Txt.join (Str.ofString "/") ps
section
variable {w : World} {p : Program} {loose : List Str} {mean : ExcName → Option Value} {mg mb : Str → Option Value} {dp un : Nat} {gd : Option (List Code)} {cn : Str} {cs : Scope} {a : Addr} {ccd : Value} {cl : List (Str × Addr)} {outer : List Env} {A₀ : Around} {base h₀ : Heap} {L : Addr} {m : Str → Option Value} {s : Shared} {Q E : Value → Shared → Prop}
  (B : Below A₀ base outer h₀) (F : Fr h₀ L s.heap m) (KX : (Mine.hd1.heap_39 w.params).In h₀) (T : Top p loose mean mg mb h₀) (hk : cs.kind = .function)
include B F KX T hk

theorem key_s1 {news : List (Addr × Obj)} {it idx nt : Addr} {h1 h2 h3 : Int} {t1 t2 t3 t4 t5 t6 t7 : Tok} {ns n1 : Str} {am mu : Int} {n : Nat}
    (N : News h₀ L s.heap news) (hi : (it, instObj 518 idx) ∈ news) (hdx : (idx, itemDict h1 h2 h3 t1 t2 t3 t4 t5 t6 ns am mu n) ∈ news) (hnt : (nt, ({ cls := .type "tuple", data := .seq #[.str n1 t7] } : Obj)) ∈ news)
    (hm : 0 ≤ mu ∧ mu < 1000) (ha : 0 ≤ am ∧ am < 1000) (hn1 : n1.length ≤ 100) (hns : ns.length ≤ 100) (hd : dp ≤ 860) (hu : un ≤ 8600)
    (ret : ∀ r h' tk', Fr h₀ L h' m → News h₀ L h' news → Q (.str (ikey ns [n1, itx am, itx mu, Str.ofString "second"]) r) { s with heap := h', toks := tk' }) :
    wpAny (model PySem.Challenge.rw_ji0060_01.row.prog w) (ktrTop dp un gd cn cs L a ccd cl outer) (call (.ref 458) [.ref it, .ref nt]) Q E s := by
  refine lower ?_ hd hu
  have la : (itx am).length ≤ 3 := toString_length_le ha.1 (by decide) ha.2
  have lm : (itx mu).length ≤ 3 := toString_length_le hm.1 (by decide) hm.2
  have lg : (Str.ofString "second").length ≤ 6 := by decide
  revert KX; k_fill; intro KX
  refine wpAny_call ?_
  walk_at "m enter"
  k_steps
  subst_vars
  exact ret _ _ _ (by assumption) (news_of (by assumption) (fun p hp => .tail _ (.tail _ (.tail _ hp))))
theorem key_s2 {news : List (Addr × Obj)} {it idx nt : Addr} {h1 h2 h3 : Int} {t1 t2 t3 t4 t5 t6 t7 t8 : Tok} {ns n1 n2 : Str} {am mu : Int} {n : Nat}
    (N : News h₀ L s.heap news) (hi : (it, instObj 518 idx) ∈ news) (hdx : (idx, itemDict h1 h2 h3 t1 t2 t3 t4 t5 t6 ns am mu n) ∈ news) (hnt : (nt, ({ cls := .type "tuple", data := .seq #[.str n1 t7, .str n2 t8] } : Obj)) ∈ news)
    (hm : 0 ≤ mu ∧ mu < 1000) (ha : 0 ≤ am ∧ am < 1000) (hn1 : n1.length ≤ 100) (hn2 : n2.length ≤ 100) (hns : ns.length ≤ 100) (hd : dp ≤ 860) (hu : un ≤ 8600)
    (ret : ∀ r h' tk', Fr h₀ L h' m → News h₀ L h' news → Q (.str (ikey ns [n1, n2, itx am, itx mu, Str.ofString "second"]) r) { s with heap := h', toks := tk' }) :
    wpAny (model PySem.Challenge.rw_ji0060_01.row.prog w) (ktrTop dp un gd cn cs L a ccd cl outer) (call (.ref 458) [.ref it, .ref nt]) Q E s := by
  refine lower ?_ hd hu
  have la : (itx am).length ≤ 3 := toString_length_le ha.1 (by decide) ha.2
  have lm : (itx mu).length ≤ 3 := toString_length_le hm.1 (by decide) hm.2
  have lg : (Str.ofString "second").length ≤ 6 := by decide
  revert KX; k_fill; intro KX
  refine wpAny_call ?_
  walk_at "m enter"
  k_steps
  subst_vars
  exact ret _ _ _ (by assumption) (news_of (by assumption) (fun p hp => .tail _ (.tail _ (.tail _ hp))))
theorem key_m1 {news : List (Addr × Obj)} {it idx nt : Addr} {h1 h2 h3 : Int} {t1 t2 t3 t4 t5 t6 t7 : Tok} {ns n1 : Str} {am mu : Int} {n : Nat}
    (N : News h₀ L s.heap news) (hi : (it, instObj 501 idx) ∈ news) (hdx : (idx, itemDict h1 h2 h3 t1 t2 t3 t4 t5 t6 ns am mu n) ∈ news) (hnt : (nt, ({ cls := .type "tuple", data := .seq #[.str n1 t7] } : Obj)) ∈ news)
    (hm : 0 ≤ mu ∧ mu < 1000) (ha : 0 ≤ am ∧ am < 1000) (hn1 : n1.length ≤ 100) (hns : ns.length ≤ 100) (hd : dp ≤ 860) (hu : un ≤ 8600)
    (ret : ∀ r h' tk', Fr h₀ L h' m → News h₀ L h' news → Q (.str (ikey ns [n1, itx am, itx mu, Str.ofString "minute"]) r) { s with heap := h', toks := tk' }) :
    wpAny (model PySem.Challenge.rw_ji0060_01.row.prog w) (ktrTop dp un gd cn cs L a ccd cl outer) (call (.ref 458) [.ref it, .ref nt]) Q E s := by
  refine lower ?_ hd hu
  have la : (itx am).length ≤ 3 := toString_length_le ha.1 (by decide) ha.2
  have lm : (itx mu).length ≤ 3 := toString_length_le hm.1 (by decide) hm.2
  have lg : (Str.ofString "minute").length ≤ 6 := by decide
  revert KX; k_fill; intro KX
  refine wpAny_call ?_
  walk_at "m enter"
  k_steps
  subst_vars
  exact ret _ _ _ (by assumption) (news_of (by assumption) (fun p hp => .tail _ (.tail _ (.tail _ hp))))
theorem key_m2 {news : List (Addr × Obj)} {it idx nt : Addr} {h1 h2 h3 : Int} {t1 t2 t3 t4 t5 t6 t7 t8 : Tok} {ns n1 n2 : Str} {am mu : Int} {n : Nat}
    (N : News h₀ L s.heap news) (hi : (it, instObj 501 idx) ∈ news) (hdx : (idx, itemDict h1 h2 h3 t1 t2 t3 t4 t5 t6 ns am mu n) ∈ news) (hnt : (nt, ({ cls := .type "tuple", data := .seq #[.str n1 t7, .str n2 t8] } : Obj)) ∈ news)
    (hm : 0 ≤ mu ∧ mu < 1000) (ha : 0 ≤ am ∧ am < 1000) (hn1 : n1.length ≤ 100) (hn2 : n2.length ≤ 100) (hns : ns.length ≤ 100) (hd : dp ≤ 860) (hu : un ≤ 8600)
    (ret : ∀ r h' tk', Fr h₀ L h' m → News h₀ L h' news → Q (.str (ikey ns [n1, n2, itx am, itx mu, Str.ofString "minute"]) r) { s with heap := h', toks := tk' }) :
    wpAny (model PySem.Challenge.rw_ji0060_01.row.prog w) (ktrTop dp un gd cn cs L a ccd cl outer) (call (.ref 458) [.ref it, .ref nt]) Q E s := by
  refine lower ?_ hd hu
  have la : (itx am).length ≤ 3 := toString_length_le ha.1 (by decide) ha.2
  have lm : (itx mu).length ≤ 3 := toString_length_le hm.1 (by decide) hm.2
  have lg : (Str.ofString "minute").length ≤ 6 := by decide
  revert KX; k_fill; intro KX
  refine wpAny_call ?_
  walk_at "m enter"
  k_steps
  subst_vars
  exact ret _ _ _ (by assumption) (news_of (by assumption) (fun p hp => .tail _ (.tail _ (.tail _ hp))))
end

end
section
noncomputable def unitOf (sec : Bool) : Int := if sec then 1 else 60
noncomputable def granOf (sec : Bool) : Str := if sec then Str.ofString "second" else Str.ofString "minute"
noncomputable def clsOf (sec : Bool) : Addr := if sec then 518 else 501
/-- a limit lies in the ledger: its class, name space, amount and count of units -/
noncomputable def ItemAt (news : List (Addr × Obj)) (S X V : Addr) (it : Addr) (sec : Bool) (ns : Str) (am mu : Int) : Prop :=
  (∃ idx h1 h2 h3 t1 t2 t3 t4 t5 t6 n, (it, instObj (clsOf sec) idx) ∈ news ∧ (idx, itemDict h1 h2 h3 t1 t2 t3 t4 t5 t6 ns am mu n) ∈ news ∧ Off S X V it ∧ Off S X V idx) ∧ (0 ≤ mu ∧ mu < 1000) ∧ (0 ≤ am ∧ am < 1000) ∧ ns.length ≤ 100
/-- one name or two -/
noncomputable def NamesAt (news : List (Addr × Obj)) (S X V nt : Addr) (names : List Str) : Prop :=
  Off S X V nt ∧ ((∃ n1 t7, names = [n1] ∧ n1.length ≤ 100 ∧ (nt, ({ cls := .type "tuple", data := .seq #[.str n1 t7] } : Obj)) ∈ news) ∨
  (∃ n1 n2 t7 t8, names = [n1, n2] ∧ n1.length ≤ 100 ∧ n2.length ≤ 100 ∧ (nt, ({ cls := .type "tuple", data := .seq #[.str n1 t7, .str n2 t8] } : Obj)) ∈ news))
/-- a limiter over the store -/
noncomputable def LimAt (news : List (Addr × Obj)) (S X V : Addr) (C lim st : Addr) : Prop :=
  ∃ dx h1 t1 n, (lim, instObj C dx) ∈ news ∧ (dx, dictOf [⟨h1, .str (Str.ofString "storage") t1, .ref st⟩] n) ∈ news ∧ Off S X V lim ∧ Off S X V dx
theorem LimAt.sub {news news' : List (Addr × Obj)} {S X V C lim st : Addr} (I : LimAt news S X V C lim st) (hs : ∀ q ∈ news, Off S X V q.1 → q ∈ news') : LimAt news' S X V C lim st := by
  obtain ⟨dx, h1, t1, n, a, b, o1, o2⟩ := I
  exact ⟨dx, h1, t1, n, hs _ a o1, hs _ b o2, o1, o2⟩
theorem ItemAt.sub {news news' : List (Addr × Obj)} {S X V it : Addr} {sec : Bool} {ns : Str} {am mu : Int} (I : ItemAt news S X V it sec ns am mu) (hs : ∀ q ∈ news, Off S X V q.1 → q ∈ news') : ItemAt news' S X V it sec ns am mu := by
  obtain ⟨⟨idx, h1, h2, h3, t1, t2, t3, t4, t5, t6, n, a, b, o1, o2⟩, r⟩ := I
  exact ⟨⟨idx, h1, h2, h3, t1, t2, t3, t4, t5, t6, n, hs _ a o1, hs _ b o2, o1, o2⟩, r⟩
theorem NamesAt.sub {news news' : List (Addr × Obj)} {S X V nt : Addr} {names : List Str} (I : NamesAt news S X V nt names) (hs : ∀ q ∈ news, Off S X V q.1 → q ∈ news') : NamesAt news' S X V nt names := by
  rcases I with ⟨o, ⟨n1, t7, e, l, a⟩ | ⟨n1, n2, t7, t8, e, l, l', a⟩⟩
  · exact ⟨o, .inl ⟨n1, t7, e, l, hs _ a o⟩⟩
  · exact ⟨o, .inr ⟨n1, n2, t7, t8, e, l, l', hs _ a o⟩⟩
noncomputable def keyOf (sec : Bool) (ns : Str) (names : List Str) (am mu : Int) : Str := ikey ns (names ++ [itx am, itx mu, granOf sec])
section
variable {w : World} {p : Program} {loose : List Str} {mean : ExcName → Option Value} {mg mb : Str → Option Value} {dp un : Nat} {gd : Option (List Code)} {cn : Str} {cs : Scope} {a : Addr} {ccd : Value} {cl : List (Str × Addr)} {outer : List Env} {A₀ : Around} {base h₀ : Heap} {L : Addr} {m : Str → Option Value} {s : Shared} {Q E : Value → Shared → Prop}
  (B : Below A₀ base outer h₀) (F : Fr h₀ L s.heap m) (KX : (Mine.hd1.heap_39 w.params).In h₀) (T : Top p loose mean mg mb h₀) (hk : cs.kind = .function)
include B F KX T hk

theorem item_key {news₀ news : List (Addr × Obj)} {S X V it nt : Addr} {sec : Bool} {ns : Str} {am mu : Int} {names : List Str}
    (N : News h₀ L s.heap news) (I : ItemAt news₀ S X V it sec ns am mu) (J : NamesAt news₀ S X V nt names) (hs : ∀ q ∈ news₀, Off S X V q.1 → q ∈ news) (hd : dp ≤ 860) (hu : un ≤ 8600)
    (ret : ∀ r h' tk', Fr h₀ L h' m → News h₀ L h' news → Q (.str (keyOf sec ns names am mu) r) { s with heap := h', toks := tk' }) :
    wpAny (model PySem.Challenge.rw_ji0060_01.row.prog w) (ktrTop dp un gd cn cs L a ccd cl outer) (call (.ref 458) [.ref it, .ref nt]) Q E s := by
  obtain ⟨⟨idx, h1, h2, h3, t1, t2, t3, t4, t5, t6, n, hi, hdx, oi, od⟩, hm, ha, hns⟩ := I
  rcases J with ⟨ont, ⟨n1, t7, rfl, l1, hnt⟩ | ⟨n1, n2, t7, t8, rfl, l1, l2, hnt⟩⟩
  · cases sec
    · exact key_m1 B F KX T hk N (hs _ hi oi) (hs _ hdx od) (hs _ hnt ont) hm ha l1 hns hd hu ret
    · exact key_s1 B F KX T hk N (hs _ hi oi) (hs _ hdx od) (hs _ hnt ont) hm ha l1 hns hd hu ret
  · cases sec
    · exact key_m2 B F KX T hk N (hs _ hi oi) (hs _ hdx od) (hs _ hnt ont) hm ha l1 l2 hns hd hu ret
    · exact key_s2 B F KX T hk N (hs _ hi oi) (hs _ hdx od) (hs _ hnt ont) hm ha l1 l2 hns hd hu ret
theorem item_exp {news₀ news : List (Addr × Obj)} {S X V it : Addr} {sec : Bool} {ns : Str} {am mu : Int}
    (N : News h₀ L s.heap news) (I : ItemAt news₀ S X V it sec ns am mu) (hs : ∀ q ∈ news₀, Off S X V q.1 → q ∈ news) (hd : dp ≤ 860) (hu : un ≤ 8600)
    (ret : ∀ r h' tk', Fr h₀ L h' m → News h₀ L h' news → Q (.int (unitOf sec * mu) r) { s with heap := h', toks := tk' }) :
    wpAny (model PySem.Challenge.rw_ji0060_01.row.prog w) (ktrTop dp un gd cn cs L a ccd cl outer) (call (.ref 451) [.ref it]) Q E s := by
  obtain ⟨⟨idx, h1, h2, h3, t1, t2, t3, t4, t5, t6, n, hi, hdx, oi, od⟩, hm, ha, hns⟩ := I
  cases sec
  · exact exp_m B F KX T hk N (hs _ hi oi) (hs _ hdx od) hm hd hu ret
  · exact exp_s B F KX T hk N (hs _ hi oi) (hs _ hdx od) hm hd hu ret
end
section
variable {w : World} {A : Around} {E : Value → Shared → Prop} {s : Shared} {h₀ : Heap} {L : Addr} {m : Str → Option Value} {news₀ news : List (Addr × Obj)} {S X V it : Addr} {sec : Bool} {ns : Str} {am mu : Int}
theorem inst_N {h : Heap} {C dx x : Addr} {o : Obj} (N : News h₀ L h news) (h1 : (x, instObj C dx) ∈ news) (h2 : (dx, o) ∈ news) : InstAt h x (instObj C dx) C (some o) := ⟨(N _ h1).1, rfl, rfl, (N _ h2).1⟩
theorem item_amount {expr : Bool} {Q : Value → Shared → Prop} (F : Fr h₀ L s.heap m) (KX : (Mine.hd1.heap_39 w.params).In h₀) (N : News h₀ L s.heap news) (I : ItemAt news₀ S X V it sec ns am mu) (hs : ∀ q ∈ news₀, Off S X V q.1 → q ∈ news)
    (h : ∀ r, Q (.int am r) { s with toks := s.toks + 1 }) : wpAny (model PySem.Challenge.rw_ji0060_01.row.prog w) A (getAttr (.ref it) (Str.ofString "amount") expr) Q E s := by
  obtain ⟨⟨idx, h1, h2, h3, t1, t2, t3, t4, t5, t6, n, hi, hdx, oi, od⟩, hm, ha, hns⟩ := I
  replace hi := hs _ hi oi
  replace hdx := hs _ hdx od
  revert KX; k_fill; intro KX
  cases sec
  · have q := inst_N N (C := 501) hi hdx
    refine' get_own F KX q ?k4 ?k5 ?k6 ?k7 ?k8 ?k9 ?_
    (case k4 => k_is)
    (case k5 => k_is)
    (case k6 => k_is)
    (case k7 => k_is)
    (case k8 => k_get)
    (case k9 => k_handed)
    exact h _
  · have q := inst_N N (C := 518) hi hdx
    refine' get_own F KX q ?k4 ?k5 ?k6 ?k7 ?k8 ?k9 ?_
    (case k4 => k_is)
    (case k5 => k_is)
    (case k6 => k_is)
    (case k7 => k_is)
    (case k8 => k_get)
    (case k9 => k_handed)
    exact h _
theorem item_mkey {pl : Sem Bool} {Q : Value × List Value → Shared → Prop} (F : Fr h₀ L s.heap m) (KX : (Mine.hd1.heap_39 w.params).In h₀) (N : News h₀ L s.heap news) (I : ItemAt news₀ S X V it sec ns am mu) (hs : ∀ q ∈ news₀, Off S X V q.1 → q ∈ news)
    (h : Q (.ref 458, [.ref it]) s) : wpAny (model PySem.Challenge.rw_ji0060_01.row.prog w) A (getMethod (.ref it) (Str.ofString "key_for") pl) Q E s := by
  obtain ⟨⟨idx, h1, h2, h3, t1, t2, t3, t4, t5, t6, n, hi, hdx, oi, od⟩, hm, ha, hns⟩ := I
  replace hi := hs _ hi oi
  replace hdx := hs _ hdx od
  revert KX; k_fill; intro KX
  cases sec
  · have q := inst_N N (C := 501) hi hdx
    refine' method_inst F KX q ?k4 ?k5 ?k6 ?k7 h
    (case k4 => k_is)
    (case k5 => k_is)
    (case k6 => k_is)
    (case k7 => k_get)
  · have q := inst_N N (C := 518) hi hdx
    refine' method_inst F KX q ?k4 ?k5 ?k6 ?k7 h
    (case k4 => k_is)
    (case k5 => k_is)
    (case k6 => k_is)
    (case k7 => k_get)
theorem item_mexp {pl : Sem Bool} {Q : Value × List Value → Shared → Prop} (F : Fr h₀ L s.heap m) (KX : (Mine.hd1.heap_39 w.params).In h₀) (N : News h₀ L s.heap news) (I : ItemAt news₀ S X V it sec ns am mu) (hs : ∀ q ∈ news₀, Off S X V q.1 → q ∈ news)
    (h : Q (.ref 451, [.ref it]) s) : wpAny (model PySem.Challenge.rw_ji0060_01.row.prog w) A (getMethod (.ref it) (Str.ofString "get_expiry") pl) Q E s := by
  obtain ⟨⟨idx, h1, h2, h3, t1, t2, t3, t4, t5, t6, n, hi, hdx, oi, od⟩, hm, ha, hns⟩ := I
  replace hi := hs _ hi oi
  replace hdx := hs _ hdx od
  revert KX; k_fill; intro KX
  cases sec
  · have q := inst_N N (C := 501) hi hdx
    refine' method_inst F KX q ?k4 ?k5 ?k6 ?k7 h
    (case k4 => k_is)
    (case k5 => k_is)
    (case k6 => k_is)
    (case k7 => k_get)
  · have q := inst_N N (C := 518) hi hdx
    refine' method_inst F KX q ?k4 ?k5 ?k6 ?k7 h
    (case k4 => k_is)
    (case k5 => k_is)
    (case k6 => k_is)
    (case k7 => k_get)
end
theorem keyOf_len {sec : Bool} {ns : Str} {names : List Str} {am mu : Int} {news : List (Addr × Obj)} {S X V it nt : Addr} (I : ItemAt news S X V it sec ns am mu) (J : NamesAt news S X V nt names) : (keyOf sec ns names am mu).length ≤ 1000 := by
  obtain ⟨_, hm, ha, hns⟩ := I
  have la : (itx am).length ≤ 3 := toString_length_le ha.1 (by decide) ha.2
  have lm : (itx mu).length ≤ 3 := toString_length_le hm.1 (by decide) hm.2
  have lg : (granOf sec).length ≤ 6 := by cases sec <;> decide
  have l0 : Str.empty.length = 0 := rfl
  have l1 : (Str.ofString "/").length = 1 := rfl
  unfold keyOf ikey
  rw [Str.length_append, Str.length_append, Str.length_append]
  rcases J with ⟨ont, ⟨n1, t7, rfl, b1, hnt⟩ | ⟨n1, n2, t7, t8, rfl, b1, b2, hnt⟩⟩
  · have := len_join_le (sep := Str.ofString "/") (ys := [n1] ++ [itx am, itx mu, granOf sec]) (n := 116) (by unfold Weighs; simp only [List.cons_append, List.nil_append, List.map_cons, List.map_nil, List.sum_cons, List.sum_nil, List.length_cons, List.length_nil]; omega) (by decide)
    omega
  · have := len_join_le (sep := Str.ofString "/") (ys := [n1, n2] ++ [itx am, itx mu, granOf sec]) (n := 216) (by unfold Weighs; simp only [List.cons_append, List.nil_append, List.map_cons, List.map_nil, List.sum_cons, List.sum_nil, List.length_cons, List.length_nil]; omega) (by decide)
    omega

end

theorem said_itemat : True := by
  k_with "getMethod ref" => (k_here; k_dflt (first
      | ((with_reducible show wpAny _ _ (getMethod (Value.ref _) (Str.ofString "key_for") _) _ _ _); refine' item_mkey ?zyF ?zyX ?zyN ?zyI ?zys ?_; (case zyF => k_asm); (case zyX => k_asm); (case zyN => k_asm); (case zyI => assumption); (case zys => walk_at "m sub"); k_whole)
      | ((with_reducible show wpAny _ _ (getMethod (Value.ref _) (Str.ofString "get_expiry") _) _ _ _); refine' item_mexp ?zyF ?zyX ?zyN ?zyI ?zys ?_; (case zyF => k_asm); (case zyX => k_asm); (case zyN => k_asm); (case zyI => assumption); (case zys => walk_at "m sub"); k_whole)))
  k_with "getAttr ref" => (k_here; (with_reducible show wpAny _ _ (getAttr (Value.ref _) (Str.ofString "amount") _) _ _ _); k_dflt (refine' item_amount ?zyF ?zyX ?zyN ?zyI ?zys ?_; (case zyF => k_asm); (case zyX => k_asm); (case zyN => k_asm); (case zyI => assumption); (case zys => walk_at "m sub"); k_whole); (intro r'; (try dsimp only)))
  k_with "call ref" => (k_here; (with_reducible show wpAny _ _ (call (Value.ref 458) _) _ _ _); k_dflt (refine' item_key ?zyB ?zyF ?zyX ?zyT ?zyk ?zyN ?zyI ?zyJ ?zys ?zyd ?zyu ?_; (case zyB => k_asm); (case zyF => k_asm); (case zyX => k_asm); (case zyT => k_asm); (case zyk => first | exact rfl | assumption); (case zyN => k_asm); (case zyI => assumption); (case zyJ => assumption); (case zys => walk_at "m sub"); (case zyd => exact Nat.le_of_ble_eq_true rfl); (case zyu => exact Nat.le_of_ble_eq_true rfl); k_whole); (intro r' h' tk' F' N'; (try dsimp only at N'); (try dsimp only); (try k_sweep)))
  k_with "call ref" => (k_here; (with_reducible show wpAny _ _ (call (Value.ref 451) _) _ _ _); k_dflt (refine' item_exp ?zyB ?zyF ?zyX ?zyT ?zyk ?zyN ?zyI ?zys ?zyd ?zyu ?_; (case zyB => k_asm); (case zyF => k_asm); (case zyX => k_asm); (case zyT => k_asm); (case zyk => first | exact rfl | assumption); (case zyN => k_asm); (case zyI => assumption); (case zys => walk_at "m sub"); (case zyd => exact Nat.le_of_ble_eq_true rfl); (case zyu => exact Nat.le_of_ble_eq_true rfl); k_whole); (intro r' h' tk' F' N'; (try dsimp only at N'); (try dsimp only); (try k_sweep)))
  trivial
section
section
variable {w : World} {p : Program} {loose : List Str} {mean : ExcName → Option Value} {mg mb : Str → Option Value} {dp un : Nat} {gd : Option (List Code)} {cn : Str} {cs : Scope} {a : Addr} {ccd : Value} {cl : List (Str × Addr)} {outer : List Env} {A₀ : Around} {base h₀ : Heap} {L : Addr} {m : Str → Option Value} {s : Shared} {Q E : Value → Shared → Prop}
  (B : Below A₀ base outer h₀) (F : Fr h₀ L s.heap m) (KX : (Mine.hd1.heap_39 w.params).In h₀) (T : Top p loose mean mg mb h₀) (hk : cs.kind = .function)
include B F KX T hk


theorem shit_spec {news : List (Addr × Obj)} {oS oX : Obj} {g1 : Obj → List (Addr × Obj)} {g2 : Obj → Obj → List (Addr × Obj)} {f x : Str → Option Int} {nS nX : Nat} {st S X V clk lim it nt : Addr} {sec : Bool} {ns key : Str} {names : List Str} {am mu t e : Int} {pk ck : Str} {cost : Int} {tc : Tok}
    (N : News h₀ L s.heap news) (O : Store w news st S X V clk t) (Li : LimAt news S X V 296 lim st) (I : ItemAt news S X V it sec ns am mu) (J : NamesAt news S X V nt names) (U1 : UpdF S oS news g1) (U2 : ∀ o, UpdF X oX (g1 o) (g2 o))
    (hS : IntD PySem.Challenge.rw_ji0060_01.row.prog w oS f nS) (hX : IntD PySem.Challenge.rw_ji0060_01.row.prog w oX x nX) (zS : nS + 1 ≤ sizeLine) (zX : nX + 1 ≤ sizeLine) (ee : e = unitOf sec * mu) (ek : key = keyOf sec ns names am mu) (he : 0 < e) (he2 : e < 1000000) (het : e ≤ t) (ht : t < 1000000000000) (epk : pk = wkey key ((t - e).fdiv e)) (eck : ck = wkey key (t.fdiv e)) (hf : ∀ j, 0 ≤ (f j).getD 0 ∧ (f j).getD 0 ≤ 1000000) (hd : dp ≤ 820) (hu : un ≤ 8200)
    (ret : ∀ b f' x' oS' oX' h' tk', AcqPost f x pk ck t e am cost b f' x' → Fr h₀ L h' m → News h₀ L h' (g2 oS' oX') → IntD PySem.Challenge.rw_ji0060_01.row.prog w oS' f' (nS + 1) → IntD PySem.Challenge.rw_ji0060_01.row.prog w oX' x' (nX + 1) → Q (.bool b) { s with heap := h', toks := tk' }) :
    wpAny (model PySem.Challenge.rw_ji0060_01.row.prog w) (ktrTop dp un gd cn cs L a ccd cl outer) (call (.ref 266) [.ref lim, .ref it, .ref nt, .int cost tc]) Q E s := by
  subst epk eck ee ek
  refine lower ?_ hd hu
  obtain ⟨frz, n1, n2, N', sub, mem⟩ := split2 O.xs U1 U2 N
  have O' : Store w frz st S X V clk t := O.sub (fun q hq ho => sub q hq ho.1 ho.2.1)
  have I' := I.sub (news' := frz) (fun q hq ho => sub q hq ho.1 ho.2.1)
  have J' := J.sub (news' := frz) (fun q hq ho => sub q hq ho.1 ho.2.1)
  have Li' := Li.sub (news' := frz) (fun q hq ho => sub q hq ho.1 ho.2.1)
  have hkl := keyOf_len I' J'
  clear N U1 U2 sub O I J Li
  obtain ⟨ldx, lh, lt, ln, hlim, hldx, _, _⟩ := Li'
  have O'' := O'
  obtain ⟨⟨dx, h1, h2, h3, h4, t1, t2, t3, t4, nn, oc, od, fd, sl, hst, hck, hdx, _, _, _⟩, _, sx, xv, lS, lX, lV⟩ := O''
  revert KX; k_fill; intro KX
  refine wpAny_call ?_
  walk_at "m enter"
  k_steps
  exact ret _ _ _ _ _ _ _ (by assumption) (by assumption) (news_of (by assumption) (mem _ _)) (by assumption) (by assumption)
end

end

theorem said_shit : True := by
  k_with "call ref" => (k_here; (with_reducible show wpAny _ _ (call (Value.ref 266) _) _ _ _); k_dflt (refine' shit_spec ?zyB ?zyF ?zyX ?zyT ?zyk ?zyN ?zyO ?zyLi ?zyI ?zyJ ?zyU1 ?zyU2 ?zyhS ?zyhX ?zyzS ?zyzX ?zyee ?zyek ?zyhe ?zyhe2 ?zyhet ?zyht ?zyepk ?zyeck ?zyhf ?zyd ?zyu ?_; (case zyB => k_asm); (case zyF => k_asm); (case zyX => k_asm); (case zyT => k_asm); (case zyk => first | exact rfl | assumption); (case zyN => k_asm); (case zyO => refine' Store.sub ?zyo ?zys; (case zyo => assumption); (case zys => walk_at "m sub")); (case zyU1 => k_updF); (case zyU2 => (intro o1; (try dsimp only); k_updF)); (case zyhS => assumption); (case zyhX => assumption); (case zyzS => first | assumption | omega); (case zyzX => first | assumption | omega); (case zyLi => refine' LimAt.sub ?zyo ?zys; (case zyo => assumption); (case zys => walk_at "m sub")); (case zyI => refine' ItemAt.sub ?zyo ?zys; (case zyo => assumption); (case zys => walk_at "m sub")); (case zyJ => refine' NamesAt.sub ?zyo ?zys; (case zyo => assumption); (case zys => walk_at "m sub")); (case zyee => first | assumption | rfl); (case zyek => first | assumption | rfl); (case zyhe => walk_at "m om"); (case zyhe2 => walk_at "m om"); (case zyhet => walk_at "m om"); (case zyht => walk_at "m om"); (case zyepk => first | assumption | rfl); (case zyeck => first | assumption | rfl); (case zyhf => assumption); (case zyd => exact Nat.le_of_ble_eq_true rfl); (case zyu => exact Nat.le_of_ble_eq_true rfl); k_whole); (intro b' f' x' oS' oX' h' tk' ap' F' N' hS' hX'; (try dsimp only at N'); (try dsimp only); (try k_sweep)))
  trivial
section
section
variable {w : World} {p : Program} {loose : List Str} {mean : ExcName → Option Value} {mg mb : Str → Option Value} {dp un : Nat} {gd : Option (List Code)} {cn : Str} {cs : Scope} {a : Addr} {ccd : Value} {cl : List (Str × Addr)} {outer : List Env} {A₀ : Around} {base h₀ : Heap} {L : Addr} {m : Str → Option Value} {s : Shared} {Q E : Value → Shared → Prop}
  (B : Below A₀ base outer h₀) (F : Fr h₀ L s.heap m) (KX : (Mine.hd1.heap_39 w.params).In h₀) (T : Top p loose mean mg mb h₀) (hk : cs.kind = .function)
include B F KX T hk


end
noncomputable def stest_spec_St (w : World) (p : Program) (loose : List Str) (mean : ExcName → Option Value) (mg : Str → Option Value) (mb : Str → Option Value) (dp : Nat) (un : Nat) (gd : Option (List Code)) (cn : Str) (cs : Scope) (a : Addr) (ccd : Value) (cl : List (Str × Addr)) (outer : List Env) (A₀ : Around) (base : Heap) (h₀ : Heap) (L : Addr) (m : Str → Option Value) (s : Shared) (Q : Value → Shared → Prop) (E : Value → Shared → Prop) (news : List (Addr × Obj)) (oS : Obj) (oX : Obj) (g1 : Obj → List (Addr × Obj)) (g2 : Obj → Obj → List (Addr × Obj)) (f : Str → Option Int) (x : Str → Option Int) (nS : Nat) (nX : Nat) (st : Addr) (S : Addr) (X : Addr) (V : Addr) (clk : Addr) (lim : Addr) (it : Addr) (nt : Addr) (sec : Bool) (ns : Str) (names : List Str) (am : Int) (mu : Int) (t : Int) (cost : Int) (tc : Tok) : Prop := ∀ (key : Str) (e : Int) (pk : Str) (ck : Str) (B : Below A₀ base outer h₀) (F : Fr h₀ L s.heap m) (KX : (Mine.hd1.heap_39 w.params).In h₀) (T : Top p loose mean mg mb h₀) (hk : cs.kind = .function) (N : News h₀ L s.heap news) (O : Store w news st S X V clk t) (Li : LimAt news S X V 296 lim st) (I : ItemAt news S X V it sec ns am mu) (J : NamesAt news S X V nt names) (U1 : UpdF S oS news g1) (U2 : ∀ o, UpdF X oX (g1 o) (g2 o)) (hS : IntD PySem.Challenge.rw_ji0060_01.row.prog w oS f nS) (hX : IntD PySem.Challenge.rw_ji0060_01.row.prog w oX x nX) (zS : nS + 1 ≤ sizeLine) (zX : nX + 1 ≤ sizeLine) (ee : e = unitOf sec * mu) (ek : key = keyOf sec ns names am mu) (he : 0 < e) (he2 : e < 1000000) (het : e ≤ t) (ht : t < 1000000000000) (epk : pk = wkey key ((t - e).fdiv e)) (eck : ck = wkey key (t.fdiv e)) (hf : ∀ j, 0 ≤ (f j).getD 0 ∧ (f j).getD 0 ≤ 1000000) (hc : -1000000 ≤ cost ∧ cost ≤ 1000000) (hd : dp ≤ 820) (hu : un ≤ 8200) (retH : ∀ oS' oX' h' tk', Fr h₀ L h' m → News h₀ L h' (g2 oS' oX') → IntD PySem.Challenge.rw_ji0060_01.row.prog w oS' (F2 f x pk ck t) (nS + 1) → IntD PySem.Challenge.rw_ji0060_01.row.prog w oX' (F2 x x pk ck t) (nX + 1) → Q (.bool (decide (wF f x pk ck t e < am - cost + 1))) { s with heap := h', toks := tk' }), wpAny (model PySem.Challenge.rw_ji0060_01.row.prog w) (ktrTop dp un gd cn cs L a ccd cl outer) (call (.ref 275) [.ref lim, .ref it, .ref nt, .int cost tc]) Q E s
namespace c_stest_spec
noncomputable def zcv : (World) × (Program) × (List Str) × (ExcName → Option Value) × (Str → Option Value) × (Str → Option Value) × (Nat) × (Nat) × (Option (List Code)) × (Str) × (Scope) × (Addr) × (Value) × (List (Str × Addr)) × (List Env) × (Around) × (Heap) × (Heap) × (Addr) × (Str → Option Value) × (Shared) × (Value → Shared → Prop) × (Value → Shared → Prop) × (List (Addr × Obj)) × (Obj) × (Obj) × (Obj → List (Addr × Obj)) × (Obj → Obj → List (Addr × Obj)) × (Str → Option Int) × (Str → Option Int) × (Nat) × (Nat) × (Addr) × (Addr) × (Addr) × (Addr) × (Addr) × (Addr) × (Addr) × (Addr) × (Bool) × (Str) × (List Str) × (Int) × (Int) × (Int) × (Int) × (Tok) := pick (neP neW (neP inferInstance (neP inferInstance (neP inferInstance (neP inferInstance (neP inferInstance (neP inferInstance (neP inferInstance (neP inferInstance (neP inferInstance (neP inferInstance (neP inferInstance (neP inferInstance (neP inferInstance (neP inferInstance (neP neA (neP inferInstance (neP inferInstance (neP inferInstance (neP inferInstance (neP neS (neP inferInstance (neP inferInstance (neP inferInstance (neP inferInstance (neP inferInstance (neP inferInstance (neP inferInstance (neP inferInstance (neP inferInstance (neP inferInstance (neP inferInstance (neP inferInstance (neP inferInstance (neP inferInstance (neP inferInstance (neP inferInstance (neP inferInstance (neP inferInstance (neP inferInstance (neP inferInstance (neP inferInstance (neP inferInstance (neP inferInstance (neP inferInstance (neP inferInstance (neP inferInstance inferInstance))))))))))))))))))))))))))))))))))))))))))))))) (fun v : (World) × (Program) × (List Str) × (ExcName → Option Value) × (Str → Option Value) × (Str → Option Value) × (Nat) × (Nat) × (Option (List Code)) × (Str) × (Scope) × (Addr) × (Value) × (List (Str × Addr)) × (List Env) × (Around) × (Heap) × (Heap) × (Addr) × (Str → Option Value) × (Shared) × (Value → Shared → Prop) × (Value → Shared → Prop) × (List (Addr × Obj)) × (Obj) × (Obj) × (Obj → List (Addr × Obj)) × (Obj → Obj → List (Addr × Obj)) × (Str → Option Int) × (Str → Option Int) × (Nat) × (Nat) × (Addr) × (Addr) × (Addr) × (Addr) × (Addr) × (Addr) × (Addr) × (Addr) × (Bool) × (Str) × (List Str) × (Int) × (Int) × (Int) × (Int) × (Tok) => stest_spec_St (v.1) (v.2.1) (v.2.2.1) (v.2.2.2.1) (v.2.2.2.2.1) (v.2.2.2.2.2.1) (v.2.2.2.2.2.2.1) (v.2.2.2.2.2.2.2.1) (v.2.2.2.2.2.2.2.2.1) (v.2.2.2.2.2.2.2.2.2.1) (v.2.2.2.2.2.2.2.2.2.2.1) (v.2.2.2.2.2.2.2.2.2.2.2.1) (v.2.2.2.2.2.2.2.2.2.2.2.2.1) (v.2.2.2.2.2.2.2.2.2.2.2.2.2.1) (v.2.2.2.2.2.2.2.2.2.2.2.2.2.2.1) (v.2.2.2.2.2.2.2.2.2.2.2.2.2.2.2.1) (v.2.2.2.2.2.2.2.2.2.2.2.2.2.2.2.2.1) (v.2.2.2.2.2.2.2.2.2.2.2.2.2.2.2.2.2.1) (v.2.2.2.2.2.2.2.2.2.2.2.2.2.2.2.2.2.2.1) (v.2.2.2.2.2.2.2.2.2.2.2.2.2.2.2.2.2.2.2.1) (v.2.2.2.2.2.2.2.2.2.2.2.2.2.2.2.2.2.2.2.2.1) (v.2.2.2.2.2.2.2.2.2.2.2.2.2.2.2.2.2.2.2.2.2.1) (v.2.2.2.2.2.2.2.2.2.2.2.2.2.2.2.2.2.2.2.2.2.2.1) (v.2.2.2.2.2.2.2.2.2.2.2.2.2.2.2.2.2.2.2.2.2.2.2.1) (v.2.2.2.2.2.2.2.2.2.2.2.2.2.2.2.2.2.2.2.2.2.2.2.2.1) (v.2.2.2.2.2.2.2.2.2.2.2.2.2.2.2.2.2.2.2.2.2.2.2.2.2.1) (v.2.2.2.2.2.2.2.2.2.2.2.2.2.2.2.2.2.2.2.2.2.2.2.2.2.2.1) (v.2.2.2.2.2.2.2.2.2.2.2.2.2.2.2.2.2.2.2.2.2.2.2.2.2.2.2.1) (v.2.2.2.2.2.2.2.2.2.2.2.2.2.2.2.2.2.2.2.2.2.2.2.2.2.2.2.2.1) (v.2.2.2.2.2.2.2.2.2.2.2.2.2.2.2.2.2.2.2.2.2.2.2.2.2.2.2.2.2.1) (v.2.2.2.2.2.2.2.2.2.2.2.2.2.2.2.2.2.2.2.2.2.2.2.2.2.2.2.2.2.2.1) (v.2.2.2.2.2.2.2.2.2.2.2.2.2.2.2.2.2.2.2.2.2.2.2.2.2.2.2.2.2.2.2.1) (v.2.2.2.2.2.2.2.2.2.2.2.2.2.2.2.2.2.2.2.2.2.2.2.2.2.2.2.2.2.2.2.2.1) (v.2.2.2.2.2.2.2.2.2.2.2.2.2.2.2.2.2.2.2.2.2.2.2.2.2.2.2.2.2.2.2.2.2.1) (v.2.2.2.2.2.2.2.2.2.2.2.2.2.2.2.2.2.2.2.2.2.2.2.2.2.2.2.2.2.2.2.2.2.2.1) (v.2.2.2.2.2.2.2.2.2.2.2.2.2.2.2.2.2.2.2.2.2.2.2.2.2.2.2.2.2.2.2.2.2.2.2.1) (v.2.2.2.2.2.2.2.2.2.2.2.2.2.2.2.2.2.2.2.2.2.2.2.2.2.2.2.2.2.2.2.2.2.2.2.2.1) (v.2.2.2.2.2.2.2.2.2.2.2.2.2.2.2.2.2.2.2.2.2.2.2.2.2.2.2.2.2.2.2.2.2.2.2.2.2.1) (v.2.2.2.2.2.2.2.2.2.2.2.2.2.2.2.2.2.2.2.2.2.2.2.2.2.2.2.2.2.2.2.2.2.2.2.2.2.2.1) (v.2.2.2.2.2.2.2.2.2.2.2.2.2.2.2.2.2.2.2.2.2.2.2.2.2.2.2.2.2.2.2.2.2.2.2.2.2.2.2.1) (v.2.2.2.2.2.2.2.2.2.2.2.2.2.2.2.2.2.2.2.2.2.2.2.2.2.2.2.2.2.2.2.2.2.2.2.2.2.2.2.2.1) (v.2.2.2.2.2.2.2.2.2.2.2.2.2.2.2.2.2.2.2.2.2.2.2.2.2.2.2.2.2.2.2.2.2.2.2.2.2.2.2.2.2.1) (v.2.2.2.2.2.2.2.2.2.2.2.2.2.2.2.2.2.2.2.2.2.2.2.2.2.2.2.2.2.2.2.2.2.2.2.2.2.2.2.2.2.2.1) (v.2.2.2.2.2.2.2.2.2.2.2.2.2.2.2.2.2.2.2.2.2.2.2.2.2.2.2.2.2.2.2.2.2.2.2.2.2.2.2.2.2.2.2.1) (v.2.2.2.2.2.2.2.2.2.2.2.2.2.2.2.2.2.2.2.2.2.2.2.2.2.2.2.2.2.2.2.2.2.2.2.2.2.2.2.2.2.2.2.2.1) (v.2.2.2.2.2.2.2.2.2.2.2.2.2.2.2.2.2.2.2.2.2.2.2.2.2.2.2.2.2.2.2.2.2.2.2.2.2.2.2.2.2.2.2.2.2.1) (v.2.2.2.2.2.2.2.2.2.2.2.2.2.2.2.2.2.2.2.2.2.2.2.2.2.2.2.2.2.2.2.2.2.2.2.2.2.2.2.2.2.2.2.2.2.2.1) (v.2.2.2.2.2.2.2.2.2.2.2.2.2.2.2.2.2.2.2.2.2.2.2.2.2.2.2.2.2.2.2.2.2.2.2.2.2.2.2.2.2.2.2.2.2.2.2)) 0
theorem zal (h : stest_spec_St (zcv.1) (zcv.2.1) (zcv.2.2.1) (zcv.2.2.2.1) (zcv.2.2.2.2.1) (zcv.2.2.2.2.2.1) (zcv.2.2.2.2.2.2.1) (zcv.2.2.2.2.2.2.2.1) (zcv.2.2.2.2.2.2.2.2.1) (zcv.2.2.2.2.2.2.2.2.2.1) (zcv.2.2.2.2.2.2.2.2.2.2.1) (zcv.2.2.2.2.2.2.2.2.2.2.2.1) (zcv.2.2.2.2.2.2.2.2.2.2.2.2.1) (zcv.2.2.2.2.2.2.2.2.2.2.2.2.2.1) (zcv.2.2.2.2.2.2.2.2.2.2.2.2.2.2.1) (zcv.2.2.2.2.2.2.2.2.2.2.2.2.2.2.2.1) (zcv.2.2.2.2.2.2.2.2.2.2.2.2.2.2.2.2.1) (zcv.2.2.2.2.2.2.2.2.2.2.2.2.2.2.2.2.2.1) (zcv.2.2.2.2.2.2.2.2.2.2.2.2.2.2.2.2.2.2.1) (zcv.2.2.2.2.2.2.2.2.2.2.2.2.2.2.2.2.2.2.2.1) (zcv.2.2.2.2.2.2.2.2.2.2.2.2.2.2.2.2.2.2.2.2.1) (zcv.2.2.2.2.2.2.2.2.2.2.2.2.2.2.2.2.2.2.2.2.2.1) (zcv.2.2.2.2.2.2.2.2.2.2.2.2.2.2.2.2.2.2.2.2.2.2.1) (zcv.2.2.2.2.2.2.2.2.2.2.2.2.2.2.2.2.2.2.2.2.2.2.2.1) (zcv.2.2.2.2.2.2.2.2.2.2.2.2.2.2.2.2.2.2.2.2.2.2.2.2.1) (zcv.2.2.2.2.2.2.2.2.2.2.2.2.2.2.2.2.2.2.2.2.2.2.2.2.2.1) (zcv.2.2.2.2.2.2.2.2.2.2.2.2.2.2.2.2.2.2.2.2.2.2.2.2.2.2.1) (zcv.2.2.2.2.2.2.2.2.2.2.2.2.2.2.2.2.2.2.2.2.2.2.2.2.2.2.2.1) (zcv.2.2.2.2.2.2.2.2.2.2.2.2.2.2.2.2.2.2.2.2.2.2.2.2.2.2.2.2.1) (zcv.2.2.2.2.2.2.2.2.2.2.2.2.2.2.2.2.2.2.2.2.2.2.2.2.2.2.2.2.2.1) (zcv.2.2.2.2.2.2.2.2.2.2.2.2.2.2.2.2.2.2.2.2.2.2.2.2.2.2.2.2.2.2.1) (zcv.2.2.2.2.2.2.2.2.2.2.2.2.2.2.2.2.2.2.2.2.2.2.2.2.2.2.2.2.2.2.2.1) (zcv.2.2.2.2.2.2.2.2.2.2.2.2.2.2.2.2.2.2.2.2.2.2.2.2.2.2.2.2.2.2.2.2.1) (zcv.2.2.2.2.2.2.2.2.2.2.2.2.2.2.2.2.2.2.2.2.2.2.2.2.2.2.2.2.2.2.2.2.2.1) (zcv.2.2.2.2.2.2.2.2.2.2.2.2.2.2.2.2.2.2.2.2.2.2.2.2.2.2.2.2.2.2.2.2.2.2.1) (zcv.2.2.2.2.2.2.2.2.2.2.2.2.2.2.2.2.2.2.2.2.2.2.2.2.2.2.2.2.2.2.2.2.2.2.2.1) (zcv.2.2.2.2.2.2.2.2.2.2.2.2.2.2.2.2.2.2.2.2.2.2.2.2.2.2.2.2.2.2.2.2.2.2.2.2.1) (zcv.2.2.2.2.2.2.2.2.2.2.2.2.2.2.2.2.2.2.2.2.2.2.2.2.2.2.2.2.2.2.2.2.2.2.2.2.2.1) (zcv.2.2.2.2.2.2.2.2.2.2.2.2.2.2.2.2.2.2.2.2.2.2.2.2.2.2.2.2.2.2.2.2.2.2.2.2.2.2.1) (zcv.2.2.2.2.2.2.2.2.2.2.2.2.2.2.2.2.2.2.2.2.2.2.2.2.2.2.2.2.2.2.2.2.2.2.2.2.2.2.2.1) (zcv.2.2.2.2.2.2.2.2.2.2.2.2.2.2.2.2.2.2.2.2.2.2.2.2.2.2.2.2.2.2.2.2.2.2.2.2.2.2.2.2.1) (zcv.2.2.2.2.2.2.2.2.2.2.2.2.2.2.2.2.2.2.2.2.2.2.2.2.2.2.2.2.2.2.2.2.2.2.2.2.2.2.2.2.2.1) (zcv.2.2.2.2.2.2.2.2.2.2.2.2.2.2.2.2.2.2.2.2.2.2.2.2.2.2.2.2.2.2.2.2.2.2.2.2.2.2.2.2.2.2.1) (zcv.2.2.2.2.2.2.2.2.2.2.2.2.2.2.2.2.2.2.2.2.2.2.2.2.2.2.2.2.2.2.2.2.2.2.2.2.2.2.2.2.2.2.2.1) (zcv.2.2.2.2.2.2.2.2.2.2.2.2.2.2.2.2.2.2.2.2.2.2.2.2.2.2.2.2.2.2.2.2.2.2.2.2.2.2.2.2.2.2.2.2.1) (zcv.2.2.2.2.2.2.2.2.2.2.2.2.2.2.2.2.2.2.2.2.2.2.2.2.2.2.2.2.2.2.2.2.2.2.2.2.2.2.2.2.2.2.2.2.2.1) (zcv.2.2.2.2.2.2.2.2.2.2.2.2.2.2.2.2.2.2.2.2.2.2.2.2.2.2.2.2.2.2.2.2.2.2.2.2.2.2.2.2.2.2.2.2.2.2.1) (zcv.2.2.2.2.2.2.2.2.2.2.2.2.2.2.2.2.2.2.2.2.2.2.2.2.2.2.2.2.2.2.2.2.2.2.2.2.2.2.2.2.2.2.2.2.2.2.2)) : ∀ u : (World) × (Program) × (List Str) × (ExcName → Option Value) × (Str → Option Value) × (Str → Option Value) × (Nat) × (Nat) × (Option (List Code)) × (Str) × (Scope) × (Addr) × (Value) × (List (Str × Addr)) × (List Env) × (Around) × (Heap) × (Heap) × (Addr) × (Str → Option Value) × (Shared) × (Value → Shared → Prop) × (Value → Shared → Prop) × (List (Addr × Obj)) × (Obj) × (Obj) × (Obj → List (Addr × Obj)) × (Obj → Obj → List (Addr × Obj)) × (Str → Option Int) × (Str → Option Int) × (Nat) × (Nat) × (Addr) × (Addr) × (Addr) × (Addr) × (Addr) × (Addr) × (Addr) × (Addr) × (Bool) × (Str) × (List Str) × (Int) × (Int) × (Int) × (Int) × (Tok), stest_spec_St (u.1) (u.2.1) (u.2.2.1) (u.2.2.2.1) (u.2.2.2.2.1) (u.2.2.2.2.2.1) (u.2.2.2.2.2.2.1) (u.2.2.2.2.2.2.2.1) (u.2.2.2.2.2.2.2.2.1) (u.2.2.2.2.2.2.2.2.2.1) (u.2.2.2.2.2.2.2.2.2.2.1) (u.2.2.2.2.2.2.2.2.2.2.2.1) (u.2.2.2.2.2.2.2.2.2.2.2.2.1) (u.2.2.2.2.2.2.2.2.2.2.2.2.2.1) (u.2.2.2.2.2.2.2.2.2.2.2.2.2.2.1) (u.2.2.2.2.2.2.2.2.2.2.2.2.2.2.2.1) (u.2.2.2.2.2.2.2.2.2.2.2.2.2.2.2.2.1) (u.2.2.2.2.2.2.2.2.2.2.2.2.2.2.2.2.2.1) (u.2.2.2.2.2.2.2.2.2.2.2.2.2.2.2.2.2.2.1) (u.2.2.2.2.2.2.2.2.2.2.2.2.2.2.2.2.2.2.2.1) (u.2.2.2.2.2.2.2.2.2.2.2.2.2.2.2.2.2.2.2.2.1) (u.2.2.2.2.2.2.2.2.2.2.2.2.2.2.2.2.2.2.2.2.2.1) (u.2.2.2.2.2.2.2.2.2.2.2.2.2.2.2.2.2.2.2.2.2.2.1) (u.2.2.2.2.2.2.2.2.2.2.2.2.2.2.2.2.2.2.2.2.2.2.2.1) (u.2.2.2.2.2.2.2.2.2.2.2.2.2.2.2.2.2.2.2.2.2.2.2.2.1) (u.2.2.2.2.2.2.2.2.2.2.2.2.2.2.2.2.2.2.2.2.2.2.2.2.2.1) (u.2.2.2.2.2.2.2.2.2.2.2.2.2.2.2.2.2.2.2.2.2.2.2.2.2.2.1) (u.2.2.2.2.2.2.2.2.2.2.2.2.2.2.2.2.2.2.2.2.2.2.2.2.2.2.2.1) (u.2.2.2.2.2.2.2.2.2.2.2.2.2.2.2.2.2.2.2.2.2.2.2.2.2.2.2.2.1) (u.2.2.2.2.2.2.2.2.2.2.2.2.2.2.2.2.2.2.2.2.2.2.2.2.2.2.2.2.2.1) (u.2.2.2.2.2.2.2.2.2.2.2.2.2.2.2.2.2.2.2.2.2.2.2.2.2.2.2.2.2.2.1) (u.2.2.2.2.2.2.2.2.2.2.2.2.2.2.2.2.2.2.2.2.2.2.2.2.2.2.2.2.2.2.2.1) (u.2.2.2.2.2.2.2.2.2.2.2.2.2.2.2.2.2.2.2.2.2.2.2.2.2.2.2.2.2.2.2.2.1) (u.2.2.2.2.2.2.2.2.2.2.2.2.2.2.2.2.2.2.2.2.2.2.2.2.2.2.2.2.2.2.2.2.2.1) (u.2.2.2.2.2.2.2.2.2.2.2.2.2.2.2.2.2.2.2.2.2.2.2.2.2.2.2.2.2.2.2.2.2.2.1) (u.2.2.2.2.2.2.2.2.2.2.2.2.2.2.2.2.2.2.2.2.2.2.2.2.2.2.2.2.2.2.2.2.2.2.2.1) (u.2.2.2.2.2.2.2.2.2.2.2.2.2.2.2.2.2.2.2.2.2.2.2.2.2.2.2.2.2.2.2.2.2.2.2.2.1) (u.2.2.2.2.2.2.2.2.2.2.2.2.2.2.2.2.2.2.2.2.2.2.2.2.2.2.2.2.2.2.2.2.2.2.2.2.2.1) (u.2.2.2.2.2.2.2.2.2.2.2.2.2.2.2.2.2.2.2.2.2.2.2.2.2.2.2.2.2.2.2.2.2.2.2.2.2.2.1) (u.2.2.2.2.2.2.2.2.2.2.2.2.2.2.2.2.2.2.2.2.2.2.2.2.2.2.2.2.2.2.2.2.2.2.2.2.2.2.2.1) (u.2.2.2.2.2.2.2.2.2.2.2.2.2.2.2.2.2.2.2.2.2.2.2.2.2.2.2.2.2.2.2.2.2.2.2.2.2.2.2.2.1) (u.2.2.2.2.2.2.2.2.2.2.2.2.2.2.2.2.2.2.2.2.2.2.2.2.2.2.2.2.2.2.2.2.2.2.2.2.2.2.2.2.2.1) (u.2.2.2.2.2.2.2.2.2.2.2.2.2.2.2.2.2.2.2.2.2.2.2.2.2.2.2.2.2.2.2.2.2.2.2.2.2.2.2.2.2.2.1) (u.2.2.2.2.2.2.2.2.2.2.2.2.2.2.2.2.2.2.2.2.2.2.2.2.2.2.2.2.2.2.2.2.2.2.2.2.2.2.2.2.2.2.2.1) (u.2.2.2.2.2.2.2.2.2.2.2.2.2.2.2.2.2.2.2.2.2.2.2.2.2.2.2.2.2.2.2.2.2.2.2.2.2.2.2.2.2.2.2.2.1) (u.2.2.2.2.2.2.2.2.2.2.2.2.2.2.2.2.2.2.2.2.2.2.2.2.2.2.2.2.2.2.2.2.2.2.2.2.2.2.2.2.2.2.2.2.2.1) (u.2.2.2.2.2.2.2.2.2.2.2.2.2.2.2.2.2.2.2.2.2.2.2.2.2.2.2.2.2.2.2.2.2.2.2.2.2.2.2.2.2.2.2.2.2.2.1) (u.2.2.2.2.2.2.2.2.2.2.2.2.2.2.2.2.2.2.2.2.2.2.2.2.2.2.2.2.2.2.2.2.2.2.2.2.2.2.2.2.2.2.2.2.2.2.2) := pick_all (P := fun v : (World) × (Program) × (List Str) × (ExcName → Option Value) × (Str → Option Value) × (Str → Option Value) × (Nat) × (Nat) × (Option (List Code)) × (Str) × (Scope) × (Addr) × (Value) × (List (Str × Addr)) × (List Env) × (Around) × (Heap) × (Heap) × (Addr) × (Str → Option Value) × (Shared) × (Value → Shared → Prop) × (Value → Shared → Prop) × (List (Addr × Obj)) × (Obj) × (Obj) × (Obj → List (Addr × Obj)) × (Obj → Obj → List (Addr × Obj)) × (Str → Option Int) × (Str → Option Int) × (Nat) × (Nat) × (Addr) × (Addr) × (Addr) × (Addr) × (Addr) × (Addr) × (Addr) × (Addr) × (Bool) × (Str) × (List Str) × (Int) × (Int) × (Int) × (Int) × (Tok) => stest_spec_St (v.1) (v.2.1) (v.2.2.1) (v.2.2.2.1) (v.2.2.2.2.1) (v.2.2.2.2.2.1) (v.2.2.2.2.2.2.1) (v.2.2.2.2.2.2.2.1) (v.2.2.2.2.2.2.2.2.1) (v.2.2.2.2.2.2.2.2.2.1) (v.2.2.2.2.2.2.2.2.2.2.1) (v.2.2.2.2.2.2.2.2.2.2.2.1) (v.2.2.2.2.2.2.2.2.2.2.2.2.1) (v.2.2.2.2.2.2.2.2.2.2.2.2.2.1) (v.2.2.2.2.2.2.2.2.2.2.2.2.2.2.1) (v.2.2.2.2.2.2.2.2.2.2.2.2.2.2.2.1) (v.2.2.2.2.2.2.2.2.2.2.2.2.2.2.2.2.1) (v.2.2.2.2.2.2.2.2.2.2.2.2.2.2.2.2.2.1) (v.2.2.2.2.2.2.2.2.2.2.2.2.2.2.2.2.2.2.1) (v.2.2.2.2.2.2.2.2.2.2.2.2.2.2.2.2.2.2.2.1) (v.2.2.2.2.2.2.2.2.2.2.2.2.2.2.2.2.2.2.2.2.1) (v.2.2.2.2.2.2.2.2.2.2.2.2.2.2.2.2.2.2.2.2.2.1) (v.2.2.2.2.2.2.2.2.2.2.2.2.2.2.2.2.2.2.2.2.2.2.1) (v.2.2.2.2.2.2.2.2.2.2.2.2.2.2.2.2.2.2.2.2.2.2.2.1) (v.2.2.2.2.2.2.2.2.2.2.2.2.2.2.2.2.2.2.2.2.2.2.2.2.1) (v.2.2.2.2.2.2.2.2.2.2.2.2.2.2.2.2.2.2.2.2.2.2.2.2.2.1) (v.2.2.2.2.2.2.2.2.2.2.2.2.2.2.2.2.2.2.2.2.2.2.2.2.2.2.1) (v.2.2.2.2.2.2.2.2.2.2.2.2.2.2.2.2.2.2.2.2.2.2.2.2.2.2.2.1) (v.2.2.2.2.2.2.2.2.2.2.2.2.2.2.2.2.2.2.2.2.2.2.2.2.2.2.2.2.1) (v.2.2.2.2.2.2.2.2.2.2.2.2.2.2.2.2.2.2.2.2.2.2.2.2.2.2.2.2.2.1) (v.2.2.2.2.2.2.2.2.2.2.2.2.2.2.2.2.2.2.2.2.2.2.2.2.2.2.2.2.2.2.1) (v.2.2.2.2.2.2.2.2.2.2.2.2.2.2.2.2.2.2.2.2.2.2.2.2.2.2.2.2.2.2.2.1) (v.2.2.2.2.2.2.2.2.2.2.2.2.2.2.2.2.2.2.2.2.2.2.2.2.2.2.2.2.2.2.2.2.1) (v.2.2.2.2.2.2.2.2.2.2.2.2.2.2.2.2.2.2.2.2.2.2.2.2.2.2.2.2.2.2.2.2.2.1) (v.2.2.2.2.2.2.2.2.2.2.2.2.2.2.2.2.2.2.2.2.2.2.2.2.2.2.2.2.2.2.2.2.2.2.1) (v.2.2.2.2.2.2.2.2.2.2.2.2.2.2.2.2.2.2.2.2.2.2.2.2.2.2.2.2.2.2.2.2.2.2.2.1) (v.2.2.2.2.2.2.2.2.2.2.2.2.2.2.2.2.2.2.2.2.2.2.2.2.2.2.2.2.2.2.2.2.2.2.2.2.1) (v.2.2.2.2.2.2.2.2.2.2.2.2.2.2.2.2.2.2.2.2.2.2.2.2.2.2.2.2.2.2.2.2.2.2.2.2.2.1) (v.2.2.2.2.2.2.2.2.2.2.2.2.2.2.2.2.2.2.2.2.2.2.2.2.2.2.2.2.2.2.2.2.2.2.2.2.2.2.1) (v.2.2.2.2.2.2.2.2.2.2.2.2.2.2.2.2.2.2.2.2.2.2.2.2.2.2.2.2.2.2.2.2.2.2.2.2.2.2.2.1) (v.2.2.2.2.2.2.2.2.2.2.2.2.2.2.2.2.2.2.2.2.2.2.2.2.2.2.2.2.2.2.2.2.2.2.2.2.2.2.2.2.1) (v.2.2.2.2.2.2.2.2.2.2.2.2.2.2.2.2.2.2.2.2.2.2.2.2.2.2.2.2.2.2.2.2.2.2.2.2.2.2.2.2.2.1) (v.2.2.2.2.2.2.2.2.2.2.2.2.2.2.2.2.2.2.2.2.2.2.2.2.2.2.2.2.2.2.2.2.2.2.2.2.2.2.2.2.2.2.1) (v.2.2.2.2.2.2.2.2.2.2.2.2.2.2.2.2.2.2.2.2.2.2.2.2.2.2.2.2.2.2.2.2.2.2.2.2.2.2.2.2.2.2.2.1) (v.2.2.2.2.2.2.2.2.2.2.2.2.2.2.2.2.2.2.2.2.2.2.2.2.2.2.2.2.2.2.2.2.2.2.2.2.2.2.2.2.2.2.2.2.1) (v.2.2.2.2.2.2.2.2.2.2.2.2.2.2.2.2.2.2.2.2.2.2.2.2.2.2.2.2.2.2.2.2.2.2.2.2.2.2.2.2.2.2.2.2.2.1) (v.2.2.2.2.2.2.2.2.2.2.2.2.2.2.2.2.2.2.2.2.2.2.2.2.2.2.2.2.2.2.2.2.2.2.2.2.2.2.2.2.2.2.2.2.2.2.1) (v.2.2.2.2.2.2.2.2.2.2.2.2.2.2.2.2.2.2.2.2.2.2.2.2.2.2.2.2.2.2.2.2.2.2.2.2.2.2.2.2.2.2.2.2.2.2.2)) h
noncomputable def w : World := zcv.1
noncomputable def p : Program := zcv.2.1
noncomputable def loose : List Str := zcv.2.2.1
noncomputable def mean : ExcName → Option Value := zcv.2.2.2.1
noncomputable def mg : Str → Option Value := zcv.2.2.2.2.1
noncomputable def mb : Str → Option Value := zcv.2.2.2.2.2.1
noncomputable def dp : Nat := zcv.2.2.2.2.2.2.1
noncomputable def un : Nat := zcv.2.2.2.2.2.2.2.1
noncomputable def gd : Option (List Code) := zcv.2.2.2.2.2.2.2.2.1
noncomputable def cn : Str := zcv.2.2.2.2.2.2.2.2.2.1
noncomputable def cs : Scope := zcv.2.2.2.2.2.2.2.2.2.2.1
noncomputable def a : Addr := zcv.2.2.2.2.2.2.2.2.2.2.2.1
noncomputable def ccd : Value := zcv.2.2.2.2.2.2.2.2.2.2.2.2.1
noncomputable def cl : List (Str × Addr) := zcv.2.2.2.2.2.2.2.2.2.2.2.2.2.1
noncomputable def outer : List Env := zcv.2.2.2.2.2.2.2.2.2.2.2.2.2.2.1
noncomputable def A₀ : Around := zcv.2.2.2.2.2.2.2.2.2.2.2.2.2.2.2.1
noncomputable def base : Heap := zcv.2.2.2.2.2.2.2.2.2.2.2.2.2.2.2.2.1
noncomputable def h₀ : Heap := zcv.2.2.2.2.2.2.2.2.2.2.2.2.2.2.2.2.2.1
noncomputable def L : Addr := zcv.2.2.2.2.2.2.2.2.2.2.2.2.2.2.2.2.2.2.1
noncomputable def m : Str → Option Value := zcv.2.2.2.2.2.2.2.2.2.2.2.2.2.2.2.2.2.2.2.1
noncomputable def s : Shared := zcv.2.2.2.2.2.2.2.2.2.2.2.2.2.2.2.2.2.2.2.2.1
noncomputable def Q : Value → Shared → Prop := zcv.2.2.2.2.2.2.2.2.2.2.2.2.2.2.2.2.2.2.2.2.2.1
noncomputable def E : Value → Shared → Prop := zcv.2.2.2.2.2.2.2.2.2.2.2.2.2.2.2.2.2.2.2.2.2.2.1
noncomputable def news : List (Addr × Obj) := zcv.2.2.2.2.2.2.2.2.2.2.2.2.2.2.2.2.2.2.2.2.2.2.2.1
noncomputable def oS : Obj := zcv.2.2.2.2.2.2.2.2.2.2.2.2.2.2.2.2.2.2.2.2.2.2.2.2.1
noncomputable def oX : Obj := zcv.2.2.2.2.2.2.2.2.2.2.2.2.2.2.2.2.2.2.2.2.2.2.2.2.2.1
noncomputable def g1 : Obj → List (Addr × Obj) := zcv.2.2.2.2.2.2.2.2.2.2.2.2.2.2.2.2.2.2.2.2.2.2.2.2.2.2.1
noncomputable def g2 : Obj → Obj → List (Addr × Obj) := zcv.2.2.2.2.2.2.2.2.2.2.2.2.2.2.2.2.2.2.2.2.2.2.2.2.2.2.2.1
noncomputable def f : Str → Option Int := zcv.2.2.2.2.2.2.2.2.2.2.2.2.2.2.2.2.2.2.2.2.2.2.2.2.2.2.2.2.1
noncomputable def x : Str → Option Int := zcv.2.2.2.2.2.2.2.2.2.2.2.2.2.2.2.2.2.2.2.2.2.2.2.2.2.2.2.2.2.1
noncomputable def nS : Nat := zcv.2.2.2.2.2.2.2.2.2.2.2.2.2.2.2.2.2.2.2.2.2.2.2.2.2.2.2.2.2.2.1
noncomputable def nX : Nat := zcv.2.2.2.2.2.2.2.2.2.2.2.2.2.2.2.2.2.2.2.2.2.2.2.2.2.2.2.2.2.2.2.1
noncomputable def st : Addr := zcv.2.2.2.2.2.2.2.2.2.2.2.2.2.2.2.2.2.2.2.2.2.2.2.2.2.2.2.2.2.2.2.2.1
noncomputable def S : Addr := zcv.2.2.2.2.2.2.2.2.2.2.2.2.2.2.2.2.2.2.2.2.2.2.2.2.2.2.2.2.2.2.2.2.2.1
noncomputable def X : Addr := zcv.2.2.2.2.2.2.2.2.2.2.2.2.2.2.2.2.2.2.2.2.2.2.2.2.2.2.2.2.2.2.2.2.2.2.1
noncomputable def V : Addr := zcv.2.2.2.2.2.2.2.2.2.2.2.2.2.2.2.2.2.2.2.2.2.2.2.2.2.2.2.2.2.2.2.2.2.2.2.1
noncomputable def clk : Addr := zcv.2.2.2.2.2.2.2.2.2.2.2.2.2.2.2.2.2.2.2.2.2.2.2.2.2.2.2.2.2.2.2.2.2.2.2.2.1
noncomputable def lim : Addr := zcv.2.2.2.2.2.2.2.2.2.2.2.2.2.2.2.2.2.2.2.2.2.2.2.2.2.2.2.2.2.2.2.2.2.2.2.2.2.1
noncomputable def it : Addr := zcv.2.2.2.2.2.2.2.2.2.2.2.2.2.2.2.2.2.2.2.2.2.2.2.2.2.2.2.2.2.2.2.2.2.2.2.2.2.2.1
noncomputable def nt : Addr := zcv.2.2.2.2.2.2.2.2.2.2.2.2.2.2.2.2.2.2.2.2.2.2.2.2.2.2.2.2.2.2.2.2.2.2.2.2.2.2.2.1
noncomputable def sec : Bool := zcv.2.2.2.2.2.2.2.2.2.2.2.2.2.2.2.2.2.2.2.2.2.2.2.2.2.2.2.2.2.2.2.2.2.2.2.2.2.2.2.2.1
noncomputable def ns : Str := zcv.2.2.2.2.2.2.2.2.2.2.2.2.2.2.2.2.2.2.2.2.2.2.2.2.2.2.2.2.2.2.2.2.2.2.2.2.2.2.2.2.2.1
noncomputable def names : List Str := zcv.2.2.2.2.2.2.2.2.2.2.2.2.2.2.2.2.2.2.2.2.2.2.2.2.2.2.2.2.2.2.2.2.2.2.2.2.2.2.2.2.2.2.1
noncomputable def am : Int := zcv.2.2.2.2.2.2.2.2.2.2.2.2.2.2.2.2.2.2.2.2.2.2.2.2.2.2.2.2.2.2.2.2.2.2.2.2.2.2.2.2.2.2.2.1
noncomputable def mu : Int := zcv.2.2.2.2.2.2.2.2.2.2.2.2.2.2.2.2.2.2.2.2.2.2.2.2.2.2.2.2.2.2.2.2.2.2.2.2.2.2.2.2.2.2.2.2.1
noncomputable def t : Int := zcv.2.2.2.2.2.2.2.2.2.2.2.2.2.2.2.2.2.2.2.2.2.2.2.2.2.2.2.2.2.2.2.2.2.2.2.2.2.2.2.2.2.2.2.2.2.1
noncomputable def cost : Int := zcv.2.2.2.2.2.2.2.2.2.2.2.2.2.2.2.2.2.2.2.2.2.2.2.2.2.2.2.2.2.2.2.2.2.2.2.2.2.2.2.2.2.2.2.2.2.2.1
noncomputable def tc : Tok := zcv.2.2.2.2.2.2.2.2.2.2.2.2.2.2.2.2.2.2.2.2.2.2.2.2.2.2.2.2.2.2.2.2.2.2.2.2.2.2.2.2.2.2.2.2.2.2.2
noncomputable def zst2 : {P : ((List (Addr × Obj)) → (Addr) → (Int) → (Tok) → (Nat) → (Addr) → (Int) → (Int) → (Int) → (Int) → (Tok) → (Tok) → (Tok) → (Tok) → (Nat) → (Value) → (Option Addr) → (FuncData) → (Array (Option Value)) → (Heap) → (Addr) → (Heap) → Prop) // Hid (∀ (frz : List (Addr × Obj)) (ldx : Addr) (lh : Int) (lt : Tok) (ln : Nat) (dx : Addr) (h1 : Int) (h2 : Int) (h3 : Int) (h4 : Int) (t1 : Tok) (t2 : Tok) (t3 : Tok) (t4 : Tok) (nn : Nat) (oc : Value) (od : Option Addr) (fd : FuncData) (sl : Array (Option Value)) (g' : Heap) (L' : Addr) (h' : Heap), P frz ldx lh lt ln dx h1 h2 h3 h4 t1 t2 t3 t4 nn oc od fd sl g' L' h') → stest_spec_St w p loose mean mg mb dp un gd cn cs a ccd cl outer A₀ base h₀ L m s Q E news oS oX g1 g2 f x nS nX st S X V clk lim it nt sec ns names am mu t cost tc} := by
  refine' ⟨_, fun HH1 => _⟩
  rotate_left 
  focus
    intro key e pk ck B F KX T hk N O Li I J U1 U2 hS hX zS zX ee ek he he2 het ht epk eck hf hc hd hu retH
    subst epk eck ee ek
    refine lower ?_ hd hu
    obtain ⟨frz, n1, n2, N', sub, mem⟩ := split2 O.xs U1 U2 N
    have O' : Store w frz st S X V clk t := O.sub (fun q hq ho => sub q hq ho.1 ho.2.1)
    have I' := I.sub (news' := frz) (fun q hq ho => sub q hq ho.1 ho.2.1)
    have J' := J.sub (news' := frz) (fun q hq ho => sub q hq ho.1 ho.2.1)
    have Li' := Li.sub (news' := frz) (fun q hq ho => sub q hq ho.1 ho.2.1)
    have hkl := keyOf_len I' J'
    clear N U1 U2 sub O I J Li
    obtain ⟨ldx, lh, lt, ln, hlim, hldx, _, _⟩ := Li'
    have O'' := O'
    obtain ⟨⟨dx, h1, h2, h3, h4, t1, t2, t3, t4, nn, oc, od, fd, sl, hst, hck, hdx, _, _, _⟩, _, sx, xv, lS, lX, lV⟩ := O''
    revert KX; k_fill; intro KX
    refine wpAny_call ?_
    walk_at "m enter"
    rename_i zi1 zi2 zi3 zi4 zi5 zi6 zi7
    revert B F T hk hS hX zS zX ht hf hc hd hu he he2 het retH n1 n2 zi1 mem O' I' J' hkl hlim hldx zi2 zi3 zi4 sx xv lS lX lV hst hck hdx zi5 zi6 zi7 KX FG' F' N' B' X' T' qk ek
    exact Hid.out HH1 frz ldx lh lt ln dx h1 h2 h3 h4 t1 t2 t3 t4 nn oc od fd sl g' L' h'
namespace k1
noncomputable def zcv : (List (Addr × Obj)) × (Addr) × (Int) × (Tok) × (Nat) × (Addr) × (Int) × (Int) × (Int) × (Int) × (Tok) × (Tok) × (Tok) × (Tok) × (Nat) × (Value) × (Option Addr) × (FuncData) × (Array (Option Value)) × (Heap) × (Addr) × (Heap) := pick (neP inferInstance (neP inferInstance (neP inferInstance (neP inferInstance (neP inferInstance (neP inferInstance (neP inferInstance (neP inferInstance (neP inferInstance (neP inferInstance (neP inferInstance (neP inferInstance (neP inferInstance (neP inferInstance (neP inferInstance (neP inferInstance (neP inferInstance (neP inferInstance (neP inferInstance (neP inferInstance (neP inferInstance inferInstance))))))))))))))))))))) (fun v : (List (Addr × Obj)) × (Addr) × (Int) × (Tok) × (Nat) × (Addr) × (Int) × (Int) × (Int) × (Int) × (Tok) × (Tok) × (Tok) × (Tok) × (Nat) × (Value) × (Option Addr) × (FuncData) × (Array (Option Value)) × (Heap) × (Addr) × (Heap) => zst2.1 (v.1) (v.2.1) (v.2.2.1) (v.2.2.2.1) (v.2.2.2.2.1) (v.2.2.2.2.2.1) (v.2.2.2.2.2.2.1) (v.2.2.2.2.2.2.2.1) (v.2.2.2.2.2.2.2.2.1) (v.2.2.2.2.2.2.2.2.2.1) (v.2.2.2.2.2.2.2.2.2.2.1) (v.2.2.2.2.2.2.2.2.2.2.2.1) (v.2.2.2.2.2.2.2.2.2.2.2.2.1) (v.2.2.2.2.2.2.2.2.2.2.2.2.2.1) (v.2.2.2.2.2.2.2.2.2.2.2.2.2.2.1) (v.2.2.2.2.2.2.2.2.2.2.2.2.2.2.2.1) (v.2.2.2.2.2.2.2.2.2.2.2.2.2.2.2.2.1) (v.2.2.2.2.2.2.2.2.2.2.2.2.2.2.2.2.2.1) (v.2.2.2.2.2.2.2.2.2.2.2.2.2.2.2.2.2.2.1) (v.2.2.2.2.2.2.2.2.2.2.2.2.2.2.2.2.2.2.2.1) (v.2.2.2.2.2.2.2.2.2.2.2.2.2.2.2.2.2.2.2.2.1) (v.2.2.2.2.2.2.2.2.2.2.2.2.2.2.2.2.2.2.2.2.2)) 0
theorem zal (h : zst2.1 (zcv.1) (zcv.2.1) (zcv.2.2.1) (zcv.2.2.2.1) (zcv.2.2.2.2.1) (zcv.2.2.2.2.2.1) (zcv.2.2.2.2.2.2.1) (zcv.2.2.2.2.2.2.2.1) (zcv.2.2.2.2.2.2.2.2.1) (zcv.2.2.2.2.2.2.2.2.2.1) (zcv.2.2.2.2.2.2.2.2.2.2.1) (zcv.2.2.2.2.2.2.2.2.2.2.2.1) (zcv.2.2.2.2.2.2.2.2.2.2.2.2.1) (zcv.2.2.2.2.2.2.2.2.2.2.2.2.2.1) (zcv.2.2.2.2.2.2.2.2.2.2.2.2.2.2.1) (zcv.2.2.2.2.2.2.2.2.2.2.2.2.2.2.2.1) (zcv.2.2.2.2.2.2.2.2.2.2.2.2.2.2.2.2.1) (zcv.2.2.2.2.2.2.2.2.2.2.2.2.2.2.2.2.2.1) (zcv.2.2.2.2.2.2.2.2.2.2.2.2.2.2.2.2.2.2.1) (zcv.2.2.2.2.2.2.2.2.2.2.2.2.2.2.2.2.2.2.2.1) (zcv.2.2.2.2.2.2.2.2.2.2.2.2.2.2.2.2.2.2.2.2.1) (zcv.2.2.2.2.2.2.2.2.2.2.2.2.2.2.2.2.2.2.2.2.2)) : ∀ u : (List (Addr × Obj)) × (Addr) × (Int) × (Tok) × (Nat) × (Addr) × (Int) × (Int) × (Int) × (Int) × (Tok) × (Tok) × (Tok) × (Tok) × (Nat) × (Value) × (Option Addr) × (FuncData) × (Array (Option Value)) × (Heap) × (Addr) × (Heap), zst2.1 (u.1) (u.2.1) (u.2.2.1) (u.2.2.2.1) (u.2.2.2.2.1) (u.2.2.2.2.2.1) (u.2.2.2.2.2.2.1) (u.2.2.2.2.2.2.2.1) (u.2.2.2.2.2.2.2.2.1) (u.2.2.2.2.2.2.2.2.2.1) (u.2.2.2.2.2.2.2.2.2.2.1) (u.2.2.2.2.2.2.2.2.2.2.2.1) (u.2.2.2.2.2.2.2.2.2.2.2.2.1) (u.2.2.2.2.2.2.2.2.2.2.2.2.2.1) (u.2.2.2.2.2.2.2.2.2.2.2.2.2.2.1) (u.2.2.2.2.2.2.2.2.2.2.2.2.2.2.2.1) (u.2.2.2.2.2.2.2.2.2.2.2.2.2.2.2.2.1) (u.2.2.2.2.2.2.2.2.2.2.2.2.2.2.2.2.2.1) (u.2.2.2.2.2.2.2.2.2.2.2.2.2.2.2.2.2.2.1) (u.2.2.2.2.2.2.2.2.2.2.2.2.2.2.2.2.2.2.2.1) (u.2.2.2.2.2.2.2.2.2.2.2.2.2.2.2.2.2.2.2.2.1) (u.2.2.2.2.2.2.2.2.2.2.2.2.2.2.2.2.2.2.2.2.2) := pick_all (P := fun v : (List (Addr × Obj)) × (Addr) × (Int) × (Tok) × (Nat) × (Addr) × (Int) × (Int) × (Int) × (Int) × (Tok) × (Tok) × (Tok) × (Tok) × (Nat) × (Value) × (Option Addr) × (FuncData) × (Array (Option Value)) × (Heap) × (Addr) × (Heap) => zst2.1 (v.1) (v.2.1) (v.2.2.1) (v.2.2.2.1) (v.2.2.2.2.1) (v.2.2.2.2.2.1) (v.2.2.2.2.2.2.1) (v.2.2.2.2.2.2.2.1) (v.2.2.2.2.2.2.2.2.1) (v.2.2.2.2.2.2.2.2.2.1) (v.2.2.2.2.2.2.2.2.2.2.1) (v.2.2.2.2.2.2.2.2.2.2.2.1) (v.2.2.2.2.2.2.2.2.2.2.2.2.1) (v.2.2.2.2.2.2.2.2.2.2.2.2.2.1) (v.2.2.2.2.2.2.2.2.2.2.2.2.2.2.1) (v.2.2.2.2.2.2.2.2.2.2.2.2.2.2.2.1) (v.2.2.2.2.2.2.2.2.2.2.2.2.2.2.2.2.1) (v.2.2.2.2.2.2.2.2.2.2.2.2.2.2.2.2.2.1) (v.2.2.2.2.2.2.2.2.2.2.2.2.2.2.2.2.2.2.1) (v.2.2.2.2.2.2.2.2.2.2.2.2.2.2.2.2.2.2.2.1) (v.2.2.2.2.2.2.2.2.2.2.2.2.2.2.2.2.2.2.2.2.1) (v.2.2.2.2.2.2.2.2.2.2.2.2.2.2.2.2.2.2.2.2.2)) h
noncomputable def frz : List (Addr × Obj) := zcv.1
noncomputable def ldx : Addr := zcv.2.1
noncomputable def lh : Int := zcv.2.2.1
noncomputable def lt : Tok := zcv.2.2.2.1
noncomputable def ln : Nat := zcv.2.2.2.2.1
noncomputable def dx : Addr := zcv.2.2.2.2.2.1
noncomputable def h1 : Int := zcv.2.2.2.2.2.2.1
noncomputable def h2 : Int := zcv.2.2.2.2.2.2.2.1
noncomputable def h3 : Int := zcv.2.2.2.2.2.2.2.2.1
noncomputable def h4 : Int := zcv.2.2.2.2.2.2.2.2.2.1
noncomputable def t1 : Tok := zcv.2.2.2.2.2.2.2.2.2.2.1
noncomputable def t2 : Tok := zcv.2.2.2.2.2.2.2.2.2.2.2.1
noncomputable def t3 : Tok := zcv.2.2.2.2.2.2.2.2.2.2.2.2.1
noncomputable def t4 : Tok := zcv.2.2.2.2.2.2.2.2.2.2.2.2.2.1
noncomputable def nn : Nat := zcv.2.2.2.2.2.2.2.2.2.2.2.2.2.2.1
noncomputable def oc : Value := zcv.2.2.2.2.2.2.2.2.2.2.2.2.2.2.2.1
noncomputable def od : Option Addr := zcv.2.2.2.2.2.2.2.2.2.2.2.2.2.2.2.2.1
noncomputable def fd : FuncData := zcv.2.2.2.2.2.2.2.2.2.2.2.2.2.2.2.2.2.1
noncomputable def sl : Array (Option Value) := zcv.2.2.2.2.2.2.2.2.2.2.2.2.2.2.2.2.2.2.1
noncomputable def g' : Heap := zcv.2.2.2.2.2.2.2.2.2.2.2.2.2.2.2.2.2.2.2.1
noncomputable def L' : Addr := zcv.2.2.2.2.2.2.2.2.2.2.2.2.2.2.2.2.2.2.2.2.1
noncomputable def h' : Heap := zcv.2.2.2.2.2.2.2.2.2.2.2.2.2.2.2.2.2.2.2.2.2
theorem walk3 : zst2.1 frz ldx lh lt ln dx h1 h2 h3 h4 t1 t2 t3 t4 nn oc od fd sl g' L' h' := by
  intro B F T hk hS hX zS zX ht hf hc hd hu he he2 het retH n1 n2 zi1 mem O' I' J' hkl hlim hldx zi2 zi3 zi4 sx xv lS lX lV hst hck hdx zi5 zi6 zi7 KX FG' F' N' B' X' T' qk ek
  k_steps
  subst_vars
  exact retH _ _ _ _ (by assumption) (news_of (by assumption) (fun p hp => .tail _ (mem _ _ p hp))) (DictV.mono (by assumption) (Nat.le_succ _)) (DictV.mono (by assumption) (Nat.le_succ _))
end k1
theorem up4 : stest_spec_St w p loose mean mg mb dp un gd cn cs a ccd cl outer A₀ base h₀ L m s Q E news oS oX g1 g2 f x nS nX st S X V clk lim it nt sec ns names am mu t cost tc := zst2.2 (fun frz ldx lh lt ln dx h1 h2 h3 h4 t1 t2 t3 t4 nn oc od fd sl g' L' h' => k1.zal k1.walk3 (frz, ldx, lh, lt, ln, dx, h1, h2, h3, h4, t1, t2, t3, t4, nn, oc, od, fd, sl, g', L', h'))
end c_stest_spec
theorem stest_spec {w : World} {p : Program} {loose : List Str} {mean : ExcName → Option Value} {mg : Str → Option Value} {mb : Str → Option Value} {dp : Nat} {un : Nat} {gd : Option (List Code)} {cn : Str} {cs : Scope} {a : Addr} {ccd : Value} {cl : List (Str × Addr)} {outer : List Env} {A₀ : Around} {base : Heap} {h₀ : Heap} {L : Addr} {m : Str → Option Value} {s : Shared} {Q : Value → Shared → Prop} {E : Value → Shared → Prop} (B : Below A₀ base outer h₀) (F : Fr h₀ L s.heap m) (KX : (Mine.hd1.heap_39 w.params).In h₀) (T : Top p loose mean mg mb h₀) (hk : cs.kind = .function) {news : List (Addr × Obj)} {oS : Obj} {oX : Obj} {g1 : Obj → List (Addr × Obj)} {g2 : Obj → Obj → List (Addr × Obj)} {f : Str → Option Int} {x : Str → Option Int} {nS : Nat} {nX : Nat} {st : Addr} {S : Addr} {X : Addr} {V : Addr} {clk : Addr} {lim : Addr} {it : Addr} {nt : Addr} {sec : Bool} {ns : Str} {key : Str} {names : List Str} {am : Int} {mu : Int} {t : Int} {e : Int} {pk : Str} {ck : Str} {cost : Int} {tc : Tok} (N : News h₀ L s.heap news) (O : Store w news st S X V clk t) (Li : LimAt news S X V 296 lim st) (I : ItemAt news S X V it sec ns am mu) (J : NamesAt news S X V nt names) (U1 : UpdF S oS news g1) (U2 : ∀ o, UpdF X oX (g1 o) (g2 o)) (hS : IntD PySem.Challenge.rw_ji0060_01.row.prog w oS f nS) (hX : IntD PySem.Challenge.rw_ji0060_01.row.prog w oX x nX) (zS : nS + 1 ≤ sizeLine) (zX : nX + 1 ≤ sizeLine) (ee : e = unitOf sec * mu) (ek : key = keyOf sec ns names am mu) (he : 0 < e) (he2 : e < 1000000) (het : e ≤ t) (ht : t < 1000000000000) (epk : pk = wkey key ((t - e).fdiv e)) (eck : ck = wkey key (t.fdiv e)) (hf : ∀ j, 0 ≤ (f j).getD 0 ∧ (f j).getD 0 ≤ 1000000) (hc : -1000000 ≤ cost ∧ cost ≤ 1000000) (hd : dp ≤ 820) (hu : un ≤ 8200) (retH : ∀ oS' oX' h' tk', Fr h₀ L h' m → News h₀ L h' (g2 oS' oX') → IntD PySem.Challenge.rw_ji0060_01.row.prog w oS' (F2 f x pk ck t) (nS + 1) → IntD PySem.Challenge.rw_ji0060_01.row.prog w oX' (F2 x x pk ck t) (nX + 1) → Q (.bool (decide (wF f x pk ck t e < am - cost + 1))) { s with heap := h', toks := tk' }) :
    wpAny (model PySem.Challenge.rw_ji0060_01.row.prog w) (ktrTop dp un gd cn cs L a ccd cl outer) (call (.ref 275) [.ref lim, .ref it, .ref nt, .int cost tc]) Q E s :=
  c_stest_spec.zal c_stest_spec.up4 (w, p, loose, mean, mg, mb, dp, un, gd, cn, cs, a, ccd, cl, outer, A₀, base, h₀, L, m, s, Q, E, news, oS, oX, g1, g2, f, x, nS, nX, st, S, X, V, clk, lim, it, nt, sec, ns, names, am, mu, t, cost, tc) _ _ _ _ B F KX T hk N O Li I J U1 U2 hS hX zS zX ee ek he he2 het ht epk eck hf hc hd hu retH
section
variable {w : World} {p : Program} {loose : List Str} {mean : ExcName → Option Value} {mg mb : Str → Option Value} {dp un : Nat} {gd : Option (List Code)} {cn : Str} {cs : Scope} {a : Addr} {ccd : Value} {cl : List (Str × Addr)} {outer : List Env} {A₀ : Around} {base h₀ : Heap} {L : Addr} {m : Str → Option Value} {s : Shared} {Q E : Value → Shared → Prop}
  (B : Below A₀ base outer h₀) (F : Fr h₀ L s.heap m) (KX : (Mine.hd1.heap_39 w.params).In h₀) (T : Top p loose mean mg mb h₀) (hk : cs.kind = .function)
include B F KX T hk
end

end

theorem said_stest : True := by
  k_with "call ref" => (k_here; (with_reducible show wpAny _ _ (call (Value.ref 275) [_, _, _, _]) _ _ _); k_dflt (refine' stest_spec ?zyB ?zyF ?zyX ?zyT ?zyk ?zyN ?zyO ?zyLi ?zyI ?zyJ ?zyU1 ?zyU2 ?zyhS ?zyhX ?zyzS ?zyzX ?zyee ?zyek ?zyhe ?zyhe2 ?zyhet ?zyht ?zyepk ?zyeck ?zyhf ?zyhc ?zyd ?zyu ?_; (case zyB => k_asm); (case zyF => k_asm); (case zyX => k_asm); (case zyT => k_asm); (case zyk => first | exact rfl | assumption); (case zyN => k_asm); (case zyO => refine' Store.sub ?zyo ?zys; (case zyo => assumption); (case zys => walk_at "m sub")); (case zyU1 => k_updF); (case zyU2 => (intro o1; (try dsimp only); k_updF)); (case zyhS => assumption); (case zyhX => assumption); (case zyzS => first | assumption | omega); (case zyzX => first | assumption | omega); (case zyLi => refine' LimAt.sub ?zyo ?zys; (case zyo => assumption); (case zys => walk_at "m sub")); (case zyI => refine' ItemAt.sub ?zyo ?zys; (case zyo => assumption); (case zys => walk_at "m sub")); (case zyJ => refine' NamesAt.sub ?zyo ?zys; (case zyo => assumption); (case zys => walk_at "m sub")); (case zyee => first | assumption | rfl); (case zyek => first | assumption | rfl); (case zyhe => walk_at "m om"); (case zyhe2 => walk_at "m om"); (case zyhet => walk_at "m om"); (case zyht => walk_at "m om"); (case zyepk => first | assumption | rfl); (case zyeck => first | assumption | rfl); (case zyhf => assumption); (case zyhc => walk_at "m om"); (case zyd => exact Nat.le_of_ble_eq_true rfl); (case zyu => exact Nat.le_of_ble_eq_true rfl); k_whole); (intro oS' oX' h' tk' F' N' hS' hX'; (try dsimp only at N'); (try dsimp only); (try k_sweep)))
  trivial
section
section
variable {w : World} {p : Program} {loose : List Str} {mean : ExcName → Option Value} {mg mb : Str → Option Value} {dp un : Nat} {gd : Option (List Code)} {cn : Str} {cs : Scope} {a : Addr} {ccd : Value} {cl : List (Str × Addr)} {outer : List Env} {A₀ : Around} {base h₀ : Heap} {L : Addr} {m : Str → Option Value} {s : Shared} {Q E : Value → Shared → Prop}
  (B : Below A₀ base outer h₀) (F : Fr h₀ L s.heap m) (KX : (Mine.hd1.heap_39 w.params).In h₀) (T : Top p loose mean mg mb h₀) (hk : cs.kind = .function)
include B F KX T hk


end
noncomputable def stest1_spec_St (w : World) (p : Program) (loose : List Str) (mean : ExcName → Option Value) (mg : Str → Option Value) (mb : Str → Option Value) (dp : Nat) (un : Nat) (gd : Option (List Code)) (cn : Str) (cs : Scope) (a : Addr) (ccd : Value) (cl : List (Str × Addr)) (outer : List Env) (A₀ : Around) (base : Heap) (h₀ : Heap) (L : Addr) (m : Str → Option Value) (s : Shared) (Q : Value → Shared → Prop) (E : Value → Shared → Prop) (news : List (Addr × Obj)) (oS : Obj) (oX : Obj) (g1 : Obj → List (Addr × Obj)) (g2 : Obj → Obj → List (Addr × Obj)) (f : Str → Option Int) (x : Str → Option Int) (nS : Nat) (nX : Nat) (st : Addr) (S : Addr) (X : Addr) (V : Addr) (clk : Addr) (lim : Addr) (it : Addr) (nt : Addr) (sec : Bool) (ns : Str) (names : List Str) (am : Int) (mu : Int) (t : Int) : Prop := ∀ (key : Str) (e : Int) (pk : Str) (ck : Str) (B : Below A₀ base outer h₀) (F : Fr h₀ L s.heap m) (KX : (Mine.hd1.heap_39 w.params).In h₀) (T : Top p loose mean mg mb h₀) (hk : cs.kind = .function) (N : News h₀ L s.heap news) (O : Store w news st S X V clk t) (Li : LimAt news S X V 296 lim st) (I : ItemAt news S X V it sec ns am mu) (J : NamesAt news S X V nt names) (U1 : UpdF S oS news g1) (U2 : ∀ o, UpdF X oX (g1 o) (g2 o)) (hS : IntD PySem.Challenge.rw_ji0060_01.row.prog w oS f nS) (hX : IntD PySem.Challenge.rw_ji0060_01.row.prog w oX x nX) (zS : nS + 1 ≤ sizeLine) (zX : nX + 1 ≤ sizeLine) (ee : e = unitOf sec * mu) (ek : key = keyOf sec ns names am mu) (he : 0 < e) (he2 : e < 1000000) (het : e ≤ t) (ht : t < 1000000000000) (epk : pk = wkey key ((t - e).fdiv e)) (eck : ck = wkey key (t.fdiv e)) (hf : ∀ j, 0 ≤ (f j).getD 0 ∧ (f j).getD 0 ≤ 1000000) (hd : dp ≤ 820) (hu : un ≤ 8200) (retH : ∀ oS' oX' h' tk', Fr h₀ L h' m → News h₀ L h' (g2 oS' oX') → IntD PySem.Challenge.rw_ji0060_01.row.prog w oS' (F2 f x pk ck t) (nS + 1) → IntD PySem.Challenge.rw_ji0060_01.row.prog w oX' (F2 x x pk ck t) (nX + 1) → Q (.bool (decide (wF f x pk ck t e < am - 1 + 1))) { s with heap := h', toks := tk' }), wpAny (model PySem.Challenge.rw_ji0060_01.row.prog w) (ktrTop dp un gd cn cs L a ccd cl outer) (call (.ref 275) [.ref lim, .ref it, .ref nt]) Q E s
namespace c_stest1_spec
noncomputable def zcv : (World) × (Program) × (List Str) × (ExcName → Option Value) × (Str → Option Value) × (Str → Option Value) × (Nat) × (Nat) × (Option (List Code)) × (Str) × (Scope) × (Addr) × (Value) × (List (Str × Addr)) × (List Env) × (Around) × (Heap) × (Heap) × (Addr) × (Str → Option Value) × (Shared) × (Value → Shared → Prop) × (Value → Shared → Prop) × (List (Addr × Obj)) × (Obj) × (Obj) × (Obj → List (Addr × Obj)) × (Obj → Obj → List (Addr × Obj)) × (Str → Option Int) × (Str → Option Int) × (Nat) × (Nat) × (Addr) × (Addr) × (Addr) × (Addr) × (Addr) × (Addr) × (Addr) × (Addr) × (Bool) × (Str) × (List Str) × (Int) × (Int) × (Int) := pick (neP neW (neP inferInstance (neP inferInstance (neP inferInstance (neP inferInstance (neP inferInstance (neP inferInstance (neP inferInstance (neP inferInstance (neP inferInstance (neP inferInstance (neP inferInstance (neP inferInstance (neP inferInstance (neP inferInstance (neP neA (neP inferInstance (neP inferInstance (neP inferInstance (neP inferInstance (neP neS (neP inferInstance (neP inferInstance (neP inferInstance (neP inferInstance (neP inferInstance (neP inferInstance (neP inferInstance (neP inferInstance (neP inferInstance (neP inferInstance (neP inferInstance (neP inferInstance (neP inferInstance (neP inferInstance (neP inferInstance (neP inferInstance (neP inferInstance (neP inferInstance (neP inferInstance (neP inferInstance (neP inferInstance (neP inferInstance (neP inferInstance (neP inferInstance inferInstance))))))))))))))))))))))))))))))))))))))))))))) (fun v : (World) × (Program) × (List Str) × (ExcName → Option Value) × (Str → Option Value) × (Str → Option Value) × (Nat) × (Nat) × (Option (List Code)) × (Str) × (Scope) × (Addr) × (Value) × (List (Str × Addr)) × (List Env) × (Around) × (Heap) × (Heap) × (Addr) × (Str → Option Value) × (Shared) × (Value → Shared → Prop) × (Value → Shared → Prop) × (List (Addr × Obj)) × (Obj) × (Obj) × (Obj → List (Addr × Obj)) × (Obj → Obj → List (Addr × Obj)) × (Str → Option Int) × (Str → Option Int) × (Nat) × (Nat) × (Addr) × (Addr) × (Addr) × (Addr) × (Addr) × (Addr) × (Addr) × (Addr) × (Bool) × (Str) × (List Str) × (Int) × (Int) × (Int) => stest1_spec_St (v.1) (v.2.1) (v.2.2.1) (v.2.2.2.1) (v.2.2.2.2.1) (v.2.2.2.2.2.1) (v.2.2.2.2.2.2.1) (v.2.2.2.2.2.2.2.1) (v.2.2.2.2.2.2.2.2.1) (v.2.2.2.2.2.2.2.2.2.1) (v.2.2.2.2.2.2.2.2.2.2.1) (v.2.2.2.2.2.2.2.2.2.2.2.1) (v.2.2.2.2.2.2.2.2.2.2.2.2.1) (v.2.2.2.2.2.2.2.2.2.2.2.2.2.1) (v.2.2.2.2.2.2.2.2.2.2.2.2.2.2.1) (v.2.2.2.2.2.2.2.2.2.2.2.2.2.2.2.1) (v.2.2.2.2.2.2.2.2.2.2.2.2.2.2.2.2.1) (v.2.2.2.2.2.2.2.2.2.2.2.2.2.2.2.2.2.1) (v.2.2.2.2.2.2.2.2.2.2.2.2.2.2.2.2.2.2.1) (v.2.2.2.2.2.2.2.2.2.2.2.2.2.2.2.2.2.2.2.1) (v.2.2.2.2.2.2.2.2.2.2.2.2.2.2.2.2.2.2.2.2.1) (v.2.2.2.2.2.2.2.2.2.2.2.2.2.2.2.2.2.2.2.2.2.1) (v.2.2.2.2.2.2.2.2.2.2.2.2.2.2.2.2.2.2.2.2.2.2.1) (v.2.2.2.2.2.2.2.2.2.2.2.2.2.2.2.2.2.2.2.2.2.2.2.1) (v.2.2.2.2.2.2.2.2.2.2.2.2.2.2.2.2.2.2.2.2.2.2.2.2.1) (v.2.2.2.2.2.2.2.2.2.2.2.2.2.2.2.2.2.2.2.2.2.2.2.2.2.1) (v.2.2.2.2.2.2.2.2.2.2.2.2.2.2.2.2.2.2.2.2.2.2.2.2.2.2.1) (v.2.2.2.2.2.2.2.2.2.2.2.2.2.2.2.2.2.2.2.2.2.2.2.2.2.2.2.1) (v.2.2.2.2.2.2.2.2.2.2.2.2.2.2.2.2.2.2.2.2.2.2.2.2.2.2.2.2.1) (v.2.2.2.2.2.2.2.2.2.2.2.2.2.2.2.2.2.2.2.2.2.2.2.2.2.2.2.2.2.1) (v.2.2.2.2.2.2.2.2.2.2.2.2.2.2.2.2.2.2.2.2.2.2.2.2.2.2.2.2.2.2.1) (v.2.2.2.2.2.2.2.2.2.2.2.2.2.2.2.2.2.2.2.2.2.2.2.2.2.2.2.2.2.2.2.1) (v.2.2.2.2.2.2.2.2.2.2.2.2.2.2.2.2.2.2.2.2.2.2.2.2.2.2.2.2.2.2.2.2.1) (v.2.2.2.2.2.2.2.2.2.2.2.2.2.2.2.2.2.2.2.2.2.2.2.2.2.2.2.2.2.2.2.2.2.1) (v.2.2.2.2.2.2.2.2.2.2.2.2.2.2.2.2.2.2.2.2.2.2.2.2.2.2.2.2.2.2.2.2.2.2.1) (v.2.2.2.2.2.2.2.2.2.2.2.2.2.2.2.2.2.2.2.2.2.2.2.2.2.2.2.2.2.2.2.2.2.2.2.1) (v.2.2.2.2.2.2.2.2.2.2.2.2.2.2.2.2.2.2.2.2.2.2.2.2.2.2.2.2.2.2.2.2.2.2.2.2.1) (v.2.2.2.2.2.2.2.2.2.2.2.2.2.2.2.2.2.2.2.2.2.2.2.2.2.2.2.2.2.2.2.2.2.2.2.2.2.1) (v.2.2.2.2.2.2.2.2.2.2.2.2.2.2.2.2.2.2.2.2.2.2.2.2.2.2.2.2.2.2.2.2.2.2.2.2.2.2.1) (v.2.2.2.2.2.2.2.2.2.2.2.2.2.2.2.2.2.2.2.2.2.2.2.2.2.2.2.2.2.2.2.2.2.2.2.2.2.2.2.1) (v.2.2.2.2.2.2.2.2.2.2.2.2.2.2.2.2.2.2.2.2.2.2.2.2.2.2.2.2.2.2.2.2.2.2.2.2.2.2.2.2.1) (v.2.2.2.2.2.2.2.2.2.2.2.2.2.2.2.2.2.2.2.2.2.2.2.2.2.2.2.2.2.2.2.2.2.2.2.2.2.2.2.2.2.1) (v.2.2.2.2.2.2.2.2.2.2.2.2.2.2.2.2.2.2.2.2.2.2.2.2.2.2.2.2.2.2.2.2.2.2.2.2.2.2.2.2.2.2.1) (v.2.2.2.2.2.2.2.2.2.2.2.2.2.2.2.2.2.2.2.2.2.2.2.2.2.2.2.2.2.2.2.2.2.2.2.2.2.2.2.2.2.2.2.1) (v.2.2.2.2.2.2.2.2.2.2.2.2.2.2.2.2.2.2.2.2.2.2.2.2.2.2.2.2.2.2.2.2.2.2.2.2.2.2.2.2.2.2.2.2.1) (v.2.2.2.2.2.2.2.2.2.2.2.2.2.2.2.2.2.2.2.2.2.2.2.2.2.2.2.2.2.2.2.2.2.2.2.2.2.2.2.2.2.2.2.2.2)) 0
theorem zal (h : stest1_spec_St (zcv.1) (zcv.2.1) (zcv.2.2.1) (zcv.2.2.2.1) (zcv.2.2.2.2.1) (zcv.2.2.2.2.2.1) (zcv.2.2.2.2.2.2.1) (zcv.2.2.2.2.2.2.2.1) (zcv.2.2.2.2.2.2.2.2.1) (zcv.2.2.2.2.2.2.2.2.2.1) (zcv.2.2.2.2.2.2.2.2.2.2.1) (zcv.2.2.2.2.2.2.2.2.2.2.2.1) (zcv.2.2.2.2.2.2.2.2.2.2.2.2.1) (zcv.2.2.2.2.2.2.2.2.2.2.2.2.2.1) (zcv.2.2.2.2.2.2.2.2.2.2.2.2.2.2.1) (zcv.2.2.2.2.2.2.2.2.2.2.2.2.2.2.2.1) (zcv.2.2.2.2.2.2.2.2.2.2.2.2.2.2.2.2.1) (zcv.2.2.2.2.2.2.2.2.2.2.2.2.2.2.2.2.2.1) (zcv.2.2.2.2.2.2.2.2.2.2.2.2.2.2.2.2.2.2.1) (zcv.2.2.2.2.2.2.2.2.2.2.2.2.2.2.2.2.2.2.2.1) (zcv.2.2.2.2.2.2.2.2.2.2.2.2.2.2.2.2.2.2.2.2.1) (zcv.2.2.2.2.2.2.2.2.2.2.2.2.2.2.2.2.2.2.2.2.2.1) (zcv.2.2.2.2.2.2.2.2.2.2.2.2.2.2.2.2.2.2.2.2.2.2.1) (zcv.2.2.2.2.2.2.2.2.2.2.2.2.2.2.2.2.2.2.2.2.2.2.2.1) (zcv.2.2.2.2.2.2.2.2.2.2.2.2.2.2.2.2.2.2.2.2.2.2.2.2.1) (zcv.2.2.2.2.2.2.2.2.2.2.2.2.2.2.2.2.2.2.2.2.2.2.2.2.2.1) (zcv.2.2.2.2.2.2.2.2.2.2.2.2.2.2.2.2.2.2.2.2.2.2.2.2.2.2.1) (zcv.2.2.2.2.2.2.2.2.2.2.2.2.2.2.2.2.2.2.2.2.2.2.2.2.2.2.2.1) (zcv.2.2.2.2.2.2.2.2.2.2.2.2.2.2.2.2.2.2.2.2.2.2.2.2.2.2.2.2.1) (zcv.2.2.2.2.2.2.2.2.2.2.2.2.2.2.2.2.2.2.2.2.2.2.2.2.2.2.2.2.2.1) (zcv.2.2.2.2.2.2.2.2.2.2.2.2.2.2.2.2.2.2.2.2.2.2.2.2.2.2.2.2.2.2.1) (zcv.2.2.2.2.2.2.2.2.2.2.2.2.2.2.2.2.2.2.2.2.2.2.2.2.2.2.2.2.2.2.2.1) (zcv.2.2.2.2.2.2.2.2.2.2.2.2.2.2.2.2.2.2.2.2.2.2.2.2.2.2.2.2.2.2.2.2.1) (zcv.2.2.2.2.2.2.2.2.2.2.2.2.2.2.2.2.2.2.2.2.2.2.2.2.2.2.2.2.2.2.2.2.2.1) (zcv.2.2.2.2.2.2.2.2.2.2.2.2.2.2.2.2.2.2.2.2.2.2.2.2.2.2.2.2.2.2.2.2.2.2.1) (zcv.2.2.2.2.2.2.2.2.2.2.2.2.2.2.2.2.2.2.2.2.2.2.2.2.2.2.2.2.2.2.2.2.2.2.2.1) (zcv.2.2.2.2.2.2.2.2.2.2.2.2.2.2.2.2.2.2.2.2.2.2.2.2.2.2.2.2.2.2.2.2.2.2.2.2.1) (zcv.2.2.2.2.2.2.2.2.2.2.2.2.2.2.2.2.2.2.2.2.2.2.2.2.2.2.2.2.2.2.2.2.2.2.2.2.2.1) (zcv.2.2.2.2.2.2.2.2.2.2.2.2.2.2.2.2.2.2.2.2.2.2.2.2.2.2.2.2.2.2.2.2.2.2.2.2.2.2.1) (zcv.2.2.2.2.2.2.2.2.2.2.2.2.2.2.2.2.2.2.2.2.2.2.2.2.2.2.2.2.2.2.2.2.2.2.2.2.2.2.2.1) (zcv.2.2.2.2.2.2.2.2.2.2.2.2.2.2.2.2.2.2.2.2.2.2.2.2.2.2.2.2.2.2.2.2.2.2.2.2.2.2.2.2.1) (zcv.2.2.2.2.2.2.2.2.2.2.2.2.2.2.2.2.2.2.2.2.2.2.2.2.2.2.2.2.2.2.2.2.2.2.2.2.2.2.2.2.2.1) (zcv.2.2.2.2.2.2.2.2.2.2.2.2.2.2.2.2.2.2.2.2.2.2.2.2.2.2.2.2.2.2.2.2.2.2.2.2.2.2.2.2.2.2.1) (zcv.2.2.2.2.2.2.2.2.2.2.2.2.2.2.2.2.2.2.2.2.2.2.2.2.2.2.2.2.2.2.2.2.2.2.2.2.2.2.2.2.2.2.2.1) (zcv.2.2.2.2.2.2.2.2.2.2.2.2.2.2.2.2.2.2.2.2.2.2.2.2.2.2.2.2.2.2.2.2.2.2.2.2.2.2.2.2.2.2.2.2.1) (zcv.2.2.2.2.2.2.2.2.2.2.2.2.2.2.2.2.2.2.2.2.2.2.2.2.2.2.2.2.2.2.2.2.2.2.2.2.2.2.2.2.2.2.2.2.2)) : ∀ u : (World) × (Program) × (List Str) × (ExcName → Option Value) × (Str → Option Value) × (Str → Option Value) × (Nat) × (Nat) × (Option (List Code)) × (Str) × (Scope) × (Addr) × (Value) × (List (Str × Addr)) × (List Env) × (Around) × (Heap) × (Heap) × (Addr) × (Str → Option Value) × (Shared) × (Value → Shared → Prop) × (Value → Shared → Prop) × (List (Addr × Obj)) × (Obj) × (Obj) × (Obj → List (Addr × Obj)) × (Obj → Obj → List (Addr × Obj)) × (Str → Option Int) × (Str → Option Int) × (Nat) × (Nat) × (Addr) × (Addr) × (Addr) × (Addr) × (Addr) × (Addr) × (Addr) × (Addr) × (Bool) × (Str) × (List Str) × (Int) × (Int) × (Int), stest1_spec_St (u.1) (u.2.1) (u.2.2.1) (u.2.2.2.1) (u.2.2.2.2.1) (u.2.2.2.2.2.1) (u.2.2.2.2.2.2.1) (u.2.2.2.2.2.2.2.1) (u.2.2.2.2.2.2.2.2.1) (u.2.2.2.2.2.2.2.2.2.1) (u.2.2.2.2.2.2.2.2.2.2.1) (u.2.2.2.2.2.2.2.2.2.2.2.1) (u.2.2.2.2.2.2.2.2.2.2.2.2.1) (u.2.2.2.2.2.2.2.2.2.2.2.2.2.1) (u.2.2.2.2.2.2.2.2.2.2.2.2.2.2.1) (u.2.2.2.2.2.2.2.2.2.2.2.2.2.2.2.1) (u.2.2.2.2.2.2.2.2.2.2.2.2.2.2.2.2.1) (u.2.2.2.2.2.2.2.2.2.2.2.2.2.2.2.2.2.1) (u.2.2.2.2.2.2.2.2.2.2.2.2.2.2.2.2.2.2.1) (u.2.2.2.2.2.2.2.2.2.2.2.2.2.2.2.2.2.2.2.1) (u.2.2.2.2.2.2.2.2.2.2.2.2.2.2.2.2.2.2.2.2.1) (u.2.2.2.2.2.2.2.2.2.2.2.2.2.2.2.2.2.2.2.2.2.1) (u.2.2.2.2.2.2.2.2.2.2.2.2.2.2.2.2.2.2.2.2.2.2.1) (u.2.2.2.2.2.2.2.2.2.2.2.2.2.2.2.2.2.2.2.2.2.2.2.1) (u.2.2.2.2.2.2.2.2.2.2.2.2.2.2.2.2.2.2.2.2.2.2.2.2.1) (u.2.2.2.2.2.2.2.2.2.2.2.2.2.2.2.2.2.2.2.2.2.2.2.2.2.1) (u.2.2.2.2.2.2.2.2.2.2.2.2.2.2.2.2.2.2.2.2.2.2.2.2.2.2.1) (u.2.2.2.2.2.2.2.2.2.2.2.2.2.2.2.2.2.2.2.2.2.2.2.2.2.2.2.1) (u.2.2.2.2.2.2.2.2.2.2.2.2.2.2.2.2.2.2.2.2.2.2.2.2.2.2.2.2.1) (u.2.2.2.2.2.2.2.2.2.2.2.2.2.2.2.2.2.2.2.2.2.2.2.2.2.2.2.2.2.1) (u.2.2.2.2.2.2.2.2.2.2.2.2.2.2.2.2.2.2.2.2.2.2.2.2.2.2.2.2.2.2.1) (u.2.2.2.2.2.2.2.2.2.2.2.2.2.2.2.2.2.2.2.2.2.2.2.2.2.2.2.2.2.2.2.1) (u.2.2.2.2.2.2.2.2.2.2.2.2.2.2.2.2.2.2.2.2.2.2.2.2.2.2.2.2.2.2.2.2.1) (u.2.2.2.2.2.2.2.2.2.2.2.2.2.2.2.2.2.2.2.2.2.2.2.2.2.2.2.2.2.2.2.2.2.1) (u.2.2.2.2.2.2.2.2.2.2.2.2.2.2.2.2.2.2.2.2.2.2.2.2.2.2.2.2.2.2.2.2.2.2.1) (u.2.2.2.2.2.2.2.2.2.2.2.2.2.2.2.2.2.2.2.2.2.2.2.2.2.2.2.2.2.2.2.2.2.2.2.1) (u.2.2.2.2.2.2.2.2.2.2.2.2.2.2.2.2.2.2.2.2.2.2.2.2.2.2.2.2.2.2.2.2.2.2.2.2.1) (u.2.2.2.2.2.2.2.2.2.2.2.2.2.2.2.2.2.2.2.2.2.2.2.2.2.2.2.2.2.2.2.2.2.2.2.2.2.1) (u.2.2.2.2.2.2.2.2.2.2.2.2.2.2.2.2.2.2.2.2.2.2.2.2.2.2.2.2.2.2.2.2.2.2.2.2.2.2.1) (u.2.2.2.2.2.2.2.2.2.2.2.2.2.2.2.2.2.2.2.2.2.2.2.2.2.2.2.2.2.2.2.2.2.2.2.2.2.2.2.1) (u.2.2.2.2.2.2.2.2.2.2.2.2.2.2.2.2.2.2.2.2.2.2.2.2.2.2.2.2.2.2.2.2.2.2.2.2.2.2.2.2.1) (u.2.2.2.2.2.2.2.2.2.2.2.2.2.2.2.2.2.2.2.2.2.2.2.2.2.2.2.2.2.2.2.2.2.2.2.2.2.2.2.2.2.1) (u.2.2.2.2.2.2.2.2.2.2.2.2.2.2.2.2.2.2.2.2.2.2.2.2.2.2.2.2.2.2.2.2.2.2.2.2.2.2.2.2.2.2.1) (u.2.2.2.2.2.2.2.2.2.2.2.2.2.2.2.2.2.2.2.2.2.2.2.2.2.2.2.2.2.2.2.2.2.2.2.2.2.2.2.2.2.2.2.1) (u.2.2.2.2.2.2.2.2.2.2.2.2.2.2.2.2.2.2.2.2.2.2.2.2.2.2.2.2.2.2.2.2.2.2.2.2.2.2.2.2.2.2.2.2.1) (u.2.2.2.2.2.2.2.2.2.2.2.2.2.2.2.2.2.2.2.2.2.2.2.2.2.2.2.2.2.2.2.2.2.2.2.2.2.2.2.2.2.2.2.2.2) := pick_all (P := fun v : (World) × (Program) × (List Str) × (ExcName → Option Value) × (Str → Option Value) × (Str → Option Value) × (Nat) × (Nat) × (Option (List Code)) × (Str) × (Scope) × (Addr) × (Value) × (List (Str × Addr)) × (List Env) × (Around) × (Heap) × (Heap) × (Addr) × (Str → Option Value) × (Shared) × (Value → Shared → Prop) × (Value → Shared → Prop) × (List (Addr × Obj)) × (Obj) × (Obj) × (Obj → List (Addr × Obj)) × (Obj → Obj → List (Addr × Obj)) × (Str → Option Int) × (Str → Option Int) × (Nat) × (Nat) × (Addr) × (Addr) × (Addr) × (Addr) × (Addr) × (Addr) × (Addr) × (Addr) × (Bool) × (Str) × (List Str) × (Int) × (Int) × (Int) => stest1_spec_St (v.1) (v.2.1) (v.2.2.1) (v.2.2.2.1) (v.2.2.2.2.1) (v.2.2.2.2.2.1) (v.2.2.2.2.2.2.1) (v.2.2.2.2.2.2.2.1) (v.2.2.2.2.2.2.2.2.1) (v.2.2.2.2.2.2.2.2.2.1) (v.2.2.2.2.2.2.2.2.2.2.1) (v.2.2.2.2.2.2.2.2.2.2.2.1) (v.2.2.2.2.2.2.2.2.2.2.2.2.1) (v.2.2.2.2.2.2.2.2.2.2.2.2.2.1) (v.2.2.2.2.2.2.2.2.2.2.2.2.2.2.1) (v.2.2.2.2.2.2.2.2.2.2.2.2.2.2.2.1) (v.2.2.2.2.2.2.2.2.2.2.2.2.2.2.2.2.1) (v.2.2.2.2.2.2.2.2.2.2.2.2.2.2.2.2.2.1) (v.2.2.2.2.2.2.2.2.2.2.2.2.2.2.2.2.2.2.1) (v.2.2.2.2.2.2.2.2.2.2.2.2.2.2.2.2.2.2.2.1) (v.2.2.2.2.2.2.2.2.2.2.2.2.2.2.2.2.2.2.2.2.1) (v.2.2.2.2.2.2.2.2.2.2.2.2.2.2.2.2.2.2.2.2.2.1) (v.2.2.2.2.2.2.2.2.2.2.2.2.2.2.2.2.2.2.2.2.2.2.1) (v.2.2.2.2.2.2.2.2.2.2.2.2.2.2.2.2.2.2.2.2.2.2.2.1) (v.2.2.2.2.2.2.2.2.2.2.2.2.2.2.2.2.2.2.2.2.2.2.2.2.1) (v.2.2.2.2.2.2.2.2.2.2.2.2.2.2.2.2.2.2.2.2.2.2.2.2.2.1) (v.2.2.2.2.2.2.2.2.2.2.2.2.2.2.2.2.2.2.2.2.2.2.2.2.2.2.1) (v.2.2.2.2.2.2.2.2.2.2.2.2.2.2.2.2.2.2.2.2.2.2.2.2.2.2.2.1) (v.2.2.2.2.2.2.2.2.2.2.2.2.2.2.2.2.2.2.2.2.2.2.2.2.2.2.2.2.1) (v.2.2.2.2.2.2.2.2.2.2.2.2.2.2.2.2.2.2.2.2.2.2.2.2.2.2.2.2.2.1) (v.2.2.2.2.2.2.2.2.2.2.2.2.2.2.2.2.2.2.2.2.2.2.2.2.2.2.2.2.2.2.1) (v.2.2.2.2.2.2.2.2.2.2.2.2.2.2.2.2.2.2.2.2.2.2.2.2.2.2.2.2.2.2.2.1) (v.2.2.2.2.2.2.2.2.2.2.2.2.2.2.2.2.2.2.2.2.2.2.2.2.2.2.2.2.2.2.2.2.1) (v.2.2.2.2.2.2.2.2.2.2.2.2.2.2.2.2.2.2.2.2.2.2.2.2.2.2.2.2.2.2.2.2.2.1) (v.2.2.2.2.2.2.2.2.2.2.2.2.2.2.2.2.2.2.2.2.2.2.2.2.2.2.2.2.2.2.2.2.2.2.1) (v.2.2.2.2.2.2.2.2.2.2.2.2.2.2.2.2.2.2.2.2.2.2.2.2.2.2.2.2.2.2.2.2.2.2.2.1) (v.2.2.2.2.2.2.2.2.2.2.2.2.2.2.2.2.2.2.2.2.2.2.2.2.2.2.2.2.2.2.2.2.2.2.2.2.1) (v.2.2.2.2.2.2.2.2.2.2.2.2.2.2.2.2.2.2.2.2.2.2.2.2.2.2.2.2.2.2.2.2.2.2.2.2.2.1) (v.2.2.2.2.2.2.2.2.2.2.2.2.2.2.2.2.2.2.2.2.2.2.2.2.2.2.2.2.2.2.2.2.2.2.2.2.2.2.1) (v.2.2.2.2.2.2.2.2.2.2.2.2.2.2.2.2.2.2.2.2.2.2.2.2.2.2.2.2.2.2.2.2.2.2.2.2.2.2.2.1) (v.2.2.2.2.2.2.2.2.2.2.2.2.2.2.2.2.2.2.2.2.2.2.2.2.2.2.2.2.2.2.2.2.2.2.2.2.2.2.2.2.1) (v.2.2.2.2.2.2.2.2.2.2.2.2.2.2.2.2.2.2.2.2.2.2.2.2.2.2.2.2.2.2.2.2.2.2.2.2.2.2.2.2.2.1) (v.2.2.2.2.2.2.2.2.2.2.2.2.2.2.2.2.2.2.2.2.2.2.2.2.2.2.2.2.2.2.2.2.2.2.2.2.2.2.2.2.2.2.1) (v.2.2.2.2.2.2.2.2.2.2.2.2.2.2.2.2.2.2.2.2.2.2.2.2.2.2.2.2.2.2.2.2.2.2.2.2.2.2.2.2.2.2.2.1) (v.2.2.2.2.2.2.2.2.2.2.2.2.2.2.2.2.2.2.2.2.2.2.2.2.2.2.2.2.2.2.2.2.2.2.2.2.2.2.2.2.2.2.2.2.1) (v.2.2.2.2.2.2.2.2.2.2.2.2.2.2.2.2.2.2.2.2.2.2.2.2.2.2.2.2.2.2.2.2.2.2.2.2.2.2.2.2.2.2.2.2.2)) h
noncomputable def w : World := zcv.1
noncomputable def p : Program := zcv.2.1
noncomputable def loose : List Str := zcv.2.2.1
noncomputable def mean : ExcName → Option Value := zcv.2.2.2.1
noncomputable def mg : Str → Option Value := zcv.2.2.2.2.1
noncomputable def mb : Str → Option Value := zcv.2.2.2.2.2.1
noncomputable def dp : Nat := zcv.2.2.2.2.2.2.1
noncomputable def un : Nat := zcv.2.2.2.2.2.2.2.1
noncomputable def gd : Option (List Code) := zcv.2.2.2.2.2.2.2.2.1
noncomputable def cn : Str := zcv.2.2.2.2.2.2.2.2.2.1
noncomputable def cs : Scope := zcv.2.2.2.2.2.2.2.2.2.2.1
noncomputable def a : Addr := zcv.2.2.2.2.2.2.2.2.2.2.2.1
noncomputable def ccd : Value := zcv.2.2.2.2.2.2.2.2.2.2.2.2.1
noncomputable def cl : List (Str × Addr) := zcv.2.2.2.2.2.2.2.2.2.2.2.2.2.1
noncomputable def outer : List Env := zcv.2.2.2.2.2.2.2.2.2.2.2.2.2.2.1
noncomputable def A₀ : Around := zcv.2.2.2.2.2.2.2.2.2.2.2.2.2.2.2.1
noncomputable def base : Heap := zcv.2.2.2.2.2.2.2.2.2.2.2.2.2.2.2.2.1
noncomputable def h₀ : Heap := zcv.2.2.2.2.2.2.2.2.2.2.2.2.2.2.2.2.2.1
noncomputable def L : Addr := zcv.2.2.2.2.2.2.2.2.2.2.2.2.2.2.2.2.2.2.1
noncomputable def m : Str → Option Value := zcv.2.2.2.2.2.2.2.2.2.2.2.2.2.2.2.2.2.2.2.1
noncomputable def s : Shared := zcv.2.2.2.2.2.2.2.2.2.2.2.2.2.2.2.2.2.2.2.2.1
noncomputable def Q : Value → Shared → Prop := zcv.2.2.2.2.2.2.2.2.2.2.2.2.2.2.2.2.2.2.2.2.2.1
noncomputable def E : Value → Shared → Prop := zcv.2.2.2.2.2.2.2.2.2.2.2.2.2.2.2.2.2.2.2.2.2.2.1
noncomputable def news : List (Addr × Obj) := zcv.2.2.2.2.2.2.2.2.2.2.2.2.2.2.2.2.2.2.2.2.2.2.2.1
noncomputable def oS : Obj := zcv.2.2.2.2.2.2.2.2.2.2.2.2.2.2.2.2.2.2.2.2.2.2.2.2.1
noncomputable def oX : Obj := zcv.2.2.2.2.2.2.2.2.2.2.2.2.2.2.2.2.2.2.2.2.2.2.2.2.2.1
noncomputable def g1 : Obj → List (Addr × Obj) := zcv.2.2.2.2.2.2.2.2.2.2.2.2.2.2.2.2.2.2.2.2.2.2.2.2.2.2.1
noncomputable def g2 : Obj → Obj → List (Addr × Obj) := zcv.2.2.2.2.2.2.2.2.2.2.2.2.2.2.2.2.2.2.2.2.2.2.2.2.2.2.2.1
noncomputable def f : Str → Option Int := zcv.2.2.2.2.2.2.2.2.2.2.2.2.2.2.2.2.2.2.2.2.2.2.2.2.2.2.2.2.1
noncomputable def x : Str → Option Int := zcv.2.2.2.2.2.2.2.2.2.2.2.2.2.2.2.2.2.2.2.2.2.2.2.2.2.2.2.2.2.1
noncomputable def nS : Nat := zcv.2.2.2.2.2.2.2.2.2.2.2.2.2.2.2.2.2.2.2.2.2.2.2.2.2.2.2.2.2.2.1
noncomputable def nX : Nat := zcv.2.2.2.2.2.2.2.2.2.2.2.2.2.2.2.2.2.2.2.2.2.2.2.2.2.2.2.2.2.2.2.1
noncomputable def st : Addr := zcv.2.2.2.2.2.2.2.2.2.2.2.2.2.2.2.2.2.2.2.2.2.2.2.2.2.2.2.2.2.2.2.2.1
noncomputable def S : Addr := zcv.2.2.2.2.2.2.2.2.2.2.2.2.2.2.2.2.2.2.2.2.2.2.2.2.2.2.2.2.2.2.2.2.2.1
noncomputable def X : Addr := zcv.2.2.2.2.2.2.2.2.2.2.2.2.2.2.2.2.2.2.2.2.2.2.2.2.2.2.2.2.2.2.2.2.2.2.1
noncomputable def V : Addr := zcv.2.2.2.2.2.2.2.2.2.2.2.2.2.2.2.2.2.2.2.2.2.2.2.2.2.2.2.2.2.2.2.2.2.2.2.1
noncomputable def clk : Addr := zcv.2.2.2.2.2.2.2.2.2.2.2.2.2.2.2.2.2.2.2.2.2.2.2.2.2.2.2.2.2.2.2.2.2.2.2.2.1
noncomputable def lim : Addr := zcv.2.2.2.2.2.2.2.2.2.2.2.2.2.2.2.2.2.2.2.2.2.2.2.2.2.2.2.2.2.2.2.2.2.2.2.2.2.1
noncomputable def it : Addr := zcv.2.2.2.2.2.2.2.2.2.2.2.2.2.2.2.2.2.2.2.2.2.2.2.2.2.2.2.2.2.2.2.2.2.2.2.2.2.2.1
noncomputable def nt : Addr := zcv.2.2.2.2.2.2.2.2.2.2.2.2.2.2.2.2.2.2.2.2.2.2.2.2.2.2.2.2.2.2.2.2.2.2.2.2.2.2.2.1
noncomputable def sec : Bool := zcv.2.2.2.2.2.2.2.2.2.2.2.2.2.2.2.2.2.2.2.2.2.2.2.2.2.2.2.2.2.2.2.2.2.2.2.2.2.2.2.2.1
noncomputable def ns : Str := zcv.2.2.2.2.2.2.2.2.2.2.2.2.2.2.2.2.2.2.2.2.2.2.2.2.2.2.2.2.2.2.2.2.2.2.2.2.2.2.2.2.2.1
noncomputable def names : List Str := zcv.2.2.2.2.2.2.2.2.2.2.2.2.2.2.2.2.2.2.2.2.2.2.2.2.2.2.2.2.2.2.2.2.2.2.2.2.2.2.2.2.2.2.1
noncomputable def am : Int := zcv.2.2.2.2.2.2.2.2.2.2.2.2.2.2.2.2.2.2.2.2.2.2.2.2.2.2.2.2.2.2.2.2.2.2.2.2.2.2.2.2.2.2.2.1
noncomputable def mu : Int := zcv.2.2.2.2.2.2.2.2.2.2.2.2.2.2.2.2.2.2.2.2.2.2.2.2.2.2.2.2.2.2.2.2.2.2.2.2.2.2.2.2.2.2.2.2.1
noncomputable def t : Int := zcv.2.2.2.2.2.2.2.2.2.2.2.2.2.2.2.2.2.2.2.2.2.2.2.2.2.2.2.2.2.2.2.2.2.2.2.2.2.2.2.2.2.2.2.2.2
noncomputable def zst2 : {P : ((List (Addr × Obj)) → (Addr) → (Int) → (Tok) → (Nat) → (Addr) → (Int) → (Int) → (Int) → (Int) → (Tok) → (Tok) → (Tok) → (Tok) → (Nat) → (Value) → (Option Addr) → (FuncData) → (Array (Option Value)) → (Heap) → (Addr) → (Heap) → Prop) // Hid (∀ (frz : List (Addr × Obj)) (ldx : Addr) (lh : Int) (lt : Tok) (ln : Nat) (dx : Addr) (h1 : Int) (h2 : Int) (h3 : Int) (h4 : Int) (t1 : Tok) (t2 : Tok) (t3 : Tok) (t4 : Tok) (nn : Nat) (oc : Value) (od : Option Addr) (fd : FuncData) (sl : Array (Option Value)) (g' : Heap) (L' : Addr) (h' : Heap), P frz ldx lh lt ln dx h1 h2 h3 h4 t1 t2 t3 t4 nn oc od fd sl g' L' h') → stest1_spec_St w p loose mean mg mb dp un gd cn cs a ccd cl outer A₀ base h₀ L m s Q E news oS oX g1 g2 f x nS nX st S X V clk lim it nt sec ns names am mu t} := by
  refine' ⟨_, fun HH1 => _⟩
  rotate_left 
  focus
    intro key e pk ck B F KX T hk N O Li I J U1 U2 hS hX zS zX ee ek he he2 het ht epk eck hf hd hu retH
    subst epk eck ee ek
    refine lower ?_ hd hu
    obtain ⟨frz, n1, n2, N', sub, mem⟩ := split2 O.xs U1 U2 N
    have O' : Store w frz st S X V clk t := O.sub (fun q hq ho => sub q hq ho.1 ho.2.1)
    have I' := I.sub (news' := frz) (fun q hq ho => sub q hq ho.1 ho.2.1)
    have J' := J.sub (news' := frz) (fun q hq ho => sub q hq ho.1 ho.2.1)
    have Li' := Li.sub (news' := frz) (fun q hq ho => sub q hq ho.1 ho.2.1)
    have hkl := keyOf_len I' J'
    clear N U1 U2 sub O I J Li
    obtain ⟨ldx, lh, lt, ln, hlim, hldx, _, _⟩ := Li'
    have O'' := O'
    obtain ⟨⟨dx, h1, h2, h3, h4, t1, t2, t3, t4, nn, oc, od, fd, sl, hst, hck, hdx, _, _, _⟩, _, sx, xv, lS, lX, lV⟩ := O''
    revert KX; k_fill; intro KX
    refine wpAny_call ?_
    walk_at "m enter"
    rename_i zi1 zi2 zi3 zi4 zi5 zi6 zi7
    revert B F T hk hS hX zS zX ht hf hd hu he he2 het retH n1 n2 zi1 mem O' I' J' hkl hlim hldx zi2 zi3 zi4 sx xv lS lX lV hst hck hdx zi5 zi6 zi7 KX FG' F' N' B' X' T' qk ek
    exact Hid.out HH1 frz ldx lh lt ln dx h1 h2 h3 h4 t1 t2 t3 t4 nn oc od fd sl g' L' h'
namespace k1
noncomputable def zcv : (List (Addr × Obj)) × (Addr) × (Int) × (Tok) × (Nat) × (Addr) × (Int) × (Int) × (Int) × (Int) × (Tok) × (Tok) × (Tok) × (Tok) × (Nat) × (Value) × (Option Addr) × (FuncData) × (Array (Option Value)) × (Heap) × (Addr) × (Heap) := pick (neP inferInstance (neP inferInstance (neP inferInstance (neP inferInstance (neP inferInstance (neP inferInstance (neP inferInstance (neP inferInstance (neP inferInstance (neP inferInstance (neP inferInstance (neP inferInstance (neP inferInstance (neP inferInstance (neP inferInstance (neP inferInstance (neP inferInstance (neP inferInstance (neP inferInstance (neP inferInstance (neP inferInstance inferInstance))))))))))))))))))))) (fun v : (List (Addr × Obj)) × (Addr) × (Int) × (Tok) × (Nat) × (Addr) × (Int) × (Int) × (Int) × (Int) × (Tok) × (Tok) × (Tok) × (Tok) × (Nat) × (Value) × (Option Addr) × (FuncData) × (Array (Option Value)) × (Heap) × (Addr) × (Heap) => zst2.1 (v.1) (v.2.1) (v.2.2.1) (v.2.2.2.1) (v.2.2.2.2.1) (v.2.2.2.2.2.1) (v.2.2.2.2.2.2.1) (v.2.2.2.2.2.2.2.1) (v.2.2.2.2.2.2.2.2.1) (v.2.2.2.2.2.2.2.2.2.1) (v.2.2.2.2.2.2.2.2.2.2.1) (v.2.2.2.2.2.2.2.2.2.2.2.1) (v.2.2.2.2.2.2.2.2.2.2.2.2.1) (v.2.2.2.2.2.2.2.2.2.2.2.2.2.1) (v.2.2.2.2.2.2.2.2.2.2.2.2.2.2.1) (v.2.2.2.2.2.2.2.2.2.2.2.2.2.2.2.1) (v.2.2.2.2.2.2.2.2.2.2.2.2.2.2.2.2.1) (v.2.2.2.2.2.2.2.2.2.2.2.2.2.2.2.2.2.1) (v.2.2.2.2.2.2.2.2.2.2.2.2.2.2.2.2.2.2.1) (v.2.2.2.2.2.2.2.2.2.2.2.2.2.2.2.2.2.2.2.1) (v.2.2.2.2.2.2.2.2.2.2.2.2.2.2.2.2.2.2.2.2.1) (v.2.2.2.2.2.2.2.2.2.2.2.2.2.2.2.2.2.2.2.2.2)) 0
theorem zal (h : zst2.1 (zcv.1) (zcv.2.1) (zcv.2.2.1) (zcv.2.2.2.1) (zcv.2.2.2.2.1) (zcv.2.2.2.2.2.1) (zcv.2.2.2.2.2.2.1) (zcv.2.2.2.2.2.2.2.1) (zcv.2.2.2.2.2.2.2.2.1) (zcv.2.2.2.2.2.2.2.2.2.1) (zcv.2.2.2.2.2.2.2.2.2.2.1) (zcv.2.2.2.2.2.2.2.2.2.2.2.1) (zcv.2.2.2.2.2.2.2.2.2.2.2.2.1) (zcv.2.2.2.2.2.2.2.2.2.2.2.2.2.1) (zcv.2.2.2.2.2.2.2.2.2.2.2.2.2.2.1) (zcv.2.2.2.2.2.2.2.2.2.2.2.2.2.2.2.1) (zcv.2.2.2.2.2.2.2.2.2.2.2.2.2.2.2.2.1) (zcv.2.2.2.2.2.2.2.2.2.2.2.2.2.2.2.2.2.1) (zcv.2.2.2.2.2.2.2.2.2.2.2.2.2.2.2.2.2.2.1) (zcv.2.2.2.2.2.2.2.2.2.2.2.2.2.2.2.2.2.2.2.1) (zcv.2.2.2.2.2.2.2.2.2.2.2.2.2.2.2.2.2.2.2.2.1) (zcv.2.2.2.2.2.2.2.2.2.2.2.2.2.2.2.2.2.2.2.2.2)) : ∀ u : (List (Addr × Obj)) × (Addr) × (Int) × (Tok) × (Nat) × (Addr) × (Int) × (Int) × (Int) × (Int) × (Tok) × (Tok) × (Tok) × (Tok) × (Nat) × (Value) × (Option Addr) × (FuncData) × (Array (Option Value)) × (Heap) × (Addr) × (Heap), zst2.1 (u.1) (u.2.1) (u.2.2.1) (u.2.2.2.1) (u.2.2.2.2.1) (u.2.2.2.2.2.1) (u.2.2.2.2.2.2.1) (u.2.2.2.2.2.2.2.1) (u.2.2.2.2.2.2.2.2.1) (u.2.2.2.2.2.2.2.2.2.1) (u.2.2.2.2.2.2.2.2.2.2.1) (u.2.2.2.2.2.2.2.2.2.2.2.1) (u.2.2.2.2.2.2.2.2.2.2.2.2.1) (u.2.2.2.2.2.2.2.2.2.2.2.2.2.1) (u.2.2.2.2.2.2.2.2.2.2.2.2.2.2.1) (u.2.2.2.2.2.2.2.2.2.2.2.2.2.2.2.1) (u.2.2.2.2.2.2.2.2.2.2.2.2.2.2.2.2.1) (u.2.2.2.2.2.2.2.2.2.2.2.2.2.2.2.2.2.1) (u.2.2.2.2.2.2.2.2.2.2.2.2.2.2.2.2.2.2.1) (u.2.2.2.2.2.2.2.2.2.2.2.2.2.2.2.2.2.2.2.1) (u.2.2.2.2.2.2.2.2.2.2.2.2.2.2.2.2.2.2.2.2.1) (u.2.2.2.2.2.2.2.2.2.2.2.2.2.2.2.2.2.2.2.2.2) := pick_all (P := fun v : (List (Addr × Obj)) × (Addr) × (Int) × (Tok) × (Nat) × (Addr) × (Int) × (Int) × (Int) × (Int) × (Tok) × (Tok) × (Tok) × (Tok) × (Nat) × (Value) × (Option Addr) × (FuncData) × (Array (Option Value)) × (Heap) × (Addr) × (Heap) => zst2.1 (v.1) (v.2.1) (v.2.2.1) (v.2.2.2.1) (v.2.2.2.2.1) (v.2.2.2.2.2.1) (v.2.2.2.2.2.2.1) (v.2.2.2.2.2.2.2.1) (v.2.2.2.2.2.2.2.2.1) (v.2.2.2.2.2.2.2.2.2.1) (v.2.2.2.2.2.2.2.2.2.2.1) (v.2.2.2.2.2.2.2.2.2.2.2.1) (v.2.2.2.2.2.2.2.2.2.2.2.2.1) (v.2.2.2.2.2.2.2.2.2.2.2.2.2.1) (v.2.2.2.2.2.2.2.2.2.2.2.2.2.2.1) (v.2.2.2.2.2.2.2.2.2.2.2.2.2.2.2.1) (v.2.2.2.2.2.2.2.2.2.2.2.2.2.2.2.2.1) (v.2.2.2.2.2.2.2.2.2.2.2.2.2.2.2.2.2.1) (v.2.2.2.2.2.2.2.2.2.2.2.2.2.2.2.2.2.2.1) (v.2.2.2.2.2.2.2.2.2.2.2.2.2.2.2.2.2.2.2.1) (v.2.2.2.2.2.2.2.2.2.2.2.2.2.2.2.2.2.2.2.2.1) (v.2.2.2.2.2.2.2.2.2.2.2.2.2.2.2.2.2.2.2.2.2)) h
noncomputable def frz : List (Addr × Obj) := zcv.1
noncomputable def ldx : Addr := zcv.2.1
noncomputable def lh : Int := zcv.2.2.1
noncomputable def lt : Tok := zcv.2.2.2.1
noncomputable def ln : Nat := zcv.2.2.2.2.1
noncomputable def dx : Addr := zcv.2.2.2.2.2.1
noncomputable def h1 : Int := zcv.2.2.2.2.2.2.1
noncomputable def h2 : Int := zcv.2.2.2.2.2.2.2.1
noncomputable def h3 : Int := zcv.2.2.2.2.2.2.2.2.1
noncomputable def h4 : Int := zcv.2.2.2.2.2.2.2.2.2.1
noncomputable def t1 : Tok := zcv.2.2.2.2.2.2.2.2.2.2.1
noncomputable def t2 : Tok := zcv.2.2.2.2.2.2.2.2.2.2.2.1
noncomputable def t3 : Tok := zcv.2.2.2.2.2.2.2.2.2.2.2.2.1
noncomputable def t4 : Tok := zcv.2.2.2.2.2.2.2.2.2.2.2.2.2.1
noncomputable def nn : Nat := zcv.2.2.2.2.2.2.2.2.2.2.2.2.2.2.1
noncomputable def oc : Value := zcv.2.2.2.2.2.2.2.2.2.2.2.2.2.2.2.1
noncomputable def od : Option Addr := zcv.2.2.2.2.2.2.2.2.2.2.2.2.2.2.2.2.1
noncomputable def fd : FuncData := zcv.2.2.2.2.2.2.2.2.2.2.2.2.2.2.2.2.2.1
noncomputable def sl : Array (Option Value) := zcv.2.2.2.2.2.2.2.2.2.2.2.2.2.2.2.2.2.2.1
noncomputable def g' : Heap := zcv.2.2.2.2.2.2.2.2.2.2.2.2.2.2.2.2.2.2.2.1
noncomputable def L' : Addr := zcv.2.2.2.2.2.2.2.2.2.2.2.2.2.2.2.2.2.2.2.2.1
noncomputable def h' : Heap := zcv.2.2.2.2.2.2.2.2.2.2.2.2.2.2.2.2.2.2.2.2.2
theorem walk3 : zst2.1 frz ldx lh lt ln dx h1 h2 h3 h4 t1 t2 t3 t4 nn oc od fd sl g' L' h' := by
  intro B F T hk hS hX zS zX ht hf hd hu he he2 het retH n1 n2 zi1 mem O' I' J' hkl hlim hldx zi2 zi3 zi4 sx xv lS lX lV hst hck hdx zi5 zi6 zi7 KX FG' F' N' B' X' T' qk ek
  k_steps
  subst_vars
  exact retH _ _ _ _ (by assumption) (news_of (by assumption) (fun p hp => .tail _ (mem _ _ p hp))) (DictV.mono (by assumption) (Nat.le_succ _)) (DictV.mono (by assumption) (Nat.le_succ _))
end k1
theorem up4 : stest1_spec_St w p loose mean mg mb dp un gd cn cs a ccd cl outer A₀ base h₀ L m s Q E news oS oX g1 g2 f x nS nX st S X V clk lim it nt sec ns names am mu t := zst2.2 (fun frz ldx lh lt ln dx h1 h2 h3 h4 t1 t2 t3 t4 nn oc od fd sl g' L' h' => k1.zal k1.walk3 (frz, ldx, lh, lt, ln, dx, h1, h2, h3, h4, t1, t2, t3, t4, nn, oc, od, fd, sl, g', L', h'))
end c_stest1_spec
theorem stest1_spec {w : World} {p : Program} {loose : List Str} {mean : ExcName → Option Value} {mg : Str → Option Value} {mb : Str → Option Value} {dp : Nat} {un : Nat} {gd : Option (List Code)} {cn : Str} {cs : Scope} {a : Addr} {ccd : Value} {cl : List (Str × Addr)} {outer : List Env} {A₀ : Around} {base : Heap} {h₀ : Heap} {L : Addr} {m : Str → Option Value} {s : Shared} {Q : Value → Shared → Prop} {E : Value → Shared → Prop} (B : Below A₀ base outer h₀) (F : Fr h₀ L s.heap m) (KX : (Mine.hd1.heap_39 w.params).In h₀) (T : Top p loose mean mg mb h₀) (hk : cs.kind = .function) {news : List (Addr × Obj)} {oS : Obj} {oX : Obj} {g1 : Obj → List (Addr × Obj)} {g2 : Obj → Obj → List (Addr × Obj)} {f : Str → Option Int} {x : Str → Option Int} {nS : Nat} {nX : Nat} {st : Addr} {S : Addr} {X : Addr} {V : Addr} {clk : Addr} {lim : Addr} {it : Addr} {nt : Addr} {sec : Bool} {ns : Str} {key : Str} {names : List Str} {am : Int} {mu : Int} {t : Int} {e : Int} {pk : Str} {ck : Str} (N : News h₀ L s.heap news) (O : Store w news st S X V clk t) (Li : LimAt news S X V 296 lim st) (I : ItemAt news S X V it sec ns am mu) (J : NamesAt news S X V nt names) (U1 : UpdF S oS news g1) (U2 : ∀ o, UpdF X oX (g1 o) (g2 o)) (hS : IntD PySem.Challenge.rw_ji0060_01.row.prog w oS f nS) (hX : IntD PySem.Challenge.rw_ji0060_01.row.prog w oX x nX) (zS : nS + 1 ≤ sizeLine) (zX : nX + 1 ≤ sizeLine) (ee : e = unitOf sec * mu) (ek : key = keyOf sec ns names am mu) (he : 0 < e) (he2 : e < 1000000) (het : e ≤ t) (ht : t < 1000000000000) (epk : pk = wkey key ((t - e).fdiv e)) (eck : ck = wkey key (t.fdiv e)) (hf : ∀ j, 0 ≤ (f j).getD 0 ∧ (f j).getD 0 ≤ 1000000) (hd : dp ≤ 820) (hu : un ≤ 8200) (retH : ∀ oS' oX' h' tk', Fr h₀ L h' m → News h₀ L h' (g2 oS' oX') → IntD PySem.Challenge.rw_ji0060_01.row.prog w oS' (F2 f x pk ck t) (nS + 1) → IntD PySem.Challenge.rw_ji0060_01.row.prog w oX' (F2 x x pk ck t) (nX + 1) → Q (.bool (decide (wF f x pk ck t e < am - 1 + 1))) { s with heap := h', toks := tk' }) :
    wpAny (model PySem.Challenge.rw_ji0060_01.row.prog w) (ktrTop dp un gd cn cs L a ccd cl outer) (call (.ref 275) [.ref lim, .ref it, .ref nt]) Q E s :=
  c_stest1_spec.zal c_stest1_spec.up4 (w, p, loose, mean, mg, mb, dp, un, gd, cn, cs, a, ccd, cl, outer, A₀, base, h₀, L, m, s, Q, E, news, oS, oX, g1, g2, f, x, nS, nX, st, S, X, V, clk, lim, it, nt, sec, ns, names, am, mu, t) _ _ _ _ B F KX T hk N O Li I J U1 U2 hS hX zS zX ee ek he he2 het ht epk eck hf hd hu retH
section
variable {w : World} {p : Program} {loose : List Str} {mean : ExcName → Option Value} {mg mb : Str → Option Value} {dp un : Nat} {gd : Option (List Code)} {cn : Str} {cs : Scope} {a : Addr} {ccd : Value} {cl : List (Str × Addr)} {outer : List Env} {A₀ : Around} {base h₀ : Heap} {L : Addr} {m : Str → Option Value} {s : Shared} {Q E : Value → Shared → Prop}
  (B : Below A₀ base outer h₀) (F : Fr h₀ L s.heap m) (KX : (Mine.hd1.heap_39 w.params).In h₀) (T : Top p loose mean mg mb h₀) (hk : cs.kind = .function)
include B F KX T hk
end

end

theorem said_stest1 : True := by
  k_with "call ref" => (k_here; (with_reducible show wpAny _ _ (call (Value.ref 275) [_, _, _]) _ _ _); k_dflt (refine' stest1_spec ?zyB ?zyF ?zyX ?zyT ?zyk ?zyN ?zyO ?zyLi ?zyI ?zyJ ?zyU1 ?zyU2 ?zyhS ?zyhX ?zyzS ?zyzX ?zyee ?zyek ?zyhe ?zyhe2 ?zyhet ?zyht ?zyepk ?zyeck ?zyhf ?zyd ?zyu ?_; (case zyB => k_asm); (case zyF => k_asm); (case zyX => k_asm); (case zyT => k_asm); (case zyk => first | exact rfl | assumption); (case zyN => k_asm); (case zyO => refine' Store.sub ?zyo ?zys; (case zyo => assumption); (case zys => walk_at "m sub")); (case zyU1 => k_updF); (case zyU2 => (intro o1; (try dsimp only); k_updF)); (case zyhS => assumption); (case zyhX => assumption); (case zyzS => first | assumption | omega); (case zyzX => first | assumption | omega); (case zyLi => refine' LimAt.sub ?zyo ?zys; (case zyo => assumption); (case zys => walk_at "m sub")); (case zyI => refine' ItemAt.sub ?zyo ?zys; (case zyo => assumption); (case zys => walk_at "m sub")); (case zyJ => refine' NamesAt.sub ?zyo ?zys; (case zyo => assumption); (case zys => walk_at "m sub")); (case zyee => first | assumption | rfl); (case zyek => first | assumption | rfl); (case zyhe => walk_at "m om"); (case zyhe2 => walk_at "m om"); (case zyhet => walk_at "m om"); (case zyht => walk_at "m om"); (case zyepk => first | assumption | rfl); (case zyeck => first | assumption | rfl); (case zyhf => assumption); (case zyd => exact Nat.le_of_ble_eq_true rfl); (case zyu => exact Nat.le_of_ble_eq_true rfl); k_whole); (intro oS' oX' h' tk' F' N' hS' hX'; (try dsimp only at N'); (try dsimp only); (try k_sweep)))
  trivial
section
section
variable {w : World} {p : Program} {loose : List Str} {mean : ExcName → Option Value} {mg mb : Str → Option Value} {dp un : Nat} {gd : Option (List Code)} {cn : Str} {cs : Scope} {a : Addr} {ccd : Value} {cl : List (Str × Addr)} {outer : List Env} {A₀ : Around} {base h₀ : Heap} {L : Addr} {m : Str → Option Value} {s : Shared} {Q E : Value → Shared → Prop}
  (B : Below A₀ base outer h₀) (F : Fr h₀ L s.heap m) (KX : (Mine.hd1.heap_39 w.params).In h₀) (T : Top p loose mean mg mb h₀) (hk : cs.kind = .function)
include B F KX T hk


theorem sclear_spec {news : List (Addr × Obj)} {oS oX oV : Obj} {g1 : Obj → List (Addr × Obj)} {g2 : Obj → Obj → List (Addr × Obj)} {g3 : Obj → Obj → Obj → List (Addr × Obj)} {f x : Str → Option Int} {nS nX : Nat} {ev : Str → Option Addr} {nV : Nat} {st S X V clk lim it nt : Addr} {sec : Bool} {ns key : Str} {names : List Str} {am mu t e : Int} 
    (N : News h₀ L s.heap news) (O : Store w news st S X V clk t) (Li : LimAt news S X V 296 lim st) (I : ItemAt news S X V it sec ns am mu) (J : NamesAt news S X V nt names) (U1 : UpdF S oS news g1) (U2 : ∀ o, UpdF X oX (g1 o) (g2 o)) (U3 : ∀ o o', UpdF V oV (g2 o o') (g3 o o'))
    (hS : IntD PySem.Challenge.rw_ji0060_01.row.prog w oS f nS) (hX : IntD PySem.Challenge.rw_ji0060_01.row.prog w oX x nX) (hV : RefD PySem.Challenge.rw_ji0060_01.row.prog w oV ev nV) (zS : nS + 1 ≤ sizeLine) (zX : nX + 1 ≤ sizeLine) (zV : nV + 1 ≤ sizeLine) (ee : e = unitOf sec * mu) (ek : key = keyOf sec ns names am mu) (he : 0 < e) (he2 : e < 1000000) (het : e ≤ t) (ht : t < 1000000000000) (hd : dp ≤ 820) (hu : un ≤ 8200)
    (ret : ∀ oS' oX' oV' h' tk', Fr h₀ L h' m → News h₀ L h' (g3 oS' oX' oV') → IntD PySem.Challenge.rw_ji0060_01.row.prog w oS' (upd (upd f (wkey key ((t - e).fdiv e)) none) (wkey key (t.fdiv e)) none) nS → IntD PySem.Challenge.rw_ji0060_01.row.prog w oX' (upd (upd x (wkey key ((t - e).fdiv e)) none) (wkey key (t.fdiv e)) none) nX → RefD PySem.Challenge.rw_ji0060_01.row.prog w oV' (upd (upd ev (wkey key ((t - e).fdiv e)) none) (wkey key (t.fdiv e)) none) nV → Q .none { s with heap := h', toks := tk' }) :
    wpAny (model PySem.Challenge.rw_ji0060_01.row.prog w) (ktrTop dp un gd cn cs L a ccd cl outer) (call (.ref 293) [.ref lim, .ref it, .ref nt]) Q E s := by
  subst ee ek
  refine lower ?_ hd hu
  obtain ⟨frz, n1, n2, n3, N', sub, mem⟩ := split3 O.xs O.vs O.vx U1 U2 U3 N
  have O' : Store w frz st S X V clk t := O.sub (fun q hq ho => sub q hq ho.1 ho.2.1 ho.2.2)
  have I' := I.sub (news' := frz) (fun q hq ho => sub q hq ho.1 ho.2.1 ho.2.2)
  have J' := J.sub (news' := frz) (fun q hq ho => sub q hq ho.1 ho.2.1 ho.2.2)
  have Li' := Li.sub (news' := frz) (fun q hq ho => sub q hq ho.1 ho.2.1 ho.2.2)
  have hkl := keyOf_len I' J'
  clear N U1 U2 U3 sub O I J Li
  obtain ⟨ldx, lh, lt, ln, hlim, hldx, _, _⟩ := Li'
  have O'' := O'
  obtain ⟨⟨dx, h1, h2, h3, h4, t1, t2, t3, t4, nn, oc, od, fd, sl, hst, hck, hdx, _, _, _⟩, _, sx, xv, lS, lX, lV⟩ := O''
  revert KX; k_fill; intro KX
  refine wpAny_call ?_
  walk_at "m enter"
  k_steps
  exact ret _ _ _ _ _ (by assumption) (news_of (by assumption) (mem _ _ _)) (by assumption) (by assumption) (by assumption)
end

end

theorem said_sclear : True := by
  k_with "call ref" => (k_here; (with_reducible show wpAny _ _ (call (Value.ref 293) _) _ _ _); k_dflt (refine' sclear_spec ?zyB ?zyF ?zyX ?zyT ?zyk ?zyN ?zyO ?zyLi ?zyI ?zyJ ?zyU1 ?zyU2 ?zyU3 ?zyhS ?zyhX ?zyhV ?zyzS ?zyzX ?zyzV ?zyee ?zyek ?zyhe ?zyhe2 ?zyhet ?zyht ?zyd ?zyu ?_; (case zyB => k_asm); (case zyF => k_asm); (case zyX => k_asm); (case zyT => k_asm); (case zyk => first | exact rfl | assumption); (case zyN => k_asm); (case zyO => refine' Store.sub ?zyo ?zys; (case zyo => assumption); (case zys => walk_at "m sub")); (case zyU1 => k_updF); (case zyU2 => (intro o1; (try dsimp only); k_updF)); (case zyhS => assumption); (case zyhX => assumption); (case zyzS => first | assumption | omega); (case zyzX => first | assumption | omega); (case zyU3 => (intro o1 o2; (try dsimp only); k_updF)); (case zyhV => assumption); (case zyzV => walk_at "m om"); (case zyLi => refine' LimAt.sub ?zyo ?zys; (case zyo => assumption); (case zys => walk_at "m sub")); (case zyI => refine' ItemAt.sub ?zyo ?zys; (case zyo => assumption); (case zys => walk_at "m sub")); (case zyJ => refine' NamesAt.sub ?zyo ?zys; (case zyo => assumption); (case zys => walk_at "m sub")); (case zyee => first | assumption | rfl); (case zyek => first | assumption | rfl); (case zyhe => walk_at "m om"); (case zyhe2 => walk_at "m om"); (case zyhet => walk_at "m om"); (case zyht => walk_at "m om"); (case zyd => exact Nat.le_of_ble_eq_true rfl); (case zyu => exact Nat.le_of_ble_eq_true rfl); k_whole); (intro oS' oX' oV' h' tk' F' N' hS' hX' hV'; (try dsimp only at N'); (try dsimp only); (try k_sweep)))
  trivial
section
theorem said_p_mkT : True := by
  k_with "call builtin:tuple.__new__" => (k_here; (fail_if_success (fail_if_success (have := (by with_reducible assumption : Mk 123)))); k_dflt (refine' c_tupnew ?zyF ?zyX ?zyN ?zyhm ?zyhz ?_; (case zyF => k_asm); (case zyX => k_asm); (case zyN => k_asm); (case zyhm => k_mem); (case zyhz => exact Nat.le_of_ble_eq_true rfl); k_whole); (intro x' d' h' F' N' l1 l2; (try k_sweep)))
  trivial
theorem pk_nw (P : Params) (g : Program) : peek (Mine.hd1.heap_39 P) ⟨g, P⟩ (isInstance (.ref 132) (.type "type")) = some true := by kernel_rfl
theorem oi_args3 (x a b : Value) : argsOk "object.__init__" ⟨[x, a, b], []⟩ := by unfold argsOk; kernel_rfl
section
variable {w : World} {p : Program} {loose : List Str} {mean : ExcName → Option Value} {mg mb : Str → Option Value} {dp un : Nat} {gd : Option (List Code)} {cn : Str} {cs : Scope} {a : Addr} {ccd : Value} {cl : List (Str × Addr)} {outer : List Env} {A₀ : Around} {base h₀ : Heap} {L : Addr} {m : Str → Option Value} {s : Shared} {Q E : Value → Shared → Prop}
  (B : Below A₀ base outer h₀) (F : Fr h₀ L s.heap m) (KX : (Mine.hd1.heap_39 w.params).In h₀) (T : Top p loose mean mg mb h₀) (hk : cs.kind = .function)
include B F KX T hk

theorem make_T {va vb : Value} {news : List (Addr × Obj)} (N : News h₀ L s.heap news) (hd : dp ≤ 860) (hu : un ≤ 8600)
    (ret : ∀ x d h' tk', Fr h₀ L h' m → News h₀ L h' ((x, tupObj d [va, vb]) :: (d, emptyDict) :: news) → (∀ p ∈ news, @LT.lt Nat _ p.1 d) → @LT.lt Nat _ d x → Q (.ref x) { s with heap := h', toks := tk' }) :
    wpAny (model PySem.Challenge.rw_ji0060_01.row.prog w) (ktrTop dp un gd cn cs L a ccd cl outer) (call (.ref 132) [va, vb]) Q E s := by
  have mkp : Mk 123 := trivial
  refine lower ?_ hd hu
  revert KX; k_fill; intro KX
  obtain ⟨h0, g, d0, tt, os⟩ := s
  dsimp only at F N ret
  have XX := KX.keeps F.keep
  let M := model PySem.Challenge.rw_ji0060_01.row.prog w
  have L1 : Looks M h0 (specialOf (.ref 132) "__call__") (some (.builtin "type.__call__")) := Looks.of_peek XX (pk_cl _ _)
  have L2 : Looks M h0 (do return (← mroOf (.ref 132)).isEmpty) false := Looks.of_peek XX (pk_mr _ _)
  have L3 : Looks M h0 (Bind.madeBy (.ref 132)) none := Looks.of_peek XX (pk_mb _ _)
  have L4 : Looks M h0 (isInstance (.ref 132) (.type "type")) true := Looks.of_peek XX (pk_nw _ _)
  refine wpAny_call (codeAny_of_tree ?_)
  obtain ⟨oc, od, cd, sl, ho⟩ : ∃ oc od cd sl, (Mine.hd1.heap_39 w.params).lookup 132 = some ⟨oc, od, .cls cd, sl⟩ := by
    have e : isClsIn (Mine.hd1.heap_39 w.params) 132 = true := by k_is
    unfold isClsIn clsIn at e
    split at e
    · rename_i ho
      exact ⟨_, _, _, _, ho⟩
    · cases e
  show wpAny _ _ (callAny (.ref 132) _) _ _ _
  refine nd_load (XX _ _ ho) ?_
  show wpAny _ _ (callAny.viaDunder (.ref 132) _) _ _ _
  unfold callAny.viaDunder
  refine wpAny_bind (L1.at ?_)
  dsimp only
  rw [tc_bind]
  refine wpAny_bind (wpAny_pure (wpAny_bind (wpAny_pure ?_)))
  refine wpAny_pure (a := Fin.again (.call (.builtin "type.__call__") ⟨.ref 132 :: [va, vb], []⟩)) (And.intro rfl ?_)
  refine codeAny_call_builtin_at (Code.quiet_builtin _ (by decide +kernel)) entry_typeCall ?_
  refine' check_slot (i := "type.__call__") (owner := "type") (n := "__call__") ?ka ?kb ?kc ?kd ?_
  case ka => exact tc_kind
  case kb => exact tc_split
  case kc => exact L4
  case kd => exact tc_args _ _ _
  unfold Builtin.«type.__call__»
  have hc : clsIn (Mine.hd1.heap_39 w.params) 132 = some cd := by unfold clsIn; rw [ho]
  have e4 : cd.mro.isEmpty = false := by
    have e9 : subIn (Mine.hd1.heap_39 w.params) (.ref 132) (.type "tuple") = some true := by k_is
    replace e9 : mroIn (Mine.hd1.heap_39 w.params) 132 (.type "tuple") = some true := e9
    unfold mroIn at e9
    rw [hc, Option.bind_some] at e9
    cases q : cd.mro.isEmpty with
    | false => rfl
    | true => rw [q] at e9; cases e9
  have hm : Looks M h0 (mroOf (.ref 132)) cd.mro := ((Looks.ld (part := none) (XX _ _ ho)).andThen .now).andThen .now
  dsimp only
  rw [if_neg (by decide)]
  refine wpAny_bind (hm.at ?_)
  rw [e4, if_neg (by decide)]
  refine wpAny_bind (L3.at ?_)
  refine wpAny_bind ?_
  refine' cls_sm ?k1 ?k2 ?k3 ?k4 ?k5 ?k6 ?k7 ?_
  (case k1 => assumption)
  (case k2 => assumption)
  (case k3 => k_is)
  (case k4 => k_is)
  (case k5 => k_is)
  (case k6 => k_is)
  (case k7 => k_handed)
  refine wpAny_bind (wpAny_holding (wpAny_call ?_))
  walk_at "m enter"
  k_steps
  rename Fr h₀ L _ m => FF
  rename News h₀ L _ _ => NN
  have X2 := KX.keeps FF.keep
  have T1 : Looks M _ (typeOf (.ref _)) (.ref 132) := (Looks.ld (part := none) (NN _ (.head _)).1).andThen .now
  have S1 : Looks M _ (isSubtype (.ref 132) (.ref 132)) true := Looks.of_peek X2 (pk_ss _ _)
  have S2 : Looks M _ (isSubtype (.ref 132) (.type "object")) true := Looks.of_peek X2 (pk_so _ _)
  have S3 : Looks M _ (typeLookup (.ref 132) "__init__") (some (.builtin "object.__init__")) := Looks.of_peek X2 (pk_in _ _)
  have S4 : Looks M _ (Bind.madeBy (.ref 132)) none := Looks.of_peek X2 (pk_mb _ _)
  have I1 : Looks M _ (isInstance (.ref _) (.ref 132)) true := T1.andThen S1
  have I2 : Looks M _ (isInstance (.ref _) (.type "object")) true := T1.andThen S2
  have I3 : Looks M _ (specialOf (.ref _) "__init__") _ := T1.andThen S3
  refine wpAny_bind (I1.at ?_)
  rw [if_neg (by decide)]
  unfold callSpecial? specialOf
  refine wpAny_bind (wpAny_holding (wpAny_bind (I3.at ?_)))
  dsimp only
  refine wpAny_holding ?_
  rw [oi_bind]
  refine wpAny_bind (wpAny_pure (wpAny_bind (wpAny_call ?_)))
  show codeAny _ _ (.call (.builtin "object.__init__") ⟨[.ref _, va, vb], []⟩) _ _
  refine codeAny_call_builtin oi_plain entry_oi ?_
  refine' check_slot (i := "object.__init__") (owner := "object") (n := "__init__") ?ka ?kb ?kc ?kd ?_
  case ka => exact oi_kind
  case kb => exact oi_split
  case kc => exact I2
  case kd => exact oi_args3 _ _ _
  unfold Builtin.«object.__init__»
  simp only [List.cons_append, List.nil_append]
  rw [if_pos (show (!(List.isEmpty [va, vb]) || !(List.isEmpty ([] : List (Str × Value)))) = true from rfl)]
  refine wpAny_bind (T1.at ?_)
  refine wpAny_bind (S3.at ?_)
  refine wpAny_bind (S4.at ?_)
  rw [if_neg (by decide)]
  rw [if_neg (by decide)]
  refine wpAny_pure ?_
  refine wpAny_pure (wpAny_pure ?_)
  exact ret _ _ _ _ FF (news_of NN (cons_sub (cons_sub (fun p hp => .tail _ hp)))) (fun p hp => (by assumption : ∀ q ∈ _ :: news, q.1 < _) p (.tail _ hp)) (by assumption)
end

end

theorem said_mkT : True := by
  k_with "call ref" => (k_here; (with_reducible show wpAny _ _ (call (Value.ref 132) [_, _]) _ _ _); k_dflt (refine' make_T ?zyB ?zyF ?zyX ?zyT ?zyk ?zyN ?zyd ?zyu ?_; (case zyB => k_asm); (case zyF => k_asm); (case zyX => k_asm); (case zyT => k_asm); (case zyk => first | exact rfl | assumption); (case zyN => k_asm); (case zyd => exact Nat.le_of_ble_eq_true rfl); (case zyu => exact Nat.le_of_ble_eq_true rfl); k_whole); (intro x' d' h' tk' F' N' l1 l2; (replace l1 := allLt_of l1); (have l3 := l1); (try simp only [AllLt, and_true] at l3); (try dsimp only at N'); (try dsimp only); (try k_sweep)))
  trivial
section
/-- the told reset: a number and the number that it is over -/
noncomputable def StatP (pc ttl cc cx t e num den : Int) : Prop :=
  (pc = 0 ∧ cc = 0 ∧ num = t ∧ den = 1) ∨ (pc = 0 ∧ cc ≠ 0 ∧ num = t + cx.fmod e ∧ den = 1) ∨ (pc ≠ 0 ∧ cc = 0 ∧ num = t * pc + (ttl * pc).fmod e ∧ den = pc) ∨
  (pc ≠ 0 ∧ cc ≠ 0 ∧ num = t * pc + (if cx.fmod e * pc < (ttl * pc).fmod e then cx.fmod e * pc else (ttl * pc).fmod e) ∧ den = pc)
noncomputable def remF (am wt : Int) : Int := if am - wt > 0 then am - wt else 0
section
variable {w : World} {p : Program} {loose : List Str} {mean : ExcName → Option Value} {mg mb : Str → Option Value} {dp un : Nat} {gd : Option (List Code)} {cn : Str} {cs : Scope} {a : Addr} {ccd : Value} {cl : List (Str × Addr)} {outer : List Env} {A₀ : Around} {base h₀ : Heap} {L : Addr} {m : Str → Option Value} {s : Shared} {Q E : Value → Shared → Prop}
  (B : Below A₀ base outer h₀) (F : Fr h₀ L s.heap m) (KX : (Mine.hd1.heap_39 w.params).In h₀) (T : Top p loose mean mg mb h₀) (hk : cs.kind = .function)
include B F KX T hk


end
noncomputable def sstat_spec_St (w : World) (p : Program) (loose : List Str) (mean : ExcName → Option Value) (mg : Str → Option Value) (mb : Str → Option Value) (dp : Nat) (un : Nat) (gd : Option (List Code)) (cn : Str) (cs : Scope) (a : Addr) (ccd : Value) (cl : List (Str × Addr)) (outer : List Env) (A₀ : Around) (base : Heap) (h₀ : Heap) (L : Addr) (m : Str → Option Value) (s : Shared) (Q : Value → Shared → Prop) (E : Value → Shared → Prop) (news : List (Addr × Obj)) (oS : Obj) (oX : Obj) (g1 : Obj → List (Addr × Obj)) (g2 : Obj → Obj → List (Addr × Obj)) (f : Str → Option Int) (x : Str → Option Int) (nS : Nat) (nX : Nat) (st : Addr) (S : Addr) (X : Addr) (V : Addr) (clk : Addr) (lim : Addr) (it : Addr) (nt : Addr) (sec : Bool) (ns : Str) (names : List Str) (am : Int) (mu : Int) (t : Int) : Prop := ∀ (key : Str) (e : Int) (pk : Str) (ck : Str) (B : Below A₀ base outer h₀) (F : Fr h₀ L s.heap m) (KX : (Mine.hd1.heap_39 w.params).In h₀) (T : Top p loose mean mg mb h₀) (hk : cs.kind = .function) (N : News h₀ L s.heap news) (O : Store w news st S X V clk t) (Li : LimAt news S X V 296 lim st) (I : ItemAt news S X V it sec ns am mu) (J : NamesAt news S X V nt names) (U1 : UpdF S oS news g1) (U2 : ∀ o, UpdF X oX (g1 o) (g2 o)) (hS : IntD PySem.Challenge.rw_ji0060_01.row.prog w oS f nS) (hX : IntD PySem.Challenge.rw_ji0060_01.row.prog w oX x nX) (zS : nS + 1 ≤ sizeLine) (zX : nX + 1 ≤ sizeLine) (ee : e = unitOf sec * mu) (ek : key = keyOf sec ns names am mu) (he : 0 < e) (he2 : e < 1000000) (het : e ≤ t) (ht : t < 1000000000000) (epk : pk = wkey key ((t - e).fdiv e)) (eck : ck = wkey key (t.fdiv e)) (hf : ∀ j, 0 ≤ (f j).getD 0 ∧ (f j).getD 0 ≤ 1000000) (hd : dp ≤ 820) (hu : un ≤ 8200) (retH : ∀ pc ttl cc num den y d q r r1 r2 oS' oX' h' tk' , pc = pcF f x pk t → ttl = ttlF pc t e → cc = ccF f x pk ck t → StatP pc ttl cc (e - t.fmod e + e) t e num den → Fr h₀ L h' m → News h₀ L h' ((y, tupObj d [.ref q, .int (remF am ((pc * ttl).fdiv e + cc)) r]) :: (d, emptyDict) :: (q, { cls := .type "tuple", data := .seq #[.int num r1, .int den r2] }) :: g2 oS' oX') → AllLt q (g2 oS' oX') → @LT.lt Nat _ q d → @LT.lt Nat _ d y → IntD PySem.Challenge.rw_ji0060_01.row.prog w oS' (F2 f x pk ck t) (nS + 1) → IntD PySem.Challenge.rw_ji0060_01.row.prog w oX' (F2 x x pk ck t) (nX + 1) → Q (.ref y) { s with heap := h', toks := tk' }), wpAny (model PySem.Challenge.rw_ji0060_01.row.prog w) (ktrTop dp un gd cn cs L a ccd cl outer) (call (.ref 284) [.ref lim, .ref it, .ref nt]) Q E s
namespace c_sstat_spec
noncomputable def zcv : (World) × (Program) × (List Str) × (ExcName → Option Value) × (Str → Option Value) × (Str → Option Value) × (Nat) × (Nat) × (Option (List Code)) × (Str) × (Scope) × (Addr) × (Value) × (List (Str × Addr)) × (List Env) × (Around) × (Heap) × (Heap) × (Addr) × (Str → Option Value) × (Shared) × (Value → Shared → Prop) × (Value → Shared → Prop) × (List (Addr × Obj)) × (Obj) × (Obj) × (Obj → List (Addr × Obj)) × (Obj → Obj → List (Addr × Obj)) × (Str → Option Int) × (Str → Option Int) × (Nat) × (Nat) × (Addr) × (Addr) × (Addr) × (Addr) × (Addr) × (Addr) × (Addr) × (Addr) × (Bool) × (Str) × (List Str) × (Int) × (Int) × (Int) := pick (neP neW (neP inferInstance (neP inferInstance (neP inferInstance (neP inferInstance (neP inferInstance (neP inferInstance (neP inferInstance (neP inferInstance (neP inferInstance (neP inferInstance (neP inferInstance (neP inferInstance (neP inferInstance (neP inferInstance (neP neA (neP inferInstance (neP inferInstance (neP inferInstance (neP inferInstance (neP neS (neP inferInstance (neP inferInstance (neP inferInstance (neP inferInstance (neP inferInstance (neP inferInstance (neP inferInstance (neP inferInstance (neP inferInstance (neP inferInstance (neP inferInstance (neP inferInstance (neP inferInstance (neP inferInstance (neP inferInstance (neP inferInstance (neP inferInstance (neP inferInstance (neP inferInstance (neP inferInstance (neP inferInstance (neP inferInstance (neP inferInstance (neP inferInstance inferInstance))))))))))))))))))))))))))))))))))))))))))))) (fun v : (World) × (Program) × (List Str) × (ExcName → Option Value) × (Str → Option Value) × (Str → Option Value) × (Nat) × (Nat) × (Option (List Code)) × (Str) × (Scope) × (Addr) × (Value) × (List (Str × Addr)) × (List Env) × (Around) × (Heap) × (Heap) × (Addr) × (Str → Option Value) × (Shared) × (Value → Shared → Prop) × (Value → Shared → Prop) × (List (Addr × Obj)) × (Obj) × (Obj) × (Obj → List (Addr × Obj)) × (Obj → Obj → List (Addr × Obj)) × (Str → Option Int) × (Str → Option Int) × (Nat) × (Nat) × (Addr) × (Addr) × (Addr) × (Addr) × (Addr) × (Addr) × (Addr) × (Addr) × (Bool) × (Str) × (List Str) × (Int) × (Int) × (Int) => sstat_spec_St (v.1) (v.2.1) (v.2.2.1) (v.2.2.2.1) (v.2.2.2.2.1) (v.2.2.2.2.2.1) (v.2.2.2.2.2.2.1) (v.2.2.2.2.2.2.2.1) (v.2.2.2.2.2.2.2.2.1) (v.2.2.2.2.2.2.2.2.2.1) (v.2.2.2.2.2.2.2.2.2.2.1) (v.2.2.2.2.2.2.2.2.2.2.2.1) (v.2.2.2.2.2.2.2.2.2.2.2.2.1) (v.2.2.2.2.2.2.2.2.2.2.2.2.2.1) (v.2.2.2.2.2.2.2.2.2.2.2.2.2.2.1) (v.2.2.2.2.2.2.2.2.2.2.2.2.2.2.2.1) (v.2.2.2.2.2.2.2.2.2.2.2.2.2.2.2.2.1) (v.2.2.2.2.2.2.2.2.2.2.2.2.2.2.2.2.2.1) (v.2.2.2.2.2.2.2.2.2.2.2.2.2.2.2.2.2.2.1) (v.2.2.2.2.2.2.2.2.2.2.2.2.2.2.2.2.2.2.2.1) (v.2.2.2.2.2.2.2.2.2.2.2.2.2.2.2.2.2.2.2.2.1) (v.2.2.2.2.2.2.2.2.2.2.2.2.2.2.2.2.2.2.2.2.2.1) (v.2.2.2.2.2.2.2.2.2.2.2.2.2.2.2.2.2.2.2.2.2.2.1) (v.2.2.2.2.2.2.2.2.2.2.2.2.2.2.2.2.2.2.2.2.2.2.2.1) (v.2.2.2.2.2.2.2.2.2.2.2.2.2.2.2.2.2.2.2.2.2.2.2.2.1) (v.2.2.2.2.2.2.2.2.2.2.2.2.2.2.2.2.2.2.2.2.2.2.2.2.2.1) (v.2.2.2.2.2.2.2.2.2.2.2.2.2.2.2.2.2.2.2.2.2.2.2.2.2.2.1) (v.2.2.2.2.2.2.2.2.2.2.2.2.2.2.2.2.2.2.2.2.2.2.2.2.2.2.2.1) (v.2.2.2.2.2.2.2.2.2.2.2.2.2.2.2.2.2.2.2.2.2.2.2.2.2.2.2.2.1) (v.2.2.2.2.2.2.2.2.2.2.2.2.2.2.2.2.2.2.2.2.2.2.2.2.2.2.2.2.2.1) (v.2.2.2.2.2.2.2.2.2.2.2.2.2.2.2.2.2.2.2.2.2.2.2.2.2.2.2.2.2.2.1) (v.2.2.2.2.2.2.2.2.2.2.2.2.2.2.2.2.2.2.2.2.2.2.2.2.2.2.2.2.2.2.2.1) (v.2.2.2.2.2.2.2.2.2.2.2.2.2.2.2.2.2.2.2.2.2.2.2.2.2.2.2.2.2.2.2.2.1) (v.2.2.2.2.2.2.2.2.2.2.2.2.2.2.2.2.2.2.2.2.2.2.2.2.2.2.2.2.2.2.2.2.2.1) (v.2.2.2.2.2.2.2.2.2.2.2.2.2.2.2.2.2.2.2.2.2.2.2.2.2.2.2.2.2.2.2.2.2.2.1) (v.2.2.2.2.2.2.2.2.2.2.2.2.2.2.2.2.2.2.2.2.2.2.2.2.2.2.2.2.2.2.2.2.2.2.2.1) (v.2.2.2.2.2.2.2.2.2.2.2.2.2.2.2.2.2.2.2.2.2.2.2.2.2.2.2.2.2.2.2.2.2.2.2.2.1) (v.2.2.2.2.2.2.2.2.2.2.2.2.2.2.2.2.2.2.2.2.2.2.2.2.2.2.2.2.2.2.2.2.2.2.2.2.2.1) (v.2.2.2.2.2.2.2.2.2.2.2.2.2.2.2.2.2.2.2.2.2.2.2.2.2.2.2.2.2.2.2.2.2.2.2.2.2.2.1) (v.2.2.2.2.2.2.2.2.2.2.2.2.2.2.2.2.2.2.2.2.2.2.2.2.2.2.2.2.2.2.2.2.2.2.2.2.2.2.2.1) (v.2.2.2.2.2.2.2.2.2.2.2.2.2.2.2.2.2.2.2.2.2.2.2.2.2.2.2.2.2.2.2.2.2.2.2.2.2.2.2.2.1) (v.2.2.2.2.2.2.2.2.2.2.2.2.2.2.2.2.2.2.2.2.2.2.2.2.2.2.2.2.2.2.2.2.2.2.2.2.2.2.2.2.2.1) (v.2.2.2.2.2.2.2.2.2.2.2.2.2.2.2.2.2.2.2.2.2.2.2.2.2.2.2.2.2.2.2.2.2.2.2.2.2.2.2.2.2.2.1) (v.2.2.2.2.2.2.2.2.2.2.2.2.2.2.2.2.2.2.2.2.2.2.2.2.2.2.2.2.2.2.2.2.2.2.2.2.2.2.2.2.2.2.2.1) (v.2.2.2.2.2.2.2.2.2.2.2.2.2.2.2.2.2.2.2.2.2.2.2.2.2.2.2.2.2.2.2.2.2.2.2.2.2.2.2.2.2.2.2.2.1) (v.2.2.2.2.2.2.2.2.2.2.2.2.2.2.2.2.2.2.2.2.2.2.2.2.2.2.2.2.2.2.2.2.2.2.2.2.2.2.2.2.2.2.2.2.2)) 0
theorem zal (h : sstat_spec_St (zcv.1) (zcv.2.1) (zcv.2.2.1) (zcv.2.2.2.1) (zcv.2.2.2.2.1) (zcv.2.2.2.2.2.1) (zcv.2.2.2.2.2.2.1) (zcv.2.2.2.2.2.2.2.1) (zcv.2.2.2.2.2.2.2.2.1) (zcv.2.2.2.2.2.2.2.2.2.1) (zcv.2.2.2.2.2.2.2.2.2.2.1) (zcv.2.2.2.2.2.2.2.2.2.2.2.1) (zcv.2.2.2.2.2.2.2.2.2.2.2.2.1) (zcv.2.2.2.2.2.2.2.2.2.2.2.2.2.1) (zcv.2.2.2.2.2.2.2.2.2.2.2.2.2.2.1) (zcv.2.2.2.2.2.2.2.2.2.2.2.2.2.2.2.1) (zcv.2.2.2.2.2.2.2.2.2.2.2.2.2.2.2.2.1) (zcv.2.2.2.2.2.2.2.2.2.2.2.2.2.2.2.2.2.1) (zcv.2.2.2.2.2.2.2.2.2.2.2.2.2.2.2.2.2.2.1) (zcv.2.2.2.2.2.2.2.2.2.2.2.2.2.2.2.2.2.2.2.1) (zcv.2.2.2.2.2.2.2.2.2.2.2.2.2.2.2.2.2.2.2.2.1) (zcv.2.2.2.2.2.2.2.2.2.2.2.2.2.2.2.2.2.2.2.2.2.1) (zcv.2.2.2.2.2.2.2.2.2.2.2.2.2.2.2.2.2.2.2.2.2.2.1) (zcv.2.2.2.2.2.2.2.2.2.2.2.2.2.2.2.2.2.2.2.2.2.2.2.1) (zcv.2.2.2.2.2.2.2.2.2.2.2.2.2.2.2.2.2.2.2.2.2.2.2.2.1) (zcv.2.2.2.2.2.2.2.2.2.2.2.2.2.2.2.2.2.2.2.2.2.2.2.2.2.1) (zcv.2.2.2.2.2.2.2.2.2.2.2.2.2.2.2.2.2.2.2.2.2.2.2.2.2.2.1) (zcv.2.2.2.2.2.2.2.2.2.2.2.2.2.2.2.2.2.2.2.2.2.2.2.2.2.2.2.1) (zcv.2.2.2.2.2.2.2.2.2.2.2.2.2.2.2.2.2.2.2.2.2.2.2.2.2.2.2.2.1) (zcv.2.2.2.2.2.2.2.2.2.2.2.2.2.2.2.2.2.2.2.2.2.2.2.2.2.2.2.2.2.1) (zcv.2.2.2.2.2.2.2.2.2.2.2.2.2.2.2.2.2.2.2.2.2.2.2.2.2.2.2.2.2.2.1) (zcv.2.2.2.2.2.2.2.2.2.2.2.2.2.2.2.2.2.2.2.2.2.2.2.2.2.2.2.2.2.2.2.1) (zcv.2.2.2.2.2.2.2.2.2.2.2.2.2.2.2.2.2.2.2.2.2.2.2.2.2.2.2.2.2.2.2.2.1) (zcv.2.2.2.2.2.2.2.2.2.2.2.2.2.2.2.2.2.2.2.2.2.2.2.2.2.2.2.2.2.2.2.2.2.1) (zcv.2.2.2.2.2.2.2.2.2.2.2.2.2.2.2.2.2.2.2.2.2.2.2.2.2.2.2.2.2.2.2.2.2.2.1) (zcv.2.2.2.2.2.2.2.2.2.2.2.2.2.2.2.2.2.2.2.2.2.2.2.2.2.2.2.2.2.2.2.2.2.2.2.1) (zcv.2.2.2.2.2.2.2.2.2.2.2.2.2.2.2.2.2.2.2.2.2.2.2.2.2.2.2.2.2.2.2.2.2.2.2.2.1) (zcv.2.2.2.2.2.2.2.2.2.2.2.2.2.2.2.2.2.2.2.2.2.2.2.2.2.2.2.2.2.2.2.2.2.2.2.2.2.1) (zcv.2.2.2.2.2.2.2.2.2.2.2.2.2.2.2.2.2.2.2.2.2.2.2.2.2.2.2.2.2.2.2.2.2.2.2.2.2.2.1) (zcv.2.2.2.2.2.2.2.2.2.2.2.2.2.2.2.2.2.2.2.2.2.2.2.2.2.2.2.2.2.2.2.2.2.2.2.2.2.2.2.1) (zcv.2.2.2.2.2.2.2.2.2.2.2.2.2.2.2.2.2.2.2.2.2.2.2.2.2.2.2.2.2.2.2.2.2.2.2.2.2.2.2.2.1) (zcv.2.2.2.2.2.2.2.2.2.2.2.2.2.2.2.2.2.2.2.2.2.2.2.2.2.2.2.2.2.2.2.2.2.2.2.2.2.2.2.2.2.1) (zcv.2.2.2.2.2.2.2.2.2.2.2.2.2.2.2.2.2.2.2.2.2.2.2.2.2.2.2.2.2.2.2.2.2.2.2.2.2.2.2.2.2.2.1) (zcv.2.2.2.2.2.2.2.2.2.2.2.2.2.2.2.2.2.2.2.2.2.2.2.2.2.2.2.2.2.2.2.2.2.2.2.2.2.2.2.2.2.2.2.1) (zcv.2.2.2.2.2.2.2.2.2.2.2.2.2.2.2.2.2.2.2.2.2.2.2.2.2.2.2.2.2.2.2.2.2.2.2.2.2.2.2.2.2.2.2.2.1) (zcv.2.2.2.2.2.2.2.2.2.2.2.2.2.2.2.2.2.2.2.2.2.2.2.2.2.2.2.2.2.2.2.2.2.2.2.2.2.2.2.2.2.2.2.2.2)) : ∀ u : (World) × (Program) × (List Str) × (ExcName → Option Value) × (Str → Option Value) × (Str → Option Value) × (Nat) × (Nat) × (Option (List Code)) × (Str) × (Scope) × (Addr) × (Value) × (List (Str × Addr)) × (List Env) × (Around) × (Heap) × (Heap) × (Addr) × (Str → Option Value) × (Shared) × (Value → Shared → Prop) × (Value → Shared → Prop) × (List (Addr × Obj)) × (Obj) × (Obj) × (Obj → List (Addr × Obj)) × (Obj → Obj → List (Addr × Obj)) × (Str → Option Int) × (Str → Option Int) × (Nat) × (Nat) × (Addr) × (Addr) × (Addr) × (Addr) × (Addr) × (Addr) × (Addr) × (Addr) × (Bool) × (Str) × (List Str) × (Int) × (Int) × (Int), sstat_spec_St (u.1) (u.2.1) (u.2.2.1) (u.2.2.2.1) (u.2.2.2.2.1) (u.2.2.2.2.2.1) (u.2.2.2.2.2.2.1) (u.2.2.2.2.2.2.2.1) (u.2.2.2.2.2.2.2.2.1) (u.2.2.2.2.2.2.2.2.2.1) (u.2.2.2.2.2.2.2.2.2.2.1) (u.2.2.2.2.2.2.2.2.2.2.2.1) (u.2.2.2.2.2.2.2.2.2.2.2.2.1) (u.2.2.2.2.2.2.2.2.2.2.2.2.2.1) (u.2.2.2.2.2.2.2.2.2.2.2.2.2.2.1) (u.2.2.2.2.2.2.2.2.2.2.2.2.2.2.2.1) (u.2.2.2.2.2.2.2.2.2.2.2.2.2.2.2.2.1) (u.2.2.2.2.2.2.2.2.2.2.2.2.2.2.2.2.2.1) (u.2.2.2.2.2.2.2.2.2.2.2.2.2.2.2.2.2.2.1) (u.2.2.2.2.2.2.2.2.2.2.2.2.2.2.2.2.2.2.2.1) (u.2.2.2.2.2.2.2.2.2.2.2.2.2.2.2.2.2.2.2.2.1) (u.2.2.2.2.2.2.2.2.2.2.2.2.2.2.2.2.2.2.2.2.2.1) (u.2.2.2.2.2.2.2.2.2.2.2.2.2.2.2.2.2.2.2.2.2.2.1) (u.2.2.2.2.2.2.2.2.2.2.2.2.2.2.2.2.2.2.2.2.2.2.2.1) (u.2.2.2.2.2.2.2.2.2.2.2.2.2.2.2.2.2.2.2.2.2.2.2.2.1) (u.2.2.2.2.2.2.2.2.2.2.2.2.2.2.2.2.2.2.2.2.2.2.2.2.2.1) (u.2.2.2.2.2.2.2.2.2.2.2.2.2.2.2.2.2.2.2.2.2.2.2.2.2.2.1) (u.2.2.2.2.2.2.2.2.2.2.2.2.2.2.2.2.2.2.2.2.2.2.2.2.2.2.2.1) (u.2.2.2.2.2.2.2.2.2.2.2.2.2.2.2.2.2.2.2.2.2.2.2.2.2.2.2.2.1) (u.2.2.2.2.2.2.2.2.2.2.2.2.2.2.2.2.2.2.2.2.2.2.2.2.2.2.2.2.2.1) (u.2.2.2.2.2.2.2.2.2.2.2.2.2.2.2.2.2.2.2.2.2.2.2.2.2.2.2.2.2.2.1) (u.2.2.2.2.2.2.2.2.2.2.2.2.2.2.2.2.2.2.2.2.2.2.2.2.2.2.2.2.2.2.2.1) (u.2.2.2.2.2.2.2.2.2.2.2.2.2.2.2.2.2.2.2.2.2.2.2.2.2.2.2.2.2.2.2.2.1) (u.2.2.2.2.2.2.2.2.2.2.2.2.2.2.2.2.2.2.2.2.2.2.2.2.2.2.2.2.2.2.2.2.2.1) (u.2.2.2.2.2.2.2.2.2.2.2.2.2.2.2.2.2.2.2.2.2.2.2.2.2.2.2.2.2.2.2.2.2.2.1) (u.2.2.2.2.2.2.2.2.2.2.2.2.2.2.2.2.2.2.2.2.2.2.2.2.2.2.2.2.2.2.2.2.2.2.2.1) (u.2.2.2.2.2.2.2.2.2.2.2.2.2.2.2.2.2.2.2.2.2.2.2.2.2.2.2.2.2.2.2.2.2.2.2.2.1) (u.2.2.2.2.2.2.2.2.2.2.2.2.2.2.2.2.2.2.2.2.2.2.2.2.2.2.2.2.2.2.2.2.2.2.2.2.2.1) (u.2.2.2.2.2.2.2.2.2.2.2.2.2.2.2.2.2.2.2.2.2.2.2.2.2.2.2.2.2.2.2.2.2.2.2.2.2.2.1) (u.2.2.2.2.2.2.2.2.2.2.2.2.2.2.2.2.2.2.2.2.2.2.2.2.2.2.2.2.2.2.2.2.2.2.2.2.2.2.2.1) (u.2.2.2.2.2.2.2.2.2.2.2.2.2.2.2.2.2.2.2.2.2.2.2.2.2.2.2.2.2.2.2.2.2.2.2.2.2.2.2.2.1) (u.2.2.2.2.2.2.2.2.2.2.2.2.2.2.2.2.2.2.2.2.2.2.2.2.2.2.2.2.2.2.2.2.2.2.2.2.2.2.2.2.2.1) (u.2.2.2.2.2.2.2.2.2.2.2.2.2.2.2.2.2.2.2.2.2.2.2.2.2.2.2.2.2.2.2.2.2.2.2.2.2.2.2.2.2.2.1) (u.2.2.2.2.2.2.2.2.2.2.2.2.2.2.2.2.2.2.2.2.2.2.2.2.2.2.2.2.2.2.2.2.2.2.2.2.2.2.2.2.2.2.2.1) (u.2.2.2.2.2.2.2.2.2.2.2.2.2.2.2.2.2.2.2.2.2.2.2.2.2.2.2.2.2.2.2.2.2.2.2.2.2.2.2.2.2.2.2.2.1) (u.2.2.2.2.2.2.2.2.2.2.2.2.2.2.2.2.2.2.2.2.2.2.2.2.2.2.2.2.2.2.2.2.2.2.2.2.2.2.2.2.2.2.2.2.2) := pick_all (P := fun v : (World) × (Program) × (List Str) × (ExcName → Option Value) × (Str → Option Value) × (Str → Option Value) × (Nat) × (Nat) × (Option (List Code)) × (Str) × (Scope) × (Addr) × (Value) × (List (Str × Addr)) × (List Env) × (Around) × (Heap) × (Heap) × (Addr) × (Str → Option Value) × (Shared) × (Value → Shared → Prop) × (Value → Shared → Prop) × (List (Addr × Obj)) × (Obj) × (Obj) × (Obj → List (Addr × Obj)) × (Obj → Obj → List (Addr × Obj)) × (Str → Option Int) × (Str → Option Int) × (Nat) × (Nat) × (Addr) × (Addr) × (Addr) × (Addr) × (Addr) × (Addr) × (Addr) × (Addr) × (Bool) × (Str) × (List Str) × (Int) × (Int) × (Int) => sstat_spec_St (v.1) (v.2.1) (v.2.2.1) (v.2.2.2.1) (v.2.2.2.2.1) (v.2.2.2.2.2.1) (v.2.2.2.2.2.2.1) (v.2.2.2.2.2.2.2.1) (v.2.2.2.2.2.2.2.2.1) (v.2.2.2.2.2.2.2.2.2.1) (v.2.2.2.2.2.2.2.2.2.2.1) (v.2.2.2.2.2.2.2.2.2.2.2.1) (v.2.2.2.2.2.2.2.2.2.2.2.2.1) (v.2.2.2.2.2.2.2.2.2.2.2.2.2.1) (v.2.2.2.2.2.2.2.2.2.2.2.2.2.2.1) (v.2.2.2.2.2.2.2.2.2.2.2.2.2.2.2.1) (v.2.2.2.2.2.2.2.2.2.2.2.2.2.2.2.2.1) (v.2.2.2.2.2.2.2.2.2.2.2.2.2.2.2.2.2.1) (v.2.2.2.2.2.2.2.2.2.2.2.2.2.2.2.2.2.2.1) (v.2.2.2.2.2.2.2.2.2.2.2.2.2.2.2.2.2.2.2.1) (v.2.2.2.2.2.2.2.2.2.2.2.2.2.2.2.2.2.2.2.2.1) (v.2.2.2.2.2.2.2.2.2.2.2.2.2.2.2.2.2.2.2.2.2.1) (v.2.2.2.2.2.2.2.2.2.2.2.2.2.2.2.2.2.2.2.2.2.2.1) (v.2.2.2.2.2.2.2.2.2.2.2.2.2.2.2.2.2.2.2.2.2.2.2.1) (v.2.2.2.2.2.2.2.2.2.2.2.2.2.2.2.2.2.2.2.2.2.2.2.2.1) (v.2.2.2.2.2.2.2.2.2.2.2.2.2.2.2.2.2.2.2.2.2.2.2.2.2.1) (v.2.2.2.2.2.2.2.2.2.2.2.2.2.2.2.2.2.2.2.2.2.2.2.2.2.2.1) (v.2.2.2.2.2.2.2.2.2.2.2.2.2.2.2.2.2.2.2.2.2.2.2.2.2.2.2.1) (v.2.2.2.2.2.2.2.2.2.2.2.2.2.2.2.2.2.2.2.2.2.2.2.2.2.2.2.2.1) (v.2.2.2.2.2.2.2.2.2.2.2.2.2.2.2.2.2.2.2.2.2.2.2.2.2.2.2.2.2.1) (v.2.2.2.2.2.2.2.2.2.2.2.2.2.2.2.2.2.2.2.2.2.2.2.2.2.2.2.2.2.2.1) (v.2.2.2.2.2.2.2.2.2.2.2.2.2.2.2.2.2.2.2.2.2.2.2.2.2.2.2.2.2.2.2.1) (v.2.2.2.2.2.2.2.2.2.2.2.2.2.2.2.2.2.2.2.2.2.2.2.2.2.2.2.2.2.2.2.2.1) (v.2.2.2.2.2.2.2.2.2.2.2.2.2.2.2.2.2.2.2.2.2.2.2.2.2.2.2.2.2.2.2.2.2.1) (v.2.2.2.2.2.2.2.2.2.2.2.2.2.2.2.2.2.2.2.2.2.2.2.2.2.2.2.2.2.2.2.2.2.2.1) (v.2.2.2.2.2.2.2.2.2.2.2.2.2.2.2.2.2.2.2.2.2.2.2.2.2.2.2.2.2.2.2.2.2.2.2.1) (v.2.2.2.2.2.2.2.2.2.2.2.2.2.2.2.2.2.2.2.2.2.2.2.2.2.2.2.2.2.2.2.2.2.2.2.2.1) (v.2.2.2.2.2.2.2.2.2.2.2.2.2.2.2.2.2.2.2.2.2.2.2.2.2.2.2.2.2.2.2.2.2.2.2.2.2.1) (v.2.2.2.2.2.2.2.2.2.2.2.2.2.2.2.2.2.2.2.2.2.2.2.2.2.2.2.2.2.2.2.2.2.2.2.2.2.2.1) (v.2.2.2.2.2.2.2.2.2.2.2.2.2.2.2.2.2.2.2.2.2.2.2.2.2.2.2.2.2.2.2.2.2.2.2.2.2.2.2.1) (v.2.2.2.2.2.2.2.2.2.2.2.2.2.2.2.2.2.2.2.2.2.2.2.2.2.2.2.2.2.2.2.2.2.2.2.2.2.2.2.2.1) (v.2.2.2.2.2.2.2.2.2.2.2.2.2.2.2.2.2.2.2.2.2.2.2.2.2.2.2.2.2.2.2.2.2.2.2.2.2.2.2.2.2.1) (v.2.2.2.2.2.2.2.2.2.2.2.2.2.2.2.2.2.2.2.2.2.2.2.2.2.2.2.2.2.2.2.2.2.2.2.2.2.2.2.2.2.2.1) (v.2.2.2.2.2.2.2.2.2.2.2.2.2.2.2.2.2.2.2.2.2.2.2.2.2.2.2.2.2.2.2.2.2.2.2.2.2.2.2.2.2.2.2.1) (v.2.2.2.2.2.2.2.2.2.2.2.2.2.2.2.2.2.2.2.2.2.2.2.2.2.2.2.2.2.2.2.2.2.2.2.2.2.2.2.2.2.2.2.2.1) (v.2.2.2.2.2.2.2.2.2.2.2.2.2.2.2.2.2.2.2.2.2.2.2.2.2.2.2.2.2.2.2.2.2.2.2.2.2.2.2.2.2.2.2.2.2)) h
noncomputable def w : World := zcv.1
noncomputable def p : Program := zcv.2.1
noncomputable def loose : List Str := zcv.2.2.1
noncomputable def mean : ExcName → Option Value := zcv.2.2.2.1
noncomputable def mg : Str → Option Value := zcv.2.2.2.2.1
noncomputable def mb : Str → Option Value := zcv.2.2.2.2.2.1
noncomputable def dp : Nat := zcv.2.2.2.2.2.2.1
noncomputable def un : Nat := zcv.2.2.2.2.2.2.2.1
noncomputable def gd : Option (List Code) := zcv.2.2.2.2.2.2.2.2.1
noncomputable def cn : Str := zcv.2.2.2.2.2.2.2.2.2.1
noncomputable def cs : Scope := zcv.2.2.2.2.2.2.2.2.2.2.1
noncomputable def a : Addr := zcv.2.2.2.2.2.2.2.2.2.2.2.1
noncomputable def ccd : Value := zcv.2.2.2.2.2.2.2.2.2.2.2.2.1
noncomputable def cl : List (Str × Addr) := zcv.2.2.2.2.2.2.2.2.2.2.2.2.2.1
noncomputable def outer : List Env := zcv.2.2.2.2.2.2.2.2.2.2.2.2.2.2.1
noncomputable def A₀ : Around := zcv.2.2.2.2.2.2.2.2.2.2.2.2.2.2.2.1
noncomputable def base : Heap := zcv.2.2.2.2.2.2.2.2.2.2.2.2.2.2.2.2.1
noncomputable def h₀ : Heap := zcv.2.2.2.2.2.2.2.2.2.2.2.2.2.2.2.2.2.1
noncomputable def L : Addr := zcv.2.2.2.2.2.2.2.2.2.2.2.2.2.2.2.2.2.2.1
noncomputable def m : Str → Option Value := zcv.2.2.2.2.2.2.2.2.2.2.2.2.2.2.2.2.2.2.2.1
noncomputable def s : Shared := zcv.2.2.2.2.2.2.2.2.2.2.2.2.2.2.2.2.2.2.2.2.1
noncomputable def Q : Value → Shared → Prop := zcv.2.2.2.2.2.2.2.2.2.2.2.2.2.2.2.2.2.2.2.2.2.1
noncomputable def E : Value → Shared → Prop := zcv.2.2.2.2.2.2.2.2.2.2.2.2.2.2.2.2.2.2.2.2.2.2.1
noncomputable def news : List (Addr × Obj) := zcv.2.2.2.2.2.2.2.2.2.2.2.2.2.2.2.2.2.2.2.2.2.2.2.1
noncomputable def oS : Obj := zcv.2.2.2.2.2.2.2.2.2.2.2.2.2.2.2.2.2.2.2.2.2.2.2.2.1
noncomputable def oX : Obj := zcv.2.2.2.2.2.2.2.2.2.2.2.2.2.2.2.2.2.2.2.2.2.2.2.2.2.1
noncomputable def g1 : Obj → List (Addr × Obj) := zcv.2.2.2.2.2.2.2.2.2.2.2.2.2.2.2.2.2.2.2.2.2.2.2.2.2.2.1
noncomputable def g2 : Obj → Obj → List (Addr × Obj) := zcv.2.2.2.2.2.2.2.2.2.2.2.2.2.2.2.2.2.2.2.2.2.2.2.2.2.2.2.1
noncomputable def f : Str → Option Int := zcv.2.2.2.2.2.2.2.2.2.2.2.2.2.2.2.2.2.2.2.2.2.2.2.2.2.2.2.2.1
noncomputable def x : Str → Option Int := zcv.2.2.2.2.2.2.2.2.2.2.2.2.2.2.2.2.2.2.2.2.2.2.2.2.2.2.2.2.2.1
noncomputable def nS : Nat := zcv.2.2.2.2.2.2.2.2.2.2.2.2.2.2.2.2.2.2.2.2.2.2.2.2.2.2.2.2.2.2.1
noncomputable def nX : Nat := zcv.2.2.2.2.2.2.2.2.2.2.2.2.2.2.2.2.2.2.2.2.2.2.2.2.2.2.2.2.2.2.2.1
noncomputable def st : Addr := zcv.2.2.2.2.2.2.2.2.2.2.2.2.2.2.2.2.2.2.2.2.2.2.2.2.2.2.2.2.2.2.2.2.1
noncomputable def S : Addr := zcv.2.2.2.2.2.2.2.2.2.2.2.2.2.2.2.2.2.2.2.2.2.2.2.2.2.2.2.2.2.2.2.2.2.1
noncomputable def X : Addr := zcv.2.2.2.2.2.2.2.2.2.2.2.2.2.2.2.2.2.2.2.2.2.2.2.2.2.2.2.2.2.2.2.2.2.2.1
noncomputable def V : Addr := zcv.2.2.2.2.2.2.2.2.2.2.2.2.2.2.2.2.2.2.2.2.2.2.2.2.2.2.2.2.2.2.2.2.2.2.2.1
noncomputable def clk : Addr := zcv.2.2.2.2.2.2.2.2.2.2.2.2.2.2.2.2.2.2.2.2.2.2.2.2.2.2.2.2.2.2.2.2.2.2.2.2.1
noncomputable def lim : Addr := zcv.2.2.2.2.2.2.2.2.2.2.2.2.2.2.2.2.2.2.2.2.2.2.2.2.2.2.2.2.2.2.2.2.2.2.2.2.2.1
noncomputable def it : Addr := zcv.2.2.2.2.2.2.2.2.2.2.2.2.2.2.2.2.2.2.2.2.2.2.2.2.2.2.2.2.2.2.2.2.2.2.2.2.2.2.1
noncomputable def nt : Addr := zcv.2.2.2.2.2.2.2.2.2.2.2.2.2.2.2.2.2.2.2.2.2.2.2.2.2.2.2.2.2.2.2.2.2.2.2.2.2.2.2.1
noncomputable def sec : Bool := zcv.2.2.2.2.2.2.2.2.2.2.2.2.2.2.2.2.2.2.2.2.2.2.2.2.2.2.2.2.2.2.2.2.2.2.2.2.2.2.2.2.1
noncomputable def ns : Str := zcv.2.2.2.2.2.2.2.2.2.2.2.2.2.2.2.2.2.2.2.2.2.2.2.2.2.2.2.2.2.2.2.2.2.2.2.2.2.2.2.2.2.1
noncomputable def names : List Str := zcv.2.2.2.2.2.2.2.2.2.2.2.2.2.2.2.2.2.2.2.2.2.2.2.2.2.2.2.2.2.2.2.2.2.2.2.2.2.2.2.2.2.2.1
noncomputable def am : Int := zcv.2.2.2.2.2.2.2.2.2.2.2.2.2.2.2.2.2.2.2.2.2.2.2.2.2.2.2.2.2.2.2.2.2.2.2.2.2.2.2.2.2.2.2.1
noncomputable def mu : Int := zcv.2.2.2.2.2.2.2.2.2.2.2.2.2.2.2.2.2.2.2.2.2.2.2.2.2.2.2.2.2.2.2.2.2.2.2.2.2.2.2.2.2.2.2.2.1
noncomputable def t : Int := zcv.2.2.2.2.2.2.2.2.2.2.2.2.2.2.2.2.2.2.2.2.2.2.2.2.2.2.2.2.2.2.2.2.2.2.2.2.2.2.2.2.2.2.2.2.2
noncomputable def zst2 : {P : ((List (Addr × Obj)) → (Addr) → (Int) → (Tok) → (Nat) → (Addr) → (Int) → (Int) → (Int) → (Int) → (Tok) → (Tok) → (Tok) → (Tok) → (Nat) → (Value) → (Option Addr) → (FuncData) → (Array (Option Value)) → (Heap) → (Addr) → (Heap) → Prop) // Hid (∀ (frz : List (Addr × Obj)) (ldx : Addr) (lh : Int) (lt : Tok) (ln : Nat) (dx : Addr) (h1 : Int) (h2 : Int) (h3 : Int) (h4 : Int) (t1 : Tok) (t2 : Tok) (t3 : Tok) (t4 : Tok) (nn : Nat) (oc : Value) (od : Option Addr) (fd : FuncData) (sl : Array (Option Value)) (g' : Heap) (L' : Addr) (h' : Heap), P frz ldx lh lt ln dx h1 h2 h3 h4 t1 t2 t3 t4 nn oc od fd sl g' L' h') → sstat_spec_St w p loose mean mg mb dp un gd cn cs a ccd cl outer A₀ base h₀ L m s Q E news oS oX g1 g2 f x nS nX st S X V clk lim it nt sec ns names am mu t} := by
  refine' ⟨_, fun HH1 => _⟩
  rotate_left 
  focus
    intro key e pk ck B F KX T hk N O Li I J U1 U2 hS hX zS zX ee ek he he2 het ht epk eck hf hd hu retH
    subst epk eck ee ek
    refine lower ?_ hd hu
    obtain ⟨frz, n1, n2, N', sub, mem⟩ := split2 O.xs U1 U2 N
    have O' : Store w frz st S X V clk t := O.sub (fun q hq ho => sub q hq ho.1 ho.2.1)
    have I' := I.sub (news' := frz) (fun q hq ho => sub q hq ho.1 ho.2.1)
    have J' := J.sub (news' := frz) (fun q hq ho => sub q hq ho.1 ho.2.1)
    have Li' := Li.sub (news' := frz) (fun q hq ho => sub q hq ho.1 ho.2.1)
    have hkl := keyOf_len I' J'
    clear N U1 U2 sub O I J Li
    obtain ⟨ldx, lh, lt, ln, hlim, hldx, _, _⟩ := Li'
    have O'' := O'
    obtain ⟨⟨dx, h1, h2, h3, h4, t1, t2, t3, t4, nn, oc, od, fd, sl, hst, hck, hdx, _, _, _⟩, _, sx, xv, lS, lX, lV⟩ := O''
    revert KX; k_fill; intro KX
    refine wpAny_call ?_
    walk_at "m enter"
    rename_i zi1 zi2 zi3 zi4 zi5 zi6 zi7
    revert B F T hk hS hX zS zX ht hf hd hu he he2 het retH n1 n2 zi1 mem O' I' J' hkl hlim hldx zi2 zi3 zi4 sx xv lS lX lV hst hck hdx zi5 zi6 zi7 KX FG' F' N' B' X' T' qk ek
    exact Hid.out HH1 frz ldx lh lt ln dx h1 h2 h3 h4 t1 t2 t3 t4 nn oc od fd sl g' L' h'
namespace k1
noncomputable def zcv : (List (Addr × Obj)) × (Addr) × (Int) × (Tok) × (Nat) × (Addr) × (Int) × (Int) × (Int) × (Int) × (Tok) × (Tok) × (Tok) × (Tok) × (Nat) × (Value) × (Option Addr) × (FuncData) × (Array (Option Value)) × (Heap) × (Addr) × (Heap) := pick (neP inferInstance (neP inferInstance (neP inferInstance (neP inferInstance (neP inferInstance (neP inferInstance (neP inferInstance (neP inferInstance (neP inferInstance (neP inferInstance (neP inferInstance (neP inferInstance (neP inferInstance (neP inferInstance (neP inferInstance (neP inferInstance (neP inferInstance (neP inferInstance (neP inferInstance (neP inferInstance (neP inferInstance inferInstance))))))))))))))))))))) (fun v : (List (Addr × Obj)) × (Addr) × (Int) × (Tok) × (Nat) × (Addr) × (Int) × (Int) × (Int) × (Int) × (Tok) × (Tok) × (Tok) × (Tok) × (Nat) × (Value) × (Option Addr) × (FuncData) × (Array (Option Value)) × (Heap) × (Addr) × (Heap) => zst2.1 (v.1) (v.2.1) (v.2.2.1) (v.2.2.2.1) (v.2.2.2.2.1) (v.2.2.2.2.2.1) (v.2.2.2.2.2.2.1) (v.2.2.2.2.2.2.2.1) (v.2.2.2.2.2.2.2.2.1) (v.2.2.2.2.2.2.2.2.2.1) (v.2.2.2.2.2.2.2.2.2.2.1) (v.2.2.2.2.2.2.2.2.2.2.2.1) (v.2.2.2.2.2.2.2.2.2.2.2.2.1) (v.2.2.2.2.2.2.2.2.2.2.2.2.2.1) (v.2.2.2.2.2.2.2.2.2.2.2.2.2.2.1) (v.2.2.2.2.2.2.2.2.2.2.2.2.2.2.2.1) (v.2.2.2.2.2.2.2.2.2.2.2.2.2.2.2.2.1) (v.2.2.2.2.2.2.2.2.2.2.2.2.2.2.2.2.2.1) (v.2.2.2.2.2.2.2.2.2.2.2.2.2.2.2.2.2.2.1) (v.2.2.2.2.2.2.2.2.2.2.2.2.2.2.2.2.2.2.2.1) (v.2.2.2.2.2.2.2.2.2.2.2.2.2.2.2.2.2.2.2.2.1) (v.2.2.2.2.2.2.2.2.2.2.2.2.2.2.2.2.2.2.2.2.2)) 0
theorem zal (h : zst2.1 (zcv.1) (zcv.2.1) (zcv.2.2.1) (zcv.2.2.2.1) (zcv.2.2.2.2.1) (zcv.2.2.2.2.2.1) (zcv.2.2.2.2.2.2.1) (zcv.2.2.2.2.2.2.2.1) (zcv.2.2.2.2.2.2.2.2.1) (zcv.2.2.2.2.2.2.2.2.2.1) (zcv.2.2.2.2.2.2.2.2.2.2.1) (zcv.2.2.2.2.2.2.2.2.2.2.2.1) (zcv.2.2.2.2.2.2.2.2.2.2.2.2.1) (zcv.2.2.2.2.2.2.2.2.2.2.2.2.2.1) (zcv.2.2.2.2.2.2.2.2.2.2.2.2.2.2.1) (zcv.2.2.2.2.2.2.2.2.2.2.2.2.2.2.2.1) (zcv.2.2.2.2.2.2.2.2.2.2.2.2.2.2.2.2.1) (zcv.2.2.2.2.2.2.2.2.2.2.2.2.2.2.2.2.2.1) (zcv.2.2.2.2.2.2.2.2.2.2.2.2.2.2.2.2.2.2.1) (zcv.2.2.2.2.2.2.2.2.2.2.2.2.2.2.2.2.2.2.2.1) (zcv.2.2.2.2.2.2.2.2.2.2.2.2.2.2.2.2.2.2.2.2.1) (zcv.2.2.2.2.2.2.2.2.2.2.2.2.2.2.2.2.2.2.2.2.2)) : ∀ u : (List (Addr × Obj)) × (Addr) × (Int) × (Tok) × (Nat) × (Addr) × (Int) × (Int) × (Int) × (Int) × (Tok) × (Tok) × (Tok) × (Tok) × (Nat) × (Value) × (Option Addr) × (FuncData) × (Array (Option Value)) × (Heap) × (Addr) × (Heap), zst2.1 (u.1) (u.2.1) (u.2.2.1) (u.2.2.2.1) (u.2.2.2.2.1) (u.2.2.2.2.2.1) (u.2.2.2.2.2.2.1) (u.2.2.2.2.2.2.2.1) (u.2.2.2.2.2.2.2.2.1) (u.2.2.2.2.2.2.2.2.2.1) (u.2.2.2.2.2.2.2.2.2.2.1) (u.2.2.2.2.2.2.2.2.2.2.2.1) (u.2.2.2.2.2.2.2.2.2.2.2.2.1) (u.2.2.2.2.2.2.2.2.2.2.2.2.2.1) (u.2.2.2.2.2.2.2.2.2.2.2.2.2.2.1) (u.2.2.2.2.2.2.2.2.2.2.2.2.2.2.2.1) (u.2.2.2.2.2.2.2.2.2.2.2.2.2.2.2.2.1) (u.2.2.2.2.2.2.2.2.2.2.2.2.2.2.2.2.2.1) (u.2.2.2.2.2.2.2.2.2.2.2.2.2.2.2.2.2.2.1) (u.2.2.2.2.2.2.2.2.2.2.2.2.2.2.2.2.2.2.2.1) (u.2.2.2.2.2.2.2.2.2.2.2.2.2.2.2.2.2.2.2.2.1) (u.2.2.2.2.2.2.2.2.2.2.2.2.2.2.2.2.2.2.2.2.2) := pick_all (P := fun v : (List (Addr × Obj)) × (Addr) × (Int) × (Tok) × (Nat) × (Addr) × (Int) × (Int) × (Int) × (Int) × (Tok) × (Tok) × (Tok) × (Tok) × (Nat) × (Value) × (Option Addr) × (FuncData) × (Array (Option Value)) × (Heap) × (Addr) × (Heap) => zst2.1 (v.1) (v.2.1) (v.2.2.1) (v.2.2.2.1) (v.2.2.2.2.1) (v.2.2.2.2.2.1) (v.2.2.2.2.2.2.1) (v.2.2.2.2.2.2.2.1) (v.2.2.2.2.2.2.2.2.1) (v.2.2.2.2.2.2.2.2.2.1) (v.2.2.2.2.2.2.2.2.2.2.1) (v.2.2.2.2.2.2.2.2.2.2.2.1) (v.2.2.2.2.2.2.2.2.2.2.2.2.1) (v.2.2.2.2.2.2.2.2.2.2.2.2.2.1) (v.2.2.2.2.2.2.2.2.2.2.2.2.2.2.1) (v.2.2.2.2.2.2.2.2.2.2.2.2.2.2.2.1) (v.2.2.2.2.2.2.2.2.2.2.2.2.2.2.2.2.1) (v.2.2.2.2.2.2.2.2.2.2.2.2.2.2.2.2.2.1) (v.2.2.2.2.2.2.2.2.2.2.2.2.2.2.2.2.2.2.1) (v.2.2.2.2.2.2.2.2.2.2.2.2.2.2.2.2.2.2.2.1) (v.2.2.2.2.2.2.2.2.2.2.2.2.2.2.2.2.2.2.2.2.1) (v.2.2.2.2.2.2.2.2.2.2.2.2.2.2.2.2.2.2.2.2.2)) h
noncomputable def frz : List (Addr × Obj) := zcv.1
noncomputable def ldx : Addr := zcv.2.1
noncomputable def lh : Int := zcv.2.2.1
noncomputable def lt : Tok := zcv.2.2.2.1
noncomputable def ln : Nat := zcv.2.2.2.2.1
noncomputable def dx : Addr := zcv.2.2.2.2.2.1
noncomputable def h1 : Int := zcv.2.2.2.2.2.2.1
noncomputable def h2 : Int := zcv.2.2.2.2.2.2.2.1
noncomputable def h3 : Int := zcv.2.2.2.2.2.2.2.2.1
noncomputable def h4 : Int := zcv.2.2.2.2.2.2.2.2.2.1
noncomputable def t1 : Tok := zcv.2.2.2.2.2.2.2.2.2.2.1
noncomputable def t2 : Tok := zcv.2.2.2.2.2.2.2.2.2.2.2.1
noncomputable def t3 : Tok := zcv.2.2.2.2.2.2.2.2.2.2.2.2.1
noncomputable def t4 : Tok := zcv.2.2.2.2.2.2.2.2.2.2.2.2.2.1
noncomputable def nn : Nat := zcv.2.2.2.2.2.2.2.2.2.2.2.2.2.2.1
noncomputable def oc : Value := zcv.2.2.2.2.2.2.2.2.2.2.2.2.2.2.2.1
noncomputable def od : Option Addr := zcv.2.2.2.2.2.2.2.2.2.2.2.2.2.2.2.2.1
noncomputable def fd : FuncData := zcv.2.2.2.2.2.2.2.2.2.2.2.2.2.2.2.2.2.1
noncomputable def sl : Array (Option Value) := zcv.2.2.2.2.2.2.2.2.2.2.2.2.2.2.2.2.2.2.1
noncomputable def g' : Heap := zcv.2.2.2.2.2.2.2.2.2.2.2.2.2.2.2.2.2.2.2.1
noncomputable def L' : Addr := zcv.2.2.2.2.2.2.2.2.2.2.2.2.2.2.2.2.2.2.2.2.1
noncomputable def h' : Heap := zcv.2.2.2.2.2.2.2.2.2.2.2.2.2.2.2.2.2.2.2.2.2
theorem walk3 : zst2.1 frz ldx lh lt ln dx h1 h2 h3 h4 t1 t2 t3 t4 nn oc od fd sl g' L' h' := by
  intro B F T hk hS hX zS zX ht hf hd hu he he2 het retH n1 n2 zi1 mem O' I' J' hkl hlim hldx zi2 zi3 zi4 sx xv lS lX lV hst hck hdx zi5 zi6 zi7 KX FG' F' N' B' X' T' qk ek
  k_steps
  all_goals first
    | contradiction
    | exact retH _ _ _ _ _ _ _ _ _ _ _ _ _ _ _ (by assumption) (by assumption) (by assumption) (Or.inl ⟨by assumption, by assumption, rfl, rfl⟩) (by assumption) (news_of (by assumption) (cons_sub (cons_sub (cons_sub fun p hp => .tail _ (mem _ _ p hp))))) (allLt_sub (fun p hp => .tail _ (mem _ _ p hp)) (allLt_mem (by assumption))) (by exact allLt_mem (by assumption) _ (List.Mem.head _)) (by assumption) (DictV.mono (by assumption) (Nat.le_succ _)) (DictV.mono (by assumption) (Nat.le_succ _))
    | exact retH _ _ _ _ _ _ _ _ _ _ _ _ _ _ _ (by assumption) (by assumption) (by assumption) (Or.inr (Or.inl ⟨by assumption, by assumption, rfl, rfl⟩)) (by assumption) (news_of (by assumption) (cons_sub (cons_sub (cons_sub fun p hp => .tail _ (mem _ _ p hp))))) (allLt_sub (fun p hp => .tail _ (mem _ _ p hp)) (allLt_mem (by assumption))) (by exact allLt_mem (by assumption) _ (List.Mem.head _)) (by assumption) (DictV.mono (by assumption) (Nat.le_succ _)) (DictV.mono (by assumption) (Nat.le_succ _))
    | exact retH _ _ _ _ _ _ _ _ _ _ _ _ _ _ _ (by assumption) (by assumption) (by assumption) (Or.inr (Or.inr (Or.inl ⟨by assumption, by assumption, rfl, rfl⟩))) (by assumption) (news_of (by assumption) (cons_sub (cons_sub (cons_sub fun p hp => .tail _ (mem _ _ p hp))))) (allLt_sub (fun p hp => .tail _ (mem _ _ p hp)) (allLt_mem (by assumption))) (by exact allLt_mem (by assumption) _ (List.Mem.head _)) (by assumption) (DictV.mono (by assumption) (Nat.le_succ _)) (DictV.mono (by assumption) (Nat.le_succ _))
    | exact retH _ _ _ _ _ _ _ _ _ _ _ _ _ _ _ (by assumption) (by assumption) (by assumption) (Or.inr (Or.inr (Or.inr ⟨by assumption, by assumption, rfl, rfl⟩))) (by assumption) (news_of (by assumption) (cons_sub (cons_sub (cons_sub fun p hp => .tail _ (mem _ _ p hp))))) (allLt_sub (fun p hp => .tail _ (mem _ _ p hp)) (allLt_mem (by assumption))) (by exact allLt_mem (by assumption) _ (List.Mem.head _)) (by assumption) (DictV.mono (by assumption) (Nat.le_succ _)) (DictV.mono (by assumption) (Nat.le_succ _))
end k1
theorem up4 : sstat_spec_St w p loose mean mg mb dp un gd cn cs a ccd cl outer A₀ base h₀ L m s Q E news oS oX g1 g2 f x nS nX st S X V clk lim it nt sec ns names am mu t := zst2.2 (fun frz ldx lh lt ln dx h1 h2 h3 h4 t1 t2 t3 t4 nn oc od fd sl g' L' h' => k1.zal k1.walk3 (frz, ldx, lh, lt, ln, dx, h1, h2, h3, h4, t1, t2, t3, t4, nn, oc, od, fd, sl, g', L', h'))
end c_sstat_spec
theorem sstat_spec {w : World} {p : Program} {loose : List Str} {mean : ExcName → Option Value} {mg : Str → Option Value} {mb : Str → Option Value} {dp : Nat} {un : Nat} {gd : Option (List Code)} {cn : Str} {cs : Scope} {a : Addr} {ccd : Value} {cl : List (Str × Addr)} {outer : List Env} {A₀ : Around} {base : Heap} {h₀ : Heap} {L : Addr} {m : Str → Option Value} {s : Shared} {Q : Value → Shared → Prop} {E : Value → Shared → Prop} (B : Below A₀ base outer h₀) (F : Fr h₀ L s.heap m) (KX : (Mine.hd1.heap_39 w.params).In h₀) (T : Top p loose mean mg mb h₀) (hk : cs.kind = .function) {news : List (Addr × Obj)} {oS : Obj} {oX : Obj} {g1 : Obj → List (Addr × Obj)} {g2 : Obj → Obj → List (Addr × Obj)} {f : Str → Option Int} {x : Str → Option Int} {nS : Nat} {nX : Nat} {st : Addr} {S : Addr} {X : Addr} {V : Addr} {clk : Addr} {lim : Addr} {it : Addr} {nt : Addr} {sec : Bool} {ns : Str} {key : Str} {names : List Str} {am : Int} {mu : Int} {t : Int} {e : Int} {pk : Str} {ck : Str} (N : News h₀ L s.heap news) (O : Store w news st S X V clk t) (Li : LimAt news S X V 296 lim st) (I : ItemAt news S X V it sec ns am mu) (J : NamesAt news S X V nt names) (U1 : UpdF S oS news g1) (U2 : ∀ o, UpdF X oX (g1 o) (g2 o)) (hS : IntD PySem.Challenge.rw_ji0060_01.row.prog w oS f nS) (hX : IntD PySem.Challenge.rw_ji0060_01.row.prog w oX x nX) (zS : nS + 1 ≤ sizeLine) (zX : nX + 1 ≤ sizeLine) (ee : e = unitOf sec * mu) (ek : key = keyOf sec ns names am mu) (he : 0 < e) (he2 : e < 1000000) (het : e ≤ t) (ht : t < 1000000000000) (epk : pk = wkey key ((t - e).fdiv e)) (eck : ck = wkey key (t.fdiv e)) (hf : ∀ j, 0 ≤ (f j).getD 0 ∧ (f j).getD 0 ≤ 1000000) (hd : dp ≤ 820) (hu : un ≤ 8200) (retH : ∀ pc ttl cc num den y d q r r1 r2 oS' oX' h' tk' , pc = pcF f x pk t → ttl = ttlF pc t e → cc = ccF f x pk ck t → StatP pc ttl cc (e - t.fmod e + e) t e num den → Fr h₀ L h' m → News h₀ L h' ((y, tupObj d [.ref q, .int (remF am ((pc * ttl).fdiv e + cc)) r]) :: (d, emptyDict) :: (q, { cls := .type "tuple", data := .seq #[.int num r1, .int den r2] }) :: g2 oS' oX') → AllLt q (g2 oS' oX') → @LT.lt Nat _ q d → @LT.lt Nat _ d y → IntD PySem.Challenge.rw_ji0060_01.row.prog w oS' (F2 f x pk ck t) (nS + 1) → IntD PySem.Challenge.rw_ji0060_01.row.prog w oX' (F2 x x pk ck t) (nX + 1) → Q (.ref y) { s with heap := h', toks := tk' }) :
    wpAny (model PySem.Challenge.rw_ji0060_01.row.prog w) (ktrTop dp un gd cn cs L a ccd cl outer) (call (.ref 284) [.ref lim, .ref it, .ref nt]) Q E s :=
  c_sstat_spec.zal c_sstat_spec.up4 (w, p, loose, mean, mg, mb, dp, un, gd, cn, cs, a, ccd, cl, outer, A₀, base, h₀, L, m, s, Q, E, news, oS, oX, g1, g2, f, x, nS, nX, st, S, X, V, clk, lim, it, nt, sec, ns, names, am, mu, t) _ _ _ _ B F KX T hk N O Li I J U1 U2 hS hX zS zX ee ek he he2 het ht epk eck hf hd hu retH
section
variable {w : World} {p : Program} {loose : List Str} {mean : ExcName → Option Value} {mg mb : Str → Option Value} {dp un : Nat} {gd : Option (List Code)} {cn : Str} {cs : Scope} {a : Addr} {ccd : Value} {cl : List (Str × Addr)} {outer : List Env} {A₀ : Around} {base h₀ : Heap} {L : Addr} {m : Str → Option Value} {s : Shared} {Q E : Value → Shared → Prop}
  (B : Below A₀ base outer h₀) (F : Fr h₀ L s.heap m) (KX : (Mine.hd1.heap_39 w.params).In h₀) (T : Top p loose mean mg mb h₀) (hk : cs.kind = .function)
include B F KX T hk
end

end

theorem said_sstat : True := by
  k_with "call ref" => (k_here; (with_reducible show wpAny _ _ (call (Value.ref 284) _) _ _ _); k_dflt (refine' sstat_spec ?zyB ?zyF ?zyX ?zyT ?zyk ?zyN ?zyO ?zyLi ?zyI ?zyJ ?zyU1 ?zyU2 ?zyhS ?zyhX ?zyzS ?zyzX ?zyee ?zyek ?zyhe ?zyhe2 ?zyhet ?zyht ?zyepk ?zyeck ?zyhf ?zyd ?zyu ?_; (case zyB => k_asm); (case zyF => k_asm); (case zyX => k_asm); (case zyT => k_asm); (case zyk => first | exact rfl | assumption); (case zyN => k_asm); (case zyO => refine' Store.sub ?zyo ?zys; (case zyo => assumption); (case zys => walk_at "m sub")); (case zyU1 => k_updF); (case zyU2 => (intro o1; (try dsimp only); k_updF)); (case zyhS => assumption); (case zyhX => assumption); (case zyzS => first | assumption | omega); (case zyzX => first | assumption | omega); (case zyLi => refine' LimAt.sub ?zyo ?zys; (case zyo => assumption); (case zys => walk_at "m sub")); (case zyI => refine' ItemAt.sub ?zyo ?zys; (case zyo => assumption); (case zys => walk_at "m sub")); (case zyJ => refine' NamesAt.sub ?zyo ?zys; (case zyo => assumption); (case zys => walk_at "m sub")); (case zyee => first | assumption | rfl); (case zyek => first | assumption | rfl); (case zyhe => walk_at "m om"); (case zyhe2 => walk_at "m om"); (case zyhet => walk_at "m om"); (case zyht => walk_at "m om"); (case zyepk => first | assumption | rfl); (case zyeck => first | assumption | rfl); (case zyhf => assumption); (case zyd => exact Nat.le_of_ble_eq_true rfl); (case zyu => exact Nat.le_of_ble_eq_true rfl); k_whole); (intro pc' ttl' cc' num' den' y' d' q' r' r1' r2' oS' oX' h' tk' ep' et' ec' sp' F' N' l1 l2 l3 hS' hX'; (have l4 := l1); (try dsimp only at l4); (try simp only [AllLt, and_true] at l4); (try dsimp only at N'); (try dsimp only); (try k_sweep)))
  trivial
section
section
variable {w : World} {p : Program} {loose : List Str} {mean : ExcName → Option Value} {mg mb : Str → Option Value} {dp un : Nat} {gd : Option (List Code)} {cn : Str} {cs : Scope} {a : Addr} {ccd : Value} {cl : List (Str × Addr)} {outer : List Env} {A₀ : Around} {base h₀ : Heap} {L : Addr} {m : Str → Option Value} {s : Shared} {Q E : Value → Shared → Prop}
  (B : Below A₀ base outer h₀) (F : Fr h₀ L s.heap m) (KX : (Mine.hd1.heap_39 w.params).In h₀) (T : Top p loose mean mg mb h₀) (hk : cs.kind = .function)
include B F KX T hk


theorem fhit_spec {news : List (Addr × Obj)} {oS oX : Obj} {g1 : Obj → List (Addr × Obj)} {g2 : Obj → Obj → List (Addr × Obj)} {f x : Str → Option Int} {nS nX : Nat} {st S X V clk lim it nt : Addr} {sec : Bool} {ns key : Str} {names : List Str} {am mu t e : Int} {cost : Int} {tc : Tok}
    (N : News h₀ L s.heap news) (O : Store w news st S X V clk t) (Li : LimAt news S X V 241 lim st) (I : ItemAt news S X V it sec ns am mu) (J : NamesAt news S X V nt names) (U1 : UpdF S oS news g1) (U2 : ∀ o, UpdF X oX (g1 o) (g2 o))
    (hS : IntD PySem.Challenge.rw_ji0060_01.row.prog w oS f nS) (hX : IntD PySem.Challenge.rw_ji0060_01.row.prog w oX x nX) (zS : nS + 1 ≤ sizeLine) (zX : nX + 1 ≤ sizeLine) (ee : e = unitOf sec * mu) (ek : key = keyOf sec ns names am mu) (he : 0 < e) (he2 : e < 1000000) (het : e ≤ t) (ht : t < 1000000000000) (hd : dp ≤ 820) (hu : un ≤ 8200)
    (ret : ∀ oS' oX' h' tk', Fr h₀ L h' m → News h₀ L h' (g2 oS' oX') → IntD PySem.Challenge.rw_ji0060_01.row.prog w oS' (incF f x key t cost) (nS + 1) → IntD PySem.Challenge.rw_ji0060_01.row.prog w oX' (incX f x key t e cost) (nX + 1) → Q (.bool (decide ((swept x key t f key).getD 0 + cost ≤ am))) { s with heap := h', toks := tk' }) :
    wpAny (model PySem.Challenge.rw_ji0060_01.row.prog w) (ktrTop dp un gd cn cs L a ccd cl outer) (call (.ref 220) [.ref lim, .ref it, .ref nt, .int cost tc]) Q E s := by
  subst ee ek
  refine lower ?_ hd hu
  obtain ⟨frz, n1, n2, N', sub, mem⟩ := split2 O.xs U1 U2 N
  have O' : Store w frz st S X V clk t := O.sub (fun q hq ho => sub q hq ho.1 ho.2.1)
  have I' := I.sub (news' := frz) (fun q hq ho => sub q hq ho.1 ho.2.1)
  have J' := J.sub (news' := frz) (fun q hq ho => sub q hq ho.1 ho.2.1)
  have Li' := Li.sub (news' := frz) (fun q hq ho => sub q hq ho.1 ho.2.1)
  have hkl := keyOf_len I' J'
  clear N U1 U2 sub O I J Li
  obtain ⟨ldx, lh, lt, ln, hlim, hldx, _, _⟩ := Li'
  have O'' := O'
  obtain ⟨⟨dx, h1, h2, h3, h4, t1, t2, t3, t4, nn, oc, od, fd, sl, hst, hck, hdx, _, _, _⟩, _, sx, xv, lS, lX, lV⟩ := O''
  revert KX; k_fill; intro KX
  refine wpAny_call ?_
  walk_at "m enter"
  k_steps
  exact ret _ _ _ _ (by assumption) (news_of (by assumption) (mem _ _)) (by assumption) (by assumption)
end

end

theorem said_fhit : True := by
  k_with "call ref" => (k_here; (with_reducible show wpAny _ _ (call (Value.ref 220) _) _ _ _); k_dflt (refine' fhit_spec ?zyB ?zyF ?zyX ?zyT ?zyk ?zyN ?zyO ?zyLi ?zyI ?zyJ ?zyU1 ?zyU2 ?zyhS ?zyhX ?zyzS ?zyzX ?zyee ?zyek ?zyhe ?zyhe2 ?zyhet ?zyht ?zyd ?zyu ?_; (case zyB => k_asm); (case zyF => k_asm); (case zyX => k_asm); (case zyT => k_asm); (case zyk => first | exact rfl | assumption); (case zyN => k_asm); (case zyO => refine' Store.sub ?zyo ?zys; (case zyo => assumption); (case zys => walk_at "m sub")); (case zyU1 => k_updF); (case zyU2 => (intro o1; (try dsimp only); k_updF)); (case zyhS => assumption); (case zyhX => assumption); (case zyzS => first | assumption | omega); (case zyzX => first | assumption | omega); (case zyLi => refine' LimAt.sub ?zyo ?zys; (case zyo => assumption); (case zys => walk_at "m sub")); (case zyI => refine' ItemAt.sub ?zyo ?zys; (case zyo => assumption); (case zys => walk_at "m sub")); (case zyJ => refine' NamesAt.sub ?zyo ?zys; (case zyo => assumption); (case zys => walk_at "m sub")); (case zyee => first | assumption | rfl); (case zyek => first | assumption | rfl); (case zyhe => walk_at "m om"); (case zyhe2 => walk_at "m om"); (case zyhet => walk_at "m om"); (case zyht => walk_at "m om"); (case zyd => exact Nat.le_of_ble_eq_true rfl); (case zyu => exact Nat.le_of_ble_eq_true rfl); k_whole); (intro oS' oX' h' tk' F' N' hS' hX'; (try dsimp only at N'); (try dsimp only); (try k_sweep)))
  trivial
section
section
variable {w : World} {p : Program} {loose : List Str} {mean : ExcName → Option Value} {mg mb : Str → Option Value} {dp un : Nat} {gd : Option (List Code)} {cn : Str} {cs : Scope} {a : Addr} {ccd : Value} {cl : List (Str × Addr)} {outer : List Env} {A₀ : Around} {base h₀ : Heap} {L : Addr} {m : Str → Option Value} {s : Shared} {Q E : Value → Shared → Prop}
  (B : Below A₀ base outer h₀) (F : Fr h₀ L s.heap m) (KX : (Mine.hd1.heap_39 w.params).In h₀) (T : Top p loose mean mg mb h₀) (hk : cs.kind = .function)
include B F KX T hk


theorem fclear_spec {news : List (Addr × Obj)} {oS oX oV : Obj} {g1 : Obj → List (Addr × Obj)} {g2 : Obj → Obj → List (Addr × Obj)} {g3 : Obj → Obj → Obj → List (Addr × Obj)} {f x : Str → Option Int} {nS nX : Nat} {ev : Str → Option Addr} {nV : Nat} {st S X V clk lim it nt : Addr} {sec : Bool} {ns key : Str} {names : List Str} {am mu t e : Int} 
    (N : News h₀ L s.heap news) (O : Store w news st S X V clk t) (Li : LimAt news S X V 241 lim st) (I : ItemAt news S X V it sec ns am mu) (J : NamesAt news S X V nt names) (U1 : UpdF S oS news g1) (U2 : ∀ o, UpdF X oX (g1 o) (g2 o)) (U3 : ∀ o o', UpdF V oV (g2 o o') (g3 o o'))
    (hS : IntD PySem.Challenge.rw_ji0060_01.row.prog w oS f nS) (hX : IntD PySem.Challenge.rw_ji0060_01.row.prog w oX x nX) (hV : RefD PySem.Challenge.rw_ji0060_01.row.prog w oV ev nV) (zS : nS + 1 ≤ sizeLine) (zX : nX + 1 ≤ sizeLine) (zV : nV + 1 ≤ sizeLine) (ee : e = unitOf sec * mu) (ek : key = keyOf sec ns names am mu)  (hd : dp ≤ 820) (hu : un ≤ 8200)
    (ret : ∀ oS' oX' oV' h' tk', Fr h₀ L h' m → News h₀ L h' (g3 oS' oX' oV') → IntD PySem.Challenge.rw_ji0060_01.row.prog w oS' (upd f key none) nS → IntD PySem.Challenge.rw_ji0060_01.row.prog w oX' (upd x key none) nX → RefD PySem.Challenge.rw_ji0060_01.row.prog w oV' (upd ev key none) nV → Q .none { s with heap := h', toks := tk' }) :
    wpAny (model PySem.Challenge.rw_ji0060_01.row.prog w) (ktrTop dp un gd cn cs L a ccd cl outer) (call (.ref 158) [.ref lim, .ref it, .ref nt]) Q E s := by
  subst ee ek
  refine lower ?_ hd hu
  obtain ⟨frz, n1, n2, n3, N', sub, mem⟩ := split3 O.xs O.vs O.vx U1 U2 U3 N
  have O' : Store w frz st S X V clk t := O.sub (fun q hq ho => sub q hq ho.1 ho.2.1 ho.2.2)
  have I' := I.sub (news' := frz) (fun q hq ho => sub q hq ho.1 ho.2.1 ho.2.2)
  have J' := J.sub (news' := frz) (fun q hq ho => sub q hq ho.1 ho.2.1 ho.2.2)
  have Li' := Li.sub (news' := frz) (fun q hq ho => sub q hq ho.1 ho.2.1 ho.2.2)
  have hkl := keyOf_len I' J'
  clear N U1 U2 U3 sub O I J Li
  obtain ⟨ldx, lh, lt, ln, hlim, hldx, _, _⟩ := Li'
  have O'' := O'
  obtain ⟨⟨dx, h1, h2, h3, h4, t1, t2, t3, t4, nn, oc, od, fd, sl, hst, hck, hdx, _, _, _⟩, _, sx, xv, lS, lX, lV⟩ := O''
  revert KX; k_fill; intro KX
  refine wpAny_call ?_
  walk_at "m enter"
  k_steps
  exact ret _ _ _ _ _ (by assumption) (news_of (by assumption) (mem _ _ _)) (by assumption) (by assumption) (by assumption)
end

end

theorem said_fclear : True := by
  k_with "call ref" => (k_here; (with_reducible show wpAny _ _ (call (Value.ref 158) _) _ _ _); k_dflt (refine' fclear_spec ?zyB ?zyF ?zyX ?zyT ?zyk ?zyN ?zyO ?zyLi ?zyI ?zyJ ?zyU1 ?zyU2 ?zyU3 ?zyhS ?zyhX ?zyhV ?zyzS ?zyzX ?zyzV ?zyee ?zyek  ?zyd ?zyu ?_; (case zyB => k_asm); (case zyF => k_asm); (case zyX => k_asm); (case zyT => k_asm); (case zyk => first | exact rfl | assumption); (case zyN => k_asm); (case zyO => refine' Store.sub ?zyo ?zys; (case zyo => assumption); (case zys => walk_at "m sub")); (case zyU1 => k_updF); (case zyU2 => (intro o1; (try dsimp only); k_updF)); (case zyhS => assumption); (case zyhX => assumption); (case zyzS => first | assumption | omega); (case zyzX => first | assumption | omega); (case zyU3 => (intro o1 o2; (try dsimp only); k_updF)); (case zyhV => assumption); (case zyzV => walk_at "m om"); (case zyLi => refine' LimAt.sub ?zyo ?zys; (case zyo => assumption); (case zys => walk_at "m sub")); (case zyI => refine' ItemAt.sub ?zyo ?zys; (case zyo => assumption); (case zys => walk_at "m sub")); (case zyJ => refine' NamesAt.sub ?zyo ?zys; (case zyo => assumption); (case zys => walk_at "m sub")); (case zyee => first | assumption | rfl); (case zyek => first | assumption | rfl); (case zyd => exact Nat.le_of_ble_eq_true rfl); (case zyu => exact Nat.le_of_ble_eq_true rfl); k_whole); (intro oS' oX' oV' h' tk' F' N' hS' hX' hV'; (try dsimp only at N'); (try dsimp only); (try k_sweep)))
  trivial
section
section
variable {prog : Program} {w : World} {A₀ A : Around} {s : Shared} {base h₀ : Heap} {outer : List Env} {L : Addr} {m : Str → Option Value} {env : Env} {news : List (Addr × Obj)} {K : Frag} {p : Program} {loose : List Str} {mean : ExcName → Option Value} {mg mb : Str → Option Value}
    {R : Result → Shared → Prop} {name qual : Str} {params : Arguments} {body : List Stmt} {scope : Scope} {dV kV doc pm cdv ct oc : Value} {an od : Option Addr} {osl : Array (Option Value)} {f : Addr} {args : Args} {binds : List (Str × Value)}
theorem memX {env : Env} {L b : Addr} {outer : List Env} (hf : env.frame = some L) (hm : b ∈ (env :: outer).filterMap (·.frame)) : b = L ∨ b ∈ outer.filterMap (·.frame) := by
  rw [List.filterMap_cons, hf] at hm
  exact List.mem_cons.mp hm
theorem enterX (B : Below A₀ base outer h₀) (F : Fr h₀ L s.heap m) (N : News h₀ L s.heap news) (hA : A.frames = some (env :: outer)) (hf : env.frame = some L) (hke : env.scope.kind = .function) :
    ∃ oL es ep, (hideAll s.heap (news.map (·.1))).get? L = some oL ∧ oL.data = .dict es ep ∧ (∀ h', h'.get? L = some oL → Heap.Ns h' L m) ∧ (∀ (sl : Array (Option Value)) h', h'.get? L = some { oL with slots := sl } → Heap.Ns h' L m) ∧
      h₀.StaysIn (hideAll s.heap (news.map (·.1))) ∧ Below A base (env :: outer) (hideAll s.heap (news.map (·.1))) := by
  have nm : ∀ b o, h₀.get? b = some o → b ∉ news.map (·.1) := fun b o e q => by
    obtain ⟨p, hp, rfl⟩ := List.mem_map.mp q
    rw [(N p hp).2.2] at e; cases e
  have st : h₀.StaysIn (hideAll s.heap (news.map (·.1))) := fun b o e => hideAll_get _ (F.keep b o e) (nm b o e)
  obtain ⟨oL, es, ep, hL, hLd, hLk, hLf⟩ := F.ns
  have nL : L ∉ news.map (·.1) := fun q => by
    obtain ⟨p, hp, e⟩ := List.mem_map.mp q
    exact (N p hp).2.1 e
  have hLg := hideAll_get (news.map (·.1)) hL nL
  have B₁ := pushX B F hf hke
  exact ⟨oL, es, ep, hLg, hLd, fun h' e => ⟨oL, es, ep, e, hLd, hLk, hLf⟩, fun sl h' e => ⟨_, es, ep, e, hLd, hLk, hLf⟩, st, ⟨hA, fun b o e => st b o (B.stays b o e), funFrames_hideAll B₁.frames fun env' he b hb hf' => by
    cases he with
    | head => exact nL ((Option.some.inj (hf.symm.trans hf') : L = b) ▸ hb)
    | tail _ he =>
      obtain ⟨L₁, o₁, hf₁, ho₁⟩ := funFrames_in B.frames env' he
      rw [hf₁] at hf'
      exact nm L₁ o₁ ho₁ ((Option.some.inj hf' : L₁ = b) ▸ hb)⟩⟩
/-- a called frame ends, the frames below turned in their slots alone -/
noncomputable def LeaveX (fs : List Addr) (A₀ : Around) (base : Heap) (outer : List Env) (K : Frag) (p : Program) (loose : List Str) (mean : ExcName → Option Value) (mg mb : Str → Option Value) (h₀ : Heap) (L : Addr) (m : Str → Option Value) (g : Heap) (R : Result → Shared → Prop) (v : Value) (s' : Shared) : Prop :=
  ∃ g' L' m' news', KtsTurn fs g g' ∧ Fr g' L' s'.heap m' ∧ News g' L' s'.heap news' ∧ ∀ h₀', KtsTurn (outer.filterMap (·.frame)) h₀ h₀' → Fr h₀' L s'.heap m → News h₀' L s'.heap news' → Below A₀ base outer h₀' → K.In h₀' → Top p loose mean mg mb h₀' →
    KtsDicts (outer.filterMap (·.frame)) h₀' → R (.ok (.ret v)) s'
theorem leaveX_ {fs : List Addr} {A₀ : Around} {base : Heap} {outer : List Env} {K : Frag} {p : Program} {loose : List Str} {mean : ExcName → Option Value} {mg mb : Str → Option Value} {h₀ g g' : Heap} {L L' : Addr} {m m' : Str → Option Value} {news' : List (Addr × Obj)} {R : Result → Shared → Prop} {v : Value} {s' : Shared}
    (F' : Fr g' L' s'.heap m') (N' : News g' L' s'.heap news') (T : KtsTurn fs g g')
    (k : ∀ h₀', KtsTurn (outer.filterMap (·.frame)) h₀ h₀' → Fr h₀' L s'.heap m → News h₀' L s'.heap news' → Below A₀ base outer h₀' → K.In h₀' → Top p loose mean mg mb h₀' → KtsDicts (outer.filterMap (·.frame)) h₀' → R (.ok (.ret v)) s') :
    LeaveX fs A₀ base outer K p loose mean mg mb h₀ L m g R v s' := ⟨g', L', m', news', T, F', N', k⟩
theorem code_defX (B : Below A₀ base outer h₀) (F : Fr h₀ L s.heap m) (X₀ : K.In h₀) (N : News h₀ L s.heap news) (T : Top p loose mean mg mb h₀) (XB : K.In base) (TB : Top p loose mean mg mb base) (D : KtsDicts (outer.filterMap (·.frame)) h₀)
    (hA : A.frames = some (env :: outer)) (hf : env.frame = some L) (hck : env.scope.kind = .function)
    (ho : K.lookup f = some ⟨oc, od, .func (fnOf name qual params body scope dV kV doc pm an cdv ct), osl⟩) (hcd : codeIn K cdv qual = true) (hroom : A.depth < recursionLimit)
    (hbind : BindsTo s (fnOf name qual params body scope dV kV doc pm an cdv ct) args binds) (hloc : ∀ y ∈ binds, scope.names.lookup y.1 = some .local)
    (h : ∀ g L' h₁, Fr h₀ L g m → Fr g L' h₁ (fun y => binds.reverse.lookup y) → News g L' h₁ news → Below A base (env :: outer) g → K.In g → Top p loose mean mg mb g → KtsDicts ((env :: outer).filterMap (·.frame)) g →
      wpAny (model prog w) (A.deeper (envOf qual scope L' f cdv)) (execs body (envOf qual scope L' f cdv))
        (fun fl s' => LeaveX ((env :: outer).filterMap (·.frame)) A₀ base outer K p loose mean mg mb h₀ L m g R (match fl with | .ret v => v | _ => .none) s')
        (fun e s' => wpAny (model prog w) (A.deeper (envOf qual scope L' f cdv)) (leaving (envOf qual scope L' f cdv) e) (fun _ s'' => R (.error e) s'') (fun e' s'' => R (.error e') s'') s')
        { s with heap := h₁, toks := s.toks + binds.length })
    (hco : scope.isCoroutine = false) (hgen : scope.isGenerator = false) (hk : scope.kind = .function)
    (hcell : ∀ x ∈ scope.names, x.2 ≠ .cell) : codeAny (model prog w) A (.call (.ref f) args) R s := by
  have X := X₀.keeps F.keep
  refine codeAny_call_def (fd := fnOf name qual params body scope dV kV doc pm an cdv ct) (body := body) (binds := binds) hroom (X _ _ ho) rfl (T.nolimit.keeps F.keep) (codeRec_of X hcd) rfl hbind hcell hloc (fun h₁ hns hk₁ => ?_) hco hgen hk
  obtain ⟨oL, es, ep, hLg, hLd, hN, hNs, st, B₂⟩ := enterX B F N hA hf hck
  refine wpAny_mono (h _ s.heap.objs.size h₁ ⟨hN _ hLg, st, F.above⟩ ⟨hns, fun b o e => hk₁ b o (of_hideAll _ e), Nat.le_of_eq (hideAll_size _ _)⟩
    (fun p hp => ⟨hk₁ _ _ (N p hp).1, Nat.ne_of_lt (Heap.lt_size (N p hp).1), hideAll_none _ (List.mem_map_of_mem hp)⟩) B₂ (X₀.keeps st) (T.keeps st) (fun b hb => by
      rcases memX hf hb with rfl | hb
      · exact ⟨oL, es, ep, hLg, hLd⟩
      · obtain ⟨o, es', n', ho', hd'⟩ := D b hb
        exact ⟨o, es', n', st b o ho', hd'⟩)) (fun fl s' hl => ?_) fun _ _ y => y
  have nL₀ : h₀.get? L = none := kts_self F
  obtain ⟨g', L', m', news', T', F', N', k⟩ := hl
  obtain ⟨sl, hs⟩ := T'.up hLg
  obtain ⟨T₁, S₁⟩ := kts_turn_at (h := s'.heap) (fs := outer.filterMap (·.frame)) (g := h₀)
    (fun b hb => by
      obtain ⟨_, o, ho', _⟩ := B.frames.mem hb
      exact ⟨o, ho'⟩)
    (fun b o e nmem => F'.keep b o (T'.other b o (st b o e) (fun q => by
      rcases memX hf q with z | z
      · rw [z, nL₀] at e
        cases e
      · exact nmem z)))
    (fun b o e hm => by
      obtain ⟨sl', hs'⟩ := T'.up (st b o e)
      exact ⟨sl', F'.keep _ _ hs'⟩)
  have B₃ : Below A₀ base outer (ktsHeap s'.heap (outer.filterMap (·.frame)) h₀) := ⟨B.stack, fun b o e => T₁.other b o (B.stays b o e) (fun hm => by
    rw [(B.frames.mem hm).1] at e
    cases e), B.frames.of_keeps fun b o e _ => by
    obtain ⟨sl', hs'⟩ := T₁.up e
    exact ⟨_, hs', rfl⟩⟩
  refine k _ T₁ ⟨hNs sl _ (F'.keep _ _ hs), S₁, by rw [T₁.size]; exact F.above⟩ (fun p hp => ⟨(N' p hp).1, fun q => ?_, ?_⟩) B₃ (XB.keeps B₃.stays) (TB.keeps B₃.stays) (D.turn T₁)
  · have := (N' p hp).2.2; rw [q, hs] at this; cases this
  · refine T₁.none_ _ ?_
    cases q : h₀.get? p.1 with
    | none => rfl
    | some o =>
      obtain ⟨sl', hs'⟩ := T'.up (st _ _ q)
      have := (N' p hp).2.2
      rw [hs'] at this
      cases this
/-- no frame below: nothing turned -/
theorem turn_none {h₀ h₀' h : Heap} (T : KtsTurn [] h₀ h₀') (F : Fr h₀' L h m) : Fr h₀ L h m :=
  ⟨F.ns, fun b o e => F.keep b o (T.other b o e (fun q => nomatch q)), by rw [← T.size]; exact F.above⟩
theorem turn_news {h₀ h₀' h : Heap} (T : KtsTurn [] h₀ h₀') (N : News h₀' L h news) : News h₀ L h news := fun q hq => ⟨(N q hq).1, (N q hq).2.1, by
  cases e : h₀.get? q.1 with
  | none => rfl
  | some o => have := T.other _ _ e (fun z => nomatch z); rw [(N q hq).2.2] at this; cases this⟩
end
section
variable {prog : Program} {w : World} {A₀ : Around} {E : Value → Shared → Prop} {s' : Shared} {base g g₀ h : Heap} {outer : List Env} {L a e : Addr} {m : Str → Option Value} {name : Str} {scope : Scope} {cd : Value}
  {b₀ : Stmt} {suite : List Stmt} {pos np : Pos} {rest : List ExceptHandler} {Q : Flow → Shared → Prop} {news : List (Addr × Obj)} {KF : Frag}
  {p : Program} {loose : List Str} {mean : ExcName → Option Value} {mg mb : Str → Option Value} {x : Str} {X T' : String}
theorem caught_new (K : Below A₀ base outer g) (hx : Heap.NewExc h s'.heap e X) (F : Fr g L h m) (N : News g L h news) (XB : KF.In base) (TB : Top p loose mean mg mb base)
    (D : KtsDicts (outer.filterMap (·.frame)) g) (T0 : KtsTurn (outer.filterMap (·.frame)) g₀ g)
    (ex : nsIn KF mainGlobals x = some none) (hv : bootBuiltins x = some (.type T')) (hn' : x ≠ "__name__")
    (hexc : isSubtype (.type T') (.type "BaseException") = pure true) (hnt : isSubtype (.type ((Manifest.find? T').elim "type" fun y => y.metatype)) (.type "tuple") = pure false) (hsub : isSubtype (.type X) (.type T') = pure true)
    (k : ∀ h' g', KtsTurn (outer.filterMap (·.frame)) g₀ g' → Fr g' L h' m → News g' L h' news → Below A₀ base outer g' → KF.In g' → Top p loose mean mg mb g' → KtsDicts (outer.filterMap (·.frame)) g' →
      wpAny (model prog w) ((A₀.deeper (envOf name scope L a cd)).mark (some (.ref e))) (execs (b₀ :: suite) (envOf name scope L a cd)) Q E { s' with heap := h' })
    (hk : scope.kind = .function := by rfl) (hx' : (envOf name scope L a cd).kindOf x = some .globalImplicit := by rfl) (hd' : (x == ("__debug__" : Str)) = false := by decide)
    (hE : PassesOwnAt (model prog w) ((A₀.deeper (envOf name scope L a cd)).mark (some (.ref e))) (A₀.deeper (envOf name scope L a cd)) (envOf name scope L a cd) E := by passes_own) :
    wpAny (model prog w) (A₀.deeper (envOf name scope L a cd)) (noteFrame (.ref e) (envOf name scope L a cd))
      (fun _ s₂ => wpAny (model prog w) (A₀.deeper (envOf name scope L a cd)) (setFlight (.ref e) none) (fun _ s₃ =>
        wpAny (model prog w) (A₀.deeper (envOf name scope L a cd)) (handleBy (.ref e) (envOf name scope L a cd) (.ExceptHandler (some (.Name x np)) none (b₀ :: suite) pos :: rest)) Q E s₃) E s₂) E s' := by
  have K' := K.push (name := name) (a := a) (cd := cd) F hk
  have hin : ∀ env ∈ (envOf name scope L a cd :: outer), ∀ b, env.frame = some b → b ∈ (envOf name scope L a cd :: outer).filterMap (·.frame) := fun env he b hb => List.mem_filterMap.mpr ⟨env, he, hb⟩
  have st : base.StaysIn (hideAll h ((envOf name scope L a cd :: outer).filterMap (·.frame))) := fun b o q => hideAll_get _ (K'.stays b o q) fun hm => by
    rw [(K'.frames.mem hm).1] at q; cases q
  have sg : ∀ b o, h.get? b = some o → b ∉ (envOf name scope L a cd :: outer).filterMap (·.frame) → (hideAll h ((envOf name scope L a cd :: outer).filterMap (·.frame))).get? b = some o := fun b o q nm => hideAll_get _ q nm
  have hl : ∀ q ∈ news, (hideAll h ((envOf name scope L a cd :: outer).filterMap (·.frame))).get? q.1 = some q.2 ∧ g.get? q.1 = none := fun q hq => by
    refine ⟨hideAll_get _ (N q hq).1 fun hm => ?_, (N q hq).2.2⟩
    obtain ⟨env, he, hf⟩ := List.mem_filterMap.mp hm
    rcases List.mem_cons.mp he with rfl | he
    · exact (N q hq).2.1 (Option.some.inj hf).symm
    · obtain ⟨o, ho, _⟩ := (K.frames.mem (List.mem_filterMap.mpr ⟨env, he, hf⟩)).2
      rw [(N q hq).2.2] at ho; cases ho
  have hL : (hideAll h ((envOf name scope L a cd :: outer).filterMap (·.frame))).get? L = none := hideAll_none _ (List.mem_filterMap.mpr ⟨_, .head _, rfl⟩)
  obtain ⟨ob, tp, he, hcls, hd⟩ := hx.there
  have hen : (hideAll h ((envOf name scope L a cd :: outer).filterMap (·.frame))).get? e = none := by
    cases q : (hideAll h ((envOf name scope L a cd :: outer).filterMap (·.frame))).get? e with
    | none => rfl
    | some o => have := of_hideAll _ q; rw [hx.new] at this; cases this
  have hkx := hx.keeps
  unfold noteFrame
  simp only [show (envOf name scope L a cd).frame = some L from rfl]
  refine wpAny_bind (wpAny_field he hd (show _ = some Value.none from rfl) ?_)
  rw [if_neg (by decide)]
  refine wpAny_newEntryW (base := hideAll h ((envOf name scope L a cd :: outer).filterMap (·.frame))) (a0 := tp) K'.stack ((funFrames_hide K'.frames hin).of_keeps fun b o hb _ => ⟨o, hx.keeps b o hb, rfl⟩) rfl he (fun b o hb => hx.keeps b o (of_hideAll _ hb)) hen hd (by simp) rfl fun h₅ hLw => ?_
  rw [hcls] at hLw
  have hfl : Heap.FlyingW (hideAll h ((envOf name scope L a cd :: outer).filterMap (·.frame))) (envOf name scope L a cd :: outer) e (.type X) tp h₅ := ⟨hLw.1, hen, hLw.2.1, hLw.2.2.1⟩
  have hsm₅ : h.UpToSlots h₅ := (Heap.UpToSlots.of_keeps hx.keeps).trans hLw.2.2.2
  obtain ⟨g₅, T₅, F₅, K₅⟩ := kts_ground K F sg hfl.1 hsm₅
  have X₅ : KF.In g₅ := XB.keeps K₅.stays
  have P₅ : TopRead p loose mg mb g₅ := topRead_of (TB.keeps K₅.stays)
  obtain ⟨ob', hob, hobc⟩ := hfl.there
  refine wpAny_handleBy_builtin (X := X) (T := T') (b := true) hexc hnt hsub (name_B F₅ X₅ P₅ ex hv hn' ⟨rfl, ⟨ob', hob, hobc⟩, ?_⟩ hk hx' hd')
  refine lands_againW hfl fun h₆ hfl₆ hsm₆ => ?_
  obtain ⟨g₆, T₆, F₆, K₆⟩ := kts_ground K F sg hfl₆.1 (hsm₅.trans hsm₆)
  have Nl : News g₆ L h₆ news := fun q hq => ⟨hfl₆.1 _ _ (hl q hq).1, (fun z => by have := (hl q hq).1; rw [z, hL] at this; cases this), T₆.none_ _ (hl q hq).2⟩
  have X₆ : KF.In g₆ := XB.keeps K₆.stays
  have P₆ : Top p loose mean mg mb g₆ := TB.keeps K₆.stays
  have D₆ : KtsDicts (outer.filterMap (·.frame)) g₆ := D.turn T₆
  exact wpAny_passesOwnAt hE (k h₆ g₆ (T0.trans T₆) F₆ Nl K₆ X₆ P₆ D₆)
end

end

theorem said_tryx : True := by
  k_with "m enterX" => (refine' code_defX ?zyk1 ?zyk2 ?zyk3 ?zyk4 ?zyk5 ?zykXB ?zykTB ?zykD ?zykA ?zykF ?zykK ?zyk6 ?zyk7 ?zyk8 ?zyk9 ?zykB ?_ ?zyc2 ?zyc3 ?zyc4 ?zyc5; (case zykA => exact rfl); (case zykF => exact rfl); (case zykK => assumption); (case zyk1 => k_asm); (case zyk2 => k_asm); (case zyk3 => k_asm); (case zyk4 => k_asm); (case zyk5 => k_asm); (case zykXB => assumption); (case zykTB => assumption); (case zykD => assumption); (case zyk6 => k_is); (case zyk7 => k_is); (case zyk8 => first | exact Nat.le_of_ble_eq_true rfl | k_room); (case zyk9 => first | exact BindsTo.of_eq rfl | exact binds_K (by k_in) rfl (by k_is) rfl rfl rfl); (case zyc5 => decide); (case zykB => exact locs rfl); (case zyc2 => exact rfl); (case zyc3 => exact rfl); (case zyc4 => exact rfl); k_whole; intro g' L' h' FG' F' N' B' X' T' D'; (try dsimp only); (try k_fold))
  k_with "LeaveX" => (k_here; k_dflt (refine' leaveX_ ?zyF ?zyN ?zyT ?_; (case zyF => k_asm); (case zyN => k_asm); (case zyT => first | assumption | exact KtsTurn.refl); k_whole); intro h0' tT' kF' kN' kB' kX' kT' kD'; (try dsimp only))
  k_with "noteFrame ref" => (k_here; (with_reducible show wpAny _ _ (noteFrame _ _) (fun _ s₂ => wpAny _ _ (setFlight _ none) (fun _ s₃ => wpAny _ _ (handleBy _ _ (ExceptHandler.ExceptHandler (some (Expr.Name ("IndexError" : Str) _)) none _ _ :: _)) _ _ s₃) _ s₂) _ _); k_dflt (refine' caught_new (T' := "IndexError") ?zyK ?zyhx ?zyF ?zyN ?zyXB ?zyTB ?zyD ?zyT0 ?zyex PyProof.Rows.Boot.«IndexError» ?zyhn PySem.F.isExc_IndexError PySem.F.notTuple_IndexError ?zyhs ?_; (case zyhx => assumption); (case zyF => assumption); (case zyN => assumption); (case zyK => assumption); (case zyXB => assumption); (case zyTB => assumption); (case zyD => assumption); (case zyT0 => exact KtsTurn.refl); (case zyhs => kts_sub); (case zyex => k_is); (case zyhn => decide); k_whole); intro h' g' T' F' N' K' X' P' D'; (try k_sweep))
  trivial
section
section
variable {prog : Program} {w : World} {A : Around} {E : Value → Shared → Prop} {s : Shared} {h₀ : Heap} {L a b l : Addr} {m : Str → Option Value} {news : List (Addr × Obj)} {vs ws : List Value} {v : Value} {x : Int} {u : Tok} {Q : Value → Shared → Prop}
theorem list_rep (F : Fr h₀ L s.heap m) (N : News h₀ L s.heap news) (hl : s.heap.IsList l [v].toArray) (hlo : -(2 ^ 63 : Int) ≤ x) (hhi : x ≤ 100)
    (h : ∀ D h', Fr h₀ L h' m → News h₀ L h' ((D, listOf (List.replicate x.toNat v).toArray 0) :: news) → (∀ p ∈ news, p.1 < D) → Q (.ref D) { s with heap := h' }) : wpAny (model prog w) A (binaryOp .Mult (.ref l) (.int x u)) Q E s := by
  refine KMa.mul F N hl hlo (by omega) (by simp only [List.length_cons, List.length_nil]; omega) (ws := List.replicate x.toNat v) ?_ h
  induction x.toNat with
  | zero => rfl
  | succ n ih => rw [List.replicate_succ, List.replicate_succ, List.flatten_cons, ih]; rfl
theorem list_cat (F : Fr h₀ L s.heap m) (N : News h₀ L s.heap news) (ha : s.heap.IsList a vs.toArray) (hb : s.heap.IsList b ws.toArray) (hz : vs.length + ws.length ≤ sizeLine)
    (h : ∀ D h', Fr h₀ L h' m → News h₀ L h' ((D, listOf (vs ++ ws).toArray 0) :: news) → (∀ p ∈ news, p.1 < D) → Q (.ref D) { s with heap := h' }) : wpAny (model prog w) A (binaryOp .Add (.ref a) (.ref b)) Q E s :=
  add_lists (hsz := hz) F N ha hb fun h' F' N' => h _ h' F' N' fun p hp => Heap.lt_size (N p hp).1
theorem list_tail {value slice : PySem.Expr} {key : Value} {its : Array Value} (hl : s.heap.IsList l its) (h : wpAny (model prog w) A (getItem (.ref l) key) Q E s)
    (hs : subscripted slice false (.ref l) key = operate [.ref l, key] (getItem (.ref l) key) := by with_unfolding_all rfl) : wpAny (model prog w) A (subscriptTail value slice (.ref l) key) Q E s :=
  tail_any hl.typeIs slot_list_getitem.lookup h hs
end

end

theorem said_evlist : True := by
  k_with "binaryOp Mult ref int" => (k_here; k_dflt (refine' list_rep ?zyF ?zyN ?zyl ?zylo ?zyhi ?_; (case zyF => k_asm); (case zyN => k_asm); (case zyl => exact News.isList (by assumption) (by k_mem)); (case zylo => walk_at "m om"); (case zyhi => walk_at "m om"); k_whole); intro D' h' F' N' l1; (replace l1 := allLt_of l1); (have l2 := l1); (try dsimp only [AllLt] at l2); (try dsimp only); (try k_sweep))
  k_with "binaryOp Add ref ref" => (k_here; k_dflt (refine' list_cat ?zyF ?zyN ?zya ?zyb ?zyz ?_; (case zyF => k_asm); (case zyN => k_asm); (case zya => exact News.isList (by assumption) (by k_mem)); (case zyb => exact News.isList (by assumption) (by k_mem)); (case zyz => simp only [sizeLine_eq, List.length_replicate, List.length_nil, List.length_cons]; omega); k_whole); intro D' h' F' N' l1; (replace l1 := allLt_of l1); (have l2 := l1); (try dsimp only [AllLt] at l2); (try dsimp only); (try k_sweep))
  k_with "getItem ref int" => (k_here; k_dflt (first
      | (refine' getItem_listL ?zyhl ?zyh0 ?zyhf ?zyhx ?_; (case zyhl => exact News.isList (by assumption) (by k_mem)); (case zyh0 => walk_at "m om"); (case zyhf => walk_at "m om"); (case zyhx => with_reducible assumption); k_whole)
      | (refine' wpAny_getItem_list_out ?zyhA ?zyhl ?zyho ?zylo ?zyhi ?_; (case zyhA => exact rfl); (case zyhl => exact News.isList (by assumption) (by k_mem)); (case zyho => (refine Or.inr ?_; first | (simp only [List.size_toArray]; omega) | (simp; omega) | (show ((0 : Nat) : Int) ≤ _; omega))); (case zylo => walk_at "m om"); (case zyhi => walk_at "m om"); k_whole; intro h' tk' e' x')))
  k_with "subscriptTail" => (k_here; (with_reducible show wpAny _ _ (subscriptTail _ _ (Value.ref _) (Value.int _ _)) _ _ _); k_dflt (refine list_tail (News.isList (by assumption) (by k_mem)) ?_))
  trivial
section
section
variable {prog : Program} {w : World} {h₀ h : Heap} {L S X V D : Addr} {frz led l news : List (Addr × Obj)} {evs : Str → Option (List (Int × Int))} {ev ev' : Str → Option Addr} {oV : Obj} {z z' nV n n' : Nat} {key : Str} {vs : List Value} {ens : List (Int × Int)}
theorem split1s {d1 : Addr} {o1 : Obj} {g1 : Obj → List (Addr × Obj)} (U1 : UpdF d1 o1 news g1) (N : News h₀ L h news) :
    ∃ frz, (∀ q ∈ frz, q.1 ≠ d1) ∧ News h₀ L h ((d1, o1) :: frz) ∧ (∀ q ∈ news, q.1 ≠ d1 → q ∈ frz) ∧ (∀ a q, q ∈ g1 a → q ∈ (d1, a) :: frz) ∧ (∀ a q, q ∈ frz → q ∈ g1 a) ∧ (∀ a, (d1, a) ∈ g1 a) := by
  refine ⟨news.filter fun q => decide (q.1 ≠ d1), fun q hq => ?_, fun q hq => ?_, fun q hq h1 => ?_, fun a q hq => ?_, fun a q hq => ?_, fun a => (updF_memg U1 a _).mpr (.inl rfl)⟩
  · exact of_decide_eq_true (List.mem_filter.mp hq).2
  · rcases List.mem_cons.mp hq with e | hq
    · subst e; exact N _ (updF_mem0 U1)
    · exact N q (List.mem_filter.mp hq).1
  · exact List.mem_filter.mpr ⟨hq, decide_eq_true h1⟩
  · rcases (updF_memg U1 a q).mp hq with e | ⟨hl, hn⟩
    · subst e; exact .head _
    · exact .tail _ (List.mem_filter.mpr ⟨hl, decide_eq_true hn⟩)
  · exact (updF_memg U1 a q).mpr (.inr ⟨(List.mem_filter.mp hq).1, of_decide_eq_true (List.mem_filter.mp hq).2⟩)
/-- what a ledger holds beyond l -/
noncomputable def extOf (led l : List (Addr × Obj)) : List (Addr × Obj) := led.filter fun q => decide (∀ r ∈ l, r.1 ≠ q.1)
theorem extOf_ne {p q : Addr × Obj} (hp : p ∈ extOf led l) (hq : q ∈ l) : p.1 ≠ q.1 := fun e => of_decide_eq_true (List.mem_filter.mp hp).2 q hq e.symm
theorem extOf_mem (N : News h₀ L h led) (hl : ∀ q ∈ l, q ∈ led) : ∀ q ∈ led, q ∈ l ++ extOf led l := fun q hq => by
  by_cases c : ∀ r ∈ l, r.1 ≠ q.1
  · exact List.mem_append_right _ (List.mem_filter.mpr ⟨hq, decide_eq_true c⟩)
  · obtain ⟨r, hr, e⟩ : ∃ r ∈ l, r.1 = q.1 := by
      refine Classical.byContradiction fun z => c fun r hr e => z ⟨r, hr, e⟩
    have a1 := (N q hq).1
    have a2 := (N r (hl r hr)).1
    rw [e, a1] at a2
    have : q = r := Prod.ext e.symm (Option.some.inj a2)
    rw [this]
    exact List.mem_append_left _ hr
theorem extOf_news (N : News h₀ L h led) (hl : ∀ q ∈ l, q ∈ led) : News h₀ L h (l ++ extOf led l) := fun q hq => by
  rcases List.mem_append.mp hq with m | m
  · exact N q (hl q m)
  · exact N q (List.mem_filter.mp m).1
theorem ev_same (hE : ∀ k, EvK frz S X V z (ev k) (evs k)) (hs : ∀ q ∈ frz, q ∈ led) (hR : RefD prog w oV ev n) (hn : n ≤ n') (hz : z ≤ z') : EvD prog w led S X V oV evs n' z' :=
  ⟨ev, DictV.mono hR hn, fun k => ((hE k).sub fun q hq _ => hs q hq).mono hz⟩
theorem ev_put (hE : ∀ k, EvK frz S X V z (ev k) (evs k)) (hs : ∀ q ∈ frz, q ∈ led) (hev : ∀ j, j ≠ key → ev' j = ev j) (hD : ev' key = some D) (mD : (D, listOf vs.toArray 0) ∈ led ∨ (∃ k, (D, listOf vs.toArray k) ∈ led)) (hv : Ents led S X V vs ens) (oD : Off S X V D)
    (hl : vs.length ≤ z') (hz : z ≤ z') (hR : RefD prog w oV ev' n) (hn : n ≤ n') : EvD prog w led S X V oV (upd evs key (some ens)) n' z' := by
  refine ⟨ev', DictV.mono hR hn, fun k => ?_⟩
  by_cases e : k = key
  · subst e
    rw [hD, upd_same]
    rcases mD with mD | ⟨c, mD⟩
    · exact ⟨vs, 0, mD, hv, oD, hl⟩
    · exact ⟨vs, c, mD, hv, oD, hl⟩
  · rw [hev k e, upd_other _ _ e]
    exact ((hE k).sub fun q hq _ => hs q hq).mono hz
theorem off_of {a : Addr} (sx : @LT.lt Nat _ S X) (xv : @LT.lt Nat _ X V) (h : @LT.lt Nat _ V a) : Off S X V a :=
  ⟨fun e => by subst e; omega, fun e => by subst e; omega, fun e => by subst e; omega⟩
theorem with_ext {o' : Obj} {g1 : Obj → List (Addr × Obj)} {f : Str → Option Addr} (_ : News h₀ L h led) (_ : DictV prog w RefV o' f n) (mem : ∀ a q, q ∈ g1 a → q ∈ (V, a) :: frz) (hin : ∀ q ∈ (V, o') :: frz, q ∈ led) : ∀ q ∈ g1 o', q ∈ led :=
  fun q hq => hin q (mem _ q hq)
theorem EvD.sub (h : EvD prog w led S X V oV evs n z) (hs : ∀ q ∈ led, Off S X V q.1 → q ∈ l) : EvD prog w l S X V oV evs n z := by
  obtain ⟨ev, hR, hE⟩ := h
  exact ⟨ev, hR, fun k => (hE k).sub hs⟩
theorem app_sub {ext : List (Addr × Obj)} {g1 : Obj → List (Addr × Obj)} {o' : Obj} (mem : ∀ a q, q ∈ g1 a → q ∈ (V, a) :: frz) : ∀ q ∈ g1 o' ++ ext, q ∈ (V, o') :: (frz ++ ext) := fun q hq => by
  rcases List.mem_append.mp hq with m | m
  · rcases List.mem_cons.mp (mem _ q m) with e | e
    · subst e; exact .head _
    · exact .tail _ (List.mem_append_left _ e)
  · exact .tail _ (List.mem_append_right _ m)
theorem app_sup {ext : List (Addr × Obj)} {g1 : Obj → List (Addr × Obj)} {o' : Obj} (sup : ∀ a q, q ∈ frz → q ∈ g1 a) : ∀ q ∈ (V, o') :: frz ++ ext, Off S X V q.1 → q ∈ g1 o' ++ ext := fun q hq ho => by
  rcases List.mem_append.mp hq with m | m
  · rcases List.mem_cons.mp m with e | e
    · subst e; exact absurd rfl ho.2.2
    · exact List.mem_append_left _ (sup _ q e)
  · exact List.mem_append_right _ m
end

end
section
theorem said_p_aen : True := by
  k_with "m al" => first | assumption | exact And.right (by assumption) | exact And.right (And.right (by assumption)) | exact And.right (And.right (And.right (by assumption))) | exact And.right (And.right (And.right (And.right (by assumption)))) | exact And.right (And.right (And.right (And.right (And.right (by assumption))))) | exact And.right (And.right (And.right (And.right (And.right (And.right (by assumption)))))) | exact And.right (And.right (And.right (And.right (And.right (And.right (And.right (by assumption))))))) | exact And.right (And.right (And.right (And.right (And.right (And.right (And.right (And.right (by assumption))))))))
  k_with "m al2" => first | walk_at "m al" | (refine allLt_up (by assumption) ?_; walk_at "m al")
  trivial
theorem allLt_up {d x : Addr} {l : List (Addr × Obj)} (h : @LT.lt Nat _ d x) (a : AllLt d l) : AllLt x l := allLt_of fun q hq => Nat.lt_trans (allLt_mem a q hq) h
theorem new_in {h₀ h : Heap} {L : Addr} {led l evl frz : List (Addr × Obj)} {V : Addr} {o : Obj} {q : Addr × Obj} (_ : News h₀ L h led) (_ : ∀ q ∈ l, q ∈ led) (hq : q ∈ led) (hl : ∀ r ∈ l, r ∈ (V, o) :: frz) (h1 : @LT.lt Nat _ V q.1) (h2 : AllLt q.1 frz) : q ∈ evl ++ extOf led l :=
  List.mem_append_right _ (List.mem_filter.mpr ⟨hq, decide_eq_true fun r hr => by
    rcases List.mem_cons.mp (hl r hr) with e | e
    · subst e; exact Nat.ne_of_lt h1
    · exact Nat.ne_of_lt (allLt_mem h2 r e)⟩)
section
variable {w : World} {p : Program} {loose : List Str} {mean : ExcName → Option Value} {mg mb : Str → Option Value} {dp un : Nat} {gd : Option (List Code)} {cn : Str} {cs : Scope} {a : Addr} {ccd : Value} {cl : List (Str × Addr)} {outer : List Env} {A₀ : Around} {base h₀ : Heap} {L : Addr} {m : Str → Option Value} {s : Shared} {Q E : Value → Shared → Prop}
  (B : Below A₀ base outer h₀) (F : Fr h₀ L s.heap m) (KX : (Mine.hd1.heap_39 w.params).In h₀) (T : Top p loose mean mg mb h₀) (hk : cs.kind = .function)
include B F KX T hk

end
noncomputable def aen_spec_St (w : World) (p : Program) (loose : List Str) (mean : ExcName → Option Value) (mg : Str → Option Value) (mb : Str → Option Value) (dp : Nat) (un : Nat) (gd : Option (List Code)) (cn : Str) (cs : Scope) (a : Addr) (ccd : Value) (cl : List (Str × Addr)) (outer : List Env) (A₀ : Around) (base : Heap) (h₀ : Heap) (L : Addr) (m : Str → Option Value) (s : Shared) (Q : Value → Shared → Prop) (E : Value → Shared → Prop) (news : List (Addr × Obj)) (evl : List (Addr × Obj)) (oV : Obj) (g1 : Obj → List (Addr × Obj)) (evs : Str → Option (List (Int × Int))) (nV : Nat) (z : Nat) (st : Addr) (S : Addr) (X : Addr) (V : Addr) (clk : Addr) (key : Str) (tp : Tok) (tl : Tok) (te : Tok) (ta : Tok) (t : Int) (e : Int) : Prop := ∀ (limit : Int) (am : Int) (B : Below A₀ base outer h₀) (F : Fr h₀ L s.heap m) (KX : (Mine.hd1.heap_39 w.params).In h₀) (T : Top p loose mean mg mb h₀) (hk : cs.kind = .function) (XB : (Mine.hd1.heap_39 w.params).In base) (TB : Top p loose mean mg mb base) (D : KtsDicts (outer.filterMap (·.frame)) h₀) (N : News h₀ L s.heap news) (O : Store w news st S X V clk t) (U1 : UpdF V oV news g1) (hevl : ∀ q ∈ evl, q ∈ news ∧ q.1 ≠ V) (hV : EvD PySem.Challenge.rw_ji0060_01.row.prog w evl S X V oV evs nV z) (zV : nV + 1 ≤ sizeLine) (zz : z + 1000 ≤ 1000000) (ha : 0 ≤ am) (ha2 : am ≤ 100) (hl : limit < 1000000) (he : 0 < e) (he2 : e < 1000000) (ht0 : 0 ≤ t) (ht : t < 1000000000000) (hd : dp ≤ 860) (hu : un ≤ 8600) (retH : ∀ h₀' b evs' ext oV' h' tk', KtsTurn (outer.filterMap (·.frame)) h₀ h₀' → Below A₀ base outer h₀' → (Mine.hd1.heap_39 w.params).In h₀' → Top p loose mean mg mb h₀' → KtsDicts (outer.filterMap (·.frame)) h₀' → AenPost evs key t e limit am b evs' → Fr h₀' L h' m → News h₀' L h' (g1 oV' ++ ext) → (∀ p ∈ ext, ∀ q ∈ g1 oV', p.1 ≠ q.1) → EvD PySem.Challenge.rw_ji0060_01.row.prog w (evl ++ ext) S X V oV' evs' (nV + 2) (z + 1000) → Q (.bool b) { s with heap := h', toks := tk' }), wpAny (model PySem.Challenge.rw_ji0060_01.row.prog w) (ktrTop dp un gd cn cs L a ccd cl outer) (call (.ref 631) [.ref st, .str key tp, .int limit tl, .int e te] [(Str.ofString "amount", .int am ta)]) Q E s
namespace c_aen_spec
noncomputable def zcv : (World) × (Program) × (List Str) × (ExcName → Option Value) × (Str → Option Value) × (Str → Option Value) × (Nat) × (Nat) × (Option (List Code)) × (Str) × (Scope) × (Addr) × (Value) × (List (Str × Addr)) × (List Env) × (Around) × (Heap) × (Heap) × (Addr) × (Str → Option Value) × (Shared) × (Value → Shared → Prop) × (Value → Shared → Prop) × (List (Addr × Obj)) × (List (Addr × Obj)) × (Obj) × (Obj → List (Addr × Obj)) × (Str → Option (List (Int × Int))) × (Nat) × (Nat) × (Addr) × (Addr) × (Addr) × (Addr) × (Addr) × (Str) × (Tok) × (Tok) × (Tok) × (Tok) × (Int) × (Int) := pick (neP neW (neP inferInstance (neP inferInstance (neP inferInstance (neP inferInstance (neP inferInstance (neP inferInstance (neP inferInstance (neP inferInstance (neP inferInstance (neP inferInstance (neP inferInstance (neP inferInstance (neP inferInstance (neP inferInstance (neP neA (neP inferInstance (neP inferInstance (neP inferInstance (neP inferInstance (neP neS (neP inferInstance (neP inferInstance (neP inferInstance (neP inferInstance (neP inferInstance (neP inferInstance (neP inferInstance (neP inferInstance (neP inferInstance (neP inferInstance (neP inferInstance (neP inferInstance (neP inferInstance (neP inferInstance (neP inferInstance (neP inferInstance (neP inferInstance (neP inferInstance (neP inferInstance (neP inferInstance inferInstance))))))))))))))))))))))))))))))))))))))))) (fun v : (World) × (Program) × (List Str) × (ExcName → Option Value) × (Str → Option Value) × (Str → Option Value) × (Nat) × (Nat) × (Option (List Code)) × (Str) × (Scope) × (Addr) × (Value) × (List (Str × Addr)) × (List Env) × (Around) × (Heap) × (Heap) × (Addr) × (Str → Option Value) × (Shared) × (Value → Shared → Prop) × (Value → Shared → Prop) × (List (Addr × Obj)) × (List (Addr × Obj)) × (Obj) × (Obj → List (Addr × Obj)) × (Str → Option (List (Int × Int))) × (Nat) × (Nat) × (Addr) × (Addr) × (Addr) × (Addr) × (Addr) × (Str) × (Tok) × (Tok) × (Tok) × (Tok) × (Int) × (Int) => aen_spec_St (v.1) (v.2.1) (v.2.2.1) (v.2.2.2.1) (v.2.2.2.2.1) (v.2.2.2.2.2.1) (v.2.2.2.2.2.2.1) (v.2.2.2.2.2.2.2.1) (v.2.2.2.2.2.2.2.2.1) (v.2.2.2.2.2.2.2.2.2.1) (v.2.2.2.2.2.2.2.2.2.2.1) (v.2.2.2.2.2.2.2.2.2.2.2.1) (v.2.2.2.2.2.2.2.2.2.2.2.2.1) (v.2.2.2.2.2.2.2.2.2.2.2.2.2.1) (v.2.2.2.2.2.2.2.2.2.2.2.2.2.2.1) (v.2.2.2.2.2.2.2.2.2.2.2.2.2.2.2.1) (v.2.2.2.2.2.2.2.2.2.2.2.2.2.2.2.2.1) (v.2.2.2.2.2.2.2.2.2.2.2.2.2.2.2.2.2.1) (v.2.2.2.2.2.2.2.2.2.2.2.2.2.2.2.2.2.2.1) (v.2.2.2.2.2.2.2.2.2.2.2.2.2.2.2.2.2.2.2.1) (v.2.2.2.2.2.2.2.2.2.2.2.2.2.2.2.2.2.2.2.2.1) (v.2.2.2.2.2.2.2.2.2.2.2.2.2.2.2.2.2.2.2.2.2.1) (v.2.2.2.2.2.2.2.2.2.2.2.2.2.2.2.2.2.2.2.2.2.2.1) (v.2.2.2.2.2.2.2.2.2.2.2.2.2.2.2.2.2.2.2.2.2.2.2.1) (v.2.2.2.2.2.2.2.2.2.2.2.2.2.2.2.2.2.2.2.2.2.2.2.2.1) (v.2.2.2.2.2.2.2.2.2.2.2.2.2.2.2.2.2.2.2.2.2.2.2.2.2.1) (v.2.2.2.2.2.2.2.2.2.2.2.2.2.2.2.2.2.2.2.2.2.2.2.2.2.2.1) (v.2.2.2.2.2.2.2.2.2.2.2.2.2.2.2.2.2.2.2.2.2.2.2.2.2.2.2.1) (v.2.2.2.2.2.2.2.2.2.2.2.2.2.2.2.2.2.2.2.2.2.2.2.2.2.2.2.2.1) (v.2.2.2.2.2.2.2.2.2.2.2.2.2.2.2.2.2.2.2.2.2.2.2.2.2.2.2.2.2.1) (v.2.2.2.2.2.2.2.2.2.2.2.2.2.2.2.2.2.2.2.2.2.2.2.2.2.2.2.2.2.2.1) (v.2.2.2.2.2.2.2.2.2.2.2.2.2.2.2.2.2.2.2.2.2.2.2.2.2.2.2.2.2.2.2.1) (v.2.2.2.2.2.2.2.2.2.2.2.2.2.2.2.2.2.2.2.2.2.2.2.2.2.2.2.2.2.2.2.2.1) (v.2.2.2.2.2.2.2.2.2.2.2.2.2.2.2.2.2.2.2.2.2.2.2.2.2.2.2.2.2.2.2.2.2.1) (v.2.2.2.2.2.2.2.2.2.2.2.2.2.2.2.2.2.2.2.2.2.2.2.2.2.2.2.2.2.2.2.2.2.2.1) (v.2.2.2.2.2.2.2.2.2.2.2.2.2.2.2.2.2.2.2.2.2.2.2.2.2.2.2.2.2.2.2.2.2.2.2.1) (v.2.2.2.2.2.2.2.2.2.2.2.2.2.2.2.2.2.2.2.2.2.2.2.2.2.2.2.2.2.2.2.2.2.2.2.2.1) (v.2.2.2.2.2.2.2.2.2.2.2.2.2.2.2.2.2.2.2.2.2.2.2.2.2.2.2.2.2.2.2.2.2.2.2.2.2.1) (v.2.2.2.2.2.2.2.2.2.2.2.2.2.2.2.2.2.2.2.2.2.2.2.2.2.2.2.2.2.2.2.2.2.2.2.2.2.2.1) (v.2.2.2.2.2.2.2.2.2.2.2.2.2.2.2.2.2.2.2.2.2.2.2.2.2.2.2.2.2.2.2.2.2.2.2.2.2.2.2.1) (v.2.2.2.2.2.2.2.2.2.2.2.2.2.2.2.2.2.2.2.2.2.2.2.2.2.2.2.2.2.2.2.2.2.2.2.2.2.2.2.2.1) (v.2.2.2.2.2.2.2.2.2.2.2.2.2.2.2.2.2.2.2.2.2.2.2.2.2.2.2.2.2.2.2.2.2.2.2.2.2.2.2.2.2)) 0
theorem zal (h : aen_spec_St (zcv.1) (zcv.2.1) (zcv.2.2.1) (zcv.2.2.2.1) (zcv.2.2.2.2.1) (zcv.2.2.2.2.2.1) (zcv.2.2.2.2.2.2.1) (zcv.2.2.2.2.2.2.2.1) (zcv.2.2.2.2.2.2.2.2.1) (zcv.2.2.2.2.2.2.2.2.2.1) (zcv.2.2.2.2.2.2.2.2.2.2.1) (zcv.2.2.2.2.2.2.2.2.2.2.2.1) (zcv.2.2.2.2.2.2.2.2.2.2.2.2.1) (zcv.2.2.2.2.2.2.2.2.2.2.2.2.2.1) (zcv.2.2.2.2.2.2.2.2.2.2.2.2.2.2.1) (zcv.2.2.2.2.2.2.2.2.2.2.2.2.2.2.2.1) (zcv.2.2.2.2.2.2.2.2.2.2.2.2.2.2.2.2.1) (zcv.2.2.2.2.2.2.2.2.2.2.2.2.2.2.2.2.2.1) (zcv.2.2.2.2.2.2.2.2.2.2.2.2.2.2.2.2.2.2.1) (zcv.2.2.2.2.2.2.2.2.2.2.2.2.2.2.2.2.2.2.2.1) (zcv.2.2.2.2.2.2.2.2.2.2.2.2.2.2.2.2.2.2.2.2.1) (zcv.2.2.2.2.2.2.2.2.2.2.2.2.2.2.2.2.2.2.2.2.2.1) (zcv.2.2.2.2.2.2.2.2.2.2.2.2.2.2.2.2.2.2.2.2.2.2.1) (zcv.2.2.2.2.2.2.2.2.2.2.2.2.2.2.2.2.2.2.2.2.2.2.2.1) (zcv.2.2.2.2.2.2.2.2.2.2.2.2.2.2.2.2.2.2.2.2.2.2.2.2.1) (zcv.2.2.2.2.2.2.2.2.2.2.2.2.2.2.2.2.2.2.2.2.2.2.2.2.2.1) (zcv.2.2.2.2.2.2.2.2.2.2.2.2.2.2.2.2.2.2.2.2.2.2.2.2.2.2.1) (zcv.2.2.2.2.2.2.2.2.2.2.2.2.2.2.2.2.2.2.2.2.2.2.2.2.2.2.2.1) (zcv.2.2.2.2.2.2.2.2.2.2.2.2.2.2.2.2.2.2.2.2.2.2.2.2.2.2.2.2.1) (zcv.2.2.2.2.2.2.2.2.2.2.2.2.2.2.2.2.2.2.2.2.2.2.2.2.2.2.2.2.2.1) (zcv.2.2.2.2.2.2.2.2.2.2.2.2.2.2.2.2.2.2.2.2.2.2.2.2.2.2.2.2.2.2.1) (zcv.2.2.2.2.2.2.2.2.2.2.2.2.2.2.2.2.2.2.2.2.2.2.2.2.2.2.2.2.2.2.2.1) (zcv.2.2.2.2.2.2.2.2.2.2.2.2.2.2.2.2.2.2.2.2.2.2.2.2.2.2.2.2.2.2.2.2.1) (zcv.2.2.2.2.2.2.2.2.2.2.2.2.2.2.2.2.2.2.2.2.2.2.2.2.2.2.2.2.2.2.2.2.2.1) (zcv.2.2.2.2.2.2.2.2.2.2.2.2.2.2.2.2.2.2.2.2.2.2.2.2.2.2.2.2.2.2.2.2.2.2.1) (zcv.2.2.2.2.2.2.2.2.2.2.2.2.2.2.2.2.2.2.2.2.2.2.2.2.2.2.2.2.2.2.2.2.2.2.2.1) (zcv.2.2.2.2.2.2.2.2.2.2.2.2.2.2.2.2.2.2.2.2.2.2.2.2.2.2.2.2.2.2.2.2.2.2.2.2.1) (zcv.2.2.2.2.2.2.2.2.2.2.2.2.2.2.2.2.2.2.2.2.2.2.2.2.2.2.2.2.2.2.2.2.2.2.2.2.2.1) (zcv.2.2.2.2.2.2.2.2.2.2.2.2.2.2.2.2.2.2.2.2.2.2.2.2.2.2.2.2.2.2.2.2.2.2.2.2.2.2.1) (zcv.2.2.2.2.2.2.2.2.2.2.2.2.2.2.2.2.2.2.2.2.2.2.2.2.2.2.2.2.2.2.2.2.2.2.2.2.2.2.2.1) (zcv.2.2.2.2.2.2.2.2.2.2.2.2.2.2.2.2.2.2.2.2.2.2.2.2.2.2.2.2.2.2.2.2.2.2.2.2.2.2.2.2.1) (zcv.2.2.2.2.2.2.2.2.2.2.2.2.2.2.2.2.2.2.2.2.2.2.2.2.2.2.2.2.2.2.2.2.2.2.2.2.2.2.2.2.2)) : ∀ u : (World) × (Program) × (List Str) × (ExcName → Option Value) × (Str → Option Value) × (Str → Option Value) × (Nat) × (Nat) × (Option (List Code)) × (Str) × (Scope) × (Addr) × (Value) × (List (Str × Addr)) × (List Env) × (Around) × (Heap) × (Heap) × (Addr) × (Str → Option Value) × (Shared) × (Value → Shared → Prop) × (Value → Shared → Prop) × (List (Addr × Obj)) × (List (Addr × Obj)) × (Obj) × (Obj → List (Addr × Obj)) × (Str → Option (List (Int × Int))) × (Nat) × (Nat) × (Addr) × (Addr) × (Addr) × (Addr) × (Addr) × (Str) × (Tok) × (Tok) × (Tok) × (Tok) × (Int) × (Int), aen_spec_St (u.1) (u.2.1) (u.2.2.1) (u.2.2.2.1) (u.2.2.2.2.1) (u.2.2.2.2.2.1) (u.2.2.2.2.2.2.1) (u.2.2.2.2.2.2.2.1) (u.2.2.2.2.2.2.2.2.1) (u.2.2.2.2.2.2.2.2.2.1) (u.2.2.2.2.2.2.2.2.2.2.1) (u.2.2.2.2.2.2.2.2.2.2.2.1) (u.2.2.2.2.2.2.2.2.2.2.2.2.1) (u.2.2.2.2.2.2.2.2.2.2.2.2.2.1) (u.2.2.2.2.2.2.2.2.2.2.2.2.2.2.1) (u.2.2.2.2.2.2.2.2.2.2.2.2.2.2.2.1) (u.2.2.2.2.2.2.2.2.2.2.2.2.2.2.2.2.1) (u.2.2.2.2.2.2.2.2.2.2.2.2.2.2.2.2.2.1) (u.2.2.2.2.2.2.2.2.2.2.2.2.2.2.2.2.2.2.1) (u.2.2.2.2.2.2.2.2.2.2.2.2.2.2.2.2.2.2.2.1) (u.2.2.2.2.2.2.2.2.2.2.2.2.2.2.2.2.2.2.2.2.1) (u.2.2.2.2.2.2.2.2.2.2.2.2.2.2.2.2.2.2.2.2.2.1) (u.2.2.2.2.2.2.2.2.2.2.2.2.2.2.2.2.2.2.2.2.2.2.1) (u.2.2.2.2.2.2.2.2.2.2.2.2.2.2.2.2.2.2.2.2.2.2.2.1) (u.2.2.2.2.2.2.2.2.2.2.2.2.2.2.2.2.2.2.2.2.2.2.2.2.1) (u.2.2.2.2.2.2.2.2.2.2.2.2.2.2.2.2.2.2.2.2.2.2.2.2.2.1) (u.2.2.2.2.2.2.2.2.2.2.2.2.2.2.2.2.2.2.2.2.2.2.2.2.2.2.1) (u.2.2.2.2.2.2.2.2.2.2.2.2.2.2.2.2.2.2.2.2.2.2.2.2.2.2.2.1) (u.2.2.2.2.2.2.2.2.2.2.2.2.2.2.2.2.2.2.2.2.2.2.2.2.2.2.2.2.1) (u.2.2.2.2.2.2.2.2.2.2.2.2.2.2.2.2.2.2.2.2.2.2.2.2.2.2.2.2.2.1) (u.2.2.2.2.2.2.2.2.2.2.2.2.2.2.2.2.2.2.2.2.2.2.2.2.2.2.2.2.2.2.1) (u.2.2.2.2.2.2.2.2.2.2.2.2.2.2.2.2.2.2.2.2.2.2.2.2.2.2.2.2.2.2.2.1) (u.2.2.2.2.2.2.2.2.2.2.2.2.2.2.2.2.2.2.2.2.2.2.2.2.2.2.2.2.2.2.2.2.1) (u.2.2.2.2.2.2.2.2.2.2.2.2.2.2.2.2.2.2.2.2.2.2.2.2.2.2.2.2.2.2.2.2.2.1) (u.2.2.2.2.2.2.2.2.2.2.2.2.2.2.2.2.2.2.2.2.2.2.2.2.2.2.2.2.2.2.2.2.2.2.1) (u.2.2.2.2.2.2.2.2.2.2.2.2.2.2.2.2.2.2.2.2.2.2.2.2.2.2.2.2.2.2.2.2.2.2.2.1) (u.2.2.2.2.2.2.2.2.2.2.2.2.2.2.2.2.2.2.2.2.2.2.2.2.2.2.2.2.2.2.2.2.2.2.2.2.1) (u.2.2.2.2.2.2.2.2.2.2.2.2.2.2.2.2.2.2.2.2.2.2.2.2.2.2.2.2.2.2.2.2.2.2.2.2.2.1) (u.2.2.2.2.2.2.2.2.2.2.2.2.2.2.2.2.2.2.2.2.2.2.2.2.2.2.2.2.2.2.2.2.2.2.2.2.2.2.1) (u.2.2.2.2.2.2.2.2.2.2.2.2.2.2.2.2.2.2.2.2.2.2.2.2.2.2.2.2.2.2.2.2.2.2.2.2.2.2.2.1) (u.2.2.2.2.2.2.2.2.2.2.2.2.2.2.2.2.2.2.2.2.2.2.2.2.2.2.2.2.2.2.2.2.2.2.2.2.2.2.2.2.1) (u.2.2.2.2.2.2.2.2.2.2.2.2.2.2.2.2.2.2.2.2.2.2.2.2.2.2.2.2.2.2.2.2.2.2.2.2.2.2.2.2.2) := pick_all (P := fun v : (World) × (Program) × (List Str) × (ExcName → Option Value) × (Str → Option Value) × (Str → Option Value) × (Nat) × (Nat) × (Option (List Code)) × (Str) × (Scope) × (Addr) × (Value) × (List (Str × Addr)) × (List Env) × (Around) × (Heap) × (Heap) × (Addr) × (Str → Option Value) × (Shared) × (Value → Shared → Prop) × (Value → Shared → Prop) × (List (Addr × Obj)) × (List (Addr × Obj)) × (Obj) × (Obj → List (Addr × Obj)) × (Str → Option (List (Int × Int))) × (Nat) × (Nat) × (Addr) × (Addr) × (Addr) × (Addr) × (Addr) × (Str) × (Tok) × (Tok) × (Tok) × (Tok) × (Int) × (Int) => aen_spec_St (v.1) (v.2.1) (v.2.2.1) (v.2.2.2.1) (v.2.2.2.2.1) (v.2.2.2.2.2.1) (v.2.2.2.2.2.2.1) (v.2.2.2.2.2.2.2.1) (v.2.2.2.2.2.2.2.2.1) (v.2.2.2.2.2.2.2.2.2.1) (v.2.2.2.2.2.2.2.2.2.2.1) (v.2.2.2.2.2.2.2.2.2.2.2.1) (v.2.2.2.2.2.2.2.2.2.2.2.2.1) (v.2.2.2.2.2.2.2.2.2.2.2.2.2.1) (v.2.2.2.2.2.2.2.2.2.2.2.2.2.2.1) (v.2.2.2.2.2.2.2.2.2.2.2.2.2.2.2.1) (v.2.2.2.2.2.2.2.2.2.2.2.2.2.2.2.2.1) (v.2.2.2.2.2.2.2.2.2.2.2.2.2.2.2.2.2.1) (v.2.2.2.2.2.2.2.2.2.2.2.2.2.2.2.2.2.2.1) (v.2.2.2.2.2.2.2.2.2.2.2.2.2.2.2.2.2.2.2.1) (v.2.2.2.2.2.2.2.2.2.2.2.2.2.2.2.2.2.2.2.2.1) (v.2.2.2.2.2.2.2.2.2.2.2.2.2.2.2.2.2.2.2.2.2.1) (v.2.2.2.2.2.2.2.2.2.2.2.2.2.2.2.2.2.2.2.2.2.2.1) (v.2.2.2.2.2.2.2.2.2.2.2.2.2.2.2.2.2.2.2.2.2.2.2.1) (v.2.2.2.2.2.2.2.2.2.2.2.2.2.2.2.2.2.2.2.2.2.2.2.2.1) (v.2.2.2.2.2.2.2.2.2.2.2.2.2.2.2.2.2.2.2.2.2.2.2.2.2.1) (v.2.2.2.2.2.2.2.2.2.2.2.2.2.2.2.2.2.2.2.2.2.2.2.2.2.2.1) (v.2.2.2.2.2.2.2.2.2.2.2.2.2.2.2.2.2.2.2.2.2.2.2.2.2.2.2.1) (v.2.2.2.2.2.2.2.2.2.2.2.2.2.2.2.2.2.2.2.2.2.2.2.2.2.2.2.2.1) (v.2.2.2.2.2.2.2.2.2.2.2.2.2.2.2.2.2.2.2.2.2.2.2.2.2.2.2.2.2.1) (v.2.2.2.2.2.2.2.2.2.2.2.2.2.2.2.2.2.2.2.2.2.2.2.2.2.2.2.2.2.2.1) (v.2.2.2.2.2.2.2.2.2.2.2.2.2.2.2.2.2.2.2.2.2.2.2.2.2.2.2.2.2.2.2.1) (v.2.2.2.2.2.2.2.2.2.2.2.2.2.2.2.2.2.2.2.2.2.2.2.2.2.2.2.2.2.2.2.2.1) (v.2.2.2.2.2.2.2.2.2.2.2.2.2.2.2.2.2.2.2.2.2.2.2.2.2.2.2.2.2.2.2.2.2.1) (v.2.2.2.2.2.2.2.2.2.2.2.2.2.2.2.2.2.2.2.2.2.2.2.2.2.2.2.2.2.2.2.2.2.2.1) (v.2.2.2.2.2.2.2.2.2.2.2.2.2.2.2.2.2.2.2.2.2.2.2.2.2.2.2.2.2.2.2.2.2.2.2.1) (v.2.2.2.2.2.2.2.2.2.2.2.2.2.2.2.2.2.2.2.2.2.2.2.2.2.2.2.2.2.2.2.2.2.2.2.2.1) (v.2.2.2.2.2.2.2.2.2.2.2.2.2.2.2.2.2.2.2.2.2.2.2.2.2.2.2.2.2.2.2.2.2.2.2.2.2.1) (v.2.2.2.2.2.2.2.2.2.2.2.2.2.2.2.2.2.2.2.2.2.2.2.2.2.2.2.2.2.2.2.2.2.2.2.2.2.2.1) (v.2.2.2.2.2.2.2.2.2.2.2.2.2.2.2.2.2.2.2.2.2.2.2.2.2.2.2.2.2.2.2.2.2.2.2.2.2.2.2.1) (v.2.2.2.2.2.2.2.2.2.2.2.2.2.2.2.2.2.2.2.2.2.2.2.2.2.2.2.2.2.2.2.2.2.2.2.2.2.2.2.2.1) (v.2.2.2.2.2.2.2.2.2.2.2.2.2.2.2.2.2.2.2.2.2.2.2.2.2.2.2.2.2.2.2.2.2.2.2.2.2.2.2.2.2)) h
noncomputable def w : World := zcv.1
noncomputable def p : Program := zcv.2.1
noncomputable def loose : List Str := zcv.2.2.1
noncomputable def mean : ExcName → Option Value := zcv.2.2.2.1
noncomputable def mg : Str → Option Value := zcv.2.2.2.2.1
noncomputable def mb : Str → Option Value := zcv.2.2.2.2.2.1
noncomputable def dp : Nat := zcv.2.2.2.2.2.2.1
noncomputable def un : Nat := zcv.2.2.2.2.2.2.2.1
noncomputable def gd : Option (List Code) := zcv.2.2.2.2.2.2.2.2.1
noncomputable def cn : Str := zcv.2.2.2.2.2.2.2.2.2.1
noncomputable def cs : Scope := zcv.2.2.2.2.2.2.2.2.2.2.1
noncomputable def a : Addr := zcv.2.2.2.2.2.2.2.2.2.2.2.1
noncomputable def ccd : Value := zcv.2.2.2.2.2.2.2.2.2.2.2.2.1
noncomputable def cl : List (Str × Addr) := zcv.2.2.2.2.2.2.2.2.2.2.2.2.2.1
noncomputable def outer : List Env := zcv.2.2.2.2.2.2.2.2.2.2.2.2.2.2.1
noncomputable def A₀ : Around := zcv.2.2.2.2.2.2.2.2.2.2.2.2.2.2.2.1
noncomputable def base : Heap := zcv.2.2.2.2.2.2.2.2.2.2.2.2.2.2.2.2.1
noncomputable def h₀ : Heap := zcv.2.2.2.2.2.2.2.2.2.2.2.2.2.2.2.2.2.1
noncomputable def L : Addr := zcv.2.2.2.2.2.2.2.2.2.2.2.2.2.2.2.2.2.2.1
noncomputable def m : Str → Option Value := zcv.2.2.2.2.2.2.2.2.2.2.2.2.2.2.2.2.2.2.2.1
noncomputable def s : Shared := zcv.2.2.2.2.2.2.2.2.2.2.2.2.2.2.2.2.2.2.2.2.1
noncomputable def Q : Value → Shared → Prop := zcv.2.2.2.2.2.2.2.2.2.2.2.2.2.2.2.2.2.2.2.2.2.1
noncomputable def E : Value → Shared → Prop := zcv.2.2.2.2.2.2.2.2.2.2.2.2.2.2.2.2.2.2.2.2.2.2.1
noncomputable def news : List (Addr × Obj) := zcv.2.2.2.2.2.2.2.2.2.2.2.2.2.2.2.2.2.2.2.2.2.2.2.1
noncomputable def evl : List (Addr × Obj) := zcv.2.2.2.2.2.2.2.2.2.2.2.2.2.2.2.2.2.2.2.2.2.2.2.2.1
noncomputable def oV : Obj := zcv.2.2.2.2.2.2.2.2.2.2.2.2.2.2.2.2.2.2.2.2.2.2.2.2.2.1
noncomputable def g1 : Obj → List (Addr × Obj) := zcv.2.2.2.2.2.2.2.2.2.2.2.2.2.2.2.2.2.2.2.2.2.2.2.2.2.2.1
noncomputable def evs : Str → Option (List (Int × Int)) := zcv.2.2.2.2.2.2.2.2.2.2.2.2.2.2.2.2.2.2.2.2.2.2.2.2.2.2.2.1
noncomputable def nV : Nat := zcv.2.2.2.2.2.2.2.2.2.2.2.2.2.2.2.2.2.2.2.2.2.2.2.2.2.2.2.2.1
noncomputable def z : Nat := zcv.2.2.2.2.2.2.2.2.2.2.2.2.2.2.2.2.2.2.2.2.2.2.2.2.2.2.2.2.2.1
noncomputable def st : Addr := zcv.2.2.2.2.2.2.2.2.2.2.2.2.2.2.2.2.2.2.2.2.2.2.2.2.2.2.2.2.2.2.1
noncomputable def S : Addr := zcv.2.2.2.2.2.2.2.2.2.2.2.2.2.2.2.2.2.2.2.2.2.2.2.2.2.2.2.2.2.2.2.1
noncomputable def X : Addr := zcv.2.2.2.2.2.2.2.2.2.2.2.2.2.2.2.2.2.2.2.2.2.2.2.2.2.2.2.2.2.2.2.2.1
noncomputable def V : Addr := zcv.2.2.2.2.2.2.2.2.2.2.2.2.2.2.2.2.2.2.2.2.2.2.2.2.2.2.2.2.2.2.2.2.2.1
noncomputable def clk : Addr := zcv.2.2.2.2.2.2.2.2.2.2.2.2.2.2.2.2.2.2.2.2.2.2.2.2.2.2.2.2.2.2.2.2.2.2.1
noncomputable def key : Str := zcv.2.2.2.2.2.2.2.2.2.2.2.2.2.2.2.2.2.2.2.2.2.2.2.2.2.2.2.2.2.2.2.2.2.2.2.1
noncomputable def tp : Tok := zcv.2.2.2.2.2.2.2.2.2.2.2.2.2.2.2.2.2.2.2.2.2.2.2.2.2.2.2.2.2.2.2.2.2.2.2.2.1
noncomputable def tl : Tok := zcv.2.2.2.2.2.2.2.2.2.2.2.2.2.2.2.2.2.2.2.2.2.2.2.2.2.2.2.2.2.2.2.2.2.2.2.2.2.1
noncomputable def te : Tok := zcv.2.2.2.2.2.2.2.2.2.2.2.2.2.2.2.2.2.2.2.2.2.2.2.2.2.2.2.2.2.2.2.2.2.2.2.2.2.2.1
noncomputable def ta : Tok := zcv.2.2.2.2.2.2.2.2.2.2.2.2.2.2.2.2.2.2.2.2.2.2.2.2.2.2.2.2.2.2.2.2.2.2.2.2.2.2.2.1
noncomputable def t : Int := zcv.2.2.2.2.2.2.2.2.2.2.2.2.2.2.2.2.2.2.2.2.2.2.2.2.2.2.2.2.2.2.2.2.2.2.2.2.2.2.2.2.1
noncomputable def e : Int := zcv.2.2.2.2.2.2.2.2.2.2.2.2.2.2.2.2.2.2.2.2.2.2.2.2.2.2.2.2.2.2.2.2.2.2.2.2.2.2.2.2.2
theorem walk1 : aen_spec_St w p loose mean mg mb dp un gd cn cs a ccd cl outer A₀ base h₀ L m s Q E news evl oV g1 evs nV z st S X V clk key tp tl te ta t e := by
  intro limit am B F KX T hk XB TB D N O U1 hevl hV zV zz ha ha2 hl he he2 ht0 ht hd hu retH
  have mkp : Mk 130 := trivial
  refine lower ?_ hd hu
  obtain ⟨frz, n1, N', sub, mem, sup, top⟩ := split1s U1 N
  have O' : Store w frz st S X V clk t := O.sub (fun q hq ho => sub q hq ho.2.2)
  obtain ⟨ev, hR, hE⟩ := hV
  have subE : ∀ q ∈ evl, Off S X V q.1 → q ∈ frz := fun q hq _ => sub q (hevl q hq).1 (hevl q hq).2
  clear N U1 sub O hevl
  have O'' := O'
  obtain ⟨⟨dx, h1, h2, h3, h4, t1, t2, t3, t4, nn, oc, od, fd, sl, hst, hck, hdx, _, _, _⟩, _, sx, xv, lS, lX, lV⟩ := O''
  have hk0 := hE key
  revert KX; k_fill; intro KX
  cases hek : ev key with
  | none =>
    rw [hek] at hk0
    have hen : evs key = none := by
      cases q : evs key with
      | none => rfl
      | some y => rw [q] at hk0; exact hk0.elim
    refine wpAny_call ?_
    walk_at "m enterX"
    k_steps
    · exact retH _ _ _ [] _ _ _ (by assumption) (by assumption) (by assumption) (by assumption) (by assumption) (Or.inl ⟨by assumption, rfl, rfl⟩) (by assumption) (news_of (by assumption) (fun q hq => mem _ q (by simpa using hq))) (fun p hp => nomatch hp) (ev_same hE (fun q hq => List.mem_append_left _ hq) hR (by walk_at "m om") (by walk_at "m om"))
    · refine (fun (NN : News _ L _ (_ :: _ :: _ :: _ :: _ :: _ :: (V, _) :: frz)) => ?_) (by assumption)
      refine (fun (RR : RefD PySem.Challenge.rw_ji0060_01.row.prog w _ (upd (upd ev key _) key (some _)) _) => ?_) (by assumption)
      have hm := with_ext NN RR mem (fun q hq => by repeat (first | exact hq | refine List.Mem.tail _ ?_))
      have eN : EntAt _ S X V _ (t, t + e) := ⟨_, _, _, _, _, _, _, _, _, rfl, new_in (evl := evl) NN hm (by k_mem) (mem _) (by walk_at "m lt") (by walk_at "m al2"), new_in (evl := evl) NN hm (by k_mem) (mem _) (by walk_at "m lt") (by walk_at "m al2"), off_of sx xv (by walk_at "m lt"), off_of sx xv (by walk_at "m lt")⟩
      refine retH _ _ _ (extOf _ (g1 _)) _ _ _ (by assumption) (by assumption) (by assumption) (by assumption) (by assumption) (Or.inr (Or.inr ⟨by omega, (fun en hh => by rw [hen] at hh; simp at hh), rfl, rfl⟩)) (by assumption) (extOf_news NN hm) (fun p hp q hq => extOf_ne hp hq) ?_
      exact ev_put hE (fun q hq => List.mem_append_left _ hq) (fun j hj => by simp [upd, hj]) (upd_same _ _ _) (.inl (new_in (evl := evl) NN hm (by k_mem) (mem _) (by walk_at "m lt") (by walk_at "m al2"))) (Ents.app (Ents.rep eN _) (by rw [hen]; exact .nil)) (off_of sx xv (by walk_at "m lt")) (by simp; omega) (by walk_at "m om") RR (by walk_at "m om")
  | some l =>
    rw [hek] at hk0
    cases hen : evs key with
    | none => rw [hen] at hk0; exact hk0.elim
    | some ens =>
      rw [hen] at hk0
      obtain ⟨vs, vn, hml0, hEn, hoff, hlen⟩ := hk0
      have hml := subE _ hml0 hoff
      have hEn' := hEn.sub (news' := frz) fun q hq ho => subE q hq ho
      by_cases hlt : am ≤ limit ∧ (limit - am).toNat < vs.length
      · obtain ⟨hle, hi⟩ := hlt
        obtain ⟨en, hen1, hen2⟩ := hEn'.get (List.getElem?_eq_getElem hi)
        obtain ⟨v, hv⟩ : ∃ v, vs[(limit - am).toNat]? = some v := ⟨_, List.getElem?_eq_getElem hi⟩
        rw [← Option.some.inj (hv.symm.trans (List.getElem?_eq_getElem hi))] at hen2
        obtain ⟨ee, ed, eh1, eh2, et1, et2, eta, etx, eN, rfl, hee, hed, eo1, eo2⟩ := hen2
        refine wpAny_call ?_
        walk_at "m enterX"
        k_steps
        · refine (fun (NN : News _ L _ (_ :: (V, _) :: frz)) => ?_) (by assumption)
          refine (fun (RR : RefD PySem.Challenge.rw_ji0060_01.row.prog w _ ev (nV + 1)) => ?_) (by assumption)
          have hm := with_ext NN RR mem (fun q hq => by repeat (first | exact hq | refine List.Mem.tail _ ?_))
          refine retH _ _ _ (extOf _ (g1 _)) _ _ _ (by assumption) (by assumption) (by assumption) (by assumption) (by assumption) (Or.inr (Or.inl ⟨by omega, ⟨en, by rw [hen]; exact hen1, by assumption⟩, rfl, rfl⟩)) (by assumption) (extOf_news NN hm) (fun p hp q hq => extOf_ne hp hq) ?_
          exact ev_put hE (fun q hq => List.mem_append_left _ hq) (fun j _ => rfl) hek (.inr ⟨vn, List.mem_append_left _ hml0⟩) (by rw [hen]; exact hEn.sub fun q hq _ => List.mem_append_left _ hq) hoff (by walk_at "m om") (by walk_at "m om") RR (by walk_at "m om")
        · refine (fun (NN : News _ L _ (_ :: _ :: _ :: _ :: _ :: _ :: (V, _) :: frz)) => ?_) (by assumption)
          refine (fun (RR : RefD PySem.Challenge.rw_ji0060_01.row.prog w _ (upd ev key (some _)) _) => ?_) (by assumption)
          have hm := with_ext NN RR mem (fun q hq => by repeat (first | exact hq | refine List.Mem.tail _ ?_))
          have eN : EntAt _ S X V _ (t, t + e) := ⟨_, _, _, _, _, _, _, _, _, rfl, new_in (evl := evl) NN hm (by k_mem) (mem _) (by walk_at "m lt") (by walk_at "m al2"), new_in (evl := evl) NN hm (by k_mem) (mem _) (by walk_at "m lt") (by walk_at "m al2"), off_of sx xv (by walk_at "m lt"), off_of sx xv (by walk_at "m lt")⟩
          refine retH _ _ _ (extOf _ (g1 _)) _ _ _ (by assumption) (by assumption) (by assumption) (by assumption) (by assumption) (Or.inr (Or.inr ⟨by omega, (fun en2 hh => by rw [hen] at hh; have := Option.some.inj (hen1.symm.trans hh); subst this; omega), rfl, rfl⟩)) (by assumption) (extOf_news NN hm) (fun p hp q hq => extOf_ne hp hq) ?_
          exact ev_put hE (fun q hq => List.mem_append_left _ hq) (fun j hj => by simp [upd, hj]) (upd_same _ _ _) (.inl (new_in (evl := evl) NN hm (by k_mem) (mem _) (by walk_at "m lt") (by walk_at "m al2"))) (Ents.app (Ents.rep eN _) (by rw [hen]; exact hEn.sub fun q hq _ => List.mem_append_left _ hq)) (off_of sx xv (by walk_at "m lt")) (by simp; omega) (by walk_at "m om") RR (by walk_at "m om")
      · have hno : am ≤ limit → (vs.length : Int) ≤ limit - am := by omega
        refine wpAny_call ?_
        walk_at "m enterX"
        k_steps
        · exact retH _ _ _ [] _ _ _ (by assumption) (by assumption) (by assumption) (by assumption) (by assumption) (Or.inl ⟨by assumption, rfl, rfl⟩) (by assumption) (news_of (by assumption) (fun q hq => mem _ q (by simpa using hq))) (fun p hp => nomatch hp) (ev_same hE (fun q hq => List.mem_append_left _ hq) hR (by walk_at "m om") (by walk_at "m om"))
        · refine (fun (NN : News _ L _ (_ :: _ :: _ :: _ :: _ :: _ :: (V, _) :: frz)) => ?_) (by assumption)
          refine (fun (RR : RefD PySem.Challenge.rw_ji0060_01.row.prog w _ (upd ev key (some _)) _) => ?_) (by assumption)
          have hm := with_ext NN RR mem (fun q hq => by repeat (first | exact hq | refine List.Mem.tail _ ?_))
          have eN : EntAt _ S X V _ (t, t + e) := ⟨_, _, _, _, _, _, _, _, _, rfl, new_in (evl := evl) NN hm (by k_mem) (mem _) (by walk_at "m lt") (by walk_at "m al2"), new_in (evl := evl) NN hm (by k_mem) (mem _) (by walk_at "m lt") (by walk_at "m al2"), off_of sx xv (by walk_at "m lt"), off_of sx xv (by walk_at "m lt")⟩
          refine retH _ _ _ (extOf _ (g1 _)) _ _ _ (by assumption) (by assumption) (by assumption) (by assumption) (by assumption) (Or.inr (Or.inr ⟨by omega, (fun en2 hh => by rw [hen] at hh; obtain ⟨h9, _⟩ := List.getElem?_eq_some_iff.mp hh; have := hEn.len; have h8 : (limit - am).toNat < ens.length := h9; omega), rfl, rfl⟩)) (by assumption) (extOf_news NN hm) (fun p hp q hq => extOf_ne hp hq) ?_
          exact ev_put hE (fun q hq => List.mem_append_left _ hq) (fun j hj => by simp [upd, hj]) (upd_same _ _ _) (.inl (new_in (evl := evl) NN hm (by k_mem) (mem _) (by walk_at "m lt") (by walk_at "m al2"))) (Ents.app (Ents.rep eN _) (by rw [hen]; exact hEn.sub fun q hq _ => List.mem_append_left _ hq)) (off_of sx xv (by walk_at "m lt")) (by simp; omega) (by walk_at "m om") RR (by walk_at "m om")
end c_aen_spec
theorem aen_spec {w : World} {p : Program} {loose : List Str} {mean : ExcName → Option Value} {mg : Str → Option Value} {mb : Str → Option Value} {dp : Nat} {un : Nat} {gd : Option (List Code)} {cn : Str} {cs : Scope} {a : Addr} {ccd : Value} {cl : List (Str × Addr)} {outer : List Env} {A₀ : Around} {base : Heap} {h₀ : Heap} {L : Addr} {m : Str → Option Value} {s : Shared} {Q : Value → Shared → Prop} {E : Value → Shared → Prop} (B : Below A₀ base outer h₀) (F : Fr h₀ L s.heap m) (KX : (Mine.hd1.heap_39 w.params).In h₀) (T : Top p loose mean mg mb h₀) (hk : cs.kind = .function) {news : List (Addr × Obj)} {evl : List (Addr × Obj)} {oV : Obj} {g1 : Obj → List (Addr × Obj)} {evs : Str → Option (List (Int × Int))} {nV : Nat} {z : Nat} {st : Addr} {S : Addr} {X : Addr} {V : Addr} {clk : Addr} {key : Str} {tp : Tok} {tl : Tok} {te : Tok} {ta : Tok} {t : Int} {e : Int} {limit : Int} {am : Int} (XB : (Mine.hd1.heap_39 w.params).In base) (TB : Top p loose mean mg mb base) (D : KtsDicts (outer.filterMap (·.frame)) h₀) (N : News h₀ L s.heap news) (O : Store w news st S X V clk t) (U1 : UpdF V oV news g1) (hevl : ∀ q ∈ evl, q ∈ news ∧ q.1 ≠ V) (hV : EvD PySem.Challenge.rw_ji0060_01.row.prog w evl S X V oV evs nV z) (zV : nV + 1 ≤ sizeLine) (zz : z + 1000 ≤ 1000000) (ha : 0 ≤ am) (ha2 : am ≤ 100) (hl : limit < 1000000) (he : 0 < e) (he2 : e < 1000000) (ht0 : 0 ≤ t) (ht : t < 1000000000000) (hd : dp ≤ 860) (hu : un ≤ 8600) (retH : ∀ h₀' b evs' ext oV' h' tk', KtsTurn (outer.filterMap (·.frame)) h₀ h₀' → Below A₀ base outer h₀' → (Mine.hd1.heap_39 w.params).In h₀' → Top p loose mean mg mb h₀' → KtsDicts (outer.filterMap (·.frame)) h₀' → AenPost evs key t e limit am b evs' → Fr h₀' L h' m → News h₀' L h' (g1 oV' ++ ext) → (∀ p ∈ ext, ∀ q ∈ g1 oV', p.1 ≠ q.1) → EvD PySem.Challenge.rw_ji0060_01.row.prog w (evl ++ ext) S X V oV' evs' (nV + 2) (z + 1000) → Q (.bool b) { s with heap := h', toks := tk' }) :
    wpAny (model PySem.Challenge.rw_ji0060_01.row.prog w) (ktrTop dp un gd cn cs L a ccd cl outer) (call (.ref 631) [.ref st, .str key tp, .int limit tl, .int e te] [(Str.ofString "amount", .int am ta)]) Q E s :=
  c_aen_spec.zal c_aen_spec.walk1 (w, p, loose, mean, mg, mb, dp, un, gd, cn, cs, a, ccd, cl, outer, A₀, base, h₀, L, m, s, Q, E, news, evl, oV, g1, evs, nV, z, st, S, X, V, clk, key, tp, tl, te, ta, t, e) _ _ B F KX T hk XB TB D N O U1 hevl hV zV zz ha ha2 hl he he2 ht0 ht hd hu retH
section
variable {w : World} {p : Program} {loose : List Str} {mean : ExcName → Option Value} {mg mb : Str → Option Value} {dp un : Nat} {gd : Option (List Code)} {cn : Str} {cs : Scope} {a : Addr} {ccd : Value} {cl : List (Str × Addr)} {outer : List Env} {A₀ : Around} {base h₀ : Heap} {L : Addr} {m : Str → Option Value} {s : Shared} {Q E : Value → Shared → Prop}
  (B : Below A₀ base outer h₀) (F : Fr h₀ L s.heap m) (KX : (Mine.hd1.heap_39 w.params).In h₀) (T : Top p loose mean mg mb h₀) (hk : cs.kind = .function)
include B F KX T hk
end

end

theorem said_aen : True := by
  k_with "call ref" => (k_here; (with_reducible show wpAny _ _ (call (Value.ref 631) _ _) _ _ _); k_dflt (refine' aen_spec ?zyB ?zyF ?zyX ?zyT ?zyk ?zyXB ?zyTB ?zyD ?zyN ?zyO ?zyU1 ?zyhevl ?zyhV ?zyzV ?zyzz ?zyha ?zyha2 ?zyhl ?zyhe ?zyhe2 ?zyht0 ?zyht ?zyd ?zyu ?_; (case zyB => k_asm); (case zyF => k_asm); (case zyX => k_asm); (case zyT => k_asm); (case zyk => first | exact rfl | assumption); (case zyN => k_asm); (case zyXB => assumption); (case zyTB => assumption); (case zyD => assumption); (case zyO => refine' Store.sub ?zyo ?zys; (case zyo => assumption); (case zys => walk_at "m sub")); (case zyU1 => k_updF); (case zyhevl => (intro q' hq'; (have hz' := (by assumption : ∀ q ∈ _, q ∈ _ ∧ q.1 ≠ _) q' hq'); exact ⟨by (repeat (first | exact hz'.1 | refine List.Mem.tail _ ?_)), hz'.2⟩)); (case zyhV => assumption); (case zyzV => walk_at "m om"); (case zyzz => walk_at "m om"); (case zyha => walk_at "m om"); (case zyha2 => walk_at "m om"); (case zyhl => walk_at "m om"); (case zyhe => walk_at "m om"); (case zyhe2 => walk_at "m om"); (case zyht0 => walk_at "m om"); (case zyht => walk_at "m om"); (case zyd => exact Nat.le_of_ble_eq_true rfl); (case zyu => exact Nat.le_of_ble_eq_true rfl); k_whole); (intro h0' b' evs' ext' oV' h' tk' tT' B' X' T' D' ap' F' N' n1' hV'; (try dsimp only at N'); (try simp only [List.cons_append] at N'); (try dsimp only); (try k_sweep)))
  trivial
section
section
variable {w : World} {p : Program} {loose : List Str} {mean : ExcName → Option Value} {mg mb : Str → Option Value} {dp un : Nat} {gd : Option (List Code)} {cn : Str} {cs : Scope} {a : Addr} {ccd : Value} {cl : List (Str × Addr)} {outer : List Env} {A₀ : Around} {base h₀ : Heap} {L : Addr} {m : Str → Option Value} {s : Shared} {Q E : Value → Shared → Prop}
  (B : Below A₀ base outer h₀) (F : Fr h₀ L s.heap m) (KX : (Mine.hd1.heap_39 w.params).In h₀) (T : Top p loose mean mg mb h₀) (hk : cs.kind = .function)
include B F KX T hk

theorem mhit_spec {news evl : List (Addr × Obj)} {oV : Obj} {g1 : Obj → List (Addr × Obj)} {evs : Str → Option (List (Int × Int))} {nV z : Nat} {st S X V clk lim it nt : Addr} {sec : Bool} {ns key : Str} {names : List Str} {am mu t e cost : Int} {tc : Tok}
    (XB : (Mine.hd1.heap_39 w.params).In base) (TB : Top p loose mean mg mb base) (D : KtsDicts (outer.filterMap (·.frame)) h₀)
    (N : News h₀ L s.heap news) (O : Store w news st S X V clk t) (Li : LimAt news S X V 202 lim st) (I : ItemAt news S X V it sec ns am mu) (J : NamesAt news S X V nt names) (U1 : UpdF V oV news g1)
    (hevl : ∀ q ∈ evl, q ∈ news ∧ q.1 ≠ V) (hV : EvD PySem.Challenge.rw_ji0060_01.row.prog w evl S X V oV evs nV z) (zV : nV + 1 ≤ sizeLine) (zz : z + 1000 ≤ 1000000) (ee : e = unitOf sec * mu) (ek : key = keyOf sec ns names am mu) (hc : 0 ≤ cost ∧ cost ≤ 100) (he : 0 < e) (he2 : e < 1000000) (ht0 : 0 ≤ t) (ht : t < 1000000000000) (hd : dp ≤ 820) (hu : un ≤ 8200)
    (ret : ∀ h₀' b evs' ext oV' h' tk', KtsTurn (outer.filterMap (·.frame)) h₀ h₀' → Below A₀ base outer h₀' → (Mine.hd1.heap_39 w.params).In h₀' → Top p loose mean mg mb h₀' → KtsDicts (outer.filterMap (·.frame)) h₀' → AenPost evs key t e am cost b evs' → Fr h₀' L h' m → News h₀' L h' (g1 oV' ++ ext) → (∀ p ∈ ext, ∀ q ∈ g1 oV', p.1 ≠ q.1) → EvD PySem.Challenge.rw_ji0060_01.row.prog w (evl ++ ext) S X V oV' evs' (nV + 2) (z + 1000) → Q (.bool b) { s with heap := h', toks := tk' }) :
    wpAny (model PySem.Challenge.rw_ji0060_01.row.prog w) (ktrTop dp un gd cn cs L a ccd cl outer) (call (.ref 181) [.ref lim, .ref it, .ref nt, .int cost tc]) Q E s := by
  subst ee ek
  refine lower ?_ hd hu
  obtain ⟨frz, n1, N', sub, mem, sup, top⟩ := split1s U1 N
  have O' : Store w frz st S X V clk t := O.sub (fun q hq ho => sub q hq ho.2.2)
  have I' := I.sub (news' := frz) (fun q hq ho => sub q hq ho.2.2)
  have J' := J.sub (news' := frz) (fun q hq ho => sub q hq ho.2.2)
  have Li' := Li.sub (news' := frz) (fun q hq ho => sub q hq ho.2.2)
  obtain ⟨_, hm, ha, _⟩ := id I'
  have hv2 : ∀ q ∈ evl, q ∈ frz ∧ q.1 ≠ V := fun q hq => ⟨sub q (hevl q hq).1 (hevl q hq).2, (hevl q hq).2⟩
  clear N U1 sub O I J Li hevl
  obtain ⟨ldx, lh, lt, ln, hlim, hldx, _, _⟩ := Li'
  have O'' := O'
  obtain ⟨⟨dx, h1, h2, h3, h4, t1, t2, t3, t4, nn, oc, od, fd, sl, hst, hck, hdx, _, _, _⟩, _, sx, xv, lS, lX, lV⟩ := O''
  revert KX; k_fill; intro KX
  refine wpAny_call ?_
  walk_at "m enterX"
  k_steps
  exact ret _ _ _ _ _ _ _ (by assumption) (by assumption) (by assumption) (by assumption) (by assumption) (by assumption) (by assumption) (news_of (by assumption) (app_sub mem)) (fun p hp q hq => (by assumption : ∀ p ∈ _, ∀ q ∈ (V, _) :: frz, p.1 ≠ q.1) p hp q (mem _ q hq)) (by assumption)
end

end

theorem said_mhit : True := by
  k_with "call ref" => (k_here; (with_reducible show wpAny _ _ (call (Value.ref 181) [_, _, _, _]) _ _ _); k_dflt (refine' mhit_spec ?zyB ?zyF ?zyX ?zyT ?zyk ?zyXB ?zyTB ?zyD ?zyN ?zyO ?zyLi ?zyI ?zyJ ?zyU1 ?zyhV ?zyzV ?zyzz ?zyee ?zyek ?zyhc ?zyhe ?zyhe2 ?zyht0 ?zyht ?zyd ?zyu ?_; (case zyB => k_asm); (case zyF => k_asm); (case zyX => k_asm); (case zyT => k_asm); (case zyk => first | exact rfl | assumption); (case zyN => k_asm); (case zyXB => assumption); (case zyTB => assumption); (case zyD => exact ktsDicts_nil); (case zyO => refine' Store.sub ?zyo ?zys; (case zyo => assumption); (case zys => walk_at "m sub")); (case zyLi => refine' LimAt.sub ?zyo ?zys; (case zyo => assumption); (case zys => walk_at "m sub")); (case zyI => refine' ItemAt.sub ?zyo ?zys; (case zyo => assumption); (case zys => walk_at "m sub")); (case zyJ => refine' NamesAt.sub ?zyo ?zys; (case zyo => assumption); (case zys => walk_at "m sub")); (case zyU1 => k_updF); (case zyhV => refine' EvD.sub ?zyo ?zys; (case zyo => assumption); (case zys => walk_at "m sub")); (case zyzV => walk_at "m om"); (case zyzz => walk_at "m om"); (case zyee => first | assumption | rfl); (case zyek => first | assumption | rfl); (case zyhc => walk_at "m om"); (case zyhe => walk_at "m om"); (case zyhe2 => walk_at "m om"); (case zyht0 => walk_at "m om"); (case zyht => walk_at "m om"); (case zyd => exact Nat.le_of_ble_eq_true rfl); (case zyu => exact Nat.le_of_ble_eq_true rfl); k_whole); (intro h0' b' evs' ext' oV' h' tk' tT' B' X' T' D' ap' F' N' n1' hV'; (replace F' := turn_none tT' F'); (replace N' := turn_news tT' N'); clear B' X' T' D' tT'; (try dsimp only at N'); (try simp only [List.cons_append] at N'); (try dsimp only); (try k_sweep)))
  trivial
section
noncomputable def TurnEnd (h₀ : Heap) (L : Addr) (J : (Str → Option Value) → List (Addr × Obj) → Prop) (I : Addr) (oI : Obj) (s s' : Shared) : Prop :=
  ∃ h' tk m' nw, s' = { s with heap := h', toks := tk } ∧ Fr h₀ L h' m' ∧ News h₀ L h' ((I, oI) :: nw) ∧ (∀ p ∈ nw, p.1 ≠ I) ∧ J m' nw
/-- how a turn of a loop may end -/
noncomputable def TurnPost (h₀ : Heap) (L : Addr) (J : (Str → Option Value) → List (Addr × Obj) → Prop) (I : Addr) (oI : Obj) (s : Shared) (Q : Flow → Shared → Prop) : Flow → Shared → Prop
  | .ret v, s' => Q (.ret v) s'
  | .brk, s' => Q .next s'
  | .next, s' => TurnEnd h₀ L J I oI s s'
  | .cont, s' => TurnEnd h₀ L J I oI s s'
section
variable {prog : Program} {w : World} {A : Around} {E : Value → Shared → Prop} {Q : Flow → Shared → Prop} {s : Shared} {h₀ : Heap} {env : Env} {x : Str} {body : List Stmt} {m₀ : Str → Option Value} {news : List (Addr × Obj)}
theorem loop_any {I : Addr} {n : Nat} {P : Nat → Value → Prop} {St : Nat → Heap → Prop} {src : List (Addr × Obj)} (J : Nat → (Str → Option Value) → List (Addr × Obj) → Prop)
    (W : Walks prog w A I (I :: src.map (·.1)) [I] n P St) (hI : ∀ i h, St i h → ∃ o, h.get? I = some o) (hsrc : ∀ i m' nw, J i m' nw → ∀ q ∈ src, q ∈ nw)
    (hLI : env.locals ≠ I) (hI0 : h₀.get? I = none) (hnI : ∀ p ∈ news, p.1 ≠ I) (st : St 0 s.heap) (F : Fr h₀ env.locals s.heap m₀) (N : News h₀ env.locals s.heap news) (hj : J 0 m₀ news)
    (turn : ∀ i v m₁ news₁ h tk oI, i < n → P i v → J i m₁ news₁ → (∀ p ∈ news₁, p.1 ≠ I) → Fr h₀ env.locals h (fun y => if y = x then some v else m₁ y) → News h₀ env.locals h ((I, oI) :: news₁) →
      wpAny (model prog w) A (execs body env) (TurnPost h₀ env.locals (J (i + 1)) I oI { s with heap := h, toks := tk } Q) E { s with heap := h, toks := tk })
    (done : ∀ m' news' h tk, J n m' news' → (∀ p ∈ news', p.1 ≠ I) → Fr h₀ env.locals h m' → News h₀ env.locals h news' → Q .next { s with heap := h, toks := tk }) :
    LoopAtV prog w A h₀ env x body Q E (.ref I) s := by
  refine ⟨I, _, _, n, P, St, m₀, news, J, rfl, W, ?_, ?_, ?_, st, F, N, hj, ?_, ?_⟩
  · intro hm
    rcases List.mem_cons.mp hm with e | hm
    · exact hLI e
    · obtain ⟨q, hq, e⟩ := List.mem_map.mp hm
      exact (N q (hsrc _ _ _ hj q hq)).2.1 e
  · intro b hb
    rw [List.mem_singleton.mp hb]
    exact hI0
  · intro p hp hm
    exact hnI p hp (List.mem_singleton.mp hm)
  · rintro i v m₁ news₁ s₁ own ⟨hh', tk', rfl⟩ hin hP hJ hoff hown hget hall hst' F₁ N₁
    obtain ⟨oI, eI⟩ := hI _ _ hst'
    have mI : (I, oI) ∈ own := hall I (.head _) hI0 oI eI
    have off₁ : ∀ p ∈ news₁, p.1 ≠ I := fun p hp e => hoff p hp (List.mem_singleton.mpr e)
    have N₂ : News h₀ env.locals hh' ((I, oI) :: news₁) := fun p hp => by
      rcases List.mem_cons.mp hp with e | hp
      · subst e; exact N₁ _ (List.mem_append_left _ mI)
      · exact N₁ p (List.mem_append_right _ hp)
    refine wpAny_mono (turn i v m₁ news₁ hh' tk' oI hin hP hJ off₁ F₁ N₂) (fun f s₂ p => ?_) fun _ _ e => e
    have fin : ∀ f, TurnEnd h₀ env.locals (J (i + 1)) I oI { s with heap := hh', toks := tk' } s₂ → LoopStepU h₀ env.locals [I] own (J (i + 1)) { s with heap := hh', toks := tk' } f s₂ → True := fun _ _ _ => trivial
    have fin' : TurnEnd h₀ env.locals (J (i + 1)) I oI { s with heap := hh', toks := tk' } s₂ → LoopStepU h₀ env.locals [I] own (J (i + 1)) { s with heap := hh', toks := tk' } .next s₂ := by
      rintro ⟨h', tk, m', nx, e, F', N', hn, hJ'⟩
      refine ⟨rfl, h', tk, m', nx, e, F', fun p hp => ?_, fun p hp hq => hn p hp (List.mem_singleton.mp hq), hJ'⟩
      rcases List.mem_append.mp hp with ho | hx
      · rcases List.mem_cons.mp (hown p ho) with e1 | e1
        · have g1 := hget p ho
          dsimp only at g1 eI
          rw [e1, eI] at g1
          have : p = (I, oI) := Prod.ext e1 (Option.some.inj g1).symm
          rw [this]
          exact N' _ (.head _)
        · obtain ⟨q, hq, e2⟩ := List.mem_map.mp e1
          have g1 := hget p ho
          have g2 := (N₁ q (List.mem_append_right _ (hsrc _ _ _ hJ q hq))).1
          dsimp only at g1 g2
          rw [e2, g1] at g2
          have : p = q := Prod.ext e2.symm (Option.some.inj g2)
          rw [this]
          exact N' q (.tail _ (hsrc _ _ _ hJ' q hq))
      · exact N' p (.tail _ hx)
    cases f with
    | ret v => exact .ret p
    | brk => exact .brk p
    | next => exact .next (fin' p)
    | cont => exact .cont (fin' p)
  · rintro h' tk m' news' F' N' hoff hJ
    exact done m' news' h' tk hJ (fun p hp e => hoff p hp (List.mem_singleton.mpr e)) F' N'
/-- a list of the ledger gone through -/
theorem iter_list {l : Addr} {vs : List Value} {k : Nat} (J : Nat → (Str → Option Value) → List (Addr × Obj) → Prop) (hh : A.handled = none) (F : Fr h₀ env.locals s.heap m₀) (N : News h₀ env.locals s.heap news)
    (hsrc : ∀ i m' nw, J i m' nw → (l, listOf vs.toArray k) ∈ nw) (hj : J 0 m₀ news)
    (turn : ∀ i v m₁ news₁ h tk I oI, vs[i]? = some v → J i m₁ news₁ → (∀ p ∈ news₁, p.1 ≠ I) → (∀ p ∈ news, p.1 < I) → Fr h₀ env.locals h (fun y => if y = x then some v else m₁ y) → News h₀ env.locals h ((I, oI) :: news₁) →
      wpAny (model prog w) A (execs body env) (TurnPost h₀ env.locals (J (i + 1)) I oI { s with heap := h, toks := tk } Q) E { s with heap := h, toks := tk })
    (done : ∀ m' news' h tk, J vs.length m' news' → Fr h₀ env.locals h m' → News h₀ env.locals h news' → Q .next { s with heap := h, toks := tk }) :
    wpAny (model prog w) A (pyIter (.ref l)) (fun it s₂ => LoopAtV prog w A h₀ env x body Q E it s₂) E s := by
  have hm := hsrc _ _ _ hj
  have hls : s.heap.IsList l vs.toArray := News.isList N hm
  refine wpAny_pyIter_list hls ?_
  have hlt : l < s.heap.objs.size := Heap.lt_size (N _ hm).1
  have W := Walks.list (prog := prog) (w := w) hh s.heap.objs.size l (Nat.ne_of_lt hlt) vs.toArray
  refine loop_any (s := { s with heap := _ }) (src := [(l, listOf vs.toArray k)]) J W (fun i h st => by obtain ⟨o, e, _⟩ := st.1; exact ⟨o, e⟩) (fun i m' nw hJ q hq => by rw [List.mem_singleton.mp hq]; exact hsrc i m' nw hJ)
    (Nat.ne_of_lt F.ns.lt) (next_is_new F) (fun p hp => Nat.ne_of_lt (Heap.lt_size (N p hp).1)) ⟨⟨_, Heap.get?_push_size _ rfl, rfl, rfl⟩, hls.at fun o e => Heap.get?_push_of_some _ e⟩ (F.push _) (fun p hp => ⟨Heap.get?_push_of_some _ (N p hp).1, (N p hp).2⟩) hj
    (fun i v m₁ news₁ h tk oI _ hP hJ off F₁ N₁ => turn i v m₁ news₁ h tk _ oI (by simpa using hP) hJ off (fun p hp => Heap.lt_size (N p hp).1) F₁ N₁) (fun m' news' h tk hJ _ F' N' => done m' news' h tk (by simpa using hJ) F' N')
end

end
section
theorem said_p_trem : True := by
  k_with "call type:type" => (k_here; (fail_if_success (fail_if_success (have := (by with_reducible assumption : Mk 133)))); k_dflt (refine' kto_own ?zyI ?_; (case zyI => (refine' inst_T ?zyNN ?zyh1 ?zyh2; (case zyNN => k_asm); (case zyh1 => k_mem); (case zyh2 => k_mem))); k_whole))
  trivial
theorem inst_T {h₀ h : Heap} {L x d : Addr} {vs : List Value} {o : Obj} {news : List (Addr × Obj)} (N : News h₀ L h news) (h1 : (x, tupObj d vs) ∈ news) (h2 : (d, o) ∈ news) : InstAt h x (tupObj d vs) 132 (some o) := ⟨(N _ h1).1, rfl, rfl, (N _ h2).1⟩
section
variable {w : World} {p : Program} {loose : List Str} {mean : ExcName → Option Value} {mg mb : Str → Option Value} {dp un : Nat} {gd : Option (List Code)} {cn : Str} {cs : Scope} {a : Addr} {ccd : Value} {cl : List (Str × Addr)} {outer : List Env} {A₀ : Around} {base h₀ : Heap} {L : Addr} {m : Str → Option Value} {s : Shared} {Q E : Value → Shared → Prop}
  (B : Below A₀ base outer h₀) (F : Fr h₀ L s.heap m) (KX : (Mine.hd1.heap_39 w.params).In h₀) (T : Top p loose mean mg mb h₀) (hk : cs.kind = .function)
include B F KX T hk

theorem trem_spec {news : List (Addr × Obj)} {x d : Addr} {q : Value} {i : Int} {r : Tok} (N : News h₀ L s.heap news) (hx : (x, tupObj d [q, .int i r]) ∈ news) (hd1 : (d, emptyDict) ∈ news) (hd : dp ≤ 860) (hu : un ≤ 8600)
    (ret : ∀ h' tk', Fr h₀ L h' m → News h₀ L h' news → Q (.int i r) { s with heap := h', toks := tk' }) :
    wpAny (model PySem.Challenge.rw_ji0060_01.row.prog w) (ktrTop dp un gd cn cs L a ccd cl outer) (call (.ref 43) [.ref 127, .ref x, .ref 132]) Q E s := by
  have mkp : Mk 133 := trivial
  refine lower ?_ hd hu
  revert KX; k_fill; intro KX
  refine wpAny_call ?_
  walk_at "m enter"
  k_steps
  exact ret _ _ (by assumption) (by assumption)
end

end

theorem said_trem : True := by
  k_with "getAttr ref" => (k_here; (with_reducible show wpAny _ _ (getAttr (Value.ref _) (Str.ofString "remaining") _) _ _ _); k_dflt (refine' get_descr ?zygF ?zygX ?zygI ?zyga ?zyg2 ?zyg3 ?zygb ?zygc ?zygd ?zyge ?_; (case zygF => k_asm); (case zygX => k_asm); (case zygI => (refine' inst_T ?zyNN ?zyh1 ?zyh2; (case zyNN => k_asm); (case zyh1 => k_mem); (case zyh2 => k_mem))); (case zyga => k_is); (case zyg2 => k_is); (case zyg3 => k_is); (case zygb => k_is); (case zygc => k_is); (case zygd => k_is); (case zyge => k_is)); k_dflt (refine' trem_spec ?zyB ?zyF ?zyX ?zyT ?zyk ?zyN ?zyhx ?zyh1 ?zyd ?zyu ?_; (case zyB => k_asm); (case zyF => k_asm); (case zyX => k_asm); (case zyT => k_asm); (case zyk => first | exact rfl | assumption); (case zyN => k_asm); (case zyhx => k_mem); (case zyh1 => k_mem); (case zyd => exact Nat.le_of_ble_eq_true rfl); (case zyu => exact Nat.le_of_ble_eq_true rfl); k_whole); (intro h' tk' F' N'; refine handed_on rfl ?_; (try dsimp only at N'); (try dsimp only); (try k_sweep)))
  trivial
section
/-- what a key still counts at T -/
noncomputable def eff (f x : Str → Option Int) (k : Str) (T : Int) : Int := if (x k).getD 0 ≤ T then 0 else (f k).getD 0
theorem eff_upd {f x : Str → Option Int} {j k : Str} {a b : Option Int} {T : Int} (h : k ≠ j) : eff (upd f j a) (upd x j b) k T = eff f x k T := by
  unfold eff; rw [upd_other _ _ h, upd_other _ _ h]
theorem eff_none {f x : Str → Option Int} {k : Str} {a : Option Int} {T : Int} (hT : 0 ≤ T) : eff (upd f k a) (upd x k none) k T = 0 := by
  unfold eff; rw [upd_same, if_pos (by simpa using hT)]
theorem eff_swept {f x : Str → Option Int} {j k : Str} {t T : Int} (h0 : 0 ≤ t) (hT : t ≤ T) : eff (swept x j t f) (swept x j t x) k T = eff f x k T := by
  unfold swept
  by_cases hc : (x j).getD 0 ≤ t
  · rw [if_pos hc, if_pos hc]
    by_cases hk : k = j
    · subst hk
      rw [eff_none (by omega)]
      unfold eff
      rw [if_pos (by omega)]
    · exact eff_upd hk
  · rw [if_neg hc, if_neg hc]
theorem eff_F2 {f x : Str → Option Int} {pk ck k : Str} {t T : Int} (h0 : 0 ≤ t) (hT : t ≤ T) : eff (F2 f x pk ck t) (F2 x x pk ck t) k T = eff f x k T := by
  unfold F2
  rw [eff_swept h0 hT, eff_swept h0 hT]
theorem swept_eff {f x : Str → Option Int} {k : Str} {t : Int} : (swept x k t f k).getD 0 = eff f x k t := by
  unfold swept eff
  by_cases hc : (x k).getD 0 ≤ t
  · rw [if_pos hc, if_pos hc, upd_same]; rfl
  · rw [if_neg hc, if_neg hc]
theorem pcF_eff {f x : Str → Option Int} {k : Str} {t : Int} : pcF f x k t = eff f x k t := swept_eff
theorem ccF_eff {f x : Str → Option Int} {pk ck : Str} {t : Int} (h0 : 0 ≤ t) : ccF f x pk ck t = eff f x ck t := by
  unfold ccF F2
  rw [swept_eff, eff_swept h0 (Int.le_refl _)]
theorem swept_same {x : Str → Option Int} {k : Str} {t : Int} (h : ¬ (x k).getD 0 ≤ t) {f : Str → Option Int} : swept x k t f = f := by
  unfold swept; rw [if_neg h]
theorem eff_inc_ne {f x : Str → Option Int} {key k : Str} {t T e am : Int} (h0 : 0 ≤ t) (hT : t ≤ T) (hk : k ≠ key) : eff (incF f x key t am) (incX f x key t e am) k T = eff f x k T := by
  rw [← eff_swept (f := f) (x := x) (j := key) h0 hT]
  unfold incF incX eff
  rw [upd_other _ _ hk]
  split
  · rw [upd_other _ _ hk]
  · rfl
theorem eff_inc {f x : Str → Option Int} {key : Str} {t T e am c : Int} (hT : t ≤ T) (hc : eff f x key t = c) (hT2 : eff f x key T = c) (he : T < t + e) : eff (incF f x key t am) (incX f x key t e am) key T = c + am := by
  unfold incF incX eff
  rw [upd_same, swept_eff, hc]
  by_cases h : c = 0
  · subst h
    rw [if_pos (Int.zero_add am), upd_same, if_neg (by simp only [Option.getD_some]; omega)]; rfl
  · have hne : ¬ (c + am = am) := by omega
    rw [if_neg hne]
    have hx : ¬ (x key).getD 0 ≤ T := by
      intro q
      unfold eff at hT2
      rw [if_pos q] at hT2
      exact h hT2.symm
    rw [swept_same (by omega), if_neg hx]; rfl
/-- all keys whose time is over are out -/
noncomputable def purge {α : Type} (x : Str → Option Int) (t : Int) (f : Str → Option α) : Str → Option α := fun k => match x k with | some y => if y ≤ t then none else f k | none => f k
theorem eff_purge {f x : Str → Option Int} {k : Str} {t T : Int} (h0 : 0 ≤ t) (hT : t ≤ T) : eff (purge x t f) (purge x t x) k T = eff f x k T := by
  unfold eff purge
  cases hx : x k with
  | none => simp only [hx]
  | some y =>
    simp only
    by_cases hc : y ≤ t
    · rw [if_pos hc, if_pos hc, if_pos (by simp; omega), if_pos (by simp; omega)]
    · rw [if_neg hc, if_neg hc]

/-- a row of the log: who, when, how many -/
noncomputable abbrev Row := Int × Int × Int
noncomputable def sumW (lg : List Row) (i n e : Int) : Int := (lg.map fun r => if r.1 = i ∧ r.2.1.fdiv e = n then r.2.2 else 0).sum
theorem sumW_app (lg : List Row) (r : Row) (i n e : Int) : sumW (lg ++ [r]) i n e = sumW lg i n e + (if r.1 = i ∧ r.2.1.fdiv e = n then r.2.2 else 0) := by
  unfold sumW; rw [List.map_append, List.sum_append]; simp
theorem sum_zero {α : Type} (l : List α) (g : α → Int) (h : ∀ a ∈ l, g a = 0) : (l.map g).sum = 0 := by
  induction l with
  | nil => rfl
  | cons a r ih => rw [List.map_cons, List.sum_cons, h a (.head _), ih fun b hb => h b (.tail _ hb)]; rfl
theorem sum_congr {α : Type} (l : List α) (g k : α → Int) (h : ∀ a ∈ l, g a = k a) : (l.map g).sum = (l.map k).sum := by
  rw [List.map_congr_left h]
theorem sum_nonneg {α : Type} (l : List α) (g : α → Int) (h : ∀ a ∈ l, 0 ≤ g a) : 0 ≤ (l.map g).sum := by
  induction l with
  | nil => exact Int.le_refl _
  | cons a r ih =>
    rw [List.map_cons, List.sum_cons]
    have := h a (.head _)
    have := ih fun b hb => h b (.tail _ hb)
    omega
theorem sum_le {α : Type} (l : List α) (g : α → Int) (c : Int) (hc : 0 ≤ c) (h : ∀ a ∈ l, g a ≤ c) : (l.map g).sum ≤ c * l.length := by
  induction l with
  | nil => simp
  | cons a r ih =>
    rw [List.map_cons, List.sum_cons, List.length_cons]
    have := h a (.head _)
    have := ih fun b hb => h b (.tail _ hb)
    push_cast
    rw [Int.mul_add]
    omega
theorem sumW_drop (lg : List Row) (i j n e : Int) (h : i ≠ j) : sumW (lg.filter fun r => decide (r.1 ≠ j)) i n e = sumW lg i n e := by
  unfold sumW
  induction lg with
  | nil => rfl
  | cons r l ih =>
    rw [List.filter_cons]
    by_cases hr : r.1 = j
    · rw [if_neg (by simp [hr]), List.map_cons, List.sum_cons, ih, if_neg (by rintro ⟨q, _⟩; exact h (q.symm.trans hr))]; simp
    · rw [if_pos (by simp [hr]), List.map_cons, List.map_cons, List.sum_cons, List.sum_cons, ih]
theorem sumW_gone (lg : List Row) (i n e : Int) : sumW (lg.filter fun r => decide (r.1 ≠ i)) i n e = 0 := by
  unfold sumW
  refine sum_zero _ _ fun r hr => if_neg ?_
  rintro ⟨q, _⟩
  have := (List.mem_filter.mp hr).2
  simp [q] at this
theorem sumW_late (lg : List Row) (i n e t : Int) (he : 0 < e) (ht : ∀ r ∈ lg, r.2.1 ≤ t) (hn : t.fdiv e < n) : sumW lg i n e = 0 := by
  unfold sumW
  refine sum_zero _ _ fun r hr => if_neg ?_
  rintro ⟨_, q⟩
  have := ht r hr
  have hm : r.2.1.fdiv e ≤ t.fdiv e := by
    rw [Int.fdiv_eq_ediv_of_nonneg _ (Int.le_of_lt he), Int.fdiv_eq_ediv_of_nonneg _ (Int.le_of_lt he)]
    exact Int.ediv_le_ediv he this
  omega
/-- what the law's own count takes of one row: of the window before, of this one -/
noncomputable def befT (i start e : Int) (r : Row) : Int := if r.1 = i ∧ start ≤ r.2.1 then 0 else if r.1 = i ∧ start - e ≤ r.2.1 then r.2.2 else 0
noncomputable def thisT (i start : Int) (r : Row) : Int := if r.1 = i ∧ start ≤ r.2.1 then r.2.2 else 0
noncomputable def befF (lg : List Row) (i start e : Int) : Int := (lg.map (befT i start e)).sum
noncomputable def thisF (lg : List Row) (i start : Int) : Int := (lg.map (thisT i start)).sum
noncomputable def countF (lg : List Row) (i t e : Int) : Int := (befF lg i (t - t.fmod e) e * (t - t.fmod e + e - t)).fdiv e + thisF lg i (t - t.fmod e)
theorem start_eq {t e : Int} : t - t.fmod e = e * t.fdiv e := by
  have := Int.mul_fdiv_add_fmod t e
  omega
theorem fdiv_iff {s n e : Int} (he : 0 < e) : s.fdiv e = n ↔ e * n ≤ s ∧ s < e * n + e := by
  have h := Int.mul_fdiv_add_fmod s e
  have h1 := Int.fmod_nonneg_of_pos s he
  have h2 := Int.fmod_lt_of_pos s he
  constructor
  · rintro rfl; omega
  · rintro ⟨a, b⟩
    have c1 : e * s.fdiv e < e * (n + 1) := by rw [Int.mul_add]; omega
    have c2 : e * n < e * (s.fdiv e + 1) := by rw [Int.mul_add]; omega
    have := Int.lt_of_mul_lt_mul_left c1 (Int.le_of_lt he)
    have := Int.lt_of_mul_lt_mul_left c2 (Int.le_of_lt he)
    omega
theorem thisF_eq (lg : List Row) (i t e : Int) (he : 0 < e) (ht : ∀ r ∈ lg, r.2.1 ≤ t) : thisF lg i (t - t.fmod e) = sumW lg i (t.fdiv e) e := by
  unfold thisF sumW
  refine sum_congr _ _ _ fun r hr => ?_
  unfold thisT
  have h1 := ht r hr
  have h2 := (fdiv_iff (s := t) (n := t.fdiv e) he).mp rfl
  by_cases hi : r.1 = i
  · by_cases hs : t - t.fmod e ≤ r.2.1
    · rw [if_pos ⟨hi, hs⟩, if_pos ⟨hi, (fdiv_iff he).mpr (by rw [start_eq] at hs; omega)⟩]
    · rw [if_neg (fun q => hs q.2), if_neg]
      rintro ⟨_, q⟩
      have := (fdiv_iff he).mp q
      rw [start_eq] at hs
      omega
  · rw [if_neg (fun q => hi q.1), if_neg (fun q => hi q.1)]
theorem befF_eq (lg : List Row) (i t e : Int) (he : 0 < e) : befF lg i (t - t.fmod e) e = sumW lg i (t.fdiv e - 1) e := by
  unfold befF sumW
  refine sum_congr _ _ _ fun r hr => ?_
  unfold befT
  have hk : e * (t.fdiv e - 1) = e * t.fdiv e - e := by rw [Int.mul_sub, Int.mul_one]
  by_cases hi : r.1 = i
  · by_cases hs : t - t.fmod e ≤ r.2.1
    · rw [if_pos ⟨hi, hs⟩, if_neg]
      rintro ⟨_, q⟩
      have := (fdiv_iff he).mp q
      rw [start_eq] at hs
      omega
    · rw [if_neg (fun q => hs q.2)]
      by_cases hs2 : t - t.fmod e - e ≤ r.2.1
      · rw [if_pos ⟨hi, hs2⟩, if_pos ⟨hi, (fdiv_iff he).mpr (by rw [start_eq] at hs hs2; omega)⟩]
      · rw [if_neg (fun q => hs2 q.2), if_neg]
        rintro ⟨_, q⟩
        have := (fdiv_iff he).mp q
        rw [start_eq] at hs2
        omega
  · rw [if_neg (fun q => hi q.1), if_neg (fun q => hi q.1), if_neg (fun q => hi q.1)]
/-- the store agrees with the log, now and while the windows live: K i n the key of window n of the limit i, e i its length -/
structure Agree (K : Int → Int → Str) (e : Int → Int) (f x : Str → Option Int) (lg : List Row) (t : Int) : Prop where
  cnt : ∀ i n T, 0 ≤ i → i < 6 → t ≤ T → 0 ≤ n → T.fdiv (e i) ≤ n + 1 → eff f x (K i n) T = sumW lg i n (e i)
  old : ∀ r ∈ lg, r.2.1 ≤ t
section
variable {K : Int → Int → Str} {e : Int → Int} {f x : Str → Option Int} {lg : List Row} {t : Int}
theorem Agree.later (A : Agree K e f x lg t) {t' : Int} (h : t ≤ t') : Agree K e f x lg t' :=
  ⟨fun i n T a b c d q => A.cnt i n T a b (by omega) d q, fun r hr => by have := A.old r hr; omega⟩
theorem Agree.same (A : Agree K e f x lg t) {f' x' : Str → Option Int} (h : ∀ i n T, 0 ≤ i → i < 6 → 0 ≤ n → t ≤ T → eff f' x' (K i n) T = eff f x (K i n) T) : Agree K e f' x' lg t :=
  ⟨fun i n T a b c d q => by rw [h i n T a b d c]; exact A.cnt i n T a b c d q, A.old⟩
theorem Agree.start (h : 0 ≤ t) : Agree K e (fun _ => none) (fun _ => none) [] t :=
  ⟨fun i n T a b c d q => by unfold eff; rw [if_pos (by simp; omega)]; rfl, fun r hr => nomatch hr⟩
theorem Agree.weigh (A : Agree K e f x lg t) {i : Int} (h0 : 0 ≤ i) (h6 : i < 6) (he : 0 < e i) (het : e i ≤ t) : wF f x (K i ((t - e i).fdiv (e i))) (K i (t.fdiv (e i))) t (e i) = countF lg i t (e i) := by
  have ht : 0 ≤ t := by omega
  have hq : (t - e i).fdiv (e i) = t.fdiv (e i) - 1 := by
    have h2 := (fdiv_iff (s := t) (n := t.fdiv (e i)) he).mp rfl
    refine (fdiv_iff he).mpr ?_
    rw [Int.mul_sub, Int.mul_one]
    omega
  have hn : 1 ≤ t.fdiv (e i) := by
    rw [Int.fdiv_eq_ediv_of_nonneg _ (Int.le_of_lt he)]
    exact (Int.le_ediv_iff_mul_le he).mpr (by omega)
  unfold wF countF
  rw [pcF_eff, ccF_eff ht, befF_eq _ _ _ _ he, thisF_eq _ _ _ _ he A.old, hq, A.cnt i _ t h0 h6 (Int.le_refl _) (by omega) (by omega), A.cnt i _ t h0 h6 (Int.le_refl _) (by omega) (by omega)]
  congr 2
  unfold ttlF
  by_cases hp : sumW lg i (t.fdiv (e i) - 1) (e i) = 0
  · rw [hp, if_pos rfl, Int.zero_mul, Int.zero_mul]
  · rw [if_neg hp]
    congr 1
    have e1 : (t - e i).fmod (e i) = t.fmod (e i) := by
      have a := Int.mul_fdiv_add_fmod (t - e i) (e i)
      have b := Int.mul_fdiv_add_fmod t (e i)
      rw [hq, Int.mul_sub, Int.mul_one] at a
      omega
    rw [e1]
    omega
theorem Agree.swept (A : Agree K e f x lg t) {pk ck : Str} (ht : 0 ≤ t) : Agree K e (F2 f x pk ck t) (F2 x x pk ck t) lg t :=
  A.same fun i n T _ _ _ hT => eff_F2 ht hT
theorem Agree.purged (A : Agree K e f x lg t) (ht : 0 ≤ t) : Agree K e (purge x t f) (purge x t x) lg t :=
  A.same fun i n T _ _ _ hT => eff_purge ht hT
theorem Agree.other (A : Agree K e f x lg t) {k : Str} {e' am : Int} (ht : 0 ≤ t) (hk : ∀ i n, 0 ≤ i → i < 6 → 0 ≤ n → K i n ≠ k) : Agree K e (incF f x k t am) (incX f x k t e' am) lg t :=
  A.same fun i n T a b c hT => eff_inc_ne ht hT (hk i n a b c)
theorem Agree.out (A : Agree K e f x lg t) {k : Str} {a b : Option Int} (hk : ∀ i n, 0 ≤ i → i < 6 → 0 ≤ n → K i n ≠ k) : Agree K e (upd f k a) (upd x k b) lg t :=
  A.same fun i n T a b c hT => eff_upd (hk i n a b c)
theorem Agree.hit (A : Agree K e f x lg t) {i am : Int} (h0 : 0 ≤ i) (h6 : i < 6) (he : 0 < e i) (ht : 0 ≤ t)
    (inj : ∀ i n j m, 0 ≤ i → i < 6 → 0 ≤ n → 0 ≤ j → j < 6 → 0 ≤ m → K i n = K j m → i = j ∧ n = m) {pk : Str} :
    Agree K e (incF (F2 f x pk (K i (t.fdiv (e i))) t) (F2 x x pk (K i (t.fdiv (e i))) t) (K i (t.fdiv (e i))) t am) (incX (F2 f x pk (K i (t.fdiv (e i))) t) (F2 x x pk (K i (t.fdiv (e i))) t) (K i (t.fdiv (e i))) t (2 * e i) am) (lg ++ [(i, t, am)]) t := by
  have hn0 : 0 ≤ t.fdiv (e i) := (fdiv_bounds he ht).1
  have A' := A.swept (pk := pk) (ck := K i (t.fdiv (e i))) ht
  refine ⟨fun j n T a b c d q => ?_, fun r hr => ?_⟩
  · rw [sumW_app]
    by_cases hk : j = i ∧ n = t.fdiv (e i)
    · obtain ⟨rfl, rfl⟩ := hk
      rw [if_pos ⟨rfl, rfl⟩]
      have h2 := (fdiv_iff (s := t) (n := t.fdiv (e j)) he).mp rfl
      have h3 := (fdiv_iff (s := T) (n := T.fdiv (e j)) he).mp rfl
      have h4 : e j * T.fdiv (e j) ≤ e j * (t.fdiv (e j) + 1) := Int.mul_le_mul_of_nonneg_left q (Int.le_of_lt he)
      rw [Int.mul_add, Int.mul_one] at h4
      exact eff_inc c (A'.cnt j _ t h0 h6 (Int.le_refl _) hn0 (by omega)) (A'.cnt j _ T h0 h6 c hn0 q) (by omega)
    · have hne : K j n ≠ K i (t.fdiv (e i)) := fun q => hk (by have := inj _ _ _ _ a b d h0 h6 hn0 q; exact this)
      rw [if_neg, Int.add_zero, eff_inc_ne ht c hne]
      · exact A'.cnt j n T a b c d q
      · rintro ⟨u, v⟩
        dsimp only at u v
        subst u
        exact hk ⟨rfl, v.symm⟩
  · rcases List.mem_append.mp hr with hr | hr
    · exact A.old r hr
    · rw [List.mem_singleton.mp hr]; exact Int.le_refl _
theorem Agree.clear (A : Agree K e f x lg t) {i : Int} (h0 : 0 ≤ i) (h6 : i < 6) (he : 0 < e i) (het : e i ≤ t)
    (inj : ∀ i n j m, 0 ≤ i → i < 6 → 0 ≤ n → 0 ≤ j → j < 6 → 0 ≤ m → K i n = K j m → i = j ∧ n = m) :
    Agree K e (upd (upd f (K i ((t - e i).fdiv (e i))) none) (K i (t.fdiv (e i))) none) (upd (upd x (K i ((t - e i).fdiv (e i))) none) (K i (t.fdiv (e i))) none) (lg.filter fun r => decide (r.1 ≠ i)) t := by
  have ht : 0 ≤ t := by omega
  have hq : (t - e i).fdiv (e i) = t.fdiv (e i) - 1 := by
    have h2 := (fdiv_iff (s := t) (n := t.fdiv (e i)) he).mp rfl
    refine (fdiv_iff he).mpr ?_
    rw [Int.mul_sub, Int.mul_one]
    omega
  have hn : 1 ≤ t.fdiv (e i) := by
    rw [Int.fdiv_eq_ediv_of_nonneg _ (Int.le_of_lt he)]
    exact (Int.le_ediv_iff_mul_le he).mpr (by omega)
  rw [hq]
  refine ⟨fun j n T a b c d q => ?_, fun r hr => A.old r (List.mem_filter.mp hr).1⟩
  by_cases hj : j = i
  · subst hj
    rw [sumW_gone]
    by_cases h1 : n = t.fdiv (e j)
    · subst h1; exact eff_none (by omega)
    · have hk1 : K j n ≠ K j (t.fdiv (e j)) := fun z => h1 (inj _ _ _ _ a b d a b (by omega) z).2
      rw [eff_upd hk1]
      by_cases h2 : n = t.fdiv (e j) - 1
      · subst h2; exact eff_none (by omega)
      · have hk2 : K j n ≠ K j (t.fdiv (e j) - 1) := fun z => h2 (inj _ _ _ _ a b d a b (by omega) z).2
        have hm : t.fdiv (e j) ≤ T.fdiv (e j) := by
          rw [Int.fdiv_eq_ediv_of_nonneg _ (Int.le_of_lt he), Int.fdiv_eq_ediv_of_nonneg _ (Int.le_of_lt he)]
          exact Int.ediv_le_ediv he c
        rw [eff_upd hk2, A.cnt j n T a b c d q]
        exact sumW_late _ _ _ _ _ he A.old (by omega)
  · have hk1 : K j n ≠ K i (t.fdiv (e i)) := fun z => hj (inj _ _ _ _ a b d h0 h6 (by omega) z).1
    have hk2 : K j n ≠ K i (t.fdiv (e i) - 1) := fun z => hj (inj _ _ _ _ a b d h0 h6 (by omega) z).1
    rw [eff_upd hk1, eff_upd hk2, sumW_drop _ _ _ _ _ hj]
    exact A.cnt j n T a b c d q
end

end
section
section
variable {prog : Program} {w : World} {A : Around} {E : Value → Shared → Prop} {Q : Flow → Shared → Prop} {s : Shared} {h₀ : Heap} {env : Env} {target : PySem.Expr} {body : List Stmt} {m₀ : Str → Option Value} {news : List (Addr × Obj)}
/-- a list of the ledger gone through, the loop's target no single name -/
theorem iter_rows {l : Addr} {vs : List Value} {k : Nat} (J : Nat → (Str → Option Value) → List (Addr × Obj) → Prop) (hh : A.handled = none) (F : Fr h₀ env.locals s.heap m₀) (N : News h₀ env.locals s.heap news)
    (hsrc : ∀ i m' nw, J i m' nw → (l, listOf vs.toArray k) ∈ nw) (hj : J 0 m₀ news)
    (turn : ∀ i v m₁ news₁ h tk I oI, vs[i]? = some v → J i m₁ news₁ → (∀ p ∈ news₁, p.1 ≠ I) → Fr h₀ env.locals h m₁ → News h₀ env.locals h ((I, oI) :: news₁) →
      wpAny (model prog w) A (assign target env v) (fun _ s₃ => wpAny (model prog w) A (execs body env) (TurnPost h₀ env.locals (J (i + 1)) I oI { s with heap := h, toks := tk } Q) E s₃) E { s with heap := h, toks := tk })
    (done : ∀ m' news' h tk, J vs.length m' news' → Fr h₀ env.locals h m' → News h₀ env.locals h news' → Q .next { s with heap := h, toks := tk }) :
    wpAny (model prog w) A (pyIter (.ref l)) (fun it s₂ => TurnsAt prog w A h₀ env target body Q E it s₂) E s := by
  have hm := hsrc _ _ _ hj
  have hls : s.heap.IsList l vs.toArray := News.isList N hm
  refine wpAny_pyIter_list hls ?_
  have hlt : l < s.heap.objs.size := Heap.lt_size (N _ hm).1
  have hnI : ∀ p ∈ news, p.1 ≠ s.heap.objs.size := fun p hp => Nat.ne_of_lt (Heap.lt_size (N p hp).1)
  have hLI : env.locals ≠ s.heap.objs.size := Nat.ne_of_lt F.ns.lt
  have hI0 : h₀.get? s.heap.objs.size = none := next_is_new F
  refine ⟨s.heap.objs.size, _, _, vs.length, _, _, _, m₀, news, J, rfl, KTurns.ofWalks (Walks.list hh s.heap.objs.size l (Nat.ne_of_lt hlt) vs.toArray) fun i v s Q E st q => letGo_listiter st.1 q, ?_, ?_, ?_, ⟨⟨_, Heap.get?_push_size _ rfl, rfl, rfl⟩, hls.at fun o e => Heap.get?_push_of_some _ e⟩, F.push _, fun p hp => ⟨Heap.get?_push_of_some _ (N p hp).1, (N p hp).2⟩, hj, ?_, ?_⟩
  · intro hb
    have hb' : env.locals = s.heap.objs.size ∨ env.locals = l := by simpa using hb
    rcases hb' with e | e
    · exact hLI e
    · exact (N _ hm).2.1 e.symm
  · intro b hb
    rw [List.mem_singleton.mp hb]
    exact hI0
  · intro p hp hm
    exact hnI p hp (List.mem_singleton.mp hm)
  · intro i v m₁ news₁ h₁ tk₁ own hin hP hJ hoff hown hget hall hst' F₁ N₁
    obtain ⟨oI, eI, _⟩ := hst'.1
    generalize s.heap.objs.size = I at *
    have mI : (I, oI) ∈ own := hall I (by simp) hI0 oI eI
    have off₁ : ∀ p ∈ news₁, p.1 ≠ I := fun p hp e => hoff p hp (List.mem_singleton.mpr e)
    have N₂ : News h₀ env.locals h₁ ((I, oI) :: news₁) := fun p hp => by
      rcases List.mem_cons.mp hp with e | hp
      · subst e; exact N₁ _ (List.mem_append_left _ mI)
      · exact N₁ p (List.mem_append_right _ hp)
    have hv : vs[i]? = some v := by
      have hp' : vs.toArray[i]? = some v := hP
      simpa using hp'
    refine wpAny_mono (turn i v m₁ news₁ h₁ tk₁ I oI hv hJ off₁ F₁ N₂) (fun _ s₃ p₃ => wpAny_mono p₃ (fun f s₂ p => ?_) fun _ _ e => e) fun _ _ e => e
    have fin' : TurnEnd h₀ env.locals (J (i + 1)) I oI { s with heap := h₁, toks := tk₁ } s₂ → LoopStepU h₀ env.locals [I] own (J (i + 1)) { s with heap := h₁, toks := tk₁ } .next s₂ := by
      rintro ⟨h', tk, m', nx, e, F', N', hn, hJ'⟩
      refine ⟨rfl, h', tk, m', nx, e, F', fun p hp => ?_, fun p hp hq => hn p hp (List.mem_singleton.mp hq), hJ'⟩
      rcases List.mem_append.mp hp with ho | hx
      · have hpc : p.1 = I ∨ p.1 = l := by simpa using hown p ho
        rcases hpc with e1 | e1
        · have g1 := hget p ho
          (try dsimp only at g1); (try dsimp only at eI)
          rw [e1, eI] at g1
          have : p = (I, oI) := Prod.ext e1 (Option.some.inj g1).symm
          rw [this]
          exact N' _ (.head _)
        · have g1 := hget p ho
          have g2 := (N₁ _ (List.mem_append_right _ (hsrc _ _ _ hJ))).1
          (try dsimp only at g1); (try dsimp only at g2)
          rw [e1, g2] at g1
          have : p = (l, listOf vs.toArray k) := Prod.ext e1 (Option.some.inj g1).symm
          rw [this]
          exact N' _ (.tail _ (hsrc _ _ _ hJ'))
      · exact N' p (.tail _ hx)
    cases f with
    | ret v => exact .ret p
    | brk => exact .brk p
    | next => exact .next (fin' p)
    | cont => exact .cont (fin' p)
  · intro h' tk m' news' F' N' hoff hJ
    exact done m' news' h' tk hJ F' N'
end

end
section
noncomputable def Held (P : Prop) : Prop := P
theorem Held.out {P : Prop} (h : Held P) : P := h
theorem Held.in {P : Prop} (h : P) : Held P := h
theorem heldW {α : Type} {M : Model} {A : Around} {t : Sem α} {Q : α → Shared → Prop} {E : Value → Shared → Prop} {s : Shared} (h : Held (wpAny M A t Q E s)) : wpAny M A t Q E s := h
theorem heldI {α : Type} {M : Model} {A : Around} {t : Sem α} {Q : α → Shared → Prop} {E : Value → Shared → Prop} {s : Shared} (h : wpAny M A t Q E s) : Held (wpAny M A t Q E s) := h
/-- how a statement may end that is walked apart -/
noncomputable def CutPost (h₀ : Heap) (L : Addr) (s : Shared) (P : (Str → Option Value) → List (Addr × Obj) → Prop) : Flow → Shared → Prop
  | .next, s' => ∃ h' tk m' nw', s' = { s with heap := h', toks := tk } ∧ Fr h₀ L h' m' ∧ News h₀ L h' nw' ∧ P m' nw'
  | _, _ => False
/-- a short statement walked apart, its ways joined -/
theorem cutIf {M : Model} {A : Around} {tr : Sem Flow} {Q : Flow → Shared → Prop} {E : Value → Shared → Prop} {s : Shared} {h₀ : Heap} {L : Addr} {m₀ : Str → Option Value} (_ : Fr h₀ L s.heap m₀) (P : (Str → Option Value) → List (Addr × Obj) → Prop)
    (h1 : wpAny M A tr (CutPost h₀ L s P) E s)
    (h2 : ∀ h' tk m' nw', Fr h₀ L h' m' → News h₀ L h' nw' → P m' nw' → Q .next { s with heap := h', toks := tk }) : wpAny M A tr Q E s := by
  refine wpAny_mono h1 (fun fl s' p => ?_) fun _ _ e => e
  cases fl with
  | next =>
    obtain ⟨h', tk, m', nw', rfl, a, b, c⟩ := p
    exact h2 h' tk m' nw' a b c
  | _ => exact p.elim

end
section
theorem pin2 {m n : Str → Option Value} {x : Str} {v : Value} (e : m = n) (h : m x = some v) : m = fun y => if y = x then some v else n y := by
  subst e
  funext y
  by_cases q : y = x
  · subst q; simp [h]
  · simp [q]
theorem pinE {m : Str → Option Value} {x : Str} {v u : Int} {t : Tok} (h : m x = some (.int v t)) (e : u = v) : m x = some (.int u t) := by subst e; exact h
/-- a row of the log, as it lies -/
noncomputable def RowAt (news : List (Addr × Obj)) (v : Value) (r : Row) : Prop :=
  ∃ p t1 t2 t3, v = .ref p ∧ (p, ({ cls := .type "tuple", data := .seq #[.int r.1 t1, .int r.2.1 t2, .int r.2.2 t3] } : Obj)) ∈ news
inductive RowsAt (news : List (Addr × Obj)) : List Value → List Row → Prop
  | nil : RowsAt news [] []
  | cons {v : Value} {r : Row} {vs : List Value} {rs : List Row} : RowAt news v r → RowsAt news vs rs → RowsAt news (v :: vs) (r :: rs)
theorem RowsAt.get {news : List (Addr × Obj)} {vs : List Value} {rs : List Row} (h : RowsAt news vs rs) : ∀ {i : Nat} {v : Value}, vs[i]? = some v → ∃ r, rs[i]? = some r ∧ RowAt news v r := by
  induction h with
  | nil => intro i v e; simp at e
  | cons a _ ih => intro i v e; cases i with
    | zero => simp at e; subst e; exact ⟨_, rfl, a⟩
    | succ i => exact ih (by simpa using e)
theorem RowsAt.len {news : List (Addr × Obj)} {vs : List Value} {rs : List Row} (h : RowsAt news vs rs) : vs.length = rs.length := by
  induction h with
  | nil => rfl
  | cons _ _ ih => simp [ih]
theorem RowsAt.sub {news news' : List (Addr × Obj)} {vs : List Value} {rs : List Row} (h : RowsAt news vs rs) (hs : ∀ v r, RowAt news v r → RowAt news' v r) : RowsAt news' vs rs := by
  induction h with
  | nil => exact .nil
  | cons a _ ih => exact .cons (hs _ _ a) ih
theorem RowsAt.up {news news' : List (Addr × Obj)} {vs : List Value} {rs : List Row} (h : RowsAt news vs rs) (hs : ∀ q ∈ news, q ∈ news') : RowsAt news' vs rs :=
  h.sub fun _ _ ⟨p, t1, t2, t3, e, hm⟩ => ⟨p, t1, t2, t3, e, hs _ hm⟩
theorem RowsAt.app {news : List (Addr × Obj)} {vs us : List Value} {rs qs : List Row} (h : RowsAt news vs rs) (g : RowsAt news us qs) : RowsAt news (vs ++ us) (rs ++ qs) := by
  induction h with
  | nil => exact g
  | cons a _ ih => exact .cons a ih
theorem sum_take {α : Type} (l : List α) (g : α → Int) {i : Nat} {a : α} (h : l[i]? = some a) : ((l.take (i + 1)).map g).sum = ((l.take i).map g).sum + g a := by
  rw [List.take_add_one, h, List.map_append, List.sum_append]; simp
theorem befF_take {lg : List Row} {i : Nat} {r : Row} (w st e : Int) (h : lg[i]? = some r) : befF (lg.take (i + 1)) w st e = befF (lg.take i) w st e + befT w st e r := sum_take _ _ h
theorem thisF_take {lg : List Row} {i : Nat} {r : Row} (w st : Int) (h : lg[i]? = some r) : thisF (lg.take (i + 1)) w st = thisF (lg.take i) w st + thisT w st r := sum_take _ _ h
theorem while_end {b q l w : Int} (hl : 0 < l) (h0 : 0 ≤ w) (h1 : w * l ≤ b * q) (h2 : w ≤ b) (hq : q ≤ l) (hb : 0 ≤ b) (hs : b ≤ w ∨ b * q < (w + 1) * l) : w = (b * q).fdiv l := by
  refine ((fdiv_iff hl).mpr ?_).symm
  rw [Int.mul_comm l w]
  refine ⟨h1, ?_⟩
  rcases hs with h | h
  · have e : w = b := by omega
    subst e
    have := Int.mul_le_mul_of_nonneg_left hq hb
    omega
  · rw [Int.add_mul, Int.one_mul] at h; omega
section
variable {w : World} {p : Program} {loose : List Str} {mean : ExcName → Option Value} {mg mb : Str → Option Value} {dp un : Nat} {gd : Option (List Code)} {cn : Str} {cs : Scope} {a : Addr} {ccd : Value} {cl : List (Str × Addr)} {outer : List Env} {A₀ : Around} {base h₀ : Heap} {L : Addr} {m : Str → Option Value} {s : Shared} {Q E : Value → Shared → Prop}
  (B : Below A₀ base outer h₀) (F : Fr h₀ L s.heap m) (KX : (Mine.hd1.heap_39 w.params).In h₀) (T : Top p loose mean mg mb h₀) (hk : cs.kind = .function)
include B F KX T hk

end
noncomputable def counted_spec_St (w : World) (p : Program) (loose : List Str) (mean : ExcName → Option Value) (mg : Str → Option Value) (mb : Str → Option Value) (dp : Nat) (un : Nat) (gd : Option (List Code)) (cn : Str) (cs : Scope) (a : Addr) (ccd : Value) (cl : List (Str × Addr)) (outer : List Env) (A₀ : Around) (base : Heap) (h₀ : Heap) (L : Addr) (m : Str → Option Value) (s : Shared) (Q : Value → Shared → Prop) (E : Value → Shared → Prop) (news : List (Addr × Obj)) (lg : Addr) (vs : List Value) (lr : List Row) (k : Nat) (which : Int) (now : Int) (length : Int) (t1 : Tok) (t2 : Tok) (t3 : Tok) : Prop := ∀ (B : Below A₀ base outer h₀) (F : Fr h₀ L s.heap m) (KX : (Mine.hd1.heap_39 w.params).In h₀) (T : Top p loose mean mg mb h₀) (hk : cs.kind = .function) (N : News h₀ L s.heap news) (hl : (lg, listOf vs.toArray k) ∈ news) (hr : RowsAt news vs lr) (hc : ∀ r ∈ lr, 0 ≤ r.2.2 ∧ r.2.2 ≤ 100 ∧ 0 ≤ r.2.1 ∧ r.2.1 < 1000000000000) (hn : lr.length ≤ 100) (hw : 0 ≤ which ∧ which < 6) (hm : 1000000 ≤ now ∧ now < 1000000000000) (hu' : 1 ≤ length ∧ length < 1000000) (hd : dp ≤ 840) (hu : un ≤ 8400) (retH : ∀ r h' tk', Fr h₀ L h' m → News h₀ L h' news → Q (.int (countF lr which now length) r) { s with heap := h', toks := tk' }), wpAny (model PySem.Challenge.rw_ji0060_01.row.prog w) (ktrTop dp un gd cn cs L a ccd cl outer) (call (.ref 708) [.ref lg, .int which t1, .int now t2, .int length t3]) Q E s
namespace c_counted_spec
noncomputable def zcv : (World) × (Program) × (List Str) × (ExcName → Option Value) × (Str → Option Value) × (Str → Option Value) × (Nat) × (Nat) × (Option (List Code)) × (Str) × (Scope) × (Addr) × (Value) × (List (Str × Addr)) × (List Env) × (Around) × (Heap) × (Heap) × (Addr) × (Str → Option Value) × (Shared) × (Value → Shared → Prop) × (Value → Shared → Prop) × (List (Addr × Obj)) × (Addr) × (List Value) × (List Row) × (Nat) × (Int) × (Int) × (Int) × (Tok) × (Tok) × (Tok) := pick (neP neW (neP inferInstance (neP inferInstance (neP inferInstance (neP inferInstance (neP inferInstance (neP inferInstance (neP inferInstance (neP inferInstance (neP inferInstance (neP inferInstance (neP inferInstance (neP inferInstance (neP inferInstance (neP inferInstance (neP neA (neP inferInstance (neP inferInstance (neP inferInstance (neP inferInstance (neP neS (neP inferInstance (neP inferInstance (neP inferInstance (neP inferInstance (neP inferInstance (neP inferInstance (neP inferInstance (neP inferInstance (neP inferInstance (neP inferInstance (neP inferInstance (neP inferInstance inferInstance))))))))))))))))))))))))))))))))) (fun v : (World) × (Program) × (List Str) × (ExcName → Option Value) × (Str → Option Value) × (Str → Option Value) × (Nat) × (Nat) × (Option (List Code)) × (Str) × (Scope) × (Addr) × (Value) × (List (Str × Addr)) × (List Env) × (Around) × (Heap) × (Heap) × (Addr) × (Str → Option Value) × (Shared) × (Value → Shared → Prop) × (Value → Shared → Prop) × (List (Addr × Obj)) × (Addr) × (List Value) × (List Row) × (Nat) × (Int) × (Int) × (Int) × (Tok) × (Tok) × (Tok) => counted_spec_St (v.1) (v.2.1) (v.2.2.1) (v.2.2.2.1) (v.2.2.2.2.1) (v.2.2.2.2.2.1) (v.2.2.2.2.2.2.1) (v.2.2.2.2.2.2.2.1) (v.2.2.2.2.2.2.2.2.1) (v.2.2.2.2.2.2.2.2.2.1) (v.2.2.2.2.2.2.2.2.2.2.1) (v.2.2.2.2.2.2.2.2.2.2.2.1) (v.2.2.2.2.2.2.2.2.2.2.2.2.1) (v.2.2.2.2.2.2.2.2.2.2.2.2.2.1) (v.2.2.2.2.2.2.2.2.2.2.2.2.2.2.1) (v.2.2.2.2.2.2.2.2.2.2.2.2.2.2.2.1) (v.2.2.2.2.2.2.2.2.2.2.2.2.2.2.2.2.1) (v.2.2.2.2.2.2.2.2.2.2.2.2.2.2.2.2.2.1) (v.2.2.2.2.2.2.2.2.2.2.2.2.2.2.2.2.2.2.1) (v.2.2.2.2.2.2.2.2.2.2.2.2.2.2.2.2.2.2.2.1) (v.2.2.2.2.2.2.2.2.2.2.2.2.2.2.2.2.2.2.2.2.1) (v.2.2.2.2.2.2.2.2.2.2.2.2.2.2.2.2.2.2.2.2.2.1) (v.2.2.2.2.2.2.2.2.2.2.2.2.2.2.2.2.2.2.2.2.2.2.1) (v.2.2.2.2.2.2.2.2.2.2.2.2.2.2.2.2.2.2.2.2.2.2.2.1) (v.2.2.2.2.2.2.2.2.2.2.2.2.2.2.2.2.2.2.2.2.2.2.2.2.1) (v.2.2.2.2.2.2.2.2.2.2.2.2.2.2.2.2.2.2.2.2.2.2.2.2.2.1) (v.2.2.2.2.2.2.2.2.2.2.2.2.2.2.2.2.2.2.2.2.2.2.2.2.2.2.1) (v.2.2.2.2.2.2.2.2.2.2.2.2.2.2.2.2.2.2.2.2.2.2.2.2.2.2.2.1) (v.2.2.2.2.2.2.2.2.2.2.2.2.2.2.2.2.2.2.2.2.2.2.2.2.2.2.2.2.1) (v.2.2.2.2.2.2.2.2.2.2.2.2.2.2.2.2.2.2.2.2.2.2.2.2.2.2.2.2.2.1) (v.2.2.2.2.2.2.2.2.2.2.2.2.2.2.2.2.2.2.2.2.2.2.2.2.2.2.2.2.2.2.1) (v.2.2.2.2.2.2.2.2.2.2.2.2.2.2.2.2.2.2.2.2.2.2.2.2.2.2.2.2.2.2.2.1) (v.2.2.2.2.2.2.2.2.2.2.2.2.2.2.2.2.2.2.2.2.2.2.2.2.2.2.2.2.2.2.2.2.1) (v.2.2.2.2.2.2.2.2.2.2.2.2.2.2.2.2.2.2.2.2.2.2.2.2.2.2.2.2.2.2.2.2.2)) 0
theorem zal (h : counted_spec_St (zcv.1) (zcv.2.1) (zcv.2.2.1) (zcv.2.2.2.1) (zcv.2.2.2.2.1) (zcv.2.2.2.2.2.1) (zcv.2.2.2.2.2.2.1) (zcv.2.2.2.2.2.2.2.1) (zcv.2.2.2.2.2.2.2.2.1) (zcv.2.2.2.2.2.2.2.2.2.1) (zcv.2.2.2.2.2.2.2.2.2.2.1) (zcv.2.2.2.2.2.2.2.2.2.2.2.1) (zcv.2.2.2.2.2.2.2.2.2.2.2.2.1) (zcv.2.2.2.2.2.2.2.2.2.2.2.2.2.1) (zcv.2.2.2.2.2.2.2.2.2.2.2.2.2.2.1) (zcv.2.2.2.2.2.2.2.2.2.2.2.2.2.2.2.1) (zcv.2.2.2.2.2.2.2.2.2.2.2.2.2.2.2.2.1) (zcv.2.2.2.2.2.2.2.2.2.2.2.2.2.2.2.2.2.1) (zcv.2.2.2.2.2.2.2.2.2.2.2.2.2.2.2.2.2.2.1) (zcv.2.2.2.2.2.2.2.2.2.2.2.2.2.2.2.2.2.2.2.1) (zcv.2.2.2.2.2.2.2.2.2.2.2.2.2.2.2.2.2.2.2.2.1) (zcv.2.2.2.2.2.2.2.2.2.2.2.2.2.2.2.2.2.2.2.2.2.1) (zcv.2.2.2.2.2.2.2.2.2.2.2.2.2.2.2.2.2.2.2.2.2.2.1) (zcv.2.2.2.2.2.2.2.2.2.2.2.2.2.2.2.2.2.2.2.2.2.2.2.1) (zcv.2.2.2.2.2.2.2.2.2.2.2.2.2.2.2.2.2.2.2.2.2.2.2.2.1) (zcv.2.2.2.2.2.2.2.2.2.2.2.2.2.2.2.2.2.2.2.2.2.2.2.2.2.1) (zcv.2.2.2.2.2.2.2.2.2.2.2.2.2.2.2.2.2.2.2.2.2.2.2.2.2.2.1) (zcv.2.2.2.2.2.2.2.2.2.2.2.2.2.2.2.2.2.2.2.2.2.2.2.2.2.2.2.1) (zcv.2.2.2.2.2.2.2.2.2.2.2.2.2.2.2.2.2.2.2.2.2.2.2.2.2.2.2.2.1) (zcv.2.2.2.2.2.2.2.2.2.2.2.2.2.2.2.2.2.2.2.2.2.2.2.2.2.2.2.2.2.1) (zcv.2.2.2.2.2.2.2.2.2.2.2.2.2.2.2.2.2.2.2.2.2.2.2.2.2.2.2.2.2.2.1) (zcv.2.2.2.2.2.2.2.2.2.2.2.2.2.2.2.2.2.2.2.2.2.2.2.2.2.2.2.2.2.2.2.1) (zcv.2.2.2.2.2.2.2.2.2.2.2.2.2.2.2.2.2.2.2.2.2.2.2.2.2.2.2.2.2.2.2.2.1) (zcv.2.2.2.2.2.2.2.2.2.2.2.2.2.2.2.2.2.2.2.2.2.2.2.2.2.2.2.2.2.2.2.2.2)) : ∀ u : (World) × (Program) × (List Str) × (ExcName → Option Value) × (Str → Option Value) × (Str → Option Value) × (Nat) × (Nat) × (Option (List Code)) × (Str) × (Scope) × (Addr) × (Value) × (List (Str × Addr)) × (List Env) × (Around) × (Heap) × (Heap) × (Addr) × (Str → Option Value) × (Shared) × (Value → Shared → Prop) × (Value → Shared → Prop) × (List (Addr × Obj)) × (Addr) × (List Value) × (List Row) × (Nat) × (Int) × (Int) × (Int) × (Tok) × (Tok) × (Tok), counted_spec_St (u.1) (u.2.1) (u.2.2.1) (u.2.2.2.1) (u.2.2.2.2.1) (u.2.2.2.2.2.1) (u.2.2.2.2.2.2.1) (u.2.2.2.2.2.2.2.1) (u.2.2.2.2.2.2.2.2.1) (u.2.2.2.2.2.2.2.2.2.1) (u.2.2.2.2.2.2.2.2.2.2.1) (u.2.2.2.2.2.2.2.2.2.2.2.1) (u.2.2.2.2.2.2.2.2.2.2.2.2.1) (u.2.2.2.2.2.2.2.2.2.2.2.2.2.1) (u.2.2.2.2.2.2.2.2.2.2.2.2.2.2.1) (u.2.2.2.2.2.2.2.2.2.2.2.2.2.2.2.1) (u.2.2.2.2.2.2.2.2.2.2.2.2.2.2.2.2.1) (u.2.2.2.2.2.2.2.2.2.2.2.2.2.2.2.2.2.1) (u.2.2.2.2.2.2.2.2.2.2.2.2.2.2.2.2.2.2.1) (u.2.2.2.2.2.2.2.2.2.2.2.2.2.2.2.2.2.2.2.1) (u.2.2.2.2.2.2.2.2.2.2.2.2.2.2.2.2.2.2.2.2.1) (u.2.2.2.2.2.2.2.2.2.2.2.2.2.2.2.2.2.2.2.2.2.1) (u.2.2.2.2.2.2.2.2.2.2.2.2.2.2.2.2.2.2.2.2.2.2.1) (u.2.2.2.2.2.2.2.2.2.2.2.2.2.2.2.2.2.2.2.2.2.2.2.1) (u.2.2.2.2.2.2.2.2.2.2.2.2.2.2.2.2.2.2.2.2.2.2.2.2.1) (u.2.2.2.2.2.2.2.2.2.2.2.2.2.2.2.2.2.2.2.2.2.2.2.2.2.1) (u.2.2.2.2.2.2.2.2.2.2.2.2.2.2.2.2.2.2.2.2.2.2.2.2.2.2.1) (u.2.2.2.2.2.2.2.2.2.2.2.2.2.2.2.2.2.2.2.2.2.2.2.2.2.2.2.1) (u.2.2.2.2.2.2.2.2.2.2.2.2.2.2.2.2.2.2.2.2.2.2.2.2.2.2.2.2.1) (u.2.2.2.2.2.2.2.2.2.2.2.2.2.2.2.2.2.2.2.2.2.2.2.2.2.2.2.2.2.1) (u.2.2.2.2.2.2.2.2.2.2.2.2.2.2.2.2.2.2.2.2.2.2.2.2.2.2.2.2.2.2.1) (u.2.2.2.2.2.2.2.2.2.2.2.2.2.2.2.2.2.2.2.2.2.2.2.2.2.2.2.2.2.2.2.1) (u.2.2.2.2.2.2.2.2.2.2.2.2.2.2.2.2.2.2.2.2.2.2.2.2.2.2.2.2.2.2.2.2.1) (u.2.2.2.2.2.2.2.2.2.2.2.2.2.2.2.2.2.2.2.2.2.2.2.2.2.2.2.2.2.2.2.2.2) := pick_all (P := fun v : (World) × (Program) × (List Str) × (ExcName → Option Value) × (Str → Option Value) × (Str → Option Value) × (Nat) × (Nat) × (Option (List Code)) × (Str) × (Scope) × (Addr) × (Value) × (List (Str × Addr)) × (List Env) × (Around) × (Heap) × (Heap) × (Addr) × (Str → Option Value) × (Shared) × (Value → Shared → Prop) × (Value → Shared → Prop) × (List (Addr × Obj)) × (Addr) × (List Value) × (List Row) × (Nat) × (Int) × (Int) × (Int) × (Tok) × (Tok) × (Tok) => counted_spec_St (v.1) (v.2.1) (v.2.2.1) (v.2.2.2.1) (v.2.2.2.2.1) (v.2.2.2.2.2.1) (v.2.2.2.2.2.2.1) (v.2.2.2.2.2.2.2.1) (v.2.2.2.2.2.2.2.2.1) (v.2.2.2.2.2.2.2.2.2.1) (v.2.2.2.2.2.2.2.2.2.2.1) (v.2.2.2.2.2.2.2.2.2.2.2.1) (v.2.2.2.2.2.2.2.2.2.2.2.2.1) (v.2.2.2.2.2.2.2.2.2.2.2.2.2.1) (v.2.2.2.2.2.2.2.2.2.2.2.2.2.2.1) (v.2.2.2.2.2.2.2.2.2.2.2.2.2.2.2.1) (v.2.2.2.2.2.2.2.2.2.2.2.2.2.2.2.2.1) (v.2.2.2.2.2.2.2.2.2.2.2.2.2.2.2.2.2.1) (v.2.2.2.2.2.2.2.2.2.2.2.2.2.2.2.2.2.2.1) (v.2.2.2.2.2.2.2.2.2.2.2.2.2.2.2.2.2.2.2.1) (v.2.2.2.2.2.2.2.2.2.2.2.2.2.2.2.2.2.2.2.2.1) (v.2.2.2.2.2.2.2.2.2.2.2.2.2.2.2.2.2.2.2.2.2.1) (v.2.2.2.2.2.2.2.2.2.2.2.2.2.2.2.2.2.2.2.2.2.2.1) (v.2.2.2.2.2.2.2.2.2.2.2.2.2.2.2.2.2.2.2.2.2.2.2.1) (v.2.2.2.2.2.2.2.2.2.2.2.2.2.2.2.2.2.2.2.2.2.2.2.2.1) (v.2.2.2.2.2.2.2.2.2.2.2.2.2.2.2.2.2.2.2.2.2.2.2.2.2.1) (v.2.2.2.2.2.2.2.2.2.2.2.2.2.2.2.2.2.2.2.2.2.2.2.2.2.2.1) (v.2.2.2.2.2.2.2.2.2.2.2.2.2.2.2.2.2.2.2.2.2.2.2.2.2.2.2.1) (v.2.2.2.2.2.2.2.2.2.2.2.2.2.2.2.2.2.2.2.2.2.2.2.2.2.2.2.2.1) (v.2.2.2.2.2.2.2.2.2.2.2.2.2.2.2.2.2.2.2.2.2.2.2.2.2.2.2.2.2.1) (v.2.2.2.2.2.2.2.2.2.2.2.2.2.2.2.2.2.2.2.2.2.2.2.2.2.2.2.2.2.2.1) (v.2.2.2.2.2.2.2.2.2.2.2.2.2.2.2.2.2.2.2.2.2.2.2.2.2.2.2.2.2.2.2.1) (v.2.2.2.2.2.2.2.2.2.2.2.2.2.2.2.2.2.2.2.2.2.2.2.2.2.2.2.2.2.2.2.2.1) (v.2.2.2.2.2.2.2.2.2.2.2.2.2.2.2.2.2.2.2.2.2.2.2.2.2.2.2.2.2.2.2.2.2)) h
noncomputable def w : World := zcv.1
noncomputable def p : Program := zcv.2.1
noncomputable def loose : List Str := zcv.2.2.1
noncomputable def mean : ExcName → Option Value := zcv.2.2.2.1
noncomputable def mg : Str → Option Value := zcv.2.2.2.2.1
noncomputable def mb : Str → Option Value := zcv.2.2.2.2.2.1
noncomputable def dp : Nat := zcv.2.2.2.2.2.2.1
noncomputable def un : Nat := zcv.2.2.2.2.2.2.2.1
noncomputable def gd : Option (List Code) := zcv.2.2.2.2.2.2.2.2.1
noncomputable def cn : Str := zcv.2.2.2.2.2.2.2.2.2.1
noncomputable def cs : Scope := zcv.2.2.2.2.2.2.2.2.2.2.1
noncomputable def a : Addr := zcv.2.2.2.2.2.2.2.2.2.2.2.1
noncomputable def ccd : Value := zcv.2.2.2.2.2.2.2.2.2.2.2.2.1
noncomputable def cl : List (Str × Addr) := zcv.2.2.2.2.2.2.2.2.2.2.2.2.2.1
noncomputable def outer : List Env := zcv.2.2.2.2.2.2.2.2.2.2.2.2.2.2.1
noncomputable def A₀ : Around := zcv.2.2.2.2.2.2.2.2.2.2.2.2.2.2.2.1
noncomputable def base : Heap := zcv.2.2.2.2.2.2.2.2.2.2.2.2.2.2.2.2.1
noncomputable def h₀ : Heap := zcv.2.2.2.2.2.2.2.2.2.2.2.2.2.2.2.2.2.1
noncomputable def L : Addr := zcv.2.2.2.2.2.2.2.2.2.2.2.2.2.2.2.2.2.2.1
noncomputable def m : Str → Option Value := zcv.2.2.2.2.2.2.2.2.2.2.2.2.2.2.2.2.2.2.2.1
noncomputable def s : Shared := zcv.2.2.2.2.2.2.2.2.2.2.2.2.2.2.2.2.2.2.2.2.1
noncomputable def Q : Value → Shared → Prop := zcv.2.2.2.2.2.2.2.2.2.2.2.2.2.2.2.2.2.2.2.2.2.1
noncomputable def E : Value → Shared → Prop := zcv.2.2.2.2.2.2.2.2.2.2.2.2.2.2.2.2.2.2.2.2.2.2.1
noncomputable def news : List (Addr × Obj) := zcv.2.2.2.2.2.2.2.2.2.2.2.2.2.2.2.2.2.2.2.2.2.2.2.1
noncomputable def lg : Addr := zcv.2.2.2.2.2.2.2.2.2.2.2.2.2.2.2.2.2.2.2.2.2.2.2.2.1
noncomputable def vs : List Value := zcv.2.2.2.2.2.2.2.2.2.2.2.2.2.2.2.2.2.2.2.2.2.2.2.2.2.1
noncomputable def lr : List Row := zcv.2.2.2.2.2.2.2.2.2.2.2.2.2.2.2.2.2.2.2.2.2.2.2.2.2.2.1
noncomputable def k : Nat := zcv.2.2.2.2.2.2.2.2.2.2.2.2.2.2.2.2.2.2.2.2.2.2.2.2.2.2.2.1
noncomputable def which : Int := zcv.2.2.2.2.2.2.2.2.2.2.2.2.2.2.2.2.2.2.2.2.2.2.2.2.2.2.2.2.1
noncomputable def now : Int := zcv.2.2.2.2.2.2.2.2.2.2.2.2.2.2.2.2.2.2.2.2.2.2.2.2.2.2.2.2.2.1
noncomputable def length : Int := zcv.2.2.2.2.2.2.2.2.2.2.2.2.2.2.2.2.2.2.2.2.2.2.2.2.2.2.2.2.2.2.1
noncomputable def t1 : Tok := zcv.2.2.2.2.2.2.2.2.2.2.2.2.2.2.2.2.2.2.2.2.2.2.2.2.2.2.2.2.2.2.2.1
noncomputable def t2 : Tok := zcv.2.2.2.2.2.2.2.2.2.2.2.2.2.2.2.2.2.2.2.2.2.2.2.2.2.2.2.2.2.2.2.2.1
noncomputable def t3 : Tok := zcv.2.2.2.2.2.2.2.2.2.2.2.2.2.2.2.2.2.2.2.2.2.2.2.2.2.2.2.2.2.2.2.2.2
noncomputable def zst2 : {P : ((Heap) → (Addr) → (Heap) → Prop) // Hid (∀ (g' : Heap) (L' : Addr) (h' : Heap), P g' L' h') → counted_spec_St w p loose mean mg mb dp un gd cn cs a ccd cl outer A₀ base h₀ L m s Q E news lg vs lr k which now length t1 t2 t3} := by
  refine' ⟨_, fun HH1 => _⟩
  rotate_left 
  focus
    intro B F KX T hk N hl hr hc hn hw hm hu' hd hu retH
    refine lower ?_ hd hu
    revert KX; k_fill; intro KX
    refine wpAny_call ?_
    walk_at "m enter"
    revert B F T hk N hl hr hc hn hw hm hu' hd hu retH KX FG' F' N' B' X' T' qk ek
    exact Hid.out HH1 g' L' h'
namespace k1
noncomputable def zcv : (Heap) × (Addr) × (Heap) := pick (neP inferInstance (neP inferInstance inferInstance)) (fun v : (Heap) × (Addr) × (Heap) => zst2.1 (v.1) (v.2.1) (v.2.2)) 0
theorem zal (h : zst2.1 (zcv.1) (zcv.2.1) (zcv.2.2)) : ∀ u : (Heap) × (Addr) × (Heap), zst2.1 (u.1) (u.2.1) (u.2.2) := pick_all (P := fun v : (Heap) × (Addr) × (Heap) => zst2.1 (v.1) (v.2.1) (v.2.2)) h
noncomputable def g' : Heap := zcv.1
noncomputable def L' : Addr := zcv.2.1
noncomputable def h' : Heap := zcv.2.2
theorem walk3 : zst2.1 g' L' h' := by
  intro B F T hk N hl hr hc hn hw hm hu' hd hu retH KX FG' F' N' B' X' T' qk ek
  k_steps
  refine For_turns (by assumption) ?_
  k_steps
  refine iter_rows (fun i m' nw => nw = news ∧ ∃ ta tb tc, m' (Str.ofString "log") = some (.ref lg) ∧ m' (Str.ofString "which") = some (.int which t1) ∧ m' (Str.ofString "now") = some (.int now t2) ∧ m' (Str.ofString "length") = some (.int length t3) ∧ m' (Str.ofString "start") = some (.int (now - now.fmod length) ta) ∧ m' (Str.ofString "before") = some (.int (befF (lr.take i) which (now - now.fmod length) length) tb) ∧ m' (Str.ofString "this") = some (.int (thisF (lr.take i) which (now - now.fmod length)) tc)) rfl (by assumption) (by assumption) (fun i m' nw hJ => by rw [hJ.1]; exact hl) ⟨rfl, _, _, _, rfl, rfl, rfl, rfl, rfl, rfl, rfl⟩ ?_ ?_
  · rintro i v m₁ news₁ h tk I oI hv ⟨rfl, ta, tb, tc, p1, p2, p3, p4, p5, p6, p7⟩ off F₁ N₁
    obtain ⟨r, hri, p, s1, s2, s3, rfl, hp⟩ := hr.get hv
    have hcr := hc r (List.mem_of_getElem? hri)
    have hfm := fmod_bounds (t := now) (e := length) (by omega)
    have em := pin2 (pin2 (pin2 (pin2 (pin2 (pin2 (pin2 (Eq.refl m₁) p1) p2) p3) p4) p5) p6) p7
    rw [em] at F₁
    clear em p1 p2 p3 p4 p5 p6 p7
    rw [befF_take _ _ _ hri, thisF_take _ _ hri]
    generalize befF (lr.take i) which (now - now.fmod length) length = bf at *
    generalize thisF (lr.take i) which (now - now.fmod length) = tf at *
    obtain ⟨who, sec, cost⟩ := r
    dsimp only at hcr hp
    k_steps
    all_goals exact ⟨_, _, _, _, rfl, by assumption, by assumption, off, rfl, _, _, _, rfl, rfl, rfl, rfl, rfl, pinE rfl (by simp only [befT]; split <;> (try split) <;> omega), pinE rfl (by simp only [thisT]; split <;> omega)⟩
  · rintro m₁ news₁ h tk ⟨rfl, ta, tb, tc, p1, p2, p3, p4, p5, p6, p7⟩ F₁ N₁
    have hfm := fmod_bounds (t := now) (e := length) (by omega)
    rw [hr.len, List.take_length] at p6 p7
    have em := pin2 (pin2 (pin2 (pin2 (pin2 (pin2 (pin2 (Eq.refl m₁) p1) p2) p3) p4) p5) p6) p7
    rw [em] at F₁
    clear em p1 p2 p3 p4 p5 p6 p7
    have hb0 : 0 ≤ befF lr which (now - now.fmod length) length := sum_nonneg _ _ fun r h => by
      have := hc r h
      unfold befT
      split <;> (try split) <;> omega
    have hb1 : befF lr which (now - now.fmod length) length ≤ 100 * lr.length := sum_le _ _ _ (by decide) fun r h => by
      have := hc r h
      unfold befT
      split <;> (try split) <;> omega
    have ht0 : 0 ≤ thisF lr which (now - now.fmod length) := sum_nonneg _ _ fun r h => by
      have := hc r h
      unfold thisT
      split <;> omega
    have ht1 : thisF lr which (now - now.fmod length) ≤ 100 * lr.length := sum_le _ _ _ (by decide) fun r h => by
      have := hc r h
      unfold thisT
      split <;> omega
    unfold countF at retH
    generalize befF lr which (now - now.fmod length) length = bf at *
    generalize thisF lr which (now - now.fmod length) = tf at *
    k_steps
    rename_i kk tt hh tk5 a1 a2 a3 a4 mk aF aN kF kN kT kX
    have e : kk = (bf * (now - now.fmod length + length - now)).fdiv length := by
      refine while_end (by omega) a1 ?_ (by omega) (by omega) hb0 ?_
      · by_cases h0 : kk = 0
        · rw [h0, Int.zero_mul]; exact Int.mul_nonneg hb0 (by omega)
        · have q := a3 (kk - 1) (by omega) (by omega)
          rw [show kk - 1 + 1 = kk by omega] at q
          by_cases hx : kk * length ≤ bf * (now - now.fmod length + length - now)
          · exact hx
          · rw [if_neg hx] at q; simp at q
      · by_cases hlt : kk < bf
        · rw [if_pos hlt] at a4
          by_cases hx : (kk + 1) * length ≤ bf * (now - now.fmod length + length - now)
          · rw [if_pos hx] at a4; cases a4
          · exact .inr (Int.not_le.mp hx)
        · exact .inl (by omega)
    rw [e]
    exact retH _ _ _ (by assumption) (by assumption)
end k1
theorem up4 : counted_spec_St w p loose mean mg mb dp un gd cn cs a ccd cl outer A₀ base h₀ L m s Q E news lg vs lr k which now length t1 t2 t3 := zst2.2 (fun g' L' h' => k1.zal k1.walk3 (g', L', h'))
end c_counted_spec
theorem counted_spec {w : World} {p : Program} {loose : List Str} {mean : ExcName → Option Value} {mg : Str → Option Value} {mb : Str → Option Value} {dp : Nat} {un : Nat} {gd : Option (List Code)} {cn : Str} {cs : Scope} {a : Addr} {ccd : Value} {cl : List (Str × Addr)} {outer : List Env} {A₀ : Around} {base : Heap} {h₀ : Heap} {L : Addr} {m : Str → Option Value} {s : Shared} {Q : Value → Shared → Prop} {E : Value → Shared → Prop} (B : Below A₀ base outer h₀) (F : Fr h₀ L s.heap m) (KX : (Mine.hd1.heap_39 w.params).In h₀) (T : Top p loose mean mg mb h₀) (hk : cs.kind = .function) {news : List (Addr × Obj)} {lg : Addr} {vs : List Value} {lr : List Row} {k : Nat} {which : Int} {now : Int} {length : Int} {t1 : Tok} {t2 : Tok} {t3 : Tok} (N : News h₀ L s.heap news) (hl : (lg, listOf vs.toArray k) ∈ news) (hr : RowsAt news vs lr) (hc : ∀ r ∈ lr, 0 ≤ r.2.2 ∧ r.2.2 ≤ 100 ∧ 0 ≤ r.2.1 ∧ r.2.1 < 1000000000000) (hn : lr.length ≤ 100) (hw : 0 ≤ which ∧ which < 6) (hm : 1000000 ≤ now ∧ now < 1000000000000) (hu' : 1 ≤ length ∧ length < 1000000) (hd : dp ≤ 840) (hu : un ≤ 8400) (retH : ∀ r h' tk', Fr h₀ L h' m → News h₀ L h' news → Q (.int (countF lr which now length) r) { s with heap := h', toks := tk' }) :
    wpAny (model PySem.Challenge.rw_ji0060_01.row.prog w) (ktrTop dp un gd cn cs L a ccd cl outer) (call (.ref 708) [.ref lg, .int which t1, .int now t2, .int length t3]) Q E s :=
  c_counted_spec.zal c_counted_spec.up4 (w, p, loose, mean, mg, mb, dp, un, gd, cn, cs, a, ccd, cl, outer, A₀, base, h₀, L, m, s, Q, E, news, lg, vs, lr, k, which, now, length, t1, t2, t3) B F KX T hk N hl hr hc hn hw hm hu' hd hu retH
section
variable {w : World} {p : Program} {loose : List Str} {mean : ExcName → Option Value} {mg mb : Str → Option Value} {dp un : Nat} {gd : Option (List Code)} {cn : Str} {cs : Scope} {a : Addr} {ccd : Value} {cl : List (Str × Addr)} {outer : List Env} {A₀ : Around} {base h₀ : Heap} {L : Addr} {m : Str → Option Value} {s : Shared} {Q E : Value → Shared → Prop}
  (B : Below A₀ base outer h₀) (F : Fr h₀ L s.heap m) (KX : (Mine.hd1.heap_39 w.params).In h₀) (T : Top p loose mean mg mb h₀) (hk : cs.kind = .function)
include B F KX T hk
end

end

theorem said_counted : True := by
  k_with "call ref" => (k_here; (with_reducible show wpAny _ _ (call (Value.ref 708) _) _ _ _); k_dflt (refine' counted_spec ?zyB ?zyF ?zyX ?zyT ?zyk ?zyN ?zyhl ?zyhr ?zyhc ?zyhn ?zyhw ?zyhm ?zyhu ?zyd ?zyu ?_; (case zyB => k_asm); (case zyF => k_asm); (case zyX => k_asm); (case zyT => k_asm); (case zyk => first | exact rfl | assumption); (case zyN => k_asm); (case zyhl => k_mem); (case zyhr => refine' RowsAt.up ?zyo ?zys; (case zyo => assumption); (case zys => (intro q' hq'; repeat (first | exact hq' | refine List.Mem.tail _ ?_)))); (case zyhc => assumption); (case zyhn => walk_at "m om"); (case zyhw => assumption); (case zyhm => walk_at "m om"); (case zyhu => walk_at "m om"); (case zyd => exact Nat.le_of_ble_eq_true rfl); (case zyu => exact Nat.le_of_ble_eq_true rfl); k_whole); (intro r' h' tk' F' N'; (try dsimp only at N'); (try dsimp only); (try k_sweep)))
  trivial
section
theorem said_p_subj : True := by
  k_with "exec If" => (k_here; (fail_if_success (fail_if_success (have := (by with_reducible assumption : Mk 138)))); (fail_if_success (have := (by assumption : Mk 1))); first
      | ((with_reducible show wpAny _ _ (exec (.If (.Compare (.Name (Str.ofString "which") _) _ [.Constant (.int 1) _ _] _) _ _ _) _) _ _ _); with_reducible refine heldW ?_)
      | ((with_reducible show wpAny _ _ (exec (.If (.Compare (.Name (Str.ofString "which") _) _ [.Constant (.int 2) _ _] _) _ _ _) _) _ _ _); with_reducible refine heldW ?_)
      | ((with_reducible show wpAny _ _ (exec (.If (.Compare (.Name (Str.ofString "which") _) _ [.Constant (.int 3) _ _] _) _ _ _) _) _ _ _); with_reducible refine heldW ?_)
      | ((with_reducible show wpAny _ _ (exec (.If (.Compare (.Name (Str.ofString "which") _) _ [.Constant (.int 5) _ _] _) _ _ _) _) _ _ _); with_reducible refine heldW ?_))
  trivial
/-- what _law_subject answers -/
noncomputable def sSec (w : Int) : Bool := decide (w ≠ 4)
noncomputable def sNs (w : Int) : Str := if w = 5 then Str.ofString "OTHER" else Str.ofString "LIMITER"
noncomputable def sNames (w : Int) : List Str := if w = 1 then [Str.ofString "ann", Str.ofString "bob"] else [Str.ofString "ann"]
noncomputable def sAm (w most : Int) : Int := if w = 3 then most + 1 else most
noncomputable def sMu (w many : Int) : Int := if w = 2 then many + 1 else many
noncomputable def sLen (w many : Int) : Int := if w = 4 then many * 60 else sMu w many
theorem sLen_eq (w many : Int) : sLen w many = unitOf (sSec w) * sMu w many := by
  unfold sLen sSec unitOf sMu
  by_cases h : w = 4
  · subst h; simp; omega
  · simp [h]
noncomputable def SubjAt (ext : List (Addr × Obj)) (it nt : Addr) (sec : Bool) (ns : Str) (names : List Str) (am mu : Int) : Prop :=
  (∃ idx h1 h2 h3 t1 t2 t3 t4 t5 t6 n, (it, instObj (clsOf sec) idx) ∈ ext ∧ (idx, itemDict h1 h2 h3 t1 t2 t3 t4 t5 t6 ns am mu n) ∈ ext) ∧ (0 ≤ mu ∧ mu < 1000) ∧ (0 ≤ am ∧ am < 1000) ∧ ns.length ≤ 100 ∧
  ((∃ n1 t7, names = [n1] ∧ n1.length ≤ 100 ∧ (nt, ({ cls := .type "tuple", data := .seq #[.str n1 t7] } : Obj)) ∈ ext) ∨
  (∃ n1 n2 t7 t8, names = [n1, n2] ∧ n1.length ≤ 100 ∧ n2.length ≤ 100 ∧ (nt, ({ cls := .type "tuple", data := .seq #[.str n1 t7, .str n2 t8] } : Obj)) ∈ ext))
theorem SubjAt.item {ext : List (Addr × Obj)} {it nt S X V : Addr} {sec : Bool} {ns : Str} {names : List Str} {am mu : Int} (h : SubjAt ext it nt sec ns names am mu) (ho : ∀ p ∈ ext, Off S X V p.1) : ItemAt ext S X V it sec ns am mu := by
  obtain ⟨⟨idx, h1, h2, h3, t1, t2, t3, t4, t5, t6, n, a, b⟩, c, d, e, _⟩ := h
  exact ⟨⟨idx, h1, h2, h3, t1, t2, t3, t4, t5, t6, n, a, b, ho _ a, ho _ b⟩, c, d, e⟩
theorem SubjAt.names {ext : List (Addr × Obj)} {it nt S X V : Addr} {sec : Bool} {ns : Str} {names : List Str} {am mu : Int} (h : SubjAt ext it nt sec ns names am mu) (ho : ∀ p ∈ ext, Off S X V p.1) : NamesAt ext S X V nt names := by
  obtain ⟨_, _, _, _, ⟨n1, t7, e, l, a⟩ | ⟨n1, n2, t7, t8, e, l, l', a⟩⟩ := h
  · exact ⟨ho _ a, .inl ⟨n1, t7, e, l, a⟩⟩
  · exact ⟨ho _ a, .inr ⟨n1, n2, t7, t8, e, l, l', a⟩⟩
theorem subj_fin {h₀ h' : Heap} {L tp it idx nt : Addr} {T oi od on : Obj} {news : List (Addr × Obj)} {R : Prop} (N : News h₀ L h' ((tp, T) :: (it, oi) :: (idx, od) :: (nt, on) :: news)) (a0 : AllLt tp news) (a1 : AllLt idx news) (a2 : @LT.lt Nat _ idx it) (a3 : AllLt nt news)
    (k : ∀ ext, (it, oi) ∈ ext → (idx, od) ∈ ext → (nt, on) ∈ ext → News h₀ L h' ((tp, T) :: (ext ++ news)) → (∀ p ∈ ext, ∀ q ∈ news, @LT.lt Nat _ q.1 p.1) → (∀ q ∈ news, @LT.lt Nat _ q.1 tp) → R) : R := by
  refine k [(it, oi), (idx, od), (nt, on)] (.head _) (.tail _ (.head _)) (.tail _ (.tail _ (.head _))) N ?_ (allLt_mem a0)
  intro p hp q hq
  rcases List.mem_cons.mp hp with rfl | hp
  · exact Nat.lt_trans (allLt_mem a1 q hq) a2
  rcases List.mem_cons.mp hp with rfl | hp
  · exact allLt_mem a1 q hq
  rw [List.mem_singleton.mp hp]
  exact allLt_mem a3 q hq
theorem pinS {m : Str → Option Value} {x : Str} {v u : Str} {t : Tok} (h : m x = some (.str v t)) (e : u = v) : m x = some (.str u t) := by subst e; exact h
/-- the tuple of names -/
noncomputable def NamesO (o : Obj) (names : List Str) : Prop :=
  (∃ n1 t7, names = [n1] ∧ n1.length ≤ 100 ∧ o = ({ cls := .type "tuple", data := .seq #[.str n1 t7] } : Obj)) ∨
  (∃ n1 n2 t7 t8, names = [n1, n2] ∧ n1.length ≤ 100 ∧ n2.length ≤ 100 ∧ o = ({ cls := .type "tuple", data := .seq #[.str n1 t7, .str n2 t8] } : Obj))
theorem NamesO.at {o : Obj} {names : List Str} {nt : Addr} {ext : List (Addr × Obj)} (h : NamesO o names) (m : (nt, o) ∈ ext) :
    (∃ n1 t7, names = [n1] ∧ n1.length ≤ 100 ∧ (nt, ({ cls := .type "tuple", data := .seq #[.str n1 t7] } : Obj)) ∈ ext) ∨
    (∃ n1 n2 t7 t8, names = [n1, n2] ∧ n1.length ≤ 100 ∧ n2.length ≤ 100 ∧ (nt, ({ cls := .type "tuple", data := .seq #[.str n1 t7, .str n2 t8] } : Obj)) ∈ ext) := by
  rcases h with ⟨n1, t7, a, b, rfl⟩ | ⟨n1, n2, t7, t8, a, b, c, rfl⟩
  · exact .inl ⟨n1, t7, a, b, m⟩
  · exact .inr ⟨n1, n2, t7, t8, a, b, c, m⟩
theorem drop2 {h₀ h' : Heap} {L : Addr} {a b : Addr × Obj} {news : List (Addr × Obj)} (N : News h₀ L h' (a :: b :: news)) : News h₀ L h' (a :: news) := fun q hq => N q (by
  rcases List.mem_cons.mp hq with e | hq
  · subst e; exact .head _
  · exact .tail _ (.tail _ hq))
theorem subj_ret {h₀ h' : Heap} {L tp it idx nt : Addr} {on : Obj} {news : List (Addr × Obj)} {R : Prop} {sec : Bool} {ns : Str} {names : List Str} {am mu ln : Int} {h1 h2 h3 : Int} {t1 t2 t3 t4 t5 t6 r1 r2 : Tok} {n : Nat}
    (N : News h₀ L h' ((tp, { cls := .type "tuple", data := .seq #[.ref it, .ref nt, .int am r1, .int ln r2] }) :: (it, instObj (clsOf sec) idx) :: (idx, itemDict h1 h2 h3 t1 t2 t3 t4 t5 t6 ns am mu n) :: (nt, on) :: news))
    (a0 : AllLt tp ((nt, on) :: news)) (a1 : AllLt idx ((nt, on) :: news)) (a2 : @LT.lt Nat _ idx it) (a3 : AllLt nt news) (hmu : 0 ≤ mu ∧ mu < 1000) (ham : 0 ≤ am ∧ am < 1000) (hns : ns.length ≤ 100) (hn : NamesO on names)
    (k : ∀ ext, SubjAt ext it nt sec ns names am mu → News h₀ L h' ((tp, { cls := .type "tuple", data := .seq #[.ref it, .ref nt, .int am r1, .int ln r2] }) :: (ext ++ news)) → (∀ p ∈ ext, ∀ q ∈ news, @LT.lt Nat _ q.1 p.1) → (∀ q ∈ news, @LT.lt Nat _ q.1 tp) → R) : R :=
  subj_fin N a0.2 a1.2 a2 a3 fun ext m1 m2 m3 NN lt lt2 => k ext ⟨⟨_, _, _, _, _, _, _, _, _, _, _, m1, m2⟩, hmu, ham, hns, hn.at m3⟩ NN lt lt2
section
variable {w : World} {p : Program} {loose : List Str} {mean : ExcName → Option Value} {mg mb : Str → Option Value} {dp un : Nat} {gd : Option (List Code)} {cn : Str} {cs : Scope} {a : Addr} {ccd : Value} {cl : List (Str × Addr)} {outer : List Env} {A₀ : Around} {base h₀ : Heap} {L : Addr} {m : Str → Option Value} {s : Shared} {Q E : Value → Shared → Prop}
  (B : Below A₀ base outer h₀) (F : Fr h₀ L s.heap m) (KX : (Mine.hd1.heap_39 w.params).In h₀) (T : Top p loose mean mg mb h₀) (hk : cs.kind = .function)
include B F KX T hk

end
noncomputable def subj_spec_St (w : World) (p : Program) (loose : List Str) (mean : ExcName → Option Value) (mg : Str → Option Value) (mb : Str → Option Value) (dp : Nat) (un : Nat) (gd : Option (List Code)) (cn : Str) (cs : Scope) (a : Addr) (ccd : Value) (cl : List (Str × Addr)) (outer : List Env) (A₀ : Around) (base : Heap) (h₀ : Heap) (L : Addr) (m : Str → Option Value) (s : Shared) (Q : Value → Shared → Prop) (E : Value → Shared → Prop) (news : List (Addr × Obj)) (most : Int) (many : Int) (t1 : Tok) (t2 : Tok) (t3 : Tok) : Prop := ∀ (which : Int) (B : Below A₀ base outer h₀) (F : Fr h₀ L s.heap m) (KX : (Mine.hd1.heap_39 w.params).In h₀) (T : Top p loose mean mg mb h₀) (hk : cs.kind = .function) (N : News h₀ L s.heap news) (hw : 0 ≤ which ∧ which < 6) (hm : 0 ≤ most ∧ most < 100) (hu' : 1 ≤ many ∧ many < 100) (hd : dp ≤ 840) (hu : un ≤ 8400) (retH : ∀ tp it nt ext r1 r2 h' tk', SubjAt ext it nt (sSec which) (sNs which) (sNames which) (sAm which most) (sMu which many) → Fr h₀ L h' m → News h₀ L h' ((tp, { cls := .type "tuple", data := .seq #[.ref it, .ref nt, .int (sAm which most) r1, .int (sLen which many) r2] }) :: (ext ++ news)) → (∀ p ∈ ext, ∀ q ∈ news, @LT.lt Nat _ q.1 p.1) → (∀ q ∈ news, @LT.lt Nat _ q.1 tp) → Q (.ref tp) { s with heap := h', toks := tk' }), wpAny (model PySem.Challenge.rw_ji0060_01.row.prog w) (ktrTop dp un gd cn cs L a ccd cl outer) (call (.ref 701) [.int which t1, .int most t2, .int many t3]) Q E s
namespace c_subj_spec
noncomputable def zcv : (World) × (Program) × (List Str) × (ExcName → Option Value) × (Str → Option Value) × (Str → Option Value) × (Nat) × (Nat) × (Option (List Code)) × (Str) × (Scope) × (Addr) × (Value) × (List (Str × Addr)) × (List Env) × (Around) × (Heap) × (Heap) × (Addr) × (Str → Option Value) × (Shared) × (Value → Shared → Prop) × (Value → Shared → Prop) × (List (Addr × Obj)) × (Int) × (Int) × (Tok) × (Tok) × (Tok) := pick (neP neW (neP inferInstance (neP inferInstance (neP inferInstance (neP inferInstance (neP inferInstance (neP inferInstance (neP inferInstance (neP inferInstance (neP inferInstance (neP inferInstance (neP inferInstance (neP inferInstance (neP inferInstance (neP inferInstance (neP neA (neP inferInstance (neP inferInstance (neP inferInstance (neP inferInstance (neP neS (neP inferInstance (neP inferInstance (neP inferInstance (neP inferInstance (neP inferInstance (neP inferInstance (neP inferInstance inferInstance)))))))))))))))))))))))))))) (fun v : (World) × (Program) × (List Str) × (ExcName → Option Value) × (Str → Option Value) × (Str → Option Value) × (Nat) × (Nat) × (Option (List Code)) × (Str) × (Scope) × (Addr) × (Value) × (List (Str × Addr)) × (List Env) × (Around) × (Heap) × (Heap) × (Addr) × (Str → Option Value) × (Shared) × (Value → Shared → Prop) × (Value → Shared → Prop) × (List (Addr × Obj)) × (Int) × (Int) × (Tok) × (Tok) × (Tok) => subj_spec_St (v.1) (v.2.1) (v.2.2.1) (v.2.2.2.1) (v.2.2.2.2.1) (v.2.2.2.2.2.1) (v.2.2.2.2.2.2.1) (v.2.2.2.2.2.2.2.1) (v.2.2.2.2.2.2.2.2.1) (v.2.2.2.2.2.2.2.2.2.1) (v.2.2.2.2.2.2.2.2.2.2.1) (v.2.2.2.2.2.2.2.2.2.2.2.1) (v.2.2.2.2.2.2.2.2.2.2.2.2.1) (v.2.2.2.2.2.2.2.2.2.2.2.2.2.1) (v.2.2.2.2.2.2.2.2.2.2.2.2.2.2.1) (v.2.2.2.2.2.2.2.2.2.2.2.2.2.2.2.1) (v.2.2.2.2.2.2.2.2.2.2.2.2.2.2.2.2.1) (v.2.2.2.2.2.2.2.2.2.2.2.2.2.2.2.2.2.1) (v.2.2.2.2.2.2.2.2.2.2.2.2.2.2.2.2.2.2.1) (v.2.2.2.2.2.2.2.2.2.2.2.2.2.2.2.2.2.2.2.1) (v.2.2.2.2.2.2.2.2.2.2.2.2.2.2.2.2.2.2.2.2.1) (v.2.2.2.2.2.2.2.2.2.2.2.2.2.2.2.2.2.2.2.2.2.1) (v.2.2.2.2.2.2.2.2.2.2.2.2.2.2.2.2.2.2.2.2.2.2.1) (v.2.2.2.2.2.2.2.2.2.2.2.2.2.2.2.2.2.2.2.2.2.2.2.1) (v.2.2.2.2.2.2.2.2.2.2.2.2.2.2.2.2.2.2.2.2.2.2.2.2.1) (v.2.2.2.2.2.2.2.2.2.2.2.2.2.2.2.2.2.2.2.2.2.2.2.2.2.1) (v.2.2.2.2.2.2.2.2.2.2.2.2.2.2.2.2.2.2.2.2.2.2.2.2.2.2.1) (v.2.2.2.2.2.2.2.2.2.2.2.2.2.2.2.2.2.2.2.2.2.2.2.2.2.2.2.1) (v.2.2.2.2.2.2.2.2.2.2.2.2.2.2.2.2.2.2.2.2.2.2.2.2.2.2.2.2)) 0
theorem zal (h : subj_spec_St (zcv.1) (zcv.2.1) (zcv.2.2.1) (zcv.2.2.2.1) (zcv.2.2.2.2.1) (zcv.2.2.2.2.2.1) (zcv.2.2.2.2.2.2.1) (zcv.2.2.2.2.2.2.2.1) (zcv.2.2.2.2.2.2.2.2.1) (zcv.2.2.2.2.2.2.2.2.2.1) (zcv.2.2.2.2.2.2.2.2.2.2.1) (zcv.2.2.2.2.2.2.2.2.2.2.2.1) (zcv.2.2.2.2.2.2.2.2.2.2.2.2.1) (zcv.2.2.2.2.2.2.2.2.2.2.2.2.2.1) (zcv.2.2.2.2.2.2.2.2.2.2.2.2.2.2.1) (zcv.2.2.2.2.2.2.2.2.2.2.2.2.2.2.2.1) (zcv.2.2.2.2.2.2.2.2.2.2.2.2.2.2.2.2.1) (zcv.2.2.2.2.2.2.2.2.2.2.2.2.2.2.2.2.2.1) (zcv.2.2.2.2.2.2.2.2.2.2.2.2.2.2.2.2.2.2.1) (zcv.2.2.2.2.2.2.2.2.2.2.2.2.2.2.2.2.2.2.2.1) (zcv.2.2.2.2.2.2.2.2.2.2.2.2.2.2.2.2.2.2.2.2.1) (zcv.2.2.2.2.2.2.2.2.2.2.2.2.2.2.2.2.2.2.2.2.2.1) (zcv.2.2.2.2.2.2.2.2.2.2.2.2.2.2.2.2.2.2.2.2.2.2.1) (zcv.2.2.2.2.2.2.2.2.2.2.2.2.2.2.2.2.2.2.2.2.2.2.2.1) (zcv.2.2.2.2.2.2.2.2.2.2.2.2.2.2.2.2.2.2.2.2.2.2.2.2.1) (zcv.2.2.2.2.2.2.2.2.2.2.2.2.2.2.2.2.2.2.2.2.2.2.2.2.2.1) (zcv.2.2.2.2.2.2.2.2.2.2.2.2.2.2.2.2.2.2.2.2.2.2.2.2.2.2.1) (zcv.2.2.2.2.2.2.2.2.2.2.2.2.2.2.2.2.2.2.2.2.2.2.2.2.2.2.2.1) (zcv.2.2.2.2.2.2.2.2.2.2.2.2.2.2.2.2.2.2.2.2.2.2.2.2.2.2.2.2)) : ∀ u : (World) × (Program) × (List Str) × (ExcName → Option Value) × (Str → Option Value) × (Str → Option Value) × (Nat) × (Nat) × (Option (List Code)) × (Str) × (Scope) × (Addr) × (Value) × (List (Str × Addr)) × (List Env) × (Around) × (Heap) × (Heap) × (Addr) × (Str → Option Value) × (Shared) × (Value → Shared → Prop) × (Value → Shared → Prop) × (List (Addr × Obj)) × (Int) × (Int) × (Tok) × (Tok) × (Tok), subj_spec_St (u.1) (u.2.1) (u.2.2.1) (u.2.2.2.1) (u.2.2.2.2.1) (u.2.2.2.2.2.1) (u.2.2.2.2.2.2.1) (u.2.2.2.2.2.2.2.1) (u.2.2.2.2.2.2.2.2.1) (u.2.2.2.2.2.2.2.2.2.1) (u.2.2.2.2.2.2.2.2.2.2.1) (u.2.2.2.2.2.2.2.2.2.2.2.1) (u.2.2.2.2.2.2.2.2.2.2.2.2.1) (u.2.2.2.2.2.2.2.2.2.2.2.2.2.1) (u.2.2.2.2.2.2.2.2.2.2.2.2.2.2.1) (u.2.2.2.2.2.2.2.2.2.2.2.2.2.2.2.1) (u.2.2.2.2.2.2.2.2.2.2.2.2.2.2.2.2.1) (u.2.2.2.2.2.2.2.2.2.2.2.2.2.2.2.2.2.1) (u.2.2.2.2.2.2.2.2.2.2.2.2.2.2.2.2.2.2.1) (u.2.2.2.2.2.2.2.2.2.2.2.2.2.2.2.2.2.2.2.1) (u.2.2.2.2.2.2.2.2.2.2.2.2.2.2.2.2.2.2.2.2.1) (u.2.2.2.2.2.2.2.2.2.2.2.2.2.2.2.2.2.2.2.2.2.1) (u.2.2.2.2.2.2.2.2.2.2.2.2.2.2.2.2.2.2.2.2.2.2.1) (u.2.2.2.2.2.2.2.2.2.2.2.2.2.2.2.2.2.2.2.2.2.2.2.1) (u.2.2.2.2.2.2.2.2.2.2.2.2.2.2.2.2.2.2.2.2.2.2.2.2.1) (u.2.2.2.2.2.2.2.2.2.2.2.2.2.2.2.2.2.2.2.2.2.2.2.2.2.1) (u.2.2.2.2.2.2.2.2.2.2.2.2.2.2.2.2.2.2.2.2.2.2.2.2.2.2.1) (u.2.2.2.2.2.2.2.2.2.2.2.2.2.2.2.2.2.2.2.2.2.2.2.2.2.2.2.1) (u.2.2.2.2.2.2.2.2.2.2.2.2.2.2.2.2.2.2.2.2.2.2.2.2.2.2.2.2) := pick_all (P := fun v : (World) × (Program) × (List Str) × (ExcName → Option Value) × (Str → Option Value) × (Str → Option Value) × (Nat) × (Nat) × (Option (List Code)) × (Str) × (Scope) × (Addr) × (Value) × (List (Str × Addr)) × (List Env) × (Around) × (Heap) × (Heap) × (Addr) × (Str → Option Value) × (Shared) × (Value → Shared → Prop) × (Value → Shared → Prop) × (List (Addr × Obj)) × (Int) × (Int) × (Tok) × (Tok) × (Tok) => subj_spec_St (v.1) (v.2.1) (v.2.2.1) (v.2.2.2.1) (v.2.2.2.2.1) (v.2.2.2.2.2.1) (v.2.2.2.2.2.2.1) (v.2.2.2.2.2.2.2.1) (v.2.2.2.2.2.2.2.2.1) (v.2.2.2.2.2.2.2.2.2.1) (v.2.2.2.2.2.2.2.2.2.2.1) (v.2.2.2.2.2.2.2.2.2.2.2.1) (v.2.2.2.2.2.2.2.2.2.2.2.2.1) (v.2.2.2.2.2.2.2.2.2.2.2.2.2.1) (v.2.2.2.2.2.2.2.2.2.2.2.2.2.2.1) (v.2.2.2.2.2.2.2.2.2.2.2.2.2.2.2.1) (v.2.2.2.2.2.2.2.2.2.2.2.2.2.2.2.2.1) (v.2.2.2.2.2.2.2.2.2.2.2.2.2.2.2.2.2.1) (v.2.2.2.2.2.2.2.2.2.2.2.2.2.2.2.2.2.2.1) (v.2.2.2.2.2.2.2.2.2.2.2.2.2.2.2.2.2.2.2.1) (v.2.2.2.2.2.2.2.2.2.2.2.2.2.2.2.2.2.2.2.2.1) (v.2.2.2.2.2.2.2.2.2.2.2.2.2.2.2.2.2.2.2.2.2.1) (v.2.2.2.2.2.2.2.2.2.2.2.2.2.2.2.2.2.2.2.2.2.2.1) (v.2.2.2.2.2.2.2.2.2.2.2.2.2.2.2.2.2.2.2.2.2.2.2.1) (v.2.2.2.2.2.2.2.2.2.2.2.2.2.2.2.2.2.2.2.2.2.2.2.2.1) (v.2.2.2.2.2.2.2.2.2.2.2.2.2.2.2.2.2.2.2.2.2.2.2.2.2.1) (v.2.2.2.2.2.2.2.2.2.2.2.2.2.2.2.2.2.2.2.2.2.2.2.2.2.2.1) (v.2.2.2.2.2.2.2.2.2.2.2.2.2.2.2.2.2.2.2.2.2.2.2.2.2.2.2.1) (v.2.2.2.2.2.2.2.2.2.2.2.2.2.2.2.2.2.2.2.2.2.2.2.2.2.2.2.2)) h
noncomputable def w : World := zcv.1
noncomputable def p : Program := zcv.2.1
noncomputable def loose : List Str := zcv.2.2.1
noncomputable def mean : ExcName → Option Value := zcv.2.2.2.1
noncomputable def mg : Str → Option Value := zcv.2.2.2.2.1
noncomputable def mb : Str → Option Value := zcv.2.2.2.2.2.1
noncomputable def dp : Nat := zcv.2.2.2.2.2.2.1
noncomputable def un : Nat := zcv.2.2.2.2.2.2.2.1
noncomputable def gd : Option (List Code) := zcv.2.2.2.2.2.2.2.2.1
noncomputable def cn : Str := zcv.2.2.2.2.2.2.2.2.2.1
noncomputable def cs : Scope := zcv.2.2.2.2.2.2.2.2.2.2.1
noncomputable def a : Addr := zcv.2.2.2.2.2.2.2.2.2.2.2.1
noncomputable def ccd : Value := zcv.2.2.2.2.2.2.2.2.2.2.2.2.1
noncomputable def cl : List (Str × Addr) := zcv.2.2.2.2.2.2.2.2.2.2.2.2.2.1
noncomputable def outer : List Env := zcv.2.2.2.2.2.2.2.2.2.2.2.2.2.2.1
noncomputable def A₀ : Around := zcv.2.2.2.2.2.2.2.2.2.2.2.2.2.2.2.1
noncomputable def base : Heap := zcv.2.2.2.2.2.2.2.2.2.2.2.2.2.2.2.2.1
noncomputable def h₀ : Heap := zcv.2.2.2.2.2.2.2.2.2.2.2.2.2.2.2.2.2.1
noncomputable def L : Addr := zcv.2.2.2.2.2.2.2.2.2.2.2.2.2.2.2.2.2.2.1
noncomputable def m : Str → Option Value := zcv.2.2.2.2.2.2.2.2.2.2.2.2.2.2.2.2.2.2.2.1
noncomputable def s : Shared := zcv.2.2.2.2.2.2.2.2.2.2.2.2.2.2.2.2.2.2.2.2.1
noncomputable def Q : Value → Shared → Prop := zcv.2.2.2.2.2.2.2.2.2.2.2.2.2.2.2.2.2.2.2.2.2.1
noncomputable def E : Value → Shared → Prop := zcv.2.2.2.2.2.2.2.2.2.2.2.2.2.2.2.2.2.2.2.2.2.2.1
noncomputable def news : List (Addr × Obj) := zcv.2.2.2.2.2.2.2.2.2.2.2.2.2.2.2.2.2.2.2.2.2.2.2.1
noncomputable def most : Int := zcv.2.2.2.2.2.2.2.2.2.2.2.2.2.2.2.2.2.2.2.2.2.2.2.2.1
noncomputable def many : Int := zcv.2.2.2.2.2.2.2.2.2.2.2.2.2.2.2.2.2.2.2.2.2.2.2.2.2.1
noncomputable def t1 : Tok := zcv.2.2.2.2.2.2.2.2.2.2.2.2.2.2.2.2.2.2.2.2.2.2.2.2.2.2.1
noncomputable def t2 : Tok := zcv.2.2.2.2.2.2.2.2.2.2.2.2.2.2.2.2.2.2.2.2.2.2.2.2.2.2.2.1
noncomputable def t3 : Tok := zcv.2.2.2.2.2.2.2.2.2.2.2.2.2.2.2.2.2.2.2.2.2.2.2.2.2.2.2.2
noncomputable def zst2 : {P : ((Heap) → (Addr) → (Heap) → Prop) // Hid (∀ (g' : Heap) (L' : Addr) (h' : Heap), P g' L' h') → subj_spec_St w p loose mean mg mb dp un gd cn cs a ccd cl outer A₀ base h₀ L m s Q E news most many t1 t2 t3} := by
  refine' ⟨_, fun HH1 => _⟩
  rotate_left 
  focus
    intro which B F KX T hk N hw hm hu' hd hu retH
    refine lower ?_ hd hu
    revert KX; k_fill; intro KX
    have hmu : 1 ≤ sMu which many ∧ sMu which many < 102 := by unfold sMu; split <;> omega
    have ham : 0 ≤ sAm which most ∧ sAm which most < 102 := by unfold sAm; split <;> omega
    refine wpAny_call ?_
    walk_at "m enter"
    revert which B F T hk N hw hm hu' hd hu retH KX hmu ham FG' F' N' B' X' T' qk ek
    exact Hid.out HH1 g' L' h'
namespace k1
noncomputable def zcv : (Heap) × (Addr) × (Heap) := pick (neP inferInstance (neP inferInstance inferInstance)) (fun v : (Heap) × (Addr) × (Heap) => zst2.1 (v.1) (v.2.1) (v.2.2)) 0
theorem zal (h : zst2.1 (zcv.1) (zcv.2.1) (zcv.2.2)) : ∀ u : (Heap) × (Addr) × (Heap), zst2.1 (u.1) (u.2.1) (u.2.2) := pick_all (P := fun v : (Heap) × (Addr) × (Heap) => zst2.1 (v.1) (v.2.1) (v.2.2)) h
noncomputable def g' : Heap := zcv.1
noncomputable def L' : Addr := zcv.2.1
noncomputable def h' : Heap := zcv.2.2
theorem walk3 : zst2.1 g' L' h' := by
  intro which B F T hk N hw hm hu' hd hu retH KX hmu ham FG' F' N' B' X' T' qk ek
  have mkp : Mk 138 := trivial
  k_steps
  refine heldI ?_
  refine cutIf (by k_asm) (fun m' nw' => m' (Str.ofString "which") = some (.int which t1) ∧ m' (Str.ofString "most") = some (.int most t2) ∧ m' (Str.ofString "many") = some (.int many t3) ∧ (∃ u, m' (Str.ofString "space") = some (.str (Str.ofString "LIMITER") u)) ∧ ∃ nt on, m' (Str.ofString "names") = some (.ref nt) ∧ nw' = (nt, on) :: news ∧ AllLt nt news ∧ NamesO on (sNames which)) ?_ ?_
  · have mk : Mk 1 := trivial
    k_steps
    · exact ⟨_, _, _, _, rfl, by assumption, drop2 (by assumption), rfl, rfl, rfl, ⟨_, rfl⟩, _, _, rfl, rfl, And.right (by assumption), .inr ⟨_, _, _, _, by unfold sNames; rw [if_pos (by assumption)], by decide, by decide, rfl⟩⟩
    · exact ⟨_, _, _, _, rfl, by assumption, by assumption, rfl, rfl, rfl, ⟨_, rfl⟩, _, _, rfl, rfl, by assumption, .inl ⟨_, _, by unfold sNames; rw [if_neg (by assumption)], by decide, rfl⟩⟩
  rintro h6 tk6 m6 nw6 F6 N6 ⟨p1, p2, p3, ⟨u4, p4⟩, nt, on, p5, rfl, al, hno⟩
  have em := pin2 (pin2 (pin2 (pin2 (pin2 (Eq.refl m6) p1) p2) p3) p4) p5
  rw [em] at F6
  clear em p1 p2 p3 p4 p5
  k_steps
  refine heldI ?_
  refine cutIf (by k_asm) (fun m' nw' => m' (Str.ofString "which") = some (.int which t1) ∧ m' (Str.ofString "most") = some (.int most t2) ∧ (∃ u, m' (Str.ofString "many") = some (.int (sMu which many) u)) ∧ m' (Str.ofString "space") = some (.str (Str.ofString "LIMITER") u4) ∧ m' (Str.ofString "names") = some (.ref nt) ∧ nw' = (nt, on) :: news) ?_ ?_
  · have mk : Mk 1 := trivial
    k_steps
    all_goals exact ⟨_, _, _, _, rfl, by assumption, by assumption, rfl, rfl, ⟨_, pinE rfl (by unfold sMu; first | rw [if_pos (by assumption)] | rw [if_neg (by assumption)])⟩, rfl, rfl, rfl⟩
  rintro h7 tk7 m7 nw7 F7 N7 ⟨p1, p2, ⟨u3, p3⟩, p4, p5, rfl⟩
  have em := pin2 (pin2 (pin2 (pin2 (pin2 (Eq.refl m7) p1) p2) p3) p4) p5
  rw [em] at F7
  clear em p1 p2 p3 p4 p5
  k_steps
  refine heldI ?_
  refine cutIf (by k_asm) (fun m' nw' => m' (Str.ofString "which") = some (.int which t1) ∧ (∃ u, m' (Str.ofString "most") = some (.int (sAm which most) u)) ∧ m' (Str.ofString "many") = some (.int (sMu which many) u3) ∧ m' (Str.ofString "space") = some (.str (Str.ofString "LIMITER") u4) ∧ m' (Str.ofString "names") = some (.ref nt) ∧ nw' = (nt, on) :: news) ?_ ?_
  · have mk : Mk 1 := trivial
    k_steps
    all_goals exact ⟨_, _, _, _, rfl, by assumption, by assumption, rfl, ⟨_, pinE rfl (by unfold sAm; first | rw [if_pos (by assumption)] | rw [if_neg (by assumption)])⟩, rfl, rfl, rfl, rfl⟩
  rintro h8 tk8 m8 nw8 F8 N8 ⟨p1, ⟨u2, p2⟩, p3, p4, p5, rfl⟩
  have em := pin2 (pin2 (pin2 (pin2 (pin2 (Eq.refl m8) p1) p2) p3) p4) p5
  rw [em] at F8
  clear em p1 p2 p3 p4 p5
  k_steps
  all_goals (try (exfalso; omega))
  · refine (fun (h4 : which = 4) (NN : News h₀ L _ ((_, { cls := .type "tuple", data := .seq #[.ref _, .ref _, _, _] }) :: _)) => ?_) (by assumption) (by assumption)
    have e1 : sSec which = false := by subst h4; rfl
    have e2 : sNs which = Str.ofString "LIMITER" := by subst h4; rfl
    have e4 : sLen which many = sMu which many * 60 := by subst h4; rfl
    rw [e1, e2, e4] at retH
    exact subj_ret (sec := false) NN (by first | exact And.right (And.right (by assumption)) | assumption) (by first | assumption | exact And.right (by assumption)) (by assumption) al ⟨by omega, by omega⟩ ⟨by omega, by omega⟩ (by decide) hno fun ext a b c d => retH _ _ _ ext _ _ _ _ a (by assumption) b c d
  · refine heldI ?_
    refine cutIf (by k_asm) (fun m' nw' => m' (Str.ofString "which") = some (.int which t1) ∧ m' (Str.ofString "most") = some (.int (sAm which most) u2) ∧ m' (Str.ofString "many") = some (.int (sMu which many) u3) ∧ (∃ u, m' (Str.ofString "space") = some (.str (sNs which) u)) ∧ m' (Str.ofString "names") = some (.ref nt) ∧ nw' = (nt, on) :: news) ?_ ?_
    · have mk : Mk 1 := trivial
      k_steps
      · exact ⟨_, _, _, _, rfl, by assumption, by assumption, rfl, rfl, rfl, ⟨_, pinS rfl (by unfold sNs; rw [if_pos (by assumption)])⟩, rfl, rfl⟩
      · exact ⟨_, _, _, _, rfl, by assumption, by assumption, rfl, rfl, rfl, ⟨_, pinS rfl (by unfold sNs; rw [if_neg (by assumption)])⟩, rfl, rfl⟩
    rintro h9 tk9 m9 nw9 F9 N9 ⟨p1, p2, p3, ⟨u5, p4⟩, p5, rfl⟩
    have em := pin2 (pin2 (pin2 (pin2 (pin2 (Eq.refl m9) p1) p2) p3) p4) p5
    rw [em] at F9
    clear em p1 p2 p3 p4 p5
    have hns : (sNs which).length ≤ 100 := by unfold sNs; split <;> decide
    k_steps
    all_goals (try (exfalso; omega))
    refine (fun (h4 : ¬ which = 4) (NN : News h₀ L _ ((_, { cls := .type "tuple", data := .seq #[.ref _, .ref _, _, _] }) :: _)) => ?_) (by assumption) (by assumption)
    have e1 : sSec which = true := decide_eq_true h4
    have e4 : sLen which many = sMu which many := if_neg h4
    rw [e1, e4] at retH
    exact subj_ret (sec := true) NN (by first | exact And.right (And.right (by assumption)) | assumption) (by first | assumption | exact And.right (by assumption)) (by assumption) al ⟨by omega, by omega⟩ ⟨by omega, by omega⟩ hns hno fun ext a b c d => retH _ _ _ ext _ _ _ _ a (by assumption) b c d
end k1
theorem up4 : subj_spec_St w p loose mean mg mb dp un gd cn cs a ccd cl outer A₀ base h₀ L m s Q E news most many t1 t2 t3 := zst2.2 (fun g' L' h' => k1.zal k1.walk3 (g', L', h'))
end c_subj_spec
theorem subj_spec {w : World} {p : Program} {loose : List Str} {mean : ExcName → Option Value} {mg : Str → Option Value} {mb : Str → Option Value} {dp : Nat} {un : Nat} {gd : Option (List Code)} {cn : Str} {cs : Scope} {a : Addr} {ccd : Value} {cl : List (Str × Addr)} {outer : List Env} {A₀ : Around} {base : Heap} {h₀ : Heap} {L : Addr} {m : Str → Option Value} {s : Shared} {Q : Value → Shared → Prop} {E : Value → Shared → Prop} (B : Below A₀ base outer h₀) (F : Fr h₀ L s.heap m) (KX : (Mine.hd1.heap_39 w.params).In h₀) (T : Top p loose mean mg mb h₀) (hk : cs.kind = .function) {news : List (Addr × Obj)} {which : Int} {most : Int} {many : Int} {t1 : Tok} {t2 : Tok} {t3 : Tok} (N : News h₀ L s.heap news) (hw : 0 ≤ which ∧ which < 6) (hm : 0 ≤ most ∧ most < 100) (hu' : 1 ≤ many ∧ many < 100) (hd : dp ≤ 840) (hu : un ≤ 8400) (retH : ∀ tp it nt ext r1 r2 h' tk', SubjAt ext it nt (sSec which) (sNs which) (sNames which) (sAm which most) (sMu which many) → Fr h₀ L h' m → News h₀ L h' ((tp, { cls := .type "tuple", data := .seq #[.ref it, .ref nt, .int (sAm which most) r1, .int (sLen which many) r2] }) :: (ext ++ news)) → (∀ p ∈ ext, ∀ q ∈ news, @LT.lt Nat _ q.1 p.1) → (∀ q ∈ news, @LT.lt Nat _ q.1 tp) → Q (.ref tp) { s with heap := h', toks := tk' }) :
    wpAny (model PySem.Challenge.rw_ji0060_01.row.prog w) (ktrTop dp un gd cn cs L a ccd cl outer) (call (.ref 701) [.int which t1, .int most t2, .int many t3]) Q E s :=
  c_subj_spec.zal c_subj_spec.up4 (w, p, loose, mean, mg, mb, dp, un, gd, cn, cs, a, ccd, cl, outer, A₀, base, h₀, L, m, s, Q, E, news, most, many, t1, t2, t3) _ B F KX T hk N hw hm hu' hd hu retH
section
variable {w : World} {p : Program} {loose : List Str} {mean : ExcName → Option Value} {mg mb : Str → Option Value} {dp un : Nat} {gd : Option (List Code)} {cn : Str} {cs : Scope} {a : Addr} {ccd : Value} {cl : List (Str × Addr)} {outer : List Env} {A₀ : Around} {base h₀ : Heap} {L : Addr} {m : Str → Option Value} {s : Shared} {Q E : Value → Shared → Prop}
  (B : Below A₀ base outer h₀) (F : Fr h₀ L s.heap m) (KX : (Mine.hd1.heap_39 w.params).In h₀) (T : Top p loose mean mg mb h₀) (hk : cs.kind = .function)
include B F KX T hk
end

end
section
theorem said_p_bis : True := by
  k_with "exec While" => (k_here; (fail_if_success (fail_if_success (have := (by with_reducible assumption : Mk 139)))); refine Held.out ?_)
  k_with "exec While Compare" => (k_here; (fail_if_success (fail_if_success (have := (by with_reducible assumption : Mk 139)))); refine Held.out ?_)
  k_with "call ref" => (k_here; (fail_if_success (fail_if_success (have := (by with_reducible assumption : Mk 139)))); (with_reducible show wpAny _ _ (call (Value.ref _) [_]) _ _ _); k_dflt (refine' KeyFn.use ?zyC ?zyB ?zyF ?zyX ?zyT ?zyk ?zyN ?zyhv ?zyd ?zyu ?_; (case zyC => assumption); (case zyB => k_asm); (case zyF => k_asm); (case zyX => k_asm); (case zyT => k_asm); (case zyk => first | exact rfl | assumption); (case zyN => k_asm); (case zyhv => with_reducible assumption); (case zyd => exact Nat.le_of_ble_eq_true rfl); (case zyu => exact Nat.le_of_ble_eq_true rfl); k_whole); (intro r' h' tk' F' N'; (try dsimp only); (try k_sweep)))
  k_with "call builtin:len" => (k_here; (fail_if_success (fail_if_success (have := (by with_reducible assumption : Mk 139)))); k_dflt (refine' len_listN ?zyN ?zyl ?zyn ?_; (case zyN => k_asm); (case zyl => k_mem); (case zyn => with_reducible assumption); k_whole); (intro r' tk'; (try dsimp only)))
  trivial
/-- where a binary search ends, as its questions are answered -/
noncomputable def bisGo (p : Nat → Bool) : Nat → Nat → Nat → Nat
  | 0, lo, _ => lo
  | fuel + 1, lo, hi => if lo < hi then (if p ((lo + hi) / 2) = true then bisGo p fuel ((lo + hi) / 2 + 1) hi else bisGo p fuel lo ((lo + hi) / 2)) else lo
noncomputable def bisF (p : Nat → Bool) (n : Nat) : Nat := bisGo p n 0 n
theorem mid_ge {lo hi : Nat} (h : lo < hi) : lo ≤ (lo + hi) / 2 := by omega
theorem mid_lt {lo hi : Nat} (h : lo < hi) : (lo + hi) / 2 < hi := by omega
theorem sub_l {m hi lo f : Nat} (h1 : lo ≤ m) (h2 : hi - lo ≤ f + 1) : hi - (m + 1) ≤ f := by omega
theorem sub_r {m hi lo f : Nat} (h1 : m < hi) (h2 : hi - lo ≤ f + 1) : m - lo ≤ f := by omega
theorem dec_l {m hi lo : Nat} (h1 : lo ≤ m) (h2 : m < hi) : hi - (m + 1) < hi - lo := by omega
theorem dec_r {m hi lo : Nat} (h1 : lo ≤ m) (h2 : m < hi) : m - lo < hi - lo := by omega
theorem mid_c (lo hi : Nat) : (↑lo + ↑hi : Int).fdiv 2 = (((lo + hi) / 2 : Nat) : Int) := by
  rw [Int.fdiv_eq_ediv_of_nonneg _ (by decide)]; exact (Int.natCast_ediv (lo + hi) 2).symm
theorem bisGo_fuel (p : Nat → Bool) : ∀ (f g lo hi : Nat), hi - lo ≤ f → hi - lo ≤ g → bisGo p f lo hi = bisGo p g lo hi
  | 0, 0, _, _, _, _ => rfl
  | 0, g + 1, lo, hi, h, _ => by
    unfold bisGo; rw [if_neg (by omega)]
  | f + 1, 0, lo, hi, _, h => by
    conv => lhs; unfold bisGo
    rw [if_neg (by omega)]
    unfold bisGo; rfl
  | f + 1, g + 1, lo, hi, h1, h2 => by
    unfold bisGo
    by_cases hlt : lo < hi
    · rw [if_pos hlt, if_pos hlt]
      rw [bisGo_fuel p f g _ hi (sub_l (mid_ge hlt) h1) (sub_l (mid_ge hlt) h2), bisGo_fuel p f g lo _ (sub_r (mid_lt hlt) h1) (sub_r (mid_lt hlt) h2)]
    · rw [if_neg hlt, if_neg hlt]
theorem bisGo_left {p : Nat → Bool} {lo hi : Nat} (h : lo < hi) (hp : p ((lo + hi) / 2) = true) : bisGo p (hi - lo) lo hi = bisGo p (hi - ((lo + hi) / 2 + 1)) ((lo + hi) / 2 + 1) hi := by
  obtain ⟨n, e⟩ : ∃ n, hi - lo = n + 1 := ⟨hi - lo - 1, (Nat.sub_add_cancel (Nat.sub_pos_of_lt h)).symm⟩
  rw [e]
  conv => lhs; unfold bisGo
  rw [if_pos h, if_pos hp]
  exact bisGo_fuel p _ _ _ _ (sub_l (mid_ge h) (Nat.le_of_eq e)) (Nat.le_refl _)
theorem bisGo_right {p : Nat → Bool} {lo hi : Nat} (h : lo < hi) (hp : ¬ p ((lo + hi) / 2) = true) : bisGo p (hi - lo) lo hi = bisGo p ((lo + hi) / 2 - lo) lo ((lo + hi) / 2) := by
  obtain ⟨n, e⟩ : ∃ n, hi - lo = n + 1 := ⟨hi - lo - 1, (Nat.sub_add_cancel (Nat.sub_pos_of_lt h)).symm⟩
  rw [e]
  conv => lhs; unfold bisGo
  rw [if_pos h, if_neg hp]
  exact bisGo_fuel p _ _ _ _ (sub_r (mid_lt h) (Nat.le_of_eq e)) (Nat.le_refl _)
theorem bisGo_end {p : Nat → Bool} {lo hi f : Nat} (h : ¬ lo < hi) : bisGo p f lo hi = lo := by
  cases f with
  | zero => rfl
  | succ n => unfold bisGo; rw [if_neg h]
theorem bisGo_le (p : Nat → Bool) : ∀ (f lo hi : Nat), lo ≤ hi → bisGo p f lo hi ≤ hi
  | 0, _, _, h => h
  | f + 1, lo, hi, h => by
    unfold bisGo
    split
    · split
      · exact bisGo_le p f _ hi (by omega)
      · exact Nat.le_trans (bisGo_le p f lo _ (by omega)) (by omega)
    · exact h
theorem bisF_le (p : Nat → Bool) (n : Nat) : bisF p n ≤ n := bisGo_le p n 0 n (Nat.zero_le _)
/-- called with the rows of a list, a key function tells their keys and turns nothing -/
noncomputable def KeyFn (w : World) (news : List (Addr × Obj)) (fn : Addr) (vs : List Value) (ks : Nat → Int) : Prop :=
  ∀ (p : Program) (loose : List Str) (mean : ExcName → Option Value) (mg mb : Str → Option Value) (gd : Option (List Code)) (cn : Str) (cs : Scope) (a : Addr) (ccd : Value) (cl : List (Str × Addr)) (outer : List Env) (A₀ : Around) (base h₀ : Heap) (L : Addr) (m : Str → Option Value) (s : Shared) (Q E : Value → Shared → Prop) (i : Nat) (v : Value),
    Below A₀ base outer h₀ → Fr h₀ L s.heap m → (Mine.hd1.heap_39 w.params).In h₀ → Top p loose mean mg mb h₀ → cs.kind = .function → News h₀ L s.heap news → vs[i]? = some v →
    (∀ r h' tk', Fr h₀ L h' m → News h₀ L h' news → Q (.int (ks i) r) { s with heap := h', toks := tk' }) →
    wpAny (model PySem.Challenge.rw_ji0060_01.row.prog w) (ktrTop 880 8800 gd cn cs L a ccd cl outer) (call (.ref fn) [v]) Q E s
theorem KeyFn.use {w : World} {news : List (Addr × Obj)} {fn : Addr} {vs : List Value} {ks : Nat → Int} (C : KeyFn w news fn vs ks) {p : Program} {loose : List Str} {mean : ExcName → Option Value} {mg mb : Str → Option Value} {dp un : Nat} {gd : Option (List Code)} {cn : Str} {cs : Scope} {a : Addr} {ccd : Value} {cl : List (Str × Addr)} {outer : List Env} {A₀ : Around} {base h₀ : Heap} {L : Addr} {m : Str → Option Value} {s : Shared} {Q E : Value → Shared → Prop} {i : Nat} {v : Value}
    (B : Below A₀ base outer h₀) (F : Fr h₀ L s.heap m) (X : (Mine.hd1.heap_39 w.params).In h₀) (T : Top p loose mean mg mb h₀) (hk : cs.kind = .function) (N : News h₀ L s.heap news) (hv : vs[i]? = some v) (hd : dp ≤ 880) (hu : un ≤ 8800)
    (ret : ∀ r h' tk', Fr h₀ L h' m → News h₀ L h' news → Q (.int (ks i) r) { s with heap := h', toks := tk' }) :
    wpAny (model PySem.Challenge.rw_ji0060_01.row.prog w) (ktrTop dp un gd cn cs L a ccd cl outer) (call (.ref fn) [v]) Q E s :=
  lower (C p loose mean mg mb gd cn cs a ccd cl outer A₀ base h₀ L m s Q E i v B F X T hk N hv ret) hd hu
theorem len_listN {prog : Program} {w : World} {A : Around} {E : Value → Shared → Prop} {s : Shared} {h₀ : Heap} {L l : Addr} {k : Nat} {vs : List Value} {news : List (Addr × Obj)} {Q : Value → Shared → Prop} (N : News h₀ L s.heap news) (hl : (l, listOf vs.toArray k) ∈ news) (hn : vs.length ≤ 1000000)
    (h : ∀ t tk, Q (.int vs.length t) { s with toks := tk }) : wpAny (model prog w) A (call (.builtin "len") [.ref l]) Q E s := by
  refine Calls.call_len_list (items := vs.toArray) (News.isList N hl) (by simp; omega) ?_
  rw [List.size_toArray]
  exact h _ _
section
variable {w : World} {p : Program} {loose : List Str} {mean : ExcName → Option Value} {mg mb : Str → Option Value} {dp un : Nat} {gd : Option (List Code)} {cn : Str} {cs : Scope} {a : Addr} {ccd : Value} {cl : List (Str × Addr)} {outer : List Env} {A₀ : Around} {base h₀ : Heap} {L : Addr} {m : Str → Option Value} {s : Shared} {Q E : Value → Shared → Prop}
  (B : Below A₀ base outer h₀) (F : Fr h₀ L s.heap m) (KX : (Mine.hd1.heap_39 w.params).In h₀) (T : Top p loose mean mg mb h₀) (hk : cs.kind = .function)
include B F KX T hk

end
noncomputable def bis_spec_St (w : World) (p : Program) (loose : List Str) (mean : ExcName → Option Value) (mg : Str → Option Value) (mb : Str → Option Value) (dp : Nat) (un : Nat) (gd : Option (List Code)) (cn : Str) (cs : Scope) (a : Addr) (ccd : Value) (cl : List (Str × Addr)) (outer : List Env) (A₀ : Around) (base : Heap) (h₀ : Heap) (L : Addr) (m : Str → Option Value) (s : Shared) (Q : Value → Shared → Prop) (E : Value → Shared → Prop) (news : List (Addr × Obj)) (l : Addr) (fn : Addr) (vs : List Value) (k : Nat) (x : Int) (tx : Tok) (ks : Nat → Int) (oc : Value) (od : Option Addr) (fd : FuncData) (sl : Array (Option Value)) : Prop := ∀ (B : Below A₀ base outer h₀) (F : Fr h₀ L s.heap m) (KX : (Mine.hd1.heap_39 w.params).In h₀) (T : Top p loose mean mg mb h₀) (hk : cs.kind = .function) (N : News h₀ L s.heap news) (hl : (l, listOf vs.toArray k) ∈ news) (hf : (fn, (⟨oc, od, .func fd, sl⟩ : Obj)) ∈ news) (KF : KeyFn w news fn vs ks) (hn : vs.length ≤ 1000000) (hd : dp ≤ 860) (hu : un ≤ 8600) (retH : ∀ r h' tk', Fr h₀ L h' m → News h₀ L h' news → Q (.int (bisF (fun i => decide (ks i < x)) vs.length : Nat) r) { s with heap := h', toks := tk' }), wpAny (model PySem.Challenge.rw_ji0060_01.row.prog w) (ktrTop dp un gd cn cs L a ccd cl outer) (call (.ref 551) [.ref l, .int x tx] [(Str.ofString "key", .ref fn)]) Q E s
namespace c_bis_spec
noncomputable def zcv : (World) × (Program) × (List Str) × (ExcName → Option Value) × (Str → Option Value) × (Str → Option Value) × (Nat) × (Nat) × (Option (List Code)) × (Str) × (Scope) × (Addr) × (Value) × (List (Str × Addr)) × (List Env) × (Around) × (Heap) × (Heap) × (Addr) × (Str → Option Value) × (Shared) × (Value → Shared → Prop) × (Value → Shared → Prop) × (List (Addr × Obj)) × (Addr) × (Addr) × (List Value) × (Nat) × (Int) × (Tok) × (Nat → Int) × (Value) × (Option Addr) × (FuncData) × (Array (Option Value)) := pick (neP neW (neP inferInstance (neP inferInstance (neP inferInstance (neP inferInstance (neP inferInstance (neP inferInstance (neP inferInstance (neP inferInstance (neP inferInstance (neP inferInstance (neP inferInstance (neP inferInstance (neP inferInstance (neP inferInstance (neP neA (neP inferInstance (neP inferInstance (neP inferInstance (neP inferInstance (neP neS (neP inferInstance (neP inferInstance (neP inferInstance (neP inferInstance (neP inferInstance (neP inferInstance (neP inferInstance (neP inferInstance (neP inferInstance (neP inferInstance (neP inferInstance (neP inferInstance (neP inferInstance inferInstance)))))))))))))))))))))))))))))))))) (fun v : (World) × (Program) × (List Str) × (ExcName → Option Value) × (Str → Option Value) × (Str → Option Value) × (Nat) × (Nat) × (Option (List Code)) × (Str) × (Scope) × (Addr) × (Value) × (List (Str × Addr)) × (List Env) × (Around) × (Heap) × (Heap) × (Addr) × (Str → Option Value) × (Shared) × (Value → Shared → Prop) × (Value → Shared → Prop) × (List (Addr × Obj)) × (Addr) × (Addr) × (List Value) × (Nat) × (Int) × (Tok) × (Nat → Int) × (Value) × (Option Addr) × (FuncData) × (Array (Option Value)) => bis_spec_St (v.1) (v.2.1) (v.2.2.1) (v.2.2.2.1) (v.2.2.2.2.1) (v.2.2.2.2.2.1) (v.2.2.2.2.2.2.1) (v.2.2.2.2.2.2.2.1) (v.2.2.2.2.2.2.2.2.1) (v.2.2.2.2.2.2.2.2.2.1) (v.2.2.2.2.2.2.2.2.2.2.1) (v.2.2.2.2.2.2.2.2.2.2.2.1) (v.2.2.2.2.2.2.2.2.2.2.2.2.1) (v.2.2.2.2.2.2.2.2.2.2.2.2.2.1) (v.2.2.2.2.2.2.2.2.2.2.2.2.2.2.1) (v.2.2.2.2.2.2.2.2.2.2.2.2.2.2.2.1) (v.2.2.2.2.2.2.2.2.2.2.2.2.2.2.2.2.1) (v.2.2.2.2.2.2.2.2.2.2.2.2.2.2.2.2.2.1) (v.2.2.2.2.2.2.2.2.2.2.2.2.2.2.2.2.2.2.1) (v.2.2.2.2.2.2.2.2.2.2.2.2.2.2.2.2.2.2.2.1) (v.2.2.2.2.2.2.2.2.2.2.2.2.2.2.2.2.2.2.2.2.1) (v.2.2.2.2.2.2.2.2.2.2.2.2.2.2.2.2.2.2.2.2.2.1) (v.2.2.2.2.2.2.2.2.2.2.2.2.2.2.2.2.2.2.2.2.2.2.1) (v.2.2.2.2.2.2.2.2.2.2.2.2.2.2.2.2.2.2.2.2.2.2.2.1) (v.2.2.2.2.2.2.2.2.2.2.2.2.2.2.2.2.2.2.2.2.2.2.2.2.1) (v.2.2.2.2.2.2.2.2.2.2.2.2.2.2.2.2.2.2.2.2.2.2.2.2.2.1) (v.2.2.2.2.2.2.2.2.2.2.2.2.2.2.2.2.2.2.2.2.2.2.2.2.2.2.1) (v.2.2.2.2.2.2.2.2.2.2.2.2.2.2.2.2.2.2.2.2.2.2.2.2.2.2.2.1) (v.2.2.2.2.2.2.2.2.2.2.2.2.2.2.2.2.2.2.2.2.2.2.2.2.2.2.2.2.1) (v.2.2.2.2.2.2.2.2.2.2.2.2.2.2.2.2.2.2.2.2.2.2.2.2.2.2.2.2.2.1) (v.2.2.2.2.2.2.2.2.2.2.2.2.2.2.2.2.2.2.2.2.2.2.2.2.2.2.2.2.2.2.1) (v.2.2.2.2.2.2.2.2.2.2.2.2.2.2.2.2.2.2.2.2.2.2.2.2.2.2.2.2.2.2.2.1) (v.2.2.2.2.2.2.2.2.2.2.2.2.2.2.2.2.2.2.2.2.2.2.2.2.2.2.2.2.2.2.2.2.1) (v.2.2.2.2.2.2.2.2.2.2.2.2.2.2.2.2.2.2.2.2.2.2.2.2.2.2.2.2.2.2.2.2.2.1) (v.2.2.2.2.2.2.2.2.2.2.2.2.2.2.2.2.2.2.2.2.2.2.2.2.2.2.2.2.2.2.2.2.2.2)) 0
theorem zal (h : bis_spec_St (zcv.1) (zcv.2.1) (zcv.2.2.1) (zcv.2.2.2.1) (zcv.2.2.2.2.1) (zcv.2.2.2.2.2.1) (zcv.2.2.2.2.2.2.1) (zcv.2.2.2.2.2.2.2.1) (zcv.2.2.2.2.2.2.2.2.1) (zcv.2.2.2.2.2.2.2.2.2.1) (zcv.2.2.2.2.2.2.2.2.2.2.1) (zcv.2.2.2.2.2.2.2.2.2.2.2.1) (zcv.2.2.2.2.2.2.2.2.2.2.2.2.1) (zcv.2.2.2.2.2.2.2.2.2.2.2.2.2.1) (zcv.2.2.2.2.2.2.2.2.2.2.2.2.2.2.1) (zcv.2.2.2.2.2.2.2.2.2.2.2.2.2.2.2.1) (zcv.2.2.2.2.2.2.2.2.2.2.2.2.2.2.2.2.1) (zcv.2.2.2.2.2.2.2.2.2.2.2.2.2.2.2.2.2.1) (zcv.2.2.2.2.2.2.2.2.2.2.2.2.2.2.2.2.2.2.1) (zcv.2.2.2.2.2.2.2.2.2.2.2.2.2.2.2.2.2.2.2.1) (zcv.2.2.2.2.2.2.2.2.2.2.2.2.2.2.2.2.2.2.2.2.1) (zcv.2.2.2.2.2.2.2.2.2.2.2.2.2.2.2.2.2.2.2.2.2.1) (zcv.2.2.2.2.2.2.2.2.2.2.2.2.2.2.2.2.2.2.2.2.2.2.1) (zcv.2.2.2.2.2.2.2.2.2.2.2.2.2.2.2.2.2.2.2.2.2.2.2.1) (zcv.2.2.2.2.2.2.2.2.2.2.2.2.2.2.2.2.2.2.2.2.2.2.2.2.1) (zcv.2.2.2.2.2.2.2.2.2.2.2.2.2.2.2.2.2.2.2.2.2.2.2.2.2.1) (zcv.2.2.2.2.2.2.2.2.2.2.2.2.2.2.2.2.2.2.2.2.2.2.2.2.2.2.1) (zcv.2.2.2.2.2.2.2.2.2.2.2.2.2.2.2.2.2.2.2.2.2.2.2.2.2.2.2.1) (zcv.2.2.2.2.2.2.2.2.2.2.2.2.2.2.2.2.2.2.2.2.2.2.2.2.2.2.2.2.1) (zcv.2.2.2.2.2.2.2.2.2.2.2.2.2.2.2.2.2.2.2.2.2.2.2.2.2.2.2.2.2.1) (zcv.2.2.2.2.2.2.2.2.2.2.2.2.2.2.2.2.2.2.2.2.2.2.2.2.2.2.2.2.2.2.1) (zcv.2.2.2.2.2.2.2.2.2.2.2.2.2.2.2.2.2.2.2.2.2.2.2.2.2.2.2.2.2.2.2.1) (zcv.2.2.2.2.2.2.2.2.2.2.2.2.2.2.2.2.2.2.2.2.2.2.2.2.2.2.2.2.2.2.2.2.1) (zcv.2.2.2.2.2.2.2.2.2.2.2.2.2.2.2.2.2.2.2.2.2.2.2.2.2.2.2.2.2.2.2.2.2.1) (zcv.2.2.2.2.2.2.2.2.2.2.2.2.2.2.2.2.2.2.2.2.2.2.2.2.2.2.2.2.2.2.2.2.2.2)) : ∀ u : (World) × (Program) × (List Str) × (ExcName → Option Value) × (Str → Option Value) × (Str → Option Value) × (Nat) × (Nat) × (Option (List Code)) × (Str) × (Scope) × (Addr) × (Value) × (List (Str × Addr)) × (List Env) × (Around) × (Heap) × (Heap) × (Addr) × (Str → Option Value) × (Shared) × (Value → Shared → Prop) × (Value → Shared → Prop) × (List (Addr × Obj)) × (Addr) × (Addr) × (List Value) × (Nat) × (Int) × (Tok) × (Nat → Int) × (Value) × (Option Addr) × (FuncData) × (Array (Option Value)), bis_spec_St (u.1) (u.2.1) (u.2.2.1) (u.2.2.2.1) (u.2.2.2.2.1) (u.2.2.2.2.2.1) (u.2.2.2.2.2.2.1) (u.2.2.2.2.2.2.2.1) (u.2.2.2.2.2.2.2.2.1) (u.2.2.2.2.2.2.2.2.2.1) (u.2.2.2.2.2.2.2.2.2.2.1) (u.2.2.2.2.2.2.2.2.2.2.2.1) (u.2.2.2.2.2.2.2.2.2.2.2.2.1) (u.2.2.2.2.2.2.2.2.2.2.2.2.2.1) (u.2.2.2.2.2.2.2.2.2.2.2.2.2.2.1) (u.2.2.2.2.2.2.2.2.2.2.2.2.2.2.2.1) (u.2.2.2.2.2.2.2.2.2.2.2.2.2.2.2.2.1) (u.2.2.2.2.2.2.2.2.2.2.2.2.2.2.2.2.2.1) (u.2.2.2.2.2.2.2.2.2.2.2.2.2.2.2.2.2.2.1) (u.2.2.2.2.2.2.2.2.2.2.2.2.2.2.2.2.2.2.2.1) (u.2.2.2.2.2.2.2.2.2.2.2.2.2.2.2.2.2.2.2.2.1) (u.2.2.2.2.2.2.2.2.2.2.2.2.2.2.2.2.2.2.2.2.2.1) (u.2.2.2.2.2.2.2.2.2.2.2.2.2.2.2.2.2.2.2.2.2.2.1) (u.2.2.2.2.2.2.2.2.2.2.2.2.2.2.2.2.2.2.2.2.2.2.2.1) (u.2.2.2.2.2.2.2.2.2.2.2.2.2.2.2.2.2.2.2.2.2.2.2.2.1) (u.2.2.2.2.2.2.2.2.2.2.2.2.2.2.2.2.2.2.2.2.2.2.2.2.2.1) (u.2.2.2.2.2.2.2.2.2.2.2.2.2.2.2.2.2.2.2.2.2.2.2.2.2.2.1) (u.2.2.2.2.2.2.2.2.2.2.2.2.2.2.2.2.2.2.2.2.2.2.2.2.2.2.2.1) (u.2.2.2.2.2.2.2.2.2.2.2.2.2.2.2.2.2.2.2.2.2.2.2.2.2.2.2.2.1) (u.2.2.2.2.2.2.2.2.2.2.2.2.2.2.2.2.2.2.2.2.2.2.2.2.2.2.2.2.2.1) (u.2.2.2.2.2.2.2.2.2.2.2.2.2.2.2.2.2.2.2.2.2.2.2.2.2.2.2.2.2.2.1) (u.2.2.2.2.2.2.2.2.2.2.2.2.2.2.2.2.2.2.2.2.2.2.2.2.2.2.2.2.2.2.2.1) (u.2.2.2.2.2.2.2.2.2.2.2.2.2.2.2.2.2.2.2.2.2.2.2.2.2.2.2.2.2.2.2.2.1) (u.2.2.2.2.2.2.2.2.2.2.2.2.2.2.2.2.2.2.2.2.2.2.2.2.2.2.2.2.2.2.2.2.2.1) (u.2.2.2.2.2.2.2.2.2.2.2.2.2.2.2.2.2.2.2.2.2.2.2.2.2.2.2.2.2.2.2.2.2.2) := pick_all (P := fun v : (World) × (Program) × (List Str) × (ExcName → Option Value) × (Str → Option Value) × (Str → Option Value) × (Nat) × (Nat) × (Option (List Code)) × (Str) × (Scope) × (Addr) × (Value) × (List (Str × Addr)) × (List Env) × (Around) × (Heap) × (Heap) × (Addr) × (Str → Option Value) × (Shared) × (Value → Shared → Prop) × (Value → Shared → Prop) × (List (Addr × Obj)) × (Addr) × (Addr) × (List Value) × (Nat) × (Int) × (Tok) × (Nat → Int) × (Value) × (Option Addr) × (FuncData) × (Array (Option Value)) => bis_spec_St (v.1) (v.2.1) (v.2.2.1) (v.2.2.2.1) (v.2.2.2.2.1) (v.2.2.2.2.2.1) (v.2.2.2.2.2.2.1) (v.2.2.2.2.2.2.2.1) (v.2.2.2.2.2.2.2.2.1) (v.2.2.2.2.2.2.2.2.2.1) (v.2.2.2.2.2.2.2.2.2.2.1) (v.2.2.2.2.2.2.2.2.2.2.2.1) (v.2.2.2.2.2.2.2.2.2.2.2.2.1) (v.2.2.2.2.2.2.2.2.2.2.2.2.2.1) (v.2.2.2.2.2.2.2.2.2.2.2.2.2.2.1) (v.2.2.2.2.2.2.2.2.2.2.2.2.2.2.2.1) (v.2.2.2.2.2.2.2.2.2.2.2.2.2.2.2.2.1) (v.2.2.2.2.2.2.2.2.2.2.2.2.2.2.2.2.2.1) (v.2.2.2.2.2.2.2.2.2.2.2.2.2.2.2.2.2.2.1) (v.2.2.2.2.2.2.2.2.2.2.2.2.2.2.2.2.2.2.2.1) (v.2.2.2.2.2.2.2.2.2.2.2.2.2.2.2.2.2.2.2.2.1) (v.2.2.2.2.2.2.2.2.2.2.2.2.2.2.2.2.2.2.2.2.2.1) (v.2.2.2.2.2.2.2.2.2.2.2.2.2.2.2.2.2.2.2.2.2.2.1) (v.2.2.2.2.2.2.2.2.2.2.2.2.2.2.2.2.2.2.2.2.2.2.2.1) (v.2.2.2.2.2.2.2.2.2.2.2.2.2.2.2.2.2.2.2.2.2.2.2.2.1) (v.2.2.2.2.2.2.2.2.2.2.2.2.2.2.2.2.2.2.2.2.2.2.2.2.2.1) (v.2.2.2.2.2.2.2.2.2.2.2.2.2.2.2.2.2.2.2.2.2.2.2.2.2.2.1) (v.2.2.2.2.2.2.2.2.2.2.2.2.2.2.2.2.2.2.2.2.2.2.2.2.2.2.2.1) (v.2.2.2.2.2.2.2.2.2.2.2.2.2.2.2.2.2.2.2.2.2.2.2.2.2.2.2.2.1) (v.2.2.2.2.2.2.2.2.2.2.2.2.2.2.2.2.2.2.2.2.2.2.2.2.2.2.2.2.2.1) (v.2.2.2.2.2.2.2.2.2.2.2.2.2.2.2.2.2.2.2.2.2.2.2.2.2.2.2.2.2.2.1) (v.2.2.2.2.2.2.2.2.2.2.2.2.2.2.2.2.2.2.2.2.2.2.2.2.2.2.2.2.2.2.2.1) (v.2.2.2.2.2.2.2.2.2.2.2.2.2.2.2.2.2.2.2.2.2.2.2.2.2.2.2.2.2.2.2.2.1) (v.2.2.2.2.2.2.2.2.2.2.2.2.2.2.2.2.2.2.2.2.2.2.2.2.2.2.2.2.2.2.2.2.2.1) (v.2.2.2.2.2.2.2.2.2.2.2.2.2.2.2.2.2.2.2.2.2.2.2.2.2.2.2.2.2.2.2.2.2.2)) h
noncomputable def w : World := zcv.1
noncomputable def p : Program := zcv.2.1
noncomputable def loose : List Str := zcv.2.2.1
noncomputable def mean : ExcName → Option Value := zcv.2.2.2.1
noncomputable def mg : Str → Option Value := zcv.2.2.2.2.1
noncomputable def mb : Str → Option Value := zcv.2.2.2.2.2.1
noncomputable def dp : Nat := zcv.2.2.2.2.2.2.1
noncomputable def un : Nat := zcv.2.2.2.2.2.2.2.1
noncomputable def gd : Option (List Code) := zcv.2.2.2.2.2.2.2.2.1
noncomputable def cn : Str := zcv.2.2.2.2.2.2.2.2.2.1
noncomputable def cs : Scope := zcv.2.2.2.2.2.2.2.2.2.2.1
noncomputable def a : Addr := zcv.2.2.2.2.2.2.2.2.2.2.2.1
noncomputable def ccd : Value := zcv.2.2.2.2.2.2.2.2.2.2.2.2.1
noncomputable def cl : List (Str × Addr) := zcv.2.2.2.2.2.2.2.2.2.2.2.2.2.1
noncomputable def outer : List Env := zcv.2.2.2.2.2.2.2.2.2.2.2.2.2.2.1
noncomputable def A₀ : Around := zcv.2.2.2.2.2.2.2.2.2.2.2.2.2.2.2.1
noncomputable def base : Heap := zcv.2.2.2.2.2.2.2.2.2.2.2.2.2.2.2.2.1
noncomputable def h₀ : Heap := zcv.2.2.2.2.2.2.2.2.2.2.2.2.2.2.2.2.2.1
noncomputable def L : Addr := zcv.2.2.2.2.2.2.2.2.2.2.2.2.2.2.2.2.2.2.1
noncomputable def m : Str → Option Value := zcv.2.2.2.2.2.2.2.2.2.2.2.2.2.2.2.2.2.2.2.1
noncomputable def s : Shared := zcv.2.2.2.2.2.2.2.2.2.2.2.2.2.2.2.2.2.2.2.2.1
noncomputable def Q : Value → Shared → Prop := zcv.2.2.2.2.2.2.2.2.2.2.2.2.2.2.2.2.2.2.2.2.2.1
noncomputable def E : Value → Shared → Prop := zcv.2.2.2.2.2.2.2.2.2.2.2.2.2.2.2.2.2.2.2.2.2.2.1
noncomputable def news : List (Addr × Obj) := zcv.2.2.2.2.2.2.2.2.2.2.2.2.2.2.2.2.2.2.2.2.2.2.2.1
noncomputable def l : Addr := zcv.2.2.2.2.2.2.2.2.2.2.2.2.2.2.2.2.2.2.2.2.2.2.2.2.1
noncomputable def fn : Addr := zcv.2.2.2.2.2.2.2.2.2.2.2.2.2.2.2.2.2.2.2.2.2.2.2.2.2.1
noncomputable def vs : List Value := zcv.2.2.2.2.2.2.2.2.2.2.2.2.2.2.2.2.2.2.2.2.2.2.2.2.2.2.1
noncomputable def k : Nat := zcv.2.2.2.2.2.2.2.2.2.2.2.2.2.2.2.2.2.2.2.2.2.2.2.2.2.2.2.1
noncomputable def x : Int := zcv.2.2.2.2.2.2.2.2.2.2.2.2.2.2.2.2.2.2.2.2.2.2.2.2.2.2.2.2.1
noncomputable def tx : Tok := zcv.2.2.2.2.2.2.2.2.2.2.2.2.2.2.2.2.2.2.2.2.2.2.2.2.2.2.2.2.2.1
noncomputable def ks : Nat → Int := zcv.2.2.2.2.2.2.2.2.2.2.2.2.2.2.2.2.2.2.2.2.2.2.2.2.2.2.2.2.2.2.1
noncomputable def oc : Value := zcv.2.2.2.2.2.2.2.2.2.2.2.2.2.2.2.2.2.2.2.2.2.2.2.2.2.2.2.2.2.2.2.1
noncomputable def od : Option Addr := zcv.2.2.2.2.2.2.2.2.2.2.2.2.2.2.2.2.2.2.2.2.2.2.2.2.2.2.2.2.2.2.2.2.1
noncomputable def fd : FuncData := zcv.2.2.2.2.2.2.2.2.2.2.2.2.2.2.2.2.2.2.2.2.2.2.2.2.2.2.2.2.2.2.2.2.2.1
noncomputable def sl : Array (Option Value) := zcv.2.2.2.2.2.2.2.2.2.2.2.2.2.2.2.2.2.2.2.2.2.2.2.2.2.2.2.2.2.2.2.2.2.2
theorem walk1 : bis_spec_St w p loose mean mg mb dp un gd cn cs a ccd cl outer A₀ base h₀ L m s Q E news l fn vs k x tx ks oc od fd sl := by
  intro B F KX T hk N hl hf KF hn hd hu retH
  have mkp : Mk 139 := trivial
  refine lower ?_ hd hu
  revert KX; k_fill; intro KX
  refine wpAny_call ?_
  walk_at "m enter"
  k_steps
  refine Held.in ?_
  refine While_inv2 (hE := ?hE) (fun n m' nw => nw = news ∧ ∃ lo hi : Nat, ∃ tl th, m' (Str.ofString "rows") = some (.ref l) ∧ m' (Str.ofString "x") = some (.int x tx) ∧ m' (Str.ofString "key") = some (.ref fn) ∧ m' (Str.ofString "lo") = some (.int lo tl) ∧ m' (Str.ofString "hi") = some (.int hi th) ∧ lo ≤ hi ∧ hi ≤ vs.length ∧ bisGo (fun i => decide (ks i < x)) (hi - lo) lo hi = bisF (fun i => decide (ks i < x)) vs.length ∧ n = hi - lo) (by k_asm) (by k_asm) ⟨rfl, 0, vs.length, _, _, rfl, rfl, rfl, pinE rfl rfl, pinE rfl (by first | rfl | simp), Nat.zero_le _, Nat.le_refl _, rfl, rfl⟩ ?_
  case hE => passes_own
  rintro n m₁ news₁ h₁ tk₁ F₁ N₁ ⟨rfl, lo, hi, tl, th, p1, p2, p3, p4, p5, hle, hhi, hb, rfl⟩
  have em := pin2 (pin2 (pin2 (pin2 (pin2 (Eq.refl m₁) p1) p2) p3) p4) p5
  rw [em] at F₁
  clear em p1 p2 p3 p4 p5
  by_cases hlt : lo < hi
  · have g1 := mid_ge hlt
    have g2 := mid_lt hlt
    have g3 : (lo + hi) / 2 < vs.length := Nat.lt_of_lt_of_le g2 hhi
    have c0 := mid_c lo hi
    have hm : ((↑lo + ↑hi : Int).fdiv 2).toNat = (lo + hi) / 2 := by rw [c0]; exact Int.toNat_natCast _
    have hm0 : 0 ≤ (↑lo + ↑hi : Int).fdiv 2 ∧ (↑lo + ↑hi : Int).fdiv 2 < ↑hi := by rw [c0]; exact ⟨Int.natCast_nonneg _, Int.ofNat_lt.mpr g2⟩
    obtain ⟨v, hv⟩ : ∃ v, vs[((↑lo + ↑hi : Int).fdiv 2).toNat]? = some v := ⟨_, List.getElem?_eq_getElem (hm.symm ▸ g3)⟩
    have c1 : ((((lo + hi) / 2 + 1 : Nat)) : Int) = (↑lo + ↑hi : Int).fdiv 2 + 1 := by rw [c0]; rfl
    have c2 : ((((lo + hi) / 2 : Nat)) : Int) = (↑lo + ↑hi : Int).fdiv 2 := c0.symm
    k_steps
    · refine ⟨_, _, _, _, _, rfl, by assumption, by assumption, ?_, rfl, (lo + hi) / 2 + 1, hi, _, _, rfl, rfl, rfl, pinE rfl c1, rfl, g2, hhi, ?_, rfl⟩
      · exact dec_l g1 g2
      · rw [← hb]; exact (bisGo_left hlt (decide_eq_true (by rw [← hm]; assumption))).symm
    · refine ⟨_, _, _, _, _, rfl, by assumption, by assumption, ?_, rfl, lo, (lo + hi) / 2, _, _, rfl, rfl, rfl, rfl, pinE rfl c2, g1, Nat.le_of_lt g3, ?_, rfl⟩
      · exact dec_r g1 g2
      · rw [← hb]
        refine (bisGo_right hlt ?_).symm
        rw [decide_eq_true_eq, ← hm]
        exact by assumption
  · k_steps
    rw [show lo = bisF (fun i => decide (ks i < x)) vs.length by rw [← hb, bisGo_end hlt]]
    exact retH _ _ _ (by assumption) (by assumption)
end c_bis_spec
theorem bis_spec {w : World} {p : Program} {loose : List Str} {mean : ExcName → Option Value} {mg : Str → Option Value} {mb : Str → Option Value} {dp : Nat} {un : Nat} {gd : Option (List Code)} {cn : Str} {cs : Scope} {a : Addr} {ccd : Value} {cl : List (Str × Addr)} {outer : List Env} {A₀ : Around} {base : Heap} {h₀ : Heap} {L : Addr} {m : Str → Option Value} {s : Shared} {Q : Value → Shared → Prop} {E : Value → Shared → Prop} (B : Below A₀ base outer h₀) (F : Fr h₀ L s.heap m) (KX : (Mine.hd1.heap_39 w.params).In h₀) (T : Top p loose mean mg mb h₀) (hk : cs.kind = .function) {news : List (Addr × Obj)} {l : Addr} {fn : Addr} {vs : List Value} {k : Nat} {x : Int} {tx : Tok} {ks : Nat → Int} {oc : Value} {od : Option Addr} {fd : FuncData} {sl : Array (Option Value)} (N : News h₀ L s.heap news) (hl : (l, listOf vs.toArray k) ∈ news) (hf : (fn, (⟨oc, od, .func fd, sl⟩ : Obj)) ∈ news) (KF : KeyFn w news fn vs ks) (hn : vs.length ≤ 1000000) (hd : dp ≤ 860) (hu : un ≤ 8600) (retH : ∀ r h' tk', Fr h₀ L h' m → News h₀ L h' news → Q (.int (bisF (fun i => decide (ks i < x)) vs.length : Nat) r) { s with heap := h', toks := tk' }) :
    wpAny (model PySem.Challenge.rw_ji0060_01.row.prog w) (ktrTop dp un gd cn cs L a ccd cl outer) (call (.ref 551) [.ref l, .int x tx] [(Str.ofString "key", .ref fn)]) Q E s :=
  c_bis_spec.zal c_bis_spec.walk1 (w, p, loose, mean, mg, mb, dp, un, gd, cn, cs, a, ccd, cl, outer, A₀, base, h₀, L, m, s, Q, E, news, l, fn, vs, k, x, tx, ks, oc, od, fd, sl) B F KX T hk N hl hf KF hn hd hu retH
section
variable {w : World} {p : Program} {loose : List Str} {mean : ExcName → Option Value} {mg mb : Str → Option Value} {dp un : Nat} {gd : Option (List Code)} {cn : Str} {cs : Scope} {a : Addr} {ccd : Value} {cl : List (Str × Addr)} {outer : List Env} {A₀ : Around} {base h₀ : Heap} {L : Addr} {m : Str → Option Value} {s : Shared} {Q E : Value → Shared → Prop}
  (B : Below A₀ base outer h₀) (F : Fr h₀ L s.heap m) (KX : (Mine.hd1.heap_39 w.params).In h₀) (T : Top p loose mean mg mb h₀) (hk : cs.kind = .function)
include B F KX T hk
end

end
section
section
variable {prog : Program} {w : World} {α : Type} {P : Value → α → Prop} {A : Around} {E : Value → Shared → Prop} {s : Shared} {h₀ : Heap} {L d r : Addr} {m : Str → Option Value} {news : List (Addr × Obj)} {g : Obj → List (Addr × Obj)} {o : Obj} {f : Str → Option α} {n : Nat} {k : Str} {tk : Tok}
noncomputable abbrev viewObj (d : Addr) : Obj := { cls := .type "dict_keys", data := .fields #[.ref d] }
theorem dv_view {Q : Value → Shared → Prop} (F : Fr h₀ L s.heap m) (N : News h₀ L s.heap news) (hp : (d, o) ∈ news) (hd : DictV prog w P o f n) (lo : (d == sysModules) = false)
    (h : ∀ D h', Fr h₀ L h' m → News h₀ L h' ((D, viewObj d) :: news) → (∀ q ∈ news, q.1 < D) → Q (.ref D) { s with heap := h' }) : wpAny (model prog w) A (call (.builtin "dict.keys") [.ref d]) Q E s := by
  obtain ⟨kvs, hd, _, _⟩ := hd
  exact kdl_view_keys F N hp hd lo h
theorem va_isSome {K : Type} [DecidableEq K] (kvs : List (K × Value)) (k : K) : k ∈ kvs.map (·.1) ↔ (valueAt kvs k).isSome = true := by
  unfold valueAt
  rw [Option.isSome_map, List.find?_isSome, List.mem_map]
  constructor
  · rintro ⟨q, hq, rfl⟩; exact ⟨q, hq, by simp⟩
  · rintro ⟨q, hq, e⟩; exact ⟨q, hq, by simpa using e⟩
theorem dv_list {Q : Value → Shared → Prop} (hh : A.handled = none) (F : Fr h₀ L s.heap m) (N : News h₀ L s.heap news) (hr : (r, viewObj d) ∈ news) (hp : (d, o) ∈ news) (hd : DictV prog w P o f n) (hz : n ≤ 16777216)
    (h : ∀ D c h' tk vs (ks : List Str), Fr h₀ L h' m → News h₀ L h' ((D, listOf (List.toArray vs) c) :: news) → (∀ q ∈ news, q.1 < D) → ks.Nodup → vs.length = ks.length → (∀ (j : Nat) v, vs[j]? = some v → ∃ k t, ks[j]? = some k ∧ v = .str k t) → (∀ k : Str, k ∈ ks ↔ (f k).isSome = true) → ks.length ≤ n → Q (.ref D) { s with heap := h', toks := tk }) :
    wpAny (model prog w) A (call (.type "list") [.ref r]) Q E s := by
  obtain ⟨kvs, hd, hn, hf⟩ := hd
  obtain ⟨ep, hat⟩ := (kda_dict N hp hd).dictAt
  refine kdl_N (kdl_keys (knd := PySem.strKind prog w) (kvs := kvs) (ep := ep)) hh F N ⟨⟨_, (N _ hr).1, rfl, rfl⟩, hat⟩ (kdl_size (Nat.le_trans hn hz)) fun B c h' tk vs F' N' l1 hl hv => ?_
  refine h B c h' tk vs (kvs.map (·.1)) F' N' l1 (keysNodup_of_isDictOf hd) (by rw [hl, List.length_map]) (fun j v e => ?_) (fun k => ?_) (by rw [List.length_map]; exact hn)
  · obtain ⟨k, x, hx, hk⟩ := hv j v e
    obtain ⟨t, rfl⟩ := Value.isStrOf_shape hk
    exact ⟨k, t, by rw [List.getElem?_map, hx]; rfl, rfl⟩
  · rw [va_isSome]
    have := hf k
    cases h1 : valueAt kvs k <;> cases h2 : f k <;> rw [h1, h2] at this <;> first | exact this.elim | simp
theorem dv_set_at {v : Value} {x y : α} {Q : Unit → Shared → Prop} (F : Fr h₀ L s.heap m) (N : News h₀ L s.heap news) (U : UpdF d o news g) (hd : DictV prog w P o f n) (hz : n ≤ sizeLine) (hy : f k = some y) (hx : P v x)
    (h : ∀ h' o', Fr h₀ L h' m → News h₀ L h' (g o') → DictV prog w P o' (upd f k (some x)) n → Q () { s with heap := h', toks := s.toks + 1 }) :
    wpAny (model prog w) A (setItem (.ref d) (.str k tk) v) Q E s := by
  obtain ⟨kvs, hd, hn, hf⟩ := hd
  have hk : (valueAt kvs k).isSome = true := by
    have := hf k
    rw [hy] at this
    cases h1 : valueAt kvs k with
    | none => rw [h1] at this; exact this.elim
    | some _ => rfl
  refine kda_set (knd := PySem.strKind _ _) F N U hd (strKind_is _ _ _ _) (Nat.le_trans hn hz) fun h' o' F' N' hd' => ?_
  refine h h' o' F' N' ⟨_, hd', ?_, fun j => ?_⟩
  · unfold stored
    rw [if_pos ?_, List.length_map]
    · exact hn
    · obtain ⟨q, hq, e⟩ := List.mem_map.mp ((va_isSome kvs k).mpr hk)
      exact List.any_eq_true.mpr ⟨q, hq, by simpa using e⟩
  rw [va_stored]
  unfold upd
  split
  · exact hx
  · exact hf j
end
theorem rv_get {prog : Program} {w : World} {A : Around} {E : Value → Shared → Prop} {s : Shared} {h₀ : Heap} {L d l : Addr} {news : List (Addr × Obj)} {o : Obj} {f : Str → Option Addr} {n : Nat} {k : Str} {tk : Tok} {dflt : Value} {Q : Value → Shared → Prop} (N : News h₀ L s.heap news) (hp : (d, o) ∈ news) (hd : RefD prog w o f n) (lo : (d == sysModules) = false) (hk : f k = some l)
    (h : Q (.ref l) { s with toks := s.toks + 1 }) : wpAny (model prog w) A (call (.builtin "dict.get") [.ref d, .str k tk, dflt]) Q E s := by
  refine dv_get N hp hd lo fun v h1 _ => ?_
  rw [show v = .ref l from h1 _ hk]
  exact h
theorem slice_to {vs : List Value} {n : Nat} (h : n ≤ vs.length) : kms_pick vs none (some (n : Int)) = vs.take n := by
  have e : ¬ ((n : Int) < 0) := by omega
  simp [kms_pick, kms_lo, kms_hi, e, Nat.min_eq_left h]
/-- keys of the first i whose time is over are out -/
noncomputable def purgeL {α : Type} (x : Str → Option Int) (t : Int) (ks : List Str) (f : Str → Option α) : Str → Option α := fun k => if k ∈ ks ∧ (x k).getD 0 ≤ t then none else f k
theorem purgeL_nil {α : Type} (x : Str → Option Int) (t : Int) (f : Str → Option α) : purgeL x t [] f = f := by
  funext k; unfold purgeL; rw [if_neg (by simp)]
theorem purgeL_step {α : Type} (x : Str → Option Int) (t : Int) (ks : List Str) (k : Str) (f : Str → Option α) (h : (x k).getD 0 ≤ t) : purgeL x t (ks ++ [k]) f = upd (purgeL x t ks f) k none := by
  funext j
  unfold purgeL upd
  by_cases e : j = k
  · subst e; simp [h]
  · simp [e]
theorem purgeL_skip {α : Type} (x : Str → Option Int) (t : Int) (ks : List Str) (k : Str) (f : Str → Option α) (h : ¬ (x k).getD 0 ≤ t) : purgeL x t (ks ++ [k]) f = purgeL x t ks f := by
  funext j
  unfold purgeL
  by_cases e : j = k
  · subst e; simp [h]
  · simp [e]
theorem purgeL_all {α : Type} (x : Str → Option Int) (t : Int) (ks : List Str) (f : Str → Option α) (h : ∀ k : Str, k ∈ ks ↔ (x k).isSome = true) : purgeL x t ks f = purge x t f := by
  funext k
  unfold purgeL purge
  cases hx : x k with
  | none => rw [if_neg]; rintro ⟨q, _⟩; rw [h k, hx] at q; cases q
  | some y =>
    have hk : k ∈ ks := (h k).mpr (by rw [hx]; rfl)
    by_cases c : y ≤ t
    · rw [if_pos ⟨hk, by simpa using c⟩]; simp [c]
    · rw [if_neg (fun q => c (by simpa using q.2))]; simp [c]

end
section
section
variable {prog : Program} {w : World} {A : Around} {E : Value → Shared → Prop} {Q : Flow → Shared → Prop} {s : Shared} {h₀ : Heap} {env : Env} {body : List Stmt} {m₀ : Str → Option Value} {news : List (Addr × Obj)} {r : Addr} {a₀ b₀ c : Int} {t₀ u₀ v₀ : Tok} {n : Nat}
/-- a range gone through, the loop's target one local name -/
theorem iter_range {x : Str} (J : Nat → (Str → Option Value) → List (Addr × Obj) → Prop) (hh : A.handled = none) (hr : IsRange s.heap r a₀ b₀ c t₀ u₀ v₀) (hsmall : Builtin.Range.small a₀ b₀ c = true) (hn : Builtin.Range.rangeSize a₀ b₀ c = (n : Int))
    (F : Fr h₀ env.locals s.heap m₀) (N : News h₀ env.locals s.heap news) (hj : J 0 m₀ news)
    (turn : ∀ i t m₁ news₁ h tk I oI, i < n → J i m₁ news₁ → (∀ p ∈ news₁, p.1 ≠ I) → (∀ p ∈ news, @LT.lt Nat _ p.1 I) → Fr h₀ env.locals h (fun y => if y = x then some (.int (a₀ + (i : Int) * c) t) else m₁ y) → News h₀ env.locals h ((I, oI) :: news₁) →
      wpAny (model prog w) A (execs body env) (TurnPost h₀ env.locals (J (i + 1)) I oI { s with heap := h, toks := tk } Q) E { s with heap := h, toks := tk })
    (done : ∀ m' news' h tk, J n m' news' → Fr h₀ env.locals h m' → News h₀ env.locals h news' → Q .next { s with heap := h, toks := tk }) :
    wpAny (model prog w) A (pyIter (.ref r)) (fun it s₂ => LoopAtV prog w A h₀ env x body Q E it s₂) E s := by
  refine wpAny_pyIter_range hr hsmall ?_
  refine loop_any (s := { s with heap := _ }) (src := []) J (Walks.range hh s.heap.objs.size a₀ c n) (fun i h st => ⟨_, st⟩) (fun _ _ _ _ q hq => nomatch hq) (Nat.ne_of_lt F.ns.lt) (next_is_new F) (fun p hp => Nat.ne_of_lt (Heap.lt_size (N p hp).1))
    (by show IsRangeIter _ _ _ _ _; rw [hn]; simpa using Heap.get?_push_size _ rfl) (F.push _) (fun p hp => ⟨Heap.get?_push_of_some _ (N p hp).1, (N p hp).2⟩) hj
    (fun i v m₁ news₁ h tk oI hi hP hJ off F₁ N₁ => by obtain ⟨t, rfl⟩ := hP; exact turn i t m₁ news₁ h tk _ oI hi hJ off (fun p hp => Heap.lt_size (N p hp).1) F₁ N₁) (fun m' news' h tk hJ _ F' N' => done m' news' h tk hJ F' N')
/-- a range gone through, whatever name the target is -/
theorem turns_range {y : Str} {py : Pos} (J : Nat → (Str → Option Value) → List (Addr × Obj) → Prop) (hh : A.handled = none) (hr : IsRange s.heap r a₀ b₀ c t₀ u₀ v₀) (hsmall : Builtin.Range.small a₀ b₀ c = true) (hn : Builtin.Range.rangeSize a₀ b₀ c = (n : Int))
    (F : Fr h₀ env.locals s.heap m₀) (N : News h₀ env.locals s.heap news) (hj : J 0 m₀ news)
    (turn : ∀ i t m₁ news₁ h tk I oI, i < n → J i m₁ news₁ → (∀ p ∈ news₁, p.1 ≠ I) → (∀ p ∈ news, @LT.lt Nat _ p.1 I) → Fr h₀ env.locals h m₁ → News h₀ env.locals h ((I, oI) :: news₁) →
      wpAny (model prog w) A (assign (.Name y py) env (.int (a₀ + (i : Int) * c) t)) (fun _ s₃ => wpAny (model prog w) A (execs body env) (TurnPost h₀ env.locals (J (i + 1)) I oI { s with heap := h, toks := tk } Q) E s₃) E { s with heap := h, toks := tk })
    (done : ∀ m' news' h tk, J n m' news' → Fr h₀ env.locals h m' → News h₀ env.locals h news' → Q .next { s with heap := h, toks := tk }) :
    wpAny (model prog w) A (pyIter (.ref r)) (fun it s₂ => TurnsAt prog w A h₀ env (.Name y py) body Q E it s₂) E s := by
  refine wpAny_pyIter_range hr hsmall ?_
  have hltI : ∀ p ∈ news, @LT.lt Nat _ p.1 s.heap.objs.size := fun p hp => Heap.lt_size (N p hp).1
  have hnI : ∀ p ∈ news, p.1 ≠ s.heap.objs.size := fun p hp => Nat.ne_of_lt (hltI p hp)
  have hLI : env.locals ≠ s.heap.objs.size := Nat.ne_of_lt F.ns.lt
  have hI0 : h₀.get? s.heap.objs.size = none := next_is_new F
  refine ⟨s.heap.objs.size, _, _, n, _, _, _, m₀, news, J, rfl, KTurns.ofWalks (Walks.range hh s.heap.objs.size a₀ c n) fun i v s Q E st q => (by show wpAny _ _ (pure ()) _ _ _; exact wpAny_pure q), ?_, ?_, ?_, (by show IsRangeIter _ _ _ _ _; rw [hn]; simpa using Heap.get?_push_size _ rfl), F.push _, fun p hp => ⟨Heap.get?_push_of_some _ (N p hp).1, (N p hp).2⟩, hj, ?_, ?_⟩
  · intro hb
    exact hLI (List.mem_singleton.mp hb)
  · intro b hb
    rw [List.mem_singleton.mp hb]
    exact hI0
  · intro p hp hm
    exact hnI p hp (List.mem_singleton.mp hm)
  · intro i v m₁ news₁ h₁ tk₁ own hin hP hJ hoff hown hget hall hst' F₁ N₁
    obtain ⟨t, rfl⟩ := hP
    obtain ⟨oI, eI⟩ : ∃ o, h₁.get? s.heap.objs.size = some o := ⟨_, hst'⟩
    generalize s.heap.objs.size = I at *
    have mI := hall I (List.mem_singleton.mpr rfl) hI0 _ eI
    have off₁ : ∀ p ∈ news₁, p.1 ≠ I := fun p hp e => hoff p hp (List.mem_singleton.mpr e)
    have N₂ : News h₀ env.locals h₁ ((I, oI) :: news₁) := fun p hp => by
      rcases List.mem_cons.mp hp with e | hp
      · subst e; exact N₁ _ (List.mem_append_left _ mI)
      · exact N₁ p (List.mem_append_right _ hp)
    refine wpAny_mono (turn i t m₁ news₁ h₁ tk₁ I oI hin hJ off₁ hltI F₁ N₂) (fun _ s₃ p₃ => wpAny_mono p₃ (fun f s₂ p => ?_) fun _ _ e => e) fun _ _ e => e
    have fin' : TurnEnd h₀ env.locals (J (i + 1)) I oI { s with heap := h₁, toks := tk₁ } s₂ → LoopStepU h₀ env.locals [I] own (J (i + 1)) { s with heap := h₁, toks := tk₁ } .next s₂ := by
      rintro ⟨h', tk, m', nx, e, F', N', hn, hJ'⟩
      refine ⟨rfl, h', tk, m', nx, e, F', fun p hp => ?_, fun p hp hq => hn p hp (List.mem_singleton.mp hq), hJ'⟩
      rcases List.mem_append.mp hp with ho | hx
      · have e1 : p.1 = I := List.mem_singleton.mp (hown p ho)
        have g1 := hget p ho
        (try dsimp only at g1)
        rw [e1, eI] at g1
        have : p = (I, oI) := Prod.ext e1 (Option.some.inj g1).symm
        rw [this]
        exact N' _ (.head _)
      · exact N' p (.tail _ hx)
    cases f with
    | ret v => exact .ret p
    | brk => exact .brk p
    | next => exact .next (fin' p)
    | cont => exact .cont (fin' p)
  · intro h' tk m' news' F' N' hoff hJ
    exact done m' news' h' tk hJ F' N'
end

end
section
noncomputable def lawDef : Stmt := (PySem.Challenge.pw_ji0060_01.main.body.getLast?).getD (.Pass ⟨0, 0, 0, 0⟩)
noncomputable def lawBody : List Stmt := match lawDef with | .FunctionDef _ _ b _ _ _ _ _ _ _ => b | _ => []
noncomputable def lawScope : Scope := match lawDef with | .FunctionDef _ _ _ _ _ _ sc _ _ _ => sc | _ => { kind := .function, names := [], isGenerator := false, isCoroutine := false }
noncomputable def forBody : Stmt → List Stmt | .For _ _ b _ _ => b | _ => []
/-- the body of the law's first loop -/
noncomputable def turnBody : List Stmt := forBody ((lawBody.find? fun s => match s with | .For .. => true | _ => false).getD (.Pass ⟨0, 0, 0, 0⟩))
/-- the table of code of a method that makes a lambda -/
noncomputable def Tab588 (news : List (Addr × Obj)) (ps : Array Value) : Prop :=
  ps = #[] ∨ ∃ c' oc vs t, ps = #[rawInt 414, rawInt 64, .ref c'] ∧ (c', oc) ∈ news ∧ oc.data = .fields vs ∧ vs[1]? = some (.str (Str.ofString "MemoryStorage.expire_events" ++ ".<locals>." ++ Str.ofString "<lambda>") t)
theorem Tab588.sub {news news' : List (Addr × Obj)} {ps : Array Value} (h : Tab588 news ps) (hs : ∀ q ∈ news, q ∈ news') : Tab588 news' ps := by
  rcases h with rfl | ⟨c', oc, vs, t, e, a, r⟩
  · exact .inl rfl
  · exact .inr ⟨c', oc, vs, t, e, hs _ a, r⟩
/-- what never changes while the law's loop runs -/
structure Fixed (rest : List (Addr × Obj)) (L st S X V clk lim fix mov nowl rA : Addr) (rv : List Value) (kr : Nat) : Prop where
  parts : ∃ dx h1 h2 h3 h4 t1 t2 t3 t4 n oc od fd sl, (st, instObj 691 dx) ∈ rest ∧ (clk, (⟨oc, od, .func fd, sl⟩ : Obj)) ∈ rest ∧
    (dx, dictOf [⟨h1, .str (Str.ofString "clock") t1, .ref clk⟩, ⟨h2, .str (Str.ofString "storage") t2, .ref S⟩, ⟨h3, .str (Str.ofString "expirations") t3, .ref X⟩, ⟨h4, .str (Str.ofString "events") t4, .ref V⟩] n) ∈ rest ∧
    @LT.lt Nat _ dx S ∧ @LT.lt Nat _ st S ∧ @LT.lt Nat _ clk S
  lims : LimAt rest S X V 296 lim st ∧ LimAt rest S X V 241 fix st ∧ LimAt rest S X V 202 mov st
  cell : ∃ oc, (L + 1 + 1, oc) ∈ rest ∧ oc.data = .cell (some (.ref nowl))
  list : (rA, listOf rv.toArray kr) ∈ rest
  tabs : (640, tabObj #[]) ∈ rest ∧ ∃ ps, (710, tabObj ps) ∈ rest
  d1 : @LT.lt Nat _ 588 L
  d2 : @LT.lt Nat _ (L + 1 + 1) nowl
  d3 : @LT.lt Nat _ nowl S
  sx : @LT.lt Nat _ S X
  xv : @LT.lt Nat _ X V
  lS : (S == sysModules) = false
  lX : (X == sysModules) = false
  lV : (V == sysModules) = false
theorem Fixed.sub {rest rest' : List (Addr × Obj)} {L st S X V clk lim fix mov nowl rA : Addr} {rv : List Value} {kr : Nat} (h : Fixed rest L st S X V clk lim fix mov nowl rA rv kr) (hs : ∀ q ∈ rest, q ∈ rest') : Fixed rest' L st S X V clk lim fix mov nowl rA rv kr := by
  obtain ⟨⟨dx, h1, h2, h3, h4, t1, t2, t3, t4, n, oc, od, fd, sl, p1, p2, p3, l⟩, ⟨l1, l2, l3⟩, ⟨oc2, c1, c2⟩, li, ⟨t640, ps, t710⟩, r⟩ := h
  exact ⟨⟨dx, h1, h2, h3, h4, t1, t2, t3, t4, n, oc, od, fd, sl, hs _ p1, hs _ p2, hs _ p3, l⟩, ⟨l1.sub fun q hq _ => hs q hq, l2.sub fun q hq _ => hs q hq, l3.sub fun q hq _ => hs q hq⟩, ⟨oc2, hs _ c1, c2⟩, hs _ li, ⟨hs _ t640, ps, hs _ t710⟩, by assumption, by assumption, by assumption, by assumption, by assumption, by assumption, by assumption, by assumption⟩
/-- the law's names -/
structure Pins (m : Str → Option Value) (amount many : Int) (st lim fix mov lgA rA : Addr) : Prop where
  p1 : ∃ t, m (Str.ofString "amount") = some (.int amount t)
  p2 : ∃ t, m (Str.ofString "many") = some (.int many t)
  p3 : m (Str.ofString "store") = some (.ref st)
  p4 : m (Str.ofString "limiter") = some (.ref lim)
  p5 : m (Str.ofString "fixed") = some (.ref fix)
  p6 : m (Str.ofString "moving") = some (.ref mov)
  p7 : m (Str.ofString "log") = some (.ref lgA)
  p8 : m (Str.ofString "rest") = some (.ref rA)
/-- a ledger's tail is off its heads -/
structure OffH (L S X V nowl lgA : Addr) (rest : List (Addr × Obj)) : Prop where
  ne : @Ne Nat lgA S ∧ @Ne Nat lgA X ∧ @Ne Nat lgA V ∧ @Ne Nat lgA 588 ∧ @Ne Nat lgA (L + 1) ∧ @Ne Nat lgA nowl
  n1 : ∀ q ∈ rest, q.1 ≠ S
  n2 : ∀ q ∈ rest, q.1 ≠ X
  n3 : ∀ q ∈ rest, q.1 ≠ V
  n4 : ∀ q ∈ rest, q.1 ≠ 588
  n5 : ∀ q ∈ rest, q.1 ≠ lgA
  n6 : ∀ q ∈ rest, q.1 ≠ L + 1
  n7 : ∀ q ∈ rest, q.1 ≠ nowl
/-- a limit's key without a window -/
noncomputable def kb (amount many i : Int) : Str := keyOf (sSec i) (sNs i) (sNames i) (sAm i amount) (sMu i many)
noncomputable abbrev LawK (amount many : Int) : Int → Int → Str := fun i n => wkey (kb amount many i) n
noncomputable abbrev LawE (many : Int) : Int → Int := fun i => sLen i many
/-- how many, how large: behind i turns -/
structure Sizes (i : Nat) (lr : List Row) (f : Str → Option Int) (nS nX nV z : Nat) (t : Int) : Prop where
  rows : ∀ r ∈ lr, 0 ≤ r.2.2 ∧ r.2.2 ≤ 100 ∧ 0 ≤ r.2.1 ∧ r.2.1 < 1000000000000
  len : lr.length ≤ i
  fs : ∀ j, 0 ≤ (f j).getD 0 ∧ (f j).getD 0 ≤ 100 * i
  nS : nS ≤ 2 * i
  nX : nX ≤ 2 * i
  nV : nV ≤ 2 * i
  z : z ≤ 1000 * i
  t0 : 1000000 ≤ t
  t1 : t ≤ 2000000000 + 2000 * i
/-- whatever the list tells, the clock tells -/
noncomputable def ClockP (w : World) (clk nowl : Addr) (rest : List (Addr × Obj)) : Prop := ∀ t tt, ∃ ck, ClockOf w ck clk t ∧ ∀ q ∈ ck, q = (nowl, listOf #[.int t tt] 0) ∨ q ∈ rest
theorem ClockP.sub {w : World} {clk nowl : Addr} {rest rest' : List (Addr × Obj)} (h : ClockP w clk nowl rest) (hs : ∀ q ∈ rest, q ∈ rest') : ClockP w clk nowl rest' := fun t tt => by
  obtain ⟨ck, C, hc⟩ := h t tt
  exact ⟨ck, C, fun q hq => (hc q hq).imp id (hs q)⟩
theorem lawStore {w : World} {L st S X V clk lim fix mov nowl rA lgA : Addr} {rv : List Value} {kr : Nat} {t : Int} {tt : Tok} {rest : List (Addr × Obj)} (FX : Fixed rest L st S X V clk lim fix mov nowl rA rv kr) (O : OffH L S X V nowl lgA rest) (ck : ClockP w clk nowl rest) :
    Store w ((nowl, listOf #[.int t tt] 0) :: rest) st S X V clk t := by
  obtain ⟨dx, h1, h2, h3, h4, t1, t2, t3, t4, n, oc, od, fd, sl, p1, p2, p3, l⟩ := FX.parts
  obtain ⟨c, C, hc⟩ := ck t tt
  refine ⟨⟨dx, h1, h2, h3, h4, t1, t2, t3, t4, n, oc, od, fd, sl, .tail _ p1, .tail _ p2, .tail _ p3, l⟩, ⟨c, C, fun q hq => ?_, fun q hq => ?_⟩, FX.sx, FX.xv, FX.lS, FX.lX, FX.lV⟩
  · rcases hc q hq with rfl | h
    · exact .head _
    · exact .tail _ h
  · rcases hc q hq with rfl | h
    · have d3 := FX.d3
      have sx := FX.sx
      have xv := FX.xv
      exact ⟨fun e => by have e' : nowl = S := e; subst e'; omega, fun e => by have e' : nowl = X := e; subst e'; omega, fun e => by have e' : nowl = V := e; subst e'; omega⟩
    · exact ⟨O.n1 q h, O.n2 q h, O.n3 q h⟩
/-- between the turns of the law's loop -/
noncomputable def LawAt (w : World) (amount many : Int) (L st S X V clk lim fix mov nowl rA : Addr) (rv : List Value) (kr : Nat) (i : Nat) (m : Str → Option Value) (nw : List (Addr × Obj)) : Prop :=
  ∃ lgA vs kl lr t tt cwo vcw oS oX oV ps f x evs nS nX nV z rest, nw = (S, oS) :: (X, oX) :: (V, oV) :: (588, tabObj ps) :: (lgA, listOf (List.toArray vs) kl) :: (L + 1, cwo) :: (nowl, listOf #[.int t tt] 0) :: rest ∧
    Fixed rest L st S X V clk lim fix mov nowl rA rv kr ∧ Pins m amount many st lim fix mov lgA rA ∧ OffH L S X V nowl lgA rest ∧ ClockP w clk nowl rest ∧ Tab588 rest ps ∧ cwo.data = .cell vcw ∧ RowsAt rest vs lr ∧
    IntD PySem.Challenge.rw_ji0060_01.row.prog w oS f nS ∧ IntD PySem.Challenge.rw_ji0060_01.row.prog w oX x nX ∧ EvD PySem.Challenge.rw_ji0060_01.row.prog w rest S X V oV evs nV z ∧ Sizes i lr f nS nX nV z t ∧ Agree (LawK amount many) (LawE many) f x lr t
theorem turn_end {w : World} {amount many : Int} {L st S X V clk lim fix mov nowl rA : Addr} {rv : List Value} {kr : Nat} {i : Nat} {m' : Str → Option Value} {h₀ h' : Heap} {s : Shared} {tk : Nat} {I : Addr} {oI : Obj}
    {lgA : Addr} {vs : List Value} {kl : Nat} {lr : List Row} {t : Int} {tt : Tok} {cwo : Obj} {vcw : Option Value} {oS oX oV : Obj} {ps : Array Value} {f x : Str → Option Int} {evs : Str → Option (List (Int × Int))} {nS nX nV z : Nat} {rest : List (Addr × Obj)}
    (F : Fr h₀ L h' m') (N : News h₀ L h' ((I, oI) :: (S, oS) :: (X, oX) :: (V, oV) :: (588, tabObj ps) :: (lgA, listOf (List.toArray vs) kl) :: (L + 1, cwo) :: (nowl, listOf #[.int t tt] 0) :: rest))
    (dI : @LT.lt Nat _ V I) (dl : lgA ≠ I) (nI : ∀ q ∈ rest, q.1 ≠ I)
    (FX : Fixed rest L st S X V clk lim fix mov nowl rA rv kr) (P : Pins m' amount many st lim fix mov lgA rA) (O : OffH L S X V nowl lgA rest) (ck : ClockP w clk nowl rest) (tb : Tab588 rest ps) (hc : cwo.data = .cell vcw) (hr : RowsAt rest vs lr)
    (hS : IntD PySem.Challenge.rw_ji0060_01.row.prog w oS f nS) (hX : IntD PySem.Challenge.rw_ji0060_01.row.prog w oX x nX) (hV : EvD PySem.Challenge.rw_ji0060_01.row.prog w rest S X V oV evs nV z) (sz : Sizes (i + 1) lr f nS nX nV z t) (A : Agree (LawK amount many) (LawE many) f x lr t) :
    TurnEnd h₀ L (LawAt w amount many L st S X V clk lim fix mov nowl rA rv kr (i + 1)) I oI s { s with heap := h', toks := tk } := by
  refine ⟨h', tk, m', _, rfl, F, N, fun p hp => ?_, lgA, vs, kl, lr, t, tt, cwo, vcw, oS, oX, oV, ps, f, x, evs, nS, nX, nV, z, rest, rfl, FX, P, O, ck, tb, hc, hr, hS, hX, hV, sz, A⟩
  have d1 := FX.d1
  have d2 := FX.d2
  have d3 := FX.d3
  have sx := FX.sx
  have xv := FX.xv
  simp only [List.mem_cons] at hp
  rcases hp with rfl | rfl | rfl | rfl | rfl | rfl | rfl | hp
  · show S ≠ I; intro e; subst e; omega
  · show X ≠ I; intro e; subst e; omega
  · show V ≠ I; intro e; subst e; omega
  · show 588 ≠ I; intro e; subst e; omega
  · exact dl
  · show L + 1 ≠ I; intro e; subst e; omega
  · show nowl ≠ I; intro e; subst e; omega
  · exact nI p hp

end
section
section
variable {prog : Program} {w : World} {A : Around} {E : Value → Shared → Prop} {s : Shared} {h₀ : Heap} {L l : Addr} {m : Str → Option Value} {news : List (Addr × Obj)} {g : Obj → List (Addr × Obj)} {v : Value} {n : Nat} {u : Tok}
theorem one_item {value slice : PySem.Expr} {Q : Value → Shared → Prop} (N : News h₀ L s.heap news) (hl : (l, listOf #[v] n) ∈ news) (h : Q v s)
    (hs : subscripted slice false (.ref l) (.int 0 u) = operate [.ref l, .int 0 u] (getItem (.ref l) (.int 0 u)) := by with_unfolding_all rfl) : wpAny (model prog w) A (subscriptTail value slice (.ref l) (.int 0 u)) Q E s :=
  list_tail (News.isList N hl) (getItem_listL (l := [v]) (News.isList N hl) (Int.le_refl _) (by decide) rfl h) hs
theorem append_F {vs : List Value} {x : Value} {Q : Value → Shared → Prop} (F : Fr h₀ L s.heap m) (N : News h₀ L s.heap news) (U : UpdF l (listOf vs.toArray n) news g) (hz : vs.toArray.size ≤ sizeLine)
    (h : ∀ h', Fr h₀ L h' m → News h₀ L h' (g (listOf (vs ++ [x]).toArray (n + 1))) → Q .none { s with heap := h' }) : wpAny (model prog w) A (call (.builtin "list.append") [.ref l, x]) Q E s := by
  obtain ⟨pre, post, rfl, hg, a, b⟩ := U.split
  have z := N (l, listOf vs.toArray n) (List.mem_append.mpr (.inr (.head _)))
  refine append_at (hsz := hz) z.1 fun h' hs ho' => h h' (F.change hs z.2.1 z.2.2) ?_
  rw [hg]
  refine news_set N a b hs ?_
  rw [ho', List.push_toArray]
theorem one_set {v' : Value} {Q : Unit → Shared → Prop} (F : Fr h₀ L s.heap m) (N : News h₀ L s.heap news) (U : UpdF l (listOf #[v] n) news g)
    (h : ∀ h', Fr h₀ L h' m → News h₀ L h' (g (listOf #[v'] n)) → Q () { s with heap := h' }) : wpAny (model prog w) A (setItem (.ref l) (.int 0 u) v') Q E s := by
  obtain ⟨pre, post, rfl, hg, a, b⟩ := U.split
  have z := N (l, listOf #[v] n) (List.mem_append.mpr (.inr (.head _)))
  refine ki_setAt z.1 (Int.le_refl _) (by decide) (by simp) (h _ (F.change (Heap.SameBut.update ..) z.2.1 z.2.2) ?_)
  rw [hg]
  exact ki_turn _ N a b rfl rfl
end
section
variable {h₀ h : Heap} {L : Addr}
theorem exp_order {a b c d e f : Addr × Obj} {rest : List (Addr × Obj)} (N : News h₀ L h (a :: b :: c :: d :: e :: f :: rest)) : News h₀ L h (c :: d :: e :: f :: a :: b :: rest) := fun q hq => by
  refine N q ?_
  simp only [List.mem_cons] at hq ⊢
  rcases hq with e | e | e | e | e | e | e
  · exact .inr (.inr (.inl e))
  · exact .inr (.inr (.inr (.inl e)))
  · exact .inr (.inr (.inr (.inr (.inl e))))
  · exact .inr (.inr (.inr (.inr (.inr (.inl e)))))
  · exact .inl e
  · exact .inr (.inl e)
  · exact .inr (.inr (.inr (.inr (.inr (.inr e)))))
theorem comp_back {x z a b c d e g h1 n : Addr × Obj} {rest : List (Addr × Obj)} (N : News h₀ L h (x :: z :: a :: b :: c :: d :: e :: g :: h1 :: n :: rest)) : News h₀ L h (a :: b :: c :: d :: e :: x :: h1 :: n :: rest) := fun q hq => by
  refine N q ?_
  simp only [List.mem_cons] at hq ⊢
  rcases hq with h | h | h | h | h | h | h | h | h <;> simp [h]
theorem off1_mem {D : Addr} : ∀ {l : List (Addr × Obj)}, LCg.Off1 D l → ∀ p ∈ l, p.1 ≠ D
  | [], _, _, h => nomatch h
  | q :: r, x, p, h => by
    rcases List.mem_cons.mp h with e | h
    · subst e; exact x.1
    · exact off1_mem x.2 p h
theorem move_front {a b : Addr × Obj} {l rest : List (Addr × Obj)} (N : News h₀ L h (b :: a :: (l ++ rest))) : News h₀ L h (l ++ b :: rest) := fun q hq => by
  refine N q ?_
  rcases List.mem_append.mp hq with hq | hq
  · exact .tail _ (.tail _ (List.mem_append_left _ hq))
  rcases List.mem_cons.mp hq with e | hq
  · subst e; exact .head _
  · exact .tail _ (.tail _ (List.mem_append_right _ hq))
theorem off_cons {b : Addr × Obj} {rest : List (Addr × Obj)} {S : Addr} (h : @Ne Nat b.1 S) (hr : ∀ q ∈ rest, q.1 ≠ S) : ∀ q ∈ b :: rest, q.1 ≠ S := fun q hq => by
  rcases List.mem_cons.mp hq with e | hq
  · subst e; exact h
  · exact hr q hq
theorem off_ext {ext rest led : List (Addr × Obj)} {S : Addr} {o : Obj} (h : ∀ p ∈ ext, ∀ q ∈ led, p.1 ≠ q.1) (hm : (S, o) ∈ led) (hr : ∀ q ∈ rest, q.1 ≠ S) : ∀ q ∈ rest ++ ext, q.1 ≠ S := fun q hq => by
  rcases List.mem_append.mp hq with hq | hq
  · exact hr q hq
  · exact h q hq _ hm
theorem off5 {a b c d e : Addr × Obj} {rest : List (Addr × Obj)} {S : Addr} (h1 : @Ne Nat a.1 S) (h2 : @Ne Nat b.1 S) (h3 : @Ne Nat c.1 S) (h4 : @Ne Nat d.1 S) (h5 : @Ne Nat e.1 S) (hr : ∀ q ∈ rest, q.1 ≠ S) : ∀ q ∈ a :: b :: c :: d :: e :: rest, q.1 ≠ S := fun q hq => by
  simp only [List.mem_cons] at hq
  rcases hq with rfl | rfl | rfl | rfl | rfl | hq
  · exact h1
  · exact h2
  · exact h3
  · exact h4
  · exact h5
  · exact hr q hq
end

end
section
theorem said_p_clock : True := by
  k_with "subscriptTail Name Constant ref int" => (k_here; (fail_if_success (fail_if_success (have := (by with_reducible assumption : Mk 144)))); (with_reducible show wpAny _ _ (subscriptTail _ _ (Value.ref _) (Value.int 0 _)) _ _ _); k_dflt (refine' one_item ?zyN ?zyhl ?_; (case zyN => k_asm); (case zyhl => with_reducible assumption); k_whole))
  k_with "eval Name" => (k_here; (fail_if_success (fail_if_success (have := (by with_reducible assumption : Mk 144)))); k_dflt (refine' nameX_F ?zyN ?zyc ?zym ?zyd ?_ ?zya ?zyb; (case zya => rfl); (case zyb => rfl); (case zyN => k_asm); (case zyc => rfl); (case zym => with_reducible assumption); (case zyd => with_reducible assumption); k_whole))
  trivial
/-- the code record that a made lambda hangs on -/
noncomputable def CodeIn (news : List (Addr × Obj)) (c' : Addr) (qual : Str) : Prop := ∃ oc vs t, (c', oc) ∈ news ∧ oc.data = .fields vs ∧ vs[1]? = some (.str qual t)
section
theorem clock_of {w : World} {L nowl clk c' a : Addr} {pm ctv : Value} {oc ocn : Obj} {vs : Array Value} {t : Int} {tt tq : Tok} {qual : Str} {ps : Arguments} {bd : PySem.Expr} {sc : Scope}
    (eps : ps = { posonlyargs := [], args := [], vararg := none, kwonlyargs := [], kw_defaults := [], kwarg := none, defaults := [] })
    (ebd : bd = ((PySem.Expr.Name (Str.ofString "now") { line := 587, col := 34, endLine := 587, endCol := 37 }).Subscript (PySem.Expr.Constant (Const.int 0) 0 { line := 587, col := 38, endLine := 587, endCol := 39 }) { line := 587, col := 34, endLine := 587, endCol := 40 }))
    (esc : sc = { kind := ScopeKind.function, names := [(Str.ofString "now", NameKind.free)], isGenerator := false, isCoroutine := false })
    (hd : oc.data = .fields vs) (hv : vs[1]? = some (.str qual tq)) (hcn : ocn.data = .cell (some (.ref nowl))) :
    ClockOf w [(clk, kla_obj (Str.ofString "<lambda>") qual ps bd sc [(Str.ofString "now", a)] pm c' ctv), (c', oc), (a, ocn), (nowl, listOf #[.int t tt] 0)] clk t := by
  have mkp : Mk 144 := trivial
  subst eps ebd esc
  intro p loose mean mg mb gd cn cs a0 ccd cl outer A₀ base h₀ L0 m s Q E news B F KX T hk N hs ret
  have h1 := hs _ (.head _)
  have h2 := hs _ (.tail _ (.head _))
  have h3 := hs _ (.tail _ (.tail _ (.head _)))
  have h4 := hs _ (.tail _ (.tail _ (.tail _ (.head _))))
  clear hs
  revert KX; k_fill; intro KX
  refine wpAny_call ?_
  refine' kla_code ?k1 ?k2 ?k3 ?k4 ?k5 ?kA ?kF ?kK ?k6 ?k7 ?k8 ?k9 ?kB ?_ ?c2 ?c3 ?c4 ?c5
  case kA => exact rfl
  case kF => exact rfl
  case kK => assumption
  case k1 => k_asm
  case k2 => k_asm
  case k3 => k_asm
  case k4 => k_asm
  case k5 => k_asm
  case k6 => exact h1
  case k7 => exact codeRec_news N h2 hd hv
  case k8 => first | exact Nat.le_of_ble_eq_true rfl | k_room
  case k9 => exact rfl
  case c5 => decide
  case kB => exact locs rfl
  case c2 => exact rfl
  case c3 => exact rfl
  case c4 => exact rfl
  intro g' L' h' FG' F' N' B' X' T'
  (try dsimp only)
  (try k_fold)
  k_steps
  exact ret _ _ _ (by assumption) (by assumption)
end

end
section
theorem said_p_exp : True := by
  k_with "m al" => first | assumption | exact And.right (by assumption) | exact And.right (And.right (by assumption)) | exact And.right (And.right (And.right (by assumption))) | exact And.right (And.right (And.right (And.right (by assumption)))) | exact And.right (And.right (And.right (And.right (And.right (by assumption))))) | exact And.right (And.right (And.right (And.right (And.right (And.right (by assumption)))))) | exact And.right (And.right (And.right (And.right (And.right (And.right (And.right (by assumption))))))) | exact And.right (And.right (And.right (And.right (And.right (And.right (And.right (And.right (by assumption))))))))
  k_with "truthy ref" => (k_here; (fail_if_success (fail_if_success (have := (by with_reducible assumption : Mk 145)))); k_dflt (first
      | (refine' truthy_nil ?zyN ?zyl ?_; (case zyN => k_asm); (case zyl => k_mem); k_whole)
      | (refine' truthy_cons ?zyN ?zyl ?zyn ?_; (case zyN => k_asm); (case zyl => k_mem); (case zyn => omega); k_whole)); (intro tk'; (try dsimp only)))
  k_with "getMethod ref" => (k_here; (fail_if_success (fail_if_success (have := (by with_reducible assumption : Mk 145)))); (with_reducible show wpAny _ _ (getMethod (Value.ref _) (Str.ofString "keys") _) _ _ _); k_dflt (refine dv_method PySem.F.slot_dict_keys PySem.F.type_dict_keys (by k_asm) (by k_mem) (by assumption) ?_))
  k_with "call builtin:dict.keys" => (k_here; (fail_if_success (fail_if_success (have := (by with_reducible assumption : Mk 145)))); k_dflt (refine' dv_view ?zyF ?zyN ?zyhp ?zyhd ?zylo ?_; (case zyF => k_asm); (case zyN => k_asm); (case zyhp => k_mem); (case zyhd => assumption); (case zylo => assumption); k_whole); (intro _ _ _ _ l1; (replace l1 := allLt_of l1); (have l2 := l1); (try dsimp only [AllLt] at l2); (try dsimp only); (try k_sweep)))
  k_with "call type:list" => (k_here; (fail_if_success (fail_if_success (have := (by with_reducible assumption : Mk 145)))); k_dflt (refine' dv_list ?zyhh ?zyF ?zyN ?zyhr ?zyhp ?zyhd ?zyhz ?_; (case zyhh => exact rfl); (case zyF => k_asm); (case zyN => k_asm); (case zyhr => k_mem); (case zyhp => k_mem); (case zyhd => assumption); (case zyhz => omega); k_whole); (intro _ _ _ _ _ _ _ _ l1 _ _ _ _ _; (replace l1 := allLt_of l1); (have l2 := l1); (try dsimp only [AllLt] at l2); (try dsimp only); (try k_sweep)))
  k_with "subscriptTail Name Slice ref ref" => (k_here; (fail_if_success (fail_if_success (have := (by with_reducible assumption : Mk 145)))); k_dflt (refine' kms_slice_lit ?zyF ?zyN ?zyl ?zyp ?zyq ?zye ?_ ?zys ?zyt ?zyz; (case zyF => k_asm); (case zyN => k_asm); (case zyl => exact News.isList (by assumption) (by k_mem)); (case zyp => kmk_part); (case zyq => kmk_part); (case zye => exact slice_to (by assumption)); (case zys => with_unfolding_all rfl); (case zyt => kmk_pure); (case zyz => assumption)); intro D' h' F' N' l1; (replace l1 := allLt_of l1); (have l2 := l1); (try dsimp only [AllLt] at l2); (try dsimp only); (try k_sweep))
  k_with "setItem ref str" => (k_here; (fail_if_success (fail_if_success (have := (by with_reducible assumption : Mk 145)))); k_dflt (refine' dv_set_at ?zyF ?zyN ?zyU ?zyhd ?zyhz ?zyhy ?zyhx ?_; (case zyF => k_asm); (case zyN => k_asm); (case zyU => k_updF); (case zyhd => assumption); (case zyhz => (rw [sizeLine_eq]; omega)); (case zyhy => assumption); (case zyhx => exact rfl); k_whole); (intro h' o' F' N' hd'; (try dsimp only at N'); (try dsimp only); (try k_sweep)))
  k_with "getItem ref str" => (k_here; (fail_if_success (fail_if_success (have := (by with_reducible assumption : Mk 145)))); k_dflt (refine' iv_getItem ?zyN ?zyhp ?zyhd ?zye ?_; (case zyN => k_asm); (case zyhp => k_mem); (case zyhd => assumption); (case zye => assumption); k_whole; intro t'); (try dsimp only))
  k_with "pyIter ref" => (k_here; (fail_if_success (fail_if_success (have := (by with_reducible assumption : Mk 145)))); refine Held.out ?_)
  k_with "call ref" => (k_here; (fail_if_success (fail_if_success (have := (by with_reducible assumption : Mk 145)))); (with_reducible show wpAny _ _ (call (Value.ref 551) _ _) _ _ _); refine Held.out ?_)
  k_with "call builtin:dict.get" => (k_here; (fail_if_success (fail_if_success (have := (by with_reducible assumption : Mk 145)))); k_dflt (refine' rv_get ?zyN ?zyhp ?zyhd ?zylo ?zyhk ?_; (case zyN => k_asm); (case zyhp => k_mem); (case zyhd => assumption); (case zylo => assumption); (case zyhk => assumption); k_whole); (try dsimp only))
  trivial
theorem exp_turn {g h : Heap} {L : Addr} {d f c l i a b v t : Addr × Obj} {R ext frz1 : List (Addr × Obj)} (NN : News g L h (d :: f :: c :: l :: i :: a :: b :: v :: t :: R)) (eR : R = ext ++ frz1) (hD : AllLt d.1 R) (hC : AllLt c.1 R) (ho : ∀ p ∈ ext, ∀ q ∈ frz1, p.1 ≠ q.1) :
    News g L h (i :: a :: b :: v :: t :: ((d :: c :: ext) ++ frz1)) ∧ (∀ p ∈ d :: c :: ext, ∀ q ∈ frz1, p.1 ≠ q.1) := by
  subst eR
  refine ⟨fun q hq => NN q ((?_ : ∀ q ∈ i :: a :: b :: v :: t :: d :: c :: (ext ++ frz1), q ∈ _) q hq), fun p hp q hq => ?_⟩
  · iterate 7 (refine subCons (by repeat (first | exact List.Mem.head _ | refine List.Mem.tail _ ?_)) ?_)
    exact fun q hq => .tail _ (.tail _ (.tail _ (.tail _ (.tail _ (.tail _ (.tail _ (.tail _ (.tail _ hq))))))))
  · rcases List.mem_cons.mp hp with rfl | hp
    · exact Nat.ne_of_gt (allLt_mem hD q (List.mem_append_right _ hq))
    rcases List.mem_cons.mp hp with rfl | hp
    · exact Nat.ne_of_gt (allLt_mem hC q (List.mem_append_right _ hq))
    · exact ho p hp q hq
theorem exp_turn2 {g h : Heap} {L : Addr} {d f l i a b v t : Addr × Obj} {R ext frz1 : List (Addr × Obj)} (NN : News g L h (d :: f :: l :: i :: a :: b :: v :: t :: R)) (eR : R = ext ++ frz1) (hD : AllLt d.1 R) (ho : ∀ p ∈ ext, ∀ q ∈ frz1, p.1 ≠ q.1) :
    News g L h (i :: a :: b :: v :: t :: ((d :: ext) ++ frz1)) ∧ (∀ p ∈ d :: ext, ∀ q ∈ frz1, p.1 ≠ q.1) := by
  subst eR
  refine ⟨fun q hq => NN q ((?_ : ∀ q ∈ i :: a :: b :: v :: t :: d :: (ext ++ frz1), q ∈ _) q hq), fun p hp q hq => ?_⟩
  · iterate 6 (refine subCons (by repeat (first | exact List.Mem.head _ | refine List.Mem.tail _ ?_)) ?_)
    exact fun q hq => .tail _ (.tail _ (.tail _ (.tail _ (.tail _ (.tail _ (.tail _ (.tail _ hq)))))))
  · rcases List.mem_cons.mp hp with rfl | hp
    · exact Nat.ne_of_gt (allLt_mem hD q (List.mem_append_right _ hq))
    · exact ho p hp q hq
section
variable {prog : Program} {w : World} {A : Around} {E : Value → Shared → Prop} {s : Shared} {h₀ : Heap} {L l : Addr} {k : Nat} {news : List (Addr × Obj)} {Q : Bool → Shared → Prop}
theorem truthy_nil (N : News h₀ L s.heap news) (hl : (l, listOf (List.toArray []) k) ∈ news) (h : ∀ tk, Q false { s with toks := tk }) : wpAny (model prog w) A (truthy (.ref l)) Q E s :=
  wpAny_truthy_list (News.isList N hl) (by decide) (h _)
theorem truthy_cons {u : Value} {us : List Value} (N : News h₀ L s.heap news) (hl : (l, listOf (List.toArray (u :: us)) k) ∈ news) (hn : (u :: us).length ≤ 1000000) (h : ∀ tk, Q true { s with toks := tk }) : wpAny (model prog w) A (truthy (.ref l)) Q E s :=
  wpAny_truthy_list (News.isList N hl) (by rw [List.size_toArray]; omega) (by
    have e : (!(List.toArray (u :: us)).isEmpty) = true := by simp
    rw [e]; exact h _)
end
section
variable {w : World} {p : Program} {loose : List Str} {mean : ExcName → Option Value} {mg mb : Str → Option Value} {dp un : Nat} {gd : Option (List Code)} {cn : Str} {cs : Scope} {a : Addr} {ccd : Value} {cl : List (Str × Addr)} {outer : List Env} {A₀ : Around} {base h₀ : Heap} {L : Addr} {m : Str → Option Value} {s : Shared} {Q E : Value → Shared → Prop}
  (B : Below A₀ base outer h₀) (F : Fr h₀ L s.heap m) (KX : (Mine.hd1.heap_39 w.params).In h₀) (T : Top p loose mean mg mb h₀) (hk : cs.kind = .function)
include B F KX T hk

end
noncomputable def exp_spec_St (w : World) (p : Program) (loose : List Str) (mean : ExcName → Option Value) (mg : Str → Option Value) (mb : Str → Option Value) (dp : Nat) (un : Nat) (gd : Option (List Code)) (cn : Str) (cs : Scope) (a : Addr) (ccd : Value) (cl : List (Str × Addr)) (outer : List Env) (A₀ : Around) (base : Heap) (h₀ : Heap) (L : Addr) (m : Str → Option Value) (s : Shared) (Q : Value → Shared → Prop) (E : Value → Shared → Prop) (frz : List (Addr × Obj)) (evl : List (Addr × Obj)) (oS : Obj) (oX : Obj) (oV : Obj) (ps : Array Value) (f : Str → Option Int) (x : Str → Option Int) (evs : Str → Option (List (Int × Int))) (nS : Nat) (nX : Nat) (nV : Nat) (z : Nat) (st : Addr) (S : Addr) (X : Addr) (V : Addr) (clk : Addr) (t : Int) : Prop := ∀ (B : Below A₀ base outer h₀) (F : Fr h₀ L s.heap m) (KX : (Mine.hd1.heap_39 w.params).In h₀) (T : Top p loose mean mg mb h₀) (hk : cs.kind = .function) (CD : CodeHd base 592 588) (N : News h₀ L s.heap ((S, oS) :: (X, oX) :: (V, oV) :: (588, tabObj ps) :: frz)) (O : Store w frz st S X V clk t) (n1 : ∀ q ∈ frz, q.1 ≠ S) (n2 : ∀ q ∈ frz, q.1 ≠ X) (n3 : ∀ q ∈ frz, q.1 ≠ V) (n4 : ∀ q ∈ frz, q.1 ≠ 588) (d4 : @LT.lt Nat _ 588 S) (hS : IntD PySem.Challenge.rw_ji0060_01.row.prog w oS f nS) (hX : IntD PySem.Challenge.rw_ji0060_01.row.prog w oX x nX) (hevl : ∀ q ∈ evl, q ∈ frz) (hV : EvD PySem.Challenge.rw_ji0060_01.row.prog w evl S X V oV evs nV z) (TB : Tab588 evl ps) (zS : nS ≤ 1000000) (zX : nX ≤ 1000000) (zV : nV ≤ 1000000) (zz : z ≤ 1000000) (ht0 : 0 ≤ t) (ht : t < 1000000000000) (hd : dp ≤ 840) (hu : un ≤ 8400) (retH : ∀ ext oS' oX' oV' ps' evs' h' tk', Fr h₀ L h' m → News h₀ L h' ((S, oS') :: (X, oX') :: (V, oV') :: (588, tabObj ps') :: (ext ++ frz)) → (∀ p ∈ ext, p.1 ≠ S ∧ p.1 ≠ X ∧ p.1 ≠ V ∧ p.1 ≠ 588) → (∀ p ∈ ext, ∀ q ∈ frz, p.1 ≠ q.1) → IntD PySem.Challenge.rw_ji0060_01.row.prog w oS' (purge x t f) nS → IntD PySem.Challenge.rw_ji0060_01.row.prog w oX' (purge x t x) nX → EvD PySem.Challenge.rw_ji0060_01.row.prog w (ext ++ evl) S X V oV' evs' nV z → Tab588 (ext ++ evl) ps' → Q .none { s with heap := h', toks := tk' }), wpAny (model PySem.Challenge.rw_ji0060_01.row.prog w) (ktrTop dp un gd cn cs L a ccd cl outer) (call (.ref 593) [.ref st]) Q E s
namespace c_exp_spec
noncomputable def zcv : (World) × (Program) × (List Str) × (ExcName → Option Value) × (Str → Option Value) × (Str → Option Value) × (Nat) × (Nat) × (Option (List Code)) × (Str) × (Scope) × (Addr) × (Value) × (List (Str × Addr)) × (List Env) × (Around) × (Heap) × (Heap) × (Addr) × (Str → Option Value) × (Shared) × (Value → Shared → Prop) × (Value → Shared → Prop) × (List (Addr × Obj)) × (List (Addr × Obj)) × (Obj) × (Obj) × (Obj) × (Array Value) × (Str → Option Int) × (Str → Option Int) × (Str → Option (List (Int × Int))) × (Nat) × (Nat) × (Nat) × (Nat) × (Addr) × (Addr) × (Addr) × (Addr) × (Addr) × (Int) := pick (neP neW (neP inferInstance (neP inferInstance (neP inferInstance (neP inferInstance (neP inferInstance (neP inferInstance (neP inferInstance (neP inferInstance (neP inferInstance (neP inferInstance (neP inferInstance (neP inferInstance (neP inferInstance (neP inferInstance (neP neA (neP inferInstance (neP inferInstance (neP inferInstance (neP inferInstance (neP neS (neP inferInstance (neP inferInstance (neP inferInstance (neP inferInstance (neP inferInstance (neP inferInstance (neP inferInstance (neP inferInstance (neP inferInstance (neP inferInstance (neP inferInstance (neP inferInstance (neP inferInstance (neP inferInstance (neP inferInstance (neP inferInstance (neP inferInstance (neP inferInstance (neP inferInstance (neP inferInstance inferInstance))))))))))))))))))))))))))))))))))))))))) (fun v : (World) × (Program) × (List Str) × (ExcName → Option Value) × (Str → Option Value) × (Str → Option Value) × (Nat) × (Nat) × (Option (List Code)) × (Str) × (Scope) × (Addr) × (Value) × (List (Str × Addr)) × (List Env) × (Around) × (Heap) × (Heap) × (Addr) × (Str → Option Value) × (Shared) × (Value → Shared → Prop) × (Value → Shared → Prop) × (List (Addr × Obj)) × (List (Addr × Obj)) × (Obj) × (Obj) × (Obj) × (Array Value) × (Str → Option Int) × (Str → Option Int) × (Str → Option (List (Int × Int))) × (Nat) × (Nat) × (Nat) × (Nat) × (Addr) × (Addr) × (Addr) × (Addr) × (Addr) × (Int) => exp_spec_St (v.1) (v.2.1) (v.2.2.1) (v.2.2.2.1) (v.2.2.2.2.1) (v.2.2.2.2.2.1) (v.2.2.2.2.2.2.1) (v.2.2.2.2.2.2.2.1) (v.2.2.2.2.2.2.2.2.1) (v.2.2.2.2.2.2.2.2.2.1) (v.2.2.2.2.2.2.2.2.2.2.1) (v.2.2.2.2.2.2.2.2.2.2.2.1) (v.2.2.2.2.2.2.2.2.2.2.2.2.1) (v.2.2.2.2.2.2.2.2.2.2.2.2.2.1) (v.2.2.2.2.2.2.2.2.2.2.2.2.2.2.1) (v.2.2.2.2.2.2.2.2.2.2.2.2.2.2.2.1) (v.2.2.2.2.2.2.2.2.2.2.2.2.2.2.2.2.1) (v.2.2.2.2.2.2.2.2.2.2.2.2.2.2.2.2.2.1) (v.2.2.2.2.2.2.2.2.2.2.2.2.2.2.2.2.2.2.1) (v.2.2.2.2.2.2.2.2.2.2.2.2.2.2.2.2.2.2.2.1) (v.2.2.2.2.2.2.2.2.2.2.2.2.2.2.2.2.2.2.2.2.1) (v.2.2.2.2.2.2.2.2.2.2.2.2.2.2.2.2.2.2.2.2.2.1) (v.2.2.2.2.2.2.2.2.2.2.2.2.2.2.2.2.2.2.2.2.2.2.1) (v.2.2.2.2.2.2.2.2.2.2.2.2.2.2.2.2.2.2.2.2.2.2.2.1) (v.2.2.2.2.2.2.2.2.2.2.2.2.2.2.2.2.2.2.2.2.2.2.2.2.1) (v.2.2.2.2.2.2.2.2.2.2.2.2.2.2.2.2.2.2.2.2.2.2.2.2.2.1) (v.2.2.2.2.2.2.2.2.2.2.2.2.2.2.2.2.2.2.2.2.2.2.2.2.2.2.1) (v.2.2.2.2.2.2.2.2.2.2.2.2.2.2.2.2.2.2.2.2.2.2.2.2.2.2.2.1) (v.2.2.2.2.2.2.2.2.2.2.2.2.2.2.2.2.2.2.2.2.2.2.2.2.2.2.2.2.1) (v.2.2.2.2.2.2.2.2.2.2.2.2.2.2.2.2.2.2.2.2.2.2.2.2.2.2.2.2.2.1) (v.2.2.2.2.2.2.2.2.2.2.2.2.2.2.2.2.2.2.2.2.2.2.2.2.2.2.2.2.2.2.1) (v.2.2.2.2.2.2.2.2.2.2.2.2.2.2.2.2.2.2.2.2.2.2.2.2.2.2.2.2.2.2.2.1) (v.2.2.2.2.2.2.2.2.2.2.2.2.2.2.2.2.2.2.2.2.2.2.2.2.2.2.2.2.2.2.2.2.1) (v.2.2.2.2.2.2.2.2.2.2.2.2.2.2.2.2.2.2.2.2.2.2.2.2.2.2.2.2.2.2.2.2.2.1) (v.2.2.2.2.2.2.2.2.2.2.2.2.2.2.2.2.2.2.2.2.2.2.2.2.2.2.2.2.2.2.2.2.2.2.1) (v.2.2.2.2.2.2.2.2.2.2.2.2.2.2.2.2.2.2.2.2.2.2.2.2.2.2.2.2.2.2.2.2.2.2.2.1) (v.2.2.2.2.2.2.2.2.2.2.2.2.2.2.2.2.2.2.2.2.2.2.2.2.2.2.2.2.2.2.2.2.2.2.2.2.1) (v.2.2.2.2.2.2.2.2.2.2.2.2.2.2.2.2.2.2.2.2.2.2.2.2.2.2.2.2.2.2.2.2.2.2.2.2.2.1) (v.2.2.2.2.2.2.2.2.2.2.2.2.2.2.2.2.2.2.2.2.2.2.2.2.2.2.2.2.2.2.2.2.2.2.2.2.2.2.1) (v.2.2.2.2.2.2.2.2.2.2.2.2.2.2.2.2.2.2.2.2.2.2.2.2.2.2.2.2.2.2.2.2.2.2.2.2.2.2.2.1) (v.2.2.2.2.2.2.2.2.2.2.2.2.2.2.2.2.2.2.2.2.2.2.2.2.2.2.2.2.2.2.2.2.2.2.2.2.2.2.2.2.1) (v.2.2.2.2.2.2.2.2.2.2.2.2.2.2.2.2.2.2.2.2.2.2.2.2.2.2.2.2.2.2.2.2.2.2.2.2.2.2.2.2.2)) 0
theorem zal (h : exp_spec_St (zcv.1) (zcv.2.1) (zcv.2.2.1) (zcv.2.2.2.1) (zcv.2.2.2.2.1) (zcv.2.2.2.2.2.1) (zcv.2.2.2.2.2.2.1) (zcv.2.2.2.2.2.2.2.1) (zcv.2.2.2.2.2.2.2.2.1) (zcv.2.2.2.2.2.2.2.2.2.1) (zcv.2.2.2.2.2.2.2.2.2.2.1) (zcv.2.2.2.2.2.2.2.2.2.2.2.1) (zcv.2.2.2.2.2.2.2.2.2.2.2.2.1) (zcv.2.2.2.2.2.2.2.2.2.2.2.2.2.1) (zcv.2.2.2.2.2.2.2.2.2.2.2.2.2.2.1) (zcv.2.2.2.2.2.2.2.2.2.2.2.2.2.2.2.1) (zcv.2.2.2.2.2.2.2.2.2.2.2.2.2.2.2.2.1) (zcv.2.2.2.2.2.2.2.2.2.2.2.2.2.2.2.2.2.1) (zcv.2.2.2.2.2.2.2.2.2.2.2.2.2.2.2.2.2.2.1) (zcv.2.2.2.2.2.2.2.2.2.2.2.2.2.2.2.2.2.2.2.1) (zcv.2.2.2.2.2.2.2.2.2.2.2.2.2.2.2.2.2.2.2.2.1) (zcv.2.2.2.2.2.2.2.2.2.2.2.2.2.2.2.2.2.2.2.2.2.1) (zcv.2.2.2.2.2.2.2.2.2.2.2.2.2.2.2.2.2.2.2.2.2.2.1) (zcv.2.2.2.2.2.2.2.2.2.2.2.2.2.2.2.2.2.2.2.2.2.2.2.1) (zcv.2.2.2.2.2.2.2.2.2.2.2.2.2.2.2.2.2.2.2.2.2.2.2.2.1) (zcv.2.2.2.2.2.2.2.2.2.2.2.2.2.2.2.2.2.2.2.2.2.2.2.2.2.1) (zcv.2.2.2.2.2.2.2.2.2.2.2.2.2.2.2.2.2.2.2.2.2.2.2.2.2.2.1) (zcv.2.2.2.2.2.2.2.2.2.2.2.2.2.2.2.2.2.2.2.2.2.2.2.2.2.2.2.1) (zcv.2.2.2.2.2.2.2.2.2.2.2.2.2.2.2.2.2.2.2.2.2.2.2.2.2.2.2.2.1) (zcv.2.2.2.2.2.2.2.2.2.2.2.2.2.2.2.2.2.2.2.2.2.2.2.2.2.2.2.2.2.1) (zcv.2.2.2.2.2.2.2.2.2.2.2.2.2.2.2.2.2.2.2.2.2.2.2.2.2.2.2.2.2.2.1) (zcv.2.2.2.2.2.2.2.2.2.2.2.2.2.2.2.2.2.2.2.2.2.2.2.2.2.2.2.2.2.2.2.1) (zcv.2.2.2.2.2.2.2.2.2.2.2.2.2.2.2.2.2.2.2.2.2.2.2.2.2.2.2.2.2.2.2.2.1) (zcv.2.2.2.2.2.2.2.2.2.2.2.2.2.2.2.2.2.2.2.2.2.2.2.2.2.2.2.2.2.2.2.2.2.1) (zcv.2.2.2.2.2.2.2.2.2.2.2.2.2.2.2.2.2.2.2.2.2.2.2.2.2.2.2.2.2.2.2.2.2.2.1) (zcv.2.2.2.2.2.2.2.2.2.2.2.2.2.2.2.2.2.2.2.2.2.2.2.2.2.2.2.2.2.2.2.2.2.2.2.1) (zcv.2.2.2.2.2.2.2.2.2.2.2.2.2.2.2.2.2.2.2.2.2.2.2.2.2.2.2.2.2.2.2.2.2.2.2.2.1) (zcv.2.2.2.2.2.2.2.2.2.2.2.2.2.2.2.2.2.2.2.2.2.2.2.2.2.2.2.2.2.2.2.2.2.2.2.2.2.1) (zcv.2.2.2.2.2.2.2.2.2.2.2.2.2.2.2.2.2.2.2.2.2.2.2.2.2.2.2.2.2.2.2.2.2.2.2.2.2.2.1) (zcv.2.2.2.2.2.2.2.2.2.2.2.2.2.2.2.2.2.2.2.2.2.2.2.2.2.2.2.2.2.2.2.2.2.2.2.2.2.2.2.1) (zcv.2.2.2.2.2.2.2.2.2.2.2.2.2.2.2.2.2.2.2.2.2.2.2.2.2.2.2.2.2.2.2.2.2.2.2.2.2.2.2.2.1) (zcv.2.2.2.2.2.2.2.2.2.2.2.2.2.2.2.2.2.2.2.2.2.2.2.2.2.2.2.2.2.2.2.2.2.2.2.2.2.2.2.2.2)) : ∀ u : (World) × (Program) × (List Str) × (ExcName → Option Value) × (Str → Option Value) × (Str → Option Value) × (Nat) × (Nat) × (Option (List Code)) × (Str) × (Scope) × (Addr) × (Value) × (List (Str × Addr)) × (List Env) × (Around) × (Heap) × (Heap) × (Addr) × (Str → Option Value) × (Shared) × (Value → Shared → Prop) × (Value → Shared → Prop) × (List (Addr × Obj)) × (List (Addr × Obj)) × (Obj) × (Obj) × (Obj) × (Array Value) × (Str → Option Int) × (Str → Option Int) × (Str → Option (List (Int × Int))) × (Nat) × (Nat) × (Nat) × (Nat) × (Addr) × (Addr) × (Addr) × (Addr) × (Addr) × (Int), exp_spec_St (u.1) (u.2.1) (u.2.2.1) (u.2.2.2.1) (u.2.2.2.2.1) (u.2.2.2.2.2.1) (u.2.2.2.2.2.2.1) (u.2.2.2.2.2.2.2.1) (u.2.2.2.2.2.2.2.2.1) (u.2.2.2.2.2.2.2.2.2.1) (u.2.2.2.2.2.2.2.2.2.2.1) (u.2.2.2.2.2.2.2.2.2.2.2.1) (u.2.2.2.2.2.2.2.2.2.2.2.2.1) (u.2.2.2.2.2.2.2.2.2.2.2.2.2.1) (u.2.2.2.2.2.2.2.2.2.2.2.2.2.2.1) (u.2.2.2.2.2.2.2.2.2.2.2.2.2.2.2.1) (u.2.2.2.2.2.2.2.2.2.2.2.2.2.2.2.2.1) (u.2.2.2.2.2.2.2.2.2.2.2.2.2.2.2.2.2.1) (u.2.2.2.2.2.2.2.2.2.2.2.2.2.2.2.2.2.2.1) (u.2.2.2.2.2.2.2.2.2.2.2.2.2.2.2.2.2.2.2.1) (u.2.2.2.2.2.2.2.2.2.2.2.2.2.2.2.2.2.2.2.2.1) (u.2.2.2.2.2.2.2.2.2.2.2.2.2.2.2.2.2.2.2.2.2.1) (u.2.2.2.2.2.2.2.2.2.2.2.2.2.2.2.2.2.2.2.2.2.2.1) (u.2.2.2.2.2.2.2.2.2.2.2.2.2.2.2.2.2.2.2.2.2.2.2.1) (u.2.2.2.2.2.2.2.2.2.2.2.2.2.2.2.2.2.2.2.2.2.2.2.2.1) (u.2.2.2.2.2.2.2.2.2.2.2.2.2.2.2.2.2.2.2.2.2.2.2.2.2.1) (u.2.2.2.2.2.2.2.2.2.2.2.2.2.2.2.2.2.2.2.2.2.2.2.2.2.2.1) (u.2.2.2.2.2.2.2.2.2.2.2.2.2.2.2.2.2.2.2.2.2.2.2.2.2.2.2.1) (u.2.2.2.2.2.2.2.2.2.2.2.2.2.2.2.2.2.2.2.2.2.2.2.2.2.2.2.2.1) (u.2.2.2.2.2.2.2.2.2.2.2.2.2.2.2.2.2.2.2.2.2.2.2.2.2.2.2.2.2.1) (u.2.2.2.2.2.2.2.2.2.2.2.2.2.2.2.2.2.2.2.2.2.2.2.2.2.2.2.2.2.2.1) (u.2.2.2.2.2.2.2.2.2.2.2.2.2.2.2.2.2.2.2.2.2.2.2.2.2.2.2.2.2.2.2.1) (u.2.2.2.2.2.2.2.2.2.2.2.2.2.2.2.2.2.2.2.2.2.2.2.2.2.2.2.2.2.2.2.2.1) (u.2.2.2.2.2.2.2.2.2.2.2.2.2.2.2.2.2.2.2.2.2.2.2.2.2.2.2.2.2.2.2.2.2.1) (u.2.2.2.2.2.2.2.2.2.2.2.2.2.2.2.2.2.2.2.2.2.2.2.2.2.2.2.2.2.2.2.2.2.2.1) (u.2.2.2.2.2.2.2.2.2.2.2.2.2.2.2.2.2.2.2.2.2.2.2.2.2.2.2.2.2.2.2.2.2.2.2.1) (u.2.2.2.2.2.2.2.2.2.2.2.2.2.2.2.2.2.2.2.2.2.2.2.2.2.2.2.2.2.2.2.2.2.2.2.2.1) (u.2.2.2.2.2.2.2.2.2.2.2.2.2.2.2.2.2.2.2.2.2.2.2.2.2.2.2.2.2.2.2.2.2.2.2.2.2.1) (u.2.2.2.2.2.2.2.2.2.2.2.2.2.2.2.2.2.2.2.2.2.2.2.2.2.2.2.2.2.2.2.2.2.2.2.2.2.2.1) (u.2.2.2.2.2.2.2.2.2.2.2.2.2.2.2.2.2.2.2.2.2.2.2.2.2.2.2.2.2.2.2.2.2.2.2.2.2.2.2.1) (u.2.2.2.2.2.2.2.2.2.2.2.2.2.2.2.2.2.2.2.2.2.2.2.2.2.2.2.2.2.2.2.2.2.2.2.2.2.2.2.2.1) (u.2.2.2.2.2.2.2.2.2.2.2.2.2.2.2.2.2.2.2.2.2.2.2.2.2.2.2.2.2.2.2.2.2.2.2.2.2.2.2.2.2) := pick_all (P := fun v : (World) × (Program) × (List Str) × (ExcName → Option Value) × (Str → Option Value) × (Str → Option Value) × (Nat) × (Nat) × (Option (List Code)) × (Str) × (Scope) × (Addr) × (Value) × (List (Str × Addr)) × (List Env) × (Around) × (Heap) × (Heap) × (Addr) × (Str → Option Value) × (Shared) × (Value → Shared → Prop) × (Value → Shared → Prop) × (List (Addr × Obj)) × (List (Addr × Obj)) × (Obj) × (Obj) × (Obj) × (Array Value) × (Str → Option Int) × (Str → Option Int) × (Str → Option (List (Int × Int))) × (Nat) × (Nat) × (Nat) × (Nat) × (Addr) × (Addr) × (Addr) × (Addr) × (Addr) × (Int) => exp_spec_St (v.1) (v.2.1) (v.2.2.1) (v.2.2.2.1) (v.2.2.2.2.1) (v.2.2.2.2.2.1) (v.2.2.2.2.2.2.1) (v.2.2.2.2.2.2.2.1) (v.2.2.2.2.2.2.2.2.1) (v.2.2.2.2.2.2.2.2.2.1) (v.2.2.2.2.2.2.2.2.2.2.1) (v.2.2.2.2.2.2.2.2.2.2.2.1) (v.2.2.2.2.2.2.2.2.2.2.2.2.1) (v.2.2.2.2.2.2.2.2.2.2.2.2.2.1) (v.2.2.2.2.2.2.2.2.2.2.2.2.2.2.1) (v.2.2.2.2.2.2.2.2.2.2.2.2.2.2.2.1) (v.2.2.2.2.2.2.2.2.2.2.2.2.2.2.2.2.1) (v.2.2.2.2.2.2.2.2.2.2.2.2.2.2.2.2.2.1) (v.2.2.2.2.2.2.2.2.2.2.2.2.2.2.2.2.2.2.1) (v.2.2.2.2.2.2.2.2.2.2.2.2.2.2.2.2.2.2.2.1) (v.2.2.2.2.2.2.2.2.2.2.2.2.2.2.2.2.2.2.2.2.1) (v.2.2.2.2.2.2.2.2.2.2.2.2.2.2.2.2.2.2.2.2.2.1) (v.2.2.2.2.2.2.2.2.2.2.2.2.2.2.2.2.2.2.2.2.2.2.1) (v.2.2.2.2.2.2.2.2.2.2.2.2.2.2.2.2.2.2.2.2.2.2.2.1) (v.2.2.2.2.2.2.2.2.2.2.2.2.2.2.2.2.2.2.2.2.2.2.2.2.1) (v.2.2.2.2.2.2.2.2.2.2.2.2.2.2.2.2.2.2.2.2.2.2.2.2.2.1) (v.2.2.2.2.2.2.2.2.2.2.2.2.2.2.2.2.2.2.2.2.2.2.2.2.2.2.1) (v.2.2.2.2.2.2.2.2.2.2.2.2.2.2.2.2.2.2.2.2.2.2.2.2.2.2.2.1) (v.2.2.2.2.2.2.2.2.2.2.2.2.2.2.2.2.2.2.2.2.2.2.2.2.2.2.2.2.1) (v.2.2.2.2.2.2.2.2.2.2.2.2.2.2.2.2.2.2.2.2.2.2.2.2.2.2.2.2.2.1) (v.2.2.2.2.2.2.2.2.2.2.2.2.2.2.2.2.2.2.2.2.2.2.2.2.2.2.2.2.2.2.1) (v.2.2.2.2.2.2.2.2.2.2.2.2.2.2.2.2.2.2.2.2.2.2.2.2.2.2.2.2.2.2.2.1) (v.2.2.2.2.2.2.2.2.2.2.2.2.2.2.2.2.2.2.2.2.2.2.2.2.2.2.2.2.2.2.2.2.1) (v.2.2.2.2.2.2.2.2.2.2.2.2.2.2.2.2.2.2.2.2.2.2.2.2.2.2.2.2.2.2.2.2.2.1) (v.2.2.2.2.2.2.2.2.2.2.2.2.2.2.2.2.2.2.2.2.2.2.2.2.2.2.2.2.2.2.2.2.2.2.1) (v.2.2.2.2.2.2.2.2.2.2.2.2.2.2.2.2.2.2.2.2.2.2.2.2.2.2.2.2.2.2.2.2.2.2.2.1) (v.2.2.2.2.2.2.2.2.2.2.2.2.2.2.2.2.2.2.2.2.2.2.2.2.2.2.2.2.2.2.2.2.2.2.2.2.1) (v.2.2.2.2.2.2.2.2.2.2.2.2.2.2.2.2.2.2.2.2.2.2.2.2.2.2.2.2.2.2.2.2.2.2.2.2.2.1) (v.2.2.2.2.2.2.2.2.2.2.2.2.2.2.2.2.2.2.2.2.2.2.2.2.2.2.2.2.2.2.2.2.2.2.2.2.2.2.1) (v.2.2.2.2.2.2.2.2.2.2.2.2.2.2.2.2.2.2.2.2.2.2.2.2.2.2.2.2.2.2.2.2.2.2.2.2.2.2.2.1) (v.2.2.2.2.2.2.2.2.2.2.2.2.2.2.2.2.2.2.2.2.2.2.2.2.2.2.2.2.2.2.2.2.2.2.2.2.2.2.2.2.1) (v.2.2.2.2.2.2.2.2.2.2.2.2.2.2.2.2.2.2.2.2.2.2.2.2.2.2.2.2.2.2.2.2.2.2.2.2.2.2.2.2.2)) h
noncomputable def w : World := zcv.1
noncomputable def p : Program := zcv.2.1
noncomputable def loose : List Str := zcv.2.2.1
noncomputable def mean : ExcName → Option Value := zcv.2.2.2.1
noncomputable def mg : Str → Option Value := zcv.2.2.2.2.1
noncomputable def mb : Str → Option Value := zcv.2.2.2.2.2.1
noncomputable def dp : Nat := zcv.2.2.2.2.2.2.1
noncomputable def un : Nat := zcv.2.2.2.2.2.2.2.1
noncomputable def gd : Option (List Code) := zcv.2.2.2.2.2.2.2.2.1
noncomputable def cn : Str := zcv.2.2.2.2.2.2.2.2.2.1
noncomputable def cs : Scope := zcv.2.2.2.2.2.2.2.2.2.2.1
noncomputable def a : Addr := zcv.2.2.2.2.2.2.2.2.2.2.2.1
noncomputable def ccd : Value := zcv.2.2.2.2.2.2.2.2.2.2.2.2.1
noncomputable def cl : List (Str × Addr) := zcv.2.2.2.2.2.2.2.2.2.2.2.2.2.1
noncomputable def outer : List Env := zcv.2.2.2.2.2.2.2.2.2.2.2.2.2.2.1
noncomputable def A₀ : Around := zcv.2.2.2.2.2.2.2.2.2.2.2.2.2.2.2.1
noncomputable def base : Heap := zcv.2.2.2.2.2.2.2.2.2.2.2.2.2.2.2.2.1
noncomputable def h₀ : Heap := zcv.2.2.2.2.2.2.2.2.2.2.2.2.2.2.2.2.2.1
noncomputable def L : Addr := zcv.2.2.2.2.2.2.2.2.2.2.2.2.2.2.2.2.2.2.1
noncomputable def m : Str → Option Value := zcv.2.2.2.2.2.2.2.2.2.2.2.2.2.2.2.2.2.2.2.1
noncomputable def s : Shared := zcv.2.2.2.2.2.2.2.2.2.2.2.2.2.2.2.2.2.2.2.2.1
noncomputable def Q : Value → Shared → Prop := zcv.2.2.2.2.2.2.2.2.2.2.2.2.2.2.2.2.2.2.2.2.2.1
noncomputable def E : Value → Shared → Prop := zcv.2.2.2.2.2.2.2.2.2.2.2.2.2.2.2.2.2.2.2.2.2.2.1
noncomputable def frz : List (Addr × Obj) := zcv.2.2.2.2.2.2.2.2.2.2.2.2.2.2.2.2.2.2.2.2.2.2.2.1
noncomputable def evl : List (Addr × Obj) := zcv.2.2.2.2.2.2.2.2.2.2.2.2.2.2.2.2.2.2.2.2.2.2.2.2.1
noncomputable def oS : Obj := zcv.2.2.2.2.2.2.2.2.2.2.2.2.2.2.2.2.2.2.2.2.2.2.2.2.2.1
noncomputable def oX : Obj := zcv.2.2.2.2.2.2.2.2.2.2.2.2.2.2.2.2.2.2.2.2.2.2.2.2.2.2.1
noncomputable def oV : Obj := zcv.2.2.2.2.2.2.2.2.2.2.2.2.2.2.2.2.2.2.2.2.2.2.2.2.2.2.2.1
noncomputable def ps : Array Value := zcv.2.2.2.2.2.2.2.2.2.2.2.2.2.2.2.2.2.2.2.2.2.2.2.2.2.2.2.2.1
noncomputable def f : Str → Option Int := zcv.2.2.2.2.2.2.2.2.2.2.2.2.2.2.2.2.2.2.2.2.2.2.2.2.2.2.2.2.2.1
noncomputable def x : Str → Option Int := zcv.2.2.2.2.2.2.2.2.2.2.2.2.2.2.2.2.2.2.2.2.2.2.2.2.2.2.2.2.2.2.1
noncomputable def evs : Str → Option (List (Int × Int)) := zcv.2.2.2.2.2.2.2.2.2.2.2.2.2.2.2.2.2.2.2.2.2.2.2.2.2.2.2.2.2.2.2.1
noncomputable def nS : Nat := zcv.2.2.2.2.2.2.2.2.2.2.2.2.2.2.2.2.2.2.2.2.2.2.2.2.2.2.2.2.2.2.2.2.1
noncomputable def nX : Nat := zcv.2.2.2.2.2.2.2.2.2.2.2.2.2.2.2.2.2.2.2.2.2.2.2.2.2.2.2.2.2.2.2.2.2.1
noncomputable def nV : Nat := zcv.2.2.2.2.2.2.2.2.2.2.2.2.2.2.2.2.2.2.2.2.2.2.2.2.2.2.2.2.2.2.2.2.2.2.1
noncomputable def z : Nat := zcv.2.2.2.2.2.2.2.2.2.2.2.2.2.2.2.2.2.2.2.2.2.2.2.2.2.2.2.2.2.2.2.2.2.2.2.1
noncomputable def st : Addr := zcv.2.2.2.2.2.2.2.2.2.2.2.2.2.2.2.2.2.2.2.2.2.2.2.2.2.2.2.2.2.2.2.2.2.2.2.2.1
noncomputable def S : Addr := zcv.2.2.2.2.2.2.2.2.2.2.2.2.2.2.2.2.2.2.2.2.2.2.2.2.2.2.2.2.2.2.2.2.2.2.2.2.2.1
noncomputable def X : Addr := zcv.2.2.2.2.2.2.2.2.2.2.2.2.2.2.2.2.2.2.2.2.2.2.2.2.2.2.2.2.2.2.2.2.2.2.2.2.2.2.1
noncomputable def V : Addr := zcv.2.2.2.2.2.2.2.2.2.2.2.2.2.2.2.2.2.2.2.2.2.2.2.2.2.2.2.2.2.2.2.2.2.2.2.2.2.2.2.1
noncomputable def clk : Addr := zcv.2.2.2.2.2.2.2.2.2.2.2.2.2.2.2.2.2.2.2.2.2.2.2.2.2.2.2.2.2.2.2.2.2.2.2.2.2.2.2.2.1
noncomputable def t : Int := zcv.2.2.2.2.2.2.2.2.2.2.2.2.2.2.2.2.2.2.2.2.2.2.2.2.2.2.2.2.2.2.2.2.2.2.2.2.2.2.2.2.2
noncomputable def zst2 : {P : ((Str → Option Addr) → (Addr) → (Tok) → (Tok) → (Tok) → (Tok) → (Value) → (Option Addr) → (FuncData) → (Array (Option Value)) → (Heap) → (Addr) → (Heap) → Prop) // Hid (∀ (ev : Str → Option Addr) (dx : Addr) (t1 : Tok) (t2 : Tok) (t3 : Tok) (t4 : Tok) (oc : Value) (od : Option Addr) (fd : FuncData) (sl : Array (Option Value)) (g' : Heap) (L' : Addr) (h' : Heap), P ev dx t1 t2 t3 t4 oc od fd sl g' L' h') → exp_spec_St w p loose mean mg mb dp un gd cn cs a ccd cl outer A₀ base h₀ L m s Q E frz evl oS oX oV ps f x evs nS nX nV z st S X V clk t} := by
  refine' ⟨_, fun HH1 => _⟩
  rotate_left 
  focus
    intro B F KX T hk CD N O n1 n2 n3 n4 d4 hS hX hevl hV TB zS zX zV zz ht0 ht hd hu retH
    refine lower ?_ hd hu
    obtain ⟨ev, hRV, hEV⟩ := id hV
    have O'' := O
    obtain ⟨⟨dx, h1, h2, h3, h4, t1, t2, t3, t4, nn, oc, od, fd, sl, hst, hck, hdx, _, _, _⟩, _, sx, xv, lS, lX, lV⟩ := O''
    revert KX; k_fill; intro KX
    refine wpAny_call ?_
    walk_at "m enter"
    rename_i z0x1 z0x2 z0x3 z0x4
    revert B F T hk CD N O n1 n2 n3 n4 d4 hS hX hevl hV TB zS zX zV zz ht0 ht hd hu retH hRV hEV z0x1 sx xv lS lX lV h1 h2 h3 h4 nn hst hck hdx z0x2 z0x3 z0x4 KX FG' F' N' B' X' T' qk ek
    exact Hid.out HH1 ev dx t1 t2 t3 t4 oc od fd sl g' L' h'
namespace k1
noncomputable def zcv : (Str → Option Addr) × (Addr) × (Tok) × (Tok) × (Tok) × (Tok) × (Value) × (Option Addr) × (FuncData) × (Array (Option Value)) × (Heap) × (Addr) × (Heap) := pick (neP inferInstance (neP inferInstance (neP inferInstance (neP inferInstance (neP inferInstance (neP inferInstance (neP inferInstance (neP inferInstance (neP inferInstance (neP inferInstance (neP inferInstance (neP inferInstance inferInstance)))))))))))) (fun v : (Str → Option Addr) × (Addr) × (Tok) × (Tok) × (Tok) × (Tok) × (Value) × (Option Addr) × (FuncData) × (Array (Option Value)) × (Heap) × (Addr) × (Heap) => zst2.1 (v.1) (v.2.1) (v.2.2.1) (v.2.2.2.1) (v.2.2.2.2.1) (v.2.2.2.2.2.1) (v.2.2.2.2.2.2.1) (v.2.2.2.2.2.2.2.1) (v.2.2.2.2.2.2.2.2.1) (v.2.2.2.2.2.2.2.2.2.1) (v.2.2.2.2.2.2.2.2.2.2.1) (v.2.2.2.2.2.2.2.2.2.2.2.1) (v.2.2.2.2.2.2.2.2.2.2.2.2)) 0
theorem zal (h : zst2.1 (zcv.1) (zcv.2.1) (zcv.2.2.1) (zcv.2.2.2.1) (zcv.2.2.2.2.1) (zcv.2.2.2.2.2.1) (zcv.2.2.2.2.2.2.1) (zcv.2.2.2.2.2.2.2.1) (zcv.2.2.2.2.2.2.2.2.1) (zcv.2.2.2.2.2.2.2.2.2.1) (zcv.2.2.2.2.2.2.2.2.2.2.1) (zcv.2.2.2.2.2.2.2.2.2.2.2.1) (zcv.2.2.2.2.2.2.2.2.2.2.2.2)) : ∀ u : (Str → Option Addr) × (Addr) × (Tok) × (Tok) × (Tok) × (Tok) × (Value) × (Option Addr) × (FuncData) × (Array (Option Value)) × (Heap) × (Addr) × (Heap), zst2.1 (u.1) (u.2.1) (u.2.2.1) (u.2.2.2.1) (u.2.2.2.2.1) (u.2.2.2.2.2.1) (u.2.2.2.2.2.2.1) (u.2.2.2.2.2.2.2.1) (u.2.2.2.2.2.2.2.2.1) (u.2.2.2.2.2.2.2.2.2.1) (u.2.2.2.2.2.2.2.2.2.2.1) (u.2.2.2.2.2.2.2.2.2.2.2.1) (u.2.2.2.2.2.2.2.2.2.2.2.2) := pick_all (P := fun v : (Str → Option Addr) × (Addr) × (Tok) × (Tok) × (Tok) × (Tok) × (Value) × (Option Addr) × (FuncData) × (Array (Option Value)) × (Heap) × (Addr) × (Heap) => zst2.1 (v.1) (v.2.1) (v.2.2.1) (v.2.2.2.1) (v.2.2.2.2.1) (v.2.2.2.2.2.1) (v.2.2.2.2.2.2.1) (v.2.2.2.2.2.2.2.1) (v.2.2.2.2.2.2.2.2.1) (v.2.2.2.2.2.2.2.2.2.1) (v.2.2.2.2.2.2.2.2.2.2.1) (v.2.2.2.2.2.2.2.2.2.2.2.1) (v.2.2.2.2.2.2.2.2.2.2.2.2)) h
noncomputable def ev : Str → Option Addr := zcv.1
noncomputable def dx : Addr := zcv.2.1
noncomputable def t1 : Tok := zcv.2.2.1
noncomputable def t2 : Tok := zcv.2.2.2.1
noncomputable def t3 : Tok := zcv.2.2.2.2.1
noncomputable def t4 : Tok := zcv.2.2.2.2.2.1
noncomputable def oc : Value := zcv.2.2.2.2.2.2.1
noncomputable def od : Option Addr := zcv.2.2.2.2.2.2.2.1
noncomputable def fd : FuncData := zcv.2.2.2.2.2.2.2.2.1
noncomputable def sl : Array (Option Value) := zcv.2.2.2.2.2.2.2.2.2.1
noncomputable def g' : Heap := zcv.2.2.2.2.2.2.2.2.2.2.1
noncomputable def L' : Addr := zcv.2.2.2.2.2.2.2.2.2.2.2.1
noncomputable def h' : Heap := zcv.2.2.2.2.2.2.2.2.2.2.2.2
noncomputable def zst5 : {P : ((Addr) → (Heap) → (Addr) → (Heap) → (List Value) → (List Str) → (Str → Option Value) → (Heap) → (Addr) → (Obj) → (Obj) → (List (Addr × Obj)) → (Str → Option Addr) → (Str → Option (List (Int × Int))) → (Str) → (Tok) → (Addr) → (List (Int × Int)) → Prop) × ((Addr) → (Heap) → (Addr) → (Heap) → (List Value) → (List Str) → (Str → Option Value) → (Heap) → (Obj) → (Array Value) → (List (Addr × Obj)) → (Str → Option Addr) → (Str → Option (List (Int × Int))) → (List (Addr × Obj)) → Prop) // Hid (∀ (Dv : Addr) (hv' : Heap) (D2 : Addr) (h2' : Heap) (vs : List Value) (ks : List Str) (m₁ : Str → Option Value) (h : Heap) (I : Addr) (oI : Obj) (oV' : Obj) (ext : List (Addr × Obj)) (ev' : Str → Option Addr) (evs' : Str → Option (List (Int × Int))) (key : Str) (tk9 : Tok) (l : Addr) (ens : List (Int × Int)), P.1 Dv hv' D2 h2' vs ks m₁ h I oI oV' ext ev' evs' key tk9 l ens) → Hid (∀ (Dv : Addr) (hv' : Heap) (D2 : Addr) (h2' : Heap) (vs : List Value) (ks : List Str) (m1' : Str → Option Value) (h9 : Heap) (oV' : Obj) (ps' : Array Value) (ext : List (Addr × Obj)) (ev' : Str → Option Addr) (evs' : Str → Option (List (Int × Int))) (R : List (Addr × Obj)), P.2 Dv hv' D2 h2' vs ks m1' h9 oV' ps' ext ev' evs' R) → zst2.1 ev dx t1 t2 t3 t4 oc od fd sl g' L' h'} := by
  refine' ⟨(_, _), fun HH3 HH4 => _⟩
  rotate_left 2
  focus
    intro B F T hk CD N O n1 n2 n3 n4 d4 hS hX hevl hV TB zS zX zV zz ht0 ht hd hu retH hRV hEV z0x1 sx xv lS lX lV h1 h2 h3 h4 nn hst hck hdx z0x2 z0x3 z0x4 KX FG' F' N' B' X' T' qk ek
    have mkp : Mk 145 := trivial
    k_steps
    rename_i Dv hv' l0 l00 D2 c2 h2' tk2 vs ks F2 N2 kn kl kv ki kz
    have off9 : ∀ q ∈ (D2, listOf (List.toArray vs) c2) :: (Dv, viewObj V) :: frz, q.1 ≠ S ∧ q.1 ≠ X ∧ q.1 ≠ V ∧ q.1 ≠ 588 := fun q hq => by
      rcases List.mem_cons.mp hq with rfl | hq
      · exact ⟨by show @Ne Nat D2 S; omega, by show @Ne Nat D2 X; omega, by show @Ne Nat D2 V; omega, by show @Ne Nat D2 588; omega⟩
      rcases List.mem_cons.mp hq with rfl | hq
      · exact ⟨by show @Ne Nat Dv S; omega, by show @Ne Nat Dv X; omega, by show @Ne Nat Dv V; omega, by show @Ne Nat Dv 588; omega⟩
      · exact ⟨n1 q hq, n2 q hq, n3 q hq, n4 q hq⟩
    refine Held.in ?_
    refine iter_list (l := D2) (vs := vs) (k := c2) (fun i m' nw => m' (Str.ofString "self") = some (.ref st) ∧ ∃ (oV' : Obj) (ps' : Array Value) (ext : List (Addr × Obj)) (ev' : Str → Option Addr) (evs' : Str → Option (List (Int × Int))), nw = (S, oS) :: (X, oX) :: (V, oV') :: (588, tabObj ps') :: (ext ++ (D2, listOf (List.toArray vs) c2) :: (Dv, viewObj V) :: frz) ∧ (∀ q ∈ ext, q.1 ≠ S ∧ q.1 ≠ X ∧ q.1 ≠ V ∧ q.1 ≠ 588) ∧ (∀ p ∈ ext, ∀ q ∈ (D2, listOf (List.toArray vs) c2) :: (Dv, viewObj V) :: frz, p.1 ≠ q.1) ∧ RefD PySem.Challenge.rw_ji0060_01.row.prog w oV' ev' nV ∧ (∀ k, (ev' k).isSome = (ev k).isSome) ∧ (∀ k, EvK (ext ++ evl) S X V z (ev' k) (evs' k)) ∧ Tab588 (ext ++ evl) ps') rfl (by assumption) (exp_order (by assumption)) ?_ ?_ ?_ ?_
    · rintro i m' nw ⟨_, oV', ps', ext, ev', evs', rfl, _⟩
      exact .tail _ (.tail _ (.tail _ (.tail _ (List.mem_append_right _ (.head _)))))
    · exact ⟨rfl, oV, ps, [], ev, evs, rfl, (fun q hq => nomatch hq), (fun q hq => nomatch hq), hRV, fun _ => rfl, hEV, TB⟩
    · rintro i v m₁ news₁ h tk I oI hv ⟨pself, oV', ps', ext, ev', evs', rfl, hoff, hof2, hR', hsm, hE', TB'⟩ offI ltI F₁ N₁
      obtain ⟨key, tk9, hks, rfl⟩ := kv i v hv
      have hsome : (ev' key).isSome = true := by rw [hsm, ← ki]; exact List.mem_of_getElem? hks
      obtain ⟨l, hl⟩ := Option.isSome_iff_exists.mp hsome
      have hEk := hE' key
      rw [hl] at hEk
      cases hen : evs' key with
      | none => rw [hen] at hEk; exact hEk.elim
      | some ens =>
        rw [hen] at hEk
        obtain ⟨us, un2, hml, hEn, hoffl, hlen⟩ := hEk
        have hR0 : ∀ q ∈ (D2, listOf (List.toArray vs) c2) :: (Dv, viewObj V) :: frz, q.1 ≠ S ∧ q.1 ≠ X ∧ q.1 ≠ V ∧ q.1 ≠ 588 := off9
        have hRR : ∀ q ∈ ext ++ (D2, listOf (List.toArray vs) c2) :: (Dv, viewObj V) :: frz, q.1 ≠ S ∧ q.1 ≠ X ∧ q.1 ≠ V ∧ q.1 ≠ 588 := fun q hq => by
          rcases List.mem_append.mp hq with h | h
          · exact hoff q h
          · exact off9 q h
        have hfr : ∀ q ∈ frz, q ∈ ext ++ (D2, listOf (List.toArray vs) c2) :: (Dv, viewObj V) :: frz := fun q hq => List.mem_append_right _ (.tail _ (.tail _ hq))
        have hee : ∀ q ∈ ext ++ evl, q ∈ ext ++ (D2, listOf (List.toArray vs) c2) :: (Dv, viewObj V) :: frz := fun q hq => by
          rcases List.mem_append.mp hq with h | h
          · exact List.mem_append_left _ h
          · exact hfr q (hevl q h)
        have m5 : ∀ q ∈ ext ++ (D2, listOf (List.toArray vs) c2) :: (Dv, viewObj V) :: frz, q.1 ≠ I := fun q hq => offI q (by repeat (first | exact hq | refine List.Mem.tail _ ?_))
        have hml2 := hee _ hml
        have hEn2 := hEn.sub (news' := ext ++ (D2, listOf (List.toArray vs) c2) :: (Dv, viewObj V) :: frz) fun q hq _ => hee q hq
        have e1 : @Ne Nat S I := offI (S, _) (by k_mem)
        have e2 : @Ne Nat X I := offI (X, _) (by k_mem)
        have e3 : @Ne Nat V I := offI (V, _) (by k_mem)
        have e4 : @Ne Nat 588 I := offI (588, _) (by k_mem)
        have O2 : Store w (ext ++ (D2, listOf (List.toArray vs) c2) :: (Dv, viewObj V) :: frz) st S X V clk t := O.sub fun q hq _ => hfr q hq
        have hst2 := hfr _ hst
        have hdx2 := hfr _ hdx
        have hck2 := hfr _ hck
        have eR : ∃ R, R = ext ++ (D2, listOf (List.toArray vs) c2) :: (Dv, viewObj V) :: frz := ⟨_, rfl⟩
        obtain ⟨R, eR⟩ := eR
        rw [← eR] at hRR hml2 hEn2 m5 O2 hst2 hdx2 hck2 N₁
        have m1 : ∀ q ∈ R, q.1 ≠ S := fun q hq => (hRR q hq).1
        have m2 : ∀ q ∈ R, q.1 ≠ X := fun q hq => (hRR q hq).2.1
        have m3 : ∀ q ∈ R, q.1 ≠ V := fun q hq => (hRR q hq).2.2.1
        have m4 : ∀ q ∈ R, q.1 ≠ 588 := fun q hq => (hRR q hq).2.2.2
        have em := pin2 (Eq.refl m₁) pself
        rw [em] at F₁
        clear em pself
        revert B F T hk CD N O n1 n2 n3 n4 d4 hS hX hevl hV TB zS zX zV zz ht0 ht hd hu retH hRV hEV z0x1 sx xv lS lX lV h1 h2 h3 h4 nn hst hck hdx z0x2 z0x3 z0x4 KX FG' B' X' T' qk ek tkN l0 l00 c2 tk2 F2 N2 kn kl kv ki kz l1 l2 off9 i tk ps' hoff hof2 hR' hsm hE' TB' offI ltI hks hv F₁ hsome hl hen us un2 hml hEn hoffl hlen hR0 hfr hee e1 e2 e3 e4 R N₁ hck2 hdx2 hst2 O2 m5 hEn2 hml2 hRR eR m1 m2 m3 m4
        exact Hid.out HH3 Dv hv' D2 h2' vs ks m₁ h I oI oV' ext ev' evs' key tk9 l ens
    · rintro m1' nw1 h9 tk9 ⟨pself, oV', ps', ext, ev', evs', rfl, hoff, hof2, hR', hsm, hE', TB'⟩ F9 N9
      have hRR : ∀ q ∈ ext ++ (D2, listOf (List.toArray vs) c2) :: (Dv, viewObj V) :: frz, q.1 ≠ S ∧ q.1 ≠ X ∧ q.1 ≠ V ∧ q.1 ≠ 588 := fun q hq => by
        rcases List.mem_append.mp hq with h | h
        · exact hoff q h
        · exact off9 q h
      have hfr : ∀ q ∈ frz, q ∈ ext ++ (D2, listOf (List.toArray vs) c2) :: (Dv, viewObj V) :: frz := fun q hq => List.mem_append_right _ (.tail _ (.tail _ hq))
      have O2 : Store w (ext ++ (D2, listOf (List.toArray vs) c2) :: (Dv, viewObj V) :: frz) st S X V clk t := O.sub fun q hq _ => hfr q hq
      have hst2 := hfr _ hst
      have hdx2 := hfr _ hdx
      have hck2 := hfr _ hck
      have eR : ∃ R, R = ext ++ (D2, listOf (List.toArray vs) c2) :: (Dv, viewObj V) :: frz := ⟨_, rfl⟩
      obtain ⟨R, eR⟩ := eR
      rw [← eR] at hRR O2 hst2 hdx2 hck2 N9
      have m1 : ∀ q ∈ R, q.1 ≠ S := fun q hq => (hRR q hq).1
      have m2 : ∀ q ∈ R, q.1 ≠ X := fun q hq => (hRR q hq).2.1
      have m3 : ∀ q ∈ R, q.1 ≠ V := fun q hq => (hRR q hq).2.2.1
      have m4 : ∀ q ∈ R, q.1 ≠ 588 := fun q hq => (hRR q hq).2.2.2
      have em := pin2 (Eq.refl m1') pself
      rw [em] at F9
      clear em pself
      revert B F T hk CD N O n1 n2 n3 n4 d4 hS hX hevl hV TB zS zX zV zz ht0 ht hd hu retH hRV hEV z0x1 sx xv lS lX lV h1 h2 h3 h4 nn hst hck hdx z0x2 z0x3 z0x4 KX FG' B' X' T' qk ek tkN l0 l00 c2 tk2 F2 N2 kn kl kv ki kz l1 l2 off9 tk9 hoff hof2 hR' hsm hE' TB' F9 hfr N9 hck2 hdx2 hst2 O2 hRR eR m1 m2 m3 m4
      exact Hid.out HH4 Dv hv' D2 h2' vs ks m1' h9 oV' ps' ext ev' evs' R
namespace k3
noncomputable def zcv : (Addr) × (Heap) × (Addr) × (Heap) × (List Value) × (List Str) × (Str → Option Value) × (Heap) × (Addr) × (Obj) × (Obj) × (List (Addr × Obj)) × (Str → Option Addr) × (Str → Option (List (Int × Int))) × (Str) × (Tok) × (Addr) × (List (Int × Int)) := pick (neP inferInstance (neP inferInstance (neP inferInstance (neP inferInstance (neP inferInstance (neP inferInstance (neP inferInstance (neP inferInstance (neP inferInstance (neP inferInstance (neP inferInstance (neP inferInstance (neP inferInstance (neP inferInstance (neP inferInstance (neP inferInstance (neP inferInstance inferInstance))))))))))))))))) (fun v : (Addr) × (Heap) × (Addr) × (Heap) × (List Value) × (List Str) × (Str → Option Value) × (Heap) × (Addr) × (Obj) × (Obj) × (List (Addr × Obj)) × (Str → Option Addr) × (Str → Option (List (Int × Int))) × (Str) × (Tok) × (Addr) × (List (Int × Int)) => zst5.1.1 (v.1) (v.2.1) (v.2.2.1) (v.2.2.2.1) (v.2.2.2.2.1) (v.2.2.2.2.2.1) (v.2.2.2.2.2.2.1) (v.2.2.2.2.2.2.2.1) (v.2.2.2.2.2.2.2.2.1) (v.2.2.2.2.2.2.2.2.2.1) (v.2.2.2.2.2.2.2.2.2.2.1) (v.2.2.2.2.2.2.2.2.2.2.2.1) (v.2.2.2.2.2.2.2.2.2.2.2.2.1) (v.2.2.2.2.2.2.2.2.2.2.2.2.2.1) (v.2.2.2.2.2.2.2.2.2.2.2.2.2.2.1) (v.2.2.2.2.2.2.2.2.2.2.2.2.2.2.2.1) (v.2.2.2.2.2.2.2.2.2.2.2.2.2.2.2.2.1) (v.2.2.2.2.2.2.2.2.2.2.2.2.2.2.2.2.2)) 0
theorem zal (h : zst5.1.1 (zcv.1) (zcv.2.1) (zcv.2.2.1) (zcv.2.2.2.1) (zcv.2.2.2.2.1) (zcv.2.2.2.2.2.1) (zcv.2.2.2.2.2.2.1) (zcv.2.2.2.2.2.2.2.1) (zcv.2.2.2.2.2.2.2.2.1) (zcv.2.2.2.2.2.2.2.2.2.1) (zcv.2.2.2.2.2.2.2.2.2.2.1) (zcv.2.2.2.2.2.2.2.2.2.2.2.1) (zcv.2.2.2.2.2.2.2.2.2.2.2.2.1) (zcv.2.2.2.2.2.2.2.2.2.2.2.2.2.1) (zcv.2.2.2.2.2.2.2.2.2.2.2.2.2.2.1) (zcv.2.2.2.2.2.2.2.2.2.2.2.2.2.2.2.1) (zcv.2.2.2.2.2.2.2.2.2.2.2.2.2.2.2.2.1) (zcv.2.2.2.2.2.2.2.2.2.2.2.2.2.2.2.2.2)) : ∀ u : (Addr) × (Heap) × (Addr) × (Heap) × (List Value) × (List Str) × (Str → Option Value) × (Heap) × (Addr) × (Obj) × (Obj) × (List (Addr × Obj)) × (Str → Option Addr) × (Str → Option (List (Int × Int))) × (Str) × (Tok) × (Addr) × (List (Int × Int)), zst5.1.1 (u.1) (u.2.1) (u.2.2.1) (u.2.2.2.1) (u.2.2.2.2.1) (u.2.2.2.2.2.1) (u.2.2.2.2.2.2.1) (u.2.2.2.2.2.2.2.1) (u.2.2.2.2.2.2.2.2.1) (u.2.2.2.2.2.2.2.2.2.1) (u.2.2.2.2.2.2.2.2.2.2.1) (u.2.2.2.2.2.2.2.2.2.2.2.1) (u.2.2.2.2.2.2.2.2.2.2.2.2.1) (u.2.2.2.2.2.2.2.2.2.2.2.2.2.1) (u.2.2.2.2.2.2.2.2.2.2.2.2.2.2.1) (u.2.2.2.2.2.2.2.2.2.2.2.2.2.2.2.1) (u.2.2.2.2.2.2.2.2.2.2.2.2.2.2.2.2.1) (u.2.2.2.2.2.2.2.2.2.2.2.2.2.2.2.2.2) := pick_all (P := fun v : (Addr) × (Heap) × (Addr) × (Heap) × (List Value) × (List Str) × (Str → Option Value) × (Heap) × (Addr) × (Obj) × (Obj) × (List (Addr × Obj)) × (Str → Option Addr) × (Str → Option (List (Int × Int))) × (Str) × (Tok) × (Addr) × (List (Int × Int)) => zst5.1.1 (v.1) (v.2.1) (v.2.2.1) (v.2.2.2.1) (v.2.2.2.2.1) (v.2.2.2.2.2.1) (v.2.2.2.2.2.2.1) (v.2.2.2.2.2.2.2.1) (v.2.2.2.2.2.2.2.2.1) (v.2.2.2.2.2.2.2.2.2.1) (v.2.2.2.2.2.2.2.2.2.2.1) (v.2.2.2.2.2.2.2.2.2.2.2.1) (v.2.2.2.2.2.2.2.2.2.2.2.2.1) (v.2.2.2.2.2.2.2.2.2.2.2.2.2.1) (v.2.2.2.2.2.2.2.2.2.2.2.2.2.2.1) (v.2.2.2.2.2.2.2.2.2.2.2.2.2.2.2.1) (v.2.2.2.2.2.2.2.2.2.2.2.2.2.2.2.2.1) (v.2.2.2.2.2.2.2.2.2.2.2.2.2.2.2.2.2)) h
noncomputable def Dv : Addr := zcv.1
noncomputable def hv' : Heap := zcv.2.1
noncomputable def D2 : Addr := zcv.2.2.1
noncomputable def h2' : Heap := zcv.2.2.2.1
noncomputable def vs : List Value := zcv.2.2.2.2.1
noncomputable def ks : List Str := zcv.2.2.2.2.2.1
noncomputable def m₁ : Str → Option Value := zcv.2.2.2.2.2.2.1
noncomputable def h : Heap := zcv.2.2.2.2.2.2.2.1
noncomputable def I : Addr := zcv.2.2.2.2.2.2.2.2.1
noncomputable def oI : Obj := zcv.2.2.2.2.2.2.2.2.2.1
noncomputable def oV' : Obj := zcv.2.2.2.2.2.2.2.2.2.2.1
noncomputable def ext : List (Addr × Obj) := zcv.2.2.2.2.2.2.2.2.2.2.2.1
noncomputable def ev' : Str → Option Addr := zcv.2.2.2.2.2.2.2.2.2.2.2.2.1
noncomputable def evs' : Str → Option (List (Int × Int)) := zcv.2.2.2.2.2.2.2.2.2.2.2.2.2.1
noncomputable def key : Str := zcv.2.2.2.2.2.2.2.2.2.2.2.2.2.2.1
noncomputable def tk9 : Tok := zcv.2.2.2.2.2.2.2.2.2.2.2.2.2.2.2.1
noncomputable def l : Addr := zcv.2.2.2.2.2.2.2.2.2.2.2.2.2.2.2.2.1
noncomputable def ens : List (Int × Int) := zcv.2.2.2.2.2.2.2.2.2.2.2.2.2.2.2.2.2
theorem walk6 : zst5.1.1 Dv hv' D2 h2' vs ks m₁ h I oI oV' ext ev' evs' key tk9 l ens := by
  intro B F T hk CD N O n1 n2 n3 n4 d4 hS hX hevl hV TB zS zX zV zz ht0 ht hd hu retH hRV hEV z0x1 sx xv lS lX lV h1 h2 h3 h4 nn hst hck hdx z0x2 z0x3 z0x4 KX FG' B' X' T' qk ek tkN l0 l00 c2 tk2 F2 N2 kn kl kv ki kz l1 l2 off9 i tk ps' hoff hof2 hR' hsm hE' TB' offI ltI hks hv F₁ hsome hl hen us un2 hml hEn hoffl hlen hR0 hfr hee e1 e2 e3 e4 R N₁ hck2 hdx2 hst2 O2 m5 hEn2 hml2 hRR eR m1 m2 m3 m4
  have mkp : Mk 145 := trivial
  rcases TB' with rfl | TB'
  · cases us with
    | nil =>
      k_steps
      subst eR
      exact ⟨_, _, _, _, rfl, by assumption, news_of (by assumption) (fun q hq => .tail _ hq), offI, rfl, oV', _, ext, ev', evs', rfl, hoff, hof2, hR', hsm, hE', .inl rfl⟩
    | cons u us =>
      have hz9 : (List.toArray (u :: us)).size ≤ sizeLine := by rw [List.size_toArray, sizeLine_eq]; omega
      have hb9 := bisF_le (fun i => decide (-((ens[i]?).map (·.2)).getD 0 < -t)) (u :: us).length
      k_steps
      refine Held.in ?_
      refine bis_spec (vs := u :: us) (ks := fun i => -((ens[i]?).map (·.2)).getD 0) (by k_asm) (by k_asm) (by k_asm) (by k_asm) rfl (by k_asm) (by k_mem) (by k_mem) ?_ (by omega) (Nat.le_of_ble_eq_true rfl) (Nat.le_of_ble_eq_true rfl) ?_
      · intro p8 loose8 mean8 mg8 mb8 gd8 cn8 cs8 a8 ccd8 cl8 outer8 A8 base8 h08 L8 m8 s8 Q8 E8 i8 v8 B8 F8 X8 T8 hk8 N8 hv8 ret8
        obtain ⟨en8, hen8, ee, ed, eh1, eh2, et1, et2, eta, etx, eN, rfl, hee9, hed9, eo1, eo2⟩ := hEn2.get hv8
        refine wpAny_call ?_
        refine' kla_code ?k1 ?k2 ?k3 ?k4 ?k5 ?kA ?kF ?kK ?k6 ?k7 ?k8 ?k9 ?kB ?_ ?c2 ?c3 ?c4 ?c5
        case kA => exact rfl
        case kF => exact rfl
        case kK => assumption
        case k1 => exact B8
        case k2 => exact F8
        case k3 => exact X8
        case k4 => exact N8
        case k5 => exact T8
        case k6 => exact .head _
        case k7 => exact codeRec_news N8 (.tail _ (.head _)) (by assumption) (by assumption)
        case k8 => first | exact Nat.le_of_ble_eq_true rfl | k_room
        case k9 => exact rfl
        case c5 => decide
        case kB => exact locs rfl
        case c2 => exact rfl
        case c3 => exact rfl
        case c4 => exact rfl
        intro g' L' h' FG' F' N' B' X' T'
        (try dsimp only)
        (try k_fold)
        k_steps
        rw [show -en8.2 = -((ens[i8]?).map (·.2)).getD 0 by rw [hen8]; rfl]
        exact ret8 _ _ _ (by assumption) (by assumption)
      · intro r9 h9 tk9' F9 N9
        k_steps
        refine (fun (RR : RefD PySem.Challenge.rw_ji0060_01.row.prog w _ (upd ev' key (some _)) nV) (dd1 : _ = Data.fields _) => ?_) (by assumption) (by assumption)
        obtain ⟨N8, o8⟩ := exp_turn (by assumption) eR (by walk_at "m al") (by walk_at "m al") hof2
        refine ⟨_, _, _, _, rfl, by assumption, N8, ?_, rfl, _, _, _ :: _ :: ext, upd ev' key (some _), upd evs' key (some (ens.take (bisF (fun i => decide (-((ens[i]?).map (·.2)).getD 0 < -t)) (u :: us).length))), rfl, ?_, o8, RR, ?_, ?_, .inr ⟨_, _, _, _, rfl, .tail _ (.head _), dd1, by assumption⟩⟩
        · intro p hp
          simp only [List.cons_append, List.mem_cons] at hp
          rcases hp with rfl | rfl | rfl | rfl | rfl | rfl | hp
          · exact e1
          · exact e2
          · exact e3
          · exact e4
          · show @Ne Nat _ I; omega
          · show @Ne Nat _ I; omega
          · exact m5 p (by rw [eR]; exact hp)
        · intro q hq
          rcases List.mem_cons.mp hq with rfl | hq
          · exact ⟨by show @Ne Nat _ S; omega, by show @Ne Nat _ X; omega, by show @Ne Nat _ V; omega, by show @Ne Nat _ 588; omega⟩
          rcases List.mem_cons.mp hq with rfl | hq
          · exact ⟨by show @Ne Nat _ S; omega, by show @Ne Nat _ X; omega, by show @Ne Nat _ V; omega, by show @Ne Nat _ 588; omega⟩
          · exact hoff q hq
        · intro k
          by_cases hk9 : k = key
          · subst hk9; rw [upd_same, ← hsm, hl]; rfl
          · rw [upd_other _ _ hk9]; exact hsm k
        · intro k
          by_cases hk9 : k = key
          · subst hk9
            rw [upd_same, upd_same]
            refine ⟨_, _, .head _, (hEn.take _).sub fun q hq _ => .tail _ (.tail _ hq), off_of sx xv (by omega), ?_⟩
            rw [List.length_take]; omega
          · rw [upd_other _ _ hk9, upd_other _ _ hk9]
            exact (hE' k).sub fun q hq _ => .tail _ (.tail _ hq)
  · obtain ⟨c9, oc9, vs9, t9, rfl, hc8, hd9, hv9⟩ := TB'
    have hc9 := hee _ hc8
    rw [← eR] at hc9
    cases us with
    | nil =>
      k_steps
      subst eR
      exact ⟨_, _, _, _, rfl, by assumption, news_of (by assumption) (fun q hq => .tail _ hq), offI, rfl, oV', _, ext, ev', evs', rfl, hoff, hof2, hR', hsm, hE', .inr ⟨c9, oc9, vs9, t9, rfl, hc8, hd9, hv9⟩⟩
    | cons u us =>
      have hz9 : (List.toArray (u :: us)).size ≤ sizeLine := by rw [List.size_toArray, sizeLine_eq]; omega
      have hb9 := bisF_le (fun i => decide (-((ens[i]?).map (·.2)).getD 0 < -t)) (u :: us).length
      k_steps
      refine Held.in ?_
      refine bis_spec (vs := u :: us) (ks := fun i => -((ens[i]?).map (·.2)).getD 0) (by k_asm) (by k_asm) (by k_asm) (by k_asm) rfl (by k_asm) (by k_mem) (by k_mem) ?_ (by omega) (Nat.le_of_ble_eq_true rfl) (Nat.le_of_ble_eq_true rfl) ?_
      · intro p8 loose8 mean8 mg8 mb8 gd8 cn8 cs8 a8 ccd8 cl8 outer8 A8 base8 h08 L8 m8 s8 Q8 E8 i8 v8 B8 F8 X8 T8 hk8 N8 hv8 ret8
        obtain ⟨en8, hen8, ee, ed, eh1, eh2, et1, et2, eta, etx, eN, rfl, hee9, hed9, eo1, eo2⟩ := hEn2.get hv8
        refine wpAny_call ?_
        refine' kla_code ?k1 ?k2 ?k3 ?k4 ?k5 ?kA ?kF ?kK ?k6 ?k7 ?k8 ?k9 ?kB ?_ ?c2 ?c3 ?c4 ?c5
        case kA => exact rfl
        case kF => exact rfl
        case kK => assumption
        case k1 => exact B8
        case k2 => exact F8
        case k3 => exact X8
        case k4 => exact N8
        case k5 => exact T8
        case k6 => exact .head _
        case k7 => exact codeRec_news N8 (by repeat (first | exact hc9 | refine List.Mem.tail _ ?_)) hd9 hv9
        case k8 => first | exact Nat.le_of_ble_eq_true rfl | k_room
        case k9 => exact rfl
        case c5 => decide
        case kB => exact locs rfl
        case c2 => exact rfl
        case c3 => exact rfl
        case c4 => exact rfl
        intro g' L' h' FG' F' N' B' X' T'
        (try dsimp only)
        (try k_fold)
        k_steps
        rw [show -en8.2 = -((ens[i8]?).map (·.2)).getD 0 by rw [hen8]; rfl]
        exact ret8 _ _ _ (by assumption) (by assumption)
      · intro r9 h9 tk9' F9 N9
        k_steps
        refine (fun (RR : RefD PySem.Challenge.rw_ji0060_01.row.prog w _ (upd ev' key (some _)) nV) => ?_) (by assumption)
        obtain ⟨N8, o8⟩ := exp_turn2 (by assumption) eR (by walk_at "m al") hof2
        refine ⟨_, _, _, _, rfl, by assumption, N8, ?_, rfl, _, _, _ :: ext, upd ev' key (some _), upd evs' key (some (ens.take (bisF (fun i => decide (-((ens[i]?).map (·.2)).getD 0 < -t)) (u :: us).length))), rfl, ?_, o8, RR, ?_, ?_, .inr ⟨c9, oc9, vs9, t9, rfl, .tail _ hc8, hd9, hv9⟩⟩
        · intro p hp
          simp only [List.cons_append, List.mem_cons] at hp
          rcases hp with rfl | rfl | rfl | rfl | rfl | hp
          · exact e1
          · exact e2
          · exact e3
          · exact e4
          · show @Ne Nat _ I; omega
          · exact m5 p (by rw [eR]; exact hp)
        · intro q hq
          rcases List.mem_cons.mp hq with rfl | hq
          · exact ⟨by show @Ne Nat _ S; omega, by show @Ne Nat _ X; omega, by show @Ne Nat _ V; omega, by show @Ne Nat _ 588; omega⟩
          · exact hoff q hq
        · intro k
          by_cases hk9 : k = key
          · subst hk9; rw [upd_same, ← hsm, hl]; rfl
          · rw [upd_other _ _ hk9]; exact hsm k
        · intro k
          by_cases hk9 : k = key
          · subst hk9
            rw [upd_same, upd_same]
            refine ⟨_, _, .head _, (hEn.take _).sub fun q hq _ => .tail _ hq, off_of sx xv (by omega), ?_⟩
            rw [List.length_take]; omega
          · rw [upd_other _ _ hk9, upd_other _ _ hk9]
            exact (hE' k).sub fun q hq _ => .tail _ hq
end k3
namespace k4
noncomputable def zcv : (Addr) × (Heap) × (Addr) × (Heap) × (List Value) × (List Str) × (Str → Option Value) × (Heap) × (Obj) × (Array Value) × (List (Addr × Obj)) × (Str → Option Addr) × (Str → Option (List (Int × Int))) × (List (Addr × Obj)) := pick (neP inferInstance (neP inferInstance (neP inferInstance (neP inferInstance (neP inferInstance (neP inferInstance (neP inferInstance (neP inferInstance (neP inferInstance (neP inferInstance (neP inferInstance (neP inferInstance (neP inferInstance inferInstance))))))))))))) (fun v : (Addr) × (Heap) × (Addr) × (Heap) × (List Value) × (List Str) × (Str → Option Value) × (Heap) × (Obj) × (Array Value) × (List (Addr × Obj)) × (Str → Option Addr) × (Str → Option (List (Int × Int))) × (List (Addr × Obj)) => zst5.1.2 (v.1) (v.2.1) (v.2.2.1) (v.2.2.2.1) (v.2.2.2.2.1) (v.2.2.2.2.2.1) (v.2.2.2.2.2.2.1) (v.2.2.2.2.2.2.2.1) (v.2.2.2.2.2.2.2.2.1) (v.2.2.2.2.2.2.2.2.2.1) (v.2.2.2.2.2.2.2.2.2.2.1) (v.2.2.2.2.2.2.2.2.2.2.2.1) (v.2.2.2.2.2.2.2.2.2.2.2.2.1) (v.2.2.2.2.2.2.2.2.2.2.2.2.2)) 0
theorem zal (h : zst5.1.2 (zcv.1) (zcv.2.1) (zcv.2.2.1) (zcv.2.2.2.1) (zcv.2.2.2.2.1) (zcv.2.2.2.2.2.1) (zcv.2.2.2.2.2.2.1) (zcv.2.2.2.2.2.2.2.1) (zcv.2.2.2.2.2.2.2.2.1) (zcv.2.2.2.2.2.2.2.2.2.1) (zcv.2.2.2.2.2.2.2.2.2.2.1) (zcv.2.2.2.2.2.2.2.2.2.2.2.1) (zcv.2.2.2.2.2.2.2.2.2.2.2.2.1) (zcv.2.2.2.2.2.2.2.2.2.2.2.2.2)) : ∀ u : (Addr) × (Heap) × (Addr) × (Heap) × (List Value) × (List Str) × (Str → Option Value) × (Heap) × (Obj) × (Array Value) × (List (Addr × Obj)) × (Str → Option Addr) × (Str → Option (List (Int × Int))) × (List (Addr × Obj)), zst5.1.2 (u.1) (u.2.1) (u.2.2.1) (u.2.2.2.1) (u.2.2.2.2.1) (u.2.2.2.2.2.1) (u.2.2.2.2.2.2.1) (u.2.2.2.2.2.2.2.1) (u.2.2.2.2.2.2.2.2.1) (u.2.2.2.2.2.2.2.2.2.1) (u.2.2.2.2.2.2.2.2.2.2.1) (u.2.2.2.2.2.2.2.2.2.2.2.1) (u.2.2.2.2.2.2.2.2.2.2.2.2.1) (u.2.2.2.2.2.2.2.2.2.2.2.2.2) := pick_all (P := fun v : (Addr) × (Heap) × (Addr) × (Heap) × (List Value) × (List Str) × (Str → Option Value) × (Heap) × (Obj) × (Array Value) × (List (Addr × Obj)) × (Str → Option Addr) × (Str → Option (List (Int × Int))) × (List (Addr × Obj)) => zst5.1.2 (v.1) (v.2.1) (v.2.2.1) (v.2.2.2.1) (v.2.2.2.2.1) (v.2.2.2.2.2.1) (v.2.2.2.2.2.2.1) (v.2.2.2.2.2.2.2.1) (v.2.2.2.2.2.2.2.2.1) (v.2.2.2.2.2.2.2.2.2.1) (v.2.2.2.2.2.2.2.2.2.2.1) (v.2.2.2.2.2.2.2.2.2.2.2.1) (v.2.2.2.2.2.2.2.2.2.2.2.2.1) (v.2.2.2.2.2.2.2.2.2.2.2.2.2)) h
noncomputable def Dv : Addr := zcv.1
noncomputable def hv' : Heap := zcv.2.1
noncomputable def D2 : Addr := zcv.2.2.1
noncomputable def h2' : Heap := zcv.2.2.2.1
noncomputable def vs : List Value := zcv.2.2.2.2.1
noncomputable def ks : List Str := zcv.2.2.2.2.2.1
noncomputable def m1' : Str → Option Value := zcv.2.2.2.2.2.2.1
noncomputable def h9 : Heap := zcv.2.2.2.2.2.2.2.1
noncomputable def oV' : Obj := zcv.2.2.2.2.2.2.2.2.1
noncomputable def ps' : Array Value := zcv.2.2.2.2.2.2.2.2.2.1
noncomputable def ext : List (Addr × Obj) := zcv.2.2.2.2.2.2.2.2.2.2.1
noncomputable def ev' : Str → Option Addr := zcv.2.2.2.2.2.2.2.2.2.2.2.1
noncomputable def evs' : Str → Option (List (Int × Int)) := zcv.2.2.2.2.2.2.2.2.2.2.2.2.1
noncomputable def R : List (Addr × Obj) := zcv.2.2.2.2.2.2.2.2.2.2.2.2.2
theorem walk7 : zst5.1.2 Dv hv' D2 h2' vs ks m1' h9 oV' ps' ext ev' evs' R := by
  intro B F T hk CD N O n1 n2 n3 n4 d4 hS hX hevl hV TB zS zX zV zz ht0 ht hd hu retH hRV hEV z0x1 sx xv lS lX lV h1 h2 h3 h4 nn hst hck hdx z0x2 z0x3 z0x4 KX FG' B' X' T' qk ek tkN l0 l00 c2 tk2 F2 N2 kn kl kv ki kz l1 l2 off9 tk9 hoff hof2 hR' hsm hE' TB' F9 hfr N9 hck2 hdx2 hst2 O2 hRR eR m1 m2 m3 m4
  have mkp : Mk 145 := trivial
  k_steps
  rename_i Ev hv8 j0 j00 E2 e2' h8' tk8 us ks2 F8 N8 gn gl gv gi gz
  refine Held.in ?_
  refine iter_list (l := E2) (vs := us) (k := e2') (fun i m' nw => m' (Str.ofString "self") = some (.ref st) ∧ ∃ (oS' oX' : Obj), nw = (S, oS') :: (X, oX') :: (V, oV') :: (588, tabObj ps') :: (E2, listOf (List.toArray us) e2') :: (Ev, viewObj X) :: R ∧ IntD PySem.Challenge.rw_ji0060_01.row.prog w oS' (purgeL x t (ks2.take i) f) nS ∧ IntD PySem.Challenge.rw_ji0060_01.row.prog w oX' (purgeL x t (ks2.take i) x) nX) rfl (by assumption) (exp_order (by assumption)) ?_ ?_ ?_ ?_
  · rintro i m' nw ⟨_, oS', oX', rfl, _⟩
    exact .tail _ (.tail _ (.tail _ (.tail _ (.head _))))
  · refine ⟨rfl, oS, oX, rfl, ?_, ?_⟩
    · rw [List.take_zero, purgeL_nil]; exact hS
    · rw [List.take_zero, purgeL_nil]; exact hX
  · rintro i v m₁ news₁ h tk I oI hv ⟨pself, oS', oX', rfl, hS', hX'⟩ offI ltI F₁ N₁
    obtain ⟨key, tk7, hks, rfl⟩ := gv i v hv
    have hni : key ∉ ks2.take i := fun hm => by
      obtain ⟨j, hj⟩ := List.getElem?_of_mem hm
      rw [List.getElem?_take] at hj
      split at hj
      · rename_i hlt
        have := (List.getElem?_inj (by exact (List.getElem?_eq_some_iff.mp hj).1) gn).mp (hj.trans hks.symm)
        omega
      · cases hj
    have hxk : (x key).isSome = true := by rw [← gi]; exact List.mem_of_getElem? hks
    obtain ⟨y, hy⟩ := Option.isSome_iff_exists.mp hxk
    have hpx : purgeL x t (ks2.take i) x key = x key := by unfold purgeL; rw [if_neg (fun q => hni q.1)]
    have htk : ks2.take (i + 1) = ks2.take i ++ [key] := by rw [List.take_add_one, hks]; rfl
    have hsm9 : (purgeL x t (ks2.take i) x key).isSome = true := by rw [hpx]; exact hxk
    have e1 : @Ne Nat S I := offI (S, _) (by k_mem)
    have e2 : @Ne Nat X I := offI (X, _) (by k_mem)
    have e3 : @Ne Nat V I := offI (V, _) (by k_mem)
    have e4 : @Ne Nat 588 I := offI (588, _) (by k_mem)
    have e5 : @Ne Nat E2 I := offI (E2, _) (by k_mem)
    have e6 : @Ne Nat Ev I := offI (Ev, _) (by k_mem)
    have m5 : ∀ q ∈ R, q.1 ≠ I := fun q hq => offI q (by repeat (first | exact hq | refine List.Mem.tail _ ?_))
    have em := pin2 (Eq.refl m₁) pself
    rw [em] at F₁
    clear em pself
    have hzS9 : nS ≤ sizeLine := by rw [sizeLine_eq]; omega
    have hzX9 : nX ≤ sizeLine := by rw [sizeLine_eq]; omega
    have hof : ∀ (o1 o2 : Obj), ∀ p ∈ (S, o1) :: (X, o2) :: (V, oV') :: (588, tabObj ps') :: (E2, listOf (List.toArray us) e2') :: (Ev, viewObj X) :: R, p.1 ≠ I := fun o1 o2 p hp => by
      simp only [List.mem_cons] at hp
      rcases hp with rfl | rfl | rfl | rfl | rfl | rfl | hp
      · exact e1
      · exact e2
      · exact e3
      · exact e4
      · exact e5
      · exact e6
      · exact m5 p hp
    k_steps
    · refine (fun (c9 : (purgeL x t (ks2.take i) x key).getD 0 ≤ t) => ?_) (by assumption)
      rw [hpx] at c9
      exact ⟨_, _, _, _, rfl, by assumption, news_of (by assumption) (fun q hq => hq), hof _ _, rfl, _, _, rfl, by rw [htk, purgeL_step x t _ key f c9]; assumption, by rw [htk, purgeL_step x t _ key x c9]; assumption⟩
    · refine (fun (c9 : ¬ (purgeL x t (ks2.take i) x key).getD 0 ≤ t) => ?_) (by assumption)
      rw [hpx] at c9
      exact ⟨_, _, _, _, rfl, by assumption, news_of (by assumption) (fun q hq => hq), hof _ _, rfl, _, _, rfl, by rw [htk, purgeL_skip x t _ key f c9]; assumption, by rw [htk, purgeL_skip x t _ key x c9]; assumption⟩
  · rintro m' nw h tk ⟨pself, oS', oX', rfl, hS', hX'⟩ F₁ N₁
    rw [List.take_of_length_le (Nat.le_of_eq gl.symm), purgeL_all x t ks2 _ gi] at hS' hX'
    have al1 : AllLt E2 R := by walk_at "m al"
    have al2 : AllLt Ev R := by walk_at "m al"
    have al3 : AllLt D2 frz := by walk_at "m al"
    have al4 : AllLt Dv frz := by walk_at "m al"
    have hfR : ∀ q ∈ frz, q ∈ R := fun q hq => by rw [eR]; exact hfr q hq
    k_steps
    refine retH ((E2, listOf (List.toArray us) e2') :: (Ev, viewObj X) :: (ext ++ [(D2, listOf (List.toArray vs) c2), (Dv, viewObj V)])) oS' oX' oV' ps' evs' _ _ (by assumption) (news_of (by assumption) ?_) ?_ ?_ hS' hX' ⟨ev', hR', fun k => (hE' k).sub fun q hq _ => ?_⟩ (TB'.sub fun q hq => ?_)
    · intro q hq
      rw [eR]
      simp only [List.cons_append, List.append_assoc, List.nil_append, List.mem_cons, List.mem_append] at hq ⊢
      rcases hq with h | h | h | h | h | h | h | h | h | h <;> simp [h]
    · intro p hp
      simp only [List.mem_cons, List.mem_append, List.not_mem_nil, or_false] at hp
      rcases hp with rfl | rfl | hp | rfl | rfl
      · exact ⟨by show @Ne Nat E2 S; omega, by show @Ne Nat E2 X; omega, by show @Ne Nat E2 V; omega, by show @Ne Nat E2 588; omega⟩
      · exact ⟨by show @Ne Nat Ev S; omega, by show @Ne Nat Ev X; omega, by show @Ne Nat Ev V; omega, by show @Ne Nat Ev 588; omega⟩
      · exact hoff p hp
      · exact off9 _ (.head _)
      · exact off9 _ (.tail _ (.head _))
    · intro p hp q hq
      simp only [List.mem_cons, List.mem_append, List.not_mem_nil, or_false] at hp
      rcases hp with rfl | rfl | hp | rfl | rfl
      · exact Nat.ne_of_gt (allLt_mem al1 q (hfR q hq))
      · exact Nat.ne_of_gt (allLt_mem al2 q (hfR q hq))
      · exact hof2 p hp q (.tail _ (.tail _ hq))
      · exact Nat.ne_of_gt (allLt_mem al3 q hq)
      · exact Nat.ne_of_gt (allLt_mem al4 q hq)
    · rcases List.mem_append.mp hq with h | h
      · exact List.mem_append_left _ (.tail _ (.tail _ (List.mem_append_left _ h)))
      · exact List.mem_append_right _ h
    · rcases List.mem_append.mp hq with h | h
      · exact List.mem_append_left _ (.tail _ (.tail _ (List.mem_append_left _ h)))
      · exact List.mem_append_right _ h
end k4
theorem up8 : zst2.1 ev dx t1 t2 t3 t4 oc od fd sl g' L' h' := zst5.2 (fun Dv hv' D2 h2' vs ks m₁ h I oI oV' ext ev' evs' key tk9 l ens => k3.zal k3.walk6 (Dv, hv', D2, h2', vs, ks, m₁, h, I, oI, oV', ext, ev', evs', key, tk9, l, ens)) (fun Dv hv' D2 h2' vs ks m1' h9 oV' ps' ext ev' evs' R => k4.zal k4.walk7 (Dv, hv', D2, h2', vs, ks, m1', h9, oV', ps', ext, ev', evs', R))
end k1
theorem up9 : exp_spec_St w p loose mean mg mb dp un gd cn cs a ccd cl outer A₀ base h₀ L m s Q E frz evl oS oX oV ps f x evs nS nX nV z st S X V clk t := zst2.2 (fun ev dx t1 t2 t3 t4 oc od fd sl g' L' h' => k1.zal k1.up8 (ev, dx, t1, t2, t3, t4, oc, od, fd, sl, g', L', h'))
end c_exp_spec
theorem exp_spec {w : World} {p : Program} {loose : List Str} {mean : ExcName → Option Value} {mg : Str → Option Value} {mb : Str → Option Value} {dp : Nat} {un : Nat} {gd : Option (List Code)} {cn : Str} {cs : Scope} {a : Addr} {ccd : Value} {cl : List (Str × Addr)} {outer : List Env} {A₀ : Around} {base : Heap} {h₀ : Heap} {L : Addr} {m : Str → Option Value} {s : Shared} {Q : Value → Shared → Prop} {E : Value → Shared → Prop} (B : Below A₀ base outer h₀) (F : Fr h₀ L s.heap m) (KX : (Mine.hd1.heap_39 w.params).In h₀) (T : Top p loose mean mg mb h₀) (hk : cs.kind = .function) {frz : List (Addr × Obj)} {evl : List (Addr × Obj)} {oS : Obj} {oX : Obj} {oV : Obj} {ps : Array Value} {f : Str → Option Int} {x : Str → Option Int} {evs : Str → Option (List (Int × Int))} {nS : Nat} {nX : Nat} {nV : Nat} {z : Nat} {st : Addr} {S : Addr} {X : Addr} {V : Addr} {clk : Addr} {t : Int} (CD : CodeHd base 592 588) (N : News h₀ L s.heap ((S, oS) :: (X, oX) :: (V, oV) :: (588, tabObj ps) :: frz)) (O : Store w frz st S X V clk t) (n1 : ∀ q ∈ frz, q.1 ≠ S) (n2 : ∀ q ∈ frz, q.1 ≠ X) (n3 : ∀ q ∈ frz, q.1 ≠ V) (n4 : ∀ q ∈ frz, q.1 ≠ 588) (d4 : @LT.lt Nat _ 588 S) (hS : IntD PySem.Challenge.rw_ji0060_01.row.prog w oS f nS) (hX : IntD PySem.Challenge.rw_ji0060_01.row.prog w oX x nX) (hevl : ∀ q ∈ evl, q ∈ frz) (hV : EvD PySem.Challenge.rw_ji0060_01.row.prog w evl S X V oV evs nV z) (TB : Tab588 evl ps) (zS : nS ≤ 1000000) (zX : nX ≤ 1000000) (zV : nV ≤ 1000000) (zz : z ≤ 1000000) (ht0 : 0 ≤ t) (ht : t < 1000000000000) (hd : dp ≤ 840) (hu : un ≤ 8400) (retH : ∀ ext oS' oX' oV' ps' evs' h' tk', Fr h₀ L h' m → News h₀ L h' ((S, oS') :: (X, oX') :: (V, oV') :: (588, tabObj ps') :: (ext ++ frz)) → (∀ p ∈ ext, p.1 ≠ S ∧ p.1 ≠ X ∧ p.1 ≠ V ∧ p.1 ≠ 588) → (∀ p ∈ ext, ∀ q ∈ frz, p.1 ≠ q.1) → IntD PySem.Challenge.rw_ji0060_01.row.prog w oS' (purge x t f) nS → IntD PySem.Challenge.rw_ji0060_01.row.prog w oX' (purge x t x) nX → EvD PySem.Challenge.rw_ji0060_01.row.prog w (ext ++ evl) S X V oV' evs' nV z → Tab588 (ext ++ evl) ps' → Q .none { s with heap := h', toks := tk' }) :
    wpAny (model PySem.Challenge.rw_ji0060_01.row.prog w) (ktrTop dp un gd cn cs L a ccd cl outer) (call (.ref 593) [.ref st]) Q E s :=
  c_exp_spec.zal c_exp_spec.up9 (w, p, loose, mean, mg, mb, dp, un, gd, cn, cs, a, ccd, cl, outer, A₀, base, h₀, L, m, s, Q, E, frz, evl, oS, oX, oV, ps, f, x, evs, nS, nX, nV, z, st, S, X, V, clk, t) B F KX T hk CD N O n1 n2 n3 n4 d4 hS hX hevl hV TB zS zX zV zz ht0 ht hd hu retH
section
variable {w : World} {p : Program} {loose : List Str} {mean : ExcName → Option Value} {mg mb : Str → Option Value} {dp un : Nat} {gd : Option (List Code)} {cn : Str} {cs : Scope} {a : Addr} {ccd : Value} {cl : List (Str × Addr)} {outer : List Env} {A₀ : Around} {base h₀ : Heap} {L : Addr} {m : Str → Option Value} {s : Shared} {Q E : Value → Shared → Prop}
  (B : Below A₀ base outer h₀) (F : Fr h₀ L s.heap m) (KX : (Mine.hd1.heap_39 w.params).In h₀) (T : Top p loose mean mg mb h₀) (hk : cs.kind = .function)
include B F KX T hk
end

end
section
/-- behind one turn of a comprehension nothing but its own list has grown -/
noncomputable def CompOut (h₀ : Heap) (L : Addr) (m : Str → Option Value) (s₁ : Shared) (led : List (Addr × Obj)) (s₂ : Shared) : Prop :=
  ∃ h' tk', s₂ = { s₁ with heap := h', toks := tk' } ∧ Fr h₀ L h' m ∧ News h₀ L h' led
theorem restT_ind {prog : Program} {w : World} {A : Around} {h₀ : Heap} {L : Addr} {m : Str → Option Value} {env : Env} {ct elt : PySem.Expr} {x : Str} {scope : Scope} {cl : List (Str × Addr)} {s : Shared} {S : List (Addr × Obj) → Prop} {P : Nat → Value → Prop}
    {Fin : List Value → List (Addr × Obj) → Prop} {n : Nat} {news : List (Addr × Obj)} (hS : S news) (J : Nat → List Value → Prop)
    (step : ∀ i ys v I oI C oC D m₂ h tk (E' : Value → Shared → Prop), i < n → J i ys → P i v → LCg.NsObj oC m₂ → m₂ x = some v → Fr h₀ L h m → News h₀ L h ((I, oI) :: (C, oC) :: (D, LCg.lst ys) :: news) → LCg.Off3 I C D news → ((@Ne Nat I C) ∧ (@Ne Nat I D) ∧ (@Ne Nat C D)) →
      wpAny (model prog w) A (isTrue ct (compEnvC scope cl C env) (eval ct (compEnvC scope cl C env))) (fun ok s' => if ok = true then
        wpAny (model prog w) A (eval elt (compEnvC scope cl C env)) (fun y s'' => CompOut h₀ L m { s with heap := h, toks := tk } ((I, oI) :: (C, oC) :: (D, LCg.lst ys) :: news) s'' ∧ J (i + 1) (ys ++ [y])) E' s'
        else CompOut h₀ L m { s with heap := h, toks := tk } ((I, oI) :: (C, oC) :: (D, LCg.lst ys) :: news) s' ∧ J (i + 1) ys) E' { s with heap := h, toks := tk })
    (fin : ∀ ys, J n ys → Fin ys news) : ∀ k i ys, i + k = n → J i ys → LCt.CompRestT prog w A h₀ L m env ct elt x scope cl s S P Fin k i ys news
  | 0, i, ys, hk, hJ => by
    have e : i = n := by omega
    subst e
    exact fin ys hJ
  | k + 1, i, ys, hk, hJ => by
    refine LCt.CompRestT.succ fun v I oI C oC D m₂ h tk E' hP hC hx F N off ne => ?_
    refine wpAny_mono (step i ys v I oI C oC D m₂ h tk E' (by omega) hJ hP hC hx F N off ne) (fun ok s' p => ?_) fun _ _ e => e
    by_cases ho : ok = true
    · rw [if_pos ho] at p ⊢
      refine wpAny_mono p (fun y s'' q => ?_) fun _ _ e => e
      obtain ⟨⟨h', tk', rfl, F', N'⟩, hJ'⟩ := q
      exact ⟨h', tk', news, rfl, F', N', off, hS, restT_ind hS J step fin k (i + 1) _ (by omega) hJ'⟩
    · rw [if_neg ho] at p ⊢
      obtain ⟨⟨h', tk', rfl, F', N'⟩, hJ'⟩ := p
      exact ⟨h', tk', news, rfl, F', N', off, hS, restT_ind hS J step fin k (i + 1) _ (by omega) hJ'⟩

end
section
theorem pick_bounds : ∀ n : Nat, 0 ≤ ([0, 0, 0, 0, 1, 2, 3, 4, 5] : List Int).getD n 0 ∧ ([0, 0, 0, 0, 1, 2, 3, 4, 5] : List Int).getD n 0 < 6
  | 0 | 1 | 2 | 3 | 4 | 5 | 6 | 7 | 8 => by decide
  | n + 9 => by simp
theorem ints_get {rv : List Value} {rs : List Int} (h : IntsAre rv rs) : ∀ {j : Nat} {x : Int}, rs[j]? = some x → ∃ u, rv[j]? = some (.int x u) := by
  induction h with
  | nil => intro j x e; simp at e
  | cons _ _ _ ih => intro j x e; cases j with
    | zero => simp at e; subst e; exact ⟨_, rfl⟩
    | succ j => exact ih (by simpa using e)
noncomputable def Bd (f : Str → Option Int) (b : Int) : Prop := ∀ j, 0 ≤ (f j).getD 0 ∧ (f j).getD 0 ≤ b
theorem Bd.upd {f : Str → Option Int} {b v : Int} (h : Bd f b) (k : Str) (h0 : 0 ≤ v) (h1 : v ≤ b) : Bd (upd f k (some v)) b := fun j => by
  unfold Mine.upd; split
  · exact ⟨h0, h1⟩
  · exact h j
theorem Bd.del {f : Str → Option Int} {b : Int} (h : Bd f b) (k : Str) : Bd (Mine.upd f k none) b := fun j => by
  have := h j
  unfold Mine.upd; split
  · exact ⟨Int.le_refl _, by simp; omega⟩
  · exact this
theorem Bd.mono {f : Str → Option Int} {b c : Int} (h : Bd f b) (hb : b ≤ c) : Bd f c := fun j => ⟨(h j).1, Int.le_trans (h j).2 hb⟩
theorem Bd.swept {f x : Str → Option Int} {b t : Int} (h : Bd f b) (k : Str) : Bd (swept x k t f) b := by
  unfold Mine.swept; split
  · exact h.del k
  · exact h
theorem Bd.F2 {f x : Str → Option Int} {b t : Int} (h : Bd f b) (pk ck : Str) : Bd (F2 f x pk ck t) b := (h.swept pk).swept ck
theorem Bd.inc {f x : Str → Option Int} {b t am : Int} (h : Bd f b) (k : Str) (h0 : 0 ≤ am) : Bd (incF f x k t am) (b + am) := by
  have hs := h.swept (x := x) (t := t) k
  refine (hs.mono (by omega)).upd k ?_ ?_
  · have := (hs k).1; omega
  · have := (hs k).2; omega
theorem Bd.purge {f x : Str → Option Int} {b t : Int} (h : Bd f b) : Bd (purge x t f) b := fun j => by
  have q := h j
  unfold Mine.purge
  cases x j with
  | none => exact q
  | some y =>
    dsimp only
    split
    · exact ⟨Int.le_refl _, by simp; omega⟩
    · exact q
theorem count_nonneg {lr : List Row} {i t e : Int} (he : 0 < e) (h : ∀ r ∈ lr, 0 ≤ r.2.2) : 0 ≤ countF lr i t e := by
  have hf := fmod_bounds (t := t) (e := e) he
  have h1 : 0 ≤ befF lr i (t - t.fmod e) e := sum_nonneg _ _ fun r hr => by
    have := h r hr
    unfold befT; split <;> (try split) <;> omega
  have h2 : 0 ≤ thisF lr i (t - t.fmod e) := sum_nonneg _ _ fun r hr => by
    have := h r hr
    unfold thisT; split <;> omega
  unfold countF
  rw [Int.fdiv_eq_ediv_of_nonneg _ (Int.le_of_lt he)]
  have := Int.ediv_nonneg (Int.mul_nonneg h1 (show 0 ≤ t - t.fmod e + e - t by omega)) (Int.le_of_lt he)
  omega
theorem ev_del {S X V : Addr} {news : List (Addr × Obj)} {ev : Str → Option Addr} {evs : Str → Option (List (Int × Int))} {z : Nat} (hE : ∀ k, EvK news S X V z (ev k) (evs k)) (key : Str) : ∀ k, EvK news S X V z (upd ev key none k) (upd evs key none k) := fun k => by
  unfold upd; split
  · trivial
  · exact hE k
section
variable {h₀ h : Heap} {L : Addr}
theorem move_ext {a : Addr × Obj} {ext l rest : List (Addr × Obj)} (N : News h₀ L h (a :: (ext ++ (l ++ rest)))) : News h₀ L h (a :: (l ++ (ext ++ rest))) := fun q hq => by
  refine N q ?_
  rcases List.mem_cons.mp hq with e | hq
  · subst e; exact .head _
  refine .tail _ ?_
  rcases List.mem_append.mp hq with hq | hq
  · exact List.mem_append_right _ (List.mem_append_left _ hq)
  rcases List.mem_append.mp hq with hq | hq
  · exact List.mem_append_left _ hq
  · exact List.mem_append_right _ (List.mem_append_right _ hq)
theorem off_app {ext l rest : List (Addr × Obj)} {d : Addr} {o : Obj} (lt : ∀ p ∈ ext, ∀ q ∈ l, @LT.lt Nat _ q.1 p.1) (hd : (d, o) ∈ l) (n : ∀ q ∈ rest, q.1 ≠ d) : ∀ q ∈ ext ++ rest, q.1 ≠ d := fun q hq => by
  rcases List.mem_append.mp hq with hq | hq
  · exact Nat.ne_of_gt (lt q hq _ hd)
  · exact n q hq
theorem exp_back {a b c d e f g i j : Addr × Obj} {ext rest : List (Addr × Obj)} (N : News h₀ L h (c :: d :: e :: f :: (ext ++ (a :: b :: g :: i :: j :: rest)))) : News h₀ L h (b :: c :: d :: e :: f :: g :: i :: j :: (ext ++ rest)) := fun q hq => by
  refine N q ?_
  simp only [List.mem_cons, List.mem_append] at hq ⊢
  rcases hq with h | h | h | h | h | h | h | h | h | h <;> simp [h]
/-- behind the clock's step -/
noncomputable def FarPost (h₀ : Heap) (L : Addr) (m : Str → Option Value) (s : Shared) (t len : Int) (G : Int → Tok → List (Addr × Obj)) : Flow → Shared → Prop
  | .next, s' => ∃ h' tk t' tt', s' = { s with heap := h', toks := tk } ∧ Fr h₀ L h' m ∧ News h₀ L h' (G t' tt') ∧ t ≤ t' ∧ t' ≤ t + 2 * len + 2
  | _, _ => False
theorem farCut {M : Model} {A : Around} {tr : Sem Flow} {Q : Flow → Shared → Prop} {E : Value → Shared → Prop} {s : Shared} {m : Str → Option Value} {z a b c d e f g : Addr × Obj} {nowl : Addr} {t len : Int} {tt : Tok} {rest : List (Addr × Obj)}
    (_ : News h₀ L s.heap (z :: a :: b :: c :: d :: e :: f :: g :: (nowl, listOf #[.int t tt] 0) :: rest)) (_ : Fr h₀ L s.heap m) (_ : 0 < len)
    (h1 : wpAny M A tr (FarPost h₀ L m s t len fun t' tt' => (z :: a :: b :: c :: d :: e :: f :: g :: (nowl, listOf #[.int t' tt'] 0) :: rest)) E s)
    (h2 : ∀ h' tk t' tt', Fr h₀ L h' m → News h₀ L h' (z :: a :: b :: c :: d :: e :: f :: g :: (nowl, listOf #[.int t' tt'] 0) :: rest) → t ≤ t' → t' ≤ t + 2 * len + 2 → Q .next { s with heap := h', toks := tk }) : wpAny M A tr Q E s := by
  refine wpAny_mono h1 (fun fl s' p => ?_) fun _ _ e => e
  cases fl with
  | next =>
    obtain ⟨h', tk, t', tt', rfl, F, N, a, b⟩ := p
    exact h2 h' tk t' tt' F N a b
  | _ => exact p.elim
end

theorem q_i {i n : Nat} (h : 2 * i + 1 < n) (g : n ≤ 40) : i ≤ 20 := by omega
theorem q_t {t : Int} {i : Nat} (h : i ≤ 26) (h0 : 1000000 ≤ t) (h1 : t ≤ 2000000000 + 2000 * (i : Int)) : 1000000 ≤ t ∧ t ≤ 1000000000000 - 100000 := by omega
theorem q_f {x : Int} {i : Nat} (h : i ≤ 26) (g : 0 ≤ x ∧ x ≤ 100 * (i : Int)) : 0 ≤ x ∧ x ≤ 1000000 := by omega
theorem q_n {n i : Nat} (h : i ≤ 26) (g : n ≤ 2 * i) : n + 1 ≤ sizeLine ∧ n + 1 + 1 ≤ sizeLine := by rw [sizeLine_eq]; omega
theorem q_z {z i : Nat} (h : i ≤ 26) (g : z ≤ 1000 * i) : z + 1000 ≤ 1000000 := by omega
theorem q_l {n i : Nat} (h : i ≤ 26) (g : n ≤ i) : n ≤ 100 := by omega
theorem q_v {n : Nat} (h : n ≤ 100) : n ≤ sizeLine := by rw [sizeLine_eq]; omega
theorem q_two {n i n' : Nat} (h : n ≤ 2 * i) (g : n' ≤ n + 2) : n' ≤ 2 * (i + 1) := by omega
theorem q_th {z i z' : Nat} (h : z ≤ 1000 * i) (g : z' ≤ z + 1000) : z' ≤ 1000 * (i + 1) := by omega
theorem q_t1 {t t' e : Int} {i : Nat} (h : t ≤ 2000000000 + 2000 * (i : Int)) (he : e ≤ 600) (b : t' ≤ t + 2 * e + 2) : t' ≤ 2000000000 + 2000 * ((i + 1 : Nat) : Int) := by omega
theorem q_tt {t t' e : Int} (h : t ≤ 1000000000000 - 100000) (he : e ≤ 600) (b : t' ≤ t + 2 * e + 2) : t' < 1000000000000 := by omega
theorem q_et {t t' e : Int} (h : 1000000 ≤ t) (he : e ≤ 600) (b : t ≤ t') : e ≤ t' := by omega
theorem q_e {e : Int} (h : e ≤ 600) : e < 1000000 := by omega
theorem q_0 {t : Int} (h : 1000000 ≤ t) : 0 ≤ t := by omega
theorem q_a {i : Nat} : (2 * (i : Int)).toNat = 2 * i := by omega
theorem q_b {i : Nat} : (2 * (i : Int) + 1).toNat = 2 * i + 1 := by omega
theorem sLen_b {wh many : Int} (h : 1 ≤ many ∧ many ≤ 9) : 1 ≤ sLen wh many ∧ sLen wh many ≤ 600 := by unfold sLen sMu; split <;> (try split) <;> omega
theorem sAm_b {wh amount : Int} (h : 0 ≤ amount ∧ amount < 8) : 0 ≤ sAm wh amount ∧ sAm wh amount ≤ 8 := by unfold sAm; split <;> omega
theorem q_t2 {t : Int} {i : Nat} (h : t ≤ 2000000000 + 2000 * (i : Int)) : t ≤ 2000000000 + 2000 * ((i + 1 : Nat) : Int) := by omega

end
section
theorem said_p_turnb : True := by
  k_with "subscriptTail Name Constant ref int" => (k_here; (fail_if_success (fail_if_success (have := (by with_reducible assumption : Mk 148)))); (with_reducible show wpAny _ _ (subscriptTail _ _ (Value.ref _) (Value.int 0 _)) _ _ _); k_dflt (refine' one_item ?zyN ?zyhl ?_; (case zyN => k_asm); (case zyhl => k_mem); k_whole))
  k_with "call ref" => (k_here; (fail_if_success (fail_if_success (have := (by with_reducible assumption : Mk 148)))); (with_reducible show wpAny _ _ (call (Value.ref 701) _) _ _ _); refine Held.out ?_)
  trivial
noncomputable def isFor : Stmt → Bool | .For .. => true | _ => false
noncomputable def for1 : Stmt := (lawBody.find? isFor).getD (.Pass ⟨0, 0, 0, 0⟩)
noncomputable def for2 : Stmt := ((lawBody.filter isFor).getLast?).getD (.Pass ⟨0, 0, 0, 0⟩)
noncomputable def forTarget : Stmt → PySem.Expr | .For t _ _ _ _ => t | _ => .Constant .none 0 ⟨0, 0, 0, 0⟩
noncomputable def turnBody2 : List Stmt := forBody for2
noncomputable def turnTarget2 : PySem.Expr := forTarget for2
section
variable {w : World} {p : Program} {loose : List Str} {mean : ExcName → Option Value} {mg mb : Str → Option Value} {gd : Option (List Code)} {a : Addr} {A₀ : Around} {base h₀ : Heap} {L : Addr} {m : Str → Option Value} {s : Shared} {Q : Flow → Shared → Prop} {E : Value → Shared → Prop}
  (B : Below A₀ base [] h₀) (KX : (Mine.hd1.heap_39 w.params).In h₀) (T : Top p loose mean mg mb h₀)
include B KX T
end
noncomputable def turn2_spec_St (w : World) (p : Program) (loose : List Str) (mean : ExcName → Option Value) (mg : Str → Option Value) (mb : Str → Option Value) (gd : Option (List Code)) (a : Addr) (A₀ : Around) (base : Heap) (h₀ : Heap) (L : Addr) (s : Shared) (Q : Flow → Shared → Prop) (E : Value → Shared → Prop) (I : Addr) (nowl : Addr) (st : Addr) (S : Addr) (X : Addr) (V : Addr) (clk : Addr) (lim : Addr) (fix : Addr) (mov : Addr) (rA : Addr) (oI : Obj) (rv : List Value) (kr : Nat) (i : Nat) (amount : Int) (many : Int) (wh : Int) (tw : Tok) (m₁ : Str → Option Value) : Prop := ∀ (nw : List (Addr × Obj)) (B : Below A₀ base [] h₀) (KX : (Mine.hd1.heap_39 w.params).In h₀) (T : Top p loose mean mg mb h₀) (LA : LawAt w amount many L st S X V clk lim fix mov nowl rA rv kr i m₁ nw) (off : ∀ p ∈ nw, p.1 ≠ I) (dI : @LT.lt Nat _ V I) (F : Fr h₀ L s.heap m₁) (N : News h₀ L s.heap ((I, oI) :: nw)) (hwb : 0 ≤ wh ∧ wh < 6) (hi : i ≤ 26) (ham : 0 ≤ amount ∧ amount < 8) (hmany : 1 ≤ many ∧ many ≤ 9), wpAny (model PySem.Challenge.rw_ji0060_01.row.prog w) (ktrTop 820 8200 gd (Str.ofString "law") lawScope L a (.ref 712) (cellsFrom (L + 1) lawScope.names []) []) (assign turnTarget2 (envX (Str.ofString "law") lawScope L a (.ref 712) (cellsFrom (L + 1) lawScope.names [])) (.int wh tw))
      (fun _ s₃ => wpAny (model PySem.Challenge.rw_ji0060_01.row.prog w) (ktrTop 820 8200 gd (Str.ofString "law") lawScope L a (.ref 712) (cellsFrom (L + 1) lawScope.names []) []) (execs turnBody2 (envX (Str.ofString "law") lawScope L a (.ref 712) (cellsFrom (L + 1) lawScope.names [])))
      (TurnPost h₀ L (LawAt w amount many L st S X V clk lim fix mov nowl rA rv kr (i + 1)) I oI s Q) E s₃) E s
namespace c_turn2_spec
noncomputable def zcv : (World) × (Program) × (List Str) × (ExcName → Option Value) × (Str → Option Value) × (Str → Option Value) × (Option (List Code)) × (Addr) × (Around) × (Heap) × (Heap) × (Addr) × (Shared) × (Flow → Shared → Prop) × (Value → Shared → Prop) × (Addr) × (Addr) × (Addr) × (Addr) × (Addr) × (Addr) × (Addr) × (Addr) × (Addr) × (Addr) × (Addr) × (Obj) × (List Value) × (Nat) × (Nat) × (Int) × (Int) × (Int) × (Tok) × (Str → Option Value) := pick (neP neW (neP inferInstance (neP inferInstance (neP inferInstance (neP inferInstance (neP inferInstance (neP inferInstance (neP inferInstance (neP neA (neP inferInstance (neP inferInstance (neP inferInstance (neP neS (neP inferInstance (neP inferInstance (neP inferInstance (neP inferInstance (neP inferInstance (neP inferInstance (neP inferInstance (neP inferInstance (neP inferInstance (neP inferInstance (neP inferInstance (neP inferInstance (neP inferInstance (neP inferInstance (neP inferInstance (neP inferInstance (neP inferInstance (neP inferInstance (neP inferInstance (neP inferInstance (neP inferInstance inferInstance)))))))))))))))))))))))))))))))))) (fun v : (World) × (Program) × (List Str) × (ExcName → Option Value) × (Str → Option Value) × (Str → Option Value) × (Option (List Code)) × (Addr) × (Around) × (Heap) × (Heap) × (Addr) × (Shared) × (Flow → Shared → Prop) × (Value → Shared → Prop) × (Addr) × (Addr) × (Addr) × (Addr) × (Addr) × (Addr) × (Addr) × (Addr) × (Addr) × (Addr) × (Addr) × (Obj) × (List Value) × (Nat) × (Nat) × (Int) × (Int) × (Int) × (Tok) × (Str → Option Value) => turn2_spec_St (v.1) (v.2.1) (v.2.2.1) (v.2.2.2.1) (v.2.2.2.2.1) (v.2.2.2.2.2.1) (v.2.2.2.2.2.2.1) (v.2.2.2.2.2.2.2.1) (v.2.2.2.2.2.2.2.2.1) (v.2.2.2.2.2.2.2.2.2.1) (v.2.2.2.2.2.2.2.2.2.2.1) (v.2.2.2.2.2.2.2.2.2.2.2.1) (v.2.2.2.2.2.2.2.2.2.2.2.2.1) (v.2.2.2.2.2.2.2.2.2.2.2.2.2.1) (v.2.2.2.2.2.2.2.2.2.2.2.2.2.2.1) (v.2.2.2.2.2.2.2.2.2.2.2.2.2.2.2.1) (v.2.2.2.2.2.2.2.2.2.2.2.2.2.2.2.2.1) (v.2.2.2.2.2.2.2.2.2.2.2.2.2.2.2.2.2.1) (v.2.2.2.2.2.2.2.2.2.2.2.2.2.2.2.2.2.2.1) (v.2.2.2.2.2.2.2.2.2.2.2.2.2.2.2.2.2.2.2.1) (v.2.2.2.2.2.2.2.2.2.2.2.2.2.2.2.2.2.2.2.2.1) (v.2.2.2.2.2.2.2.2.2.2.2.2.2.2.2.2.2.2.2.2.2.1) (v.2.2.2.2.2.2.2.2.2.2.2.2.2.2.2.2.2.2.2.2.2.2.1) (v.2.2.2.2.2.2.2.2.2.2.2.2.2.2.2.2.2.2.2.2.2.2.2.1) (v.2.2.2.2.2.2.2.2.2.2.2.2.2.2.2.2.2.2.2.2.2.2.2.2.1) (v.2.2.2.2.2.2.2.2.2.2.2.2.2.2.2.2.2.2.2.2.2.2.2.2.2.1) (v.2.2.2.2.2.2.2.2.2.2.2.2.2.2.2.2.2.2.2.2.2.2.2.2.2.2.1) (v.2.2.2.2.2.2.2.2.2.2.2.2.2.2.2.2.2.2.2.2.2.2.2.2.2.2.2.1) (v.2.2.2.2.2.2.2.2.2.2.2.2.2.2.2.2.2.2.2.2.2.2.2.2.2.2.2.2.1) (v.2.2.2.2.2.2.2.2.2.2.2.2.2.2.2.2.2.2.2.2.2.2.2.2.2.2.2.2.2.1) (v.2.2.2.2.2.2.2.2.2.2.2.2.2.2.2.2.2.2.2.2.2.2.2.2.2.2.2.2.2.2.1) (v.2.2.2.2.2.2.2.2.2.2.2.2.2.2.2.2.2.2.2.2.2.2.2.2.2.2.2.2.2.2.2.1) (v.2.2.2.2.2.2.2.2.2.2.2.2.2.2.2.2.2.2.2.2.2.2.2.2.2.2.2.2.2.2.2.2.1) (v.2.2.2.2.2.2.2.2.2.2.2.2.2.2.2.2.2.2.2.2.2.2.2.2.2.2.2.2.2.2.2.2.2.1) (v.2.2.2.2.2.2.2.2.2.2.2.2.2.2.2.2.2.2.2.2.2.2.2.2.2.2.2.2.2.2.2.2.2.2)) 0
theorem zal (h : turn2_spec_St (zcv.1) (zcv.2.1) (zcv.2.2.1) (zcv.2.2.2.1) (zcv.2.2.2.2.1) (zcv.2.2.2.2.2.1) (zcv.2.2.2.2.2.2.1) (zcv.2.2.2.2.2.2.2.1) (zcv.2.2.2.2.2.2.2.2.1) (zcv.2.2.2.2.2.2.2.2.2.1) (zcv.2.2.2.2.2.2.2.2.2.2.1) (zcv.2.2.2.2.2.2.2.2.2.2.2.1) (zcv.2.2.2.2.2.2.2.2.2.2.2.2.1) (zcv.2.2.2.2.2.2.2.2.2.2.2.2.2.1) (zcv.2.2.2.2.2.2.2.2.2.2.2.2.2.2.1) (zcv.2.2.2.2.2.2.2.2.2.2.2.2.2.2.2.1) (zcv.2.2.2.2.2.2.2.2.2.2.2.2.2.2.2.2.1) (zcv.2.2.2.2.2.2.2.2.2.2.2.2.2.2.2.2.2.1) (zcv.2.2.2.2.2.2.2.2.2.2.2.2.2.2.2.2.2.2.1) (zcv.2.2.2.2.2.2.2.2.2.2.2.2.2.2.2.2.2.2.2.1) (zcv.2.2.2.2.2.2.2.2.2.2.2.2.2.2.2.2.2.2.2.2.1) (zcv.2.2.2.2.2.2.2.2.2.2.2.2.2.2.2.2.2.2.2.2.2.1) (zcv.2.2.2.2.2.2.2.2.2.2.2.2.2.2.2.2.2.2.2.2.2.2.1) (zcv.2.2.2.2.2.2.2.2.2.2.2.2.2.2.2.2.2.2.2.2.2.2.2.1) (zcv.2.2.2.2.2.2.2.2.2.2.2.2.2.2.2.2.2.2.2.2.2.2.2.2.1) (zcv.2.2.2.2.2.2.2.2.2.2.2.2.2.2.2.2.2.2.2.2.2.2.2.2.2.1) (zcv.2.2.2.2.2.2.2.2.2.2.2.2.2.2.2.2.2.2.2.2.2.2.2.2.2.2.1) (zcv.2.2.2.2.2.2.2.2.2.2.2.2.2.2.2.2.2.2.2.2.2.2.2.2.2.2.2.1) (zcv.2.2.2.2.2.2.2.2.2.2.2.2.2.2.2.2.2.2.2.2.2.2.2.2.2.2.2.2.1) (zcv.2.2.2.2.2.2.2.2.2.2.2.2.2.2.2.2.2.2.2.2.2.2.2.2.2.2.2.2.2.1) (zcv.2.2.2.2.2.2.2.2.2.2.2.2.2.2.2.2.2.2.2.2.2.2.2.2.2.2.2.2.2.2.1) (zcv.2.2.2.2.2.2.2.2.2.2.2.2.2.2.2.2.2.2.2.2.2.2.2.2.2.2.2.2.2.2.2.1) (zcv.2.2.2.2.2.2.2.2.2.2.2.2.2.2.2.2.2.2.2.2.2.2.2.2.2.2.2.2.2.2.2.2.1) (zcv.2.2.2.2.2.2.2.2.2.2.2.2.2.2.2.2.2.2.2.2.2.2.2.2.2.2.2.2.2.2.2.2.2.1) (zcv.2.2.2.2.2.2.2.2.2.2.2.2.2.2.2.2.2.2.2.2.2.2.2.2.2.2.2.2.2.2.2.2.2.2)) : ∀ u : (World) × (Program) × (List Str) × (ExcName → Option Value) × (Str → Option Value) × (Str → Option Value) × (Option (List Code)) × (Addr) × (Around) × (Heap) × (Heap) × (Addr) × (Shared) × (Flow → Shared → Prop) × (Value → Shared → Prop) × (Addr) × (Addr) × (Addr) × (Addr) × (Addr) × (Addr) × (Addr) × (Addr) × (Addr) × (Addr) × (Addr) × (Obj) × (List Value) × (Nat) × (Nat) × (Int) × (Int) × (Int) × (Tok) × (Str → Option Value), turn2_spec_St (u.1) (u.2.1) (u.2.2.1) (u.2.2.2.1) (u.2.2.2.2.1) (u.2.2.2.2.2.1) (u.2.2.2.2.2.2.1) (u.2.2.2.2.2.2.2.1) (u.2.2.2.2.2.2.2.2.1) (u.2.2.2.2.2.2.2.2.2.1) (u.2.2.2.2.2.2.2.2.2.2.1) (u.2.2.2.2.2.2.2.2.2.2.2.1) (u.2.2.2.2.2.2.2.2.2.2.2.2.1) (u.2.2.2.2.2.2.2.2.2.2.2.2.2.1) (u.2.2.2.2.2.2.2.2.2.2.2.2.2.2.1) (u.2.2.2.2.2.2.2.2.2.2.2.2.2.2.2.1) (u.2.2.2.2.2.2.2.2.2.2.2.2.2.2.2.2.1) (u.2.2.2.2.2.2.2.2.2.2.2.2.2.2.2.2.2.1) (u.2.2.2.2.2.2.2.2.2.2.2.2.2.2.2.2.2.2.1) (u.2.2.2.2.2.2.2.2.2.2.2.2.2.2.2.2.2.2.2.1) (u.2.2.2.2.2.2.2.2.2.2.2.2.2.2.2.2.2.2.2.2.1) (u.2.2.2.2.2.2.2.2.2.2.2.2.2.2.2.2.2.2.2.2.2.1) (u.2.2.2.2.2.2.2.2.2.2.2.2.2.2.2.2.2.2.2.2.2.2.1) (u.2.2.2.2.2.2.2.2.2.2.2.2.2.2.2.2.2.2.2.2.2.2.2.1) (u.2.2.2.2.2.2.2.2.2.2.2.2.2.2.2.2.2.2.2.2.2.2.2.2.1) (u.2.2.2.2.2.2.2.2.2.2.2.2.2.2.2.2.2.2.2.2.2.2.2.2.2.1) (u.2.2.2.2.2.2.2.2.2.2.2.2.2.2.2.2.2.2.2.2.2.2.2.2.2.2.1) (u.2.2.2.2.2.2.2.2.2.2.2.2.2.2.2.2.2.2.2.2.2.2.2.2.2.2.2.1) (u.2.2.2.2.2.2.2.2.2.2.2.2.2.2.2.2.2.2.2.2.2.2.2.2.2.2.2.2.1) (u.2.2.2.2.2.2.2.2.2.2.2.2.2.2.2.2.2.2.2.2.2.2.2.2.2.2.2.2.2.1) (u.2.2.2.2.2.2.2.2.2.2.2.2.2.2.2.2.2.2.2.2.2.2.2.2.2.2.2.2.2.2.1) (u.2.2.2.2.2.2.2.2.2.2.2.2.2.2.2.2.2.2.2.2.2.2.2.2.2.2.2.2.2.2.2.1) (u.2.2.2.2.2.2.2.2.2.2.2.2.2.2.2.2.2.2.2.2.2.2.2.2.2.2.2.2.2.2.2.2.1) (u.2.2.2.2.2.2.2.2.2.2.2.2.2.2.2.2.2.2.2.2.2.2.2.2.2.2.2.2.2.2.2.2.2.1) (u.2.2.2.2.2.2.2.2.2.2.2.2.2.2.2.2.2.2.2.2.2.2.2.2.2.2.2.2.2.2.2.2.2.2) := pick_all (P := fun v : (World) × (Program) × (List Str) × (ExcName → Option Value) × (Str → Option Value) × (Str → Option Value) × (Option (List Code)) × (Addr) × (Around) × (Heap) × (Heap) × (Addr) × (Shared) × (Flow → Shared → Prop) × (Value → Shared → Prop) × (Addr) × (Addr) × (Addr) × (Addr) × (Addr) × (Addr) × (Addr) × (Addr) × (Addr) × (Addr) × (Addr) × (Obj) × (List Value) × (Nat) × (Nat) × (Int) × (Int) × (Int) × (Tok) × (Str → Option Value) => turn2_spec_St (v.1) (v.2.1) (v.2.2.1) (v.2.2.2.1) (v.2.2.2.2.1) (v.2.2.2.2.2.1) (v.2.2.2.2.2.2.1) (v.2.2.2.2.2.2.2.1) (v.2.2.2.2.2.2.2.2.1) (v.2.2.2.2.2.2.2.2.2.1) (v.2.2.2.2.2.2.2.2.2.2.1) (v.2.2.2.2.2.2.2.2.2.2.2.1) (v.2.2.2.2.2.2.2.2.2.2.2.2.1) (v.2.2.2.2.2.2.2.2.2.2.2.2.2.1) (v.2.2.2.2.2.2.2.2.2.2.2.2.2.2.1) (v.2.2.2.2.2.2.2.2.2.2.2.2.2.2.2.1) (v.2.2.2.2.2.2.2.2.2.2.2.2.2.2.2.2.1) (v.2.2.2.2.2.2.2.2.2.2.2.2.2.2.2.2.2.1) (v.2.2.2.2.2.2.2.2.2.2.2.2.2.2.2.2.2.2.1) (v.2.2.2.2.2.2.2.2.2.2.2.2.2.2.2.2.2.2.2.1) (v.2.2.2.2.2.2.2.2.2.2.2.2.2.2.2.2.2.2.2.2.1) (v.2.2.2.2.2.2.2.2.2.2.2.2.2.2.2.2.2.2.2.2.2.1) (v.2.2.2.2.2.2.2.2.2.2.2.2.2.2.2.2.2.2.2.2.2.2.1) (v.2.2.2.2.2.2.2.2.2.2.2.2.2.2.2.2.2.2.2.2.2.2.2.1) (v.2.2.2.2.2.2.2.2.2.2.2.2.2.2.2.2.2.2.2.2.2.2.2.2.1) (v.2.2.2.2.2.2.2.2.2.2.2.2.2.2.2.2.2.2.2.2.2.2.2.2.2.1) (v.2.2.2.2.2.2.2.2.2.2.2.2.2.2.2.2.2.2.2.2.2.2.2.2.2.2.1) (v.2.2.2.2.2.2.2.2.2.2.2.2.2.2.2.2.2.2.2.2.2.2.2.2.2.2.2.1) (v.2.2.2.2.2.2.2.2.2.2.2.2.2.2.2.2.2.2.2.2.2.2.2.2.2.2.2.2.1) (v.2.2.2.2.2.2.2.2.2.2.2.2.2.2.2.2.2.2.2.2.2.2.2.2.2.2.2.2.2.1) (v.2.2.2.2.2.2.2.2.2.2.2.2.2.2.2.2.2.2.2.2.2.2.2.2.2.2.2.2.2.2.1) (v.2.2.2.2.2.2.2.2.2.2.2.2.2.2.2.2.2.2.2.2.2.2.2.2.2.2.2.2.2.2.2.1) (v.2.2.2.2.2.2.2.2.2.2.2.2.2.2.2.2.2.2.2.2.2.2.2.2.2.2.2.2.2.2.2.2.1) (v.2.2.2.2.2.2.2.2.2.2.2.2.2.2.2.2.2.2.2.2.2.2.2.2.2.2.2.2.2.2.2.2.2.1) (v.2.2.2.2.2.2.2.2.2.2.2.2.2.2.2.2.2.2.2.2.2.2.2.2.2.2.2.2.2.2.2.2.2.2)) h
noncomputable def w : World := zcv.1
noncomputable def p : Program := zcv.2.1
noncomputable def loose : List Str := zcv.2.2.1
noncomputable def mean : ExcName → Option Value := zcv.2.2.2.1
noncomputable def mg : Str → Option Value := zcv.2.2.2.2.1
noncomputable def mb : Str → Option Value := zcv.2.2.2.2.2.1
noncomputable def gd : Option (List Code) := zcv.2.2.2.2.2.2.1
noncomputable def a : Addr := zcv.2.2.2.2.2.2.2.1
noncomputable def A₀ : Around := zcv.2.2.2.2.2.2.2.2.1
noncomputable def base : Heap := zcv.2.2.2.2.2.2.2.2.2.1
noncomputable def h₀ : Heap := zcv.2.2.2.2.2.2.2.2.2.2.1
noncomputable def L : Addr := zcv.2.2.2.2.2.2.2.2.2.2.2.1
noncomputable def s : Shared := zcv.2.2.2.2.2.2.2.2.2.2.2.2.1
noncomputable def Q : Flow → Shared → Prop := zcv.2.2.2.2.2.2.2.2.2.2.2.2.2.1
noncomputable def E : Value → Shared → Prop := zcv.2.2.2.2.2.2.2.2.2.2.2.2.2.2.1
noncomputable def I : Addr := zcv.2.2.2.2.2.2.2.2.2.2.2.2.2.2.2.1
noncomputable def nowl : Addr := zcv.2.2.2.2.2.2.2.2.2.2.2.2.2.2.2.2.1
noncomputable def st : Addr := zcv.2.2.2.2.2.2.2.2.2.2.2.2.2.2.2.2.2.1
noncomputable def S : Addr := zcv.2.2.2.2.2.2.2.2.2.2.2.2.2.2.2.2.2.2.1
noncomputable def X : Addr := zcv.2.2.2.2.2.2.2.2.2.2.2.2.2.2.2.2.2.2.2.1
noncomputable def V : Addr := zcv.2.2.2.2.2.2.2.2.2.2.2.2.2.2.2.2.2.2.2.2.1
noncomputable def clk : Addr := zcv.2.2.2.2.2.2.2.2.2.2.2.2.2.2.2.2.2.2.2.2.2.1
noncomputable def lim : Addr := zcv.2.2.2.2.2.2.2.2.2.2.2.2.2.2.2.2.2.2.2.2.2.2.1
noncomputable def fix : Addr := zcv.2.2.2.2.2.2.2.2.2.2.2.2.2.2.2.2.2.2.2.2.2.2.2.1
noncomputable def mov : Addr := zcv.2.2.2.2.2.2.2.2.2.2.2.2.2.2.2.2.2.2.2.2.2.2.2.2.1
noncomputable def rA : Addr := zcv.2.2.2.2.2.2.2.2.2.2.2.2.2.2.2.2.2.2.2.2.2.2.2.2.2.1
noncomputable def oI : Obj := zcv.2.2.2.2.2.2.2.2.2.2.2.2.2.2.2.2.2.2.2.2.2.2.2.2.2.2.1
noncomputable def rv : List Value := zcv.2.2.2.2.2.2.2.2.2.2.2.2.2.2.2.2.2.2.2.2.2.2.2.2.2.2.2.1
noncomputable def kr : Nat := zcv.2.2.2.2.2.2.2.2.2.2.2.2.2.2.2.2.2.2.2.2.2.2.2.2.2.2.2.2.1
noncomputable def i : Nat := zcv.2.2.2.2.2.2.2.2.2.2.2.2.2.2.2.2.2.2.2.2.2.2.2.2.2.2.2.2.2.1
noncomputable def amount : Int := zcv.2.2.2.2.2.2.2.2.2.2.2.2.2.2.2.2.2.2.2.2.2.2.2.2.2.2.2.2.2.2.1
noncomputable def many : Int := zcv.2.2.2.2.2.2.2.2.2.2.2.2.2.2.2.2.2.2.2.2.2.2.2.2.2.2.2.2.2.2.2.1
noncomputable def wh : Int := zcv.2.2.2.2.2.2.2.2.2.2.2.2.2.2.2.2.2.2.2.2.2.2.2.2.2.2.2.2.2.2.2.2.1
noncomputable def tw : Tok := zcv.2.2.2.2.2.2.2.2.2.2.2.2.2.2.2.2.2.2.2.2.2.2.2.2.2.2.2.2.2.2.2.2.2.1
noncomputable def m₁ : Str → Option Value := zcv.2.2.2.2.2.2.2.2.2.2.2.2.2.2.2.2.2.2.2.2.2.2.2.2.2.2.2.2.2.2.2.2.2.2
theorem walk1 : turn2_spec_St w p loose mean mg mb gd a A₀ base h₀ L s Q E I nowl st S X V clk lim fix mov rA oI rv kr i amount many wh tw m₁ := by
  intro nw B KX T LA off dI F N hwb hi ham hmany
  have mkp : Mk 148 := trivial
  obtain ⟨lgA, vs, kl, lr, t, tt, cwo, vcw, oS, oX, oV, ps, f, x, evs, nS, nX, nV, z, rest, rfl, FX, P, O, ck0, tb, hcw, hR, hS, hX, hV, SZ, A⟩ := LA
  have e1 : turnBody2 = turnBody2 := rfl
  conv at e1 => rhs; whnf
  have e2 : lawScope = lawScope := rfl
  conv at e2 => rhs; whnf
  have e3 : turnTarget2 = turnTarget2 := rfl
  conv at e3 => rhs; whnf
  rw [e1, e2, e3]
  clear e1 e2 e3
  obtain ⟨⟨ta, p1⟩, ⟨tm, p2⟩, p3, p4, p5, p6, p7, p8⟩ := P
  have em := pin2 (pin2 (pin2 (pin2 (pin2 (pin2 (pin2 (pin2 (Eq.refl m₁) p1) p2) p3) p4) p5) p6) p7) p8
  rw [em] at F
  clear em p1 p2 p3 p4 p5 p6 p7 p8
  obtain ⟨-, -, ⟨occ, hcn, hcd⟩, hra, ftab, d1, d2, d3, sx, xv, lS, lX, lV⟩ := id FX
  obtain ⟨d5, n1, n2, n3, n4, n5, n6, n7⟩ := O
  have y0 : @LT.lt Nat _ 588 (L + 1) := Nat.lt_succ_of_lt d1
  have y1 : @LT.lt Nat _ (L + 1) nowl := Nat.lt_trans (Nat.lt_succ_self _) d2
  have y2 : @LT.lt Nat _ 588 nowl := Nat.lt_trans y0 y1
  have y3 : @LT.lt Nat _ nowl X := Nat.lt_trans d3 sx
  have y4 : @LT.lt Nat _ nowl V := Nat.lt_trans y3 xv
  have y5 : @LT.lt Nat _ nowl I := Nat.lt_trans y4 dI
  have y6 : @LT.lt Nat _ S V := Nat.lt_trans sx xv
  have y7 : @LT.lt Nat _ S I := Nat.lt_trans y6 dI
  have y8 : @LT.lt Nat _ X I := Nat.lt_trans xv dI
  have y9 : @LT.lt Nat _ (L + 1) S := Nat.lt_trans y1 d3
  have y10 : @LT.lt Nat _ (L + 1) X := Nat.lt_trans y1 y3
  have y11 : @LT.lt Nat _ (L + 1) V := Nat.lt_trans y1 y4
  have y12 : @LT.lt Nat _ (L + 1) I := Nat.lt_trans y1 y5
  have y13 : @LT.lt Nat _ 588 S := Nat.lt_trans y0 y9
  have y14 : @LT.lt Nat _ 588 X := Nat.lt_trans y0 y10
  have y15 : @LT.lt Nat _ 588 V := Nat.lt_trans y0 y11
  have y16 : @LT.lt Nat _ 588 I := Nat.lt_trans y0 y12
  obtain ⟨w1, w2, w3, w4, w5, w6⟩ := id d5
  have d6 : lgA ≠ I := off (lgA, _) (by k_mem)
  have n8 : ∀ q ∈ rest, q.1 ≠ I := fun q hq => off q (by repeat (first | exact hq | refine List.Mem.tail _ ?_))
  obtain ⟨hc, hn, hfs, hzS, hzX, hzV, hzz, ht0, ht1⟩ := SZ
  have ht : 1000000 ≤ t ∧ t ≤ 1000000000000 - 100000 := q_t hi ht0 ht1
  have hn' : lr.length ≤ 100 := q_l hi hn
  have hf : ∀ j, 0 ≤ (f j).getD 0 ∧ (f j).getD 0 ≤ 1000000 := fun j => q_f hi (hfs j)
  have hbd : Bd f (100 * i) := hfs
  have zS : nS + 1 ≤ sizeLine := (q_n hi hzS).1
  have zX : nX + 1 ≤ sizeLine := (q_n hi hzX).1
  have zS2 : nS + 1 + 1 ≤ sizeLine := (q_n hi hzS).2
  have zX2 : nX + 1 + 1 ≤ sizeLine := (q_n hi hzX).2
  have hvz : vs.toArray.size ≤ sizeLine := by rw [List.size_toArray, hR.len]; exact q_v hn'
  revert KX; k_fill; intro KX
  k_steps
  refine Held.in ?_
  refine subj_spec B (by assumption) KX T rfl (by assumption) hwb ⟨ham.1, Int.lt_trans ham.2 (by decide)⟩ ⟨hmany.1, Int.lt_of_le_of_lt hmany.2 (by decide)⟩ (by decide) (by decide) ?_
  intro tp it nt ext r1 r2 h' tk' SA F1 N1 lt lt2
  have lt3 : @LT.lt Nat _ I tp := lt2 (I, oI) (by k_mem)
  have y20 : @LT.lt Nat _ S tp := Nat.lt_trans y7 lt3
  have y21 : @LT.lt Nat _ X tp := Nat.lt_trans y8 lt3
  have y22 : @LT.lt Nat _ V tp := Nat.lt_trans dI lt3
  have y23 : @LT.lt Nat _ nowl tp := Nat.lt_trans y5 lt3
  have y24 : @LT.lt Nat _ (L + 1) tp := Nat.lt_trans y12 lt3
  have y25 : @LT.lt Nat _ 588 tp := Nat.lt_trans y16 lt3
  have lt4 : @LT.lt Nat _ lgA tp := lt2 (lgA, _) (by k_mem)
  have N2 := move_ext (l := [_, _, _, _, _, _, _, _]) N1
  simp only [List.cons_append, List.nil_append] at N2
  have m1 := off_app lt (by k_mem) n1
  have m2 := off_app lt (by k_mem) n2
  have m3 := off_app lt (by k_mem) n3
  have m4 := off_app lt (by k_mem) n4
  have m5 := off_app lt (by k_mem) n5
  have m6 := off_app lt (by k_mem) n6
  have m7 := off_app lt (by k_mem) n7
  have m8 := off_app lt (by k_mem) n8
  have hsub : ∀ q ∈ rest, q ∈ ext ++ rest := fun q hq => List.mem_append_right _ hq
  have IT : ItemAt (ext ++ rest) S X V it _ _ _ _ := (SA.item (S := S) (X := X) (V := V) fun q hq => ⟨m1 q (List.mem_append_left _ hq), m2 q (List.mem_append_left _ hq), m3 q (List.mem_append_left _ hq)⟩).sub fun q hq _ => List.mem_append_left _ hq
  have NT : NamesAt (ext ++ rest) S X V nt _ := (SA.names (S := S) (X := X) (V := V) fun q hq => ⟨m1 q (List.mem_append_left _ hq), m2 q (List.mem_append_left _ hq), m3 q (List.mem_append_left _ hq)⟩).sub fun q hq _ => List.mem_append_left _ hq
  have FX2 := FX.sub hsub
  have ck2 := ck0.sub hsub
  have tb2 : Tab588 (ext ++ rest) ps := tb.sub hsub
  have O2 : OffH L S X V nowl lgA (ext ++ rest) := ⟨d5, m1, m2, m3, m4, m5, m6, m7⟩
  have hra' := hsub _ hra
  have hcn' := hsub _ hcn
  have hR' := hR.up hsub
  have hV' := hV.sub (l := ext ++ rest) fun q hq _ => hsub q hq
  clear N1 lt lt2 SA n1 n2 n3 n4 n5 n6 n7 n8 hcn hra hR hV hsub
  generalize ext ++ rest = rest2 at *
  have hel : 1 ≤ sLen wh many ∧ sLen wh many ≤ 600 := sLen_b hmany
  have hal : 0 ≤ sAm wh amount ∧ sAm wh amount ≤ 8 := sAm_b ham
  generalize heE : sLen wh many = e at *
  generalize hamE : sAm wh amount = am at *
  have O := lawStore (t := t) (tt := tt) FX2 O2 ck2
  obtain ⟨L1, L2, L3⟩ := FX2.lims
  obtain ⟨dx1, g1, g2, g3, a1, a2, _, _⟩ := id L1
  obtain ⟨sdx, s1, s2, s3, s4, s5, s6, s7, s8, s9, s10, s11, s12, s13, ast, ack, asd, _, _, _⟩ := id FX2.parts
  obtain ⟨key, hkey⟩ : ∃ k, k = keyOf (sSec wh) (sNs wh) (sNames wh) am (sMu wh many) := ⟨_, rfl⟩
  have hkb : kb amount many wh = key := by rw [hkey]; unfold kb; rw [hamE]
  obtain ⟨pk, hpkk⟩ : ∃ k, k = wkey key ((t - e).fdiv e) := ⟨_, rfl⟩
  obtain ⟨ck, hckk⟩ : ∃ k, k = wkey key (t.fdiv e) := ⟨_, rfl⟩
  have he0 : 0 < e := hel.1
  have he2 : e < 1000000 := q_e hel.2
  have het : e ≤ t := q_et ht.1 hel.2 (Int.le_refl _)
  have htt : t < 1000000000000 := Int.lt_of_le_of_lt ht.2 (by decide)
  have ht0' : 0 ≤ t := q_0 ht.1
  have A3 := A.swept (pk := pk) (ck := ck) ht0'
  have hwF : wF f x pk ck t e = countF lr wh t e := by
    have q := A.weigh (i := wh) hwb.1 hwb.2 (by show 0 < sLen wh many; rw [heE]; exact he0) (by show sLen wh many ≤ t; rw [heE]; exact het)
    simp only [LawK, LawE, hkb, heE, ← hpkk, ← hckk] at q
    exact q
  have hwF2 : wF (F2 f x pk ck t) (F2 x x pk ck t) pk ck t e = countF lr wh t e := by
    have q := A3.weigh (i := wh) hwb.1 hwb.2 (by show 0 < sLen wh many; rw [heE]; exact he0) (by show sLen wh many ≤ t; rw [heE]; exact het)
    simp only [LawK, LawE, hkb, heE, ← hpkk, ← hckk] at q
    exact q
  have hlc : 1 ≤ e ∧ e < 1000000 := ⟨hel.1, he2⟩
  have hnc : 1000000 ≤ t ∧ t < 1000000000000 := ⟨ht.1, htt⟩
  have hcn0 : 0 ≤ countF lr wh t e := count_nonneg he0 fun r hr => (hc r hr).1
  have hcast : ((i + 1 : Nat) : Int) = (i : Int) + 1 := rfl
  have hb2 : Bd (F2 f x pk ck t) (100 * (i : Int)) := hbd.F2 pk ck
  have hee : e = unitOf (sSec wh) * sMu wh many := heE ▸ sLen_eq wh many
  have hf2 : ∀ j, 0 ≤ (F2 f x pk ck t j).getD 0 ∧ (F2 f x pk ck t j).getD 0 ≤ 1000000 := fun j => q_f hi (hb2 j)
  k_steps
  · exfalso
    refine (fun (e1 : _ = pcF f x pk t) (e2 : _ = ttlF _ t e) (e3 : _ = ccF f x pk ck t) (q : remF am _ ≠ _) => ?_) (by assumption) (by assumption) (by assumption) (by assumption)
    subst e1
    subst e2
    subst e3
    refine q ?_
    rw [show (pcF f x pk t * ttlF (pcF f x pk t) t e).fdiv e + ccF f x pk ck t = wF f x pk ck t e from rfl, hwF]
    rfl
  · exfalso
    refine (fun (q : (decide (wF (F2 f x pk ck t) (F2 x x pk ck t) pk ck t e < _) != decide _) = true) => ?_) (by assumption)
    rw [hwF2] at q
    simp only [bne_iff_ne, ne_eq, decide_eq_decide] at q
    exact q ⟨fun _ => by omega, fun _ => by omega⟩
  · exact turn_end (by assumption) (news_of (by assumption) (fun q hq => by repeat (first | exact hq | refine List.Mem.tail _ ?_))) dI d6 m8 FX2 ⟨⟨_, rfl⟩, ⟨_, rfl⟩, rfl, rfl, rfl, rfl, rfl, rfl⟩ O2 ck2 tb2 (by assumption) hR' (by assumption) (by assumption) hV' ⟨hc, Nat.le_succ_of_le hn, fun j => by rw [hcast, Int.mul_add]; exact (Bd.mono (hb2.F2 (x := F2 x x pk ck t) (t := t) pk ck) (Int.le_add_of_nonneg_right (by decide))) j, q_two hzS (by first | exact Nat.le_refl _ | exact Nat.le_succ _ | exact Nat.le_add_right _ 2), q_two hzX (by first | exact Nat.le_refl _ | exact Nat.le_succ _ | exact Nat.le_add_right _ 2), q_two hzV (Nat.le_add_right _ _), q_th hzz (Nat.le_add_right _ _), ht.1, q_t2 ht1⟩ (A3.swept ht0')
end c_turn2_spec
theorem turn2_spec {w : World} {p : Program} {loose : List Str} {mean : ExcName → Option Value} {mg : Str → Option Value} {mb : Str → Option Value} {gd : Option (List Code)} {a : Addr} {A₀ : Around} {base : Heap} {h₀ : Heap} {L : Addr} {s : Shared} {Q : Flow → Shared → Prop} {E : Value → Shared → Prop} (B : Below A₀ base [] h₀) (KX : (Mine.hd1.heap_39 w.params).In h₀) (T : Top p loose mean mg mb h₀) {I : Addr} {nowl : Addr} {st : Addr} {S : Addr} {X : Addr} {V : Addr} {clk : Addr} {lim : Addr} {fix : Addr} {mov : Addr} {rA : Addr} {oI : Obj} {rv : List Value} {kr : Nat} {i : Nat} {amount : Int} {many : Int} {wh : Int} {tw : Tok} {m₁ : Str → Option Value} {nw : List (Addr × Obj)} (LA : LawAt w amount many L st S X V clk lim fix mov nowl rA rv kr i m₁ nw) (off : ∀ p ∈ nw, p.1 ≠ I) (dI : @LT.lt Nat _ V I) (F : Fr h₀ L s.heap m₁) (N : News h₀ L s.heap ((I, oI) :: nw)) (hwb : 0 ≤ wh ∧ wh < 6) (hi : i ≤ 26) (ham : 0 ≤ amount ∧ amount < 8) (hmany : 1 ≤ many ∧ many ≤ 9) :
    wpAny (model PySem.Challenge.rw_ji0060_01.row.prog w) (ktrTop 820 8200 gd (Str.ofString "law") lawScope L a (.ref 712) (cellsFrom (L + 1) lawScope.names []) []) (assign turnTarget2 (envX (Str.ofString "law") lawScope L a (.ref 712) (cellsFrom (L + 1) lawScope.names [])) (.int wh tw))
      (fun _ s₃ => wpAny (model PySem.Challenge.rw_ji0060_01.row.prog w) (ktrTop 820 8200 gd (Str.ofString "law") lawScope L a (.ref 712) (cellsFrom (L + 1) lawScope.names []) []) (execs turnBody2 (envX (Str.ofString "law") lawScope L a (.ref 712) (cellsFrom (L + 1) lawScope.names [])))
      (TurnPost h₀ L (LawAt w amount many L st S X V clk lim fix mov nowl rA rv kr (i + 1)) I oI s Q) E s₃) E s :=
  c_turn2_spec.zal c_turn2_spec.walk1 (w, p, loose, mean, mg, mb, gd, a, A₀, base, h₀, L, s, Q, E, I, nowl, st, S, X, V, clk, lim, fix, mov, rA, oI, rv, kr, i, amount, many, wh, tw, m₁) _ B KX T LA off dI F N hwb hi ham hmany
section
variable {w : World} {p : Program} {loose : List Str} {mean : ExcName → Option Value} {mg mb : Str → Option Value} {gd : Option (List Code)} {a : Addr} {A₀ : Around} {base h₀ : Heap} {L : Addr} {m : Str → Option Value} {s : Shared} {Q : Flow → Shared → Prop} {E : Value → Shared → Prop}
  (B : Below A₀ base [] h₀) (KX : (Mine.hd1.heap_39 w.params).In h₀) (T : Top p loose mean mg mb h₀)
include B KX T
end

end
section
theorem start_order {h₀ h : Heap} {L : Addr} {rA sl lg mov dmov fix dfix lim dlim V X S st dx clk cr now p1 p2 p3 p4 p5 cn cw t640 t588 t710 : Addr × Obj}
    (N : News h₀ L h [rA, sl, lg, mov, dmov, fix, dfix, lim, dlim, V, X, S, st, dx, clk, cr, now, p1, p2, p3, p4, p5, cn, cw, t640, t588, t710]) :
    News h₀ L h (S :: X :: V :: t588 :: lg :: cw :: now :: [rA, mov, dmov, fix, dfix, lim, dlim, st, dx, clk, cr, cn, t640, t710]) := by
  refine fun q hq => N q ((?_ : ∀ q ∈ _, q ∈ _) q hq)
  iterate 21 (refine subCons (by repeat (first | exact List.Mem.head _ | refine List.Mem.tail _ ?_)) ?_)
  exact fun q hq => nomatch hq
theorem empty_int {prog : Program} {w : World} {o : Obj} (h : o.IsDictOf (PySem.strKind prog w) []) : IntD prog w o (fun _ => none) 0 := ⟨[], h, Nat.le_refl _, fun _ => trivial⟩
theorem empty_ev {prog : Program} {w : World} {o : Obj} {S X V : Addr} {news : List (Addr × Obj)} (h : o.IsDictOf (PySem.strKind prog w) []) : EvD prog w news S X V o (fun _ => none) 0 0 := ⟨fun _ => none, ⟨[], h, Nat.le_refl _, fun _ => trivial⟩, fun _ => trivial⟩
theorem law_start {w : World} {amount many t : Int} {L st S X V clk lim fix mov nowl rA lgA dlim dfix dmov dx cr : Addr} {rv : List Value} {kr : Nat} {m : Str → Option Value} {oS oX oV ocw ocn oc : Obj} {vcw : Option Value} {vs : Array Value} {qual : Str} {tq tt : Tok}
    {g1 g2 g3 h1 h2 h3 h4 : Int} {n1 n2 n3 n4 kl : Nat} {u1 u2 u3 t1 t2 t3 t4 : Tok} {ps' : Array Value} {psf : Arguments} {bd : PySem.Expr} {sc : Scope} {pm ctv : Value}
    (P : Pins m amount many st lim fix mov lgA rA)
    (epk : psf = { posonlyargs := [], args := [], vararg := none, kwonlyargs := [], kw_defaults := [], kwarg := none, defaults := [] })
    (ebd : bd = ((PySem.Expr.Name (Str.ofString "now") { line := 587, col := 34, endLine := 587, endCol := 37 }).Subscript (PySem.Expr.Constant (Const.int 0) 0 { line := 587, col := 38, endLine := 587, endCol := 39 }) { line := 587, col := 34, endLine := 587, endCol := 40 }))
    (esc : sc = { kind := ScopeKind.function, names := [(Str.ofString "now", NameKind.free)], isGenerator := false, isCoroutine := false })
    (c0 : @LT.lt Nat _ 710 L) (c2 : @LT.lt Nat _ (L + 1 + 1) nowl) (c3 : @LT.lt Nat _ nowl cr) (c4 : @LT.lt Nat _ cr clk) (c5 : @LT.lt Nat _ clk dx) (c6 : @LT.lt Nat _ dx st) (c7 : @LT.lt Nat _ st S) (c8 : @LT.lt Nat _ S X) (c9 : @LT.lt Nat _ X V)
    (c10 : @LT.lt Nat _ V dlim) (c11 : @LT.lt Nat _ dlim lim) (c12 : @LT.lt Nat _ lim dfix) (c13 : @LT.lt Nat _ dfix fix) (c14 : @LT.lt Nat _ fix dmov) (c15 : @LT.lt Nat _ dmov mov) (c16 : @LT.lt Nat _ mov lgA) (c17 : @LT.lt Nat _ lgA rA)
    (hcn : ocn.data = .cell (some (.ref nowl))) (hcw : ocw.data = .cell vcw) (hd : oc.data = .fields vs) (hv : vs[1]? = some (.str qual tq))
    (dS : oS.IsDictOf (PySem.strKind PySem.Challenge.rw_ji0060_01.row.prog w) []) (dX : oX.IsDictOf (PySem.strKind PySem.Challenge.rw_ji0060_01.row.prog w) []) (dV : oV.IsDictOf (PySem.strKind PySem.Challenge.rw_ji0060_01.row.prog w) [])
    (lS : (S == sysModules) = false) (lX : (X == sysModules) = false) (lV : (V == sysModules) = false) (ht0 : 1000000 ≤ t) (ht1 : t ≤ 2000000000) :
    LawAt w amount many L st S X V clk lim fix mov nowl rA rv kr 0 m ((S, oS) :: (X, oX) :: (V, oV) :: (588, tabObj #[]) :: (lgA, listOf #[] kl) :: (L + 1, ocw) :: (nowl, listOf #[.int t tt] 0) ::
      [(rA, listOf rv.toArray kr), (mov, instObj 202 dmov), (dmov, dictOf [⟨g1, .str (Str.ofString "storage") u1, .ref st⟩] n1), (fix, instObj 241 dfix), (dfix, dictOf [⟨g2, .str (Str.ofString "storage") u2, .ref st⟩] n2), (lim, instObj 296 dlim), (dlim, dictOf [⟨g3, .str (Str.ofString "storage") u3, .ref st⟩] n3),
       (st, instObj 691 dx), (dx, dictOf [⟨h1, .str (Str.ofString "clock") t1, .ref clk⟩, ⟨h2, .str (Str.ofString "storage") t2, .ref S⟩, ⟨h3, .str (Str.ofString "expirations") t3, .ref X⟩, ⟨h4, .str (Str.ofString "events") t4, .ref V⟩] n4),
       (clk, kla_obj (Str.ofString "<lambda>") qual psf bd sc [(Str.ofString "now", L + 1 + 1)] pm cr ctv), (cr, oc), (L + 1 + 1, ocn), (640, tabObj #[]), (710, tabObj ps')]) := by
  have v1 : @LT.lt Nat _ S V := Nat.lt_trans c8 c9
  have vl : @LT.lt Nat _ V lim := Nat.lt_trans c10 c11
  have vdf : @LT.lt Nat _ V dfix := Nat.lt_trans vl c12
  have vf : @LT.lt Nat _ V fix := Nat.lt_trans vdf c13
  have vdm : @LT.lt Nat _ V dmov := Nat.lt_trans vf c14
  have vm : @LT.lt Nat _ V mov := Nat.lt_trans vdm c15
  have vg : @LT.lt Nat _ V lgA := Nat.lt_trans vm c16
  have vr : @LT.lt Nat _ V rA := Nat.lt_trans vg c17
  have s2 : @LT.lt Nat _ dx S := Nat.lt_trans c6 c7
  have s3 : @LT.lt Nat _ clk S := Nat.lt_trans c5 s2
  have s4 : @LT.lt Nat _ cr S := Nat.lt_trans c4 s3
  have s5 : @LT.lt Nat _ nowl S := Nat.lt_trans c3 s4
  have s6 : @LT.lt Nat _ (L + 1 + 1) S := Nat.lt_trans c2 s5
  have s7 : @LT.lt Nat _ (L + 1) S := Nat.lt_trans (Nat.lt_succ_self _) s6
  have z1 : @LT.lt Nat _ 710 (L + 1) := Nat.lt_succ_of_lt c0
  have z2 : @LT.lt Nat _ 710 nowl := Nat.lt_trans z1 (Nat.lt_trans (Nat.lt_succ_self _) c2)
  have z3 : @LT.lt Nat _ 710 S := Nat.lt_trans z2 s5
  have y1 : @LT.lt Nat _ 640 710 := by decide
  have y2 : @LT.lt Nat _ 588 640 := by decide
  have y3 : @LT.lt Nat _ 588 710 := by decide
  have up : ∀ {A : Nat}, V ≤ A → @Ne Nat st A ∧ @Ne Nat dx A ∧ @Ne Nat clk A ∧ @Ne Nat cr A ∧ @Ne Nat (L + 1 + 1) A ∧ @Ne Nat 640 A ∧ @Ne Nat 710 A := fun h =>
    have k : ∀ {x : Nat}, x < S → x ≠ _ := fun q => Nat.ne_of_lt (Nat.lt_of_lt_of_le (Nat.lt_trans q v1) h)
    ⟨k c7, k s2, k s3, k s4, k s6, k (Nat.lt_trans y1 z3), k z3⟩
  have mid : ∀ {A : Nat}, S ≤ A → @Ne Nat st A ∧ @Ne Nat dx A ∧ @Ne Nat clk A ∧ @Ne Nat cr A ∧ @Ne Nat (L + 1 + 1) A ∧ @Ne Nat 640 A ∧ @Ne Nat 710 A := fun h =>
    have k : ∀ {x : Nat}, x < S → x ≠ _ := fun q => Nat.ne_of_lt (Nat.lt_of_lt_of_le q h)
    ⟨k c7, k s2, k s3, k s4, k s6, k (Nat.lt_trans y1 z3), k z3⟩
  have dn : ∀ {A : Nat}, A ≤ V → @Ne Nat rA A ∧ @Ne Nat mov A ∧ @Ne Nat dmov A ∧ @Ne Nat fix A ∧ @Ne Nat dfix A ∧ @Ne Nat lim A ∧ @Ne Nat dlim A := fun h =>
    have k : ∀ {x : Nat}, V < x → x ≠ _ := fun q => Nat.ne_of_gt (Nat.lt_of_le_of_lt h q)
    ⟨k vr, k vm, k vdm, k vf, k vdf, k vl, k c10⟩
  have lo : ∀ {A : Nat}, A ≤ nowl → @Ne Nat st A ∧ @Ne Nat dx A ∧ @Ne Nat clk A ∧ @Ne Nat cr A := fun h =>
    have k : ∀ {x : Nat}, nowl < x → x ≠ _ := fun q => Nat.ne_of_gt (Nat.lt_of_le_of_lt h q)
    ⟨k (Nat.lt_trans (Nat.lt_trans (Nat.lt_trans c3 c4) c5) c6), k (Nat.lt_trans (Nat.lt_trans c3 c4) c5), k (Nat.lt_trans c3 c4), k c3⟩
  have nV : @LE.le Nat _ nowl V := Nat.le_of_lt (Nat.lt_trans s5 v1)
  have off : ∀ A : Nat, (@Ne Nat rA A ∧ @Ne Nat mov A ∧ @Ne Nat dmov A ∧ @Ne Nat fix A ∧ @Ne Nat dfix A ∧ @Ne Nat lim A ∧ @Ne Nat dlim A) → (@Ne Nat st A ∧ @Ne Nat dx A ∧ @Ne Nat clk A ∧ @Ne Nat cr A ∧ @Ne Nat (L + 1 + 1) A ∧ @Ne Nat 640 A ∧ @Ne Nat 710 A) →
      (∀ q ∈ [(rA, listOf rv.toArray kr), (mov, instObj 202 dmov), (dmov, dictOf [⟨g1, .str (Str.ofString "storage") u1, .ref st⟩] n1), (fix, instObj 241 dfix), (dfix, dictOf [⟨g2, .str (Str.ofString "storage") u2, .ref st⟩] n2), (lim, instObj 296 dlim), (dlim, dictOf [⟨g3, .str (Str.ofString "storage") u3, .ref st⟩] n3),
       (st, instObj 691 dx), (dx, dictOf [⟨h1, .str (Str.ofString "clock") t1, .ref clk⟩, ⟨h2, .str (Str.ofString "storage") t2, .ref S⟩, ⟨h3, .str (Str.ofString "expirations") t3, .ref X⟩, ⟨h4, .str (Str.ofString "events") t4, .ref V⟩] n4),
       (clk, kla_obj (Str.ofString "<lambda>") qual psf bd sc [(Str.ofString "now", L + 1 + 1)] pm cr ctv), (cr, oc), (L + 1 + 1, ocn), (640, tabObj #[]), (710, tabObj ps')], @Ne Nat q.1 A) := fun A ⟨a1, a2, a3, a4, a5, a6, a7⟩ ⟨b1, b2, b3, b4, b5, b6, b7⟩ =>
    List.forall_mem_cons.mpr ⟨a1, List.forall_mem_cons.mpr ⟨a2, List.forall_mem_cons.mpr ⟨a3, List.forall_mem_cons.mpr ⟨a4, List.forall_mem_cons.mpr ⟨a5, List.forall_mem_cons.mpr ⟨a6, List.forall_mem_cons.mpr ⟨a7, List.forall_mem_cons.mpr ⟨b1, List.forall_mem_cons.mpr ⟨b2, List.forall_mem_cons.mpr ⟨b3, List.forall_mem_cons.mpr ⟨b4, List.forall_mem_cons.mpr ⟨b5, List.forall_mem_cons.mpr ⟨b6, List.forall_mem_cons.mpr ⟨b7, fun _ h => nomatch h⟩⟩⟩⟩⟩⟩⟩⟩⟩⟩⟩⟩⟩⟩
  have lm : ∀ {C lim dlim : Addr} {g u n}, @LT.lt Nat _ V dlim → @LT.lt Nat _ dlim lim → ∀ {news : List (Addr × Obj)}, (lim, instObj C dlim) ∈ news → (dlim, dictOf [⟨g, .str (Str.ofString "storage") u, .ref st⟩] n) ∈ news → LimAt news S X V C lim st := fun {C lim dlim g u n} a b {news} m1 m2 =>
    have k : ∀ {x : Nat}, V < x → Off S X V x := fun q => ⟨Nat.ne_of_gt (Nat.lt_trans v1 q), Nat.ne_of_gt (Nat.lt_trans c9 q), Nat.ne_of_gt q⟩
    ⟨dlim, g, u, n, m1, m2, k (Nat.lt_trans a b), k a⟩
  obtain ⟨ka, kb', kc, kd, hk⟩ : ∃ oc od fd sl, ∀ l : List (Addr × Obj), (clk, kla_obj (Str.ofString "<lambda>") qual psf bd sc [(Str.ofString "now", L + 1 + 1)] pm cr ctv) ∈ l → (clk, (⟨oc, od, .func fd, sl⟩ : Obj)) ∈ l := ⟨_, _, _, _, fun l h => h⟩
  refine ⟨lgA, [], kl, [], t, tt, ocw, vcw, oS, oX, oV, #[], fun _ => none, fun _ => none, fun _ => none, 0, 0, 0, 0, _, rfl, ⟨⟨dx, h1, h2, h3, h4, t1, t2, t3, t4, n4, ka, kb', kc, kd, ?_, hk _ ?_, ?_, Nat.lt_trans c6 c7, c7, Nat.lt_trans (Nat.lt_trans c5 c6) c7⟩, ⟨lm (g := g3) (u := u3) (n := n3) c10 c11 ?_ ?_, lm (g := g2) (u := u2) (n := n2) vdf c13 ?_ ?_, lm (g := g1) (u := u1) (n := n1) vdm c15 ?_ ?_⟩, ⟨ocn, ?_, hcn⟩, ?_, ⟨?_, ps', ?_⟩, ?_, c2, ?_, c8, c9, lS, lX, lV⟩, P,
    ⟨⟨Nat.ne_of_gt (Nat.lt_trans v1 vg), Nat.ne_of_gt (Nat.lt_trans c9 vg), Nat.ne_of_gt vg, Nat.ne_of_gt (Nat.lt_trans (Nat.lt_trans y3 z3) (Nat.lt_trans v1 vg)), Nat.ne_of_gt (Nat.lt_trans s7 (Nat.lt_trans v1 vg)), Nat.ne_of_gt (Nat.lt_trans s5 (Nat.lt_trans v1 vg))⟩,
      off S (dn (Nat.le_of_lt v1)) (mid (Nat.le_refl _)), off X (dn (Nat.le_of_lt c9)) (mid (Nat.le_of_lt c8)), off V (dn (Nat.le_refl _)) (mid (Nat.le_of_lt v1)),
      off 588 (dn (Nat.le_of_lt (Nat.lt_trans (Nat.lt_trans y3 z3) v1))) ⟨(lo (Nat.le_of_lt (Nat.lt_trans y3 z2))).1, (lo (Nat.le_of_lt (Nat.lt_trans y3 z2))).2.1, (lo (Nat.le_of_lt (Nat.lt_trans y3 z2))).2.2.1, (lo (Nat.le_of_lt (Nat.lt_trans y3 z2))).2.2.2, Nat.ne_of_gt (Nat.lt_trans (Nat.lt_trans y3 z1) (Nat.lt_succ_self _)), Nat.ne_of_gt y2, Nat.ne_of_gt y3⟩,
      off lgA ⟨Nat.ne_of_gt c17, Nat.ne_of_lt c16, Nat.ne_of_lt (Nat.lt_trans c15 c16), Nat.ne_of_lt (Nat.lt_trans c14 (Nat.lt_trans c15 c16)), Nat.ne_of_lt (Nat.lt_trans c13 (Nat.lt_trans c14 (Nat.lt_trans c15 c16))), Nat.ne_of_lt (Nat.lt_trans c12 (Nat.lt_trans c13 (Nat.lt_trans c14 (Nat.lt_trans c15 c16)))), Nat.ne_of_lt (Nat.lt_trans c11 (Nat.lt_trans c12 (Nat.lt_trans c13 (Nat.lt_trans c14 (Nat.lt_trans c15 c16)))))⟩ (up (Nat.le_of_lt vg)),
      off (L + 1) (dn (Nat.le_of_lt (Nat.lt_trans s7 v1))) ⟨(lo (Nat.le_of_lt (Nat.lt_trans (Nat.lt_succ_self _) c2))).1, (lo (Nat.le_of_lt (Nat.lt_trans (Nat.lt_succ_self _) c2))).2.1, (lo (Nat.le_of_lt (Nat.lt_trans (Nat.lt_succ_self _) c2))).2.2.1, (lo (Nat.le_of_lt (Nat.lt_trans (Nat.lt_succ_self _) c2))).2.2.2, Nat.ne_of_gt (Nat.lt_succ_self _), Nat.ne_of_lt (Nat.lt_trans y1 z1), Nat.ne_of_lt z1⟩,
      off nowl (dn nV) ⟨(lo (Nat.le_refl _)).1, (lo (Nat.le_refl _)).2.1, (lo (Nat.le_refl _)).2.2.1, (lo (Nat.le_refl _)).2.2.2, Nat.ne_of_lt c2, Nat.ne_of_lt (Nat.lt_trans y1 z2), Nat.ne_of_lt z2⟩⟩, ?_, .inl rfl, hcw, .nil, empty_int dS, empty_int dX, empty_ev dV, ⟨(fun r hr => nomatch hr), Nat.zero_le _, fun j => ⟨Int.le_refl _, by simp⟩, Nat.zero_le _, Nat.zero_le _, Nat.zero_le _, Nat.zero_le _, ht0, by show t ≤ 2000000000 + 2000 * ((0 : Nat) : Int); omega⟩, Agree.start (by omega)⟩
  any_goals (first
    | exact List.Mem.head _
    | exact .tail _ (.head _)
    | exact .tail _ (.tail _ (.head _))
    | exact .tail _ (.tail _ (.tail _ (.head _)))
    | exact .tail _ (.tail _ (.tail _ (.tail _ (.head _))))
    | exact .tail _ (.tail _ (.tail _ (.tail _ (.tail _ (.head _)))))
    | exact .tail _ (.tail _ (.tail _ (.tail _ (.tail _ (.tail _ (.head _))))))
    | exact .tail _ (.tail _ (.tail _ (.tail _ (.tail _ (.tail _ (.tail _ (.head _)))))))
    | exact .tail _ (.tail _ (.tail _ (.tail _ (.tail _ (.tail _ (.tail _ (.tail _ (.head _))))))))
    | exact .tail _ (.tail _ (.tail _ (.tail _ (.tail _ (.tail _ (.tail _ (.tail _ (.tail _ (.head _)))))))))
    | exact .tail _ (.tail _ (.tail _ (.tail _ (.tail _ (.tail _ (.tail _ (.tail _ (.tail _ (.tail _ (.head _))))))))))
    | exact .tail _ (.tail _ (.tail _ (.tail _ (.tail _ (.tail _ (.tail _ (.tail _ (.tail _ (.tail _ (.tail _ (.head _)))))))))))
    | exact .tail _ (.tail _ (.tail _ (.tail _ (.tail _ (.tail _ (.tail _ (.tail _ (.tail _ (.tail _ (.tail _ (.tail _ (.head _))))))))))))
    | exact .tail _ (.tail _ (.tail _ (.tail _ (.tail _ (.tail _ (.tail _ (.tail _ (.tail _ (.tail _ (.tail _ (.tail _ (.tail _ (.head _)))))))))))))
    | omega)
  intro t' tt'
  refine ⟨_, clock_of (L := L) (c' := cr) (a := L + 1 + 1) (pm := pm) (ctv := ctv) (tt := tt') epk ebd esc hd hv hcn, fun q hq => ?_⟩
  simp only [List.mem_cons, List.not_mem_nil, or_false] at hq
  rcases hq with rfl | rfl | rfl | rfl
  · exact .inr (.tail _ (.tail _ (.tail _ (.tail _ (.tail _ (.tail _ (.tail _ (.tail _ (.tail _ (.head _))))))))))
  · exact .inr (.tail _ (.tail _ (.tail _ (.tail _ (.tail _ (.tail _ (.tail _ (.tail _ (.tail _ (.tail _ (.head _)))))))))))
  · exact .inr (.tail _ (.tail _ (.tail _ (.tail _ (.tail _ (.tail _ (.tail _ (.tail _ (.tail _ (.tail _ (.tail _ (.head _))))))))))))
  · exact .inl rfl

end
section
theorem repr_inj' {n m : Nat} (h : Nat.repr n = Nat.repr m) : n = m := by
  have h1 := congrArg String.toList h
  rw [Nat.toList_repr, Nat.toList_repr] at h1
  have h2 : Nat.ofDigitChars 10 (Nat.toDigits 10 n) 0 = Nat.ofDigitChars 10 (Nat.toDigits 10 m) 0 := by rw [h1]
  rwa [Nat.ofDigitChars_toDigits (by decide) (by decide), Nat.ofDigitChars_toDigits (by decide) (by decide)] at h2
theorem text_inj {n m : Int} (hn : 0 ≤ n) (hm : 0 ≤ m) (h : (toString n : String) = toString m) : n = m := by
  obtain ⟨a, rfl⟩ := Int.eq_ofNat_of_zero_le hn
  obtain ⟨b, rfl⟩ := Int.eq_ofNat_of_zero_le hm
  exact congrArg _ (repr_inj' h)
theorem chars_inj : ∀ {a b : List Char}, a.map Char.toNat = b.map Char.toNat → a = b
  | [], [], _ => rfl
  | [], _ :: _, h => by simp at h
  | _ :: _, [], h => by simp at h
  | x :: a, y :: b, h => by
    rw [List.map_cons, List.map_cons, List.cons.injEq] at h
    rw [chars_inj h.2, Char.ext (UInt32.toNat_inj.mp h.1)]
theorem ofString_inj {a b : String} (h : Str.ofString a = Str.ofString b) : a = b := by
  rw [Str.ofString_eq_toList, Str.ofString_eq_toList] at h
  have h1 : a.toList.map Char.toNat = b.toList.map Char.toNat := by
    have := congrArg (fun s : Str => s.cps.toList) h
    simpa using this
  have h2 := chars_inj h1
  rw [← String.ofList_toList (s := a), h2, String.ofList_toList]
theorem last_split {c : Nat} : ∀ {a a' d d' : List Nat}, c ∉ d → c ∉ d' → a ++ c :: d = a' ++ c :: d' → a = a' ∧ d = d'
  | [], [], _, _, _, _, h => ⟨rfl, (List.cons.inj h).2⟩
  | [], x :: a', d, d', h1, _, h => by
    rw [List.nil_append, List.cons_append] at h
    have := (List.cons.inj h).2
    exact absurd (by rw [this]; exact List.mem_append_right _ (.head _)) h1
  | x :: a, [], d, d', _, h2, h => by
    rw [List.nil_append, List.cons_append] at h
    have := (List.cons.inj h).2
    exact absurd (by rw [← this]; exact List.mem_append_right _ (.head _)) h2
  | x :: a, y :: a', d, d', h1, h2, h => by
    rw [List.cons_append, List.cons_append] at h
    obtain ⟨e1, e2⟩ := List.cons.inj h
    obtain ⟨e3, e4⟩ := last_split h1 h2 e2
    exact ⟨by rw [e1, e3], e4⟩
theorem cps_app (a b : Str) : (a ++ b).cps.toList = a.cps.toList ++ b.cps.toList := by
  show (a.cps ++ b.cps).toList = _
  simp
theorem slash : (Str.ofString "/").cps.toList = [47] := by decide +kernel
theorem wkey_cps (k : Str) (n : Int) : (wkey k n).cps.toList = k.cps.toList ++ 47 :: (Str.ofString (toString n)).cps.toList := by
  unfold wkey
  rw [cps_app, cps_app, cps_app, slash]
  show ([] ++ _) ++ _ ++ _ = _
  simp
theorem cps_inj {a b : Str} (h : a.cps.toList = b.cps.toList) : a = b := by
  cases a; cases b
  congr 1
  exact Array.toList_inj.mp h
theorem wkey_inj {k k' : Str} {n n' : Int} (hn : 0 ≤ n) (hn' : 0 ≤ n') (h : wkey k n = wkey k' n') : k = k' ∧ n = n' := by
  have h1 := congrArg (fun s : Str => s.cps.toList) h
  (try dsimp only at h1)
  rw [wkey_cps, wkey_cps] at h1
  obtain ⟨e1, e2⟩ := last_split (PyProof.Rows.int_text_free 47 (by decide) n) (PyProof.Rows.int_text_free 47 (by decide) n') h1
  exact ⟨cps_inj e1, text_inj hn hn' (ofString_inj (cps_inj e2))⟩
theorem kb_last (amount many i : Int) : ∃ X, (kb amount many i).cps.toList = X ++ 47 :: (granOf (sSec i)).cps.toList := by
  have h1 : ∀ (a b c d : Str), ∃ X, (Txt.join (Str.ofString "/") [a, b, c, d]).cps.toList = X ++ 47 :: d.cps.toList := fun a b c d => by
    refine ⟨a.cps.toList ++ 47 :: b.cps.toList ++ 47 :: c.cps.toList, ?_⟩
    show (a ++ Str.ofString "/" ++ b ++ Str.ofString "/" ++ c ++ Str.ofString "/" ++ d).cps.toList = _
    simp only [cps_app, slash, List.append_assoc, List.cons_append, List.nil_append]
  have h2 : ∀ (n a b c d : Str), ∃ X, (Txt.join (Str.ofString "/") [n, a, b, c, d]).cps.toList = X ++ 47 :: d.cps.toList := fun n a b c d => by
    refine ⟨n.cps.toList ++ 47 :: a.cps.toList ++ 47 :: b.cps.toList ++ 47 :: c.cps.toList, ?_⟩
    show (n ++ Str.ofString "/" ++ a ++ Str.ofString "/" ++ b ++ Str.ofString "/" ++ c ++ Str.ofString "/" ++ d).cps.toList = _
    simp only [cps_app, slash, List.append_assoc, List.cons_append, List.nil_append]
  unfold kb keyOf ikey sNames
  rw [cps_app]
  split
  · obtain ⟨X, hX⟩ := h2 (Str.ofString "ann") (Str.ofString "bob") (itx (sAm i amount)) (itx (sMu i many)) (granOf (sSec i))
    refine ⟨(Str.empty ++ sNs i ++ Str.ofString "/").cps.toList ++ X, ?_⟩
    rw [List.append_assoc, ← hX]
    rfl
  · obtain ⟨X, hX⟩ := h1 (Str.ofString "ann") (itx (sAm i amount)) (itx (sMu i many)) (granOf (sSec i))
    refine ⟨(Str.empty ++ sNs i ++ Str.ofString "/").cps.toList ++ X, ?_⟩
    rw [List.append_assoc, ← hX]
    rfl
theorem wkey_kb (amount many i : Int) (k : Str) {n : Int} (hn : 0 ≤ n) : wkey k n ≠ kb amount many i := fun h => by
  obtain ⟨X, hX⟩ := kb_last amount many i
  have h1 := congrArg (fun s : Str => s.cps.toList) h
  (try dsimp only at h1)
  rw [wkey_cps, hX] at h1
  have hg : 47 ∉ (granOf (sSec i)).cps.toList := by
    unfold granOf; split <;> decide +kernel
  obtain ⟨_, e2⟩ := last_split (PyProof.Rows.int_text_free 47 (by decide) n) hg h1
  have hm : ∃ c, c ∈ (granOf (sSec i)).cps.toList ∧ 101 = c := ⟨101, by unfold granOf; split <;> decide +kernel, rfl⟩
  obtain ⟨c, hc, rfl⟩ := hm
  rw [← e2] at hc
  rw [Str.ofString_eq_toList] at hc
  simp only [List.mem_map] at hc
  obtain ⟨ch, h3, h4⟩ := hc
  rcases PyProof.Rows.int_sign n ch h3 with h5 | h5
  · have := PyProof.Rows.digit_range h5; omega
  · subst h5; revert h4; decide
noncomputable def kbHead (i : Int) : List Nat := (sNs i).cps.toList ++ 47 :: (if i = 1 then (Str.ofString "ann").cps.toList ++ 47 :: (Str.ofString "bob").cps.toList else (Str.ofString "ann").cps.toList)
theorem kb_form (amount many i : Int) : (kb amount many i).cps.toList = ((kbHead i ++ 47 :: (itx (sAm i amount)).cps.toList) ++ 47 :: (itx (sMu i many)).cps.toList) ++ 47 :: (granOf (sSec i)).cps.toList := by
  have h0 : ∀ (u a b c d : Str), (Str.empty ++ u ++ Str.ofString "/" ++ Txt.join (Str.ofString "/") [a, b, c, d]).cps.toList = ((u.cps.toList ++ 47 :: a.cps.toList) ++ 47 :: b.cps.toList ++ 47 :: c.cps.toList) ++ 47 :: d.cps.toList := fun u a b c d => by
    show (Str.empty ++ u ++ Str.ofString "/" ++ (a ++ Str.ofString "/" ++ b ++ Str.ofString "/" ++ c ++ Str.ofString "/" ++ d)).cps.toList = _
    simp only [cps_app, slash, List.append_assoc, List.cons_append, List.nil_append]
    rfl
  have h1 : ∀ (u n a b c d : Str), (Str.empty ++ u ++ Str.ofString "/" ++ Txt.join (Str.ofString "/") [n, a, b, c, d]).cps.toList = ((u.cps.toList ++ 47 :: (n.cps.toList ++ 47 :: a.cps.toList)) ++ 47 :: b.cps.toList ++ 47 :: c.cps.toList) ++ 47 :: d.cps.toList := fun u n a b c d => by
    show (Str.empty ++ u ++ Str.ofString "/" ++ (n ++ Str.ofString "/" ++ a ++ Str.ofString "/" ++ b ++ Str.ofString "/" ++ c ++ Str.ofString "/" ++ d)).cps.toList = _
    simp only [cps_app, slash, List.append_assoc, List.cons_append, List.nil_append]
    rfl
  unfold kb keyOf ikey sNames kbHead
  split
  · exact h1 _ _ _ _ _ _
  · exact h0 _ _ _ _ _
theorem kbHead_len {i : Int} : (kbHead i).length = if i = 1 then 15 else if i = 5 then 9 else 11 := by
  unfold kbHead sNs
  by_cases h1 : i = 1
  · subst h1; decide +kernel
  · rw [if_neg h1, if_neg h1]
    by_cases h5 : i = 5
    · subst h5; decide +kernel
    · rw [if_neg h5, if_neg h5]; decide +kernel
theorem gran_inj {a b : Bool} (h : (granOf a).cps.toList = (granOf b).cps.toList) : a = b := by
  cases a <;> cases b <;> first | rfl | (exfalso; revert h; decide +kernel)
theorem gran_free (a : Bool) : 47 ∉ (granOf a).cps.toList := by
  cases a <;> decide +kernel
theorem six4 {i : Int} (h0 : 0 ≤ i) (h : i < 6) (p : ¬ i = 1) (r : ¬ i = 5) : i = 0 ∨ i = 2 ∨ i = 3 ∨ i = 4 := by
  obtain ⟨n, rfl⟩ := Int.eq_ofNat_of_zero_le h0
  match n, h, p, r with
  | 0, _, _, _ => exact .inl rfl
  | 1, _, p, _ => exact absurd rfl p
  | 2, _, _, _ => exact .inr (.inl rfl)
  | 3, _, _, _ => exact .inr (.inr (.inl rfl))
  | 4, _, _, _ => exact .inr (.inr (.inr rfl))
  | 5, _, _, r => exact absurd rfl r
  | n + 6, h, _, _ => exact absurd (Int.ofNat_lt.mp h) (Nat.not_lt.mpr (Nat.le_add_left 6 n))
theorem kb_inj {amount many i j : Int} (ham : 0 ≤ amount) (hm : 0 ≤ many) (hi : 0 ≤ i ∧ i < 6) (hj : 0 ≤ j ∧ j < 6) (h : kb amount many i = kb amount many j) : i = j := by
  have e0 := congrArg (fun s : Str => s.cps.toList) h
  (try dsimp only at e0)
  rw [kb_form, kb_form] at e0
  obtain ⟨e1, g⟩ := last_split (gran_free _) (gran_free _) e0
  obtain ⟨e2, m⟩ := last_split (PyProof.Rows.int_text_free 47 (by decide) _) (PyProof.Rows.int_text_free 47 (by decide) _) e1
  obtain ⟨e3, a⟩ := last_split (PyProof.Rows.int_text_free 47 (by decide) _) (PyProof.Rows.int_text_free 47 (by decide) _) e2
  have g' := gran_inj g
  have n1 : ∀ k, 0 ≤ sMu k many := fun k => by unfold sMu; split <;> omega
  have n2 : ∀ k, 0 ≤ sAm k amount := fun k => by unfold sAm; split <;> omega
  have m' := text_inj (n1 _) (n1 _) (ofString_inj (cps_inj m))
  have a' := text_inj (n2 _) (n2 _) (ofString_inj (cps_inj a))
  have l := congrArg List.length e3
  rw [kbHead_len, kbHead_len] at l
  unfold sSec at g'
  simp only [decide_eq_decide] at g'
  unfold sMu at m'
  unfold sAm at a'
  clear e0 e1 e2 e3 h g m a n1 n2
  have q2 : i = 2 ↔ j = 2 := by
    by_cases p : i = 2 <;> by_cases q : j = 2
    · exact ⟨fun _ => q, fun _ => p⟩
    · rw [if_pos p, if_neg q] at m'; omega
    · rw [if_neg p, if_pos q] at m'; omega
    · exact ⟨fun h => absurd h p, fun h => absurd h q⟩
  have q3 : i = 3 ↔ j = 3 := by
    by_cases p : i = 3 <;> by_cases q : j = 3
    · exact ⟨fun _ => q, fun _ => p⟩
    · rw [if_pos p, if_neg q] at a'; omega
    · rw [if_neg p, if_pos q] at a'; omega
    · exact ⟨fun h => absurd h p, fun h => absurd h q⟩
  clear m' a'
  by_cases p : i = 1 <;> by_cases q : j = 1
  · exact p.trans q.symm
  · rw [if_pos p, if_neg q] at l; clear q2 q3 g' hi hj; split at l <;> exact absurd l (by decide)
  · rw [if_neg p, if_pos q] at l; clear q2 q3 g' hi hj; split at l <;> exact absurd l (by decide)
  · rw [if_neg p, if_neg q] at l
    by_cases r : i = 5 <;> by_cases u : j = 5
    · exact r.trans u.symm
    · rw [if_pos r, if_neg u] at l; exact absurd l (by decide)
    · rw [if_neg r, if_pos u] at l; exact absurd l (by decide)
    · have hi4 : i = 0 ∨ i = 2 ∨ i = 3 ∨ i = 4 := six4 hi.1 hi.2 p r
      have hj4 : j = 0 ∨ j = 2 ∨ j = 3 ∨ j = 4 := six4 hj.1 hj.2 q u
      rcases hi4 with e | e | e | e
      · rcases hj4 with f | f | f | f
        · exact e.trans f.symm
        · exact absurd (q2.mpr f) (by rw [e]; decide)
        · exact absurd (q3.mpr f) (by rw [e]; decide)
        · exact absurd f (g'.mp (by rw [e]; decide))
      · exact e.trans (q2.mp e).symm
      · exact e.trans (q3.mp e).symm
      · exact e.trans (Classical.byContradiction fun n => g'.mpr (fun h => n h.symm) e)

end
section
noncomputable def findC : Nat → List Stmt → Option Stmt
  | 0, _ => none
  | _ + 1, [] => none
  | n + 1, st :: r =>
    match st with
    | .Assign _ (.ListComp ..) .. => some st
    | .If _ b o _ => match findC n b with
      | some x => some x
      | none => match findC n o with
        | some x => some x
        | none => findC n r
    | _ => findC n r
/-- the law's one list comprehension -/
noncomputable def compStmt : Stmt := (findC 40 turnBody).getD (.Pass ⟨0, 0, 0, 0⟩)
section
variable {w : World} {p : Program} {loose : List Str} {mean : ExcName → Option Value} {mg mb : Str → Option Value} {dp un : Nat} {gd : Option (List Code)} {a : Addr} {A₀ : Around} {base h₀ : Heap} {L : Addr} {m : Str → Option Value} {s : Shared} {E : Value → Shared → Prop}
  (B : Below A₀ base [] h₀) (KX : (Mine.hd1.heap_39 w.params).In h₀) (T : Top p loose mean mg mb h₀) (XB : (Mine.hd1.heap_39 w.params).In base) (TB : Top p loose mean mg mb base) (CD : CodeHd base 592 588)
  {I nowl st S X V clk lim fix mov rA lgA : Addr} {oI oS oX oV cwo : Obj} {rv : List Value} {vs : List Value} {kr kl i nS nX nV z : Nat} {amount many t : Int} {tt : Tok} {ps : Array Value} {f x : Str → Option Int} {evs : Str → Option (List (Int × Int))} {lr lr' : List Row} {rest : List (Addr × Obj)} {tp : Addr × Obj} {vcw : Option Value}
  (F : Fr h₀ L s.heap m) (N : News h₀ L s.heap (tp :: (I, oI) :: (S, oS) :: (X, oX) :: (V, oV) :: (588, tabObj ps) :: (lgA, listOf (List.toArray vs) kl) :: (L + 1, cwo) :: (nowl, listOf #[.int t tt] 0) :: rest))
  (dI : @LT.lt Nat _ V I) (d6 : @Ne Nat lgA I) (d7 : @LT.lt Nat _ I tp.1) (m8 : ∀ q ∈ rest, q.1 ≠ I)
  (FX : Fixed rest L st S X V clk lim fix mov nowl rA rv kr) (P : Pins m amount many st lim fix mov lgA rA) (O : OffH L S X V nowl lgA rest) (ck : ClockP w clk nowl rest) (tb : Tab588 rest ps) (hcw : cwo.data = .cell vcw) (hR : RowsAt rest vs lr)
  (hS : IntD PySem.Challenge.rw_ji0060_01.row.prog w oS f nS) (hX : IntD PySem.Challenge.rw_ji0060_01.row.prog w oX x nX) (hV : EvD PySem.Challenge.rw_ji0060_01.row.prog w rest S X V oV evs nV z)
  (hi : i ≤ 20) (SZ : Sizes (i + 1) lr f nS nX nV z t)
include B KX T F N dI d6 d7 m8 FX P O ck tb hcw hR hS hX hV hi SZ
theorem leaf_exp {Q : Value → Shared → Prop} (TB : Top p loose mean mg mb base) (CD : CodeHd base 592 588) (A : Agree (LawK amount many) (LawE many) f x lr t)
    (done : ∀ h' tk', TurnEnd h₀ L (LawAt w amount many L st S X V clk lim fix mov nowl rA rv kr (i + 1)) I oI s { s with heap := h', toks := tk' } → Fr h₀ L h' m → Q .none { s with heap := h', toks := tk' }) :
    wpAny (model PySem.Challenge.rw_ji0060_01.row.prog w) (ktrTop 820 8200 gd (Str.ofString "law") lawScope L a (.ref 712) (cellsFrom (L + 1) lawScope.names []) []) (call (.ref 593) [.ref st]) Q E s := by
  have O1 := lawStore (t := t) (tt := tt) FX O ck
  obtain ⟨d5, m1, m2, m3, m4, m5, m6, m7⟩ := O
  obtain ⟨-, -, ⟨occ, hcn, hcd⟩, hra, ftab, d1, d2, d3, sx, xv, lS, lX, lV⟩ := id FX
  obtain ⟨hc, hn, hfs, hzS, hzX, hzV, hzz, ht0, ht1⟩ := SZ
  have sV : @LT.lt Nat _ S V := Nat.lt_trans sx xv
  have sI : @LT.lt Nat _ S I := Nat.lt_trans sV dI
  have xI : @LT.lt Nat _ X I := Nat.lt_trans xv dI
  have eS : @LT.lt Nat _ 588 S := Nat.lt_trans d1 (Nat.lt_trans (Nat.lt_succ_of_lt (Nat.lt_succ_self L)) (Nat.lt_trans d2 d3))
  have lS' : @LT.lt Nat _ (L + 1) S := Nat.lt_trans (Nat.lt_succ_self (L + 1)) (Nat.lt_trans d2 d3)
  have lE : @LT.lt Nat _ 588 (L + 1) := Nat.lt_succ_of_lt d1
  obtain ⟨g1, g2, g3, g4, g5, g6⟩ := d5
  have b1 : ((i + 1 : Nat) : Int) ≤ 21 := by omega
  have bS : nS ≤ 1000000 := by omega
  have bX : nX ≤ 1000000 := by omega
  have bV : nV ≤ 1000000 := by omega
  have bz : z ≤ 1000000 := by omega
  have t0 : 0 ≤ t := Int.le_trans (by decide) ht0
  have t1' : t < 1000000000000 := by omega
  refine exp_spec (t := t) (S := S) (X := X) (V := V) (ps := ps) B F KX T rfl CD (exp_order N) (O1.sub fun q hq _ => by repeat (first | exact hq | refine List.Mem.tail _ ?_))
    (off5 (Nat.ne_of_gt (Nat.lt_trans sI d7)) (Nat.ne_of_gt sI) g1 (Nat.ne_of_lt lS') (Nat.ne_of_lt d3) m1)
    (off5 (Nat.ne_of_gt (Nat.lt_trans xI d7)) (Nat.ne_of_gt xI) g2 (Nat.ne_of_lt (Nat.lt_trans lS' sx)) (Nat.ne_of_lt (Nat.lt_trans d3 sx)) m2)
    (off5 (Nat.ne_of_gt (Nat.lt_trans dI d7)) (Nat.ne_of_gt dI) g3 (Nat.ne_of_lt (Nat.lt_trans lS' sV)) (Nat.ne_of_lt (Nat.lt_trans d3 sV)) m3)
    (off5 (Nat.ne_of_gt (Nat.lt_trans (Nat.lt_trans eS sI) d7)) (Nat.ne_of_gt (Nat.lt_trans eS sI)) g4 (Nat.ne_of_gt lE) (Nat.ne_of_gt (Nat.lt_trans lE (Nat.lt_trans (Nat.lt_succ_self (L + 1)) d2))) m4)
    eS hS hX (fun q hq => by repeat (first | exact hq | refine List.Mem.tail _ ?_)) hV tb bS bX bV bz t0 t1' (Nat.le_of_ble_eq_true rfl) (Nat.le_of_ble_eq_true rfl) ?_
  intro ext oS' oX' oV' ps' evs' h' tk' F' N' x1' x2' hS' hX' hV2 tb3
  have hin : ∀ q ∈ rest, q ∈ ext ++ rest := fun q hq => List.mem_append_right _ hq
  have hx : ∀ {S : Addr}, (∀ p ∈ ext, p.1 ≠ S) → (∀ q ∈ rest, q.1 ≠ S) → ∀ q ∈ ext ++ rest, q.1 ≠ S := fun a b q hq => (List.mem_append.mp hq).elim (a q) (b q)
  have hbd : Bd f (100 * ((i + 1 : Nat) : Int)) := hfs
  exact done _ _ (turn_end F' (exp_back N') dI d6 (hx (fun p hp => x2' p hp _ (.tail _ (.head _))) m8) (FX.sub hin) P ⟨⟨g1, g2, g3, g4, g5, g6⟩, hx (fun p hp => (x1' p hp).1) m1, hx (fun p hp => (x1' p hp).2.1) m2, hx (fun p hp => (x1' p hp).2.2.1) m3, hx (fun p hp => (x1' p hp).2.2.2) m4, hx (fun p hp => x2' p hp _ (.tail _ (.tail _ (.head _)))) m5, hx (fun p hp => x2' p hp _ (.tail _ (.tail _ (.tail _ (.head _))))) m6, hx (fun p hp => x2' p hp _ (.tail _ (.tail _ (.tail _ (.tail _ (.head _)))))) m7⟩ (ck.sub hin) tb3 hcw (hR.up hin) hS' hX' hV2 ⟨hc, hn, hbd.purge, hzS, hzX, hzV, hzz, ht0, ht1⟩ (A.purged t0)) F'
end
noncomputable def leaf_comp_St (w : World) (p : Program) (loose : List Str) (mean : ExcName → Option Value) (mg : Str → Option Value) (mb : Str → Option Value) (gd : Option (List Code)) (a : Addr) (A₀ : Around) (base : Heap) (h₀ : Heap) (L : Addr) (m : Str → Option Value) (s : Shared) (E : Value → Shared → Prop) (I : Addr) (nowl : Addr) (st : Addr) (S : Addr) (X : Addr) (V : Addr) (clk : Addr) (lim : Addr) (fix : Addr) (mov : Addr) (rA : Addr) (lgA : Addr) (oI : Obj) (oS : Obj) (oX : Obj) (oV : Obj) (cwo : Obj) (rv : List Value) (vs : List Value) (kr : Nat) (kl : Nat) (i : Nat) (nS : Nat) (nX : Nat) (nV : Nat) (z : Nat) (amount : Int) (many : Int) (t : Int) (tt : Tok) (ps : Array Value) (f : Str → Option Int) (x : Str → Option Int) (evs : Str → Option (List (Int × Int))) (lr : List Row) (rest : List (Addr × Obj)) (tp : Addr × Obj) (Q : Flow → Shared → Prop) (wh : Int) (tw : Tok) : Prop := ∀ (lr' : List Row) (vcw : Option Value) (fs : Stmt) (env : Env) (B : Below A₀ base [] h₀) (KX : (Mine.hd1.heap_39 w.params).In h₀) (T : Top p loose mean mg mb h₀) (F : Fr h₀ L s.heap m) (N : News h₀ L s.heap (tp :: (I, oI) :: (S, oS) :: (X, oX) :: (V, oV) :: (588, tabObj ps) :: (lgA, listOf (List.toArray vs) kl) :: (L + 1, cwo) :: (nowl, listOf #[.int t tt] 0) :: rest)) (dI : @LT.lt Nat _ V I) (d6 : @Ne Nat lgA I) (d7 : @LT.lt Nat _ I tp.1) (m8 : ∀ q ∈ rest, q.1 ≠ I) (FX : Fixed rest L st S X V clk lim fix mov nowl rA rv kr) (P : Pins m amount many st lim fix mov lgA rA) (O : OffH L S X V nowl lgA rest) (ck : ClockP w clk nowl rest) (tb : Tab588 rest ps) (hcw : cwo.data = .cell vcw) (hR : RowsAt rest vs lr) (hS : IntD PySem.Challenge.rw_ji0060_01.row.prog w oS f nS) (hX : IntD PySem.Challenge.rw_ji0060_01.row.prog w oX x nX) (hV : EvD PySem.Challenge.rw_ji0060_01.row.prog w rest S X V oV evs nV z) (hi : i ≤ 20) (SZ : Sizes (i + 1) lr f nS nX nV z t) (ee : env = envX (Str.ofString "law") lawScope L a (.ref 712) (cellsFrom (L + 1) lawScope.names [])) (ef : fs = compStmt) (evc : vcw = some (.int wh tw)) (elr : lr' = lr.filter fun r => decide (r.1 ≠ wh)) (A : Agree (LawK amount many) (LawE many) f x lr' t) (done : ∀ h' tk', TurnEnd h₀ L (LawAt w amount many L st S X V clk lim fix mov nowl rA rv kr (i + 1)) I oI s { s with heap := h', toks := tk' } → Q .next { s with heap := h', toks := tk' }), wpAny (model PySem.Challenge.rw_ji0060_01.row.prog w) (ktrTop 820 8200 gd (Str.ofString "law") lawScope L a (.ref 712) (cellsFrom (L + 1) lawScope.names []) []) (exec fs env) Q E s
namespace c_leaf_comp
noncomputable def zcv : (World) × (Program) × (List Str) × (ExcName → Option Value) × (Str → Option Value) × (Str → Option Value) × (Option (List Code)) × (Addr) × (Around) × (Heap) × (Heap) × (Addr) × (Str → Option Value) × (Shared) × (Value → Shared → Prop) × (Addr) × (Addr) × (Addr) × (Addr) × (Addr) × (Addr) × (Addr) × (Addr) × (Addr) × (Addr) × (Addr) × (Addr) × (Obj) × (Obj) × (Obj) × (Obj) × (Obj) × (List Value) × (List Value) × (Nat) × (Nat) × (Nat) × (Nat) × (Nat) × (Nat) × (Nat) × (Int) × (Int) × (Int) × (Tok) × (Array Value) × (Str → Option Int) × (Str → Option Int) × (Str → Option (List (Int × Int))) × (List Row) × (List (Addr × Obj)) × (Addr × Obj) × (Flow → Shared → Prop) × (Int) × (Tok) := pick (neP neW (neP inferInstance (neP inferInstance (neP inferInstance (neP inferInstance (neP inferInstance (neP inferInstance (neP inferInstance (neP neA (neP inferInstance (neP inferInstance (neP inferInstance (neP inferInstance (neP neS (neP inferInstance (neP inferInstance (neP inferInstance (neP inferInstance (neP inferInstance (neP inferInstance (neP inferInstance (neP inferInstance (neP inferInstance (neP inferInstance (neP inferInstance (neP inferInstance (neP inferInstance (neP inferInstance (neP inferInstance (neP inferInstance (neP inferInstance (neP inferInstance (neP inferInstance (neP inferInstance (neP inferInstance (neP inferInstance (neP inferInstance (neP inferInstance (neP inferInstance (neP inferInstance (neP inferInstance (neP inferInstance (neP inferInstance (neP inferInstance (neP inferInstance (neP inferInstance (neP inferInstance (neP inferInstance (neP inferInstance (neP inferInstance (neP inferInstance (neP inferInstance (neP inferInstance (neP inferInstance inferInstance)))))))))))))))))))))))))))))))))))))))))))))))))))))) (fun v : (World) × (Program) × (List Str) × (ExcName → Option Value) × (Str → Option Value) × (Str → Option Value) × (Option (List Code)) × (Addr) × (Around) × (Heap) × (Heap) × (Addr) × (Str → Option Value) × (Shared) × (Value → Shared → Prop) × (Addr) × (Addr) × (Addr) × (Addr) × (Addr) × (Addr) × (Addr) × (Addr) × (Addr) × (Addr) × (Addr) × (Addr) × (Obj) × (Obj) × (Obj) × (Obj) × (Obj) × (List Value) × (List Value) × (Nat) × (Nat) × (Nat) × (Nat) × (Nat) × (Nat) × (Nat) × (Int) × (Int) × (Int) × (Tok) × (Array Value) × (Str → Option Int) × (Str → Option Int) × (Str → Option (List (Int × Int))) × (List Row) × (List (Addr × Obj)) × (Addr × Obj) × (Flow → Shared → Prop) × (Int) × (Tok) => leaf_comp_St (v.1) (v.2.1) (v.2.2.1) (v.2.2.2.1) (v.2.2.2.2.1) (v.2.2.2.2.2.1) (v.2.2.2.2.2.2.1) (v.2.2.2.2.2.2.2.1) (v.2.2.2.2.2.2.2.2.1) (v.2.2.2.2.2.2.2.2.2.1) (v.2.2.2.2.2.2.2.2.2.2.1) (v.2.2.2.2.2.2.2.2.2.2.2.1) (v.2.2.2.2.2.2.2.2.2.2.2.2.1) (v.2.2.2.2.2.2.2.2.2.2.2.2.2.1) (v.2.2.2.2.2.2.2.2.2.2.2.2.2.2.1) (v.2.2.2.2.2.2.2.2.2.2.2.2.2.2.2.1) (v.2.2.2.2.2.2.2.2.2.2.2.2.2.2.2.2.1) (v.2.2.2.2.2.2.2.2.2.2.2.2.2.2.2.2.2.1) (v.2.2.2.2.2.2.2.2.2.2.2.2.2.2.2.2.2.2.1) (v.2.2.2.2.2.2.2.2.2.2.2.2.2.2.2.2.2.2.2.1) (v.2.2.2.2.2.2.2.2.2.2.2.2.2.2.2.2.2.2.2.2.1) (v.2.2.2.2.2.2.2.2.2.2.2.2.2.2.2.2.2.2.2.2.2.1) (v.2.2.2.2.2.2.2.2.2.2.2.2.2.2.2.2.2.2.2.2.2.2.1) (v.2.2.2.2.2.2.2.2.2.2.2.2.2.2.2.2.2.2.2.2.2.2.2.1) (v.2.2.2.2.2.2.2.2.2.2.2.2.2.2.2.2.2.2.2.2.2.2.2.2.1) (v.2.2.2.2.2.2.2.2.2.2.2.2.2.2.2.2.2.2.2.2.2.2.2.2.2.1) (v.2.2.2.2.2.2.2.2.2.2.2.2.2.2.2.2.2.2.2.2.2.2.2.2.2.2.1) (v.2.2.2.2.2.2.2.2.2.2.2.2.2.2.2.2.2.2.2.2.2.2.2.2.2.2.2.1) (v.2.2.2.2.2.2.2.2.2.2.2.2.2.2.2.2.2.2.2.2.2.2.2.2.2.2.2.2.1) (v.2.2.2.2.2.2.2.2.2.2.2.2.2.2.2.2.2.2.2.2.2.2.2.2.2.2.2.2.2.1) (v.2.2.2.2.2.2.2.2.2.2.2.2.2.2.2.2.2.2.2.2.2.2.2.2.2.2.2.2.2.2.1) (v.2.2.2.2.2.2.2.2.2.2.2.2.2.2.2.2.2.2.2.2.2.2.2.2.2.2.2.2.2.2.2.1) (v.2.2.2.2.2.2.2.2.2.2.2.2.2.2.2.2.2.2.2.2.2.2.2.2.2.2.2.2.2.2.2.2.1) (v.2.2.2.2.2.2.2.2.2.2.2.2.2.2.2.2.2.2.2.2.2.2.2.2.2.2.2.2.2.2.2.2.2.1) (v.2.2.2.2.2.2.2.2.2.2.2.2.2.2.2.2.2.2.2.2.2.2.2.2.2.2.2.2.2.2.2.2.2.2.1) (v.2.2.2.2.2.2.2.2.2.2.2.2.2.2.2.2.2.2.2.2.2.2.2.2.2.2.2.2.2.2.2.2.2.2.2.1) (v.2.2.2.2.2.2.2.2.2.2.2.2.2.2.2.2.2.2.2.2.2.2.2.2.2.2.2.2.2.2.2.2.2.2.2.2.1) (v.2.2.2.2.2.2.2.2.2.2.2.2.2.2.2.2.2.2.2.2.2.2.2.2.2.2.2.2.2.2.2.2.2.2.2.2.2.1) (v.2.2.2.2.2.2.2.2.2.2.2.2.2.2.2.2.2.2.2.2.2.2.2.2.2.2.2.2.2.2.2.2.2.2.2.2.2.2.1) (v.2.2.2.2.2.2.2.2.2.2.2.2.2.2.2.2.2.2.2.2.2.2.2.2.2.2.2.2.2.2.2.2.2.2.2.2.2.2.2.1) (v.2.2.2.2.2.2.2.2.2.2.2.2.2.2.2.2.2.2.2.2.2.2.2.2.2.2.2.2.2.2.2.2.2.2.2.2.2.2.2.2.1) (v.2.2.2.2.2.2.2.2.2.2.2.2.2.2.2.2.2.2.2.2.2.2.2.2.2.2.2.2.2.2.2.2.2.2.2.2.2.2.2.2.2.1) (v.2.2.2.2.2.2.2.2.2.2.2.2.2.2.2.2.2.2.2.2.2.2.2.2.2.2.2.2.2.2.2.2.2.2.2.2.2.2.2.2.2.2.1) (v.2.2.2.2.2.2.2.2.2.2.2.2.2.2.2.2.2.2.2.2.2.2.2.2.2.2.2.2.2.2.2.2.2.2.2.2.2.2.2.2.2.2.2.1) (v.2.2.2.2.2.2.2.2.2.2.2.2.2.2.2.2.2.2.2.2.2.2.2.2.2.2.2.2.2.2.2.2.2.2.2.2.2.2.2.2.2.2.2.2.1) (v.2.2.2.2.2.2.2.2.2.2.2.2.2.2.2.2.2.2.2.2.2.2.2.2.2.2.2.2.2.2.2.2.2.2.2.2.2.2.2.2.2.2.2.2.2.1) (v.2.2.2.2.2.2.2.2.2.2.2.2.2.2.2.2.2.2.2.2.2.2.2.2.2.2.2.2.2.2.2.2.2.2.2.2.2.2.2.2.2.2.2.2.2.2.1) (v.2.2.2.2.2.2.2.2.2.2.2.2.2.2.2.2.2.2.2.2.2.2.2.2.2.2.2.2.2.2.2.2.2.2.2.2.2.2.2.2.2.2.2.2.2.2.2.1) (v.2.2.2.2.2.2.2.2.2.2.2.2.2.2.2.2.2.2.2.2.2.2.2.2.2.2.2.2.2.2.2.2.2.2.2.2.2.2.2.2.2.2.2.2.2.2.2.2.1) (v.2.2.2.2.2.2.2.2.2.2.2.2.2.2.2.2.2.2.2.2.2.2.2.2.2.2.2.2.2.2.2.2.2.2.2.2.2.2.2.2.2.2.2.2.2.2.2.2.2.1) (v.2.2.2.2.2.2.2.2.2.2.2.2.2.2.2.2.2.2.2.2.2.2.2.2.2.2.2.2.2.2.2.2.2.2.2.2.2.2.2.2.2.2.2.2.2.2.2.2.2.2.1) (v.2.2.2.2.2.2.2.2.2.2.2.2.2.2.2.2.2.2.2.2.2.2.2.2.2.2.2.2.2.2.2.2.2.2.2.2.2.2.2.2.2.2.2.2.2.2.2.2.2.2.2.1) (v.2.2.2.2.2.2.2.2.2.2.2.2.2.2.2.2.2.2.2.2.2.2.2.2.2.2.2.2.2.2.2.2.2.2.2.2.2.2.2.2.2.2.2.2.2.2.2.2.2.2.2.2.1) (v.2.2.2.2.2.2.2.2.2.2.2.2.2.2.2.2.2.2.2.2.2.2.2.2.2.2.2.2.2.2.2.2.2.2.2.2.2.2.2.2.2.2.2.2.2.2.2.2.2.2.2.2.2.1) (v.2.2.2.2.2.2.2.2.2.2.2.2.2.2.2.2.2.2.2.2.2.2.2.2.2.2.2.2.2.2.2.2.2.2.2.2.2.2.2.2.2.2.2.2.2.2.2.2.2.2.2.2.2.2)) 0
theorem zal (h : leaf_comp_St (zcv.1) (zcv.2.1) (zcv.2.2.1) (zcv.2.2.2.1) (zcv.2.2.2.2.1) (zcv.2.2.2.2.2.1) (zcv.2.2.2.2.2.2.1) (zcv.2.2.2.2.2.2.2.1) (zcv.2.2.2.2.2.2.2.2.1) (zcv.2.2.2.2.2.2.2.2.2.1) (zcv.2.2.2.2.2.2.2.2.2.2.1) (zcv.2.2.2.2.2.2.2.2.2.2.2.1) (zcv.2.2.2.2.2.2.2.2.2.2.2.2.1) (zcv.2.2.2.2.2.2.2.2.2.2.2.2.2.1) (zcv.2.2.2.2.2.2.2.2.2.2.2.2.2.2.1) (zcv.2.2.2.2.2.2.2.2.2.2.2.2.2.2.2.1) (zcv.2.2.2.2.2.2.2.2.2.2.2.2.2.2.2.2.1) (zcv.2.2.2.2.2.2.2.2.2.2.2.2.2.2.2.2.2.1) (zcv.2.2.2.2.2.2.2.2.2.2.2.2.2.2.2.2.2.2.1) (zcv.2.2.2.2.2.2.2.2.2.2.2.2.2.2.2.2.2.2.2.1) (zcv.2.2.2.2.2.2.2.2.2.2.2.2.2.2.2.2.2.2.2.2.1) (zcv.2.2.2.2.2.2.2.2.2.2.2.2.2.2.2.2.2.2.2.2.2.1) (zcv.2.2.2.2.2.2.2.2.2.2.2.2.2.2.2.2.2.2.2.2.2.2.1) (zcv.2.2.2.2.2.2.2.2.2.2.2.2.2.2.2.2.2.2.2.2.2.2.2.1) (zcv.2.2.2.2.2.2.2.2.2.2.2.2.2.2.2.2.2.2.2.2.2.2.2.2.1) (zcv.2.2.2.2.2.2.2.2.2.2.2.2.2.2.2.2.2.2.2.2.2.2.2.2.2.1) (zcv.2.2.2.2.2.2.2.2.2.2.2.2.2.2.2.2.2.2.2.2.2.2.2.2.2.2.1) (zcv.2.2.2.2.2.2.2.2.2.2.2.2.2.2.2.2.2.2.2.2.2.2.2.2.2.2.2.1) (zcv.2.2.2.2.2.2.2.2.2.2.2.2.2.2.2.2.2.2.2.2.2.2.2.2.2.2.2.2.1) (zcv.2.2.2.2.2.2.2.2.2.2.2.2.2.2.2.2.2.2.2.2.2.2.2.2.2.2.2.2.2.1) (zcv.2.2.2.2.2.2.2.2.2.2.2.2.2.2.2.2.2.2.2.2.2.2.2.2.2.2.2.2.2.2.1) (zcv.2.2.2.2.2.2.2.2.2.2.2.2.2.2.2.2.2.2.2.2.2.2.2.2.2.2.2.2.2.2.2.1) (zcv.2.2.2.2.2.2.2.2.2.2.2.2.2.2.2.2.2.2.2.2.2.2.2.2.2.2.2.2.2.2.2.2.1) (zcv.2.2.2.2.2.2.2.2.2.2.2.2.2.2.2.2.2.2.2.2.2.2.2.2.2.2.2.2.2.2.2.2.2.1) (zcv.2.2.2.2.2.2.2.2.2.2.2.2.2.2.2.2.2.2.2.2.2.2.2.2.2.2.2.2.2.2.2.2.2.2.1) (zcv.2.2.2.2.2.2.2.2.2.2.2.2.2.2.2.2.2.2.2.2.2.2.2.2.2.2.2.2.2.2.2.2.2.2.2.1) (zcv.2.2.2.2.2.2.2.2.2.2.2.2.2.2.2.2.2.2.2.2.2.2.2.2.2.2.2.2.2.2.2.2.2.2.2.2.1) (zcv.2.2.2.2.2.2.2.2.2.2.2.2.2.2.2.2.2.2.2.2.2.2.2.2.2.2.2.2.2.2.2.2.2.2.2.2.2.1) (zcv.2.2.2.2.2.2.2.2.2.2.2.2.2.2.2.2.2.2.2.2.2.2.2.2.2.2.2.2.2.2.2.2.2.2.2.2.2.2.1) (zcv.2.2.2.2.2.2.2.2.2.2.2.2.2.2.2.2.2.2.2.2.2.2.2.2.2.2.2.2.2.2.2.2.2.2.2.2.2.2.2.1) (zcv.2.2.2.2.2.2.2.2.2.2.2.2.2.2.2.2.2.2.2.2.2.2.2.2.2.2.2.2.2.2.2.2.2.2.2.2.2.2.2.2.1) (zcv.2.2.2.2.2.2.2.2.2.2.2.2.2.2.2.2.2.2.2.2.2.2.2.2.2.2.2.2.2.2.2.2.2.2.2.2.2.2.2.2.2.1) (zcv.2.2.2.2.2.2.2.2.2.2.2.2.2.2.2.2.2.2.2.2.2.2.2.2.2.2.2.2.2.2.2.2.2.2.2.2.2.2.2.2.2.2.1) (zcv.2.2.2.2.2.2.2.2.2.2.2.2.2.2.2.2.2.2.2.2.2.2.2.2.2.2.2.2.2.2.2.2.2.2.2.2.2.2.2.2.2.2.2.1) (zcv.2.2.2.2.2.2.2.2.2.2.2.2.2.2.2.2.2.2.2.2.2.2.2.2.2.2.2.2.2.2.2.2.2.2.2.2.2.2.2.2.2.2.2.2.1) (zcv.2.2.2.2.2.2.2.2.2.2.2.2.2.2.2.2.2.2.2.2.2.2.2.2.2.2.2.2.2.2.2.2.2.2.2.2.2.2.2.2.2.2.2.2.2.1) (zcv.2.2.2.2.2.2.2.2.2.2.2.2.2.2.2.2.2.2.2.2.2.2.2.2.2.2.2.2.2.2.2.2.2.2.2.2.2.2.2.2.2.2.2.2.2.2.1) (zcv.2.2.2.2.2.2.2.2.2.2.2.2.2.2.2.2.2.2.2.2.2.2.2.2.2.2.2.2.2.2.2.2.2.2.2.2.2.2.2.2.2.2.2.2.2.2.2.1) (zcv.2.2.2.2.2.2.2.2.2.2.2.2.2.2.2.2.2.2.2.2.2.2.2.2.2.2.2.2.2.2.2.2.2.2.2.2.2.2.2.2.2.2.2.2.2.2.2.2.1) (zcv.2.2.2.2.2.2.2.2.2.2.2.2.2.2.2.2.2.2.2.2.2.2.2.2.2.2.2.2.2.2.2.2.2.2.2.2.2.2.2.2.2.2.2.2.2.2.2.2.2.1) (zcv.2.2.2.2.2.2.2.2.2.2.2.2.2.2.2.2.2.2.2.2.2.2.2.2.2.2.2.2.2.2.2.2.2.2.2.2.2.2.2.2.2.2.2.2.2.2.2.2.2.2.1) (zcv.2.2.2.2.2.2.2.2.2.2.2.2.2.2.2.2.2.2.2.2.2.2.2.2.2.2.2.2.2.2.2.2.2.2.2.2.2.2.2.2.2.2.2.2.2.2.2.2.2.2.2.1) (zcv.2.2.2.2.2.2.2.2.2.2.2.2.2.2.2.2.2.2.2.2.2.2.2.2.2.2.2.2.2.2.2.2.2.2.2.2.2.2.2.2.2.2.2.2.2.2.2.2.2.2.2.2.1) (zcv.2.2.2.2.2.2.2.2.2.2.2.2.2.2.2.2.2.2.2.2.2.2.2.2.2.2.2.2.2.2.2.2.2.2.2.2.2.2.2.2.2.2.2.2.2.2.2.2.2.2.2.2.2.1) (zcv.2.2.2.2.2.2.2.2.2.2.2.2.2.2.2.2.2.2.2.2.2.2.2.2.2.2.2.2.2.2.2.2.2.2.2.2.2.2.2.2.2.2.2.2.2.2.2.2.2.2.2.2.2.2)) : ∀ u : (World) × (Program) × (List Str) × (ExcName → Option Value) × (Str → Option Value) × (Str → Option Value) × (Option (List Code)) × (Addr) × (Around) × (Heap) × (Heap) × (Addr) × (Str → Option Value) × (Shared) × (Value → Shared → Prop) × (Addr) × (Addr) × (Addr) × (Addr) × (Addr) × (Addr) × (Addr) × (Addr) × (Addr) × (Addr) × (Addr) × (Addr) × (Obj) × (Obj) × (Obj) × (Obj) × (Obj) × (List Value) × (List Value) × (Nat) × (Nat) × (Nat) × (Nat) × (Nat) × (Nat) × (Nat) × (Int) × (Int) × (Int) × (Tok) × (Array Value) × (Str → Option Int) × (Str → Option Int) × (Str → Option (List (Int × Int))) × (List Row) × (List (Addr × Obj)) × (Addr × Obj) × (Flow → Shared → Prop) × (Int) × (Tok), leaf_comp_St (u.1) (u.2.1) (u.2.2.1) (u.2.2.2.1) (u.2.2.2.2.1) (u.2.2.2.2.2.1) (u.2.2.2.2.2.2.1) (u.2.2.2.2.2.2.2.1) (u.2.2.2.2.2.2.2.2.1) (u.2.2.2.2.2.2.2.2.2.1) (u.2.2.2.2.2.2.2.2.2.2.1) (u.2.2.2.2.2.2.2.2.2.2.2.1) (u.2.2.2.2.2.2.2.2.2.2.2.2.1) (u.2.2.2.2.2.2.2.2.2.2.2.2.2.1) (u.2.2.2.2.2.2.2.2.2.2.2.2.2.2.1) (u.2.2.2.2.2.2.2.2.2.2.2.2.2.2.2.1) (u.2.2.2.2.2.2.2.2.2.2.2.2.2.2.2.2.1) (u.2.2.2.2.2.2.2.2.2.2.2.2.2.2.2.2.2.1) (u.2.2.2.2.2.2.2.2.2.2.2.2.2.2.2.2.2.2.1) (u.2.2.2.2.2.2.2.2.2.2.2.2.2.2.2.2.2.2.2.1) (u.2.2.2.2.2.2.2.2.2.2.2.2.2.2.2.2.2.2.2.2.1) (u.2.2.2.2.2.2.2.2.2.2.2.2.2.2.2.2.2.2.2.2.2.1) (u.2.2.2.2.2.2.2.2.2.2.2.2.2.2.2.2.2.2.2.2.2.2.1) (u.2.2.2.2.2.2.2.2.2.2.2.2.2.2.2.2.2.2.2.2.2.2.2.1) (u.2.2.2.2.2.2.2.2.2.2.2.2.2.2.2.2.2.2.2.2.2.2.2.2.1) (u.2.2.2.2.2.2.2.2.2.2.2.2.2.2.2.2.2.2.2.2.2.2.2.2.2.1) (u.2.2.2.2.2.2.2.2.2.2.2.2.2.2.2.2.2.2.2.2.2.2.2.2.2.2.1) (u.2.2.2.2.2.2.2.2.2.2.2.2.2.2.2.2.2.2.2.2.2.2.2.2.2.2.2.1) (u.2.2.2.2.2.2.2.2.2.2.2.2.2.2.2.2.2.2.2.2.2.2.2.2.2.2.2.2.1) (u.2.2.2.2.2.2.2.2.2.2.2.2.2.2.2.2.2.2.2.2.2.2.2.2.2.2.2.2.2.1) (u.2.2.2.2.2.2.2.2.2.2.2.2.2.2.2.2.2.2.2.2.2.2.2.2.2.2.2.2.2.2.1) (u.2.2.2.2.2.2.2.2.2.2.2.2.2.2.2.2.2.2.2.2.2.2.2.2.2.2.2.2.2.2.2.1) (u.2.2.2.2.2.2.2.2.2.2.2.2.2.2.2.2.2.2.2.2.2.2.2.2.2.2.2.2.2.2.2.2.1) (u.2.2.2.2.2.2.2.2.2.2.2.2.2.2.2.2.2.2.2.2.2.2.2.2.2.2.2.2.2.2.2.2.2.1) (u.2.2.2.2.2.2.2.2.2.2.2.2.2.2.2.2.2.2.2.2.2.2.2.2.2.2.2.2.2.2.2.2.2.2.1) (u.2.2.2.2.2.2.2.2.2.2.2.2.2.2.2.2.2.2.2.2.2.2.2.2.2.2.2.2.2.2.2.2.2.2.2.1) (u.2.2.2.2.2.2.2.2.2.2.2.2.2.2.2.2.2.2.2.2.2.2.2.2.2.2.2.2.2.2.2.2.2.2.2.2.1) (u.2.2.2.2.2.2.2.2.2.2.2.2.2.2.2.2.2.2.2.2.2.2.2.2.2.2.2.2.2.2.2.2.2.2.2.2.2.1) (u.2.2.2.2.2.2.2.2.2.2.2.2.2.2.2.2.2.2.2.2.2.2.2.2.2.2.2.2.2.2.2.2.2.2.2.2.2.2.1) (u.2.2.2.2.2.2.2.2.2.2.2.2.2.2.2.2.2.2.2.2.2.2.2.2.2.2.2.2.2.2.2.2.2.2.2.2.2.2.2.1) (u.2.2.2.2.2.2.2.2.2.2.2.2.2.2.2.2.2.2.2.2.2.2.2.2.2.2.2.2.2.2.2.2.2.2.2.2.2.2.2.2.1) (u.2.2.2.2.2.2.2.2.2.2.2.2.2.2.2.2.2.2.2.2.2.2.2.2.2.2.2.2.2.2.2.2.2.2.2.2.2.2.2.2.2.1) (u.2.2.2.2.2.2.2.2.2.2.2.2.2.2.2.2.2.2.2.2.2.2.2.2.2.2.2.2.2.2.2.2.2.2.2.2.2.2.2.2.2.2.1) (u.2.2.2.2.2.2.2.2.2.2.2.2.2.2.2.2.2.2.2.2.2.2.2.2.2.2.2.2.2.2.2.2.2.2.2.2.2.2.2.2.2.2.2.1) (u.2.2.2.2.2.2.2.2.2.2.2.2.2.2.2.2.2.2.2.2.2.2.2.2.2.2.2.2.2.2.2.2.2.2.2.2.2.2.2.2.2.2.2.2.1) (u.2.2.2.2.2.2.2.2.2.2.2.2.2.2.2.2.2.2.2.2.2.2.2.2.2.2.2.2.2.2.2.2.2.2.2.2.2.2.2.2.2.2.2.2.2.1) (u.2.2.2.2.2.2.2.2.2.2.2.2.2.2.2.2.2.2.2.2.2.2.2.2.2.2.2.2.2.2.2.2.2.2.2.2.2.2.2.2.2.2.2.2.2.2.1) (u.2.2.2.2.2.2.2.2.2.2.2.2.2.2.2.2.2.2.2.2.2.2.2.2.2.2.2.2.2.2.2.2.2.2.2.2.2.2.2.2.2.2.2.2.2.2.2.1) (u.2.2.2.2.2.2.2.2.2.2.2.2.2.2.2.2.2.2.2.2.2.2.2.2.2.2.2.2.2.2.2.2.2.2.2.2.2.2.2.2.2.2.2.2.2.2.2.2.1) (u.2.2.2.2.2.2.2.2.2.2.2.2.2.2.2.2.2.2.2.2.2.2.2.2.2.2.2.2.2.2.2.2.2.2.2.2.2.2.2.2.2.2.2.2.2.2.2.2.2.1) (u.2.2.2.2.2.2.2.2.2.2.2.2.2.2.2.2.2.2.2.2.2.2.2.2.2.2.2.2.2.2.2.2.2.2.2.2.2.2.2.2.2.2.2.2.2.2.2.2.2.2.1) (u.2.2.2.2.2.2.2.2.2.2.2.2.2.2.2.2.2.2.2.2.2.2.2.2.2.2.2.2.2.2.2.2.2.2.2.2.2.2.2.2.2.2.2.2.2.2.2.2.2.2.2.1) (u.2.2.2.2.2.2.2.2.2.2.2.2.2.2.2.2.2.2.2.2.2.2.2.2.2.2.2.2.2.2.2.2.2.2.2.2.2.2.2.2.2.2.2.2.2.2.2.2.2.2.2.2.1) (u.2.2.2.2.2.2.2.2.2.2.2.2.2.2.2.2.2.2.2.2.2.2.2.2.2.2.2.2.2.2.2.2.2.2.2.2.2.2.2.2.2.2.2.2.2.2.2.2.2.2.2.2.2.1) (u.2.2.2.2.2.2.2.2.2.2.2.2.2.2.2.2.2.2.2.2.2.2.2.2.2.2.2.2.2.2.2.2.2.2.2.2.2.2.2.2.2.2.2.2.2.2.2.2.2.2.2.2.2.2) := pick_all (P := fun v : (World) × (Program) × (List Str) × (ExcName → Option Value) × (Str → Option Value) × (Str → Option Value) × (Option (List Code)) × (Addr) × (Around) × (Heap) × (Heap) × (Addr) × (Str → Option Value) × (Shared) × (Value → Shared → Prop) × (Addr) × (Addr) × (Addr) × (Addr) × (Addr) × (Addr) × (Addr) × (Addr) × (Addr) × (Addr) × (Addr) × (Addr) × (Obj) × (Obj) × (Obj) × (Obj) × (Obj) × (List Value) × (List Value) × (Nat) × (Nat) × (Nat) × (Nat) × (Nat) × (Nat) × (Nat) × (Int) × (Int) × (Int) × (Tok) × (Array Value) × (Str → Option Int) × (Str → Option Int) × (Str → Option (List (Int × Int))) × (List Row) × (List (Addr × Obj)) × (Addr × Obj) × (Flow → Shared → Prop) × (Int) × (Tok) => leaf_comp_St (v.1) (v.2.1) (v.2.2.1) (v.2.2.2.1) (v.2.2.2.2.1) (v.2.2.2.2.2.1) (v.2.2.2.2.2.2.1) (v.2.2.2.2.2.2.2.1) (v.2.2.2.2.2.2.2.2.1) (v.2.2.2.2.2.2.2.2.2.1) (v.2.2.2.2.2.2.2.2.2.2.1) (v.2.2.2.2.2.2.2.2.2.2.2.1) (v.2.2.2.2.2.2.2.2.2.2.2.2.1) (v.2.2.2.2.2.2.2.2.2.2.2.2.2.1) (v.2.2.2.2.2.2.2.2.2.2.2.2.2.2.1) (v.2.2.2.2.2.2.2.2.2.2.2.2.2.2.2.1) (v.2.2.2.2.2.2.2.2.2.2.2.2.2.2.2.2.1) (v.2.2.2.2.2.2.2.2.2.2.2.2.2.2.2.2.2.1) (v.2.2.2.2.2.2.2.2.2.2.2.2.2.2.2.2.2.2.1) (v.2.2.2.2.2.2.2.2.2.2.2.2.2.2.2.2.2.2.2.1) (v.2.2.2.2.2.2.2.2.2.2.2.2.2.2.2.2.2.2.2.2.1) (v.2.2.2.2.2.2.2.2.2.2.2.2.2.2.2.2.2.2.2.2.2.1) (v.2.2.2.2.2.2.2.2.2.2.2.2.2.2.2.2.2.2.2.2.2.2.1) (v.2.2.2.2.2.2.2.2.2.2.2.2.2.2.2.2.2.2.2.2.2.2.2.1) (v.2.2.2.2.2.2.2.2.2.2.2.2.2.2.2.2.2.2.2.2.2.2.2.2.1) (v.2.2.2.2.2.2.2.2.2.2.2.2.2.2.2.2.2.2.2.2.2.2.2.2.2.1) (v.2.2.2.2.2.2.2.2.2.2.2.2.2.2.2.2.2.2.2.2.2.2.2.2.2.2.1) (v.2.2.2.2.2.2.2.2.2.2.2.2.2.2.2.2.2.2.2.2.2.2.2.2.2.2.2.1) (v.2.2.2.2.2.2.2.2.2.2.2.2.2.2.2.2.2.2.2.2.2.2.2.2.2.2.2.2.1) (v.2.2.2.2.2.2.2.2.2.2.2.2.2.2.2.2.2.2.2.2.2.2.2.2.2.2.2.2.2.1) (v.2.2.2.2.2.2.2.2.2.2.2.2.2.2.2.2.2.2.2.2.2.2.2.2.2.2.2.2.2.2.1) (v.2.2.2.2.2.2.2.2.2.2.2.2.2.2.2.2.2.2.2.2.2.2.2.2.2.2.2.2.2.2.2.1) (v.2.2.2.2.2.2.2.2.2.2.2.2.2.2.2.2.2.2.2.2.2.2.2.2.2.2.2.2.2.2.2.2.1) (v.2.2.2.2.2.2.2.2.2.2.2.2.2.2.2.2.2.2.2.2.2.2.2.2.2.2.2.2.2.2.2.2.2.1) (v.2.2.2.2.2.2.2.2.2.2.2.2.2.2.2.2.2.2.2.2.2.2.2.2.2.2.2.2.2.2.2.2.2.2.1) (v.2.2.2.2.2.2.2.2.2.2.2.2.2.2.2.2.2.2.2.2.2.2.2.2.2.2.2.2.2.2.2.2.2.2.2.1) (v.2.2.2.2.2.2.2.2.2.2.2.2.2.2.2.2.2.2.2.2.2.2.2.2.2.2.2.2.2.2.2.2.2.2.2.2.1) (v.2.2.2.2.2.2.2.2.2.2.2.2.2.2.2.2.2.2.2.2.2.2.2.2.2.2.2.2.2.2.2.2.2.2.2.2.2.1) (v.2.2.2.2.2.2.2.2.2.2.2.2.2.2.2.2.2.2.2.2.2.2.2.2.2.2.2.2.2.2.2.2.2.2.2.2.2.2.1) (v.2.2.2.2.2.2.2.2.2.2.2.2.2.2.2.2.2.2.2.2.2.2.2.2.2.2.2.2.2.2.2.2.2.2.2.2.2.2.2.1) (v.2.2.2.2.2.2.2.2.2.2.2.2.2.2.2.2.2.2.2.2.2.2.2.2.2.2.2.2.2.2.2.2.2.2.2.2.2.2.2.2.1) (v.2.2.2.2.2.2.2.2.2.2.2.2.2.2.2.2.2.2.2.2.2.2.2.2.2.2.2.2.2.2.2.2.2.2.2.2.2.2.2.2.2.1) (v.2.2.2.2.2.2.2.2.2.2.2.2.2.2.2.2.2.2.2.2.2.2.2.2.2.2.2.2.2.2.2.2.2.2.2.2.2.2.2.2.2.2.1) (v.2.2.2.2.2.2.2.2.2.2.2.2.2.2.2.2.2.2.2.2.2.2.2.2.2.2.2.2.2.2.2.2.2.2.2.2.2.2.2.2.2.2.2.1) (v.2.2.2.2.2.2.2.2.2.2.2.2.2.2.2.2.2.2.2.2.2.2.2.2.2.2.2.2.2.2.2.2.2.2.2.2.2.2.2.2.2.2.2.2.1) (v.2.2.2.2.2.2.2.2.2.2.2.2.2.2.2.2.2.2.2.2.2.2.2.2.2.2.2.2.2.2.2.2.2.2.2.2.2.2.2.2.2.2.2.2.2.1) (v.2.2.2.2.2.2.2.2.2.2.2.2.2.2.2.2.2.2.2.2.2.2.2.2.2.2.2.2.2.2.2.2.2.2.2.2.2.2.2.2.2.2.2.2.2.2.1) (v.2.2.2.2.2.2.2.2.2.2.2.2.2.2.2.2.2.2.2.2.2.2.2.2.2.2.2.2.2.2.2.2.2.2.2.2.2.2.2.2.2.2.2.2.2.2.2.1) (v.2.2.2.2.2.2.2.2.2.2.2.2.2.2.2.2.2.2.2.2.2.2.2.2.2.2.2.2.2.2.2.2.2.2.2.2.2.2.2.2.2.2.2.2.2.2.2.2.1) (v.2.2.2.2.2.2.2.2.2.2.2.2.2.2.2.2.2.2.2.2.2.2.2.2.2.2.2.2.2.2.2.2.2.2.2.2.2.2.2.2.2.2.2.2.2.2.2.2.2.1) (v.2.2.2.2.2.2.2.2.2.2.2.2.2.2.2.2.2.2.2.2.2.2.2.2.2.2.2.2.2.2.2.2.2.2.2.2.2.2.2.2.2.2.2.2.2.2.2.2.2.2.1) (v.2.2.2.2.2.2.2.2.2.2.2.2.2.2.2.2.2.2.2.2.2.2.2.2.2.2.2.2.2.2.2.2.2.2.2.2.2.2.2.2.2.2.2.2.2.2.2.2.2.2.2.1) (v.2.2.2.2.2.2.2.2.2.2.2.2.2.2.2.2.2.2.2.2.2.2.2.2.2.2.2.2.2.2.2.2.2.2.2.2.2.2.2.2.2.2.2.2.2.2.2.2.2.2.2.2.1) (v.2.2.2.2.2.2.2.2.2.2.2.2.2.2.2.2.2.2.2.2.2.2.2.2.2.2.2.2.2.2.2.2.2.2.2.2.2.2.2.2.2.2.2.2.2.2.2.2.2.2.2.2.2.1) (v.2.2.2.2.2.2.2.2.2.2.2.2.2.2.2.2.2.2.2.2.2.2.2.2.2.2.2.2.2.2.2.2.2.2.2.2.2.2.2.2.2.2.2.2.2.2.2.2.2.2.2.2.2.2)) h
noncomputable def w : World := zcv.1
noncomputable def p : Program := zcv.2.1
noncomputable def loose : List Str := zcv.2.2.1
noncomputable def mean : ExcName → Option Value := zcv.2.2.2.1
noncomputable def mg : Str → Option Value := zcv.2.2.2.2.1
noncomputable def mb : Str → Option Value := zcv.2.2.2.2.2.1
noncomputable def gd : Option (List Code) := zcv.2.2.2.2.2.2.1
noncomputable def a : Addr := zcv.2.2.2.2.2.2.2.1
noncomputable def A₀ : Around := zcv.2.2.2.2.2.2.2.2.1
noncomputable def base : Heap := zcv.2.2.2.2.2.2.2.2.2.1
noncomputable def h₀ : Heap := zcv.2.2.2.2.2.2.2.2.2.2.1
noncomputable def L : Addr := zcv.2.2.2.2.2.2.2.2.2.2.2.1
noncomputable def m : Str → Option Value := zcv.2.2.2.2.2.2.2.2.2.2.2.2.1
noncomputable def s : Shared := zcv.2.2.2.2.2.2.2.2.2.2.2.2.2.1
noncomputable def E : Value → Shared → Prop := zcv.2.2.2.2.2.2.2.2.2.2.2.2.2.2.1
noncomputable def I : Addr := zcv.2.2.2.2.2.2.2.2.2.2.2.2.2.2.2.1
noncomputable def nowl : Addr := zcv.2.2.2.2.2.2.2.2.2.2.2.2.2.2.2.2.1
noncomputable def st : Addr := zcv.2.2.2.2.2.2.2.2.2.2.2.2.2.2.2.2.2.1
noncomputable def S : Addr := zcv.2.2.2.2.2.2.2.2.2.2.2.2.2.2.2.2.2.2.1
noncomputable def X : Addr := zcv.2.2.2.2.2.2.2.2.2.2.2.2.2.2.2.2.2.2.2.1
noncomputable def V : Addr := zcv.2.2.2.2.2.2.2.2.2.2.2.2.2.2.2.2.2.2.2.2.1
noncomputable def clk : Addr := zcv.2.2.2.2.2.2.2.2.2.2.2.2.2.2.2.2.2.2.2.2.2.1
noncomputable def lim : Addr := zcv.2.2.2.2.2.2.2.2.2.2.2.2.2.2.2.2.2.2.2.2.2.2.1
noncomputable def fix : Addr := zcv.2.2.2.2.2.2.2.2.2.2.2.2.2.2.2.2.2.2.2.2.2.2.2.1
noncomputable def mov : Addr := zcv.2.2.2.2.2.2.2.2.2.2.2.2.2.2.2.2.2.2.2.2.2.2.2.2.1
noncomputable def rA : Addr := zcv.2.2.2.2.2.2.2.2.2.2.2.2.2.2.2.2.2.2.2.2.2.2.2.2.2.1
noncomputable def lgA : Addr := zcv.2.2.2.2.2.2.2.2.2.2.2.2.2.2.2.2.2.2.2.2.2.2.2.2.2.2.1
noncomputable def oI : Obj := zcv.2.2.2.2.2.2.2.2.2.2.2.2.2.2.2.2.2.2.2.2.2.2.2.2.2.2.2.1
noncomputable def oS : Obj := zcv.2.2.2.2.2.2.2.2.2.2.2.2.2.2.2.2.2.2.2.2.2.2.2.2.2.2.2.2.1
noncomputable def oX : Obj := zcv.2.2.2.2.2.2.2.2.2.2.2.2.2.2.2.2.2.2.2.2.2.2.2.2.2.2.2.2.2.1
noncomputable def oV : Obj := zcv.2.2.2.2.2.2.2.2.2.2.2.2.2.2.2.2.2.2.2.2.2.2.2.2.2.2.2.2.2.2.1
noncomputable def cwo : Obj := zcv.2.2.2.2.2.2.2.2.2.2.2.2.2.2.2.2.2.2.2.2.2.2.2.2.2.2.2.2.2.2.2.1
noncomputable def rv : List Value := zcv.2.2.2.2.2.2.2.2.2.2.2.2.2.2.2.2.2.2.2.2.2.2.2.2.2.2.2.2.2.2.2.2.1
noncomputable def vs : List Value := zcv.2.2.2.2.2.2.2.2.2.2.2.2.2.2.2.2.2.2.2.2.2.2.2.2.2.2.2.2.2.2.2.2.2.1
noncomputable def kr : Nat := zcv.2.2.2.2.2.2.2.2.2.2.2.2.2.2.2.2.2.2.2.2.2.2.2.2.2.2.2.2.2.2.2.2.2.2.1
noncomputable def kl : Nat := zcv.2.2.2.2.2.2.2.2.2.2.2.2.2.2.2.2.2.2.2.2.2.2.2.2.2.2.2.2.2.2.2.2.2.2.2.1
noncomputable def i : Nat := zcv.2.2.2.2.2.2.2.2.2.2.2.2.2.2.2.2.2.2.2.2.2.2.2.2.2.2.2.2.2.2.2.2.2.2.2.2.1
noncomputable def nS : Nat := zcv.2.2.2.2.2.2.2.2.2.2.2.2.2.2.2.2.2.2.2.2.2.2.2.2.2.2.2.2.2.2.2.2.2.2.2.2.2.1
noncomputable def nX : Nat := zcv.2.2.2.2.2.2.2.2.2.2.2.2.2.2.2.2.2.2.2.2.2.2.2.2.2.2.2.2.2.2.2.2.2.2.2.2.2.2.1
noncomputable def nV : Nat := zcv.2.2.2.2.2.2.2.2.2.2.2.2.2.2.2.2.2.2.2.2.2.2.2.2.2.2.2.2.2.2.2.2.2.2.2.2.2.2.2.1
noncomputable def z : Nat := zcv.2.2.2.2.2.2.2.2.2.2.2.2.2.2.2.2.2.2.2.2.2.2.2.2.2.2.2.2.2.2.2.2.2.2.2.2.2.2.2.2.1
noncomputable def amount : Int := zcv.2.2.2.2.2.2.2.2.2.2.2.2.2.2.2.2.2.2.2.2.2.2.2.2.2.2.2.2.2.2.2.2.2.2.2.2.2.2.2.2.2.1
noncomputable def many : Int := zcv.2.2.2.2.2.2.2.2.2.2.2.2.2.2.2.2.2.2.2.2.2.2.2.2.2.2.2.2.2.2.2.2.2.2.2.2.2.2.2.2.2.2.1
noncomputable def t : Int := zcv.2.2.2.2.2.2.2.2.2.2.2.2.2.2.2.2.2.2.2.2.2.2.2.2.2.2.2.2.2.2.2.2.2.2.2.2.2.2.2.2.2.2.2.1
noncomputable def tt : Tok := zcv.2.2.2.2.2.2.2.2.2.2.2.2.2.2.2.2.2.2.2.2.2.2.2.2.2.2.2.2.2.2.2.2.2.2.2.2.2.2.2.2.2.2.2.2.1
noncomputable def ps : Array Value := zcv.2.2.2.2.2.2.2.2.2.2.2.2.2.2.2.2.2.2.2.2.2.2.2.2.2.2.2.2.2.2.2.2.2.2.2.2.2.2.2.2.2.2.2.2.2.1
noncomputable def f : Str → Option Int := zcv.2.2.2.2.2.2.2.2.2.2.2.2.2.2.2.2.2.2.2.2.2.2.2.2.2.2.2.2.2.2.2.2.2.2.2.2.2.2.2.2.2.2.2.2.2.2.1
noncomputable def x : Str → Option Int := zcv.2.2.2.2.2.2.2.2.2.2.2.2.2.2.2.2.2.2.2.2.2.2.2.2.2.2.2.2.2.2.2.2.2.2.2.2.2.2.2.2.2.2.2.2.2.2.2.1
noncomputable def evs : Str → Option (List (Int × Int)) := zcv.2.2.2.2.2.2.2.2.2.2.2.2.2.2.2.2.2.2.2.2.2.2.2.2.2.2.2.2.2.2.2.2.2.2.2.2.2.2.2.2.2.2.2.2.2.2.2.2.1
noncomputable def lr : List Row := zcv.2.2.2.2.2.2.2.2.2.2.2.2.2.2.2.2.2.2.2.2.2.2.2.2.2.2.2.2.2.2.2.2.2.2.2.2.2.2.2.2.2.2.2.2.2.2.2.2.2.1
noncomputable def rest : List (Addr × Obj) := zcv.2.2.2.2.2.2.2.2.2.2.2.2.2.2.2.2.2.2.2.2.2.2.2.2.2.2.2.2.2.2.2.2.2.2.2.2.2.2.2.2.2.2.2.2.2.2.2.2.2.2.1
noncomputable def tp : Addr × Obj := zcv.2.2.2.2.2.2.2.2.2.2.2.2.2.2.2.2.2.2.2.2.2.2.2.2.2.2.2.2.2.2.2.2.2.2.2.2.2.2.2.2.2.2.2.2.2.2.2.2.2.2.2.1
noncomputable def Q : Flow → Shared → Prop := zcv.2.2.2.2.2.2.2.2.2.2.2.2.2.2.2.2.2.2.2.2.2.2.2.2.2.2.2.2.2.2.2.2.2.2.2.2.2.2.2.2.2.2.2.2.2.2.2.2.2.2.2.2.1
noncomputable def wh : Int := zcv.2.2.2.2.2.2.2.2.2.2.2.2.2.2.2.2.2.2.2.2.2.2.2.2.2.2.2.2.2.2.2.2.2.2.2.2.2.2.2.2.2.2.2.2.2.2.2.2.2.2.2.2.2.1
noncomputable def tw : Tok := zcv.2.2.2.2.2.2.2.2.2.2.2.2.2.2.2.2.2.2.2.2.2.2.2.2.2.2.2.2.2.2.2.2.2.2.2.2.2.2.2.2.2.2.2.2.2.2.2.2.2.2.2.2.2.2
theorem walk1 : leaf_comp_St w p loose mean mg mb gd a A₀ base h₀ L m s E I nowl st S X V clk lim fix mov rA lgA oI oS oX oV cwo rv vs kr kl i nS nX nV z amount many t tt ps f x evs lr rest tp Q wh tw := by
  intro lr' vcw fs env B KX T F N dI d6 d7 m8 FX P O ck tb hcw hR hS hX hV hi SZ ee ef evc elr A done
  subst ee ef evc elr
  have e1 : compStmt = compStmt := rfl
  conv at e1 => rhs; whnf
  have e2 : lawScope = lawScope := rfl
  conv at e2 => rhs; whnf
  rw [e1, e2]
  clear e1 e2
  obtain ⟨d5, m1, m2, m3, m4, m5, m6, m7⟩ := O
  obtain ⟨-, -, ⟨occ, hcn, hcd⟩, hra, ftab, d1, d2, d3, sx, xv, lS, lX, lV⟩ := id FX
  obtain ⟨hc, hn, hfs, hzS, hzX, hzV, hzz, ht0, ht1⟩ := SZ
  obtain ⟨⟨ta, p1⟩, ⟨tm, p2⟩, p3, p4, p5, p6, p7, p8⟩ := P
  have em := pin2 (pin2 (pin2 (pin2 (pin2 (pin2 (pin2 (pin2 (Eq.refl m) p1) p2) p3) p4) p5) p6) p7) p8
  rw [em] at F
  clear em p1 p2 p3 p4 p5 p6 p7 p8
  have hvz : vs.toArray.size ≤ sizeLine := by rw [List.size_toArray, hR.len, sizeLine_eq]; omega
  revert KX; k_fill; intro KX
  refine LCt.Assign_ListComp_T (F₀ := by k_asm) (by rfl) (by with_unfolding_all rfl) (by with_unfolding_all rfl) (by decide) (by rfl) (by decide) (by rfl) (by rfl) (by rfl) ?_
  k_steps
  refine LCt.CompSrcT.ledger rfl (by assumption) (by assumption) (by k_mem : (lgA, listOf vs.toArray kl) ∈ _) hvz ?_
  intro g9
  refine restT_ind (.inr ⟨_, by k_mem, rfl, _, rfl⟩) (fun j ys => j ≤ lr.length ∧ RowsAt rest ys ((lr.take j).filter fun r => decide (r.1 ≠ wh))) ?_ ?_ _ 0 [] (Nat.zero_add _) ⟨Nat.zero_le _, .nil⟩
  · rintro j ys v I' oI' C' oC' D' m9 h9 tk9 E9 hj ⟨_, hJ⟩ hP hC9 hx9 F9 N9 off9 ne9
    have hv9 : vs[j]? = some v := by
      have hp' : vs.toArray[j]? = some v := hP
      simpa using hp'
    obtain ⟨r, hrj, pr, ts1, ts2, ts3, rfl, hpr⟩ := hR.get hv9
    have htk : (lr.take (j + 1)).filter (fun r => decide (r.1 ≠ wh)) = (lr.take j).filter (fun r => decide (r.1 ≠ wh)) ++ (if r.1 ≠ wh then [r] else []) := by
      rw [List.take_add_one, hrj, List.filter_append]
      simp only [Option.toList, List.filter_cons, List.filter_nil]
      by_cases hh : r.1 = wh <;> simp [hh]
    have hrow := RowsAt.cons (news := rest) ⟨pr, ts1, ts2, ts3, rfl, hpr⟩ RowsAt.nil
    obtain ⟨who, sec, cst⟩ := r
    dsimp only at hpr htk
    k_steps
    all_goals first
      | exact ⟨_, _, rfl, by assumption, by assumption⟩
      | exact (List.getElem?_eq_some_iff.mp hrj).1
      | (rw [htk, if_pos (show who ≠ wh by omega)]; exact hJ.app hrow)
      | (rw [htk, if_neg (show ¬ (who ≠ wh) by omega), List.append_nil]; exact hJ)
  · rintro ys ⟨_, hJ⟩ D9 h9 tk9 F9 N9 off9
    rw [List.size_toArray, hR.len, List.take_length] at hJ
    have o9 := off1_mem (off9 : LCg.Off1 D9 (_ :: _ :: _ :: _ :: _ :: _ :: _ :: _ :: _ :: rest))
    have q1 : @Ne Nat I D9 := o9 (I, _) (by k_mem)
    have q2 : @Ne Nat S D9 := o9 (S, _) (by k_mem)
    have q3 : @Ne Nat X D9 := o9 (X, _) (by k_mem)
    have q4 : @Ne Nat V D9 := o9 (V, _) (by k_mem)
    have q5 : @Ne Nat 588 D9 := o9 (588, _) (by k_mem)
    have q6 : @Ne Nat (L + 1) D9 := o9 (L + 1, _) (by k_mem)
    have q7 : @Ne Nat nowl D9 := o9 (nowl, _) (by k_mem)
    have q8 : ∀ q ∈ rest, q.1 ≠ D9 := fun q hq => o9 q (by repeat (first | exact hq | refine List.Mem.tail _ ?_))
    k_steps
    exact done _ _ (turn_end (by assumption) (comp_back (by assumption)) dI (Ne.symm q1) m8 FX ⟨⟨_, rfl⟩, ⟨_, rfl⟩, rfl, rfl, rfl, rfl, rfl, rfl⟩ ⟨⟨Ne.symm q2, Ne.symm q3, Ne.symm q4, Ne.symm q5, Ne.symm q6, Ne.symm q7⟩, m1, m2, m3, m4, q8, m6, m7⟩ ck tb (by assumption) hJ hS hX hV ⟨fun r hr => hc r (List.mem_filter.mp hr).1, by have := List.length_filter_le (fun r : Row => decide (r.1 ≠ wh)) lr; omega, hfs, hzS, hzX, hzV, hzz, ht0, ht1⟩ A)
end c_leaf_comp
theorem leaf_comp {w : World} {p : Program} {loose : List Str} {mean : ExcName → Option Value} {mg : Str → Option Value} {mb : Str → Option Value}  {gd : Option (List Code)} {a : Addr} {A₀ : Around} {base : Heap} {h₀ : Heap} {L : Addr} {m : Str → Option Value} {s : Shared} {E : Value → Shared → Prop} (B : Below A₀ base [] h₀) (KX : (Mine.hd1.heap_39 w.params).In h₀) (T : Top p loose mean mg mb h₀) {I : Addr} {nowl : Addr} {st : Addr} {S : Addr} {X : Addr} {V : Addr} {clk : Addr} {lim : Addr} {fix : Addr} {mov : Addr} {rA : Addr} {lgA : Addr} {oI : Obj} {oS : Obj} {oX : Obj} {oV : Obj} {cwo : Obj} {rv : List Value} {vs : List Value} {kr : Nat} {kl : Nat} {i : Nat} {nS : Nat} {nX : Nat} {nV : Nat} {z : Nat} {amount : Int} {many : Int} {t : Int} {tt : Tok} {ps : Array Value} {f : Str → Option Int} {x : Str → Option Int} {evs : Str → Option (List (Int × Int))} {lr : List Row} {lr' : List Row} {rest : List (Addr × Obj)} {tp : Addr × Obj} {vcw : Option Value} (F : Fr h₀ L s.heap m) (N : News h₀ L s.heap (tp :: (I, oI) :: (S, oS) :: (X, oX) :: (V, oV) :: (588, tabObj ps) :: (lgA, listOf (List.toArray vs) kl) :: (L + 1, cwo) :: (nowl, listOf #[.int t tt] 0) :: rest)) (dI : @LT.lt Nat _ V I) (d6 : @Ne Nat lgA I) (d7 : @LT.lt Nat _ I tp.1) (m8 : ∀ q ∈ rest, q.1 ≠ I) (FX : Fixed rest L st S X V clk lim fix mov nowl rA rv kr) (P : Pins m amount many st lim fix mov lgA rA) (O : OffH L S X V nowl lgA rest) (ck : ClockP w clk nowl rest) (tb : Tab588 rest ps) (hcw : cwo.data = .cell vcw) (hR : RowsAt rest vs lr) (hS : IntD PySem.Challenge.rw_ji0060_01.row.prog w oS f nS) (hX : IntD PySem.Challenge.rw_ji0060_01.row.prog w oX x nX) (hV : EvD PySem.Challenge.rw_ji0060_01.row.prog w rest S X V oV evs nV z) (hi : i ≤ 20) (SZ : Sizes (i + 1) lr f nS nX nV z t) {Q : Flow → Shared → Prop} {wh : Int} {tw : Tok} {fs : Stmt} {env : Env} (ee : env = envX (Str.ofString "law") lawScope L a (.ref 712) (cellsFrom (L + 1) lawScope.names [])) (ef : fs = compStmt) (evc : vcw = some (.int wh tw)) (elr : lr' = lr.filter fun r => decide (r.1 ≠ wh)) (A : Agree (LawK amount many) (LawE many) f x lr' t) (done : ∀ h' tk', TurnEnd h₀ L (LawAt w amount many L st S X V clk lim fix mov nowl rA rv kr (i + 1)) I oI s { s with heap := h', toks := tk' } → Q .next { s with heap := h', toks := tk' }) :
    wpAny (model PySem.Challenge.rw_ji0060_01.row.prog w) (ktrTop 820 8200 gd (Str.ofString "law") lawScope L a (.ref 712) (cellsFrom (L + 1) lawScope.names []) []) (exec fs env) Q E s :=
  c_leaf_comp.zal c_leaf_comp.walk1 (w, p, loose, mean, mg, mb, gd, a, A₀, base, h₀, L, m, s, E, I, nowl, st, S, X, V, clk, lim, fix, mov, rA, lgA, oI, oS, oX, oV, cwo, rv, vs, kr, kl, i, nS, nX, nV, z, amount, many, t, tt, ps, f, x, evs, lr, rest, tp, Q, wh, tw) _ _ _ _ B KX T F N dI d6 d7 m8 FX P O ck tb hcw hR hS hX hV hi SZ ee ef evc elr A done
section
variable {w : World} {p : Program} {loose : List Str} {mean : ExcName → Option Value} {mg mb : Str → Option Value} {dp un : Nat} {gd : Option (List Code)} {a : Addr} {A₀ : Around} {base h₀ : Heap} {L : Addr} {m : Str → Option Value} {s : Shared} {E : Value → Shared → Prop}
  (B : Below A₀ base [] h₀) (KX : (Mine.hd1.heap_39 w.params).In h₀) (T : Top p loose mean mg mb h₀) (XB : (Mine.hd1.heap_39 w.params).In base) (TB : Top p loose mean mg mb base) (CD : CodeHd base 592 588)
  {I nowl st S X V clk lim fix mov rA lgA : Addr} {oI oS oX oV cwo : Obj} {rv : List Value} {vs : List Value} {kr kl i nS nX nV z : Nat} {amount many t : Int} {tt : Tok} {ps : Array Value} {f x : Str → Option Int} {evs : Str → Option (List (Int × Int))} {lr lr' : List Row} {rest : List (Addr × Obj)} {tp : Addr × Obj} {vcw : Option Value}
  (F : Fr h₀ L s.heap m) (N : News h₀ L s.heap (tp :: (I, oI) :: (S, oS) :: (X, oX) :: (V, oV) :: (588, tabObj ps) :: (lgA, listOf (List.toArray vs) kl) :: (L + 1, cwo) :: (nowl, listOf #[.int t tt] 0) :: rest))
  (dI : @LT.lt Nat _ V I) (d6 : @Ne Nat lgA I) (d7 : @LT.lt Nat _ I tp.1) (m8 : ∀ q ∈ rest, q.1 ≠ I)
  (FX : Fixed rest L st S X V clk lim fix mov nowl rA rv kr) (P : Pins m amount many st lim fix mov lgA rA) (O : OffH L S X V nowl lgA rest) (ck : ClockP w clk nowl rest) (tb : Tab588 rest ps) (hcw : cwo.data = .cell vcw) (hR : RowsAt rest vs lr)
  (hS : IntD PySem.Challenge.rw_ji0060_01.row.prog w oS f nS) (hX : IntD PySem.Challenge.rw_ji0060_01.row.prog w oX x nX) (hV : EvD PySem.Challenge.rw_ji0060_01.row.prog w rest S X V oV evs nV z)
  (hi : i ≤ 20) (SZ : Sizes (i + 1) lr f nS nX nV z t)
include B KX T F N dI d6 d7 m8 FX P O ck tb hcw hR hS hX hV hi SZ
end

end
section
theorem said_p_turna : True := by
  k_with "subscriptTail Name Constant ref int" => (k_here; (fail_if_success (fail_if_success (have := (by with_reducible assumption : Mk 152)))); (with_reducible show wpAny _ _ (subscriptTail _ _ (Value.ref _) (Value.int 0 _)) _ _ _); k_dflt (refine' one_item ?zyN ?zyhl ?_; (case zyN => k_asm); (case zyhl => k_mem); k_whole))
  k_with "setItem ref int" => (k_here; (fail_if_success (fail_if_success (have := (by with_reducible assumption : Mk 152)))); k_dflt (refine' one_set ?zyF ?zyN ?zyU ?_; (case zyF => k_asm); (case zyN => k_asm); (case zyU => k_updF); k_whole); (intro h' F' N'; (try dsimp only at N'); (try dsimp only); (try k_sweep)))
  k_with "exec Assign cons ListComp" => (k_here; (fail_if_success (fail_if_success (have := (by with_reducible assumption : Mk 152)))); with_reducible refine heldW ?_)
  k_with "call ref" => (k_here; (fail_if_success (fail_if_success (have := (by with_reducible assumption : Mk 152)))); (with_reducible show wpAny _ _ (call (Value.ref 181) _) _ _ _); with_reducible refine heldW ?_)
  k_with "call builtin:list.append" => (k_here; (fail_if_success (fail_if_success (have := (by with_reducible assumption : Mk 152)))); (with_reducible show wpAny _ _ (call (Value.builtin _) [Value.ref _, _]) _ _ _); k_dflt (refine' append_F ?zyk1 ?zyk2 ?zyk3 ?zyz ?_; (case zyk1 => k_asm); (case zyk2 => k_asm); (case zyk3 => k_updF); (case zyz => with_reducible assumption); k_whole); intro h' F' N'; (try dsimp only at N'); (try k_sweep))
  k_with "call ref" => (k_here; (fail_if_success (fail_if_success (have := (by with_reducible assumption : Mk 152)))); (with_reducible show wpAny _ _ (call (Value.ref 593) _) _ _ _); with_reducible refine heldW ?_)
  k_with "exec If" => (k_here; (fail_if_success (fail_if_success (have := (by with_reducible assumption : Mk 152)))); (fail_if_success (have := (by assumption : Mk 1))); (with_reducible show wpAny _ _ (exec (.If (.Compare (.Name (Str.ofString "far") _) _ [.Constant (.int 2) _ _] _) _ _ _) _) _ _ _); with_reducible refine heldW ?_)
  k_with "call ref" => (k_here; (fail_if_success (fail_if_success (have := (by with_reducible assumption : Mk 152)))); (with_reducible show wpAny _ _ (call (Value.ref 701) _) _ _ _); with_reducible refine heldW ?_)
  trivial
section
variable {w : World} {p : Program} {loose : List Str} {mean : ExcName → Option Value} {mg mb : Str → Option Value} {dp un : Nat} {gd : Option (List Code)} {a : Addr} {A₀ : Around} {base h₀ : Heap} {L : Addr} {m : Str → Option Value} {s : Shared} {Q : Flow → Shared → Prop} {E : Value → Shared → Prop}
  (B : Below A₀ base [] h₀) (KX : (Mine.hd1.heap_39 w.params).In h₀) (T : Top p loose mean mg mb h₀) (XB : (Mine.hd1.heap_39 w.params).In base) (TB : Top p loose mean mg mb base) (CD : CodeHd base 592 588)
include B KX T XB TB CD
end
noncomputable def turn_spec_St (w : World) (p : Program) (loose : List Str) (mean : ExcName → Option Value) (mg : Str → Option Value) (mb : Str → Option Value) (dp : Nat) (un : Nat) (gd : Option (List Code)) (a : Addr) (A₀ : Around) (base : Heap) (h₀ : Heap) (L : Addr) (s : Shared) (Q : Flow → Shared → Prop) (E : Value → Shared → Prop) (I : Addr) (nowl : Addr) (st : Addr) (S : Addr) (X : Addr) (V : Addr) (clk : Addr) (lim : Addr) (fix : Addr) (mov : Addr) (rA : Addr) (oI : Obj) (rv : List Value) (rs : List Int) (kr : Nat) (i : Nat) (amount : Int) (many : Int) (tpl : Tok) (m₁ : Str → Option Value) : Prop := ∀ (nw : List (Addr × Obj)) (B : Below A₀ base [] h₀) (KX : (Mine.hd1.heap_39 w.params).In h₀) (T : Top p loose mean mg mb h₀) (XB : (Mine.hd1.heap_39 w.params).In base) (TB : Top p loose mean mg mb base) (CD : CodeHd base 592 588) (LA : LawAt w amount many L st S X V clk lim fix mov nowl rA rv kr i m₁ nw) (off : ∀ p ∈ nw, p.1 ≠ I) (dI : @LT.lt Nat _ V I) (F : Fr h₀ L s.heap (fun y => if y = Str.ofString "place" then some (.int (2 * (i : Int)) tpl) else m₁ y)) (N : News h₀ L s.heap ((I, oI) :: nw)) (hr : IntsAre rv rs) (hi : 2 * i + 1 < rs.length) (hlen : rs.length ≤ 40) (ham : 0 ≤ amount ∧ amount < 8) (hmany : 1 ≤ many ∧ many ≤ 9) (inj : ∀ i n j m, 0 ≤ i → i < 6 → 0 ≤ n → 0 ≤ j → j < 6 → 0 ≤ m → LawK amount many i n = LawK amount many j m → i = j ∧ n = m) (nbs : ∀ i n j, 0 ≤ i → i < 6 → 0 ≤ n → 0 ≤ j → j < 6 → LawK amount many i n ≠ kb amount many j) (hd : dp ≤ 820) (hu : un ≤ 8200), wpAny (model PySem.Challenge.rw_ji0060_01.row.prog w) (ktrTop dp un gd (Str.ofString "law") lawScope L a (.ref 712) (cellsFrom (L + 1) lawScope.names []) []) (execs turnBody (envX (Str.ofString "law") lawScope L a (.ref 712) (cellsFrom (L + 1) lawScope.names [])))
      (TurnPost h₀ L (LawAt w amount many L st S X V clk lim fix mov nowl rA rv kr (i + 1)) I oI s Q) E s
namespace c_turn_spec
noncomputable def zcv : (World) × (Program) × (List Str) × (ExcName → Option Value) × (Str → Option Value) × (Str → Option Value) × (Nat) × (Nat) × (Option (List Code)) × (Addr) × (Around) × (Heap) × (Heap) × (Addr) × (Shared) × (Flow → Shared → Prop) × (Value → Shared → Prop) × (Addr) × (Addr) × (Addr) × (Addr) × (Addr) × (Addr) × (Addr) × (Addr) × (Addr) × (Addr) × (Addr) × (Obj) × (List Value) × (List Int) × (Nat) × (Nat) × (Int) × (Int) × (Tok) × (Str → Option Value) := pick (neP neW (neP inferInstance (neP inferInstance (neP inferInstance (neP inferInstance (neP inferInstance (neP inferInstance (neP inferInstance (neP inferInstance (neP inferInstance (neP neA (neP inferInstance (neP inferInstance (neP inferInstance (neP neS (neP inferInstance (neP inferInstance (neP inferInstance (neP inferInstance (neP inferInstance (neP inferInstance (neP inferInstance (neP inferInstance (neP inferInstance (neP inferInstance (neP inferInstance (neP inferInstance (neP inferInstance (neP inferInstance (neP inferInstance (neP inferInstance (neP inferInstance (neP inferInstance (neP inferInstance (neP inferInstance (neP inferInstance inferInstance)))))))))))))))))))))))))))))))))))) (fun v : (World) × (Program) × (List Str) × (ExcName → Option Value) × (Str → Option Value) × (Str → Option Value) × (Nat) × (Nat) × (Option (List Code)) × (Addr) × (Around) × (Heap) × (Heap) × (Addr) × (Shared) × (Flow → Shared → Prop) × (Value → Shared → Prop) × (Addr) × (Addr) × (Addr) × (Addr) × (Addr) × (Addr) × (Addr) × (Addr) × (Addr) × (Addr) × (Addr) × (Obj) × (List Value) × (List Int) × (Nat) × (Nat) × (Int) × (Int) × (Tok) × (Str → Option Value) => turn_spec_St (v.1) (v.2.1) (v.2.2.1) (v.2.2.2.1) (v.2.2.2.2.1) (v.2.2.2.2.2.1) (v.2.2.2.2.2.2.1) (v.2.2.2.2.2.2.2.1) (v.2.2.2.2.2.2.2.2.1) (v.2.2.2.2.2.2.2.2.2.1) (v.2.2.2.2.2.2.2.2.2.2.1) (v.2.2.2.2.2.2.2.2.2.2.2.1) (v.2.2.2.2.2.2.2.2.2.2.2.2.1) (v.2.2.2.2.2.2.2.2.2.2.2.2.2.1) (v.2.2.2.2.2.2.2.2.2.2.2.2.2.2.1) (v.2.2.2.2.2.2.2.2.2.2.2.2.2.2.2.1) (v.2.2.2.2.2.2.2.2.2.2.2.2.2.2.2.2.1) (v.2.2.2.2.2.2.2.2.2.2.2.2.2.2.2.2.2.1) (v.2.2.2.2.2.2.2.2.2.2.2.2.2.2.2.2.2.2.1) (v.2.2.2.2.2.2.2.2.2.2.2.2.2.2.2.2.2.2.2.1) (v.2.2.2.2.2.2.2.2.2.2.2.2.2.2.2.2.2.2.2.2.1) (v.2.2.2.2.2.2.2.2.2.2.2.2.2.2.2.2.2.2.2.2.2.1) (v.2.2.2.2.2.2.2.2.2.2.2.2.2.2.2.2.2.2.2.2.2.2.1) (v.2.2.2.2.2.2.2.2.2.2.2.2.2.2.2.2.2.2.2.2.2.2.2.1) (v.2.2.2.2.2.2.2.2.2.2.2.2.2.2.2.2.2.2.2.2.2.2.2.2.1) (v.2.2.2.2.2.2.2.2.2.2.2.2.2.2.2.2.2.2.2.2.2.2.2.2.2.1) (v.2.2.2.2.2.2.2.2.2.2.2.2.2.2.2.2.2.2.2.2.2.2.2.2.2.2.1) (v.2.2.2.2.2.2.2.2.2.2.2.2.2.2.2.2.2.2.2.2.2.2.2.2.2.2.2.1) (v.2.2.2.2.2.2.2.2.2.2.2.2.2.2.2.2.2.2.2.2.2.2.2.2.2.2.2.2.1) (v.2.2.2.2.2.2.2.2.2.2.2.2.2.2.2.2.2.2.2.2.2.2.2.2.2.2.2.2.2.1) (v.2.2.2.2.2.2.2.2.2.2.2.2.2.2.2.2.2.2.2.2.2.2.2.2.2.2.2.2.2.2.1) (v.2.2.2.2.2.2.2.2.2.2.2.2.2.2.2.2.2.2.2.2.2.2.2.2.2.2.2.2.2.2.2.1) (v.2.2.2.2.2.2.2.2.2.2.2.2.2.2.2.2.2.2.2.2.2.2.2.2.2.2.2.2.2.2.2.2.1) (v.2.2.2.2.2.2.2.2.2.2.2.2.2.2.2.2.2.2.2.2.2.2.2.2.2.2.2.2.2.2.2.2.2.1) (v.2.2.2.2.2.2.2.2.2.2.2.2.2.2.2.2.2.2.2.2.2.2.2.2.2.2.2.2.2.2.2.2.2.2.1) (v.2.2.2.2.2.2.2.2.2.2.2.2.2.2.2.2.2.2.2.2.2.2.2.2.2.2.2.2.2.2.2.2.2.2.2.1) (v.2.2.2.2.2.2.2.2.2.2.2.2.2.2.2.2.2.2.2.2.2.2.2.2.2.2.2.2.2.2.2.2.2.2.2.2)) 0
theorem zal (h : turn_spec_St (zcv.1) (zcv.2.1) (zcv.2.2.1) (zcv.2.2.2.1) (zcv.2.2.2.2.1) (zcv.2.2.2.2.2.1) (zcv.2.2.2.2.2.2.1) (zcv.2.2.2.2.2.2.2.1) (zcv.2.2.2.2.2.2.2.2.1) (zcv.2.2.2.2.2.2.2.2.2.1) (zcv.2.2.2.2.2.2.2.2.2.2.1) (zcv.2.2.2.2.2.2.2.2.2.2.2.1) (zcv.2.2.2.2.2.2.2.2.2.2.2.2.1) (zcv.2.2.2.2.2.2.2.2.2.2.2.2.2.1) (zcv.2.2.2.2.2.2.2.2.2.2.2.2.2.2.1) (zcv.2.2.2.2.2.2.2.2.2.2.2.2.2.2.2.1) (zcv.2.2.2.2.2.2.2.2.2.2.2.2.2.2.2.2.1) (zcv.2.2.2.2.2.2.2.2.2.2.2.2.2.2.2.2.2.1) (zcv.2.2.2.2.2.2.2.2.2.2.2.2.2.2.2.2.2.2.1) (zcv.2.2.2.2.2.2.2.2.2.2.2.2.2.2.2.2.2.2.2.1) (zcv.2.2.2.2.2.2.2.2.2.2.2.2.2.2.2.2.2.2.2.2.1) (zcv.2.2.2.2.2.2.2.2.2.2.2.2.2.2.2.2.2.2.2.2.2.1) (zcv.2.2.2.2.2.2.2.2.2.2.2.2.2.2.2.2.2.2.2.2.2.2.1) (zcv.2.2.2.2.2.2.2.2.2.2.2.2.2.2.2.2.2.2.2.2.2.2.2.1) (zcv.2.2.2.2.2.2.2.2.2.2.2.2.2.2.2.2.2.2.2.2.2.2.2.2.1) (zcv.2.2.2.2.2.2.2.2.2.2.2.2.2.2.2.2.2.2.2.2.2.2.2.2.2.1) (zcv.2.2.2.2.2.2.2.2.2.2.2.2.2.2.2.2.2.2.2.2.2.2.2.2.2.2.1) (zcv.2.2.2.2.2.2.2.2.2.2.2.2.2.2.2.2.2.2.2.2.2.2.2.2.2.2.2.1) (zcv.2.2.2.2.2.2.2.2.2.2.2.2.2.2.2.2.2.2.2.2.2.2.2.2.2.2.2.2.1) (zcv.2.2.2.2.2.2.2.2.2.2.2.2.2.2.2.2.2.2.2.2.2.2.2.2.2.2.2.2.2.1) (zcv.2.2.2.2.2.2.2.2.2.2.2.2.2.2.2.2.2.2.2.2.2.2.2.2.2.2.2.2.2.2.1) (zcv.2.2.2.2.2.2.2.2.2.2.2.2.2.2.2.2.2.2.2.2.2.2.2.2.2.2.2.2.2.2.2.1) (zcv.2.2.2.2.2.2.2.2.2.2.2.2.2.2.2.2.2.2.2.2.2.2.2.2.2.2.2.2.2.2.2.2.1) (zcv.2.2.2.2.2.2.2.2.2.2.2.2.2.2.2.2.2.2.2.2.2.2.2.2.2.2.2.2.2.2.2.2.2.1) (zcv.2.2.2.2.2.2.2.2.2.2.2.2.2.2.2.2.2.2.2.2.2.2.2.2.2.2.2.2.2.2.2.2.2.2.1) (zcv.2.2.2.2.2.2.2.2.2.2.2.2.2.2.2.2.2.2.2.2.2.2.2.2.2.2.2.2.2.2.2.2.2.2.2.1) (zcv.2.2.2.2.2.2.2.2.2.2.2.2.2.2.2.2.2.2.2.2.2.2.2.2.2.2.2.2.2.2.2.2.2.2.2.2)) : ∀ u : (World) × (Program) × (List Str) × (ExcName → Option Value) × (Str → Option Value) × (Str → Option Value) × (Nat) × (Nat) × (Option (List Code)) × (Addr) × (Around) × (Heap) × (Heap) × (Addr) × (Shared) × (Flow → Shared → Prop) × (Value → Shared → Prop) × (Addr) × (Addr) × (Addr) × (Addr) × (Addr) × (Addr) × (Addr) × (Addr) × (Addr) × (Addr) × (Addr) × (Obj) × (List Value) × (List Int) × (Nat) × (Nat) × (Int) × (Int) × (Tok) × (Str → Option Value), turn_spec_St (u.1) (u.2.1) (u.2.2.1) (u.2.2.2.1) (u.2.2.2.2.1) (u.2.2.2.2.2.1) (u.2.2.2.2.2.2.1) (u.2.2.2.2.2.2.2.1) (u.2.2.2.2.2.2.2.2.1) (u.2.2.2.2.2.2.2.2.2.1) (u.2.2.2.2.2.2.2.2.2.2.1) (u.2.2.2.2.2.2.2.2.2.2.2.1) (u.2.2.2.2.2.2.2.2.2.2.2.2.1) (u.2.2.2.2.2.2.2.2.2.2.2.2.2.1) (u.2.2.2.2.2.2.2.2.2.2.2.2.2.2.1) (u.2.2.2.2.2.2.2.2.2.2.2.2.2.2.2.1) (u.2.2.2.2.2.2.2.2.2.2.2.2.2.2.2.2.1) (u.2.2.2.2.2.2.2.2.2.2.2.2.2.2.2.2.2.1) (u.2.2.2.2.2.2.2.2.2.2.2.2.2.2.2.2.2.2.1) (u.2.2.2.2.2.2.2.2.2.2.2.2.2.2.2.2.2.2.2.1) (u.2.2.2.2.2.2.2.2.2.2.2.2.2.2.2.2.2.2.2.2.1) (u.2.2.2.2.2.2.2.2.2.2.2.2.2.2.2.2.2.2.2.2.2.1) (u.2.2.2.2.2.2.2.2.2.2.2.2.2.2.2.2.2.2.2.2.2.2.1) (u.2.2.2.2.2.2.2.2.2.2.2.2.2.2.2.2.2.2.2.2.2.2.2.1) (u.2.2.2.2.2.2.2.2.2.2.2.2.2.2.2.2.2.2.2.2.2.2.2.2.1) (u.2.2.2.2.2.2.2.2.2.2.2.2.2.2.2.2.2.2.2.2.2.2.2.2.2.1) (u.2.2.2.2.2.2.2.2.2.2.2.2.2.2.2.2.2.2.2.2.2.2.2.2.2.2.1) (u.2.2.2.2.2.2.2.2.2.2.2.2.2.2.2.2.2.2.2.2.2.2.2.2.2.2.2.1) (u.2.2.2.2.2.2.2.2.2.2.2.2.2.2.2.2.2.2.2.2.2.2.2.2.2.2.2.2.1) (u.2.2.2.2.2.2.2.2.2.2.2.2.2.2.2.2.2.2.2.2.2.2.2.2.2.2.2.2.2.1) (u.2.2.2.2.2.2.2.2.2.2.2.2.2.2.2.2.2.2.2.2.2.2.2.2.2.2.2.2.2.2.1) (u.2.2.2.2.2.2.2.2.2.2.2.2.2.2.2.2.2.2.2.2.2.2.2.2.2.2.2.2.2.2.2.1) (u.2.2.2.2.2.2.2.2.2.2.2.2.2.2.2.2.2.2.2.2.2.2.2.2.2.2.2.2.2.2.2.2.1) (u.2.2.2.2.2.2.2.2.2.2.2.2.2.2.2.2.2.2.2.2.2.2.2.2.2.2.2.2.2.2.2.2.2.1) (u.2.2.2.2.2.2.2.2.2.2.2.2.2.2.2.2.2.2.2.2.2.2.2.2.2.2.2.2.2.2.2.2.2.2.1) (u.2.2.2.2.2.2.2.2.2.2.2.2.2.2.2.2.2.2.2.2.2.2.2.2.2.2.2.2.2.2.2.2.2.2.2.1) (u.2.2.2.2.2.2.2.2.2.2.2.2.2.2.2.2.2.2.2.2.2.2.2.2.2.2.2.2.2.2.2.2.2.2.2.2) := pick_all (P := fun v : (World) × (Program) × (List Str) × (ExcName → Option Value) × (Str → Option Value) × (Str → Option Value) × (Nat) × (Nat) × (Option (List Code)) × (Addr) × (Around) × (Heap) × (Heap) × (Addr) × (Shared) × (Flow → Shared → Prop) × (Value → Shared → Prop) × (Addr) × (Addr) × (Addr) × (Addr) × (Addr) × (Addr) × (Addr) × (Addr) × (Addr) × (Addr) × (Addr) × (Obj) × (List Value) × (List Int) × (Nat) × (Nat) × (Int) × (Int) × (Tok) × (Str → Option Value) => turn_spec_St (v.1) (v.2.1) (v.2.2.1) (v.2.2.2.1) (v.2.2.2.2.1) (v.2.2.2.2.2.1) (v.2.2.2.2.2.2.1) (v.2.2.2.2.2.2.2.1) (v.2.2.2.2.2.2.2.2.1) (v.2.2.2.2.2.2.2.2.2.1) (v.2.2.2.2.2.2.2.2.2.2.1) (v.2.2.2.2.2.2.2.2.2.2.2.1) (v.2.2.2.2.2.2.2.2.2.2.2.2.1) (v.2.2.2.2.2.2.2.2.2.2.2.2.2.1) (v.2.2.2.2.2.2.2.2.2.2.2.2.2.2.1) (v.2.2.2.2.2.2.2.2.2.2.2.2.2.2.2.1) (v.2.2.2.2.2.2.2.2.2.2.2.2.2.2.2.2.1) (v.2.2.2.2.2.2.2.2.2.2.2.2.2.2.2.2.2.1) (v.2.2.2.2.2.2.2.2.2.2.2.2.2.2.2.2.2.2.1) (v.2.2.2.2.2.2.2.2.2.2.2.2.2.2.2.2.2.2.2.1) (v.2.2.2.2.2.2.2.2.2.2.2.2.2.2.2.2.2.2.2.2.1) (v.2.2.2.2.2.2.2.2.2.2.2.2.2.2.2.2.2.2.2.2.2.1) (v.2.2.2.2.2.2.2.2.2.2.2.2.2.2.2.2.2.2.2.2.2.2.1) (v.2.2.2.2.2.2.2.2.2.2.2.2.2.2.2.2.2.2.2.2.2.2.2.1) (v.2.2.2.2.2.2.2.2.2.2.2.2.2.2.2.2.2.2.2.2.2.2.2.2.1) (v.2.2.2.2.2.2.2.2.2.2.2.2.2.2.2.2.2.2.2.2.2.2.2.2.2.1) (v.2.2.2.2.2.2.2.2.2.2.2.2.2.2.2.2.2.2.2.2.2.2.2.2.2.2.1) (v.2.2.2.2.2.2.2.2.2.2.2.2.2.2.2.2.2.2.2.2.2.2.2.2.2.2.2.1) (v.2.2.2.2.2.2.2.2.2.2.2.2.2.2.2.2.2.2.2.2.2.2.2.2.2.2.2.2.1) (v.2.2.2.2.2.2.2.2.2.2.2.2.2.2.2.2.2.2.2.2.2.2.2.2.2.2.2.2.2.1) (v.2.2.2.2.2.2.2.2.2.2.2.2.2.2.2.2.2.2.2.2.2.2.2.2.2.2.2.2.2.2.1) (v.2.2.2.2.2.2.2.2.2.2.2.2.2.2.2.2.2.2.2.2.2.2.2.2.2.2.2.2.2.2.2.1) (v.2.2.2.2.2.2.2.2.2.2.2.2.2.2.2.2.2.2.2.2.2.2.2.2.2.2.2.2.2.2.2.2.1) (v.2.2.2.2.2.2.2.2.2.2.2.2.2.2.2.2.2.2.2.2.2.2.2.2.2.2.2.2.2.2.2.2.2.1) (v.2.2.2.2.2.2.2.2.2.2.2.2.2.2.2.2.2.2.2.2.2.2.2.2.2.2.2.2.2.2.2.2.2.2.1) (v.2.2.2.2.2.2.2.2.2.2.2.2.2.2.2.2.2.2.2.2.2.2.2.2.2.2.2.2.2.2.2.2.2.2.2.1) (v.2.2.2.2.2.2.2.2.2.2.2.2.2.2.2.2.2.2.2.2.2.2.2.2.2.2.2.2.2.2.2.2.2.2.2.2)) h
noncomputable def w : World := zcv.1
noncomputable def p : Program := zcv.2.1
noncomputable def loose : List Str := zcv.2.2.1
noncomputable def mean : ExcName → Option Value := zcv.2.2.2.1
noncomputable def mg : Str → Option Value := zcv.2.2.2.2.1
noncomputable def mb : Str → Option Value := zcv.2.2.2.2.2.1
noncomputable def dp : Nat := zcv.2.2.2.2.2.2.1
noncomputable def un : Nat := zcv.2.2.2.2.2.2.2.1
noncomputable def gd : Option (List Code) := zcv.2.2.2.2.2.2.2.2.1
noncomputable def a : Addr := zcv.2.2.2.2.2.2.2.2.2.1
noncomputable def A₀ : Around := zcv.2.2.2.2.2.2.2.2.2.2.1
noncomputable def base : Heap := zcv.2.2.2.2.2.2.2.2.2.2.2.1
noncomputable def h₀ : Heap := zcv.2.2.2.2.2.2.2.2.2.2.2.2.1
noncomputable def L : Addr := zcv.2.2.2.2.2.2.2.2.2.2.2.2.2.1
noncomputable def s : Shared := zcv.2.2.2.2.2.2.2.2.2.2.2.2.2.2.1
noncomputable def Q : Flow → Shared → Prop := zcv.2.2.2.2.2.2.2.2.2.2.2.2.2.2.2.1
noncomputable def E : Value → Shared → Prop := zcv.2.2.2.2.2.2.2.2.2.2.2.2.2.2.2.2.1
noncomputable def I : Addr := zcv.2.2.2.2.2.2.2.2.2.2.2.2.2.2.2.2.2.1
noncomputable def nowl : Addr := zcv.2.2.2.2.2.2.2.2.2.2.2.2.2.2.2.2.2.2.1
noncomputable def st : Addr := zcv.2.2.2.2.2.2.2.2.2.2.2.2.2.2.2.2.2.2.2.1
noncomputable def S : Addr := zcv.2.2.2.2.2.2.2.2.2.2.2.2.2.2.2.2.2.2.2.2.1
noncomputable def X : Addr := zcv.2.2.2.2.2.2.2.2.2.2.2.2.2.2.2.2.2.2.2.2.2.1
noncomputable def V : Addr := zcv.2.2.2.2.2.2.2.2.2.2.2.2.2.2.2.2.2.2.2.2.2.2.1
noncomputable def clk : Addr := zcv.2.2.2.2.2.2.2.2.2.2.2.2.2.2.2.2.2.2.2.2.2.2.2.1
noncomputable def lim : Addr := zcv.2.2.2.2.2.2.2.2.2.2.2.2.2.2.2.2.2.2.2.2.2.2.2.2.1
noncomputable def fix : Addr := zcv.2.2.2.2.2.2.2.2.2.2.2.2.2.2.2.2.2.2.2.2.2.2.2.2.2.1
noncomputable def mov : Addr := zcv.2.2.2.2.2.2.2.2.2.2.2.2.2.2.2.2.2.2.2.2.2.2.2.2.2.2.1
noncomputable def rA : Addr := zcv.2.2.2.2.2.2.2.2.2.2.2.2.2.2.2.2.2.2.2.2.2.2.2.2.2.2.2.1
noncomputable def oI : Obj := zcv.2.2.2.2.2.2.2.2.2.2.2.2.2.2.2.2.2.2.2.2.2.2.2.2.2.2.2.2.1
noncomputable def rv : List Value := zcv.2.2.2.2.2.2.2.2.2.2.2.2.2.2.2.2.2.2.2.2.2.2.2.2.2.2.2.2.2.1
noncomputable def rs : List Int := zcv.2.2.2.2.2.2.2.2.2.2.2.2.2.2.2.2.2.2.2.2.2.2.2.2.2.2.2.2.2.2.1
noncomputable def kr : Nat := zcv.2.2.2.2.2.2.2.2.2.2.2.2.2.2.2.2.2.2.2.2.2.2.2.2.2.2.2.2.2.2.2.1
noncomputable def i : Nat := zcv.2.2.2.2.2.2.2.2.2.2.2.2.2.2.2.2.2.2.2.2.2.2.2.2.2.2.2.2.2.2.2.2.1
noncomputable def amount : Int := zcv.2.2.2.2.2.2.2.2.2.2.2.2.2.2.2.2.2.2.2.2.2.2.2.2.2.2.2.2.2.2.2.2.2.1
noncomputable def many : Int := zcv.2.2.2.2.2.2.2.2.2.2.2.2.2.2.2.2.2.2.2.2.2.2.2.2.2.2.2.2.2.2.2.2.2.2.1
noncomputable def tpl : Tok := zcv.2.2.2.2.2.2.2.2.2.2.2.2.2.2.2.2.2.2.2.2.2.2.2.2.2.2.2.2.2.2.2.2.2.2.2.1
noncomputable def m₁ : Str → Option Value := zcv.2.2.2.2.2.2.2.2.2.2.2.2.2.2.2.2.2.2.2.2.2.2.2.2.2.2.2.2.2.2.2.2.2.2.2.2
theorem walk1 : turn_spec_St w p loose mean mg mb dp un gd a A₀ base h₀ L s Q E I nowl st S X V clk lim fix mov rA oI rv rs kr i amount many tpl m₁ := by
  intro nw B KX T XB TB CD LA off dI F N hr hi hlen ham hmany inj nbs hd hu
  have mkp : Mk 152 := trivial
  obtain ⟨lgA, vs, kl, lr, t, tt, cwo, vcw, oS, oX, oV, ps, f, x, evs, nS, nX, nV, z, rest, rfl, FX, P, O, ck0, tb, hcw, hR, hS, hX, hV, SZ, A⟩ := LA
  have e1 : turnBody = turnBody := rfl
  conv at e1 => rhs; whnf
  have e2 : lawScope = lawScope := rfl
  conv at e2 => rhs; whnf
  rw [e1, e2]
  clear e1 e2
  obtain ⟨⟨ta, p1⟩, ⟨tm, p2⟩, p3, p4, p5, p6, p7, p8⟩ := P
  have em := pin2 (pin2 (pin2 (pin2 (pin2 (pin2 (pin2 (pin2 (Eq.refl m₁) p1) p2) p3) p4) p5) p6) p7) p8
  rw [em] at F
  clear em p1 p2 p3 p4 p5 p6 p7 p8
  obtain ⟨-, -, ⟨occ, hcn, hcd⟩, hra, ftab, d1, d2, d3, sx, xv, lS, lX, lV⟩ := id FX
  obtain ⟨d5, n1, n2, n3, n4, n5, n6, n7⟩ := O
  have y0 : @LT.lt Nat _ 588 (L + 1) := Nat.lt_succ_of_lt d1
  have y1 : @LT.lt Nat _ (L + 1) nowl := Nat.lt_trans (Nat.lt_succ_self _) d2
  have y2 : @LT.lt Nat _ 588 nowl := Nat.lt_trans y0 y1
  have y3 : @LT.lt Nat _ nowl X := Nat.lt_trans d3 sx
  have y4 : @LT.lt Nat _ nowl V := Nat.lt_trans y3 xv
  have y5 : @LT.lt Nat _ nowl I := Nat.lt_trans y4 dI
  have y6 : @LT.lt Nat _ S V := Nat.lt_trans sx xv
  have y7 : @LT.lt Nat _ S I := Nat.lt_trans y6 dI
  have y8 : @LT.lt Nat _ X I := Nat.lt_trans xv dI
  have y9 : @LT.lt Nat _ (L + 1) S := Nat.lt_trans y1 d3
  have y10 : @LT.lt Nat _ (L + 1) X := Nat.lt_trans y1 y3
  have y11 : @LT.lt Nat _ (L + 1) V := Nat.lt_trans y1 y4
  have y12 : @LT.lt Nat _ (L + 1) I := Nat.lt_trans y1 y5
  have y13 : @LT.lt Nat _ 588 S := Nat.lt_trans y0 y9
  have y14 : @LT.lt Nat _ 588 X := Nat.lt_trans y0 y10
  have y15 : @LT.lt Nat _ 588 V := Nat.lt_trans y0 y11
  have y16 : @LT.lt Nat _ 588 I := Nat.lt_trans y0 y12
  obtain ⟨w1, w2, w3, w4, w5, w6⟩ := id d5
  have d6 : lgA ≠ I := off (lgA, _) (by k_mem)
  have n8 : ∀ q ∈ rest, q.1 ≠ I := fun q hq => off q (by repeat (first | exact hq | refine List.Mem.tail _ ?_))
  obtain ⟨hc, hn, hfs, hzS, hzX, hzV, hzz, ht0, ht1⟩ := SZ
  have hi20 : i ≤ 20 := q_i hi hlen
  have hi26 : i ≤ 26 := Nat.le_trans hi20 (by decide)
  have ht : 1000000 ≤ t ∧ t ≤ 1000000000000 - 100000 := q_t hi26 ht0 ht1
  have hn' : lr.length ≤ 100 := q_l hi26 hn
  have hf : ∀ j, 0 ≤ (f j).getD 0 ∧ (f j).getD 0 ≤ 1000000 := fun j => q_f hi26 (hfs j)
  have hbd : Bd f (100 * i) := hfs
  have zS : nS + 1 ≤ sizeLine := (q_n hi26 hzS).1
  have zX : nX + 1 ≤ sizeLine := (q_n hi26 hzX).1
  have zV : nV + 1 ≤ sizeLine := (q_n hi26 hzV).1
  have zz : z + 1000 ≤ 1000000 := q_z hi26 hzz
  have hvz : vs.toArray.size ≤ sizeLine := by rw [List.size_toArray, hR.len]; exact q_v hn'
  obtain ⟨x1, hx1⟩ : ∃ x, rs[2 * i]? = some x := ⟨_, List.getElem?_eq_getElem (by omega)⟩
  obtain ⟨x2, hx2⟩ : ∃ x, rs[2 * i + 1]? = some x := ⟨_, List.getElem?_eq_getElem (by omega)⟩
  have hv1 : ∃ u1, rv[(2 * (i : Int)).toNat]? = some (.int x1 u1) := by
    rw [q_a]; exact ints_get hr hx1
  have hv2 : ∃ u2, rv[(2 * (i : Int) + 1).toNat]? = some (.int x2 u2) := by
    rw [q_b]; exact ints_get hr hx2
  obtain ⟨u1, hv1⟩ := hv1
  obtain ⟨u2, hv2⟩ := hv2
  have hrl := hr.length
  have hpk := fmod_bounds (t := x2.fdiv 7) (e := 9) (by decide)
  refine lower ?_ hd hu
  revert KX; k_fill; intro KX
  k_steps
  have hwb := pick_bounds ((x2.fdiv 7).fmod 9).toNat
  generalize ([0, 0, 0, 0, 1, 2, 3, 4, 5] : List Int).getD ((x2.fdiv 7).fmod 9).toNat 0 = wh at *
  refine heldI ?_
  refine subj_spec B (by assumption) KX T rfl (by assumption) hwb ⟨ham.1, Int.lt_trans ham.2 (by decide)⟩ ⟨hmany.1, Int.lt_of_le_of_lt hmany.2 (by decide)⟩ (by decide) (by decide) ?_
  intro tp it nt ext r1 r2 h' tk' SA F1 N1 lt lt2
  have lt3 : @LT.lt Nat _ I tp := lt2 (I, oI) (by k_mem)
  have y20 : @LT.lt Nat _ S tp := Nat.lt_trans y7 lt3
  have y21 : @LT.lt Nat _ X tp := Nat.lt_trans y8 lt3
  have y22 : @LT.lt Nat _ V tp := Nat.lt_trans dI lt3
  have y23 : @LT.lt Nat _ nowl tp := Nat.lt_trans y5 lt3
  have y24 : @LT.lt Nat _ (L + 1) tp := Nat.lt_trans y12 lt3
  have y25 : @LT.lt Nat _ 588 tp := Nat.lt_trans y16 lt3
  have lt4 : @LT.lt Nat _ lgA tp := lt2 (lgA, _) (by k_mem)
  have N2 := move_ext (l := [_, _, _, _, _, _, _, _]) N1
  simp only [List.cons_append, List.nil_append] at N2
  have m1 := off_app lt (by k_mem) n1
  have m2 := off_app lt (by k_mem) n2
  have m3 := off_app lt (by k_mem) n3
  have m4 := off_app lt (by k_mem) n4
  have m5 := off_app lt (by k_mem) n5
  have m6 := off_app lt (by k_mem) n6
  have m7 := off_app lt (by k_mem) n7
  have m8 := off_app lt (by k_mem) n8
  have hsub : ∀ q ∈ rest, q ∈ ext ++ rest := fun q hq => List.mem_append_right _ hq
  have IT : ItemAt (ext ++ rest) S X V it _ _ _ _ := (SA.item (S := S) (X := X) (V := V) fun q hq => ⟨m1 q (List.mem_append_left _ hq), m2 q (List.mem_append_left _ hq), m3 q (List.mem_append_left _ hq)⟩).sub fun q hq _ => List.mem_append_left _ hq
  have NT : NamesAt (ext ++ rest) S X V nt _ := (SA.names (S := S) (X := X) (V := V) fun q hq => ⟨m1 q (List.mem_append_left _ hq), m2 q (List.mem_append_left _ hq), m3 q (List.mem_append_left _ hq)⟩).sub fun q hq _ => List.mem_append_left _ hq
  have FX2 := FX.sub hsub
  have ck2 := ck0.sub hsub
  have tb2 : Tab588 (ext ++ rest) ps := tb.sub hsub
  have O2 : OffH L S X V nowl lgA (ext ++ rest) := ⟨d5, m1, m2, m3, m4, m5, m6, m7⟩
  have hra' := hsub _ hra
  have hcn' := hsub _ hcn
  clear N1 lt lt2 SA n1 n2 n3 n4 n5 n6 n7 n8 hcn hra
  generalize ext ++ rest = rest2 at *
  have hel : 1 ≤ sLen wh many ∧ sLen wh many ≤ 600 := sLen_b hmany
  have hal : 0 ≤ sAm wh amount ∧ sAm wh amount ≤ 8 := sAm_b ham
  generalize heE : sLen wh many = e at *
  generalize hamE : sAm wh amount = am at *
  have hf1 := fmod_bounds (t := t) (e := e) hel.1
  have hf2 := fmod_bounds (t := x2.fdiv 5) (e := 2 * e + 2) (by omega)
  have hf3 := fmod_bounds (t := x1.fdiv 6 + 1) (e := am + 3) (by omega)
  have hf4 := fmod_bounds (t := x1) (e := 6) (by decide)
  have hf5 := fmod_bounds (t := x1.fdiv 6) (e := 5) (by decide)
  k_steps
  refine heldI ?_
  refine farCut (t := t) (nowl := nowl) (len := e) (by assumption) (by assumption) (by omega) ?_ ?_
  · have mk : Mk 1 := trivial
    k_steps
    all_goals first
      | exact ⟨_, _, _, _, rfl, by assumption, by assumption, by omega, by omega⟩
      | fail "far"
  intro h5 tk5 t' tt' F5 N5 b1 b2
  have O := lawStore (t := t') (tt := tt') FX2 O2 ck2
  have hR' := hR.up hsub
  have hV' := hV.sub (l := rest2) fun q hq _ => hsub q hq
  obtain ⟨L1, L2, L3⟩ := FX2.lims
  obtain ⟨dx1, g1, g2, g3, a1, a2, _, _⟩ := id L1
  obtain ⟨dx2, g4, g5, g6, a3, a4, _, _⟩ := id L2
  obtain ⟨dx3, g7, g8, g9, a5, a6, _, _⟩ := id L3
  obtain ⟨sdx, s1, s2, s3, s4, s5, s6, s7, s8, s9, s10, s11, s12, s13, ast, ack, asd, _, _, _⟩ := id FX2.parts
  have A2 := A.later b1
  clear hR hV hsub
  obtain ⟨key, hkey⟩ : ∃ k, k = keyOf (sSec wh) (sNs wh) (sNames wh) am (sMu wh many) := ⟨_, rfl⟩
  have hkb : kb amount many wh = key := by rw [hkey]; unfold kb; rw [hamE]
  obtain ⟨pk, hpkk⟩ : ∃ k, k = wkey key ((t' - e).fdiv e) := ⟨_, rfl⟩
  obtain ⟨ck, hckk⟩ : ∃ k, k = wkey key (t'.fdiv e) := ⟨_, rfl⟩
  have he0 : 0 < e := hel.1
  have he2 : e < 1000000 := q_e hel.2
  have het : e ≤ t' := q_et ht.1 hel.2 b1
  have htt : t' < 1000000000000 := q_tt ht.2 hel.2 b2
  have hT0 : 1000000 ≤ t' := Int.le_trans ht.1 b1
  have ht0' : 0 ≤ t' := q_0 hT0
  have hwF : wF f x pk ck t' e = countF lr wh t' e := by
    have q := A2.weigh (i := wh) hwb.1 hwb.2 (by show 0 < sLen wh many; rw [heE]; exact he0) (by show sLen wh many ≤ t'; rw [heE]; exact het)
    simp only [LawK, LawE, hkb, heE, ← hpkk, ← hckk] at q
    exact q
  have hcn0 : 0 ≤ countF lr wh t' e := count_nonneg he0 fun r hr => (hc r hr).1
  obtain ⟨ev, hRV, hEV⟩ := id hV'
  clear hf1
  have hlc : 1 ≤ e ∧ e < 1000000 := ⟨hel.1, he2⟩
  have hnc : 1000000 ≤ t' ∧ t' < 1000000000000 := ⟨hT0, htt⟩
  have hT1 : t' ≤ 2000000000 + 2000 * ((i + 1 : Nat) : Int) := q_t1 ht1 hel.2 b2
  have hli : lr.length ≤ i + 1 := Nat.le_succ_of_le hn
  have hVi : nV ≤ 2 * (i + 1) := q_two hzV (Nat.le_add_right _ _)
  have hzi : z ≤ 1000 * (i + 1) := q_th hzz (Nat.le_add_right _ _)
  have hcast : ((i + 1 : Nat) : Int) = (i : Int) + 1 := rfl
  have hSz : ∀ {f' : Str → Option Int} {nS' nX' : Nat}, Bd f' (100 * (i : Int) + 100) → nS' ≤ nS + 2 → nX' ≤ nX + 2 → Sizes (i + 1) lr f' nS' nX' nV z t' := fun b h1 h2 =>
    ⟨hc, hli, fun j => by rw [hcast, Int.mul_add]; exact b j, q_two hzS h1, q_two hzX h2, hVi, hzi, hT0, hT1⟩
  have hB1 : Bd f (100 * (i : Int) + 100) := hbd.mono (by omega)
  have hee : e = unitOf (sSec wh) * sMu wh many := heE ▸ sLen_eq wh many
  have hne : ∀ i n, 0 ≤ i → i < 6 → 0 ≤ n → LawK amount many i n ≠ key := fun i n a b c => hkb ▸ nbs i n wh a b c hwb.1 hwb.2
  k_steps
  · exfalso
    refine (fun (q : (decide (wF f x pk ck t' e < _) != decide _) = true) => ?_) (by assumption)
    rw [hwF] at q
    simp only [bne_iff_ne, ne_eq, decide_eq_decide] at q
    exact q ⟨fun _ => by omega, fun _ => by omega⟩
  · exact turn_end (by assumption) (news_of (by assumption) (fun q hq => by repeat (first | exact hq | refine List.Mem.tail _ ?_))) dI d6 m8 FX2 ⟨⟨_, rfl⟩, ⟨_, rfl⟩, rfl, rfl, rfl, rfl, rfl, rfl⟩ O2 ck2 tb2 (by assumption) hR' (by assumption) (by assumption) hV' (hSz (hB1.F2 pk ck) (by first | exact Nat.le_refl _ | exact Nat.le_succ _ | exact Nat.le_add_right _ 2) (by first | exact Nat.le_refl _ | exact Nat.le_succ _ | exact Nat.le_add_right _ 2)) (A2.swept ht0')
  · exfalso
    refine (fun (e1 : _ = pcF f x pk t') (e2 : _ = ttlF _ t' e) (e3 : _ = ccF f x pk ck t') (q : remF am _ ≠ _) => ?_) (by assumption) (by assumption) (by assumption) (by assumption)
    subst e1
    subst e2
    subst e3
    refine q ?_
    rw [show (pcF f x pk t' * ttlF (pcF f x pk t') t' e).fdiv e + ccF f x pk ck t' = wF f x pk ck t' e from rfl, hwF]
    rfl
  · exact turn_end (by assumption) (news_of (by assumption) (fun q hq => by repeat (first | exact hq | refine List.Mem.tail _ ?_))) dI d6 m8 FX2 ⟨⟨_, rfl⟩, ⟨_, rfl⟩, rfl, rfl, rfl, rfl, rfl, rfl⟩ O2 ck2 tb2 (by assumption) hR' (by assumption) (by assumption) hV' (hSz (hB1.F2 pk ck) (by first | exact Nat.le_refl _ | exact Nat.le_succ _ | exact Nat.le_add_right _ 2) (by first | exact Nat.le_refl _ | exact Nat.le_succ _ | exact Nat.le_add_right _ 2)) (A2.swept ht0')
  · refine heldI ?_
    have A3 := A2.clear (i := wh) hwb.1 hwb.2 (by show 0 < sLen wh many; rw [heE]; exact he0) (by show sLen wh many ≤ t'; rw [heE]; exact het) inj
    simp only [LawK, LawE, hkb, heE] at A3
    refine leaf_comp (i := i) B KX T (by k_asm) (by k_asm) dI d6 lt3 m8 FX2 ⟨⟨_, rfl⟩, ⟨_, rfl⟩, rfl, rfl, rfl, rfl, rfl, rfl⟩ O2 ck2 tb2 (by assumption) hR' (by assumption) (by assumption) (by exact ⟨_, by assumption, ev_del (ev_del hEV _) _⟩) hi20 (by exact hSz ((hB1.del _).del _) (by first | exact Nat.le_refl _ | exact Nat.le_succ _ | exact Nat.le_add_right _ 2) (by first | exact Nat.le_refl _ | exact Nat.le_succ _ | exact Nat.le_add_right _ 2)) rfl rfl rfl rfl A3 ?_
    intro h6 tk6 H6
    k_steps
    exact H6
  · refine heldI ?_
    refine leaf_exp (i := i) B KX T (by k_asm) (by k_asm) dI d6 lt3 m8 FX2 ⟨⟨_, rfl⟩, ⟨_, rfl⟩, rfl, rfl, rfl, rfl, rfl, rfl⟩ O2 ck2 tb2 (by assumption) hR' hS hX hV' hi20 (hSz hB1 (by first | exact Nat.le_refl _ | exact Nat.le_succ _ | exact Nat.le_add_right _ 2) (by first | exact Nat.le_refl _ | exact Nat.le_succ _ | exact Nat.le_add_right _ 2)) TB CD A2 ?_
    intro h6 tk6 H6 F6
    k_steps
    exact H6
  · exact turn_end (by assumption) (news_of (by assumption) (fun q hq => by repeat (first | exact hq | refine List.Mem.tail _ ?_))) dI d6 m8 FX2 ⟨⟨_, rfl⟩, ⟨_, rfl⟩, rfl, rfl, rfl, rfl, rfl, rfl⟩ O2 ck2 tb2 (by assumption) hR' (by assumption) (by assumption) hV' (hSz ((hbd.inc key hf3.1).mono (by omega)) (by first | exact Nat.le_refl _ | exact Nat.le_succ _ | exact Nat.le_add_right _ 2) (by first | exact Nat.le_refl _ | exact Nat.le_succ _ | exact Nat.le_add_right _ 2)) (A2.other ht0' hne)
  · exact turn_end (by assumption) (news_of (by assumption) (fun q hq => by repeat (first | exact hq | refine List.Mem.tail _ ?_))) dI d6 m8 FX2 ⟨⟨_, rfl⟩, ⟨_, rfl⟩, rfl, rfl, rfl, rfl, rfl, rfl⟩ O2 ck2 tb2 (by assumption) hR' (by assumption) (by assumption) ⟨_, by assumption, ev_del hEV key⟩ (hSz (hB1.del key) (by first | exact Nat.le_refl _ | exact Nat.le_succ _ | exact Nat.le_add_right _ 2) (by first | exact Nat.le_refl _ | exact Nat.le_succ _ | exact Nat.le_add_right _ 2)) (A2.out hne)
  · refine heldI ?_
    refine mhit_spec (t := t') (e := e) (key := key) B (by assumption) KX T rfl XB TB ktsDicts_nil (by assumption) (O.sub fun q hq _ => by repeat (first | exact hq | refine List.Mem.tail _ ?_)) (L3.sub fun q hq _ => by repeat (first | exact hq | refine List.Mem.tail _ ?_)) (IT.sub fun q hq _ => by repeat (first | exact hq | refine List.Mem.tail _ ?_)) (NT.sub fun q hq _ => by repeat (first | exact hq | refine List.Mem.tail _ ?_)) (by k_updF) (fun q hq => ⟨by repeat (first | exact hq | refine List.Mem.tail _ ?_), m3 q hq⟩) hV' zV zz hee hkey ⟨by omega, by omega⟩ (by omega) (by omega) (by omega) (by omega) (Nat.le_of_ble_eq_true rfl) (Nat.le_of_ble_eq_true rfl) ?_
    intro h0' b' evs' ext' oV' h' tk' tT' B' X' T' D' ap' F' N' n1' hV2
    replace F' := turn_none tT' F'
    replace N' := turn_news tT' N'
    clear B' X' T' D' tT'
    (try dsimp only at N')
    (try simp only [List.cons_append] at N')
    k_steps
    have hin : ∀ q ∈ rest2, q ∈ rest2 ++ ext' := fun q hq => List.mem_append_left _ hq
    exact turn_end (by assumption) (news_of (by assumption) (fun q hq => by repeat (first | exact hq | refine List.Mem.tail _ ?_))) dI d6 (off_ext n1' (by k_mem) m8) (FX2.sub hin) ⟨⟨_, rfl⟩, ⟨_, rfl⟩, rfl, rfl, rfl, rfl, rfl, rfl⟩ ⟨d5, off_ext n1' (by k_mem) m1, off_ext n1' (by k_mem) m2, off_ext n1' (by k_mem) m3, off_ext n1' (by k_mem) m4, off_ext n1' (by k_mem) m5, off_ext n1' (by k_mem) m6, off_ext n1' (by k_mem) m7⟩ (ck2.sub hin) (tb2.sub hin) (by assumption) (hR'.up hin) hS hX hV2 ⟨hc, hli, fun j => by rw [hcast, Int.mul_add]; exact hB1 j, q_two hzS (Nat.le_add_right _ _), q_two hzX (Nat.le_add_right _ _), q_two hzV (Nat.le_refl _), q_th hzz (Nat.le_refl _), hT0, hT1⟩ A2
  · exfalso
    refine (fun (ap : AcqPost f x pk ck t' e am _ _ _ _) (q : (_ != decide _) = true) => ?_) (by assumption) (by assumption)
    rcases ap with ⟨c1, rfl, rfl, rfl⟩ | ⟨c1, c2, rfl, rfl, rfl⟩ | ⟨c1, c2, rfl, rfl, rfl⟩
    · simp at q; omega
    · rw [hwF] at c2; simp at q; omega
    · rw [hwF] at c2; simp at q; omega
  · have d6' : @Ne Nat lgA I := d6
    refine (fun (ap : AcqPost f x pk ck t' e am _ _ _ _) => ?_) (by assumption)
    rcases ap with ⟨c1, rfl, rfl, rfl⟩ | ⟨c1, c2, rfl, rfl, rfl⟩ | ⟨c1, c2, rfl, rfl, rfl⟩
    · exfalso; omega
    · exfalso; rw [hwF] at c2; omega
    · refine (fun (NN : News h₀ L _ ((_, { cls := .type "tuple", data := .seq #[.int wh _, .int t' _, .int _ _] }) :: _)) => ?_) (by assumption)
      have N8 := move_front (l := [_, _, _, _, _, _, _, _]) NN
      simp only [List.cons_append, List.nil_append] at N8
      have hin : ∀ b : Addr × Obj, ∀ q ∈ rest2, q ∈ b :: rest2 := fun b q hq => List.Mem.tail _ hq
      have A3 := A2.hit (i := wh) (am := (x1.fdiv 6 + 1).fmod (am + 3)) (pk := pk) hwb.1 hwb.2 (by show 0 < sLen wh many; rw [heE]; exact he0) (by omega) inj
      simp only [LawK, LawE, hkb, heE, ← hckk] at A3
      refine turn_end (by assumption) N8 dI d6 (off_cons (by dsimp only; first | walk_at "m ne" | omega) m8) (FX2.sub (hin _)) ⟨⟨_, rfl⟩, ⟨_, rfl⟩, rfl, rfl, rfl, rfl, rfl, rfl⟩ ⟨d5, off_cons (by dsimp only; first | walk_at "m ne" | omega) m1, off_cons (by dsimp only; first | walk_at "m ne" | omega) m2, off_cons (by dsimp only; first | walk_at "m ne" | omega) m3, off_cons (by dsimp only; first | walk_at "m ne" | omega) m4, off_cons (by dsimp only; first | walk_at "m ne" | omega) m5, off_cons (by dsimp only; first | walk_at "m ne" | omega) m6, off_cons (by dsimp only; first | walk_at "m ne" | omega) m7⟩ (ck2.sub (hin _)) (tb2.sub (hin _)) (by assumption) ((hR'.up (hin _)).app (.cons ⟨_, _, _, _, rfl, .head _⟩ .nil)) (by assumption) (by assumption) (hV'.sub fun q hq _ => hin _ q hq) ⟨?_, ?_, ?_, q_two hzS (Nat.le_succ _), q_two hzX (Nat.le_succ _), hVi, hzi, hT0, hT1⟩ A3
      · intro r hr
        rcases List.mem_append.mp hr with hr | hr
        · exact hc r hr
        · rw [List.mem_singleton.mp hr]; exact ⟨by dsimp only; omega, by dsimp only; omega, by dsimp only; omega, by dsimp only; omega⟩
      · rw [List.length_append, List.length_singleton]; omega
      · rw [hcast]
        exact ((hbd.F2 pk ck).inc ck (by omega)).mono (by omega)
  · refine (fun (ap : AcqPost f x pk ck t' e am _ _ _ _) => ?_) (by assumption)
    rcases ap with ⟨c1, rfl, rfl, rfl⟩ | ⟨c1, c2, rfl, rfl, rfl⟩ | ⟨c1, c2, rfl, rfl, rfl⟩
    · exact turn_end (by assumption) (news_of (by assumption) (fun q hq => by repeat (first | exact hq | refine List.Mem.tail _ ?_))) dI d6 m8 FX2 ⟨⟨_, rfl⟩, ⟨_, rfl⟩, rfl, rfl, rfl, rfl, rfl, rfl⟩ O2 ck2 tb2 (by assumption) hR' (by assumption) (by assumption) hV' (hSz hB1 (by first | exact Nat.le_refl _ | exact Nat.le_succ _ | exact Nat.le_add_right _ 2) (by first | exact Nat.le_refl _ | exact Nat.le_succ _ | exact Nat.le_add_right _ 2)) A2
    · exact turn_end (by assumption) (news_of (by assumption) (fun q hq => by repeat (first | exact hq | refine List.Mem.tail _ ?_))) dI d6 m8 FX2 ⟨⟨_, rfl⟩, ⟨_, rfl⟩, rfl, rfl, rfl, rfl, rfl, rfl⟩ O2 ck2 tb2 (by assumption) hR' (by assumption) (by assumption) hV' (hSz (hB1.F2 pk ck) (by first | exact Nat.le_refl _ | exact Nat.le_succ _ | exact Nat.le_add_right _ 2) (by first | exact Nat.le_refl _ | exact Nat.le_succ _ | exact Nat.le_add_right _ 2)) (A2.swept ht0')
    · exfalso; rw [hwF] at c2; omega
end c_turn_spec
theorem turn_spec {w : World} {p : Program} {loose : List Str} {mean : ExcName → Option Value} {mg : Str → Option Value} {mb : Str → Option Value} {dp : Nat} {un : Nat} {gd : Option (List Code)} {a : Addr} {A₀ : Around} {base : Heap} {h₀ : Heap} {L : Addr} {s : Shared} {Q : Flow → Shared → Prop} {E : Value → Shared → Prop} (B : Below A₀ base [] h₀) (KX : (Mine.hd1.heap_39 w.params).In h₀) (T : Top p loose mean mg mb h₀) (XB : (Mine.hd1.heap_39 w.params).In base) (TB : Top p loose mean mg mb base) (CD : CodeHd base 592 588) {I : Addr} {nowl : Addr} {st : Addr} {S : Addr} {X : Addr} {V : Addr} {clk : Addr} {lim : Addr} {fix : Addr} {mov : Addr} {rA : Addr} {oI : Obj} {rv : List Value} {rs : List Int} {kr : Nat} {i : Nat} {amount : Int} {many : Int} {tpl : Tok} {m₁ : Str → Option Value} {nw : List (Addr × Obj)} (LA : LawAt w amount many L st S X V clk lim fix mov nowl rA rv kr i m₁ nw) (off : ∀ p ∈ nw, p.1 ≠ I) (dI : @LT.lt Nat _ V I) (F : Fr h₀ L s.heap (fun y => if y = Str.ofString "place" then some (.int (2 * (i : Int)) tpl) else m₁ y)) (N : News h₀ L s.heap ((I, oI) :: nw)) (hr : IntsAre rv rs) (hi : 2 * i + 1 < rs.length) (hlen : rs.length ≤ 40) (ham : 0 ≤ amount ∧ amount < 8) (hmany : 1 ≤ many ∧ many ≤ 9) (inj : ∀ i n j m, 0 ≤ i → i < 6 → 0 ≤ n → 0 ≤ j → j < 6 → 0 ≤ m → LawK amount many i n = LawK amount many j m → i = j ∧ n = m) (nbs : ∀ i n j, 0 ≤ i → i < 6 → 0 ≤ n → 0 ≤ j → j < 6 → LawK amount many i n ≠ kb amount many j) (hd : dp ≤ 820) (hu : un ≤ 8200) :
    wpAny (model PySem.Challenge.rw_ji0060_01.row.prog w) (ktrTop dp un gd (Str.ofString "law") lawScope L a (.ref 712) (cellsFrom (L + 1) lawScope.names []) []) (execs turnBody (envX (Str.ofString "law") lawScope L a (.ref 712) (cellsFrom (L + 1) lawScope.names [])))
      (TurnPost h₀ L (LawAt w amount many L st S X V clk lim fix mov nowl rA rv kr (i + 1)) I oI s Q) E s :=
  c_turn_spec.zal c_turn_spec.walk1 (w, p, loose, mean, mg, mb, dp, un, gd, a, A₀, base, h₀, L, s, Q, E, I, nowl, st, S, X, V, clk, lim, fix, mov, rA, oI, rv, rs, kr, i, amount, many, tpl, m₁) _ B KX T XB TB CD LA off dI F N hr hi hlen ham hmany inj nbs hd hu
section
variable {w : World} {p : Program} {loose : List Str} {mean : ExcName → Option Value} {mg mb : Str → Option Value} {dp un : Nat} {gd : Option (List Code)} {a : Addr} {A₀ : Around} {base h₀ : Heap} {L : Addr} {m : Str → Option Value} {s : Shared} {Q : Flow → Shared → Prop} {E : Value → Shared → Prop}
  (B : Below A₀ base [] h₀) (KX : (Mine.hd1.heap_39 w.params).In h₀) (T : Top p loose mean mg mb h₀) (XB : (Mine.hd1.heap_39 w.params).In base) (TB : Top p loose mean mg mb base) (CD : CodeHd base 592 588)
include B KX T XB TB CD
end

end
section
theorem said_p_loops : True := by
  k_with "pyIter ref" => (k_here; (fail_if_success (fail_if_success (have := (by with_reducible assumption : Mk 153)))); refine Held.out ?_)
  trivial
theorem range_two {n : Nat} (h : n ≤ 20) : Builtin.Range.small 0 (2 * (n : Int)) 2 = true ∧ Builtin.Range.rangeSize 0 (2 * (n : Int)) 2 = (n : Int) := by
  have q : ∀ k : Fin 21, Builtin.Range.small 0 (2 * ((k.val : Nat) : Int)) 2 = true ∧ Builtin.Range.rangeSize 0 (2 * ((k.val : Nat) : Int)) 2 = ((k.val : Nat) : Int) := by decide
  exact q ⟨n, by omega⟩
theorem range_hi {h : Heap} {r : Addr} {a b b' c : Int} {t u v : Tok} (H : IsRange h r a b c t u v) (e : b = b') : IsRange h r a b' c t u v := e ▸ H
section
variable {w : World} {p : Program} {loose : List Str} {mean : ExcName → Option Value} {mg mb : Str → Option Value} {dp un : Nat} {gd : Option (List Code)} {a : Addr} {A₀ : Around} {base h₀ : Heap} {L : Addr} {m : Str → Option Value} {s : Shared} {Q : Flow → Shared → Prop} {E : Value → Shared → Prop}
  (B : Below A₀ base [] h₀) (KX : (Mine.hd1.heap_39 w.params).In h₀) (T : Top p loose mean mg mb h₀)
include B KX T
end
noncomputable def loop2_spec_St (w : World) (p : Program) (loose : List Str) (mean : ExcName → Option Value) (mg : Str → Option Value) (mb : Str → Option Value) (dp : Nat) (un : Nat) (gd : Option (List Code)) (a : Addr) (A₀ : Around) (base : Heap) (h₀ : Heap) (L : Addr) (m : Str → Option Value) (s : Shared) (Q : Flow → Shared → Prop) (E : Value → Shared → Prop) (nowl : Addr) (st : Addr) (S : Addr) (X : Addr) (V : Addr) (clk : Addr) (lim : Addr) (fix : Addr) (mov : Addr) (rA : Addr) (rv : List Value) (kr : Nat) (i₀ : Nat) (amount : Int) (many : Int) : Prop := ∀ (nw : List (Addr × Obj)) (B : Below A₀ base [] h₀) (KX : (Mine.hd1.heap_39 w.params).In h₀) (T : Top p loose mean mg mb h₀) (LA : LawAt w amount many L st S X V clk lim fix mov nowl rA rv kr i₀ m nw) (F : Fr h₀ L s.heap m) (N : News h₀ L s.heap nw) (hi : i₀ ≤ 20) (ham : 0 ≤ amount ∧ amount < 8) (hmany : 1 ≤ many ∧ many ≤ 9) (hd : dp ≤ 820) (hu : un ≤ 8200) (done : ∀ m' nw' h' tk', LawAt w amount many L st S X V clk lim fix mov nowl rA rv kr (i₀ + 6) m' nw' → Fr h₀ L h' m' → News h₀ L h' nw' → Q .next { s with heap := h', toks := tk' }), wpAny (model PySem.Challenge.rw_ji0060_01.row.prog w) (ktrTop dp un gd (Str.ofString "law") lawScope L a (.ref 712) (cellsFrom (L + 1) lawScope.names []) []) (exec for2 (envX (Str.ofString "law") lawScope L a (.ref 712) (cellsFrom (L + 1) lawScope.names []))) Q E s
namespace c_loop2_spec
noncomputable def zcv : (World) × (Program) × (List Str) × (ExcName → Option Value) × (Str → Option Value) × (Str → Option Value) × (Nat) × (Nat) × (Option (List Code)) × (Addr) × (Around) × (Heap) × (Heap) × (Addr) × (Str → Option Value) × (Shared) × (Flow → Shared → Prop) × (Value → Shared → Prop) × (Addr) × (Addr) × (Addr) × (Addr) × (Addr) × (Addr) × (Addr) × (Addr) × (Addr) × (Addr) × (List Value) × (Nat) × (Nat) × (Int) × (Int) := pick (neP neW (neP inferInstance (neP inferInstance (neP inferInstance (neP inferInstance (neP inferInstance (neP inferInstance (neP inferInstance (neP inferInstance (neP inferInstance (neP neA (neP inferInstance (neP inferInstance (neP inferInstance (neP inferInstance (neP neS (neP inferInstance (neP inferInstance (neP inferInstance (neP inferInstance (neP inferInstance (neP inferInstance (neP inferInstance (neP inferInstance (neP inferInstance (neP inferInstance (neP inferInstance (neP inferInstance (neP inferInstance (neP inferInstance (neP inferInstance (neP inferInstance inferInstance)))))))))))))))))))))))))))))))) (fun v : (World) × (Program) × (List Str) × (ExcName → Option Value) × (Str → Option Value) × (Str → Option Value) × (Nat) × (Nat) × (Option (List Code)) × (Addr) × (Around) × (Heap) × (Heap) × (Addr) × (Str → Option Value) × (Shared) × (Flow → Shared → Prop) × (Value → Shared → Prop) × (Addr) × (Addr) × (Addr) × (Addr) × (Addr) × (Addr) × (Addr) × (Addr) × (Addr) × (Addr) × (List Value) × (Nat) × (Nat) × (Int) × (Int) => loop2_spec_St (v.1) (v.2.1) (v.2.2.1) (v.2.2.2.1) (v.2.2.2.2.1) (v.2.2.2.2.2.1) (v.2.2.2.2.2.2.1) (v.2.2.2.2.2.2.2.1) (v.2.2.2.2.2.2.2.2.1) (v.2.2.2.2.2.2.2.2.2.1) (v.2.2.2.2.2.2.2.2.2.2.1) (v.2.2.2.2.2.2.2.2.2.2.2.1) (v.2.2.2.2.2.2.2.2.2.2.2.2.1) (v.2.2.2.2.2.2.2.2.2.2.2.2.2.1) (v.2.2.2.2.2.2.2.2.2.2.2.2.2.2.1) (v.2.2.2.2.2.2.2.2.2.2.2.2.2.2.2.1) (v.2.2.2.2.2.2.2.2.2.2.2.2.2.2.2.2.1) (v.2.2.2.2.2.2.2.2.2.2.2.2.2.2.2.2.2.1) (v.2.2.2.2.2.2.2.2.2.2.2.2.2.2.2.2.2.2.1) (v.2.2.2.2.2.2.2.2.2.2.2.2.2.2.2.2.2.2.2.1) (v.2.2.2.2.2.2.2.2.2.2.2.2.2.2.2.2.2.2.2.2.1) (v.2.2.2.2.2.2.2.2.2.2.2.2.2.2.2.2.2.2.2.2.2.1) (v.2.2.2.2.2.2.2.2.2.2.2.2.2.2.2.2.2.2.2.2.2.2.1) (v.2.2.2.2.2.2.2.2.2.2.2.2.2.2.2.2.2.2.2.2.2.2.2.1) (v.2.2.2.2.2.2.2.2.2.2.2.2.2.2.2.2.2.2.2.2.2.2.2.2.1) (v.2.2.2.2.2.2.2.2.2.2.2.2.2.2.2.2.2.2.2.2.2.2.2.2.2.1) (v.2.2.2.2.2.2.2.2.2.2.2.2.2.2.2.2.2.2.2.2.2.2.2.2.2.2.1) (v.2.2.2.2.2.2.2.2.2.2.2.2.2.2.2.2.2.2.2.2.2.2.2.2.2.2.2.1) (v.2.2.2.2.2.2.2.2.2.2.2.2.2.2.2.2.2.2.2.2.2.2.2.2.2.2.2.2.1) (v.2.2.2.2.2.2.2.2.2.2.2.2.2.2.2.2.2.2.2.2.2.2.2.2.2.2.2.2.2.1) (v.2.2.2.2.2.2.2.2.2.2.2.2.2.2.2.2.2.2.2.2.2.2.2.2.2.2.2.2.2.2.1) (v.2.2.2.2.2.2.2.2.2.2.2.2.2.2.2.2.2.2.2.2.2.2.2.2.2.2.2.2.2.2.2.1) (v.2.2.2.2.2.2.2.2.2.2.2.2.2.2.2.2.2.2.2.2.2.2.2.2.2.2.2.2.2.2.2.2)) 0
theorem zal (h : loop2_spec_St (zcv.1) (zcv.2.1) (zcv.2.2.1) (zcv.2.2.2.1) (zcv.2.2.2.2.1) (zcv.2.2.2.2.2.1) (zcv.2.2.2.2.2.2.1) (zcv.2.2.2.2.2.2.2.1) (zcv.2.2.2.2.2.2.2.2.1) (zcv.2.2.2.2.2.2.2.2.2.1) (zcv.2.2.2.2.2.2.2.2.2.2.1) (zcv.2.2.2.2.2.2.2.2.2.2.2.1) (zcv.2.2.2.2.2.2.2.2.2.2.2.2.1) (zcv.2.2.2.2.2.2.2.2.2.2.2.2.2.1) (zcv.2.2.2.2.2.2.2.2.2.2.2.2.2.2.1) (zcv.2.2.2.2.2.2.2.2.2.2.2.2.2.2.2.1) (zcv.2.2.2.2.2.2.2.2.2.2.2.2.2.2.2.2.1) (zcv.2.2.2.2.2.2.2.2.2.2.2.2.2.2.2.2.2.1) (zcv.2.2.2.2.2.2.2.2.2.2.2.2.2.2.2.2.2.2.1) (zcv.2.2.2.2.2.2.2.2.2.2.2.2.2.2.2.2.2.2.2.1) (zcv.2.2.2.2.2.2.2.2.2.2.2.2.2.2.2.2.2.2.2.2.1) (zcv.2.2.2.2.2.2.2.2.2.2.2.2.2.2.2.2.2.2.2.2.2.1) (zcv.2.2.2.2.2.2.2.2.2.2.2.2.2.2.2.2.2.2.2.2.2.2.1) (zcv.2.2.2.2.2.2.2.2.2.2.2.2.2.2.2.2.2.2.2.2.2.2.2.1) (zcv.2.2.2.2.2.2.2.2.2.2.2.2.2.2.2.2.2.2.2.2.2.2.2.2.1) (zcv.2.2.2.2.2.2.2.2.2.2.2.2.2.2.2.2.2.2.2.2.2.2.2.2.2.1) (zcv.2.2.2.2.2.2.2.2.2.2.2.2.2.2.2.2.2.2.2.2.2.2.2.2.2.2.1) (zcv.2.2.2.2.2.2.2.2.2.2.2.2.2.2.2.2.2.2.2.2.2.2.2.2.2.2.2.1) (zcv.2.2.2.2.2.2.2.2.2.2.2.2.2.2.2.2.2.2.2.2.2.2.2.2.2.2.2.2.1) (zcv.2.2.2.2.2.2.2.2.2.2.2.2.2.2.2.2.2.2.2.2.2.2.2.2.2.2.2.2.2.1) (zcv.2.2.2.2.2.2.2.2.2.2.2.2.2.2.2.2.2.2.2.2.2.2.2.2.2.2.2.2.2.2.1) (zcv.2.2.2.2.2.2.2.2.2.2.2.2.2.2.2.2.2.2.2.2.2.2.2.2.2.2.2.2.2.2.2.1) (zcv.2.2.2.2.2.2.2.2.2.2.2.2.2.2.2.2.2.2.2.2.2.2.2.2.2.2.2.2.2.2.2.2)) : ∀ u : (World) × (Program) × (List Str) × (ExcName → Option Value) × (Str → Option Value) × (Str → Option Value) × (Nat) × (Nat) × (Option (List Code)) × (Addr) × (Around) × (Heap) × (Heap) × (Addr) × (Str → Option Value) × (Shared) × (Flow → Shared → Prop) × (Value → Shared → Prop) × (Addr) × (Addr) × (Addr) × (Addr) × (Addr) × (Addr) × (Addr) × (Addr) × (Addr) × (Addr) × (List Value) × (Nat) × (Nat) × (Int) × (Int), loop2_spec_St (u.1) (u.2.1) (u.2.2.1) (u.2.2.2.1) (u.2.2.2.2.1) (u.2.2.2.2.2.1) (u.2.2.2.2.2.2.1) (u.2.2.2.2.2.2.2.1) (u.2.2.2.2.2.2.2.2.1) (u.2.2.2.2.2.2.2.2.2.1) (u.2.2.2.2.2.2.2.2.2.2.1) (u.2.2.2.2.2.2.2.2.2.2.2.1) (u.2.2.2.2.2.2.2.2.2.2.2.2.1) (u.2.2.2.2.2.2.2.2.2.2.2.2.2.1) (u.2.2.2.2.2.2.2.2.2.2.2.2.2.2.1) (u.2.2.2.2.2.2.2.2.2.2.2.2.2.2.2.1) (u.2.2.2.2.2.2.2.2.2.2.2.2.2.2.2.2.1) (u.2.2.2.2.2.2.2.2.2.2.2.2.2.2.2.2.2.1) (u.2.2.2.2.2.2.2.2.2.2.2.2.2.2.2.2.2.2.1) (u.2.2.2.2.2.2.2.2.2.2.2.2.2.2.2.2.2.2.2.1) (u.2.2.2.2.2.2.2.2.2.2.2.2.2.2.2.2.2.2.2.2.1) (u.2.2.2.2.2.2.2.2.2.2.2.2.2.2.2.2.2.2.2.2.2.1) (u.2.2.2.2.2.2.2.2.2.2.2.2.2.2.2.2.2.2.2.2.2.2.1) (u.2.2.2.2.2.2.2.2.2.2.2.2.2.2.2.2.2.2.2.2.2.2.2.1) (u.2.2.2.2.2.2.2.2.2.2.2.2.2.2.2.2.2.2.2.2.2.2.2.2.1) (u.2.2.2.2.2.2.2.2.2.2.2.2.2.2.2.2.2.2.2.2.2.2.2.2.2.1) (u.2.2.2.2.2.2.2.2.2.2.2.2.2.2.2.2.2.2.2.2.2.2.2.2.2.2.1) (u.2.2.2.2.2.2.2.2.2.2.2.2.2.2.2.2.2.2.2.2.2.2.2.2.2.2.2.1) (u.2.2.2.2.2.2.2.2.2.2.2.2.2.2.2.2.2.2.2.2.2.2.2.2.2.2.2.2.1) (u.2.2.2.2.2.2.2.2.2.2.2.2.2.2.2.2.2.2.2.2.2.2.2.2.2.2.2.2.2.1) (u.2.2.2.2.2.2.2.2.2.2.2.2.2.2.2.2.2.2.2.2.2.2.2.2.2.2.2.2.2.2.1) (u.2.2.2.2.2.2.2.2.2.2.2.2.2.2.2.2.2.2.2.2.2.2.2.2.2.2.2.2.2.2.2.1) (u.2.2.2.2.2.2.2.2.2.2.2.2.2.2.2.2.2.2.2.2.2.2.2.2.2.2.2.2.2.2.2.2) := pick_all (P := fun v : (World) × (Program) × (List Str) × (ExcName → Option Value) × (Str → Option Value) × (Str → Option Value) × (Nat) × (Nat) × (Option (List Code)) × (Addr) × (Around) × (Heap) × (Heap) × (Addr) × (Str → Option Value) × (Shared) × (Flow → Shared → Prop) × (Value → Shared → Prop) × (Addr) × (Addr) × (Addr) × (Addr) × (Addr) × (Addr) × (Addr) × (Addr) × (Addr) × (Addr) × (List Value) × (Nat) × (Nat) × (Int) × (Int) => loop2_spec_St (v.1) (v.2.1) (v.2.2.1) (v.2.2.2.1) (v.2.2.2.2.1) (v.2.2.2.2.2.1) (v.2.2.2.2.2.2.1) (v.2.2.2.2.2.2.2.1) (v.2.2.2.2.2.2.2.2.1) (v.2.2.2.2.2.2.2.2.2.1) (v.2.2.2.2.2.2.2.2.2.2.1) (v.2.2.2.2.2.2.2.2.2.2.2.1) (v.2.2.2.2.2.2.2.2.2.2.2.2.1) (v.2.2.2.2.2.2.2.2.2.2.2.2.2.1) (v.2.2.2.2.2.2.2.2.2.2.2.2.2.2.1) (v.2.2.2.2.2.2.2.2.2.2.2.2.2.2.2.1) (v.2.2.2.2.2.2.2.2.2.2.2.2.2.2.2.2.1) (v.2.2.2.2.2.2.2.2.2.2.2.2.2.2.2.2.2.1) (v.2.2.2.2.2.2.2.2.2.2.2.2.2.2.2.2.2.2.1) (v.2.2.2.2.2.2.2.2.2.2.2.2.2.2.2.2.2.2.2.1) (v.2.2.2.2.2.2.2.2.2.2.2.2.2.2.2.2.2.2.2.2.1) (v.2.2.2.2.2.2.2.2.2.2.2.2.2.2.2.2.2.2.2.2.2.1) (v.2.2.2.2.2.2.2.2.2.2.2.2.2.2.2.2.2.2.2.2.2.2.1) (v.2.2.2.2.2.2.2.2.2.2.2.2.2.2.2.2.2.2.2.2.2.2.2.1) (v.2.2.2.2.2.2.2.2.2.2.2.2.2.2.2.2.2.2.2.2.2.2.2.2.1) (v.2.2.2.2.2.2.2.2.2.2.2.2.2.2.2.2.2.2.2.2.2.2.2.2.2.1) (v.2.2.2.2.2.2.2.2.2.2.2.2.2.2.2.2.2.2.2.2.2.2.2.2.2.2.1) (v.2.2.2.2.2.2.2.2.2.2.2.2.2.2.2.2.2.2.2.2.2.2.2.2.2.2.2.1) (v.2.2.2.2.2.2.2.2.2.2.2.2.2.2.2.2.2.2.2.2.2.2.2.2.2.2.2.2.1) (v.2.2.2.2.2.2.2.2.2.2.2.2.2.2.2.2.2.2.2.2.2.2.2.2.2.2.2.2.2.1) (v.2.2.2.2.2.2.2.2.2.2.2.2.2.2.2.2.2.2.2.2.2.2.2.2.2.2.2.2.2.2.1) (v.2.2.2.2.2.2.2.2.2.2.2.2.2.2.2.2.2.2.2.2.2.2.2.2.2.2.2.2.2.2.2.1) (v.2.2.2.2.2.2.2.2.2.2.2.2.2.2.2.2.2.2.2.2.2.2.2.2.2.2.2.2.2.2.2.2)) h
noncomputable def w : World := zcv.1
noncomputable def p : Program := zcv.2.1
noncomputable def loose : List Str := zcv.2.2.1
noncomputable def mean : ExcName → Option Value := zcv.2.2.2.1
noncomputable def mg : Str → Option Value := zcv.2.2.2.2.1
noncomputable def mb : Str → Option Value := zcv.2.2.2.2.2.1
noncomputable def dp : Nat := zcv.2.2.2.2.2.2.1
noncomputable def un : Nat := zcv.2.2.2.2.2.2.2.1
noncomputable def gd : Option (List Code) := zcv.2.2.2.2.2.2.2.2.1
noncomputable def a : Addr := zcv.2.2.2.2.2.2.2.2.2.1
noncomputable def A₀ : Around := zcv.2.2.2.2.2.2.2.2.2.2.1
noncomputable def base : Heap := zcv.2.2.2.2.2.2.2.2.2.2.2.1
noncomputable def h₀ : Heap := zcv.2.2.2.2.2.2.2.2.2.2.2.2.1
noncomputable def L : Addr := zcv.2.2.2.2.2.2.2.2.2.2.2.2.2.1
noncomputable def m : Str → Option Value := zcv.2.2.2.2.2.2.2.2.2.2.2.2.2.2.1
noncomputable def s : Shared := zcv.2.2.2.2.2.2.2.2.2.2.2.2.2.2.2.1
noncomputable def Q : Flow → Shared → Prop := zcv.2.2.2.2.2.2.2.2.2.2.2.2.2.2.2.2.1
noncomputable def E : Value → Shared → Prop := zcv.2.2.2.2.2.2.2.2.2.2.2.2.2.2.2.2.2.1
noncomputable def nowl : Addr := zcv.2.2.2.2.2.2.2.2.2.2.2.2.2.2.2.2.2.2.1
noncomputable def st : Addr := zcv.2.2.2.2.2.2.2.2.2.2.2.2.2.2.2.2.2.2.2.1
noncomputable def S : Addr := zcv.2.2.2.2.2.2.2.2.2.2.2.2.2.2.2.2.2.2.2.2.1
noncomputable def X : Addr := zcv.2.2.2.2.2.2.2.2.2.2.2.2.2.2.2.2.2.2.2.2.2.1
noncomputable def V : Addr := zcv.2.2.2.2.2.2.2.2.2.2.2.2.2.2.2.2.2.2.2.2.2.2.1
noncomputable def clk : Addr := zcv.2.2.2.2.2.2.2.2.2.2.2.2.2.2.2.2.2.2.2.2.2.2.2.1
noncomputable def lim : Addr := zcv.2.2.2.2.2.2.2.2.2.2.2.2.2.2.2.2.2.2.2.2.2.2.2.2.1
noncomputable def fix : Addr := zcv.2.2.2.2.2.2.2.2.2.2.2.2.2.2.2.2.2.2.2.2.2.2.2.2.2.1
noncomputable def mov : Addr := zcv.2.2.2.2.2.2.2.2.2.2.2.2.2.2.2.2.2.2.2.2.2.2.2.2.2.2.1
noncomputable def rA : Addr := zcv.2.2.2.2.2.2.2.2.2.2.2.2.2.2.2.2.2.2.2.2.2.2.2.2.2.2.2.1
noncomputable def rv : List Value := zcv.2.2.2.2.2.2.2.2.2.2.2.2.2.2.2.2.2.2.2.2.2.2.2.2.2.2.2.2.1
noncomputable def kr : Nat := zcv.2.2.2.2.2.2.2.2.2.2.2.2.2.2.2.2.2.2.2.2.2.2.2.2.2.2.2.2.2.1
noncomputable def i₀ : Nat := zcv.2.2.2.2.2.2.2.2.2.2.2.2.2.2.2.2.2.2.2.2.2.2.2.2.2.2.2.2.2.2.1
noncomputable def amount : Int := zcv.2.2.2.2.2.2.2.2.2.2.2.2.2.2.2.2.2.2.2.2.2.2.2.2.2.2.2.2.2.2.2.1
noncomputable def many : Int := zcv.2.2.2.2.2.2.2.2.2.2.2.2.2.2.2.2.2.2.2.2.2.2.2.2.2.2.2.2.2.2.2.2
theorem walk1 : loop2_spec_St w p loose mean mg mb dp un gd a A₀ base h₀ L m s Q E nowl st S X V clk lim fix mov rA rv kr i₀ amount many := by
  intro nw B KX T LA F N hi ham hmany hd hu done
  have mkp : Mk 153 := trivial
  refine wpAny_mono (E := fun _ _ => False) (lower ?_ hd hu) (fun _ _ x => x) (fun _ _ e => e.elim)
  have e1 : for2 = for2 := rfl
  conv at e1 => rhs; whnf
  have e2 : turnBody2 = turnBody2 := rfl
  conv at e2 => rhs; whnf
  have e3 : turnTarget2 = turnTarget2 := rfl
  conv at e3 => rhs; whnf
  have e4 : lawScope = lawScope := rfl
  conv at e4 => rhs; whnf
  rw [e1]
  have dV : ∀ I : Addr, (∀ p ∈ nw, @LT.lt Nat _ p.1 I) → @LT.lt Nat _ V I := fun I h => by
    obtain ⟨lgA, vs, kl, lr, t, tt, cwo, vcw, oS, oX, oV, ps, f, x, evs, nS, nX, nV, z, rest, rfl, _⟩ := LA
    exact h (V, oV) (by k_mem)
  rw [e4]
  refine For_turns F ?_
  revert KX; k_fill; intro KX
  k_steps
  refine Held.in ?_
  refine turns_range (n := 6) (fun i m' nw' => LawAt w amount many L st S X V clk lim fix mov nowl rA rv kr (i₀ + i) m' nw') rfl (by assumption) (by decide) (by decide) (by assumption) (by assumption) LA ?_ ?_
  · intro i t m₁ news₁ h tk I oI hi6 hJ off lt F₁ N₁
    have q := turn2_spec (p := p) (loose := loose) (mean := mean) (mg := mg) (mb := mb) (gd := gd) (a := a) (Q := Q) (E := fun _ _ => False) (tw := t) (wh := (i : Int)) B KX T (s := { s with heap := h, toks := tk }) hJ off (dV I lt) F₁ N₁ ⟨by omega, by omega⟩ (by omega) ham hmany
    rw [e2, e3, e4] at q
    rw [show (0 + (i : Int) * 1) = (i : Int) by omega]
    exact q
  · intro m' nw' h tk hJ F' N'
    exact done m' nw' h tk hJ F' N'
end c_loop2_spec
theorem loop2_spec {w : World} {p : Program} {loose : List Str} {mean : ExcName → Option Value} {mg : Str → Option Value} {mb : Str → Option Value} {dp : Nat} {un : Nat} {gd : Option (List Code)} {a : Addr} {A₀ : Around} {base : Heap} {h₀ : Heap} {L : Addr} {m : Str → Option Value} {s : Shared} {Q : Flow → Shared → Prop} {E : Value → Shared → Prop} (B : Below A₀ base [] h₀) (KX : (Mine.hd1.heap_39 w.params).In h₀) (T : Top p loose mean mg mb h₀) {nowl : Addr} {st : Addr} {S : Addr} {X : Addr} {V : Addr} {clk : Addr} {lim : Addr} {fix : Addr} {mov : Addr} {rA : Addr} {rv : List Value} {kr : Nat} {i₀ : Nat} {amount : Int} {many : Int} {nw : List (Addr × Obj)} (LA : LawAt w amount many L st S X V clk lim fix mov nowl rA rv kr i₀ m nw) (F : Fr h₀ L s.heap m) (N : News h₀ L s.heap nw) (hi : i₀ ≤ 20) (ham : 0 ≤ amount ∧ amount < 8) (hmany : 1 ≤ many ∧ many ≤ 9) (hd : dp ≤ 820) (hu : un ≤ 8200) (done : ∀ m' nw' h' tk', LawAt w amount many L st S X V clk lim fix mov nowl rA rv kr (i₀ + 6) m' nw' → Fr h₀ L h' m' → News h₀ L h' nw' → Q .next { s with heap := h', toks := tk' }) :
    wpAny (model PySem.Challenge.rw_ji0060_01.row.prog w) (ktrTop dp un gd (Str.ofString "law") lawScope L a (.ref 712) (cellsFrom (L + 1) lawScope.names []) []) (exec for2 (envX (Str.ofString "law") lawScope L a (.ref 712) (cellsFrom (L + 1) lawScope.names []))) Q E s :=
  c_loop2_spec.zal c_loop2_spec.walk1 (w, p, loose, mean, mg, mb, dp, un, gd, a, A₀, base, h₀, L, m, s, Q, E, nowl, st, S, X, V, clk, lim, fix, mov, rA, rv, kr, i₀, amount, many) _ B KX T LA F N hi ham hmany hd hu done
section
variable {w : World} {p : Program} {loose : List Str} {mean : ExcName → Option Value} {mg mb : Str → Option Value} {dp un : Nat} {gd : Option (List Code)} {a : Addr} {A₀ : Around} {base h₀ : Heap} {L : Addr} {m : Str → Option Value} {s : Shared} {Q : Flow → Shared → Prop} {E : Value → Shared → Prop}
  (B : Below A₀ base [] h₀) (KX : (Mine.hd1.heap_39 w.params).In h₀) (T : Top p loose mean mg mb h₀)
include B KX T
end
section
variable {w : World} {p : Program} {loose : List Str} {mean : ExcName → Option Value} {mg mb : Str → Option Value} {dp un : Nat} {gd : Option (List Code)} {a : Addr} {A₀ : Around} {base h₀ : Heap} {L : Addr} {m : Str → Option Value} {s : Shared} {Q : Flow → Shared → Prop} {E : Value → Shared → Prop}
  (B : Below A₀ base [] h₀) (KX : (Mine.hd1.heap_39 w.params).In h₀) (T : Top p loose mean mg mb h₀) (XB : (Mine.hd1.heap_39 w.params).In base) (TB : Top p loose mean mg mb base) (CD : CodeHd base 592 588)
include B KX T XB TB CD
end
noncomputable def loop1_spec_St (w : World) (p : Program) (loose : List Str) (mean : ExcName → Option Value) (mg : Str → Option Value) (mb : Str → Option Value) (dp : Nat) (un : Nat) (gd : Option (List Code)) (a : Addr) (A₀ : Around) (base : Heap) (h₀ : Heap) (L : Addr) (m : Str → Option Value) (s : Shared) (Q : Flow → Shared → Prop) (E : Value → Shared → Prop) (nowl : Addr) (st : Addr) (S : Addr) (X : Addr) (V : Addr) (clk : Addr) (lim : Addr) (fix : Addr) (mov : Addr) (rA : Addr) (rv : List Value) (rs : List Int) (kr : Nat) (n : Nat) (amount : Int) (many : Int) : Prop := ∀ (nw : List (Addr × Obj)) (B : Below A₀ base [] h₀) (KX : (Mine.hd1.heap_39 w.params).In h₀) (T : Top p loose mean mg mb h₀) (XB : (Mine.hd1.heap_39 w.params).In base) (TB : Top p loose mean mg mb base) (CD : CodeHd base 592 588) (LA : LawAt w amount many L st S X V clk lim fix mov nowl rA rv kr 0 m nw) (F : Fr h₀ L s.heap m) (N : News h₀ L s.heap nw) (hr : IntsAre rv rs) (hlen : rs.length = 2 * n) (hn : n ≤ 20) (ham : 0 ≤ amount ∧ amount < 8) (hmany : 1 ≤ many ∧ many ≤ 9) (inj : ∀ i n j m, 0 ≤ i → i < 6 → 0 ≤ n → 0 ≤ j → j < 6 → 0 ≤ m → LawK amount many i n = LawK amount many j m → i = j ∧ n = m) (nbs : ∀ i n j, 0 ≤ i → i < 6 → 0 ≤ n → 0 ≤ j → j < 6 → LawK amount many i n ≠ kb amount many j) (hd : dp ≤ 820) (hu : un ≤ 8200) (done : ∀ m' nw' h' tk', LawAt w amount many L st S X V clk lim fix mov nowl rA rv kr n m' nw' → Fr h₀ L h' m' → News h₀ L h' nw' → Q .next { s with heap := h', toks := tk' }), wpAny (model PySem.Challenge.rw_ji0060_01.row.prog w) (ktrTop dp un gd (Str.ofString "law") lawScope L a (.ref 712) (cellsFrom (L + 1) lawScope.names []) []) (exec for1 (envX (Str.ofString "law") lawScope L a (.ref 712) (cellsFrom (L + 1) lawScope.names []))) Q E s
namespace c_loop1_spec
noncomputable def zcv : (World) × (Program) × (List Str) × (ExcName → Option Value) × (Str → Option Value) × (Str → Option Value) × (Nat) × (Nat) × (Option (List Code)) × (Addr) × (Around) × (Heap) × (Heap) × (Addr) × (Str → Option Value) × (Shared) × (Flow → Shared → Prop) × (Value → Shared → Prop) × (Addr) × (Addr) × (Addr) × (Addr) × (Addr) × (Addr) × (Addr) × (Addr) × (Addr) × (Addr) × (List Value) × (List Int) × (Nat) × (Nat) × (Int) × (Int) := pick (neP neW (neP inferInstance (neP inferInstance (neP inferInstance (neP inferInstance (neP inferInstance (neP inferInstance (neP inferInstance (neP inferInstance (neP inferInstance (neP neA (neP inferInstance (neP inferInstance (neP inferInstance (neP inferInstance (neP neS (neP inferInstance (neP inferInstance (neP inferInstance (neP inferInstance (neP inferInstance (neP inferInstance (neP inferInstance (neP inferInstance (neP inferInstance (neP inferInstance (neP inferInstance (neP inferInstance (neP inferInstance (neP inferInstance (neP inferInstance (neP inferInstance (neP inferInstance inferInstance))))))))))))))))))))))))))))))))) (fun v : (World) × (Program) × (List Str) × (ExcName → Option Value) × (Str → Option Value) × (Str → Option Value) × (Nat) × (Nat) × (Option (List Code)) × (Addr) × (Around) × (Heap) × (Heap) × (Addr) × (Str → Option Value) × (Shared) × (Flow → Shared → Prop) × (Value → Shared → Prop) × (Addr) × (Addr) × (Addr) × (Addr) × (Addr) × (Addr) × (Addr) × (Addr) × (Addr) × (Addr) × (List Value) × (List Int) × (Nat) × (Nat) × (Int) × (Int) => loop1_spec_St (v.1) (v.2.1) (v.2.2.1) (v.2.2.2.1) (v.2.2.2.2.1) (v.2.2.2.2.2.1) (v.2.2.2.2.2.2.1) (v.2.2.2.2.2.2.2.1) (v.2.2.2.2.2.2.2.2.1) (v.2.2.2.2.2.2.2.2.2.1) (v.2.2.2.2.2.2.2.2.2.2.1) (v.2.2.2.2.2.2.2.2.2.2.2.1) (v.2.2.2.2.2.2.2.2.2.2.2.2.1) (v.2.2.2.2.2.2.2.2.2.2.2.2.2.1) (v.2.2.2.2.2.2.2.2.2.2.2.2.2.2.1) (v.2.2.2.2.2.2.2.2.2.2.2.2.2.2.2.1) (v.2.2.2.2.2.2.2.2.2.2.2.2.2.2.2.2.1) (v.2.2.2.2.2.2.2.2.2.2.2.2.2.2.2.2.2.1) (v.2.2.2.2.2.2.2.2.2.2.2.2.2.2.2.2.2.2.1) (v.2.2.2.2.2.2.2.2.2.2.2.2.2.2.2.2.2.2.2.1) (v.2.2.2.2.2.2.2.2.2.2.2.2.2.2.2.2.2.2.2.2.1) (v.2.2.2.2.2.2.2.2.2.2.2.2.2.2.2.2.2.2.2.2.2.1) (v.2.2.2.2.2.2.2.2.2.2.2.2.2.2.2.2.2.2.2.2.2.2.1) (v.2.2.2.2.2.2.2.2.2.2.2.2.2.2.2.2.2.2.2.2.2.2.2.1) (v.2.2.2.2.2.2.2.2.2.2.2.2.2.2.2.2.2.2.2.2.2.2.2.2.1) (v.2.2.2.2.2.2.2.2.2.2.2.2.2.2.2.2.2.2.2.2.2.2.2.2.2.1) (v.2.2.2.2.2.2.2.2.2.2.2.2.2.2.2.2.2.2.2.2.2.2.2.2.2.2.1) (v.2.2.2.2.2.2.2.2.2.2.2.2.2.2.2.2.2.2.2.2.2.2.2.2.2.2.2.1) (v.2.2.2.2.2.2.2.2.2.2.2.2.2.2.2.2.2.2.2.2.2.2.2.2.2.2.2.2.1) (v.2.2.2.2.2.2.2.2.2.2.2.2.2.2.2.2.2.2.2.2.2.2.2.2.2.2.2.2.2.1) (v.2.2.2.2.2.2.2.2.2.2.2.2.2.2.2.2.2.2.2.2.2.2.2.2.2.2.2.2.2.2.1) (v.2.2.2.2.2.2.2.2.2.2.2.2.2.2.2.2.2.2.2.2.2.2.2.2.2.2.2.2.2.2.2.1) (v.2.2.2.2.2.2.2.2.2.2.2.2.2.2.2.2.2.2.2.2.2.2.2.2.2.2.2.2.2.2.2.2.1) (v.2.2.2.2.2.2.2.2.2.2.2.2.2.2.2.2.2.2.2.2.2.2.2.2.2.2.2.2.2.2.2.2.2)) 0
theorem zal (h : loop1_spec_St (zcv.1) (zcv.2.1) (zcv.2.2.1) (zcv.2.2.2.1) (zcv.2.2.2.2.1) (zcv.2.2.2.2.2.1) (zcv.2.2.2.2.2.2.1) (zcv.2.2.2.2.2.2.2.1) (zcv.2.2.2.2.2.2.2.2.1) (zcv.2.2.2.2.2.2.2.2.2.1) (zcv.2.2.2.2.2.2.2.2.2.2.1) (zcv.2.2.2.2.2.2.2.2.2.2.2.1) (zcv.2.2.2.2.2.2.2.2.2.2.2.2.1) (zcv.2.2.2.2.2.2.2.2.2.2.2.2.2.1) (zcv.2.2.2.2.2.2.2.2.2.2.2.2.2.2.1) (zcv.2.2.2.2.2.2.2.2.2.2.2.2.2.2.2.1) (zcv.2.2.2.2.2.2.2.2.2.2.2.2.2.2.2.2.1) (zcv.2.2.2.2.2.2.2.2.2.2.2.2.2.2.2.2.2.1) (zcv.2.2.2.2.2.2.2.2.2.2.2.2.2.2.2.2.2.2.1) (zcv.2.2.2.2.2.2.2.2.2.2.2.2.2.2.2.2.2.2.2.1) (zcv.2.2.2.2.2.2.2.2.2.2.2.2.2.2.2.2.2.2.2.2.1) (zcv.2.2.2.2.2.2.2.2.2.2.2.2.2.2.2.2.2.2.2.2.2.1) (zcv.2.2.2.2.2.2.2.2.2.2.2.2.2.2.2.2.2.2.2.2.2.2.1) (zcv.2.2.2.2.2.2.2.2.2.2.2.2.2.2.2.2.2.2.2.2.2.2.2.1) (zcv.2.2.2.2.2.2.2.2.2.2.2.2.2.2.2.2.2.2.2.2.2.2.2.2.1) (zcv.2.2.2.2.2.2.2.2.2.2.2.2.2.2.2.2.2.2.2.2.2.2.2.2.2.1) (zcv.2.2.2.2.2.2.2.2.2.2.2.2.2.2.2.2.2.2.2.2.2.2.2.2.2.2.1) (zcv.2.2.2.2.2.2.2.2.2.2.2.2.2.2.2.2.2.2.2.2.2.2.2.2.2.2.2.1) (zcv.2.2.2.2.2.2.2.2.2.2.2.2.2.2.2.2.2.2.2.2.2.2.2.2.2.2.2.2.1) (zcv.2.2.2.2.2.2.2.2.2.2.2.2.2.2.2.2.2.2.2.2.2.2.2.2.2.2.2.2.2.1) (zcv.2.2.2.2.2.2.2.2.2.2.2.2.2.2.2.2.2.2.2.2.2.2.2.2.2.2.2.2.2.2.1) (zcv.2.2.2.2.2.2.2.2.2.2.2.2.2.2.2.2.2.2.2.2.2.2.2.2.2.2.2.2.2.2.2.1) (zcv.2.2.2.2.2.2.2.2.2.2.2.2.2.2.2.2.2.2.2.2.2.2.2.2.2.2.2.2.2.2.2.2.1) (zcv.2.2.2.2.2.2.2.2.2.2.2.2.2.2.2.2.2.2.2.2.2.2.2.2.2.2.2.2.2.2.2.2.2)) : ∀ u : (World) × (Program) × (List Str) × (ExcName → Option Value) × (Str → Option Value) × (Str → Option Value) × (Nat) × (Nat) × (Option (List Code)) × (Addr) × (Around) × (Heap) × (Heap) × (Addr) × (Str → Option Value) × (Shared) × (Flow → Shared → Prop) × (Value → Shared → Prop) × (Addr) × (Addr) × (Addr) × (Addr) × (Addr) × (Addr) × (Addr) × (Addr) × (Addr) × (Addr) × (List Value) × (List Int) × (Nat) × (Nat) × (Int) × (Int), loop1_spec_St (u.1) (u.2.1) (u.2.2.1) (u.2.2.2.1) (u.2.2.2.2.1) (u.2.2.2.2.2.1) (u.2.2.2.2.2.2.1) (u.2.2.2.2.2.2.2.1) (u.2.2.2.2.2.2.2.2.1) (u.2.2.2.2.2.2.2.2.2.1) (u.2.2.2.2.2.2.2.2.2.2.1) (u.2.2.2.2.2.2.2.2.2.2.2.1) (u.2.2.2.2.2.2.2.2.2.2.2.2.1) (u.2.2.2.2.2.2.2.2.2.2.2.2.2.1) (u.2.2.2.2.2.2.2.2.2.2.2.2.2.2.1) (u.2.2.2.2.2.2.2.2.2.2.2.2.2.2.2.1) (u.2.2.2.2.2.2.2.2.2.2.2.2.2.2.2.2.1) (u.2.2.2.2.2.2.2.2.2.2.2.2.2.2.2.2.2.1) (u.2.2.2.2.2.2.2.2.2.2.2.2.2.2.2.2.2.2.1) (u.2.2.2.2.2.2.2.2.2.2.2.2.2.2.2.2.2.2.2.1) (u.2.2.2.2.2.2.2.2.2.2.2.2.2.2.2.2.2.2.2.2.1) (u.2.2.2.2.2.2.2.2.2.2.2.2.2.2.2.2.2.2.2.2.2.1) (u.2.2.2.2.2.2.2.2.2.2.2.2.2.2.2.2.2.2.2.2.2.2.1) (u.2.2.2.2.2.2.2.2.2.2.2.2.2.2.2.2.2.2.2.2.2.2.2.1) (u.2.2.2.2.2.2.2.2.2.2.2.2.2.2.2.2.2.2.2.2.2.2.2.2.1) (u.2.2.2.2.2.2.2.2.2.2.2.2.2.2.2.2.2.2.2.2.2.2.2.2.2.1) (u.2.2.2.2.2.2.2.2.2.2.2.2.2.2.2.2.2.2.2.2.2.2.2.2.2.2.1) (u.2.2.2.2.2.2.2.2.2.2.2.2.2.2.2.2.2.2.2.2.2.2.2.2.2.2.2.1) (u.2.2.2.2.2.2.2.2.2.2.2.2.2.2.2.2.2.2.2.2.2.2.2.2.2.2.2.2.1) (u.2.2.2.2.2.2.2.2.2.2.2.2.2.2.2.2.2.2.2.2.2.2.2.2.2.2.2.2.2.1) (u.2.2.2.2.2.2.2.2.2.2.2.2.2.2.2.2.2.2.2.2.2.2.2.2.2.2.2.2.2.2.1) (u.2.2.2.2.2.2.2.2.2.2.2.2.2.2.2.2.2.2.2.2.2.2.2.2.2.2.2.2.2.2.2.1) (u.2.2.2.2.2.2.2.2.2.2.2.2.2.2.2.2.2.2.2.2.2.2.2.2.2.2.2.2.2.2.2.2.1) (u.2.2.2.2.2.2.2.2.2.2.2.2.2.2.2.2.2.2.2.2.2.2.2.2.2.2.2.2.2.2.2.2.2) := pick_all (P := fun v : (World) × (Program) × (List Str) × (ExcName → Option Value) × (Str → Option Value) × (Str → Option Value) × (Nat) × (Nat) × (Option (List Code)) × (Addr) × (Around) × (Heap) × (Heap) × (Addr) × (Str → Option Value) × (Shared) × (Flow → Shared → Prop) × (Value → Shared → Prop) × (Addr) × (Addr) × (Addr) × (Addr) × (Addr) × (Addr) × (Addr) × (Addr) × (Addr) × (Addr) × (List Value) × (List Int) × (Nat) × (Nat) × (Int) × (Int) => loop1_spec_St (v.1) (v.2.1) (v.2.2.1) (v.2.2.2.1) (v.2.2.2.2.1) (v.2.2.2.2.2.1) (v.2.2.2.2.2.2.1) (v.2.2.2.2.2.2.2.1) (v.2.2.2.2.2.2.2.2.1) (v.2.2.2.2.2.2.2.2.2.1) (v.2.2.2.2.2.2.2.2.2.2.1) (v.2.2.2.2.2.2.2.2.2.2.2.1) (v.2.2.2.2.2.2.2.2.2.2.2.2.1) (v.2.2.2.2.2.2.2.2.2.2.2.2.2.1) (v.2.2.2.2.2.2.2.2.2.2.2.2.2.2.1) (v.2.2.2.2.2.2.2.2.2.2.2.2.2.2.2.1) (v.2.2.2.2.2.2.2.2.2.2.2.2.2.2.2.2.1) (v.2.2.2.2.2.2.2.2.2.2.2.2.2.2.2.2.2.1) (v.2.2.2.2.2.2.2.2.2.2.2.2.2.2.2.2.2.2.1) (v.2.2.2.2.2.2.2.2.2.2.2.2.2.2.2.2.2.2.2.1) (v.2.2.2.2.2.2.2.2.2.2.2.2.2.2.2.2.2.2.2.2.1) (v.2.2.2.2.2.2.2.2.2.2.2.2.2.2.2.2.2.2.2.2.2.1) (v.2.2.2.2.2.2.2.2.2.2.2.2.2.2.2.2.2.2.2.2.2.2.1) (v.2.2.2.2.2.2.2.2.2.2.2.2.2.2.2.2.2.2.2.2.2.2.2.1) (v.2.2.2.2.2.2.2.2.2.2.2.2.2.2.2.2.2.2.2.2.2.2.2.2.1) (v.2.2.2.2.2.2.2.2.2.2.2.2.2.2.2.2.2.2.2.2.2.2.2.2.2.1) (v.2.2.2.2.2.2.2.2.2.2.2.2.2.2.2.2.2.2.2.2.2.2.2.2.2.2.1) (v.2.2.2.2.2.2.2.2.2.2.2.2.2.2.2.2.2.2.2.2.2.2.2.2.2.2.2.1) (v.2.2.2.2.2.2.2.2.2.2.2.2.2.2.2.2.2.2.2.2.2.2.2.2.2.2.2.2.1) (v.2.2.2.2.2.2.2.2.2.2.2.2.2.2.2.2.2.2.2.2.2.2.2.2.2.2.2.2.2.1) (v.2.2.2.2.2.2.2.2.2.2.2.2.2.2.2.2.2.2.2.2.2.2.2.2.2.2.2.2.2.2.1) (v.2.2.2.2.2.2.2.2.2.2.2.2.2.2.2.2.2.2.2.2.2.2.2.2.2.2.2.2.2.2.2.1) (v.2.2.2.2.2.2.2.2.2.2.2.2.2.2.2.2.2.2.2.2.2.2.2.2.2.2.2.2.2.2.2.2.1) (v.2.2.2.2.2.2.2.2.2.2.2.2.2.2.2.2.2.2.2.2.2.2.2.2.2.2.2.2.2.2.2.2.2)) h
noncomputable def w : World := zcv.1
noncomputable def p : Program := zcv.2.1
noncomputable def loose : List Str := zcv.2.2.1
noncomputable def mean : ExcName → Option Value := zcv.2.2.2.1
noncomputable def mg : Str → Option Value := zcv.2.2.2.2.1
noncomputable def mb : Str → Option Value := zcv.2.2.2.2.2.1
noncomputable def dp : Nat := zcv.2.2.2.2.2.2.1
noncomputable def un : Nat := zcv.2.2.2.2.2.2.2.1
noncomputable def gd : Option (List Code) := zcv.2.2.2.2.2.2.2.2.1
noncomputable def a : Addr := zcv.2.2.2.2.2.2.2.2.2.1
noncomputable def A₀ : Around := zcv.2.2.2.2.2.2.2.2.2.2.1
noncomputable def base : Heap := zcv.2.2.2.2.2.2.2.2.2.2.2.1
noncomputable def h₀ : Heap := zcv.2.2.2.2.2.2.2.2.2.2.2.2.1
noncomputable def L : Addr := zcv.2.2.2.2.2.2.2.2.2.2.2.2.2.1
noncomputable def m : Str → Option Value := zcv.2.2.2.2.2.2.2.2.2.2.2.2.2.2.1
noncomputable def s : Shared := zcv.2.2.2.2.2.2.2.2.2.2.2.2.2.2.2.1
noncomputable def Q : Flow → Shared → Prop := zcv.2.2.2.2.2.2.2.2.2.2.2.2.2.2.2.2.1
noncomputable def E : Value → Shared → Prop := zcv.2.2.2.2.2.2.2.2.2.2.2.2.2.2.2.2.2.1
noncomputable def nowl : Addr := zcv.2.2.2.2.2.2.2.2.2.2.2.2.2.2.2.2.2.2.1
noncomputable def st : Addr := zcv.2.2.2.2.2.2.2.2.2.2.2.2.2.2.2.2.2.2.2.1
noncomputable def S : Addr := zcv.2.2.2.2.2.2.2.2.2.2.2.2.2.2.2.2.2.2.2.2.1
noncomputable def X : Addr := zcv.2.2.2.2.2.2.2.2.2.2.2.2.2.2.2.2.2.2.2.2.2.1
noncomputable def V : Addr := zcv.2.2.2.2.2.2.2.2.2.2.2.2.2.2.2.2.2.2.2.2.2.2.1
noncomputable def clk : Addr := zcv.2.2.2.2.2.2.2.2.2.2.2.2.2.2.2.2.2.2.2.2.2.2.2.1
noncomputable def lim : Addr := zcv.2.2.2.2.2.2.2.2.2.2.2.2.2.2.2.2.2.2.2.2.2.2.2.2.1
noncomputable def fix : Addr := zcv.2.2.2.2.2.2.2.2.2.2.2.2.2.2.2.2.2.2.2.2.2.2.2.2.2.1
noncomputable def mov : Addr := zcv.2.2.2.2.2.2.2.2.2.2.2.2.2.2.2.2.2.2.2.2.2.2.2.2.2.2.1
noncomputable def rA : Addr := zcv.2.2.2.2.2.2.2.2.2.2.2.2.2.2.2.2.2.2.2.2.2.2.2.2.2.2.2.1
noncomputable def rv : List Value := zcv.2.2.2.2.2.2.2.2.2.2.2.2.2.2.2.2.2.2.2.2.2.2.2.2.2.2.2.2.1
noncomputable def rs : List Int := zcv.2.2.2.2.2.2.2.2.2.2.2.2.2.2.2.2.2.2.2.2.2.2.2.2.2.2.2.2.2.1
noncomputable def kr : Nat := zcv.2.2.2.2.2.2.2.2.2.2.2.2.2.2.2.2.2.2.2.2.2.2.2.2.2.2.2.2.2.2.1
noncomputable def n : Nat := zcv.2.2.2.2.2.2.2.2.2.2.2.2.2.2.2.2.2.2.2.2.2.2.2.2.2.2.2.2.2.2.2.1
noncomputable def amount : Int := zcv.2.2.2.2.2.2.2.2.2.2.2.2.2.2.2.2.2.2.2.2.2.2.2.2.2.2.2.2.2.2.2.2.1
noncomputable def many : Int := zcv.2.2.2.2.2.2.2.2.2.2.2.2.2.2.2.2.2.2.2.2.2.2.2.2.2.2.2.2.2.2.2.2.2
theorem walk1 : loop1_spec_St w p loose mean mg mb dp un gd a A₀ base h₀ L m s Q E nowl st S X V clk lim fix mov rA rv rs kr n amount many := by
  intro nw B KX T XB TB CD LA F N hr hlen hn ham hmany inj nbs hd hu done
  have mkp : Mk 153 := trivial
  refine wpAny_mono (E := fun _ _ => False) (lower ?_ hd hu) (fun _ _ x => x) (fun _ _ e => e.elim)
  have e1 : for1 = for1 := rfl
  conv at e1 => rhs; whnf
  have e2 : turnBody = turnBody := rfl
  conv at e2 => rhs; whnf
  have e4 : lawScope = lawScope := rfl
  conv at e4 => rhs; whnf
  rw [e1]
  have hlr := hr.length
  obtain ⟨lgA, vs, kl, lr, t, tt, cwo, vcw, oS, oX, oV, ps, f, x, evs, nS, nX, nV, z, rest, rfl, FX, P, O, ck0, tb, hcw, hR, hS, hX, hV, SZ, A⟩ := id LA
  have em := pin2 (Eq.refl m) P.p8
  have hra := FX.list
  have hra2 : (rA, listOf rv.toArray kr) ∈ (S, oS) :: (X, oX) :: (V, oV) :: (588, tabObj ps) :: (lgA, listOf (List.toArray vs) kl) :: (L + 1, cwo) :: (nowl, listOf #[.int t tt] 0) :: rest := .tail _ (.tail _ (.tail _ (.tail _ (.tail _ (.tail _ (.tail _ hra))))))
  have hls : s.heap.IsList rA rv.toArray := News.isList N hra2
  rw [em] at F LA
  have hrz : rv.toArray.size ≤ sizeLine := by rw [List.size_toArray, sizeLine_eq]; omega
  clear FX P O ck0 tb hcw hR hS hX hV SZ A
  rw [e4]
  refine For_invV h₀ (by rfl) (by rfl) ?_
  revert KX; k_fill; intro KX
  k_steps
  refine Held.in ?_
  refine iter_range (n := n) (fun i m' nw' => LawAt w amount many L st S X V clk lim fix mov nowl rA rv kr i m' nw') rfl (range_hi (by assumption) (by first | omega | (simp; omega))) (range_two hn).1 (range_two hn).2 (by assumption) (by assumption) LA ?_ ?_
  · intro i t m₁ news₁ h tk I oI hi6 hJ off lt F₁ N₁
    have q := turn_spec (p := p) (loose := loose) (mean := mean) (mg := mg) (mb := mb) (dp := 820) (un := 8200) (gd := gd) (a := a) (Q := Q) (E := fun _ _ => False) (tpl := t) B KX T XB TB CD (s := { s with heap := h, toks := tk }) hJ off (lt (V, oV) (by k_mem)) (by rw [show (0 + (i : Int) * 2) = 2 * (i : Int) by omega] at F₁; exact F₁) N₁ hr (by omega) (by omega) ham hmany inj nbs (Nat.le_refl _) (Nat.le_refl _)
    rw [e2, e4] at q
    exact q
  · intro m' nw' h tk hJ F' N'
    exact done m' nw' h tk hJ F' N'
end c_loop1_spec
theorem loop1_spec {w : World} {p : Program} {loose : List Str} {mean : ExcName → Option Value} {mg : Str → Option Value} {mb : Str → Option Value} {dp : Nat} {un : Nat} {gd : Option (List Code)} {a : Addr} {A₀ : Around} {base : Heap} {h₀ : Heap} {L : Addr} {m : Str → Option Value} {s : Shared} {Q : Flow → Shared → Prop} {E : Value → Shared → Prop} (B : Below A₀ base [] h₀) (KX : (Mine.hd1.heap_39 w.params).In h₀) (T : Top p loose mean mg mb h₀) (XB : (Mine.hd1.heap_39 w.params).In base) (TB : Top p loose mean mg mb base) (CD : CodeHd base 592 588) {nowl : Addr} {st : Addr} {S : Addr} {X : Addr} {V : Addr} {clk : Addr} {lim : Addr} {fix : Addr} {mov : Addr} {rA : Addr} {rv : List Value} {rs : List Int} {kr : Nat} {n : Nat} {amount : Int} {many : Int} {nw : List (Addr × Obj)} (LA : LawAt w amount many L st S X V clk lim fix mov nowl rA rv kr 0 m nw) (F : Fr h₀ L s.heap m) (N : News h₀ L s.heap nw) (hr : IntsAre rv rs) (hlen : rs.length = 2 * n) (hn : n ≤ 20) (ham : 0 ≤ amount ∧ amount < 8) (hmany : 1 ≤ many ∧ many ≤ 9) (inj : ∀ i n j m, 0 ≤ i → i < 6 → 0 ≤ n → 0 ≤ j → j < 6 → 0 ≤ m → LawK amount many i n = LawK amount many j m → i = j ∧ n = m) (nbs : ∀ i n j, 0 ≤ i → i < 6 → 0 ≤ n → 0 ≤ j → j < 6 → LawK amount many i n ≠ kb amount many j) (hd : dp ≤ 820) (hu : un ≤ 8200) (done : ∀ m' nw' h' tk', LawAt w amount many L st S X V clk lim fix mov nowl rA rv kr n m' nw' → Fr h₀ L h' m' → News h₀ L h' nw' → Q .next { s with heap := h', toks := tk' }) :
    wpAny (model PySem.Challenge.rw_ji0060_01.row.prog w) (ktrTop dp un gd (Str.ofString "law") lawScope L a (.ref 712) (cellsFrom (L + 1) lawScope.names []) []) (exec for1 (envX (Str.ofString "law") lawScope L a (.ref 712) (cellsFrom (L + 1) lawScope.names []))) Q E s :=
  c_loop1_spec.zal c_loop1_spec.walk1 (w, p, loose, mean, mg, mb, dp, un, gd, a, A₀, base, h₀, L, m, s, Q, E, nowl, st, S, X, V, clk, lim, fix, mov, rA, rv, rs, kr, n, amount, many) _ B KX T XB TB CD LA F N hr hlen hn ham hmany inj nbs hd hu done
section
variable {w : World} {p : Program} {loose : List Str} {mean : ExcName → Option Value} {mg mb : Str → Option Value} {dp un : Nat} {gd : Option (List Code)} {a : Addr} {A₀ : Around} {base h₀ : Heap} {L : Addr} {m : Str → Option Value} {s : Shared} {Q : Flow → Shared → Prop} {E : Value → Shared → Prop}
  (B : Below A₀ base [] h₀) (KX : (Mine.hd1.heap_39 w.params).In h₀) (T : Top p loose mean mg mb h₀) (XB : (Mine.hd1.heap_39 w.params).In base) (TB : Top p loose mean mg mb base) (CD : CodeHd base 592 588)
include B KX T XB TB CD
end

end
section
theorem keys_inj {amount many : Int} (ham : 0 ≤ amount ∧ amount < 8) (hmany : 1 ≤ many ∧ many ≤ 9) (i n j m : Int) (h0 : 0 ≤ i) (h6 : i < 6) (hn : 0 ≤ n) (g0 : 0 ≤ j) (g6 : j < 6) (hm : 0 ≤ m) (e : LawK amount many i n = LawK amount many j m) : i = j ∧ n = m := by
  obtain ⟨e1, e2⟩ := wkey_inj hn hm e
  exact ⟨kb_inj ham.1 (Int.le_trans (by decide) hmany.1) ⟨h0, h6⟩ ⟨g0, g6⟩ e1, e2⟩
section
variable {w : World} {p : Program} {loose : List Str} {mean : ExcName → Option Value} {mg mb : Str → Option Value} {dp un : Nat} {gd : Option (List Code)} {a : Addr} {A A₀ : Around} {base h₀ : Heap} {L : Addr} {m : Str → Option Value} {s : Shared} {Q : Flow → Shared → Prop} {E : Value → Shared → Prop} {fs : Stmt} {env : Env}
  (B : Below A₀ base [] h₀) (KX : (Mine.hd1.heap_39 w.params).In h₀) (T : Top p loose mean mg mb h₀) (XB : (Mine.hd1.heap_39 w.params).In base) (TB : Top p loose mean mg mb base) (CD : CodeHd base 592 588)
include B KX T XB TB CD
theorem law_go {amount many t : Int} {st S X V clk lim fix mov nowl rA lgA dlim dfix dmov dx cr : Addr} {rv : List Value} {rs : List Int} {kr n : Nat} {oS oX oV ocw ocn oc : Obj} {vcw : Option Value} {vs : Array Value} {qual : Str} {tq tt : Tok}
    {g1 g2 g3 h1 h2 h3 h4 : Int} {n1 n2 n3 n4 kl : Nat} {u1 u2 u3 t1 t2 t3 t4 : Tok} {ps' : Array Value} {psf : Arguments} {bd : PySem.Expr} {sc : Scope} {pm ctv : Value} {sl p1 p2 p3 p4 p5 : Addr × Obj}
    (eA : A = ktrTop dp un gd (Str.ofString "law") lawScope L a (.ref 712) (cellsFrom (L + 1) lawScope.names []) []) (ee : env = envX (Str.ofString "law") lawScope L a (.ref 712) (cellsFrom (L + 1) lawScope.names [])) (ef : fs = for1) (hdp : dp ≤ 820) (hun : un ≤ 8200)
    (F : Fr h₀ L s.heap m)
    (N : News h₀ L s.heap [(rA, listOf rv.toArray kr), sl, (lgA, listOf #[] kl), (mov, instObj 202 dmov), (dmov, dictOf [⟨g1, .str (Str.ofString "storage") u1, .ref st⟩] n1), (fix, instObj 241 dfix), (dfix, dictOf [⟨g2, .str (Str.ofString "storage") u2, .ref st⟩] n2), (lim, instObj 296 dlim), (dlim, dictOf [⟨g3, .str (Str.ofString "storage") u3, .ref st⟩] n3),
      (V, oV), (X, oX), (S, oS), (st, instObj 691 dx), (dx, dictOf [⟨h1, .str (Str.ofString "clock") t1, .ref clk⟩, ⟨h2, .str (Str.ofString "storage") t2, .ref S⟩, ⟨h3, .str (Str.ofString "expirations") t3, .ref X⟩, ⟨h4, .str (Str.ofString "events") t4, .ref V⟩] n4),
      (clk, kla_obj (Str.ofString "<lambda>") qual psf bd sc [(Str.ofString "now", L + 1 + 1)] pm cr ctv), (cr, oc), (nowl, listOf #[.int t tt] 0), p1, p2, p3, p4, p5, (L + 1 + 1, ocn), (L + 1, ocw), (640, tabObj #[]), (588, tabObj #[]), (710, tabObj ps')])
    (P : Pins m amount many st lim fix mov lgA rA)
    (epk : psf = { posonlyargs := [], args := [], vararg := none, kwonlyargs := [], kw_defaults := [], kwarg := none, defaults := [] })
    (ebd : bd = ((PySem.Expr.Name (Str.ofString "now") { line := 587, col := 34, endLine := 587, endCol := 37 }).Subscript (PySem.Expr.Constant (Const.int 0) 0 { line := 587, col := 38, endLine := 587, endCol := 39 }) { line := 587, col := 34, endLine := 587, endCol := 40 }))
    (esc : sc = { kind := ScopeKind.function, names := [(Str.ofString "now", NameKind.free)], isGenerator := false, isCoroutine := false })
    (hcn : ocn.data = .cell (some (.ref nowl))) (hcw : ocw.data = .cell vcw) (hd : oc.data = .fields vs) (hv : vs[1]? = some (.str qual tq))
    (dS : oS.IsDictOf (PySem.strKind PySem.Challenge.rw_ji0060_01.row.prog w) []) (dX : oX.IsDictOf (PySem.strKind PySem.Challenge.rw_ji0060_01.row.prog w) []) (dV : oV.IsDictOf (PySem.strKind PySem.Challenge.rw_ji0060_01.row.prog w) [])
    (lS : (S == sysModules) = false) (lX : (X == sysModules) = false) (lV : (V == sysModules) = false)
    (c0 : @LT.lt Nat _ 710 L) (c2 : @LT.lt Nat _ (L + 1 + 1) nowl) (c3 : @LT.lt Nat _ nowl cr) (c4 : @LT.lt Nat _ cr clk) (c5 : @LT.lt Nat _ clk dx) (c6 : @LT.lt Nat _ dx st) (c7 : @LT.lt Nat _ st S) (c8 : @LT.lt Nat _ S X) (c9 : @LT.lt Nat _ X V)
    (c10 : @LT.lt Nat _ V dlim) (c11 : @LT.lt Nat _ dlim lim) (c12 : @LT.lt Nat _ lim dfix) (c13 : @LT.lt Nat _ dfix fix) (c14 : @LT.lt Nat _ fix dmov) (c15 : @LT.lt Nat _ dmov mov) (c16 : @LT.lt Nat _ mov lgA) (c17 : @LT.lt Nat _ lgA rA)
    (ht0 : 1000000 ≤ t) (ht1 : t ≤ 2000000000) (hr : IntsAre rv rs) (hlen : rs.length = 2 * n) (hn : n ≤ 20) (ham : 0 ≤ amount ∧ amount < 8) (hmany : 1 ≤ many ∧ many ≤ 9)
    (done : ∀ m' nw' h' tk', LawAt w amount many L st S X V clk lim fix mov nowl rA rv kr n m' nw' → Fr h₀ L h' m' → News h₀ L h' nw' → Q .next { s with heap := h', toks := tk' }) :
    wpAny (model PySem.Challenge.rw_ji0060_01.row.prog w) A (exec fs env) Q E s := by
  subst eA ee ef
  exact loop1_spec B KX T XB TB CD (law_start P epk ebd esc c0 c2 c3 c4 c5 c6 c7 c8 c9 c10 c11 c12 c13 c14 c15 c16 c17 hcn hcw hd hv dS dX dV lS lX lV ht0 ht1) F (start_order N) hr hlen hn ham hmany (keys_inj ham hmany) (fun i n j _ _ hn0 _ _ => wkey_kb amount many j (kb amount many i) hn0) hdp hun done
end
section
variable {w : World} {p : Program} {loose : List Str} {mean : ExcName → Option Value} {mg mb : Str → Option Value} {dp un : Nat} {gd : Option (List Code)} {a : Addr} {A A₀ : Around} {base h₀ : Heap} {L : Addr} {m : Str → Option Value} {s : Shared} {Q : Flow → Shared → Prop} {E : Value → Shared → Prop} {fs : Stmt} {env : Env}
  (B : Below A₀ base [] h₀) (KX : (Mine.hd1.heap_39 w.params).In h₀) (T : Top p loose mean mg mb h₀)
include B KX T
theorem law_go2 {nowl st S X V clk lim fix mov rA : Addr} {rv : List Value} {kr i₀ : Nat} {amount many : Int} {nw : List (Addr × Obj)}
    (eA : A = ktrTop dp un gd (Str.ofString "law") lawScope L a (.ref 712) (cellsFrom (L + 1) lawScope.names []) []) (ee : env = envX (Str.ofString "law") lawScope L a (.ref 712) (cellsFrom (L + 1) lawScope.names [])) (ef : fs = for2) (hdp : dp ≤ 820) (hun : un ≤ 8200)
    (LA : LawAt w amount many L st S X V clk lim fix mov nowl rA rv kr i₀ m nw) (F : Fr h₀ L s.heap m) (N : News h₀ L s.heap nw)
    (hi : i₀ ≤ 20) (ham : 0 ≤ amount ∧ amount < 8) (hmany : 1 ≤ many ∧ many ≤ 9)
    (done : ∀ m' h' tk' ps ps2 frz a1 a2 a3 a4 a5 a6, Fr h₀ L h' m' → News h₀ L h' (a1 :: a2 :: a3 :: (588, tabObj ps) :: a4 :: a5 :: a6 :: frz) → (640, tabObj #[]) ∈ frz → (710, tabObj ps2) ∈ frz → Q .next { s with heap := h', toks := tk' }) :
    wpAny (model PySem.Challenge.rw_ji0060_01.row.prog w) A (exec fs env) Q E s := by
  subst eA ee ef
  refine loop2_spec B KX T LA F N hi ham hmany hdp hun fun m' nw' h' tk' LA' F' N' => ?_
  obtain ⟨lgA, vs, kl, lr, t, tt, cwo, vcw, oS, oX, oV, ps, f, x, evs, nS, nX, nV, z, rest, rfl, FX, _⟩ := LA'
  obtain ⟨t640, ps2, t710⟩ := FX.tabs
  exact done m' h' tk' ps ps2 rest _ _ _ _ _ _ F' N' t640 t710
end

end
section
-- only 1
theorem said_p_law1 : True := by
  k_with "subscriptTail BinOp Call Add List Slice ref ref" => (k_here; (fail_if_success (fail_if_success (have := (by with_reducible assumption : Mk 155)))); k_dflt (refine kba_turn (value' := PySem.Expr.Name (PySem.Str.ofString "_") ⟨0, 0, 0, 0⟩) (fun _ => rfl) ?_))
  k_with "exec For Name Call cons nil" => (k_here; (fail_if_success (fail_if_success (have := (by with_reducible assumption : Mk 155)))); with_reducible refine heldW ?_)
  k_with "exec If" => (k_here; (fail_if_success (fail_if_success (have := (by with_reducible assumption : Mk 155)))); (fail_if_success (have := (by assumption : Mk 1))); with_reducible refine heldW ?_)
  trivial
theorem evenA {xs : List Int} (h : ((xs.length : Nat) : Int).fmod 2 = 1) (h40 : xs.length ≤ 40) : ∃ n, (xs ++ [0]).length = 2 * n ∧ n ≤ 20 := by
  rw [Int.fmod_eq_emod_of_nonneg _ (by decide)] at h
  refine ⟨(xs.length + 1) / 2, ?_, by omega⟩
  rw [List.length_append, List.length_singleton]
  omega
theorem evenB {xs : List Int} (h : ((xs.length : Nat) : Int).fmod 2 ≠ 1) (h40 : xs.length ≤ 40) : ∃ n, xs.length = 2 * n ∧ n ≤ 20 := by
  rw [Int.fmod_eq_emod_of_nonneg _ (by decide)] at h
  exact ⟨xs.length / 2, by omega, by omega⟩
theorem len40 {xs : List Int} : (List.take (min 43 xs.length - 3) (List.drop 3 xs)).length ≤ 40 :=
  Nat.le_trans (List.length_take_le _ _) (Nat.sub_le_sub_right (Nat.min_le_left 43 _) 3)
theorem t_bounds {x : Int} : 1000000 ≤ 1000000 + x.fmod 1000000000 ∧ 1000000 + x.fmod 1000000000 ≤ 2000000000 := by
  have := fmod_bounds (t := x) (e := 1000000000) (by decide)
  omega
theorem many_bounds {x : Int} : 1 ≤ 1 + x.fmod 9 ∧ 1 + x.fmod 9 ≤ 9 := by
  have := fmod_bounds (t := x) (e := 9) (by decide)
  omega
/-- the rest made even -/
theorem restCut {M : Model} {A : Around} {tr : Sem Flow} {Q : Flow → Shared → Prop} {E : Value → Shared → Prop} {s : Shared} {h₀ : Heap} {L rA : Addr} {m : Str → Option Value} {rv : List Value} {k : Nat} {tail : List (Addr × Obj)}
    (_ : Fr h₀ L s.heap m) (_ : News h₀ L s.heap ((rA, listOf rv.toArray k) :: tail))
    (h1 : wpAny M A tr (CutPost h₀ L s fun m' nw' => m' = m ∧ ∃ rv' k' rs' n, nw' = (rA, listOf rv'.toArray k') :: tail ∧ IntsAre rv' rs' ∧ rs'.length = 2 * n ∧ n ≤ 20) E s)
    (h2 : ∀ h' tk rv' k' rs' n, Fr h₀ L h' m → News h₀ L h' ((rA, listOf rv'.toArray k') :: tail) → IntsAre rv' rs' → rs'.length = 2 * n → n ≤ 20 → Q .next { s with heap := h', toks := tk }) : wpAny M A tr Q E s := by
  refine wpAny_mono h1 (fun fl s' p => ?_) fun _ _ e => e
  cases fl with
  | next =>
    obtain ⟨h', tk, m', nw', rfl, a, b, rfl, rv', k', rs', n, rfl, c, d, e⟩ := p
    exact h2 h' tk rv' k' rs' n a b c d e
  | _ => exact p.elim
namespace c_law_main
noncomputable def zst2 : {P : ((World) → (Shared) → (Shared) → (Str → Option Value) → (Str → Option Value) → (Addr) → (Obj) → (Value) → (Value) → (List Int) → (List Addr) → (List Addr) → (Addr) → (List Value) → (List Addr) → (Heap) → (Nat) → (Obj) → (Obj) → Prop) // Hid (∀ (z0x1 : World) (z0x2 : Shared) (z0x3 : Shared) (z0x4 : Str → Option Value) (z0x5 : Str → Option Value) (z0x8 : Addr) (z0x9 : Obj) (z0x10 : Value) (z0x11 : Value) (z0x21 : List Int) (z0x27 : List Addr) (z0x28 : List Addr) (z0x29 : Addr) (z0x30 : List Value) (z0x31 : List Addr) (z0x41 : Heap) (z0x42 : Nat) (z0x43 : Obj) (z0x44 : Obj), P z0x1 z0x2 z0x3 z0x4 z0x5 z0x8 z0x9 z0x10 z0x11 z0x21 z0x27 z0x28 z0x29 z0x30 z0x31 z0x41 z0x42 z0x43 z0x44) → PySem.Challenge.rw_ji0060_01.Holds} := by
  refine' ⟨_, fun HH1 => _⟩
  rotate_left 
  focus
    refine Mine.hd1 ?_
    k_go0
    (all_goals try k_fold)
    rename_i z0x1 z0x2 z0x3 z0x4 z0x5 z0x6 z0x7 z0x8 z0x9 z0x10 z0x11 z0x12 z0x13 z0x14 z0x15 z0x16 z0x17 z0x18 z0x19 z0x20 z0x21 z0x22 z0x23 z0x24 z0x25 z0x26 z0x27 z0x28 z0x29 z0x30 z0x31 z0x32 z0x33 z0x34 z0x35 z0x36 z0x37 z0x38 z0x39 z0x40 z0x41 z0x42 z0x43 z0x44 z0x45 z0x46 z0x47 z0x48 z0x49 z0x50 z0x51 z0x52 z0x53 z0x54 z0x55
    revert z0x6 z0x7 z0x12 z0x13 hT8 z0x14 z0x15 z0x16 z0x17 z0x18 z0x19 hT9 z0x20 z0x22 z0x23 z0x24 z0x25 z0x26 z0x32 z0x33 z0x34 z0x35 z0x36 z0x37 z0x38 z0x39 z0x40 z0x45 z0x46 z0x47 z0x48 z0x49 z0x50 z0x51 lifted z0x52 z0x53 codeHd z0x54 z0x55
    exact Hid.out HH1 z0x1 z0x2 z0x3 z0x4 z0x5 z0x8 z0x9 z0x10 z0x11 z0x21 z0x27 z0x28 z0x29 z0x30 z0x31 z0x41 z0x42 z0x43 z0x44
namespace k1
noncomputable def zcv : (World) × (Shared) × (Shared) × (Str → Option Value) × (Str → Option Value) × (Addr) × (Obj) × (Value) × (Value) × (List Int) × (List Addr) × (List Addr) × (Addr) × (List Value) × (List Addr) × (Heap) × (Nat) × (Obj) × (Obj) := pick (neP neW (neP neS (neP neS (neP inferInstance (neP inferInstance (neP inferInstance (neP inferInstance (neP inferInstance (neP inferInstance (neP inferInstance (neP inferInstance (neP inferInstance (neP inferInstance (neP inferInstance (neP inferInstance (neP inferInstance (neP inferInstance (neP inferInstance inferInstance)))))))))))))))))) (fun v : (World) × (Shared) × (Shared) × (Str → Option Value) × (Str → Option Value) × (Addr) × (Obj) × (Value) × (Value) × (List Int) × (List Addr) × (List Addr) × (Addr) × (List Value) × (List Addr) × (Heap) × (Nat) × (Obj) × (Obj) => zst2.1 (v.1) (v.2.1) (v.2.2.1) (v.2.2.2.1) (v.2.2.2.2.1) (v.2.2.2.2.2.1) (v.2.2.2.2.2.2.1) (v.2.2.2.2.2.2.2.1) (v.2.2.2.2.2.2.2.2.1) (v.2.2.2.2.2.2.2.2.2.1) (v.2.2.2.2.2.2.2.2.2.2.1) (v.2.2.2.2.2.2.2.2.2.2.2.1) (v.2.2.2.2.2.2.2.2.2.2.2.2.1) (v.2.2.2.2.2.2.2.2.2.2.2.2.2.1) (v.2.2.2.2.2.2.2.2.2.2.2.2.2.2.1) (v.2.2.2.2.2.2.2.2.2.2.2.2.2.2.2.1) (v.2.2.2.2.2.2.2.2.2.2.2.2.2.2.2.2.1) (v.2.2.2.2.2.2.2.2.2.2.2.2.2.2.2.2.2.1) (v.2.2.2.2.2.2.2.2.2.2.2.2.2.2.2.2.2.2)) 0
theorem zal (h : zst2.1 (zcv.1) (zcv.2.1) (zcv.2.2.1) (zcv.2.2.2.1) (zcv.2.2.2.2.1) (zcv.2.2.2.2.2.1) (zcv.2.2.2.2.2.2.1) (zcv.2.2.2.2.2.2.2.1) (zcv.2.2.2.2.2.2.2.2.1) (zcv.2.2.2.2.2.2.2.2.2.1) (zcv.2.2.2.2.2.2.2.2.2.2.1) (zcv.2.2.2.2.2.2.2.2.2.2.2.1) (zcv.2.2.2.2.2.2.2.2.2.2.2.2.1) (zcv.2.2.2.2.2.2.2.2.2.2.2.2.2.1) (zcv.2.2.2.2.2.2.2.2.2.2.2.2.2.2.1) (zcv.2.2.2.2.2.2.2.2.2.2.2.2.2.2.2.1) (zcv.2.2.2.2.2.2.2.2.2.2.2.2.2.2.2.2.1) (zcv.2.2.2.2.2.2.2.2.2.2.2.2.2.2.2.2.2.1) (zcv.2.2.2.2.2.2.2.2.2.2.2.2.2.2.2.2.2.2)) : ∀ u : (World) × (Shared) × (Shared) × (Str → Option Value) × (Str → Option Value) × (Addr) × (Obj) × (Value) × (Value) × (List Int) × (List Addr) × (List Addr) × (Addr) × (List Value) × (List Addr) × (Heap) × (Nat) × (Obj) × (Obj), zst2.1 (u.1) (u.2.1) (u.2.2.1) (u.2.2.2.1) (u.2.2.2.2.1) (u.2.2.2.2.2.1) (u.2.2.2.2.2.2.1) (u.2.2.2.2.2.2.2.1) (u.2.2.2.2.2.2.2.2.1) (u.2.2.2.2.2.2.2.2.2.1) (u.2.2.2.2.2.2.2.2.2.2.1) (u.2.2.2.2.2.2.2.2.2.2.2.1) (u.2.2.2.2.2.2.2.2.2.2.2.2.1) (u.2.2.2.2.2.2.2.2.2.2.2.2.2.1) (u.2.2.2.2.2.2.2.2.2.2.2.2.2.2.1) (u.2.2.2.2.2.2.2.2.2.2.2.2.2.2.2.1) (u.2.2.2.2.2.2.2.2.2.2.2.2.2.2.2.2.1) (u.2.2.2.2.2.2.2.2.2.2.2.2.2.2.2.2.2.1) (u.2.2.2.2.2.2.2.2.2.2.2.2.2.2.2.2.2.2) := pick_all (P := fun v : (World) × (Shared) × (Shared) × (Str → Option Value) × (Str → Option Value) × (Addr) × (Obj) × (Value) × (Value) × (List Int) × (List Addr) × (List Addr) × (Addr) × (List Value) × (List Addr) × (Heap) × (Nat) × (Obj) × (Obj) => zst2.1 (v.1) (v.2.1) (v.2.2.1) (v.2.2.2.1) (v.2.2.2.2.1) (v.2.2.2.2.2.1) (v.2.2.2.2.2.2.1) (v.2.2.2.2.2.2.2.1) (v.2.2.2.2.2.2.2.2.1) (v.2.2.2.2.2.2.2.2.2.1) (v.2.2.2.2.2.2.2.2.2.2.1) (v.2.2.2.2.2.2.2.2.2.2.2.1) (v.2.2.2.2.2.2.2.2.2.2.2.2.1) (v.2.2.2.2.2.2.2.2.2.2.2.2.2.1) (v.2.2.2.2.2.2.2.2.2.2.2.2.2.2.1) (v.2.2.2.2.2.2.2.2.2.2.2.2.2.2.2.1) (v.2.2.2.2.2.2.2.2.2.2.2.2.2.2.2.2.1) (v.2.2.2.2.2.2.2.2.2.2.2.2.2.2.2.2.2.1) (v.2.2.2.2.2.2.2.2.2.2.2.2.2.2.2.2.2.2)) h
noncomputable def z0x1 : World := zcv.1
noncomputable def z0x2 : Shared := zcv.2.1
noncomputable def z0x3 : Shared := zcv.2.2.1
noncomputable def z0x4 : Str → Option Value := zcv.2.2.2.1
noncomputable def z0x5 : Str → Option Value := zcv.2.2.2.2.1
noncomputable def z0x8 : Addr := zcv.2.2.2.2.2.1
noncomputable def z0x9 : Obj := zcv.2.2.2.2.2.2.1
noncomputable def z0x10 : Value := zcv.2.2.2.2.2.2.2.1
noncomputable def z0x11 : Value := zcv.2.2.2.2.2.2.2.2.1
noncomputable def z0x21 : List Int := zcv.2.2.2.2.2.2.2.2.2.1
noncomputable def z0x27 : List Addr := zcv.2.2.2.2.2.2.2.2.2.2.1
noncomputable def z0x28 : List Addr := zcv.2.2.2.2.2.2.2.2.2.2.2.1
noncomputable def z0x29 : Addr := zcv.2.2.2.2.2.2.2.2.2.2.2.2.1
noncomputable def z0x30 : List Value := zcv.2.2.2.2.2.2.2.2.2.2.2.2.2.1
noncomputable def z0x31 : List Addr := zcv.2.2.2.2.2.2.2.2.2.2.2.2.2.2.1
noncomputable def z0x41 : Heap := zcv.2.2.2.2.2.2.2.2.2.2.2.2.2.2.2.1
noncomputable def z0x42 : Nat := zcv.2.2.2.2.2.2.2.2.2.2.2.2.2.2.2.2.1
noncomputable def z0x43 : Obj := zcv.2.2.2.2.2.2.2.2.2.2.2.2.2.2.2.2.2.1
noncomputable def z0x44 : Obj := zcv.2.2.2.2.2.2.2.2.2.2.2.2.2.2.2.2.2.2
theorem walk3 : zst2.1 z0x1 z0x2 z0x3 z0x4 z0x5 z0x8 z0x9 z0x10 z0x11 z0x21 z0x27 z0x28 z0x29 z0x30 z0x31 z0x41 z0x42 z0x43 z0x44 := by
  intro z0x6 z0x7 z0x12 z0x13 hT8 z0x14 z0x15 z0x16 z0x17 z0x18 z0x19 hT9 z0x20 z0x22 z0x23 z0x24 z0x25 z0x26 z0x32 z0x33 z0x34 z0x35 z0x36 z0x37 z0x38 z0x39 z0x40 z0x45 z0x46 z0x47 z0x48 z0x49 z0x50 z0x51 lifted z0x52 z0x53 codeHd z0x54 z0x55
  have mkp : Mk 155 := trivial
  k_steps
  refine heldI ?_
  refine (fun (hI : IntsAre _ (List.take (min 43 _ - 3) (List.drop 3 _))) (KK : Below callerA _ [] _) (CC : CodeHd _ 592 588) => ?_) (by assumption) (by assumption) (by assumption)
  refine restCut (by k_asm) (by k_asm) ?_ ?_
  · have mk : Mk 1 := trivial
    k_steps
    · refine (fun (hp : ((_ : Nat) : Int).fmod 2 = 1) => ?_) (by assumption)
      obtain ⟨n, hlen, hn⟩ := evenA hp len40
      exact ⟨_, _, _, _, rfl, by assumption, by assumption, rfl, _, _, _, n, rfl, intsAre_push hI, hlen, hn⟩
    · refine (fun (hp : ((_ : Nat) : Int).fmod 2 ≠ 1) => ?_) (by assumption)
      obtain ⟨n, hlen, hn⟩ := evenB hp len40
      exact ⟨_, _, _, _, rfl, by assumption, by assumption, rfl, _, _, _, n, rfl, hI, hlen, hn⟩
  · intro h9 tk9 rv9 k9 rs9 n F9 N9 hI9 hlen hn
    k_steps
    refine heldI ?_
    refine' law_go (n := n) KK (by assumption) (by assumption) (by assumption) (by assumption) CC ?eA ?ee ?ef ?hd ?hu (by k_asm) (by k_asm) ⟨⟨_, rfl⟩, ⟨_, rfl⟩, rfl, rfl, rfl, rfl, rfl, rfl⟩ rfl rfl rfl (by assumption) (by assumption) (by assumption) (by assumption) (by assumption) (by assumption) (by assumption) (by assumption) (by assumption) (by assumption)
      (by walk_at "m lt") (by walk_at "m lt") (by walk_at "m lt") (by walk_at "m lt") (by walk_at "m lt") (by walk_at "m lt") (by walk_at "m lt") (by walk_at "m lt") (by walk_at "m lt") (by walk_at "m lt") (by walk_at "m lt") (by walk_at "m lt") (by walk_at "m lt") (by walk_at "m lt") (by walk_at "m lt") (by walk_at "m lt") (by walk_at "m lt") t_bounds.1 t_bounds.2 hI9 hlen hn (fmod_bounds (by decide)) many_bounds ?_
    case eA => exact rfl
    case ee => exact rfl
    case ef => exact rfl
    case hd => exact Nat.le_of_ble_eq_true rfl
    case hu => exact Nat.le_of_ble_eq_true rfl
    intro m' nw' h' tk' LA' F' N'
    k_steps
    refine heldI ?_
    refine' law_go2 KK (by assumption) (by assumption) ?eA ?ee ?ef ?hd ?hu LA' (by k_asm) (by k_asm) hn (fmod_bounds (by decide)) many_bounds ?_
    case eA => exact rfl
    case ee => exact rfl
    case ef => exact rfl
    case hd => exact Nat.le_of_ble_eq_true rfl
    case hu => exact Nat.le_of_ble_eq_true rfl
    intro m2 h2 tk2 ps ps2 frz a1 a2 a3 a4 a5 a6 F2 N2 t640 t710
    k_steps
end k1
theorem up4 : PySem.Challenge.rw_ji0060_01.Holds := zst2.2 (fun z0x1 z0x2 z0x3 z0x4 z0x5 z0x8 z0x9 z0x10 z0x11 z0x21 z0x27 z0x28 z0x29 z0x30 z0x31 z0x41 z0x42 z0x43 z0x44 => k1.zal k1.walk3 (z0x1, z0x2, z0x3, z0x4, z0x5, z0x8, z0x9, z0x10, z0x11, z0x21, z0x27, z0x28, z0x29, z0x30, z0x31, z0x41, z0x42, z0x43, z0x44))
end c_law_main
theorem law_main : PySem.Challenge.rw_ji0060_01.Holds := c_law_main.up4

end
end Mine
theorem PySem.Challenge.cw_ji0060_01_holds : PySem.Challenge.rw_ji0060_01.Holds :=
  Mine.law_main
