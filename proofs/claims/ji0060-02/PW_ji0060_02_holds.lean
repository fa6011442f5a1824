import PyProof.Rows.All
import Wide.All
import OpenK.AllK
import Wide.FinOn
import Lean
import PySem.Challenge.RW_ji0060_02
open PySem PySem.W PyProof.Rows PySem.Calls PyProof.V PySem.Spec
set_option Elab.async false
set_option maxRecDepth 100000
set_option maxHeartbeats 8000000
set_option rowWalk.seconds 0
set_option linter.all false
namespace Mine
theorem same : PySem.W.builtinNamed = PySem.W.builtinNamed := rfl
name_quick tw5836914849728601191 for PySem.W.builtinNamed by Mine.same
name_quick tw12231738217880304450 for PySem.W.builtinNamed by Mine.same
name_quick tw9822062306897893251 for PySem.W.builtinNamed by Mine.same
name_quick tw4820996626589678886 for PySem.W.builtinNamed by Mine.same
name_quick tw6267977289477999056 for PySem.W.builtinNamed by Mine.same
name_quick tw767611726410754551 for PySem.W.builtinNamed by Mine.same
name_quick tw7988885332223431088 for PySem.W.builtinNamed by Mine.same
name_quick tw15854909796162283269 for PySem.W.builtinNamed by Mine.same
name_quick tw18213144143829557549 for PySem.W.builtinNamed by Mine.same
name_quick tw2462500682879460521 for PySem.W.builtinNamed by Mine.same
name_quick tw577002483734446198 for PySem.W.builtinNamed by Mine.same
name_quick tw8659410193864663527 for PySem.W.builtinNamed by Mine.same
name_quick tw15259463088938024755 for PySem.W.builtinNamed by Mine.same
name_quick tw1767167004020610190 for PySem.W.builtinNamed by Mine.same
name_quick tw995396339493167444 for PySem.W.builtinNamed by Mine.same
name_quick tw15057939803849301615 for PySem.W.builtinNamed by Mine.same
name_quick tw12610893516796831555 for PySem.W.builtinNamed by Mine.same
name_quick tw13806190507146975710 for PySem.W.builtinNamed by Mine.same
name_quick tw5346698170260756960 for PySem.W.builtinNamed by Mine.same
name_quick tw5010750334508877263 for PySem.W.builtinNamed by Mine.same
name_quick tw11946592545046732584 for PySem.W.builtinNamed by Mine.same
name_quick tw1205842492165896811 for PySem.W.builtinNamed by Mine.same
name_quick tw11315018781764017469 for PySem.W.builtinNamed by Mine.same
name_quick tw4139166373555267671 for PySem.W.builtinNamed by Mine.same
name_quick tw10723941447153025392 for PySem.W.builtinNamed by Mine.same
name_quick tw4512867803774423787 for PySem.W.builtinNamed by Mine.same
name_quick tw9493154514000843583 for PySem.W.builtinNamed by Mine.same
name_quick tw6506640869662766082 for PySem.W.builtinNamed by Mine.same
name_quick tw359610635481030469 for PySem.W.builtinNamed by Mine.same
name_quick tw15432166692029144118 for PySem.W.builtinNamed by Mine.same
name_quick tw8064501304600337937 for PySem.W.builtinNamed by Mine.same
name_quick tw17510246701946199547 for PySem.W.builtinNamed by Mine.same
name_quick tw2546309167836173290 for PySem.W.builtinNamed by Mine.same
name_quick tw6883306634144013458 for PySem.W.builtinNamed by Mine.same
name_quick tw9495078012441039058 for PySem.W.builtinNamed by Mine.same
name_quick tw6254767823624802131 for PySem.W.builtinNamed by Mine.same
name_quick tw17924957049685373483 for PySem.W.builtinNamed by Mine.same
name_quick tw4551792814510417615 for PySem.W.builtinNamed by Mine.same
name_quick tw15721274272513806848 for PySem.W.builtinNamed by Mine.same
name_quick tw5322795754703913941 for PySem.W.builtinNamed by Mine.same
name_quick tw8279231002486317701 for PySem.W.builtinNamed by Mine.same
name_quick tw5628110112086015189 for PySem.W.builtinNamed by Mine.same
name_quick tw10547332658413889657 for PySem.W.builtinNamed by Mine.same
name_quick tw5186812347590526071 for PySem.W.builtinNamed by Mine.same
name_quick tw8379591107894288966 for PySem.W.builtinNamed by Mine.same
name_quick tw11440521547747169374 for PySem.W.builtinNamed by Mine.same
name_quick tw2886931167706184968 for PySem.W.builtinNamed by Mine.same
name_quick tw6889549619850256862 for PySem.W.builtinNamed by Mine.same
name_quick tw8131313407364682248 for PySem.W.builtinNamed by Mine.same
name_quick tw392316452771005069 for PySem.W.builtinNamed by Mine.same
name_quick tw7938888453119795124 for PySem.W.builtinNamed by Mine.same
name_quick tw6869927729602746508 for PySem.W.builtinNamed by Mine.same
name_quick tw7768400534356770056 for PySem.W.builtinNamed by Mine.same
name_quick tw10107171214915081941 for PySem.W.builtinNamed by Mine.same
name_quick tw3789883455205997487 for PySem.W.builtinNamed by Mine.same
name_quick tw16170211750066364263 for PySem.W.builtinNamed by Mine.same
name_quick tw3157282822111013667 for PySem.W.builtinNamed by Mine.same
name_quick tw16905297552877454740 for PySem.W.builtinNamed by Mine.same
name_quick tw16270934764875809010 for PySem.W.builtinNamed by Mine.same
name_quick tw2556179489198045896 for PySem.W.builtinNamed by Mine.same
name_quick tw16615630820238155465 for PySem.W.builtinNamed by Mine.same
name_quick tw16004477004552329596 for PySem.W.builtinNamed by Mine.same
name_quick tw16695709918185418452 for PySem.W.builtinNamed by Mine.same
name_quick tw9441786884532282168 for PySem.W.builtinNamed by Mine.same
name_quick tw11312267165228063500 for PySem.W.builtinNamed by Mine.same
name_quick tw3431408902568643608 for PySem.W.builtinNamed by Mine.same
name_quick tw8818166150611160467 for PySem.W.builtinNamed by Mine.same
name_quick tw3519141504089614893 for PySem.W.builtinNamed by Mine.same
name_quick tw1080282399789523781 for PySem.W.builtinNamed by Mine.same
name_quick tw6413337111881341186 for PySem.W.builtinNamed by Mine.same
name_quick tw10375745879634585233 for PySem.W.builtinNamed by Mine.same
name_quick tw1440569414538268322 for PySem.W.builtinNamed by Mine.same
name_quick tw390165402945593382 for PySem.W.builtinNamed by Mine.same
name_quick tw13287991009634118507 for PySem.W.builtinNamed by Mine.same
name_quick tw5224331271245175534 for PySem.W.builtinNamed by Mine.same
name_quick tw10364674029951165269 for PySem.W.builtinNamed by Mine.same
name_quick tw10911116081644316238 for PySem.W.builtinNamed by Mine.same
name_quick tw10526454548423928943 for PySem.W.builtinNamed by Mine.same
name_quick tw13736537191974665221 for PySem.W.builtinNamed by Mine.same
name_quick tw4571160746681325086 for PySem.W.builtinNamed by Mine.same
name_quick tw10736857162508060981 for PySem.W.builtinNamed by Mine.same
name_quick tw12961785105584454813 for PySem.W.builtinNamed by Mine.same
name_quick tw9508285917473510312 for PySem.W.builtinNamed by Mine.same
name_quick tw2413807604229578750 for PySem.W.builtinNamed by Mine.same
name_quick tw17604212109326805388 for PySem.W.builtinNamed by Mine.same
name_quick tw9508967734438309687 for PySem.W.builtinNamed by Mine.same
name_quick tw5497976610084546405 for PySem.W.builtinNamed by Mine.same
name_quick tw11794591606139121847 for PySem.W.builtinNamed by Mine.same
name_quick tw15144493804048389425 for PySem.W.builtinNamed by Mine.same
name_quick tw9790309737679310992 for PySem.W.builtinNamed by Mine.same
name_quick tw13561123945046976480 for PySem.W.builtinNamed by Mine.same
name_quick tw3926473451268080774 for PySem.W.builtinNamed by Mine.same
name_quick tw1250049867126257192 for PySem.W.builtinNamed by Mine.same
name_quick tw2661281527520775525 for PySem.W.builtinNamed by Mine.same
name_quick tw14112702684263883 for PySem.W.builtinNamed by Mine.same
name_quick tw10518921392863836735 for PySem.W.builtinNamed by Mine.same
name_quick tw11770536514261833218 for PySem.W.builtinNamed by Mine.same
name_quick tw6311498212537859073 for PySem.W.builtinNamed by Mine.same
name_quick tw471612089076184782 for PySem.W.builtinNamed by Mine.same
name_quick tw11688225444687860405 for PySem.W.builtinNamed by Mine.same
name_quick tw17365506260742958531 for PySem.W.builtinNamed by Mine.same
name_quick tw10587900047724805094 for PySem.W.builtinNamed by Mine.same
name_quick tw2011485732798175068 for PySem.W.builtinNamed by Mine.same
name_quick tw375169731763577080 for PySem.W.builtinNamed by Mine.same
name_quick tw6681610060505562933 for PySem.W.builtinNamed by Mine.same
name_quick tw8098032621752649564 for PySem.W.builtinNamed by Mine.same
name_quick tw6451643703313303292 for PySem.W.builtinNamed by Mine.same
name_quick tw11411121177016311926 for PySem.W.builtinNamed by Mine.same
name_quick tw6380399123438948922 for PySem.W.builtinNamed by Mine.same
name_quick tw16987316532112667759 for PySem.W.builtinNamed by Mine.same
name_quick tw12763707219459486293 for PySem.W.builtinNamed by Mine.same
name_quick tw236464899474116529 for PySem.W.builtinNamed by Mine.same
name_quick tw14375963352720148542 for PySem.W.builtinNamed by Mine.same
name_quick tw16835696846459067124 for PySem.W.builtinNamed by Mine.same
name_quick tw7026101007850047229 for PySem.W.builtinNamed by Mine.same
name_quick tw3465164100855987463 for PySem.W.builtinNamed by Mine.same
name_quick tw1018666035158690629 for PySem.W.builtinNamed by Mine.same
name_quick tw1359973099090416036 for PySem.W.builtinNamed by Mine.same
name_quick tw8403139960541448775 for PySem.W.builtinNamed by Mine.same
name_quick tw18340351654256134258 for PySem.W.builtinNamed by Mine.same
name_quick tw2157066567455259504 for PySem.W.builtinNamed by Mine.same
name_quick tw6833851559015175665 for PySem.W.builtinNamed by Mine.same
name_quick tw8864546769951347344 for PySem.W.builtinNamed by Mine.same
name_quick tw4107193311202444746 for PySem.W.builtinNamed by Mine.same
name_quick tw4248014009751388970 for PySem.W.builtinNamed by Mine.same
name_quick tw8247506955672965647 for PySem.W.builtinNamed by Mine.same
name_quick tw11042809789992138583 for PySem.W.builtinNamed by Mine.same
name_quick tw10576409046829790504 for PySem.W.builtinNamed by Mine.same
name_quick tw12393498998521429876 for PySem.W.builtinNamed by Mine.same
name_quick tw9815201717476464956 for PySem.W.builtinNamed by Mine.same
name_quick tw16946961585076671156 for PySem.W.builtinNamed by Mine.same
name_quick tw7310653330863092569 for PySem.W.builtinNamed by Mine.same
name_quick tw16987022687503243718 for PySem.W.builtinNamed by Mine.same
name_quick tw1002713245278838734 for PySem.W.builtinNamed by Mine.same
name_quick tw8781548578014834911 for PySem.W.builtinNamed by Mine.same
name_quick tw1607560716684386333 for PySem.W.builtinNamed by Mine.same
name_quick tw6386350586353409011 for PySem.W.builtinNamed by Mine.same
name_quick tw3434801647370090300 for PySem.W.builtinNamed by Mine.same
name_quick tw6322653654971564897 for PySem.W.builtinNamed by Mine.same
name_quick tw14127548858540820296 for PySem.W.builtinNamed by Mine.same
name_quick tw14821861601749992815 for PySem.W.builtinNamed by Mine.same
name_quick tw16087803183651607571 for PySem.W.builtinNamed by Mine.same
name_quick tw4074930308833990796 for PySem.W.builtinNamed by Mine.same
name_quick tw11535320247821201710 for PySem.W.builtinNamed by Mine.same
name_quick tw17623244596813022512 for PySem.W.builtinNamed by Mine.same
name_quick tw13564688453571463362 for PySem.W.builtinNamed by Mine.same
name_quick tw1070471454023948900 for PySem.W.builtinNamed by Mine.same
name_quick tw9843186129324065028 for PySem.W.builtinNamed by Mine.same
name_quick tw15220607871083057097 for PySem.W.builtinNamed by Mine.same
name_quick tw11348286893256144594 for PySem.W.builtinNamed by Mine.same
name_quick tw4186705524631747307 for PySem.W.builtinNamed by Mine.same
name_quick tw7986701038411622016 for PySem.W.builtinNamed by Mine.same
name_quick tw6716273276048134129 for PySem.W.builtinNamed by Mine.same
name_quick tw6258457937074378171 for PySem.W.builtinNamed by Mine.same
name_quick tw7241486377552735879 for PySem.W.builtinNamed by Mine.same
name_quick tw18361789730921899064 for PySem.W.builtinNamed by Mine.same
name_quick tw3690004473572535494 for PySem.W.builtinNamed by Mine.same
name_quick tw13093406049682670325 for PySem.W.builtinNamed by Mine.same
name_quick tw10093138737291626114 for PySem.W.builtinNamed by Mine.same
name_quick tw12486923159360889557 for PySem.W.builtinNamed by Mine.same
name_quick tw1114813822896423516 for PySem.W.builtinNamed by Mine.same
name_quick tw16740809431367012072 for PySem.W.builtinNamed by Mine.same
name_quick tw13957885192907023278 for PySem.W.builtinNamed by Mine.same
name_quick tw4924204653210451756 for PySem.W.builtinNamed by Mine.same
name_quick tw1931492457569336949 for PySem.W.builtinNamed by Mine.same
name_quick tw1890052144573255014 for PySem.W.builtinNamed by Mine.same
name_quick tw9278035998920557066 for PySem.W.builtinNamed by Mine.same
name_quick tw7546696864035105972 for PySem.W.builtinNamed by Mine.same
name_quick tw2274745217480322620 for PySem.W.builtinNamed by Mine.same
name_quick tw3021662142495882376 for PySem.W.builtinNamed by Mine.same
name_quick tw6994475563950910066 for PySem.W.builtinNamed by Mine.same
name_quick tw8224036509730482814 for PySem.W.builtinNamed by Mine.same
name_quick tw18376124746352338353 for PySem.W.builtinNamed by Mine.same
name_quick tw3658073714236363272 for PySem.W.builtinNamed by Mine.same
name_quick tw16664525580734454474 for PySem.W.builtinNamed by Mine.same
name_quick tw10130457385843319492 for PySem.W.builtinNamed by Mine.same
name_quick tw1314245787677981206 for PySem.W.builtinNamed by Mine.same
name_quick tw6979077022020848726 for PySem.W.builtinNamed by Mine.same
name_quick tw15809393420182293849 for PySem.W.builtinNamed by Mine.same
name_quick tw14611747934823827666 for PySem.W.builtinNamed by Mine.same
name_quick tw14576111052705202291 for PySem.W.builtinNamed by Mine.same
name_quick tw16330123222990549550 for PySem.W.builtinNamed by Mine.same
name_quick tw6791395569936890074 for PySem.W.builtinNamed by Mine.same
name_quick tw18152946477881199021 for PySem.W.builtinNamed by Mine.same
name_quick tw12753524265053772686 for PySem.W.builtinNamed by Mine.same
name_quick tw16386082214663358790 for PySem.W.builtinNamed by Mine.same
name_quick tw6887123729473480690 for PySem.W.builtinNamed by Mine.same
name_quick tw13081739545671470733 for PySem.W.builtinNamed by Mine.same
name_quick tw2592733918425400688 for PySem.W.builtinNamed by Mine.same
name_quick tw3028809238674069312 for PySem.W.builtinNamed by Mine.same
name_quick tw16890957471890283335 for PySem.W.builtinNamed by Mine.same
name_quick tw10370977426243299875 for PySem.W.builtinNamed by Mine.same
name_quick tw6340081942632355631 for PySem.W.builtinNamed by Mine.same
name_quick tw4982600133327736497 for PySem.W.builtinNamed by Mine.same
name_quick tw679411382544638733 for PySem.W.builtinNamed by Mine.same
name_quick tw13779996379206222858 for PySem.W.builtinNamed by Mine.same
name_quick tw5667206866542682710 for PySem.W.builtinNamed by Mine.same
name_quick tw5833164064332945976 for PySem.W.builtinNamed by Mine.same
name_quick tw11283844974245390056 for PySem.W.builtinNamed by Mine.same
name_quick tw8575277984822008253 for PySem.W.builtinNamed by Mine.same
name_quick tw12969845938888762743 for PySem.W.builtinNamed by Mine.same
name_quick tw2569379427233429424 for PySem.W.builtinNamed by Mine.same
name_quick tw14324650282680631772 for PySem.W.builtinNamed by Mine.same
name_quick tw10709910926391421053 for PySem.W.builtinNamed by Mine.same
name_quick tw8792647436461257888 for PySem.W.builtinNamed by Mine.same
name_quick tw11944995292548586135 for PySem.W.builtinNamed by Mine.same
name_quick tw13989450883521708045 for PySem.W.builtinNamed by Mine.same
name_quick tw14683338212173448448 for PySem.W.builtinNamed by Mine.same
name_quick tw11603049743657732206 for PySem.W.builtinNamed by Mine.same
name_quick tw2830260952808357635 for PySem.W.builtinNamed by Mine.same
name_quick tw17561452407022822359 for PySem.W.builtinNamed by Mine.same
name_quick tw6594996852889820678 for PySem.W.builtinNamed by Mine.same
name_quick tw17217393979242648641 for PySem.W.builtinNamed by Mine.same
name_quick tw8449478867250497089 for PySem.W.builtinNamed by Mine.same
name_quick tw16992765971788618816 for PySem.W.builtinNamed by Mine.same
name_quick tw14206215022458406082 for PySem.W.builtinNamed by Mine.same
name_quick tw17113192592152787139 for PySem.W.builtinNamed by Mine.same
name_quick tw18406259749595555382 for PySem.W.builtinNamed by Mine.same
name_quick tw11935496883876711241 for PySem.W.builtinNamed by Mine.same
name_quick tw10998742780806163804 for PySem.W.builtinNamed by Mine.same
name_quick tw14837478308138769919 for PySem.W.builtinNamed by Mine.same
name_quick tw4021464344289352773 for PySem.W.builtinNamed by Mine.same
name_quick tw15816787566881520730 for PySem.W.builtinNamed by Mine.same
name_quick tw8201052966315238307 for PySem.W.builtinNamed by Mine.same
name_quick tw831219609482436666 for PySem.W.builtinNamed by Mine.same
name_quick tw996842250366383916 for PySem.W.builtinNamed by Mine.same
name_quick tw932564696582215243 for PySem.W.builtinNamed by Mine.same
name_quick tw16838338858627771664 for PySem.W.builtinNamed by Mine.same
name_quick tw8340181149785064845 for PySem.W.builtinNamed by Mine.same
name_quick tw2992617523926648259 for PySem.W.builtinNamed by Mine.same
name_quick tw8539536013687795691 for PySem.W.builtinNamed by Mine.same
name_quick tw8680876785661556703 for PySem.W.builtinNamed by Mine.same
name_quick tw13246738795717754427 for PySem.W.builtinNamed by Mine.same
name_quick tw15914388493215095988 for PySem.W.builtinNamed by Mine.same
name_quick tw5138570539597763711 for PySem.W.builtinNamed by Mine.same
name_quick tw3209247280473836556 for PySem.W.builtinNamed by Mine.same
name_quick tw10760903785710379735 for PySem.W.builtinNamed by Mine.same
name_quick tw2129646429060759982 for PySem.W.builtinNamed by Mine.same
name_quick tw14753180247821722389 for PySem.W.builtinNamed by Mine.same
name_quick tw5746444070925331601 for PySem.W.builtinNamed by Mine.same
name_quick tw4687261247909765827 for PySem.W.builtinNamed by Mine.same
name_quick tw5104636844848578947 for PySem.W.builtinNamed by Mine.same
name_quick tw10760617980445206966 for PySem.W.builtinNamed by Mine.same
name_quick tw6172964432078805767 for PySem.W.builtinNamed by Mine.same
name_quick tw7179554411714267339 for PySem.W.builtinNamed by Mine.same
name_quick tw4317797419650484853 for PySem.W.builtinNamed by Mine.same
name_quick tw16672020586892946893 for PySem.W.builtinNamed by Mine.same
name_quick tw8544526651172748129 for PySem.W.builtinNamed by Mine.same
name_quick tw9214338796010893775 for PySem.W.builtinNamed by Mine.same
name_quick tw9564813573115029756 for PySem.W.builtinNamed by Mine.same
name_quick tw14488931840207008791 for PySem.W.builtinNamed by Mine.same
name_quick tw15812801437646067978 for PySem.W.builtinNamed by Mine.same
name_quick tw14568889021321218621 for PySem.W.builtinNamed by Mine.same
name_quick tw6409639410131605996 for PySem.W.builtinNamed by Mine.same
name_quick tw8813665272056777699 for PySem.W.builtinNamed by Mine.same
name_quick tw16344748958838268951 for PySem.W.builtinNamed by Mine.same
name_quick tw13460142927170197197 for PySem.W.builtinNamed by Mine.same
name_quick tw11820481029500048000 for PySem.W.builtinNamed by Mine.same
name_quick tw11731464870109976265 for PySem.W.builtinNamed by Mine.same
name_quick tw17765890119292912811 for PySem.W.builtinNamed by Mine.same
name_quick tw3607986424251702926 for PySem.W.builtinNamed by Mine.same
name_quick tw5067929041772471671 for PySem.W.builtinNamed by Mine.same
name_quick tw13506002754907297103 for PySem.W.builtinNamed by Mine.same
name_quick tw10701875015942570995 for PySem.W.builtinNamed by Mine.same
name_quick tw10174420995824786253 for PySem.W.builtinNamed by Mine.same
name_quick tw10259498394322156110 for PySem.W.builtinNamed by Mine.same
name_quick tw3721259950475247031 for PySem.W.builtinNamed by Mine.same
name_quick tw7503511575894757095 for PySem.W.builtinNamed by Mine.same
name_quick tw9167423241445851730 for PySem.W.builtinNamed by Mine.same
name_quick tw1003259972624491245 for PySem.W.builtinNamed by Mine.same
name_quick tw8277994911971327351 for PySem.W.builtinNamed by Mine.same
name_quick tw10568396367368474405 for PySem.W.builtinNamed by Mine.same
name_quick tw3341394541840090528 for PySem.W.builtinNamed by Mine.same
name_quick tw6435087000062974347 for PySem.W.builtinNamed by Mine.same
name_quick tw11693603240716206151 for PySem.W.builtinNamed by Mine.same
name_quick tw1838471277116072329 for PySem.W.builtinNamed by Mine.same
name_quick tw12192867710165486006 for PySem.W.builtinNamed by Mine.same
name_quick tw13395962948104522543 for PySem.W.builtinNamed by Mine.same
name_quick tw15130456614080670545 for PySem.W.builtinNamed by Mine.same
name_quick tw2121451671014115521 for PySem.W.builtinNamed by Mine.same
name_quick tw15784266638839002814 for PySem.W.builtinNamed by Mine.same
name_quick tw89857462072719013 for PySem.W.builtinNamed by Mine.same
name_quick tw17518053659042494363 for PySem.W.builtinNamed by Mine.same
name_quick tw1619224288640281375 for PySem.W.builtinNamed by Mine.same
name_quick tw14712583523952917632 for PySem.W.builtinNamed by Mine.same
name_quick tw7076086005701644345 for PySem.W.builtinNamed by Mine.same
name_quick tw3355933355204477132 for PySem.W.builtinNamed by Mine.same
name_quick tw1157539527023902820 for PySem.W.builtinNamed by Mine.same
name_quick tw12163539342651646410 for PySem.W.builtinNamed by Mine.same
name_quick tw11104879983197146332 for PySem.W.builtinNamed by Mine.same
name_quick tw1766933327754320537 for PySem.W.builtinNamed by Mine.same
name_quick tw82954066167114527 for PySem.W.builtinNamed by Mine.same
name_quick tw504234804212378535 for PySem.W.builtinNamed by Mine.same
name_quick tw14926818218998136732 for PySem.W.builtinNamed by Mine.same
name_quick tw8563982680670170771 for PySem.W.builtinNamed by Mine.same
name_quick tw17698128942983848257 for PySem.W.builtinNamed by Mine.same
name_quick tw6446305241596162463 for PySem.W.builtinNamed by Mine.same
name_quick tw13010239622449640628 for PySem.W.builtinNamed by Mine.same
name_quick tw14876256309665492648 for PySem.W.builtinNamed by Mine.same
name_quick tw5262941305213763500 for PySem.W.builtinNamed by Mine.same
name_quick tw13595907093041928134 for PySem.W.builtinNamed by Mine.same
name_quick tw184216342146927618 for PySem.W.builtinNamed by Mine.same
name_quick tw4570200847975456853 for PySem.W.builtinNamed by Mine.same
name_quick tw7860883155594668248 for PySem.W.builtinNamed by Mine.same
name_quick tw6523291683194011651 for PySem.W.builtinNamed by Mine.same
name_quick tw15768834545371692535 for PySem.W.builtinNamed by Mine.same
name_quick tw1762230944816601876 for PySem.W.builtinNamed by Mine.same
name_quick tw452974480168361481 for PySem.W.builtinNamed by Mine.same
name_quick tw15749424338863009777 for PySem.W.builtinNamed by Mine.same
name_quick tw17170440108752598240 for PySem.W.builtinNamed by Mine.same
name_quick tw7733430939269062787 for PySem.W.builtinNamed by Mine.same
name_quick tw7540813594890726256 for PySem.W.builtinNamed by Mine.same
name_quick tw13217531988935208079 for PySem.W.builtinNamed by Mine.same
name_quick tw8083570265265253036 for PySem.W.builtinNamed by Mine.same
name_quick tw6217727039936017078 for PySem.W.builtinNamed by Mine.same
name_quick tw8961459597637378411 for PySem.W.builtinNamed by Mine.same
name_quick tw4485179105699015564 for PySem.W.builtinNamed by Mine.same
name_quick tw6307338414865113563 for PySem.W.builtinNamed by Mine.same
name_quick tw278248380987635344 for PySem.W.builtinNamed by Mine.same
name_quick tw6064636281027788263 for PySem.W.builtinNamed by Mine.same
name_quick tw5826663686880238792 for PySem.W.builtinNamed by Mine.same
name_quick tw11705250722019329632 for PySem.W.builtinNamed by Mine.same
name_quick tw10310373789444376190 for PySem.W.builtinNamed by Mine.same
name_quick tw3073529525119192166 for PySem.W.builtinNamed by Mine.same
name_quick tw8955342025782789642 for PySem.W.builtinNamed by Mine.same
name_quick tw4062723591138301005 for PySem.W.builtinNamed by Mine.same
name_quick tw9268340379023216951 for PySem.W.builtinNamed by Mine.same
name_quick tw9959108758387755897 for PySem.W.builtinNamed by Mine.same
name_quick tw591345406885411481 for PySem.W.builtinNamed by Mine.same
name_quick tw5529744959805744156 for PySem.W.builtinNamed by Mine.same
name_quick tw2628172757949407048 for PySem.W.builtinNamed by Mine.same
name_quick tw1428971933117114975 for PySem.W.builtinNamed by Mine.same
name_quick tw3047614400763944916 for PySem.W.builtinNamed by Mine.same
name_quick tw9131790092241798575 for PySem.W.builtinNamed by Mine.same
name_quick tw15271521057477387279 for PySem.W.builtinNamed by Mine.same
name_quick tw8943069089995209788 for PySem.W.builtinNamed by Mine.same
name_quick tw13747589934090609470 for PySem.W.builtinNamed by Mine.same
name_quick tw10911837008597817112 for PySem.W.builtinNamed by Mine.same
name_quick tw12217267350624847447 for PySem.W.builtinNamed by Mine.same
name_quick tw3190561404538329269 for PySem.W.builtinNamed by Mine.same
name_quick tw17918718276815854249 for PySem.W.builtinNamed by Mine.same
name_quick tw15547672608525270046 for PySem.W.builtinNamed by Mine.same
name_quick tw4159635414807156690 for PySem.W.builtinNamed by Mine.same
name_quick tw813726113106301227 for PySem.W.builtinNamed by Mine.same
name_quick tw6669039898433852866 for PySem.W.builtinNamed by Mine.same
name_quick tw11491678885367532547 for PySem.W.builtinNamed by Mine.same
name_quick tw14219467222510488451 for PySem.W.builtinNamed by Mine.same
name_quick tw12627187809656461275 for PySem.W.builtinNamed by Mine.same
name_quick tw5594214808588667586 for PySem.W.builtinNamed by Mine.same
name_quick tw16636530443417571727 for PySem.W.builtinNamed by Mine.same
name_quick tw9116539751305811887 for PySem.W.builtinNamed by Mine.same
name_quick tw11979448998509635796 for PySem.W.builtinNamed by Mine.same
name_quick tw14836196794758949032 for PySem.W.builtinNamed by Mine.same
name_quick tw7228817247498508145 for PySem.W.builtinNamed by Mine.same
name_quick tw4022547110096353530 for PySem.W.builtinNamed by Mine.same
name_quick tw9365334383178713796 for PySem.W.builtinNamed by Mine.same
name_quick tw1854579537452284827 for PySem.W.builtinNamed by Mine.same
name_quick tw16821271899094238040 for PySem.W.builtinNamed by Mine.same
name_quick tw17148468386165243477 for PySem.W.builtinNamed by Mine.same
name_quick tw18057790014612762583 for PySem.W.builtinNamed by Mine.same
name_quick tw10119662133050958738 for PySem.W.builtinNamed by Mine.same
name_quick tw10417951876998751367 for PySem.W.builtinNamed by Mine.same
name_quick tw7213669635153114798 for PySem.W.builtinNamed by Mine.same
name_quick tw11355664528881290881 for PySem.W.builtinNamed by Mine.same
name_quick tw8165587814774229186 for PySem.W.builtinNamed by Mine.same
name_quick tw18336627609752280899 for PySem.W.builtinNamed by Mine.same
name_quick tw3566353523458520393 for PySem.W.builtinNamed by Mine.same
name_quick tw14517328283008421335 for PySem.W.builtinNamed by Mine.same
name_quick tw4431961193618441738 for PySem.W.builtinNamed by Mine.same
name_quick tw12352520521738222429 for PySem.W.builtinNamed by Mine.same
name_quick tw15948043362347342622 for PySem.W.builtinNamed by Mine.same
name_quick tw4311576340260289040 for PySem.W.builtinNamed by Mine.same
name_quick tw39414321549452555 for PySem.W.builtinNamed by Mine.same
name_quick tw6599189474773909983 for PySem.W.builtinNamed by Mine.same
name_quick tw6299837774328325330 for PySem.W.builtinNamed by Mine.same
name_quick tw6701178348767249528 for PySem.W.builtinNamed by Mine.same
name_quick tw6820697357413783074 for PySem.W.builtinNamed by Mine.same
name_quick tw140807539891751681 for PySem.W.builtinNamed by Mine.same
name_quick tw4497641759110199724 for PySem.W.builtinNamed by Mine.same
name_quick tw7670783782619047856 for PySem.W.builtinNamed by Mine.same
name_quick tw14935808482263218034 for PySem.W.builtinNamed by Mine.same
name_quick tw5137330670403824726 for PySem.W.builtinNamed by Mine.same
name_quick tw16490222111777447473 for PySem.W.builtinNamed by Mine.same
name_quick tw6364163039300263182 for PySem.W.builtinNamed by Mine.same
name_quick tw12399759704475442213 for PySem.W.builtinNamed by Mine.same
name_quick tw3192841019773747507 for PySem.W.builtinNamed by Mine.same
name_quick tw3450139735017335226 for PySem.W.builtinNamed by Mine.same
name_quick tw18314349533907039979 for PySem.W.builtinNamed by Mine.same
name_quick tw4607080819068979694 for PySem.W.builtinNamed by Mine.same
name_quick tw890104149739467608 for PySem.W.builtinNamed by Mine.same
name_quick tw17268022438882417110 for PySem.W.builtinNamed by Mine.same
name_quick tw11637990289687013892 for PySem.W.builtinNamed by Mine.same
name_quick tw17773930763006801077 for PySem.W.builtinNamed by Mine.same
name_quick tw4309552115877303680 for PySem.W.builtinNamed by Mine.same
name_quick tw13409275976153764349 for PySem.W.builtinNamed by Mine.same
name_quick tw1005486213723411704 for PySem.W.builtinNamed by Mine.same
name_quick tw14133253228050852241 for PySem.W.builtinNamed by Mine.same
name_quick tw3918472813188765375 for PySem.W.builtinNamed by Mine.same
name_quick tw9782135339655401579 for PySem.W.builtinNamed by Mine.same
name_quick tw772568155239984789 for PySem.W.builtinNamed by Mine.same
name_quick tw7768245405469262885 for PySem.W.builtinNamed by Mine.same
name_quick tw14704456171648797003 for PySem.W.builtinNamed by Mine.same
name_quick tw11799063551084013627 for PySem.W.builtinNamed by Mine.same
name_quick tw8662005325746947615 for PySem.W.builtinNamed by Mine.same
name_quick tw16547559128296770393 for PySem.W.builtinNamed by Mine.same
name_quick tw12023685858437060488 for PySem.W.builtinNamed by Mine.same
name_quick tw4484557811141459300 for PySem.W.builtinNamed by Mine.same
name_quick tw6043044946066746005 for PySem.W.builtinNamed by Mine.same
name_quick tw14349927937860759479 for PySem.W.builtinNamed by Mine.same
name_quick tw2430274047013396081 for PySem.W.builtinNamed by Mine.same
name_quick tw17509207153764664783 for PySem.W.builtinNamed by Mine.same
name_quick tw24327950189074889 for PySem.W.builtinNamed by Mine.same
name_quick tw15216194349883376149 for PySem.W.builtinNamed by Mine.same
name_quick tw15229083304784449539 for PySem.W.builtinNamed by Mine.same
name_quick tw305262865318229498 for PySem.W.builtinNamed by Mine.same
name_quick tw654529283365609709 for PySem.W.builtinNamed by Mine.same
name_quick tw15937026585992652461 for PySem.W.builtinNamed by Mine.same
name_quick tw8760173865882748026 for PySem.W.builtinNamed by Mine.same
name_quick tw12556392298279315534 for PySem.W.builtinNamed by Mine.same
name_quick tw4458714603005428949 for PySem.W.builtinNamed by Mine.same
name_quick tw7345040818267539162 for PySem.W.builtinNamed by Mine.same
name_quick tw17190060761393679146 for PySem.W.builtinNamed by Mine.same
name_quick tw11007734028200460864 for PySem.W.builtinNamed by Mine.same
name_quick tw17715465558245386583 for PySem.W.builtinNamed by Mine.same
name_quick tw16915267185663621630 for PySem.W.builtinNamed by Mine.same
name_quick tw6451296204724595617 for PySem.W.builtinNamed by Mine.same
name_quick tw2216811617145289616 for PySem.W.builtinNamed by Mine.same
name_quick tw5630738775198739931 for PySem.W.builtinNamed by Mine.same
name_quick tw621136561980868157 for PySem.W.builtinNamed by Mine.same
name_quick tw4728018739393944921 for PySem.W.builtinNamed by Mine.same
name_quick tw14253884601668717598 for PySem.W.builtinNamed by Mine.same
name_quick tw16602530050901124484 for PySem.W.builtinNamed by Mine.same
name_quick tw6343123290086978289 for PySem.W.builtinNamed by Mine.same
name_quick tw11524684792860033401 for PySem.W.builtinNamed by Mine.same
name_quick tw16421717081807973840 for PySem.W.builtinNamed by Mine.same
name_quick tw8167362227909290159 for PySem.W.builtinNamed by Mine.same
name_quick tw15706214338503282285 for PySem.W.builtinNamed by Mine.same
name_quick tw3019711633249751898 for PySem.W.builtinNamed by Mine.same
name_quick tw10625822384926582717 for PySem.W.builtinNamed by Mine.same
name_quick tw11797389938168497334 for PySem.W.builtinNamed by Mine.same
name_quick tw5654398567185175137 for PySem.W.builtinNamed by Mine.same
name_quick tw8283363068038363799 for PySem.W.builtinNamed by Mine.same
name_quick tw6356663948132360330 for PySem.W.builtinNamed by Mine.same
name_quick tw7367339903079687192 for PySem.W.builtinNamed by Mine.same
name_quick tw10933728512131883801 for PySem.W.builtinNamed by Mine.same
name_quick tw3257047830155026298 for PySem.W.builtinNamed by Mine.same
name_quick tw283781392992846507 for PySem.W.builtinNamed by Mine.same
name_quick tw4741857744718784045 for PySem.W.builtinNamed by Mine.same
name_quick tw1524951117734292578 for PySem.W.builtinNamed by Mine.same
name_quick tw5615652815842208381 for PySem.W.builtinNamed by Mine.same
name_quick tw16291821466657704948 for PySem.W.builtinNamed by Mine.same
name_quick tw9261663601489706039 for PySem.W.builtinNamed by Mine.same
name_quick tw11179090561063263775 for PySem.W.builtinNamed by Mine.same
name_quick tw13662630887034756012 for PySem.W.builtinNamed by Mine.same
name_quick tw12631508340437170816 for PySem.W.builtinNamed by Mine.same
name_quick tw16446585198246008316 for PySem.W.builtinNamed by Mine.same
name_quick tw14874626071484216755 for PySem.W.builtinNamed by Mine.same
name_quick tw1513212758792147673 for PySem.W.builtinNamed by Mine.same
name_quick tw8286020983483056885 for PySem.W.builtinNamed by Mine.same
name_quick tw1701742851032049239 for PySem.W.builtinNamed by Mine.same
name_quick tw3855599437750891695 for PySem.W.builtinNamed by Mine.same
name_quick tw12615891267511702103 for PySem.W.builtinNamed by Mine.same
name_quick tw13962723315682333324 for PySem.W.builtinNamed by Mine.same
name_quick tw2881715330879564503 for PySem.W.builtinNamed by Mine.same
name_quick tw9334203189931341491 for PySem.W.builtinNamed by Mine.same
name_quick tw15543001486523051592 for PySem.W.builtinNamed by Mine.same
name_quick tw9506928616363881636 for PySem.W.builtinNamed by Mine.same
name_quick tw5833596220364641661 for PySem.W.builtinNamed by Mine.same
name_quick tw4248827110856455679 for PySem.W.builtinNamed by Mine.same
name_quick tw5918424481922706018 for PySem.W.builtinNamed by Mine.same
name_quick tw13466022962252580754 for PySem.W.builtinNamed by Mine.same
name_quick tw13500045701546134882 for PySem.W.builtinNamed by Mine.same
name_quick tw9843694215576245536 for PySem.W.builtinNamed by Mine.same
name_quick tw8183525835515976384 for PySem.W.builtinNamed by Mine.same
name_quick tw4710867739169124974 for PySem.W.builtinNamed by Mine.same
name_quick tw17378134022378180489 for PySem.W.builtinNamed by Mine.same
name_quick tw15365033042893241300 for PySem.W.builtinNamed by Mine.same
name_quick tw15485290940082253110 for PySem.W.builtinNamed by Mine.same
name_quick tw13686827144338926801 for PySem.W.builtinNamed by Mine.same
name_quick tw13682800614872795554 for PySem.W.builtinNamed by Mine.same
name_quick tw722523939796224688 for PySem.W.builtinNamed by Mine.same
name_quick tw17261996812171352113 for PySem.W.builtinNamed by Mine.same
name_quick tw1582283490903073994 for PySem.W.builtinNamed by Mine.same
name_quick tw12452074465605137766 for PySem.W.builtinNamed by Mine.same
name_quick tw564021999623035964 for PySem.W.builtinNamed by Mine.same
name_quick tw2235900406447983735 for PySem.W.builtinNamed by Mine.same
name_quick tw12880712583311929037 for PySem.W.builtinNamed by Mine.same
name_quick tw5490201516904522765 for PySem.W.builtinNamed by Mine.same
name_quick tw6390165058266779287 for PySem.W.builtinNamed by Mine.same
name_quick tw15646585774755835739 for PySem.W.builtinNamed by Mine.same
name_quick tw2280741961345178078 for PySem.W.builtinNamed by Mine.same
name_quick tw10690490952792556423 for PySem.W.builtinNamed by Mine.same
name_quick tw6931873055117973706 for PySem.W.builtinNamed by Mine.same
name_quick tw12468507654342452576 for PySem.W.builtinNamed by Mine.same
name_quick tw6407840730549124209 for PySem.W.builtinNamed by Mine.same
name_quick tw15196238354983407963 for PySem.W.builtinNamed by Mine.same
name_quick tw10829645603614710186 for PySem.W.builtinNamed by Mine.same
name_quick tw3220743179718508866 for PySem.W.builtinNamed by Mine.same
name_quick tw9912644220960994360 for PySem.W.builtinNamed by Mine.same
name_quick tw4863852448278879157 for PySem.W.builtinNamed by Mine.same
name_quick tw5334321346636923987 for PySem.W.builtinNamed by Mine.same
name_quick tw1180976166710508488 for PySem.W.builtinNamed by Mine.same
name_quick tw3726196046921080772 for PySem.W.builtinNamed by Mine.same
name_quick tw16323587472688317505 for PySem.W.builtinNamed by Mine.same
name_quick tw11185632053217419380 for PySem.W.builtinNamed by Mine.same
name_quick tw6848926263182462706 for PySem.W.builtinNamed by Mine.same
name_quick tw14075999913522887941 for PySem.W.builtinNamed by Mine.same
name_quick tw4191018913501547256 for PySem.W.builtinNamed by Mine.same
name_quick tw1092460346045001320 for PySem.W.builtinNamed by Mine.same
name_quick tw16478173411631125936 for PySem.W.builtinNamed by Mine.same
name_quick tw14131536561898173296 for PySem.W.builtinNamed by Mine.same
name_quick tw15060742668610652890 for PySem.W.builtinNamed by Mine.same
name_quick tw17270508763977648400 for PySem.W.builtinNamed by Mine.same
name_quick tw2631756721495805941 for PySem.W.builtinNamed by Mine.same
name_quick tw3954589117673892834 for PySem.W.builtinNamed by Mine.same
name_quick tw1832623323352642639 for PySem.W.builtinNamed by Mine.same
name_quick tw13403114286537665727 for PySem.W.builtinNamed by Mine.same
name_quick tw12677306799840223572 for PySem.W.builtinNamed by Mine.same
name_quick tw15653418951494648927 for PySem.W.builtinNamed by Mine.same
name_quick tw14143910120438090499 for PySem.W.builtinNamed by Mine.same
name_quick tw5657678126698467677 for PySem.W.builtinNamed by Mine.same
name_quick tw8370300000557623020 for PySem.W.builtinNamed by Mine.same
name_quick tw6012357971237815710 for PySem.W.builtinNamed by Mine.same
name_quick tw9966120229849673342 for PySem.W.builtinNamed by Mine.same
name_quick tw15611753642064658754 for PySem.W.builtinNamed by Mine.same
name_quick tw17310124150387577701 for PySem.W.builtinNamed by Mine.same
name_quick tw9256553966135769110 for PySem.W.builtinNamed by Mine.same
name_quick tw2944380855085594752 for PySem.W.builtinNamed by Mine.same
name_quick tw16129628973965826104 for PySem.W.builtinNamed by Mine.same
name_quick tw736506037488448539 for PySem.W.builtinNamed by Mine.same
name_quick tw18093058545204823135 for PySem.W.builtinNamed by Mine.same
name_quick tw8863953000229271132 for PySem.W.builtinNamed by Mine.same
name_quick tw12392334066437946872 for PySem.W.builtinNamed by Mine.same
name_quick tw635503231470822383 for PySem.W.builtinNamed by Mine.same
name_quick tw1077592814353289895 for PySem.W.builtinNamed by Mine.same
name_quick tw1966509743730629842 for PySem.W.builtinNamed by Mine.same
name_quick tw12792935633007503141 for PySem.W.builtinNamed by Mine.same
name_quick tw1316947792488361303 for PySem.W.builtinNamed by Mine.same
name_quick tw5833197976460081826 for PySem.W.builtinNamed by Mine.same
name_quick tw13318412902686757081 for PySem.W.builtinNamed by Mine.same
name_quick tw12236028946580562652 for PySem.W.builtinNamed by Mine.same
name_quick tw16162345646803186227 for PySem.W.builtinNamed by Mine.same
name_quick tw3557859405615330880 for PySem.W.builtinNamed by Mine.same
name_quick tw291027490537163499 for PySem.W.builtinNamed by Mine.same
name_quick tw16188209136327902244 for PySem.W.builtinNamed by Mine.same
name_quick tw8870132402281992917 for PySem.W.builtinNamed by Mine.same
name_quick tw8995064129675966167 for PySem.W.builtinNamed by Mine.same
name_quick tw2880927215252931418 for PySem.W.builtinNamed by Mine.same
name_quick tw1538156033249374816 for PySem.W.builtinNamed by Mine.same
name_quick tw607022258586970951 for PySem.W.builtinNamed by Mine.same
name_quick tw10985140987826207362 for PySem.W.builtinNamed by Mine.same
name_quick tw4144472095339119366 for PySem.W.builtinNamed by Mine.same
name_quick tw1418654741153939361 for PySem.W.builtinNamed by Mine.same
name_quick tw7598500810003778635 for PySem.W.builtinNamed by Mine.same
name_quick tw15273473366250816372 for PySem.W.builtinNamed by Mine.same
name_quick tw17762615999747805395 for PySem.W.builtinNamed by Mine.same
name_quick tw7049086385015950857 for PySem.W.builtinNamed by Mine.same
name_quick tw10618949838904050771 for PySem.W.builtinNamed by Mine.same
name_quick tw12975695706392819176 for PySem.W.builtinNamed by Mine.same
name_quick tw13230703186325386075 for PySem.W.builtinNamed by Mine.same
name_quick tw2293913923978586345 for PySem.W.builtinNamed by Mine.same
name_quick tw5126745296832811337 for PySem.W.builtinNamed by Mine.same
name_quick tw11636877632634364497 for PySem.W.builtinNamed by Mine.same
name_quick tw5170472078049488662 for PySem.W.builtinNamed by Mine.same
name_quick tw15994069886160475766 for PySem.W.builtinNamed by Mine.same
name_quick tw4468779571383381044 for PySem.W.builtinNamed by Mine.same
name_quick tw18083183532850269600 for PySem.W.builtinNamed by Mine.same
name_quick tw15047665732077612247 for PySem.W.builtinNamed by Mine.same
name_quick tw11751034367806878874 for PySem.W.builtinNamed by Mine.same
name_quick tw7372870670852997948 for PySem.W.builtinNamed by Mine.same
name_quick tw16741404306110078804 for PySem.W.builtinNamed by Mine.same
name_quick tw10269538462011699649 for PySem.W.builtinNamed by Mine.same
name_quick tw17123070430790698077 for PySem.W.builtinNamed by Mine.same
name_quick tw16748080836575587039 for PySem.W.builtinNamed by Mine.same
name_quick tw6258616261984751030 for PySem.W.builtinNamed by Mine.same
name_quick tw5249780327875952940 for PySem.W.builtinNamed by Mine.same
name_quick tw1719556802569731188 for PySem.W.builtinNamed by Mine.same
name_quick tw14365038026979191097 for PySem.W.builtinNamed by Mine.same
name_quick tw5552139386092002703 for PySem.W.builtinNamed by Mine.same
name_quick tw9170269622370780916 for PySem.W.builtinNamed by Mine.same
name_quick tw12394757228545633398 for PySem.W.builtinNamed by Mine.same
name_quick tw11470481056014883661 for PySem.W.builtinNamed by Mine.same
name_quick tw7496063868277158226 for PySem.W.builtinNamed by Mine.same
name_quick tw5508679326911683604 for PySem.W.builtinNamed by Mine.same
name_quick tw9266257219589214770 for PySem.W.builtinNamed by Mine.same
name_quick tw13987700758178989221 for PySem.W.builtinNamed by Mine.same
name_quick tw5605519205118327553 for PySem.W.builtinNamed by Mine.same
name_quick tw2092647040680868688 for PySem.W.builtinNamed by Mine.same
name_quick tw4352140532167239302 for PySem.W.builtinNamed by Mine.same
name_quick tw3784066813283486086 for PySem.W.builtinNamed by Mine.same
name_quick tw12643816302597777117 for PySem.W.builtinNamed by Mine.same
name_quick tw9625248467396128542 for PySem.W.builtinNamed by Mine.same
name_quick tw7943328586354464026 for PySem.W.builtinNamed by Mine.same
name_quick tw5036558568726553653 for PySem.W.builtinNamed by Mine.same
name_quick tw7287956165908374934 for PySem.W.builtinNamed by Mine.same
name_quick tw3764884261992751268 for PySem.W.builtinNamed by Mine.same
name_quick tw15222936783725397906 for PySem.W.builtinNamed by Mine.same
name_quick tw56866815362916575 for PySem.W.builtinNamed by Mine.same
name_quick tw5687603680080032254 for PySem.W.builtinNamed by Mine.same
name_quick tw14844528141039024724 for PySem.W.builtinNamed by Mine.same
name_quick tw8246617427558122867 for PySem.W.builtinNamed by Mine.same
name_quick tw10876638640949613078 for PySem.W.builtinNamed by Mine.same
name_quick tw14226553269443459984 for PySem.W.builtinNamed by Mine.same
name_quick tw18311493435773130022 for PySem.W.builtinNamed by Mine.same
name_quick tw4163209795543262130 for PySem.W.builtinNamed by Mine.same
name_quick tw5816912837239578665 for PySem.W.builtinNamed by Mine.same
name_quick tw5370206494000746145 for PySem.W.builtinNamed by Mine.same
name_quick tw10323799509492320452 for PySem.W.builtinNamed by Mine.same
name_quick tw2619801066983785062 for PySem.W.builtinNamed by Mine.same
name_quick tw17702021673004350859 for PySem.W.builtinNamed by Mine.same
name_quick tw6162967669669326144 for PySem.W.builtinNamed by Mine.same
name_quick tw4231093261727588703 for PySem.W.builtinNamed by Mine.same
name_quick tw8243019186934151973 for PySem.W.builtinNamed by Mine.same
name_quick tw239895691651737985 for PySem.W.builtinNamed by Mine.same
name_quick tw13781690351317420907 for PySem.W.builtinNamed by Mine.same
name_quick tw4611867582626475017 for PySem.W.builtinNamed by Mine.same
name_quick tw2743145595313227731 for PySem.W.builtinNamed by Mine.same
name_quick tw1582066815086470097 for PySem.W.builtinNamed by Mine.same
name_quick tw377019982011898690 for PySem.W.builtinNamed by Mine.same
name_quick tw3672265587817265479 for PySem.W.builtinNamed by Mine.same
name_quick tw3230561360577147332 for PySem.W.builtinNamed by Mine.same
name_quick tw113838640186960119 for PySem.W.builtinNamed by Mine.same
name_quick tw13555566128974707454 for PySem.W.builtinNamed by Mine.same
name_quick tw7048244180689168584 for PySem.W.builtinNamed by Mine.same
name_quick tw5600517304484940917 for PySem.W.builtinNamed by Mine.same
name_quick tw5992308411525109793 for PySem.W.builtinNamed by Mine.same
name_quick tw6906707182644889494 for PySem.W.builtinNamed by Mine.same
name_quick tw8212701064242708811 for PySem.W.builtinNamed by Mine.same
name_quick tw9318051184599435196 for PySem.W.builtinNamed by Mine.same
name_quick tw4140628106557628263 for PySem.W.builtinNamed by Mine.same
name_quick tw5595247858640713330 for PySem.W.builtinNamed by Mine.same
name_quick tw7467429859572636060 for PySem.W.builtinNamed by Mine.same
name_quick tw13442360802058062187 for PySem.W.builtinNamed by Mine.same
name_quick tw5033709505225463266 for PySem.W.builtinNamed by Mine.same
name_quick tw3496805870979508223 for PySem.W.builtinNamed by Mine.same
name_quick tw12131107306553986914 for PySem.W.builtinNamed by Mine.same
name_quick tw8690037792674472508 for PySem.W.builtinNamed by Mine.same
name_quick tw12417820869812716289 for PySem.W.builtinNamed by Mine.same
name_quick tw2839026817515421663 for PySem.W.builtinNamed by Mine.same
name_quick tw15572852359065928030 for PySem.W.builtinNamed by Mine.same
name_quick tw4196156624044457188 for PySem.W.builtinNamed by Mine.same
name_quick tw5908550434731509463 for PySem.W.builtinNamed by Mine.same
name_quick tw15708397887730719774 for PySem.W.builtinNamed by Mine.same
name_quick tw11937000114074067780 for PySem.W.builtinNamed by Mine.same
name_quick tw6806279155570363864 for PySem.W.builtinNamed by Mine.same
name_quick tw14546402689763028342 for PySem.W.builtinNamed by Mine.same
name_quick tw5041339186411373048 for PySem.W.builtinNamed by Mine.same
name_quick tw17960529966288479729 for PySem.W.builtinNamed by Mine.same
name_quick tw9701742555195594262 for PySem.W.builtinNamed by Mine.same
name_quick tw10135395814497728685 for PySem.W.builtinNamed by Mine.same
name_quick tw2708649419725508062 for PySem.W.builtinNamed by Mine.same
name_quick tw1475531584000852890 for PySem.W.builtinNamed by Mine.same
name_quick tw16385172682136163151 for PySem.W.builtinNamed by Mine.same
name_quick tw1845317713562199449 for PySem.W.builtinNamed by Mine.same
name_quick tw4536017239396226554 for PySem.W.builtinNamed by Mine.same
name_quick tw15171437771834901901 for PySem.W.builtinNamed by Mine.same
name_quick tw6278870154242366850 for PySem.W.builtinNamed by Mine.same
name_quick tw7556635844618541217 for PySem.W.builtinNamed by Mine.same
name_quick tw6806118676310877730 for PySem.W.builtinNamed by Mine.same
name_quick tw9024877791047266775 for PySem.W.builtinNamed by Mine.same
name_quick tw2932118138721927472 for PySem.W.builtinNamed by Mine.same
name_quick tw9312077662991895385 for PySem.W.builtinNamed by Mine.same
name_quick tw6380941820014770887 for PySem.W.builtinNamed by Mine.same
name_quick tw9076302509406563238 for PySem.W.builtinNamed by Mine.same
name_quick tw12441527547890133186 for PySem.W.builtinNamed by Mine.same
name_quick tw4590684211893071689 for PySem.W.builtinNamed by Mine.same
name_quick tw5093101195285203624 for PySem.W.builtinNamed by Mine.same
name_quick tw7654773712067035244 for PySem.W.builtinNamed by Mine.same
name_quick tw9401789670108449385 for PySem.W.builtinNamed by Mine.same
name_quick tw2940912266172280924 for PySem.W.builtinNamed by Mine.same
name_quick tw13947966239634940363 for PySem.W.builtinNamed by Mine.same
name_quick tw6974986795827744495 for PySem.W.builtinNamed by Mine.same
name_quick tw2294243455285256318 for PySem.W.builtinNamed by Mine.same
name_quick tw4377773555509667721 for PySem.W.builtinNamed by Mine.same
name_quick tw1079973150027690862 for PySem.W.builtinNamed by Mine.same
name_quick tw5253931004882914412 for PySem.W.builtinNamed by Mine.same
name_quick tw9890652396077810862 for PySem.W.builtinNamed by Mine.same
name_quick tw3724861942406001584 for PySem.W.builtinNamed by Mine.same
name_quick tw16684250712206911090 for PySem.W.builtinNamed by Mine.same
name_quick tw8999258098659886469 for PySem.W.builtinNamed by Mine.same
name_quick tw16002638161346253638 for PySem.W.builtinNamed by Mine.same
name_quick tw14310859916061322240 for PySem.W.builtinNamed by Mine.same
name_quick tw15057122438013472272 for PySem.W.builtinNamed by Mine.same
name_quick tw9867266410840973663 for PySem.W.builtinNamed by Mine.same
name_quick tw14092375061832278963 for PySem.W.builtinNamed by Mine.same
name_quick tw5443442382658945916 for PySem.W.builtinNamed by Mine.same
name_quick tw14124034558580679333 for PySem.W.builtinNamed by Mine.same
name_quick tw8693463559698953332 for PySem.W.builtinNamed by Mine.same
name_quick tw15675464857194701434 for PySem.W.builtinNamed by Mine.same
name_quick tw9706954022631595677 for PySem.W.builtinNamed by Mine.same
name_quick tw6062427595159182352 for PySem.W.builtinNamed by Mine.same
name_quick tw8189013159251996862 for PySem.W.builtinNamed by Mine.same
name_quick tw3204089287296870994 for PySem.W.builtinNamed by Mine.same
name_quick tw4939925202403637862 for PySem.W.builtinNamed by Mine.same
name_quick tw10556325637872403733 for PySem.W.builtinNamed by Mine.same
name_quick tw324687857050631260 for PySem.W.builtinNamed by Mine.same
name_quick tw8674878145977495721 for PySem.W.builtinNamed by Mine.same
name_quick tw1426093738576527082 for PySem.W.builtinNamed by Mine.same
name_quick tw14548888892296898513 for PySem.W.builtinNamed by Mine.same
name_quick tw11323373762250077835 for PySem.W.builtinNamed by Mine.same
name_quick tw3802785356467963318 for PySem.W.builtinNamed by Mine.same
name_quick tw9102804779382121721 for PySem.W.builtinNamed by Mine.same
name_quick tw3593098261779877177 for PySem.W.builtinNamed by Mine.same
name_quick tw15478636215681596072 for PySem.W.builtinNamed by Mine.same
name_quick tw5573279809749147608 for PySem.W.builtinNamed by Mine.same
name_quick tw3147626856985178844 for PySem.W.builtinNamed by Mine.same
name_quick tw3998925602106894197 for PySem.W.builtinNamed by Mine.same
name_quick tw10075871512320844396 for PySem.W.builtinNamed by Mine.same
name_quick tw5425129026111379582 for PySem.W.builtinNamed by Mine.same
name_quick tw16083050490177186282 for PySem.W.builtinNamed by Mine.same
name_quick tw4774996882896595831 for PySem.W.builtinNamed by Mine.same
name_quick tw17899344255478708456 for PySem.W.builtinNamed by Mine.same
name_quick tw10264656693057960329 for PySem.W.builtinNamed by Mine.same
name_quick tw15473688543242519357 for PySem.W.builtinNamed by Mine.same
name_quick tw15339447492244078055 for PySem.W.builtinNamed by Mine.same
name_quick tw15645987884452268409 for PySem.W.builtinNamed by Mine.same
name_quick tw8230297438972278880 for PySem.W.builtinNamed by Mine.same
name_quick tw17015087692585115974 for PySem.W.builtinNamed by Mine.same
name_quick tw8866904016536251379 for PySem.W.builtinNamed by Mine.same
name_quick tw4186512700621708740 for PySem.W.builtinNamed by Mine.same
name_quick tw12383317116178747991 for PySem.W.builtinNamed by Mine.same
name_quick tw13462263225359940684 for PySem.W.builtinNamed by Mine.same
name_quick tw18369470151228448745 for PySem.W.builtinNamed by Mine.same
name_quick tw2819961709785284872 for PySem.W.builtinNamed by Mine.same
name_quick tw16806198128448588524 for PySem.W.builtinNamed by Mine.same
name_quick tw6719526428132290506 for PySem.W.builtinNamed by Mine.same
name_quick tw13878975785910253098 for PySem.W.builtinNamed by Mine.same
name_quick tw4553833442948217920 for PySem.W.builtinNamed by Mine.same
name_quick tw6442918598679262191 for PySem.W.builtinNamed by Mine.same
name_quick tw6146343155856592717 for PySem.W.builtinNamed by Mine.same
name_quick tw17703235688659341081 for PySem.W.builtinNamed by Mine.same
name_quick tw7124043436312266945 for PySem.W.builtinNamed by Mine.same
name_quick tw595449262977222780 for PySem.W.builtinNamed by Mine.same
name_quick tw16583049161842780304 for PySem.W.builtinNamed by Mine.same
name_quick tw10640224195028866111 for PySem.W.builtinNamed by Mine.same
name_quick tw12083350655954774401 for PySem.W.builtinNamed by Mine.same
name_quick tw4183815350912090106 for PySem.W.builtinNamed by Mine.same
name_quick tw8875449494327990266 for PySem.W.builtinNamed by Mine.same
name_quick tw2609549216566000297 for PySem.W.builtinNamed by Mine.same
name_quick tw11717219301063711841 for PySem.W.builtinNamed by Mine.same
name_quick tw15606172996345204896 for PySem.W.builtinNamed by Mine.same
name_quick tw4528226883662371985 for PySem.W.builtinNamed by Mine.same
name_quick tw3277680111715945430 for PySem.W.builtinNamed by Mine.same
name_quick tw17422477518816911039 for PySem.W.builtinNamed by Mine.same
name_quick tw8055216252025181006 for PySem.W.builtinNamed by Mine.same
name_quick tw5618586050084855126 for PySem.W.builtinNamed by Mine.same
name_quick tw5527095812987440934 for PySem.W.builtinNamed by Mine.same
name_quick tw1212249339773212553 for PySem.W.builtinNamed by Mine.same
name_quick tw17514078890883757211 for PySem.W.builtinNamed by Mine.same
name_quick tw14925684857534796020 for PySem.W.builtinNamed by Mine.same
name_quick tw7915437007192516698 for PySem.W.builtinNamed by Mine.same
name_quick tw1174204095750909421 for PySem.W.builtinNamed by Mine.same
name_quick tw11947798178622157542 for PySem.W.builtinNamed by Mine.same
name_quick tw9723317003926923601 for PySem.W.builtinNamed by Mine.same
name_quick tw12266116675521742722 for PySem.W.builtinNamed by Mine.same
name_quick tw10486195230295687400 for PySem.W.builtinNamed by Mine.same
name_quick tw12605735070882980552 for PySem.W.builtinNamed by Mine.same
name_quick tw9803343129195627554 for PySem.W.builtinNamed by Mine.same
name_quick tw2792228790993926727 for PySem.W.builtinNamed by Mine.same
name_quick tw11743147342549898341 for PySem.W.builtinNamed by Mine.same
name_quick tw16556939256748051821 for PySem.W.builtinNamed by Mine.same
name_quick tw13526229651593548407 for PySem.W.builtinNamed by Mine.same
name_quick tw9882796052012253507 for PySem.W.builtinNamed by Mine.same
name_quick tw7211804844571614864 for PySem.W.builtinNamed by Mine.same
name_quick tw8070336223655475990 for PySem.W.builtinNamed by Mine.same
name_quick tw7069650079448634618 for PySem.W.builtinNamed by Mine.same
name_quick tw15828273171449261304 for PySem.W.builtinNamed by Mine.same
name_quick tw14330469869486821294 for PySem.W.builtinNamed by Mine.same
name_quick tw14384242714522158338 for PySem.W.builtinNamed by Mine.same
name_quick tw9977489317662141147 for PySem.W.builtinNamed by Mine.same
name_quick tw18420318852877684772 for PySem.W.builtinNamed by Mine.same
name_quick tw3789988103123796436 for PySem.W.builtinNamed by Mine.same
name_quick tw17490288655576757168 for PySem.W.builtinNamed by Mine.same
name_quick tw7577592302958527101 for PySem.W.builtinNamed by Mine.same
name_quick tw10986540004599326891 for PySem.W.builtinNamed by Mine.same
name_quick tw2782661232116948023 for PySem.W.builtinNamed by Mine.same
name_quick tw4826392766981384302 for PySem.W.builtinNamed by Mine.same
name_quick tw17758509914172277768 for PySem.W.builtinNamed by Mine.same
name_quick tw763824061340275517 for PySem.W.builtinNamed by Mine.same
name_quick tw7209593202444845736 for PySem.W.builtinNamed by Mine.same
name_quick tw5399134317407593073 for PySem.W.builtinNamed by Mine.same
name_quick tw7165273495981847977 for PySem.W.builtinNamed by Mine.same
name_quick tw8100986719919566489 for PySem.W.builtinNamed by Mine.same
name_quick tw10752548139703035264 for PySem.W.builtinNamed by Mine.same
name_quick tw15337130253774834994 for PySem.W.builtinNamed by Mine.same
name_quick tw15312390833744627425 for PySem.W.builtinNamed by Mine.same
name_quick tw7371151964084684955 for PySem.W.builtinNamed by Mine.same
name_quick tw11351908024311585542 for PySem.W.builtinNamed by Mine.same
name_quick tw13659530592372771594 for PySem.W.builtinNamed by Mine.same
name_quick tw13996271259099368016 for PySem.W.builtinNamed by Mine.same
name_quick tw15423574518153992321 for PySem.W.builtinNamed by Mine.same
name_quick tw11257495744834945969 for PySem.W.builtinNamed by Mine.same
name_quick tw12703283752927783591 for PySem.W.builtinNamed by Mine.same
name_quick tw7547445462446354407 for PySem.W.builtinNamed by Mine.same
name_quick tw3779372374772940738 for PySem.W.builtinNamed by Mine.same
name_quick tw1743819623077352113 for PySem.W.builtinNamed by Mine.same
name_quick tw7321013405817249923 for PySem.W.builtinNamed by Mine.same
name_quick tw3894809279576739091 for PySem.W.builtinNamed by Mine.same
name_quick tw9470658479980526408 for PySem.W.builtinNamed by Mine.same
name_quick tw1877792269910585651 for PySem.W.builtinNamed by Mine.same
name_quick tw18346022468723470583 for PySem.W.builtinNamed by Mine.same
name_quick tw1487588882611995234 for PySem.W.builtinNamed by Mine.same
name_quick tw15465217159682997520 for PySem.W.builtinNamed by Mine.same
name_quick tw13047429554989357004 for PySem.W.builtinNamed by Mine.same
name_quick tw399330849949673863 for PySem.W.builtinNamed by Mine.same
name_quick tw14713222506963597716 for PySem.W.builtinNamed by Mine.same
name_quick tw13121447583974177305 for PySem.W.builtinNamed by Mine.same
name_quick tw6423224361063863097 for PySem.W.builtinNamed by Mine.same
name_quick tw11040119051669904354 for PySem.W.builtinNamed by Mine.same
name_quick tw1730632842394728049 for PySem.W.builtinNamed by Mine.same
name_quick tw5566129268184226775 for PySem.W.builtinNamed by Mine.same
name_quick tw3157579825314394364 for PySem.W.builtinNamed by Mine.same
name_quick tw1287108568628042438 for PySem.W.builtinNamed by Mine.same
name_quick tw16853307065018473559 for PySem.W.builtinNamed by Mine.same
name_quick tw8195485981903191309 for PySem.W.builtinNamed by Mine.same
name_quick tw149017950859261856 for PySem.W.builtinNamed by Mine.same
name_quick tw14220907189754480162 for PySem.W.builtinNamed by Mine.same
name_quick tw17327838764837835324 for PySem.W.builtinNamed by Mine.same
name_quick tw10140713519498324101 for PySem.W.builtinNamed by Mine.same
name_quick tw15832553606309278540 for PySem.W.builtinNamed by Mine.same
name_quick tw15960873916214235019 for PySem.W.builtinNamed by Mine.same
name_quick tw16811041986775361175 for PySem.W.builtinNamed by Mine.same
name_quick tw14625573611706333423 for PySem.W.builtinNamed by Mine.same
name_quick tw7526922100881767749 for PySem.W.builtinNamed by Mine.same
name_quick tw14928187142523371118 for PySem.W.builtinNamed by Mine.same
name_quick tw16460278859598590578 for PySem.W.builtinNamed by Mine.same
name_quick tw7985151966360094011 for PySem.W.builtinNamed by Mine.same
name_quick tw17755809746826513570 for PySem.W.builtinNamed by Mine.same
name_quick tw587927195927908655 for PySem.W.builtinNamed by Mine.same
name_quick tw485097105317790413 for PySem.W.builtinNamed by Mine.same
name_quick tw7257395765612707969 for PySem.W.builtinNamed by Mine.same
name_quick tw3194031947851491823 for PySem.W.builtinNamed by Mine.same
name_quick tw13661161808740961123 for PySem.W.builtinNamed by Mine.same
name_quick tw2344060218564842259 for PySem.W.builtinNamed by Mine.same
name_quick tw11809881552075458403 for PySem.W.builtinNamed by Mine.same
name_quick tw11099594429493053197 for PySem.W.builtinNamed by Mine.same
name_quick tw17528734644426814795 for PySem.W.builtinNamed by Mine.same
name_quick tw7396047078964898226 for PySem.W.builtinNamed by Mine.same
name_quick tw15793888557368814123 for PySem.W.builtinNamed by Mine.same
name_quick tw8953274413536512431 for PySem.W.builtinNamed by Mine.same
name_quick tw14968719047704862893 for PySem.W.builtinNamed by Mine.same
name_quick tw15316471864409804663 for PySem.W.builtinNamed by Mine.same
name_quick tw6683302725252633267 for PySem.W.builtinNamed by Mine.same
name_quick tw11279971385263731663 for PySem.W.builtinNamed by Mine.same
name_quick tw11690108482502146913 for PySem.W.builtinNamed by Mine.same
name_quick tw5051940530637309057 for PySem.W.builtinNamed by Mine.same
name_quick tw9530084572488620777 for PySem.W.builtinNamed by Mine.same
open_top hd1 for PySem.Challenge.rw_ji0060_02

theorem quiet : True := by
  w_top off
  trivial

section
theorem eps_ex {α : Type} (n : Nonempty α) (P : α → Prop) : ∃ v, P v → ∀ u, P u := by
  rcases Classical.em (∃ u, ¬ P u) with ⟨u, hu⟩ | h
  · exact ⟨u, fun q => absurd q hu⟩
  · obtain ⟨v⟩ := n
    exact ⟨v, fun _ u => Classical.byContradiction fun q => h ⟨u, q⟩⟩
noncomputable def Hid (P : Prop) : Prop := P
theorem Hid.out {P : Prop} (h : Hid P) : P := h
noncomputable def pick {α : Type} (n : Nonempty α) (P : α → Prop) : Nat → α
  | 0 => Classical.choose (eps_ex n P)
  | k + 1 => pick n P k
termination_by k => k
theorem pick_all {α : Type} {n : Nonempty α} {P : α → Prop} (h : P (pick n P 0)) : ∀ u, P u := by
  rw [pick] at h
  exact Classical.choose_spec (eps_ex n P) h
theorem subCons {α : Type} {a : α} {l l' : List α} (h : a ∈ l') (g : ∀ q ∈ l, q ∈ l') : ∀ q ∈ a :: l, q ∈ l' := fun q hq => by
  rcases List.mem_cons.mp hq with rfl | hq
  · exact h
  · exact g q hq
noncomputable def Mk (_ : Nat) : Prop := True
theorem tokN {α : Type} {M : Model} {A : Around} {t : Sem α} {Q : α → Shared → Prop} {E : Value → Shared → Prop} {h : Heap} {g : Array GenState} {d : Drawn} {o : OsState} (k0 : Nat) (H : ∀ k, wpAny M A t Q E ⟨h, g, d, k, o⟩) : wpAny M A t Q E ⟨h, g, d, k0, o⟩ := H k0
theorem neW : Nonempty World := ⟨⟨fun _ _ => 0, { strHash := fun _ => 0, shareClass := fun _ => 0, mergeTok := id, idOf := fun _ => 0, idOfShared := fun _ _ => 0, followText := fun _ => false, idOfImm := fun _ => 0 }⟩⟩
theorem neA : Nonempty Around := ⟨⟨none, 0, none, none, 1⟩⟩
theorem neS : Nonempty Shared := ⟨{}⟩
theorem neP {α β : Type} : Nonempty α → Nonempty β → Nonempty (α × β) := fun ⟨a⟩ ⟨b⟩ => ⟨(a, b)⟩

end
section

/-- the tree below holds at every smaller depth and count of C units -/
theorem lower {α : Type} {M : Model} {hd : Option Value} {fr : Option (List Env)} {gd : Option (List Code)} {dp dp' un un' : Nat} {t : Sem α} {Q : α → Shared → Prop} {E : Value → Shared → Prop} {s : Shared}
    (h : wpAny M { handled := hd, depth := dp', frames := fr, guards := gd, units := un' } t Q E s) (h1 : dp ≤ dp') (h2 : un ≤ un') :
    wpAny M { handled := hd, depth := dp, frames := fr, guards := gd, units := un } t Q E s :=
  fun Γ p hΓ => h Γ p ⟨hΓ.1, Nat.le_trans hΓ.2.1 h1, hΓ.2.2.1, hΓ.2.2.2.1, Nat.le_trans hΓ.2.2.2.2 h2⟩

section
variable {K : Type} [DecidableEq K]
theorem va_stored (kvs : List (K × Value)) (k j : K) (v : Value) : valueAt (stored kvs k v) j = if j = k then some v else valueAt kvs j := by
  unfold stored
  split
  · rename_i hc
    unfold valueAt
    induction kvs with
    | nil => simp at hc
    | cons p r ih =>
      rw [List.map_cons, List.find?_cons]
      by_cases hp : p.1 = k
      · rw [if_pos hp]
        by_cases hj : j = k
        · subst hj; simp [hp]
        · have hj' : ¬ p.1 = j := fun q => hj (q.symm.trans hp)
          have hj'' : ¬ k = j := fun q => hj q.symm
          simp only [hj', hp, hj'', decide_false, if_neg hj]
          rw [List.find?_cons]
          simp only [hj', hp, hj'', decide_false]
          by_cases hc' : (r.any fun kv => kv.1 = k) = true
          · rw [ih hc', if_neg hj]
          · have hr : (r.map fun kv => if kv.1 = k then (kv.1, v) else kv) = r := by
              conv => rhs; rw [← List.map_id r]
              refine List.map_congr_left fun q hq => ?_
              have : ¬ q.1 = k := fun e => hc' (List.any_eq_true.mpr ⟨q, hq, by simpa using e⟩)
              simp [this]
            rw [hr]
      · rw [if_neg hp]
        have hc' : (r.any fun kv => kv.1 = k) = true := by
          simpa [hp] using hc
        by_cases hpj : p.1 = j
        · have hj : ¬ j = k := fun q => hp (hpj.trans q)
          simp [hpj, hj]
        · simp only [hpj, decide_false]
          rw [List.find?_cons]
          simp only [hpj, decide_false]
          exact ih hc'
  · rename_i hc
    unfold valueAt
    rw [List.find?_append]
    by_cases hj : j = k
    · subst hj
      have : kvs.find? (fun kv => decide (kv.1 = j)) = none := by
        rw [List.find?_eq_none]
        intro q hq e
        exact hc (List.any_eq_true.mpr ⟨q, hq, e⟩)
      simp [this]
    · have : ¬ k = j := fun q => hj q.symm
      simp [hj, this]
theorem va_without (kvs : List (K × Value)) (k j : K) : valueAt (without kvs k) j = if j = k then none else valueAt kvs j := by
  unfold without valueAt
  induction kvs with
  | nil => simp
  | cons p r ih =>
    rw [List.filter_cons]
    by_cases hp : p.1 = k
    · have : decide (p.1 ≠ k) = false := by simp [hp]
      rw [this]
      simp only [Bool.false_eq_true, if_false]
      rw [ih, List.find?_cons]
      by_cases hj : j = k
      · simp [hj]
      · have : ¬ p.1 = j := fun q => hj (q.symm.trans hp)
        simp [hj, this]
    · have : decide (p.1 ≠ k) = true := by simp [hp]
      rw [this]
      simp only [if_true, List.find?_cons]
      by_cases hpj : p.1 = j
      · have hj : ¬ j = k := fun q => hp (hpj.trans q)
        simp [hpj, hj]
      · simp only [hpj, decide_false]
        exact ih
theorem without_len (kvs : List (K × Value)) (k : K) : (without kvs k).length ≤ kvs.length := List.length_filter_le _ _
end

noncomputable def upd {α : Type} (f : Str → Option α) (k : Str) (v : Option α) : Str → Option α := fun j => if j = k then v else f j
@[simp] theorem upd_same {α : Type} (f : Str → Option α) (k : Str) (v : Option α) : upd f k v k = v := by simp [upd]
theorem upd_other {α : Type} (f : Str → Option α) {k j : Str} (v : Option α) (h : j ≠ k) : upd f k v j = f j := by simp [upd, h]

noncomputable def OptR {α : Type} (P : Value → α → Prop) : Option Value → Option α → Prop
  | some v, some x => P v x
  | none, none => True
  | _, _ => False

noncomputable def IntV (v : Value) (i : Int) : Prop := ∃ t, v = .int i t
noncomputable def RefV (v : Value) (a : Addr) : Prop := v = .ref a

section
variable {prog : Program} {w : World} {α : Type} {P : Value → α → Prop}
/-- a dict of texts: what it holds, seen through P; at most n rows -/
noncomputable def DictV (prog : Program) (w : World) (P : Value → α → Prop) (o : Obj) (f : Str → Option α) (n : Nat) : Prop :=
  ∃ kvs, o.IsDictOf (PySem.strKind prog w) kvs ∧ kvs.length ≤ n ∧ ∀ k, OptR P (valueAt kvs k) (f k)
noncomputable abbrev IntD (prog : Program) (w : World) (o : Obj) (f : Str → Option Int) (n : Nat) : Prop := DictV prog w IntV o f n
noncomputable abbrev RefD (prog : Program) (w : World) (o : Obj) (f : Str → Option Addr) (n : Nat) : Prop := DictV prog w RefV o f n

theorem DictV.some {o : Obj} {f : Str → Option α} {kvs : List (Str × Value)} (h : ∀ k, OptR P (valueAt kvs k) (f k)) {k : Str} {x : α} (e : f k = some x) : ∃ v, valueAt kvs k = some v ∧ P v x := by
  have := h k
  rw [e] at this
  cases hv : valueAt kvs k with
  | none => rw [hv] at this; exact this.elim
  | some v => rw [hv] at this; exact ⟨v, rfl, this⟩
theorem DictV.none {o : Obj} {f : Str → Option α} {kvs : List (Str × Value)} (h : ∀ k, OptR P (valueAt kvs k) (f k)) {k : Str} (e : f k = none) : valueAt kvs k = none := by
  have := h k
  rw [e] at this
  cases hv : valueAt kvs k with
  | none => rfl
  | some v => rw [hv] at this; exact this.elim
theorem DictV.mono {o : Obj} {f : Str → Option α} {n n' : Nat} (h : DictV prog w P o f n) (hn : n ≤ n') : DictV prog w P o f n' := by
  obtain ⟨kvs, a, b, c⟩ := h
  exact ⟨kvs, a, Nat.le_trans b hn, c⟩

variable {A : Around} {E : Value → Shared → Prop} {s : Shared} {h₀ : Heap} {L d : Addr} {m : Str → Option Value} {news : List (Addr × Obj)} {g : Obj → List (Addr × Obj)} {o : Obj} {f : Str → Option α} {n : Nat} {k : Str} {tk : Tok}

theorem dv_get {dflt : Value} {Q : Value → Shared → Prop} (N : News h₀ L s.heap news) (hp : (d, o) ∈ news) (hd : DictV prog w P o f n) (lo : (d == sysModules) = false)
    (h : ∀ v, (∀ x, f k = some x → P v x) → (f k = none → v = dflt) → Q v { s with toks := s.toks + 1 }) : wpAny (model prog w) A (call (.builtin "dict.get") [.ref d, .str k tk, dflt]) Q E s := by
  obtain ⟨kvs, hd, hn, hf⟩ := hd
  refine kdg_get2 (knd := PySem.strKind _ _) N hp hd lo (strKind_is _ _ _ _) _ rfl (h _ (fun x e => ?_) fun e => ?_)
  · obtain ⟨v, hv, hx⟩ := DictV.some (o := o) hf e
    rw [hv]; exact hx
  · rw [DictV.none (o := o) hf e]; rfl

theorem dv_pop {dflt : Value} {Q : Value → Shared → Prop} (F : Fr h₀ L s.heap m) (N : News h₀ L s.heap news) (U : UpdF d o news g) (hd : DictV prog w P o f n) (lo : (d == sysModules) = false) (hz : n ≤ sizeLine)
    (h : ∀ v h' o', Fr h₀ L h' m → News h₀ L h' (g o') → DictV prog w P o' (upd f k none) n → Q v { s with heap := h', toks := s.toks + 1 }) :
    wpAny (model prog w) A (call (.builtin "dict.pop") [.ref d, .str k tk, dflt]) Q E s := by
  obtain ⟨kvs, hd, hn, hf⟩ := hd
  cases hv : valueAt kvs k with
  | some v =>
    refine kob_pop (knd := PySem.strKind _ _) (more := [dflt]) F N U hd (strKind_is _ _ _ _) (.inr ⟨_, rfl⟩) rfl (PySem.F.args_dict_pop_3 _ _ _) hv (Nat.le_trans hn hz) fun h' o' F' N' hd' => ?_
    refine h v h' o' F' N' ⟨_, hd', Nat.le_trans (without_len _ _) hn, fun j => ?_⟩
    rw [va_without]
    unfold upd
    split
    · trivial
    · exact hf j
  | none =>
    obtain ⟨pre, post, rfl, hg, a, b⟩ := U.split
    have hm := N (d, o) (List.mem_append_right _ (.head _))
    have hD : s.heap.DictOf (PySem.strKind prog w) d kvs := Heap.dictOf_iff.mpr ⟨o, hm.1, hd⟩
    refine call_meetsIn PySem.F.slot_dict_pop hD.typeIs PySem.F.entry_dict_pop (PySem.F.args_dict_pop_3 _ _ _) (meets_dict_pop_default (PySem.strKind prog w) d (strKind_is _ _ _ _) lo rfl dflt) ⟨kvs, hD, hv, ?_⟩
    refine h dflt s.heap o F (by rw [hg]; exact N) ⟨kvs, hd, hn, fun j => ?_⟩
    unfold upd
    split
    · rename_i e; subst e; rw [hv]; trivial
    · exact hf j

theorem dv_set {v : Value} {x : α} {Q : Unit → Shared → Prop} (F : Fr h₀ L s.heap m) (N : News h₀ L s.heap news) (U : UpdF d o news g) (hd : DictV prog w P o f n) (hz : n ≤ sizeLine) (hx : P v x)
    (h : ∀ h' o', Fr h₀ L h' m → News h₀ L h' (g o') → DictV prog w P o' (upd f k (some x)) (n + 1) → Q () { s with heap := h', toks := s.toks + 1 }) :
    wpAny (model prog w) A (setItem (.ref d) (.str k tk) v) Q E s := by
  obtain ⟨kvs, hd, hn, hf⟩ := hd
  refine kda_set (knd := PySem.strKind _ _) F N U hd (strKind_is _ _ _ _) (Nat.le_trans hn hz) fun h' o' F' N' hd' => ?_
  refine h h' o' F' N' ⟨_, hd', Nat.le_trans (stored_length_le _ _ _) (Nat.add_le_add_right hn 1), fun j => ?_⟩
  rw [va_stored]
  unfold upd
  split
  · exact hx
  · exact hf j

theorem dv_getItem {Q : Value → Shared → Prop} {x : α} (N : News h₀ L s.heap news) (hp : (d, o) ∈ news) (hd : DictV prog w P o f n) (e : f k = some x) (h : ∀ v, P v x → Q v { s with toks := s.toks + 1 }) :
    wpAny (model prog w) A (getItem (.ref d) (.str k tk)) Q E s := by
  obtain ⟨kvs, hd, hn, hf⟩ := hd
  obtain ⟨v, hv, hx⟩ := DictV.some (o := o) hf e
  exact kdt_getItem (knd := PySem.strKind _ _) N hp hd (strKind_is _ _ _ _) hv (h v hx)
theorem dv_tail {value slice : PySem.Expr} {key : Value} {Q : Value → Shared → Prop} (N : News h₀ L s.heap news) (hp : (d, o) ∈ news) (hd : DictV prog w P o f n) (h : wpAny (model prog w) A (getItem (.ref d) key) Q E s)
    (hs : subscripted slice false (.ref d) key = operate [.ref d, key] (getItem (.ref d) key) := by with_unfolding_all rfl) : wpAny (model prog w) A (subscriptTail value slice (.ref d) key) Q E s := by
  obtain ⟨kvs, hd, hn, hf⟩ := hd
  exact kdt_tail (knd := PySem.strKind _ _) N hp hd h hs
theorem dv_method {name : Str} {id : String} {pl : Sem Bool} {Q : Value × List Value → Shared → Prop} (slot : Slot "dict" name id) (ty : typeOf (.builtin id) = pure (.type "method_descriptor")) (N : News h₀ L s.heap news) (hp : (d, o) ∈ news) (hd : DictV prog w P o f n) (h : Q (.builtin id, [.ref d]) s) :
    wpAny (model prog w) A (getMethod (.ref d) name pl) Q E s := by
  obtain ⟨kvs, hd, hn, hf⟩ := hd
  exact kob_method slot ty N hp hd h
theorem dv_setdefault {dflt : Value} {x : α} {Q : Value → Shared → Prop} (F : Fr h₀ L s.heap m) (N : News h₀ L s.heap news) (U : UpdF d o news g) (hd : DictV prog w P o f n) (lo : (d == sysModules) = false) (hz : n ≤ sizeLine) (hx : P dflt x)
    (h : ∀ v h' o', Fr h₀ L h' m → News h₀ L h' (g o') → P v ((f k).getD x) → DictV prog w P o' (upd f k (some ((f k).getD x))) (n + 1) → Q v { s with heap := h', toks := s.toks + 1 }) :
    wpAny (model prog w) A (call (.builtin "dict.setdefault") [.ref d, .str k tk, dflt]) Q E s := by
  obtain ⟨kvs, hd, hn, hf⟩ := hd
  cases hv : valueAt kvs k with
  | some v =>
    have q := hf k
    rw [hv] at q
    cases hk : f k with
    | none => rw [hk] at q; exact q.elim
    | some y =>
      rw [hk] at q
      have U' := U
      obtain ⟨pre, post, rfl, hg, a, b⟩ := U.split
      refine kob_setdef_there (knd := PySem.strKind _ _) N (List.mem_append_right _ (.head _)) hd lo (strKind_is _ _ _ _) (PySem.F.args_dict_setdefault_3 _ _ _) hv (Nat.le_trans hn hz) ?_
      refine h v s.heap o F (by rw [hg]; exact N) (by rw [hk]; exact q) ⟨kvs, hd, Nat.le_succ_of_le hn, fun j => ?_⟩
      unfold upd
      split
      · rename_i e; subst e; rw [hv, hk]; exact q
      · exact hf j
  | none =>
    have q := hf k
    rw [hv] at q
    cases hk : f k with
    | some y => rw [hk] at q; exact q.elim
    | none =>
      refine kob_setdef_new (knd := PySem.strKind _ _) F N U hd lo (strKind_is _ _ _ _) (PySem.F.args_dict_setdefault_3 _ _ _) hv (Nat.le_trans hn hz) fun h' o' F' N' hd' => ?_
      refine h dflt h' o' F' N' (by rw [hk]; exact hx) ⟨_, hd', Nat.le_trans (stored_length_le _ _ _) (Nat.add_le_add_right hn 1), fun j => ?_⟩
      rw [va_stored, hk]
      unfold upd
      split
      · exact hx
      · exact hf j
end
section
variable {prog : Program} {w : World} {A : Around} {E : Value → Shared → Prop} {s : Shared} {h₀ : Heap} {L d : Addr} {m : Str → Option Value} {news : List (Addr × Obj)} {g : Obj → List (Addr × Obj)} {o : Obj} {f : Str → Option Int} {n : Nat} {k : Str} {tk : Tok}
theorem iv_get {i : Int} {ti : Tok} {Q : Value → Shared → Prop} (N : News h₀ L s.heap news) (hp : (d, o) ∈ news) (hd : IntD prog w o f n) (lo : (d == sysModules) = false)
    (h : ∀ t, Q (.int ((f k).getD i) t) { s with toks := s.toks + 1 }) : wpAny (model prog w) A (call (.builtin "dict.get") [.ref d, .str k tk, .int i ti]) Q E s := by
  refine dv_get N hp hd lo fun v h1 h2 => ?_
  cases hk : f k with
  | none => rw [h2 hk]; have := h ti; rw [hk] at this; exact this
  | some x => obtain ⟨t, rfl⟩ := h1 x hk; have := h t; rw [hk] at this; exact this
theorem iv_getItem {Q : Value → Shared → Prop} (N : News h₀ L s.heap news) (hp : (d, o) ∈ news) (hd : IntD prog w o f n) (e : (f k).isSome = true) (h : ∀ t, Q (.int ((f k).getD 0) t) { s with toks := s.toks + 1 }) :
    wpAny (model prog w) A (getItem (.ref d) (.str k tk)) Q E s := by
  obtain ⟨x, hx⟩ := Option.isSome_iff_exists.mp e
  refine dv_getItem N hp hd hx fun v hv => ?_
  obtain ⟨t, rfl⟩ := hv
  have := h t
  rw [hx] at this
  exact this
end

/-- what `get` leaves of a table f: a key whose time is over is taken out -/
noncomputable def swept {α : Type} (x : Str → Option Int) (k : Str) (t : Int) (f : Str → Option α) : Str → Option α := if (x k).getD 0 ≤ t then upd f k none else f

/-- the store's own parts, none of which a method turns -/
noncomputable def StoreAt (frz : List (Addr × Obj)) (st S E V clk : Addr) : Prop :=
  ∃ dx h1 h2 h3 h4 t1 t2 t3 t4 n oc od fd sl, (st, instObj 691 dx) ∈ frz ∧ (clk, (⟨oc, od, .func fd, sl⟩ : Obj)) ∈ frz ∧
    (dx, dictOf [⟨h1, .str (Str.ofString "clock") t1, .ref clk⟩, ⟨h2, .str (Str.ofString "storage") t2, .ref S⟩, ⟨h3, .str (Str.ofString "expirations") t3, .ref E⟩, ⟨h4, .str (Str.ofString "events") t4, .ref V⟩] n) ∈ frz


/-- called, the clock tells t and turns nothing -/
noncomputable def ClockOf (w : World) (ck : List (Addr × Obj)) (clk : Addr) (t : Int) : Prop :=
  ∀ (p : Program) (loose : List Str) (mean : ExcName → Option Value) (mg mb : Str → Option Value) (gd : Option (List Code)) (cn : Str) (cs : Scope) (a : Addr) (ccd : Value) (cl : List (Str × Addr)) (outer : List Env) (A₀ : Around) (base h₀ : Heap) (L : Addr) (m : Str → Option Value) (s : Shared) (Q E : Value → Shared → Prop) (news : List (Addr × Obj)),
    Below A₀ base outer h₀ → Fr h₀ L s.heap m → (Mine.hd1.heap_39 w.params).In h₀ → Top p loose mean mg mb h₀ → cs.kind = .function → News h₀ L s.heap news → (∀ q ∈ ck, q ∈ news) →
    (∀ r h' tk', Fr h₀ L h' m → News h₀ L h' news → Q (.int t r) { s with heap := h', toks := tk' }) →
    wpAny (model PySem.Challenge.rw_ji0060_02.row.prog w) (ktrTop 900 9000 gd cn cs L a ccd cl outer) (call (.ref clk) []) Q E s
theorem ClockOf.use {w : World} {frz news : List (Addr × Obj)} {clk : Addr} {t : Int} (C : ClockOf w frz clk t) {p : Program} {loose : List Str} {mean : ExcName → Option Value} {mg mb : Str → Option Value} {dp un : Nat} {gd : Option (List Code)} {cn : Str} {cs : Scope} {a : Addr} {ccd : Value} {cl : List (Str × Addr)} {outer : List Env} {A₀ : Around} {base h₀ : Heap} {L : Addr} {m : Str → Option Value} {s : Shared} {Q E : Value → Shared → Prop}
    (B : Below A₀ base outer h₀) (F : Fr h₀ L s.heap m) (X : (Mine.hd1.heap_39 w.params).In h₀) (T : Top p loose mean mg mb h₀) (hk : cs.kind = .function) (N : News h₀ L s.heap news) (hs : ∀ q ∈ frz, q ∈ news) (hd : dp ≤ 900) (hu : un ≤ 9000)
    (ret : ∀ r h' tk', Fr h₀ L h' m → News h₀ L h' news → Q (.int t r) { s with heap := h', toks := tk' }) :
    wpAny (model PySem.Challenge.rw_ji0060_02.row.prog w) (ktrTop dp un gd cn cs L a ccd cl outer) (call (.ref clk) []) Q E s :=
  lower (C p loose mean mg mb gd cn cs a ccd cl outer A₀ base h₀ L m s Q E news B F X T hk N hs ret) hd hu
section
variable {prog : Program} {w : World} {A : Around} {E : Value → Shared → Prop} {Q : Value → Shared → Prop} {s : Shared} {K : Frag} {x C L : Addr} {h₀ : Heap} {m : Str → Option Value}

theorem looks_isType {M : Model} {h : Heap} (X : K.In h) (e : isClsIn K C = true) : Looks M h (isType (.ref C)) true := by
  unfold isClsIn clsIn at e
  split at e
  · rename_i ho
    intro A' Q' E' s' k q
    unfold isType loadHead
    exact wpAny_bind (wpAny_loadPart (k _ _ (X _ _ ho)) (wpAny_pure q))
  · cases e

theorem c_issub (X : K.In s.heap) (e1 : subIn K (.ref C) (.type "tuple") = some true) (e2 : isClsIn K C = true) (hq : Q (.bool true) s) : wpAny (model prog w) A (call (.builtin "issubclass") [.ref C, .type "tuple"]) Q E s := by
  refine call_function_meets F.kind_issubclass F.plain_issubclass F.entry_issubclass (F.args_issubclass_2 _ _) (S := fun A R s => K.In s.heap ∧ R (.ok (.ret (.bool true))) s) (fun prog w A R s hs => issubclass_outer ?_) ⟨X, hq⟩
  obtain ⟨h0, g, d, tt, os⟩ := s
  obtain ⟨X, hq⟩ := hs
  have L1 := looks_isType (M := model prog w) X e2
  have L2 : Looks (model prog w) h0 (isSubtype (.ref C) (.type "tuple")) true := looks_subIn X e1
  have L3 : Looks (model prog w) h0 (typeOf (.type "tuple")) (.type "type") := Looks.of_pure (kitMeta_of (by decide +kernel))
  have L4 : Looks (model prog w) h0 (isType (.type "tuple")) true := Looks.of_pure rfl
  unfold Builtin.«issubclass.nested»
  repeat lk
  exact hq


end
theorem k1 : builtinKind "tuple.__getitem__" = some .slot := by decide +kernel
theorem k2 : splitId "tuple.__getitem__" = some ("tuple", "__getitem__") := by decide +kernel
section
variable {prog : Program} {w : World} {A : Around} {E : Value → Shared → Prop} {Q : Value → Shared → Prop} {s : Shared} {K : Frag} {x C L : Addr} {h₀ : Heap} {m : Str → Option Value}
theorem c_tupget {od : Option Addr} {its : Array Value} {n : Nat} {sl : Array (Option Value)} {i : Int} {u : Tok} {k : Nat} {v : Value} (X : K.In s.heap) (e1 : subIn K (.ref C) (.type "tuple") = some true) (hx : s.heap.get? x = some ⟨.ref C, od, .seq its n, sl⟩)
    (hlo : -2 ^ 63 ≤ i) (hhi : i < 2 ^ 63) (hk : seqIndex? i its.size = some k) (hy : its[k]? = some v) (hq : Q v s) : wpAny (model prog w) A (call (.builtin "tuple.__getitem__") [.ref x, .int i u]) Q E s := by
  obtain ⟨h0, g, d, tt, os⟩ := s
  dsimp only at hx X
  have LT : Looks (model prog w) h0 (typeOf (.ref x)) (.ref C) := (Looks.ld hx).andThen .now
  have LI : Looks (model prog w) h0 (isInstance (.ref x) (.type "tuple")) true := LT.andThen (looks_subIn X e1)
  refine wpAny_call (codeAny_call_builtin (PySem.F.slot_tuple_getitem).plain PySem.F.entry_tuple_getitem ?_)
  refine check_slot (i := "tuple.__getitem__") k1 k2 LI (PySem.F.args_tuple_getitem_2 _ _) ?_
  have LN : Looks (model prog w) h0 (typeOf (.int i u)) (.type "int") := Looks.of_pure rfl
  have LS : Looks (model prog w) h0 (specialOf (.int i u) (Str.ofString "__index__")) (some (.builtin "int.__index__")) := LN.andThen (Looks.of_pure AutoSeq1.idx_int)
  have LA : Looks (model prog w) h0 (asIndex (.int i u)) i := Looks.of_pure rfl
  have LD : Looks (model prog w) h0 (Builtin.Tuple.tupleItemsOf (.ref x)) its := by
    unfold Builtin.Tuple.tupleItemsOf seqItems?
    refine Looks.andThen (Looks.andThen (Looks.ld (part := none) hx) .now) .now
  have hf : ¬ (decide (i < -2 ^ 63) || decide (i ≥ 2 ^ 63)) = true := by simp; omega
  unfold Builtin.«tuple.__getitem__»
  refine wpAny_bind (wpAny_pure ?_)
  refine wpAny_bind (LD.at ?_)
  refine wpAny_bind (LN.at ?_)
  rw [if_neg (by decide)]
  refine wpAny_bind (LS.at ?_)
  rw [if_neg (by decide)]
  refine wpAny_bind (LA.at ?_)
  rw [if_neg hf]
  rw [hk, Option.bind_some, hy]
  exact wpAny_pure hq

theorem c_tupget_K {od : Option Addr} {its : Array Value} {n : Nat} {sl : Array (Option Value)} {i : Int} {u : Tok} {k : Nat} {v : Value} (F : Fr h₀ L s.heap m) (X : K.In h₀) (hx : K.lookup x = some ⟨.ref C, od, .seq its n, sl⟩) (e1 : subIn K (.ref C) (.type "tuple") = some true)
    (hlo : -2 ^ 63 ≤ i) (hhi : i < 2 ^ 63) (hk : seqIndex? i its.size = some k) (hy : its[k]? = some v) (hq : Q v s) : wpAny (model prog w) A (call (.builtin "tuple.__getitem__") [.ref x, .int i u]) Q E s :=
  c_tupget (X.keeps F.keep) e1 (F.keep _ _ (X _ _ hx)) hlo hhi hk hy hq
theorem c_tupget_N {news : List (Addr × Obj)} {od : Option Addr} {its : Array Value} {n : Nat} {sl : Array (Option Value)} {i : Int} {u : Tok} {k : Nat} {v : Value} (F : Fr h₀ L s.heap m) (X : K.In h₀) (N : News h₀ L s.heap news) (hx : (x, (⟨.ref C, od, .seq its n, sl⟩ : Obj)) ∈ news) (e1 : subIn K (.ref C) (.type "tuple") = some true)
    (hlo : -2 ^ 63 ≤ i) (hhi : i < 2 ^ 63) (hk : seqIndex? i its.size = some k) (hy : its[k]? = some v) (hq : Q v s) : wpAny (model prog w) A (call (.builtin "tuple.__getitem__") [.ref x, .int i u]) Q E s :=
  c_tupget (X.keeps F.keep) e1 (N _ hx).1 hlo hhi hk hy hq
theorem kg1 : builtinKind "tuple.__getattribute__" = some .slot := by decide +kernel
theorem kg2 : splitId "tuple.__getattribute__" = some ("tuple", "__getattribute__") := by decide +kernel
theorem get_tup {f dsc : Addr} {ox : Obj} {od : Option Obj} {name : Str} {expr : Bool} (F : Fr h₀ L s.heap m) (X₀ : K.In h₀) (I : InstAt s.heap x ox C od) (hg : findIn K (.ref C) "__getattribute__" = some (some (.builtin "tuple.__getattribute__"))) (hg2 : findIn K (.ref C) "__getattr__" = some none)
    (e1 : subIn K (.ref C) (.type "tuple") = some true) (hf : findObj K C od name = some (.bind (.ref f) (.ref dsc)))
    (h : wpAny (model prog w) A.in1 (call (.ref f) [.ref dsc, .ref x, .ref C]) (fun v s' => wpAny (model prog w) A (handedOut v) Q E s') (fun _ _ => False) { s with toks := s.toks + 1 }) :
    wpAny (model prog w) A (getAttr (.ref x) name expr) Q E s := by
  obtain ⟨hh, g, d, t, os⟩ := s
  have XX := X₀.keeps F.keep
  have L0 := I.type (M := model prog w)
  have L1 := looks_findIn (M := model prog w) XX hg
  have L2 := looks_findIn (M := model prog w) XX hg2
  have L3 := looks_find (M := model prog w) XX I hf
  have LI : Looks (model prog w) hh (isInstance (.ref x) (.type "tuple")) true := L0.andThen (looks_subIn XX e1)
  unfold getAttr getAttrBy
  refine wpAny_bind (wpAny_mkText (wpAny_holding (wpAny_bind (L0.at (wpAny_bind (L1.at ?_))))))
  show wpAny _ _ (getAttrByItsOwn _ _ _ _ _ _) _ _ _
  unfold getAttrByItsOwn hookBefore
  refine wpAny_bind (L2.at ?_)
  refine wpAny_bind (wpAny_attempt (wpAny_holding ?_))
  unfold callGetattribute
  rw [if_neg (by cases expr <;> decide)]
  unfold boundAndCalled
  rw [PySem.F.slot_tuple_getattribute.bind]
  refine wpAny_bind (wpAny_pure ?_)
  refine wpAny_call (codeAny_call_builtin (PySem.F.slot_tuple_getattribute).plain am_entry_tuple_getattribute ?_)
  refine check_slot (i := "tuple.__getattribute__") kg1 kg2 LI (PySem.F.args_tuple_getattribute_2 _ _) ?_
  unfold Builtin.«object.__getattribute__» slotArgs
  refine wpAny_bind (wpAny_pure ?_)
  refine wpAny_bind (wpAny_pure ?_)
  refine wpAny_bind (L0.at (wpAny_bind (L3.at ?_)))
  show wpAny _ _ (holding [.ref dsc] (call (.ref f) [.ref dsc, .ref x, .ref C]) >>= ret) _ _ _
  exact wpAny_bind (wpAny_holding (wpAny_mono h (fun v s' z => wpAny_pure z) fun _ _ z => z.elim))
theorem get_descr {f dsc : Addr} {ox : Obj} {od : Obj} {name : Str} {expr : Bool} (F : Fr h₀ L s.heap m) (X₀ : K.In h₀) (I : InstAt s.heap x ox C (some od)) (hg : findIn K (.ref C) "__getattribute__" = some (some (.builtin "tuple.__getattribute__"))) (hg2 : findIn K (.ref C) "__getattr__" = some none)
    (e1 : subIn K (.ref C) (.type "tuple") = some true) (hc : isClsIn K C = true) (ha : findIn K (.ref C) name = some (some (.ref dsc)))
    (hn : specialIn K (.ref dsc) "__get__" = some (some (.ref f))) (ht : takesIn K (.ref dsc) = some true)
    (h : wpAny (model prog w) A.in1 (call (.ref f) [.ref dsc, .ref x, .ref C]) (fun v s' => wpAny (model prog w) A (handedOut v) Q E s') (fun _ _ => False) { s with toks := s.toks + 1 }) :
    wpAny (model prog w) A (getAttr (.ref x) name expr) Q E s :=
  get_tup F X₀ I hg hg2 e1 (findObj_data hc ha hn ht) h
theorem inst_Kt {x C dx : Addr} {od : Obj} {sl : Array (Option Value)} {its : Array Value} {n : Nat} {h : Heap} (X : K.In h) (h1 : K.lookup x = some ⟨.ref C, some dx, .seq its n, sl⟩) (h2 : K.lookup dx = some od) :
    InstAt h x ⟨.ref C, some dx, .seq its n, sl⟩ C (some od) := ⟨X _ _ h1, rfl, rfl, X _ _ h2⟩
end
theorem pk_mb (P : Params) (g : Program) : peek (Mine.hd1.heap_39 P) ⟨g, P⟩ (Bind.madeBy (.ref 132)) = some none := by kernel_rfl
theorem pk_ck (P : Params) (g : Program) (t : Addr) : peek (Mine.hd1.heap_39 P) ⟨g, P⟩ (checkBuiltinCall "tuple.__new__" ⟨[.ref 132, .ref t], []⟩) = some () := by kernel_rfl
theorem pk_mh (P : Params) (g : Program) : peek (Mine.hd1.heap_39 P) ⟨g, P⟩ (Bind.madeHere "tuple.__new__" (.ref 132)) = some () := by kernel_rfl
theorem pk_in (P : Params) (g : Program) : peek (Mine.hd1.heap_39 P) ⟨g, P⟩ (typeLookup (.ref 132) "__init__") = some (some (.builtin "object.__init__")) := by kernel_rfl
theorem pk_tc (P : Params) (g : Program) (a b : Value): peek (Mine.hd1.heap_39 P) ⟨g, P⟩ (checkBuiltinCall "type.__call__" ⟨[.ref 132, a, b], []⟩) = some () := by kernel_rfl
theorem pk_st (P : Params) (g : Program)  : peek (Mine.hd1.heap_39 P) ⟨g, P⟩ (isSubtype (.ref 132) (.type "tuple")) = some true := by kernel_rfl
theorem pk_ss (P : Params) (g : Program)  : peek (Mine.hd1.heap_39 P) ⟨g, P⟩ (isSubtype (.ref 132) (.ref 132)) = some true := by kernel_rfl
theorem pk_so (P : Params) (g : Program)  : peek (Mine.hd1.heap_39 P) ⟨g, P⟩ (isSubtype (.ref 132) (.type "object")) = some true := by kernel_rfl
theorem pk_it (P : Params) (g : Program)  : peek (Mine.hd1.heap_39 P) ⟨g, P⟩ (isType (.ref 132)) = some true := by kernel_rfl
theorem pk_hd (P : Params) (g : Program)  : peek (Mine.hd1.heap_39 P) ⟨g, P⟩ (classHasDel 132) = some false := by kernel_rfl
theorem pk_cl (P : Params) (g : Program)  : peek (Mine.hd1.heap_39 P) ⟨g, P⟩ (specialOf (.ref 132) "__call__") = some (some (.builtin "type.__call__")) := by kernel_rfl
theorem pk_mr (P : Params) (g : Program)  : peek (Mine.hd1.heap_39 P) ⟨g, P⟩ (do return (← mroOf (.ref 132)).isEmpty) = some false := by kernel_rfl
noncomputable abbrev tupObj (d : Addr) (vs : List Value) : Obj := { cls := .ref 132, dict := some d, data := .seq vs.toArray }
section
variable {w : World} {A : Around} {E : Value → Shared → Prop} {s : Shared} {h₀ : Heap} {L : Addr} {m : Str → Option Value} {news : List (Addr × Obj)} {Q : Value → Shared → Prop}
theorem c_tupnew {t : Addr} {vs : List Value} {n : Nat} (F : Fr h₀ L s.heap m) (X : (Mine.hd1.heap_39 w.params).In h₀) (N : News h₀ L s.heap news) (hm : (t, ({ cls := .type "tuple", data := .seq vs.toArray n } : Obj)) ∈ news) (hz : vs.length ≤ sizeLine)
    (h : ∀ x d h', Fr h₀ L h' m → News h₀ L h' ((x, tupObj d vs) :: (d, emptyDict) :: news) → (∀ p ∈ news, p.1 < d) → d < x → Q (.ref x) { s with heap := h' }) :
    wpAny (model PySem.Challenge.rw_ji0060_02.row.prog w) A (call (.builtin "tuple.__new__") [.ref 132, .ref t]) Q E s := by
  obtain ⟨h0, g, d, tt, os⟩ := s
  have XX : (Mine.hd1.heap_39 w.params).In h0 := X.keeps F.keep
  dsimp only at F N
  let M := model PySem.Challenge.rw_ji0060_02.row.prog w
  have L1 : Looks M h0 (checkBuiltinCall "tuple.__new__" ⟨[.ref 132, .ref t], []⟩) () := Looks.of_peek XX (pk_ck _ _ _)
  have L2 : Looks M h0 (isType (.ref 132)) true := Looks.of_peek XX (pk_it _ _)
  have L3 : Looks M h0 (isSubtype (.ref 132) (.type "tuple")) true := Looks.of_peek XX (pk_st _ _)
  have L4 : Looks M h0 (Bind.madeHere "tuple.__new__" (.ref 132)) () := Looks.of_peek XX (pk_mh _ _)
  have L5 : Looks M h0 (typeLookup (.ref 132) "__init__") (some (.builtin "object.__init__")) := Looks.of_peek XX (pk_in _ _)
  refine wpAny_call (codeAny_call_builtin PySem.F.plain_tuple_new PySem.F.entry_tuple_new (L1.at ?_))
  unfold Builtin.«tuple.__new__»
  refine wpAny_bind (L2.at ?_)
  refine wpAny_bind (L3.at ?_)
  refine wpAny_bind (L4.at ?_)
  refine wpAny_bind (L5.at ?_)
  rw [if_pos (by decide +kernel)]
  refine wpAny_bind (wpAny_pure ?_)
  refine wpAny_bind (wpAny_pure ?_)
  dsimp only
  rw [if_neg (by decide)]
  refine wpAny_bind (wpAny_collect_seq t (o := { cls := .type "tuple", data := .seq vs.toArray n }) (.inr rfl) (N _ hm).1 rfl rfl (fun h' k => ?_) (by simpa using hz))
  refine wpAny_bind (wpAny_pure ?_)
  refine wpAny_bind (wpAny_alloc ?_)
  unfold newObj newObjAsIs
  have e : (vs.toArray.toList.toArray : Array Value) = vs.toArray := by simp
  rw [e]
  dsimp only
  rw [if_neg (by simpa using hz)]
  have k2 : ∀ (o1 o2 : Obj) b o, h0.get? b = some o → ((h'.push o1).push o2).get? b = some o := fun o1 o2 b o q => Heap.get?_push_of_some _ (Heap.get?_push_of_some _ (k b o q))
  have L6 : ∀ o1 o2, Looks M ((h'.push o1).push o2) (classHasDel 132) false := fun o1 o2 => (Looks.of_peek XX (pk_hd _ _)).keeps (k2 o1 o2)
  refine wpAny_bind (wpAny_bind (wpAny_alloc ?_))
  refine wpAny_bind ((L6 _ _).at ?_)
  have F' : Fr h₀ L h' m := F.after k
  have N' : News h₀ L h' news := fun p hp => ⟨k _ _ (N p hp).1, (N p hp).2⟩
  have N'' := (N'.push F' emptyDict).push (F'.push _) (tupObj h'.objs.size vs)
  have z := h _ h'.objs.size _ ((F'.push _).push _) N'' (fun p hp => Heap.lt_size (N' p hp).1) (by rw [Heap.size_push]; exact Nat.lt_succ_self _)
  exact wpAny_pure (wpAny_pure z)
end
end
local macro_rules | `(tactic| walk_at $s:str) => `(tactic| k_extra $s)
local macro_rules | `(tactic| walk_at "m none") => `(tactic| skip)
local macro_rules | `(tactic| k_mem) => `(tactic| first | with_reducible assumption | assumption)
local macro_rules | `(tactic| k_all) => `(tactic| with_reducible assumption)
local macro_rules | `(tactic| k_lt $h:ident) => `(tactic| (replace $h := allLt_of $h; (try dsimp only [AllLt] at $h:ident)))
local macro_rules | `(tactic| k_ne) => `(tactic| walk_at "m nn")

theorem said_lines : True := by
  k_with "m nn" => (refine neN ?_; (try dsimp only); first | with_reducible assumption | exact Nat.ne_of_lt (by with_reducible assumption) | exact Nat.ne_of_gt (by with_reducible assumption) | exact Ne.symm (by with_reducible assumption) | walk_at "m ne" | omega)
  k_with "m ne" => (first | exact Nat.ne_of_gt (And.left (by with_reducible assumption)) | exact Nat.ne_of_lt (And.left (by with_reducible assumption)) | exact Nat.ne_of_gt (And.left (And.right (by with_reducible assumption))) | exact Nat.ne_of_lt (And.left (And.right (by with_reducible assumption))) | exact Nat.ne_of_gt (And.left (And.right (And.right (by with_reducible assumption)))) | exact Nat.ne_of_lt (And.left (And.right (And.right (by with_reducible assumption)))) | exact Nat.ne_of_gt (And.left (And.right (And.right (And.right (by with_reducible assumption))))) | exact Nat.ne_of_lt (And.left (And.right (And.right (And.right (by with_reducible assumption))))) | exact Nat.ne_of_gt (And.left (And.right (And.right (And.right (And.right (by with_reducible assumption)))))) | exact Nat.ne_of_lt (And.left (And.right (And.right (And.right (And.right (by with_reducible assumption)))))) | exact Nat.ne_of_gt (And.left (And.right (And.right (And.right (And.right (And.right (by with_reducible assumption))))))) | exact Nat.ne_of_lt (And.left (And.right (And.right (And.right (And.right (And.right (by with_reducible assumption))))))) | exact Nat.ne_of_gt (And.left (And.right (And.right (And.right (And.right (And.right (And.right (by with_reducible assumption)))))))) | exact Nat.ne_of_lt (And.left (And.right (And.right (And.right (And.right (And.right (And.right (by with_reducible assumption)))))))) | exact Nat.ne_of_gt (And.left (And.right (And.right (And.right (And.right (And.right (And.right (And.right (by with_reducible assumption))))))))) | exact Nat.ne_of_lt (And.left (And.right (And.right (And.right (And.right (And.right (And.right (And.right (by with_reducible assumption))))))))) | exact Nat.ne_of_gt (And.left (And.right (And.right (And.right (And.right (And.right (And.right (And.right (And.right (by with_reducible assumption)))))))))) | exact Nat.ne_of_lt (And.left (And.right (And.right (And.right (And.right (And.right (And.right (And.right (And.right (by with_reducible assumption)))))))))) | exact Nat.ne_of_gt (And.left (And.right (And.right (And.right (And.right (And.right (And.right (And.right (And.right (And.right (by with_reducible assumption))))))))))) | exact Nat.ne_of_lt (And.left (And.right (And.right (And.right (And.right (And.right (And.right (And.right (And.right (And.right (by with_reducible assumption))))))))))) | exact Nat.ne_of_gt (And.left (And.right (And.right (And.right (And.right (And.right (And.right (And.right (And.right (And.right (And.right (by with_reducible assumption)))))))))))) | exact Nat.ne_of_lt (And.left (And.right (And.right (And.right (And.right (And.right (And.right (And.right (And.right (And.right (And.right (by with_reducible assumption)))))))))))) | exact Nat.ne_of_gt (And.left (And.right (And.right (And.right (And.right (And.right (And.right (And.right (And.right (And.right (And.right (And.right (by with_reducible assumption))))))))))))) | exact Nat.ne_of_lt (And.left (And.right (And.right (And.right (And.right (And.right (And.right (And.right (And.right (And.right (And.right (And.right (by with_reducible assumption))))))))))))) | exact Nat.ne_of_gt (And.left (And.right (And.right (And.right (And.right (And.right (And.right (And.right (And.right (And.right (And.right (And.right (And.right (by with_reducible assumption)))))))))))))) | exact Nat.ne_of_lt (And.left (And.right (And.right (And.right (And.right (And.right (And.right (And.right (And.right (And.right (And.right (And.right (And.right (by with_reducible assumption)))))))))))))) | exact Nat.ne_of_gt (And.left (And.right (And.right (And.right (And.right (And.right (And.right (And.right (And.right (And.right (And.right (And.right (And.right (And.right (by with_reducible assumption))))))))))))))) | exact Nat.ne_of_lt (And.left (And.right (And.right (And.right (And.right (And.right (And.right (And.right (And.right (And.right (And.right (And.right (And.right (And.right (by with_reducible assumption))))))))))))))) | exact Nat.ne_of_gt (And.left (And.right (And.right (And.right (And.right (And.right (And.right (And.right (And.right (And.right (And.right (And.right (And.right (And.right (And.right (by with_reducible assumption)))))))))))))))) | exact Nat.ne_of_lt (And.left (And.right (And.right (And.right (And.right (And.right (And.right (And.right (And.right (And.right (And.right (And.right (And.right (And.right (And.right (by with_reducible assumption)))))))))))))))) | exact Nat.ne_of_gt (And.left (And.right (And.right (And.right (And.right (And.right (And.right (And.right (And.right (And.right (And.right (And.right (And.right (And.right (And.right (And.right (by with_reducible assumption))))))))))))))))) | exact Nat.ne_of_lt (And.left (And.right (And.right (And.right (And.right (And.right (And.right (And.right (And.right (And.right (And.right (And.right (And.right (And.right (And.right (And.right (by with_reducible assumption))))))))))))))))) | exact Nat.ne_of_gt (And.left (And.right (And.right (And.right (And.right (And.right (And.right (And.right (And.right (And.right (And.right (And.right (And.right (And.right (And.right (And.right (And.right (by with_reducible assumption)))))))))))))))))) | exact Nat.ne_of_lt (And.left (And.right (And.right (And.right (And.right (And.right (And.right (And.right (And.right (And.right (And.right (And.right (And.right (And.right (And.right (And.right (And.right (by with_reducible assumption)))))))))))))))))) | exact Nat.ne_of_gt (And.left (And.right (And.right (And.right (And.right (And.right (And.right (And.right (And.right (And.right (And.right (And.right (And.right (And.right (And.right (And.right (And.right (And.right (by with_reducible assumption))))))))))))))))))) | exact Nat.ne_of_lt (And.left (And.right (And.right (And.right (And.right (And.right (And.right (And.right (And.right (And.right (And.right (And.right (And.right (And.right (And.right (And.right (And.right (And.right (by with_reducible assumption))))))))))))))))))) | exact Nat.ne_of_gt (And.left (And.right (And.right (And.right (And.right (And.right (And.right (And.right (And.right (And.right (And.right (And.right (And.right (And.right (And.right (And.right (And.right (And.right (And.right (by with_reducible assumption)))))))))))))))))))) | exact Nat.ne_of_lt (And.left (And.right (And.right (And.right (And.right (And.right (And.right (And.right (And.right (And.right (And.right (And.right (And.right (And.right (And.right (And.right (And.right (And.right (And.right (by with_reducible assumption)))))))))))))))))))) | exact Nat.ne_of_gt (And.left (And.right (And.right (And.right (And.right (And.right (And.right (And.right (And.right (And.right (And.right (And.right (And.right (And.right (And.right (And.right (And.right (And.right (And.right (And.right (by with_reducible assumption))))))))))))))))))))) | exact Nat.ne_of_lt (And.left (And.right (And.right (And.right (And.right (And.right (And.right (And.right (And.right (And.right (And.right (And.right (And.right (And.right (And.right (And.right (And.right (And.right (And.right (And.right (by with_reducible assumption))))))))))))))))))))) | exact Nat.ne_of_gt (And.left (And.right (And.right (And.right (And.right (And.right (And.right (And.right (And.right (And.right (And.right (And.right (And.right (And.right (And.right (And.right (And.right (And.right (And.right (And.right (And.right (by with_reducible assumption)))))))))))))))))))))) | exact Nat.ne_of_lt (And.left (And.right (And.right (And.right (And.right (And.right (And.right (And.right (And.right (And.right (And.right (And.right (And.right (And.right (And.right (And.right (And.right (And.right (And.right (And.right (And.right (by with_reducible assumption)))))))))))))))))))))) | exact Nat.ne_of_gt (And.left (And.right (And.right (And.right (And.right (And.right (And.right (And.right (And.right (And.right (And.right (And.right (And.right (And.right (And.right (And.right (And.right (And.right (And.right (And.right (And.right (And.right (by with_reducible assumption))))))))))))))))))))))) | exact Nat.ne_of_lt (And.left (And.right (And.right (And.right (And.right (And.right (And.right (And.right (And.right (And.right (And.right (And.right (And.right (And.right (And.right (And.right (And.right (And.right (And.right (And.right (And.right (And.right (by with_reducible assumption))))))))))))))))))))))) | exact Nat.ne_of_gt (And.left (And.right (And.right (And.right (And.right (And.right (And.right (And.right (And.right (And.right (And.right (And.right (And.right (And.right (And.right (And.right (And.right (And.right (And.right (And.right (And.right (And.right (And.right (by with_reducible assumption)))))))))))))))))))))))) | exact Nat.ne_of_lt (And.left (And.right (And.right (And.right (And.right (And.right (And.right (And.right (And.right (And.right (And.right (And.right (And.right (And.right (And.right (And.right (And.right (And.right (And.right (And.right (And.right (And.right (And.right (by with_reducible assumption)))))))))))))))))))))))) | exact Nat.ne_of_gt (And.left (And.right (And.right (And.right (And.right (And.right (And.right (And.right (And.right (And.right (And.right (And.right (And.right (And.right (And.right (And.right (And.right (And.right (And.right (And.right (And.right (And.right (And.right (And.right (by with_reducible assumption))))))))))))))))))))))))) | exact Nat.ne_of_lt (And.left (And.right (And.right (And.right (And.right (And.right (And.right (And.right (And.right (And.right (And.right (And.right (And.right (And.right (And.right (And.right (And.right (And.right (And.right (And.right (And.right (And.right (And.right (And.right (by with_reducible assumption))))))))))))))))))))))))) | exact Nat.ne_of_gt (And.left (And.right (And.right (And.right (And.right (And.right (And.right (And.right (And.right (And.right (And.right (And.right (And.right (And.right (And.right (And.right (And.right (And.right (And.right (And.right (And.right (And.right (And.right (And.right (And.right (by with_reducible assumption)))))))))))))))))))))))))) | exact Nat.ne_of_lt (And.left (And.right (And.right (And.right (And.right (And.right (And.right (And.right (And.right (And.right (And.right (And.right (And.right (And.right (And.right (And.right (And.right (And.right (And.right (And.right (And.right (And.right (And.right (And.right (And.right (by with_reducible assumption)))))))))))))))))))))))))) | exact Nat.ne_of_gt (And.left (And.right (And.right (And.right (And.right (And.right (And.right (And.right (And.right (And.right (And.right (And.right (And.right (And.right (And.right (And.right (And.right (And.right (And.right (And.right (And.right (And.right (And.right (And.right (And.right (And.right (by with_reducible assumption))))))))))))))))))))))))))) | exact Nat.ne_of_lt (And.left (And.right (And.right (And.right (And.right (And.right (And.right (And.right (And.right (And.right (And.right (And.right (And.right (And.right (And.right (And.right (And.right (And.right (And.right (And.right (And.right (And.right (And.right (And.right (And.right (And.right (by with_reducible assumption))))))))))))))))))))))))))))
  k_with "m enter" => (refine' code_def ?zyk1 ?zyk2 ?zyk3 ?zyk4 ?zyk5 ?zykA ?zykF ?zykK ?zyk6 ?zyk7 ?zyk8 ?zyk9 ?zykB ?_ ?zyc2 ?zyc3 ?zyc4 ?zyc5; (case zykA => exact rfl); (case zykF => exact rfl); (case zykK => assumption); (case zyk1 => k_asm); (case zyk2 => k_asm); (case zyk3 => k_asm); (case zyk4 => k_asm); (case zyk5 => k_asm); (case zyk6 => k_is); (case zyk7 => k_is); (case zyk8 => first | exact Nat.le_of_ble_eq_true rfl | k_room); (case zyk9 => first | exact BindsTo.of_eq rfl | exact binds_K (by k_in) rfl (by k_is) rfl rfl rfl); (case zyc5 => decide); (case zykB => exact locs rfl); (case zyc2 => exact rfl); (case zyc3 => exact rfl); (case zyc4 => exact rfl); k_whole; intro g' L' h' FG' F' N' B' X' T'; (try dsimp only); (try k_fold))
  k_with "getMethod ref" => (k_here; k_dflt (first
      | ((with_reducible show wpAny _ _ (getMethod (Value.ref _) (Str.ofString "clock") _) _ _ _); refine' kmu_own ?zyk1 ?zyk2 ?zyk3 ?zyk4 ?zyk5 ?_; (case zyk1 => k_asm); (case zyk2 => k_asm); (case zyk3 => k_inst); (case zyk4 => k_is); (case zyk5 => k_is); k_whole)
      | ((with_reducible show wpAny _ _ (getMethod (Value.ref _) (Str.ofString "get") _) _ _ _); refine dv_method PySem.F.slot_dict_get PySem.F.type_dict_get (by k_asm) (by k_mem) (by assumption) ?_)
      | ((with_reducible show wpAny _ _ (getMethod (Value.ref _) (Str.ofString "pop") _) _ _ _); refine dv_method PySem.F.slot_dict_pop PySem.F.type_dict_pop (by k_asm) (by k_mem) (by assumption) ?_)
      | ((with_reducible show wpAny _ _ (getMethod (Value.ref _) (Str.ofString "setdefault") _) _ _ _); refine dv_method PySem.F.slot_dict_setdefault PySem.F.type_dict_setdefault (by k_asm) (by k_mem) (by assumption) ?_)
      | ((with_reducible show wpAny _ _ (getMethod (Value.ref _) (Str.ofString "sliding_window_keys") _) _ _ _); (refine' kmu_cm ?zyk1 ?zyk2 ?zyk3 ?zyk4 ?zyk5 ?zyk6 ?zyk7 ?zyk8 ?zyk9 ?zyk10 ?zyk11 ?zyk12 ?zyk13 ?_; (case zyk1 => k_asm); (case zyk2 => k_asm); (case zyk3 => k_asm); (case zyk4 => k_inst); (case zyk5 => k_is); (case zyk6 => k_is); (case zyk7 => k_is); (case zyk8 => k_is); (case zyk9 => k_is); (case zyk10 => k_is); (case zyk11 => decide +kernel); (case zyk12 => k_get); (case zyk13 => k_is); k_whole; intro q' h' F' N' l1; (try k_lt l1); (try k_sweep)))))
  k_with "call builtin:dict.get" => (k_here; k_dflt (refine iv_get (by k_asm) (by k_mem) (by assumption) (by assumption) ?_; intro tv'); (try dsimp only))
  k_with "call builtin:dict.pop" => (k_here; k_dflt (refine' dv_pop ?zyF ?zyN ?zyU ?zyhd ?zylo ?zyhz ?_; (case zyF => k_asm); (case zyN => k_asm); (case zyU => k_updF); (case zyhd => assumption); (case zylo => assumption); (case zyhz => walk_at "m om"); k_whole); (intro v' h' o' F' N' hd'; (try dsimp only at N'); (try dsimp only); (try k_sweep)))
  k_with "callWith ref" => (k_here; k_dflt (first
      | refine' callWith_K ?zyk1 ?zyk2 ?_; (case zyk1 => k_asm); (case zyk2 => k_is); k_whole
      | (refine' callWith_M ?zyk1 ?zyk2 ?zyk3 ?zyk4 ?_; (case zyk1 => k_asm); (case zyk2 => k_asm); (case zyk3 => k_mem); (case zyk4 => k_is); k_whole)
      | (refine' callWith_KW ?zyk1 ?zyk2 ?zyk3 ?_; (case zyk1 => k_asm); (case zyk2 => k_is); (case zyk3 => exact rfl); k_whole)
      | (refine' callWith_F0 ?zyk1 ?_; (case zyk1 => exact FnAt.of (by k_asm) (by k_mem)); k_whole; try dsimp only [List.nil_append, List.cons_append])
      | (refine' callWith_F ?zyk1 ?_; (case zyk1 => exact FnAt.of (by k_asm) (by k_mem)); k_whole)))
  k_with "m sub" => (intro q' hq' _; first | exact hq' | exact List.Mem.tail _ hq' | exact List.Mem.tail _ (List.Mem.tail _ hq') | exact List.Mem.tail _ (List.Mem.tail _ (List.Mem.tail _ hq')) | (repeat (first | exact hq' | refine List.Mem.tail _ ?_)))
  k_with "call type:type" => (k_here; k_dflt (refine' kto_own ?zyI ?_; (case zyI => (refine' inst_Kt ?zyX ?zyh1 ?zyh2; (case zyX => k_in); (case zyh1 => k_is); (case zyh2 => k_is))); k_whole))
  k_with "call builtin:issubclass" => (k_here; k_dflt (refine' c_issub ?zyX ?zya ?zyb ?_; (case zyX => k_in); (case zya => k_is); (case zyb => k_is); k_whole))
  k_with "call builtin:tuple.__getitem__" => (k_here; k_dflt (first
      | (refine' c_tupget_K ?zyF ?zyX ?zyb ?zya ?zyc ?zyd ?zye ?zyf ?_; (case zyF => k_asm); (case zyX => k_asm); (case zyb => k_is); (case zya => k_is); (case zyc => decide); (case zyd => decide); (case zye => rfl); (case zyf => rfl); k_whole)
      | (refine' c_tupget_N ?zyF ?zyX ?zyN ?zyb ?zya ?zyc ?zyd ?zye ?zyf ?_; (case zyF => k_asm); (case zyX => k_asm); (case zyN => k_asm); (case zyb => k_mem); (case zya => k_is); (case zyc => decide); (case zyd => decide); (case zye => rfl); (case zyf => rfl); k_whole)))
  k_with "getMethod type:tuple" => (k_here; k_dflt (refine' method_type ?zyF ?zyX ?zym ?zyst ?zye ?zyh ?_; (case zyF => k_asm); (case zyX => k_asm); (case zym => exact kitMeta_of (by decide +kernel)); (case zyst => decide +kernel); (case zye => k_is); (case zyh => k_handed); k_whole); (try dsimp only))
  k_with "call ref" => (k_here; (with_reducible show wpAny _ _ (call (Value.ref _) []) _ _ _); k_dflt (refine' Store.tick ?zyO ?zyB ?zyF ?zyX ?zyT ?zyk ?zyN ?zys ?zyd ?zyu ?_; (case zyO => assumption); (case zyB => k_asm); (case zyF => k_asm); (case zyX => k_asm); (case zyT => k_asm); (case zyk => first | exact rfl | assumption); (case zyN => k_asm); (case zys => walk_at "m sub"); (case zyd => exact Nat.le_of_ble_eq_true rfl); (case zyu => exact Nat.le_of_ble_eq_true rfl); k_whole); (intro r' h' tk' F' N'; (try dsimp only); (try k_sweep)))
  k_with "setItem ref str" => (k_here; k_dflt (refine' dv_set ?zyF ?zyN ?zyU ?zyhd ?zyhz ?zyhx ?_; (case zyF => k_asm); (case zyN => k_asm); (case zyU => k_updF); (case zyhd => assumption); (case zyhz => walk_at "m om"); (case zyhx => first | exact ⟨_, rfl⟩ | exact rfl); k_whole); (intro h' o' F' N' hd'; (try dsimp only at N'); (try dsimp only); (try k_sweep)))
  k_with "subscriptTail" => (k_here; k_dflt (refine' dv_tail ?zyN ?zyhp ?zyhd ?_; (case zyN => k_asm); (case zyhp => k_mem); (case zyhd => assumption); k_whole))
  k_with "getItem ref str" => (k_here; k_dflt (refine' iv_getItem ?zyN ?zyhp ?zyhd ?zye ?_; (case zyN => k_asm); (case zyhp => k_mem); (case zyhd => assumption); (case zye => simp [upd]); k_whole); (intro t'; (try dsimp only)))
  k_with "binaryOp FloorDiv int int" => (k_here; (with_reducible refine floordiv_int ?zykbe ?_ (Or.inl (PyProof.noPylong_small ?zykbp))); (case zykbe => walk_at "m om"); (case zykbp => walk_at "m om"))
  k_with "binaryOp Mod int int" => (k_here; (with_reducible refine mod_int' ?zykbe ?_); (case zykbe => walk_at "m om"))
  k_with "binaryOp Mult int int" => (k_here; first
      | ((with_reducible refine mul_int ?_ (IntMulOk.of_right (PySem.W.X.intBits_le_64 ?zyl ?zyr))); (case zyl => walk_at "m om"); (case zyr => walk_at "m om"))
      | ((with_reducible refine mul_int ?_ (IntMulOk.of_left (PySem.W.X.intBits_le_64 ?zyl ?zyr))); (case zyl => walk_at "m om"); (case zyr => walk_at "m om")))
  k_with "formatField int" => (k_here; (with_reducible refine wpAny_formatField_int (log2_small ?zykbb) ?_); (case zykbb => walk_at "m om"); (try dsimp only))
  k_with "newTuple" => (k_here; k_dflt (refine' newTuple_O ?zyF ?zyN ?_ ?zyz; (case zyF => k_asm); (case zyN => k_asm); (case zyz => first | exact Nat.le_of_ble_eq_true rfl | size_fits); k_whole); (intro q' h' F' N' l1; (replace l1 := allLt_of l1); (have l2 := l1); (try dsimp only [AllLt] at l2); (try dsimp only); (try k_sweep)))
  k_with "execs cons" => (k_here; (with_reducible show wpAny _ _ _ _ _ (Shared.mk _ _ _ (_ + _) _)); refine' tokN _ ?_; intro tkN)
  k_with "m lt" => first | with_reducible assumption | exact And.left (by with_reducible assumption) | exact And.left (And.right (by with_reducible assumption)) | exact And.left (And.right (And.right (by with_reducible assumption))) | exact And.left (And.right (And.right (And.right (by with_reducible assumption)))) | exact And.left (And.right (And.right (And.right (And.right (by with_reducible assumption))))) | exact And.left (And.right (And.right (And.right (And.right (And.right (by with_reducible assumption)))))) | exact And.left (And.right (And.right (And.right (And.right (And.right (And.right (by with_reducible assumption))))))) | exact And.left (And.right (And.right (And.right (And.right (And.right (And.right (And.right (by with_reducible assumption)))))))) | exact And.left (And.right (And.right (And.right (And.right (And.right (And.right (And.right (And.right (by with_reducible assumption))))))))) | exact And.left (And.right (And.right (And.right (And.right (And.right (And.right (And.right (And.right (And.right (by with_reducible assumption)))))))))) | exact And.left (And.right (And.right (And.right (And.right (And.right (And.right (And.right (And.right (And.right (And.right (by with_reducible assumption))))))))))) | exact And.left (And.right (And.right (And.right (And.right (And.right (And.right (And.right (And.right (And.right (And.right (And.right (by with_reducible assumption)))))))))))) | exact And.left (And.right (And.right (And.right (And.right (And.right (And.right (And.right (And.right (And.right (And.right (And.right (And.right (by with_reducible assumption))))))))))))) | exact And.left (And.right (And.right (And.right (And.right (And.right (And.right (And.right (And.right (And.right (And.right (And.right (And.right (And.right (by with_reducible assumption)))))))))))))) | omega
  k_with "m om" => first | with_reducible assumption | with_reducible exact Nat.le_refl _ | with_reducible exact Nat.le_add_right _ _ | with_reducible exact Nat.le_succ _ | with_reducible exact Int.le_refl _ | (with_reducible refine Nat.le_of_ble_eq_true ?_; with_reducible rfl) | omega
  trivial
section
section
variable {h₀ h : Heap} {L : Addr} {news frz : List (Addr × Obj)}
theorem updF_memg {d : Addr} {o : Obj} {l : List (Addr × Obj)} {g : Obj → List (Addr × Obj)} (U : UpdF d o l g) (a : Obj) (q : Addr × Obj) : q ∈ g a ↔ (q = (d, a) ∨ (q ∈ l ∧ q.1 ≠ d)) := by
  obtain ⟨pre, post, rfl, hg, h1, h2⟩ := U.split
  rw [hg]
  constructor
  · intro hq
    rcases List.mem_append.mp hq with hq | hq
    · exact .inr ⟨List.mem_append_left _ hq, h1 q hq⟩
    · rcases List.mem_cons.mp hq with e | hq
      · exact .inl e
      · exact .inr ⟨List.mem_append_right _ (.tail _ hq), h2 q hq⟩
  · rintro (e | ⟨hq, hn⟩)
    · subst e; exact List.mem_append_right _ (.head _)
    · rcases List.mem_append.mp hq with hq | hq
      · exact List.mem_append_left _ hq
      · rcases List.mem_cons.mp hq with e | hq
        · subst e; exact absurd rfl hn
        · exact List.mem_append_right _ (.tail _ hq)
theorem updF_mem0 {d : Addr} {o : Obj} {l : List (Addr × Obj)} {g : Obj → List (Addr × Obj)} (U : UpdF d o l g) : (d, o) ∈ l := by
  obtain ⟨pre, post, rfl, hg, h1, h2⟩ := U.split
  exact List.mem_append_right _ (.head _)

theorem news_of {l l' : List (Addr × Obj)} (N : News h₀ L h l) (hs : ∀ q, q ∈ l' → q ∈ l) : News h₀ L h l' := fun q hq => N q (hs q hq)
theorem cons_sub {a : Addr × Obj} {l l' : List (Addr × Obj)} (hs : ∀ q, q ∈ l' → q ∈ l) : ∀ q, q ∈ a :: l' → q ∈ a :: l := fun q hq => by
  rcases List.mem_cons.mp hq with e | hq
  · subst e; exact .head _
  · exact .tail _ (hs q hq)
theorem allLt_sub {d : Addr} {l l' : List (Addr × Obj)} (hs : ∀ q, q ∈ l' → q ∈ l) (h : ∀ p ∈ l, @LT.lt Nat _ p.1 d) : AllLt d l' := allLt_of fun q hq => h q (hs q hq)
theorem allLt_mem {d : Addr} : ∀ {l : List (Addr × Obj)}, AllLt d l → ∀ p ∈ l, @LT.lt Nat _ p.1 d
  | [], _, _, h => nomatch h
  | q :: r, h, p, hp => by
    rcases List.mem_cons.mp hp with e | hp
    · subst e; exact h.1
    · exact allLt_mem h.2 p hp
theorem split1 {d1 : Addr} {o1 : Obj} {g1 : Obj → List (Addr × Obj)} (U1 : UpdF d1 o1 news g1) (N : News h₀ L h news) :
    ∃ frz, (∀ q ∈ frz, q.1 ≠ d1) ∧ News h₀ L h ((d1, o1) :: frz) ∧ (∀ q ∈ news, q.1 ≠ d1 → q ∈ frz) ∧ (∀ a q, q ∈ g1 a → q ∈ (d1, a) :: frz) := by
  refine ⟨news.filter fun q => decide (q.1 ≠ d1), fun q hq => ?_, fun q hq => ?_, fun q hq h1 => ?_, fun a q hq => ?_⟩
  · exact of_decide_eq_true (List.mem_filter.mp hq).2
  · rcases List.mem_cons.mp hq with e | hq
    · subst e; exact N _ (updF_mem0 U1)
    · exact N q (List.mem_filter.mp hq).1
  · exact List.mem_filter.mpr ⟨hq, decide_eq_true h1⟩
  · rcases (updF_memg U1 a q).mp hq with e | ⟨hl, hn⟩
    · subst e; exact .head _
    · exact .tail _ (List.mem_filter.mpr ⟨hl, decide_eq_true hn⟩)
theorem split2 {d1 d2 : Addr} {o1 o2 : Obj} {g1 : Obj → List (Addr × Obj)} {g2 : Obj → Obj → List (Addr × Obj)} (hne : d2 ≠ d1) (U1 : UpdF d1 o1 news g1) (U2 : ∀ o, UpdF d2 o2 (g1 o) (g2 o)) (N : News h₀ L h news) :
    ∃ frz, (∀ q ∈ frz, q.1 ≠ d1) ∧ (∀ q ∈ frz, q.1 ≠ d2) ∧ News h₀ L h ((d1, o1) :: (d2, o2) :: frz) ∧ (∀ q ∈ news, q.1 ≠ d1 → q.1 ≠ d2 → q ∈ frz) ∧ (∀ a b q, q ∈ g2 a b → q ∈ (d1, a) :: (d2, b) :: frz) := by
  obtain ⟨f1, n1, N1, s1, r1⟩ := split1 U1 N
  have m2 : (d2, o2) ∈ news := by
    rcases (updF_memg U1 o1 (d2, o2)).mp (updF_mem0 (U2 o1)) with e | ⟨hl, _⟩
    · exact absurd (congrArg Prod.fst e) hne
    · exact hl
  refine ⟨f1.filter fun q => decide (q.1 ≠ d2), fun q hq => n1 q (List.mem_filter.mp hq).1, fun q hq => of_decide_eq_true (List.mem_filter.mp hq).2, fun q hq => ?_, fun q hq h1 h2 => List.mem_filter.mpr ⟨s1 q hq h1, decide_eq_true h2⟩, fun a b q hq => ?_⟩
  · rcases List.mem_cons.mp hq with e | hq
    · subst e; exact N1 _ (.head _)
    · rcases List.mem_cons.mp hq with e | hq
      · subst e; exact N _ m2
      · exact N1 _ (.tail _ (List.mem_filter.mp hq).1)
  · rcases (updF_memg (U2 a) b q).mp hq with e | ⟨hl, hn⟩
    · subst e; exact .tail _ (.head _)
    · rcases (updF_memg U1 a q).mp hl with e | ⟨hl, hn1⟩
      · subst e; exact .head _
      · exact .tail _ (.tail _ (List.mem_filter.mpr ⟨s1 q hl hn1, decide_eq_true hn⟩))
theorem split3 {d1 d2 d3 : Addr} {o1 o2 o3 : Obj} {g1 : Obj → List (Addr × Obj)} {g2 : Obj → Obj → List (Addr × Obj)} {g3 : Obj → Obj → Obj → List (Addr × Obj)} (hne : d2 ≠ d1) (hne1 : d3 ≠ d1) (hne2 : d3 ≠ d2) (U1 : UpdF d1 o1 news g1) (U2 : ∀ o, UpdF d2 o2 (g1 o) (g2 o)) (U3 : ∀ o o', UpdF d3 o3 (g2 o o') (g3 o o')) (N : News h₀ L h news) :
    ∃ frz, (∀ q ∈ frz, q.1 ≠ d1) ∧ (∀ q ∈ frz, q.1 ≠ d2) ∧ (∀ q ∈ frz, q.1 ≠ d3) ∧ News h₀ L h ((d1, o1) :: (d2, o2) :: (d3, o3) :: frz) ∧ (∀ q ∈ news, q.1 ≠ d1 → q.1 ≠ d2 → q.1 ≠ d3 → q ∈ frz) ∧ (∀ a b c q, q ∈ g3 a b c → q ∈ (d1, a) :: (d2, b) :: (d3, c) :: frz) := by
  obtain ⟨f1, n1, n2, N1, s1, r1⟩ := split2 hne U1 U2 N
  have m3 : (d3, o3) ∈ news := by
    rcases (updF_memg (U2 o1) o2 (d3, o3)).mp (updF_mem0 (U3 o1 o2)) with e | ⟨hl, _⟩
    · exact absurd (congrArg Prod.fst e) hne2
    · rcases (updF_memg U1 o1 (d3, o3)).mp hl with e | ⟨hl, _⟩
      · exact absurd (congrArg Prod.fst e) hne1
      · exact hl
  refine ⟨f1.filter fun q => decide (q.1 ≠ d3), fun q hq => n1 q (List.mem_filter.mp hq).1, fun q hq => n2 q (List.mem_filter.mp hq).1, fun q hq => of_decide_eq_true (List.mem_filter.mp hq).2, fun q hq => ?_, fun q hq h1 h2 h3 => List.mem_filter.mpr ⟨s1 q hq h1 h2, decide_eq_true h3⟩, fun a b c q hq => ?_⟩
  · rcases List.mem_cons.mp hq with e | hq
    · subst e; exact N1 _ (.head _)
    · rcases List.mem_cons.mp hq with e | hq
      · subst e; exact N1 _ (.tail _ (.head _))
      · rcases List.mem_cons.mp hq with e | hq
        · subst e; exact N _ m3
        · exact N1 _ (.tail _ (.tail _ (List.mem_filter.mp hq).1))
  · rcases (updF_memg (U3 a b) c q).mp hq with e | ⟨hl, hn⟩
    · subst e; exact .tail _ (.tail _ (.head _))
    · rcases (updF_memg (U2 a) b q).mp hl with e | ⟨hl, hn2⟩
      · subst e; exact .tail _ (.head _)
      · rcases (updF_memg U1 a q).mp hl with e | ⟨hl, hn1⟩
        · subst e; exact .head _
        · exact .tail _ (.tail _ (.tail _ (List.mem_filter.mpr ⟨s1 q hl hn1 hn2, decide_eq_true hn⟩)))
end

/-- not one of the three tables -/
noncomputable def Off (S X V a : Addr) : Prop := a ≠ S ∧ a ≠ X ∧ a ≠ V
inductive StoreParts (news : List (Addr × Obj)) (st S X V clk : Addr) : Prop
  | mk (dx : Addr) (h1 h2 h3 h4 : Int) (t1 t2 t3 t4 : Tok) (n : Nat) (oc : Value) (od : Option Addr) (fd : FuncData) (sl : Array (Option Value)) (p1 : (st, instObj 691 dx) ∈ news) (p2 : (clk, (⟨oc, od, .func fd, sl⟩ : Obj)) ∈ news)
    (p3 : (dx, dictOf [⟨h1, .str (Str.ofString "clock") t1, .ref clk⟩, ⟨h2, .str (Str.ofString "storage") t2, .ref S⟩, ⟨h3, .str (Str.ofString "expirations") t3, .ref X⟩, ⟨h4, .str (Str.ofString "events") t4, .ref V⟩] n) ∈ news)
    (l1 : @LT.lt Nat _ dx S) (l2 : @LT.lt Nat _ st S) (l3 : @LT.lt Nat _ clk S) : StoreParts news st S X V clk
structure Store (w : World) (news : List (Addr × Obj)) (st S X V clk : Addr) (t : Int) : Prop where
  parts : StoreParts news st S X V clk
  clock : ∃ ck, ClockOf w ck clk t ∧ (∀ q ∈ ck, q ∈ news) ∧ (∀ q ∈ ck, Off S X V q.1)
  sx : @LT.lt Nat _ S X
  xv : @LT.lt Nat _ X V
  lS : (S == sysModules) = false
  lX : (X == sysModules) = false
  lV : (V == sysModules) = false
theorem Store.sub {w : World} {news news' : List (Addr × Obj)} {st S X V clk : Addr} {t : Int} (O : Store w news st S X V clk t) (hs : ∀ q ∈ news, Off S X V q.1 → q ∈ news') : Store w news' st S X V clk t := by
  obtain ⟨⟨dx, h1, h2, h3, h4, t1, t2, t3, t4, n, oc, od, fd, sl, p1, p2, p3, l1, l2, l3⟩, ⟨ck, C, c1, c2⟩, sx, xv, lS, lX, lV⟩ := O
  have off : ∀ a : Addr, @LT.lt Nat _ a S → Off S X V a := fun a ha => ⟨Nat.ne_of_lt ha, Nat.ne_of_lt (Nat.lt_trans ha sx), Nat.ne_of_lt (Nat.lt_trans ha (Nat.lt_trans sx xv))⟩
  exact ⟨⟨dx, h1, h2, h3, h4, t1, t2, t3, t4, n, oc, od, fd, sl, hs _ p1 (off _ l2), hs _ p2 (off _ l3), hs _ p3 (off _ l1), l1, l2, l3⟩, ⟨ck, C, fun q hq => hs q (c1 q hq) (c2 q hq), c2⟩, sx, xv, lS, lX, lV⟩
theorem Store.xs {w : World} {news : List (Addr × Obj)} {st S X V clk : Addr} {t : Int} (O : Store w news st S X V clk t) : X ≠ S := (Nat.ne_of_lt O.sx).symm
theorem Store.vs {w : World} {news : List (Addr × Obj)} {st S X V clk : Addr} {t : Int} (O : Store w news st S X V clk t) : V ≠ S := (Nat.ne_of_lt (Nat.lt_trans O.sx O.xv)).symm
theorem Store.vx {w : World} {news : List (Addr × Obj)} {st S X V clk : Addr} {t : Int} (O : Store w news st S X V clk t) : V ≠ X := (Nat.ne_of_lt O.xv).symm
/-- the clock, called where all its parts lie -/
theorem Store.tick {w : World} {news : List (Addr × Obj)} {st S X V clk : Addr} {t : Int} (O : Store w news st S X V clk t) {p : Program} {loose : List Str} {mean : ExcName → Option Value} {mg mb : Str → Option Value} {dp un : Nat} {gd : Option (List Code)} {cn : Str} {cs : Scope} {a : Addr} {ccd : Value} {cl : List (Str × Addr)} {outer : List Env} {A₀ : Around} {base h₀ : Heap} {L : Addr} {m : Str → Option Value} {s : Shared} {Q E : Value → Shared → Prop} {news' : List (Addr × Obj)}
    (B : Below A₀ base outer h₀) (F : Fr h₀ L s.heap m) (X' : (Mine.hd1.heap_39 w.params).In h₀) (T : Top p loose mean mg mb h₀) (hk : cs.kind = .function) (N : News h₀ L s.heap news') (hs : ∀ q ∈ news, Off S X V q.1 → q ∈ news') (hd : dp ≤ 900) (hu : un ≤ 9000)
    (ret : ∀ r h' tk', Fr h₀ L h' m → News h₀ L h' news' → Q (.int t r) { s with heap := h', toks := tk' }) :
    wpAny (model PySem.Challenge.rw_ji0060_02.row.prog w) (ktrTop dp un gd cn cs L a ccd cl outer) (call (.ref clk) []) Q E s := by
  obtain ⟨ck, C, c1, c2⟩ := O.clock
  exact C.use B F X' T hk N (fun q hq => hs q (c1 q hq) (c2 q hq)) hd hu ret
theorem log2_small {a : Int} (h : a.natAbs < 18446744073709551616) : a.natAbs.log2 < 1920 := by
  by_cases h0 : a.natAbs = 0
  · rw [h0]; decide +kernel
  · exact Nat.lt_of_lt_of_le ((Nat.log2_lt h0).mpr (show a.natAbs < 2 ^ 64 from h)) (by decide)
theorem fdiv_bounds {t e : Int} (he : 0 < e) (ht : 0 ≤ t) : 0 ≤ t.fdiv e ∧ t.fdiv e ≤ t := by
  rw [Int.fdiv_eq_ediv_of_nonneg _ (Int.le_of_lt he)]
  exact ⟨Int.ediv_nonneg ht (Int.le_of_lt he), Int.ediv_le_self _ ht⟩
theorem fmod_bounds {t e : Int} (he : 0 < e) : 0 ≤ t.fmod e ∧ t.fmod e < e := by
  rw [Int.fmod_eq_emod_of_nonneg _ (Int.le_of_lt he)]
  exact ⟨Int.emod_nonneg _ (Int.ne_of_gt he), Int.emod_lt_of_pos _ he⟩
/-- an int's text -/
noncomputable def itx (n : Int) : Str := Str.ofString (toString n)
/-- a window's key -/
noncomputable def wkey (key : Str) (n : Int) : Str := Str.empty ++ key ++ Str.ofString "/" ++ Str.ofString (toString n)
section
variable {M : Model} {A : Around} {E : Value → Shared → Prop} {s : Shared} {h₀ : Heap} {L : Addr} {m : Str → Option Value} {news : List (Addr × Obj)}
theorem newTuple_O {vs : List Value} {Q : Value → Shared → Prop} (F : Fr h₀ L s.heap m) (N : News h₀ L s.heap news)
    (h : ∀ q h', Fr h₀ L h' m → News h₀ L h' ((q, { cls := .type "tuple", data := .seq vs.toArray }) :: news) → (∀ p ∈ news, p.1 < q) → Q (.ref q) { s with heap := h' }) (hsz : vs.length ≤ sizeLine := by size_fits) :
    wpAny M A (newTuple vs) Q E s := newTuple_N F N (fun h' F' N' => h _ h' F' N' fun p hp => Heap.lt_size (N p hp).1) hsz
end
/-- a text made by join -/
theorem join_O {prog : Program} {w : World} {A : Around} {E : Value → Shared → Prop} {s : Shared} {x : Str} {t : Tok} {Q : Value → Shared → Prop} {D : Addr} {items : Array Value} {ys : List Str} (hl : s.heap.IsList D items) (hi : StrsAre items.toList ys) (hsep : x.length ≤ 4) (hw : (ys.map (·.length)).sum + ys.length ≤ 1000)
    (h : ∀ r t' k, r = Txt.join x ys → r.length ≤ 4004 → Q (.str r t') { s with toks := k }) : wpAny (model prog w) A (call (.builtin "str.join") [.str x t, .ref D]) Q E s :=
  join_listW hl hi (by omega) (by omega) fun t' k => h _ t' k rfl (len_join_le (n := 1000) (Nat.le_succ_of_le hw) hsep)

end
section
section
variable {w : World} {p : Program} {loose : List Str} {mean : ExcName → Option Value} {mg mb : Str → Option Value} {dp un : Nat} {gd : Option (List Code)} {cn : Str} {cs : Scope} {a : Addr} {ccd : Value} {cl : List (Str × Addr)} {outer : List Env} {A₀ : Around} {base h₀ : Heap} {L : Addr} {m : Str → Option Value} {s : Shared} {Q E : Value → Shared → Prop}
  (B : Below A₀ base outer h₀) (F : Fr h₀ L s.heap m) (KX : (Mine.hd1.heap_39 w.params).In h₀) (T : Top p loose mean mg mb h₀) (hk : cs.kind = .function)
include B F KX T hk

theorem get_spec {news : List (Addr × Obj)} {oS oX : Obj} {g1 : Obj → List (Addr × Obj)} {g2 : Obj → Obj → List (Addr × Obj)} {f x : Str → Option Int} {nS nX : Nat} {st S X V clk : Addr} {key : Str} {tk : Tok} {t : Int}
    (N : News h₀ L s.heap news) (U1 : UpdF S oS news g1) (U2 : ∀ o, UpdF X oX (g1 o) (g2 o)) (O : Store w news st S X V clk t)
    (hS : IntD PySem.Challenge.rw_ji0060_02.row.prog w oS f nS) (hX : IntD PySem.Challenge.rw_ji0060_02.row.prog w oX x nX) (zS : nS ≤ sizeLine) (zX : nX ≤ sizeLine) (hd : dp ≤ 880) (hu : un ≤ 8800)
    (ret : ∀ r oS' oX' h' tk', Fr h₀ L h' m → News h₀ L h' (g2 oS' oX') → IntD PySem.Challenge.rw_ji0060_02.row.prog w oS' (swept x key t f) nS → IntD PySem.Challenge.rw_ji0060_02.row.prog w oX' (swept x key t x) nX → Q (.int ((swept x key t f key).getD 0) r) { s with heap := h', toks := tk' }) :
    wpAny (model PySem.Challenge.rw_ji0060_02.row.prog w) (ktrTop dp un gd cn cs L a ccd cl outer) (call (.ref 616) [.ref st, .str key tk]) Q E s := by
  refine lower ?_ hd hu
  obtain ⟨frz, n1, n2, N', sub, mem⟩ := split2 O.xs U1 U2 N
  have O' : Store w frz st S X V clk t := O.sub (fun q hq ho => sub q hq ho.1 ho.2.1)
  clear N U1 U2 sub O
  have O'' := O'
  obtain ⟨⟨dx, h1, h2, h3, h4, t1, t2, t3, t4, nn, oc, od, fd, sl, hst, hck, hdx, _, _, _⟩, _, sx, xv, lS, lX, lV⟩ := O''
  revert KX; k_fill; intro KX
  refine wpAny_call ?_
  walk_at "m enter"
  k_steps
  · have hc : (x key).getD 0 ≤ t := by assumption
    have e1 : swept x key t f = upd f key none := if_pos hc
    have e2 : swept x key t x = upd x key none := if_pos hc
    rw [e1, e2] at ret
    exact ret _ _ _ _ _ (by assumption) (news_of (by assumption) (mem _ _)) (by assumption) (by assumption)
  · have hc : ¬ (x key).getD 0 ≤ t := by assumption
    have e1 : swept x key t f = f := if_neg hc
    have e2 : swept x key t x = x := if_neg hc
    rw [e1, e2] at ret
    exact ret _ _ _ _ _ (by assumption) (news_of (by assumption) (mem _ _)) (by assumption) (by assumption)
end

end

theorem said_get : True := by
  k_with "call ref" => (k_here; (with_reducible show wpAny _ _ (call (Value.ref 616) _) _ _ _); k_dflt (refine' get_spec ?zyB ?zyF ?zyX ?zyT ?zyk ?zyN ?zyU1 ?zyU2 ?zyO ?zyhS ?zyhX ?zyzS ?zyzX ?zyd ?zyu ?_; (case zyB => k_asm); (case zyF => k_asm); (case zyX => k_asm); (case zyT => k_asm); (case zyk => first | exact rfl | assumption); (case zyN => k_asm); (case zyO => refine' Store.sub ?zyo ?zys; (case zyo => assumption); (case zys => walk_at "m sub")); (case zyU1 => k_updF); (case zyU2 => (intro o1; (try dsimp only); k_updF)); (case zyhS => assumption); (case zyhX => assumption); (case zyzS => first | assumption | omega); (case zyzX => first | assumption | omega); (case zyd => exact Nat.le_of_ble_eq_true rfl); (case zyu => exact Nat.le_of_ble_eq_true rfl); k_whole); (intro r' oS' oX' h' tk' F' N' hS' hX'; (try dsimp only at N'); (try dsimp only); (try k_sweep)))
  trivial
section
noncomputable def incF (f x : Str → Option Int) (key : Str) (t am : Int) : Str → Option Int := upd (swept x key t f) key (some ((swept x key t f key).getD 0 + am))
noncomputable def incX (f x : Str → Option Int) (key : Str) (t e am : Int) : Str → Option Int := if (swept x key t f key).getD 0 + am = am then upd (swept x key t x) key (some (t + e)) else swept x key t x
section
variable {w : World} {p : Program} {loose : List Str} {mean : ExcName → Option Value} {mg mb : Str → Option Value} {dp un : Nat} {gd : Option (List Code)} {cn : Str} {cs : Scope} {a : Addr} {ccd : Value} {cl : List (Str × Addr)} {outer : List Env} {A₀ : Around} {base h₀ : Heap} {L : Addr} {m : Str → Option Value} {s : Shared} {Q E : Value → Shared → Prop}
  (B : Below A₀ base outer h₀) (F : Fr h₀ L s.heap m) (KX : (Mine.hd1.heap_39 w.params).In h₀) (T : Top p loose mean mg mb h₀) (hk : cs.kind = .function)
include B F KX T hk

end
noncomputable def incr_spec_St (w : World) (p : Program) (loose : List Str) (mean : ExcName → Option Value) (mg : Str → Option Value) (mb : Str → Option Value) (dp : Nat) (un : Nat) (gd : Option (List Code)) (cn : Str) (cs : Scope) (a : Addr) (ccd : Value) (cl : List (Str × Addr)) (outer : List Env) (A₀ : Around) (base : Heap) (h₀ : Heap) (L : Addr) (m : Str → Option Value) (s : Shared) (Q : Value → Shared → Prop) (E : Value → Shared → Prop) (news : List (Addr × Obj)) (oS : Obj) (oX : Obj) (g1 : Obj → List (Addr × Obj)) (g2 : Obj → Obj → List (Addr × Obj)) (f : Str → Option Int) (x : Str → Option Int) (nS : Nat) (nX : Nat) (st : Addr) (S : Addr) (X : Addr) (V : Addr) (clk : Addr) (key : Str) (tk : Tok) (te : Tok) (ta : Tok) (t : Int) (e : Int) (am : Int) : Prop := ∀ (B : Below A₀ base outer h₀) (F : Fr h₀ L s.heap m) (KX : (Mine.hd1.heap_39 w.params).In h₀) (T : Top p loose mean mg mb h₀) (hk : cs.kind = .function) (N : News h₀ L s.heap news) (U1 : UpdF S oS news g1) (U2 : ∀ o, UpdF X oX (g1 o) (g2 o)) (O : Store w news st S X V clk t) (hS : IntD PySem.Challenge.rw_ji0060_02.row.prog w oS f nS) (hX : IntD PySem.Challenge.rw_ji0060_02.row.prog w oX x nX) (zS : nS + 1 ≤ sizeLine) (zX : nX + 1 ≤ sizeLine) (hd : dp ≤ 860) (hu : un ≤ 8600) (retH : ∀ r oS' oX' h' tk', Fr h₀ L h' m → News h₀ L h' (g2 oS' oX') → IntD PySem.Challenge.rw_ji0060_02.row.prog w oS' (incF f x key t am) (nS + 1) → IntD PySem.Challenge.rw_ji0060_02.row.prog w oX' (incX f x key t e am) (nX + 1) → Q (.int ((swept x key t f key).getD 0 + am) r) { s with heap := h', toks := tk' }), wpAny (model PySem.Challenge.rw_ji0060_02.row.prog w) (ktrTop dp un gd cn cs L a ccd cl outer) (call (.ref 601) [.ref st, .str key tk, .int e te] [(Str.ofString "amount", .int am ta)]) Q E s
namespace c_incr_spec
noncomputable def zcv : (World) × (Program) × (List Str) × (ExcName → Option Value) × (Str → Option Value) × (Str → Option Value) × (Nat) × (Nat) × (Option (List Code)) × (Str) × (Scope) × (Addr) × (Value) × (List (Str × Addr)) × (List Env) × (Around) × (Heap) × (Heap) × (Addr) × (Str → Option Value) × (Shared) × (Value → Shared → Prop) × (Value → Shared → Prop) × (List (Addr × Obj)) × (Obj) × (Obj) × (Obj → List (Addr × Obj)) × (Obj → Obj → List (Addr × Obj)) × (Str → Option Int) × (Str → Option Int) × (Nat) × (Nat) × (Addr) × (Addr) × (Addr) × (Addr) × (Addr) × (Str) × (Tok) × (Tok) × (Tok) × (Int) × (Int) × (Int) := pick (neP neW (neP inferInstance (neP inferInstance (neP inferInstance (neP inferInstance (neP inferInstance (neP inferInstance (neP inferInstance (neP inferInstance (neP inferInstance (neP inferInstance (neP inferInstance (neP inferInstance (neP inferInstance (neP inferInstance (neP neA (neP inferInstance (neP inferInstance (neP inferInstance (neP inferInstance (neP neS (neP inferInstance (neP inferInstance (neP inferInstance (neP inferInstance (neP inferInstance (neP inferInstance (neP inferInstance (neP inferInstance (neP inferInstance (neP inferInstance (neP inferInstance (neP inferInstance (neP inferInstance (neP inferInstance (neP inferInstance (neP inferInstance (neP inferInstance (neP inferInstance (neP inferInstance (neP inferInstance (neP inferInstance (neP inferInstance inferInstance))))))))))))))))))))))))))))))))))))))))))) (fun v : (World) × (Program) × (List Str) × (ExcName → Option Value) × (Str → Option Value) × (Str → Option Value) × (Nat) × (Nat) × (Option (List Code)) × (Str) × (Scope) × (Addr) × (Value) × (List (Str × Addr)) × (List Env) × (Around) × (Heap) × (Heap) × (Addr) × (Str → Option Value) × (Shared) × (Value → Shared → Prop) × (Value → Shared → Prop) × (List (Addr × Obj)) × (Obj) × (Obj) × (Obj → List (Addr × Obj)) × (Obj → Obj → List (Addr × Obj)) × (Str → Option Int) × (Str → Option Int) × (Nat) × (Nat) × (Addr) × (Addr) × (Addr) × (Addr) × (Addr) × (Str) × (Tok) × (Tok) × (Tok) × (Int) × (Int) × (Int) => incr_spec_St (v.1) (v.2.1) (v.2.2.1) (v.2.2.2.1) (v.2.2.2.2.1) (v.2.2.2.2.2.1) (v.2.2.2.2.2.2.1) (v.2.2.2.2.2.2.2.1) (v.2.2.2.2.2.2.2.2.1) (v.2.2.2.2.2.2.2.2.2.1) (v.2.2.2.2.2.2.2.2.2.2.1) (v.2.2.2.2.2.2.2.2.2.2.2.1) (v.2.2.2.2.2.2.2.2.2.2.2.2.1) (v.2.2.2.2.2.2.2.2.2.2.2.2.2.1) (v.2.2.2.2.2.2.2.2.2.2.2.2.2.2.1) (v.2.2.2.2.2.2.2.2.2.2.2.2.2.2.2.1) (v.2.2.2.2.2.2.2.2.2.2.2.2.2.2.2.2.1) (v.2.2.2.2.2.2.2.2.2.2.2.2.2.2.2.2.2.1) (v.2.2.2.2.2.2.2.2.2.2.2.2.2.2.2.2.2.2.1) (v.2.2.2.2.2.2.2.2.2.2.2.2.2.2.2.2.2.2.2.1) (v.2.2.2.2.2.2.2.2.2.2.2.2.2.2.2.2.2.2.2.2.1) (v.2.2.2.2.2.2.2.2.2.2.2.2.2.2.2.2.2.2.2.2.2.1) (v.2.2.2.2.2.2.2.2.2.2.2.2.2.2.2.2.2.2.2.2.2.2.1) (v.2.2.2.2.2.2.2.2.2.2.2.2.2.2.2.2.2.2.2.2.2.2.2.1) (v.2.2.2.2.2.2.2.2.2.2.2.2.2.2.2.2.2.2.2.2.2.2.2.2.1) (v.2.2.2.2.2.2.2.2.2.2.2.2.2.2.2.2.2.2.2.2.2.2.2.2.2.1) (v.2.2.2.2.2.2.2.2.2.2.2.2.2.2.2.2.2.2.2.2.2.2.2.2.2.2.1) (v.2.2.2.2.2.2.2.2.2.2.2.2.2.2.2.2.2.2.2.2.2.2.2.2.2.2.2.1) (v.2.2.2.2.2.2.2.2.2.2.2.2.2.2.2.2.2.2.2.2.2.2.2.2.2.2.2.2.1) (v.2.2.2.2.2.2.2.2.2.2.2.2.2.2.2.2.2.2.2.2.2.2.2.2.2.2.2.2.2.1) (v.2.2.2.2.2.2.2.2.2.2.2.2.2.2.2.2.2.2.2.2.2.2.2.2.2.2.2.2.2.2.1) (v.2.2.2.2.2.2.2.2.2.2.2.2.2.2.2.2.2.2.2.2.2.2.2.2.2.2.2.2.2.2.2.1) (v.2.2.2.2.2.2.2.2.2.2.2.2.2.2.2.2.2.2.2.2.2.2.2.2.2.2.2.2.2.2.2.2.1) (v.2.2.2.2.2.2.2.2.2.2.2.2.2.2.2.2.2.2.2.2.2.2.2.2.2.2.2.2.2.2.2.2.2.1) (v.2.2.2.2.2.2.2.2.2.2.2.2.2.2.2.2.2.2.2.2.2.2.2.2.2.2.2.2.2.2.2.2.2.2.1) (v.2.2.2.2.2.2.2.2.2.2.2.2.2.2.2.2.2.2.2.2.2.2.2.2.2.2.2.2.2.2.2.2.2.2.2.1) (v.2.2.2.2.2.2.2.2.2.2.2.2.2.2.2.2.2.2.2.2.2.2.2.2.2.2.2.2.2.2.2.2.2.2.2.2.1) (v.2.2.2.2.2.2.2.2.2.2.2.2.2.2.2.2.2.2.2.2.2.2.2.2.2.2.2.2.2.2.2.2.2.2.2.2.2.1) (v.2.2.2.2.2.2.2.2.2.2.2.2.2.2.2.2.2.2.2.2.2.2.2.2.2.2.2.2.2.2.2.2.2.2.2.2.2.2.1) (v.2.2.2.2.2.2.2.2.2.2.2.2.2.2.2.2.2.2.2.2.2.2.2.2.2.2.2.2.2.2.2.2.2.2.2.2.2.2.2.1) (v.2.2.2.2.2.2.2.2.2.2.2.2.2.2.2.2.2.2.2.2.2.2.2.2.2.2.2.2.2.2.2.2.2.2.2.2.2.2.2.2.1) (v.2.2.2.2.2.2.2.2.2.2.2.2.2.2.2.2.2.2.2.2.2.2.2.2.2.2.2.2.2.2.2.2.2.2.2.2.2.2.2.2.2.1) (v.2.2.2.2.2.2.2.2.2.2.2.2.2.2.2.2.2.2.2.2.2.2.2.2.2.2.2.2.2.2.2.2.2.2.2.2.2.2.2.2.2.2.1) (v.2.2.2.2.2.2.2.2.2.2.2.2.2.2.2.2.2.2.2.2.2.2.2.2.2.2.2.2.2.2.2.2.2.2.2.2.2.2.2.2.2.2.2)) 0
theorem zal (h : incr_spec_St (zcv.1) (zcv.2.1) (zcv.2.2.1) (zcv.2.2.2.1) (zcv.2.2.2.2.1) (zcv.2.2.2.2.2.1) (zcv.2.2.2.2.2.2.1) (zcv.2.2.2.2.2.2.2.1) (zcv.2.2.2.2.2.2.2.2.1) (zcv.2.2.2.2.2.2.2.2.2.1) (zcv.2.2.2.2.2.2.2.2.2.2.1) (zcv.2.2.2.2.2.2.2.2.2.2.2.1) (zcv.2.2.2.2.2.2.2.2.2.2.2.2.1) (zcv.2.2.2.2.2.2.2.2.2.2.2.2.2.1) (zcv.2.2.2.2.2.2.2.2.2.2.2.2.2.2.1) (zcv.2.2.2.2.2.2.2.2.2.2.2.2.2.2.2.1) (zcv.2.2.2.2.2.2.2.2.2.2.2.2.2.2.2.2.1) (zcv.2.2.2.2.2.2.2.2.2.2.2.2.2.2.2.2.2.1) (zcv.2.2.2.2.2.2.2.2.2.2.2.2.2.2.2.2.2.2.1) (zcv.2.2.2.2.2.2.2.2.2.2.2.2.2.2.2.2.2.2.2.1) (zcv.2.2.2.2.2.2.2.2.2.2.2.2.2.2.2.2.2.2.2.2.1) (zcv.2.2.2.2.2.2.2.2.2.2.2.2.2.2.2.2.2.2.2.2.2.1) (zcv.2.2.2.2.2.2.2.2.2.2.2.2.2.2.2.2.2.2.2.2.2.2.1) (zcv.2.2.2.2.2.2.2.2.2.2.2.2.2.2.2.2.2.2.2.2.2.2.2.1) (zcv.2.2.2.2.2.2.2.2.2.2.2.2.2.2.2.2.2.2.2.2.2.2.2.2.1) (zcv.2.2.2.2.2.2.2.2.2.2.2.2.2.2.2.2.2.2.2.2.2.2.2.2.2.1) (zcv.2.2.2.2.2.2.2.2.2.2.2.2.2.2.2.2.2.2.2.2.2.2.2.2.2.2.1) (zcv.2.2.2.2.2.2.2.2.2.2.2.2.2.2.2.2.2.2.2.2.2.2.2.2.2.2.2.1) (zcv.2.2.2.2.2.2.2.2.2.2.2.2.2.2.2.2.2.2.2.2.2.2.2.2.2.2.2.2.1) (zcv.2.2.2.2.2.2.2.2.2.2.2.2.2.2.2.2.2.2.2.2.2.2.2.2.2.2.2.2.2.1) (zcv.2.2.2.2.2.2.2.2.2.2.2.2.2.2.2.2.2.2.2.2.2.2.2.2.2.2.2.2.2.2.1) (zcv.2.2.2.2.2.2.2.2.2.2.2.2.2.2.2.2.2.2.2.2.2.2.2.2.2.2.2.2.2.2.2.1) (zcv.2.2.2.2.2.2.2.2.2.2.2.2.2.2.2.2.2.2.2.2.2.2.2.2.2.2.2.2.2.2.2.2.1) (zcv.2.2.2.2.2.2.2.2.2.2.2.2.2.2.2.2.2.2.2.2.2.2.2.2.2.2.2.2.2.2.2.2.2.1) (zcv.2.2.2.2.2.2.2.2.2.2.2.2.2.2.2.2.2.2.2.2.2.2.2.2.2.2.2.2.2.2.2.2.2.2.1) (zcv.2.2.2.2.2.2.2.2.2.2.2.2.2.2.2.2.2.2.2.2.2.2.2.2.2.2.2.2.2.2.2.2.2.2.2.1) (zcv.2.2.2.2.2.2.2.2.2.2.2.2.2.2.2.2.2.2.2.2.2.2.2.2.2.2.2.2.2.2.2.2.2.2.2.2.1) (zcv.2.2.2.2.2.2.2.2.2.2.2.2.2.2.2.2.2.2.2.2.2.2.2.2.2.2.2.2.2.2.2.2.2.2.2.2.2.1) (zcv.2.2.2.2.2.2.2.2.2.2.2.2.2.2.2.2.2.2.2.2.2.2.2.2.2.2.2.2.2.2.2.2.2.2.2.2.2.2.1) (zcv.2.2.2.2.2.2.2.2.2.2.2.2.2.2.2.2.2.2.2.2.2.2.2.2.2.2.2.2.2.2.2.2.2.2.2.2.2.2.2.1) (zcv.2.2.2.2.2.2.2.2.2.2.2.2.2.2.2.2.2.2.2.2.2.2.2.2.2.2.2.2.2.2.2.2.2.2.2.2.2.2.2.2.1) (zcv.2.2.2.2.2.2.2.2.2.2.2.2.2.2.2.2.2.2.2.2.2.2.2.2.2.2.2.2.2.2.2.2.2.2.2.2.2.2.2.2.2.1) (zcv.2.2.2.2.2.2.2.2.2.2.2.2.2.2.2.2.2.2.2.2.2.2.2.2.2.2.2.2.2.2.2.2.2.2.2.2.2.2.2.2.2.2.1) (zcv.2.2.2.2.2.2.2.2.2.2.2.2.2.2.2.2.2.2.2.2.2.2.2.2.2.2.2.2.2.2.2.2.2.2.2.2.2.2.2.2.2.2.2)) : ∀ u : (World) × (Program) × (List Str) × (ExcName → Option Value) × (Str → Option Value) × (Str → Option Value) × (Nat) × (Nat) × (Option (List Code)) × (Str) × (Scope) × (Addr) × (Value) × (List (Str × Addr)) × (List Env) × (Around) × (Heap) × (Heap) × (Addr) × (Str → Option Value) × (Shared) × (Value → Shared → Prop) × (Value → Shared → Prop) × (List (Addr × Obj)) × (Obj) × (Obj) × (Obj → List (Addr × Obj)) × (Obj → Obj → List (Addr × Obj)) × (Str → Option Int) × (Str → Option Int) × (Nat) × (Nat) × (Addr) × (Addr) × (Addr) × (Addr) × (Addr) × (Str) × (Tok) × (Tok) × (Tok) × (Int) × (Int) × (Int), incr_spec_St (u.1) (u.2.1) (u.2.2.1) (u.2.2.2.1) (u.2.2.2.2.1) (u.2.2.2.2.2.1) (u.2.2.2.2.2.2.1) (u.2.2.2.2.2.2.2.1) (u.2.2.2.2.2.2.2.2.1) (u.2.2.2.2.2.2.2.2.2.1) (u.2.2.2.2.2.2.2.2.2.2.1) (u.2.2.2.2.2.2.2.2.2.2.2.1) (u.2.2.2.2.2.2.2.2.2.2.2.2.1) (u.2.2.2.2.2.2.2.2.2.2.2.2.2.1) (u.2.2.2.2.2.2.2.2.2.2.2.2.2.2.1) (u.2.2.2.2.2.2.2.2.2.2.2.2.2.2.2.1) (u.2.2.2.2.2.2.2.2.2.2.2.2.2.2.2.2.1) (u.2.2.2.2.2.2.2.2.2.2.2.2.2.2.2.2.2.1) (u.2.2.2.2.2.2.2.2.2.2.2.2.2.2.2.2.2.2.1) (u.2.2.2.2.2.2.2.2.2.2.2.2.2.2.2.2.2.2.2.1) (u.2.2.2.2.2.2.2.2.2.2.2.2.2.2.2.2.2.2.2.2.1) (u.2.2.2.2.2.2.2.2.2.2.2.2.2.2.2.2.2.2.2.2.2.1) (u.2.2.2.2.2.2.2.2.2.2.2.2.2.2.2.2.2.2.2.2.2.2.1) (u.2.2.2.2.2.2.2.2.2.2.2.2.2.2.2.2.2.2.2.2.2.2.2.1) (u.2.2.2.2.2.2.2.2.2.2.2.2.2.2.2.2.2.2.2.2.2.2.2.2.1) (u.2.2.2.2.2.2.2.2.2.2.2.2.2.2.2.2.2.2.2.2.2.2.2.2.2.1) (u.2.2.2.2.2.2.2.2.2.2.2.2.2.2.2.2.2.2.2.2.2.2.2.2.2.2.1) (u.2.2.2.2.2.2.2.2.2.2.2.2.2.2.2.2.2.2.2.2.2.2.2.2.2.2.2.1) (u.2.2.2.2.2.2.2.2.2.2.2.2.2.2.2.2.2.2.2.2.2.2.2.2.2.2.2.2.1) (u.2.2.2.2.2.2.2.2.2.2.2.2.2.2.2.2.2.2.2.2.2.2.2.2.2.2.2.2.2.1) (u.2.2.2.2.2.2.2.2.2.2.2.2.2.2.2.2.2.2.2.2.2.2.2.2.2.2.2.2.2.2.1) (u.2.2.2.2.2.2.2.2.2.2.2.2.2.2.2.2.2.2.2.2.2.2.2.2.2.2.2.2.2.2.2.1) (u.2.2.2.2.2.2.2.2.2.2.2.2.2.2.2.2.2.2.2.2.2.2.2.2.2.2.2.2.2.2.2.2.1) (u.2.2.2.2.2.2.2.2.2.2.2.2.2.2.2.2.2.2.2.2.2.2.2.2.2.2.2.2.2.2.2.2.2.1) (u.2.2.2.2.2.2.2.2.2.2.2.2.2.2.2.2.2.2.2.2.2.2.2.2.2.2.2.2.2.2.2.2.2.2.1) (u.2.2.2.2.2.2.2.2.2.2.2.2.2.2.2.2.2.2.2.2.2.2.2.2.2.2.2.2.2.2.2.2.2.2.2.1) (u.2.2.2.2.2.2.2.2.2.2.2.2.2.2.2.2.2.2.2.2.2.2.2.2.2.2.2.2.2.2.2.2.2.2.2.2.1) (u.2.2.2.2.2.2.2.2.2.2.2.2.2.2.2.2.2.2.2.2.2.2.2.2.2.2.2.2.2.2.2.2.2.2.2.2.2.1) (u.2.2.2.2.2.2.2.2.2.2.2.2.2.2.2.2.2.2.2.2.2.2.2.2.2.2.2.2.2.2.2.2.2.2.2.2.2.2.1) (u.2.2.2.2.2.2.2.2.2.2.2.2.2.2.2.2.2.2.2.2.2.2.2.2.2.2.2.2.2.2.2.2.2.2.2.2.2.2.2.1) (u.2.2.2.2.2.2.2.2.2.2.2.2.2.2.2.2.2.2.2.2.2.2.2.2.2.2.2.2.2.2.2.2.2.2.2.2.2.2.2.2.1) (u.2.2.2.2.2.2.2.2.2.2.2.2.2.2.2.2.2.2.2.2.2.2.2.2.2.2.2.2.2.2.2.2.2.2.2.2.2.2.2.2.2.1) (u.2.2.2.2.2.2.2.2.2.2.2.2.2.2.2.2.2.2.2.2.2.2.2.2.2.2.2.2.2.2.2.2.2.2.2.2.2.2.2.2.2.2.1) (u.2.2.2.2.2.2.2.2.2.2.2.2.2.2.2.2.2.2.2.2.2.2.2.2.2.2.2.2.2.2.2.2.2.2.2.2.2.2.2.2.2.2.2) := pick_all (P := fun v : (World) × (Program) × (List Str) × (ExcName → Option Value) × (Str → Option Value) × (Str → Option Value) × (Nat) × (Nat) × (Option (List Code)) × (Str) × (Scope) × (Addr) × (Value) × (List (Str × Addr)) × (List Env) × (Around) × (Heap) × (Heap) × (Addr) × (Str → Option Value) × (Shared) × (Value → Shared → Prop) × (Value → Shared → Prop) × (List (Addr × Obj)) × (Obj) × (Obj) × (Obj → List (Addr × Obj)) × (Obj → Obj → List (Addr × Obj)) × (Str → Option Int) × (Str → Option Int) × (Nat) × (Nat) × (Addr) × (Addr) × (Addr) × (Addr) × (Addr) × (Str) × (Tok) × (Tok) × (Tok) × (Int) × (Int) × (Int) => incr_spec_St (v.1) (v.2.1) (v.2.2.1) (v.2.2.2.1) (v.2.2.2.2.1) (v.2.2.2.2.2.1) (v.2.2.2.2.2.2.1) (v.2.2.2.2.2.2.2.1) (v.2.2.2.2.2.2.2.2.1) (v.2.2.2.2.2.2.2.2.2.1) (v.2.2.2.2.2.2.2.2.2.2.1) (v.2.2.2.2.2.2.2.2.2.2.2.1) (v.2.2.2.2.2.2.2.2.2.2.2.2.1) (v.2.2.2.2.2.2.2.2.2.2.2.2.2.1) (v.2.2.2.2.2.2.2.2.2.2.2.2.2.2.1) (v.2.2.2.2.2.2.2.2.2.2.2.2.2.2.2.1) (v.2.2.2.2.2.2.2.2.2.2.2.2.2.2.2.2.1) (v.2.2.2.2.2.2.2.2.2.2.2.2.2.2.2.2.2.1) (v.2.2.2.2.2.2.2.2.2.2.2.2.2.2.2.2.2.2.1) (v.2.2.2.2.2.2.2.2.2.2.2.2.2.2.2.2.2.2.2.1) (v.2.2.2.2.2.2.2.2.2.2.2.2.2.2.2.2.2.2.2.2.1) (v.2.2.2.2.2.2.2.2.2.2.2.2.2.2.2.2.2.2.2.2.2.1) (v.2.2.2.2.2.2.2.2.2.2.2.2.2.2.2.2.2.2.2.2.2.2.1) (v.2.2.2.2.2.2.2.2.2.2.2.2.2.2.2.2.2.2.2.2.2.2.2.1) (v.2.2.2.2.2.2.2.2.2.2.2.2.2.2.2.2.2.2.2.2.2.2.2.2.1) (v.2.2.2.2.2.2.2.2.2.2.2.2.2.2.2.2.2.2.2.2.2.2.2.2.2.1) (v.2.2.2.2.2.2.2.2.2.2.2.2.2.2.2.2.2.2.2.2.2.2.2.2.2.2.1) (v.2.2.2.2.2.2.2.2.2.2.2.2.2.2.2.2.2.2.2.2.2.2.2.2.2.2.2.1) (v.2.2.2.2.2.2.2.2.2.2.2.2.2.2.2.2.2.2.2.2.2.2.2.2.2.2.2.2.1) (v.2.2.2.2.2.2.2.2.2.2.2.2.2.2.2.2.2.2.2.2.2.2.2.2.2.2.2.2.2.1) (v.2.2.2.2.2.2.2.2.2.2.2.2.2.2.2.2.2.2.2.2.2.2.2.2.2.2.2.2.2.2.1) (v.2.2.2.2.2.2.2.2.2.2.2.2.2.2.2.2.2.2.2.2.2.2.2.2.2.2.2.2.2.2.2.1) (v.2.2.2.2.2.2.2.2.2.2.2.2.2.2.2.2.2.2.2.2.2.2.2.2.2.2.2.2.2.2.2.2.1) (v.2.2.2.2.2.2.2.2.2.2.2.2.2.2.2.2.2.2.2.2.2.2.2.2.2.2.2.2.2.2.2.2.2.1) (v.2.2.2.2.2.2.2.2.2.2.2.2.2.2.2.2.2.2.2.2.2.2.2.2.2.2.2.2.2.2.2.2.2.2.1) (v.2.2.2.2.2.2.2.2.2.2.2.2.2.2.2.2.2.2.2.2.2.2.2.2.2.2.2.2.2.2.2.2.2.2.2.1) (v.2.2.2.2.2.2.2.2.2.2.2.2.2.2.2.2.2.2.2.2.2.2.2.2.2.2.2.2.2.2.2.2.2.2.2.2.1) (v.2.2.2.2.2.2.2.2.2.2.2.2.2.2.2.2.2.2.2.2.2.2.2.2.2.2.2.2.2.2.2.2.2.2.2.2.2.1) (v.2.2.2.2.2.2.2.2.2.2.2.2.2.2.2.2.2.2.2.2.2.2.2.2.2.2.2.2.2.2.2.2.2.2.2.2.2.2.1) (v.2.2.2.2.2.2.2.2.2.2.2.2.2.2.2.2.2.2.2.2.2.2.2.2.2.2.2.2.2.2.2.2.2.2.2.2.2.2.2.1) (v.2.2.2.2.2.2.2.2.2.2.2.2.2.2.2.2.2.2.2.2.2.2.2.2.2.2.2.2.2.2.2.2.2.2.2.2.2.2.2.2.1) (v.2.2.2.2.2.2.2.2.2.2.2.2.2.2.2.2.2.2.2.2.2.2.2.2.2.2.2.2.2.2.2.2.2.2.2.2.2.2.2.2.2.1) (v.2.2.2.2.2.2.2.2.2.2.2.2.2.2.2.2.2.2.2.2.2.2.2.2.2.2.2.2.2.2.2.2.2.2.2.2.2.2.2.2.2.2.1) (v.2.2.2.2.2.2.2.2.2.2.2.2.2.2.2.2.2.2.2.2.2.2.2.2.2.2.2.2.2.2.2.2.2.2.2.2.2.2.2.2.2.2.2)) h
noncomputable def w : World := zcv.1
noncomputable def p : Program := zcv.2.1
noncomputable def loose : List Str := zcv.2.2.1
noncomputable def mean : ExcName → Option Value := zcv.2.2.2.1
noncomputable def mg : Str → Option Value := zcv.2.2.2.2.1
noncomputable def mb : Str → Option Value := zcv.2.2.2.2.2.1
noncomputable def dp : Nat := zcv.2.2.2.2.2.2.1
noncomputable def un : Nat := zcv.2.2.2.2.2.2.2.1
noncomputable def gd : Option (List Code) := zcv.2.2.2.2.2.2.2.2.1
noncomputable def cn : Str := zcv.2.2.2.2.2.2.2.2.2.1
noncomputable def cs : Scope := zcv.2.2.2.2.2.2.2.2.2.2.1
noncomputable def a : Addr := zcv.2.2.2.2.2.2.2.2.2.2.2.1
noncomputable def ccd : Value := zcv.2.2.2.2.2.2.2.2.2.2.2.2.1
noncomputable def cl : List (Str × Addr) := zcv.2.2.2.2.2.2.2.2.2.2.2.2.2.1
noncomputable def outer : List Env := zcv.2.2.2.2.2.2.2.2.2.2.2.2.2.2.1
noncomputable def A₀ : Around := zcv.2.2.2.2.2.2.2.2.2.2.2.2.2.2.2.1
noncomputable def base : Heap := zcv.2.2.2.2.2.2.2.2.2.2.2.2.2.2.2.2.1
noncomputable def h₀ : Heap := zcv.2.2.2.2.2.2.2.2.2.2.2.2.2.2.2.2.2.1
noncomputable def L : Addr := zcv.2.2.2.2.2.2.2.2.2.2.2.2.2.2.2.2.2.2.1
noncomputable def m : Str → Option Value := zcv.2.2.2.2.2.2.2.2.2.2.2.2.2.2.2.2.2.2.2.1
noncomputable def s : Shared := zcv.2.2.2.2.2.2.2.2.2.2.2.2.2.2.2.2.2.2.2.2.1
noncomputable def Q : Value → Shared → Prop := zcv.2.2.2.2.2.2.2.2.2.2.2.2.2.2.2.2.2.2.2.2.2.1
noncomputable def E : Value → Shared → Prop := zcv.2.2.2.2.2.2.2.2.2.2.2.2.2.2.2.2.2.2.2.2.2.2.1
noncomputable def news : List (Addr × Obj) := zcv.2.2.2.2.2.2.2.2.2.2.2.2.2.2.2.2.2.2.2.2.2.2.2.1
noncomputable def oS : Obj := zcv.2.2.2.2.2.2.2.2.2.2.2.2.2.2.2.2.2.2.2.2.2.2.2.2.1
noncomputable def oX : Obj := zcv.2.2.2.2.2.2.2.2.2.2.2.2.2.2.2.2.2.2.2.2.2.2.2.2.2.1
noncomputable def g1 : Obj → List (Addr × Obj) := zcv.2.2.2.2.2.2.2.2.2.2.2.2.2.2.2.2.2.2.2.2.2.2.2.2.2.2.1
noncomputable def g2 : Obj → Obj → List (Addr × Obj) := zcv.2.2.2.2.2.2.2.2.2.2.2.2.2.2.2.2.2.2.2.2.2.2.2.2.2.2.2.1
noncomputable def f : Str → Option Int := zcv.2.2.2.2.2.2.2.2.2.2.2.2.2.2.2.2.2.2.2.2.2.2.2.2.2.2.2.2.1
noncomputable def x : Str → Option Int := zcv.2.2.2.2.2.2.2.2.2.2.2.2.2.2.2.2.2.2.2.2.2.2.2.2.2.2.2.2.2.1
noncomputable def nS : Nat := zcv.2.2.2.2.2.2.2.2.2.2.2.2.2.2.2.2.2.2.2.2.2.2.2.2.2.2.2.2.2.2.1
noncomputable def nX : Nat := zcv.2.2.2.2.2.2.2.2.2.2.2.2.2.2.2.2.2.2.2.2.2.2.2.2.2.2.2.2.2.2.2.1
noncomputable def st : Addr := zcv.2.2.2.2.2.2.2.2.2.2.2.2.2.2.2.2.2.2.2.2.2.2.2.2.2.2.2.2.2.2.2.2.1
noncomputable def S : Addr := zcv.2.2.2.2.2.2.2.2.2.2.2.2.2.2.2.2.2.2.2.2.2.2.2.2.2.2.2.2.2.2.2.2.2.1
noncomputable def X : Addr := zcv.2.2.2.2.2.2.2.2.2.2.2.2.2.2.2.2.2.2.2.2.2.2.2.2.2.2.2.2.2.2.2.2.2.2.1
noncomputable def V : Addr := zcv.2.2.2.2.2.2.2.2.2.2.2.2.2.2.2.2.2.2.2.2.2.2.2.2.2.2.2.2.2.2.2.2.2.2.2.1
noncomputable def clk : Addr := zcv.2.2.2.2.2.2.2.2.2.2.2.2.2.2.2.2.2.2.2.2.2.2.2.2.2.2.2.2.2.2.2.2.2.2.2.2.1
noncomputable def key : Str := zcv.2.2.2.2.2.2.2.2.2.2.2.2.2.2.2.2.2.2.2.2.2.2.2.2.2.2.2.2.2.2.2.2.2.2.2.2.2.1
noncomputable def tk : Tok := zcv.2.2.2.2.2.2.2.2.2.2.2.2.2.2.2.2.2.2.2.2.2.2.2.2.2.2.2.2.2.2.2.2.2.2.2.2.2.2.1
noncomputable def te : Tok := zcv.2.2.2.2.2.2.2.2.2.2.2.2.2.2.2.2.2.2.2.2.2.2.2.2.2.2.2.2.2.2.2.2.2.2.2.2.2.2.2.1
noncomputable def ta : Tok := zcv.2.2.2.2.2.2.2.2.2.2.2.2.2.2.2.2.2.2.2.2.2.2.2.2.2.2.2.2.2.2.2.2.2.2.2.2.2.2.2.2.1
noncomputable def t : Int := zcv.2.2.2.2.2.2.2.2.2.2.2.2.2.2.2.2.2.2.2.2.2.2.2.2.2.2.2.2.2.2.2.2.2.2.2.2.2.2.2.2.2.1
noncomputable def e : Int := zcv.2.2.2.2.2.2.2.2.2.2.2.2.2.2.2.2.2.2.2.2.2.2.2.2.2.2.2.2.2.2.2.2.2.2.2.2.2.2.2.2.2.2.1
noncomputable def am : Int := zcv.2.2.2.2.2.2.2.2.2.2.2.2.2.2.2.2.2.2.2.2.2.2.2.2.2.2.2.2.2.2.2.2.2.2.2.2.2.2.2.2.2.2.2
theorem walk1 : incr_spec_St w p loose mean mg mb dp un gd cn cs a ccd cl outer A₀ base h₀ L m s Q E news oS oX g1 g2 f x nS nX st S X V clk key tk te ta t e am := by
  intro B F KX T hk N U1 U2 O hS hX zS zX hd hu retH
  refine lower ?_ hd hu
  obtain ⟨frz, n1, n2, N', sub, mem⟩ := split2 O.xs U1 U2 N
  have O' : Store w frz st S X V clk t := O.sub (fun q hq ho => sub q hq ho.1 ho.2.1)
  clear N U1 U2 sub O
  have O'' := O'
  obtain ⟨⟨dx, h1, h2, h3, h4, t1, t2, t3, t4, nn, oc, od, fd, sl, hst, hck, hdx, _, _, _⟩, _, sx, xv, lS, lX, lV⟩ := O''
  revert KX; k_fill; intro KX
  refine wpAny_call ?_
  walk_at "m enter"
  k_steps
  all_goals rw [upd_same, Option.getD_some]
  · have hc := (by assumption : (upd (swept x key t f) key (some ((swept x key t f key).getD 0 + am)) key).getD 0 = am)
    rw [upd_same, Option.getD_some] at hc
    have e2 : incX f x key t e am = upd (swept x key t x) key (some (t + e)) := if_pos hc
    rw [e2] at retH
    exact retH _ _ _ _ _ (by assumption) (news_of (by assumption) (mem _ _)) (by assumption) (by assumption)
  · have hc := (by assumption : ¬ (upd (swept x key t f) key (some ((swept x key t f key).getD 0 + am)) key).getD 0 = am)
    rw [upd_same, Option.getD_some] at hc
    have e2 : incX f x key t e am = swept x key t x := if_neg hc
    rw [e2] at retH
    exact retH _ _ _ _ _ (by assumption) (news_of (by assumption) (mem _ _)) (by assumption) (DictV.mono (by assumption) (Nat.le_succ _))
end c_incr_spec
theorem incr_spec {w : World} {p : Program} {loose : List Str} {mean : ExcName → Option Value} {mg : Str → Option Value} {mb : Str → Option Value} {dp : Nat} {un : Nat} {gd : Option (List Code)} {cn : Str} {cs : Scope} {a : Addr} {ccd : Value} {cl : List (Str × Addr)} {outer : List Env} {A₀ : Around} {base : Heap} {h₀ : Heap} {L : Addr} {m : Str → Option Value} {s : Shared} {Q : Value → Shared → Prop} {E : Value → Shared → Prop} (B : Below A₀ base outer h₀) (F : Fr h₀ L s.heap m) (KX : (Mine.hd1.heap_39 w.params).In h₀) (T : Top p loose mean mg mb h₀) (hk : cs.kind = .function) {news : List (Addr × Obj)} {oS : Obj} {oX : Obj} {g1 : Obj → List (Addr × Obj)} {g2 : Obj → Obj → List (Addr × Obj)} {f : Str → Option Int} {x : Str → Option Int} {nS : Nat} {nX : Nat} {st : Addr} {S : Addr} {X : Addr} {V : Addr} {clk : Addr} {key : Str} {tk : Tok} {te : Tok} {ta : Tok} {t : Int} {e : Int} {am : Int} (N : News h₀ L s.heap news) (U1 : UpdF S oS news g1) (U2 : ∀ o, UpdF X oX (g1 o) (g2 o)) (O : Store w news st S X V clk t) (hS : IntD PySem.Challenge.rw_ji0060_02.row.prog w oS f nS) (hX : IntD PySem.Challenge.rw_ji0060_02.row.prog w oX x nX) (zS : nS + 1 ≤ sizeLine) (zX : nX + 1 ≤ sizeLine) (hd : dp ≤ 860) (hu : un ≤ 8600) (retH : ∀ r oS' oX' h' tk', Fr h₀ L h' m → News h₀ L h' (g2 oS' oX') → IntD PySem.Challenge.rw_ji0060_02.row.prog w oS' (incF f x key t am) (nS + 1) → IntD PySem.Challenge.rw_ji0060_02.row.prog w oX' (incX f x key t e am) (nX + 1) → Q (.int ((swept x key t f key).getD 0 + am) r) { s with heap := h', toks := tk' }) :
    wpAny (model PySem.Challenge.rw_ji0060_02.row.prog w) (ktrTop dp un gd cn cs L a ccd cl outer) (call (.ref 601) [.ref st, .str key tk, .int e te] [(Str.ofString "amount", .int am ta)]) Q E s :=
  c_incr_spec.zal c_incr_spec.walk1 (w, p, loose, mean, mg, mb, dp, un, gd, cn, cs, a, ccd, cl, outer, A₀, base, h₀, L, m, s, Q, E, news, oS, oX, g1, g2, f, x, nS, nX, st, S, X, V, clk, key, tk, te, ta, t, e, am) B F KX T hk N U1 U2 O hS hX zS zX hd hu retH
section
variable {w : World} {p : Program} {loose : List Str} {mean : ExcName → Option Value} {mg mb : Str → Option Value} {dp un : Nat} {gd : Option (List Code)} {cn : Str} {cs : Scope} {a : Addr} {ccd : Value} {cl : List (Str × Addr)} {outer : List Env} {A₀ : Around} {base h₀ : Heap} {L : Addr} {m : Str → Option Value} {s : Shared} {Q E : Value → Shared → Prop}
  (B : Below A₀ base outer h₀) (F : Fr h₀ L s.heap m) (KX : (Mine.hd1.heap_39 w.params).In h₀) (T : Top p loose mean mg mb h₀) (hk : cs.kind = .function)
include B F KX T hk
end

end

theorem said_incr : True := by
  k_with "call ref" => (k_here; (with_reducible show wpAny _ _ (call (Value.ref 601) _ _) _ _ _); k_dflt (refine' incr_spec ?zyB ?zyF ?zyX ?zyT ?zyk ?zyN ?zyU1 ?zyU2 ?zyO ?zyhS ?zyhX ?zyzS ?zyzX ?zyd ?zyu ?_; (case zyB => k_asm); (case zyF => k_asm); (case zyX => k_asm); (case zyT => k_asm); (case zyk => first | exact rfl | assumption); (case zyN => k_asm); (case zyO => refine' Store.sub ?zyo ?zys; (case zyo => assumption); (case zys => walk_at "m sub")); (case zyU1 => k_updF); (case zyU2 => (intro o1; (try dsimp only); k_updF)); (case zyhS => assumption); (case zyhX => assumption); (case zyzS => first | assumption | omega); (case zyzX => first | assumption | omega); (case zyd => exact Nat.le_of_ble_eq_true rfl); (case zyu => exact Nat.le_of_ble_eq_true rfl); k_whole); (intro r' oS' oX' h' tk' F' N' hS' hX'; (try dsimp only at N'); (try dsimp only); (try k_sweep)))
  trivial
section
section
variable {w : World} {p : Program} {loose : List Str} {mean : ExcName → Option Value} {mg mb : Str → Option Value} {dp un : Nat} {gd : Option (List Code)} {cn : Str} {cs : Scope} {a : Addr} {ccd : Value} {cl : List (Str × Addr)} {outer : List Env} {A₀ : Around} {base h₀ : Heap} {L : Addr} {m : Str → Option Value} {s : Shared} {Q E : Value → Shared → Prop}
  (B : Below A₀ base outer h₀) (F : Fr h₀ L s.heap m) (KX : (Mine.hd1.heap_39 w.params).In h₀) (T : Top p loose mean mg mb h₀) (hk : cs.kind = .function)
include B F KX T hk

theorem clear_spec {news : List (Addr × Obj)} {oS oX oV : Obj} {g1 : Obj → List (Addr × Obj)} {g2 : Obj → Obj → List (Addr × Obj)} {g3 : Obj → Obj → Obj → List (Addr × Obj)} {f x : Str → Option Int} {ev : Str → Option Addr} {nS nX nV : Nat} {st S X V clk : Addr} {key : Str} {tk : Tok} {t : Int}
    (N : News h₀ L s.heap news) (O : Store w news st S X V clk t) (U1 : UpdF S oS news g1) (U2 : ∀ o, UpdF X oX (g1 o) (g2 o)) (U3 : ∀ o o', UpdF V oV (g2 o o') (g3 o o'))
    (hS : IntD PySem.Challenge.rw_ji0060_02.row.prog w oS f nS) (hX : IntD PySem.Challenge.rw_ji0060_02.row.prog w oX x nX) (hV : RefD PySem.Challenge.rw_ji0060_02.row.prog w oV ev nV) (zS : nS ≤ sizeLine) (zX : nX ≤ sizeLine) (zV : nV ≤ sizeLine) (hd : dp ≤ 880) (hu : un ≤ 8800)
    (ret : ∀ oS' oX' oV' h' tk', Fr h₀ L h' m → News h₀ L h' (g3 oS' oX' oV') → IntD PySem.Challenge.rw_ji0060_02.row.prog w oS' (upd f key none) nS → IntD PySem.Challenge.rw_ji0060_02.row.prog w oX' (upd x key none) nX → RefD PySem.Challenge.rw_ji0060_02.row.prog w oV' (upd ev key none) nV → Q .none { s with heap := h', toks := tk' }) :
    wpAny (model PySem.Challenge.rw_ji0060_02.row.prog w) (ktrTop dp un gd cn cs L a ccd cl outer) (call (.ref 623) [.ref st, .str key tk]) Q E s := by
  refine lower ?_ hd hu
  obtain ⟨frz, n1, n2, n3, N', sub, mem⟩ := split3 O.xs O.vs O.vx U1 U2 U3 N
  have O' : Store w frz st S X V clk t := O.sub (fun q hq ho => sub q hq ho.1 ho.2.1 ho.2.2)
  clear N U1 U2 U3 sub O
  have O'' := O'
  obtain ⟨⟨dx, h1, h2, h3, h4, t1, t2, t3, t4, nn, oc, od, fd, sl, hst, hck, hdx, _, _, _⟩, _, sx, xv, lS, lX, lV⟩ := O''
  revert KX; k_fill; intro KX
  refine wpAny_call ?_
  walk_at "m enter"
  k_steps
  exact ret _ _ _ _ _ (by assumption) (news_of (by assumption) (mem _ _ _)) (by assumption) (by assumption) (by assumption)
end

end

theorem said_clear : True := by
  k_with "call ref" => (k_here; (with_reducible show wpAny _ _ (call (Value.ref 623) _) _ _ _); k_dflt (refine' clear_spec ?zyB ?zyF ?zyX ?zyT ?zyk ?zyN ?zyO ?zyU1 ?zyU2 ?zyU3 ?zyhS ?zyhX ?zyhV ?zyzS ?zyzX ?zyzV ?zyd ?zyu ?_; (case zyB => k_asm); (case zyF => k_asm); (case zyX => k_asm); (case zyT => k_asm); (case zyk => first | exact rfl | assumption); (case zyN => k_asm); (case zyO => refine' Store.sub ?zyo ?zys; (case zyo => assumption); (case zys => walk_at "m sub")); (case zyU1 => k_updF); (case zyU2 => (intro o1; (try dsimp only); k_updF)); (case zyhS => assumption); (case zyhX => assumption); (case zyzS => first | assumption | omega); (case zyzX => first | assumption | omega); (case zyU3 => (intro o1 o2; (try dsimp only); k_updF)); (case zyhV => assumption); (case zyzV => walk_at "m om"); (case zyd => exact Nat.le_of_ble_eq_true rfl); (case zyu => exact Nat.le_of_ble_eq_true rfl); k_whole); (intro oS' oX' oV' h' tk' F' N' hS' hX' hV'; (try dsimp only at N'); (try dsimp only); (try k_sweep)))
  trivial
section
section
variable {w : World} {p : Program} {loose : List Str} {mean : ExcName → Option Value} {mg mb : Str → Option Value} {dp un : Nat} {gd : Option (List Code)} {cn : Str} {cs : Scope} {a : Addr} {ccd : Value} {cl : List (Str × Addr)} {outer : List Env} {A₀ : Around} {base h₀ : Heap} {L : Addr} {m : Str → Option Value} {s : Shared} {Q E : Value → Shared → Prop}
  (B : Below A₀ base outer h₀) (F : Fr h₀ L s.heap m) (KX : (Mine.hd1.heap_39 w.params).In h₀) (T : Top p loose mean mg mb h₀) (hk : cs.kind = .function)
include B F KX T hk

theorem swk_spec {news : List (Addr × Obj)} {q : Addr} {key : Str} {tk te tt : Tok} {t e : Int}
    (N : News h₀ L s.heap news) (hq : (q, methodObj (.ref 534) (.ref 691)) ∈ news) (he : 0 < e) (he2 : e < 1000000) (het : e ≤ t) (ht : t < 1000000000000) (hkl : key.length ≤ 1000) (hd : dp ≤ 880) (hu : un ≤ 8800)
    (ret : ∀ q' t1 t2 h' tk', Fr h₀ L h' m → News h₀ L h' ((q', { cls := .type "tuple", data := .seq #[.str (wkey key ((t - e).fdiv e)) t1, .str (wkey key (t.fdiv e)) t2] }) :: news) → AllLt q' news → Q (.ref q') { s with heap := h', toks := tk' }) :
    wpAny (model PySem.Challenge.rw_ji0060_02.row.prog w) (ktrTop dp un gd cn cs L a ccd cl outer) (call (.ref q) [.str key tk, .int e te, .int t tt]) Q E s := by
  refine lower ?_ hd hu
  revert KX; k_fill; intro KX
  have b1 := fdiv_bounds (t := t - e) he (by omega)
  have b2 := fdiv_bounds (t := t) he (by omega)
  refine call_meth N hq ?_
  walk_at "m enter"
  k_steps
  exact ret _ _ _ _ _ (by assumption) (by assumption) (by assumption)
end

end

theorem said_swk : True := by
  k_with "call ref" => (k_here; (with_reducible show wpAny _ _ (call (Value.ref _) [Value.str _ _, Value.int _ _, Value.int _ _]) _ _ _); k_dflt (refine' swk_spec ?zyB ?zyF ?zyX ?zyT ?zyk ?zyN ?zyq ?zye1 ?zye2 ?zye3 ?zye4 ?zye5 ?zyd ?zyu ?_; (case zyB => k_asm); (case zyF => k_asm); (case zyX => k_asm); (case zyT => k_asm); (case zyk => first | exact rfl | assumption); (case zyN => k_asm); (case zyq => k_mem); (case zye1 => walk_at "m om"); (case zye2 => walk_at "m om"); (case zye3 => walk_at "m om"); (case zye4 => walk_at "m om"); (case zye5 => walk_at "m om"); (case zyd => exact Nat.le_of_ble_eq_true rfl); (case zyu => exact Nat.le_of_ble_eq_true rfl); k_whole); (intro q' t1' t2' h' tk' F' N' l1; (have l2 := l1); (try dsimp only [AllLt] at l2); (try dsimp only at N'); (try dsimp only); (try k_sweep)))
  trivial
section
noncomputable def ttlF (pc now e : Int) : Int := if pc = 0 then 0 else e - (now - e).fmod e
theorem ttlF_bounds {pc now e : Int} (he : 0 < e) : 0 ≤ ttlF pc now e ∧ ttlF pc now e ≤ e := by
  unfold ttlF
  have := fmod_bounds (t := now - e) he
  split <;> omega
theorem swept_bounds {x f : Str → Option Int} {k : Str} {t b : Int} (hb : 0 ≤ b) (hf : ∀ j, 0 ≤ (f j).getD 0 ∧ (f j).getD 0 ≤ b) (j : Str) : 0 ≤ (swept x k t f j).getD 0 ∧ (swept x k t f j).getD 0 ≤ b := by
  unfold swept
  split
  · unfold upd
    split
    · exact ⟨Int.le_refl _, hb⟩
    · exact hf j
  · exact hf j
section
variable {w : World} {p : Program} {loose : List Str} {mean : ExcName → Option Value} {mg mb : Str → Option Value} {dp un : Nat} {gd : Option (List Code)} {cn : Str} {cs : Scope} {a : Addr} {ccd : Value} {cl : List (Str × Addr)} {outer : List Env} {A₀ : Around} {base h₀ : Heap} {L : Addr} {m : Str → Option Value} {s : Shared} {Q E : Value → Shared → Prop}
  (B : Below A₀ base outer h₀) (F : Fr h₀ L s.heap m) (KX : (Mine.hd1.heap_39 w.params).In h₀) (T : Top p loose mean mg mb h₀) (hk : cs.kind = .function)
include B F KX T hk

theorem info_spec {news : List (Addr × Obj)} {oS oX : Obj} {g1 : Obj → List (Addr × Obj)} {g2 : Obj → Obj → List (Addr × Obj)} {f x : Str → Option Int} {nS nX : Nat} {st S X V clk : Addr} {pk ck : Str} {tp tc te tn : Tok} {t e now : Int}
    (N : News h₀ L s.heap news) (O : Store w news st S X V clk t) (U1 : UpdF S oS news g1) (U2 : ∀ o, UpdF X oX (g1 o) (g2 o))
    (hS : IntD PySem.Challenge.rw_ji0060_02.row.prog w oS f nS) (hX : IntD PySem.Challenge.rw_ji0060_02.row.prog w oX x nX) (zS : nS ≤ sizeLine) (zX : nX ≤ sizeLine) (he : 0 < e) (he2 : e < 1000000)
    (hf : ∀ j, 0 ≤ (f j).getD 0 ∧ (f j).getD 0 ≤ 1000000) (hd : dp ≤ 860) (hu : un ≤ 8600)
    (ret : ∀ pc ttl cc q r1 r2 r3 r4 oS' oX' h' tk', pc = (swept x pk t f pk).getD 0 → ttl = ttlF pc now e → cc = (swept (swept x pk t x) ck t (swept x pk t f) ck).getD 0 →
      (0 ≤ pc ∧ pc ≤ 1000000 ∧ 0 ≤ ttl ∧ ttl ≤ e ∧ 0 ≤ cc ∧ cc ≤ 1000000) → Fr h₀ L h' m →
      News h₀ L h' ((q, { cls := .type "tuple", data := .seq #[.int pc r1, .int ttl r2, .int cc r3, .int (e - now.fmod e + e) r4] }) :: g2 oS' oX') → AllLt q (g2 oS' oX') →
      IntD PySem.Challenge.rw_ji0060_02.row.prog w oS' (swept (swept x pk t x) ck t (swept x pk t f)) nS → IntD PySem.Challenge.rw_ji0060_02.row.prog w oX' (swept (swept x pk t x) ck t (swept x pk t x)) nX → Q (.ref q) { s with heap := h', toks := tk' }) :
    wpAny (model PySem.Challenge.rw_ji0060_02.row.prog w) (ktrTop dp un gd cn cs L a ccd cl outer) (call (.ref 660) [.ref st, .str pk tp, .str ck tc, .int e te, .int now tn]) Q E s := by
  refine lower ?_ hd hu
  obtain ⟨frz, n1, n2, N', sub, mem⟩ := split2 O.xs U1 U2 N
  have O' : Store w frz st S X V clk t := O.sub (fun q hq ho => sub q hq ho.1 ho.2.1)
  clear N U1 U2 sub O
  have O'' := O'
  obtain ⟨⟨dx, h1, h2, h3, h4, t1, t2, t3, t4, nn, oc, od, fd, sl, hst, hck, hdx, _, _, _⟩, _, sx, xv, lS, lX, lV⟩ := O''
  have b1 := swept_bounds (x := x) (k := pk) (t := t) (by decide) hf
  have b2 := swept_bounds (x := swept x pk t x) (k := ck) (t := t) (by decide) b1
  have b3 := ttlF_bounds (pc := (swept x pk t f pk).getD 0) (now := now) he
  have b4 := b1 pk
  have b5 := b2 ck
  clear b1 b2 hf
  revert KX; k_fill; intro KX
  refine wpAny_call ?_
  walk_at "m enter"
  k_steps
  · have hc : (swept x pk t f pk).getD 0 = 0 := by assumption
    have e1 : ttlF ((swept x pk t f pk).getD 0) now e = 0 := if_pos hc
    rw [e1] at b3
    exact ret _ _ _ _ _ _ _ _ _ _ _ _ rfl e1.symm rfl ⟨b4.1, b4.2, b3.1, b3.2, b5.1, b5.2⟩ (by assumption) (news_of (by assumption) (cons_sub (mem _ _))) (allLt_sub (mem _ _) (allLt_mem (by assumption))) (by assumption) (by assumption)
  · have hc : ¬ (swept x pk t f pk).getD 0 = 0 := by assumption
    have e1 : ttlF ((swept x pk t f pk).getD 0) now e = e - (now - e).fmod e := if_neg hc
    rw [e1] at b3
    exact ret _ _ _ _ _ _ _ _ _ _ _ _ rfl e1.symm rfl ⟨b4.1, b4.2, b3.1, b3.2, b5.1, b5.2⟩ (by assumption) (news_of (by assumption) (cons_sub (mem _ _))) (allLt_sub (mem _ _) (allLt_mem (by assumption))) (by assumption) (by assumption)
end

end

theorem said_info : True := by
  k_with "call ref" => (k_here; (with_reducible show wpAny _ _ (call (Value.ref 660) _) _ _ _); k_dflt (refine' info_spec ?zyB ?zyF ?zyX ?zyT ?zyk ?zyN ?zyO ?zyU1 ?zyU2 ?zyhS ?zyhX ?zyzS ?zyzX ?zye1 ?zye2 ?zyhf ?zyd ?zyu ?_; (case zyB => k_asm); (case zyF => k_asm); (case zyX => k_asm); (case zyT => k_asm); (case zyk => first | exact rfl | assumption); (case zyN => k_asm); (case zyO => refine' Store.sub ?zyo ?zys; (case zyo => assumption); (case zys => walk_at "m sub")); (case zyU1 => k_updF); (case zyU2 => (intro o1; (try dsimp only); k_updF)); (case zyhS => assumption); (case zyhX => assumption); (case zyzS => first | assumption | omega); (case zyzX => first | assumption | omega); (case zye1 => walk_at "m om"); (case zye2 => walk_at "m om"); (case zyhf => assumption); (case zyd => exact Nat.le_of_ble_eq_true rfl); (case zyu => exact Nat.le_of_ble_eq_true rfl); k_whole); (intro pc' ttl' cc' q' r1' r2' r3' r4' oS' oX' h' tk' ep' et' ec' eb' F' N' l1 hS' hX'; (try dsimp only at l1); (have l2 := l1); (try dsimp only [AllLt] at l2); (try dsimp only at N'); (try dsimp only); (try k_sweep)))
  trivial
section
section
variable {w : World} {p : Program} {loose : List Str} {mean : ExcName → Option Value} {mg mb : Str → Option Value} {dp un : Nat} {gd : Option (List Code)} {cn : Str} {cs : Scope} {a : Addr} {ccd : Value} {cl : List (Str × Addr)} {outer : List Env} {A₀ : Around} {base h₀ : Heap} {L : Addr} {m : Str → Option Value} {s : Shared} {Q E : Value → Shared → Prop}
  (B : Below A₀ base outer h₀) (F : Fr h₀ L s.heap m) (KX : (Mine.hd1.heap_39 w.params).In h₀) (T : Top p loose mean mg mb h₀) (hk : cs.kind = .function)
include B F KX T hk

theorem gsw_spec {news : List (Addr × Obj)} {oS oX : Obj} {g1 : Obj → List (Addr × Obj)} {g2 : Obj → Obj → List (Addr × Obj)} {f x : Str → Option Int} {nS nX : Nat} {st S X V clk : Addr} {key pk ck : Str} {tp te : Tok} {t e : Int}
    (N : News h₀ L s.heap news) (O : Store w news st S X V clk t) (U1 : UpdF S oS news g1) (U2 : ∀ o, UpdF X oX (g1 o) (g2 o))
    (hS : IntD PySem.Challenge.rw_ji0060_02.row.prog w oS f nS) (hX : IntD PySem.Challenge.rw_ji0060_02.row.prog w oX x nX) (zS : nS ≤ sizeLine) (zX : nX ≤ sizeLine) (he : 0 < e) (he2 : e < 1000000) (het : e ≤ t) (ht : t < 1000000000000) (hkl : key.length ≤ 1000)
    (epk : pk = wkey key ((t - e).fdiv e)) (eck : ck = wkey key (t.fdiv e))
    (hf : ∀ j, 0 ≤ (f j).getD 0 ∧ (f j).getD 0 ≤ 1000000) (hd : dp ≤ 840) (hu : un ≤ 8400)
    (ret : ∀ pc ttl cc q r1 r2 r3 r4 oS' oX' h' tk', pc = (swept x pk t f pk).getD 0 → ttl = ttlF pc t e → cc = (swept (swept x pk t x) ck t (swept x pk t f) ck).getD 0 →
      (0 ≤ pc ∧ pc ≤ 1000000 ∧ 0 ≤ ttl ∧ ttl ≤ e ∧ 0 ≤ cc ∧ cc ≤ 1000000) → Fr h₀ L h' m →
      News h₀ L h' ((q, { cls := .type "tuple", data := .seq #[.int pc r1, .int ttl r2, .int cc r3, .int (e - t.fmod e + e) r4] }) :: g2 oS' oX') → AllLt q (g2 oS' oX') →
      IntD PySem.Challenge.rw_ji0060_02.row.prog w oS' (swept (swept x pk t x) ck t (swept x pk t f)) nS → IntD PySem.Challenge.rw_ji0060_02.row.prog w oX' (swept (swept x pk t x) ck t (swept x pk t x)) nX → Q (.ref q) { s with heap := h', toks := tk' }) :
    wpAny (model PySem.Challenge.rw_ji0060_02.row.prog w) (ktrTop dp un gd cn cs L a ccd cl outer) (call (.ref 667) [.ref st, .str key tp, .int e te]) Q E s := by
  subst epk eck
  refine lower ?_ hd hu
  obtain ⟨frz, n1, n2, N', sub, mem⟩ := split2 O.xs U1 U2 N
  have O' : Store w frz st S X V clk t := O.sub (fun q hq ho => sub q hq ho.1 ho.2.1)
  clear N U1 U2 sub O
  have O'' := O'
  obtain ⟨⟨dx, h1, h2, h3, h4, t1, t2, t3, t4, nn, oc, od, fd, sl, hst, hck, hdx, _, _, _⟩, _, sx, xv, lS, lX, lV⟩ := O''
  revert KX; k_fill; intro KX
  refine wpAny_call ?_
  walk_at "m enter"
  k_steps
  exact ret _ _ _ _ _ _ _ _ _ _ _ _ (by assumption) (by assumption) (by assumption) (by assumption) (by assumption) (news_of (by assumption) (cons_sub fun p hp => .tail _ (.tail _ (mem _ _ p hp)))) (allLt_sub (fun p hp => .tail _ (.tail _ (mem _ _ p hp))) (allLt_mem (by assumption))) (by assumption) (by assumption)
end

end

theorem said_gsw : True := by
  k_with "call ref" => (k_here; (with_reducible show wpAny _ _ (call (Value.ref 667) _) _ _ _); k_dflt (refine' gsw_spec ?zyB ?zyF ?zyX ?zyT ?zyk ?zyN ?zyO ?zyU1 ?zyU2 ?zyhS ?zyhX ?zyzS ?zyzX ?zye1 ?zye2 ?zye3 ?zye4 ?zye5 ?zyep ?zyec ?zyhf ?zyd ?zyu ?_; (case zyB => k_asm); (case zyF => k_asm); (case zyX => k_asm); (case zyT => k_asm); (case zyk => first | exact rfl | assumption); (case zyN => k_asm); (case zyO => refine' Store.sub ?zyo ?zys; (case zyo => assumption); (case zys => walk_at "m sub")); (case zyU1 => k_updF); (case zyU2 => (intro o1; (try dsimp only); k_updF)); (case zyhS => assumption); (case zyhX => assumption); (case zyzS => first | assumption | omega); (case zyzX => first | assumption | omega); (case zye1 => walk_at "m om"); (case zye2 => walk_at "m om"); (case zye3 => walk_at "m om"); (case zye4 => walk_at "m om"); (case zye5 => walk_at "m om"); (case zyep => first | assumption | rfl); (case zyec => first | assumption | rfl); (case zyhf => assumption); (case zyd => exact Nat.le_of_ble_eq_true rfl); (case zyu => exact Nat.le_of_ble_eq_true rfl); k_whole); (intro pc' ttl' cc' q' r1' r2' r3' r4' oS' oX' h' tk' ep' et' ec' eb' F' N' l1 hS' hX'; (try dsimp only at l1); (have l2 := l1); (try dsimp only [AllLt] at l2); (try dsimp only at N'); (try dsimp only); (try k_sweep)))
  trivial
section
section
variable {w : World} {p : Program} {loose : List Str} {mean : ExcName → Option Value} {mg mb : Str → Option Value} {dp un : Nat} {gd : Option (List Code)} {cn : Str} {cs : Scope} {a : Addr} {ccd : Value} {cl : List (Str × Addr)} {outer : List Env} {A₀ : Around} {base h₀ : Heap} {L : Addr} {m : Str → Option Value} {s : Shared} {Q E : Value → Shared → Prop}
  (B : Below A₀ base outer h₀) (F : Fr h₀ L s.heap m) (KX : (Mine.hd1.heap_39 w.params).In h₀) (T : Top p loose mean mg mb h₀) (hk : cs.kind = .function)
include B F KX T hk

end
noncomputable def csw_spec_St (w : World) (p : Program) (loose : List Str) (mean : ExcName → Option Value) (mg : Str → Option Value) (mb : Str → Option Value) (dp : Nat) (un : Nat) (gd : Option (List Code)) (cn : Str) (cs : Scope) (a : Addr) (ccd : Value) (cl : List (Str × Addr)) (outer : List Env) (A₀ : Around) (base : Heap) (h₀ : Heap) (L : Addr) (m : Str → Option Value) (s : Shared) (Q : Value → Shared → Prop) (E : Value → Shared → Prop) (news : List (Addr × Obj)) (oS : Obj) (oX : Obj) (oV : Obj) (g1 : Obj → List (Addr × Obj)) (g2 : Obj → Obj → List (Addr × Obj)) (g3 : Obj → Obj → Obj → List (Addr × Obj)) (f : Str → Option Int) (x : Str → Option Int) (ev : Str → Option Addr) (nS : Nat) (nX : Nat) (nV : Nat) (st : Addr) (S : Addr) (X : Addr) (V : Addr) (clk : Addr) (key : Str) (tp : Tok) (te : Tok) (t : Int) (e : Int) : Prop := ∀ (B : Below A₀ base outer h₀) (F : Fr h₀ L s.heap m) (KX : (Mine.hd1.heap_39 w.params).In h₀) (T : Top p loose mean mg mb h₀) (hk : cs.kind = .function) (N : News h₀ L s.heap news) (O : Store w news st S X V clk t) (U1 : UpdF S oS news g1) (U2 : ∀ o, UpdF X oX (g1 o) (g2 o)) (U3 : ∀ o o', UpdF V oV (g2 o o') (g3 o o')) (hS : IntD PySem.Challenge.rw_ji0060_02.row.prog w oS f nS) (hX : IntD PySem.Challenge.rw_ji0060_02.row.prog w oX x nX) (hV : RefD PySem.Challenge.rw_ji0060_02.row.prog w oV ev nV) (zS : nS ≤ sizeLine) (zX : nX ≤ sizeLine) (zV : nV ≤ sizeLine) (he : 0 < e) (he2 : e < 1000000) (het : e ≤ t) (ht : t < 1000000000000) (hkl : key.length ≤ 1000) (hd : dp ≤ 840) (hu : un ≤ 8400) (retH : ∀ oS' oX' oV' h' tk', Fr h₀ L h' m → News h₀ L h' (g3 oS' oX' oV') → IntD PySem.Challenge.rw_ji0060_02.row.prog w oS' (upd (upd f (wkey key ((t - e).fdiv e)) none) (wkey key (t.fdiv e)) none) nS → IntD PySem.Challenge.rw_ji0060_02.row.prog w oX' (upd (upd x (wkey key ((t - e).fdiv e)) none) (wkey key (t.fdiv e)) none) nX → RefD PySem.Challenge.rw_ji0060_02.row.prog w oV' (upd (upd ev (wkey key ((t - e).fdiv e)) none) (wkey key (t.fdiv e)) none) nV → Q .none { s with heap := h', toks := tk' }), wpAny (model PySem.Challenge.rw_ji0060_02.row.prog w) (ktrTop dp un gd cn cs L a ccd cl outer) (call (.ref 674) [.ref st, .str key tp, .int e te]) Q E s
namespace c_csw_spec
noncomputable def zcv : (World) × (Program) × (List Str) × (ExcName → Option Value) × (Str → Option Value) × (Str → Option Value) × (Nat) × (Nat) × (Option (List Code)) × (Str) × (Scope) × (Addr) × (Value) × (List (Str × Addr)) × (List Env) × (Around) × (Heap) × (Heap) × (Addr) × (Str → Option Value) × (Shared) × (Value → Shared → Prop) × (Value → Shared → Prop) × (List (Addr × Obj)) × (Obj) × (Obj) × (Obj) × (Obj → List (Addr × Obj)) × (Obj → Obj → List (Addr × Obj)) × (Obj → Obj → Obj → List (Addr × Obj)) × (Str → Option Int) × (Str → Option Int) × (Str → Option Addr) × (Nat) × (Nat) × (Nat) × (Addr) × (Addr) × (Addr) × (Addr) × (Addr) × (Str) × (Tok) × (Tok) × (Int) × (Int) := pick (neP neW (neP inferInstance (neP inferInstance (neP inferInstance (neP inferInstance (neP inferInstance (neP inferInstance (neP inferInstance (neP inferInstance (neP inferInstance (neP inferInstance (neP inferInstance (neP inferInstance (neP inferInstance (neP inferInstance (neP neA (neP inferInstance (neP inferInstance (neP inferInstance (neP inferInstance (neP neS (neP inferInstance (neP inferInstance (neP inferInstance (neP inferInstance (neP inferInstance (neP inferInstance (neP inferInstance (neP inferInstance (neP inferInstance (neP inferInstance (neP inferInstance (neP inferInstance (neP inferInstance (neP inferInstance (neP inferInstance (neP inferInstance (neP inferInstance (neP inferInstance (neP inferInstance (neP inferInstance (neP inferInstance (neP inferInstance (neP inferInstance (neP inferInstance inferInstance))))))))))))))))))))))))))))))))))))))))))))) (fun v : (World) × (Program) × (List Str) × (ExcName → Option Value) × (Str → Option Value) × (Str → Option Value) × (Nat) × (Nat) × (Option (List Code)) × (Str) × (Scope) × (Addr) × (Value) × (List (Str × Addr)) × (List Env) × (Around) × (Heap) × (Heap) × (Addr) × (Str → Option Value) × (Shared) × (Value → Shared → Prop) × (Value → Shared → Prop) × (List (Addr × Obj)) × (Obj) × (Obj) × (Obj) × (Obj → List (Addr × Obj)) × (Obj → Obj → List (Addr × Obj)) × (Obj → Obj → Obj → List (Addr × Obj)) × (Str → Option Int) × (Str → Option Int) × (Str → Option Addr) × (Nat) × (Nat) × (Nat) × (Addr) × (Addr) × (Addr) × (Addr) × (Addr) × (Str) × (Tok) × (Tok) × (Int) × (Int) => csw_spec_St (v.1) (v.2.1) (v.2.2.1) (v.2.2.2.1) (v.2.2.2.2.1) (v.2.2.2.2.2.1) (v.2.2.2.2.2.2.1) (v.2.2.2.2.2.2.2.1) (v.2.2.2.2.2.2.2.2.1) (v.2.2.2.2.2.2.2.2.2.1) (v.2.2.2.2.2.2.2.2.2.2.1) (v.2.2.2.2.2.2.2.2.2.2.2.1) (v.2.2.2.2.2.2.2.2.2.2.2.2.1) (v.2.2.2.2.2.2.2.2.2.2.2.2.2.1) (v.2.2.2.2.2.2.2.2.2.2.2.2.2.2.1) (v.2.2.2.2.2.2.2.2.2.2.2.2.2.2.2.1) (v.2.2.2.2.2.2.2.2.2.2.2.2.2.2.2.2.1) (v.2.2.2.2.2.2.2.2.2.2.2.2.2.2.2.2.2.1) (v.2.2.2.2.2.2.2.2.2.2.2.2.2.2.2.2.2.2.1) (v.2.2.2.2.2.2.2.2.2.2.2.2.2.2.2.2.2.2.2.1) (v.2.2.2.2.2.2.2.2.2.2.2.2.2.2.2.2.2.2.2.2.1) (v.2.2.2.2.2.2.2.2.2.2.2.2.2.2.2.2.2.2.2.2.2.1) (v.2.2.2.2.2.2.2.2.2.2.2.2.2.2.2.2.2.2.2.2.2.2.1) (v.2.2.2.2.2.2.2.2.2.2.2.2.2.2.2.2.2.2.2.2.2.2.2.1) (v.2.2.2.2.2.2.2.2.2.2.2.2.2.2.2.2.2.2.2.2.2.2.2.2.1) (v.2.2.2.2.2.2.2.2.2.2.2.2.2.2.2.2.2.2.2.2.2.2.2.2.2.1) (v.2.2.2.2.2.2.2.2.2.2.2.2.2.2.2.2.2.2.2.2.2.2.2.2.2.2.1) (v.2.2.2.2.2.2.2.2.2.2.2.2.2.2.2.2.2.2.2.2.2.2.2.2.2.2.2.1) (v.2.2.2.2.2.2.2.2.2.2.2.2.2.2.2.2.2.2.2.2.2.2.2.2.2.2.2.2.1) (v.2.2.2.2.2.2.2.2.2.2.2.2.2.2.2.2.2.2.2.2.2.2.2.2.2.2.2.2.2.1) (v.2.2.2.2.2.2.2.2.2.2.2.2.2.2.2.2.2.2.2.2.2.2.2.2.2.2.2.2.2.2.1) (v.2.2.2.2.2.2.2.2.2.2.2.2.2.2.2.2.2.2.2.2.2.2.2.2.2.2.2.2.2.2.2.1) (v.2.2.2.2.2.2.2.2.2.2.2.2.2.2.2.2.2.2.2.2.2.2.2.2.2.2.2.2.2.2.2.2.1) (v.2.2.2.2.2.2.2.2.2.2.2.2.2.2.2.2.2.2.2.2.2.2.2.2.2.2.2.2.2.2.2.2.2.1) (v.2.2.2.2.2.2.2.2.2.2.2.2.2.2.2.2.2.2.2.2.2.2.2.2.2.2.2.2.2.2.2.2.2.2.1) (v.2.2.2.2.2.2.2.2.2.2.2.2.2.2.2.2.2.2.2.2.2.2.2.2.2.2.2.2.2.2.2.2.2.2.2.1) (v.2.2.2.2.2.2.2.2.2.2.2.2.2.2.2.2.2.2.2.2.2.2.2.2.2.2.2.2.2.2.2.2.2.2.2.2.1) (v.2.2.2.2.2.2.2.2.2.2.2.2.2.2.2.2.2.2.2.2.2.2.2.2.2.2.2.2.2.2.2.2.2.2.2.2.2.1) (v.2.2.2.2.2.2.2.2.2.2.2.2.2.2.2.2.2.2.2.2.2.2.2.2.2.2.2.2.2.2.2.2.2.2.2.2.2.2.1) (v.2.2.2.2.2.2.2.2.2.2.2.2.2.2.2.2.2.2.2.2.2.2.2.2.2.2.2.2.2.2.2.2.2.2.2.2.2.2.2.1) (v.2.2.2.2.2.2.2.2.2.2.2.2.2.2.2.2.2.2.2.2.2.2.2.2.2.2.2.2.2.2.2.2.2.2.2.2.2.2.2.2.1) (v.2.2.2.2.2.2.2.2.2.2.2.2.2.2.2.2.2.2.2.2.2.2.2.2.2.2.2.2.2.2.2.2.2.2.2.2.2.2.2.2.2.1) (v.2.2.2.2.2.2.2.2.2.2.2.2.2.2.2.2.2.2.2.2.2.2.2.2.2.2.2.2.2.2.2.2.2.2.2.2.2.2.2.2.2.2.1) (v.2.2.2.2.2.2.2.2.2.2.2.2.2.2.2.2.2.2.2.2.2.2.2.2.2.2.2.2.2.2.2.2.2.2.2.2.2.2.2.2.2.2.2.1) (v.2.2.2.2.2.2.2.2.2.2.2.2.2.2.2.2.2.2.2.2.2.2.2.2.2.2.2.2.2.2.2.2.2.2.2.2.2.2.2.2.2.2.2.2.1) (v.2.2.2.2.2.2.2.2.2.2.2.2.2.2.2.2.2.2.2.2.2.2.2.2.2.2.2.2.2.2.2.2.2.2.2.2.2.2.2.2.2.2.2.2.2)) 0
theorem zal (h : csw_spec_St (zcv.1) (zcv.2.1) (zcv.2.2.1) (zcv.2.2.2.1) (zcv.2.2.2.2.1) (zcv.2.2.2.2.2.1) (zcv.2.2.2.2.2.2.1) (zcv.2.2.2.2.2.2.2.1) (zcv.2.2.2.2.2.2.2.2.1) (zcv.2.2.2.2.2.2.2.2.2.1) (zcv.2.2.2.2.2.2.2.2.2.2.1) (zcv.2.2.2.2.2.2.2.2.2.2.2.1) (zcv.2.2.2.2.2.2.2.2.2.2.2.2.1) (zcv.2.2.2.2.2.2.2.2.2.2.2.2.2.1) (zcv.2.2.2.2.2.2.2.2.2.2.2.2.2.2.1) (zcv.2.2.2.2.2.2.2.2.2.2.2.2.2.2.2.1) (zcv.2.2.2.2.2.2.2.2.2.2.2.2.2.2.2.2.1) (zcv.2.2.2.2.2.2.2.2.2.2.2.2.2.2.2.2.2.1) (zcv.2.2.2.2.2.2.2.2.2.2.2.2.2.2.2.2.2.2.1) (zcv.2.2.2.2.2.2.2.2.2.2.2.2.2.2.2.2.2.2.2.1) (zcv.2.2.2.2.2.2.2.2.2.2.2.2.2.2.2.2.2.2.2.2.1) (zcv.2.2.2.2.2.2.2.2.2.2.2.2.2.2.2.2.2.2.2.2.2.1) (zcv.2.2.2.2.2.2.2.2.2.2.2.2.2.2.2.2.2.2.2.2.2.2.1) (zcv.2.2.2.2.2.2.2.2.2.2.2.2.2.2.2.2.2.2.2.2.2.2.2.1) (zcv.2.2.2.2.2.2.2.2.2.2.2.2.2.2.2.2.2.2.2.2.2.2.2.2.1) (zcv.2.2.2.2.2.2.2.2.2.2.2.2.2.2.2.2.2.2.2.2.2.2.2.2.2.1) (zcv.2.2.2.2.2.2.2.2.2.2.2.2.2.2.2.2.2.2.2.2.2.2.2.2.2.2.1) (zcv.2.2.2.2.2.2.2.2.2.2.2.2.2.2.2.2.2.2.2.2.2.2.2.2.2.2.2.1) (zcv.2.2.2.2.2.2.2.2.2.2.2.2.2.2.2.2.2.2.2.2.2.2.2.2.2.2.2.2.1) (zcv.2.2.2.2.2.2.2.2.2.2.2.2.2.2.2.2.2.2.2.2.2.2.2.2.2.2.2.2.2.1) (zcv.2.2.2.2.2.2.2.2.2.2.2.2.2.2.2.2.2.2.2.2.2.2.2.2.2.2.2.2.2.2.1) (zcv.2.2.2.2.2.2.2.2.2.2.2.2.2.2.2.2.2.2.2.2.2.2.2.2.2.2.2.2.2.2.2.1) (zcv.2.2.2.2.2.2.2.2.2.2.2.2.2.2.2.2.2.2.2.2.2.2.2.2.2.2.2.2.2.2.2.2.1) (zcv.2.2.2.2.2.2.2.2.2.2.2.2.2.2.2.2.2.2.2.2.2.2.2.2.2.2.2.2.2.2.2.2.2.1) (zcv.2.2.2.2.2.2.2.2.2.2.2.2.2.2.2.2.2.2.2.2.2.2.2.2.2.2.2.2.2.2.2.2.2.2.1) (zcv.2.2.2.2.2.2.2.2.2.2.2.2.2.2.2.2.2.2.2.2.2.2.2.2.2.2.2.2.2.2.2.2.2.2.2.1) (zcv.2.2.2.2.2.2.2.2.2.2.2.2.2.2.2.2.2.2.2.2.2.2.2.2.2.2.2.2.2.2.2.2.2.2.2.2.1) (zcv.2.2.2.2.2.2.2.2.2.2.2.2.2.2.2.2.2.2.2.2.2.2.2.2.2.2.2.2.2.2.2.2.2.2.2.2.2.1) (zcv.2.2.2.2.2.2.2.2.2.2.2.2.2.2.2.2.2.2.2.2.2.2.2.2.2.2.2.2.2.2.2.2.2.2.2.2.2.2.1) (zcv.2.2.2.2.2.2.2.2.2.2.2.2.2.2.2.2.2.2.2.2.2.2.2.2.2.2.2.2.2.2.2.2.2.2.2.2.2.2.2.1) (zcv.2.2.2.2.2.2.2.2.2.2.2.2.2.2.2.2.2.2.2.2.2.2.2.2.2.2.2.2.2.2.2.2.2.2.2.2.2.2.2.2.1) (zcv.2.2.2.2.2.2.2.2.2.2.2.2.2.2.2.2.2.2.2.2.2.2.2.2.2.2.2.2.2.2.2.2.2.2.2.2.2.2.2.2.2.1) (zcv.2.2.2.2.2.2.2.2.2.2.2.2.2.2.2.2.2.2.2.2.2.2.2.2.2.2.2.2.2.2.2.2.2.2.2.2.2.2.2.2.2.2.1) (zcv.2.2.2.2.2.2.2.2.2.2.2.2.2.2.2.2.2.2.2.2.2.2.2.2.2.2.2.2.2.2.2.2.2.2.2.2.2.2.2.2.2.2.2.1) (zcv.2.2.2.2.2.2.2.2.2.2.2.2.2.2.2.2.2.2.2.2.2.2.2.2.2.2.2.2.2.2.2.2.2.2.2.2.2.2.2.2.2.2.2.2.1) (zcv.2.2.2.2.2.2.2.2.2.2.2.2.2.2.2.2.2.2.2.2.2.2.2.2.2.2.2.2.2.2.2.2.2.2.2.2.2.2.2.2.2.2.2.2.2)) : ∀ u : (World) × (Program) × (List Str) × (ExcName → Option Value) × (Str → Option Value) × (Str → Option Value) × (Nat) × (Nat) × (Option (List Code)) × (Str) × (Scope) × (Addr) × (Value) × (List (Str × Addr)) × (List Env) × (Around) × (Heap) × (Heap) × (Addr) × (Str → Option Value) × (Shared) × (Value → Shared → Prop) × (Value → Shared → Prop) × (List (Addr × Obj)) × (Obj) × (Obj) × (Obj) × (Obj → List (Addr × Obj)) × (Obj → Obj → List (Addr × Obj)) × (Obj → Obj → Obj → List (Addr × Obj)) × (Str → Option Int) × (Str → Option Int) × (Str → Option Addr) × (Nat) × (Nat) × (Nat) × (Addr) × (Addr) × (Addr) × (Addr) × (Addr) × (Str) × (Tok) × (Tok) × (Int) × (Int), csw_spec_St (u.1) (u.2.1) (u.2.2.1) (u.2.2.2.1) (u.2.2.2.2.1) (u.2.2.2.2.2.1) (u.2.2.2.2.2.2.1) (u.2.2.2.2.2.2.2.1) (u.2.2.2.2.2.2.2.2.1) (u.2.2.2.2.2.2.2.2.2.1) (u.2.2.2.2.2.2.2.2.2.2.1) (u.2.2.2.2.2.2.2.2.2.2.2.1) (u.2.2.2.2.2.2.2.2.2.2.2.2.1) (u.2.2.2.2.2.2.2.2.2.2.2.2.2.1) (u.2.2.2.2.2.2.2.2.2.2.2.2.2.2.1) (u.2.2.2.2.2.2.2.2.2.2.2.2.2.2.2.1) (u.2.2.2.2.2.2.2.2.2.2.2.2.2.2.2.2.1) (u.2.2.2.2.2.2.2.2.2.2.2.2.2.2.2.2.2.1) (u.2.2.2.2.2.2.2.2.2.2.2.2.2.2.2.2.2.2.1) (u.2.2.2.2.2.2.2.2.2.2.2.2.2.2.2.2.2.2.2.1) (u.2.2.2.2.2.2.2.2.2.2.2.2.2.2.2.2.2.2.2.2.1) (u.2.2.2.2.2.2.2.2.2.2.2.2.2.2.2.2.2.2.2.2.2.1) (u.2.2.2.2.2.2.2.2.2.2.2.2.2.2.2.2.2.2.2.2.2.2.1) (u.2.2.2.2.2.2.2.2.2.2.2.2.2.2.2.2.2.2.2.2.2.2.2.1) (u.2.2.2.2.2.2.2.2.2.2.2.2.2.2.2.2.2.2.2.2.2.2.2.2.1) (u.2.2.2.2.2.2.2.2.2.2.2.2.2.2.2.2.2.2.2.2.2.2.2.2.2.1) (u.2.2.2.2.2.2.2.2.2.2.2.2.2.2.2.2.2.2.2.2.2.2.2.2.2.2.1) (u.2.2.2.2.2.2.2.2.2.2.2.2.2.2.2.2.2.2.2.2.2.2.2.2.2.2.2.1) (u.2.2.2.2.2.2.2.2.2.2.2.2.2.2.2.2.2.2.2.2.2.2.2.2.2.2.2.2.1) (u.2.2.2.2.2.2.2.2.2.2.2.2.2.2.2.2.2.2.2.2.2.2.2.2.2.2.2.2.2.1) (u.2.2.2.2.2.2.2.2.2.2.2.2.2.2.2.2.2.2.2.2.2.2.2.2.2.2.2.2.2.2.1) (u.2.2.2.2.2.2.2.2.2.2.2.2.2.2.2.2.2.2.2.2.2.2.2.2.2.2.2.2.2.2.2.1) (u.2.2.2.2.2.2.2.2.2.2.2.2.2.2.2.2.2.2.2.2.2.2.2.2.2.2.2.2.2.2.2.2.1) (u.2.2.2.2.2.2.2.2.2.2.2.2.2.2.2.2.2.2.2.2.2.2.2.2.2.2.2.2.2.2.2.2.2.1) (u.2.2.2.2.2.2.2.2.2.2.2.2.2.2.2.2.2.2.2.2.2.2.2.2.2.2.2.2.2.2.2.2.2.2.1) (u.2.2.2.2.2.2.2.2.2.2.2.2.2.2.2.2.2.2.2.2.2.2.2.2.2.2.2.2.2.2.2.2.2.2.2.1) (u.2.2.2.2.2.2.2.2.2.2.2.2.2.2.2.2.2.2.2.2.2.2.2.2.2.2.2.2.2.2.2.2.2.2.2.2.1) (u.2.2.2.2.2.2.2.2.2.2.2.2.2.2.2.2.2.2.2.2.2.2.2.2.2.2.2.2.2.2.2.2.2.2.2.2.2.1) (u.2.2.2.2.2.2.2.2.2.2.2.2.2.2.2.2.2.2.2.2.2.2.2.2.2.2.2.2.2.2.2.2.2.2.2.2.2.2.1) (u.2.2.2.2.2.2.2.2.2.2.2.2.2.2.2.2.2.2.2.2.2.2.2.2.2.2.2.2.2.2.2.2.2.2.2.2.2.2.2.1) (u.2.2.2.2.2.2.2.2.2.2.2.2.2.2.2.2.2.2.2.2.2.2.2.2.2.2.2.2.2.2.2.2.2.2.2.2.2.2.2.2.1) (u.2.2.2.2.2.2.2.2.2.2.2.2.2.2.2.2.2.2.2.2.2.2.2.2.2.2.2.2.2.2.2.2.2.2.2.2.2.2.2.2.2.1) (u.2.2.2.2.2.2.2.2.2.2.2.2.2.2.2.2.2.2.2.2.2.2.2.2.2.2.2.2.2.2.2.2.2.2.2.2.2.2.2.2.2.2.1) (u.2.2.2.2.2.2.2.2.2.2.2.2.2.2.2.2.2.2.2.2.2.2.2.2.2.2.2.2.2.2.2.2.2.2.2.2.2.2.2.2.2.2.2.1) (u.2.2.2.2.2.2.2.2.2.2.2.2.2.2.2.2.2.2.2.2.2.2.2.2.2.2.2.2.2.2.2.2.2.2.2.2.2.2.2.2.2.2.2.2.1) (u.2.2.2.2.2.2.2.2.2.2.2.2.2.2.2.2.2.2.2.2.2.2.2.2.2.2.2.2.2.2.2.2.2.2.2.2.2.2.2.2.2.2.2.2.2) := pick_all (P := fun v : (World) × (Program) × (List Str) × (ExcName → Option Value) × (Str → Option Value) × (Str → Option Value) × (Nat) × (Nat) × (Option (List Code)) × (Str) × (Scope) × (Addr) × (Value) × (List (Str × Addr)) × (List Env) × (Around) × (Heap) × (Heap) × (Addr) × (Str → Option Value) × (Shared) × (Value → Shared → Prop) × (Value → Shared → Prop) × (List (Addr × Obj)) × (Obj) × (Obj) × (Obj) × (Obj → List (Addr × Obj)) × (Obj → Obj → List (Addr × Obj)) × (Obj → Obj → Obj → List (Addr × Obj)) × (Str → Option Int) × (Str → Option Int) × (Str → Option Addr) × (Nat) × (Nat) × (Nat) × (Addr) × (Addr) × (Addr) × (Addr) × (Addr) × (Str) × (Tok) × (Tok) × (Int) × (Int) => csw_spec_St (v.1) (v.2.1) (v.2.2.1) (v.2.2.2.1) (v.2.2.2.2.1) (v.2.2.2.2.2.1) (v.2.2.2.2.2.2.1) (v.2.2.2.2.2.2.2.1) (v.2.2.2.2.2.2.2.2.1) (v.2.2.2.2.2.2.2.2.2.1) (v.2.2.2.2.2.2.2.2.2.2.1) (v.2.2.2.2.2.2.2.2.2.2.2.1) (v.2.2.2.2.2.2.2.2.2.2.2.2.1) (v.2.2.2.2.2.2.2.2.2.2.2.2.2.1) (v.2.2.2.2.2.2.2.2.2.2.2.2.2.2.1) (v.2.2.2.2.2.2.2.2.2.2.2.2.2.2.2.1) (v.2.2.2.2.2.2.2.2.2.2.2.2.2.2.2.2.1) (v.2.2.2.2.2.2.2.2.2.2.2.2.2.2.2.2.2.1) (v.2.2.2.2.2.2.2.2.2.2.2.2.2.2.2.2.2.2.1) (v.2.2.2.2.2.2.2.2.2.2.2.2.2.2.2.2.2.2.2.1) (v.2.2.2.2.2.2.2.2.2.2.2.2.2.2.2.2.2.2.2.2.1) (v.2.2.2.2.2.2.2.2.2.2.2.2.2.2.2.2.2.2.2.2.2.1) (v.2.2.2.2.2.2.2.2.2.2.2.2.2.2.2.2.2.2.2.2.2.2.1) (v.2.2.2.2.2.2.2.2.2.2.2.2.2.2.2.2.2.2.2.2.2.2.2.1) (v.2.2.2.2.2.2.2.2.2.2.2.2.2.2.2.2.2.2.2.2.2.2.2.2.1) (v.2.2.2.2.2.2.2.2.2.2.2.2.2.2.2.2.2.2.2.2.2.2.2.2.2.1) (v.2.2.2.2.2.2.2.2.2.2.2.2.2.2.2.2.2.2.2.2.2.2.2.2.2.2.1) (v.2.2.2.2.2.2.2.2.2.2.2.2.2.2.2.2.2.2.2.2.2.2.2.2.2.2.2.1) (v.2.2.2.2.2.2.2.2.2.2.2.2.2.2.2.2.2.2.2.2.2.2.2.2.2.2.2.2.1) (v.2.2.2.2.2.2.2.2.2.2.2.2.2.2.2.2.2.2.2.2.2.2.2.2.2.2.2.2.2.1) (v.2.2.2.2.2.2.2.2.2.2.2.2.2.2.2.2.2.2.2.2.2.2.2.2.2.2.2.2.2.2.1) (v.2.2.2.2.2.2.2.2.2.2.2.2.2.2.2.2.2.2.2.2.2.2.2.2.2.2.2.2.2.2.2.1) (v.2.2.2.2.2.2.2.2.2.2.2.2.2.2.2.2.2.2.2.2.2.2.2.2.2.2.2.2.2.2.2.2.1) (v.2.2.2.2.2.2.2.2.2.2.2.2.2.2.2.2.2.2.2.2.2.2.2.2.2.2.2.2.2.2.2.2.2.1) (v.2.2.2.2.2.2.2.2.2.2.2.2.2.2.2.2.2.2.2.2.2.2.2.2.2.2.2.2.2.2.2.2.2.2.1) (v.2.2.2.2.2.2.2.2.2.2.2.2.2.2.2.2.2.2.2.2.2.2.2.2.2.2.2.2.2.2.2.2.2.2.2.1) (v.2.2.2.2.2.2.2.2.2.2.2.2.2.2.2.2.2.2.2.2.2.2.2.2.2.2.2.2.2.2.2.2.2.2.2.2.1) (v.2.2.2.2.2.2.2.2.2.2.2.2.2.2.2.2.2.2.2.2.2.2.2.2.2.2.2.2.2.2.2.2.2.2.2.2.2.1) (v.2.2.2.2.2.2.2.2.2.2.2.2.2.2.2.2.2.2.2.2.2.2.2.2.2.2.2.2.2.2.2.2.2.2.2.2.2.2.1) (v.2.2.2.2.2.2.2.2.2.2.2.2.2.2.2.2.2.2.2.2.2.2.2.2.2.2.2.2.2.2.2.2.2.2.2.2.2.2.2.1) (v.2.2.2.2.2.2.2.2.2.2.2.2.2.2.2.2.2.2.2.2.2.2.2.2.2.2.2.2.2.2.2.2.2.2.2.2.2.2.2.2.1) (v.2.2.2.2.2.2.2.2.2.2.2.2.2.2.2.2.2.2.2.2.2.2.2.2.2.2.2.2.2.2.2.2.2.2.2.2.2.2.2.2.2.1) (v.2.2.2.2.2.2.2.2.2.2.2.2.2.2.2.2.2.2.2.2.2.2.2.2.2.2.2.2.2.2.2.2.2.2.2.2.2.2.2.2.2.2.1) (v.2.2.2.2.2.2.2.2.2.2.2.2.2.2.2.2.2.2.2.2.2.2.2.2.2.2.2.2.2.2.2.2.2.2.2.2.2.2.2.2.2.2.2.1) (v.2.2.2.2.2.2.2.2.2.2.2.2.2.2.2.2.2.2.2.2.2.2.2.2.2.2.2.2.2.2.2.2.2.2.2.2.2.2.2.2.2.2.2.2.1) (v.2.2.2.2.2.2.2.2.2.2.2.2.2.2.2.2.2.2.2.2.2.2.2.2.2.2.2.2.2.2.2.2.2.2.2.2.2.2.2.2.2.2.2.2.2)) h
noncomputable def w : World := zcv.1
noncomputable def p : Program := zcv.2.1
noncomputable def loose : List Str := zcv.2.2.1
noncomputable def mean : ExcName → Option Value := zcv.2.2.2.1
noncomputable def mg : Str → Option Value := zcv.2.2.2.2.1
noncomputable def mb : Str → Option Value := zcv.2.2.2.2.2.1
noncomputable def dp : Nat := zcv.2.2.2.2.2.2.1
noncomputable def un : Nat := zcv.2.2.2.2.2.2.2.1
noncomputable def gd : Option (List Code) := zcv.2.2.2.2.2.2.2.2.1
noncomputable def cn : Str := zcv.2.2.2.2.2.2.2.2.2.1
noncomputable def cs : Scope := zcv.2.2.2.2.2.2.2.2.2.2.1
noncomputable def a : Addr := zcv.2.2.2.2.2.2.2.2.2.2.2.1
noncomputable def ccd : Value := zcv.2.2.2.2.2.2.2.2.2.2.2.2.1
noncomputable def cl : List (Str × Addr) := zcv.2.2.2.2.2.2.2.2.2.2.2.2.2.1
noncomputable def outer : List Env := zcv.2.2.2.2.2.2.2.2.2.2.2.2.2.2.1
noncomputable def A₀ : Around := zcv.2.2.2.2.2.2.2.2.2.2.2.2.2.2.2.1
noncomputable def base : Heap := zcv.2.2.2.2.2.2.2.2.2.2.2.2.2.2.2.2.1
noncomputable def h₀ : Heap := zcv.2.2.2.2.2.2.2.2.2.2.2.2.2.2.2.2.2.1
noncomputable def L : Addr := zcv.2.2.2.2.2.2.2.2.2.2.2.2.2.2.2.2.2.2.1
noncomputable def m : Str → Option Value := zcv.2.2.2.2.2.2.2.2.2.2.2.2.2.2.2.2.2.2.2.1
noncomputable def s : Shared := zcv.2.2.2.2.2.2.2.2.2.2.2.2.2.2.2.2.2.2.2.2.1
noncomputable def Q : Value → Shared → Prop := zcv.2.2.2.2.2.2.2.2.2.2.2.2.2.2.2.2.2.2.2.2.2.1
noncomputable def E : Value → Shared → Prop := zcv.2.2.2.2.2.2.2.2.2.2.2.2.2.2.2.2.2.2.2.2.2.2.1
noncomputable def news : List (Addr × Obj) := zcv.2.2.2.2.2.2.2.2.2.2.2.2.2.2.2.2.2.2.2.2.2.2.2.1
noncomputable def oS : Obj := zcv.2.2.2.2.2.2.2.2.2.2.2.2.2.2.2.2.2.2.2.2.2.2.2.2.1
noncomputable def oX : Obj := zcv.2.2.2.2.2.2.2.2.2.2.2.2.2.2.2.2.2.2.2.2.2.2.2.2.2.1
noncomputable def oV : Obj := zcv.2.2.2.2.2.2.2.2.2.2.2.2.2.2.2.2.2.2.2.2.2.2.2.2.2.2.1
noncomputable def g1 : Obj → List (Addr × Obj) := zcv.2.2.2.2.2.2.2.2.2.2.2.2.2.2.2.2.2.2.2.2.2.2.2.2.2.2.2.1
noncomputable def g2 : Obj → Obj → List (Addr × Obj) := zcv.2.2.2.2.2.2.2.2.2.2.2.2.2.2.2.2.2.2.2.2.2.2.2.2.2.2.2.2.1
noncomputable def g3 : Obj → Obj → Obj → List (Addr × Obj) := zcv.2.2.2.2.2.2.2.2.2.2.2.2.2.2.2.2.2.2.2.2.2.2.2.2.2.2.2.2.2.1
noncomputable def f : Str → Option Int := zcv.2.2.2.2.2.2.2.2.2.2.2.2.2.2.2.2.2.2.2.2.2.2.2.2.2.2.2.2.2.2.1
noncomputable def x : Str → Option Int := zcv.2.2.2.2.2.2.2.2.2.2.2.2.2.2.2.2.2.2.2.2.2.2.2.2.2.2.2.2.2.2.2.1
noncomputable def ev : Str → Option Addr := zcv.2.2.2.2.2.2.2.2.2.2.2.2.2.2.2.2.2.2.2.2.2.2.2.2.2.2.2.2.2.2.2.2.1
noncomputable def nS : Nat := zcv.2.2.2.2.2.2.2.2.2.2.2.2.2.2.2.2.2.2.2.2.2.2.2.2.2.2.2.2.2.2.2.2.2.1
noncomputable def nX : Nat := zcv.2.2.2.2.2.2.2.2.2.2.2.2.2.2.2.2.2.2.2.2.2.2.2.2.2.2.2.2.2.2.2.2.2.2.1
noncomputable def nV : Nat := zcv.2.2.2.2.2.2.2.2.2.2.2.2.2.2.2.2.2.2.2.2.2.2.2.2.2.2.2.2.2.2.2.2.2.2.2.1
noncomputable def st : Addr := zcv.2.2.2.2.2.2.2.2.2.2.2.2.2.2.2.2.2.2.2.2.2.2.2.2.2.2.2.2.2.2.2.2.2.2.2.2.1
noncomputable def S : Addr := zcv.2.2.2.2.2.2.2.2.2.2.2.2.2.2.2.2.2.2.2.2.2.2.2.2.2.2.2.2.2.2.2.2.2.2.2.2.2.1
noncomputable def X : Addr := zcv.2.2.2.2.2.2.2.2.2.2.2.2.2.2.2.2.2.2.2.2.2.2.2.2.2.2.2.2.2.2.2.2.2.2.2.2.2.2.1
noncomputable def V : Addr := zcv.2.2.2.2.2.2.2.2.2.2.2.2.2.2.2.2.2.2.2.2.2.2.2.2.2.2.2.2.2.2.2.2.2.2.2.2.2.2.2.1
noncomputable def clk : Addr := zcv.2.2.2.2.2.2.2.2.2.2.2.2.2.2.2.2.2.2.2.2.2.2.2.2.2.2.2.2.2.2.2.2.2.2.2.2.2.2.2.2.1
noncomputable def key : Str := zcv.2.2.2.2.2.2.2.2.2.2.2.2.2.2.2.2.2.2.2.2.2.2.2.2.2.2.2.2.2.2.2.2.2.2.2.2.2.2.2.2.2.1
noncomputable def tp : Tok := zcv.2.2.2.2.2.2.2.2.2.2.2.2.2.2.2.2.2.2.2.2.2.2.2.2.2.2.2.2.2.2.2.2.2.2.2.2.2.2.2.2.2.2.1
noncomputable def te : Tok := zcv.2.2.2.2.2.2.2.2.2.2.2.2.2.2.2.2.2.2.2.2.2.2.2.2.2.2.2.2.2.2.2.2.2.2.2.2.2.2.2.2.2.2.2.1
noncomputable def t : Int := zcv.2.2.2.2.2.2.2.2.2.2.2.2.2.2.2.2.2.2.2.2.2.2.2.2.2.2.2.2.2.2.2.2.2.2.2.2.2.2.2.2.2.2.2.2.1
noncomputable def e : Int := zcv.2.2.2.2.2.2.2.2.2.2.2.2.2.2.2.2.2.2.2.2.2.2.2.2.2.2.2.2.2.2.2.2.2.2.2.2.2.2.2.2.2.2.2.2.2
theorem walk1 : csw_spec_St w p loose mean mg mb dp un gd cn cs a ccd cl outer A₀ base h₀ L m s Q E news oS oX oV g1 g2 g3 f x ev nS nX nV st S X V clk key tp te t e := by
  intro B F KX T hk N O U1 U2 U3 hS hX hV zS zX zV he he2 het ht hkl hd hu retH
  refine lower ?_ hd hu
  obtain ⟨frz, n1, n2, n3, N', sub, mem⟩ := split3 O.xs O.vs O.vx U1 U2 U3 N
  have O' : Store w frz st S X V clk t := O.sub (fun q hq ho => sub q hq ho.1 ho.2.1 ho.2.2)
  clear N U1 U2 U3 sub O
  have O'' := O'
  obtain ⟨⟨dx, h1, h2, h3, h4, t1, t2, t3, t4, nn, oc, od, fd, sl, hst, hck, hdx, _, _, _⟩, _, sx, xv, lS, lX, lV⟩ := O''
  revert KX; k_fill; intro KX
  refine wpAny_call ?_
  walk_at "m enter"
  k_steps
  exact retH _ _ _ _ _ (by assumption) (news_of (by assumption) (fun p hp => .tail _ (.tail _ (mem _ _ _ p hp)))) (by assumption) (by assumption) (by assumption)
end c_csw_spec
theorem csw_spec {w : World} {p : Program} {loose : List Str} {mean : ExcName → Option Value} {mg : Str → Option Value} {mb : Str → Option Value} {dp : Nat} {un : Nat} {gd : Option (List Code)} {cn : Str} {cs : Scope} {a : Addr} {ccd : Value} {cl : List (Str × Addr)} {outer : List Env} {A₀ : Around} {base : Heap} {h₀ : Heap} {L : Addr} {m : Str → Option Value} {s : Shared} {Q : Value → Shared → Prop} {E : Value → Shared → Prop} (B : Below A₀ base outer h₀) (F : Fr h₀ L s.heap m) (KX : (Mine.hd1.heap_39 w.params).In h₀) (T : Top p loose mean mg mb h₀) (hk : cs.kind = .function) {news : List (Addr × Obj)} {oS : Obj} {oX : Obj} {oV : Obj} {g1 : Obj → List (Addr × Obj)} {g2 : Obj → Obj → List (Addr × Obj)} {g3 : Obj → Obj → Obj → List (Addr × Obj)} {f : Str → Option Int} {x : Str → Option Int} {ev : Str → Option Addr} {nS : Nat} {nX : Nat} {nV : Nat} {st : Addr} {S : Addr} {X : Addr} {V : Addr} {clk : Addr} {key : Str} {tp : Tok} {te : Tok} {t : Int} {e : Int} (N : News h₀ L s.heap news) (O : Store w news st S X V clk t) (U1 : UpdF S oS news g1) (U2 : ∀ o, UpdF X oX (g1 o) (g2 o)) (U3 : ∀ o o', UpdF V oV (g2 o o') (g3 o o')) (hS : IntD PySem.Challenge.rw_ji0060_02.row.prog w oS f nS) (hX : IntD PySem.Challenge.rw_ji0060_02.row.prog w oX x nX) (hV : RefD PySem.Challenge.rw_ji0060_02.row.prog w oV ev nV) (zS : nS ≤ sizeLine) (zX : nX ≤ sizeLine) (zV : nV ≤ sizeLine) (he : 0 < e) (he2 : e < 1000000) (het : e ≤ t) (ht : t < 1000000000000) (hkl : key.length ≤ 1000) (hd : dp ≤ 840) (hu : un ≤ 8400) (retH : ∀ oS' oX' oV' h' tk', Fr h₀ L h' m → News h₀ L h' (g3 oS' oX' oV') → IntD PySem.Challenge.rw_ji0060_02.row.prog w oS' (upd (upd f (wkey key ((t - e).fdiv e)) none) (wkey key (t.fdiv e)) none) nS → IntD PySem.Challenge.rw_ji0060_02.row.prog w oX' (upd (upd x (wkey key ((t - e).fdiv e)) none) (wkey key (t.fdiv e)) none) nX → RefD PySem.Challenge.rw_ji0060_02.row.prog w oV' (upd (upd ev (wkey key ((t - e).fdiv e)) none) (wkey key (t.fdiv e)) none) nV → Q .none { s with heap := h', toks := tk' }) :
    wpAny (model PySem.Challenge.rw_ji0060_02.row.prog w) (ktrTop dp un gd cn cs L a ccd cl outer) (call (.ref 674) [.ref st, .str key tp, .int e te]) Q E s :=
  c_csw_spec.zal c_csw_spec.walk1 (w, p, loose, mean, mg, mb, dp, un, gd, cn, cs, a, ccd, cl, outer, A₀, base, h₀, L, m, s, Q, E, news, oS, oX, oV, g1, g2, g3, f, x, ev, nS, nX, nV, st, S, X, V, clk, key, tp, te, t, e) B F KX T hk N O U1 U2 U3 hS hX hV zS zX zV he he2 het ht hkl hd hu retH
section
variable {w : World} {p : Program} {loose : List Str} {mean : ExcName → Option Value} {mg mb : Str → Option Value} {dp un : Nat} {gd : Option (List Code)} {cn : Str} {cs : Scope} {a : Addr} {ccd : Value} {cl : List (Str × Addr)} {outer : List Env} {A₀ : Around} {base h₀ : Heap} {L : Addr} {m : Str → Option Value} {s : Shared} {Q E : Value → Shared → Prop}
  (B : Below A₀ base outer h₀) (F : Fr h₀ L s.heap m) (KX : (Mine.hd1.heap_39 w.params).In h₀) (T : Top p loose mean mg mb h₀) (hk : cs.kind = .function)
include B F KX T hk
end

end

theorem said_csw : True := by
  k_with "call ref" => (k_here; (with_reducible show wpAny _ _ (call (Value.ref 674) _) _ _ _); k_dflt (refine' csw_spec ?zyB ?zyF ?zyX ?zyT ?zyk ?zyN ?zyO ?zyU1 ?zyU2 ?zyU3 ?zyhS ?zyhX ?zyhV ?zyzS ?zyzX ?zyzV ?zye1 ?zye2 ?zye3 ?zye4 ?zye5 ?zyd ?zyu ?_; (case zyB => k_asm); (case zyF => k_asm); (case zyX => k_asm); (case zyT => k_asm); (case zyk => first | exact rfl | assumption); (case zyN => k_asm); (case zyO => refine' Store.sub ?zyo ?zys; (case zyo => assumption); (case zys => walk_at "m sub")); (case zyU1 => k_updF); (case zyU2 => (intro o1; (try dsimp only); k_updF)); (case zyhS => assumption); (case zyhX => assumption); (case zyzS => first | assumption | omega); (case zyzX => first | assumption | omega); (case zyU3 => (intro o1 o2; (try dsimp only); k_updF)); (case zyhV => assumption); (case zyzV => walk_at "m om"); (case zye1 => walk_at "m om"); (case zye2 => walk_at "m om"); (case zye3 => walk_at "m om"); (case zye4 => walk_at "m om"); (case zye5 => walk_at "m om"); (case zyd => exact Nat.le_of_ble_eq_true rfl); (case zyu => exact Nat.le_of_ble_eq_true rfl); k_whole); (intro oS' oX' oV' h' tk' F' N' hS' hX' hV'; (try dsimp only at N'); (try dsimp only); (try k_sweep)))
  trivial
section
noncomputable def pcF (f x : Str → Option Int) (pk : Str) (t : Int) : Int := (swept x pk t f pk).getD 0
noncomputable def F2 {α : Type} (f : Str → Option α) (x : Str → Option Int) (pk ck : Str) (t : Int) : Str → Option α := swept (swept x pk t x) ck t (swept x pk t f)
noncomputable def ccF (f x : Str → Option Int) (pk ck : Str) (t : Int) : Int := (F2 f x pk ck t ck).getD 0
noncomputable def wF (f x : Str → Option Int) (pk ck : Str) (t e : Int) : Int := (pcF f x pk t * ttlF (pcF f x pk t) t e).fdiv e + ccF f x pk ck t
noncomputable def AcqPost (f x : Str → Option Int) (pk ck : Str) (t e limit am : Int) (b : Bool) (f' x' : Str → Option Int) : Prop :=
  (limit < am ∧ b = false ∧ f' = f ∧ x' = x) ∨ (am ≤ limit ∧ limit < wF f x pk ck t e + am ∧ b = false ∧ f' = F2 f x pk ck t ∧ x' = F2 x x pk ck t) ∨
  (am ≤ limit ∧ wF f x pk ck t e + am ≤ limit ∧ b = true ∧ f' = incF (F2 f x pk ck t) (F2 x x pk ck t) ck t am ∧ x' = incX (F2 f x pk ck t) (F2 x x pk ck t) ck t (2 * e) am)
theorem swept_idem {α : Type} {x : Str → Option Int} {f : Str → Option α} {k : Str} {t : Int} (ht : 0 ≤ t) : swept (swept x k t x) k t (swept x k t f) = swept x k t f := by
  unfold swept
  by_cases hc : (x k).getD 0 ≤ t
  · rw [if_pos hc, if_pos hc, if_pos (by rw [upd_same]; exact ht)]
    funext j
    unfold upd
    split <;> rfl
  · rw [if_neg hc, if_neg hc, if_neg hc]
section
variable {w : World} {p : Program} {loose : List Str} {mean : ExcName → Option Value} {mg mb : Str → Option Value} {dp un : Nat} {gd : Option (List Code)} {cn : Str} {cs : Scope} {a : Addr} {ccd : Value} {cl : List (Str × Addr)} {outer : List Env} {A₀ : Around} {base h₀ : Heap} {L : Addr} {m : Str → Option Value} {s : Shared} {Q E : Value → Shared → Prop}
  (B : Below A₀ base outer h₀) (F : Fr h₀ L s.heap m) (KX : (Mine.hd1.heap_39 w.params).In h₀) (T : Top p loose mean mg mb h₀) (hk : cs.kind = .function)
include B F KX T hk

end
noncomputable def acq_spec_St (w : World) (p : Program) (loose : List Str) (mean : ExcName → Option Value) (mg : Str → Option Value) (mb : Str → Option Value) (dp : Nat) (un : Nat) (gd : Option (List Code)) (cn : Str) (cs : Scope) (a : Addr) (ccd : Value) (cl : List (Str × Addr)) (outer : List Env) (A₀ : Around) (base : Heap) (h₀ : Heap) (L : Addr) (m : Str → Option Value) (s : Shared) (Q : Value → Shared → Prop) (E : Value → Shared → Prop) (news : List (Addr × Obj)) (oS : Obj) (oX : Obj) (g1 : Obj → List (Addr × Obj)) (g2 : Obj → Obj → List (Addr × Obj)) (f : Str → Option Int) (x : Str → Option Int) (nS : Nat) (nX : Nat) (st : Addr) (S : Addr) (X : Addr) (V : Addr) (clk : Addr) (key : Str) (tp : Tok) (tl : Tok) (te : Tok) (ta : Tok) (t : Int) (e : Int) (limit : Int) (am : Int) : Prop := ∀ (pk : Str) (ck : Str) (B : Below A₀ base outer h₀) (F : Fr h₀ L s.heap m) (KX : (Mine.hd1.heap_39 w.params).In h₀) (T : Top p loose mean mg mb h₀) (hk : cs.kind = .function) (N : News h₀ L s.heap news) (O : Store w news st S X V clk t) (U1 : UpdF S oS news g1) (U2 : ∀ o, UpdF X oX (g1 o) (g2 o)) (hS : IntD PySem.Challenge.rw_ji0060_02.row.prog w oS f nS) (hX : IntD PySem.Challenge.rw_ji0060_02.row.prog w oX x nX) (zS : nS + 1 ≤ sizeLine) (zX : nX + 1 ≤ sizeLine) (he : 0 < e) (he2 : e < 1000000) (het : e ≤ t) (ht : t < 1000000000000) (hkl : key.length ≤ 1000) (epk : pk = wkey key ((t - e).fdiv e)) (eck : ck = wkey key (t.fdiv e)) (hf : ∀ j, 0 ≤ (f j).getD 0 ∧ (f j).getD 0 ≤ 1000000) (hd : dp ≤ 840) (hu : un ≤ 8400) (retH : ∀ b f' x' oS' oX' h' tk', AcqPost f x pk ck t e limit am b f' x' → Fr h₀ L h' m → News h₀ L h' (g2 oS' oX') → IntD PySem.Challenge.rw_ji0060_02.row.prog w oS' f' (nS + 1) → IntD PySem.Challenge.rw_ji0060_02.row.prog w oX' x' (nX + 1) → Q (.bool b) { s with heap := h', toks := tk' }), wpAny (model PySem.Challenge.rw_ji0060_02.row.prog w) (ktrTop dp un gd cn cs L a ccd cl outer) (call (.ref 653) [.ref st, .str key tp, .int limit tl, .int e te, .int am ta]) Q E s
namespace c_acq_spec
noncomputable def zcv : (World) × (Program) × (List Str) × (ExcName → Option Value) × (Str → Option Value) × (Str → Option Value) × (Nat) × (Nat) × (Option (List Code)) × (Str) × (Scope) × (Addr) × (Value) × (List (Str × Addr)) × (List Env) × (Around) × (Heap) × (Heap) × (Addr) × (Str → Option Value) × (Shared) × (Value → Shared → Prop) × (Value → Shared → Prop) × (List (Addr × Obj)) × (Obj) × (Obj) × (Obj → List (Addr × Obj)) × (Obj → Obj → List (Addr × Obj)) × (Str → Option Int) × (Str → Option Int) × (Nat) × (Nat) × (Addr) × (Addr) × (Addr) × (Addr) × (Addr) × (Str) × (Tok) × (Tok) × (Tok) × (Tok) × (Int) × (Int) × (Int) × (Int) := pick (neP neW (neP inferInstance (neP inferInstance (neP inferInstance (neP inferInstance (neP inferInstance (neP inferInstance (neP inferInstance (neP inferInstance (neP inferInstance (neP inferInstance (neP inferInstance (neP inferInstance (neP inferInstance (neP inferInstance (neP neA (neP inferInstance (neP inferInstance (neP inferInstance (neP inferInstance (neP neS (neP inferInstance (neP inferInstance (neP inferInstance (neP inferInstance (neP inferInstance (neP inferInstance (neP inferInstance (neP inferInstance (neP inferInstance (neP inferInstance (neP inferInstance (neP inferInstance (neP inferInstance (neP inferInstance (neP inferInstance (neP inferInstance (neP inferInstance (neP inferInstance (neP inferInstance (neP inferInstance (neP inferInstance (neP inferInstance (neP inferInstance (neP inferInstance inferInstance))))))))))))))))))))))))))))))))))))))))))))) (fun v : (World) × (Program) × (List Str) × (ExcName → Option Value) × (Str → Option Value) × (Str → Option Value) × (Nat) × (Nat) × (Option (List Code)) × (Str) × (Scope) × (Addr) × (Value) × (List (Str × Addr)) × (List Env) × (Around) × (Heap) × (Heap) × (Addr) × (Str → Option Value) × (Shared) × (Value → Shared → Prop) × (Value → Shared → Prop) × (List (Addr × Obj)) × (Obj) × (Obj) × (Obj → List (Addr × Obj)) × (Obj → Obj → List (Addr × Obj)) × (Str → Option Int) × (Str → Option Int) × (Nat) × (Nat) × (Addr) × (Addr) × (Addr) × (Addr) × (Addr) × (Str) × (Tok) × (Tok) × (Tok) × (Tok) × (Int) × (Int) × (Int) × (Int) => acq_spec_St (v.1) (v.2.1) (v.2.2.1) (v.2.2.2.1) (v.2.2.2.2.1) (v.2.2.2.2.2.1) (v.2.2.2.2.2.2.1) (v.2.2.2.2.2.2.2.1) (v.2.2.2.2.2.2.2.2.1) (v.2.2.2.2.2.2.2.2.2.1) (v.2.2.2.2.2.2.2.2.2.2.1) (v.2.2.2.2.2.2.2.2.2.2.2.1) (v.2.2.2.2.2.2.2.2.2.2.2.2.1) (v.2.2.2.2.2.2.2.2.2.2.2.2.2.1) (v.2.2.2.2.2.2.2.2.2.2.2.2.2.2.1) (v.2.2.2.2.2.2.2.2.2.2.2.2.2.2.2.1) (v.2.2.2.2.2.2.2.2.2.2.2.2.2.2.2.2.1) (v.2.2.2.2.2.2.2.2.2.2.2.2.2.2.2.2.2.1) (v.2.2.2.2.2.2.2.2.2.2.2.2.2.2.2.2.2.2.1) (v.2.2.2.2.2.2.2.2.2.2.2.2.2.2.2.2.2.2.2.1) (v.2.2.2.2.2.2.2.2.2.2.2.2.2.2.2.2.2.2.2.2.1) (v.2.2.2.2.2.2.2.2.2.2.2.2.2.2.2.2.2.2.2.2.2.1) (v.2.2.2.2.2.2.2.2.2.2.2.2.2.2.2.2.2.2.2.2.2.2.1) (v.2.2.2.2.2.2.2.2.2.2.2.2.2.2.2.2.2.2.2.2.2.2.2.1) (v.2.2.2.2.2.2.2.2.2.2.2.2.2.2.2.2.2.2.2.2.2.2.2.2.1) (v.2.2.2.2.2.2.2.2.2.2.2.2.2.2.2.2.2.2.2.2.2.2.2.2.2.1) (v.2.2.2.2.2.2.2.2.2.2.2.2.2.2.2.2.2.2.2.2.2.2.2.2.2.2.1) (v.2.2.2.2.2.2.2.2.2.2.2.2.2.2.2.2.2.2.2.2.2.2.2.2.2.2.2.1) (v.2.2.2.2.2.2.2.2.2.2.2.2.2.2.2.2.2.2.2.2.2.2.2.2.2.2.2.2.1) (v.2.2.2.2.2.2.2.2.2.2.2.2.2.2.2.2.2.2.2.2.2.2.2.2.2.2.2.2.2.1) (v.2.2.2.2.2.2.2.2.2.2.2.2.2.2.2.2.2.2.2.2.2.2.2.2.2.2.2.2.2.2.1) (v.2.2.2.2.2.2.2.2.2.2.2.2.2.2.2.2.2.2.2.2.2.2.2.2.2.2.2.2.2.2.2.1) (v.2.2.2.2.2.2.2.2.2.2.2.2.2.2.2.2.2.2.2.2.2.2.2.2.2.2.2.2.2.2.2.2.1) (v.2.2.2.2.2.2.2.2.2.2.2.2.2.2.2.2.2.2.2.2.2.2.2.2.2.2.2.2.2.2.2.2.2.1) (v.2.2.2.2.2.2.2.2.2.2.2.2.2.2.2.2.2.2.2.2.2.2.2.2.2.2.2.2.2.2.2.2.2.2.1) (v.2.2.2.2.2.2.2.2.2.2.2.2.2.2.2.2.2.2.2.2.2.2.2.2.2.2.2.2.2.2.2.2.2.2.2.1) (v.2.2.2.2.2.2.2.2.2.2.2.2.2.2.2.2.2.2.2.2.2.2.2.2.2.2.2.2.2.2.2.2.2.2.2.2.1) (v.2.2.2.2.2.2.2.2.2.2.2.2.2.2.2.2.2.2.2.2.2.2.2.2.2.2.2.2.2.2.2.2.2.2.2.2.2.1) (v.2.2.2.2.2.2.2.2.2.2.2.2.2.2.2.2.2.2.2.2.2.2.2.2.2.2.2.2.2.2.2.2.2.2.2.2.2.2.1) (v.2.2.2.2.2.2.2.2.2.2.2.2.2.2.2.2.2.2.2.2.2.2.2.2.2.2.2.2.2.2.2.2.2.2.2.2.2.2.2.1) (v.2.2.2.2.2.2.2.2.2.2.2.2.2.2.2.2.2.2.2.2.2.2.2.2.2.2.2.2.2.2.2.2.2.2.2.2.2.2.2.2.1) (v.2.2.2.2.2.2.2.2.2.2.2.2.2.2.2.2.2.2.2.2.2.2.2.2.2.2.2.2.2.2.2.2.2.2.2.2.2.2.2.2.2.1) (v.2.2.2.2.2.2.2.2.2.2.2.2.2.2.2.2.2.2.2.2.2.2.2.2.2.2.2.2.2.2.2.2.2.2.2.2.2.2.2.2.2.2.1) (v.2.2.2.2.2.2.2.2.2.2.2.2.2.2.2.2.2.2.2.2.2.2.2.2.2.2.2.2.2.2.2.2.2.2.2.2.2.2.2.2.2.2.2.1) (v.2.2.2.2.2.2.2.2.2.2.2.2.2.2.2.2.2.2.2.2.2.2.2.2.2.2.2.2.2.2.2.2.2.2.2.2.2.2.2.2.2.2.2.2.1) (v.2.2.2.2.2.2.2.2.2.2.2.2.2.2.2.2.2.2.2.2.2.2.2.2.2.2.2.2.2.2.2.2.2.2.2.2.2.2.2.2.2.2.2.2.2)) 0
theorem zal (h : acq_spec_St (zcv.1) (zcv.2.1) (zcv.2.2.1) (zcv.2.2.2.1) (zcv.2.2.2.2.1) (zcv.2.2.2.2.2.1) (zcv.2.2.2.2.2.2.1) (zcv.2.2.2.2.2.2.2.1) (zcv.2.2.2.2.2.2.2.2.1) (zcv.2.2.2.2.2.2.2.2.2.1) (zcv.2.2.2.2.2.2.2.2.2.2.1) (zcv.2.2.2.2.2.2.2.2.2.2.2.1) (zcv.2.2.2.2.2.2.2.2.2.2.2.2.1) (zcv.2.2.2.2.2.2.2.2.2.2.2.2.2.1) (zcv.2.2.2.2.2.2.2.2.2.2.2.2.2.2.1) (zcv.2.2.2.2.2.2.2.2.2.2.2.2.2.2.2.1) (zcv.2.2.2.2.2.2.2.2.2.2.2.2.2.2.2.2.1) (zcv.2.2.2.2.2.2.2.2.2.2.2.2.2.2.2.2.2.1) (zcv.2.2.2.2.2.2.2.2.2.2.2.2.2.2.2.2.2.2.1) (zcv.2.2.2.2.2.2.2.2.2.2.2.2.2.2.2.2.2.2.2.1) (zcv.2.2.2.2.2.2.2.2.2.2.2.2.2.2.2.2.2.2.2.2.1) (zcv.2.2.2.2.2.2.2.2.2.2.2.2.2.2.2.2.2.2.2.2.2.1) (zcv.2.2.2.2.2.2.2.2.2.2.2.2.2.2.2.2.2.2.2.2.2.2.1) (zcv.2.2.2.2.2.2.2.2.2.2.2.2.2.2.2.2.2.2.2.2.2.2.2.1) (zcv.2.2.2.2.2.2.2.2.2.2.2.2.2.2.2.2.2.2.2.2.2.2.2.2.1) (zcv.2.2.2.2.2.2.2.2.2.2.2.2.2.2.2.2.2.2.2.2.2.2.2.2.2.1) (zcv.2.2.2.2.2.2.2.2.2.2.2.2.2.2.2.2.2.2.2.2.2.2.2.2.2.2.1) (zcv.2.2.2.2.2.2.2.2.2.2.2.2.2.2.2.2.2.2.2.2.2.2.2.2.2.2.2.1) (zcv.2.2.2.2.2.2.2.2.2.2.2.2.2.2.2.2.2.2.2.2.2.2.2.2.2.2.2.2.1) (zcv.2.2.2.2.2.2.2.2.2.2.2.2.2.2.2.2.2.2.2.2.2.2.2.2.2.2.2.2.2.1) (zcv.2.2.2.2.2.2.2.2.2.2.2.2.2.2.2.2.2.2.2.2.2.2.2.2.2.2.2.2.2.2.1) (zcv.2.2.2.2.2.2.2.2.2.2.2.2.2.2.2.2.2.2.2.2.2.2.2.2.2.2.2.2.2.2.2.1) (zcv.2.2.2.2.2.2.2.2.2.2.2.2.2.2.2.2.2.2.2.2.2.2.2.2.2.2.2.2.2.2.2.2.1) (zcv.2.2.2.2.2.2.2.2.2.2.2.2.2.2.2.2.2.2.2.2.2.2.2.2.2.2.2.2.2.2.2.2.2.1) (zcv.2.2.2.2.2.2.2.2.2.2.2.2.2.2.2.2.2.2.2.2.2.2.2.2.2.2.2.2.2.2.2.2.2.2.1) (zcv.2.2.2.2.2.2.2.2.2.2.2.2.2.2.2.2.2.2.2.2.2.2.2.2.2.2.2.2.2.2.2.2.2.2.2.1) (zcv.2.2.2.2.2.2.2.2.2.2.2.2.2.2.2.2.2.2.2.2.2.2.2.2.2.2.2.2.2.2.2.2.2.2.2.2.1) (zcv.2.2.2.2.2.2.2.2.2.2.2.2.2.2.2.2.2.2.2.2.2.2.2.2.2.2.2.2.2.2.2.2.2.2.2.2.2.1) (zcv.2.2.2.2.2.2.2.2.2.2.2.2.2.2.2.2.2.2.2.2.2.2.2.2.2.2.2.2.2.2.2.2.2.2.2.2.2.2.1) (zcv.2.2.2.2.2.2.2.2.2.2.2.2.2.2.2.2.2.2.2.2.2.2.2.2.2.2.2.2.2.2.2.2.2.2.2.2.2.2.2.1) (zcv.2.2.2.2.2.2.2.2.2.2.2.2.2.2.2.2.2.2.2.2.2.2.2.2.2.2.2.2.2.2.2.2.2.2.2.2.2.2.2.2.1) (zcv.2.2.2.2.2.2.2.2.2.2.2.2.2.2.2.2.2.2.2.2.2.2.2.2.2.2.2.2.2.2.2.2.2.2.2.2.2.2.2.2.2.1) (zcv.2.2.2.2.2.2.2.2.2.2.2.2.2.2.2.2.2.2.2.2.2.2.2.2.2.2.2.2.2.2.2.2.2.2.2.2.2.2.2.2.2.2.1) (zcv.2.2.2.2.2.2.2.2.2.2.2.2.2.2.2.2.2.2.2.2.2.2.2.2.2.2.2.2.2.2.2.2.2.2.2.2.2.2.2.2.2.2.2.1) (zcv.2.2.2.2.2.2.2.2.2.2.2.2.2.2.2.2.2.2.2.2.2.2.2.2.2.2.2.2.2.2.2.2.2.2.2.2.2.2.2.2.2.2.2.2.1) (zcv.2.2.2.2.2.2.2.2.2.2.2.2.2.2.2.2.2.2.2.2.2.2.2.2.2.2.2.2.2.2.2.2.2.2.2.2.2.2.2.2.2.2.2.2.2)) : ∀ u : (World) × (Program) × (List Str) × (ExcName → Option Value) × (Str → Option Value) × (Str → Option Value) × (Nat) × (Nat) × (Option (List Code)) × (Str) × (Scope) × (Addr) × (Value) × (List (Str × Addr)) × (List Env) × (Around) × (Heap) × (Heap) × (Addr) × (Str → Option Value) × (Shared) × (Value → Shared → Prop) × (Value → Shared → Prop) × (List (Addr × Obj)) × (Obj) × (Obj) × (Obj → List (Addr × Obj)) × (Obj → Obj → List (Addr × Obj)) × (Str → Option Int) × (Str → Option Int) × (Nat) × (Nat) × (Addr) × (Addr) × (Addr) × (Addr) × (Addr) × (Str) × (Tok) × (Tok) × (Tok) × (Tok) × (Int) × (Int) × (Int) × (Int), acq_spec_St (u.1) (u.2.1) (u.2.2.1) (u.2.2.2.1) (u.2.2.2.2.1) (u.2.2.2.2.2.1) (u.2.2.2.2.2.2.1) (u.2.2.2.2.2.2.2.1) (u.2.2.2.2.2.2.2.2.1) (u.2.2.2.2.2.2.2.2.2.1) (u.2.2.2.2.2.2.2.2.2.2.1) (u.2.2.2.2.2.2.2.2.2.2.2.1) (u.2.2.2.2.2.2.2.2.2.2.2.2.1) (u.2.2.2.2.2.2.2.2.2.2.2.2.2.1) (u.2.2.2.2.2.2.2.2.2.2.2.2.2.2.1) (u.2.2.2.2.2.2.2.2.2.2.2.2.2.2.2.1) (u.2.2.2.2.2.2.2.2.2.2.2.2.2.2.2.2.1) (u.2.2.2.2.2.2.2.2.2.2.2.2.2.2.2.2.2.1) (u.2.2.2.2.2.2.2.2.2.2.2.2.2.2.2.2.2.2.1) (u.2.2.2.2.2.2.2.2.2.2.2.2.2.2.2.2.2.2.2.1) (u.2.2.2.2.2.2.2.2.2.2.2.2.2.2.2.2.2.2.2.2.1) (u.2.2.2.2.2.2.2.2.2.2.2.2.2.2.2.2.2.2.2.2.2.1) (u.2.2.2.2.2.2.2.2.2.2.2.2.2.2.2.2.2.2.2.2.2.2.1) (u.2.2.2.2.2.2.2.2.2.2.2.2.2.2.2.2.2.2.2.2.2.2.2.1) (u.2.2.2.2.2.2.2.2.2.2.2.2.2.2.2.2.2.2.2.2.2.2.2.2.1) (u.2.2.2.2.2.2.2.2.2.2.2.2.2.2.2.2.2.2.2.2.2.2.2.2.2.1) (u.2.2.2.2.2.2.2.2.2.2.2.2.2.2.2.2.2.2.2.2.2.2.2.2.2.2.1) (u.2.2.2.2.2.2.2.2.2.2.2.2.2.2.2.2.2.2.2.2.2.2.2.2.2.2.2.1) (u.2.2.2.2.2.2.2.2.2.2.2.2.2.2.2.2.2.2.2.2.2.2.2.2.2.2.2.2.1) (u.2.2.2.2.2.2.2.2.2.2.2.2.2.2.2.2.2.2.2.2.2.2.2.2.2.2.2.2.2.1) (u.2.2.2.2.2.2.2.2.2.2.2.2.2.2.2.2.2.2.2.2.2.2.2.2.2.2.2.2.2.2.1) (u.2.2.2.2.2.2.2.2.2.2.2.2.2.2.2.2.2.2.2.2.2.2.2.2.2.2.2.2.2.2.2.1) (u.2.2.2.2.2.2.2.2.2.2.2.2.2.2.2.2.2.2.2.2.2.2.2.2.2.2.2.2.2.2.2.2.1) (u.2.2.2.2.2.2.2.2.2.2.2.2.2.2.2.2.2.2.2.2.2.2.2.2.2.2.2.2.2.2.2.2.2.1) (u.2.2.2.2.2.2.2.2.2.2.2.2.2.2.2.2.2.2.2.2.2.2.2.2.2.2.2.2.2.2.2.2.2.2.1) (u.2.2.2.2.2.2.2.2.2.2.2.2.2.2.2.2.2.2.2.2.2.2.2.2.2.2.2.2.2.2.2.2.2.2.2.1) (u.2.2.2.2.2.2.2.2.2.2.2.2.2.2.2.2.2.2.2.2.2.2.2.2.2.2.2.2.2.2.2.2.2.2.2.2.1) (u.2.2.2.2.2.2.2.2.2.2.2.2.2.2.2.2.2.2.2.2.2.2.2.2.2.2.2.2.2.2.2.2.2.2.2.2.2.1) (u.2.2.2.2.2.2.2.2.2.2.2.2.2.2.2.2.2.2.2.2.2.2.2.2.2.2.2.2.2.2.2.2.2.2.2.2.2.2.1) (u.2.2.2.2.2.2.2.2.2.2.2.2.2.2.2.2.2.2.2.2.2.2.2.2.2.2.2.2.2.2.2.2.2.2.2.2.2.2.2.1) (u.2.2.2.2.2.2.2.2.2.2.2.2.2.2.2.2.2.2.2.2.2.2.2.2.2.2.2.2.2.2.2.2.2.2.2.2.2.2.2.2.1) (u.2.2.2.2.2.2.2.2.2.2.2.2.2.2.2.2.2.2.2.2.2.2.2.2.2.2.2.2.2.2.2.2.2.2.2.2.2.2.2.2.2.1) (u.2.2.2.2.2.2.2.2.2.2.2.2.2.2.2.2.2.2.2.2.2.2.2.2.2.2.2.2.2.2.2.2.2.2.2.2.2.2.2.2.2.2.1) (u.2.2.2.2.2.2.2.2.2.2.2.2.2.2.2.2.2.2.2.2.2.2.2.2.2.2.2.2.2.2.2.2.2.2.2.2.2.2.2.2.2.2.2.1) (u.2.2.2.2.2.2.2.2.2.2.2.2.2.2.2.2.2.2.2.2.2.2.2.2.2.2.2.2.2.2.2.2.2.2.2.2.2.2.2.2.2.2.2.2.1) (u.2.2.2.2.2.2.2.2.2.2.2.2.2.2.2.2.2.2.2.2.2.2.2.2.2.2.2.2.2.2.2.2.2.2.2.2.2.2.2.2.2.2.2.2.2) := pick_all (P := fun v : (World) × (Program) × (List Str) × (ExcName → Option Value) × (Str → Option Value) × (Str → Option Value) × (Nat) × (Nat) × (Option (List Code)) × (Str) × (Scope) × (Addr) × (Value) × (List (Str × Addr)) × (List Env) × (Around) × (Heap) × (Heap) × (Addr) × (Str → Option Value) × (Shared) × (Value → Shared → Prop) × (Value → Shared → Prop) × (List (Addr × Obj)) × (Obj) × (Obj) × (Obj → List (Addr × Obj)) × (Obj → Obj → List (Addr × Obj)) × (Str → Option Int) × (Str → Option Int) × (Nat) × (Nat) × (Addr) × (Addr) × (Addr) × (Addr) × (Addr) × (Str) × (Tok) × (Tok) × (Tok) × (Tok) × (Int) × (Int) × (Int) × (Int) => acq_spec_St (v.1) (v.2.1) (v.2.2.1) (v.2.2.2.1) (v.2.2.2.2.1) (v.2.2.2.2.2.1) (v.2.2.2.2.2.2.1) (v.2.2.2.2.2.2.2.1) (v.2.2.2.2.2.2.2.2.1) (v.2.2.2.2.2.2.2.2.2.1) (v.2.2.2.2.2.2.2.2.2.2.1) (v.2.2.2.2.2.2.2.2.2.2.2.1) (v.2.2.2.2.2.2.2.2.2.2.2.2.1) (v.2.2.2.2.2.2.2.2.2.2.2.2.2.1) (v.2.2.2.2.2.2.2.2.2.2.2.2.2.2.1) (v.2.2.2.2.2.2.2.2.2.2.2.2.2.2.2.1) (v.2.2.2.2.2.2.2.2.2.2.2.2.2.2.2.2.1) (v.2.2.2.2.2.2.2.2.2.2.2.2.2.2.2.2.2.1) (v.2.2.2.2.2.2.2.2.2.2.2.2.2.2.2.2.2.2.1) (v.2.2.2.2.2.2.2.2.2.2.2.2.2.2.2.2.2.2.2.1) (v.2.2.2.2.2.2.2.2.2.2.2.2.2.2.2.2.2.2.2.2.1) (v.2.2.2.2.2.2.2.2.2.2.2.2.2.2.2.2.2.2.2.2.2.1) (v.2.2.2.2.2.2.2.2.2.2.2.2.2.2.2.2.2.2.2.2.2.2.1) (v.2.2.2.2.2.2.2.2.2.2.2.2.2.2.2.2.2.2.2.2.2.2.2.1) (v.2.2.2.2.2.2.2.2.2.2.2.2.2.2.2.2.2.2.2.2.2.2.2.2.1) (v.2.2.2.2.2.2.2.2.2.2.2.2.2.2.2.2.2.2.2.2.2.2.2.2.2.1) (v.2.2.2.2.2.2.2.2.2.2.2.2.2.2.2.2.2.2.2.2.2.2.2.2.2.2.1) (v.2.2.2.2.2.2.2.2.2.2.2.2.2.2.2.2.2.2.2.2.2.2.2.2.2.2.2.1) (v.2.2.2.2.2.2.2.2.2.2.2.2.2.2.2.2.2.2.2.2.2.2.2.2.2.2.2.2.1) (v.2.2.2.2.2.2.2.2.2.2.2.2.2.2.2.2.2.2.2.2.2.2.2.2.2.2.2.2.2.1) (v.2.2.2.2.2.2.2.2.2.2.2.2.2.2.2.2.2.2.2.2.2.2.2.2.2.2.2.2.2.2.1) (v.2.2.2.2.2.2.2.2.2.2.2.2.2.2.2.2.2.2.2.2.2.2.2.2.2.2.2.2.2.2.2.1) (v.2.2.2.2.2.2.2.2.2.2.2.2.2.2.2.2.2.2.2.2.2.2.2.2.2.2.2.2.2.2.2.2.1) (v.2.2.2.2.2.2.2.2.2.2.2.2.2.2.2.2.2.2.2.2.2.2.2.2.2.2.2.2.2.2.2.2.2.1) (v.2.2.2.2.2.2.2.2.2.2.2.2.2.2.2.2.2.2.2.2.2.2.2.2.2.2.2.2.2.2.2.2.2.2.1) (v.2.2.2.2.2.2.2.2.2.2.2.2.2.2.2.2.2.2.2.2.2.2.2.2.2.2.2.2.2.2.2.2.2.2.2.1) (v.2.2.2.2.2.2.2.2.2.2.2.2.2.2.2.2.2.2.2.2.2.2.2.2.2.2.2.2.2.2.2.2.2.2.2.2.1) (v.2.2.2.2.2.2.2.2.2.2.2.2.2.2.2.2.2.2.2.2.2.2.2.2.2.2.2.2.2.2.2.2.2.2.2.2.2.1) (v.2.2.2.2.2.2.2.2.2.2.2.2.2.2.2.2.2.2.2.2.2.2.2.2.2.2.2.2.2.2.2.2.2.2.2.2.2.2.1) (v.2.2.2.2.2.2.2.2.2.2.2.2.2.2.2.2.2.2.2.2.2.2.2.2.2.2.2.2.2.2.2.2.2.2.2.2.2.2.2.1) (v.2.2.2.2.2.2.2.2.2.2.2.2.2.2.2.2.2.2.2.2.2.2.2.2.2.2.2.2.2.2.2.2.2.2.2.2.2.2.2.2.1) (v.2.2.2.2.2.2.2.2.2.2.2.2.2.2.2.2.2.2.2.2.2.2.2.2.2.2.2.2.2.2.2.2.2.2.2.2.2.2.2.2.2.1) (v.2.2.2.2.2.2.2.2.2.2.2.2.2.2.2.2.2.2.2.2.2.2.2.2.2.2.2.2.2.2.2.2.2.2.2.2.2.2.2.2.2.2.1) (v.2.2.2.2.2.2.2.2.2.2.2.2.2.2.2.2.2.2.2.2.2.2.2.2.2.2.2.2.2.2.2.2.2.2.2.2.2.2.2.2.2.2.2.1) (v.2.2.2.2.2.2.2.2.2.2.2.2.2.2.2.2.2.2.2.2.2.2.2.2.2.2.2.2.2.2.2.2.2.2.2.2.2.2.2.2.2.2.2.2.1) (v.2.2.2.2.2.2.2.2.2.2.2.2.2.2.2.2.2.2.2.2.2.2.2.2.2.2.2.2.2.2.2.2.2.2.2.2.2.2.2.2.2.2.2.2.2)) h
noncomputable def w : World := zcv.1
noncomputable def p : Program := zcv.2.1
noncomputable def loose : List Str := zcv.2.2.1
noncomputable def mean : ExcName → Option Value := zcv.2.2.2.1
noncomputable def mg : Str → Option Value := zcv.2.2.2.2.1
noncomputable def mb : Str → Option Value := zcv.2.2.2.2.2.1
noncomputable def dp : Nat := zcv.2.2.2.2.2.2.1
noncomputable def un : Nat := zcv.2.2.2.2.2.2.2.1
noncomputable def gd : Option (List Code) := zcv.2.2.2.2.2.2.2.2.1
noncomputable def cn : Str := zcv.2.2.2.2.2.2.2.2.2.1
noncomputable def cs : Scope := zcv.2.2.2.2.2.2.2.2.2.2.1
noncomputable def a : Addr := zcv.2.2.2.2.2.2.2.2.2.2.2.1
noncomputable def ccd : Value := zcv.2.2.2.2.2.2.2.2.2.2.2.2.1
noncomputable def cl : List (Str × Addr) := zcv.2.2.2.2.2.2.2.2.2.2.2.2.2.1
noncomputable def outer : List Env := zcv.2.2.2.2.2.2.2.2.2.2.2.2.2.2.1
noncomputable def A₀ : Around := zcv.2.2.2.2.2.2.2.2.2.2.2.2.2.2.2.1
noncomputable def base : Heap := zcv.2.2.2.2.2.2.2.2.2.2.2.2.2.2.2.2.1
noncomputable def h₀ : Heap := zcv.2.2.2.2.2.2.2.2.2.2.2.2.2.2.2.2.2.1
noncomputable def L : Addr := zcv.2.2.2.2.2.2.2.2.2.2.2.2.2.2.2.2.2.2.1
noncomputable def m : Str → Option Value := zcv.2.2.2.2.2.2.2.2.2.2.2.2.2.2.2.2.2.2.2.1
noncomputable def s : Shared := zcv.2.2.2.2.2.2.2.2.2.2.2.2.2.2.2.2.2.2.2.2.1
noncomputable def Q : Value → Shared → Prop := zcv.2.2.2.2.2.2.2.2.2.2.2.2.2.2.2.2.2.2.2.2.2.1
noncomputable def E : Value → Shared → Prop := zcv.2.2.2.2.2.2.2.2.2.2.2.2.2.2.2.2.2.2.2.2.2.2.1
noncomputable def news : List (Addr × Obj) := zcv.2.2.2.2.2.2.2.2.2.2.2.2.2.2.2.2.2.2.2.2.2.2.2.1
noncomputable def oS : Obj := zcv.2.2.2.2.2.2.2.2.2.2.2.2.2.2.2.2.2.2.2.2.2.2.2.2.1
noncomputable def oX : Obj := zcv.2.2.2.2.2.2.2.2.2.2.2.2.2.2.2.2.2.2.2.2.2.2.2.2.2.1
noncomputable def g1 : Obj → List (Addr × Obj) := zcv.2.2.2.2.2.2.2.2.2.2.2.2.2.2.2.2.2.2.2.2.2.2.2.2.2.2.1
noncomputable def g2 : Obj → Obj → List (Addr × Obj) := zcv.2.2.2.2.2.2.2.2.2.2.2.2.2.2.2.2.2.2.2.2.2.2.2.2.2.2.2.1
noncomputable def f : Str → Option Int := zcv.2.2.2.2.2.2.2.2.2.2.2.2.2.2.2.2.2.2.2.2.2.2.2.2.2.2.2.2.1
noncomputable def x : Str → Option Int := zcv.2.2.2.2.2.2.2.2.2.2.2.2.2.2.2.2.2.2.2.2.2.2.2.2.2.2.2.2.2.1
noncomputable def nS : Nat := zcv.2.2.2.2.2.2.2.2.2.2.2.2.2.2.2.2.2.2.2.2.2.2.2.2.2.2.2.2.2.2.1
noncomputable def nX : Nat := zcv.2.2.2.2.2.2.2.2.2.2.2.2.2.2.2.2.2.2.2.2.2.2.2.2.2.2.2.2.2.2.2.1
noncomputable def st : Addr := zcv.2.2.2.2.2.2.2.2.2.2.2.2.2.2.2.2.2.2.2.2.2.2.2.2.2.2.2.2.2.2.2.2.1
noncomputable def S : Addr := zcv.2.2.2.2.2.2.2.2.2.2.2.2.2.2.2.2.2.2.2.2.2.2.2.2.2.2.2.2.2.2.2.2.2.1
noncomputable def X : Addr := zcv.2.2.2.2.2.2.2.2.2.2.2.2.2.2.2.2.2.2.2.2.2.2.2.2.2.2.2.2.2.2.2.2.2.2.1
noncomputable def V : Addr := zcv.2.2.2.2.2.2.2.2.2.2.2.2.2.2.2.2.2.2.2.2.2.2.2.2.2.2.2.2.2.2.2.2.2.2.2.1
noncomputable def clk : Addr := zcv.2.2.2.2.2.2.2.2.2.2.2.2.2.2.2.2.2.2.2.2.2.2.2.2.2.2.2.2.2.2.2.2.2.2.2.2.1
noncomputable def key : Str := zcv.2.2.2.2.2.2.2.2.2.2.2.2.2.2.2.2.2.2.2.2.2.2.2.2.2.2.2.2.2.2.2.2.2.2.2.2.2.1
noncomputable def tp : Tok := zcv.2.2.2.2.2.2.2.2.2.2.2.2.2.2.2.2.2.2.2.2.2.2.2.2.2.2.2.2.2.2.2.2.2.2.2.2.2.2.1
noncomputable def tl : Tok := zcv.2.2.2.2.2.2.2.2.2.2.2.2.2.2.2.2.2.2.2.2.2.2.2.2.2.2.2.2.2.2.2.2.2.2.2.2.2.2.2.1
noncomputable def te : Tok := zcv.2.2.2.2.2.2.2.2.2.2.2.2.2.2.2.2.2.2.2.2.2.2.2.2.2.2.2.2.2.2.2.2.2.2.2.2.2.2.2.2.1
noncomputable def ta : Tok := zcv.2.2.2.2.2.2.2.2.2.2.2.2.2.2.2.2.2.2.2.2.2.2.2.2.2.2.2.2.2.2.2.2.2.2.2.2.2.2.2.2.2.1
noncomputable def t : Int := zcv.2.2.2.2.2.2.2.2.2.2.2.2.2.2.2.2.2.2.2.2.2.2.2.2.2.2.2.2.2.2.2.2.2.2.2.2.2.2.2.2.2.2.1
noncomputable def e : Int := zcv.2.2.2.2.2.2.2.2.2.2.2.2.2.2.2.2.2.2.2.2.2.2.2.2.2.2.2.2.2.2.2.2.2.2.2.2.2.2.2.2.2.2.2.1
noncomputable def limit : Int := zcv.2.2.2.2.2.2.2.2.2.2.2.2.2.2.2.2.2.2.2.2.2.2.2.2.2.2.2.2.2.2.2.2.2.2.2.2.2.2.2.2.2.2.2.2.1
noncomputable def am : Int := zcv.2.2.2.2.2.2.2.2.2.2.2.2.2.2.2.2.2.2.2.2.2.2.2.2.2.2.2.2.2.2.2.2.2.2.2.2.2.2.2.2.2.2.2.2.2
noncomputable def zst2 : {P : ((List (Addr × Obj)) → (Addr) → (Int) → (Int) → (Int) → (Int) → (Tok) → (Tok) → (Tok) → (Tok) → (Nat) → (Value) → (Option Addr) → (FuncData) → (Array (Option Value)) → (Heap) → (Addr) → (Heap) → Prop) // Hid (∀ (frz : List (Addr × Obj)) (dx : Addr) (h1 : Int) (h2 : Int) (h3 : Int) (h4 : Int) (t1 : Tok) (t2 : Tok) (t3 : Tok) (t4 : Tok) (nn : Nat) (oc : Value) (od : Option Addr) (fd : FuncData) (sl : Array (Option Value)) (g' : Heap) (L' : Addr) (h' : Heap), P frz dx h1 h2 h3 h4 t1 t2 t3 t4 nn oc od fd sl g' L' h') → acq_spec_St w p loose mean mg mb dp un gd cn cs a ccd cl outer A₀ base h₀ L m s Q E news oS oX g1 g2 f x nS nX st S X V clk key tp tl te ta t e limit am} := by
  refine' ⟨_, fun HH1 => _⟩
  rotate_left 
  focus
    intro pk ck B F KX T hk N O U1 U2 hS hX zS zX he he2 het ht hkl epk eck hf hd hu retH
    subst epk eck
    refine lower ?_ hd hu
    obtain ⟨frz, n1, n2, N', sub, mem⟩ := split2 O.xs U1 U2 N
    have O' : Store w frz st S X V clk t := O.sub (fun q hq ho => sub q hq ho.1 ho.2.1)
    clear N U1 U2 sub O
    have O'' := O'
    obtain ⟨⟨dx, h1, h2, h3, h4, t1, t2, t3, t4, nn, oc, od, fd, sl, hst, hck, hdx, _, _, _⟩, _, sx, xv, lS, lX, lV⟩ := O''
    have ht0 : 0 ≤ t := by omega
    have hid := congrFun (swept_idem (x := swept x (wkey key ((t - e).fdiv e)) t x) (f := swept x (wkey key ((t - e).fdiv e)) t f) (k := wkey key (t.fdiv e)) ht0) (wkey key (t.fdiv e))
    have hid2 := congrArg (fun o : Option Int => o.getD 0) hid
    clear hid
    revert KX; k_fill; intro KX
    refine wpAny_call ?_
    walk_at "m enter"
    rename_i zi1 zi2 zi3 zi4 zi5
    revert B F T hk hS hX zS zX he he2 het ht hkl hf hd hu retH n1 n2 zi1 mem O' zi2 sx xv lS lX lV hst hck hdx zi3 zi4 zi5 ht0 hid2 KX FG' F' N' B' X' T' qk ek
    exact Hid.out HH1 frz dx h1 h2 h3 h4 t1 t2 t3 t4 nn oc od fd sl g' L' h'
namespace k1
noncomputable def zcv : (List (Addr × Obj)) × (Addr) × (Int) × (Int) × (Int) × (Int) × (Tok) × (Tok) × (Tok) × (Tok) × (Nat) × (Value) × (Option Addr) × (FuncData) × (Array (Option Value)) × (Heap) × (Addr) × (Heap) := pick (neP inferInstance (neP inferInstance (neP inferInstance (neP inferInstance (neP inferInstance (neP inferInstance (neP inferInstance (neP inferInstance (neP inferInstance (neP inferInstance (neP inferInstance (neP inferInstance (neP inferInstance (neP inferInstance (neP inferInstance (neP inferInstance (neP inferInstance inferInstance))))))))))))))))) (fun v : (List (Addr × Obj)) × (Addr) × (Int) × (Int) × (Int) × (Int) × (Tok) × (Tok) × (Tok) × (Tok) × (Nat) × (Value) × (Option Addr) × (FuncData) × (Array (Option Value)) × (Heap) × (Addr) × (Heap) => zst2.1 (v.1) (v.2.1) (v.2.2.1) (v.2.2.2.1) (v.2.2.2.2.1) (v.2.2.2.2.2.1) (v.2.2.2.2.2.2.1) (v.2.2.2.2.2.2.2.1) (v.2.2.2.2.2.2.2.2.1) (v.2.2.2.2.2.2.2.2.2.1) (v.2.2.2.2.2.2.2.2.2.2.1) (v.2.2.2.2.2.2.2.2.2.2.2.1) (v.2.2.2.2.2.2.2.2.2.2.2.2.1) (v.2.2.2.2.2.2.2.2.2.2.2.2.2.1) (v.2.2.2.2.2.2.2.2.2.2.2.2.2.2.1) (v.2.2.2.2.2.2.2.2.2.2.2.2.2.2.2.1) (v.2.2.2.2.2.2.2.2.2.2.2.2.2.2.2.2.1) (v.2.2.2.2.2.2.2.2.2.2.2.2.2.2.2.2.2)) 0
theorem zal (h : zst2.1 (zcv.1) (zcv.2.1) (zcv.2.2.1) (zcv.2.2.2.1) (zcv.2.2.2.2.1) (zcv.2.2.2.2.2.1) (zcv.2.2.2.2.2.2.1) (zcv.2.2.2.2.2.2.2.1) (zcv.2.2.2.2.2.2.2.2.1) (zcv.2.2.2.2.2.2.2.2.2.1) (zcv.2.2.2.2.2.2.2.2.2.2.1) (zcv.2.2.2.2.2.2.2.2.2.2.2.1) (zcv.2.2.2.2.2.2.2.2.2.2.2.2.1) (zcv.2.2.2.2.2.2.2.2.2.2.2.2.2.1) (zcv.2.2.2.2.2.2.2.2.2.2.2.2.2.2.1) (zcv.2.2.2.2.2.2.2.2.2.2.2.2.2.2.2.1) (zcv.2.2.2.2.2.2.2.2.2.2.2.2.2.2.2.2.1) (zcv.2.2.2.2.2.2.2.2.2.2.2.2.2.2.2.2.2)) : ∀ u : (List (Addr × Obj)) × (Addr) × (Int) × (Int) × (Int) × (Int) × (Tok) × (Tok) × (Tok) × (Tok) × (Nat) × (Value) × (Option Addr) × (FuncData) × (Array (Option Value)) × (Heap) × (Addr) × (Heap), zst2.1 (u.1) (u.2.1) (u.2.2.1) (u.2.2.2.1) (u.2.2.2.2.1) (u.2.2.2.2.2.1) (u.2.2.2.2.2.2.1) (u.2.2.2.2.2.2.2.1) (u.2.2.2.2.2.2.2.2.1) (u.2.2.2.2.2.2.2.2.2.1) (u.2.2.2.2.2.2.2.2.2.2.1) (u.2.2.2.2.2.2.2.2.2.2.2.1) (u.2.2.2.2.2.2.2.2.2.2.2.2.1) (u.2.2.2.2.2.2.2.2.2.2.2.2.2.1) (u.2.2.2.2.2.2.2.2.2.2.2.2.2.2.1) (u.2.2.2.2.2.2.2.2.2.2.2.2.2.2.2.1) (u.2.2.2.2.2.2.2.2.2.2.2.2.2.2.2.2.1) (u.2.2.2.2.2.2.2.2.2.2.2.2.2.2.2.2.2) := pick_all (P := fun v : (List (Addr × Obj)) × (Addr) × (Int) × (Int) × (Int) × (Int) × (Tok) × (Tok) × (Tok) × (Tok) × (Nat) × (Value) × (Option Addr) × (FuncData) × (Array (Option Value)) × (Heap) × (Addr) × (Heap) => zst2.1 (v.1) (v.2.1) (v.2.2.1) (v.2.2.2.1) (v.2.2.2.2.1) (v.2.2.2.2.2.1) (v.2.2.2.2.2.2.1) (v.2.2.2.2.2.2.2.1) (v.2.2.2.2.2.2.2.2.1) (v.2.2.2.2.2.2.2.2.2.1) (v.2.2.2.2.2.2.2.2.2.2.1) (v.2.2.2.2.2.2.2.2.2.2.2.1) (v.2.2.2.2.2.2.2.2.2.2.2.2.1) (v.2.2.2.2.2.2.2.2.2.2.2.2.2.1) (v.2.2.2.2.2.2.2.2.2.2.2.2.2.2.1) (v.2.2.2.2.2.2.2.2.2.2.2.2.2.2.2.1) (v.2.2.2.2.2.2.2.2.2.2.2.2.2.2.2.2.1) (v.2.2.2.2.2.2.2.2.2.2.2.2.2.2.2.2.2)) h
noncomputable def frz : List (Addr × Obj) := zcv.1
noncomputable def dx : Addr := zcv.2.1
noncomputable def h1 : Int := zcv.2.2.1
noncomputable def h2 : Int := zcv.2.2.2.1
noncomputable def h3 : Int := zcv.2.2.2.2.1
noncomputable def h4 : Int := zcv.2.2.2.2.2.1
noncomputable def t1 : Tok := zcv.2.2.2.2.2.2.1
noncomputable def t2 : Tok := zcv.2.2.2.2.2.2.2.1
noncomputable def t3 : Tok := zcv.2.2.2.2.2.2.2.2.1
noncomputable def t4 : Tok := zcv.2.2.2.2.2.2.2.2.2.1
noncomputable def nn : Nat := zcv.2.2.2.2.2.2.2.2.2.2.1
noncomputable def oc : Value := zcv.2.2.2.2.2.2.2.2.2.2.2.1
noncomputable def od : Option Addr := zcv.2.2.2.2.2.2.2.2.2.2.2.2.1
noncomputable def fd : FuncData := zcv.2.2.2.2.2.2.2.2.2.2.2.2.2.1
noncomputable def sl : Array (Option Value) := zcv.2.2.2.2.2.2.2.2.2.2.2.2.2.2.1
noncomputable def g' : Heap := zcv.2.2.2.2.2.2.2.2.2.2.2.2.2.2.2.1
noncomputable def L' : Addr := zcv.2.2.2.2.2.2.2.2.2.2.2.2.2.2.2.2.1
noncomputable def h' : Heap := zcv.2.2.2.2.2.2.2.2.2.2.2.2.2.2.2.2.2
theorem walk3 : zst2.1 frz dx h1 h2 h3 h4 t1 t2 t3 t4 nn oc od fd sl g' L' h' := by
  intro B F T hk hS hX zS zX he he2 het ht hkl hf hd hu retH n1 n2 zi1 mem O' zi2 sx xv lS lX lV hst hck hdx zi3 zi4 zi5 ht0 hid2 KX FG' F' N' B' X' T' qk ek
  k_steps
  · exact retH _ _ _ _ _ _ _ (Or.inl ⟨by assumption, rfl, rfl, rfl⟩) (by assumption) (news_of (by assumption) (mem _ _)) (DictV.mono (by assumption) (Nat.le_succ _)) (DictV.mono (by assumption) (Nat.le_succ _))
  · subst_vars
    exact retH _ _ _ _ _ _ _ (Or.inr (Or.inl ⟨Int.not_lt.mp (by assumption), by assumption, rfl, rfl, rfl⟩)) (by assumption) (news_of (by assumption) (fun p hp => .tail _ (.tail _ (.tail _ (mem _ _ p hp))))) (DictV.mono (by assumption) (Nat.le_succ _)) (DictV.mono (by assumption) (Nat.le_succ _))
  · subst_vars
    exact retH _ _ _ _ _ _ _ (Or.inr (Or.inr ⟨Int.not_lt.mp (by assumption), Int.not_lt.mp (by assumption), rfl, rfl, rfl⟩)) (by assumption) (news_of (by assumption) (fun p hp => .tail _ (.tail _ (.tail _ (mem _ _ p hp))))) (by assumption) (by assumption)
end k1
theorem up4 : acq_spec_St w p loose mean mg mb dp un gd cn cs a ccd cl outer A₀ base h₀ L m s Q E news oS oX g1 g2 f x nS nX st S X V clk key tp tl te ta t e limit am := zst2.2 (fun frz dx h1 h2 h3 h4 t1 t2 t3 t4 nn oc od fd sl g' L' h' => k1.zal k1.walk3 (frz, dx, h1, h2, h3, h4, t1, t2, t3, t4, nn, oc, od, fd, sl, g', L', h'))
end c_acq_spec
theorem acq_spec {w : World} {p : Program} {loose : List Str} {mean : ExcName → Option Value} {mg : Str → Option Value} {mb : Str → Option Value} {dp : Nat} {un : Nat} {gd : Option (List Code)} {cn : Str} {cs : Scope} {a : Addr} {ccd : Value} {cl : List (Str × Addr)} {outer : List Env} {A₀ : Around} {base : Heap} {h₀ : Heap} {L : Addr} {m : Str → Option Value} {s : Shared} {Q : Value → Shared → Prop} {E : Value → Shared → Prop} (B : Below A₀ base outer h₀) (F : Fr h₀ L s.heap m) (KX : (Mine.hd1.heap_39 w.params).In h₀) (T : Top p loose mean mg mb h₀) (hk : cs.kind = .function) {news : List (Addr × Obj)} {oS : Obj} {oX : Obj} {g1 : Obj → List (Addr × Obj)} {g2 : Obj → Obj → List (Addr × Obj)} {f : Str → Option Int} {x : Str → Option Int} {nS : Nat} {nX : Nat} {st : Addr} {S : Addr} {X : Addr} {V : Addr} {clk : Addr} {key : Str} {pk : Str} {ck : Str} {tp : Tok} {tl : Tok} {te : Tok} {ta : Tok} {t : Int} {e : Int} {limit : Int} {am : Int} (N : News h₀ L s.heap news) (O : Store w news st S X V clk t) (U1 : UpdF S oS news g1) (U2 : ∀ o, UpdF X oX (g1 o) (g2 o)) (hS : IntD PySem.Challenge.rw_ji0060_02.row.prog w oS f nS) (hX : IntD PySem.Challenge.rw_ji0060_02.row.prog w oX x nX) (zS : nS + 1 ≤ sizeLine) (zX : nX + 1 ≤ sizeLine) (he : 0 < e) (he2 : e < 1000000) (het : e ≤ t) (ht : t < 1000000000000) (hkl : key.length ≤ 1000) (epk : pk = wkey key ((t - e).fdiv e)) (eck : ck = wkey key (t.fdiv e)) (hf : ∀ j, 0 ≤ (f j).getD 0 ∧ (f j).getD 0 ≤ 1000000) (hd : dp ≤ 840) (hu : un ≤ 8400) (retH : ∀ b f' x' oS' oX' h' tk', AcqPost f x pk ck t e limit am b f' x' → Fr h₀ L h' m → News h₀ L h' (g2 oS' oX') → IntD PySem.Challenge.rw_ji0060_02.row.prog w oS' f' (nS + 1) → IntD PySem.Challenge.rw_ji0060_02.row.prog w oX' x' (nX + 1) → Q (.bool b) { s with heap := h', toks := tk' }) :
    wpAny (model PySem.Challenge.rw_ji0060_02.row.prog w) (ktrTop dp un gd cn cs L a ccd cl outer) (call (.ref 653) [.ref st, .str key tp, .int limit tl, .int e te, .int am ta]) Q E s :=
  c_acq_spec.zal c_acq_spec.up4 (w, p, loose, mean, mg, mb, dp, un, gd, cn, cs, a, ccd, cl, outer, A₀, base, h₀, L, m, s, Q, E, news, oS, oX, g1, g2, f, x, nS, nX, st, S, X, V, clk, key, tp, tl, te, ta, t, e, limit, am) _ _ B F KX T hk N O U1 U2 hS hX zS zX he he2 het ht hkl epk eck hf hd hu retH
section
variable {w : World} {p : Program} {loose : List Str} {mean : ExcName → Option Value} {mg mb : Str → Option Value} {dp un : Nat} {gd : Option (List Code)} {cn : Str} {cs : Scope} {a : Addr} {ccd : Value} {cl : List (Str × Addr)} {outer : List Env} {A₀ : Around} {base h₀ : Heap} {L : Addr} {m : Str → Option Value} {s : Shared} {Q E : Value → Shared → Prop}
  (B : Below A₀ base outer h₀) (F : Fr h₀ L s.heap m) (KX : (Mine.hd1.heap_39 w.params).In h₀) (T : Top p loose mean mg mb h₀) (hk : cs.kind = .function)
include B F KX T hk
end

end

theorem said_acq : True := by
  k_with "call ref" => (k_here; (with_reducible show wpAny _ _ (call (Value.ref 653) _) _ _ _); k_dflt (refine' acq_spec ?zyB ?zyF ?zyX ?zyT ?zyk ?zyN ?zyO ?zyU1 ?zyU2 ?zyhS ?zyhX ?zyzS ?zyzX ?zye1 ?zye2 ?zye3 ?zye4 ?zye5 ?zyep ?zyec ?zyhf ?zyd ?zyu ?_; (case zyB => k_asm); (case zyF => k_asm); (case zyX => k_asm); (case zyT => k_asm); (case zyk => first | exact rfl | assumption); (case zyN => k_asm); (case zyO => refine' Store.sub ?zyo ?zys; (case zyo => assumption); (case zys => walk_at "m sub")); (case zyU1 => k_updF); (case zyU2 => (intro o1; (try dsimp only); k_updF)); (case zyhS => assumption); (case zyhX => assumption); (case zyzS => first | assumption | omega); (case zyzX => first | assumption | omega); (case zye1 => walk_at "m om"); (case zye2 => walk_at "m om"); (case zye3 => walk_at "m om"); (case zye4 => walk_at "m om"); (case zye5 => walk_at "m om"); (case zyep => first | assumption | rfl); (case zyec => first | assumption | rfl); (case zyhf => assumption); (case zyd => exact Nat.le_of_ble_eq_true rfl); (case zyu => exact Nat.le_of_ble_eq_true rfl); k_whole); (intro b' f' x' oS' oX' h' tk' ap' F' N' hS' hX'; (try dsimp only at N'); (try dsimp only); (try k_sweep)))
  trivial
section
noncomputable abbrev entDict (h1 h2 : Int) (t1 t2 ta tx : Tok) (a x : Int) (n : Nat) : Obj := dictOf [⟨h1, .str (Str.ofString "atime") t1, .int a ta⟩, ⟨h2, .str (Str.ofString "expiry") t2, .int x tx⟩] n
/-- an entry: when, and till when -/
noncomputable def EntAt (news : List (Addr × Obj)) (S X V : Addr) (v : Value) (en : Int × Int) : Prop :=
  ∃ e d h1 h2 t1 t2 ta tx n, v = .ref e ∧ (e, instObj 568 d) ∈ news ∧ (d, entDict h1 h2 t1 t2 ta tx en.1 en.2 n) ∈ news ∧ Off S X V e ∧ Off S X V d
inductive Ents (news : List (Addr × Obj)) (S X V : Addr) : List Value → List (Int × Int) → Prop
  | nil : Ents news S X V [] []
  | cons {v : Value} {en : Int × Int} {vs : List Value} {ens : List (Int × Int)} : EntAt news S X V v en → Ents news S X V vs ens → Ents news S X V (v :: vs) (en :: ens)
section
variable {news news' : List (Addr × Obj)} {S X V : Addr} {vs us : List Value} {ens ems : List (Int × Int)}
theorem EntAt.sub {v : Value} {en : Int × Int} (h : EntAt news S X V v en) (hs : ∀ q ∈ news, Off S X V q.1 → q ∈ news') : EntAt news' S X V v en := by
  obtain ⟨e, d, h1, h2, t1, t2, ta, tx, n, hv, m1, m2, o1, o2⟩ := h
  exact ⟨e, d, h1, h2, t1, t2, ta, tx, n, hv, hs _ m1 o1, hs _ m2 o2, o1, o2⟩
theorem Ents.sub (h : Ents news S X V vs ens) (hs : ∀ q ∈ news, Off S X V q.1 → q ∈ news') : Ents news' S X V vs ens := by
  induction h with
  | nil => exact .nil
  | cons a _ ih => exact .cons (a.sub hs) ih
theorem Ents.len (h : Ents news S X V vs ens) : vs.length = ens.length := by
  induction h with
  | nil => rfl
  | cons _ _ ih => simp [ih]
theorem Ents.app (h : Ents news S X V vs ens) (g : Ents news S X V us ems) : Ents news S X V (vs ++ us) (ens ++ ems) := by
  induction h with
  | nil => exact g
  | cons a _ ih => exact .cons a ih
theorem Ents.rep {v : Value} {en : Int × Int} (h : EntAt news S X V v en) : ∀ n, Ents news S X V (List.replicate n v) (List.replicate n en)
  | 0 => .nil
  | n + 1 => .cons h (Ents.rep h n)
theorem Ents.take (h : Ents news S X V vs ens) : ∀ n, Ents news S X V (vs.take n) (ens.take n) := by
  induction h with
  | nil => intro n; rw [List.take_nil, List.take_nil]; exact .nil
  | cons a _ ih => intro n; cases n with
    | zero => exact .nil
    | succ n => exact .cons a (ih n)
theorem Ents.get (h : Ents news S X V vs ens) : ∀ {i : Nat} {v : Value}, vs[i]? = some v → ∃ en, ens[i]? = some en ∧ EntAt news S X V v en := by
  induction h with
  | nil => intro i v e; simp at e
  | cons a _ ih => intro i v e; cases i with
    | zero => simp at e; subst e; exact ⟨_, rfl, a⟩
    | succ i => exact ih (by simpa using e)
noncomputable def EvK (news : List (Addr × Obj)) (S X V : Addr) (z : Nat) : Option Addr → Option (List (Int × Int)) → Prop
  | some l, some ens => ∃ vs n, (l, listOf vs.toArray n) ∈ news ∧ Ents news S X V vs ens ∧ Off S X V l ∧ vs.length ≤ z
  | none, none => True
  | _, _ => False
theorem EvK.sub {z : Nat} {a : Option Addr} {b : Option (List (Int × Int))} (h : EvK news S X V z a b) (hs : ∀ q ∈ news, Off S X V q.1 → q ∈ news') : EvK news' S X V z a b := by
  cases a <;> cases b <;> try exact h
  obtain ⟨vs, n, m, e, o, l⟩ := h
  exact ⟨vs, n, hs _ m o, e.sub hs, o, l⟩
theorem EvK.mono {z z' : Nat} {a : Option Addr} {b : Option (List (Int × Int))} (h : EvK news S X V z a b) (hz : z ≤ z') : EvK news S X V z' a b := by
  cases a <;> cases b <;> try exact h
  obtain ⟨vs, n, m, e, o, l⟩ := h
  exact ⟨vs, n, m, e, o, Nat.le_trans l hz⟩
end
/-- the table of events: for each key a list of entries -/
noncomputable def EvD (prog : Program) (w : World) (news : List (Addr × Obj)) (S X V : Addr) (oV : Obj) (evs : Str → Option (List (Int × Int))) (nV z : Nat) : Prop :=
  ∃ ev, RefD prog w oV ev nV ∧ ∀ k, EvK news S X V z (ev k) (evs k)
noncomputable def AenPost (evs : Str → Option (List (Int × Int))) (key : Str) (t e limit am : Int) (b : Bool) (evs' : Str → Option (List (Int × Int))) : Prop :=
  (limit < am ∧ b = false ∧ evs' = evs) ∨ (am ≤ limit ∧ (∃ en, ((evs key).getD [])[(limit - am).toNat]? = some en ∧ t - e ≤ en.1) ∧ b = false ∧ evs' = upd evs key (some ((evs key).getD []))) ∨
  (am ≤ limit ∧ (∀ en, ((evs key).getD [])[(limit - am).toNat]? = some en → en.1 < t - e) ∧ b = true ∧ evs' = upd evs key (some (List.replicate am.toNat (t, t + e) ++ (evs key).getD [])))
section
variable {prog : Program} {w : World} {A : Around} {E : Value → Shared → Prop} {s : Shared} {h₀ : Heap} {L d : Addr} {m : Str → Option Value} {news : List (Addr × Obj)} {g : Obj → List (Addr × Obj)} {o : Obj} {f : Str → Option Addr} {n : Nat} {k : Str} {tk : Tok}
theorem rv_setdefault_new {l : Addr} {Q : Value → Shared → Prop} (F : Fr h₀ L s.heap m) (N : News h₀ L s.heap news) (U : UpdF d o news g) (hd : RefD prog w o f n) (lo : (d == sysModules) = false) (hz : n ≤ sizeLine) (hk : f k = none)
    (h : ∀ h' o', Fr h₀ L h' m → News h₀ L h' (g o') → RefD prog w o' (upd f k (some l)) (n + 1) → Q (.ref l) { s with heap := h', toks := s.toks + 1 }) :
    wpAny (model prog w) A (call (.builtin "dict.setdefault") [.ref d, .str k tk, .ref l]) Q E s := by
  refine dv_setdefault F N U hd lo hz (x := l) rfl fun v h' o' F' N' pv hd' => ?_
  rw [hk] at pv hd'
  have pv' : v = .ref l := pv
  subst pv'
  exact h h' o' F' N' hd'
theorem rv_setdefault_old {l y : Addr} {Q : Value → Shared → Prop} (F : Fr h₀ L s.heap m) (N : News h₀ L s.heap news) (U : UpdF d o news g) (hd : RefD prog w o f n) (lo : (d == sysModules) = false) (hz : n ≤ sizeLine) (hk : f k = some y)
    (h : ∀ h' o', Fr h₀ L h' m → News h₀ L h' (g o') → RefD prog w o' f (n + 1) → Q (.ref y) { s with heap := h', toks := s.toks + 1 }) :
    wpAny (model prog w) A (call (.builtin "dict.setdefault") [.ref d, .str k tk, .ref l]) Q E s := by
  refine dv_setdefault F N U hd lo hz (x := l) rfl fun v h' o' F' N' pv hd' => ?_
  rw [hk] at pv hd'
  have pv' : v = .ref y := pv
  subst pv'
  refine h h' o' F' N' ?_
  have e : upd f k (some ((some y).getD l)) = f := by
    funext j
    unfold upd
    split
    · rename_i e; rw [e, hk]; rfl
    · rfl
  rwa [e] at hd'
theorem rv_getItem {a : Addr} {Q : Value → Shared → Prop} (N : News h₀ L s.heap news) (hp : (d, o) ∈ news) (hd : RefD prog w o f n) (e : f k = some a) (h : Q (.ref a) { s with toks := s.toks + 1 }) :
    wpAny (model prog w) A (getItem (.ref d) (.str k tk)) Q E s := by
  refine dv_getItem N hp hd e fun v pv => ?_
  have pv' : v = .ref a := pv
  subst pv'
  exact h
end

end

theorem said_events : True := by
  k_with "call builtin:dict.setdefault" => (k_here; k_dflt (first
      | (refine' rv_setdefault_old ?zyF ?zyN ?zyU ?zyhd ?zylo ?zyhz ?zyhk ?_; (case zyF => k_asm); (case zyN => k_asm); (case zyU => k_updF); (case zyhd => assumption); (case zylo => assumption); (case zyhz => walk_at "m om"); (case zyhk => assumption); k_whole)
      | (refine' rv_setdefault_new ?zyF ?zyN ?zyU ?zyhd ?zylo ?zyhz ?zyhk ?_; (case zyF => k_asm); (case zyN => k_asm); (case zyU => k_updF); (case zyhd => assumption); (case zylo => assumption); (case zyhz => walk_at "m om"); (case zyhk => assumption); k_whole)); (intro h' o' F' N' hd'; (try dsimp only at N'); (try dsimp only); (try k_sweep)))
  k_with "getItem ref str" => (k_here; k_dflt (first
      | (refine' rv_getItem ?zyN ?zyhp ?zyhd ?zye ?_; (case zyN => k_asm); (case zyhp => k_mem); (case zyhd => assumption); (case zye => first | assumption | exact upd_same _ _ _); k_whole)
      | (refine' iv_getItem ?zyN ?zyhp ?zyhd ?zye ?_; (case zyN => k_asm); (case zyhp => k_mem); (case zyhd => assumption); (case zye => simp [upd]); k_whole; intro t')); (try dsimp only))
  trivial
section
section
variable {w : World} {p : Program} {loose : List Str} {mean : ExcName → Option Value} {mg mb : Str → Option Value} {dp un : Nat} {gd : Option (List Code)} {cn : Str} {cs : Scope} {a : Addr} {ccd : Value} {cl : List (Str × Addr)} {outer : List Env} {A₀ : Around} {base h₀ : Heap} {L : Addr} {m : Str → Option Value} {s : Shared} {Q E : Value → Shared → Prop}
  (B : Below A₀ base outer h₀) (F : Fr h₀ L s.heap m) (KX : (Mine.hd1.heap_39 w.params).In h₀) (T : Top p loose mean mg mb h₀) (hk : cs.kind = .function)
include B F KX T hk

theorem tget_s60 {news : List (Addr × Obj)} (N : News h₀ L s.heap news) (hd : dp ≤ 900) (hu : un ≤ 9000) (ret : ∀ r h' tk', Fr h₀ L h' m → News h₀ L h' news → Q (.int 60 r) { s with heap := h', toks := tk' }) :
    wpAny (model PySem.Challenge.rw_ji0060_02.row.prog w) (ktrTop dp un gd cn cs L a ccd cl outer) (call (.ref 320) [.ref 408, .ref 498, .ref 416]) Q E s := by
  refine lower ?_ hd hu
  revert KX; k_fill; intro KX
  refine wpAny_call ?_
  walk_at "m enter"
  k_steps
  exact ret _ _ _ (by assumption) (by assumption)
theorem tget_s1 {news : List (Addr × Obj)} (N : News h₀ L s.heap news) (hd : dp ≤ 900) (hu : un ≤ 9000) (ret : ∀ r h' tk', Fr h₀ L h' m → News h₀ L h' news → Q (.int 1 r) { s with heap := h', toks := tk' }) :
    wpAny (model PySem.Challenge.rw_ji0060_02.row.prog w) (ktrTop dp un gd cn cs L a ccd cl outer) (call (.ref 320) [.ref 408, .ref 515, .ref 416]) Q E s := by
  refine lower ?_ hd hu
  revert KX; k_fill; intro KX
  refine wpAny_call ?_
  walk_at "m enter"
  k_steps
  exact ret _ _ _ (by assumption) (by assumption)
theorem tget_nm {news : List (Addr × Obj)} (N : News h₀ L s.heap news) (hd : dp ≤ 900) (hu : un ≤ 9000) (ret : ∀ r h' tk', Fr h₀ L h' m → News h₀ L h' news → Q (.str (Str.ofString "minute") r) { s with heap := h', toks := tk' }) :
    wpAny (model PySem.Challenge.rw_ji0060_02.row.prog w) (ktrTop dp un gd cn cs L a ccd cl outer) (call (.ref 320) [.ref 411, .ref 498, .ref 416]) Q E s := by
  refine lower ?_ hd hu
  revert KX; k_fill; intro KX
  refine wpAny_call ?_
  walk_at "m enter"
  k_steps
  exact ret _ _ _ (by assumption) (by assumption)
theorem tget_ns {news : List (Addr × Obj)} (N : News h₀ L s.heap news) (hd : dp ≤ 900) (hu : un ≤ 9000) (ret : ∀ r h' tk', Fr h₀ L h' m → News h₀ L h' news → Q (.str (Str.ofString "second") r) { s with heap := h', toks := tk' }) :
    wpAny (model PySem.Challenge.rw_ji0060_02.row.prog w) (ktrTop dp un gd cn cs L a ccd cl outer) (call (.ref 320) [.ref 411, .ref 515, .ref 416]) Q E s := by
  refine lower ?_ hd hu
  revert KX; k_fill; intro KX
  refine wpAny_call ?_
  walk_at "m enter"
  k_steps
  exact ret _ _ _ (by assumption) (by assumption)
end

end

theorem said_tget : True := by
  k_with "getAttr ref" => (k_here; (with_reducible show wpAny _ _ (getAttr (Value.ref 498) (Str.ofString "seconds") _) _ _ _); k_dflt (refine' get_descr ?zygF ?zygX ?zygI ?zyga ?zyg2 ?zyg3 ?zygb ?zygc ?zygd ?zyge ?_; (case zygF => k_asm); (case zygX => k_asm); (case zygI => (refine' inst_Kt ?zyX ?zyh1 ?zyh2; (case zyX => k_in); (case zyh1 => k_is); (case zyh2 => k_is))); (case zyga => k_is); (case zyg2 => k_is); (case zyg3 => k_is); (case zygb => k_is); (case zygc => k_is); (case zygd => k_is); (case zyge => k_is)); k_dflt (refine' tget_s60 ?zyB ?zyF ?zyX ?zyT ?zyk ?zyN ?zyd ?zyu ?_; (case zyB => k_asm); (case zyF => k_asm); (case zyX => k_asm); (case zyT => k_asm); (case zyk => first | exact rfl | assumption); (case zyN => k_asm); (case zyd => exact Nat.le_of_ble_eq_true rfl); (case zyu => exact Nat.le_of_ble_eq_true rfl); k_whole); (intro r' h' tk' F' N'; refine handed_on rfl ?_; (try dsimp only at N'); (try dsimp only); (try k_sweep)))
  k_with "getAttr ref" => (k_here; (with_reducible show wpAny _ _ (getAttr (Value.ref 515) (Str.ofString "seconds") _) _ _ _); k_dflt (refine' get_descr ?zygF ?zygX ?zygI ?zyga ?zyg2 ?zyg3 ?zygb ?zygc ?zygd ?zyge ?_; (case zygF => k_asm); (case zygX => k_asm); (case zygI => (refine' inst_Kt ?zyX ?zyh1 ?zyh2; (case zyX => k_in); (case zyh1 => k_is); (case zyh2 => k_is))); (case zyga => k_is); (case zyg2 => k_is); (case zyg3 => k_is); (case zygb => k_is); (case zygc => k_is); (case zygd => k_is); (case zyge => k_is)); k_dflt (refine' tget_s1 ?zyB ?zyF ?zyX ?zyT ?zyk ?zyN ?zyd ?zyu ?_; (case zyB => k_asm); (case zyF => k_asm); (case zyX => k_asm); (case zyT => k_asm); (case zyk => first | exact rfl | assumption); (case zyN => k_asm); (case zyd => exact Nat.le_of_ble_eq_true rfl); (case zyu => exact Nat.le_of_ble_eq_true rfl); k_whole); (intro r' h' tk' F' N'; refine handed_on rfl ?_; (try dsimp only at N'); (try dsimp only); (try k_sweep)))
  k_with "getAttr ref" => (k_here; (with_reducible show wpAny _ _ (getAttr (Value.ref 498) (Str.ofString "name") _) _ _ _); k_dflt (refine' get_descr ?zygF ?zygX ?zygI ?zyga ?zyg2 ?zyg3 ?zygb ?zygc ?zygd ?zyge ?_; (case zygF => k_asm); (case zygX => k_asm); (case zygI => (refine' inst_Kt ?zyX ?zyh1 ?zyh2; (case zyX => k_in); (case zyh1 => k_is); (case zyh2 => k_is))); (case zyga => k_is); (case zyg2 => k_is); (case zyg3 => k_is); (case zygb => k_is); (case zygc => k_is); (case zygd => k_is); (case zyge => k_is)); k_dflt (refine' tget_nm ?zyB ?zyF ?zyX ?zyT ?zyk ?zyN ?zyd ?zyu ?_; (case zyB => k_asm); (case zyF => k_asm); (case zyX => k_asm); (case zyT => k_asm); (case zyk => first | exact rfl | assumption); (case zyN => k_asm); (case zyd => exact Nat.le_of_ble_eq_true rfl); (case zyu => exact Nat.le_of_ble_eq_true rfl); k_whole); (intro r' h' tk' F' N'; refine handed_on rfl ?_; (try dsimp only at N'); (try dsimp only); (try k_sweep)))
  k_with "getAttr ref" => (k_here; (with_reducible show wpAny _ _ (getAttr (Value.ref 515) (Str.ofString "name") _) _ _ _); k_dflt (refine' get_descr ?zygF ?zygX ?zygI ?zyga ?zyg2 ?zyg3 ?zygb ?zygc ?zygd ?zyge ?_; (case zygF => k_asm); (case zygX => k_asm); (case zygI => (refine' inst_Kt ?zyX ?zyh1 ?zyh2; (case zyX => k_in); (case zyh1 => k_is); (case zyh2 => k_is))); (case zyga => k_is); (case zyg2 => k_is); (case zyg3 => k_is); (case zygb => k_is); (case zygc => k_is); (case zygd => k_is); (case zyge => k_is)); k_dflt (refine' tget_ns ?zyB ?zyF ?zyX ?zyT ?zyk ?zyN ?zyd ?zyu ?_; (case zyB => k_asm); (case zyF => k_asm); (case zyX => k_asm); (case zyT => k_asm); (case zyk => first | exact rfl | assumption); (case zyN => k_asm); (case zyd => exact Nat.le_of_ble_eq_true rfl); (case zyu => exact Nat.le_of_ble_eq_true rfl); k_whole); (intro r' h' tk' F' N'; refine handed_on rfl ?_; (try dsimp only at N'); (try dsimp only); (try k_sweep)))
  trivial
section
noncomputable abbrev itemDict (h1 h2 h3 : Int) (t1 t2 t3 t4 t5 t6 : Tok) (ns : Str) (am mu : Int) (n : Nat) : Obj := dictOf [⟨h1, .str (Str.ofString "namespace") t1, .str ns t2⟩, ⟨h2, .str (Str.ofString "amount") t3, .int am t4⟩, ⟨h3, .str (Str.ofString "multiples") t5, .int mu t6⟩] n
section
variable {w : World} {p : Program} {loose : List Str} {mean : ExcName → Option Value} {mg mb : Str → Option Value} {dp un : Nat} {gd : Option (List Code)} {cn : Str} {cs : Scope} {a : Addr} {ccd : Value} {cl : List (Str × Addr)} {outer : List Env} {A₀ : Around} {base h₀ : Heap} {L : Addr} {m : Str → Option Value} {s : Shared} {Q E : Value → Shared → Prop}
  (B : Below A₀ base outer h₀) (F : Fr h₀ L s.heap m) (KX : (Mine.hd1.heap_39 w.params).In h₀) (T : Top p loose mean mg mb h₀) (hk : cs.kind = .function)
include B F KX T hk

theorem exp_s {news : List (Addr × Obj)} {it idx : Addr} {h1 h2 h3 : Int} {t1 t2 t3 t4 t5 t6 : Tok} {ns : Str} {am mu : Int} {n : Nat}
    (N : News h₀ L s.heap news) (hi : (it, instObj 518 idx) ∈ news) (hdx : (idx, itemDict h1 h2 h3 t1 t2 t3 t4 t5 t6 ns am mu n) ∈ news) (hm : 0 ≤ mu ∧ mu < 1000) (hd : dp ≤ 860) (hu : un ≤ 8600)
    (ret : ∀ r h' tk', Fr h₀ L h' m → News h₀ L h' news → Q (.int (1 * mu) r) { s with heap := h', toks := tk' }) :
    wpAny (model PySem.Challenge.rw_ji0060_02.row.prog w) (ktrTop dp un gd cn cs L a ccd cl outer) (call (.ref 451) [.ref it]) Q E s := by
  refine lower ?_ hd hu
  revert KX; k_fill; intro KX
  refine wpAny_call ?_
  walk_at "m enter"
  k_steps
  exact ret _ _ _ (by assumption) (by assumption)
theorem exp_m {news : List (Addr × Obj)} {it idx : Addr} {h1 h2 h3 : Int} {t1 t2 t3 t4 t5 t6 : Tok} {ns : Str} {am mu : Int} {n : Nat}
    (N : News h₀ L s.heap news) (hi : (it, instObj 501 idx) ∈ news) (hdx : (idx, itemDict h1 h2 h3 t1 t2 t3 t4 t5 t6 ns am mu n) ∈ news) (hm : 0 ≤ mu ∧ mu < 1000) (hd : dp ≤ 860) (hu : un ≤ 8600)
    (ret : ∀ r h' tk', Fr h₀ L h' m → News h₀ L h' news → Q (.int (60 * mu) r) { s with heap := h', toks := tk' }) :
    wpAny (model PySem.Challenge.rw_ji0060_02.row.prog w) (ktrTop dp un gd cn cs L a ccd cl outer) (call (.ref 451) [.ref it]) Q E s := by
  refine lower ?_ hd hu
  revert KX; k_fill; intro KX
  refine wpAny_call ?_
  walk_at "m enter"
  k_steps
  exact ret _ _ _ (by assumption) (by assumption)
end

end

theorem said_item : True := by
  k_with "call ref" => (k_here; (with_reducible show wpAny _ _ (call (Value.ref 451) _) _ _ _); k_dflt (first
      | (refine' exp_s ?zyB ?zyF ?zyX ?zyT ?zyk ?zyN ?zyhi ?zyhdx ?zyhm ?zyd ?zyu ?_; (case zyB => k_asm); (case zyF => k_asm); (case zyX => k_asm); (case zyT => k_asm); (case zyk => first | exact rfl | assumption); (case zyN => k_asm); (case zyhi => k_mem); (case zyhdx => k_mem); (case zyhm => walk_at "m om"); (case zyd => exact Nat.le_of_ble_eq_true rfl); (case zyu => exact Nat.le_of_ble_eq_true rfl); k_whole)
      | (refine' exp_m ?zyB ?zyF ?zyX ?zyT ?zyk ?zyN ?zyhi ?zyhdx ?zyhm ?zyd ?zyu ?_; (case zyB => k_asm); (case zyF => k_asm); (case zyX => k_asm); (case zyT => k_asm); (case zyk => first | exact rfl | assumption); (case zyN => k_asm); (case zyhi => k_mem); (case zyhdx => k_mem); (case zyhm => walk_at "m om"); (case zyd => exact Nat.le_of_ble_eq_true rfl); (case zyu => exact Nat.le_of_ble_eq_true rfl); k_whole)); (intro r' h' tk' F' N'; (try dsimp only at N'); (try dsimp only); (try k_sweep)))
  trivial
section
section
variable {w : World} {p : Program} {loose : List Str} {mean : ExcName → Option Value} {mg mb : Str → Option Value} {dp un : Nat} {gd : Option (List Code)} {cn : Str} {cs : Scope} {a : Addr} {ccd : Value} {cl : List (Str × Addr)} {outer : List Env} {A₀ : Around} {base h₀ : Heap} {L : Addr} {m : Str → Option Value} {s : Shared} {Q E : Value → Shared → Prop}
  (B : Below A₀ base outer h₀) (F : Fr h₀ L s.heap m) (KX : (Mine.hd1.heap_39 w.params).In h₀) (T : Top p loose mean mg mb h₀) (hk : cs.kind = .function)
include B F KX T hk

theorem safe_s {news : List (Addr × Obj)} {v : Str} {tv : Tok} (N : News h₀ L s.heap news) (hd : dp ≤ 880) (hu : un ≤ 8800)
    (ret : ∀ r h' tk', Fr h₀ L h' m → News h₀ L h' news → Q (.str v r) { s with heap := h', toks := tk' }) :
    wpAny (model PySem.Challenge.rw_ji0060_02.row.prog w) (ktrTop dp un gd cn cs L a ccd cl outer) (call (.ref 348) [.str v tv]) Q E s := by
  refine lower ?_ hd hu
  revert KX; k_fill; intro KX
  refine wpAny_call ?_
  walk_at "m enter"
  k_steps
  exact ret _ _ _ (by assumption) (by assumption)
theorem safe_i {news : List (Addr × Obj)} {v : Int} {tv : Tok} (N : News h₀ L s.heap news) (hv : v.natAbs < 18446744073709551616) (hd : dp ≤ 880) (hu : un ≤ 8800)
    (ret : ∀ r h' tk', Fr h₀ L h' m → News h₀ L h' news → Q (.str (itx v) r) { s with heap := h', toks := tk' }) :
    wpAny (model PySem.Challenge.rw_ji0060_02.row.prog w) (ktrTop dp un gd cn cs L a ccd cl outer) (call (.ref 348) [.int v tv]) Q E s := by
  refine lower ?_ hd hu
  revert KX; k_fill; intro KX
  refine wpAny_call ?_
  walk_at "m enter"
  k_steps
  exact ret _ _ _ (by assumption) (by assumption)
end

end

theorem said_key : True := by
  k_with "call ref" => (k_here; (with_reducible show wpAny _ _ (call (Value.ref 348) [Value.str _ _]) _ _ _); k_dflt (refine' safe_s ?zyB ?zyF ?zyX ?zyT ?zyk ?zyN ?zyd ?zyu ?_; (case zyB => k_asm); (case zyF => k_asm); (case zyX => k_asm); (case zyT => k_asm); (case zyk => first | exact rfl | assumption); (case zyN => k_asm); (case zyd => exact Nat.le_of_ble_eq_true rfl); (case zyu => exact Nat.le_of_ble_eq_true rfl); k_whole); (intro r' h' tk' F' N'; (try dsimp only at N'); (try dsimp only); (try k_sweep)))
  k_with "call ref" => (k_here; (with_reducible show wpAny _ _ (call (Value.ref 348) [Value.int _ _]) _ _ _); k_dflt (refine' safe_i ?zyB ?zyF ?zyX ?zyT ?zyk ?zyN ?zyhv ?zyd ?zyu ?_; (case zyB => k_asm); (case zyF => k_asm); (case zyX => k_asm); (case zyT => k_asm); (case zyk => first | exact rfl | assumption); (case zyN => k_asm); (case zyhv => walk_at "m om"); (case zyd => exact Nat.le_of_ble_eq_true rfl); (case zyu => exact Nat.le_of_ble_eq_true rfl); k_whole); (intro r' h' tk' F' N'; (try dsimp only at N'); (try dsimp only); (try k_sweep)))
  trivial
section
noncomputable def TupAt (ax : Addr) (its : Array Value) (news : List (Addr × Obj)) : Prop := False ∨ ∃ o, (ax, o) ∈ news ∧ o.cls = .type "tuple" ∧ ∃ n, o.data = .seq its n
section
variable {prog : Program} {w : World} {A : Around} {E : Value → Shared → Prop} {s : Shared} {h₀ : Heap} {L : Addr} {m : Str → Option Value} {env : Env}
theorem TupAt.tup {h₀ h : Heap} {L ax : Addr} {its : Array Value} {news : List (Addr × Obj)} (x : TupAt ax its news) (N : News h₀ L h news) : IsTup h ax its := by
  rcases x with x | ⟨o, hm, r⟩
  · exact x.elim
  · exact ⟨o, (N _ hm).1, r⟩
theorem tup_st {ax I : Addr} {its : Array Value} : ∀ i (h h' : Heap) (o : Obj) (nw : List (Addr × Obj)), (IsTupIter h I ax i ∧ IsTup h ax its) → h.get? I = some o → h'.get? I = some o → (∀ b o, h₀.get? b = some o → h'.get? b = some o) → News h₀ L h' nw → TupAt ax its nw → (IsTupIter h' I ax i ∧ IsTup h' ax its) :=
  fun i h h' o nw st e e' k N S => ⟨by obtain ⟨o', q, r⟩ := st.1; rw [e] at q; cases q; exact ⟨o, e', r⟩, S.tup N⟩
/-- where a comprehension's tuple lies -/
noncomputable def SrcTup (prog : Program) (w : World) (A : Around) (h₀ : Heap) (L : Addr) (m : Str → Option Value) (env : Env) (elt : Expr) (x : Str) (scope : Scope) (cl : List (Str × Addr)) (Fin : Shared → List Value → List (Addr × Obj) → Prop) (xv : Value) (s₁ : Shared) : Prop :=
  ∃ ax its news, xv = .ref ax ∧ A.handled = none ∧ Fr h₀ L s₁.heap m ∧ News h₀ L s₁.heap news ∧ TupAt ax its news ∧ its.size ≤ sizeLine ∧
    ∀ s₂ : Shared, (∃ h, s₂ = { s₁ with heap := h }) → LCg.CompRest prog w A h₀ L m env elt x scope cl s₂ (TupAt ax its) (fun i v => its[i]? = some v) (Fin s₂) its.size 0 [] news
theorem SrcTup.ledger {elt : Expr} {x : Str} {scope : Scope} {cl : List (Str × Addr)} {Fin : Shared → List Value → List (Addr × Obj) → Prop} {ax : Addr} {its : Array Value} {k : Nat} {news : List (Addr × Obj)} {s₁ : Shared}
    (hh : A.handled = none) (F : Fr h₀ L s₁.heap m) (N : News h₀ L s₁.heap news) (hm : (ax, ({ cls := .type "tuple", data := .seq its k } : Obj)) ∈ news) (hsz : its.size ≤ sizeLine)
    (h : ∀ g, LCg.CompRest prog w A h₀ L m env elt x scope cl { s₁ with heap := g } (TupAt ax its) (fun i v => its[i]? = some v) (Fin { s₁ with heap := g }) its.size 0 [] news) :
    SrcTup prog w A h₀ L m env elt x scope cl Fin (.ref ax) s₁ := ⟨ax, its, news, rfl, hh, F, N, .inr ⟨_, hm, rfl, _, rfl⟩, hsz, fun _ ⟨g, e⟩ => e ▸ h g⟩
theorem comp_tup {elt iter : Expr} {x : Str} {px : Pos} {scope : Scope} {cl : List (Str × Addr)} {pos : Pos} {Q : Value → Shared → Prop} (F₀ : Fr h₀ L s.heap m)
    (hclos : closureFor scope env = pure cl) (hcell : ∀ y ∈ scope.names, y.2 ≠ .cell) (hkind : scope.kind = .function)
    (hnames : ∀ y ∈ scope.names, y.2 = .local → scope.names.lookup y.1 = some .local) (hx : scope.names.lookup x = some .local)
    (h : wpAny (model prog w) A (eval iter env) (SrcTup prog w A h₀ L m env elt x scope cl (fun s₂ => LCg.FinE h₀ L m s₂ Q)) E s)
    (hs : ∀ x, foldedSetIterable iter env x = pure x := by intro _; rfl) :
    wpAny (model prog w) A (eval (.ListComp elt [⟨.Name x px, iter, [], 0⟩] scope pos) env) Q E s := by
  rw [eval_ListComp]
  refine wpAny_comprehension_free (use := none) rfl hs hclos hkind hnames (wpAny_mono h (fun xv s₁ h₁ => ?_) fun _ _ e => e)
  obtain ⟨ax, its, news, rfl, hh, F, N, S, hsz, R⟩ := h₁
  have hl := S.tup N
  have hlt : ax < s₁.heap.objs.size := by obtain ⟨_, e, _⟩ := hl; exact Heap.lt_size e
  refine wpAny_pyIter_tuple hl ?_
  have up : ∀ b o, s₁.heap.get? b = some o → (s₁.heap.push { cls := .type "tuple_iterator", data := .fields #[.ref ax, .int 0 0] }).get? b = some o := fun b o e => Heap.get?_push_of_some _ e
  refine LCg.block_U (Walks.tuple hh s₁.heap.objs.size ax (Nat.ne_of_lt hlt) its) hsz (fun i h st => by obtain ⟨o, e, _⟩ := st.1; exact ⟨o, e⟩) tup_st hcell hkind hx ⟨⟨_, Heap.get?_push_size _ rfl, rfl, rfl⟩, hl.push _⟩ (fun b hb => ?_)
    (F.keeps up) (N.grown up) (Nat.ne_of_lt F.ns.lt) (next_is_new F) (fun p hp => Nat.ne_of_lt (Heap.lt_size (N p hp).1)) S (R _ ⟨_, rfl⟩) ?_
  · show b < (s₁.heap.push _).objs.size
    rw [Heap.size_push]
    rcases List.mem_cons.mp hb with rfl | hb
    · exact Nat.lt_succ_self _
    · rw [List.mem_singleton.mp hb]; exact Nat.lt_succ_of_lt hlt
  · intro D C h tk m' ys news' F' N' o1 hn hC₀ hD₀ hCL hDL hCD offC fin
    refine ⟨m', hn, fun h'' hs'' => fin D h'' tk (F'.change hs'' hCL hC₀) (fun p hp => ?_) o1⟩
    refine ⟨hs''.extBut _ _ ?_ (N' p hp).1, (N' p hp).2⟩
    rcases List.mem_cons.mp hp with rfl | hp
    · exact Ne.symm hCD
    · exact offC p hp
end

end

theorem said_comp : True := by
  k_with "eval ListComp" => (k_here; lcg_look; k_dflt (refine comp_tup (F₀ := by k_asm) (by rfl) (by decide) (by rfl) (by decide) (by rfl) ?_))
  k_with "SrcTup" => (k_here; k_dflt (refine SrcTup.ledger (by rfl) (by k_asm) (by k_asm) (by k_mem) (by first | size_fits | exact Nat.le_of_ble_eq_true rfl) ?_; intro g'; lcg_lit))
  k_with "CompEnd" => (k_here; k_dflt (refine LCg.CompEnd.intro (by assumption) (by assumption) _ (fun _ hp => hp) (by assumption) (Or.inr ⟨_, by k_mem, rfl, _, rfl⟩) ?_))
  k_with "call builtin:str.join" => (k_here; k_dflt (refine' join_O ?zyjl ?zyji ?zyjs ?zyjw ?_; (case zyjl => exact News.isList (by assumption) (by k_mem)); (case zyji => kct_strs); (case zyjs => decide +kernel); (case zyjw => simp only [List.map_cons, List.map_nil, List.sum_cons, List.sum_nil, List.length_cons, List.length_nil]; omega); k_whole); intro jr' jt' jk' je' jl')
  trivial
section
/-- a limit's key -/
noncomputable def ikey (ns : Str) (ps : List Str) : Str := Str.empty ++ ns ++ Str.ofString "/" ++ Txt.join (Str.ofString "/") ps
section
variable {w : World} {p : Program} {loose : List Str} {mean : ExcName → Option Value} {mg mb : Str → Option Value} {dp un : Nat} {gd : Option (List Code)} {cn : Str} {cs : Scope} {a : Addr} {ccd : Value} {cl : List (Str × Addr)} {outer : List Env} {A₀ : Around} {base h₀ : Heap} {L : Addr} {m : Str → Option Value} {s : Shared} {Q E : Value → Shared → Prop}
  (B : Below A₀ base outer h₀) (F : Fr h₀ L s.heap m) (KX : (Mine.hd1.heap_39 w.params).In h₀) (T : Top p loose mean mg mb h₀) (hk : cs.kind = .function)
include B F KX T hk

theorem key_s1 {news : List (Addr × Obj)} {it idx nt : Addr} {h1 h2 h3 : Int} {t1 t2 t3 t4 t5 t6 t7 : Tok} {ns n1 : Str} {am mu : Int} {n : Nat}
    (N : News h₀ L s.heap news) (hi : (it, instObj 518 idx) ∈ news) (hdx : (idx, itemDict h1 h2 h3 t1 t2 t3 t4 t5 t6 ns am mu n) ∈ news) (hnt : (nt, ({ cls := .type "tuple", data := .seq #[.str n1 t7] } : Obj)) ∈ news)
    (hm : 0 ≤ mu ∧ mu < 1000) (ha : 0 ≤ am ∧ am < 1000) (hn1 : n1.length ≤ 100) (hns : ns.length ≤ 100) (hd : dp ≤ 860) (hu : un ≤ 8600)
    (ret : ∀ r h' tk', Fr h₀ L h' m → News h₀ L h' news → Q (.str (ikey ns [n1, itx am, itx mu, Str.ofString "second"]) r) { s with heap := h', toks := tk' }) :
    wpAny (model PySem.Challenge.rw_ji0060_02.row.prog w) (ktrTop dp un gd cn cs L a ccd cl outer) (call (.ref 458) [.ref it, .ref nt]) Q E s := by
  refine lower ?_ hd hu
  have la : (itx am).length ≤ 3 := toString_length_le ha.1 (by decide) ha.2
  have lm : (itx mu).length ≤ 3 := toString_length_le hm.1 (by decide) hm.2
  have lg : (Str.ofString "second").length ≤ 6 := by decide
  revert KX; k_fill; intro KX
  refine wpAny_call ?_
  walk_at "m enter"
  k_steps
  subst_vars
  exact ret _ _ _ (by assumption) (news_of (by assumption) (fun p hp => .tail _ (.tail _ (.tail _ hp))))
theorem key_s2 {news : List (Addr × Obj)} {it idx nt : Addr} {h1 h2 h3 : Int} {t1 t2 t3 t4 t5 t6 t7 t8 : Tok} {ns n1 n2 : Str} {am mu : Int} {n : Nat}
    (N : News h₀ L s.heap news) (hi : (it, instObj 518 idx) ∈ news) (hdx : (idx, itemDict h1 h2 h3 t1 t2 t3 t4 t5 t6 ns am mu n) ∈ news) (hnt : (nt, ({ cls := .type "tuple", data := .seq #[.str n1 t7, .str n2 t8] } : Obj)) ∈ news)
    (hm : 0 ≤ mu ∧ mu < 1000) (ha : 0 ≤ am ∧ am < 1000) (hn1 : n1.length ≤ 100) (hn2 : n2.length ≤ 100) (hns : ns.length ≤ 100) (hd : dp ≤ 860) (hu : un ≤ 8600)
    (ret : ∀ r h' tk', Fr h₀ L h' m → News h₀ L h' news → Q (.str (ikey ns [n1, n2, itx am, itx mu, Str.ofString "second"]) r) { s with heap := h', toks := tk' }) :
    wpAny (model PySem.Challenge.rw_ji0060_02.row.prog w) (ktrTop dp un gd cn cs L a ccd cl outer) (call (.ref 458) [.ref it, .ref nt]) Q E s := by
  refine lower ?_ hd hu
  have la : (itx am).length ≤ 3 := toString_length_le ha.1 (by decide) ha.2
  have lm : (itx mu).length ≤ 3 := toString_length_le hm.1 (by decide) hm.2
  have lg : (Str.ofString "second").length ≤ 6 := by decide
  revert KX; k_fill; intro KX
  refine wpAny_call ?_
  walk_at "m enter"
  k_steps
  subst_vars
  exact ret _ _ _ (by assumption) (news_of (by assumption) (fun p hp => .tail _ (.tail _ (.tail _ hp))))
theorem key_m1 {news : List (Addr × Obj)} {it idx nt : Addr} {h1 h2 h3 : Int} {t1 t2 t3 t4 t5 t6 t7 : Tok} {ns n1 : Str} {am mu : Int} {n : Nat}
    (N : News h₀ L s.heap news) (hi : (it, instObj 501 idx) ∈ news) (hdx : (idx, itemDict h1 h2 h3 t1 t2 t3 t4 t5 t6 ns am mu n) ∈ news) (hnt : (nt, ({ cls := .type "tuple", data := .seq #[.str n1 t7] } : Obj)) ∈ news)
    (hm : 0 ≤ mu ∧ mu < 1000) (ha : 0 ≤ am ∧ am < 1000) (hn1 : n1.length ≤ 100) (hns : ns.length ≤ 100) (hd : dp ≤ 860) (hu : un ≤ 8600)
    (ret : ∀ r h' tk', Fr h₀ L h' m → News h₀ L h' news → Q (.str (ikey ns [n1, itx am, itx mu, Str.ofString "minute"]) r) { s with heap := h', toks := tk' }) :
    wpAny (model PySem.Challenge.rw_ji0060_02.row.prog w) (ktrTop dp un gd cn cs L a ccd cl outer) (call (.ref 458) [.ref it, .ref nt]) Q E s := by
  refine lower ?_ hd hu
  have la : (itx am).length ≤ 3 := toString_length_le ha.1 (by decide) ha.2
  have lm : (itx mu).length ≤ 3 := toString_length_le hm.1 (by decide) hm.2
  have lg : (Str.ofString "minute").length ≤ 6 := by decide
  revert KX; k_fill; intro KX
  refine wpAny_call ?_
  walk_at "m enter"
  k_steps
  subst_vars
  exact ret _ _ _ (by assumption) (news_of (by assumption) (fun p hp => .tail _ (.tail _ (.tail _ hp))))
theorem key_m2 {news : List (Addr × Obj)} {it idx nt : Addr} {h1 h2 h3 : Int} {t1 t2 t3 t4 t5 t6 t7 t8 : Tok} {ns n1 n2 : Str} {am mu : Int} {n : Nat}
    (N : News h₀ L s.heap news) (hi : (it, instObj 501 idx) ∈ news) (hdx : (idx, itemDict h1 h2 h3 t1 t2 t3 t4 t5 t6 ns am mu n) ∈ news) (hnt : (nt, ({ cls := .type "tuple", data := .seq #[.str n1 t7, .str n2 t8] } : Obj)) ∈ news)
    (hm : 0 ≤ mu ∧ mu < 1000) (ha : 0 ≤ am ∧ am < 1000) (hn1 : n1.length ≤ 100) (hn2 : n2.length ≤ 100) (hns : ns.length ≤ 100) (hd : dp ≤ 860) (hu : un ≤ 8600)
    (ret : ∀ r h' tk', Fr h₀ L h' m → News h₀ L h' news → Q (.str (ikey ns [n1, n2, itx am, itx mu, Str.ofString "minute"]) r) { s with heap := h', toks := tk' }) :
    wpAny (model PySem.Challenge.rw_ji0060_02.row.prog w) (ktrTop dp un gd cn cs L a ccd cl outer) (call (.ref 458) [.ref it, .ref nt]) Q E s := by
  refine lower ?_ hd hu
  have la : (itx am).length ≤ 3 := toString_length_le ha.1 (by decide) ha.2
  have lm : (itx mu).length ≤ 3 := toString_length_le hm.1 (by decide) hm.2
  have lg : (Str.ofString "minute").length ≤ 6 := by decide
  revert KX; k_fill; intro KX
  refine wpAny_call ?_
  walk_at "m enter"
  k_steps
  subst_vars
  exact ret _ _ _ (by assumption) (news_of (by assumption) (fun p hp => .tail _ (.tail _ (.tail _ hp))))
end

end
section
noncomputable def unitOf (sec : Bool) : Int := if sec then 1 else 60
noncomputable def granOf (sec : Bool) : Str := if sec then Str.ofString "second" else Str.ofString "minute"
noncomputable def clsOf (sec : Bool) : Addr := if sec then 518 else 501
/-- a limit lies in the ledger: its class, name space, amount and count of units -/
noncomputable def ItemAt (news : List (Addr × Obj)) (S X V : Addr) (it : Addr) (sec : Bool) (ns : Str) (am mu : Int) : Prop :=
  (∃ idx h1 h2 h3 t1 t2 t3 t4 t5 t6 n, (it, instObj (clsOf sec) idx) ∈ news ∧ (idx, itemDict h1 h2 h3 t1 t2 t3 t4 t5 t6 ns am mu n) ∈ news ∧ Off S X V it ∧ Off S X V idx) ∧ (0 ≤ mu ∧ mu < 1000) ∧ (0 ≤ am ∧ am < 1000) ∧ ns.length ≤ 100
/-- one name or two -/
noncomputable def NamesAt (news : List (Addr × Obj)) (S X V nt : Addr) (names : List Str) : Prop :=
  Off S X V nt ∧ ((∃ n1 t7, names = [n1] ∧ n1.length ≤ 100 ∧ (nt, ({ cls := .type "tuple", data := .seq #[.str n1 t7] } : Obj)) ∈ news) ∨
  (∃ n1 n2 t7 t8, names = [n1, n2] ∧ n1.length ≤ 100 ∧ n2.length ≤ 100 ∧ (nt, ({ cls := .type "tuple", data := .seq #[.str n1 t7, .str n2 t8] } : Obj)) ∈ news))
/-- a limiter over the store -/
noncomputable def LimAt (news : List (Addr × Obj)) (S X V : Addr) (C lim st : Addr) : Prop :=
  ∃ dx h1 t1 n, (lim, instObj C dx) ∈ news ∧ (dx, dictOf [⟨h1, .str (Str.ofString "storage") t1, .ref st⟩] n) ∈ news ∧ Off S X V lim ∧ Off S X V dx
theorem LimAt.sub {news news' : List (Addr × Obj)} {S X V C lim st : Addr} (I : LimAt news S X V C lim st) (hs : ∀ q ∈ news, Off S X V q.1 → q ∈ news') : LimAt news' S X V C lim st := by
  obtain ⟨dx, h1, t1, n, a, b, o1, o2⟩ := I
  exact ⟨dx, h1, t1, n, hs _ a o1, hs _ b o2, o1, o2⟩
theorem ItemAt.sub {news news' : List (Addr × Obj)} {S X V it : Addr} {sec : Bool} {ns : Str} {am mu : Int} (I : ItemAt news S X V it sec ns am mu) (hs : ∀ q ∈ news, Off S X V q.1 → q ∈ news') : ItemAt news' S X V it sec ns am mu := by
  obtain ⟨⟨idx, h1, h2, h3, t1, t2, t3, t4, t5, t6, n, a, b, o1, o2⟩, r⟩ := I
  exact ⟨⟨idx, h1, h2, h3, t1, t2, t3, t4, t5, t6, n, hs _ a o1, hs _ b o2, o1, o2⟩, r⟩
theorem NamesAt.sub {news news' : List (Addr × Obj)} {S X V nt : Addr} {names : List Str} (I : NamesAt news S X V nt names) (hs : ∀ q ∈ news, Off S X V q.1 → q ∈ news') : NamesAt news' S X V nt names := by
  rcases I with ⟨o, ⟨n1, t7, e, l, a⟩ | ⟨n1, n2, t7, t8, e, l, l', a⟩⟩
  · exact ⟨o, .inl ⟨n1, t7, e, l, hs _ a o⟩⟩
  · exact ⟨o, .inr ⟨n1, n2, t7, t8, e, l, l', hs _ a o⟩⟩
noncomputable def keyOf (sec : Bool) (ns : Str) (names : List Str) (am mu : Int) : Str := ikey ns (names ++ [itx am, itx mu, granOf sec])
section
variable {w : World} {p : Program} {loose : List Str} {mean : ExcName → Option Value} {mg mb : Str → Option Value} {dp un : Nat} {gd : Option (List Code)} {cn : Str} {cs : Scope} {a : Addr} {ccd : Value} {cl : List (Str × Addr)} {outer : List Env} {A₀ : Around} {base h₀ : Heap} {L : Addr} {m : Str → Option Value} {s : Shared} {Q E : Value → Shared → Prop}
  (B : Below A₀ base outer h₀) (F : Fr h₀ L s.heap m) (KX : (Mine.hd1.heap_39 w.params).In h₀) (T : Top p loose mean mg mb h₀) (hk : cs.kind = .function)
include B F KX T hk

theorem item_key {news₀ news : List (Addr × Obj)} {S X V it nt : Addr} {sec : Bool} {ns : Str} {am mu : Int} {names : List Str}
    (N : News h₀ L s.heap news) (I : ItemAt news₀ S X V it sec ns am mu) (J : NamesAt news₀ S X V nt names) (hs : ∀ q ∈ news₀, Off S X V q.1 → q ∈ news) (hd : dp ≤ 860) (hu : un ≤ 8600)
    (ret : ∀ r h' tk', Fr h₀ L h' m → News h₀ L h' news → Q (.str (keyOf sec ns names am mu) r) { s with heap := h', toks := tk' }) :
    wpAny (model PySem.Challenge.rw_ji0060_02.row.prog w) (ktrTop dp un gd cn cs L a ccd cl outer) (call (.ref 458) [.ref it, .ref nt]) Q E s := by
  obtain ⟨⟨idx, h1, h2, h3, t1, t2, t3, t4, t5, t6, n, hi, hdx, oi, od⟩, hm, ha, hns⟩ := I
  rcases J with ⟨ont, ⟨n1, t7, rfl, l1, hnt⟩ | ⟨n1, n2, t7, t8, rfl, l1, l2, hnt⟩⟩
  · cases sec
    · exact key_m1 B F KX T hk N (hs _ hi oi) (hs _ hdx od) (hs _ hnt ont) hm ha l1 hns hd hu ret
    · exact key_s1 B F KX T hk N (hs _ hi oi) (hs _ hdx od) (hs _ hnt ont) hm ha l1 hns hd hu ret
  · cases sec
    · exact key_m2 B F KX T hk N (hs _ hi oi) (hs _ hdx od) (hs _ hnt ont) hm ha l1 l2 hns hd hu ret
    · exact key_s2 B F KX T hk N (hs _ hi oi) (hs _ hdx od) (hs _ hnt ont) hm ha l1 l2 hns hd hu ret
theorem item_exp {news₀ news : List (Addr × Obj)} {S X V it : Addr} {sec : Bool} {ns : Str} {am mu : Int}
    (N : News h₀ L s.heap news) (I : ItemAt news₀ S X V it sec ns am mu) (hs : ∀ q ∈ news₀, Off S X V q.1 → q ∈ news) (hd : dp ≤ 860) (hu : un ≤ 8600)
    (ret : ∀ r h' tk', Fr h₀ L h' m → News h₀ L h' news → Q (.int (unitOf sec * mu) r) { s with heap := h', toks := tk' }) :
    wpAny (model PySem.Challenge.rw_ji0060_02.row.prog w) (ktrTop dp un gd cn cs L a ccd cl outer) (call (.ref 451) [.ref it]) Q E s := by
  obtain ⟨⟨idx, h1, h2, h3, t1, t2, t3, t4, t5, t6, n, hi, hdx, oi, od⟩, hm, ha, hns⟩ := I
  cases sec
  · exact exp_m B F KX T hk N (hs _ hi oi) (hs _ hdx od) hm hd hu ret
  · exact exp_s B F KX T hk N (hs _ hi oi) (hs _ hdx od) hm hd hu ret
end
section
variable {w : World} {A : Around} {E : Value → Shared → Prop} {s : Shared} {h₀ : Heap} {L : Addr} {m : Str → Option Value} {news₀ news : List (Addr × Obj)} {S X V it : Addr} {sec : Bool} {ns : Str} {am mu : Int}
theorem inst_N {h : Heap} {C dx x : Addr} {o : Obj} (N : News h₀ L h news) (h1 : (x, instObj C dx) ∈ news) (h2 : (dx, o) ∈ news) : InstAt h x (instObj C dx) C (some o) := ⟨(N _ h1).1, rfl, rfl, (N _ h2).1⟩
theorem item_amount {expr : Bool} {Q : Value → Shared → Prop} (F : Fr h₀ L s.heap m) (KX : (Mine.hd1.heap_39 w.params).In h₀) (N : News h₀ L s.heap news) (I : ItemAt news₀ S X V it sec ns am mu) (hs : ∀ q ∈ news₀, Off S X V q.1 → q ∈ news)
    (h : ∀ r, Q (.int am r) { s with toks := s.toks + 1 }) : wpAny (model PySem.Challenge.rw_ji0060_02.row.prog w) A (getAttr (.ref it) (Str.ofString "amount") expr) Q E s := by
  obtain ⟨⟨idx, h1, h2, h3, t1, t2, t3, t4, t5, t6, n, hi, hdx, oi, od⟩, hm, ha, hns⟩ := I
  replace hi := hs _ hi oi
  replace hdx := hs _ hdx od
  revert KX; k_fill; intro KX
  cases sec
  · have q := inst_N N (C := 501) hi hdx
    refine' get_own F KX q ?k4 ?k5 ?k6 ?k7 ?k8 ?k9 ?_
    (case k4 => k_is)
    (case k5 => k_is)
    (case k6 => k_is)
    (case k7 => k_is)
    (case k8 => k_get)
    (case k9 => k_handed)
    exact h _
  · have q := inst_N N (C := 518) hi hdx
    refine' get_own F KX q ?k4 ?k5 ?k6 ?k7 ?k8 ?k9 ?_
    (case k4 => k_is)
    (case k5 => k_is)
    (case k6 => k_is)
    (case k7 => k_is)
    (case k8 => k_get)
    (case k9 => k_handed)
    exact h _
theorem item_mkey {pl : Sem Bool} {Q : Value × List Value → Shared → Prop} (F : Fr h₀ L s.heap m) (KX : (Mine.hd1.heap_39 w.params).In h₀) (N : News h₀ L s.heap news) (I : ItemAt news₀ S X V it sec ns am mu) (hs : ∀ q ∈ news₀, Off S X V q.1 → q ∈ news)
    (h : Q (.ref 458, [.ref it]) s) : wpAny (model PySem.Challenge.rw_ji0060_02.row.prog w) A (getMethod (.ref it) (Str.ofString "key_for") pl) Q E s := by
  obtain ⟨⟨idx, h1, h2, h3, t1, t2, t3, t4, t5, t6, n, hi, hdx, oi, od⟩, hm, ha, hns⟩ := I
  replace hi := hs _ hi oi
  replace hdx := hs _ hdx od
  revert KX; k_fill; intro KX
  cases sec
  · have q := inst_N N (C := 501) hi hdx
    refine' method_inst F KX q ?k4 ?k5 ?k6 ?k7 h
    (case k4 => k_is)
    (case k5 => k_is)
    (case k6 => k_is)
    (case k7 => k_get)
  · have q := inst_N N (C := 518) hi hdx
    refine' method_inst F KX q ?k4 ?k5 ?k6 ?k7 h
    (case k4 => k_is)
    (case k5 => k_is)
    (case k6 => k_is)
    (case k7 => k_get)
theorem item_mexp {pl : Sem Bool} {Q : Value × List Value → Shared → Prop} (F : Fr h₀ L s.heap m) (KX : (Mine.hd1.heap_39 w.params).In h₀) (N : News h₀ L s.heap news) (I : ItemAt news₀ S X V it sec ns am mu) (hs : ∀ q ∈ news₀, Off S X V q.1 → q ∈ news)
    (h : Q (.ref 451, [.ref it]) s) : wpAny (model PySem.Challenge.rw_ji0060_02.row.prog w) A (getMethod (.ref it) (Str.ofString "get_expiry") pl) Q E s := by
  obtain ⟨⟨idx, h1, h2, h3, t1, t2, t3, t4, t5, t6, n, hi, hdx, oi, od⟩, hm, ha, hns⟩ := I
  replace hi := hs _ hi oi
  replace hdx := hs _ hdx od
  revert KX; k_fill; intro KX
  cases sec
  · have q := inst_N N (C := 501) hi hdx
    refine' method_inst F KX q ?k4 ?k5 ?k6 ?k7 h
    (case k4 => k_is)
    (case k5 => k_is)
    (case k6 => k_is)
    (case k7 => k_get)
  · have q := inst_N N (C := 518) hi hdx
    refine' method_inst F KX q ?k4 ?k5 ?k6 ?k7 h
    (case k4 => k_is)
    (case k5 => k_is)
    (case k6 => k_is)
    (case k7 => k_get)
end
theorem keyOf_len {sec : Bool} {ns : Str} {names : List Str} {am mu : Int} {news : List (Addr × Obj)} {S X V it nt : Addr} (I : ItemAt news S X V it sec ns am mu) (J : NamesAt news S X V nt names) : (keyOf sec ns names am mu).length ≤ 1000 := by
  obtain ⟨_, hm, ha, hns⟩ := I
  have la : (itx am).length ≤ 3 := toString_length_le ha.1 (by decide) ha.2
  have lm : (itx mu).length ≤ 3 := toString_length_le hm.1 (by decide) hm.2
  have lg : (granOf sec).length ≤ 6 := by cases sec <;> decide
  have l0 : Str.empty.length = 0 := rfl
  have l1 : (Str.ofString "/").length = 1 := rfl
  unfold keyOf ikey
  rw [Str.length_append, Str.length_append, Str.length_append]
  rcases J with ⟨ont, ⟨n1, t7, rfl, b1, hnt⟩ | ⟨n1, n2, t7, t8, rfl, b1, b2, hnt⟩⟩
  · have := len_join_le (sep := Str.ofString "/") (ys := [n1] ++ [itx am, itx mu, granOf sec]) (n := 116) (by unfold Weighs; simp only [List.cons_append, List.nil_append, List.map_cons, List.map_nil, List.sum_cons, List.sum_nil, List.length_cons, List.length_nil]; omega) (by decide)
    omega
  · have := len_join_le (sep := Str.ofString "/") (ys := [n1, n2] ++ [itx am, itx mu, granOf sec]) (n := 216) (by unfold Weighs; simp only [List.cons_append, List.nil_append, List.map_cons, List.map_nil, List.sum_cons, List.sum_nil, List.length_cons, List.length_nil]; omega) (by decide)
    omega

end

theorem said_itemat : True := by
  k_with "getMethod ref" => (k_here; k_dflt (first
      | ((with_reducible show wpAny _ _ (getMethod (Value.ref _) (Str.ofString "key_for") _) _ _ _); refine' item_mkey ?zyF ?zyX ?zyN ?zyI ?zys ?_; (case zyF => k_asm); (case zyX => k_asm); (case zyN => k_asm); (case zyI => assumption); (case zys => walk_at "m sub"); k_whole)
      | ((with_reducible show wpAny _ _ (getMethod (Value.ref _) (Str.ofString "get_expiry") _) _ _ _); refine' item_mexp ?zyF ?zyX ?zyN ?zyI ?zys ?_; (case zyF => k_asm); (case zyX => k_asm); (case zyN => k_asm); (case zyI => assumption); (case zys => walk_at "m sub"); k_whole)))
  k_with "getAttr ref" => (k_here; (with_reducible show wpAny _ _ (getAttr (Value.ref _) (Str.ofString "amount") _) _ _ _); k_dflt (refine' item_amount ?zyF ?zyX ?zyN ?zyI ?zys ?_; (case zyF => k_asm); (case zyX => k_asm); (case zyN => k_asm); (case zyI => assumption); (case zys => walk_at "m sub"); k_whole); (intro r'; (try dsimp only)))
  k_with "call ref" => (k_here; (with_reducible show wpAny _ _ (call (Value.ref 458) _) _ _ _); k_dflt (refine' item_key ?zyB ?zyF ?zyX ?zyT ?zyk ?zyN ?zyI ?zyJ ?zys ?zyd ?zyu ?_; (case zyB => k_asm); (case zyF => k_asm); (case zyX => k_asm); (case zyT => k_asm); (case zyk => first | exact rfl | assumption); (case zyN => k_asm); (case zyI => assumption); (case zyJ => assumption); (case zys => walk_at "m sub"); (case zyd => exact Nat.le_of_ble_eq_true rfl); (case zyu => exact Nat.le_of_ble_eq_true rfl); k_whole); (intro r' h' tk' F' N'; (try dsimp only at N'); (try dsimp only); (try k_sweep)))
  k_with "call ref" => (k_here; (with_reducible show wpAny _ _ (call (Value.ref 451) _) _ _ _); k_dflt (refine' item_exp ?zyB ?zyF ?zyX ?zyT ?zyk ?zyN ?zyI ?zys ?zyd ?zyu ?_; (case zyB => k_asm); (case zyF => k_asm); (case zyX => k_asm); (case zyT => k_asm); (case zyk => first | exact rfl | assumption); (case zyN => k_asm); (case zyI => assumption); (case zys => walk_at "m sub"); (case zyd => exact Nat.le_of_ble_eq_true rfl); (case zyu => exact Nat.le_of_ble_eq_true rfl); k_whole); (intro r' h' tk' F' N'; (try dsimp only at N'); (try dsimp only); (try k_sweep)))
  trivial
section
-- only 2
section
variable {w : World} {p : Program} {loose : List Str} {mean : ExcName → Option Value} {mg mb : Str → Option Value} {dp un : Nat} {gd : Option (List Code)} {cn : Str} {cs : Scope} {a : Addr} {ccd : Value} {cl : List (Str × Addr)} {outer : List Env} {A₀ : Around} {base h₀ : Heap} {L : Addr} {m : Str → Option Value} {s : Shared} {Q E : Value → Shared → Prop}
  (B : Below A₀ base outer h₀) (F : Fr h₀ L s.heap m) (KX : (Mine.hd1.heap_39 w.params).In h₀) (T : Top p loose mean mg mb h₀) (hk : cs.kind = .function)
include B F KX T hk


theorem shitk_spec {news : List (Addr × Obj)} {oS oX : Obj} {g1 : Obj → List (Addr × Obj)} {g2 : Obj → Obj → List (Addr × Obj)} {f x : Str → Option Int} {nS nX : Nat} {st S X V clk lim it nt : Addr} {sec : Bool} {ns key : Str} {names : List Str} {am mu t e : Int} {pk ck : Str} {cost : Int} {tc : Tok}
    (N : News h₀ L s.heap news) (O : Store w news st S X V clk t) (Li : LimAt news S X V 296 lim st) (I : ItemAt news S X V it sec ns am mu) (J : NamesAt news S X V nt names) (U1 : UpdF S oS news g1) (U2 : ∀ o, UpdF X oX (g1 o) (g2 o))
    (hS : IntD PySem.Challenge.rw_ji0060_02.row.prog w oS f nS) (hX : IntD PySem.Challenge.rw_ji0060_02.row.prog w oX x nX) (zS : nS + 1 ≤ sizeLine) (zX : nX + 1 ≤ sizeLine) (ee : e = unitOf sec * mu) (ek : key = keyOf sec ns names am mu) (he : 0 < e) (he2 : e < 1000000) (het : e ≤ t) (ht : t < 1000000000000) (epk : pk = wkey key ((t - e).fdiv e)) (eck : ck = wkey key (t.fdiv e)) (hf : ∀ j, 0 ≤ (f j).getD 0 ∧ (f j).getD 0 ≤ 1000000) (hd : dp ≤ 820) (hu : un ≤ 8200)
    (ret : ∀ b f' x' oS' oX' h' tk', AcqPost f x pk ck t e am cost b f' x' → Fr h₀ L h' m → News h₀ L h' (g2 oS' oX') → IntD PySem.Challenge.rw_ji0060_02.row.prog w oS' f' (nS + 1) → IntD PySem.Challenge.rw_ji0060_02.row.prog w oX' x' (nX + 1) → Q (.bool b) { s with heap := h', toks := tk' }) :
    wpAny (model PySem.Challenge.rw_ji0060_02.row.prog w) (ktrTop dp un gd cn cs L a ccd cl outer) (call (.ref 266) [.ref lim, .ref it, .ref nt] [(Str.ofString "cost", .int cost tc)]) Q E s := by
  subst epk eck ee ek
  refine lower ?_ hd hu
  obtain ⟨frz, n1, n2, N', sub, mem⟩ := split2 O.xs U1 U2 N
  have O' : Store w frz st S X V clk t := O.sub (fun q hq ho => sub q hq ho.1 ho.2.1)
  have I' := I.sub (news' := frz) (fun q hq ho => sub q hq ho.1 ho.2.1)
  have J' := J.sub (news' := frz) (fun q hq ho => sub q hq ho.1 ho.2.1)
  have Li' := Li.sub (news' := frz) (fun q hq ho => sub q hq ho.1 ho.2.1)
  have hkl := keyOf_len I' J'
  clear N U1 U2 sub O I J Li
  obtain ⟨ldx, lh, lt, ln, hlim, hldx, _, _⟩ := Li'
  have O'' := O'
  obtain ⟨⟨dx, h1, h2, h3, h4, t1, t2, t3, t4, nn, oc, od, fd, sl, hst, hck, hdx, _, _, _⟩, _, sx, xv, lS, lX, lV⟩ := O''
  revert KX; k_fill; intro KX
  refine wpAny_call ?_
  walk_at "m enter"
  k_steps
  exact ret _ _ _ _ _ _ _ (by assumption) (by assumption) (news_of (by assumption) (mem _ _)) (by assumption) (by assumption)
end

end

theorem said_shitk : True := by
  k_with "call ref" => (k_here; (with_reducible show wpAny _ _ (call (Value.ref 266) _ _) _ _ _); k_dflt (refine' shitk_spec ?zyB ?zyF ?zyX ?zyT ?zyk ?zyN ?zyO ?zyLi ?zyI ?zyJ ?zyU1 ?zyU2 ?zyhS ?zyhX ?zyzS ?zyzX ?zyee ?zyek ?zyhe ?zyhe2 ?zyhet ?zyht ?zyepk ?zyeck ?zyhf ?zyd ?zyu ?_; (case zyB => k_asm); (case zyF => k_asm); (case zyX => k_asm); (case zyT => k_asm); (case zyk => first | exact rfl | assumption); (case zyN => k_asm); (case zyO => refine' Store.sub ?zyo ?zys; (case zyo => assumption); (case zys => walk_at "m sub")); (case zyU1 => k_updF); (case zyU2 => (intro o1; (try dsimp only); k_updF)); (case zyhS => assumption); (case zyhX => assumption); (case zyzS => first | assumption | omega); (case zyzX => first | assumption | omega); (case zyLi => refine' LimAt.sub ?zyo ?zys; (case zyo => assumption); (case zys => walk_at "m sub")); (case zyI => refine' ItemAt.sub ?zyo ?zys; (case zyo => assumption); (case zys => walk_at "m sub")); (case zyJ => refine' NamesAt.sub ?zyo ?zys; (case zyo => assumption); (case zys => walk_at "m sub")); (case zyee => first | assumption | rfl); (case zyek => first | assumption | rfl); (case zyhe => walk_at "m om"); (case zyhe2 => walk_at "m om"); (case zyhet => walk_at "m om"); (case zyht => walk_at "m om"); (case zyepk => first | assumption | rfl); (case zyeck => first | assumption | rfl); (case zyhf => assumption); (case zyd => exact Nat.le_of_ble_eq_true rfl); (case zyu => exact Nat.le_of_ble_eq_true rfl); k_whole); (intro b' f' x' oS' oX' h' tk' ap' F' N' hS' hX'; (try dsimp only at N'); (try dsimp only); (try k_sweep)))
  trivial
section
-- only 2
section
variable {w : World} {p : Program} {loose : List Str} {mean : ExcName → Option Value} {mg mb : Str → Option Value} {dp un : Nat} {gd : Option (List Code)} {cn : Str} {cs : Scope} {a : Addr} {ccd : Value} {cl : List (Str × Addr)} {outer : List Env} {A₀ : Around} {base h₀ : Heap} {L : Addr} {m : Str → Option Value} {s : Shared} {Q E : Value → Shared → Prop}
  (B : Below A₀ base outer h₀) (F : Fr h₀ L s.heap m) (KX : (Mine.hd1.heap_39 w.params).In h₀) (T : Top p loose mean mg mb h₀) (hk : cs.kind = .function)
include B F KX T hk


end
noncomputable def stestk_spec_St (w : World) (p : Program) (loose : List Str) (mean : ExcName → Option Value) (mg : Str → Option Value) (mb : Str → Option Value) (dp : Nat) (un : Nat) (gd : Option (List Code)) (cn : Str) (cs : Scope) (a : Addr) (ccd : Value) (cl : List (Str × Addr)) (outer : List Env) (A₀ : Around) (base : Heap) (h₀ : Heap) (L : Addr) (m : Str → Option Value) (s : Shared) (Q : Value → Shared → Prop) (E : Value → Shared → Prop) (news : List (Addr × Obj)) (oS : Obj) (oX : Obj) (g1 : Obj → List (Addr × Obj)) (g2 : Obj → Obj → List (Addr × Obj)) (f : Str → Option Int) (x : Str → Option Int) (nS : Nat) (nX : Nat) (st : Addr) (S : Addr) (X : Addr) (V : Addr) (clk : Addr) (lim : Addr) (it : Addr) (nt : Addr) (sec : Bool) (ns : Str) (names : List Str) (am : Int) (mu : Int) (t : Int) (cost : Int) (tc : Tok) : Prop := ∀ (key : Str) (e : Int) (pk : Str) (ck : Str) (B : Below A₀ base outer h₀) (F : Fr h₀ L s.heap m) (KX : (Mine.hd1.heap_39 w.params).In h₀) (T : Top p loose mean mg mb h₀) (hk : cs.kind = .function) (N : News h₀ L s.heap news) (O : Store w news st S X V clk t) (Li : LimAt news S X V 296 lim st) (I : ItemAt news S X V it sec ns am mu) (J : NamesAt news S X V nt names) (U1 : UpdF S oS news g1) (U2 : ∀ o, UpdF X oX (g1 o) (g2 o)) (hS : IntD PySem.Challenge.rw_ji0060_02.row.prog w oS f nS) (hX : IntD PySem.Challenge.rw_ji0060_02.row.prog w oX x nX) (zS : nS + 1 ≤ sizeLine) (zX : nX + 1 ≤ sizeLine) (ee : e = unitOf sec * mu) (ek : key = keyOf sec ns names am mu) (he : 0 < e) (he2 : e < 1000000) (het : e ≤ t) (ht : t < 1000000000000) (epk : pk = wkey key ((t - e).fdiv e)) (eck : ck = wkey key (t.fdiv e)) (hf : ∀ j, 0 ≤ (f j).getD 0 ∧ (f j).getD 0 ≤ 1000000) (hc : -1000000 ≤ cost ∧ cost ≤ 1000000) (hd : dp ≤ 820) (hu : un ≤ 8200) (retH : ∀ oS' oX' h' tk', Fr h₀ L h' m → News h₀ L h' (g2 oS' oX') → IntD PySem.Challenge.rw_ji0060_02.row.prog w oS' (F2 f x pk ck t) (nS + 1) → IntD PySem.Challenge.rw_ji0060_02.row.prog w oX' (F2 x x pk ck t) (nX + 1) → Q (.bool (decide (wF f x pk ck t e < am - cost + 1))) { s with heap := h', toks := tk' }), wpAny (model PySem.Challenge.rw_ji0060_02.row.prog w) (ktrTop dp un gd cn cs L a ccd cl outer) (call (.ref 275) [.ref lim, .ref it, .ref nt] [(Str.ofString "cost", .int cost tc)]) Q E s
namespace c_stestk_spec
noncomputable def zcv : (World) × (Program) × (List Str) × (ExcName → Option Value) × (Str → Option Value) × (Str → Option Value) × (Nat) × (Nat) × (Option (List Code)) × (Str) × (Scope) × (Addr) × (Value) × (List (Str × Addr)) × (List Env) × (Around) × (Heap) × (Heap) × (Addr) × (Str → Option Value) × (Shared) × (Value → Shared → Prop) × (Value → Shared → Prop) × (List (Addr × Obj)) × (Obj) × (Obj) × (Obj → List (Addr × Obj)) × (Obj → Obj → List (Addr × Obj)) × (Str → Option Int) × (Str → Option Int) × (Nat) × (Nat) × (Addr) × (Addr) × (Addr) × (Addr) × (Addr) × (Addr) × (Addr) × (Addr) × (Bool) × (Str) × (List Str) × (Int) × (Int) × (Int) × (Int) × (Tok) := pick (neP neW (neP inferInstance (neP inferInstance (neP inferInstance (neP inferInstance (neP inferInstance (neP inferInstance (neP inferInstance (neP inferInstance (neP inferInstance (neP inferInstance (neP inferInstance (neP inferInstance (neP inferInstance (neP inferInstance (neP neA (neP inferInstance (neP inferInstance (neP inferInstance (neP inferInstance (neP neS (neP inferInstance (neP inferInstance (neP inferInstance (neP inferInstance (neP inferInstance (neP inferInstance (neP inferInstance (neP inferInstance (neP inferInstance (neP inferInstance (neP inferInstance (neP inferInstance (neP inferInstance (neP inferInstance (neP inferInstance (neP inferInstance (neP inferInstance (neP inferInstance (neP inferInstance (neP inferInstance (neP inferInstance (neP inferInstance (neP inferInstance (neP inferInstance (neP inferInstance (neP inferInstance inferInstance))))))))))))))))))))))))))))))))))))))))))))))) (fun v : (World) × (Program) × (List Str) × (ExcName → Option Value) × (Str → Option Value) × (Str → Option Value) × (Nat) × (Nat) × (Option (List Code)) × (Str) × (Scope) × (Addr) × (Value) × (List (Str × Addr)) × (List Env) × (Around) × (Heap) × (Heap) × (Addr) × (Str → Option Value) × (Shared) × (Value → Shared → Prop) × (Value → Shared → Prop) × (List (Addr × Obj)) × (Obj) × (Obj) × (Obj → List (Addr × Obj)) × (Obj → Obj → List (Addr × Obj)) × (Str → Option Int) × (Str → Option Int) × (Nat) × (Nat) × (Addr) × (Addr) × (Addr) × (Addr) × (Addr) × (Addr) × (Addr) × (Addr) × (Bool) × (Str) × (List Str) × (Int) × (Int) × (Int) × (Int) × (Tok) => stestk_spec_St (v.1) (v.2.1) (v.2.2.1) (v.2.2.2.1) (v.2.2.2.2.1) (v.2.2.2.2.2.1) (v.2.2.2.2.2.2.1) (v.2.2.2.2.2.2.2.1) (v.2.2.2.2.2.2.2.2.1) (v.2.2.2.2.2.2.2.2.2.1) (v.2.2.2.2.2.2.2.2.2.2.1) (v.2.2.2.2.2.2.2.2.2.2.2.1) (v.2.2.2.2.2.2.2.2.2.2.2.2.1) (v.2.2.2.2.2.2.2.2.2.2.2.2.2.1) (v.2.2.2.2.2.2.2.2.2.2.2.2.2.2.1) (v.2.2.2.2.2.2.2.2.2.2.2.2.2.2.2.1) (v.2.2.2.2.2.2.2.2.2.2.2.2.2.2.2.2.1) (v.2.2.2.2.2.2.2.2.2.2.2.2.2.2.2.2.2.1) (v.2.2.2.2.2.2.2.2.2.2.2.2.2.2.2.2.2.2.1) (v.2.2.2.2.2.2.2.2.2.2.2.2.2.2.2.2.2.2.2.1) (v.2.2.2.2.2.2.2.2.2.2.2.2.2.2.2.2.2.2.2.2.1) (v.2.2.2.2.2.2.2.2.2.2.2.2.2.2.2.2.2.2.2.2.2.1) (v.2.2.2.2.2.2.2.2.2.2.2.2.2.2.2.2.2.2.2.2.2.2.1) (v.2.2.2.2.2.2.2.2.2.2.2.2.2.2.2.2.2.2.2.2.2.2.2.1) (v.2.2.2.2.2.2.2.2.2.2.2.2.2.2.2.2.2.2.2.2.2.2.2.2.1) (v.2.2.2.2.2.2.2.2.2.2.2.2.2.2.2.2.2.2.2.2.2.2.2.2.2.1) (v.2.2.2.2.2.2.2.2.2.2.2.2.2.2.2.2.2.2.2.2.2.2.2.2.2.2.1) (v.2.2.2.2.2.2.2.2.2.2.2.2.2.2.2.2.2.2.2.2.2.2.2.2.2.2.2.1) (v.2.2.2.2.2.2.2.2.2.2.2.2.2.2.2.2.2.2.2.2.2.2.2.2.2.2.2.2.1) (v.2.2.2.2.2.2.2.2.2.2.2.2.2.2.2.2.2.2.2.2.2.2.2.2.2.2.2.2.2.1) (v.2.2.2.2.2.2.2.2.2.2.2.2.2.2.2.2.2.2.2.2.2.2.2.2.2.2.2.2.2.2.1) (v.2.2.2.2.2.2.2.2.2.2.2.2.2.2.2.2.2.2.2.2.2.2.2.2.2.2.2.2.2.2.2.1) (v.2.2.2.2.2.2.2.2.2.2.2.2.2.2.2.2.2.2.2.2.2.2.2.2.2.2.2.2.2.2.2.2.1) (v.2.2.2.2.2.2.2.2.2.2.2.2.2.2.2.2.2.2.2.2.2.2.2.2.2.2.2.2.2.2.2.2.2.1) (v.2.2.2.2.2.2.2.2.2.2.2.2.2.2.2.2.2.2.2.2.2.2.2.2.2.2.2.2.2.2.2.2.2.2.1) (v.2.2.2.2.2.2.2.2.2.2.2.2.2.2.2.2.2.2.2.2.2.2.2.2.2.2.2.2.2.2.2.2.2.2.2.1) (v.2.2.2.2.2.2.2.2.2.2.2.2.2.2.2.2.2.2.2.2.2.2.2.2.2.2.2.2.2.2.2.2.2.2.2.2.1) (v.2.2.2.2.2.2.2.2.2.2.2.2.2.2.2.2.2.2.2.2.2.2.2.2.2.2.2.2.2.2.2.2.2.2.2.2.2.1) (v.2.2.2.2.2.2.2.2.2.2.2.2.2.2.2.2.2.2.2.2.2.2.2.2.2.2.2.2.2.2.2.2.2.2.2.2.2.2.1) (v.2.2.2.2.2.2.2.2.2.2.2.2.2.2.2.2.2.2.2.2.2.2.2.2.2.2.2.2.2.2.2.2.2.2.2.2.2.2.2.1) (v.2.2.2.2.2.2.2.2.2.2.2.2.2.2.2.2.2.2.2.2.2.2.2.2.2.2.2.2.2.2.2.2.2.2.2.2.2.2.2.2.1) (v.2.2.2.2.2.2.2.2.2.2.2.2.2.2.2.2.2.2.2.2.2.2.2.2.2.2.2.2.2.2.2.2.2.2.2.2.2.2.2.2.2.1) (v.2.2.2.2.2.2.2.2.2.2.2.2.2.2.2.2.2.2.2.2.2.2.2.2.2.2.2.2.2.2.2.2.2.2.2.2.2.2.2.2.2.2.1) (v.2.2.2.2.2.2.2.2.2.2.2.2.2.2.2.2.2.2.2.2.2.2.2.2.2.2.2.2.2.2.2.2.2.2.2.2.2.2.2.2.2.2.2.1) (v.2.2.2.2.2.2.2.2.2.2.2.2.2.2.2.2.2.2.2.2.2.2.2.2.2.2.2.2.2.2.2.2.2.2.2.2.2.2.2.2.2.2.2.2.1) (v.2.2.2.2.2.2.2.2.2.2.2.2.2.2.2.2.2.2.2.2.2.2.2.2.2.2.2.2.2.2.2.2.2.2.2.2.2.2.2.2.2.2.2.2.2.1) (v.2.2.2.2.2.2.2.2.2.2.2.2.2.2.2.2.2.2.2.2.2.2.2.2.2.2.2.2.2.2.2.2.2.2.2.2.2.2.2.2.2.2.2.2.2.2.1) (v.2.2.2.2.2.2.2.2.2.2.2.2.2.2.2.2.2.2.2.2.2.2.2.2.2.2.2.2.2.2.2.2.2.2.2.2.2.2.2.2.2.2.2.2.2.2.2)) 0
theorem zal (h : stestk_spec_St (zcv.1) (zcv.2.1) (zcv.2.2.1) (zcv.2.2.2.1) (zcv.2.2.2.2.1) (zcv.2.2.2.2.2.1) (zcv.2.2.2.2.2.2.1) (zcv.2.2.2.2.2.2.2.1) (zcv.2.2.2.2.2.2.2.2.1) (zcv.2.2.2.2.2.2.2.2.2.1) (zcv.2.2.2.2.2.2.2.2.2.2.1) (zcv.2.2.2.2.2.2.2.2.2.2.2.1) (zcv.2.2.2.2.2.2.2.2.2.2.2.2.1) (zcv.2.2.2.2.2.2.2.2.2.2.2.2.2.1) (zcv.2.2.2.2.2.2.2.2.2.2.2.2.2.2.1) (zcv.2.2.2.2.2.2.2.2.2.2.2.2.2.2.2.1) (zcv.2.2.2.2.2.2.2.2.2.2.2.2.2.2.2.2.1) (zcv.2.2.2.2.2.2.2.2.2.2.2.2.2.2.2.2.2.1) (zcv.2.2.2.2.2.2.2.2.2.2.2.2.2.2.2.2.2.2.1) (zcv.2.2.2.2.2.2.2.2.2.2.2.2.2.2.2.2.2.2.2.1) (zcv.2.2.2.2.2.2.2.2.2.2.2.2.2.2.2.2.2.2.2.2.1) (zcv.2.2.2.2.2.2.2.2.2.2.2.2.2.2.2.2.2.2.2.2.2.1) (zcv.2.2.2.2.2.2.2.2.2.2.2.2.2.2.2.2.2.2.2.2.2.2.1) (zcv.2.2.2.2.2.2.2.2.2.2.2.2.2.2.2.2.2.2.2.2.2.2.2.1) (zcv.2.2.2.2.2.2.2.2.2.2.2.2.2.2.2.2.2.2.2.2.2.2.2.2.1) (zcv.2.2.2.2.2.2.2.2.2.2.2.2.2.2.2.2.2.2.2.2.2.2.2.2.2.1) (zcv.2.2.2.2.2.2.2.2.2.2.2.2.2.2.2.2.2.2.2.2.2.2.2.2.2.2.1) (zcv.2.2.2.2.2.2.2.2.2.2.2.2.2.2.2.2.2.2.2.2.2.2.2.2.2.2.2.1) (zcv.2.2.2.2.2.2.2.2.2.2.2.2.2.2.2.2.2.2.2.2.2.2.2.2.2.2.2.2.1) (zcv.2.2.2.2.2.2.2.2.2.2.2.2.2.2.2.2.2.2.2.2.2.2.2.2.2.2.2.2.2.1) (zcv.2.2.2.2.2.2.2.2.2.2.2.2.2.2.2.2.2.2.2.2.2.2.2.2.2.2.2.2.2.2.1) (zcv.2.2.2.2.2.2.2.2.2.2.2.2.2.2.2.2.2.2.2.2.2.2.2.2.2.2.2.2.2.2.2.1) (zcv.2.2.2.2.2.2.2.2.2.2.2.2.2.2.2.2.2.2.2.2.2.2.2.2.2.2.2.2.2.2.2.2.1) (zcv.2.2.2.2.2.2.2.2.2.2.2.2.2.2.2.2.2.2.2.2.2.2.2.2.2.2.2.2.2.2.2.2.2.1) (zcv.2.2.2.2.2.2.2.2.2.2.2.2.2.2.2.2.2.2.2.2.2.2.2.2.2.2.2.2.2.2.2.2.2.2.1) (zcv.2.2.2.2.2.2.2.2.2.2.2.2.2.2.2.2.2.2.2.2.2.2.2.2.2.2.2.2.2.2.2.2.2.2.2.1) (zcv.2.2.2.2.2.2.2.2.2.2.2.2.2.2.2.2.2.2.2.2.2.2.2.2.2.2.2.2.2.2.2.2.2.2.2.2.1) (zcv.2.2.2.2.2.2.2.2.2.2.2.2.2.2.2.2.2.2.2.2.2.2.2.2.2.2.2.2.2.2.2.2.2.2.2.2.2.1) (zcv.2.2.2.2.2.2.2.2.2.2.2.2.2.2.2.2.2.2.2.2.2.2.2.2.2.2.2.2.2.2.2.2.2.2.2.2.2.2.1) (zcv.2.2.2.2.2.2.2.2.2.2.2.2.2.2.2.2.2.2.2.2.2.2.2.2.2.2.2.2.2.2.2.2.2.2.2.2.2.2.2.1) (zcv.2.2.2.2.2.2.2.2.2.2.2.2.2.2.2.2.2.2.2.2.2.2.2.2.2.2.2.2.2.2.2.2.2.2.2.2.2.2.2.2.1) (zcv.2.2.2.2.2.2.2.2.2.2.2.2.2.2.2.2.2.2.2.2.2.2.2.2.2.2.2.2.2.2.2.2.2.2.2.2.2.2.2.2.2.1) (zcv.2.2.2.2.2.2.2.2.2.2.2.2.2.2.2.2.2.2.2.2.2.2.2.2.2.2.2.2.2.2.2.2.2.2.2.2.2.2.2.2.2.2.1) (zcv.2.2.2.2.2.2.2.2.2.2.2.2.2.2.2.2.2.2.2.2.2.2.2.2.2.2.2.2.2.2.2.2.2.2.2.2.2.2.2.2.2.2.2.1) (zcv.2.2.2.2.2.2.2.2.2.2.2.2.2.2.2.2.2.2.2.2.2.2.2.2.2.2.2.2.2.2.2.2.2.2.2.2.2.2.2.2.2.2.2.2.1) (zcv.2.2.2.2.2.2.2.2.2.2.2.2.2.2.2.2.2.2.2.2.2.2.2.2.2.2.2.2.2.2.2.2.2.2.2.2.2.2.2.2.2.2.2.2.2.1) (zcv.2.2.2.2.2.2.2.2.2.2.2.2.2.2.2.2.2.2.2.2.2.2.2.2.2.2.2.2.2.2.2.2.2.2.2.2.2.2.2.2.2.2.2.2.2.2.1) (zcv.2.2.2.2.2.2.2.2.2.2.2.2.2.2.2.2.2.2.2.2.2.2.2.2.2.2.2.2.2.2.2.2.2.2.2.2.2.2.2.2.2.2.2.2.2.2.2)) : ∀ u : (World) × (Program) × (List Str) × (ExcName → Option Value) × (Str → Option Value) × (Str → Option Value) × (Nat) × (Nat) × (Option (List Code)) × (Str) × (Scope) × (Addr) × (Value) × (List (Str × Addr)) × (List Env) × (Around) × (Heap) × (Heap) × (Addr) × (Str → Option Value) × (Shared) × (Value → Shared → Prop) × (Value → Shared → Prop) × (List (Addr × Obj)) × (Obj) × (Obj) × (Obj → List (Addr × Obj)) × (Obj → Obj → List (Addr × Obj)) × (Str → Option Int) × (Str → Option Int) × (Nat) × (Nat) × (Addr) × (Addr) × (Addr) × (Addr) × (Addr) × (Addr) × (Addr) × (Addr) × (Bool) × (Str) × (List Str) × (Int) × (Int) × (Int) × (Int) × (Tok), stestk_spec_St (u.1) (u.2.1) (u.2.2.1) (u.2.2.2.1) (u.2.2.2.2.1) (u.2.2.2.2.2.1) (u.2.2.2.2.2.2.1) (u.2.2.2.2.2.2.2.1) (u.2.2.2.2.2.2.2.2.1) (u.2.2.2.2.2.2.2.2.2.1) (u.2.2.2.2.2.2.2.2.2.2.1) (u.2.2.2.2.2.2.2.2.2.2.2.1) (u.2.2.2.2.2.2.2.2.2.2.2.2.1) (u.2.2.2.2.2.2.2.2.2.2.2.2.2.1) (u.2.2.2.2.2.2.2.2.2.2.2.2.2.2.1) (u.2.2.2.2.2.2.2.2.2.2.2.2.2.2.2.1) (u.2.2.2.2.2.2.2.2.2.2.2.2.2.2.2.2.1) (u.2.2.2.2.2.2.2.2.2.2.2.2.2.2.2.2.2.1) (u.2.2.2.2.2.2.2.2.2.2.2.2.2.2.2.2.2.2.1) (u.2.2.2.2.2.2.2.2.2.2.2.2.2.2.2.2.2.2.2.1) (u.2.2.2.2.2.2.2.2.2.2.2.2.2.2.2.2.2.2.2.2.1) (u.2.2.2.2.2.2.2.2.2.2.2.2.2.2.2.2.2.2.2.2.2.1) (u.2.2.2.2.2.2.2.2.2.2.2.2.2.2.2.2.2.2.2.2.2.2.1) (u.2.2.2.2.2.2.2.2.2.2.2.2.2.2.2.2.2.2.2.2.2.2.2.1) (u.2.2.2.2.2.2.2.2.2.2.2.2.2.2.2.2.2.2.2.2.2.2.2.2.1) (u.2.2.2.2.2.2.2.2.2.2.2.2.2.2.2.2.2.2.2.2.2.2.2.2.2.1) (u.2.2.2.2.2.2.2.2.2.2.2.2.2.2.2.2.2.2.2.2.2.2.2.2.2.2.1) (u.2.2.2.2.2.2.2.2.2.2.2.2.2.2.2.2.2.2.2.2.2.2.2.2.2.2.2.1) (u.2.2.2.2.2.2.2.2.2.2.2.2.2.2.2.2.2.2.2.2.2.2.2.2.2.2.2.2.1) (u.2.2.2.2.2.2.2.2.2.2.2.2.2.2.2.2.2.2.2.2.2.2.2.2.2.2.2.2.2.1) (u.2.2.2.2.2.2.2.2.2.2.2.2.2.2.2.2.2.2.2.2.2.2.2.2.2.2.2.2.2.2.1) (u.2.2.2.2.2.2.2.2.2.2.2.2.2.2.2.2.2.2.2.2.2.2.2.2.2.2.2.2.2.2.2.1) (u.2.2.2.2.2.2.2.2.2.2.2.2.2.2.2.2.2.2.2.2.2.2.2.2.2.2.2.2.2.2.2.2.1) (u.2.2.2.2.2.2.2.2.2.2.2.2.2.2.2.2.2.2.2.2.2.2.2.2.2.2.2.2.2.2.2.2.2.1) (u.2.2.2.2.2.2.2.2.2.2.2.2.2.2.2.2.2.2.2.2.2.2.2.2.2.2.2.2.2.2.2.2.2.2.1) (u.2.2.2.2.2.2.2.2.2.2.2.2.2.2.2.2.2.2.2.2.2.2.2.2.2.2.2.2.2.2.2.2.2.2.2.1) (u.2.2.2.2.2.2.2.2.2.2.2.2.2.2.2.2.2.2.2.2.2.2.2.2.2.2.2.2.2.2.2.2.2.2.2.2.1) (u.2.2.2.2.2.2.2.2.2.2.2.2.2.2.2.2.2.2.2.2.2.2.2.2.2.2.2.2.2.2.2.2.2.2.2.2.2.1) (u.2.2.2.2.2.2.2.2.2.2.2.2.2.2.2.2.2.2.2.2.2.2.2.2.2.2.2.2.2.2.2.2.2.2.2.2.2.2.1) (u.2.2.2.2.2.2.2.2.2.2.2.2.2.2.2.2.2.2.2.2.2.2.2.2.2.2.2.2.2.2.2.2.2.2.2.2.2.2.2.1) (u.2.2.2.2.2.2.2.2.2.2.2.2.2.2.2.2.2.2.2.2.2.2.2.2.2.2.2.2.2.2.2.2.2.2.2.2.2.2.2.2.1) (u.2.2.2.2.2.2.2.2.2.2.2.2.2.2.2.2.2.2.2.2.2.2.2.2.2.2.2.2.2.2.2.2.2.2.2.2.2.2.2.2.2.1) (u.2.2.2.2.2.2.2.2.2.2.2.2.2.2.2.2.2.2.2.2.2.2.2.2.2.2.2.2.2.2.2.2.2.2.2.2.2.2.2.2.2.2.1) (u.2.2.2.2.2.2.2.2.2.2.2.2.2.2.2.2.2.2.2.2.2.2.2.2.2.2.2.2.2.2.2.2.2.2.2.2.2.2.2.2.2.2.2.1) (u.2.2.2.2.2.2.2.2.2.2.2.2.2.2.2.2.2.2.2.2.2.2.2.2.2.2.2.2.2.2.2.2.2.2.2.2.2.2.2.2.2.2.2.2.1) (u.2.2.2.2.2.2.2.2.2.2.2.2.2.2.2.2.2.2.2.2.2.2.2.2.2.2.2.2.2.2.2.2.2.2.2.2.2.2.2.2.2.2.2.2.2.1) (u.2.2.2.2.2.2.2.2.2.2.2.2.2.2.2.2.2.2.2.2.2.2.2.2.2.2.2.2.2.2.2.2.2.2.2.2.2.2.2.2.2.2.2.2.2.2.1) (u.2.2.2.2.2.2.2.2.2.2.2.2.2.2.2.2.2.2.2.2.2.2.2.2.2.2.2.2.2.2.2.2.2.2.2.2.2.2.2.2.2.2.2.2.2.2.2) := pick_all (P := fun v : (World) × (Program) × (List Str) × (ExcName → Option Value) × (Str → Option Value) × (Str → Option Value) × (Nat) × (Nat) × (Option (List Code)) × (Str) × (Scope) × (Addr) × (Value) × (List (Str × Addr)) × (List Env) × (Around) × (Heap) × (Heap) × (Addr) × (Str → Option Value) × (Shared) × (Value → Shared → Prop) × (Value → Shared → Prop) × (List (Addr × Obj)) × (Obj) × (Obj) × (Obj → List (Addr × Obj)) × (Obj → Obj → List (Addr × Obj)) × (Str → Option Int) × (Str → Option Int) × (Nat) × (Nat) × (Addr) × (Addr) × (Addr) × (Addr) × (Addr) × (Addr) × (Addr) × (Addr) × (Bool) × (Str) × (List Str) × (Int) × (Int) × (Int) × (Int) × (Tok) => stestk_spec_St (v.1) (v.2.1) (v.2.2.1) (v.2.2.2.1) (v.2.2.2.2.1) (v.2.2.2.2.2.1) (v.2.2.2.2.2.2.1) (v.2.2.2.2.2.2.2.1) (v.2.2.2.2.2.2.2.2.1) (v.2.2.2.2.2.2.2.2.2.1) (v.2.2.2.2.2.2.2.2.2.2.1) (v.2.2.2.2.2.2.2.2.2.2.2.1) (v.2.2.2.2.2.2.2.2.2.2.2.2.1) (v.2.2.2.2.2.2.2.2.2.2.2.2.2.1) (v.2.2.2.2.2.2.2.2.2.2.2.2.2.2.1) (v.2.2.2.2.2.2.2.2.2.2.2.2.2.2.2.1) (v.2.2.2.2.2.2.2.2.2.2.2.2.2.2.2.2.1) (v.2.2.2.2.2.2.2.2.2.2.2.2.2.2.2.2.2.1) (v.2.2.2.2.2.2.2.2.2.2.2.2.2.2.2.2.2.2.1) (v.2.2.2.2.2.2.2.2.2.2.2.2.2.2.2.2.2.2.2.1) (v.2.2.2.2.2.2.2.2.2.2.2.2.2.2.2.2.2.2.2.2.1) (v.2.2.2.2.2.2.2.2.2.2.2.2.2.2.2.2.2.2.2.2.2.1) (v.2.2.2.2.2.2.2.2.2.2.2.2.2.2.2.2.2.2.2.2.2.2.1) (v.2.2.2.2.2.2.2.2.2.2.2.2.2.2.2.2.2.2.2.2.2.2.2.1) (v.2.2.2.2.2.2.2.2.2.2.2.2.2.2.2.2.2.2.2.2.2.2.2.2.1) (v.2.2.2.2.2.2.2.2.2.2.2.2.2.2.2.2.2.2.2.2.2.2.2.2.2.1) (v.2.2.2.2.2.2.2.2.2.2.2.2.2.2.2.2.2.2.2.2.2.2.2.2.2.2.1) (v.2.2.2.2.2.2.2.2.2.2.2.2.2.2.2.2.2.2.2.2.2.2.2.2.2.2.2.1) (v.2.2.2.2.2.2.2.2.2.2.2.2.2.2.2.2.2.2.2.2.2.2.2.2.2.2.2.2.1) (v.2.2.2.2.2.2.2.2.2.2.2.2.2.2.2.2.2.2.2.2.2.2.2.2.2.2.2.2.2.1) (v.2.2.2.2.2.2.2.2.2.2.2.2.2.2.2.2.2.2.2.2.2.2.2.2.2.2.2.2.2.2.1) (v.2.2.2.2.2.2.2.2.2.2.2.2.2.2.2.2.2.2.2.2.2.2.2.2.2.2.2.2.2.2.2.1) (v.2.2.2.2.2.2.2.2.2.2.2.2.2.2.2.2.2.2.2.2.2.2.2.2.2.2.2.2.2.2.2.2.1) (v.2.2.2.2.2.2.2.2.2.2.2.2.2.2.2.2.2.2.2.2.2.2.2.2.2.2.2.2.2.2.2.2.2.1) (v.2.2.2.2.2.2.2.2.2.2.2.2.2.2.2.2.2.2.2.2.2.2.2.2.2.2.2.2.2.2.2.2.2.2.1) (v.2.2.2.2.2.2.2.2.2.2.2.2.2.2.2.2.2.2.2.2.2.2.2.2.2.2.2.2.2.2.2.2.2.2.2.1) (v.2.2.2.2.2.2.2.2.2.2.2.2.2.2.2.2.2.2.2.2.2.2.2.2.2.2.2.2.2.2.2.2.2.2.2.2.1) (v.2.2.2.2.2.2.2.2.2.2.2.2.2.2.2.2.2.2.2.2.2.2.2.2.2.2.2.2.2.2.2.2.2.2.2.2.2.1) (v.2.2.2.2.2.2.2.2.2.2.2.2.2.2.2.2.2.2.2.2.2.2.2.2.2.2.2.2.2.2.2.2.2.2.2.2.2.2.1) (v.2.2.2.2.2.2.2.2.2.2.2.2.2.2.2.2.2.2.2.2.2.2.2.2.2.2.2.2.2.2.2.2.2.2.2.2.2.2.2.1) (v.2.2.2.2.2.2.2.2.2.2.2.2.2.2.2.2.2.2.2.2.2.2.2.2.2.2.2.2.2.2.2.2.2.2.2.2.2.2.2.2.1) (v.2.2.2.2.2.2.2.2.2.2.2.2.2.2.2.2.2.2.2.2.2.2.2.2.2.2.2.2.2.2.2.2.2.2.2.2.2.2.2.2.2.1) (v.2.2.2.2.2.2.2.2.2.2.2.2.2.2.2.2.2.2.2.2.2.2.2.2.2.2.2.2.2.2.2.2.2.2.2.2.2.2.2.2.2.2.1) (v.2.2.2.2.2.2.2.2.2.2.2.2.2.2.2.2.2.2.2.2.2.2.2.2.2.2.2.2.2.2.2.2.2.2.2.2.2.2.2.2.2.2.2.1) (v.2.2.2.2.2.2.2.2.2.2.2.2.2.2.2.2.2.2.2.2.2.2.2.2.2.2.2.2.2.2.2.2.2.2.2.2.2.2.2.2.2.2.2.2.1) (v.2.2.2.2.2.2.2.2.2.2.2.2.2.2.2.2.2.2.2.2.2.2.2.2.2.2.2.2.2.2.2.2.2.2.2.2.2.2.2.2.2.2.2.2.2.1) (v.2.2.2.2.2.2.2.2.2.2.2.2.2.2.2.2.2.2.2.2.2.2.2.2.2.2.2.2.2.2.2.2.2.2.2.2.2.2.2.2.2.2.2.2.2.2.1) (v.2.2.2.2.2.2.2.2.2.2.2.2.2.2.2.2.2.2.2.2.2.2.2.2.2.2.2.2.2.2.2.2.2.2.2.2.2.2.2.2.2.2.2.2.2.2.2)) h
noncomputable def w : World := zcv.1
noncomputable def p : Program := zcv.2.1
noncomputable def loose : List Str := zcv.2.2.1
noncomputable def mean : ExcName → Option Value := zcv.2.2.2.1
noncomputable def mg : Str → Option Value := zcv.2.2.2.2.1
noncomputable def mb : Str → Option Value := zcv.2.2.2.2.2.1
noncomputable def dp : Nat := zcv.2.2.2.2.2.2.1
noncomputable def un : Nat := zcv.2.2.2.2.2.2.2.1
noncomputable def gd : Option (List Code) := zcv.2.2.2.2.2.2.2.2.1
noncomputable def cn : Str := zcv.2.2.2.2.2.2.2.2.2.1
noncomputable def cs : Scope := zcv.2.2.2.2.2.2.2.2.2.2.1
noncomputable def a : Addr := zcv.2.2.2.2.2.2.2.2.2.2.2.1
noncomputable def ccd : Value := zcv.2.2.2.2.2.2.2.2.2.2.2.2.1
noncomputable def cl : List (Str × Addr) := zcv.2.2.2.2.2.2.2.2.2.2.2.2.2.1
noncomputable def outer : List Env := zcv.2.2.2.2.2.2.2.2.2.2.2.2.2.2.1
noncomputable def A₀ : Around := zcv.2.2.2.2.2.2.2.2.2.2.2.2.2.2.2.1
noncomputable def base : Heap := zcv.2.2.2.2.2.2.2.2.2.2.2.2.2.2.2.2.1
noncomputable def h₀ : Heap := zcv.2.2.2.2.2.2.2.2.2.2.2.2.2.2.2.2.2.1
noncomputable def L : Addr := zcv.2.2.2.2.2.2.2.2.2.2.2.2.2.2.2.2.2.2.1
noncomputable def m : Str → Option Value := zcv.2.2.2.2.2.2.2.2.2.2.2.2.2.2.2.2.2.2.2.1
noncomputable def s : Shared := zcv.2.2.2.2.2.2.2.2.2.2.2.2.2.2.2.2.2.2.2.2.1
noncomputable def Q : Value → Shared → Prop := zcv.2.2.2.2.2.2.2.2.2.2.2.2.2.2.2.2.2.2.2.2.2.1
noncomputable def E : Value → Shared → Prop := zcv.2.2.2.2.2.2.2.2.2.2.2.2.2.2.2.2.2.2.2.2.2.2.1
noncomputable def news : List (Addr × Obj) := zcv.2.2.2.2.2.2.2.2.2.2.2.2.2.2.2.2.2.2.2.2.2.2.2.1
noncomputable def oS : Obj := zcv.2.2.2.2.2.2.2.2.2.2.2.2.2.2.2.2.2.2.2.2.2.2.2.2.1
noncomputable def oX : Obj := zcv.2.2.2.2.2.2.2.2.2.2.2.2.2.2.2.2.2.2.2.2.2.2.2.2.2.1
noncomputable def g1 : Obj → List (Addr × Obj) := zcv.2.2.2.2.2.2.2.2.2.2.2.2.2.2.2.2.2.2.2.2.2.2.2.2.2.2.1
noncomputable def g2 : Obj → Obj → List (Addr × Obj) := zcv.2.2.2.2.2.2.2.2.2.2.2.2.2.2.2.2.2.2.2.2.2.2.2.2.2.2.2.1
noncomputable def f : Str → Option Int := zcv.2.2.2.2.2.2.2.2.2.2.2.2.2.2.2.2.2.2.2.2.2.2.2.2.2.2.2.2.1
noncomputable def x : Str → Option Int := zcv.2.2.2.2.2.2.2.2.2.2.2.2.2.2.2.2.2.2.2.2.2.2.2.2.2.2.2.2.2.1
noncomputable def nS : Nat := zcv.2.2.2.2.2.2.2.2.2.2.2.2.2.2.2.2.2.2.2.2.2.2.2.2.2.2.2.2.2.2.1
noncomputable def nX : Nat := zcv.2.2.2.2.2.2.2.2.2.2.2.2.2.2.2.2.2.2.2.2.2.2.2.2.2.2.2.2.2.2.2.1
noncomputable def st : Addr := zcv.2.2.2.2.2.2.2.2.2.2.2.2.2.2.2.2.2.2.2.2.2.2.2.2.2.2.2.2.2.2.2.2.1
noncomputable def S : Addr := zcv.2.2.2.2.2.2.2.2.2.2.2.2.2.2.2.2.2.2.2.2.2.2.2.2.2.2.2.2.2.2.2.2.2.1
noncomputable def X : Addr := zcv.2.2.2.2.2.2.2.2.2.2.2.2.2.2.2.2.2.2.2.2.2.2.2.2.2.2.2.2.2.2.2.2.2.2.1
noncomputable def V : Addr := zcv.2.2.2.2.2.2.2.2.2.2.2.2.2.2.2.2.2.2.2.2.2.2.2.2.2.2.2.2.2.2.2.2.2.2.2.1
noncomputable def clk : Addr := zcv.2.2.2.2.2.2.2.2.2.2.2.2.2.2.2.2.2.2.2.2.2.2.2.2.2.2.2.2.2.2.2.2.2.2.2.2.1
noncomputable def lim : Addr := zcv.2.2.2.2.2.2.2.2.2.2.2.2.2.2.2.2.2.2.2.2.2.2.2.2.2.2.2.2.2.2.2.2.2.2.2.2.2.1
noncomputable def it : Addr := zcv.2.2.2.2.2.2.2.2.2.2.2.2.2.2.2.2.2.2.2.2.2.2.2.2.2.2.2.2.2.2.2.2.2.2.2.2.2.2.1
noncomputable def nt : Addr := zcv.2.2.2.2.2.2.2.2.2.2.2.2.2.2.2.2.2.2.2.2.2.2.2.2.2.2.2.2.2.2.2.2.2.2.2.2.2.2.2.1
noncomputable def sec : Bool := zcv.2.2.2.2.2.2.2.2.2.2.2.2.2.2.2.2.2.2.2.2.2.2.2.2.2.2.2.2.2.2.2.2.2.2.2.2.2.2.2.2.1
noncomputable def ns : Str := zcv.2.2.2.2.2.2.2.2.2.2.2.2.2.2.2.2.2.2.2.2.2.2.2.2.2.2.2.2.2.2.2.2.2.2.2.2.2.2.2.2.2.1
noncomputable def names : List Str := zcv.2.2.2.2.2.2.2.2.2.2.2.2.2.2.2.2.2.2.2.2.2.2.2.2.2.2.2.2.2.2.2.2.2.2.2.2.2.2.2.2.2.2.1
noncomputable def am : Int := zcv.2.2.2.2.2.2.2.2.2.2.2.2.2.2.2.2.2.2.2.2.2.2.2.2.2.2.2.2.2.2.2.2.2.2.2.2.2.2.2.2.2.2.2.1
noncomputable def mu : Int := zcv.2.2.2.2.2.2.2.2.2.2.2.2.2.2.2.2.2.2.2.2.2.2.2.2.2.2.2.2.2.2.2.2.2.2.2.2.2.2.2.2.2.2.2.2.1
noncomputable def t : Int := zcv.2.2.2.2.2.2.2.2.2.2.2.2.2.2.2.2.2.2.2.2.2.2.2.2.2.2.2.2.2.2.2.2.2.2.2.2.2.2.2.2.2.2.2.2.2.1
noncomputable def cost : Int := zcv.2.2.2.2.2.2.2.2.2.2.2.2.2.2.2.2.2.2.2.2.2.2.2.2.2.2.2.2.2.2.2.2.2.2.2.2.2.2.2.2.2.2.2.2.2.2.1
noncomputable def tc : Tok := zcv.2.2.2.2.2.2.2.2.2.2.2.2.2.2.2.2.2.2.2.2.2.2.2.2.2.2.2.2.2.2.2.2.2.2.2.2.2.2.2.2.2.2.2.2.2.2.2
theorem walk1 : stestk_spec_St w p loose mean mg mb dp un gd cn cs a ccd cl outer A₀ base h₀ L m s Q E news oS oX g1 g2 f x nS nX st S X V clk lim it nt sec ns names am mu t cost tc := by
  intro key e pk ck B F KX T hk N O Li I J U1 U2 hS hX zS zX ee ek he he2 het ht epk eck hf hc hd hu retH
  subst epk eck ee ek
  refine lower ?_ hd hu
  obtain ⟨frz, n1, n2, N', sub, mem⟩ := split2 O.xs U1 U2 N
  have O' : Store w frz st S X V clk t := O.sub (fun q hq ho => sub q hq ho.1 ho.2.1)
  have I' := I.sub (news' := frz) (fun q hq ho => sub q hq ho.1 ho.2.1)
  have J' := J.sub (news' := frz) (fun q hq ho => sub q hq ho.1 ho.2.1)
  have Li' := Li.sub (news' := frz) (fun q hq ho => sub q hq ho.1 ho.2.1)
  have hkl := keyOf_len I' J'
  clear N U1 U2 sub O I J Li
  obtain ⟨ldx, lh, lt, ln, hlim, hldx, _, _⟩ := Li'
  have O'' := O'
  obtain ⟨⟨dx, h1, h2, h3, h4, t1, t2, t3, t4, nn, oc, od, fd, sl, hst, hck, hdx, _, _, _⟩, _, sx, xv, lS, lX, lV⟩ := O''
  revert KX; k_fill; intro KX
  refine wpAny_call ?_
  walk_at "m enter"
  k_steps
  subst_vars
  exact retH _ _ _ _ (by assumption) (news_of (by assumption) (fun p hp => .tail _ (mem _ _ p hp))) (DictV.mono (by assumption) (Nat.le_succ _)) (DictV.mono (by assumption) (Nat.le_succ _))
end c_stestk_spec
theorem stestk_spec {w : World} {p : Program} {loose : List Str} {mean : ExcName → Option Value} {mg : Str → Option Value} {mb : Str → Option Value} {dp : Nat} {un : Nat} {gd : Option (List Code)} {cn : Str} {cs : Scope} {a : Addr} {ccd : Value} {cl : List (Str × Addr)} {outer : List Env} {A₀ : Around} {base : Heap} {h₀ : Heap} {L : Addr} {m : Str → Option Value} {s : Shared} {Q : Value → Shared → Prop} {E : Value → Shared → Prop} (B : Below A₀ base outer h₀) (F : Fr h₀ L s.heap m) (KX : (Mine.hd1.heap_39 w.params).In h₀) (T : Top p loose mean mg mb h₀) (hk : cs.kind = .function) {news : List (Addr × Obj)} {oS : Obj} {oX : Obj} {g1 : Obj → List (Addr × Obj)} {g2 : Obj → Obj → List (Addr × Obj)} {f : Str → Option Int} {x : Str → Option Int} {nS : Nat} {nX : Nat} {st : Addr} {S : Addr} {X : Addr} {V : Addr} {clk : Addr} {lim : Addr} {it : Addr} {nt : Addr} {sec : Bool} {ns : Str} {key : Str} {names : List Str} {am : Int} {mu : Int} {t : Int} {e : Int} {pk : Str} {ck : Str} {cost : Int} {tc : Tok} (N : News h₀ L s.heap news) (O : Store w news st S X V clk t) (Li : LimAt news S X V 296 lim st) (I : ItemAt news S X V it sec ns am mu) (J : NamesAt news S X V nt names) (U1 : UpdF S oS news g1) (U2 : ∀ o, UpdF X oX (g1 o) (g2 o)) (hS : IntD PySem.Challenge.rw_ji0060_02.row.prog w oS f nS) (hX : IntD PySem.Challenge.rw_ji0060_02.row.prog w oX x nX) (zS : nS + 1 ≤ sizeLine) (zX : nX + 1 ≤ sizeLine) (ee : e = unitOf sec * mu) (ek : key = keyOf sec ns names am mu) (he : 0 < e) (he2 : e < 1000000) (het : e ≤ t) (ht : t < 1000000000000) (epk : pk = wkey key ((t - e).fdiv e)) (eck : ck = wkey key (t.fdiv e)) (hf : ∀ j, 0 ≤ (f j).getD 0 ∧ (f j).getD 0 ≤ 1000000) (hc : -1000000 ≤ cost ∧ cost ≤ 1000000) (hd : dp ≤ 820) (hu : un ≤ 8200) (retH : ∀ oS' oX' h' tk', Fr h₀ L h' m → News h₀ L h' (g2 oS' oX') → IntD PySem.Challenge.rw_ji0060_02.row.prog w oS' (F2 f x pk ck t) (nS + 1) → IntD PySem.Challenge.rw_ji0060_02.row.prog w oX' (F2 x x pk ck t) (nX + 1) → Q (.bool (decide (wF f x pk ck t e < am - cost + 1))) { s with heap := h', toks := tk' }) :
    wpAny (model PySem.Challenge.rw_ji0060_02.row.prog w) (ktrTop dp un gd cn cs L a ccd cl outer) (call (.ref 275) [.ref lim, .ref it, .ref nt] [(Str.ofString "cost", .int cost tc)]) Q E s :=
  c_stestk_spec.zal c_stestk_spec.walk1 (w, p, loose, mean, mg, mb, dp, un, gd, cn, cs, a, ccd, cl, outer, A₀, base, h₀, L, m, s, Q, E, news, oS, oX, g1, g2, f, x, nS, nX, st, S, X, V, clk, lim, it, nt, sec, ns, names, am, mu, t, cost, tc) _ _ _ _ B F KX T hk N O Li I J U1 U2 hS hX zS zX ee ek he he2 het ht epk eck hf hc hd hu retH
section
variable {w : World} {p : Program} {loose : List Str} {mean : ExcName → Option Value} {mg mb : Str → Option Value} {dp un : Nat} {gd : Option (List Code)} {cn : Str} {cs : Scope} {a : Addr} {ccd : Value} {cl : List (Str × Addr)} {outer : List Env} {A₀ : Around} {base h₀ : Heap} {L : Addr} {m : Str → Option Value} {s : Shared} {Q E : Value → Shared → Prop}
  (B : Below A₀ base outer h₀) (F : Fr h₀ L s.heap m) (KX : (Mine.hd1.heap_39 w.params).In h₀) (T : Top p loose mean mg mb h₀) (hk : cs.kind = .function)
include B F KX T hk
end

end

theorem said_stestk : True := by
  k_with "call ref" => (k_here; (with_reducible show wpAny _ _ (call (Value.ref 275) _ _) _ _ _); k_dflt (refine' stestk_spec ?zyB ?zyF ?zyX ?zyT ?zyk ?zyN ?zyO ?zyLi ?zyI ?zyJ ?zyU1 ?zyU2 ?zyhS ?zyhX ?zyzS ?zyzX ?zyee ?zyek ?zyhe ?zyhe2 ?zyhet ?zyht ?zyepk ?zyeck ?zyhf ?zyhc ?zyd ?zyu ?_; (case zyB => k_asm); (case zyF => k_asm); (case zyX => k_asm); (case zyT => k_asm); (case zyk => first | exact rfl | assumption); (case zyN => k_asm); (case zyO => refine' Store.sub ?zyo ?zys; (case zyo => assumption); (case zys => walk_at "m sub")); (case zyU1 => k_updF); (case zyU2 => (intro o1; (try dsimp only); k_updF)); (case zyhS => assumption); (case zyhX => assumption); (case zyzS => first | assumption | omega); (case zyzX => first | assumption | omega); (case zyLi => refine' LimAt.sub ?zyo ?zys; (case zyo => assumption); (case zys => walk_at "m sub")); (case zyI => refine' ItemAt.sub ?zyo ?zys; (case zyo => assumption); (case zys => walk_at "m sub")); (case zyJ => refine' NamesAt.sub ?zyo ?zys; (case zyo => assumption); (case zys => walk_at "m sub")); (case zyee => first | assumption | rfl); (case zyek => first | assumption | rfl); (case zyhe => walk_at "m om"); (case zyhe2 => walk_at "m om"); (case zyhet => walk_at "m om"); (case zyht => walk_at "m om"); (case zyepk => first | assumption | rfl); (case zyeck => first | assumption | rfl); (case zyhf => assumption); (case zyhc => walk_at "m om"); (case zyd => exact Nat.le_of_ble_eq_true rfl); (case zyu => exact Nat.le_of_ble_eq_true rfl); k_whole); (intro oS' oX' h' tk' F' N' hS' hX'; (try dsimp only at N'); (try dsimp only); (try k_sweep)))
  trivial
section
section
variable {w : World} {p : Program} {loose : List Str} {mean : ExcName → Option Value} {mg mb : Str → Option Value} {dp un : Nat} {gd : Option (List Code)} {cn : Str} {cs : Scope} {a : Addr} {ccd : Value} {cl : List (Str × Addr)} {outer : List Env} {A₀ : Around} {base h₀ : Heap} {L : Addr} {m : Str → Option Value} {s : Shared} {Q E : Value → Shared → Prop}
  (B : Below A₀ base outer h₀) (F : Fr h₀ L s.heap m) (KX : (Mine.hd1.heap_39 w.params).In h₀) (T : Top p loose mean mg mb h₀) (hk : cs.kind = .function)
include B F KX T hk


theorem sclear_spec {news : List (Addr × Obj)} {oS oX oV : Obj} {g1 : Obj → List (Addr × Obj)} {g2 : Obj → Obj → List (Addr × Obj)} {g3 : Obj → Obj → Obj → List (Addr × Obj)} {f x : Str → Option Int} {nS nX : Nat} {ev : Str → Option Addr} {nV : Nat} {st S X V clk lim it nt : Addr} {sec : Bool} {ns key : Str} {names : List Str} {am mu t e : Int} 
    (N : News h₀ L s.heap news) (O : Store w news st S X V clk t) (Li : LimAt news S X V 296 lim st) (I : ItemAt news S X V it sec ns am mu) (J : NamesAt news S X V nt names) (U1 : UpdF S oS news g1) (U2 : ∀ o, UpdF X oX (g1 o) (g2 o)) (U3 : ∀ o o', UpdF V oV (g2 o o') (g3 o o'))
    (hS : IntD PySem.Challenge.rw_ji0060_02.row.prog w oS f nS) (hX : IntD PySem.Challenge.rw_ji0060_02.row.prog w oX x nX) (hV : RefD PySem.Challenge.rw_ji0060_02.row.prog w oV ev nV) (zS : nS + 1 ≤ sizeLine) (zX : nX + 1 ≤ sizeLine) (zV : nV + 1 ≤ sizeLine) (ee : e = unitOf sec * mu) (ek : key = keyOf sec ns names am mu) (he : 0 < e) (he2 : e < 1000000) (het : e ≤ t) (ht : t < 1000000000000) (hd : dp ≤ 820) (hu : un ≤ 8200)
    (ret : ∀ oS' oX' oV' h' tk', Fr h₀ L h' m → News h₀ L h' (g3 oS' oX' oV') → IntD PySem.Challenge.rw_ji0060_02.row.prog w oS' (upd (upd f (wkey key ((t - e).fdiv e)) none) (wkey key (t.fdiv e)) none) nS → IntD PySem.Challenge.rw_ji0060_02.row.prog w oX' (upd (upd x (wkey key ((t - e).fdiv e)) none) (wkey key (t.fdiv e)) none) nX → RefD PySem.Challenge.rw_ji0060_02.row.prog w oV' (upd (upd ev (wkey key ((t - e).fdiv e)) none) (wkey key (t.fdiv e)) none) nV → Q .none { s with heap := h', toks := tk' }) :
    wpAny (model PySem.Challenge.rw_ji0060_02.row.prog w) (ktrTop dp un gd cn cs L a ccd cl outer) (call (.ref 293) [.ref lim, .ref it, .ref nt]) Q E s := by
  subst ee ek
  refine lower ?_ hd hu
  obtain ⟨frz, n1, n2, n3, N', sub, mem⟩ := split3 O.xs O.vs O.vx U1 U2 U3 N
  have O' : Store w frz st S X V clk t := O.sub (fun q hq ho => sub q hq ho.1 ho.2.1 ho.2.2)
  have I' := I.sub (news' := frz) (fun q hq ho => sub q hq ho.1 ho.2.1 ho.2.2)
  have J' := J.sub (news' := frz) (fun q hq ho => sub q hq ho.1 ho.2.1 ho.2.2)
  have Li' := Li.sub (news' := frz) (fun q hq ho => sub q hq ho.1 ho.2.1 ho.2.2)
  have hkl := keyOf_len I' J'
  clear N U1 U2 U3 sub O I J Li
  obtain ⟨ldx, lh, lt, ln, hlim, hldx, _, _⟩ := Li'
  have O'' := O'
  obtain ⟨⟨dx, h1, h2, h3, h4, t1, t2, t3, t4, nn, oc, od, fd, sl, hst, hck, hdx, _, _, _⟩, _, sx, xv, lS, lX, lV⟩ := O''
  revert KX; k_fill; intro KX
  refine wpAny_call ?_
  walk_at "m enter"
  k_steps
  exact ret _ _ _ _ _ (by assumption) (news_of (by assumption) (mem _ _ _)) (by assumption) (by assumption) (by assumption)
end

end

theorem said_sclear : True := by
  k_with "call ref" => (k_here; (with_reducible show wpAny _ _ (call (Value.ref 293) _) _ _ _); k_dflt (refine' sclear_spec ?zyB ?zyF ?zyX ?zyT ?zyk ?zyN ?zyO ?zyLi ?zyI ?zyJ ?zyU1 ?zyU2 ?zyU3 ?zyhS ?zyhX ?zyhV ?zyzS ?zyzX ?zyzV ?zyee ?zyek ?zyhe ?zyhe2 ?zyhet ?zyht ?zyd ?zyu ?_; (case zyB => k_asm); (case zyF => k_asm); (case zyX => k_asm); (case zyT => k_asm); (case zyk => first | exact rfl | assumption); (case zyN => k_asm); (case zyO => refine' Store.sub ?zyo ?zys; (case zyo => assumption); (case zys => walk_at "m sub")); (case zyU1 => k_updF); (case zyU2 => (intro o1; (try dsimp only); k_updF)); (case zyhS => assumption); (case zyhX => assumption); (case zyzS => first | assumption | omega); (case zyzX => first | assumption | omega); (case zyU3 => (intro o1 o2; (try dsimp only); k_updF)); (case zyhV => assumption); (case zyzV => walk_at "m om"); (case zyLi => refine' LimAt.sub ?zyo ?zys; (case zyo => assumption); (case zys => walk_at "m sub")); (case zyI => refine' ItemAt.sub ?zyo ?zys; (case zyo => assumption); (case zys => walk_at "m sub")); (case zyJ => refine' NamesAt.sub ?zyo ?zys; (case zyo => assumption); (case zys => walk_at "m sub")); (case zyee => first | assumption | rfl); (case zyek => first | assumption | rfl); (case zyhe => walk_at "m om"); (case zyhe2 => walk_at "m om"); (case zyhet => walk_at "m om"); (case zyht => walk_at "m om"); (case zyd => exact Nat.le_of_ble_eq_true rfl); (case zyu => exact Nat.le_of_ble_eq_true rfl); k_whole); (intro oS' oX' oV' h' tk' F' N' hS' hX' hV'; (try dsimp only at N'); (try dsimp only); (try k_sweep)))
  trivial
section
theorem said_p_mkT : True := by
  k_with "call builtin:tuple.__new__" => (k_here; (fail_if_success (fail_if_success (have := (by with_reducible assumption : Mk 126)))); k_dflt (refine' c_tupnew ?zyF ?zyX ?zyN ?zyhm ?zyhz ?_; (case zyF => k_asm); (case zyX => k_asm); (case zyN => k_asm); (case zyhm => k_mem); (case zyhz => exact Nat.le_of_ble_eq_true rfl); k_whole); (intro x' d' h' F' N' l1 l2; (try k_sweep)))
  trivial
theorem pk_nw (P : Params) (g : Program) : peek (Mine.hd1.heap_39 P) ⟨g, P⟩ (isInstance (.ref 132) (.type "type")) = some true := by kernel_rfl
theorem oi_args3 (x a b : Value) : argsOk "object.__init__" ⟨[x, a, b], []⟩ := by unfold argsOk; kernel_rfl
section
variable {w : World} {p : Program} {loose : List Str} {mean : ExcName → Option Value} {mg mb : Str → Option Value} {dp un : Nat} {gd : Option (List Code)} {cn : Str} {cs : Scope} {a : Addr} {ccd : Value} {cl : List (Str × Addr)} {outer : List Env} {A₀ : Around} {base h₀ : Heap} {L : Addr} {m : Str → Option Value} {s : Shared} {Q E : Value → Shared → Prop}
  (B : Below A₀ base outer h₀) (F : Fr h₀ L s.heap m) (KX : (Mine.hd1.heap_39 w.params).In h₀) (T : Top p loose mean mg mb h₀) (hk : cs.kind = .function)
include B F KX T hk

theorem make_T {va vb : Value} {news : List (Addr × Obj)} (N : News h₀ L s.heap news) (hd : dp ≤ 860) (hu : un ≤ 8600)
    (ret : ∀ x d h' tk', Fr h₀ L h' m → News h₀ L h' ((x, tupObj d [va, vb]) :: (d, emptyDict) :: news) → (∀ p ∈ news, @LT.lt Nat _ p.1 d) → @LT.lt Nat _ d x → Q (.ref x) { s with heap := h', toks := tk' }) :
    wpAny (model PySem.Challenge.rw_ji0060_02.row.prog w) (ktrTop dp un gd cn cs L a ccd cl outer) (call (.ref 132) [va, vb]) Q E s := by
  have mkp : Mk 126 := trivial
  refine lower ?_ hd hu
  revert KX; k_fill; intro KX
  obtain ⟨h0, g, d0, tt, os⟩ := s
  dsimp only at F N ret
  have XX := KX.keeps F.keep
  let M := model PySem.Challenge.rw_ji0060_02.row.prog w
  have L1 : Looks M h0 (specialOf (.ref 132) "__call__") (some (.builtin "type.__call__")) := Looks.of_peek XX (pk_cl _ _)
  have L2 : Looks M h0 (do return (← mroOf (.ref 132)).isEmpty) false := Looks.of_peek XX (pk_mr _ _)
  have L3 : Looks M h0 (Bind.madeBy (.ref 132)) none := Looks.of_peek XX (pk_mb _ _)
  have L4 : Looks M h0 (isInstance (.ref 132) (.type "type")) true := Looks.of_peek XX (pk_nw _ _)
  refine wpAny_call (codeAny_of_tree ?_)
  obtain ⟨oc, od, cd, sl, ho⟩ : ∃ oc od cd sl, (Mine.hd1.heap_39 w.params).lookup 132 = some ⟨oc, od, .cls cd, sl⟩ := by
    have e : isClsIn (Mine.hd1.heap_39 w.params) 132 = true := by k_is
    unfold isClsIn clsIn at e
    split at e
    · rename_i ho
      exact ⟨_, _, _, _, ho⟩
    · cases e
  show wpAny _ _ (callAny (.ref 132) _) _ _ _
  refine nd_load (XX _ _ ho) ?_
  show wpAny _ _ (callAny.viaDunder (.ref 132) _) _ _ _
  unfold callAny.viaDunder
  refine wpAny_bind (L1.at ?_)
  dsimp only
  rw [tc_bind]
  refine wpAny_bind (wpAny_pure (wpAny_bind (wpAny_pure ?_)))
  refine wpAny_pure (a := Fin.again (.call (.builtin "type.__call__") ⟨.ref 132 :: [va, vb], []⟩)) (And.intro rfl ?_)
  refine codeAny_call_builtin_at (Code.quiet_builtin _ (by decide +kernel)) entry_typeCall ?_
  refine' check_slot (i := "type.__call__") (owner := "type") (n := "__call__") ?ka ?kb ?kc ?kd ?_
  case ka => exact tc_kind
  case kb => exact tc_split
  case kc => exact L4
  case kd => exact tc_args _ _ _
  unfold Builtin.«type.__call__»
  have hc : clsIn (Mine.hd1.heap_39 w.params) 132 = some cd := by unfold clsIn; rw [ho]
  have e4 : cd.mro.isEmpty = false := by
    have e9 : subIn (Mine.hd1.heap_39 w.params) (.ref 132) (.type "tuple") = some true := by k_is
    replace e9 : mroIn (Mine.hd1.heap_39 w.params) 132 (.type "tuple") = some true := e9
    unfold mroIn at e9
    rw [hc, Option.bind_some] at e9
    cases q : cd.mro.isEmpty with
    | false => rfl
    | true => rw [q] at e9; cases e9
  have hm : Looks M h0 (mroOf (.ref 132)) cd.mro := ((Looks.ld (part := none) (XX _ _ ho)).andThen .now).andThen .now
  dsimp only
  rw [if_neg (by decide)]
  refine wpAny_bind (hm.at ?_)
  rw [e4, if_neg (by decide)]
  refine wpAny_bind (L3.at ?_)
  refine wpAny_bind ?_
  refine' cls_sm ?k1 ?k2 ?k3 ?k4 ?k5 ?k6 ?k7 ?_
  (case k1 => assumption)
  (case k2 => assumption)
  (case k3 => k_is)
  (case k4 => k_is)
  (case k5 => k_is)
  (case k6 => k_is)
  (case k7 => k_handed)
  refine wpAny_bind (wpAny_holding (wpAny_call ?_))
  walk_at "m enter"
  k_steps
  rename Fr h₀ L _ m => FF
  rename News h₀ L _ _ => NN
  have X2 := KX.keeps FF.keep
  have T1 : Looks M _ (typeOf (.ref _)) (.ref 132) := (Looks.ld (part := none) (NN _ (.head _)).1).andThen .now
  have S1 : Looks M _ (isSubtype (.ref 132) (.ref 132)) true := Looks.of_peek X2 (pk_ss _ _)
  have S2 : Looks M _ (isSubtype (.ref 132) (.type "object")) true := Looks.of_peek X2 (pk_so _ _)
  have S3 : Looks M _ (typeLookup (.ref 132) "__init__") (some (.builtin "object.__init__")) := Looks.of_peek X2 (pk_in _ _)
  have S4 : Looks M _ (Bind.madeBy (.ref 132)) none := Looks.of_peek X2 (pk_mb _ _)
  have I1 : Looks M _ (isInstance (.ref _) (.ref 132)) true := T1.andThen S1
  have I2 : Looks M _ (isInstance (.ref _) (.type "object")) true := T1.andThen S2
  have I3 : Looks M _ (specialOf (.ref _) "__init__") _ := T1.andThen S3
  refine wpAny_bind (I1.at ?_)
  rw [if_neg (by decide)]
  unfold callSpecial? specialOf
  refine wpAny_bind (wpAny_holding (wpAny_bind (I3.at ?_)))
  dsimp only
  refine wpAny_holding ?_
  rw [oi_bind]
  refine wpAny_bind (wpAny_pure (wpAny_bind (wpAny_call ?_)))
  show codeAny _ _ (.call (.builtin "object.__init__") ⟨[.ref _, va, vb], []⟩) _ _
  refine codeAny_call_builtin oi_plain entry_oi ?_
  refine' check_slot (i := "object.__init__") (owner := "object") (n := "__init__") ?ka ?kb ?kc ?kd ?_
  case ka => exact oi_kind
  case kb => exact oi_split
  case kc => exact I2
  case kd => exact oi_args3 _ _ _
  unfold Builtin.«object.__init__»
  simp only [List.cons_append, List.nil_append]
  rw [if_pos (show (!(List.isEmpty [va, vb]) || !(List.isEmpty ([] : List (Str × Value)))) = true from rfl)]
  refine wpAny_bind (T1.at ?_)
  refine wpAny_bind (S3.at ?_)
  refine wpAny_bind (S4.at ?_)
  rw [if_neg (by decide)]
  rw [if_neg (by decide)]
  refine wpAny_pure ?_
  refine wpAny_pure (wpAny_pure ?_)
  exact ret _ _ _ _ FF (news_of NN (cons_sub (cons_sub (fun p hp => .tail _ hp)))) (fun p hp => (by assumption : ∀ q ∈ _ :: news, q.1 < _) p (.tail _ hp)) (by assumption)
end

end

theorem said_mkT : True := by
  k_with "call ref" => (k_here; (with_reducible show wpAny _ _ (call (Value.ref 132) [_, _]) _ _ _); k_dflt (refine' make_T ?zyB ?zyF ?zyX ?zyT ?zyk ?zyN ?zyd ?zyu ?_; (case zyB => k_asm); (case zyF => k_asm); (case zyX => k_asm); (case zyT => k_asm); (case zyk => first | exact rfl | assumption); (case zyN => k_asm); (case zyd => exact Nat.le_of_ble_eq_true rfl); (case zyu => exact Nat.le_of_ble_eq_true rfl); k_whole); (intro x' d' h' tk' F' N' l1 l2; (replace l1 := allLt_of l1); (have l3 := l1); (try simp only [AllLt, and_true] at l3); (try dsimp only at N'); (try dsimp only); (try k_sweep)))
  trivial
section
/-- the told reset: a number and the number that it is over -/
noncomputable def StatP (pc ttl cc cx t e num den : Int) : Prop :=
  (pc = 0 ∧ cc = 0 ∧ num = t ∧ den = 1) ∨ (pc = 0 ∧ cc ≠ 0 ∧ num = t + cx.fmod e ∧ den = 1) ∨ (pc ≠ 0 ∧ cc = 0 ∧ num = t * pc + (ttl * pc).fmod e ∧ den = pc) ∨
  (pc ≠ 0 ∧ cc ≠ 0 ∧ num = t * pc + (if cx.fmod e * pc < (ttl * pc).fmod e then cx.fmod e * pc else (ttl * pc).fmod e) ∧ den = pc)
noncomputable def remF (am wt : Int) : Int := if am - wt > 0 then am - wt else 0
section
variable {w : World} {p : Program} {loose : List Str} {mean : ExcName → Option Value} {mg mb : Str → Option Value} {dp un : Nat} {gd : Option (List Code)} {cn : Str} {cs : Scope} {a : Addr} {ccd : Value} {cl : List (Str × Addr)} {outer : List Env} {A₀ : Around} {base h₀ : Heap} {L : Addr} {m : Str → Option Value} {s : Shared} {Q E : Value → Shared → Prop}
  (B : Below A₀ base outer h₀) (F : Fr h₀ L s.heap m) (KX : (Mine.hd1.heap_39 w.params).In h₀) (T : Top p loose mean mg mb h₀) (hk : cs.kind = .function)
include B F KX T hk


end
noncomputable def sstat_spec_St (w : World) (p : Program) (loose : List Str) (mean : ExcName → Option Value) (mg : Str → Option Value) (mb : Str → Option Value) (dp : Nat) (un : Nat) (gd : Option (List Code)) (cn : Str) (cs : Scope) (a : Addr) (ccd : Value) (cl : List (Str × Addr)) (outer : List Env) (A₀ : Around) (base : Heap) (h₀ : Heap) (L : Addr) (m : Str → Option Value) (s : Shared) (Q : Value → Shared → Prop) (E : Value → Shared → Prop) (news : List (Addr × Obj)) (oS : Obj) (oX : Obj) (g1 : Obj → List (Addr × Obj)) (g2 : Obj → Obj → List (Addr × Obj)) (f : Str → Option Int) (x : Str → Option Int) (nS : Nat) (nX : Nat) (st : Addr) (S : Addr) (X : Addr) (V : Addr) (clk : Addr) (lim : Addr) (it : Addr) (nt : Addr) (sec : Bool) (ns : Str) (names : List Str) (am : Int) (mu : Int) (t : Int) : Prop := ∀ (key : Str) (e : Int) (pk : Str) (ck : Str) (B : Below A₀ base outer h₀) (F : Fr h₀ L s.heap m) (KX : (Mine.hd1.heap_39 w.params).In h₀) (T : Top p loose mean mg mb h₀) (hk : cs.kind = .function) (N : News h₀ L s.heap news) (O : Store w news st S X V clk t) (Li : LimAt news S X V 296 lim st) (I : ItemAt news S X V it sec ns am mu) (J : NamesAt news S X V nt names) (U1 : UpdF S oS news g1) (U2 : ∀ o, UpdF X oX (g1 o) (g2 o)) (hS : IntD PySem.Challenge.rw_ji0060_02.row.prog w oS f nS) (hX : IntD PySem.Challenge.rw_ji0060_02.row.prog w oX x nX) (zS : nS + 1 ≤ sizeLine) (zX : nX + 1 ≤ sizeLine) (ee : e = unitOf sec * mu) (ek : key = keyOf sec ns names am mu) (he : 0 < e) (he2 : e < 1000000) (het : e ≤ t) (ht : t < 1000000000000) (epk : pk = wkey key ((t - e).fdiv e)) (eck : ck = wkey key (t.fdiv e)) (hf : ∀ j, 0 ≤ (f j).getD 0 ∧ (f j).getD 0 ≤ 1000000) (hd : dp ≤ 820) (hu : un ≤ 8200) (retH : ∀ pc ttl cc num den y d q r r1 r2 oS' oX' h' tk' , pc = pcF f x pk t → ttl = ttlF pc t e → cc = ccF f x pk ck t → StatP pc ttl cc (e - t.fmod e + e) t e num den → Fr h₀ L h' m → News h₀ L h' ((y, tupObj d [.ref q, .int (remF am ((pc * ttl).fdiv e + cc)) r]) :: (d, emptyDict) :: (q, { cls := .type "tuple", data := .seq #[.int num r1, .int den r2] }) :: g2 oS' oX') → AllLt q (g2 oS' oX') → @LT.lt Nat _ q d → @LT.lt Nat _ d y → IntD PySem.Challenge.rw_ji0060_02.row.prog w oS' (F2 f x pk ck t) (nS + 1) → IntD PySem.Challenge.rw_ji0060_02.row.prog w oX' (F2 x x pk ck t) (nX + 1) → Q (.ref y) { s with heap := h', toks := tk' }), wpAny (model PySem.Challenge.rw_ji0060_02.row.prog w) (ktrTop dp un gd cn cs L a ccd cl outer) (call (.ref 284) [.ref lim, .ref it, .ref nt]) Q E s
namespace c_sstat_spec
noncomputable def zcv : (World) × (Program) × (List Str) × (ExcName → Option Value) × (Str → Option Value) × (Str → Option Value) × (Nat) × (Nat) × (Option (List Code)) × (Str) × (Scope) × (Addr) × (Value) × (List (Str × Addr)) × (List Env) × (Around) × (Heap) × (Heap) × (Addr) × (Str → Option Value) × (Shared) × (Value → Shared → Prop) × (Value → Shared → Prop) × (List (Addr × Obj)) × (Obj) × (Obj) × (Obj → List (Addr × Obj)) × (Obj → Obj → List (Addr × Obj)) × (Str → Option Int) × (Str → Option Int) × (Nat) × (Nat) × (Addr) × (Addr) × (Addr) × (Addr) × (Addr) × (Addr) × (Addr) × (Addr) × (Bool) × (Str) × (List Str) × (Int) × (Int) × (Int) := pick (neP neW (neP inferInstance (neP inferInstance (neP inferInstance (neP inferInstance (neP inferInstance (neP inferInstance (neP inferInstance (neP inferInstance (neP inferInstance (neP inferInstance (neP inferInstance (neP inferInstance (neP inferInstance (neP inferInstance (neP neA (neP inferInstance (neP inferInstance (neP inferInstance (neP inferInstance (neP neS (neP inferInstance (neP inferInstance (neP inferInstance (neP inferInstance (neP inferInstance (neP inferInstance (neP inferInstance (neP inferInstance (neP inferInstance (neP inferInstance (neP inferInstance (neP inferInstance (neP inferInstance (neP inferInstance (neP inferInstance (neP inferInstance (neP inferInstance (neP inferInstance (neP inferInstance (neP inferInstance (neP inferInstance (neP inferInstance (neP inferInstance (neP inferInstance inferInstance))))))))))))))))))))))))))))))))))))))))))))) (fun v : (World) × (Program) × (List Str) × (ExcName → Option Value) × (Str → Option Value) × (Str → Option Value) × (Nat) × (Nat) × (Option (List Code)) × (Str) × (Scope) × (Addr) × (Value) × (List (Str × Addr)) × (List Env) × (Around) × (Heap) × (Heap) × (Addr) × (Str → Option Value) × (Shared) × (Value → Shared → Prop) × (Value → Shared → Prop) × (List (Addr × Obj)) × (Obj) × (Obj) × (Obj → List (Addr × Obj)) × (Obj → Obj → List (Addr × Obj)) × (Str → Option Int) × (Str → Option Int) × (Nat) × (Nat) × (Addr) × (Addr) × (Addr) × (Addr) × (Addr) × (Addr) × (Addr) × (Addr) × (Bool) × (Str) × (List Str) × (Int) × (Int) × (Int) => sstat_spec_St (v.1) (v.2.1) (v.2.2.1) (v.2.2.2.1) (v.2.2.2.2.1) (v.2.2.2.2.2.1) (v.2.2.2.2.2.2.1) (v.2.2.2.2.2.2.2.1) (v.2.2.2.2.2.2.2.2.1) (v.2.2.2.2.2.2.2.2.2.1) (v.2.2.2.2.2.2.2.2.2.2.1) (v.2.2.2.2.2.2.2.2.2.2.2.1) (v.2.2.2.2.2.2.2.2.2.2.2.2.1) (v.2.2.2.2.2.2.2.2.2.2.2.2.2.1) (v.2.2.2.2.2.2.2.2.2.2.2.2.2.2.1) (v.2.2.2.2.2.2.2.2.2.2.2.2.2.2.2.1) (v.2.2.2.2.2.2.2.2.2.2.2.2.2.2.2.2.1) (v.2.2.2.2.2.2.2.2.2.2.2.2.2.2.2.2.2.1) (v.2.2.2.2.2.2.2.2.2.2.2.2.2.2.2.2.2.2.1) (v.2.2.2.2.2.2.2.2.2.2.2.2.2.2.2.2.2.2.2.1) (v.2.2.2.2.2.2.2.2.2.2.2.2.2.2.2.2.2.2.2.2.1) (v.2.2.2.2.2.2.2.2.2.2.2.2.2.2.2.2.2.2.2.2.2.1) (v.2.2.2.2.2.2.2.2.2.2.2.2.2.2.2.2.2.2.2.2.2.2.1) (v.2.2.2.2.2.2.2.2.2.2.2.2.2.2.2.2.2.2.2.2.2.2.2.1) (v.2.2.2.2.2.2.2.2.2.2.2.2.2.2.2.2.2.2.2.2.2.2.2.2.1) (v.2.2.2.2.2.2.2.2.2.2.2.2.2.2.2.2.2.2.2.2.2.2.2.2.2.1) (v.2.2.2.2.2.2.2.2.2.2.2.2.2.2.2.2.2.2.2.2.2.2.2.2.2.2.1) (v.2.2.2.2.2.2.2.2.2.2.2.2.2.2.2.2.2.2.2.2.2.2.2.2.2.2.2.1) (v.2.2.2.2.2.2.2.2.2.2.2.2.2.2.2.2.2.2.2.2.2.2.2.2.2.2.2.2.1) (v.2.2.2.2.2.2.2.2.2.2.2.2.2.2.2.2.2.2.2.2.2.2.2.2.2.2.2.2.2.1) (v.2.2.2.2.2.2.2.2.2.2.2.2.2.2.2.2.2.2.2.2.2.2.2.2.2.2.2.2.2.2.1) (v.2.2.2.2.2.2.2.2.2.2.2.2.2.2.2.2.2.2.2.2.2.2.2.2.2.2.2.2.2.2.2.1) (v.2.2.2.2.2.2.2.2.2.2.2.2.2.2.2.2.2.2.2.2.2.2.2.2.2.2.2.2.2.2.2.2.1) (v.2.2.2.2.2.2.2.2.2.2.2.2.2.2.2.2.2.2.2.2.2.2.2.2.2.2.2.2.2.2.2.2.2.1) (v.2.2.2.2.2.2.2.2.2.2.2.2.2.2.2.2.2.2.2.2.2.2.2.2.2.2.2.2.2.2.2.2.2.2.1) (v.2.2.2.2.2.2.2.2.2.2.2.2.2.2.2.2.2.2.2.2.2.2.2.2.2.2.2.2.2.2.2.2.2.2.2.1) (v.2.2.2.2.2.2.2.2.2.2.2.2.2.2.2.2.2.2.2.2.2.2.2.2.2.2.2.2.2.2.2.2.2.2.2.2.1) (v.2.2.2.2.2.2.2.2.2.2.2.2.2.2.2.2.2.2.2.2.2.2.2.2.2.2.2.2.2.2.2.2.2.2.2.2.2.1) (v.2.2.2.2.2.2.2.2.2.2.2.2.2.2.2.2.2.2.2.2.2.2.2.2.2.2.2.2.2.2.2.2.2.2.2.2.2.2.1) (v.2.2.2.2.2.2.2.2.2.2.2.2.2.2.2.2.2.2.2.2.2.2.2.2.2.2.2.2.2.2.2.2.2.2.2.2.2.2.2.1) (v.2.2.2.2.2.2.2.2.2.2.2.2.2.2.2.2.2.2.2.2.2.2.2.2.2.2.2.2.2.2.2.2.2.2.2.2.2.2.2.2.1) (v.2.2.2.2.2.2.2.2.2.2.2.2.2.2.2.2.2.2.2.2.2.2.2.2.2.2.2.2.2.2.2.2.2.2.2.2.2.2.2.2.2.1) (v.2.2.2.2.2.2.2.2.2.2.2.2.2.2.2.2.2.2.2.2.2.2.2.2.2.2.2.2.2.2.2.2.2.2.2.2.2.2.2.2.2.2.1) (v.2.2.2.2.2.2.2.2.2.2.2.2.2.2.2.2.2.2.2.2.2.2.2.2.2.2.2.2.2.2.2.2.2.2.2.2.2.2.2.2.2.2.2.1) (v.2.2.2.2.2.2.2.2.2.2.2.2.2.2.2.2.2.2.2.2.2.2.2.2.2.2.2.2.2.2.2.2.2.2.2.2.2.2.2.2.2.2.2.2.1) (v.2.2.2.2.2.2.2.2.2.2.2.2.2.2.2.2.2.2.2.2.2.2.2.2.2.2.2.2.2.2.2.2.2.2.2.2.2.2.2.2.2.2.2.2.2)) 0
theorem zal (h : sstat_spec_St (zcv.1) (zcv.2.1) (zcv.2.2.1) (zcv.2.2.2.1) (zcv.2.2.2.2.1) (zcv.2.2.2.2.2.1) (zcv.2.2.2.2.2.2.1) (zcv.2.2.2.2.2.2.2.1) (zcv.2.2.2.2.2.2.2.2.1) (zcv.2.2.2.2.2.2.2.2.2.1) (zcv.2.2.2.2.2.2.2.2.2.2.1) (zcv.2.2.2.2.2.2.2.2.2.2.2.1) (zcv.2.2.2.2.2.2.2.2.2.2.2.2.1) (zcv.2.2.2.2.2.2.2.2.2.2.2.2.2.1) (zcv.2.2.2.2.2.2.2.2.2.2.2.2.2.2.1) (zcv.2.2.2.2.2.2.2.2.2.2.2.2.2.2.2.1) (zcv.2.2.2.2.2.2.2.2.2.2.2.2.2.2.2.2.1) (zcv.2.2.2.2.2.2.2.2.2.2.2.2.2.2.2.2.2.1) (zcv.2.2.2.2.2.2.2.2.2.2.2.2.2.2.2.2.2.2.1) (zcv.2.2.2.2.2.2.2.2.2.2.2.2.2.2.2.2.2.2.2.1) (zcv.2.2.2.2.2.2.2.2.2.2.2.2.2.2.2.2.2.2.2.2.1) (zcv.2.2.2.2.2.2.2.2.2.2.2.2.2.2.2.2.2.2.2.2.2.1) (zcv.2.2.2.2.2.2.2.2.2.2.2.2.2.2.2.2.2.2.2.2.2.2.1) (zcv.2.2.2.2.2.2.2.2.2.2.2.2.2.2.2.2.2.2.2.2.2.2.2.1) (zcv.2.2.2.2.2.2.2.2.2.2.2.2.2.2.2.2.2.2.2.2.2.2.2.2.1) (zcv.2.2.2.2.2.2.2.2.2.2.2.2.2.2.2.2.2.2.2.2.2.2.2.2.2.1) (zcv.2.2.2.2.2.2.2.2.2.2.2.2.2.2.2.2.2.2.2.2.2.2.2.2.2.2.1) (zcv.2.2.2.2.2.2.2.2.2.2.2.2.2.2.2.2.2.2.2.2.2.2.2.2.2.2.2.1) (zcv.2.2.2.2.2.2.2.2.2.2.2.2.2.2.2.2.2.2.2.2.2.2.2.2.2.2.2.2.1) (zcv.2.2.2.2.2.2.2.2.2.2.2.2.2.2.2.2.2.2.2.2.2.2.2.2.2.2.2.2.2.1) (zcv.2.2.2.2.2.2.2.2.2.2.2.2.2.2.2.2.2.2.2.2.2.2.2.2.2.2.2.2.2.2.1) (zcv.2.2.2.2.2.2.2.2.2.2.2.2.2.2.2.2.2.2.2.2.2.2.2.2.2.2.2.2.2.2.2.1) (zcv.2.2.2.2.2.2.2.2.2.2.2.2.2.2.2.2.2.2.2.2.2.2.2.2.2.2.2.2.2.2.2.2.1) (zcv.2.2.2.2.2.2.2.2.2.2.2.2.2.2.2.2.2.2.2.2.2.2.2.2.2.2.2.2.2.2.2.2.2.1) (zcv.2.2.2.2.2.2.2.2.2.2.2.2.2.2.2.2.2.2.2.2.2.2.2.2.2.2.2.2.2.2.2.2.2.2.1) (zcv.2.2.2.2.2.2.2.2.2.2.2.2.2.2.2.2.2.2.2.2.2.2.2.2.2.2.2.2.2.2.2.2.2.2.2.1) (zcv.2.2.2.2.2.2.2.2.2.2.2.2.2.2.2.2.2.2.2.2.2.2.2.2.2.2.2.2.2.2.2.2.2.2.2.2.1) (zcv.2.2.2.2.2.2.2.2.2.2.2.2.2.2.2.2.2.2.2.2.2.2.2.2.2.2.2.2.2.2.2.2.2.2.2.2.2.1) (zcv.2.2.2.2.2.2.2.2.2.2.2.2.2.2.2.2.2.2.2.2.2.2.2.2.2.2.2.2.2.2.2.2.2.2.2.2.2.2.1) (zcv.2.2.2.2.2.2.2.2.2.2.2.2.2.2.2.2.2.2.2.2.2.2.2.2.2.2.2.2.2.2.2.2.2.2.2.2.2.2.2.1) (zcv.2.2.2.2.2.2.2.2.2.2.2.2.2.2.2.2.2.2.2.2.2.2.2.2.2.2.2.2.2.2.2.2.2.2.2.2.2.2.2.2.1) (zcv.2.2.2.2.2.2.2.2.2.2.2.2.2.2.2.2.2.2.2.2.2.2.2.2.2.2.2.2.2.2.2.2.2.2.2.2.2.2.2.2.2.1) (zcv.2.2.2.2.2.2.2.2.2.2.2.2.2.2.2.2.2.2.2.2.2.2.2.2.2.2.2.2.2.2.2.2.2.2.2.2.2.2.2.2.2.2.1) (zcv.2.2.2.2.2.2.2.2.2.2.2.2.2.2.2.2.2.2.2.2.2.2.2.2.2.2.2.2.2.2.2.2.2.2.2.2.2.2.2.2.2.2.2.1) (zcv.2.2.2.2.2.2.2.2.2.2.2.2.2.2.2.2.2.2.2.2.2.2.2.2.2.2.2.2.2.2.2.2.2.2.2.2.2.2.2.2.2.2.2.2.1) (zcv.2.2.2.2.2.2.2.2.2.2.2.2.2.2.2.2.2.2.2.2.2.2.2.2.2.2.2.2.2.2.2.2.2.2.2.2.2.2.2.2.2.2.2.2.2)) : ∀ u : (World) × (Program) × (List Str) × (ExcName → Option Value) × (Str → Option Value) × (Str → Option Value) × (Nat) × (Nat) × (Option (List Code)) × (Str) × (Scope) × (Addr) × (Value) × (List (Str × Addr)) × (List Env) × (Around) × (Heap) × (Heap) × (Addr) × (Str → Option Value) × (Shared) × (Value → Shared → Prop) × (Value → Shared → Prop) × (List (Addr × Obj)) × (Obj) × (Obj) × (Obj → List (Addr × Obj)) × (Obj → Obj → List (Addr × Obj)) × (Str → Option Int) × (Str → Option Int) × (Nat) × (Nat) × (Addr) × (Addr) × (Addr) × (Addr) × (Addr) × (Addr) × (Addr) × (Addr) × (Bool) × (Str) × (List Str) × (Int) × (Int) × (Int), sstat_spec_St (u.1) (u.2.1) (u.2.2.1) (u.2.2.2.1) (u.2.2.2.2.1) (u.2.2.2.2.2.1) (u.2.2.2.2.2.2.1) (u.2.2.2.2.2.2.2.1) (u.2.2.2.2.2.2.2.2.1) (u.2.2.2.2.2.2.2.2.2.1) (u.2.2.2.2.2.2.2.2.2.2.1) (u.2.2.2.2.2.2.2.2.2.2.2.1) (u.2.2.2.2.2.2.2.2.2.2.2.2.1) (u.2.2.2.2.2.2.2.2.2.2.2.2.2.1) (u.2.2.2.2.2.2.2.2.2.2.2.2.2.2.1) (u.2.2.2.2.2.2.2.2.2.2.2.2.2.2.2.1) (u.2.2.2.2.2.2.2.2.2.2.2.2.2.2.2.2.1) (u.2.2.2.2.2.2.2.2.2.2.2.2.2.2.2.2.2.1) (u.2.2.2.2.2.2.2.2.2.2.2.2.2.2.2.2.2.2.1) (u.2.2.2.2.2.2.2.2.2.2.2.2.2.2.2.2.2.2.2.1) (u.2.2.2.2.2.2.2.2.2.2.2.2.2.2.2.2.2.2.2.2.1) (u.2.2.2.2.2.2.2.2.2.2.2.2.2.2.2.2.2.2.2.2.2.1) (u.2.2.2.2.2.2.2.2.2.2.2.2.2.2.2.2.2.2.2.2.2.2.1) (u.2.2.2.2.2.2.2.2.2.2.2.2.2.2.2.2.2.2.2.2.2.2.2.1) (u.2.2.2.2.2.2.2.2.2.2.2.2.2.2.2.2.2.2.2.2.2.2.2.2.1) (u.2.2.2.2.2.2.2.2.2.2.2.2.2.2.2.2.2.2.2.2.2.2.2.2.2.1) (u.2.2.2.2.2.2.2.2.2.2.2.2.2.2.2.2.2.2.2.2.2.2.2.2.2.2.1) (u.2.2.2.2.2.2.2.2.2.2.2.2.2.2.2.2.2.2.2.2.2.2.2.2.2.2.2.1) (u.2.2.2.2.2.2.2.2.2.2.2.2.2.2.2.2.2.2.2.2.2.2.2.2.2.2.2.2.1) (u.2.2.2.2.2.2.2.2.2.2.2.2.2.2.2.2.2.2.2.2.2.2.2.2.2.2.2.2.2.1) (u.2.2.2.2.2.2.2.2.2.2.2.2.2.2.2.2.2.2.2.2.2.2.2.2.2.2.2.2.2.2.1) (u.2.2.2.2.2.2.2.2.2.2.2.2.2.2.2.2.2.2.2.2.2.2.2.2.2.2.2.2.2.2.2.1) (u.2.2.2.2.2.2.2.2.2.2.2.2.2.2.2.2.2.2.2.2.2.2.2.2.2.2.2.2.2.2.2.2.1) (u.2.2.2.2.2.2.2.2.2.2.2.2.2.2.2.2.2.2.2.2.2.2.2.2.2.2.2.2.2.2.2.2.2.1) (u.2.2.2.2.2.2.2.2.2.2.2.2.2.2.2.2.2.2.2.2.2.2.2.2.2.2.2.2.2.2.2.2.2.2.1) (u.2.2.2.2.2.2.2.2.2.2.2.2.2.2.2.2.2.2.2.2.2.2.2.2.2.2.2.2.2.2.2.2.2.2.2.1) (u.2.2.2.2.2.2.2.2.2.2.2.2.2.2.2.2.2.2.2.2.2.2.2.2.2.2.2.2.2.2.2.2.2.2.2.2.1) (u.2.2.2.2.2.2.2.2.2.2.2.2.2.2.2.2.2.2.2.2.2.2.2.2.2.2.2.2.2.2.2.2.2.2.2.2.2.1) (u.2.2.2.2.2.2.2.2.2.2.2.2.2.2.2.2.2.2.2.2.2.2.2.2.2.2.2.2.2.2.2.2.2.2.2.2.2.2.1) (u.2.2.2.2.2.2.2.2.2.2.2.2.2.2.2.2.2.2.2.2.2.2.2.2.2.2.2.2.2.2.2.2.2.2.2.2.2.2.2.1) (u.2.2.2.2.2.2.2.2.2.2.2.2.2.2.2.2.2.2.2.2.2.2.2.2.2.2.2.2.2.2.2.2.2.2.2.2.2.2.2.2.1) (u.2.2.2.2.2.2.2.2.2.2.2.2.2.2.2.2.2.2.2.2.2.2.2.2.2.2.2.2.2.2.2.2.2.2.2.2.2.2.2.2.2.1) (u.2.2.2.2.2.2.2.2.2.2.2.2.2.2.2.2.2.2.2.2.2.2.2.2.2.2.2.2.2.2.2.2.2.2.2.2.2.2.2.2.2.2.1) (u.2.2.2.2.2.2.2.2.2.2.2.2.2.2.2.2.2.2.2.2.2.2.2.2.2.2.2.2.2.2.2.2.2.2.2.2.2.2.2.2.2.2.2.1) (u.2.2.2.2.2.2.2.2.2.2.2.2.2.2.2.2.2.2.2.2.2.2.2.2.2.2.2.2.2.2.2.2.2.2.2.2.2.2.2.2.2.2.2.2.1) (u.2.2.2.2.2.2.2.2.2.2.2.2.2.2.2.2.2.2.2.2.2.2.2.2.2.2.2.2.2.2.2.2.2.2.2.2.2.2.2.2.2.2.2.2.2) := pick_all (P := fun v : (World) × (Program) × (List Str) × (ExcName → Option Value) × (Str → Option Value) × (Str → Option Value) × (Nat) × (Nat) × (Option (List Code)) × (Str) × (Scope) × (Addr) × (Value) × (List (Str × Addr)) × (List Env) × (Around) × (Heap) × (Heap) × (Addr) × (Str → Option Value) × (Shared) × (Value → Shared → Prop) × (Value → Shared → Prop) × (List (Addr × Obj)) × (Obj) × (Obj) × (Obj → List (Addr × Obj)) × (Obj → Obj → List (Addr × Obj)) × (Str → Option Int) × (Str → Option Int) × (Nat) × (Nat) × (Addr) × (Addr) × (Addr) × (Addr) × (Addr) × (Addr) × (Addr) × (Addr) × (Bool) × (Str) × (List Str) × (Int) × (Int) × (Int) => sstat_spec_St (v.1) (v.2.1) (v.2.2.1) (v.2.2.2.1) (v.2.2.2.2.1) (v.2.2.2.2.2.1) (v.2.2.2.2.2.2.1) (v.2.2.2.2.2.2.2.1) (v.2.2.2.2.2.2.2.2.1) (v.2.2.2.2.2.2.2.2.2.1) (v.2.2.2.2.2.2.2.2.2.2.1) (v.2.2.2.2.2.2.2.2.2.2.2.1) (v.2.2.2.2.2.2.2.2.2.2.2.2.1) (v.2.2.2.2.2.2.2.2.2.2.2.2.2.1) (v.2.2.2.2.2.2.2.2.2.2.2.2.2.2.1) (v.2.2.2.2.2.2.2.2.2.2.2.2.2.2.2.1) (v.2.2.2.2.2.2.2.2.2.2.2.2.2.2.2.2.1) (v.2.2.2.2.2.2.2.2.2.2.2.2.2.2.2.2.2.1) (v.2.2.2.2.2.2.2.2.2.2.2.2.2.2.2.2.2.2.1) (v.2.2.2.2.2.2.2.2.2.2.2.2.2.2.2.2.2.2.2.1) (v.2.2.2.2.2.2.2.2.2.2.2.2.2.2.2.2.2.2.2.2.1) (v.2.2.2.2.2.2.2.2.2.2.2.2.2.2.2.2.2.2.2.2.2.1) (v.2.2.2.2.2.2.2.2.2.2.2.2.2.2.2.2.2.2.2.2.2.2.1) (v.2.2.2.2.2.2.2.2.2.2.2.2.2.2.2.2.2.2.2.2.2.2.2.1) (v.2.2.2.2.2.2.2.2.2.2.2.2.2.2.2.2.2.2.2.2.2.2.2.2.1) (v.2.2.2.2.2.2.2.2.2.2.2.2.2.2.2.2.2.2.2.2.2.2.2.2.2.1) (v.2.2.2.2.2.2.2.2.2.2.2.2.2.2.2.2.2.2.2.2.2.2.2.2.2.2.1) (v.2.2.2.2.2.2.2.2.2.2.2.2.2.2.2.2.2.2.2.2.2.2.2.2.2.2.2.1) (v.2.2.2.2.2.2.2.2.2.2.2.2.2.2.2.2.2.2.2.2.2.2.2.2.2.2.2.2.1) (v.2.2.2.2.2.2.2.2.2.2.2.2.2.2.2.2.2.2.2.2.2.2.2.2.2.2.2.2.2.1) (v.2.2.2.2.2.2.2.2.2.2.2.2.2.2.2.2.2.2.2.2.2.2.2.2.2.2.2.2.2.2.1) (v.2.2.2.2.2.2.2.2.2.2.2.2.2.2.2.2.2.2.2.2.2.2.2.2.2.2.2.2.2.2.2.1) (v.2.2.2.2.2.2.2.2.2.2.2.2.2.2.2.2.2.2.2.2.2.2.2.2.2.2.2.2.2.2.2.2.1) (v.2.2.2.2.2.2.2.2.2.2.2.2.2.2.2.2.2.2.2.2.2.2.2.2.2.2.2.2.2.2.2.2.2.1) (v.2.2.2.2.2.2.2.2.2.2.2.2.2.2.2.2.2.2.2.2.2.2.2.2.2.2.2.2.2.2.2.2.2.2.1) (v.2.2.2.2.2.2.2.2.2.2.2.2.2.2.2.2.2.2.2.2.2.2.2.2.2.2.2.2.2.2.2.2.2.2.2.1) (v.2.2.2.2.2.2.2.2.2.2.2.2.2.2.2.2.2.2.2.2.2.2.2.2.2.2.2.2.2.2.2.2.2.2.2.2.1) (v.2.2.2.2.2.2.2.2.2.2.2.2.2.2.2.2.2.2.2.2.2.2.2.2.2.2.2.2.2.2.2.2.2.2.2.2.2.1) (v.2.2.2.2.2.2.2.2.2.2.2.2.2.2.2.2.2.2.2.2.2.2.2.2.2.2.2.2.2.2.2.2.2.2.2.2.2.2.1) (v.2.2.2.2.2.2.2.2.2.2.2.2.2.2.2.2.2.2.2.2.2.2.2.2.2.2.2.2.2.2.2.2.2.2.2.2.2.2.2.1) (v.2.2.2.2.2.2.2.2.2.2.2.2.2.2.2.2.2.2.2.2.2.2.2.2.2.2.2.2.2.2.2.2.2.2.2.2.2.2.2.2.1) (v.2.2.2.2.2.2.2.2.2.2.2.2.2.2.2.2.2.2.2.2.2.2.2.2.2.2.2.2.2.2.2.2.2.2.2.2.2.2.2.2.2.1) (v.2.2.2.2.2.2.2.2.2.2.2.2.2.2.2.2.2.2.2.2.2.2.2.2.2.2.2.2.2.2.2.2.2.2.2.2.2.2.2.2.2.2.1) (v.2.2.2.2.2.2.2.2.2.2.2.2.2.2.2.2.2.2.2.2.2.2.2.2.2.2.2.2.2.2.2.2.2.2.2.2.2.2.2.2.2.2.2.1) (v.2.2.2.2.2.2.2.2.2.2.2.2.2.2.2.2.2.2.2.2.2.2.2.2.2.2.2.2.2.2.2.2.2.2.2.2.2.2.2.2.2.2.2.2.1) (v.2.2.2.2.2.2.2.2.2.2.2.2.2.2.2.2.2.2.2.2.2.2.2.2.2.2.2.2.2.2.2.2.2.2.2.2.2.2.2.2.2.2.2.2.2)) h
noncomputable def w : World := zcv.1
noncomputable def p : Program := zcv.2.1
noncomputable def loose : List Str := zcv.2.2.1
noncomputable def mean : ExcName → Option Value := zcv.2.2.2.1
noncomputable def mg : Str → Option Value := zcv.2.2.2.2.1
noncomputable def mb : Str → Option Value := zcv.2.2.2.2.2.1
noncomputable def dp : Nat := zcv.2.2.2.2.2.2.1
noncomputable def un : Nat := zcv.2.2.2.2.2.2.2.1
noncomputable def gd : Option (List Code) := zcv.2.2.2.2.2.2.2.2.1
noncomputable def cn : Str := zcv.2.2.2.2.2.2.2.2.2.1
noncomputable def cs : Scope := zcv.2.2.2.2.2.2.2.2.2.2.1
noncomputable def a : Addr := zcv.2.2.2.2.2.2.2.2.2.2.2.1
noncomputable def ccd : Value := zcv.2.2.2.2.2.2.2.2.2.2.2.2.1
noncomputable def cl : List (Str × Addr) := zcv.2.2.2.2.2.2.2.2.2.2.2.2.2.1
noncomputable def outer : List Env := zcv.2.2.2.2.2.2.2.2.2.2.2.2.2.2.1
noncomputable def A₀ : Around := zcv.2.2.2.2.2.2.2.2.2.2.2.2.2.2.2.1
noncomputable def base : Heap := zcv.2.2.2.2.2.2.2.2.2.2.2.2.2.2.2.2.1
noncomputable def h₀ : Heap := zcv.2.2.2.2.2.2.2.2.2.2.2.2.2.2.2.2.2.1
noncomputable def L : Addr := zcv.2.2.2.2.2.2.2.2.2.2.2.2.2.2.2.2.2.2.1
noncomputable def m : Str → Option Value := zcv.2.2.2.2.2.2.2.2.2.2.2.2.2.2.2.2.2.2.2.1
noncomputable def s : Shared := zcv.2.2.2.2.2.2.2.2.2.2.2.2.2.2.2.2.2.2.2.2.1
noncomputable def Q : Value → Shared → Prop := zcv.2.2.2.2.2.2.2.2.2.2.2.2.2.2.2.2.2.2.2.2.2.1
noncomputable def E : Value → Shared → Prop := zcv.2.2.2.2.2.2.2.2.2.2.2.2.2.2.2.2.2.2.2.2.2.2.1
noncomputable def news : List (Addr × Obj) := zcv.2.2.2.2.2.2.2.2.2.2.2.2.2.2.2.2.2.2.2.2.2.2.2.1
noncomputable def oS : Obj := zcv.2.2.2.2.2.2.2.2.2.2.2.2.2.2.2.2.2.2.2.2.2.2.2.2.1
noncomputable def oX : Obj := zcv.2.2.2.2.2.2.2.2.2.2.2.2.2.2.2.2.2.2.2.2.2.2.2.2.2.1
noncomputable def g1 : Obj → List (Addr × Obj) := zcv.2.2.2.2.2.2.2.2.2.2.2.2.2.2.2.2.2.2.2.2.2.2.2.2.2.2.1
noncomputable def g2 : Obj → Obj → List (Addr × Obj) := zcv.2.2.2.2.2.2.2.2.2.2.2.2.2.2.2.2.2.2.2.2.2.2.2.2.2.2.2.1
noncomputable def f : Str → Option Int := zcv.2.2.2.2.2.2.2.2.2.2.2.2.2.2.2.2.2.2.2.2.2.2.2.2.2.2.2.2.1
noncomputable def x : Str → Option Int := zcv.2.2.2.2.2.2.2.2.2.2.2.2.2.2.2.2.2.2.2.2.2.2.2.2.2.2.2.2.2.1
noncomputable def nS : Nat := zcv.2.2.2.2.2.2.2.2.2.2.2.2.2.2.2.2.2.2.2.2.2.2.2.2.2.2.2.2.2.2.1
noncomputable def nX : Nat := zcv.2.2.2.2.2.2.2.2.2.2.2.2.2.2.2.2.2.2.2.2.2.2.2.2.2.2.2.2.2.2.2.1
noncomputable def st : Addr := zcv.2.2.2.2.2.2.2.2.2.2.2.2.2.2.2.2.2.2.2.2.2.2.2.2.2.2.2.2.2.2.2.2.1
noncomputable def S : Addr := zcv.2.2.2.2.2.2.2.2.2.2.2.2.2.2.2.2.2.2.2.2.2.2.2.2.2.2.2.2.2.2.2.2.2.1
noncomputable def X : Addr := zcv.2.2.2.2.2.2.2.2.2.2.2.2.2.2.2.2.2.2.2.2.2.2.2.2.2.2.2.2.2.2.2.2.2.2.1
noncomputable def V : Addr := zcv.2.2.2.2.2.2.2.2.2.2.2.2.2.2.2.2.2.2.2.2.2.2.2.2.2.2.2.2.2.2.2.2.2.2.2.1
noncomputable def clk : Addr := zcv.2.2.2.2.2.2.2.2.2.2.2.2.2.2.2.2.2.2.2.2.2.2.2.2.2.2.2.2.2.2.2.2.2.2.2.2.1
noncomputable def lim : Addr := zcv.2.2.2.2.2.2.2.2.2.2.2.2.2.2.2.2.2.2.2.2.2.2.2.2.2.2.2.2.2.2.2.2.2.2.2.2.2.1
noncomputable def it : Addr := zcv.2.2.2.2.2.2.2.2.2.2.2.2.2.2.2.2.2.2.2.2.2.2.2.2.2.2.2.2.2.2.2.2.2.2.2.2.2.2.1
noncomputable def nt : Addr := zcv.2.2.2.2.2.2.2.2.2.2.2.2.2.2.2.2.2.2.2.2.2.2.2.2.2.2.2.2.2.2.2.2.2.2.2.2.2.2.2.1
noncomputable def sec : Bool := zcv.2.2.2.2.2.2.2.2.2.2.2.2.2.2.2.2.2.2.2.2.2.2.2.2.2.2.2.2.2.2.2.2.2.2.2.2.2.2.2.2.1
noncomputable def ns : Str := zcv.2.2.2.2.2.2.2.2.2.2.2.2.2.2.2.2.2.2.2.2.2.2.2.2.2.2.2.2.2.2.2.2.2.2.2.2.2.2.2.2.2.1
noncomputable def names : List Str := zcv.2.2.2.2.2.2.2.2.2.2.2.2.2.2.2.2.2.2.2.2.2.2.2.2.2.2.2.2.2.2.2.2.2.2.2.2.2.2.2.2.2.2.1
noncomputable def am : Int := zcv.2.2.2.2.2.2.2.2.2.2.2.2.2.2.2.2.2.2.2.2.2.2.2.2.2.2.2.2.2.2.2.2.2.2.2.2.2.2.2.2.2.2.2.1
noncomputable def mu : Int := zcv.2.2.2.2.2.2.2.2.2.2.2.2.2.2.2.2.2.2.2.2.2.2.2.2.2.2.2.2.2.2.2.2.2.2.2.2.2.2.2.2.2.2.2.2.1
noncomputable def t : Int := zcv.2.2.2.2.2.2.2.2.2.2.2.2.2.2.2.2.2.2.2.2.2.2.2.2.2.2.2.2.2.2.2.2.2.2.2.2.2.2.2.2.2.2.2.2.2
noncomputable def zst2 : {P : ((List (Addr × Obj)) → (Addr) → (Int) → (Tok) → (Nat) → (Addr) → (Int) → (Int) → (Int) → (Int) → (Tok) → (Tok) → (Tok) → (Tok) → (Nat) → (Value) → (Option Addr) → (FuncData) → (Array (Option Value)) → (Heap) → (Addr) → (Heap) → Prop) // Hid (∀ (frz : List (Addr × Obj)) (ldx : Addr) (lh : Int) (lt : Tok) (ln : Nat) (dx : Addr) (h1 : Int) (h2 : Int) (h3 : Int) (h4 : Int) (t1 : Tok) (t2 : Tok) (t3 : Tok) (t4 : Tok) (nn : Nat) (oc : Value) (od : Option Addr) (fd : FuncData) (sl : Array (Option Value)) (g' : Heap) (L' : Addr) (h' : Heap), P frz ldx lh lt ln dx h1 h2 h3 h4 t1 t2 t3 t4 nn oc od fd sl g' L' h') → sstat_spec_St w p loose mean mg mb dp un gd cn cs a ccd cl outer A₀ base h₀ L m s Q E news oS oX g1 g2 f x nS nX st S X V clk lim it nt sec ns names am mu t} := by
  refine' ⟨_, fun HH1 => _⟩
  rotate_left 
  focus
    intro key e pk ck B F KX T hk N O Li I J U1 U2 hS hX zS zX ee ek he he2 het ht epk eck hf hd hu retH
    subst epk eck ee ek
    refine lower ?_ hd hu
    obtain ⟨frz, n1, n2, N', sub, mem⟩ := split2 O.xs U1 U2 N
    have O' : Store w frz st S X V clk t := O.sub (fun q hq ho => sub q hq ho.1 ho.2.1)
    have I' := I.sub (news' := frz) (fun q hq ho => sub q hq ho.1 ho.2.1)
    have J' := J.sub (news' := frz) (fun q hq ho => sub q hq ho.1 ho.2.1)
    have Li' := Li.sub (news' := frz) (fun q hq ho => sub q hq ho.1 ho.2.1)
    have hkl := keyOf_len I' J'
    clear N U1 U2 sub O I J Li
    obtain ⟨ldx, lh, lt, ln, hlim, hldx, _, _⟩ := Li'
    have O'' := O'
    obtain ⟨⟨dx, h1, h2, h3, h4, t1, t2, t3, t4, nn, oc, od, fd, sl, hst, hck, hdx, _, _, _⟩, _, sx, xv, lS, lX, lV⟩ := O''
    revert KX; k_fill; intro KX
    refine wpAny_call ?_
    walk_at "m enter"
    rename_i zi1 zi2 zi3 zi4 zi5 zi6 zi7
    revert B F T hk hS hX zS zX ht hf hd hu he he2 het retH n1 n2 zi1 mem O' I' J' hkl hlim hldx zi2 zi3 zi4 sx xv lS lX lV hst hck hdx zi5 zi6 zi7 KX FG' F' N' B' X' T' qk ek
    exact Hid.out HH1 frz ldx lh lt ln dx h1 h2 h3 h4 t1 t2 t3 t4 nn oc od fd sl g' L' h'
namespace k1
noncomputable def zcv : (List (Addr × Obj)) × (Addr) × (Int) × (Tok) × (Nat) × (Addr) × (Int) × (Int) × (Int) × (Int) × (Tok) × (Tok) × (Tok) × (Tok) × (Nat) × (Value) × (Option Addr) × (FuncData) × (Array (Option Value)) × (Heap) × (Addr) × (Heap) := pick (neP inferInstance (neP inferInstance (neP inferInstance (neP inferInstance (neP inferInstance (neP inferInstance (neP inferInstance (neP inferInstance (neP inferInstance (neP inferInstance (neP inferInstance (neP inferInstance (neP inferInstance (neP inferInstance (neP inferInstance (neP inferInstance (neP inferInstance (neP inferInstance (neP inferInstance (neP inferInstance (neP inferInstance inferInstance))))))))))))))))))))) (fun v : (List (Addr × Obj)) × (Addr) × (Int) × (Tok) × (Nat) × (Addr) × (Int) × (Int) × (Int) × (Int) × (Tok) × (Tok) × (Tok) × (Tok) × (Nat) × (Value) × (Option Addr) × (FuncData) × (Array (Option Value)) × (Heap) × (Addr) × (Heap) => zst2.1 (v.1) (v.2.1) (v.2.2.1) (v.2.2.2.1) (v.2.2.2.2.1) (v.2.2.2.2.2.1) (v.2.2.2.2.2.2.1) (v.2.2.2.2.2.2.2.1) (v.2.2.2.2.2.2.2.2.1) (v.2.2.2.2.2.2.2.2.2.1) (v.2.2.2.2.2.2.2.2.2.2.1) (v.2.2.2.2.2.2.2.2.2.2.2.1) (v.2.2.2.2.2.2.2.2.2.2.2.2.1) (v.2.2.2.2.2.2.2.2.2.2.2.2.2.1) (v.2.2.2.2.2.2.2.2.2.2.2.2.2.2.1) (v.2.2.2.2.2.2.2.2.2.2.2.2.2.2.2.1) (v.2.2.2.2.2.2.2.2.2.2.2.2.2.2.2.2.1) (v.2.2.2.2.2.2.2.2.2.2.2.2.2.2.2.2.2.1) (v.2.2.2.2.2.2.2.2.2.2.2.2.2.2.2.2.2.2.1) (v.2.2.2.2.2.2.2.2.2.2.2.2.2.2.2.2.2.2.2.1) (v.2.2.2.2.2.2.2.2.2.2.2.2.2.2.2.2.2.2.2.2.1) (v.2.2.2.2.2.2.2.2.2.2.2.2.2.2.2.2.2.2.2.2.2)) 0
theorem zal (h : zst2.1 (zcv.1) (zcv.2.1) (zcv.2.2.1) (zcv.2.2.2.1) (zcv.2.2.2.2.1) (zcv.2.2.2.2.2.1) (zcv.2.2.2.2.2.2.1) (zcv.2.2.2.2.2.2.2.1) (zcv.2.2.2.2.2.2.2.2.1) (zcv.2.2.2.2.2.2.2.2.2.1) (zcv.2.2.2.2.2.2.2.2.2.2.1) (zcv.2.2.2.2.2.2.2.2.2.2.2.1) (zcv.2.2.2.2.2.2.2.2.2.2.2.2.1) (zcv.2.2.2.2.2.2.2.2.2.2.2.2.2.1) (zcv.2.2.2.2.2.2.2.2.2.2.2.2.2.2.1) (zcv.2.2.2.2.2.2.2.2.2.2.2.2.2.2.2.1) (zcv.2.2.2.2.2.2.2.2.2.2.2.2.2.2.2.2.1) (zcv.2.2.2.2.2.2.2.2.2.2.2.2.2.2.2.2.2.1) (zcv.2.2.2.2.2.2.2.2.2.2.2.2.2.2.2.2.2.2.1) (zcv.2.2.2.2.2.2.2.2.2.2.2.2.2.2.2.2.2.2.2.1) (zcv.2.2.2.2.2.2.2.2.2.2.2.2.2.2.2.2.2.2.2.2.1) (zcv.2.2.2.2.2.2.2.2.2.2.2.2.2.2.2.2.2.2.2.2.2)) : ∀ u : (List (Addr × Obj)) × (Addr) × (Int) × (Tok) × (Nat) × (Addr) × (Int) × (Int) × (Int) × (Int) × (Tok) × (Tok) × (Tok) × (Tok) × (Nat) × (Value) × (Option Addr) × (FuncData) × (Array (Option Value)) × (Heap) × (Addr) × (Heap), zst2.1 (u.1) (u.2.1) (u.2.2.1) (u.2.2.2.1) (u.2.2.2.2.1) (u.2.2.2.2.2.1) (u.2.2.2.2.2.2.1) (u.2.2.2.2.2.2.2.1) (u.2.2.2.2.2.2.2.2.1) (u.2.2.2.2.2.2.2.2.2.1) (u.2.2.2.2.2.2.2.2.2.2.1) (u.2.2.2.2.2.2.2.2.2.2.2.1) (u.2.2.2.2.2.2.2.2.2.2.2.2.1) (u.2.2.2.2.2.2.2.2.2.2.2.2.2.1) (u.2.2.2.2.2.2.2.2.2.2.2.2.2.2.1) (u.2.2.2.2.2.2.2.2.2.2.2.2.2.2.2.1) (u.2.2.2.2.2.2.2.2.2.2.2.2.2.2.2.2.1) (u.2.2.2.2.2.2.2.2.2.2.2.2.2.2.2.2.2.1) (u.2.2.2.2.2.2.2.2.2.2.2.2.2.2.2.2.2.2.1) (u.2.2.2.2.2.2.2.2.2.2.2.2.2.2.2.2.2.2.2.1) (u.2.2.2.2.2.2.2.2.2.2.2.2.2.2.2.2.2.2.2.2.1) (u.2.2.2.2.2.2.2.2.2.2.2.2.2.2.2.2.2.2.2.2.2) := pick_all (P := fun v : (List (Addr × Obj)) × (Addr) × (Int) × (Tok) × (Nat) × (Addr) × (Int) × (Int) × (Int) × (Int) × (Tok) × (Tok) × (Tok) × (Tok) × (Nat) × (Value) × (Option Addr) × (FuncData) × (Array (Option Value)) × (Heap) × (Addr) × (Heap) => zst2.1 (v.1) (v.2.1) (v.2.2.1) (v.2.2.2.1) (v.2.2.2.2.1) (v.2.2.2.2.2.1) (v.2.2.2.2.2.2.1) (v.2.2.2.2.2.2.2.1) (v.2.2.2.2.2.2.2.2.1) (v.2.2.2.2.2.2.2.2.2.1) (v.2.2.2.2.2.2.2.2.2.2.1) (v.2.2.2.2.2.2.2.2.2.2.2.1) (v.2.2.2.2.2.2.2.2.2.2.2.2.1) (v.2.2.2.2.2.2.2.2.2.2.2.2.2.1) (v.2.2.2.2.2.2.2.2.2.2.2.2.2.2.1) (v.2.2.2.2.2.2.2.2.2.2.2.2.2.2.2.1) (v.2.2.2.2.2.2.2.2.2.2.2.2.2.2.2.2.1) (v.2.2.2.2.2.2.2.2.2.2.2.2.2.2.2.2.2.1) (v.2.2.2.2.2.2.2.2.2.2.2.2.2.2.2.2.2.2.1) (v.2.2.2.2.2.2.2.2.2.2.2.2.2.2.2.2.2.2.2.1) (v.2.2.2.2.2.2.2.2.2.2.2.2.2.2.2.2.2.2.2.2.1) (v.2.2.2.2.2.2.2.2.2.2.2.2.2.2.2.2.2.2.2.2.2)) h
noncomputable def frz : List (Addr × Obj) := zcv.1
noncomputable def ldx : Addr := zcv.2.1
noncomputable def lh : Int := zcv.2.2.1
noncomputable def lt : Tok := zcv.2.2.2.1
noncomputable def ln : Nat := zcv.2.2.2.2.1
noncomputable def dx : Addr := zcv.2.2.2.2.2.1
noncomputable def h1 : Int := zcv.2.2.2.2.2.2.1
noncomputable def h2 : Int := zcv.2.2.2.2.2.2.2.1
noncomputable def h3 : Int := zcv.2.2.2.2.2.2.2.2.1
noncomputable def h4 : Int := zcv.2.2.2.2.2.2.2.2.2.1
noncomputable def t1 : Tok := zcv.2.2.2.2.2.2.2.2.2.2.1
noncomputable def t2 : Tok := zcv.2.2.2.2.2.2.2.2.2.2.2.1
noncomputable def t3 : Tok := zcv.2.2.2.2.2.2.2.2.2.2.2.2.1
noncomputable def t4 : Tok := zcv.2.2.2.2.2.2.2.2.2.2.2.2.2.1
noncomputable def nn : Nat := zcv.2.2.2.2.2.2.2.2.2.2.2.2.2.2.1
noncomputable def oc : Value := zcv.2.2.2.2.2.2.2.2.2.2.2.2.2.2.2.1
noncomputable def od : Option Addr := zcv.2.2.2.2.2.2.2.2.2.2.2.2.2.2.2.2.1
noncomputable def fd : FuncData := zcv.2.2.2.2.2.2.2.2.2.2.2.2.2.2.2.2.2.1
noncomputable def sl : Array (Option Value) := zcv.2.2.2.2.2.2.2.2.2.2.2.2.2.2.2.2.2.2.1
noncomputable def g' : Heap := zcv.2.2.2.2.2.2.2.2.2.2.2.2.2.2.2.2.2.2.2.1
noncomputable def L' : Addr := zcv.2.2.2.2.2.2.2.2.2.2.2.2.2.2.2.2.2.2.2.2.1
noncomputable def h' : Heap := zcv.2.2.2.2.2.2.2.2.2.2.2.2.2.2.2.2.2.2.2.2.2
theorem walk3 : zst2.1 frz ldx lh lt ln dx h1 h2 h3 h4 t1 t2 t3 t4 nn oc od fd sl g' L' h' := by
  intro B F T hk hS hX zS zX ht hf hd hu he he2 het retH n1 n2 zi1 mem O' I' J' hkl hlim hldx zi2 zi3 zi4 sx xv lS lX lV hst hck hdx zi5 zi6 zi7 KX FG' F' N' B' X' T' qk ek
  k_steps
  all_goals first
    | contradiction
    | exact retH _ _ _ _ _ _ _ _ _ _ _ _ _ _ _ (by assumption) (by assumption) (by assumption) (Or.inl ⟨by assumption, by assumption, rfl, rfl⟩) (by assumption) (news_of (by assumption) (cons_sub (cons_sub (cons_sub fun p hp => .tail _ (mem _ _ p hp))))) (allLt_sub (fun p hp => .tail _ (mem _ _ p hp)) (allLt_mem (by assumption))) (by exact allLt_mem (by assumption) _ (List.Mem.head _)) (by assumption) (DictV.mono (by assumption) (Nat.le_succ _)) (DictV.mono (by assumption) (Nat.le_succ _))
    | exact retH _ _ _ _ _ _ _ _ _ _ _ _ _ _ _ (by assumption) (by assumption) (by assumption) (Or.inr (Or.inl ⟨by assumption, by assumption, rfl, rfl⟩)) (by assumption) (news_of (by assumption) (cons_sub (cons_sub (cons_sub fun p hp => .tail _ (mem _ _ p hp))))) (allLt_sub (fun p hp => .tail _ (mem _ _ p hp)) (allLt_mem (by assumption))) (by exact allLt_mem (by assumption) _ (List.Mem.head _)) (by assumption) (DictV.mono (by assumption) (Nat.le_succ _)) (DictV.mono (by assumption) (Nat.le_succ _))
    | exact retH _ _ _ _ _ _ _ _ _ _ _ _ _ _ _ (by assumption) (by assumption) (by assumption) (Or.inr (Or.inr (Or.inl ⟨by assumption, by assumption, rfl, rfl⟩))) (by assumption) (news_of (by assumption) (cons_sub (cons_sub (cons_sub fun p hp => .tail _ (mem _ _ p hp))))) (allLt_sub (fun p hp => .tail _ (mem _ _ p hp)) (allLt_mem (by assumption))) (by exact allLt_mem (by assumption) _ (List.Mem.head _)) (by assumption) (DictV.mono (by assumption) (Nat.le_succ _)) (DictV.mono (by assumption) (Nat.le_succ _))
    | exact retH _ _ _ _ _ _ _ _ _ _ _ _ _ _ _ (by assumption) (by assumption) (by assumption) (Or.inr (Or.inr (Or.inr ⟨by assumption, by assumption, rfl, rfl⟩))) (by assumption) (news_of (by assumption) (cons_sub (cons_sub (cons_sub fun p hp => .tail _ (mem _ _ p hp))))) (allLt_sub (fun p hp => .tail _ (mem _ _ p hp)) (allLt_mem (by assumption))) (by exact allLt_mem (by assumption) _ (List.Mem.head _)) (by assumption) (DictV.mono (by assumption) (Nat.le_succ _)) (DictV.mono (by assumption) (Nat.le_succ _))
end k1
theorem up4 : sstat_spec_St w p loose mean mg mb dp un gd cn cs a ccd cl outer A₀ base h₀ L m s Q E news oS oX g1 g2 f x nS nX st S X V clk lim it nt sec ns names am mu t := zst2.2 (fun frz ldx lh lt ln dx h1 h2 h3 h4 t1 t2 t3 t4 nn oc od fd sl g' L' h' => k1.zal k1.walk3 (frz, ldx, lh, lt, ln, dx, h1, h2, h3, h4, t1, t2, t3, t4, nn, oc, od, fd, sl, g', L', h'))
end c_sstat_spec
theorem sstat_spec {w : World} {p : Program} {loose : List Str} {mean : ExcName → Option Value} {mg : Str → Option Value} {mb : Str → Option Value} {dp : Nat} {un : Nat} {gd : Option (List Code)} {cn : Str} {cs : Scope} {a : Addr} {ccd : Value} {cl : List (Str × Addr)} {outer : List Env} {A₀ : Around} {base : Heap} {h₀ : Heap} {L : Addr} {m : Str → Option Value} {s : Shared} {Q : Value → Shared → Prop} {E : Value → Shared → Prop} (B : Below A₀ base outer h₀) (F : Fr h₀ L s.heap m) (KX : (Mine.hd1.heap_39 w.params).In h₀) (T : Top p loose mean mg mb h₀) (hk : cs.kind = .function) {news : List (Addr × Obj)} {oS : Obj} {oX : Obj} {g1 : Obj → List (Addr × Obj)} {g2 : Obj → Obj → List (Addr × Obj)} {f : Str → Option Int} {x : Str → Option Int} {nS : Nat} {nX : Nat} {st : Addr} {S : Addr} {X : Addr} {V : Addr} {clk : Addr} {lim : Addr} {it : Addr} {nt : Addr} {sec : Bool} {ns : Str} {key : Str} {names : List Str} {am : Int} {mu : Int} {t : Int} {e : Int} {pk : Str} {ck : Str} (N : News h₀ L s.heap news) (O : Store w news st S X V clk t) (Li : LimAt news S X V 296 lim st) (I : ItemAt news S X V it sec ns am mu) (J : NamesAt news S X V nt names) (U1 : UpdF S oS news g1) (U2 : ∀ o, UpdF X oX (g1 o) (g2 o)) (hS : IntD PySem.Challenge.rw_ji0060_02.row.prog w oS f nS) (hX : IntD PySem.Challenge.rw_ji0060_02.row.prog w oX x nX) (zS : nS + 1 ≤ sizeLine) (zX : nX + 1 ≤ sizeLine) (ee : e = unitOf sec * mu) (ek : key = keyOf sec ns names am mu) (he : 0 < e) (he2 : e < 1000000) (het : e ≤ t) (ht : t < 1000000000000) (epk : pk = wkey key ((t - e).fdiv e)) (eck : ck = wkey key (t.fdiv e)) (hf : ∀ j, 0 ≤ (f j).getD 0 ∧ (f j).getD 0 ≤ 1000000) (hd : dp ≤ 820) (hu : un ≤ 8200) (retH : ∀ pc ttl cc num den y d q r r1 r2 oS' oX' h' tk' , pc = pcF f x pk t → ttl = ttlF pc t e → cc = ccF f x pk ck t → StatP pc ttl cc (e - t.fmod e + e) t e num den → Fr h₀ L h' m → News h₀ L h' ((y, tupObj d [.ref q, .int (remF am ((pc * ttl).fdiv e + cc)) r]) :: (d, emptyDict) :: (q, { cls := .type "tuple", data := .seq #[.int num r1, .int den r2] }) :: g2 oS' oX') → AllLt q (g2 oS' oX') → @LT.lt Nat _ q d → @LT.lt Nat _ d y → IntD PySem.Challenge.rw_ji0060_02.row.prog w oS' (F2 f x pk ck t) (nS + 1) → IntD PySem.Challenge.rw_ji0060_02.row.prog w oX' (F2 x x pk ck t) (nX + 1) → Q (.ref y) { s with heap := h', toks := tk' }) :
    wpAny (model PySem.Challenge.rw_ji0060_02.row.prog w) (ktrTop dp un gd cn cs L a ccd cl outer) (call (.ref 284) [.ref lim, .ref it, .ref nt]) Q E s :=
  c_sstat_spec.zal c_sstat_spec.up4 (w, p, loose, mean, mg, mb, dp, un, gd, cn, cs, a, ccd, cl, outer, A₀, base, h₀, L, m, s, Q, E, news, oS, oX, g1, g2, f, x, nS, nX, st, S, X, V, clk, lim, it, nt, sec, ns, names, am, mu, t) _ _ _ _ B F KX T hk N O Li I J U1 U2 hS hX zS zX ee ek he he2 het ht epk eck hf hd hu retH
section
variable {w : World} {p : Program} {loose : List Str} {mean : ExcName → Option Value} {mg mb : Str → Option Value} {dp un : Nat} {gd : Option (List Code)} {cn : Str} {cs : Scope} {a : Addr} {ccd : Value} {cl : List (Str × Addr)} {outer : List Env} {A₀ : Around} {base h₀ : Heap} {L : Addr} {m : Str → Option Value} {s : Shared} {Q E : Value → Shared → Prop}
  (B : Below A₀ base outer h₀) (F : Fr h₀ L s.heap m) (KX : (Mine.hd1.heap_39 w.params).In h₀) (T : Top p loose mean mg mb h₀) (hk : cs.kind = .function)
include B F KX T hk
end

end

theorem said_sstat : True := by
  k_with "call ref" => (k_here; (with_reducible show wpAny _ _ (call (Value.ref 284) _) _ _ _); k_dflt (refine' sstat_spec ?zyB ?zyF ?zyX ?zyT ?zyk ?zyN ?zyO ?zyLi ?zyI ?zyJ ?zyU1 ?zyU2 ?zyhS ?zyhX ?zyzS ?zyzX ?zyee ?zyek ?zyhe ?zyhe2 ?zyhet ?zyht ?zyepk ?zyeck ?zyhf ?zyd ?zyu ?_; (case zyB => k_asm); (case zyF => k_asm); (case zyX => k_asm); (case zyT => k_asm); (case zyk => first | exact rfl | assumption); (case zyN => k_asm); (case zyO => refine' Store.sub ?zyo ?zys; (case zyo => assumption); (case zys => walk_at "m sub")); (case zyU1 => k_updF); (case zyU2 => (intro o1; (try dsimp only); k_updF)); (case zyhS => assumption); (case zyhX => assumption); (case zyzS => first | assumption | omega); (case zyzX => first | assumption | omega); (case zyLi => refine' LimAt.sub ?zyo ?zys; (case zyo => assumption); (case zys => walk_at "m sub")); (case zyI => refine' ItemAt.sub ?zyo ?zys; (case zyo => assumption); (case zys => walk_at "m sub")); (case zyJ => refine' NamesAt.sub ?zyo ?zys; (case zyo => assumption); (case zys => walk_at "m sub")); (case zyee => first | assumption | rfl); (case zyek => first | assumption | rfl); (case zyhe => walk_at "m om"); (case zyhe2 => walk_at "m om"); (case zyhet => walk_at "m om"); (case zyht => walk_at "m om"); (case zyepk => first | assumption | rfl); (case zyeck => first | assumption | rfl); (case zyhf => assumption); (case zyd => exact Nat.le_of_ble_eq_true rfl); (case zyu => exact Nat.le_of_ble_eq_true rfl); k_whole); (intro pc' ttl' cc' num' den' y' d' q' r' r1' r2' oS' oX' h' tk' ep' et' ec' sp' F' N' l1 l2 l3 hS' hX'; (have l4 := l1); (try dsimp only at l4); (try simp only [AllLt, and_true] at l4); (try dsimp only at N'); (try dsimp only); (try k_sweep)))
  trivial
section
-- only 2
section
variable {w : World} {p : Program} {loose : List Str} {mean : ExcName → Option Value} {mg mb : Str → Option Value} {dp un : Nat} {gd : Option (List Code)} {cn : Str} {cs : Scope} {a : Addr} {ccd : Value} {cl : List (Str × Addr)} {outer : List Env} {A₀ : Around} {base h₀ : Heap} {L : Addr} {m : Str → Option Value} {s : Shared} {Q E : Value → Shared → Prop}
  (B : Below A₀ base outer h₀) (F : Fr h₀ L s.heap m) (KX : (Mine.hd1.heap_39 w.params).In h₀) (T : Top p loose mean mg mb h₀) (hk : cs.kind = .function)
include B F KX T hk


theorem fhitk_spec {news : List (Addr × Obj)} {oS oX : Obj} {g1 : Obj → List (Addr × Obj)} {g2 : Obj → Obj → List (Addr × Obj)} {f x : Str → Option Int} {nS nX : Nat} {st S X V clk lim it nt : Addr} {sec : Bool} {ns key : Str} {names : List Str} {am mu t e : Int} {cost : Int} {tc : Tok}
    (N : News h₀ L s.heap news) (O : Store w news st S X V clk t) (Li : LimAt news S X V 241 lim st) (I : ItemAt news S X V it sec ns am mu) (J : NamesAt news S X V nt names) (U1 : UpdF S oS news g1) (U2 : ∀ o, UpdF X oX (g1 o) (g2 o))
    (hS : IntD PySem.Challenge.rw_ji0060_02.row.prog w oS f nS) (hX : IntD PySem.Challenge.rw_ji0060_02.row.prog w oX x nX) (zS : nS + 1 ≤ sizeLine) (zX : nX + 1 ≤ sizeLine) (ee : e = unitOf sec * mu) (ek : key = keyOf sec ns names am mu) (he : 0 < e) (he2 : e < 1000000) (het : e ≤ t) (ht : t < 1000000000000) (hd : dp ≤ 820) (hu : un ≤ 8200)
    (ret : ∀ oS' oX' h' tk', Fr h₀ L h' m → News h₀ L h' (g2 oS' oX') → IntD PySem.Challenge.rw_ji0060_02.row.prog w oS' (incF f x key t cost) (nS + 1) → IntD PySem.Challenge.rw_ji0060_02.row.prog w oX' (incX f x key t e cost) (nX + 1) → Q (.bool (decide ((swept x key t f key).getD 0 + cost ≤ am))) { s with heap := h', toks := tk' }) :
    wpAny (model PySem.Challenge.rw_ji0060_02.row.prog w) (ktrTop dp un gd cn cs L a ccd cl outer) (call (.ref 220) [.ref lim, .ref it, .ref nt] [(Str.ofString "cost", .int cost tc)]) Q E s := by
  subst ee ek
  refine lower ?_ hd hu
  obtain ⟨frz, n1, n2, N', sub, mem⟩ := split2 O.xs U1 U2 N
  have O' : Store w frz st S X V clk t := O.sub (fun q hq ho => sub q hq ho.1 ho.2.1)
  have I' := I.sub (news' := frz) (fun q hq ho => sub q hq ho.1 ho.2.1)
  have J' := J.sub (news' := frz) (fun q hq ho => sub q hq ho.1 ho.2.1)
  have Li' := Li.sub (news' := frz) (fun q hq ho => sub q hq ho.1 ho.2.1)
  have hkl := keyOf_len I' J'
  clear N U1 U2 sub O I J Li
  obtain ⟨ldx, lh, lt, ln, hlim, hldx, _, _⟩ := Li'
  have O'' := O'
  obtain ⟨⟨dx, h1, h2, h3, h4, t1, t2, t3, t4, nn, oc, od, fd, sl, hst, hck, hdx, _, _, _⟩, _, sx, xv, lS, lX, lV⟩ := O''
  revert KX; k_fill; intro KX
  refine wpAny_call ?_
  walk_at "m enter"
  k_steps
  exact ret _ _ _ _ (by assumption) (news_of (by assumption) (mem _ _)) (by assumption) (by assumption)
end

end

theorem said_fhitk : True := by
  k_with "call ref" => (k_here; (with_reducible show wpAny _ _ (call (Value.ref 220) _ _) _ _ _); k_dflt (refine' fhitk_spec ?zyB ?zyF ?zyX ?zyT ?zyk ?zyN ?zyO ?zyLi ?zyI ?zyJ ?zyU1 ?zyU2 ?zyhS ?zyhX ?zyzS ?zyzX ?zyee ?zyek ?zyhe ?zyhe2 ?zyhet ?zyht ?zyd ?zyu ?_; (case zyB => k_asm); (case zyF => k_asm); (case zyX => k_asm); (case zyT => k_asm); (case zyk => first | exact rfl | assumption); (case zyN => k_asm); (case zyO => refine' Store.sub ?zyo ?zys; (case zyo => assumption); (case zys => walk_at "m sub")); (case zyU1 => k_updF); (case zyU2 => (intro o1; (try dsimp only); k_updF)); (case zyhS => assumption); (case zyhX => assumption); (case zyzS => first | assumption | omega); (case zyzX => first | assumption | omega); (case zyLi => refine' LimAt.sub ?zyo ?zys; (case zyo => assumption); (case zys => walk_at "m sub")); (case zyI => refine' ItemAt.sub ?zyo ?zys; (case zyo => assumption); (case zys => walk_at "m sub")); (case zyJ => refine' NamesAt.sub ?zyo ?zys; (case zyo => assumption); (case zys => walk_at "m sub")); (case zyee => first | assumption | rfl); (case zyek => first | assumption | rfl); (case zyhe => walk_at "m om"); (case zyhe2 => walk_at "m om"); (case zyhet => walk_at "m om"); (case zyht => walk_at "m om"); (case zyd => exact Nat.le_of_ble_eq_true rfl); (case zyu => exact Nat.le_of_ble_eq_true rfl); k_whole); (intro oS' oX' h' tk' F' N' hS' hX'; (try dsimp only at N'); (try dsimp only); (try k_sweep)))
  trivial
section
-- only 2
section
variable {w : World} {p : Program} {loose : List Str} {mean : ExcName → Option Value} {mg mb : Str → Option Value} {dp un : Nat} {gd : Option (List Code)} {cn : Str} {cs : Scope} {a : Addr} {ccd : Value} {cl : List (Str × Addr)} {outer : List Env} {A₀ : Around} {base h₀ : Heap} {L : Addr} {m : Str → Option Value} {s : Shared} {Q E : Value → Shared → Prop}
  (B : Below A₀ base outer h₀) (F : Fr h₀ L s.heap m) (KX : (Mine.hd1.heap_39 w.params).In h₀) (T : Top p loose mean mg mb h₀) (hk : cs.kind = .function)
include B F KX T hk


theorem ftestk_spec {news : List (Addr × Obj)} {oS oX : Obj} {g1 : Obj → List (Addr × Obj)} {g2 : Obj → Obj → List (Addr × Obj)} {f x : Str → Option Int} {nS nX : Nat} {st S X V clk lim it nt : Addr} {sec : Bool} {ns key : Str} {names : List Str} {am mu t e : Int} {cost : Int} {tc : Tok}
    (N : News h₀ L s.heap news) (O : Store w news st S X V clk t) (Li : LimAt news S X V 241 lim st) (I : ItemAt news S X V it sec ns am mu) (J : NamesAt news S X V nt names) (U1 : UpdF S oS news g1) (U2 : ∀ o, UpdF X oX (g1 o) (g2 o))
    (hS : IntD PySem.Challenge.rw_ji0060_02.row.prog w oS f nS) (hX : IntD PySem.Challenge.rw_ji0060_02.row.prog w oX x nX) (zS : nS + 1 ≤ sizeLine) (zX : nX + 1 ≤ sizeLine) (ee : e = unitOf sec * mu) (ek : key = keyOf sec ns names am mu) (he : 0 < e) (he2 : e < 1000000) (het : e ≤ t) (ht : t < 1000000000000) (hc : -1000000 ≤ cost ∧ cost ≤ 1000000) (hd : dp ≤ 820) (hu : un ≤ 8200)
    (ret : ∀ oS' oX' h' tk', Fr h₀ L h' m → News h₀ L h' (g2 oS' oX') → IntD PySem.Challenge.rw_ji0060_02.row.prog w oS' (swept x key t f) nS → IntD PySem.Challenge.rw_ji0060_02.row.prog w oX' (swept x key t x) nX → Q (.bool (decide ((swept x key t f key).getD 0 < am - cost + 1))) { s with heap := h', toks := tk' }) :
    wpAny (model PySem.Challenge.rw_ji0060_02.row.prog w) (ktrTop dp un gd cn cs L a ccd cl outer) (call (.ref 229) [.ref lim, .ref it, .ref nt] [(Str.ofString "cost", .int cost tc)]) Q E s := by
  subst ee ek
  refine lower ?_ hd hu
  obtain ⟨frz, n1, n2, N', sub, mem⟩ := split2 O.xs U1 U2 N
  have O' : Store w frz st S X V clk t := O.sub (fun q hq ho => sub q hq ho.1 ho.2.1)
  have I' := I.sub (news' := frz) (fun q hq ho => sub q hq ho.1 ho.2.1)
  have J' := J.sub (news' := frz) (fun q hq ho => sub q hq ho.1 ho.2.1)
  have Li' := Li.sub (news' := frz) (fun q hq ho => sub q hq ho.1 ho.2.1)
  have hkl := keyOf_len I' J'
  clear N U1 U2 sub O I J Li
  obtain ⟨ldx, lh, lt, ln, hlim, hldx, _, _⟩ := Li'
  have O'' := O'
  obtain ⟨⟨dx, h1, h2, h3, h4, t1, t2, t3, t4, nn, oc, od, fd, sl, hst, hck, hdx, _, _, _⟩, _, sx, xv, lS, lX, lV⟩ := O''
  revert KX; k_fill; intro KX
  refine wpAny_call ?_
  walk_at "m enter"
  k_steps
  exact ret _ _ _ _ (by assumption) (news_of (by assumption) (mem _ _)) (by assumption) (by assumption)
end

end

theorem said_ftestk : True := by
  k_with "call ref" => (k_here; (with_reducible show wpAny _ _ (call (Value.ref 229) _ _) _ _ _); k_dflt (refine' ftestk_spec ?zyB ?zyF ?zyX ?zyT ?zyk ?zyN ?zyO ?zyLi ?zyI ?zyJ ?zyU1 ?zyU2 ?zyhS ?zyhX ?zyzS ?zyzX ?zyee ?zyek ?zyhe ?zyhe2 ?zyhet ?zyht ?zyhc ?zyd ?zyu ?_; (case zyB => k_asm); (case zyF => k_asm); (case zyX => k_asm); (case zyT => k_asm); (case zyk => first | exact rfl | assumption); (case zyN => k_asm); (case zyO => refine' Store.sub ?zyo ?zys; (case zyo => assumption); (case zys => walk_at "m sub")); (case zyU1 => k_updF); (case zyU2 => (intro o1; (try dsimp only); k_updF)); (case zyhS => assumption); (case zyhX => assumption); (case zyzS => first | assumption | omega); (case zyzX => first | assumption | omega); (case zyLi => refine' LimAt.sub ?zyo ?zys; (case zyo => assumption); (case zys => walk_at "m sub")); (case zyI => refine' ItemAt.sub ?zyo ?zys; (case zyo => assumption); (case zys => walk_at "m sub")); (case zyJ => refine' NamesAt.sub ?zyo ?zys; (case zyo => assumption); (case zys => walk_at "m sub")); (case zyee => first | assumption | rfl); (case zyek => first | assumption | rfl); (case zyhe => walk_at "m om"); (case zyhe2 => walk_at "m om"); (case zyhet => walk_at "m om"); (case zyht => walk_at "m om"); (case zyhc => first | assumption | (constructor <;> omega)); (case zyd => exact Nat.le_of_ble_eq_true rfl); (case zyu => exact Nat.le_of_ble_eq_true rfl); k_whole); (intro oS' oX' h' tk' F' N' hS' hX'; (try dsimp only at N'); (try dsimp only); (try k_sweep)))
  trivial
section
-- only 2
section
variable {w : World} {p : Program} {loose : List Str} {mean : ExcName → Option Value} {mg mb : Str → Option Value} {dp un : Nat} {gd : Option (List Code)} {cn : Str} {cs : Scope} {a : Addr} {ccd : Value} {cl : List (Str × Addr)} {outer : List Env} {A₀ : Around} {base h₀ : Heap} {L : Addr} {m : Str → Option Value} {s : Shared} {Q E : Value → Shared → Prop}
  (B : Below A₀ base outer h₀) (F : Fr h₀ L s.heap m) (KX : (Mine.hd1.heap_39 w.params).In h₀) (T : Top p loose mean mg mb h₀) (hk : cs.kind = .function)
include B F KX T hk


end
noncomputable def fstat_spec_St (w : World) (p : Program) (loose : List Str) (mean : ExcName → Option Value) (mg : Str → Option Value) (mb : Str → Option Value) (dp : Nat) (un : Nat) (gd : Option (List Code)) (cn : Str) (cs : Scope) (a : Addr) (ccd : Value) (cl : List (Str × Addr)) (outer : List Env) (A₀ : Around) (base : Heap) (h₀ : Heap) (L : Addr) (m : Str → Option Value) (s : Shared) (Q : Value → Shared → Prop) (E : Value → Shared → Prop) (news : List (Addr × Obj)) (oS : Obj) (oX : Obj) (g1 : Obj → List (Addr × Obj)) (g2 : Obj → Obj → List (Addr × Obj)) (f : Str → Option Int) (x : Str → Option Int) (nS : Nat) (nX : Nat) (st : Addr) (S : Addr) (X : Addr) (V : Addr) (clk : Addr) (lim : Addr) (it : Addr) (nt : Addr) (sec : Bool) (ns : Str) (names : List Str) (am : Int) (mu : Int) (t : Int) : Prop := ∀ (key : Str) (e : Int) (B : Below A₀ base outer h₀) (F : Fr h₀ L s.heap m) (KX : (Mine.hd1.heap_39 w.params).In h₀) (T : Top p loose mean mg mb h₀) (hk : cs.kind = .function) (N : News h₀ L s.heap news) (O : Store w news st S X V clk t) (Li : LimAt news S X V 241 lim st) (I : ItemAt news S X V it sec ns am mu) (J : NamesAt news S X V nt names) (U1 : UpdF S oS news g1) (U2 : ∀ o, UpdF X oX (g1 o) (g2 o)) (hS : IntD PySem.Challenge.rw_ji0060_02.row.prog w oS f nS) (hX : IntD PySem.Challenge.rw_ji0060_02.row.prog w oX x nX) (zS : nS + 1 ≤ sizeLine) (zX : nX + 1 ≤ sizeLine) (ee : e = unitOf sec * mu) (ek : key = keyOf sec ns names am mu) (he : 0 < e) (he2 : e < 1000000) (het : e ≤ t) (ht : t < 1000000000000) (hd : dp ≤ 820) (hu : un ≤ 8200) (retH : ∀ y d r1 r2 oS' oX' h' tk', Fr h₀ L h' m → News h₀ L h' ((y, tupObj d [.int ((swept x key t x key).getD t) r1, .int (remF am ((swept x key t f key).getD 0)) r2]) :: (d, emptyDict) :: g2 oS' oX') → AllLt d (g2 oS' oX') → @LT.lt Nat _ d y → IntD PySem.Challenge.rw_ji0060_02.row.prog w oS' (swept x key t f) nS → IntD PySem.Challenge.rw_ji0060_02.row.prog w oX' (swept x key t x) nX → Q (.ref y) { s with heap := h', toks := tk' }), wpAny (model PySem.Challenge.rw_ji0060_02.row.prog w) (ktrTop dp un gd cn cs L a ccd cl outer) (call (.ref 238) [.ref lim, .ref it, .ref nt]) Q E s
namespace c_fstat_spec
noncomputable def zcv : (World) × (Program) × (List Str) × (ExcName → Option Value) × (Str → Option Value) × (Str → Option Value) × (Nat) × (Nat) × (Option (List Code)) × (Str) × (Scope) × (Addr) × (Value) × (List (Str × Addr)) × (List Env) × (Around) × (Heap) × (Heap) × (Addr) × (Str → Option Value) × (Shared) × (Value → Shared → Prop) × (Value → Shared → Prop) × (List (Addr × Obj)) × (Obj) × (Obj) × (Obj → List (Addr × Obj)) × (Obj → Obj → List (Addr × Obj)) × (Str → Option Int) × (Str → Option Int) × (Nat) × (Nat) × (Addr) × (Addr) × (Addr) × (Addr) × (Addr) × (Addr) × (Addr) × (Addr) × (Bool) × (Str) × (List Str) × (Int) × (Int) × (Int) := pick (neP neW (neP inferInstance (neP inferInstance (neP inferInstance (neP inferInstance (neP inferInstance (neP inferInstance (neP inferInstance (neP inferInstance (neP inferInstance (neP inferInstance (neP inferInstance (neP inferInstance (neP inferInstance (neP inferInstance (neP neA (neP inferInstance (neP inferInstance (neP inferInstance (neP inferInstance (neP neS (neP inferInstance (neP inferInstance (neP inferInstance (neP inferInstance (neP inferInstance (neP inferInstance (neP inferInstance (neP inferInstance (neP inferInstance (neP inferInstance (neP inferInstance (neP inferInstance (neP inferInstance (neP inferInstance (neP inferInstance (neP inferInstance (neP inferInstance (neP inferInstance (neP inferInstance (neP inferInstance (neP inferInstance (neP inferInstance (neP inferInstance (neP inferInstance inferInstance))))))))))))))))))))))))))))))))))))))))))))) (fun v : (World) × (Program) × (List Str) × (ExcName → Option Value) × (Str → Option Value) × (Str → Option Value) × (Nat) × (Nat) × (Option (List Code)) × (Str) × (Scope) × (Addr) × (Value) × (List (Str × Addr)) × (List Env) × (Around) × (Heap) × (Heap) × (Addr) × (Str → Option Value) × (Shared) × (Value → Shared → Prop) × (Value → Shared → Prop) × (List (Addr × Obj)) × (Obj) × (Obj) × (Obj → List (Addr × Obj)) × (Obj → Obj → List (Addr × Obj)) × (Str → Option Int) × (Str → Option Int) × (Nat) × (Nat) × (Addr) × (Addr) × (Addr) × (Addr) × (Addr) × (Addr) × (Addr) × (Addr) × (Bool) × (Str) × (List Str) × (Int) × (Int) × (Int) => fstat_spec_St (v.1) (v.2.1) (v.2.2.1) (v.2.2.2.1) (v.2.2.2.2.1) (v.2.2.2.2.2.1) (v.2.2.2.2.2.2.1) (v.2.2.2.2.2.2.2.1) (v.2.2.2.2.2.2.2.2.1) (v.2.2.2.2.2.2.2.2.2.1) (v.2.2.2.2.2.2.2.2.2.2.1) (v.2.2.2.2.2.2.2.2.2.2.2.1) (v.2.2.2.2.2.2.2.2.2.2.2.2.1) (v.2.2.2.2.2.2.2.2.2.2.2.2.2.1) (v.2.2.2.2.2.2.2.2.2.2.2.2.2.2.1) (v.2.2.2.2.2.2.2.2.2.2.2.2.2.2.2.1) (v.2.2.2.2.2.2.2.2.2.2.2.2.2.2.2.2.1) (v.2.2.2.2.2.2.2.2.2.2.2.2.2.2.2.2.2.1) (v.2.2.2.2.2.2.2.2.2.2.2.2.2.2.2.2.2.2.1) (v.2.2.2.2.2.2.2.2.2.2.2.2.2.2.2.2.2.2.2.1) (v.2.2.2.2.2.2.2.2.2.2.2.2.2.2.2.2.2.2.2.2.1) (v.2.2.2.2.2.2.2.2.2.2.2.2.2.2.2.2.2.2.2.2.2.1) (v.2.2.2.2.2.2.2.2.2.2.2.2.2.2.2.2.2.2.2.2.2.2.1) (v.2.2.2.2.2.2.2.2.2.2.2.2.2.2.2.2.2.2.2.2.2.2.2.1) (v.2.2.2.2.2.2.2.2.2.2.2.2.2.2.2.2.2.2.2.2.2.2.2.2.1) (v.2.2.2.2.2.2.2.2.2.2.2.2.2.2.2.2.2.2.2.2.2.2.2.2.2.1) (v.2.2.2.2.2.2.2.2.2.2.2.2.2.2.2.2.2.2.2.2.2.2.2.2.2.2.1) (v.2.2.2.2.2.2.2.2.2.2.2.2.2.2.2.2.2.2.2.2.2.2.2.2.2.2.2.1) (v.2.2.2.2.2.2.2.2.2.2.2.2.2.2.2.2.2.2.2.2.2.2.2.2.2.2.2.2.1) (v.2.2.2.2.2.2.2.2.2.2.2.2.2.2.2.2.2.2.2.2.2.2.2.2.2.2.2.2.2.1) (v.2.2.2.2.2.2.2.2.2.2.2.2.2.2.2.2.2.2.2.2.2.2.2.2.2.2.2.2.2.2.1) (v.2.2.2.2.2.2.2.2.2.2.2.2.2.2.2.2.2.2.2.2.2.2.2.2.2.2.2.2.2.2.2.1) (v.2.2.2.2.2.2.2.2.2.2.2.2.2.2.2.2.2.2.2.2.2.2.2.2.2.2.2.2.2.2.2.2.1) (v.2.2.2.2.2.2.2.2.2.2.2.2.2.2.2.2.2.2.2.2.2.2.2.2.2.2.2.2.2.2.2.2.2.1) (v.2.2.2.2.2.2.2.2.2.2.2.2.2.2.2.2.2.2.2.2.2.2.2.2.2.2.2.2.2.2.2.2.2.2.1) (v.2.2.2.2.2.2.2.2.2.2.2.2.2.2.2.2.2.2.2.2.2.2.2.2.2.2.2.2.2.2.2.2.2.2.2.1) (v.2.2.2.2.2.2.2.2.2.2.2.2.2.2.2.2.2.2.2.2.2.2.2.2.2.2.2.2.2.2.2.2.2.2.2.2.1) (v.2.2.2.2.2.2.2.2.2.2.2.2.2.2.2.2.2.2.2.2.2.2.2.2.2.2.2.2.2.2.2.2.2.2.2.2.2.1) (v.2.2.2.2.2.2.2.2.2.2.2.2.2.2.2.2.2.2.2.2.2.2.2.2.2.2.2.2.2.2.2.2.2.2.2.2.2.2.1) (v.2.2.2.2.2.2.2.2.2.2.2.2.2.2.2.2.2.2.2.2.2.2.2.2.2.2.2.2.2.2.2.2.2.2.2.2.2.2.2.1) (v.2.2.2.2.2.2.2.2.2.2.2.2.2.2.2.2.2.2.2.2.2.2.2.2.2.2.2.2.2.2.2.2.2.2.2.2.2.2.2.2.1) (v.2.2.2.2.2.2.2.2.2.2.2.2.2.2.2.2.2.2.2.2.2.2.2.2.2.2.2.2.2.2.2.2.2.2.2.2.2.2.2.2.2.1) (v.2.2.2.2.2.2.2.2.2.2.2.2.2.2.2.2.2.2.2.2.2.2.2.2.2.2.2.2.2.2.2.2.2.2.2.2.2.2.2.2.2.2.1) (v.2.2.2.2.2.2.2.2.2.2.2.2.2.2.2.2.2.2.2.2.2.2.2.2.2.2.2.2.2.2.2.2.2.2.2.2.2.2.2.2.2.2.2.1) (v.2.2.2.2.2.2.2.2.2.2.2.2.2.2.2.2.2.2.2.2.2.2.2.2.2.2.2.2.2.2.2.2.2.2.2.2.2.2.2.2.2.2.2.2.1) (v.2.2.2.2.2.2.2.2.2.2.2.2.2.2.2.2.2.2.2.2.2.2.2.2.2.2.2.2.2.2.2.2.2.2.2.2.2.2.2.2.2.2.2.2.2)) 0
theorem zal (h : fstat_spec_St (zcv.1) (zcv.2.1) (zcv.2.2.1) (zcv.2.2.2.1) (zcv.2.2.2.2.1) (zcv.2.2.2.2.2.1) (zcv.2.2.2.2.2.2.1) (zcv.2.2.2.2.2.2.2.1) (zcv.2.2.2.2.2.2.2.2.1) (zcv.2.2.2.2.2.2.2.2.2.1) (zcv.2.2.2.2.2.2.2.2.2.2.1) (zcv.2.2.2.2.2.2.2.2.2.2.2.1) (zcv.2.2.2.2.2.2.2.2.2.2.2.2.1) (zcv.2.2.2.2.2.2.2.2.2.2.2.2.2.1) (zcv.2.2.2.2.2.2.2.2.2.2.2.2.2.2.1) (zcv.2.2.2.2.2.2.2.2.2.2.2.2.2.2.2.1) (zcv.2.2.2.2.2.2.2.2.2.2.2.2.2.2.2.2.1) (zcv.2.2.2.2.2.2.2.2.2.2.2.2.2.2.2.2.2.1) (zcv.2.2.2.2.2.2.2.2.2.2.2.2.2.2.2.2.2.2.1) (zcv.2.2.2.2.2.2.2.2.2.2.2.2.2.2.2.2.2.2.2.1) (zcv.2.2.2.2.2.2.2.2.2.2.2.2.2.2.2.2.2.2.2.2.1) (zcv.2.2.2.2.2.2.2.2.2.2.2.2.2.2.2.2.2.2.2.2.2.1) (zcv.2.2.2.2.2.2.2.2.2.2.2.2.2.2.2.2.2.2.2.2.2.2.1) (zcv.2.2.2.2.2.2.2.2.2.2.2.2.2.2.2.2.2.2.2.2.2.2.2.1) (zcv.2.2.2.2.2.2.2.2.2.2.2.2.2.2.2.2.2.2.2.2.2.2.2.2.1) (zcv.2.2.2.2.2.2.2.2.2.2.2.2.2.2.2.2.2.2.2.2.2.2.2.2.2.1) (zcv.2.2.2.2.2.2.2.2.2.2.2.2.2.2.2.2.2.2.2.2.2.2.2.2.2.2.1) (zcv.2.2.2.2.2.2.2.2.2.2.2.2.2.2.2.2.2.2.2.2.2.2.2.2.2.2.2.1) (zcv.2.2.2.2.2.2.2.2.2.2.2.2.2.2.2.2.2.2.2.2.2.2.2.2.2.2.2.2.1) (zcv.2.2.2.2.2.2.2.2.2.2.2.2.2.2.2.2.2.2.2.2.2.2.2.2.2.2.2.2.2.1) (zcv.2.2.2.2.2.2.2.2.2.2.2.2.2.2.2.2.2.2.2.2.2.2.2.2.2.2.2.2.2.2.1) (zcv.2.2.2.2.2.2.2.2.2.2.2.2.2.2.2.2.2.2.2.2.2.2.2.2.2.2.2.2.2.2.2.1) (zcv.2.2.2.2.2.2.2.2.2.2.2.2.2.2.2.2.2.2.2.2.2.2.2.2.2.2.2.2.2.2.2.2.1) (zcv.2.2.2.2.2.2.2.2.2.2.2.2.2.2.2.2.2.2.2.2.2.2.2.2.2.2.2.2.2.2.2.2.2.1) (zcv.2.2.2.2.2.2.2.2.2.2.2.2.2.2.2.2.2.2.2.2.2.2.2.2.2.2.2.2.2.2.2.2.2.2.1) (zcv.2.2.2.2.2.2.2.2.2.2.2.2.2.2.2.2.2.2.2.2.2.2.2.2.2.2.2.2.2.2.2.2.2.2.2.1) (zcv.2.2.2.2.2.2.2.2.2.2.2.2.2.2.2.2.2.2.2.2.2.2.2.2.2.2.2.2.2.2.2.2.2.2.2.2.1) (zcv.2.2.2.2.2.2.2.2.2.2.2.2.2.2.2.2.2.2.2.2.2.2.2.2.2.2.2.2.2.2.2.2.2.2.2.2.2.1) (zcv.2.2.2.2.2.2.2.2.2.2.2.2.2.2.2.2.2.2.2.2.2.2.2.2.2.2.2.2.2.2.2.2.2.2.2.2.2.2.1) (zcv.2.2.2.2.2.2.2.2.2.2.2.2.2.2.2.2.2.2.2.2.2.2.2.2.2.2.2.2.2.2.2.2.2.2.2.2.2.2.2.1) (zcv.2.2.2.2.2.2.2.2.2.2.2.2.2.2.2.2.2.2.2.2.2.2.2.2.2.2.2.2.2.2.2.2.2.2.2.2.2.2.2.2.1) (zcv.2.2.2.2.2.2.2.2.2.2.2.2.2.2.2.2.2.2.2.2.2.2.2.2.2.2.2.2.2.2.2.2.2.2.2.2.2.2.2.2.2.1) (zcv.2.2.2.2.2.2.2.2.2.2.2.2.2.2.2.2.2.2.2.2.2.2.2.2.2.2.2.2.2.2.2.2.2.2.2.2.2.2.2.2.2.2.1) (zcv.2.2.2.2.2.2.2.2.2.2.2.2.2.2.2.2.2.2.2.2.2.2.2.2.2.2.2.2.2.2.2.2.2.2.2.2.2.2.2.2.2.2.2.1) (zcv.2.2.2.2.2.2.2.2.2.2.2.2.2.2.2.2.2.2.2.2.2.2.2.2.2.2.2.2.2.2.2.2.2.2.2.2.2.2.2.2.2.2.2.2.1) (zcv.2.2.2.2.2.2.2.2.2.2.2.2.2.2.2.2.2.2.2.2.2.2.2.2.2.2.2.2.2.2.2.2.2.2.2.2.2.2.2.2.2.2.2.2.2)) : ∀ u : (World) × (Program) × (List Str) × (ExcName → Option Value) × (Str → Option Value) × (Str → Option Value) × (Nat) × (Nat) × (Option (List Code)) × (Str) × (Scope) × (Addr) × (Value) × (List (Str × Addr)) × (List Env) × (Around) × (Heap) × (Heap) × (Addr) × (Str → Option Value) × (Shared) × (Value → Shared → Prop) × (Value → Shared → Prop) × (List (Addr × Obj)) × (Obj) × (Obj) × (Obj → List (Addr × Obj)) × (Obj → Obj → List (Addr × Obj)) × (Str → Option Int) × (Str → Option Int) × (Nat) × (Nat) × (Addr) × (Addr) × (Addr) × (Addr) × (Addr) × (Addr) × (Addr) × (Addr) × (Bool) × (Str) × (List Str) × (Int) × (Int) × (Int), fstat_spec_St (u.1) (u.2.1) (u.2.2.1) (u.2.2.2.1) (u.2.2.2.2.1) (u.2.2.2.2.2.1) (u.2.2.2.2.2.2.1) (u.2.2.2.2.2.2.2.1) (u.2.2.2.2.2.2.2.2.1) (u.2.2.2.2.2.2.2.2.2.1) (u.2.2.2.2.2.2.2.2.2.2.1) (u.2.2.2.2.2.2.2.2.2.2.2.1) (u.2.2.2.2.2.2.2.2.2.2.2.2.1) (u.2.2.2.2.2.2.2.2.2.2.2.2.2.1) (u.2.2.2.2.2.2.2.2.2.2.2.2.2.2.1) (u.2.2.2.2.2.2.2.2.2.2.2.2.2.2.2.1) (u.2.2.2.2.2.2.2.2.2.2.2.2.2.2.2.2.1) (u.2.2.2.2.2.2.2.2.2.2.2.2.2.2.2.2.2.1) (u.2.2.2.2.2.2.2.2.2.2.2.2.2.2.2.2.2.2.1) (u.2.2.2.2.2.2.2.2.2.2.2.2.2.2.2.2.2.2.2.1) (u.2.2.2.2.2.2.2.2.2.2.2.2.2.2.2.2.2.2.2.2.1) (u.2.2.2.2.2.2.2.2.2.2.2.2.2.2.2.2.2.2.2.2.2.1) (u.2.2.2.2.2.2.2.2.2.2.2.2.2.2.2.2.2.2.2.2.2.2.1) (u.2.2.2.2.2.2.2.2.2.2.2.2.2.2.2.2.2.2.2.2.2.2.2.1) (u.2.2.2.2.2.2.2.2.2.2.2.2.2.2.2.2.2.2.2.2.2.2.2.2.1) (u.2.2.2.2.2.2.2.2.2.2.2.2.2.2.2.2.2.2.2.2.2.2.2.2.2.1) (u.2.2.2.2.2.2.2.2.2.2.2.2.2.2.2.2.2.2.2.2.2.2.2.2.2.2.1) (u.2.2.2.2.2.2.2.2.2.2.2.2.2.2.2.2.2.2.2.2.2.2.2.2.2.2.2.1) (u.2.2.2.2.2.2.2.2.2.2.2.2.2.2.2.2.2.2.2.2.2.2.2.2.2.2.2.2.1) (u.2.2.2.2.2.2.2.2.2.2.2.2.2.2.2.2.2.2.2.2.2.2.2.2.2.2.2.2.2.1) (u.2.2.2.2.2.2.2.2.2.2.2.2.2.2.2.2.2.2.2.2.2.2.2.2.2.2.2.2.2.2.1) (u.2.2.2.2.2.2.2.2.2.2.2.2.2.2.2.2.2.2.2.2.2.2.2.2.2.2.2.2.2.2.2.1) (u.2.2.2.2.2.2.2.2.2.2.2.2.2.2.2.2.2.2.2.2.2.2.2.2.2.2.2.2.2.2.2.2.1) (u.2.2.2.2.2.2.2.2.2.2.2.2.2.2.2.2.2.2.2.2.2.2.2.2.2.2.2.2.2.2.2.2.2.1) (u.2.2.2.2.2.2.2.2.2.2.2.2.2.2.2.2.2.2.2.2.2.2.2.2.2.2.2.2.2.2.2.2.2.2.1) (u.2.2.2.2.2.2.2.2.2.2.2.2.2.2.2.2.2.2.2.2.2.2.2.2.2.2.2.2.2.2.2.2.2.2.2.1) (u.2.2.2.2.2.2.2.2.2.2.2.2.2.2.2.2.2.2.2.2.2.2.2.2.2.2.2.2.2.2.2.2.2.2.2.2.1) (u.2.2.2.2.2.2.2.2.2.2.2.2.2.2.2.2.2.2.2.2.2.2.2.2.2.2.2.2.2.2.2.2.2.2.2.2.2.1) (u.2.2.2.2.2.2.2.2.2.2.2.2.2.2.2.2.2.2.2.2.2.2.2.2.2.2.2.2.2.2.2.2.2.2.2.2.2.2.1) (u.2.2.2.2.2.2.2.2.2.2.2.2.2.2.2.2.2.2.2.2.2.2.2.2.2.2.2.2.2.2.2.2.2.2.2.2.2.2.2.1) (u.2.2.2.2.2.2.2.2.2.2.2.2.2.2.2.2.2.2.2.2.2.2.2.2.2.2.2.2.2.2.2.2.2.2.2.2.2.2.2.2.1) (u.2.2.2.2.2.2.2.2.2.2.2.2.2.2.2.2.2.2.2.2.2.2.2.2.2.2.2.2.2.2.2.2.2.2.2.2.2.2.2.2.2.1) (u.2.2.2.2.2.2.2.2.2.2.2.2.2.2.2.2.2.2.2.2.2.2.2.2.2.2.2.2.2.2.2.2.2.2.2.2.2.2.2.2.2.2.1) (u.2.2.2.2.2.2.2.2.2.2.2.2.2.2.2.2.2.2.2.2.2.2.2.2.2.2.2.2.2.2.2.2.2.2.2.2.2.2.2.2.2.2.2.1) (u.2.2.2.2.2.2.2.2.2.2.2.2.2.2.2.2.2.2.2.2.2.2.2.2.2.2.2.2.2.2.2.2.2.2.2.2.2.2.2.2.2.2.2.2.1) (u.2.2.2.2.2.2.2.2.2.2.2.2.2.2.2.2.2.2.2.2.2.2.2.2.2.2.2.2.2.2.2.2.2.2.2.2.2.2.2.2.2.2.2.2.2) := pick_all (P := fun v : (World) × (Program) × (List Str) × (ExcName → Option Value) × (Str → Option Value) × (Str → Option Value) × (Nat) × (Nat) × (Option (List Code)) × (Str) × (Scope) × (Addr) × (Value) × (List (Str × Addr)) × (List Env) × (Around) × (Heap) × (Heap) × (Addr) × (Str → Option Value) × (Shared) × (Value → Shared → Prop) × (Value → Shared → Prop) × (List (Addr × Obj)) × (Obj) × (Obj) × (Obj → List (Addr × Obj)) × (Obj → Obj → List (Addr × Obj)) × (Str → Option Int) × (Str → Option Int) × (Nat) × (Nat) × (Addr) × (Addr) × (Addr) × (Addr) × (Addr) × (Addr) × (Addr) × (Addr) × (Bool) × (Str) × (List Str) × (Int) × (Int) × (Int) => fstat_spec_St (v.1) (v.2.1) (v.2.2.1) (v.2.2.2.1) (v.2.2.2.2.1) (v.2.2.2.2.2.1) (v.2.2.2.2.2.2.1) (v.2.2.2.2.2.2.2.1) (v.2.2.2.2.2.2.2.2.1) (v.2.2.2.2.2.2.2.2.2.1) (v.2.2.2.2.2.2.2.2.2.2.1) (v.2.2.2.2.2.2.2.2.2.2.2.1) (v.2.2.2.2.2.2.2.2.2.2.2.2.1) (v.2.2.2.2.2.2.2.2.2.2.2.2.2.1) (v.2.2.2.2.2.2.2.2.2.2.2.2.2.2.1) (v.2.2.2.2.2.2.2.2.2.2.2.2.2.2.2.1) (v.2.2.2.2.2.2.2.2.2.2.2.2.2.2.2.2.1) (v.2.2.2.2.2.2.2.2.2.2.2.2.2.2.2.2.2.1) (v.2.2.2.2.2.2.2.2.2.2.2.2.2.2.2.2.2.2.1) (v.2.2.2.2.2.2.2.2.2.2.2.2.2.2.2.2.2.2.2.1) (v.2.2.2.2.2.2.2.2.2.2.2.2.2.2.2.2.2.2.2.2.1) (v.2.2.2.2.2.2.2.2.2.2.2.2.2.2.2.2.2.2.2.2.2.1) (v.2.2.2.2.2.2.2.2.2.2.2.2.2.2.2.2.2.2.2.2.2.2.1) (v.2.2.2.2.2.2.2.2.2.2.2.2.2.2.2.2.2.2.2.2.2.2.2.1) (v.2.2.2.2.2.2.2.2.2.2.2.2.2.2.2.2.2.2.2.2.2.2.2.2.1) (v.2.2.2.2.2.2.2.2.2.2.2.2.2.2.2.2.2.2.2.2.2.2.2.2.2.1) (v.2.2.2.2.2.2.2.2.2.2.2.2.2.2.2.2.2.2.2.2.2.2.2.2.2.2.1) (v.2.2.2.2.2.2.2.2.2.2.2.2.2.2.2.2.2.2.2.2.2.2.2.2.2.2.2.1) (v.2.2.2.2.2.2.2.2.2.2.2.2.2.2.2.2.2.2.2.2.2.2.2.2.2.2.2.2.1) (v.2.2.2.2.2.2.2.2.2.2.2.2.2.2.2.2.2.2.2.2.2.2.2.2.2.2.2.2.2.1) (v.2.2.2.2.2.2.2.2.2.2.2.2.2.2.2.2.2.2.2.2.2.2.2.2.2.2.2.2.2.2.1) (v.2.2.2.2.2.2.2.2.2.2.2.2.2.2.2.2.2.2.2.2.2.2.2.2.2.2.2.2.2.2.2.1) (v.2.2.2.2.2.2.2.2.2.2.2.2.2.2.2.2.2.2.2.2.2.2.2.2.2.2.2.2.2.2.2.2.1) (v.2.2.2.2.2.2.2.2.2.2.2.2.2.2.2.2.2.2.2.2.2.2.2.2.2.2.2.2.2.2.2.2.2.1) (v.2.2.2.2.2.2.2.2.2.2.2.2.2.2.2.2.2.2.2.2.2.2.2.2.2.2.2.2.2.2.2.2.2.2.1) (v.2.2.2.2.2.2.2.2.2.2.2.2.2.2.2.2.2.2.2.2.2.2.2.2.2.2.2.2.2.2.2.2.2.2.2.1) (v.2.2.2.2.2.2.2.2.2.2.2.2.2.2.2.2.2.2.2.2.2.2.2.2.2.2.2.2.2.2.2.2.2.2.2.2.1) (v.2.2.2.2.2.2.2.2.2.2.2.2.2.2.2.2.2.2.2.2.2.2.2.2.2.2.2.2.2.2.2.2.2.2.2.2.2.1) (v.2.2.2.2.2.2.2.2.2.2.2.2.2.2.2.2.2.2.2.2.2.2.2.2.2.2.2.2.2.2.2.2.2.2.2.2.2.2.1) (v.2.2.2.2.2.2.2.2.2.2.2.2.2.2.2.2.2.2.2.2.2.2.2.2.2.2.2.2.2.2.2.2.2.2.2.2.2.2.2.1) (v.2.2.2.2.2.2.2.2.2.2.2.2.2.2.2.2.2.2.2.2.2.2.2.2.2.2.2.2.2.2.2.2.2.2.2.2.2.2.2.2.1) (v.2.2.2.2.2.2.2.2.2.2.2.2.2.2.2.2.2.2.2.2.2.2.2.2.2.2.2.2.2.2.2.2.2.2.2.2.2.2.2.2.2.1) (v.2.2.2.2.2.2.2.2.2.2.2.2.2.2.2.2.2.2.2.2.2.2.2.2.2.2.2.2.2.2.2.2.2.2.2.2.2.2.2.2.2.2.1) (v.2.2.2.2.2.2.2.2.2.2.2.2.2.2.2.2.2.2.2.2.2.2.2.2.2.2.2.2.2.2.2.2.2.2.2.2.2.2.2.2.2.2.2.1) (v.2.2.2.2.2.2.2.2.2.2.2.2.2.2.2.2.2.2.2.2.2.2.2.2.2.2.2.2.2.2.2.2.2.2.2.2.2.2.2.2.2.2.2.2.1) (v.2.2.2.2.2.2.2.2.2.2.2.2.2.2.2.2.2.2.2.2.2.2.2.2.2.2.2.2.2.2.2.2.2.2.2.2.2.2.2.2.2.2.2.2.2)) h
noncomputable def w : World := zcv.1
noncomputable def p : Program := zcv.2.1
noncomputable def loose : List Str := zcv.2.2.1
noncomputable def mean : ExcName → Option Value := zcv.2.2.2.1
noncomputable def mg : Str → Option Value := zcv.2.2.2.2.1
noncomputable def mb : Str → Option Value := zcv.2.2.2.2.2.1
noncomputable def dp : Nat := zcv.2.2.2.2.2.2.1
noncomputable def un : Nat := zcv.2.2.2.2.2.2.2.1
noncomputable def gd : Option (List Code) := zcv.2.2.2.2.2.2.2.2.1
noncomputable def cn : Str := zcv.2.2.2.2.2.2.2.2.2.1
noncomputable def cs : Scope := zcv.2.2.2.2.2.2.2.2.2.2.1
noncomputable def a : Addr := zcv.2.2.2.2.2.2.2.2.2.2.2.1
noncomputable def ccd : Value := zcv.2.2.2.2.2.2.2.2.2.2.2.2.1
noncomputable def cl : List (Str × Addr) := zcv.2.2.2.2.2.2.2.2.2.2.2.2.2.1
noncomputable def outer : List Env := zcv.2.2.2.2.2.2.2.2.2.2.2.2.2.2.1
noncomputable def A₀ : Around := zcv.2.2.2.2.2.2.2.2.2.2.2.2.2.2.2.1
noncomputable def base : Heap := zcv.2.2.2.2.2.2.2.2.2.2.2.2.2.2.2.2.1
noncomputable def h₀ : Heap := zcv.2.2.2.2.2.2.2.2.2.2.2.2.2.2.2.2.2.1
noncomputable def L : Addr := zcv.2.2.2.2.2.2.2.2.2.2.2.2.2.2.2.2.2.2.1
noncomputable def m : Str → Option Value := zcv.2.2.2.2.2.2.2.2.2.2.2.2.2.2.2.2.2.2.2.1
noncomputable def s : Shared := zcv.2.2.2.2.2.2.2.2.2.2.2.2.2.2.2.2.2.2.2.2.1
noncomputable def Q : Value → Shared → Prop := zcv.2.2.2.2.2.2.2.2.2.2.2.2.2.2.2.2.2.2.2.2.2.1
noncomputable def E : Value → Shared → Prop := zcv.2.2.2.2.2.2.2.2.2.2.2.2.2.2.2.2.2.2.2.2.2.2.1
noncomputable def news : List (Addr × Obj) := zcv.2.2.2.2.2.2.2.2.2.2.2.2.2.2.2.2.2.2.2.2.2.2.2.1
noncomputable def oS : Obj := zcv.2.2.2.2.2.2.2.2.2.2.2.2.2.2.2.2.2.2.2.2.2.2.2.2.1
noncomputable def oX : Obj := zcv.2.2.2.2.2.2.2.2.2.2.2.2.2.2.2.2.2.2.2.2.2.2.2.2.2.1
noncomputable def g1 : Obj → List (Addr × Obj) := zcv.2.2.2.2.2.2.2.2.2.2.2.2.2.2.2.2.2.2.2.2.2.2.2.2.2.2.1
noncomputable def g2 : Obj → Obj → List (Addr × Obj) := zcv.2.2.2.2.2.2.2.2.2.2.2.2.2.2.2.2.2.2.2.2.2.2.2.2.2.2.2.1
noncomputable def f : Str → Option Int := zcv.2.2.2.2.2.2.2.2.2.2.2.2.2.2.2.2.2.2.2.2.2.2.2.2.2.2.2.2.1
noncomputable def x : Str → Option Int := zcv.2.2.2.2.2.2.2.2.2.2.2.2.2.2.2.2.2.2.2.2.2.2.2.2.2.2.2.2.2.1
noncomputable def nS : Nat := zcv.2.2.2.2.2.2.2.2.2.2.2.2.2.2.2.2.2.2.2.2.2.2.2.2.2.2.2.2.2.2.1
noncomputable def nX : Nat := zcv.2.2.2.2.2.2.2.2.2.2.2.2.2.2.2.2.2.2.2.2.2.2.2.2.2.2.2.2.2.2.2.1
noncomputable def st : Addr := zcv.2.2.2.2.2.2.2.2.2.2.2.2.2.2.2.2.2.2.2.2.2.2.2.2.2.2.2.2.2.2.2.2.1
noncomputable def S : Addr := zcv.2.2.2.2.2.2.2.2.2.2.2.2.2.2.2.2.2.2.2.2.2.2.2.2.2.2.2.2.2.2.2.2.2.1
noncomputable def X : Addr := zcv.2.2.2.2.2.2.2.2.2.2.2.2.2.2.2.2.2.2.2.2.2.2.2.2.2.2.2.2.2.2.2.2.2.2.1
noncomputable def V : Addr := zcv.2.2.2.2.2.2.2.2.2.2.2.2.2.2.2.2.2.2.2.2.2.2.2.2.2.2.2.2.2.2.2.2.2.2.2.1
noncomputable def clk : Addr := zcv.2.2.2.2.2.2.2.2.2.2.2.2.2.2.2.2.2.2.2.2.2.2.2.2.2.2.2.2.2.2.2.2.2.2.2.2.1
noncomputable def lim : Addr := zcv.2.2.2.2.2.2.2.2.2.2.2.2.2.2.2.2.2.2.2.2.2.2.2.2.2.2.2.2.2.2.2.2.2.2.2.2.2.1
noncomputable def it : Addr := zcv.2.2.2.2.2.2.2.2.2.2.2.2.2.2.2.2.2.2.2.2.2.2.2.2.2.2.2.2.2.2.2.2.2.2.2.2.2.2.1
noncomputable def nt : Addr := zcv.2.2.2.2.2.2.2.2.2.2.2.2.2.2.2.2.2.2.2.2.2.2.2.2.2.2.2.2.2.2.2.2.2.2.2.2.2.2.2.1
noncomputable def sec : Bool := zcv.2.2.2.2.2.2.2.2.2.2.2.2.2.2.2.2.2.2.2.2.2.2.2.2.2.2.2.2.2.2.2.2.2.2.2.2.2.2.2.2.1
noncomputable def ns : Str := zcv.2.2.2.2.2.2.2.2.2.2.2.2.2.2.2.2.2.2.2.2.2.2.2.2.2.2.2.2.2.2.2.2.2.2.2.2.2.2.2.2.2.1
noncomputable def names : List Str := zcv.2.2.2.2.2.2.2.2.2.2.2.2.2.2.2.2.2.2.2.2.2.2.2.2.2.2.2.2.2.2.2.2.2.2.2.2.2.2.2.2.2.2.1
noncomputable def am : Int := zcv.2.2.2.2.2.2.2.2.2.2.2.2.2.2.2.2.2.2.2.2.2.2.2.2.2.2.2.2.2.2.2.2.2.2.2.2.2.2.2.2.2.2.2.1
noncomputable def mu : Int := zcv.2.2.2.2.2.2.2.2.2.2.2.2.2.2.2.2.2.2.2.2.2.2.2.2.2.2.2.2.2.2.2.2.2.2.2.2.2.2.2.2.2.2.2.2.1
noncomputable def t : Int := zcv.2.2.2.2.2.2.2.2.2.2.2.2.2.2.2.2.2.2.2.2.2.2.2.2.2.2.2.2.2.2.2.2.2.2.2.2.2.2.2.2.2.2.2.2.2
theorem walk1 : fstat_spec_St w p loose mean mg mb dp un gd cn cs a ccd cl outer A₀ base h₀ L m s Q E news oS oX g1 g2 f x nS nX st S X V clk lim it nt sec ns names am mu t := by
  intro key e B F KX T hk N O Li I J U1 U2 hS hX zS zX ee ek he he2 het ht hd hu retH
  subst ee ek
  refine lower ?_ hd hu
  obtain ⟨frz, n1, n2, N', sub, mem⟩ := split2 O.xs U1 U2 N
  have O' : Store w frz st S X V clk t := O.sub (fun q hq ho => sub q hq ho.1 ho.2.1)
  have I' := I.sub (news' := frz) (fun q hq ho => sub q hq ho.1 ho.2.1)
  have J' := J.sub (news' := frz) (fun q hq ho => sub q hq ho.1 ho.2.1)
  have Li' := Li.sub (news' := frz) (fun q hq ho => sub q hq ho.1 ho.2.1)
  have hkl := keyOf_len I' J'
  clear N U1 U2 sub O I J Li
  obtain ⟨ldx, lh, lt, ln, hlim, hldx, _, _⟩ := Li'
  have O'' := O'
  obtain ⟨⟨dx, h1, h2, h3, h4, t1, t2, t3, t4, nn, oc, od, fd, sl, hst, hck, hdx, _, _, _⟩, _, sx, xv, lS, lX, lV⟩ := O''
  revert KX; k_fill; intro KX
  refine wpAny_call ?_
  walk_at "m enter"
  k_steps
  all_goals exact retH _ _ _ _ _ _ _ _ (by assumption) (news_of (by assumption) (cons_sub (cons_sub (mem _ _)))) (allLt_sub (mem _ _) (allLt_mem (by assumption))) (by assumption) (by assumption) (by assumption)
end c_fstat_spec
theorem fstat_spec {w : World} {p : Program} {loose : List Str} {mean : ExcName → Option Value} {mg : Str → Option Value} {mb : Str → Option Value} {dp : Nat} {un : Nat} {gd : Option (List Code)} {cn : Str} {cs : Scope} {a : Addr} {ccd : Value} {cl : List (Str × Addr)} {outer : List Env} {A₀ : Around} {base : Heap} {h₀ : Heap} {L : Addr} {m : Str → Option Value} {s : Shared} {Q : Value → Shared → Prop} {E : Value → Shared → Prop} (B : Below A₀ base outer h₀) (F : Fr h₀ L s.heap m) (KX : (Mine.hd1.heap_39 w.params).In h₀) (T : Top p loose mean mg mb h₀) (hk : cs.kind = .function) {news : List (Addr × Obj)} {oS : Obj} {oX : Obj} {g1 : Obj → List (Addr × Obj)} {g2 : Obj → Obj → List (Addr × Obj)} {f : Str → Option Int} {x : Str → Option Int} {nS : Nat} {nX : Nat} {st : Addr} {S : Addr} {X : Addr} {V : Addr} {clk : Addr} {lim : Addr} {it : Addr} {nt : Addr} {sec : Bool} {ns : Str} {key : Str} {names : List Str} {am : Int} {mu : Int} {t : Int} {e : Int} (N : News h₀ L s.heap news) (O : Store w news st S X V clk t) (Li : LimAt news S X V 241 lim st) (I : ItemAt news S X V it sec ns am mu) (J : NamesAt news S X V nt names) (U1 : UpdF S oS news g1) (U2 : ∀ o, UpdF X oX (g1 o) (g2 o)) (hS : IntD PySem.Challenge.rw_ji0060_02.row.prog w oS f nS) (hX : IntD PySem.Challenge.rw_ji0060_02.row.prog w oX x nX) (zS : nS + 1 ≤ sizeLine) (zX : nX + 1 ≤ sizeLine) (ee : e = unitOf sec * mu) (ek : key = keyOf sec ns names am mu) (he : 0 < e) (he2 : e < 1000000) (het : e ≤ t) (ht : t < 1000000000000) (hd : dp ≤ 820) (hu : un ≤ 8200) (retH : ∀ y d r1 r2 oS' oX' h' tk', Fr h₀ L h' m → News h₀ L h' ((y, tupObj d [.int ((swept x key t x key).getD t) r1, .int (remF am ((swept x key t f key).getD 0)) r2]) :: (d, emptyDict) :: g2 oS' oX') → AllLt d (g2 oS' oX') → @LT.lt Nat _ d y → IntD PySem.Challenge.rw_ji0060_02.row.prog w oS' (swept x key t f) nS → IntD PySem.Challenge.rw_ji0060_02.row.prog w oX' (swept x key t x) nX → Q (.ref y) { s with heap := h', toks := tk' }) :
    wpAny (model PySem.Challenge.rw_ji0060_02.row.prog w) (ktrTop dp un gd cn cs L a ccd cl outer) (call (.ref 238) [.ref lim, .ref it, .ref nt]) Q E s :=
  c_fstat_spec.zal c_fstat_spec.walk1 (w, p, loose, mean, mg, mb, dp, un, gd, cn, cs, a, ccd, cl, outer, A₀, base, h₀, L, m, s, Q, E, news, oS, oX, g1, g2, f, x, nS, nX, st, S, X, V, clk, lim, it, nt, sec, ns, names, am, mu, t) _ _ B F KX T hk N O Li I J U1 U2 hS hX zS zX ee ek he he2 het ht hd hu retH
section
variable {w : World} {p : Program} {loose : List Str} {mean : ExcName → Option Value} {mg mb : Str → Option Value} {dp un : Nat} {gd : Option (List Code)} {cn : Str} {cs : Scope} {a : Addr} {ccd : Value} {cl : List (Str × Addr)} {outer : List Env} {A₀ : Around} {base h₀ : Heap} {L : Addr} {m : Str → Option Value} {s : Shared} {Q E : Value → Shared → Prop}
  (B : Below A₀ base outer h₀) (F : Fr h₀ L s.heap m) (KX : (Mine.hd1.heap_39 w.params).In h₀) (T : Top p loose mean mg mb h₀) (hk : cs.kind = .function)
include B F KX T hk
end

end

theorem said_fstat : True := by
  k_with "call ref" => (k_here; (with_reducible show wpAny _ _ (call (Value.ref 238) _) _ _ _); k_dflt (refine' fstat_spec ?zyB ?zyF ?zyX ?zyT ?zyk ?zyN ?zyO ?zyLi ?zyI ?zyJ ?zyU1 ?zyU2 ?zyhS ?zyhX ?zyzS ?zyzX ?zyee ?zyek ?zyhe ?zyhe2 ?zyhet ?zyht ?zyd ?zyu ?_; (case zyB => k_asm); (case zyF => k_asm); (case zyX => k_asm); (case zyT => k_asm); (case zyk => first | exact rfl | assumption); (case zyN => k_asm); (case zyO => refine' Store.sub ?zyo ?zys; (case zyo => assumption); (case zys => walk_at "m sub")); (case zyU1 => k_updF); (case zyU2 => (intro o1; (try dsimp only); k_updF)); (case zyhS => assumption); (case zyhX => assumption); (case zyzS => first | assumption | omega); (case zyzX => first | assumption | omega); (case zyLi => refine' LimAt.sub ?zyo ?zys; (case zyo => assumption); (case zys => walk_at "m sub")); (case zyI => refine' ItemAt.sub ?zyo ?zys; (case zyo => assumption); (case zys => walk_at "m sub")); (case zyJ => refine' NamesAt.sub ?zyo ?zys; (case zyo => assumption); (case zys => walk_at "m sub")); (case zyee => first | assumption | rfl); (case zyek => first | assumption | rfl); (case zyhe => walk_at "m om"); (case zyhe2 => walk_at "m om"); (case zyhet => walk_at "m om"); (case zyht => walk_at "m om"); (case zyd => exact Nat.le_of_ble_eq_true rfl); (case zyu => exact Nat.le_of_ble_eq_true rfl); k_whole); (intro y' d' r1' r2' oS' oX' h' tk' F' N' l1 l2 hS' hX'; (replace l1 := allLt_of (allLt_mem l1)); (have l3 := l1); (try dsimp only [AllLt] at l3); (try dsimp only at N'); (try dsimp only); (try k_sweep)))
  trivial
section
section
variable {w : World} {p : Program} {loose : List Str} {mean : ExcName → Option Value} {mg mb : Str → Option Value} {dp un : Nat} {gd : Option (List Code)} {cn : Str} {cs : Scope} {a : Addr} {ccd : Value} {cl : List (Str × Addr)} {outer : List Env} {A₀ : Around} {base h₀ : Heap} {L : Addr} {m : Str → Option Value} {s : Shared} {Q E : Value → Shared → Prop}
  (B : Below A₀ base outer h₀) (F : Fr h₀ L s.heap m) (KX : (Mine.hd1.heap_39 w.params).In h₀) (T : Top p loose mean mg mb h₀) (hk : cs.kind = .function)
include B F KX T hk


theorem fclear_spec {news : List (Addr × Obj)} {oS oX oV : Obj} {g1 : Obj → List (Addr × Obj)} {g2 : Obj → Obj → List (Addr × Obj)} {g3 : Obj → Obj → Obj → List (Addr × Obj)} {f x : Str → Option Int} {nS nX : Nat} {ev : Str → Option Addr} {nV : Nat} {st S X V clk lim it nt : Addr} {sec : Bool} {ns key : Str} {names : List Str} {am mu t e : Int} 
    (N : News h₀ L s.heap news) (O : Store w news st S X V clk t) (Li : LimAt news S X V 241 lim st) (I : ItemAt news S X V it sec ns am mu) (J : NamesAt news S X V nt names) (U1 : UpdF S oS news g1) (U2 : ∀ o, UpdF X oX (g1 o) (g2 o)) (U3 : ∀ o o', UpdF V oV (g2 o o') (g3 o o'))
    (hS : IntD PySem.Challenge.rw_ji0060_02.row.prog w oS f nS) (hX : IntD PySem.Challenge.rw_ji0060_02.row.prog w oX x nX) (hV : RefD PySem.Challenge.rw_ji0060_02.row.prog w oV ev nV) (zS : nS + 1 ≤ sizeLine) (zX : nX + 1 ≤ sizeLine) (zV : nV + 1 ≤ sizeLine) (ee : e = unitOf sec * mu) (ek : key = keyOf sec ns names am mu)  (hd : dp ≤ 820) (hu : un ≤ 8200)
    (ret : ∀ oS' oX' oV' h' tk', Fr h₀ L h' m → News h₀ L h' (g3 oS' oX' oV') → IntD PySem.Challenge.rw_ji0060_02.row.prog w oS' (upd f key none) nS → IntD PySem.Challenge.rw_ji0060_02.row.prog w oX' (upd x key none) nX → RefD PySem.Challenge.rw_ji0060_02.row.prog w oV' (upd ev key none) nV → Q .none { s with heap := h', toks := tk' }) :
    wpAny (model PySem.Challenge.rw_ji0060_02.row.prog w) (ktrTop dp un gd cn cs L a ccd cl outer) (call (.ref 158) [.ref lim, .ref it, .ref nt]) Q E s := by
  subst ee ek
  refine lower ?_ hd hu
  obtain ⟨frz, n1, n2, n3, N', sub, mem⟩ := split3 O.xs O.vs O.vx U1 U2 U3 N
  have O' : Store w frz st S X V clk t := O.sub (fun q hq ho => sub q hq ho.1 ho.2.1 ho.2.2)
  have I' := I.sub (news' := frz) (fun q hq ho => sub q hq ho.1 ho.2.1 ho.2.2)
  have J' := J.sub (news' := frz) (fun q hq ho => sub q hq ho.1 ho.2.1 ho.2.2)
  have Li' := Li.sub (news' := frz) (fun q hq ho => sub q hq ho.1 ho.2.1 ho.2.2)
  have hkl := keyOf_len I' J'
  clear N U1 U2 U3 sub O I J Li
  obtain ⟨ldx, lh, lt, ln, hlim, hldx, _, _⟩ := Li'
  have O'' := O'
  obtain ⟨⟨dx, h1, h2, h3, h4, t1, t2, t3, t4, nn, oc, od, fd, sl, hst, hck, hdx, _, _, _⟩, _, sx, xv, lS, lX, lV⟩ := O''
  revert KX; k_fill; intro KX
  refine wpAny_call ?_
  walk_at "m enter"
  k_steps
  exact ret _ _ _ _ _ (by assumption) (news_of (by assumption) (mem _ _ _)) (by assumption) (by assumption) (by assumption)
end

end

theorem said_fclear : True := by
  k_with "call ref" => (k_here; (with_reducible show wpAny _ _ (call (Value.ref 158) _) _ _ _); k_dflt (refine' fclear_spec ?zyB ?zyF ?zyX ?zyT ?zyk ?zyN ?zyO ?zyLi ?zyI ?zyJ ?zyU1 ?zyU2 ?zyU3 ?zyhS ?zyhX ?zyhV ?zyzS ?zyzX ?zyzV ?zyee ?zyek  ?zyd ?zyu ?_; (case zyB => k_asm); (case zyF => k_asm); (case zyX => k_asm); (case zyT => k_asm); (case zyk => first | exact rfl | assumption); (case zyN => k_asm); (case zyO => refine' Store.sub ?zyo ?zys; (case zyo => assumption); (case zys => walk_at "m sub")); (case zyU1 => k_updF); (case zyU2 => (intro o1; (try dsimp only); k_updF)); (case zyhS => assumption); (case zyhX => assumption); (case zyzS => first | assumption | omega); (case zyzX => first | assumption | omega); (case zyU3 => (intro o1 o2; (try dsimp only); k_updF)); (case zyhV => assumption); (case zyzV => walk_at "m om"); (case zyLi => refine' LimAt.sub ?zyo ?zys; (case zyo => assumption); (case zys => walk_at "m sub")); (case zyI => refine' ItemAt.sub ?zyo ?zys; (case zyo => assumption); (case zys => walk_at "m sub")); (case zyJ => refine' NamesAt.sub ?zyo ?zys; (case zyo => assumption); (case zys => walk_at "m sub")); (case zyee => first | assumption | rfl); (case zyek => first | assumption | rfl); (case zyd => exact Nat.le_of_ble_eq_true rfl); (case zyu => exact Nat.le_of_ble_eq_true rfl); k_whole); (intro oS' oX' oV' h' tk' F' N' hS' hX' hV'; (try dsimp only at N'); (try dsimp only); (try k_sweep)))
  trivial
section
-- only 2
section
variable {w : World} {p : Program} {loose : List Str} {mean : ExcName → Option Value} {mg mb : Str → Option Value} {dp un : Nat} {gd : Option (List Code)} {cn : Str} {cs : Scope} {a : Addr} {ccd : Value} {cl : List (Str × Addr)} {outer : List Env} {A₀ : Around} {base h₀ : Heap} {L : Addr} {m : Str → Option Value} {s : Shared} {Q E : Value → Shared → Prop}
  (B : Below A₀ base outer h₀) (F : Fr h₀ L s.heap m) (KX : (Mine.hd1.heap_39 w.params).In h₀) (T : Top p loose mean mg mb h₀) (hk : cs.kind = .function)
include B F KX T hk


theorem mclear_spec {news : List (Addr × Obj)} {oS oX oV : Obj} {g1 : Obj → List (Addr × Obj)} {g2 : Obj → Obj → List (Addr × Obj)} {g3 : Obj → Obj → Obj → List (Addr × Obj)} {f x : Str → Option Int} {nS nX : Nat} {ev : Str → Option Addr} {nV : Nat} {st S X V clk lim it nt : Addr} {sec : Bool} {ns key : Str} {names : List Str} {am mu t e : Int} 
    (N : News h₀ L s.heap news) (O : Store w news st S X V clk t) (Li : LimAt news S X V 202 lim st) (I : ItemAt news S X V it sec ns am mu) (J : NamesAt news S X V nt names) (U1 : UpdF S oS news g1) (U2 : ∀ o, UpdF X oX (g1 o) (g2 o)) (U3 : ∀ o o', UpdF V oV (g2 o o') (g3 o o'))
    (hS : IntD PySem.Challenge.rw_ji0060_02.row.prog w oS f nS) (hX : IntD PySem.Challenge.rw_ji0060_02.row.prog w oX x nX) (hV : RefD PySem.Challenge.rw_ji0060_02.row.prog w oV ev nV) (zS : nS + 1 ≤ sizeLine) (zX : nX + 1 ≤ sizeLine) (zV : nV + 1 ≤ sizeLine) (ee : e = unitOf sec * mu) (ek : key = keyOf sec ns names am mu)  (hd : dp ≤ 820) (hu : un ≤ 8200)
    (ret : ∀ oS' oX' oV' h' tk', Fr h₀ L h' m → News h₀ L h' (g3 oS' oX' oV') → IntD PySem.Challenge.rw_ji0060_02.row.prog w oS' (upd f key none) nS → IntD PySem.Challenge.rw_ji0060_02.row.prog w oX' (upd x key none) nX → RefD PySem.Challenge.rw_ji0060_02.row.prog w oV' (upd ev key none) nV → Q .none { s with heap := h', toks := tk' }) :
    wpAny (model PySem.Challenge.rw_ji0060_02.row.prog w) (ktrTop dp un gd cn cs L a ccd cl outer) (call (.ref 158) [.ref lim, .ref it, .ref nt]) Q E s := by
  subst ee ek
  refine lower ?_ hd hu
  obtain ⟨frz, n1, n2, n3, N', sub, mem⟩ := split3 O.xs O.vs O.vx U1 U2 U3 N
  have O' : Store w frz st S X V clk t := O.sub (fun q hq ho => sub q hq ho.1 ho.2.1 ho.2.2)
  have I' := I.sub (news' := frz) (fun q hq ho => sub q hq ho.1 ho.2.1 ho.2.2)
  have J' := J.sub (news' := frz) (fun q hq ho => sub q hq ho.1 ho.2.1 ho.2.2)
  have Li' := Li.sub (news' := frz) (fun q hq ho => sub q hq ho.1 ho.2.1 ho.2.2)
  have hkl := keyOf_len I' J'
  clear N U1 U2 U3 sub O I J Li
  obtain ⟨ldx, lh, lt, ln, hlim, hldx, _, _⟩ := Li'
  have O'' := O'
  obtain ⟨⟨dx, h1, h2, h3, h4, t1, t2, t3, t4, nn, oc, od, fd, sl, hst, hck, hdx, _, _, _⟩, _, sx, xv, lS, lX, lV⟩ := O''
  revert KX; k_fill; intro KX
  refine wpAny_call ?_
  walk_at "m enter"
  k_steps
  exact ret _ _ _ _ _ (by assumption) (news_of (by assumption) (mem _ _ _)) (by assumption) (by assumption) (by assumption)
end

end

theorem said_mclear : True := by
  k_with "call ref" => (k_here; (with_reducible show wpAny _ _ (call (Value.ref 158) _) _ _ _); k_dflt (refine' mclear_spec ?zyB ?zyF ?zyX ?zyT ?zyk ?zyN ?zyO ?zyLi ?zyI ?zyJ ?zyU1 ?zyU2 ?zyU3 ?zyhS ?zyhX ?zyhV ?zyzS ?zyzX ?zyzV ?zyee ?zyek  ?zyd ?zyu ?_; (case zyB => k_asm); (case zyF => k_asm); (case zyX => k_asm); (case zyT => k_asm); (case zyk => first | exact rfl | assumption); (case zyN => k_asm); (case zyO => refine' Store.sub ?zyo ?zys; (case zyo => assumption); (case zys => walk_at "m sub")); (case zyU1 => k_updF); (case zyU2 => (intro o1; (try dsimp only); k_updF)); (case zyhS => assumption); (case zyhX => assumption); (case zyzS => first | assumption | omega); (case zyzX => first | assumption | omega); (case zyU3 => (intro o1 o2; (try dsimp only); k_updF)); (case zyhV => assumption); (case zyzV => walk_at "m om"); (case zyLi => refine' LimAt.sub ?zyo ?zys; (case zyo => assumption); (case zys => walk_at "m sub")); (case zyI => refine' ItemAt.sub ?zyo ?zys; (case zyo => assumption); (case zys => walk_at "m sub")); (case zyJ => refine' NamesAt.sub ?zyo ?zys; (case zyo => assumption); (case zys => walk_at "m sub")); (case zyee => first | assumption | rfl); (case zyek => first | assumption | rfl); (case zyd => exact Nat.le_of_ble_eq_true rfl); (case zyu => exact Nat.le_of_ble_eq_true rfl); k_whole); (intro oS' oX' oV' h' tk' F' N' hS' hX' hV'; (try dsimp only at N'); (try dsimp only); (try k_sweep)))
  trivial
section
section
variable {prog : Program} {w : World} {A₀ A : Around} {s : Shared} {base h₀ : Heap} {outer : List Env} {L : Addr} {m : Str → Option Value} {env : Env} {news : List (Addr × Obj)} {K : Frag} {p : Program} {loose : List Str} {mean : ExcName → Option Value} {mg mb : Str → Option Value}
    {R : Result → Shared → Prop} {name qual : Str} {params : Arguments} {body : List Stmt} {scope : Scope} {dV kV doc pm cdv ct oc : Value} {an od : Option Addr} {osl : Array (Option Value)} {f : Addr} {args : Args} {binds : List (Str × Value)}
theorem memX {env : Env} {L b : Addr} {outer : List Env} (hf : env.frame = some L) (hm : b ∈ (env :: outer).filterMap (·.frame)) : b = L ∨ b ∈ outer.filterMap (·.frame) := by
  rw [List.filterMap_cons, hf] at hm
  exact List.mem_cons.mp hm
theorem enterX (B : Below A₀ base outer h₀) (F : Fr h₀ L s.heap m) (N : News h₀ L s.heap news) (hA : A.frames = some (env :: outer)) (hf : env.frame = some L) (hke : env.scope.kind = .function) :
    ∃ oL es ep, (hideAll s.heap (news.map (·.1))).get? L = some oL ∧ oL.data = .dict es ep ∧ (∀ h', h'.get? L = some oL → Heap.Ns h' L m) ∧ (∀ (sl : Array (Option Value)) h', h'.get? L = some { oL with slots := sl } → Heap.Ns h' L m) ∧
      h₀.StaysIn (hideAll s.heap (news.map (·.1))) ∧ Below A base (env :: outer) (hideAll s.heap (news.map (·.1))) := by
  have nm : ∀ b o, h₀.get? b = some o → b ∉ news.map (·.1) := fun b o e q => by
    obtain ⟨p, hp, rfl⟩ := List.mem_map.mp q
    rw [(N p hp).2.2] at e; cases e
  have st : h₀.StaysIn (hideAll s.heap (news.map (·.1))) := fun b o e => hideAll_get _ (F.keep b o e) (nm b o e)
  obtain ⟨oL, es, ep, hL, hLd, hLk, hLf⟩ := F.ns
  have nL : L ∉ news.map (·.1) := fun q => by
    obtain ⟨p, hp, e⟩ := List.mem_map.mp q
    exact (N p hp).2.1 e
  have hLg := hideAll_get (news.map (·.1)) hL nL
  have B₁ := pushX B F hf hke
  exact ⟨oL, es, ep, hLg, hLd, fun h' e => ⟨oL, es, ep, e, hLd, hLk, hLf⟩, fun sl h' e => ⟨_, es, ep, e, hLd, hLk, hLf⟩, st, ⟨hA, fun b o e => st b o (B.stays b o e), funFrames_hideAll B₁.frames fun env' he b hb hf' => by
    cases he with
    | head => exact nL ((Option.some.inj (hf.symm.trans hf') : L = b) ▸ hb)
    | tail _ he =>
      obtain ⟨L₁, o₁, hf₁, ho₁⟩ := funFrames_in B.frames env' he
      rw [hf₁] at hf'
      exact nm L₁ o₁ ho₁ ((Option.some.inj hf' : L₁ = b) ▸ hb)⟩⟩
/-- a called frame ends, the frames below turned in their slots alone -/
noncomputable def LeaveX (fs : List Addr) (A₀ : Around) (base : Heap) (outer : List Env) (K : Frag) (p : Program) (loose : List Str) (mean : ExcName → Option Value) (mg mb : Str → Option Value) (h₀ : Heap) (L : Addr) (m : Str → Option Value) (g : Heap) (R : Result → Shared → Prop) (v : Value) (s' : Shared) : Prop :=
  ∃ g' L' m' news', KtsTurn fs g g' ∧ Fr g' L' s'.heap m' ∧ News g' L' s'.heap news' ∧ ∀ h₀', KtsTurn (outer.filterMap (·.frame)) h₀ h₀' → Fr h₀' L s'.heap m → News h₀' L s'.heap news' → Below A₀ base outer h₀' → K.In h₀' → Top p loose mean mg mb h₀' →
    KtsDicts (outer.filterMap (·.frame)) h₀' → R (.ok (.ret v)) s'
theorem leaveX_ {fs : List Addr} {A₀ : Around} {base : Heap} {outer : List Env} {K : Frag} {p : Program} {loose : List Str} {mean : ExcName → Option Value} {mg mb : Str → Option Value} {h₀ g g' : Heap} {L L' : Addr} {m m' : Str → Option Value} {news' : List (Addr × Obj)} {R : Result → Shared → Prop} {v : Value} {s' : Shared}
    (F' : Fr g' L' s'.heap m') (N' : News g' L' s'.heap news') (T : KtsTurn fs g g')
    (k : ∀ h₀', KtsTurn (outer.filterMap (·.frame)) h₀ h₀' → Fr h₀' L s'.heap m → News h₀' L s'.heap news' → Below A₀ base outer h₀' → K.In h₀' → Top p loose mean mg mb h₀' → KtsDicts (outer.filterMap (·.frame)) h₀' → R (.ok (.ret v)) s') :
    LeaveX fs A₀ base outer K p loose mean mg mb h₀ L m g R v s' := ⟨g', L', m', news', T, F', N', k⟩
theorem code_defX (B : Below A₀ base outer h₀) (F : Fr h₀ L s.heap m) (X₀ : K.In h₀) (N : News h₀ L s.heap news) (T : Top p loose mean mg mb h₀) (XB : K.In base) (TB : Top p loose mean mg mb base) (D : KtsDicts (outer.filterMap (·.frame)) h₀)
    (hA : A.frames = some (env :: outer)) (hf : env.frame = some L) (hck : env.scope.kind = .function)
    (ho : K.lookup f = some ⟨oc, od, .func (fnOf name qual params body scope dV kV doc pm an cdv ct), osl⟩) (hcd : codeIn K cdv qual = true) (hroom : A.depth < recursionLimit)
    (hbind : BindsTo s (fnOf name qual params body scope dV kV doc pm an cdv ct) args binds) (hloc : ∀ y ∈ binds, scope.names.lookup y.1 = some .local)
    (h : ∀ g L' h₁, Fr h₀ L g m → Fr g L' h₁ (fun y => binds.reverse.lookup y) → News g L' h₁ news → Below A base (env :: outer) g → K.In g → Top p loose mean mg mb g → KtsDicts ((env :: outer).filterMap (·.frame)) g →
      wpAny (model prog w) (A.deeper (envOf qual scope L' f cdv)) (execs body (envOf qual scope L' f cdv))
        (fun fl s' => LeaveX ((env :: outer).filterMap (·.frame)) A₀ base outer K p loose mean mg mb h₀ L m g R (match fl with | .ret v => v | _ => .none) s')
        (fun e s' => wpAny (model prog w) (A.deeper (envOf qual scope L' f cdv)) (leaving (envOf qual scope L' f cdv) e) (fun _ s'' => R (.error e) s'') (fun e' s'' => R (.error e') s'') s')
        { s with heap := h₁, toks := s.toks + binds.length })
    (hco : scope.isCoroutine = false) (hgen : scope.isGenerator = false) (hk : scope.kind = .function)
    (hcell : ∀ x ∈ scope.names, x.2 ≠ .cell) : codeAny (model prog w) A (.call (.ref f) args) R s := by
  have X := X₀.keeps F.keep
  refine codeAny_call_def (fd := fnOf name qual params body scope dV kV doc pm an cdv ct) (body := body) (binds := binds) hroom (X _ _ ho) rfl (T.nolimit.keeps F.keep) (codeRec_of X hcd) rfl hbind hcell hloc (fun h₁ hns hk₁ => ?_) hco hgen hk
  obtain ⟨oL, es, ep, hLg, hLd, hN, hNs, st, B₂⟩ := enterX B F N hA hf hck
  refine wpAny_mono (h _ s.heap.objs.size h₁ ⟨hN _ hLg, st, F.above⟩ ⟨hns, fun b o e => hk₁ b o (of_hideAll _ e), Nat.le_of_eq (hideAll_size _ _)⟩
    (fun p hp => ⟨hk₁ _ _ (N p hp).1, Nat.ne_of_lt (Heap.lt_size (N p hp).1), hideAll_none _ (List.mem_map_of_mem hp)⟩) B₂ (X₀.keeps st) (T.keeps st) (fun b hb => by
      rcases memX hf hb with rfl | hb
      · exact ⟨oL, es, ep, hLg, hLd⟩
      · obtain ⟨o, es', n', ho', hd'⟩ := D b hb
        exact ⟨o, es', n', st b o ho', hd'⟩)) (fun fl s' hl => ?_) fun _ _ y => y
  have nL₀ : h₀.get? L = none := kts_self F
  obtain ⟨g', L', m', news', T', F', N', k⟩ := hl
  obtain ⟨sl, hs⟩ := T'.up hLg
  obtain ⟨T₁, S₁⟩ := kts_turn_at (h := s'.heap) (fs := outer.filterMap (·.frame)) (g := h₀)
    (fun b hb => by
      obtain ⟨_, o, ho', _⟩ := B.frames.mem hb
      exact ⟨o, ho'⟩)
    (fun b o e nmem => F'.keep b o (T'.other b o (st b o e) (fun q => by
      rcases memX hf q with z | z
      · rw [z, nL₀] at e
        cases e
      · exact nmem z)))
    (fun b o e hm => by
      obtain ⟨sl', hs'⟩ := T'.up (st b o e)
      exact ⟨sl', F'.keep _ _ hs'⟩)
  have B₃ : Below A₀ base outer (ktsHeap s'.heap (outer.filterMap (·.frame)) h₀) := ⟨B.stack, fun b o e => T₁.other b o (B.stays b o e) (fun hm => by
    rw [(B.frames.mem hm).1] at e
    cases e), B.frames.of_keeps fun b o e _ => by
    obtain ⟨sl', hs'⟩ := T₁.up e
    exact ⟨_, hs', rfl⟩⟩
  refine k _ T₁ ⟨hNs sl _ (F'.keep _ _ hs), S₁, by rw [T₁.size]; exact F.above⟩ (fun p hp => ⟨(N' p hp).1, fun q => ?_, ?_⟩) B₃ (XB.keeps B₃.stays) (TB.keeps B₃.stays) (D.turn T₁)
  · have := (N' p hp).2.2; rw [q, hs] at this; cases this
  · refine T₁.none_ _ ?_
    cases q : h₀.get? p.1 with
    | none => rfl
    | some o =>
      obtain ⟨sl', hs'⟩ := T'.up (st _ _ q)
      have := (N' p hp).2.2
      rw [hs'] at this
      cases this
/-- no frame below: nothing turned -/
theorem turn_none {h₀ h₀' h : Heap} (T : KtsTurn [] h₀ h₀') (F : Fr h₀' L h m) : Fr h₀ L h m :=
  ⟨F.ns, fun b o e => F.keep b o (T.other b o e (fun q => nomatch q)), by rw [← T.size]; exact F.above⟩
theorem turn_news {h₀ h₀' h : Heap} (T : KtsTurn [] h₀ h₀') (N : News h₀' L h news) : News h₀ L h news := fun q hq => ⟨(N q hq).1, (N q hq).2.1, by
  cases e : h₀.get? q.1 with
  | none => rfl
  | some o => have := T.other _ _ e (fun z => nomatch z); rw [(N q hq).2.2] at this; cases this⟩
end
section
variable {prog : Program} {w : World} {A₀ : Around} {E : Value → Shared → Prop} {s' : Shared} {base g g₀ h : Heap} {outer : List Env} {L a e : Addr} {m : Str → Option Value} {name : Str} {scope : Scope} {cd : Value}
  {b₀ : Stmt} {suite : List Stmt} {pos np : Pos} {rest : List ExceptHandler} {Q : Flow → Shared → Prop} {news : List (Addr × Obj)} {KF : Frag}
  {p : Program} {loose : List Str} {mean : ExcName → Option Value} {mg mb : Str → Option Value} {x : Str} {X T' : String}
theorem caught_new (K : Below A₀ base outer g) (hx : Heap.NewExc h s'.heap e X) (F : Fr g L h m) (N : News g L h news) (XB : KF.In base) (TB : Top p loose mean mg mb base)
    (D : KtsDicts (outer.filterMap (·.frame)) g) (T0 : KtsTurn (outer.filterMap (·.frame)) g₀ g)
    (ex : nsIn KF mainGlobals x = some none) (hv : bootBuiltins x = some (.type T')) (hn' : x ≠ "__name__")
    (hexc : isSubtype (.type T') (.type "BaseException") = pure true) (hnt : isSubtype (.type ((Manifest.find? T').elim "type" fun y => y.metatype)) (.type "tuple") = pure false) (hsub : isSubtype (.type X) (.type T') = pure true)
    (k : ∀ h' g', KtsTurn (outer.filterMap (·.frame)) g₀ g' → Fr g' L h' m → News g' L h' news → Below A₀ base outer g' → KF.In g' → Top p loose mean mg mb g' → KtsDicts (outer.filterMap (·.frame)) g' →
      wpAny (model prog w) ((A₀.deeper (envOf name scope L a cd)).mark (some (.ref e))) (execs (b₀ :: suite) (envOf name scope L a cd)) Q E { s' with heap := h' })
    (hk : scope.kind = .function := by rfl) (hx' : (envOf name scope L a cd).kindOf x = some .globalImplicit := by rfl) (hd' : (x == ("__debug__" : Str)) = false := by decide)
    (hE : PassesOwnAt (model prog w) ((A₀.deeper (envOf name scope L a cd)).mark (some (.ref e))) (A₀.deeper (envOf name scope L a cd)) (envOf name scope L a cd) E := by passes_own) :
    wpAny (model prog w) (A₀.deeper (envOf name scope L a cd)) (noteFrame (.ref e) (envOf name scope L a cd))
      (fun _ s₂ => wpAny (model prog w) (A₀.deeper (envOf name scope L a cd)) (setFlight (.ref e) none) (fun _ s₃ =>
        wpAny (model prog w) (A₀.deeper (envOf name scope L a cd)) (handleBy (.ref e) (envOf name scope L a cd) (.ExceptHandler (some (.Name x np)) none (b₀ :: suite) pos :: rest)) Q E s₃) E s₂) E s' := by
  have K' := K.push (name := name) (a := a) (cd := cd) F hk
  have hin : ∀ env ∈ (envOf name scope L a cd :: outer), ∀ b, env.frame = some b → b ∈ (envOf name scope L a cd :: outer).filterMap (·.frame) := fun env he b hb => List.mem_filterMap.mpr ⟨env, he, hb⟩
  have st : base.StaysIn (hideAll h ((envOf name scope L a cd :: outer).filterMap (·.frame))) := fun b o q => hideAll_get _ (K'.stays b o q) fun hm => by
    rw [(K'.frames.mem hm).1] at q; cases q
  have sg : ∀ b o, h.get? b = some o → b ∉ (envOf name scope L a cd :: outer).filterMap (·.frame) → (hideAll h ((envOf name scope L a cd :: outer).filterMap (·.frame))).get? b = some o := fun b o q nm => hideAll_get _ q nm
  have hl : ∀ q ∈ news, (hideAll h ((envOf name scope L a cd :: outer).filterMap (·.frame))).get? q.1 = some q.2 ∧ g.get? q.1 = none := fun q hq => by
    refine ⟨hideAll_get _ (N q hq).1 fun hm => ?_, (N q hq).2.2⟩
    obtain ⟨env, he, hf⟩ := List.mem_filterMap.mp hm
    rcases List.mem_cons.mp he with rfl | he
    · exact (N q hq).2.1 (Option.some.inj hf).symm
    · obtain ⟨o, ho, _⟩ := (K.frames.mem (List.mem_filterMap.mpr ⟨env, he, hf⟩)).2
      rw [(N q hq).2.2] at ho; cases ho
  have hL : (hideAll h ((envOf name scope L a cd :: outer).filterMap (·.frame))).get? L = none := hideAll_none _ (List.mem_filterMap.mpr ⟨_, .head _, rfl⟩)
  obtain ⟨ob, tp, he, hcls, hd⟩ := hx.there
  have hen : (hideAll h ((envOf name scope L a cd :: outer).filterMap (·.frame))).get? e = none := by
    cases q : (hideAll h ((envOf name scope L a cd :: outer).filterMap (·.frame))).get? e with
    | none => rfl
    | some o => have := of_hideAll _ q; rw [hx.new] at this; cases this
  have hkx := hx.keeps
  unfold noteFrame
  simp only [show (envOf name scope L a cd).frame = some L from rfl]
  refine wpAny_bind (wpAny_field he hd (show _ = some Value.none from rfl) ?_)
  rw [if_neg (by decide)]
  refine wpAny_newEntryW (base := hideAll h ((envOf name scope L a cd :: outer).filterMap (·.frame))) (a0 := tp) K'.stack ((funFrames_hide K'.frames hin).of_keeps fun b o hb _ => ⟨o, hx.keeps b o hb, rfl⟩) rfl he (fun b o hb => hx.keeps b o (of_hideAll _ hb)) hen hd (by simp) rfl fun h₅ hLw => ?_
  rw [hcls] at hLw
  have hfl : Heap.FlyingW (hideAll h ((envOf name scope L a cd :: outer).filterMap (·.frame))) (envOf name scope L a cd :: outer) e (.type X) tp h₅ := ⟨hLw.1, hen, hLw.2.1, hLw.2.2.1⟩
  have hsm₅ : h.UpToSlots h₅ := (Heap.UpToSlots.of_keeps hx.keeps).trans hLw.2.2.2
  obtain ⟨g₅, T₅, F₅, K₅⟩ := kts_ground K F sg hfl.1 hsm₅
  have X₅ : KF.In g₅ := XB.keeps K₅.stays
  have P₅ : TopRead p loose mg mb g₅ := topRead_of (TB.keeps K₅.stays)
  obtain ⟨ob', hob, hobc⟩ := hfl.there
  refine wpAny_handleBy_builtin (X := X) (T := T') (b := true) hexc hnt hsub (name_B F₅ X₅ P₅ ex hv hn' ⟨rfl, ⟨ob', hob, hobc⟩, ?_⟩ hk hx' hd')
  refine lands_againW hfl fun h₆ hfl₆ hsm₆ => ?_
  obtain ⟨g₆, T₆, F₆, K₆⟩ := kts_ground K F sg hfl₆.1 (hsm₅.trans hsm₆)
  have Nl : News g₆ L h₆ news := fun q hq => ⟨hfl₆.1 _ _ (hl q hq).1, (fun z => by have := (hl q hq).1; rw [z, hL] at this; cases this), T₆.none_ _ (hl q hq).2⟩
  have X₆ : KF.In g₆ := XB.keeps K₆.stays
  have P₆ : Top p loose mean mg mb g₆ := TB.keeps K₆.stays
  have D₆ : KtsDicts (outer.filterMap (·.frame)) g₆ := D.turn T₆
  exact wpAny_passesOwnAt hE (k h₆ g₆ (T0.trans T₆) F₆ Nl K₆ X₆ P₆ D₆)
end

end

theorem said_tryx : True := by
  k_with "m enterX" => (refine' code_defX ?zyk1 ?zyk2 ?zyk3 ?zyk4 ?zyk5 ?zykXB ?zykTB ?zykD ?zykA ?zykF ?zykK ?zyk6 ?zyk7 ?zyk8 ?zyk9 ?zykB ?_ ?zyc2 ?zyc3 ?zyc4 ?zyc5; (case zykA => exact rfl); (case zykF => exact rfl); (case zykK => assumption); (case zyk1 => k_asm); (case zyk2 => k_asm); (case zyk3 => k_asm); (case zyk4 => k_asm); (case zyk5 => k_asm); (case zykXB => assumption); (case zykTB => assumption); (case zykD => assumption); (case zyk6 => k_is); (case zyk7 => k_is); (case zyk8 => first | exact Nat.le_of_ble_eq_true rfl | k_room); (case zyk9 => first | exact BindsTo.of_eq rfl | exact binds_K (by k_in) rfl (by k_is) rfl rfl rfl); (case zyc5 => decide); (case zykB => exact locs rfl); (case zyc2 => exact rfl); (case zyc3 => exact rfl); (case zyc4 => exact rfl); k_whole; intro g' L' h' FG' F' N' B' X' T' D'; (try dsimp only); (try k_fold))
  k_with "LeaveX" => (k_here; k_dflt (refine' leaveX_ ?zyF ?zyN ?zyT ?_; (case zyF => k_asm); (case zyN => k_asm); (case zyT => first | assumption | exact KtsTurn.refl); k_whole); intro h0' tT' kF' kN' kB' kX' kT' kD'; (try dsimp only))
  k_with "noteFrame ref" => (k_here; (with_reducible show wpAny _ _ (noteFrame _ _) (fun _ s₂ => wpAny _ _ (setFlight _ none) (fun _ s₃ => wpAny _ _ (handleBy _ _ (ExceptHandler.ExceptHandler (some (Expr.Name ("IndexError" : Str) _)) none _ _ :: _)) _ _ s₃) _ s₂) _ _); k_dflt (refine' caught_new (T' := "IndexError") ?zyK ?zyhx ?zyF ?zyN ?zyXB ?zyTB ?zyD ?zyT0 ?zyex PyProof.Rows.Boot.«IndexError» ?zyhn PySem.F.isExc_IndexError PySem.F.notTuple_IndexError ?zyhs ?_; (case zyhx => assumption); (case zyF => assumption); (case zyN => assumption); (case zyK => assumption); (case zyXB => assumption); (case zyTB => assumption); (case zyD => assumption); (case zyT0 => exact KtsTurn.refl); (case zyhs => kts_sub); (case zyex => k_is); (case zyhn => decide); k_whole); intro h' g' T' F' N' K' X' P' D'; (try k_sweep))
  trivial
section
section
variable {prog : Program} {w : World} {A : Around} {E : Value → Shared → Prop} {s : Shared} {h₀ : Heap} {L a b l : Addr} {m : Str → Option Value} {news : List (Addr × Obj)} {vs ws : List Value} {v : Value} {x : Int} {u : Tok} {Q : Value → Shared → Prop}
theorem list_rep (F : Fr h₀ L s.heap m) (N : News h₀ L s.heap news) (hl : s.heap.IsList l [v].toArray) (hlo : -(2 ^ 63 : Int) ≤ x) (hhi : x ≤ 100)
    (h : ∀ D h', Fr h₀ L h' m → News h₀ L h' ((D, listOf (List.replicate x.toNat v).toArray 0) :: news) → (∀ p ∈ news, p.1 < D) → Q (.ref D) { s with heap := h' }) : wpAny (model prog w) A (binaryOp .Mult (.ref l) (.int x u)) Q E s := by
  refine KMa.mul F N hl hlo (by omega) (by simp only [List.length_cons, List.length_nil]; omega) (ws := List.replicate x.toNat v) ?_ h
  induction x.toNat with
  | zero => rfl
  | succ n ih => rw [List.replicate_succ, List.replicate_succ, List.flatten_cons, ih]; rfl
theorem list_cat (F : Fr h₀ L s.heap m) (N : News h₀ L s.heap news) (ha : s.heap.IsList a vs.toArray) (hb : s.heap.IsList b ws.toArray) (hz : vs.length + ws.length ≤ sizeLine)
    (h : ∀ D h', Fr h₀ L h' m → News h₀ L h' ((D, listOf (vs ++ ws).toArray 0) :: news) → (∀ p ∈ news, p.1 < D) → Q (.ref D) { s with heap := h' }) : wpAny (model prog w) A (binaryOp .Add (.ref a) (.ref b)) Q E s :=
  add_lists (hsz := hz) F N ha hb fun h' F' N' => h _ h' F' N' fun p hp => Heap.lt_size (N p hp).1
theorem list_tail {value slice : PySem.Expr} {key : Value} {its : Array Value} (hl : s.heap.IsList l its) (h : wpAny (model prog w) A (getItem (.ref l) key) Q E s)
    (hs : subscripted slice false (.ref l) key = operate [.ref l, key] (getItem (.ref l) key) := by with_unfolding_all rfl) : wpAny (model prog w) A (subscriptTail value slice (.ref l) key) Q E s :=
  tail_any hl.typeIs slot_list_getitem.lookup h hs
end

end

theorem said_evlist : True := by
  k_with "binaryOp Mult ref int" => (k_here; k_dflt (refine' list_rep ?zyF ?zyN ?zyl ?zylo ?zyhi ?_; (case zyF => k_asm); (case zyN => k_asm); (case zyl => exact News.isList (by assumption) (by k_mem)); (case zylo => walk_at "m om"); (case zyhi => walk_at "m om"); k_whole); intro D' h' F' N' l1; (replace l1 := allLt_of l1); (have l2 := l1); (try dsimp only [AllLt] at l2); (try dsimp only); (try k_sweep))
  k_with "binaryOp Add ref ref" => (k_here; k_dflt (refine' list_cat ?zyF ?zyN ?zya ?zyb ?zyz ?_; (case zyF => k_asm); (case zyN => k_asm); (case zya => exact News.isList (by assumption) (by k_mem)); (case zyb => exact News.isList (by assumption) (by k_mem)); (case zyz => simp only [sizeLine_eq, List.length_replicate, List.length_nil, List.length_cons]; omega); k_whole); intro D' h' F' N' l1; (replace l1 := allLt_of l1); (have l2 := l1); (try dsimp only [AllLt] at l2); (try dsimp only); (try k_sweep))
  k_with "getItem ref int" => (k_here; k_dflt (first
      | (refine' getItem_listL ?zyhl ?zyh0 ?zyhf ?zyhx ?_; (case zyhl => exact News.isList (by assumption) (by k_mem)); (case zyh0 => walk_at "m om"); (case zyhf => walk_at "m om"); (case zyhx => with_reducible assumption); k_whole)
      | (refine' wpAny_getItem_list_out ?zyhA ?zyhl ?zyho ?zylo ?zyhi ?_; (case zyhA => exact rfl); (case zyhl => exact News.isList (by assumption) (by k_mem)); (case zyho => (refine Or.inr ?_; first | (simp only [List.size_toArray]; omega) | (simp; omega) | (show ((0 : Nat) : Int) ≤ _; omega))); (case zylo => walk_at "m om"); (case zyhi => walk_at "m om"); k_whole; intro h' tk' e' x')))
  k_with "subscriptTail" => (k_here; (with_reducible show wpAny _ _ (subscriptTail _ _ (Value.ref _) (Value.int _ _)) _ _ _); k_dflt (refine list_tail (News.isList (by assumption) (by k_mem)) ?_))
  trivial
section
section
variable {prog : Program} {w : World} {h₀ h : Heap} {L S X V D : Addr} {frz led l news : List (Addr × Obj)} {evs : Str → Option (List (Int × Int))} {ev ev' : Str → Option Addr} {oV : Obj} {z z' nV n n' : Nat} {key : Str} {vs : List Value} {ens : List (Int × Int)}
theorem split1s {d1 : Addr} {o1 : Obj} {g1 : Obj → List (Addr × Obj)} (U1 : UpdF d1 o1 news g1) (N : News h₀ L h news) :
    ∃ frz, (∀ q ∈ frz, q.1 ≠ d1) ∧ News h₀ L h ((d1, o1) :: frz) ∧ (∀ q ∈ news, q.1 ≠ d1 → q ∈ frz) ∧ (∀ a q, q ∈ g1 a → q ∈ (d1, a) :: frz) ∧ (∀ a q, q ∈ frz → q ∈ g1 a) ∧ (∀ a, (d1, a) ∈ g1 a) := by
  refine ⟨news.filter fun q => decide (q.1 ≠ d1), fun q hq => ?_, fun q hq => ?_, fun q hq h1 => ?_, fun a q hq => ?_, fun a q hq => ?_, fun a => (updF_memg U1 a _).mpr (.inl rfl)⟩
  · exact of_decide_eq_true (List.mem_filter.mp hq).2
  · rcases List.mem_cons.mp hq with e | hq
    · subst e; exact N _ (updF_mem0 U1)
    · exact N q (List.mem_filter.mp hq).1
  · exact List.mem_filter.mpr ⟨hq, decide_eq_true h1⟩
  · rcases (updF_memg U1 a q).mp hq with e | ⟨hl, hn⟩
    · subst e; exact .head _
    · exact .tail _ (List.mem_filter.mpr ⟨hl, decide_eq_true hn⟩)
  · exact (updF_memg U1 a q).mpr (.inr ⟨(List.mem_filter.mp hq).1, of_decide_eq_true (List.mem_filter.mp hq).2⟩)
/-- what a ledger holds beyond l -/
noncomputable def extOf (led l : List (Addr × Obj)) : List (Addr × Obj) := led.filter fun q => decide (∀ r ∈ l, r.1 ≠ q.1)
theorem extOf_ne {p q : Addr × Obj} (hp : p ∈ extOf led l) (hq : q ∈ l) : p.1 ≠ q.1 := fun e => of_decide_eq_true (List.mem_filter.mp hp).2 q hq e.symm
theorem extOf_news (N : News h₀ L h led) (hl : ∀ q ∈ l, q ∈ led) : News h₀ L h (l ++ extOf led l) := fun q hq => by
  rcases List.mem_append.mp hq with m | m
  · exact N q (hl q m)
  · exact N q (List.mem_filter.mp m).1
theorem ev_same (hE : ∀ k, EvK frz S X V z (ev k) (evs k)) (hs : ∀ q ∈ frz, q ∈ led) (hR : RefD prog w oV ev n) (hn : n ≤ n') (hz : z ≤ z') : EvD prog w led S X V oV evs n' z' :=
  ⟨ev, DictV.mono hR hn, fun k => ((hE k).sub fun q hq _ => hs q hq).mono hz⟩
theorem ev_put (hE : ∀ k, EvK frz S X V z (ev k) (evs k)) (hs : ∀ q ∈ frz, q ∈ led) (hev : ∀ j, j ≠ key → ev' j = ev j) (hD : ev' key = some D) (mD : (D, listOf vs.toArray 0) ∈ led ∨ (∃ k, (D, listOf vs.toArray k) ∈ led)) (hv : Ents led S X V vs ens) (oD : Off S X V D)
    (hl : vs.length ≤ z') (hz : z ≤ z') (hR : RefD prog w oV ev' n) (hn : n ≤ n') : EvD prog w led S X V oV (upd evs key (some ens)) n' z' := by
  refine ⟨ev', DictV.mono hR hn, fun k => ?_⟩
  by_cases e : k = key
  · subst e
    rw [hD, upd_same]
    rcases mD with mD | ⟨c, mD⟩
    · exact ⟨vs, 0, mD, hv, oD, hl⟩
    · exact ⟨vs, c, mD, hv, oD, hl⟩
  · rw [hev k e, upd_other _ _ e]
    exact ((hE k).sub fun q hq _ => hs q hq).mono hz
theorem off_of {a : Addr} (sx : @LT.lt Nat _ S X) (xv : @LT.lt Nat _ X V) (h : @LT.lt Nat _ V a) : Off S X V a :=
  ⟨fun e => by subst e; omega, fun e => by subst e; omega, fun e => by subst e; omega⟩
theorem with_ext {o' : Obj} {g1 : Obj → List (Addr × Obj)} {f : Str → Option Addr} (_ : News h₀ L h led) (_ : DictV prog w RefV o' f n) (mem : ∀ a q, q ∈ g1 a → q ∈ (V, a) :: frz) (hin : ∀ q ∈ (V, o') :: frz, q ∈ led) : ∀ q ∈ g1 o', q ∈ led :=
  fun q hq => hin q (mem _ q hq)
theorem EvD.sub (h : EvD prog w led S X V oV evs n z) (hs : ∀ q ∈ led, Off S X V q.1 → q ∈ l) : EvD prog w l S X V oV evs n z := by
  obtain ⟨ev, hR, hE⟩ := h
  exact ⟨ev, hR, fun k => (hE k).sub hs⟩
theorem app_sub {ext : List (Addr × Obj)} {g1 : Obj → List (Addr × Obj)} {o' : Obj} (mem : ∀ a q, q ∈ g1 a → q ∈ (V, a) :: frz) : ∀ q ∈ g1 o' ++ ext, q ∈ (V, o') :: (frz ++ ext) := fun q hq => by
  rcases List.mem_append.mp hq with m | m
  · rcases List.mem_cons.mp (mem _ q m) with e | e
    · subst e; exact .head _
    · exact .tail _ (List.mem_append_left _ e)
  · exact .tail _ (List.mem_append_right _ m)
end

end
section
theorem said_p_aen : True := by
  k_with "m al" => first | assumption | exact And.right (by assumption) | exact And.right (And.right (by assumption)) | exact And.right (And.right (And.right (by assumption))) | exact And.right (And.right (And.right (And.right (by assumption)))) | exact And.right (And.right (And.right (And.right (And.right (by assumption))))) | exact And.right (And.right (And.right (And.right (And.right (And.right (by assumption)))))) | exact And.right (And.right (And.right (And.right (And.right (And.right (And.right (by assumption))))))) | exact And.right (And.right (And.right (And.right (And.right (And.right (And.right (And.right (by assumption))))))))
  k_with "m al2" => first | walk_at "m al" | (refine allLt_up (by assumption) ?_; walk_at "m al")
  trivial
theorem allLt_up {d x : Addr} {l : List (Addr × Obj)} (h : @LT.lt Nat _ d x) (a : AllLt d l) : AllLt x l := allLt_of fun q hq => Nat.lt_trans (allLt_mem a q hq) h
theorem new_in {h₀ h : Heap} {L : Addr} {led l evl frz : List (Addr × Obj)} {V : Addr} {o : Obj} {q : Addr × Obj} (_ : News h₀ L h led) (_ : ∀ q ∈ l, q ∈ led) (hq : q ∈ led) (hl : ∀ r ∈ l, r ∈ (V, o) :: frz) (h1 : @LT.lt Nat _ V q.1) (h2 : AllLt q.1 frz) : q ∈ evl ++ extOf led l :=
  List.mem_append_right _ (List.mem_filter.mpr ⟨hq, decide_eq_true fun r hr => by
    rcases List.mem_cons.mp (hl r hr) with e | e
    · subst e; exact Nat.ne_of_lt h1
    · exact Nat.ne_of_lt (allLt_mem h2 r e)⟩)
section
variable {w : World} {p : Program} {loose : List Str} {mean : ExcName → Option Value} {mg mb : Str → Option Value} {dp un : Nat} {gd : Option (List Code)} {cn : Str} {cs : Scope} {a : Addr} {ccd : Value} {cl : List (Str × Addr)} {outer : List Env} {A₀ : Around} {base h₀ : Heap} {L : Addr} {m : Str → Option Value} {s : Shared} {Q E : Value → Shared → Prop}
  (B : Below A₀ base outer h₀) (F : Fr h₀ L s.heap m) (KX : (Mine.hd1.heap_39 w.params).In h₀) (T : Top p loose mean mg mb h₀) (hk : cs.kind = .function)
include B F KX T hk

end
noncomputable def aen_spec_St (w : World) (p : Program) (loose : List Str) (mean : ExcName → Option Value) (mg : Str → Option Value) (mb : Str → Option Value) (dp : Nat) (un : Nat) (gd : Option (List Code)) (cn : Str) (cs : Scope) (a : Addr) (ccd : Value) (cl : List (Str × Addr)) (outer : List Env) (A₀ : Around) (base : Heap) (h₀ : Heap) (L : Addr) (m : Str → Option Value) (s : Shared) (Q : Value → Shared → Prop) (E : Value → Shared → Prop) (news : List (Addr × Obj)) (evl : List (Addr × Obj)) (oV : Obj) (g1 : Obj → List (Addr × Obj)) (evs : Str → Option (List (Int × Int))) (nV : Nat) (z : Nat) (st : Addr) (S : Addr) (X : Addr) (V : Addr) (clk : Addr) (key : Str) (tp : Tok) (tl : Tok) (te : Tok) (ta : Tok) (t : Int) (e : Int) : Prop := ∀ (limit : Int) (am : Int) (B : Below A₀ base outer h₀) (F : Fr h₀ L s.heap m) (KX : (Mine.hd1.heap_39 w.params).In h₀) (T : Top p loose mean mg mb h₀) (hk : cs.kind = .function) (XB : (Mine.hd1.heap_39 w.params).In base) (TB : Top p loose mean mg mb base) (D : KtsDicts (outer.filterMap (·.frame)) h₀) (N : News h₀ L s.heap news) (O : Store w news st S X V clk t) (U1 : UpdF V oV news g1) (hevl : ∀ q ∈ evl, q ∈ news ∧ q.1 ≠ V) (hV : EvD PySem.Challenge.rw_ji0060_02.row.prog w evl S X V oV evs nV z) (zV : nV + 1 ≤ sizeLine) (zz : z + 1000 ≤ 1000000) (ha : 0 ≤ am) (ha2 : am ≤ 100) (hl : limit < 1000000) (he : 0 < e) (he2 : e < 1000000) (ht0 : 0 ≤ t) (ht : t < 1000000000000) (hd : dp ≤ 860) (hu : un ≤ 8600) (retH : ∀ h₀' b evs' ext oV' h' tk', KtsTurn (outer.filterMap (·.frame)) h₀ h₀' → Below A₀ base outer h₀' → (Mine.hd1.heap_39 w.params).In h₀' → Top p loose mean mg mb h₀' → KtsDicts (outer.filterMap (·.frame)) h₀' → AenPost evs key t e limit am b evs' → Fr h₀' L h' m → News h₀' L h' (g1 oV' ++ ext) → (∀ p ∈ ext, ∀ q ∈ g1 oV', p.1 ≠ q.1) → EvD PySem.Challenge.rw_ji0060_02.row.prog w (evl ++ ext) S X V oV' evs' (nV + 2) (z + 1000) → Q (.bool b) { s with heap := h', toks := tk' }), wpAny (model PySem.Challenge.rw_ji0060_02.row.prog w) (ktrTop dp un gd cn cs L a ccd cl outer) (call (.ref 631) [.ref st, .str key tp, .int limit tl, .int e te] [(Str.ofString "amount", .int am ta)]) Q E s
namespace c_aen_spec
noncomputable def zcv : (World) × (Program) × (List Str) × (ExcName → Option Value) × (Str → Option Value) × (Str → Option Value) × (Nat) × (Nat) × (Option (List Code)) × (Str) × (Scope) × (Addr) × (Value) × (List (Str × Addr)) × (List Env) × (Around) × (Heap) × (Heap) × (Addr) × (Str → Option Value) × (Shared) × (Value → Shared → Prop) × (Value → Shared → Prop) × (List (Addr × Obj)) × (List (Addr × Obj)) × (Obj) × (Obj → List (Addr × Obj)) × (Str → Option (List (Int × Int))) × (Nat) × (Nat) × (Addr) × (Addr) × (Addr) × (Addr) × (Addr) × (Str) × (Tok) × (Tok) × (Tok) × (Tok) × (Int) × (Int) := pick (neP neW (neP inferInstance (neP inferInstance (neP inferInstance (neP inferInstance (neP inferInstance (neP inferInstance (neP inferInstance (neP inferInstance (neP inferInstance (neP inferInstance (neP inferInstance (neP inferInstance (neP inferInstance (neP inferInstance (neP neA (neP inferInstance (neP inferInstance (neP inferInstance (neP inferInstance (neP neS (neP inferInstance (neP inferInstance (neP inferInstance (neP inferInstance (neP inferInstance (neP inferInstance (neP inferInstance (neP inferInstance (neP inferInstance (neP inferInstance (neP inferInstance (neP inferInstance (neP inferInstance (neP inferInstance (neP inferInstance (neP inferInstance (neP inferInstance (neP inferInstance (neP inferInstance (neP inferInstance inferInstance))))))))))))))))))))))))))))))))))))))))) (fun v : (World) × (Program) × (List Str) × (ExcName → Option Value) × (Str → Option Value) × (Str → Option Value) × (Nat) × (Nat) × (Option (List Code)) × (Str) × (Scope) × (Addr) × (Value) × (List (Str × Addr)) × (List Env) × (Around) × (Heap) × (Heap) × (Addr) × (Str → Option Value) × (Shared) × (Value → Shared → Prop) × (Value → Shared → Prop) × (List (Addr × Obj)) × (List (Addr × Obj)) × (Obj) × (Obj → List (Addr × Obj)) × (Str → Option (List (Int × Int))) × (Nat) × (Nat) × (Addr) × (Addr) × (Addr) × (Addr) × (Addr) × (Str) × (Tok) × (Tok) × (Tok) × (Tok) × (Int) × (Int) => aen_spec_St (v.1) (v.2.1) (v.2.2.1) (v.2.2.2.1) (v.2.2.2.2.1) (v.2.2.2.2.2.1) (v.2.2.2.2.2.2.1) (v.2.2.2.2.2.2.2.1) (v.2.2.2.2.2.2.2.2.1) (v.2.2.2.2.2.2.2.2.2.1) (v.2.2.2.2.2.2.2.2.2.2.1) (v.2.2.2.2.2.2.2.2.2.2.2.1) (v.2.2.2.2.2.2.2.2.2.2.2.2.1) (v.2.2.2.2.2.2.2.2.2.2.2.2.2.1) (v.2.2.2.2.2.2.2.2.2.2.2.2.2.2.1) (v.2.2.2.2.2.2.2.2.2.2.2.2.2.2.2.1) (v.2.2.2.2.2.2.2.2.2.2.2.2.2.2.2.2.1) (v.2.2.2.2.2.2.2.2.2.2.2.2.2.2.2.2.2.1) (v.2.2.2.2.2.2.2.2.2.2.2.2.2.2.2.2.2.2.1) (v.2.2.2.2.2.2.2.2.2.2.2.2.2.2.2.2.2.2.2.1) (v.2.2.2.2.2.2.2.2.2.2.2.2.2.2.2.2.2.2.2.2.1) (v.2.2.2.2.2.2.2.2.2.2.2.2.2.2.2.2.2.2.2.2.2.1) (v.2.2.2.2.2.2.2.2.2.2.2.2.2.2.2.2.2.2.2.2.2.2.1) (v.2.2.2.2.2.2.2.2.2.2.2.2.2.2.2.2.2.2.2.2.2.2.2.1) (v.2.2.2.2.2.2.2.2.2.2.2.2.2.2.2.2.2.2.2.2.2.2.2.2.1) (v.2.2.2.2.2.2.2.2.2.2.2.2.2.2.2.2.2.2.2.2.2.2.2.2.2.1) (v.2.2.2.2.2.2.2.2.2.2.2.2.2.2.2.2.2.2.2.2.2.2.2.2.2.2.1) (v.2.2.2.2.2.2.2.2.2.2.2.2.2.2.2.2.2.2.2.2.2.2.2.2.2.2.2.1) (v.2.2.2.2.2.2.2.2.2.2.2.2.2.2.2.2.2.2.2.2.2.2.2.2.2.2.2.2.1) (v.2.2.2.2.2.2.2.2.2.2.2.2.2.2.2.2.2.2.2.2.2.2.2.2.2.2.2.2.2.1) (v.2.2.2.2.2.2.2.2.2.2.2.2.2.2.2.2.2.2.2.2.2.2.2.2.2.2.2.2.2.2.1) (v.2.2.2.2.2.2.2.2.2.2.2.2.2.2.2.2.2.2.2.2.2.2.2.2.2.2.2.2.2.2.2.1) (v.2.2.2.2.2.2.2.2.2.2.2.2.2.2.2.2.2.2.2.2.2.2.2.2.2.2.2.2.2.2.2.2.1) (v.2.2.2.2.2.2.2.2.2.2.2.2.2.2.2.2.2.2.2.2.2.2.2.2.2.2.2.2.2.2.2.2.2.1) (v.2.2.2.2.2.2.2.2.2.2.2.2.2.2.2.2.2.2.2.2.2.2.2.2.2.2.2.2.2.2.2.2.2.2.1) (v.2.2.2.2.2.2.2.2.2.2.2.2.2.2.2.2.2.2.2.2.2.2.2.2.2.2.2.2.2.2.2.2.2.2.2.1) (v.2.2.2.2.2.2.2.2.2.2.2.2.2.2.2.2.2.2.2.2.2.2.2.2.2.2.2.2.2.2.2.2.2.2.2.2.1) (v.2.2.2.2.2.2.2.2.2.2.2.2.2.2.2.2.2.2.2.2.2.2.2.2.2.2.2.2.2.2.2.2.2.2.2.2.2.1) (v.2.2.2.2.2.2.2.2.2.2.2.2.2.2.2.2.2.2.2.2.2.2.2.2.2.2.2.2.2.2.2.2.2.2.2.2.2.2.1) (v.2.2.2.2.2.2.2.2.2.2.2.2.2.2.2.2.2.2.2.2.2.2.2.2.2.2.2.2.2.2.2.2.2.2.2.2.2.2.2.1) (v.2.2.2.2.2.2.2.2.2.2.2.2.2.2.2.2.2.2.2.2.2.2.2.2.2.2.2.2.2.2.2.2.2.2.2.2.2.2.2.2.1) (v.2.2.2.2.2.2.2.2.2.2.2.2.2.2.2.2.2.2.2.2.2.2.2.2.2.2.2.2.2.2.2.2.2.2.2.2.2.2.2.2.2)) 0
theorem zal (h : aen_spec_St (zcv.1) (zcv.2.1) (zcv.2.2.1) (zcv.2.2.2.1) (zcv.2.2.2.2.1) (zcv.2.2.2.2.2.1) (zcv.2.2.2.2.2.2.1) (zcv.2.2.2.2.2.2.2.1) (zcv.2.2.2.2.2.2.2.2.1) (zcv.2.2.2.2.2.2.2.2.2.1) (zcv.2.2.2.2.2.2.2.2.2.2.1) (zcv.2.2.2.2.2.2.2.2.2.2.2.1) (zcv.2.2.2.2.2.2.2.2.2.2.2.2.1) (zcv.2.2.2.2.2.2.2.2.2.2.2.2.2.1) (zcv.2.2.2.2.2.2.2.2.2.2.2.2.2.2.1) (zcv.2.2.2.2.2.2.2.2.2.2.2.2.2.2.2.1) (zcv.2.2.2.2.2.2.2.2.2.2.2.2.2.2.2.2.1) (zcv.2.2.2.2.2.2.2.2.2.2.2.2.2.2.2.2.2.1) (zcv.2.2.2.2.2.2.2.2.2.2.2.2.2.2.2.2.2.2.1) (zcv.2.2.2.2.2.2.2.2.2.2.2.2.2.2.2.2.2.2.2.1) (zcv.2.2.2.2.2.2.2.2.2.2.2.2.2.2.2.2.2.2.2.2.1) (zcv.2.2.2.2.2.2.2.2.2.2.2.2.2.2.2.2.2.2.2.2.2.1) (zcv.2.2.2.2.2.2.2.2.2.2.2.2.2.2.2.2.2.2.2.2.2.2.1) (zcv.2.2.2.2.2.2.2.2.2.2.2.2.2.2.2.2.2.2.2.2.2.2.2.1) (zcv.2.2.2.2.2.2.2.2.2.2.2.2.2.2.2.2.2.2.2.2.2.2.2.2.1) (zcv.2.2.2.2.2.2.2.2.2.2.2.2.2.2.2.2.2.2.2.2.2.2.2.2.2.1) (zcv.2.2.2.2.2.2.2.2.2.2.2.2.2.2.2.2.2.2.2.2.2.2.2.2.2.2.1) (zcv.2.2.2.2.2.2.2.2.2.2.2.2.2.2.2.2.2.2.2.2.2.2.2.2.2.2.2.1) (zcv.2.2.2.2.2.2.2.2.2.2.2.2.2.2.2.2.2.2.2.2.2.2.2.2.2.2.2.2.1) (zcv.2.2.2.2.2.2.2.2.2.2.2.2.2.2.2.2.2.2.2.2.2.2.2.2.2.2.2.2.2.1) (zcv.2.2.2.2.2.2.2.2.2.2.2.2.2.2.2.2.2.2.2.2.2.2.2.2.2.2.2.2.2.2.1) (zcv.2.2.2.2.2.2.2.2.2.2.2.2.2.2.2.2.2.2.2.2.2.2.2.2.2.2.2.2.2.2.2.1) (zcv.2.2.2.2.2.2.2.2.2.2.2.2.2.2.2.2.2.2.2.2.2.2.2.2.2.2.2.2.2.2.2.2.1) (zcv.2.2.2.2.2.2.2.2.2.2.2.2.2.2.2.2.2.2.2.2.2.2.2.2.2.2.2.2.2.2.2.2.2.1) (zcv.2.2.2.2.2.2.2.2.2.2.2.2.2.2.2.2.2.2.2.2.2.2.2.2.2.2.2.2.2.2.2.2.2.2.1) (zcv.2.2.2.2.2.2.2.2.2.2.2.2.2.2.2.2.2.2.2.2.2.2.2.2.2.2.2.2.2.2.2.2.2.2.2.1) (zcv.2.2.2.2.2.2.2.2.2.2.2.2.2.2.2.2.2.2.2.2.2.2.2.2.2.2.2.2.2.2.2.2.2.2.2.2.1) (zcv.2.2.2.2.2.2.2.2.2.2.2.2.2.2.2.2.2.2.2.2.2.2.2.2.2.2.2.2.2.2.2.2.2.2.2.2.2.1) (zcv.2.2.2.2.2.2.2.2.2.2.2.2.2.2.2.2.2.2.2.2.2.2.2.2.2.2.2.2.2.2.2.2.2.2.2.2.2.2.1) (zcv.2.2.2.2.2.2.2.2.2.2.2.2.2.2.2.2.2.2.2.2.2.2.2.2.2.2.2.2.2.2.2.2.2.2.2.2.2.2.2.1) (zcv.2.2.2.2.2.2.2.2.2.2.2.2.2.2.2.2.2.2.2.2.2.2.2.2.2.2.2.2.2.2.2.2.2.2.2.2.2.2.2.2.1) (zcv.2.2.2.2.2.2.2.2.2.2.2.2.2.2.2.2.2.2.2.2.2.2.2.2.2.2.2.2.2.2.2.2.2.2.2.2.2.2.2.2.2)) : ∀ u : (World) × (Program) × (List Str) × (ExcName → Option Value) × (Str → Option Value) × (Str → Option Value) × (Nat) × (Nat) × (Option (List Code)) × (Str) × (Scope) × (Addr) × (Value) × (List (Str × Addr)) × (List Env) × (Around) × (Heap) × (Heap) × (Addr) × (Str → Option Value) × (Shared) × (Value → Shared → Prop) × (Value → Shared → Prop) × (List (Addr × Obj)) × (List (Addr × Obj)) × (Obj) × (Obj → List (Addr × Obj)) × (Str → Option (List (Int × Int))) × (Nat) × (Nat) × (Addr) × (Addr) × (Addr) × (Addr) × (Addr) × (Str) × (Tok) × (Tok) × (Tok) × (Tok) × (Int) × (Int), aen_spec_St (u.1) (u.2.1) (u.2.2.1) (u.2.2.2.1) (u.2.2.2.2.1) (u.2.2.2.2.2.1) (u.2.2.2.2.2.2.1) (u.2.2.2.2.2.2.2.1) (u.2.2.2.2.2.2.2.2.1) (u.2.2.2.2.2.2.2.2.2.1) (u.2.2.2.2.2.2.2.2.2.2.1) (u.2.2.2.2.2.2.2.2.2.2.2.1) (u.2.2.2.2.2.2.2.2.2.2.2.2.1) (u.2.2.2.2.2.2.2.2.2.2.2.2.2.1) (u.2.2.2.2.2.2.2.2.2.2.2.2.2.2.1) (u.2.2.2.2.2.2.2.2.2.2.2.2.2.2.2.1) (u.2.2.2.2.2.2.2.2.2.2.2.2.2.2.2.2.1) (u.2.2.2.2.2.2.2.2.2.2.2.2.2.2.2.2.2.1) (u.2.2.2.2.2.2.2.2.2.2.2.2.2.2.2.2.2.2.1) (u.2.2.2.2.2.2.2.2.2.2.2.2.2.2.2.2.2.2.2.1) (u.2.2.2.2.2.2.2.2.2.2.2.2.2.2.2.2.2.2.2.2.1) (u.2.2.2.2.2.2.2.2.2.2.2.2.2.2.2.2.2.2.2.2.2.1) (u.2.2.2.2.2.2.2.2.2.2.2.2.2.2.2.2.2.2.2.2.2.2.1) (u.2.2.2.2.2.2.2.2.2.2.2.2.2.2.2.2.2.2.2.2.2.2.2.1) (u.2.2.2.2.2.2.2.2.2.2.2.2.2.2.2.2.2.2.2.2.2.2.2.2.1) (u.2.2.2.2.2.2.2.2.2.2.2.2.2.2.2.2.2.2.2.2.2.2.2.2.2.1) (u.2.2.2.2.2.2.2.2.2.2.2.2.2.2.2.2.2.2.2.2.2.2.2.2.2.2.1) (u.2.2.2.2.2.2.2.2.2.2.2.2.2.2.2.2.2.2.2.2.2.2.2.2.2.2.2.1) (u.2.2.2.2.2.2.2.2.2.2.2.2.2.2.2.2.2.2.2.2.2.2.2.2.2.2.2.2.1) (u.2.2.2.2.2.2.2.2.2.2.2.2.2.2.2.2.2.2.2.2.2.2.2.2.2.2.2.2.2.1) (u.2.2.2.2.2.2.2.2.2.2.2.2.2.2.2.2.2.2.2.2.2.2.2.2.2.2.2.2.2.2.1) (u.2.2.2.2.2.2.2.2.2.2.2.2.2.2.2.2.2.2.2.2.2.2.2.2.2.2.2.2.2.2.2.1) (u.2.2.2.2.2.2.2.2.2.2.2.2.2.2.2.2.2.2.2.2.2.2.2.2.2.2.2.2.2.2.2.2.1) (u.2.2.2.2.2.2.2.2.2.2.2.2.2.2.2.2.2.2.2.2.2.2.2.2.2.2.2.2.2.2.2.2.2.1) (u.2.2.2.2.2.2.2.2.2.2.2.2.2.2.2.2.2.2.2.2.2.2.2.2.2.2.2.2.2.2.2.2.2.2.1) (u.2.2.2.2.2.2.2.2.2.2.2.2.2.2.2.2.2.2.2.2.2.2.2.2.2.2.2.2.2.2.2.2.2.2.2.1) (u.2.2.2.2.2.2.2.2.2.2.2.2.2.2.2.2.2.2.2.2.2.2.2.2.2.2.2.2.2.2.2.2.2.2.2.2.1) (u.2.2.2.2.2.2.2.2.2.2.2.2.2.2.2.2.2.2.2.2.2.2.2.2.2.2.2.2.2.2.2.2.2.2.2.2.2.1) (u.2.2.2.2.2.2.2.2.2.2.2.2.2.2.2.2.2.2.2.2.2.2.2.2.2.2.2.2.2.2.2.2.2.2.2.2.2.2.1) (u.2.2.2.2.2.2.2.2.2.2.2.2.2.2.2.2.2.2.2.2.2.2.2.2.2.2.2.2.2.2.2.2.2.2.2.2.2.2.2.1) (u.2.2.2.2.2.2.2.2.2.2.2.2.2.2.2.2.2.2.2.2.2.2.2.2.2.2.2.2.2.2.2.2.2.2.2.2.2.2.2.2.1) (u.2.2.2.2.2.2.2.2.2.2.2.2.2.2.2.2.2.2.2.2.2.2.2.2.2.2.2.2.2.2.2.2.2.2.2.2.2.2.2.2.2) := pick_all (P := fun v : (World) × (Program) × (List Str) × (ExcName → Option Value) × (Str → Option Value) × (Str → Option Value) × (Nat) × (Nat) × (Option (List Code)) × (Str) × (Scope) × (Addr) × (Value) × (List (Str × Addr)) × (List Env) × (Around) × (Heap) × (Heap) × (Addr) × (Str → Option Value) × (Shared) × (Value → Shared → Prop) × (Value → Shared → Prop) × (List (Addr × Obj)) × (List (Addr × Obj)) × (Obj) × (Obj → List (Addr × Obj)) × (Str → Option (List (Int × Int))) × (Nat) × (Nat) × (Addr) × (Addr) × (Addr) × (Addr) × (Addr) × (Str) × (Tok) × (Tok) × (Tok) × (Tok) × (Int) × (Int) => aen_spec_St (v.1) (v.2.1) (v.2.2.1) (v.2.2.2.1) (v.2.2.2.2.1) (v.2.2.2.2.2.1) (v.2.2.2.2.2.2.1) (v.2.2.2.2.2.2.2.1) (v.2.2.2.2.2.2.2.2.1) (v.2.2.2.2.2.2.2.2.2.1) (v.2.2.2.2.2.2.2.2.2.2.1) (v.2.2.2.2.2.2.2.2.2.2.2.1) (v.2.2.2.2.2.2.2.2.2.2.2.2.1) (v.2.2.2.2.2.2.2.2.2.2.2.2.2.1) (v.2.2.2.2.2.2.2.2.2.2.2.2.2.2.1) (v.2.2.2.2.2.2.2.2.2.2.2.2.2.2.2.1) (v.2.2.2.2.2.2.2.2.2.2.2.2.2.2.2.2.1) (v.2.2.2.2.2.2.2.2.2.2.2.2.2.2.2.2.2.1) (v.2.2.2.2.2.2.2.2.2.2.2.2.2.2.2.2.2.2.1) (v.2.2.2.2.2.2.2.2.2.2.2.2.2.2.2.2.2.2.2.1) (v.2.2.2.2.2.2.2.2.2.2.2.2.2.2.2.2.2.2.2.2.1) (v.2.2.2.2.2.2.2.2.2.2.2.2.2.2.2.2.2.2.2.2.2.1) (v.2.2.2.2.2.2.2.2.2.2.2.2.2.2.2.2.2.2.2.2.2.2.1) (v.2.2.2.2.2.2.2.2.2.2.2.2.2.2.2.2.2.2.2.2.2.2.2.1) (v.2.2.2.2.2.2.2.2.2.2.2.2.2.2.2.2.2.2.2.2.2.2.2.2.1) (v.2.2.2.2.2.2.2.2.2.2.2.2.2.2.2.2.2.2.2.2.2.2.2.2.2.1) (v.2.2.2.2.2.2.2.2.2.2.2.2.2.2.2.2.2.2.2.2.2.2.2.2.2.2.1) (v.2.2.2.2.2.2.2.2.2.2.2.2.2.2.2.2.2.2.2.2.2.2.2.2.2.2.2.1) (v.2.2.2.2.2.2.2.2.2.2.2.2.2.2.2.2.2.2.2.2.2.2.2.2.2.2.2.2.1) (v.2.2.2.2.2.2.2.2.2.2.2.2.2.2.2.2.2.2.2.2.2.2.2.2.2.2.2.2.2.1) (v.2.2.2.2.2.2.2.2.2.2.2.2.2.2.2.2.2.2.2.2.2.2.2.2.2.2.2.2.2.2.1) (v.2.2.2.2.2.2.2.2.2.2.2.2.2.2.2.2.2.2.2.2.2.2.2.2.2.2.2.2.2.2.2.1) (v.2.2.2.2.2.2.2.2.2.2.2.2.2.2.2.2.2.2.2.2.2.2.2.2.2.2.2.2.2.2.2.2.1) (v.2.2.2.2.2.2.2.2.2.2.2.2.2.2.2.2.2.2.2.2.2.2.2.2.2.2.2.2.2.2.2.2.2.1) (v.2.2.2.2.2.2.2.2.2.2.2.2.2.2.2.2.2.2.2.2.2.2.2.2.2.2.2.2.2.2.2.2.2.2.1) (v.2.2.2.2.2.2.2.2.2.2.2.2.2.2.2.2.2.2.2.2.2.2.2.2.2.2.2.2.2.2.2.2.2.2.2.1) (v.2.2.2.2.2.2.2.2.2.2.2.2.2.2.2.2.2.2.2.2.2.2.2.2.2.2.2.2.2.2.2.2.2.2.2.2.1) (v.2.2.2.2.2.2.2.2.2.2.2.2.2.2.2.2.2.2.2.2.2.2.2.2.2.2.2.2.2.2.2.2.2.2.2.2.2.1) (v.2.2.2.2.2.2.2.2.2.2.2.2.2.2.2.2.2.2.2.2.2.2.2.2.2.2.2.2.2.2.2.2.2.2.2.2.2.2.1) (v.2.2.2.2.2.2.2.2.2.2.2.2.2.2.2.2.2.2.2.2.2.2.2.2.2.2.2.2.2.2.2.2.2.2.2.2.2.2.2.1) (v.2.2.2.2.2.2.2.2.2.2.2.2.2.2.2.2.2.2.2.2.2.2.2.2.2.2.2.2.2.2.2.2.2.2.2.2.2.2.2.2.1) (v.2.2.2.2.2.2.2.2.2.2.2.2.2.2.2.2.2.2.2.2.2.2.2.2.2.2.2.2.2.2.2.2.2.2.2.2.2.2.2.2.2)) h
noncomputable def w : World := zcv.1
noncomputable def p : Program := zcv.2.1
noncomputable def loose : List Str := zcv.2.2.1
noncomputable def mean : ExcName → Option Value := zcv.2.2.2.1
noncomputable def mg : Str → Option Value := zcv.2.2.2.2.1
noncomputable def mb : Str → Option Value := zcv.2.2.2.2.2.1
noncomputable def dp : Nat := zcv.2.2.2.2.2.2.1
noncomputable def un : Nat := zcv.2.2.2.2.2.2.2.1
noncomputable def gd : Option (List Code) := zcv.2.2.2.2.2.2.2.2.1
noncomputable def cn : Str := zcv.2.2.2.2.2.2.2.2.2.1
noncomputable def cs : Scope := zcv.2.2.2.2.2.2.2.2.2.2.1
noncomputable def a : Addr := zcv.2.2.2.2.2.2.2.2.2.2.2.1
noncomputable def ccd : Value := zcv.2.2.2.2.2.2.2.2.2.2.2.2.1
noncomputable def cl : List (Str × Addr) := zcv.2.2.2.2.2.2.2.2.2.2.2.2.2.1
noncomputable def outer : List Env := zcv.2.2.2.2.2.2.2.2.2.2.2.2.2.2.1
noncomputable def A₀ : Around := zcv.2.2.2.2.2.2.2.2.2.2.2.2.2.2.2.1
noncomputable def base : Heap := zcv.2.2.2.2.2.2.2.2.2.2.2.2.2.2.2.2.1
noncomputable def h₀ : Heap := zcv.2.2.2.2.2.2.2.2.2.2.2.2.2.2.2.2.2.1
noncomputable def L : Addr := zcv.2.2.2.2.2.2.2.2.2.2.2.2.2.2.2.2.2.2.1
noncomputable def m : Str → Option Value := zcv.2.2.2.2.2.2.2.2.2.2.2.2.2.2.2.2.2.2.2.1
noncomputable def s : Shared := zcv.2.2.2.2.2.2.2.2.2.2.2.2.2.2.2.2.2.2.2.2.1
noncomputable def Q : Value → Shared → Prop := zcv.2.2.2.2.2.2.2.2.2.2.2.2.2.2.2.2.2.2.2.2.2.1
noncomputable def E : Value → Shared → Prop := zcv.2.2.2.2.2.2.2.2.2.2.2.2.2.2.2.2.2.2.2.2.2.2.1
noncomputable def news : List (Addr × Obj) := zcv.2.2.2.2.2.2.2.2.2.2.2.2.2.2.2.2.2.2.2.2.2.2.2.1
noncomputable def evl : List (Addr × Obj) := zcv.2.2.2.2.2.2.2.2.2.2.2.2.2.2.2.2.2.2.2.2.2.2.2.2.1
noncomputable def oV : Obj := zcv.2.2.2.2.2.2.2.2.2.2.2.2.2.2.2.2.2.2.2.2.2.2.2.2.2.1
noncomputable def g1 : Obj → List (Addr × Obj) := zcv.2.2.2.2.2.2.2.2.2.2.2.2.2.2.2.2.2.2.2.2.2.2.2.2.2.2.1
noncomputable def evs : Str → Option (List (Int × Int)) := zcv.2.2.2.2.2.2.2.2.2.2.2.2.2.2.2.2.2.2.2.2.2.2.2.2.2.2.2.1
noncomputable def nV : Nat := zcv.2.2.2.2.2.2.2.2.2.2.2.2.2.2.2.2.2.2.2.2.2.2.2.2.2.2.2.2.1
noncomputable def z : Nat := zcv.2.2.2.2.2.2.2.2.2.2.2.2.2.2.2.2.2.2.2.2.2.2.2.2.2.2.2.2.2.1
noncomputable def st : Addr := zcv.2.2.2.2.2.2.2.2.2.2.2.2.2.2.2.2.2.2.2.2.2.2.2.2.2.2.2.2.2.2.1
noncomputable def S : Addr := zcv.2.2.2.2.2.2.2.2.2.2.2.2.2.2.2.2.2.2.2.2.2.2.2.2.2.2.2.2.2.2.2.1
noncomputable def X : Addr := zcv.2.2.2.2.2.2.2.2.2.2.2.2.2.2.2.2.2.2.2.2.2.2.2.2.2.2.2.2.2.2.2.2.1
noncomputable def V : Addr := zcv.2.2.2.2.2.2.2.2.2.2.2.2.2.2.2.2.2.2.2.2.2.2.2.2.2.2.2.2.2.2.2.2.2.1
noncomputable def clk : Addr := zcv.2.2.2.2.2.2.2.2.2.2.2.2.2.2.2.2.2.2.2.2.2.2.2.2.2.2.2.2.2.2.2.2.2.2.1
noncomputable def key : Str := zcv.2.2.2.2.2.2.2.2.2.2.2.2.2.2.2.2.2.2.2.2.2.2.2.2.2.2.2.2.2.2.2.2.2.2.2.1
noncomputable def tp : Tok := zcv.2.2.2.2.2.2.2.2.2.2.2.2.2.2.2.2.2.2.2.2.2.2.2.2.2.2.2.2.2.2.2.2.2.2.2.2.1
noncomputable def tl : Tok := zcv.2.2.2.2.2.2.2.2.2.2.2.2.2.2.2.2.2.2.2.2.2.2.2.2.2.2.2.2.2.2.2.2.2.2.2.2.2.1
noncomputable def te : Tok := zcv.2.2.2.2.2.2.2.2.2.2.2.2.2.2.2.2.2.2.2.2.2.2.2.2.2.2.2.2.2.2.2.2.2.2.2.2.2.2.1
noncomputable def ta : Tok := zcv.2.2.2.2.2.2.2.2.2.2.2.2.2.2.2.2.2.2.2.2.2.2.2.2.2.2.2.2.2.2.2.2.2.2.2.2.2.2.2.1
noncomputable def t : Int := zcv.2.2.2.2.2.2.2.2.2.2.2.2.2.2.2.2.2.2.2.2.2.2.2.2.2.2.2.2.2.2.2.2.2.2.2.2.2.2.2.2.1
noncomputable def e : Int := zcv.2.2.2.2.2.2.2.2.2.2.2.2.2.2.2.2.2.2.2.2.2.2.2.2.2.2.2.2.2.2.2.2.2.2.2.2.2.2.2.2.2
theorem walk1 : aen_spec_St w p loose mean mg mb dp un gd cn cs a ccd cl outer A₀ base h₀ L m s Q E news evl oV g1 evs nV z st S X V clk key tp tl te ta t e := by
  intro limit am B F KX T hk XB TB D N O U1 hevl hV zV zz ha ha2 hl he he2 ht0 ht hd hu retH
  have mkp : Mk 137 := trivial
  refine lower ?_ hd hu
  obtain ⟨frz, n1, N', sub, mem, sup, top⟩ := split1s U1 N
  have O' : Store w frz st S X V clk t := O.sub (fun q hq ho => sub q hq ho.2.2)
  obtain ⟨ev, hR, hE⟩ := hV
  have subE : ∀ q ∈ evl, Off S X V q.1 → q ∈ frz := fun q hq _ => sub q (hevl q hq).1 (hevl q hq).2
  clear N U1 sub O hevl
  have O'' := O'
  obtain ⟨⟨dx, h1, h2, h3, h4, t1, t2, t3, t4, nn, oc, od, fd, sl, hst, hck, hdx, _, _, _⟩, _, sx, xv, lS, lX, lV⟩ := O''
  have hk0 := hE key
  revert KX; k_fill; intro KX
  cases hek : ev key with
  | none =>
    rw [hek] at hk0
    have hen : evs key = none := by
      cases q : evs key with
      | none => rfl
      | some y => rw [q] at hk0; exact hk0.elim
    refine wpAny_call ?_
    walk_at "m enterX"
    k_steps
    · exact retH _ _ _ [] _ _ _ (by assumption) (by assumption) (by assumption) (by assumption) (by assumption) (Or.inl ⟨by assumption, rfl, rfl⟩) (by assumption) (news_of (by assumption) (fun q hq => mem _ q (by simpa using hq))) (fun p hp => nomatch hp) (ev_same hE (fun q hq => List.mem_append_left _ hq) hR (by walk_at "m om") (by walk_at "m om"))
    · refine (fun (NN : News _ L _ (_ :: _ :: _ :: _ :: _ :: _ :: (V, _) :: frz)) => ?_) (by assumption)
      refine (fun (RR : RefD PySem.Challenge.rw_ji0060_02.row.prog w _ (upd (upd ev key _) key (some _)) _) => ?_) (by assumption)
      have hm := with_ext NN RR mem (fun q hq => by repeat (first | exact hq | refine List.Mem.tail _ ?_))
      have eN : EntAt _ S X V _ (t, t + e) := ⟨_, _, _, _, _, _, _, _, _, rfl, new_in (evl := evl) NN hm (by k_mem) (mem _) (by walk_at "m lt") (by walk_at "m al2"), new_in (evl := evl) NN hm (by k_mem) (mem _) (by walk_at "m lt") (by walk_at "m al2"), off_of sx xv (by walk_at "m lt"), off_of sx xv (by walk_at "m lt")⟩
      refine retH _ _ _ (extOf _ (g1 _)) _ _ _ (by assumption) (by assumption) (by assumption) (by assumption) (by assumption) (Or.inr (Or.inr ⟨by omega, (fun en hh => by rw [hen] at hh; simp at hh), rfl, rfl⟩)) (by assumption) (extOf_news NN hm) (fun p hp q hq => extOf_ne hp hq) ?_
      exact ev_put hE (fun q hq => List.mem_append_left _ hq) (fun j hj => by simp [upd, hj]) (upd_same _ _ _) (.inl (new_in (evl := evl) NN hm (by k_mem) (mem _) (by walk_at "m lt") (by walk_at "m al2"))) (Ents.app (Ents.rep eN _) (by rw [hen]; exact .nil)) (off_of sx xv (by walk_at "m lt")) (by simp; omega) (by walk_at "m om") RR (by walk_at "m om")
  | some l =>
    rw [hek] at hk0
    cases hen : evs key with
    | none => rw [hen] at hk0; exact hk0.elim
    | some ens =>
      rw [hen] at hk0
      obtain ⟨vs, vn, hml0, hEn, hoff, hlen⟩ := hk0
      have hml := subE _ hml0 hoff
      have hEn' := hEn.sub (news' := frz) fun q hq ho => subE q hq ho
      by_cases hlt : am ≤ limit ∧ (limit - am).toNat < vs.length
      · obtain ⟨hle, hi⟩ := hlt
        obtain ⟨en, hen1, hen2⟩ := hEn'.get (List.getElem?_eq_getElem hi)
        obtain ⟨v, hv⟩ : ∃ v, vs[(limit - am).toNat]? = some v := ⟨_, List.getElem?_eq_getElem hi⟩
        rw [← Option.some.inj (hv.symm.trans (List.getElem?_eq_getElem hi))] at hen2
        obtain ⟨ee, ed, eh1, eh2, et1, et2, eta, etx, eN, rfl, hee, hed, eo1, eo2⟩ := hen2
        refine wpAny_call ?_
        walk_at "m enterX"
        k_steps
        · refine (fun (NN : News _ L _ (_ :: (V, _) :: frz)) => ?_) (by assumption)
          refine (fun (RR : RefD PySem.Challenge.rw_ji0060_02.row.prog w _ ev (nV + 1)) => ?_) (by assumption)
          have hm := with_ext NN RR mem (fun q hq => by repeat (first | exact hq | refine List.Mem.tail _ ?_))
          refine retH _ _ _ (extOf _ (g1 _)) _ _ _ (by assumption) (by assumption) (by assumption) (by assumption) (by assumption) (Or.inr (Or.inl ⟨by omega, ⟨en, by rw [hen]; exact hen1, by assumption⟩, rfl, rfl⟩)) (by assumption) (extOf_news NN hm) (fun p hp q hq => extOf_ne hp hq) ?_
          exact ev_put hE (fun q hq => List.mem_append_left _ hq) (fun j _ => rfl) hek (.inr ⟨vn, List.mem_append_left _ hml0⟩) (by rw [hen]; exact hEn.sub fun q hq _ => List.mem_append_left _ hq) hoff (by walk_at "m om") (by walk_at "m om") RR (by walk_at "m om")
        · refine (fun (NN : News _ L _ (_ :: _ :: _ :: _ :: _ :: _ :: (V, _) :: frz)) => ?_) (by assumption)
          refine (fun (RR : RefD PySem.Challenge.rw_ji0060_02.row.prog w _ (upd ev key (some _)) _) => ?_) (by assumption)
          have hm := with_ext NN RR mem (fun q hq => by repeat (first | exact hq | refine List.Mem.tail _ ?_))
          have eN : EntAt _ S X V _ (t, t + e) := ⟨_, _, _, _, _, _, _, _, _, rfl, new_in (evl := evl) NN hm (by k_mem) (mem _) (by walk_at "m lt") (by walk_at "m al2"), new_in (evl := evl) NN hm (by k_mem) (mem _) (by walk_at "m lt") (by walk_at "m al2"), off_of sx xv (by walk_at "m lt"), off_of sx xv (by walk_at "m lt")⟩
          refine retH _ _ _ (extOf _ (g1 _)) _ _ _ (by assumption) (by assumption) (by assumption) (by assumption) (by assumption) (Or.inr (Or.inr ⟨by omega, (fun en2 hh => by rw [hen] at hh; have := Option.some.inj (hen1.symm.trans hh); subst this; omega), rfl, rfl⟩)) (by assumption) (extOf_news NN hm) (fun p hp q hq => extOf_ne hp hq) ?_
          exact ev_put hE (fun q hq => List.mem_append_left _ hq) (fun j hj => by simp [upd, hj]) (upd_same _ _ _) (.inl (new_in (evl := evl) NN hm (by k_mem) (mem _) (by walk_at "m lt") (by walk_at "m al2"))) (Ents.app (Ents.rep eN _) (by rw [hen]; exact hEn.sub fun q hq _ => List.mem_append_left _ hq)) (off_of sx xv (by walk_at "m lt")) (by simp; omega) (by walk_at "m om") RR (by walk_at "m om")
      · have hno : am ≤ limit → (vs.length : Int) ≤ limit - am := by omega
        refine wpAny_call ?_
        walk_at "m enterX"
        k_steps
        · exact retH _ _ _ [] _ _ _ (by assumption) (by assumption) (by assumption) (by assumption) (by assumption) (Or.inl ⟨by assumption, rfl, rfl⟩) (by assumption) (news_of (by assumption) (fun q hq => mem _ q (by simpa using hq))) (fun p hp => nomatch hp) (ev_same hE (fun q hq => List.mem_append_left _ hq) hR (by walk_at "m om") (by walk_at "m om"))
        · refine (fun (NN : News _ L _ (_ :: _ :: _ :: _ :: _ :: _ :: (V, _) :: frz)) => ?_) (by assumption)
          refine (fun (RR : RefD PySem.Challenge.rw_ji0060_02.row.prog w _ (upd ev key (some _)) _) => ?_) (by assumption)
          have hm := with_ext NN RR mem (fun q hq => by repeat (first | exact hq | refine List.Mem.tail _ ?_))
          have eN : EntAt _ S X V _ (t, t + e) := ⟨_, _, _, _, _, _, _, _, _, rfl, new_in (evl := evl) NN hm (by k_mem) (mem _) (by walk_at "m lt") (by walk_at "m al2"), new_in (evl := evl) NN hm (by k_mem) (mem _) (by walk_at "m lt") (by walk_at "m al2"), off_of sx xv (by walk_at "m lt"), off_of sx xv (by walk_at "m lt")⟩
          refine retH _ _ _ (extOf _ (g1 _)) _ _ _ (by assumption) (by assumption) (by assumption) (by assumption) (by assumption) (Or.inr (Or.inr ⟨by omega, (fun en2 hh => by rw [hen] at hh; obtain ⟨h9, _⟩ := List.getElem?_eq_some_iff.mp hh; have := hEn.len; have h8 : (limit - am).toNat < ens.length := h9; omega), rfl, rfl⟩)) (by assumption) (extOf_news NN hm) (fun p hp q hq => extOf_ne hp hq) ?_
          exact ev_put hE (fun q hq => List.mem_append_left _ hq) (fun j hj => by simp [upd, hj]) (upd_same _ _ _) (.inl (new_in (evl := evl) NN hm (by k_mem) (mem _) (by walk_at "m lt") (by walk_at "m al2"))) (Ents.app (Ents.rep eN _) (by rw [hen]; exact hEn.sub fun q hq _ => List.mem_append_left _ hq)) (off_of sx xv (by walk_at "m lt")) (by simp; omega) (by walk_at "m om") RR (by walk_at "m om")
end c_aen_spec
theorem aen_spec {w : World} {p : Program} {loose : List Str} {mean : ExcName → Option Value} {mg : Str → Option Value} {mb : Str → Option Value} {dp : Nat} {un : Nat} {gd : Option (List Code)} {cn : Str} {cs : Scope} {a : Addr} {ccd : Value} {cl : List (Str × Addr)} {outer : List Env} {A₀ : Around} {base : Heap} {h₀ : Heap} {L : Addr} {m : Str → Option Value} {s : Shared} {Q : Value → Shared → Prop} {E : Value → Shared → Prop} (B : Below A₀ base outer h₀) (F : Fr h₀ L s.heap m) (KX : (Mine.hd1.heap_39 w.params).In h₀) (T : Top p loose mean mg mb h₀) (hk : cs.kind = .function) {news : List (Addr × Obj)} {evl : List (Addr × Obj)} {oV : Obj} {g1 : Obj → List (Addr × Obj)} {evs : Str → Option (List (Int × Int))} {nV : Nat} {z : Nat} {st : Addr} {S : Addr} {X : Addr} {V : Addr} {clk : Addr} {key : Str} {tp : Tok} {tl : Tok} {te : Tok} {ta : Tok} {t : Int} {e : Int} {limit : Int} {am : Int} (XB : (Mine.hd1.heap_39 w.params).In base) (TB : Top p loose mean mg mb base) (D : KtsDicts (outer.filterMap (·.frame)) h₀) (N : News h₀ L s.heap news) (O : Store w news st S X V clk t) (U1 : UpdF V oV news g1) (hevl : ∀ q ∈ evl, q ∈ news ∧ q.1 ≠ V) (hV : EvD PySem.Challenge.rw_ji0060_02.row.prog w evl S X V oV evs nV z) (zV : nV + 1 ≤ sizeLine) (zz : z + 1000 ≤ 1000000) (ha : 0 ≤ am) (ha2 : am ≤ 100) (hl : limit < 1000000) (he : 0 < e) (he2 : e < 1000000) (ht0 : 0 ≤ t) (ht : t < 1000000000000) (hd : dp ≤ 860) (hu : un ≤ 8600) (retH : ∀ h₀' b evs' ext oV' h' tk', KtsTurn (outer.filterMap (·.frame)) h₀ h₀' → Below A₀ base outer h₀' → (Mine.hd1.heap_39 w.params).In h₀' → Top p loose mean mg mb h₀' → KtsDicts (outer.filterMap (·.frame)) h₀' → AenPost evs key t e limit am b evs' → Fr h₀' L h' m → News h₀' L h' (g1 oV' ++ ext) → (∀ p ∈ ext, ∀ q ∈ g1 oV', p.1 ≠ q.1) → EvD PySem.Challenge.rw_ji0060_02.row.prog w (evl ++ ext) S X V oV' evs' (nV + 2) (z + 1000) → Q (.bool b) { s with heap := h', toks := tk' }) :
    wpAny (model PySem.Challenge.rw_ji0060_02.row.prog w) (ktrTop dp un gd cn cs L a ccd cl outer) (call (.ref 631) [.ref st, .str key tp, .int limit tl, .int e te] [(Str.ofString "amount", .int am ta)]) Q E s :=
  c_aen_spec.zal c_aen_spec.walk1 (w, p, loose, mean, mg, mb, dp, un, gd, cn, cs, a, ccd, cl, outer, A₀, base, h₀, L, m, s, Q, E, news, evl, oV, g1, evs, nV, z, st, S, X, V, clk, key, tp, tl, te, ta, t, e) _ _ B F KX T hk XB TB D N O U1 hevl hV zV zz ha ha2 hl he he2 ht0 ht hd hu retH
section
variable {w : World} {p : Program} {loose : List Str} {mean : ExcName → Option Value} {mg mb : Str → Option Value} {dp un : Nat} {gd : Option (List Code)} {cn : Str} {cs : Scope} {a : Addr} {ccd : Value} {cl : List (Str × Addr)} {outer : List Env} {A₀ : Around} {base h₀ : Heap} {L : Addr} {m : Str → Option Value} {s : Shared} {Q E : Value → Shared → Prop}
  (B : Below A₀ base outer h₀) (F : Fr h₀ L s.heap m) (KX : (Mine.hd1.heap_39 w.params).In h₀) (T : Top p loose mean mg mb h₀) (hk : cs.kind = .function)
include B F KX T hk
end

end

theorem said_aen : True := by
  k_with "call ref" => (k_here; (with_reducible show wpAny _ _ (call (Value.ref 631) _ _) _ _ _); k_dflt (refine' aen_spec ?zyB ?zyF ?zyX ?zyT ?zyk ?zyXB ?zyTB ?zyD ?zyN ?zyO ?zyU1 ?zyhevl ?zyhV ?zyzV ?zyzz ?zyha ?zyha2 ?zyhl ?zyhe ?zyhe2 ?zyht0 ?zyht ?zyd ?zyu ?_; (case zyB => k_asm); (case zyF => k_asm); (case zyX => k_asm); (case zyT => k_asm); (case zyk => first | exact rfl | assumption); (case zyN => k_asm); (case zyXB => assumption); (case zyTB => assumption); (case zyD => assumption); (case zyO => refine' Store.sub ?zyo ?zys; (case zyo => assumption); (case zys => walk_at "m sub")); (case zyU1 => k_updF); (case zyhevl => (intro q' hq'; (have hz' := (by assumption : ∀ q ∈ _, q ∈ _ ∧ q.1 ≠ _) q' hq'); exact ⟨by (repeat (first | exact hz'.1 | refine List.Mem.tail _ ?_)), hz'.2⟩)); (case zyhV => assumption); (case zyzV => walk_at "m om"); (case zyzz => walk_at "m om"); (case zyha => walk_at "m om"); (case zyha2 => walk_at "m om"); (case zyhl => walk_at "m om"); (case zyhe => walk_at "m om"); (case zyhe2 => walk_at "m om"); (case zyht0 => walk_at "m om"); (case zyht => walk_at "m om"); (case zyd => exact Nat.le_of_ble_eq_true rfl); (case zyu => exact Nat.le_of_ble_eq_true rfl); k_whole); (intro h0' b' evs' ext' oV' h' tk' tT' B' X' T' D' ap' F' N' n1' hV'; (try dsimp only at N'); (try simp only [List.cons_append] at N'); (try dsimp only); (try k_sweep)))
  trivial
section
-- only 2
section
variable {w : World} {p : Program} {loose : List Str} {mean : ExcName → Option Value} {mg mb : Str → Option Value} {dp un : Nat} {gd : Option (List Code)} {cn : Str} {cs : Scope} {a : Addr} {ccd : Value} {cl : List (Str × Addr)} {outer : List Env} {A₀ : Around} {base h₀ : Heap} {L : Addr} {m : Str → Option Value} {s : Shared} {Q E : Value → Shared → Prop}
  (B : Below A₀ base outer h₀) (F : Fr h₀ L s.heap m) (KX : (Mine.hd1.heap_39 w.params).In h₀) (T : Top p loose mean mg mb h₀) (hk : cs.kind = .function)
include B F KX T hk

theorem mhitk_spec {news evl : List (Addr × Obj)} {oV : Obj} {g1 : Obj → List (Addr × Obj)} {evs : Str → Option (List (Int × Int))} {nV z : Nat} {st S X V clk lim it nt : Addr} {sec : Bool} {ns key : Str} {names : List Str} {am mu t e cost : Int} {tc : Tok}
    (XB : (Mine.hd1.heap_39 w.params).In base) (TB : Top p loose mean mg mb base) (D : KtsDicts (outer.filterMap (·.frame)) h₀)
    (N : News h₀ L s.heap news) (O : Store w news st S X V clk t) (Li : LimAt news S X V 202 lim st) (I : ItemAt news S X V it sec ns am mu) (J : NamesAt news S X V nt names) (U1 : UpdF V oV news g1)
    (hevl : ∀ q ∈ evl, q ∈ news ∧ q.1 ≠ V) (hV : EvD PySem.Challenge.rw_ji0060_02.row.prog w evl S X V oV evs nV z) (zV : nV + 1 ≤ sizeLine) (zz : z + 1000 ≤ 1000000) (ee : e = unitOf sec * mu) (ek : key = keyOf sec ns names am mu) (hc : 0 ≤ cost ∧ cost ≤ 100) (he : 0 < e) (he2 : e < 1000000) (ht0 : 0 ≤ t) (ht : t < 1000000000000) (hd : dp ≤ 820) (hu : un ≤ 8200)
    (ret : ∀ h₀' b evs' ext oV' h' tk', KtsTurn (outer.filterMap (·.frame)) h₀ h₀' → Below A₀ base outer h₀' → (Mine.hd1.heap_39 w.params).In h₀' → Top p loose mean mg mb h₀' → KtsDicts (outer.filterMap (·.frame)) h₀' → AenPost evs key t e am cost b evs' → Fr h₀' L h' m → News h₀' L h' (g1 oV' ++ ext) → (∀ p ∈ ext, ∀ q ∈ g1 oV', p.1 ≠ q.1) → EvD PySem.Challenge.rw_ji0060_02.row.prog w (evl ++ ext) S X V oV' evs' (nV + 2) (z + 1000) → Q (.bool b) { s with heap := h', toks := tk' }) :
    wpAny (model PySem.Challenge.rw_ji0060_02.row.prog w) (ktrTop dp un gd cn cs L a ccd cl outer) (call (.ref 181) [.ref lim, .ref it, .ref nt] [(Str.ofString "cost", .int cost tc)]) Q E s := by
  subst ee ek
  refine lower ?_ hd hu
  obtain ⟨frz, n1, N', sub, mem, sup, top⟩ := split1s U1 N
  have O' : Store w frz st S X V clk t := O.sub (fun q hq ho => sub q hq ho.2.2)
  have I' := I.sub (news' := frz) (fun q hq ho => sub q hq ho.2.2)
  have J' := J.sub (news' := frz) (fun q hq ho => sub q hq ho.2.2)
  have Li' := Li.sub (news' := frz) (fun q hq ho => sub q hq ho.2.2)
  obtain ⟨_, hm, ha, _⟩ := id I'
  have hevl' : ∀ q ∈ evl, q ∈ (V, oV) :: frz ∧ q.1 ≠ V := fun q hq => ⟨.tail _ (sub q (hevl q hq).1 (hevl q hq).2), (hevl q hq).2⟩
  clear N U1 sub O I J Li hevl
  obtain ⟨ldx, lh, lt, ln, hlim, hldx, _, _⟩ := Li'
  have O'' := O'
  obtain ⟨⟨dx, h1, h2, h3, h4, t1, t2, t3, t4, nn, oc, od, fd, sl, hst, hck, hdx, _, _, _⟩, _, sx, xv, lS, lX, lV⟩ := O''
  revert KX; k_fill; intro KX
  refine wpAny_call ?_
  walk_at "m enterX"
  k_steps
  exact ret _ _ _ _ _ _ _ (by assumption) (by assumption) (by assumption) (by assumption) (by assumption) (by assumption) (by assumption) (news_of (by assumption) (app_sub mem)) (fun p hp q hq => (by assumption : ∀ p ∈ _, ∀ q ∈ (V, _) :: frz, p.1 ≠ q.1) p hp q (mem _ q hq)) (by assumption)
end

end
section
noncomputable def TurnEnd (h₀ : Heap) (L : Addr) (J : (Str → Option Value) → List (Addr × Obj) → Prop) (I : Addr) (oI : Obj) (s s' : Shared) : Prop :=
  ∃ h' tk m' nw, s' = { s with heap := h', toks := tk } ∧ Fr h₀ L h' m' ∧ News h₀ L h' ((I, oI) :: nw) ∧ (∀ p ∈ nw, p.1 ≠ I) ∧ J m' nw
/-- how a turn of a loop may end -/
noncomputable def TurnPost (h₀ : Heap) (L : Addr) (J : (Str → Option Value) → List (Addr × Obj) → Prop) (I : Addr) (oI : Obj) (s : Shared) (Q : Flow → Shared → Prop) : Flow → Shared → Prop
  | .ret v, s' => Q (.ret v) s'
  | .brk, s' => Q .next s'
  | .next, s' => TurnEnd h₀ L J I oI s s'
  | .cont, s' => TurnEnd h₀ L J I oI s s'
section
variable {prog : Program} {w : World} {A : Around} {E : Value → Shared → Prop} {Q : Flow → Shared → Prop} {s : Shared} {h₀ : Heap} {env : Env} {x : Str} {body : List Stmt} {m₀ : Str → Option Value} {news : List (Addr × Obj)}
theorem loop_any {I : Addr} {n : Nat} {P : Nat → Value → Prop} {St : Nat → Heap → Prop} {src : List (Addr × Obj)} (J : Nat → (Str → Option Value) → List (Addr × Obj) → Prop)
    (W : Walks prog w A I (I :: src.map (·.1)) [I] n P St) (hI : ∀ i h, St i h → ∃ o, h.get? I = some o) (hsrc : ∀ i m' nw, J i m' nw → ∀ q ∈ src, q ∈ nw)
    (hLI : env.locals ≠ I) (hI0 : h₀.get? I = none) (hnI : ∀ p ∈ news, p.1 ≠ I) (st : St 0 s.heap) (F : Fr h₀ env.locals s.heap m₀) (N : News h₀ env.locals s.heap news) (hj : J 0 m₀ news)
    (turn : ∀ i v m₁ news₁ h tk oI, i < n → P i v → J i m₁ news₁ → (∀ p ∈ news₁, p.1 ≠ I) → Fr h₀ env.locals h (fun y => if y = x then some v else m₁ y) → News h₀ env.locals h ((I, oI) :: news₁) →
      wpAny (model prog w) A (execs body env) (TurnPost h₀ env.locals (J (i + 1)) I oI { s with heap := h, toks := tk } Q) E { s with heap := h, toks := tk })
    (done : ∀ m' news' h tk, J n m' news' → (∀ p ∈ news', p.1 ≠ I) → Fr h₀ env.locals h m' → News h₀ env.locals h news' → Q .next { s with heap := h, toks := tk }) :
    LoopAtV prog w A h₀ env x body Q E (.ref I) s := by
  refine ⟨I, _, _, n, P, St, m₀, news, J, rfl, W, ?_, ?_, ?_, st, F, N, hj, ?_, ?_⟩
  · intro hm
    rcases List.mem_cons.mp hm with e | hm
    · exact hLI e
    · obtain ⟨q, hq, e⟩ := List.mem_map.mp hm
      exact (N q (hsrc _ _ _ hj q hq)).2.1 e
  · intro b hb
    rw [List.mem_singleton.mp hb]
    exact hI0
  · intro p hp hm
    exact hnI p hp (List.mem_singleton.mp hm)
  · rintro i v m₁ news₁ s₁ own ⟨hh', tk', rfl⟩ hin hP hJ hoff hown hget hall hst' F₁ N₁
    obtain ⟨oI, eI⟩ := hI _ _ hst'
    have mI : (I, oI) ∈ own := hall I (.head _) hI0 oI eI
    have off₁ : ∀ p ∈ news₁, p.1 ≠ I := fun p hp e => hoff p hp (List.mem_singleton.mpr e)
    have N₂ : News h₀ env.locals hh' ((I, oI) :: news₁) := fun p hp => by
      rcases List.mem_cons.mp hp with e | hp
      · subst e; exact N₁ _ (List.mem_append_left _ mI)
      · exact N₁ p (List.mem_append_right _ hp)
    refine wpAny_mono (turn i v m₁ news₁ hh' tk' oI hin hP hJ off₁ F₁ N₂) (fun f s₂ p => ?_) fun _ _ e => e
    have fin : ∀ f, TurnEnd h₀ env.locals (J (i + 1)) I oI { s with heap := hh', toks := tk' } s₂ → LoopStepU h₀ env.locals [I] own (J (i + 1)) { s with heap := hh', toks := tk' } f s₂ → True := fun _ _ _ => trivial
    have fin' : TurnEnd h₀ env.locals (J (i + 1)) I oI { s with heap := hh', toks := tk' } s₂ → LoopStepU h₀ env.locals [I] own (J (i + 1)) { s with heap := hh', toks := tk' } .next s₂ := by
      rintro ⟨h', tk, m', nx, e, F', N', hn, hJ'⟩
      refine ⟨rfl, h', tk, m', nx, e, F', fun p hp => ?_, fun p hp hq => hn p hp (List.mem_singleton.mp hq), hJ'⟩
      rcases List.mem_append.mp hp with ho | hx
      · rcases List.mem_cons.mp (hown p ho) with e1 | e1
        · have g1 := hget p ho
          dsimp only at g1 eI
          rw [e1, eI] at g1
          have : p = (I, oI) := Prod.ext e1 (Option.some.inj g1).symm
          rw [this]
          exact N' _ (.head _)
        · obtain ⟨q, hq, e2⟩ := List.mem_map.mp e1
          have g1 := hget p ho
          have g2 := (N₁ q (List.mem_append_right _ (hsrc _ _ _ hJ q hq))).1
          dsimp only at g1 g2
          rw [e2, g1] at g2
          have : p = q := Prod.ext e2.symm (Option.some.inj g2)
          rw [this]
          exact N' q (.tail _ (hsrc _ _ _ hJ' q hq))
      · exact N' p (.tail _ hx)
    cases f with
    | ret v => exact .ret p
    | brk => exact .brk p
    | next => exact .next (fin' p)
    | cont => exact .cont (fin' p)
  · rintro h' tk m' news' F' N' hoff hJ
    exact done m' news' h' tk hJ (fun p hp e => hoff p hp (List.mem_singleton.mpr e)) F' N'
/-- a list of the ledger gone through -/
theorem iter_list {l : Addr} {vs : List Value} {k : Nat} (J : Nat → (Str → Option Value) → List (Addr × Obj) → Prop) (hh : A.handled = none) (F : Fr h₀ env.locals s.heap m₀) (N : News h₀ env.locals s.heap news)
    (hsrc : ∀ i m' nw, J i m' nw → (l, listOf vs.toArray k) ∈ nw) (hj : J 0 m₀ news)
    (turn : ∀ i v m₁ news₁ h tk I oI, vs[i]? = some v → J i m₁ news₁ → (∀ p ∈ news₁, p.1 ≠ I) → (∀ p ∈ news, p.1 < I) → Fr h₀ env.locals h (fun y => if y = x then some v else m₁ y) → News h₀ env.locals h ((I, oI) :: news₁) →
      wpAny (model prog w) A (execs body env) (TurnPost h₀ env.locals (J (i + 1)) I oI { s with heap := h, toks := tk } Q) E { s with heap := h, toks := tk })
    (done : ∀ m' news' h tk, J vs.length m' news' → Fr h₀ env.locals h m' → News h₀ env.locals h news' → Q .next { s with heap := h, toks := tk }) :
    wpAny (model prog w) A (pyIter (.ref l)) (fun it s₂ => LoopAtV prog w A h₀ env x body Q E it s₂) E s := by
  have hm := hsrc _ _ _ hj
  have hls : s.heap.IsList l vs.toArray := News.isList N hm
  refine wpAny_pyIter_list hls ?_
  have hlt : l < s.heap.objs.size := Heap.lt_size (N _ hm).1
  have W := Walks.list (prog := prog) (w := w) hh s.heap.objs.size l (Nat.ne_of_lt hlt) vs.toArray
  refine loop_any (s := { s with heap := _ }) (src := [(l, listOf vs.toArray k)]) J W (fun i h st => by obtain ⟨o, e, _⟩ := st.1; exact ⟨o, e⟩) (fun i m' nw hJ q hq => by rw [List.mem_singleton.mp hq]; exact hsrc i m' nw hJ)
    (Nat.ne_of_lt F.ns.lt) (next_is_new F) (fun p hp => Nat.ne_of_lt (Heap.lt_size (N p hp).1)) ⟨⟨_, Heap.get?_push_size _ rfl, rfl, rfl⟩, hls.at fun o e => Heap.get?_push_of_some _ e⟩ (F.push _) (fun p hp => ⟨Heap.get?_push_of_some _ (N p hp).1, (N p hp).2⟩) hj
    (fun i v m₁ news₁ h tk oI _ hP hJ off F₁ N₁ => turn i v m₁ news₁ h tk _ oI (by simpa using hP) hJ off (fun p hp => Heap.lt_size (N p hp).1) F₁ N₁) (fun m' news' h tk hJ _ F' N' => done m' news' h tk (by simpa using hJ) F' N')
end

end
section
theorem said_p_trem : True := by
  k_with "call type:type" => (k_here; (fail_if_success (fail_if_success (have := (by with_reducible assumption : Mk 141)))); k_dflt (refine' kto_own ?zyI ?_; (case zyI => (refine' inst_T ?zyNN ?zyh1 ?zyh2; (case zyNN => k_asm); (case zyh1 => k_mem); (case zyh2 => k_mem))); k_whole))
  trivial
theorem inst_T {h₀ h : Heap} {L x d : Addr} {vs : List Value} {o : Obj} {news : List (Addr × Obj)} (N : News h₀ L h news) (h1 : (x, tupObj d vs) ∈ news) (h2 : (d, o) ∈ news) : InstAt h x (tupObj d vs) 132 (some o) := ⟨(N _ h1).1, rfl, rfl, (N _ h2).1⟩
section
variable {w : World} {p : Program} {loose : List Str} {mean : ExcName → Option Value} {mg mb : Str → Option Value} {dp un : Nat} {gd : Option (List Code)} {cn : Str} {cs : Scope} {a : Addr} {ccd : Value} {cl : List (Str × Addr)} {outer : List Env} {A₀ : Around} {base h₀ : Heap} {L : Addr} {m : Str → Option Value} {s : Shared} {Q E : Value → Shared → Prop}
  (B : Below A₀ base outer h₀) (F : Fr h₀ L s.heap m) (KX : (Mine.hd1.heap_39 w.params).In h₀) (T : Top p loose mean mg mb h₀) (hk : cs.kind = .function)
include B F KX T hk

theorem trem_spec {news : List (Addr × Obj)} {x d : Addr} {q : Value} {i : Int} {r : Tok} (N : News h₀ L s.heap news) (hx : (x, tupObj d [q, .int i r]) ∈ news) (hd1 : (d, emptyDict) ∈ news) (hd : dp ≤ 860) (hu : un ≤ 8600)
    (ret : ∀ h' tk', Fr h₀ L h' m → News h₀ L h' news → Q (.int i r) { s with heap := h', toks := tk' }) :
    wpAny (model PySem.Challenge.rw_ji0060_02.row.prog w) (ktrTop dp un gd cn cs L a ccd cl outer) (call (.ref 43) [.ref 127, .ref x, .ref 132]) Q E s := by
  have mkp : Mk 141 := trivial
  refine lower ?_ hd hu
  revert KX; k_fill; intro KX
  refine wpAny_call ?_
  walk_at "m enter"
  k_steps
  exact ret _ _ (by assumption) (by assumption)
end

end

theorem said_trem : True := by
  k_with "getAttr ref" => (k_here; (with_reducible show wpAny _ _ (getAttr (Value.ref _) (Str.ofString "remaining") _) _ _ _); k_dflt (refine' get_descr ?zygF ?zygX ?zygI ?zyga ?zyg2 ?zyg3 ?zygb ?zygc ?zygd ?zyge ?_; (case zygF => k_asm); (case zygX => k_asm); (case zygI => (refine' inst_T ?zyNN ?zyh1 ?zyh2; (case zyNN => k_asm); (case zyh1 => k_mem); (case zyh2 => k_mem))); (case zyga => k_is); (case zyg2 => k_is); (case zyg3 => k_is); (case zygb => k_is); (case zygc => k_is); (case zygd => k_is); (case zyge => k_is)); k_dflt (refine' trem_spec ?zyB ?zyF ?zyX ?zyT ?zyk ?zyN ?zyhx ?zyh1 ?zyd ?zyu ?_; (case zyB => k_asm); (case zyF => k_asm); (case zyX => k_asm); (case zyT => k_asm); (case zyk => first | exact rfl | assumption); (case zyN => k_asm); (case zyhx => k_mem); (case zyh1 => k_mem); (case zyd => exact Nat.le_of_ble_eq_true rfl); (case zyu => exact Nat.le_of_ble_eq_true rfl); k_whole); (intro h' tk' F' N'; refine handed_on rfl ?_; (try dsimp only at N'); (try dsimp only); (try k_sweep)))
  trivial
section
theorem pin2 {m n : Str → Option Value} {x : Str} {v : Value} (e : m = n) (h : m x = some v) : m = fun y => if y = x then some v else n y := by
  subst e
  funext y
  by_cases q : y = x
  · subst q; simp [h]
  · simp [q]
theorem pinE {m : Str → Option Value} {x : Str} {v u : Int} {t : Tok} (h : m x = some (.int v t)) (e : u = v) : m x = some (.int u t) := by subst e; exact h
/-- the table of code of a method that makes a lambda -/
noncomputable def Tab588 (news : List (Addr × Obj)) (ps : Array Value) : Prop :=
  ps = #[] ∨ ∃ c' oc vs t, ps = #[rawInt 414, rawInt 64, .ref c'] ∧ (c', oc) ∈ news ∧ oc.data = .fields vs ∧ vs[1]? = some (.str (Str.ofString "MemoryStorage.expire_events" ++ ".<locals>." ++ Str.ofString "<lambda>") t)
theorem Tab588.sub {news news' : List (Addr × Obj)} {ps : Array Value} (h : Tab588 news ps) (hs : ∀ q ∈ news, q ∈ news') : Tab588 news' ps := by
  rcases h with rfl | ⟨c', oc, vs, t, e, a, r⟩
  · exact .inl rfl
  · exact .inr ⟨c', oc, vs, t, e, hs _ a, r⟩
/-- all keys whose time is over are out -/
noncomputable def purge {α : Type} (x : Str → Option Int) (t : Int) (f : Str → Option α) : Str → Option α := fun k => match x k with | some y => if y ≤ t then none else f k | none => f k

end
section
noncomputable def Held (P : Prop) : Prop := P
theorem Held.out {P : Prop} (h : Held P) : P := h
theorem Held.in {P : Prop} (h : P) : Held P := h
theorem heldW {α : Type} {M : Model} {A : Around} {t : Sem α} {Q : α → Shared → Prop} {E : Value → Shared → Prop} {s : Shared} (h : Held (wpAny M A t Q E s)) : wpAny M A t Q E s := h
theorem heldI {α : Type} {M : Model} {A : Around} {t : Sem α} {Q : α → Shared → Prop} {E : Value → Shared → Prop} {s : Shared} (h : wpAny M A t Q E s) : Held (wpAny M A t Q E s) := h
/-- how a statement may end that is walked apart -/
noncomputable def CutPost (h₀ : Heap) (L : Addr) (s : Shared) (P : (Str → Option Value) → List (Addr × Obj) → Prop) : Flow → Shared → Prop
  | .next, s' => ∃ h' tk m' nw', s' = { s with heap := h', toks := tk } ∧ Fr h₀ L h' m' ∧ News h₀ L h' nw' ∧ P m' nw'
  | _, _ => False
end
section
theorem said_p_bis : True := by
  k_with "exec While" => (k_here; (fail_if_success (fail_if_success (have := (by with_reducible assumption : Mk 148)))); refine Held.out ?_)
  k_with "exec While Compare" => (k_here; (fail_if_success (fail_if_success (have := (by with_reducible assumption : Mk 148)))); refine Held.out ?_)
  k_with "call ref" => (k_here; (fail_if_success (fail_if_success (have := (by with_reducible assumption : Mk 148)))); (with_reducible show wpAny _ _ (call (Value.ref _) [_]) _ _ _); k_dflt (refine' KeyFn.use ?zyC ?zyB ?zyF ?zyX ?zyT ?zyk ?zyN ?zyhv ?zyd ?zyu ?_; (case zyC => assumption); (case zyB => k_asm); (case zyF => k_asm); (case zyX => k_asm); (case zyT => k_asm); (case zyk => first | exact rfl | assumption); (case zyN => k_asm); (case zyhv => with_reducible assumption); (case zyd => exact Nat.le_of_ble_eq_true rfl); (case zyu => exact Nat.le_of_ble_eq_true rfl); k_whole); (intro r' h' tk' F' N'; (try dsimp only); (try k_sweep)))
  k_with "call builtin:len" => (k_here; (fail_if_success (fail_if_success (have := (by with_reducible assumption : Mk 148)))); k_dflt (refine' len_listN ?zyN ?zyl ?zyn ?_; (case zyN => k_asm); (case zyl => k_mem); (case zyn => with_reducible assumption); k_whole); (intro r' tk'; (try dsimp only)))
  trivial
/-- where a binary search ends, as its questions are answered -/
noncomputable def bisGo (p : Nat → Bool) : Nat → Nat → Nat → Nat
  | 0, lo, _ => lo
  | fuel + 1, lo, hi => if lo < hi then (if p ((lo + hi) / 2) = true then bisGo p fuel ((lo + hi) / 2 + 1) hi else bisGo p fuel lo ((lo + hi) / 2)) else lo
noncomputable def bisF (p : Nat → Bool) (n : Nat) : Nat := bisGo p n 0 n
theorem mid_ge {lo hi : Nat} (h : lo < hi) : lo ≤ (lo + hi) / 2 := by omega
theorem mid_lt {lo hi : Nat} (h : lo < hi) : (lo + hi) / 2 < hi := by omega
theorem sub_l {m hi lo f : Nat} (h1 : lo ≤ m) (h2 : hi - lo ≤ f + 1) : hi - (m + 1) ≤ f := by omega
theorem sub_r {m hi lo f : Nat} (h1 : m < hi) (h2 : hi - lo ≤ f + 1) : m - lo ≤ f := by omega
theorem dec_l {m hi lo : Nat} (h1 : lo ≤ m) (h2 : m < hi) : hi - (m + 1) < hi - lo := by omega
theorem dec_r {m hi lo : Nat} (h1 : lo ≤ m) (h2 : m < hi) : m - lo < hi - lo := by omega
theorem mid_c (lo hi : Nat) : (↑lo + ↑hi : Int).fdiv 2 = (((lo + hi) / 2 : Nat) : Int) := by
  rw [Int.fdiv_eq_ediv_of_nonneg _ (by decide)]; exact (Int.natCast_ediv (lo + hi) 2).symm
theorem bisGo_fuel (p : Nat → Bool) : ∀ (f g lo hi : Nat), hi - lo ≤ f → hi - lo ≤ g → bisGo p f lo hi = bisGo p g lo hi
  | 0, 0, _, _, _, _ => rfl
  | 0, g + 1, lo, hi, h, _ => by
    unfold bisGo; rw [if_neg (by omega)]
  | f + 1, 0, lo, hi, _, h => by
    conv => lhs; unfold bisGo
    rw [if_neg (by omega)]
    unfold bisGo; rfl
  | f + 1, g + 1, lo, hi, h1, h2 => by
    unfold bisGo
    by_cases hlt : lo < hi
    · rw [if_pos hlt, if_pos hlt]
      rw [bisGo_fuel p f g _ hi (sub_l (mid_ge hlt) h1) (sub_l (mid_ge hlt) h2), bisGo_fuel p f g lo _ (sub_r (mid_lt hlt) h1) (sub_r (mid_lt hlt) h2)]
    · rw [if_neg hlt, if_neg hlt]
theorem bisGo_left {p : Nat → Bool} {lo hi : Nat} (h : lo < hi) (hp : p ((lo + hi) / 2) = true) : bisGo p (hi - lo) lo hi = bisGo p (hi - ((lo + hi) / 2 + 1)) ((lo + hi) / 2 + 1) hi := by
  obtain ⟨n, e⟩ : ∃ n, hi - lo = n + 1 := ⟨hi - lo - 1, (Nat.sub_add_cancel (Nat.sub_pos_of_lt h)).symm⟩
  rw [e]
  conv => lhs; unfold bisGo
  rw [if_pos h, if_pos hp]
  exact bisGo_fuel p _ _ _ _ (sub_l (mid_ge h) (Nat.le_of_eq e)) (Nat.le_refl _)
theorem bisGo_right {p : Nat → Bool} {lo hi : Nat} (h : lo < hi) (hp : ¬ p ((lo + hi) / 2) = true) : bisGo p (hi - lo) lo hi = bisGo p ((lo + hi) / 2 - lo) lo ((lo + hi) / 2) := by
  obtain ⟨n, e⟩ : ∃ n, hi - lo = n + 1 := ⟨hi - lo - 1, (Nat.sub_add_cancel (Nat.sub_pos_of_lt h)).symm⟩
  rw [e]
  conv => lhs; unfold bisGo
  rw [if_pos h, if_neg hp]
  exact bisGo_fuel p _ _ _ _ (sub_r (mid_lt h) (Nat.le_of_eq e)) (Nat.le_refl _)
theorem bisGo_end {p : Nat → Bool} {lo hi f : Nat} (h : ¬ lo < hi) : bisGo p f lo hi = lo := by
  cases f with
  | zero => rfl
  | succ n => unfold bisGo; rw [if_neg h]
theorem bisGo_le (p : Nat → Bool) : ∀ (f lo hi : Nat), lo ≤ hi → bisGo p f lo hi ≤ hi
  | 0, _, _, h => h
  | f + 1, lo, hi, h => by
    unfold bisGo
    split
    · split
      · exact bisGo_le p f _ hi (by omega)
      · exact Nat.le_trans (bisGo_le p f lo _ (by omega)) (by omega)
    · exact h
theorem bisF_le (p : Nat → Bool) (n : Nat) : bisF p n ≤ n := bisGo_le p n 0 n (Nat.zero_le _)
/-- called with the rows of a list, a key function tells their keys and turns nothing -/
noncomputable def KeyFn (w : World) (news : List (Addr × Obj)) (fn : Addr) (vs : List Value) (ks : Nat → Int) : Prop :=
  ∀ (p : Program) (loose : List Str) (mean : ExcName → Option Value) (mg mb : Str → Option Value) (gd : Option (List Code)) (cn : Str) (cs : Scope) (a : Addr) (ccd : Value) (cl : List (Str × Addr)) (outer : List Env) (A₀ : Around) (base h₀ : Heap) (L : Addr) (m : Str → Option Value) (s : Shared) (Q E : Value → Shared → Prop) (i : Nat) (v : Value),
    Below A₀ base outer h₀ → Fr h₀ L s.heap m → (Mine.hd1.heap_39 w.params).In h₀ → Top p loose mean mg mb h₀ → cs.kind = .function → News h₀ L s.heap news → vs[i]? = some v →
    (∀ r h' tk', Fr h₀ L h' m → News h₀ L h' news → Q (.int (ks i) r) { s with heap := h', toks := tk' }) →
    wpAny (model PySem.Challenge.rw_ji0060_02.row.prog w) (ktrTop 880 8800 gd cn cs L a ccd cl outer) (call (.ref fn) [v]) Q E s
theorem KeyFn.use {w : World} {news : List (Addr × Obj)} {fn : Addr} {vs : List Value} {ks : Nat → Int} (C : KeyFn w news fn vs ks) {p : Program} {loose : List Str} {mean : ExcName → Option Value} {mg mb : Str → Option Value} {dp un : Nat} {gd : Option (List Code)} {cn : Str} {cs : Scope} {a : Addr} {ccd : Value} {cl : List (Str × Addr)} {outer : List Env} {A₀ : Around} {base h₀ : Heap} {L : Addr} {m : Str → Option Value} {s : Shared} {Q E : Value → Shared → Prop} {i : Nat} {v : Value}
    (B : Below A₀ base outer h₀) (F : Fr h₀ L s.heap m) (X : (Mine.hd1.heap_39 w.params).In h₀) (T : Top p loose mean mg mb h₀) (hk : cs.kind = .function) (N : News h₀ L s.heap news) (hv : vs[i]? = some v) (hd : dp ≤ 880) (hu : un ≤ 8800)
    (ret : ∀ r h' tk', Fr h₀ L h' m → News h₀ L h' news → Q (.int (ks i) r) { s with heap := h', toks := tk' }) :
    wpAny (model PySem.Challenge.rw_ji0060_02.row.prog w) (ktrTop dp un gd cn cs L a ccd cl outer) (call (.ref fn) [v]) Q E s :=
  lower (C p loose mean mg mb gd cn cs a ccd cl outer A₀ base h₀ L m s Q E i v B F X T hk N hv ret) hd hu
theorem len_listN {prog : Program} {w : World} {A : Around} {E : Value → Shared → Prop} {s : Shared} {h₀ : Heap} {L l : Addr} {k : Nat} {vs : List Value} {news : List (Addr × Obj)} {Q : Value → Shared → Prop} (N : News h₀ L s.heap news) (hl : (l, listOf vs.toArray k) ∈ news) (hn : vs.length ≤ 1000000)
    (h : ∀ t tk, Q (.int vs.length t) { s with toks := tk }) : wpAny (model prog w) A (call (.builtin "len") [.ref l]) Q E s := by
  refine Calls.call_len_list (items := vs.toArray) (News.isList N hl) (by simp; omega) ?_
  rw [List.size_toArray]
  exact h _ _
section
variable {w : World} {p : Program} {loose : List Str} {mean : ExcName → Option Value} {mg mb : Str → Option Value} {dp un : Nat} {gd : Option (List Code)} {cn : Str} {cs : Scope} {a : Addr} {ccd : Value} {cl : List (Str × Addr)} {outer : List Env} {A₀ : Around} {base h₀ : Heap} {L : Addr} {m : Str → Option Value} {s : Shared} {Q E : Value → Shared → Prop}
  (B : Below A₀ base outer h₀) (F : Fr h₀ L s.heap m) (KX : (Mine.hd1.heap_39 w.params).In h₀) (T : Top p loose mean mg mb h₀) (hk : cs.kind = .function)
include B F KX T hk

end
noncomputable def bis_spec_St (w : World) (p : Program) (loose : List Str) (mean : ExcName → Option Value) (mg : Str → Option Value) (mb : Str → Option Value) (dp : Nat) (un : Nat) (gd : Option (List Code)) (cn : Str) (cs : Scope) (a : Addr) (ccd : Value) (cl : List (Str × Addr)) (outer : List Env) (A₀ : Around) (base : Heap) (h₀ : Heap) (L : Addr) (m : Str → Option Value) (s : Shared) (Q : Value → Shared → Prop) (E : Value → Shared → Prop) (news : List (Addr × Obj)) (l : Addr) (fn : Addr) (vs : List Value) (k : Nat) (x : Int) (tx : Tok) (ks : Nat → Int) (oc : Value) (od : Option Addr) (fd : FuncData) (sl : Array (Option Value)) : Prop := ∀ (B : Below A₀ base outer h₀) (F : Fr h₀ L s.heap m) (KX : (Mine.hd1.heap_39 w.params).In h₀) (T : Top p loose mean mg mb h₀) (hk : cs.kind = .function) (N : News h₀ L s.heap news) (hl : (l, listOf vs.toArray k) ∈ news) (hf : (fn, (⟨oc, od, .func fd, sl⟩ : Obj)) ∈ news) (KF : KeyFn w news fn vs ks) (hn : vs.length ≤ 1000000) (hd : dp ≤ 860) (hu : un ≤ 8600) (retH : ∀ r h' tk', Fr h₀ L h' m → News h₀ L h' news → Q (.int (bisF (fun i => decide (ks i < x)) vs.length : Nat) r) { s with heap := h', toks := tk' }), wpAny (model PySem.Challenge.rw_ji0060_02.row.prog w) (ktrTop dp un gd cn cs L a ccd cl outer) (call (.ref 551) [.ref l, .int x tx] [(Str.ofString "key", .ref fn)]) Q E s
namespace c_bis_spec
noncomputable def zcv : (World) × (Program) × (List Str) × (ExcName → Option Value) × (Str → Option Value) × (Str → Option Value) × (Nat) × (Nat) × (Option (List Code)) × (Str) × (Scope) × (Addr) × (Value) × (List (Str × Addr)) × (List Env) × (Around) × (Heap) × (Heap) × (Addr) × (Str → Option Value) × (Shared) × (Value → Shared → Prop) × (Value → Shared → Prop) × (List (Addr × Obj)) × (Addr) × (Addr) × (List Value) × (Nat) × (Int) × (Tok) × (Nat → Int) × (Value) × (Option Addr) × (FuncData) × (Array (Option Value)) := pick (neP neW (neP inferInstance (neP inferInstance (neP inferInstance (neP inferInstance (neP inferInstance (neP inferInstance (neP inferInstance (neP inferInstance (neP inferInstance (neP inferInstance (neP inferInstance (neP inferInstance (neP inferInstance (neP inferInstance (neP neA (neP inferInstance (neP inferInstance (neP inferInstance (neP inferInstance (neP neS (neP inferInstance (neP inferInstance (neP inferInstance (neP inferInstance (neP inferInstance (neP inferInstance (neP inferInstance (neP inferInstance (neP inferInstance (neP inferInstance (neP inferInstance (neP inferInstance (neP inferInstance inferInstance)))))))))))))))))))))))))))))))))) (fun v : (World) × (Program) × (List Str) × (ExcName → Option Value) × (Str → Option Value) × (Str → Option Value) × (Nat) × (Nat) × (Option (List Code)) × (Str) × (Scope) × (Addr) × (Value) × (List (Str × Addr)) × (List Env) × (Around) × (Heap) × (Heap) × (Addr) × (Str → Option Value) × (Shared) × (Value → Shared → Prop) × (Value → Shared → Prop) × (List (Addr × Obj)) × (Addr) × (Addr) × (List Value) × (Nat) × (Int) × (Tok) × (Nat → Int) × (Value) × (Option Addr) × (FuncData) × (Array (Option Value)) => bis_spec_St (v.1) (v.2.1) (v.2.2.1) (v.2.2.2.1) (v.2.2.2.2.1) (v.2.2.2.2.2.1) (v.2.2.2.2.2.2.1) (v.2.2.2.2.2.2.2.1) (v.2.2.2.2.2.2.2.2.1) (v.2.2.2.2.2.2.2.2.2.1) (v.2.2.2.2.2.2.2.2.2.2.1) (v.2.2.2.2.2.2.2.2.2.2.2.1) (v.2.2.2.2.2.2.2.2.2.2.2.2.1) (v.2.2.2.2.2.2.2.2.2.2.2.2.2.1) (v.2.2.2.2.2.2.2.2.2.2.2.2.2.2.1) (v.2.2.2.2.2.2.2.2.2.2.2.2.2.2.2.1) (v.2.2.2.2.2.2.2.2.2.2.2.2.2.2.2.2.1) (v.2.2.2.2.2.2.2.2.2.2.2.2.2.2.2.2.2.1) (v.2.2.2.2.2.2.2.2.2.2.2.2.2.2.2.2.2.2.1) (v.2.2.2.2.2.2.2.2.2.2.2.2.2.2.2.2.2.2.2.1) (v.2.2.2.2.2.2.2.2.2.2.2.2.2.2.2.2.2.2.2.2.1) (v.2.2.2.2.2.2.2.2.2.2.2.2.2.2.2.2.2.2.2.2.2.1) (v.2.2.2.2.2.2.2.2.2.2.2.2.2.2.2.2.2.2.2.2.2.2.1) (v.2.2.2.2.2.2.2.2.2.2.2.2.2.2.2.2.2.2.2.2.2.2.2.1) (v.2.2.2.2.2.2.2.2.2.2.2.2.2.2.2.2.2.2.2.2.2.2.2.2.1) (v.2.2.2.2.2.2.2.2.2.2.2.2.2.2.2.2.2.2.2.2.2.2.2.2.2.1) (v.2.2.2.2.2.2.2.2.2.2.2.2.2.2.2.2.2.2.2.2.2.2.2.2.2.2.1) (v.2.2.2.2.2.2.2.2.2.2.2.2.2.2.2.2.2.2.2.2.2.2.2.2.2.2.2.1) (v.2.2.2.2.2.2.2.2.2.2.2.2.2.2.2.2.2.2.2.2.2.2.2.2.2.2.2.2.1) (v.2.2.2.2.2.2.2.2.2.2.2.2.2.2.2.2.2.2.2.2.2.2.2.2.2.2.2.2.2.1) (v.2.2.2.2.2.2.2.2.2.2.2.2.2.2.2.2.2.2.2.2.2.2.2.2.2.2.2.2.2.2.1) (v.2.2.2.2.2.2.2.2.2.2.2.2.2.2.2.2.2.2.2.2.2.2.2.2.2.2.2.2.2.2.2.1) (v.2.2.2.2.2.2.2.2.2.2.2.2.2.2.2.2.2.2.2.2.2.2.2.2.2.2.2.2.2.2.2.2.1) (v.2.2.2.2.2.2.2.2.2.2.2.2.2.2.2.2.2.2.2.2.2.2.2.2.2.2.2.2.2.2.2.2.2.1) (v.2.2.2.2.2.2.2.2.2.2.2.2.2.2.2.2.2.2.2.2.2.2.2.2.2.2.2.2.2.2.2.2.2.2)) 0
theorem zal (h : bis_spec_St (zcv.1) (zcv.2.1) (zcv.2.2.1) (zcv.2.2.2.1) (zcv.2.2.2.2.1) (zcv.2.2.2.2.2.1) (zcv.2.2.2.2.2.2.1) (zcv.2.2.2.2.2.2.2.1) (zcv.2.2.2.2.2.2.2.2.1) (zcv.2.2.2.2.2.2.2.2.2.1) (zcv.2.2.2.2.2.2.2.2.2.2.1) (zcv.2.2.2.2.2.2.2.2.2.2.2.1) (zcv.2.2.2.2.2.2.2.2.2.2.2.2.1) (zcv.2.2.2.2.2.2.2.2.2.2.2.2.2.1) (zcv.2.2.2.2.2.2.2.2.2.2.2.2.2.2.1) (zcv.2.2.2.2.2.2.2.2.2.2.2.2.2.2.2.1) (zcv.2.2.2.2.2.2.2.2.2.2.2.2.2.2.2.2.1) (zcv.2.2.2.2.2.2.2.2.2.2.2.2.2.2.2.2.2.1) (zcv.2.2.2.2.2.2.2.2.2.2.2.2.2.2.2.2.2.2.1) (zcv.2.2.2.2.2.2.2.2.2.2.2.2.2.2.2.2.2.2.2.1) (zcv.2.2.2.2.2.2.2.2.2.2.2.2.2.2.2.2.2.2.2.2.1) (zcv.2.2.2.2.2.2.2.2.2.2.2.2.2.2.2.2.2.2.2.2.2.1) (zcv.2.2.2.2.2.2.2.2.2.2.2.2.2.2.2.2.2.2.2.2.2.2.1) (zcv.2.2.2.2.2.2.2.2.2.2.2.2.2.2.2.2.2.2.2.2.2.2.2.1) (zcv.2.2.2.2.2.2.2.2.2.2.2.2.2.2.2.2.2.2.2.2.2.2.2.2.1) (zcv.2.2.2.2.2.2.2.2.2.2.2.2.2.2.2.2.2.2.2.2.2.2.2.2.2.1) (zcv.2.2.2.2.2.2.2.2.2.2.2.2.2.2.2.2.2.2.2.2.2.2.2.2.2.2.1) (zcv.2.2.2.2.2.2.2.2.2.2.2.2.2.2.2.2.2.2.2.2.2.2.2.2.2.2.2.1) (zcv.2.2.2.2.2.2.2.2.2.2.2.2.2.2.2.2.2.2.2.2.2.2.2.2.2.2.2.2.1) (zcv.2.2.2.2.2.2.2.2.2.2.2.2.2.2.2.2.2.2.2.2.2.2.2.2.2.2.2.2.2.1) (zcv.2.2.2.2.2.2.2.2.2.2.2.2.2.2.2.2.2.2.2.2.2.2.2.2.2.2.2.2.2.2.1) (zcv.2.2.2.2.2.2.2.2.2.2.2.2.2.2.2.2.2.2.2.2.2.2.2.2.2.2.2.2.2.2.2.1) (zcv.2.2.2.2.2.2.2.2.2.2.2.2.2.2.2.2.2.2.2.2.2.2.2.2.2.2.2.2.2.2.2.2.1) (zcv.2.2.2.2.2.2.2.2.2.2.2.2.2.2.2.2.2.2.2.2.2.2.2.2.2.2.2.2.2.2.2.2.2.1) (zcv.2.2.2.2.2.2.2.2.2.2.2.2.2.2.2.2.2.2.2.2.2.2.2.2.2.2.2.2.2.2.2.2.2.2)) : ∀ u : (World) × (Program) × (List Str) × (ExcName → Option Value) × (Str → Option Value) × (Str → Option Value) × (Nat) × (Nat) × (Option (List Code)) × (Str) × (Scope) × (Addr) × (Value) × (List (Str × Addr)) × (List Env) × (Around) × (Heap) × (Heap) × (Addr) × (Str → Option Value) × (Shared) × (Value → Shared → Prop) × (Value → Shared → Prop) × (List (Addr × Obj)) × (Addr) × (Addr) × (List Value) × (Nat) × (Int) × (Tok) × (Nat → Int) × (Value) × (Option Addr) × (FuncData) × (Array (Option Value)), bis_spec_St (u.1) (u.2.1) (u.2.2.1) (u.2.2.2.1) (u.2.2.2.2.1) (u.2.2.2.2.2.1) (u.2.2.2.2.2.2.1) (u.2.2.2.2.2.2.2.1) (u.2.2.2.2.2.2.2.2.1) (u.2.2.2.2.2.2.2.2.2.1) (u.2.2.2.2.2.2.2.2.2.2.1) (u.2.2.2.2.2.2.2.2.2.2.2.1) (u.2.2.2.2.2.2.2.2.2.2.2.2.1) (u.2.2.2.2.2.2.2.2.2.2.2.2.2.1) (u.2.2.2.2.2.2.2.2.2.2.2.2.2.2.1) (u.2.2.2.2.2.2.2.2.2.2.2.2.2.2.2.1) (u.2.2.2.2.2.2.2.2.2.2.2.2.2.2.2.2.1) (u.2.2.2.2.2.2.2.2.2.2.2.2.2.2.2.2.2.1) (u.2.2.2.2.2.2.2.2.2.2.2.2.2.2.2.2.2.2.1) (u.2.2.2.2.2.2.2.2.2.2.2.2.2.2.2.2.2.2.2.1) (u.2.2.2.2.2.2.2.2.2.2.2.2.2.2.2.2.2.2.2.2.1) (u.2.2.2.2.2.2.2.2.2.2.2.2.2.2.2.2.2.2.2.2.2.1) (u.2.2.2.2.2.2.2.2.2.2.2.2.2.2.2.2.2.2.2.2.2.2.1) (u.2.2.2.2.2.2.2.2.2.2.2.2.2.2.2.2.2.2.2.2.2.2.2.1) (u.2.2.2.2.2.2.2.2.2.2.2.2.2.2.2.2.2.2.2.2.2.2.2.2.1) (u.2.2.2.2.2.2.2.2.2.2.2.2.2.2.2.2.2.2.2.2.2.2.2.2.2.1) (u.2.2.2.2.2.2.2.2.2.2.2.2.2.2.2.2.2.2.2.2.2.2.2.2.2.2.1) (u.2.2.2.2.2.2.2.2.2.2.2.2.2.2.2.2.2.2.2.2.2.2.2.2.2.2.2.1) (u.2.2.2.2.2.2.2.2.2.2.2.2.2.2.2.2.2.2.2.2.2.2.2.2.2.2.2.2.1) (u.2.2.2.2.2.2.2.2.2.2.2.2.2.2.2.2.2.2.2.2.2.2.2.2.2.2.2.2.2.1) (u.2.2.2.2.2.2.2.2.2.2.2.2.2.2.2.2.2.2.2.2.2.2.2.2.2.2.2.2.2.2.1) (u.2.2.2.2.2.2.2.2.2.2.2.2.2.2.2.2.2.2.2.2.2.2.2.2.2.2.2.2.2.2.2.1) (u.2.2.2.2.2.2.2.2.2.2.2.2.2.2.2.2.2.2.2.2.2.2.2.2.2.2.2.2.2.2.2.2.1) (u.2.2.2.2.2.2.2.2.2.2.2.2.2.2.2.2.2.2.2.2.2.2.2.2.2.2.2.2.2.2.2.2.2.1) (u.2.2.2.2.2.2.2.2.2.2.2.2.2.2.2.2.2.2.2.2.2.2.2.2.2.2.2.2.2.2.2.2.2.2) := pick_all (P := fun v : (World) × (Program) × (List Str) × (ExcName → Option Value) × (Str → Option Value) × (Str → Option Value) × (Nat) × (Nat) × (Option (List Code)) × (Str) × (Scope) × (Addr) × (Value) × (List (Str × Addr)) × (List Env) × (Around) × (Heap) × (Heap) × (Addr) × (Str → Option Value) × (Shared) × (Value → Shared → Prop) × (Value → Shared → Prop) × (List (Addr × Obj)) × (Addr) × (Addr) × (List Value) × (Nat) × (Int) × (Tok) × (Nat → Int) × (Value) × (Option Addr) × (FuncData) × (Array (Option Value)) => bis_spec_St (v.1) (v.2.1) (v.2.2.1) (v.2.2.2.1) (v.2.2.2.2.1) (v.2.2.2.2.2.1) (v.2.2.2.2.2.2.1) (v.2.2.2.2.2.2.2.1) (v.2.2.2.2.2.2.2.2.1) (v.2.2.2.2.2.2.2.2.2.1) (v.2.2.2.2.2.2.2.2.2.2.1) (v.2.2.2.2.2.2.2.2.2.2.2.1) (v.2.2.2.2.2.2.2.2.2.2.2.2.1) (v.2.2.2.2.2.2.2.2.2.2.2.2.2.1) (v.2.2.2.2.2.2.2.2.2.2.2.2.2.2.1) (v.2.2.2.2.2.2.2.2.2.2.2.2.2.2.2.1) (v.2.2.2.2.2.2.2.2.2.2.2.2.2.2.2.2.1) (v.2.2.2.2.2.2.2.2.2.2.2.2.2.2.2.2.2.1) (v.2.2.2.2.2.2.2.2.2.2.2.2.2.2.2.2.2.2.1) (v.2.2.2.2.2.2.2.2.2.2.2.2.2.2.2.2.2.2.2.1) (v.2.2.2.2.2.2.2.2.2.2.2.2.2.2.2.2.2.2.2.2.1) (v.2.2.2.2.2.2.2.2.2.2.2.2.2.2.2.2.2.2.2.2.2.1) (v.2.2.2.2.2.2.2.2.2.2.2.2.2.2.2.2.2.2.2.2.2.2.1) (v.2.2.2.2.2.2.2.2.2.2.2.2.2.2.2.2.2.2.2.2.2.2.2.1) (v.2.2.2.2.2.2.2.2.2.2.2.2.2.2.2.2.2.2.2.2.2.2.2.2.1) (v.2.2.2.2.2.2.2.2.2.2.2.2.2.2.2.2.2.2.2.2.2.2.2.2.2.1) (v.2.2.2.2.2.2.2.2.2.2.2.2.2.2.2.2.2.2.2.2.2.2.2.2.2.2.1) (v.2.2.2.2.2.2.2.2.2.2.2.2.2.2.2.2.2.2.2.2.2.2.2.2.2.2.2.1) (v.2.2.2.2.2.2.2.2.2.2.2.2.2.2.2.2.2.2.2.2.2.2.2.2.2.2.2.2.1) (v.2.2.2.2.2.2.2.2.2.2.2.2.2.2.2.2.2.2.2.2.2.2.2.2.2.2.2.2.2.1) (v.2.2.2.2.2.2.2.2.2.2.2.2.2.2.2.2.2.2.2.2.2.2.2.2.2.2.2.2.2.2.1) (v.2.2.2.2.2.2.2.2.2.2.2.2.2.2.2.2.2.2.2.2.2.2.2.2.2.2.2.2.2.2.2.1) (v.2.2.2.2.2.2.2.2.2.2.2.2.2.2.2.2.2.2.2.2.2.2.2.2.2.2.2.2.2.2.2.2.1) (v.2.2.2.2.2.2.2.2.2.2.2.2.2.2.2.2.2.2.2.2.2.2.2.2.2.2.2.2.2.2.2.2.2.1) (v.2.2.2.2.2.2.2.2.2.2.2.2.2.2.2.2.2.2.2.2.2.2.2.2.2.2.2.2.2.2.2.2.2.2)) h
noncomputable def w : World := zcv.1
noncomputable def p : Program := zcv.2.1
noncomputable def loose : List Str := zcv.2.2.1
noncomputable def mean : ExcName → Option Value := zcv.2.2.2.1
noncomputable def mg : Str → Option Value := zcv.2.2.2.2.1
noncomputable def mb : Str → Option Value := zcv.2.2.2.2.2.1
noncomputable def dp : Nat := zcv.2.2.2.2.2.2.1
noncomputable def un : Nat := zcv.2.2.2.2.2.2.2.1
noncomputable def gd : Option (List Code) := zcv.2.2.2.2.2.2.2.2.1
noncomputable def cn : Str := zcv.2.2.2.2.2.2.2.2.2.1
noncomputable def cs : Scope := zcv.2.2.2.2.2.2.2.2.2.2.1
noncomputable def a : Addr := zcv.2.2.2.2.2.2.2.2.2.2.2.1
noncomputable def ccd : Value := zcv.2.2.2.2.2.2.2.2.2.2.2.2.1
noncomputable def cl : List (Str × Addr) := zcv.2.2.2.2.2.2.2.2.2.2.2.2.2.1
noncomputable def outer : List Env := zcv.2.2.2.2.2.2.2.2.2.2.2.2.2.2.1
noncomputable def A₀ : Around := zcv.2.2.2.2.2.2.2.2.2.2.2.2.2.2.2.1
noncomputable def base : Heap := zcv.2.2.2.2.2.2.2.2.2.2.2.2.2.2.2.2.1
noncomputable def h₀ : Heap := zcv.2.2.2.2.2.2.2.2.2.2.2.2.2.2.2.2.2.1
noncomputable def L : Addr := zcv.2.2.2.2.2.2.2.2.2.2.2.2.2.2.2.2.2.2.1
noncomputable def m : Str → Option Value := zcv.2.2.2.2.2.2.2.2.2.2.2.2.2.2.2.2.2.2.2.1
noncomputable def s : Shared := zcv.2.2.2.2.2.2.2.2.2.2.2.2.2.2.2.2.2.2.2.2.1
noncomputable def Q : Value → Shared → Prop := zcv.2.2.2.2.2.2.2.2.2.2.2.2.2.2.2.2.2.2.2.2.2.1
noncomputable def E : Value → Shared → Prop := zcv.2.2.2.2.2.2.2.2.2.2.2.2.2.2.2.2.2.2.2.2.2.2.1
noncomputable def news : List (Addr × Obj) := zcv.2.2.2.2.2.2.2.2.2.2.2.2.2.2.2.2.2.2.2.2.2.2.2.1
noncomputable def l : Addr := zcv.2.2.2.2.2.2.2.2.2.2.2.2.2.2.2.2.2.2.2.2.2.2.2.2.1
noncomputable def fn : Addr := zcv.2.2.2.2.2.2.2.2.2.2.2.2.2.2.2.2.2.2.2.2.2.2.2.2.2.1
noncomputable def vs : List Value := zcv.2.2.2.2.2.2.2.2.2.2.2.2.2.2.2.2.2.2.2.2.2.2.2.2.2.2.1
noncomputable def k : Nat := zcv.2.2.2.2.2.2.2.2.2.2.2.2.2.2.2.2.2.2.2.2.2.2.2.2.2.2.2.1
noncomputable def x : Int := zcv.2.2.2.2.2.2.2.2.2.2.2.2.2.2.2.2.2.2.2.2.2.2.2.2.2.2.2.2.1
noncomputable def tx : Tok := zcv.2.2.2.2.2.2.2.2.2.2.2.2.2.2.2.2.2.2.2.2.2.2.2.2.2.2.2.2.2.1
noncomputable def ks : Nat → Int := zcv.2.2.2.2.2.2.2.2.2.2.2.2.2.2.2.2.2.2.2.2.2.2.2.2.2.2.2.2.2.2.1
noncomputable def oc : Value := zcv.2.2.2.2.2.2.2.2.2.2.2.2.2.2.2.2.2.2.2.2.2.2.2.2.2.2.2.2.2.2.2.1
noncomputable def od : Option Addr := zcv.2.2.2.2.2.2.2.2.2.2.2.2.2.2.2.2.2.2.2.2.2.2.2.2.2.2.2.2.2.2.2.2.1
noncomputable def fd : FuncData := zcv.2.2.2.2.2.2.2.2.2.2.2.2.2.2.2.2.2.2.2.2.2.2.2.2.2.2.2.2.2.2.2.2.2.1
noncomputable def sl : Array (Option Value) := zcv.2.2.2.2.2.2.2.2.2.2.2.2.2.2.2.2.2.2.2.2.2.2.2.2.2.2.2.2.2.2.2.2.2.2
theorem walk1 : bis_spec_St w p loose mean mg mb dp un gd cn cs a ccd cl outer A₀ base h₀ L m s Q E news l fn vs k x tx ks oc od fd sl := by
  intro B F KX T hk N hl hf KF hn hd hu retH
  have mkp : Mk 148 := trivial
  refine lower ?_ hd hu
  revert KX; k_fill; intro KX
  refine wpAny_call ?_
  walk_at "m enter"
  k_steps
  refine Held.in ?_
  refine While_inv2 (hE := ?hE) (fun n m' nw => nw = news ∧ ∃ lo hi : Nat, ∃ tl th, m' (Str.ofString "rows") = some (.ref l) ∧ m' (Str.ofString "x") = some (.int x tx) ∧ m' (Str.ofString "key") = some (.ref fn) ∧ m' (Str.ofString "lo") = some (.int lo tl) ∧ m' (Str.ofString "hi") = some (.int hi th) ∧ lo ≤ hi ∧ hi ≤ vs.length ∧ bisGo (fun i => decide (ks i < x)) (hi - lo) lo hi = bisF (fun i => decide (ks i < x)) vs.length ∧ n = hi - lo) (by k_asm) (by k_asm) ⟨rfl, 0, vs.length, _, _, rfl, rfl, rfl, pinE rfl rfl, pinE rfl (by first | rfl | simp), Nat.zero_le _, Nat.le_refl _, rfl, rfl⟩ ?_
  case hE => passes_own
  rintro n m₁ news₁ h₁ tk₁ F₁ N₁ ⟨rfl, lo, hi, tl, th, p1, p2, p3, p4, p5, hle, hhi, hb, rfl⟩
  have em := pin2 (pin2 (pin2 (pin2 (pin2 (Eq.refl m₁) p1) p2) p3) p4) p5
  rw [em] at F₁
  clear em p1 p2 p3 p4 p5
  by_cases hlt : lo < hi
  · have g1 := mid_ge hlt
    have g2 := mid_lt hlt
    have g3 : (lo + hi) / 2 < vs.length := Nat.lt_of_lt_of_le g2 hhi
    have c0 := mid_c lo hi
    have hm : ((↑lo + ↑hi : Int).fdiv 2).toNat = (lo + hi) / 2 := by rw [c0]; exact Int.toNat_natCast _
    have hm0 : 0 ≤ (↑lo + ↑hi : Int).fdiv 2 ∧ (↑lo + ↑hi : Int).fdiv 2 < ↑hi := by rw [c0]; exact ⟨Int.natCast_nonneg _, Int.ofNat_lt.mpr g2⟩
    obtain ⟨v, hv⟩ : ∃ v, vs[((↑lo + ↑hi : Int).fdiv 2).toNat]? = some v := ⟨_, List.getElem?_eq_getElem (hm.symm ▸ g3)⟩
    have c1 : ((((lo + hi) / 2 + 1 : Nat)) : Int) = (↑lo + ↑hi : Int).fdiv 2 + 1 := by rw [c0]; rfl
    have c2 : ((((lo + hi) / 2 : Nat)) : Int) = (↑lo + ↑hi : Int).fdiv 2 := c0.symm
    k_steps
    · refine ⟨_, _, _, _, _, rfl, by assumption, by assumption, ?_, rfl, (lo + hi) / 2 + 1, hi, _, _, rfl, rfl, rfl, pinE rfl c1, rfl, g2, hhi, ?_, rfl⟩
      · exact dec_l g1 g2
      · rw [← hb]; exact (bisGo_left hlt (decide_eq_true (by rw [← hm]; assumption))).symm
    · refine ⟨_, _, _, _, _, rfl, by assumption, by assumption, ?_, rfl, lo, (lo + hi) / 2, _, _, rfl, rfl, rfl, rfl, pinE rfl c2, g1, Nat.le_of_lt g3, ?_, rfl⟩
      · exact dec_r g1 g2
      · rw [← hb]
        refine (bisGo_right hlt ?_).symm
        rw [decide_eq_true_eq, ← hm]
        exact by assumption
  · k_steps
    rw [show lo = bisF (fun i => decide (ks i < x)) vs.length by rw [← hb, bisGo_end hlt]]
    exact retH _ _ _ (by assumption) (by assumption)
end c_bis_spec
theorem bis_spec {w : World} {p : Program} {loose : List Str} {mean : ExcName → Option Value} {mg : Str → Option Value} {mb : Str → Option Value} {dp : Nat} {un : Nat} {gd : Option (List Code)} {cn : Str} {cs : Scope} {a : Addr} {ccd : Value} {cl : List (Str × Addr)} {outer : List Env} {A₀ : Around} {base : Heap} {h₀ : Heap} {L : Addr} {m : Str → Option Value} {s : Shared} {Q : Value → Shared → Prop} {E : Value → Shared → Prop} (B : Below A₀ base outer h₀) (F : Fr h₀ L s.heap m) (KX : (Mine.hd1.heap_39 w.params).In h₀) (T : Top p loose mean mg mb h₀) (hk : cs.kind = .function) {news : List (Addr × Obj)} {l : Addr} {fn : Addr} {vs : List Value} {k : Nat} {x : Int} {tx : Tok} {ks : Nat → Int} {oc : Value} {od : Option Addr} {fd : FuncData} {sl : Array (Option Value)} (N : News h₀ L s.heap news) (hl : (l, listOf vs.toArray k) ∈ news) (hf : (fn, (⟨oc, od, .func fd, sl⟩ : Obj)) ∈ news) (KF : KeyFn w news fn vs ks) (hn : vs.length ≤ 1000000) (hd : dp ≤ 860) (hu : un ≤ 8600) (retH : ∀ r h' tk', Fr h₀ L h' m → News h₀ L h' news → Q (.int (bisF (fun i => decide (ks i < x)) vs.length : Nat) r) { s with heap := h', toks := tk' }) :
    wpAny (model PySem.Challenge.rw_ji0060_02.row.prog w) (ktrTop dp un gd cn cs L a ccd cl outer) (call (.ref 551) [.ref l, .int x tx] [(Str.ofString "key", .ref fn)]) Q E s :=
  c_bis_spec.zal c_bis_spec.walk1 (w, p, loose, mean, mg, mb, dp, un, gd, cn, cs, a, ccd, cl, outer, A₀, base, h₀, L, m, s, Q, E, news, l, fn, vs, k, x, tx, ks, oc, od, fd, sl) B F KX T hk N hl hf KF hn hd hu retH
section
variable {w : World} {p : Program} {loose : List Str} {mean : ExcName → Option Value} {mg mb : Str → Option Value} {dp un : Nat} {gd : Option (List Code)} {cn : Str} {cs : Scope} {a : Addr} {ccd : Value} {cl : List (Str × Addr)} {outer : List Env} {A₀ : Around} {base h₀ : Heap} {L : Addr} {m : Str → Option Value} {s : Shared} {Q E : Value → Shared → Prop}
  (B : Below A₀ base outer h₀) (F : Fr h₀ L s.heap m) (KX : (Mine.hd1.heap_39 w.params).In h₀) (T : Top p loose mean mg mb h₀) (hk : cs.kind = .function)
include B F KX T hk
end

end
section
section
variable {prog : Program} {w : World} {α : Type} {P : Value → α → Prop} {A : Around} {E : Value → Shared → Prop} {s : Shared} {h₀ : Heap} {L d r : Addr} {m : Str → Option Value} {news : List (Addr × Obj)} {g : Obj → List (Addr × Obj)} {o : Obj} {f : Str → Option α} {n : Nat} {k : Str} {tk : Tok}
noncomputable abbrev viewObj (d : Addr) : Obj := { cls := .type "dict_keys", data := .fields #[.ref d] }
theorem dv_view {Q : Value → Shared → Prop} (F : Fr h₀ L s.heap m) (N : News h₀ L s.heap news) (hp : (d, o) ∈ news) (hd : DictV prog w P o f n) (lo : (d == sysModules) = false)
    (h : ∀ D h', Fr h₀ L h' m → News h₀ L h' ((D, viewObj d) :: news) → (∀ q ∈ news, q.1 < D) → Q (.ref D) { s with heap := h' }) : wpAny (model prog w) A (call (.builtin "dict.keys") [.ref d]) Q E s := by
  obtain ⟨kvs, hd, _, _⟩ := hd
  exact kdl_view_keys F N hp hd lo h
theorem va_isSome {K : Type} [DecidableEq K] (kvs : List (K × Value)) (k : K) : k ∈ kvs.map (·.1) ↔ (valueAt kvs k).isSome = true := by
  unfold valueAt
  rw [Option.isSome_map, List.find?_isSome, List.mem_map]
  constructor
  · rintro ⟨q, hq, rfl⟩; exact ⟨q, hq, by simp⟩
  · rintro ⟨q, hq, e⟩; exact ⟨q, hq, by simpa using e⟩
theorem dv_list {Q : Value → Shared → Prop} (hh : A.handled = none) (F : Fr h₀ L s.heap m) (N : News h₀ L s.heap news) (hr : (r, viewObj d) ∈ news) (hp : (d, o) ∈ news) (hd : DictV prog w P o f n) (hz : n ≤ 16777216)
    (h : ∀ D c h' tk vs (ks : List Str), Fr h₀ L h' m → News h₀ L h' ((D, listOf (List.toArray vs) c) :: news) → (∀ q ∈ news, q.1 < D) → ks.Nodup → vs.length = ks.length → (∀ (j : Nat) v, vs[j]? = some v → ∃ k t, ks[j]? = some k ∧ v = .str k t) → (∀ k : Str, k ∈ ks ↔ (f k).isSome = true) → ks.length ≤ n → Q (.ref D) { s with heap := h', toks := tk }) :
    wpAny (model prog w) A (call (.type "list") [.ref r]) Q E s := by
  obtain ⟨kvs, hd, hn, hf⟩ := hd
  obtain ⟨ep, hat⟩ := (kda_dict N hp hd).dictAt
  refine kdl_N (kdl_keys (knd := PySem.strKind prog w) (kvs := kvs) (ep := ep)) hh F N ⟨⟨_, (N _ hr).1, rfl, rfl⟩, hat⟩ (kdl_size (Nat.le_trans hn hz)) fun B c h' tk vs F' N' l1 hl hv => ?_
  refine h B c h' tk vs (kvs.map (·.1)) F' N' l1 (keysNodup_of_isDictOf hd) (by rw [hl, List.length_map]) (fun j v e => ?_) (fun k => ?_) (by rw [List.length_map]; exact hn)
  · obtain ⟨k, x, hx, hk⟩ := hv j v e
    obtain ⟨t, rfl⟩ := Value.isStrOf_shape hk
    exact ⟨k, t, by rw [List.getElem?_map, hx]; rfl, rfl⟩
  · rw [va_isSome]
    have := hf k
    cases h1 : valueAt kvs k <;> cases h2 : f k <;> rw [h1, h2] at this <;> first | exact this.elim | simp
theorem dv_set_at {v : Value} {x y : α} {Q : Unit → Shared → Prop} (F : Fr h₀ L s.heap m) (N : News h₀ L s.heap news) (U : UpdF d o news g) (hd : DictV prog w P o f n) (hz : n ≤ sizeLine) (hy : f k = some y) (hx : P v x)
    (h : ∀ h' o', Fr h₀ L h' m → News h₀ L h' (g o') → DictV prog w P o' (upd f k (some x)) n → Q () { s with heap := h', toks := s.toks + 1 }) :
    wpAny (model prog w) A (setItem (.ref d) (.str k tk) v) Q E s := by
  obtain ⟨kvs, hd, hn, hf⟩ := hd
  have hk : (valueAt kvs k).isSome = true := by
    have := hf k
    rw [hy] at this
    cases h1 : valueAt kvs k with
    | none => rw [h1] at this; exact this.elim
    | some _ => rfl
  refine kda_set (knd := PySem.strKind _ _) F N U hd (strKind_is _ _ _ _) (Nat.le_trans hn hz) fun h' o' F' N' hd' => ?_
  refine h h' o' F' N' ⟨_, hd', ?_, fun j => ?_⟩
  · unfold stored
    rw [if_pos ?_, List.length_map]
    · exact hn
    · obtain ⟨q, hq, e⟩ := List.mem_map.mp ((va_isSome kvs k).mpr hk)
      exact List.any_eq_true.mpr ⟨q, hq, by simpa using e⟩
  rw [va_stored]
  unfold upd
  split
  · exact hx
  · exact hf j
end
theorem rv_get {prog : Program} {w : World} {A : Around} {E : Value → Shared → Prop} {s : Shared} {h₀ : Heap} {L d l : Addr} {news : List (Addr × Obj)} {o : Obj} {f : Str → Option Addr} {n : Nat} {k : Str} {tk : Tok} {dflt : Value} {Q : Value → Shared → Prop} (N : News h₀ L s.heap news) (hp : (d, o) ∈ news) (hd : RefD prog w o f n) (lo : (d == sysModules) = false) (hk : f k = some l)
    (h : Q (.ref l) { s with toks := s.toks + 1 }) : wpAny (model prog w) A (call (.builtin "dict.get") [.ref d, .str k tk, dflt]) Q E s := by
  refine dv_get N hp hd lo fun v h1 _ => ?_
  rw [show v = .ref l from h1 _ hk]
  exact h
theorem slice_to {vs : List Value} {n : Nat} (h : n ≤ vs.length) : kms_pick vs none (some (n : Int)) = vs.take n := by
  have e : ¬ ((n : Int) < 0) := by omega
  simp [kms_pick, kms_lo, kms_hi, e, Nat.min_eq_left h]
/-- keys of the first i whose time is over are out -/
noncomputable def purgeL {α : Type} (x : Str → Option Int) (t : Int) (ks : List Str) (f : Str → Option α) : Str → Option α := fun k => if k ∈ ks ∧ (x k).getD 0 ≤ t then none else f k
theorem purgeL_nil {α : Type} (x : Str → Option Int) (t : Int) (f : Str → Option α) : purgeL x t [] f = f := by
  funext k; unfold purgeL; rw [if_neg (by simp)]
theorem purgeL_step {α : Type} (x : Str → Option Int) (t : Int) (ks : List Str) (k : Str) (f : Str → Option α) (h : (x k).getD 0 ≤ t) : purgeL x t (ks ++ [k]) f = upd (purgeL x t ks f) k none := by
  funext j
  unfold purgeL upd
  by_cases e : j = k
  · subst e; simp [h]
  · simp [e]
theorem purgeL_skip {α : Type} (x : Str → Option Int) (t : Int) (ks : List Str) (k : Str) (f : Str → Option α) (h : ¬ (x k).getD 0 ≤ t) : purgeL x t (ks ++ [k]) f = purgeL x t ks f := by
  funext j
  unfold purgeL
  by_cases e : j = k
  · subst e; simp [h]
  · simp [e]
theorem purgeL_all {α : Type} (x : Str → Option Int) (t : Int) (ks : List Str) (f : Str → Option α) (h : ∀ k : Str, k ∈ ks ↔ (x k).isSome = true) : purgeL x t ks f = purge x t f := by
  funext k
  unfold purgeL purge
  cases hx : x k with
  | none => rw [if_neg]; rintro ⟨q, _⟩; rw [h k, hx] at q; cases q
  | some y =>
    have hk : k ∈ ks := (h k).mpr (by rw [hx]; rfl)
    by_cases c : y ≤ t
    · rw [if_pos ⟨hk, by simpa using c⟩]; simp [c]
    · rw [if_neg (fun q => c (by simpa using q.2))]; simp [c]

end
section
section
variable {prog : Program} {w : World} {A : Around} {E : Value → Shared → Prop} {Q : Flow → Shared → Prop} {s : Shared} {h₀ : Heap} {env : Env} {body : List Stmt} {m₀ : Str → Option Value} {news : List (Addr × Obj)} {r : Addr} {a₀ b₀ c : Int} {t₀ u₀ v₀ : Tok} {n : Nat}
/-- a range gone through, the loop's target one local name -/
theorem iter_range {x : Str} (J : Nat → (Str → Option Value) → List (Addr × Obj) → Prop) (hh : A.handled = none) (hr : IsRange s.heap r a₀ b₀ c t₀ u₀ v₀) (hsmall : Builtin.Range.small a₀ b₀ c = true) (hn : Builtin.Range.rangeSize a₀ b₀ c = (n : Int))
    (F : Fr h₀ env.locals s.heap m₀) (N : News h₀ env.locals s.heap news) (hj : J 0 m₀ news)
    (turn : ∀ i t m₁ news₁ h tk I oI, i < n → J i m₁ news₁ → (∀ p ∈ news₁, p.1 ≠ I) → (∀ p ∈ news, @LT.lt Nat _ p.1 I) → Fr h₀ env.locals h (fun y => if y = x then some (.int (a₀ + (i : Int) * c) t) else m₁ y) → News h₀ env.locals h ((I, oI) :: news₁) →
      wpAny (model prog w) A (execs body env) (TurnPost h₀ env.locals (J (i + 1)) I oI { s with heap := h, toks := tk } Q) E { s with heap := h, toks := tk })
    (done : ∀ m' news' h tk, J n m' news' → Fr h₀ env.locals h m' → News h₀ env.locals h news' → Q .next { s with heap := h, toks := tk }) :
    wpAny (model prog w) A (pyIter (.ref r)) (fun it s₂ => LoopAtV prog w A h₀ env x body Q E it s₂) E s := by
  refine wpAny_pyIter_range hr hsmall ?_
  refine loop_any (s := { s with heap := _ }) (src := []) J (Walks.range hh s.heap.objs.size a₀ c n) (fun i h st => ⟨_, st⟩) (fun _ _ _ _ q hq => nomatch hq) (Nat.ne_of_lt F.ns.lt) (next_is_new F) (fun p hp => Nat.ne_of_lt (Heap.lt_size (N p hp).1))
    (by show IsRangeIter _ _ _ _ _; rw [hn]; simpa using Heap.get?_push_size _ rfl) (F.push _) (fun p hp => ⟨Heap.get?_push_of_some _ (N p hp).1, (N p hp).2⟩) hj
    (fun i v m₁ news₁ h tk oI hi hP hJ off F₁ N₁ => by obtain ⟨t, rfl⟩ := hP; exact turn i t m₁ news₁ h tk _ oI hi hJ off (fun p hp => Heap.lt_size (N p hp).1) F₁ N₁) (fun m' news' h tk hJ _ F' N' => done m' news' h tk hJ F' N')
end

end
section
section
variable {prog : Program} {w : World} {A : Around} {E : Value → Shared → Prop} {s : Shared} {h₀ : Heap} {L l : Addr} {m : Str → Option Value} {news : List (Addr × Obj)} {g : Obj → List (Addr × Obj)} {v : Value} {n : Nat} {u : Tok}
theorem one_item {value slice : PySem.Expr} {Q : Value → Shared → Prop} (N : News h₀ L s.heap news) (hl : (l, listOf #[v] n) ∈ news) (h : Q v s)
    (hs : subscripted slice false (.ref l) (.int 0 u) = operate [.ref l, .int 0 u] (getItem (.ref l) (.int 0 u)) := by with_unfolding_all rfl) : wpAny (model prog w) A (subscriptTail value slice (.ref l) (.int 0 u)) Q E s :=
  list_tail (News.isList N hl) (getItem_listL (l := [v]) (News.isList N hl) (Int.le_refl _) (by decide) rfl h) hs
theorem one_set {v' : Value} {Q : Unit → Shared → Prop} (F : Fr h₀ L s.heap m) (N : News h₀ L s.heap news) (U : UpdF l (listOf #[v] n) news g)
    (h : ∀ h', Fr h₀ L h' m → News h₀ L h' (g (listOf #[v'] n)) → Q () { s with heap := h' }) : wpAny (model prog w) A (setItem (.ref l) (.int 0 u) v') Q E s := by
  obtain ⟨pre, post, rfl, hg, a, b⟩ := U.split
  have z := N (l, listOf #[v] n) (List.mem_append.mpr (.inr (.head _)))
  refine ki_setAt z.1 (Int.le_refl _) (by decide) (by simp) (h _ (F.change (Heap.SameBut.update ..) z.2.1 z.2.2) ?_)
  rw [hg]
  exact ki_turn _ N a b rfl rfl
end
section
variable {h₀ h : Heap} {L : Addr}
theorem exp_order {a b c d e f : Addr × Obj} {rest : List (Addr × Obj)} (N : News h₀ L h (a :: b :: c :: d :: e :: f :: rest)) : News h₀ L h (c :: d :: e :: f :: a :: b :: rest) := fun q hq => by
  refine N q ?_
  simp only [List.mem_cons] at hq ⊢
  rcases hq with e | e | e | e | e | e | e
  · exact .inr (.inr (.inl e))
  · exact .inr (.inr (.inr (.inl e)))
  · exact .inr (.inr (.inr (.inr (.inl e))))
  · exact .inr (.inr (.inr (.inr (.inr (.inl e)))))
  · exact .inl e
  · exact .inr (.inl e)
  · exact .inr (.inr (.inr (.inr (.inr (.inr e)))))
theorem off1_mem {D : Addr} : ∀ {l : List (Addr × Obj)}, LCg.Off1 D l → ∀ p ∈ l, p.1 ≠ D
  | [], _, _, h => nomatch h
  | q :: r, x, p, h => by
    rcases List.mem_cons.mp h with e | h
    · subst e; exact x.1
    · exact off1_mem x.2 p h
theorem off_cons {b : Addr × Obj} {rest : List (Addr × Obj)} {S : Addr} (h : @Ne Nat b.1 S) (hr : ∀ q ∈ rest, q.1 ≠ S) : ∀ q ∈ b :: rest, q.1 ≠ S := fun q hq => by
  rcases List.mem_cons.mp hq with e | hq
  · subst e; exact h
  · exact hr q hq
theorem off_ext {ext rest led : List (Addr × Obj)} {S : Addr} {o : Obj} (h : ∀ p ∈ ext, ∀ q ∈ led, p.1 ≠ q.1) (hm : (S, o) ∈ led) (hr : ∀ q ∈ rest, q.1 ≠ S) : ∀ q ∈ rest ++ ext, q.1 ≠ S := fun q hq => by
  rcases List.mem_append.mp hq with hq | hq
  · exact hr q hq
  · exact h q hq _ hm
end

end
section
-- only 2
theorem said_p_exp : True := by
  k_with "m al" => first | assumption | exact And.right (by assumption) | exact And.right (And.right (by assumption)) | exact And.right (And.right (And.right (by assumption))) | exact And.right (And.right (And.right (And.right (by assumption)))) | exact And.right (And.right (And.right (And.right (And.right (by assumption))))) | exact And.right (And.right (And.right (And.right (And.right (And.right (by assumption)))))) | exact And.right (And.right (And.right (And.right (And.right (And.right (And.right (by assumption))))))) | exact And.right (And.right (And.right (And.right (And.right (And.right (And.right (And.right (by assumption))))))))
  k_with "truthy ref" => (k_here; (fail_if_success (fail_if_success (have := (by with_reducible assumption : Mk 155)))); k_dflt (first
      | (refine' truthy_nil ?zyN ?zyl ?_; (case zyN => k_asm); (case zyl => k_mem); k_whole)
      | (refine' truthy_cons ?zyN ?zyl ?zyn ?_; (case zyN => k_asm); (case zyl => k_mem); (case zyn => omega); k_whole)); (intro tk'; (try dsimp only)))
  k_with "getMethod ref" => (k_here; (fail_if_success (fail_if_success (have := (by with_reducible assumption : Mk 155)))); (with_reducible show wpAny _ _ (getMethod (Value.ref _) (Str.ofString "keys") _) _ _ _); k_dflt (refine dv_method PySem.F.slot_dict_keys PySem.F.type_dict_keys (by k_asm) (by k_mem) (by assumption) ?_))
  k_with "call builtin:dict.keys" => (k_here; (fail_if_success (fail_if_success (have := (by with_reducible assumption : Mk 155)))); k_dflt (refine' dv_view ?zyF ?zyN ?zyhp ?zyhd ?zylo ?_; (case zyF => k_asm); (case zyN => k_asm); (case zyhp => k_mem); (case zyhd => assumption); (case zylo => assumption); k_whole); (intro _ _ _ _ l1; (replace l1 := allLt_of l1); (have l2 := l1); (try dsimp only [AllLt] at l2); (try dsimp only); (try k_sweep)))
  k_with "call type:list" => (k_here; (fail_if_success (fail_if_success (have := (by with_reducible assumption : Mk 155)))); k_dflt (refine' dv_list ?zyhh ?zyF ?zyN ?zyhr ?zyhp ?zyhd ?zyhz ?_; (case zyhh => exact rfl); (case zyF => k_asm); (case zyN => k_asm); (case zyhr => k_mem); (case zyhp => k_mem); (case zyhd => assumption); (case zyhz => omega); k_whole); (intro _ _ _ _ _ _ _ _ l1 _ _ _ _ _; (replace l1 := allLt_of l1); (have l2 := l1); (try dsimp only [AllLt] at l2); (try dsimp only); (try k_sweep)))
  k_with "subscriptTail Name Slice ref ref" => (k_here; (fail_if_success (fail_if_success (have := (by with_reducible assumption : Mk 155)))); k_dflt (refine' kms_slice_lit ?zyF ?zyN ?zyl ?zyp ?zyq ?zye ?_ ?zys ?zyt ?zyz; (case zyF => k_asm); (case zyN => k_asm); (case zyl => exact News.isList (by assumption) (by k_mem)); (case zyp => kmk_part); (case zyq => kmk_part); (case zye => exact slice_to (by assumption)); (case zys => with_unfolding_all rfl); (case zyt => kmk_pure); (case zyz => assumption)); intro D' h' F' N' l1; (replace l1 := allLt_of l1); (have l2 := l1); (try dsimp only [AllLt] at l2); (try dsimp only); (try k_sweep))
  k_with "setItem ref str" => (k_here; (fail_if_success (fail_if_success (have := (by with_reducible assumption : Mk 155)))); k_dflt (refine' dv_set_at ?zyF ?zyN ?zyU ?zyhd ?zyhz ?zyhy ?zyhx ?_; (case zyF => k_asm); (case zyN => k_asm); (case zyU => k_updF); (case zyhd => assumption); (case zyhz => (rw [sizeLine_eq]; omega)); (case zyhy => assumption); (case zyhx => exact rfl); k_whole); (intro h' o' F' N' hd'; (try dsimp only at N'); (try dsimp only); (try k_sweep)))
  k_with "getItem ref str" => (k_here; (fail_if_success (fail_if_success (have := (by with_reducible assumption : Mk 155)))); k_dflt (refine' iv_getItem ?zyN ?zyhp ?zyhd ?zye ?_; (case zyN => k_asm); (case zyhp => k_mem); (case zyhd => assumption); (case zye => assumption); k_whole; intro t'); (try dsimp only))
  k_with "pyIter ref" => (k_here; (fail_if_success (fail_if_success (have := (by with_reducible assumption : Mk 155)))); refine Held.out ?_)
  k_with "call ref" => (k_here; (fail_if_success (fail_if_success (have := (by with_reducible assumption : Mk 155)))); (with_reducible show wpAny _ _ (call (Value.ref 551) _ _) _ _ _); refine Held.out ?_)
  k_with "call builtin:dict.get" => (k_here; (fail_if_success (fail_if_success (have := (by with_reducible assumption : Mk 155)))); k_dflt (refine' rv_get ?zyN ?zyhp ?zyhd ?zylo ?zyhk ?_; (case zyN => k_asm); (case zyhp => k_mem); (case zyhd => assumption); (case zylo => assumption); (case zyhk => assumption); k_whole); (try dsimp only))
  trivial
/-- what of a key's events is not over -/
noncomputable def cutE (t : Int) (ens : List (Int × Int)) : List (Int × Int) := ens.take (bisF (fun i => decide (-((ens[i]?).map (·.2)).getD 0 < -t)) ens.length)
noncomputable def prune (t : Int) (evs : Str → Option (List (Int × Int))) : Str → Option (List (Int × Int)) := fun k => (evs k).map (cutE t)
noncomputable def pruneL (t : Int) (ks : List Str) (evs : Str → Option (List (Int × Int))) : Str → Option (List (Int × Int)) := fun k => if k ∈ ks then (evs k).map (cutE t) else evs k
theorem not_take {ks : List Str} (gn : ks.Nodup) {i : Nat} {key : Str} (hks : ks[i]? = some key) : key ∉ ks.take i := fun hm => by
  obtain ⟨j, hj⟩ := List.getElem?_of_mem hm
  rw [List.getElem?_take] at hj
  split at hj
  · rename_i hlt
    have := (List.getElem?_inj (by exact (List.getElem?_eq_some_iff.mp hj).1) gn).mp (hj.trans hks.symm)
    omega
  · cases hj
theorem ents_nil {news : List (Addr × Obj)} {S X V : Addr} {ens : List (Int × Int)} (h : Ents news S X V [] ens) : ens = [] := by cases h; rfl
section
variable {ks : List Str} {i : Nat} {key : Str} {t : Int} {evs evs' : Str → Option (List (Int × Int))} {ens : List (Int × Int)}
theorem pruneL_step {n : Nat} (gn : ks.Nodup) (hks : ks[i]? = some key) (e : evs' = pruneL t (ks.take i) evs) (hen : evs' key = some ens) (hl : n = ens.length) :
    upd evs' key (some (ens.take (bisF (fun i => decide (-((ens[i]?).map (·.2)).getD 0 < -t)) n))) = pruneL t (ks.take (i + 1)) evs := by
  subst e hl
  have hni := not_take gn hks
  have htk : ks.take (i + 1) = ks.take i ++ [key] := by rw [List.take_add_one, hks]; rfl
  unfold pruneL at hen
  rw [if_neg hni] at hen
  funext j
  unfold upd pruneL
  rw [htk]
  by_cases hj : j = key
  · subst hj; rw [if_pos rfl, if_pos (by simp), hen]; rfl
  · simp [hj]
theorem pruneL_same (gn : ks.Nodup) (hks : ks[i]? = some key) (e : evs' = pruneL t (ks.take i) evs) (hen : evs' key = some []) : evs' = pruneL t (ks.take (i + 1)) evs := by
  rw [← pruneL_step gn hks e hen rfl]
  funext j
  unfold upd
  split
  · rename_i q; rw [q, hen]; rfl
  · rfl
theorem pruneL_all {n : Nat} (h : ∀ k : Str, k ∉ ks → evs k = none) (hl : ks.length ≤ n) : pruneL t (ks.take n) evs = prune t evs := by
  funext k
  unfold pruneL prune
  rw [List.take_of_length_le hl]
  by_cases hk : k ∈ ks
  · rw [if_pos hk]
  · rw [if_neg hk, h k hk]; rfl
end
theorem evk_none {ks : List Str} {news : List (Addr × Obj)} {S X V : Addr} {z : Nat} {ev : Str → Option Addr} {evs : Str → Option (List (Int × Int))} (hE : ∀ k, EvK news S X V z (ev k) (evs k)) (ki : ∀ k : Str, k ∈ ks ↔ (ev k).isSome = true) (k : Str) (hk : k ∉ ks) : evs k = none := by
  have q := hE k
  cases h1 : ev k with
  | some a => exact absurd ((ki k).mpr (by rw [h1]; rfl)) hk
  | none =>
    rw [h1] at q
    cases h2 : evs k with
    | none => rfl
    | some b => rw [h2] at q; exact q.elim
theorem exp_turn {g h : Heap} {L : Addr} {d f c l i a b v t : Addr × Obj} {R ext frz1 : List (Addr × Obj)} (NN : News g L h (d :: f :: c :: l :: i :: a :: b :: v :: t :: R)) (eR : R = ext ++ frz1) (hD : AllLt d.1 R) (hC : AllLt c.1 R) (ho : ∀ p ∈ ext, ∀ q ∈ frz1, p.1 ≠ q.1) :
    News g L h (i :: a :: b :: v :: t :: ((d :: c :: ext) ++ frz1)) ∧ (∀ p ∈ d :: c :: ext, ∀ q ∈ frz1, p.1 ≠ q.1) := by
  subst eR
  refine ⟨fun q hq => NN q ((?_ : ∀ q ∈ i :: a :: b :: v :: t :: d :: c :: (ext ++ frz1), q ∈ _) q hq), fun p hp q hq => ?_⟩
  · iterate 7 (refine subCons (by repeat (first | exact List.Mem.head _ | refine List.Mem.tail _ ?_)) ?_)
    exact fun q hq => .tail _ (.tail _ (.tail _ (.tail _ (.tail _ (.tail _ (.tail _ (.tail _ (.tail _ hq))))))))
  · rcases List.mem_cons.mp hp with rfl | hp
    · exact Nat.ne_of_gt (allLt_mem hD q (List.mem_append_right _ hq))
    rcases List.mem_cons.mp hp with rfl | hp
    · exact Nat.ne_of_gt (allLt_mem hC q (List.mem_append_right _ hq))
    · exact ho p hp q hq
theorem exp_turn2 {g h : Heap} {L : Addr} {d f l i a b v t : Addr × Obj} {R ext frz1 : List (Addr × Obj)} (NN : News g L h (d :: f :: l :: i :: a :: b :: v :: t :: R)) (eR : R = ext ++ frz1) (hD : AllLt d.1 R) (ho : ∀ p ∈ ext, ∀ q ∈ frz1, p.1 ≠ q.1) :
    News g L h (i :: a :: b :: v :: t :: ((d :: ext) ++ frz1)) ∧ (∀ p ∈ d :: ext, ∀ q ∈ frz1, p.1 ≠ q.1) := by
  subst eR
  refine ⟨fun q hq => NN q ((?_ : ∀ q ∈ i :: a :: b :: v :: t :: d :: (ext ++ frz1), q ∈ _) q hq), fun p hp q hq => ?_⟩
  · iterate 6 (refine subCons (by repeat (first | exact List.Mem.head _ | refine List.Mem.tail _ ?_)) ?_)
    exact fun q hq => .tail _ (.tail _ (.tail _ (.tail _ (.tail _ (.tail _ (.tail _ (.tail _ hq)))))))
  · rcases List.mem_cons.mp hp with rfl | hp
    · exact Nat.ne_of_gt (allLt_mem hD q (List.mem_append_right _ hq))
    · exact ho p hp q hq
section
variable {prog : Program} {w : World} {A : Around} {E : Value → Shared → Prop} {s : Shared} {h₀ : Heap} {L l : Addr} {k : Nat} {news : List (Addr × Obj)} {Q : Bool → Shared → Prop}
theorem truthy_nil (N : News h₀ L s.heap news) (hl : (l, listOf (List.toArray []) k) ∈ news) (h : ∀ tk, Q false { s with toks := tk }) : wpAny (model prog w) A (truthy (.ref l)) Q E s :=
  wpAny_truthy_list (News.isList N hl) (by decide) (h _)
theorem truthy_cons {u : Value} {us : List Value} (N : News h₀ L s.heap news) (hl : (l, listOf (List.toArray (u :: us)) k) ∈ news) (hn : (u :: us).length ≤ 1000000) (h : ∀ tk, Q true { s with toks := tk }) : wpAny (model prog w) A (truthy (.ref l)) Q E s :=
  wpAny_truthy_list (News.isList N hl) (by rw [List.size_toArray]; omega) (by
    have e : (!(List.toArray (u :: us)).isEmpty) = true := by simp
    rw [e]; exact h _)
end
section
variable {w : World} {p : Program} {loose : List Str} {mean : ExcName → Option Value} {mg mb : Str → Option Value} {dp un : Nat} {gd : Option (List Code)} {cn : Str} {cs : Scope} {a : Addr} {ccd : Value} {cl : List (Str × Addr)} {outer : List Env} {A₀ : Around} {base h₀ : Heap} {L : Addr} {m : Str → Option Value} {s : Shared} {Q E : Value → Shared → Prop}
  (B : Below A₀ base outer h₀) (F : Fr h₀ L s.heap m) (KX : (Mine.hd1.heap_39 w.params).In h₀) (T : Top p loose mean mg mb h₀) (hk : cs.kind = .function)
include B F KX T hk

end
noncomputable def exp_spec_St (w : World) (p : Program) (loose : List Str) (mean : ExcName → Option Value) (mg : Str → Option Value) (mb : Str → Option Value) (dp : Nat) (un : Nat) (gd : Option (List Code)) (cn : Str) (cs : Scope) (a : Addr) (ccd : Value) (cl : List (Str × Addr)) (outer : List Env) (A₀ : Around) (base : Heap) (h₀ : Heap) (L : Addr) (m : Str → Option Value) (s : Shared) (Q : Value → Shared → Prop) (E : Value → Shared → Prop) (frz : List (Addr × Obj)) (evl : List (Addr × Obj)) (oS : Obj) (oX : Obj) (oV : Obj) (ps : Array Value) (f : Str → Option Int) (x : Str → Option Int) (evs : Str → Option (List (Int × Int))) (nS : Nat) (nX : Nat) (nV : Nat) (z : Nat) (st : Addr) (S : Addr) (X : Addr) (V : Addr) (clk : Addr) (t : Int) : Prop := ∀ (B : Below A₀ base outer h₀) (F : Fr h₀ L s.heap m) (KX : (Mine.hd1.heap_39 w.params).In h₀) (T : Top p loose mean mg mb h₀) (hk : cs.kind = .function) (CD : CodeHd base 592 588) (N : News h₀ L s.heap ((S, oS) :: (X, oX) :: (V, oV) :: (588, tabObj ps) :: frz)) (O : Store w frz st S X V clk t) (n1 : ∀ q ∈ frz, q.1 ≠ S) (n2 : ∀ q ∈ frz, q.1 ≠ X) (n3 : ∀ q ∈ frz, q.1 ≠ V) (n4 : ∀ q ∈ frz, q.1 ≠ 588) (d4 : @LT.lt Nat _ 588 S) (hS : IntD PySem.Challenge.rw_ji0060_02.row.prog w oS f nS) (hX : IntD PySem.Challenge.rw_ji0060_02.row.prog w oX x nX) (hevl : ∀ q ∈ evl, q ∈ frz) (hV : EvD PySem.Challenge.rw_ji0060_02.row.prog w evl S X V oV evs nV z) (TB : Tab588 evl ps) (zS : nS ≤ 1000000) (zX : nX ≤ 1000000) (zV : nV ≤ 1000000) (zz : z ≤ 1000000) (ht0 : 0 ≤ t) (ht : t < 1000000000000) (hd : dp ≤ 840) (hu : un ≤ 8400) (retH : ∀ ext oS' oX' oV' ps' h' tk', Fr h₀ L h' m → News h₀ L h' ((S, oS') :: (X, oX') :: (V, oV') :: (588, tabObj ps') :: (ext ++ frz)) → (∀ p ∈ ext, p.1 ≠ S ∧ p.1 ≠ X ∧ p.1 ≠ V ∧ p.1 ≠ 588) → (∀ p ∈ ext, ∀ q ∈ frz, p.1 ≠ q.1) → IntD PySem.Challenge.rw_ji0060_02.row.prog w oS' (purge x t f) nS → IntD PySem.Challenge.rw_ji0060_02.row.prog w oX' (purge x t x) nX → EvD PySem.Challenge.rw_ji0060_02.row.prog w (ext ++ evl) S X V oV' (prune t evs) nV z → Tab588 (ext ++ evl) ps' → Q .none { s with heap := h', toks := tk' }), wpAny (model PySem.Challenge.rw_ji0060_02.row.prog w) (ktrTop dp un gd cn cs L a ccd cl outer) (call (.ref 593) [.ref st]) Q E s
namespace c_exp_spec
noncomputable def zcv : (World) × (Program) × (List Str) × (ExcName → Option Value) × (Str → Option Value) × (Str → Option Value) × (Nat) × (Nat) × (Option (List Code)) × (Str) × (Scope) × (Addr) × (Value) × (List (Str × Addr)) × (List Env) × (Around) × (Heap) × (Heap) × (Addr) × (Str → Option Value) × (Shared) × (Value → Shared → Prop) × (Value → Shared → Prop) × (List (Addr × Obj)) × (List (Addr × Obj)) × (Obj) × (Obj) × (Obj) × (Array Value) × (Str → Option Int) × (Str → Option Int) × (Str → Option (List (Int × Int))) × (Nat) × (Nat) × (Nat) × (Nat) × (Addr) × (Addr) × (Addr) × (Addr) × (Addr) × (Int) := pick (neP neW (neP inferInstance (neP inferInstance (neP inferInstance (neP inferInstance (neP inferInstance (neP inferInstance (neP inferInstance (neP inferInstance (neP inferInstance (neP inferInstance (neP inferInstance (neP inferInstance (neP inferInstance (neP inferInstance (neP neA (neP inferInstance (neP inferInstance (neP inferInstance (neP inferInstance (neP neS (neP inferInstance (neP inferInstance (neP inferInstance (neP inferInstance (neP inferInstance (neP inferInstance (neP inferInstance (neP inferInstance (neP inferInstance (neP inferInstance (neP inferInstance (neP inferInstance (neP inferInstance (neP inferInstance (neP inferInstance (neP inferInstance (neP inferInstance (neP inferInstance (neP inferInstance (neP inferInstance inferInstance))))))))))))))))))))))))))))))))))))))))) (fun v : (World) × (Program) × (List Str) × (ExcName → Option Value) × (Str → Option Value) × (Str → Option Value) × (Nat) × (Nat) × (Option (List Code)) × (Str) × (Scope) × (Addr) × (Value) × (List (Str × Addr)) × (List Env) × (Around) × (Heap) × (Heap) × (Addr) × (Str → Option Value) × (Shared) × (Value → Shared → Prop) × (Value → Shared → Prop) × (List (Addr × Obj)) × (List (Addr × Obj)) × (Obj) × (Obj) × (Obj) × (Array Value) × (Str → Option Int) × (Str → Option Int) × (Str → Option (List (Int × Int))) × (Nat) × (Nat) × (Nat) × (Nat) × (Addr) × (Addr) × (Addr) × (Addr) × (Addr) × (Int) => exp_spec_St (v.1) (v.2.1) (v.2.2.1) (v.2.2.2.1) (v.2.2.2.2.1) (v.2.2.2.2.2.1) (v.2.2.2.2.2.2.1) (v.2.2.2.2.2.2.2.1) (v.2.2.2.2.2.2.2.2.1) (v.2.2.2.2.2.2.2.2.2.1) (v.2.2.2.2.2.2.2.2.2.2.1) (v.2.2.2.2.2.2.2.2.2.2.2.1) (v.2.2.2.2.2.2.2.2.2.2.2.2.1) (v.2.2.2.2.2.2.2.2.2.2.2.2.2.1) (v.2.2.2.2.2.2.2.2.2.2.2.2.2.2.1) (v.2.2.2.2.2.2.2.2.2.2.2.2.2.2.2.1) (v.2.2.2.2.2.2.2.2.2.2.2.2.2.2.2.2.1) (v.2.2.2.2.2.2.2.2.2.2.2.2.2.2.2.2.2.1) (v.2.2.2.2.2.2.2.2.2.2.2.2.2.2.2.2.2.2.1) (v.2.2.2.2.2.2.2.2.2.2.2.2.2.2.2.2.2.2.2.1) (v.2.2.2.2.2.2.2.2.2.2.2.2.2.2.2.2.2.2.2.2.1) (v.2.2.2.2.2.2.2.2.2.2.2.2.2.2.2.2.2.2.2.2.2.1) (v.2.2.2.2.2.2.2.2.2.2.2.2.2.2.2.2.2.2.2.2.2.2.1) (v.2.2.2.2.2.2.2.2.2.2.2.2.2.2.2.2.2.2.2.2.2.2.2.1) (v.2.2.2.2.2.2.2.2.2.2.2.2.2.2.2.2.2.2.2.2.2.2.2.2.1) (v.2.2.2.2.2.2.2.2.2.2.2.2.2.2.2.2.2.2.2.2.2.2.2.2.2.1) (v.2.2.2.2.2.2.2.2.2.2.2.2.2.2.2.2.2.2.2.2.2.2.2.2.2.2.1) (v.2.2.2.2.2.2.2.2.2.2.2.2.2.2.2.2.2.2.2.2.2.2.2.2.2.2.2.1) (v.2.2.2.2.2.2.2.2.2.2.2.2.2.2.2.2.2.2.2.2.2.2.2.2.2.2.2.2.1) (v.2.2.2.2.2.2.2.2.2.2.2.2.2.2.2.2.2.2.2.2.2.2.2.2.2.2.2.2.2.1) (v.2.2.2.2.2.2.2.2.2.2.2.2.2.2.2.2.2.2.2.2.2.2.2.2.2.2.2.2.2.2.1) (v.2.2.2.2.2.2.2.2.2.2.2.2.2.2.2.2.2.2.2.2.2.2.2.2.2.2.2.2.2.2.2.1) (v.2.2.2.2.2.2.2.2.2.2.2.2.2.2.2.2.2.2.2.2.2.2.2.2.2.2.2.2.2.2.2.2.1) (v.2.2.2.2.2.2.2.2.2.2.2.2.2.2.2.2.2.2.2.2.2.2.2.2.2.2.2.2.2.2.2.2.2.1) (v.2.2.2.2.2.2.2.2.2.2.2.2.2.2.2.2.2.2.2.2.2.2.2.2.2.2.2.2.2.2.2.2.2.2.1) (v.2.2.2.2.2.2.2.2.2.2.2.2.2.2.2.2.2.2.2.2.2.2.2.2.2.2.2.2.2.2.2.2.2.2.2.1) (v.2.2.2.2.2.2.2.2.2.2.2.2.2.2.2.2.2.2.2.2.2.2.2.2.2.2.2.2.2.2.2.2.2.2.2.2.1) (v.2.2.2.2.2.2.2.2.2.2.2.2.2.2.2.2.2.2.2.2.2.2.2.2.2.2.2.2.2.2.2.2.2.2.2.2.2.1) (v.2.2.2.2.2.2.2.2.2.2.2.2.2.2.2.2.2.2.2.2.2.2.2.2.2.2.2.2.2.2.2.2.2.2.2.2.2.2.1) (v.2.2.2.2.2.2.2.2.2.2.2.2.2.2.2.2.2.2.2.2.2.2.2.2.2.2.2.2.2.2.2.2.2.2.2.2.2.2.2.1) (v.2.2.2.2.2.2.2.2.2.2.2.2.2.2.2.2.2.2.2.2.2.2.2.2.2.2.2.2.2.2.2.2.2.2.2.2.2.2.2.2.1) (v.2.2.2.2.2.2.2.2.2.2.2.2.2.2.2.2.2.2.2.2.2.2.2.2.2.2.2.2.2.2.2.2.2.2.2.2.2.2.2.2.2)) 0
theorem zal (h : exp_spec_St (zcv.1) (zcv.2.1) (zcv.2.2.1) (zcv.2.2.2.1) (zcv.2.2.2.2.1) (zcv.2.2.2.2.2.1) (zcv.2.2.2.2.2.2.1) (zcv.2.2.2.2.2.2.2.1) (zcv.2.2.2.2.2.2.2.2.1) (zcv.2.2.2.2.2.2.2.2.2.1) (zcv.2.2.2.2.2.2.2.2.2.2.1) (zcv.2.2.2.2.2.2.2.2.2.2.2.1) (zcv.2.2.2.2.2.2.2.2.2.2.2.2.1) (zcv.2.2.2.2.2.2.2.2.2.2.2.2.2.1) (zcv.2.2.2.2.2.2.2.2.2.2.2.2.2.2.1) (zcv.2.2.2.2.2.2.2.2.2.2.2.2.2.2.2.1) (zcv.2.2.2.2.2.2.2.2.2.2.2.2.2.2.2.2.1) (zcv.2.2.2.2.2.2.2.2.2.2.2.2.2.2.2.2.2.1) (zcv.2.2.2.2.2.2.2.2.2.2.2.2.2.2.2.2.2.2.1) (zcv.2.2.2.2.2.2.2.2.2.2.2.2.2.2.2.2.2.2.2.1) (zcv.2.2.2.2.2.2.2.2.2.2.2.2.2.2.2.2.2.2.2.2.1) (zcv.2.2.2.2.2.2.2.2.2.2.2.2.2.2.2.2.2.2.2.2.2.1) (zcv.2.2.2.2.2.2.2.2.2.2.2.2.2.2.2.2.2.2.2.2.2.2.1) (zcv.2.2.2.2.2.2.2.2.2.2.2.2.2.2.2.2.2.2.2.2.2.2.2.1) (zcv.2.2.2.2.2.2.2.2.2.2.2.2.2.2.2.2.2.2.2.2.2.2.2.2.1) (zcv.2.2.2.2.2.2.2.2.2.2.2.2.2.2.2.2.2.2.2.2.2.2.2.2.2.1) (zcv.2.2.2.2.2.2.2.2.2.2.2.2.2.2.2.2.2.2.2.2.2.2.2.2.2.2.1) (zcv.2.2.2.2.2.2.2.2.2.2.2.2.2.2.2.2.2.2.2.2.2.2.2.2.2.2.2.1) (zcv.2.2.2.2.2.2.2.2.2.2.2.2.2.2.2.2.2.2.2.2.2.2.2.2.2.2.2.2.1) (zcv.2.2.2.2.2.2.2.2.2.2.2.2.2.2.2.2.2.2.2.2.2.2.2.2.2.2.2.2.2.1) (zcv.2.2.2.2.2.2.2.2.2.2.2.2.2.2.2.2.2.2.2.2.2.2.2.2.2.2.2.2.2.2.1) (zcv.2.2.2.2.2.2.2.2.2.2.2.2.2.2.2.2.2.2.2.2.2.2.2.2.2.2.2.2.2.2.2.1) (zcv.2.2.2.2.2.2.2.2.2.2.2.2.2.2.2.2.2.2.2.2.2.2.2.2.2.2.2.2.2.2.2.2.1) (zcv.2.2.2.2.2.2.2.2.2.2.2.2.2.2.2.2.2.2.2.2.2.2.2.2.2.2.2.2.2.2.2.2.2.1) (zcv.2.2.2.2.2.2.2.2.2.2.2.2.2.2.2.2.2.2.2.2.2.2.2.2.2.2.2.2.2.2.2.2.2.2.1) (zcv.2.2.2.2.2.2.2.2.2.2.2.2.2.2.2.2.2.2.2.2.2.2.2.2.2.2.2.2.2.2.2.2.2.2.2.1) (zcv.2.2.2.2.2.2.2.2.2.2.2.2.2.2.2.2.2.2.2.2.2.2.2.2.2.2.2.2.2.2.2.2.2.2.2.2.1) (zcv.2.2.2.2.2.2.2.2.2.2.2.2.2.2.2.2.2.2.2.2.2.2.2.2.2.2.2.2.2.2.2.2.2.2.2.2.2.1) (zcv.2.2.2.2.2.2.2.2.2.2.2.2.2.2.2.2.2.2.2.2.2.2.2.2.2.2.2.2.2.2.2.2.2.2.2.2.2.2.1) (zcv.2.2.2.2.2.2.2.2.2.2.2.2.2.2.2.2.2.2.2.2.2.2.2.2.2.2.2.2.2.2.2.2.2.2.2.2.2.2.2.1) (zcv.2.2.2.2.2.2.2.2.2.2.2.2.2.2.2.2.2.2.2.2.2.2.2.2.2.2.2.2.2.2.2.2.2.2.2.2.2.2.2.2.1) (zcv.2.2.2.2.2.2.2.2.2.2.2.2.2.2.2.2.2.2.2.2.2.2.2.2.2.2.2.2.2.2.2.2.2.2.2.2.2.2.2.2.2)) : ∀ u : (World) × (Program) × (List Str) × (ExcName → Option Value) × (Str → Option Value) × (Str → Option Value) × (Nat) × (Nat) × (Option (List Code)) × (Str) × (Scope) × (Addr) × (Value) × (List (Str × Addr)) × (List Env) × (Around) × (Heap) × (Heap) × (Addr) × (Str → Option Value) × (Shared) × (Value → Shared → Prop) × (Value → Shared → Prop) × (List (Addr × Obj)) × (List (Addr × Obj)) × (Obj) × (Obj) × (Obj) × (Array Value) × (Str → Option Int) × (Str → Option Int) × (Str → Option (List (Int × Int))) × (Nat) × (Nat) × (Nat) × (Nat) × (Addr) × (Addr) × (Addr) × (Addr) × (Addr) × (Int), exp_spec_St (u.1) (u.2.1) (u.2.2.1) (u.2.2.2.1) (u.2.2.2.2.1) (u.2.2.2.2.2.1) (u.2.2.2.2.2.2.1) (u.2.2.2.2.2.2.2.1) (u.2.2.2.2.2.2.2.2.1) (u.2.2.2.2.2.2.2.2.2.1) (u.2.2.2.2.2.2.2.2.2.2.1) (u.2.2.2.2.2.2.2.2.2.2.2.1) (u.2.2.2.2.2.2.2.2.2.2.2.2.1) (u.2.2.2.2.2.2.2.2.2.2.2.2.2.1) (u.2.2.2.2.2.2.2.2.2.2.2.2.2.2.1) (u.2.2.2.2.2.2.2.2.2.2.2.2.2.2.2.1) (u.2.2.2.2.2.2.2.2.2.2.2.2.2.2.2.2.1) (u.2.2.2.2.2.2.2.2.2.2.2.2.2.2.2.2.2.1) (u.2.2.2.2.2.2.2.2.2.2.2.2.2.2.2.2.2.2.1) (u.2.2.2.2.2.2.2.2.2.2.2.2.2.2.2.2.2.2.2.1) (u.2.2.2.2.2.2.2.2.2.2.2.2.2.2.2.2.2.2.2.2.1) (u.2.2.2.2.2.2.2.2.2.2.2.2.2.2.2.2.2.2.2.2.2.1) (u.2.2.2.2.2.2.2.2.2.2.2.2.2.2.2.2.2.2.2.2.2.2.1) (u.2.2.2.2.2.2.2.2.2.2.2.2.2.2.2.2.2.2.2.2.2.2.2.1) (u.2.2.2.2.2.2.2.2.2.2.2.2.2.2.2.2.2.2.2.2.2.2.2.2.1) (u.2.2.2.2.2.2.2.2.2.2.2.2.2.2.2.2.2.2.2.2.2.2.2.2.2.1) (u.2.2.2.2.2.2.2.2.2.2.2.2.2.2.2.2.2.2.2.2.2.2.2.2.2.2.1) (u.2.2.2.2.2.2.2.2.2.2.2.2.2.2.2.2.2.2.2.2.2.2.2.2.2.2.2.1) (u.2.2.2.2.2.2.2.2.2.2.2.2.2.2.2.2.2.2.2.2.2.2.2.2.2.2.2.2.1) (u.2.2.2.2.2.2.2.2.2.2.2.2.2.2.2.2.2.2.2.2.2.2.2.2.2.2.2.2.2.1) (u.2.2.2.2.2.2.2.2.2.2.2.2.2.2.2.2.2.2.2.2.2.2.2.2.2.2.2.2.2.2.1) (u.2.2.2.2.2.2.2.2.2.2.2.2.2.2.2.2.2.2.2.2.2.2.2.2.2.2.2.2.2.2.2.1) (u.2.2.2.2.2.2.2.2.2.2.2.2.2.2.2.2.2.2.2.2.2.2.2.2.2.2.2.2.2.2.2.2.1) (u.2.2.2.2.2.2.2.2.2.2.2.2.2.2.2.2.2.2.2.2.2.2.2.2.2.2.2.2.2.2.2.2.2.1) (u.2.2.2.2.2.2.2.2.2.2.2.2.2.2.2.2.2.2.2.2.2.2.2.2.2.2.2.2.2.2.2.2.2.2.1) (u.2.2.2.2.2.2.2.2.2.2.2.2.2.2.2.2.2.2.2.2.2.2.2.2.2.2.2.2.2.2.2.2.2.2.2.1) (u.2.2.2.2.2.2.2.2.2.2.2.2.2.2.2.2.2.2.2.2.2.2.2.2.2.2.2.2.2.2.2.2.2.2.2.2.1) (u.2.2.2.2.2.2.2.2.2.2.2.2.2.2.2.2.2.2.2.2.2.2.2.2.2.2.2.2.2.2.2.2.2.2.2.2.2.1) (u.2.2.2.2.2.2.2.2.2.2.2.2.2.2.2.2.2.2.2.2.2.2.2.2.2.2.2.2.2.2.2.2.2.2.2.2.2.2.1) (u.2.2.2.2.2.2.2.2.2.2.2.2.2.2.2.2.2.2.2.2.2.2.2.2.2.2.2.2.2.2.2.2.2.2.2.2.2.2.2.1) (u.2.2.2.2.2.2.2.2.2.2.2.2.2.2.2.2.2.2.2.2.2.2.2.2.2.2.2.2.2.2.2.2.2.2.2.2.2.2.2.2.1) (u.2.2.2.2.2.2.2.2.2.2.2.2.2.2.2.2.2.2.2.2.2.2.2.2.2.2.2.2.2.2.2.2.2.2.2.2.2.2.2.2.2) := pick_all (P := fun v : (World) × (Program) × (List Str) × (ExcName → Option Value) × (Str → Option Value) × (Str → Option Value) × (Nat) × (Nat) × (Option (List Code)) × (Str) × (Scope) × (Addr) × (Value) × (List (Str × Addr)) × (List Env) × (Around) × (Heap) × (Heap) × (Addr) × (Str → Option Value) × (Shared) × (Value → Shared → Prop) × (Value → Shared → Prop) × (List (Addr × Obj)) × (List (Addr × Obj)) × (Obj) × (Obj) × (Obj) × (Array Value) × (Str → Option Int) × (Str → Option Int) × (Str → Option (List (Int × Int))) × (Nat) × (Nat) × (Nat) × (Nat) × (Addr) × (Addr) × (Addr) × (Addr) × (Addr) × (Int) => exp_spec_St (v.1) (v.2.1) (v.2.2.1) (v.2.2.2.1) (v.2.2.2.2.1) (v.2.2.2.2.2.1) (v.2.2.2.2.2.2.1) (v.2.2.2.2.2.2.2.1) (v.2.2.2.2.2.2.2.2.1) (v.2.2.2.2.2.2.2.2.2.1) (v.2.2.2.2.2.2.2.2.2.2.1) (v.2.2.2.2.2.2.2.2.2.2.2.1) (v.2.2.2.2.2.2.2.2.2.2.2.2.1) (v.2.2.2.2.2.2.2.2.2.2.2.2.2.1) (v.2.2.2.2.2.2.2.2.2.2.2.2.2.2.1) (v.2.2.2.2.2.2.2.2.2.2.2.2.2.2.2.1) (v.2.2.2.2.2.2.2.2.2.2.2.2.2.2.2.2.1) (v.2.2.2.2.2.2.2.2.2.2.2.2.2.2.2.2.2.1) (v.2.2.2.2.2.2.2.2.2.2.2.2.2.2.2.2.2.2.1) (v.2.2.2.2.2.2.2.2.2.2.2.2.2.2.2.2.2.2.2.1) (v.2.2.2.2.2.2.2.2.2.2.2.2.2.2.2.2.2.2.2.2.1) (v.2.2.2.2.2.2.2.2.2.2.2.2.2.2.2.2.2.2.2.2.2.1) (v.2.2.2.2.2.2.2.2.2.2.2.2.2.2.2.2.2.2.2.2.2.2.1) (v.2.2.2.2.2.2.2.2.2.2.2.2.2.2.2.2.2.2.2.2.2.2.2.1) (v.2.2.2.2.2.2.2.2.2.2.2.2.2.2.2.2.2.2.2.2.2.2.2.2.1) (v.2.2.2.2.2.2.2.2.2.2.2.2.2.2.2.2.2.2.2.2.2.2.2.2.2.1) (v.2.2.2.2.2.2.2.2.2.2.2.2.2.2.2.2.2.2.2.2.2.2.2.2.2.2.1) (v.2.2.2.2.2.2.2.2.2.2.2.2.2.2.2.2.2.2.2.2.2.2.2.2.2.2.2.1) (v.2.2.2.2.2.2.2.2.2.2.2.2.2.2.2.2.2.2.2.2.2.2.2.2.2.2.2.2.1) (v.2.2.2.2.2.2.2.2.2.2.2.2.2.2.2.2.2.2.2.2.2.2.2.2.2.2.2.2.2.1) (v.2.2.2.2.2.2.2.2.2.2.2.2.2.2.2.2.2.2.2.2.2.2.2.2.2.2.2.2.2.2.1) (v.2.2.2.2.2.2.2.2.2.2.2.2.2.2.2.2.2.2.2.2.2.2.2.2.2.2.2.2.2.2.2.1) (v.2.2.2.2.2.2.2.2.2.2.2.2.2.2.2.2.2.2.2.2.2.2.2.2.2.2.2.2.2.2.2.2.1) (v.2.2.2.2.2.2.2.2.2.2.2.2.2.2.2.2.2.2.2.2.2.2.2.2.2.2.2.2.2.2.2.2.2.1) (v.2.2.2.2.2.2.2.2.2.2.2.2.2.2.2.2.2.2.2.2.2.2.2.2.2.2.2.2.2.2.2.2.2.2.1) (v.2.2.2.2.2.2.2.2.2.2.2.2.2.2.2.2.2.2.2.2.2.2.2.2.2.2.2.2.2.2.2.2.2.2.2.1) (v.2.2.2.2.2.2.2.2.2.2.2.2.2.2.2.2.2.2.2.2.2.2.2.2.2.2.2.2.2.2.2.2.2.2.2.2.1) (v.2.2.2.2.2.2.2.2.2.2.2.2.2.2.2.2.2.2.2.2.2.2.2.2.2.2.2.2.2.2.2.2.2.2.2.2.2.1) (v.2.2.2.2.2.2.2.2.2.2.2.2.2.2.2.2.2.2.2.2.2.2.2.2.2.2.2.2.2.2.2.2.2.2.2.2.2.2.1) (v.2.2.2.2.2.2.2.2.2.2.2.2.2.2.2.2.2.2.2.2.2.2.2.2.2.2.2.2.2.2.2.2.2.2.2.2.2.2.2.1) (v.2.2.2.2.2.2.2.2.2.2.2.2.2.2.2.2.2.2.2.2.2.2.2.2.2.2.2.2.2.2.2.2.2.2.2.2.2.2.2.2.1) (v.2.2.2.2.2.2.2.2.2.2.2.2.2.2.2.2.2.2.2.2.2.2.2.2.2.2.2.2.2.2.2.2.2.2.2.2.2.2.2.2.2)) h
noncomputable def w : World := zcv.1
noncomputable def p : Program := zcv.2.1
noncomputable def loose : List Str := zcv.2.2.1
noncomputable def mean : ExcName → Option Value := zcv.2.2.2.1
noncomputable def mg : Str → Option Value := zcv.2.2.2.2.1
noncomputable def mb : Str → Option Value := zcv.2.2.2.2.2.1
noncomputable def dp : Nat := zcv.2.2.2.2.2.2.1
noncomputable def un : Nat := zcv.2.2.2.2.2.2.2.1
noncomputable def gd : Option (List Code) := zcv.2.2.2.2.2.2.2.2.1
noncomputable def cn : Str := zcv.2.2.2.2.2.2.2.2.2.1
noncomputable def cs : Scope := zcv.2.2.2.2.2.2.2.2.2.2.1
noncomputable def a : Addr := zcv.2.2.2.2.2.2.2.2.2.2.2.1
noncomputable def ccd : Value := zcv.2.2.2.2.2.2.2.2.2.2.2.2.1
noncomputable def cl : List (Str × Addr) := zcv.2.2.2.2.2.2.2.2.2.2.2.2.2.1
noncomputable def outer : List Env := zcv.2.2.2.2.2.2.2.2.2.2.2.2.2.2.1
noncomputable def A₀ : Around := zcv.2.2.2.2.2.2.2.2.2.2.2.2.2.2.2.1
noncomputable def base : Heap := zcv.2.2.2.2.2.2.2.2.2.2.2.2.2.2.2.2.1
noncomputable def h₀ : Heap := zcv.2.2.2.2.2.2.2.2.2.2.2.2.2.2.2.2.2.1
noncomputable def L : Addr := zcv.2.2.2.2.2.2.2.2.2.2.2.2.2.2.2.2.2.2.1
noncomputable def m : Str → Option Value := zcv.2.2.2.2.2.2.2.2.2.2.2.2.2.2.2.2.2.2.2.1
noncomputable def s : Shared := zcv.2.2.2.2.2.2.2.2.2.2.2.2.2.2.2.2.2.2.2.2.1
noncomputable def Q : Value → Shared → Prop := zcv.2.2.2.2.2.2.2.2.2.2.2.2.2.2.2.2.2.2.2.2.2.1
noncomputable def E : Value → Shared → Prop := zcv.2.2.2.2.2.2.2.2.2.2.2.2.2.2.2.2.2.2.2.2.2.2.1
noncomputable def frz : List (Addr × Obj) := zcv.2.2.2.2.2.2.2.2.2.2.2.2.2.2.2.2.2.2.2.2.2.2.2.1
noncomputable def evl : List (Addr × Obj) := zcv.2.2.2.2.2.2.2.2.2.2.2.2.2.2.2.2.2.2.2.2.2.2.2.2.1
noncomputable def oS : Obj := zcv.2.2.2.2.2.2.2.2.2.2.2.2.2.2.2.2.2.2.2.2.2.2.2.2.2.1
noncomputable def oX : Obj := zcv.2.2.2.2.2.2.2.2.2.2.2.2.2.2.2.2.2.2.2.2.2.2.2.2.2.2.1
noncomputable def oV : Obj := zcv.2.2.2.2.2.2.2.2.2.2.2.2.2.2.2.2.2.2.2.2.2.2.2.2.2.2.2.1
noncomputable def ps : Array Value := zcv.2.2.2.2.2.2.2.2.2.2.2.2.2.2.2.2.2.2.2.2.2.2.2.2.2.2.2.2.1
noncomputable def f : Str → Option Int := zcv.2.2.2.2.2.2.2.2.2.2.2.2.2.2.2.2.2.2.2.2.2.2.2.2.2.2.2.2.2.1
noncomputable def x : Str → Option Int := zcv.2.2.2.2.2.2.2.2.2.2.2.2.2.2.2.2.2.2.2.2.2.2.2.2.2.2.2.2.2.2.1
noncomputable def evs : Str → Option (List (Int × Int)) := zcv.2.2.2.2.2.2.2.2.2.2.2.2.2.2.2.2.2.2.2.2.2.2.2.2.2.2.2.2.2.2.2.1
noncomputable def nS : Nat := zcv.2.2.2.2.2.2.2.2.2.2.2.2.2.2.2.2.2.2.2.2.2.2.2.2.2.2.2.2.2.2.2.2.1
noncomputable def nX : Nat := zcv.2.2.2.2.2.2.2.2.2.2.2.2.2.2.2.2.2.2.2.2.2.2.2.2.2.2.2.2.2.2.2.2.2.1
noncomputable def nV : Nat := zcv.2.2.2.2.2.2.2.2.2.2.2.2.2.2.2.2.2.2.2.2.2.2.2.2.2.2.2.2.2.2.2.2.2.2.1
noncomputable def z : Nat := zcv.2.2.2.2.2.2.2.2.2.2.2.2.2.2.2.2.2.2.2.2.2.2.2.2.2.2.2.2.2.2.2.2.2.2.2.1
noncomputable def st : Addr := zcv.2.2.2.2.2.2.2.2.2.2.2.2.2.2.2.2.2.2.2.2.2.2.2.2.2.2.2.2.2.2.2.2.2.2.2.2.1
noncomputable def S : Addr := zcv.2.2.2.2.2.2.2.2.2.2.2.2.2.2.2.2.2.2.2.2.2.2.2.2.2.2.2.2.2.2.2.2.2.2.2.2.2.1
noncomputable def X : Addr := zcv.2.2.2.2.2.2.2.2.2.2.2.2.2.2.2.2.2.2.2.2.2.2.2.2.2.2.2.2.2.2.2.2.2.2.2.2.2.2.1
noncomputable def V : Addr := zcv.2.2.2.2.2.2.2.2.2.2.2.2.2.2.2.2.2.2.2.2.2.2.2.2.2.2.2.2.2.2.2.2.2.2.2.2.2.2.2.1
noncomputable def clk : Addr := zcv.2.2.2.2.2.2.2.2.2.2.2.2.2.2.2.2.2.2.2.2.2.2.2.2.2.2.2.2.2.2.2.2.2.2.2.2.2.2.2.2.1
noncomputable def t : Int := zcv.2.2.2.2.2.2.2.2.2.2.2.2.2.2.2.2.2.2.2.2.2.2.2.2.2.2.2.2.2.2.2.2.2.2.2.2.2.2.2.2.2
noncomputable def zst2 : {P : ((Str → Option Addr) → (Addr) → (Tok) → (Tok) → (Tok) → (Tok) → (Value) → (Option Addr) → (FuncData) → (Array (Option Value)) → (Heap) → (Addr) → (Heap) → Prop) // Hid (∀ (ev : Str → Option Addr) (dx : Addr) (t1 : Tok) (t2 : Tok) (t3 : Tok) (t4 : Tok) (oc : Value) (od : Option Addr) (fd : FuncData) (sl : Array (Option Value)) (g' : Heap) (L' : Addr) (h' : Heap), P ev dx t1 t2 t3 t4 oc od fd sl g' L' h') → exp_spec_St w p loose mean mg mb dp un gd cn cs a ccd cl outer A₀ base h₀ L m s Q E frz evl oS oX oV ps f x evs nS nX nV z st S X V clk t} := by
  refine' ⟨_, fun HH1 => _⟩
  rotate_left 
  focus
    intro B F KX T hk CD N O n1 n2 n3 n4 d4 hS hX hevl hV TB zS zX zV zz ht0 ht hd hu retH
    refine lower ?_ hd hu
    obtain ⟨ev, hRV, hEV⟩ := id hV
    have O'' := O
    obtain ⟨⟨dx, h1, h2, h3, h4, t1, t2, t3, t4, nn, oc, od, fd, sl, hst, hck, hdx, _, _, _⟩, _, sx, xv, lS, lX, lV⟩ := O''
    revert KX; k_fill; intro KX
    refine wpAny_call ?_
    walk_at "m enter"
    rename_i z0x1 z0x2 z0x3 z0x4
    revert B F T hk CD N O n1 n2 n3 n4 d4 hS hX hevl hV TB zS zX zV zz ht0 ht hd hu retH hRV hEV z0x1 sx xv lS lX lV h1 h2 h3 h4 nn hst hck hdx z0x2 z0x3 z0x4 KX FG' F' N' B' X' T' qk ek
    exact Hid.out HH1 ev dx t1 t2 t3 t4 oc od fd sl g' L' h'
namespace k1
noncomputable def zcv : (Str → Option Addr) × (Addr) × (Tok) × (Tok) × (Tok) × (Tok) × (Value) × (Option Addr) × (FuncData) × (Array (Option Value)) × (Heap) × (Addr) × (Heap) := pick (neP inferInstance (neP inferInstance (neP inferInstance (neP inferInstance (neP inferInstance (neP inferInstance (neP inferInstance (neP inferInstance (neP inferInstance (neP inferInstance (neP inferInstance (neP inferInstance inferInstance)))))))))))) (fun v : (Str → Option Addr) × (Addr) × (Tok) × (Tok) × (Tok) × (Tok) × (Value) × (Option Addr) × (FuncData) × (Array (Option Value)) × (Heap) × (Addr) × (Heap) => zst2.1 (v.1) (v.2.1) (v.2.2.1) (v.2.2.2.1) (v.2.2.2.2.1) (v.2.2.2.2.2.1) (v.2.2.2.2.2.2.1) (v.2.2.2.2.2.2.2.1) (v.2.2.2.2.2.2.2.2.1) (v.2.2.2.2.2.2.2.2.2.1) (v.2.2.2.2.2.2.2.2.2.2.1) (v.2.2.2.2.2.2.2.2.2.2.2.1) (v.2.2.2.2.2.2.2.2.2.2.2.2)) 0
theorem zal (h : zst2.1 (zcv.1) (zcv.2.1) (zcv.2.2.1) (zcv.2.2.2.1) (zcv.2.2.2.2.1) (zcv.2.2.2.2.2.1) (zcv.2.2.2.2.2.2.1) (zcv.2.2.2.2.2.2.2.1) (zcv.2.2.2.2.2.2.2.2.1) (zcv.2.2.2.2.2.2.2.2.2.1) (zcv.2.2.2.2.2.2.2.2.2.2.1) (zcv.2.2.2.2.2.2.2.2.2.2.2.1) (zcv.2.2.2.2.2.2.2.2.2.2.2.2)) : ∀ u : (Str → Option Addr) × (Addr) × (Tok) × (Tok) × (Tok) × (Tok) × (Value) × (Option Addr) × (FuncData) × (Array (Option Value)) × (Heap) × (Addr) × (Heap), zst2.1 (u.1) (u.2.1) (u.2.2.1) (u.2.2.2.1) (u.2.2.2.2.1) (u.2.2.2.2.2.1) (u.2.2.2.2.2.2.1) (u.2.2.2.2.2.2.2.1) (u.2.2.2.2.2.2.2.2.1) (u.2.2.2.2.2.2.2.2.2.1) (u.2.2.2.2.2.2.2.2.2.2.1) (u.2.2.2.2.2.2.2.2.2.2.2.1) (u.2.2.2.2.2.2.2.2.2.2.2.2) := pick_all (P := fun v : (Str → Option Addr) × (Addr) × (Tok) × (Tok) × (Tok) × (Tok) × (Value) × (Option Addr) × (FuncData) × (Array (Option Value)) × (Heap) × (Addr) × (Heap) => zst2.1 (v.1) (v.2.1) (v.2.2.1) (v.2.2.2.1) (v.2.2.2.2.1) (v.2.2.2.2.2.1) (v.2.2.2.2.2.2.1) (v.2.2.2.2.2.2.2.1) (v.2.2.2.2.2.2.2.2.1) (v.2.2.2.2.2.2.2.2.2.1) (v.2.2.2.2.2.2.2.2.2.2.1) (v.2.2.2.2.2.2.2.2.2.2.2.1) (v.2.2.2.2.2.2.2.2.2.2.2.2)) h
noncomputable def ev : Str → Option Addr := zcv.1
noncomputable def dx : Addr := zcv.2.1
noncomputable def t1 : Tok := zcv.2.2.1
noncomputable def t2 : Tok := zcv.2.2.2.1
noncomputable def t3 : Tok := zcv.2.2.2.2.1
noncomputable def t4 : Tok := zcv.2.2.2.2.2.1
noncomputable def oc : Value := zcv.2.2.2.2.2.2.1
noncomputable def od : Option Addr := zcv.2.2.2.2.2.2.2.1
noncomputable def fd : FuncData := zcv.2.2.2.2.2.2.2.2.1
noncomputable def sl : Array (Option Value) := zcv.2.2.2.2.2.2.2.2.2.1
noncomputable def g' : Heap := zcv.2.2.2.2.2.2.2.2.2.2.1
noncomputable def L' : Addr := zcv.2.2.2.2.2.2.2.2.2.2.2.1
noncomputable def h' : Heap := zcv.2.2.2.2.2.2.2.2.2.2.2.2
noncomputable def zst5 : {P : ((Addr) → (Heap) → (Addr) → (Heap) → (List Value) → (List Str) → (Str → Option Value) → (Heap) → (Addr) → (Obj) → (Obj) → (List (Addr × Obj)) → (Str → Option Addr) → (Str → Option (List (Int × Int))) → (Str) → (Tok) → (Addr) → (List (Int × Int)) → Prop) × ((Addr) → (Heap) → (Addr) → (Heap) → (List Value) → (List Str) → (Str → Option Value) → (Heap) → (Obj) → (Array Value) → (List (Addr × Obj)) → (Str → Option Addr) → (List (Addr × Obj)) → Prop) // Hid (∀ (Dv : Addr) (hv' : Heap) (D2 : Addr) (h2' : Heap) (vs : List Value) (ks : List Str) (m₁ : Str → Option Value) (h : Heap) (I : Addr) (oI : Obj) (oV' : Obj) (ext : List (Addr × Obj)) (ev' : Str → Option Addr) (evs' : Str → Option (List (Int × Int))) (key : Str) (tk9 : Tok) (l : Addr) (ens : List (Int × Int)), P.1 Dv hv' D2 h2' vs ks m₁ h I oI oV' ext ev' evs' key tk9 l ens) → Hid (∀ (Dv : Addr) (hv' : Heap) (D2 : Addr) (h2' : Heap) (vs : List Value) (ks : List Str) (m1' : Str → Option Value) (h9 : Heap) (oV' : Obj) (ps' : Array Value) (ext : List (Addr × Obj)) (ev' : Str → Option Addr) (R : List (Addr × Obj)), P.2 Dv hv' D2 h2' vs ks m1' h9 oV' ps' ext ev' R) → zst2.1 ev dx t1 t2 t3 t4 oc od fd sl g' L' h'} := by
  refine' ⟨(_, _), fun HH3 HH4 => _⟩
  rotate_left 2
  focus
    intro B F T hk CD N O n1 n2 n3 n4 d4 hS hX hevl hV TB zS zX zV zz ht0 ht hd hu retH hRV hEV z0x1 sx xv lS lX lV h1 h2 h3 h4 nn hst hck hdx z0x2 z0x3 z0x4 KX FG' F' N' B' X' T' qk ek
    have mkp : Mk 155 := trivial
    k_steps
    rename_i Dv hv' l0 l00 D2 c2 h2' tk2 vs ks F2 N2 kn kl kv ki kz
    have off9 : ∀ q ∈ (D2, listOf (List.toArray vs) c2) :: (Dv, viewObj V) :: frz, q.1 ≠ S ∧ q.1 ≠ X ∧ q.1 ≠ V ∧ q.1 ≠ 588 := fun q hq => by
      rcases List.mem_cons.mp hq with rfl | hq
      · exact ⟨by show @Ne Nat D2 S; omega, by show @Ne Nat D2 X; omega, by show @Ne Nat D2 V; omega, by show @Ne Nat D2 588; omega⟩
      rcases List.mem_cons.mp hq with rfl | hq
      · exact ⟨by show @Ne Nat Dv S; omega, by show @Ne Nat Dv X; omega, by show @Ne Nat Dv V; omega, by show @Ne Nat Dv 588; omega⟩
      · exact ⟨n1 q hq, n2 q hq, n3 q hq, n4 q hq⟩
    refine Held.in ?_
    refine iter_list (l := D2) (vs := vs) (k := c2) (fun i m' nw => m' (Str.ofString "self") = some (.ref st) ∧ ∃ (oV' : Obj) (ps' : Array Value) (ext : List (Addr × Obj)) (ev' : Str → Option Addr) (evs' : Str → Option (List (Int × Int))), nw = (S, oS) :: (X, oX) :: (V, oV') :: (588, tabObj ps') :: (ext ++ (D2, listOf (List.toArray vs) c2) :: (Dv, viewObj V) :: frz) ∧ (∀ q ∈ ext, q.1 ≠ S ∧ q.1 ≠ X ∧ q.1 ≠ V ∧ q.1 ≠ 588) ∧ (∀ p ∈ ext, ∀ q ∈ (D2, listOf (List.toArray vs) c2) :: (Dv, viewObj V) :: frz, p.1 ≠ q.1) ∧ RefD PySem.Challenge.rw_ji0060_02.row.prog w oV' ev' nV ∧ (∀ k, (ev' k).isSome = (ev k).isSome) ∧ (∀ k, EvK (ext ++ evl) S X V z (ev' k) (evs' k)) ∧ evs' = pruneL t (ks.take i) evs ∧ Tab588 (ext ++ evl) ps') rfl (by assumption) (exp_order (by assumption)) ?_ ?_ ?_ ?_
    · rintro i m' nw ⟨_, oV', ps', ext, ev', evs', rfl, _⟩
      exact .tail _ (.tail _ (.tail _ (.tail _ (List.mem_append_right _ (.head _)))))
    · exact ⟨rfl, oV, ps, [], ev, evs, rfl, (fun q hq => nomatch hq), (fun q hq => nomatch hq), hRV, fun _ => rfl, hEV, by funext k; unfold pruneL; simp, TB⟩
    · rintro i v m₁ news₁ h tk I oI hv ⟨pself, oV', ps', ext, ev', evs', rfl, hoff, hof2, hR', hsm, hE', hpr, TB'⟩ offI ltI F₁ N₁
      obtain ⟨key, tk9, hks, rfl⟩ := kv i v hv
      have hsome : (ev' key).isSome = true := by rw [hsm, ← ki]; exact List.mem_of_getElem? hks
      obtain ⟨l, hl⟩ := Option.isSome_iff_exists.mp hsome
      have hEk := hE' key
      rw [hl] at hEk
      cases hen : evs' key with
      | none => rw [hen] at hEk; exact hEk.elim
      | some ens =>
        rw [hen] at hEk
        obtain ⟨us, un2, hml, hEn, hoffl, hlen⟩ := hEk
        have hR0 : ∀ q ∈ (D2, listOf (List.toArray vs) c2) :: (Dv, viewObj V) :: frz, q.1 ≠ S ∧ q.1 ≠ X ∧ q.1 ≠ V ∧ q.1 ≠ 588 := off9
        have hRR : ∀ q ∈ ext ++ (D2, listOf (List.toArray vs) c2) :: (Dv, viewObj V) :: frz, q.1 ≠ S ∧ q.1 ≠ X ∧ q.1 ≠ V ∧ q.1 ≠ 588 := fun q hq => by
          rcases List.mem_append.mp hq with h | h
          · exact hoff q h
          · exact off9 q h
        have hfr : ∀ q ∈ frz, q ∈ ext ++ (D2, listOf (List.toArray vs) c2) :: (Dv, viewObj V) :: frz := fun q hq => List.mem_append_right _ (.tail _ (.tail _ hq))
        have hee : ∀ q ∈ ext ++ evl, q ∈ ext ++ (D2, listOf (List.toArray vs) c2) :: (Dv, viewObj V) :: frz := fun q hq => by
          rcases List.mem_append.mp hq with h | h
          · exact List.mem_append_left _ h
          · exact hfr q (hevl q h)
        have m5 : ∀ q ∈ ext ++ (D2, listOf (List.toArray vs) c2) :: (Dv, viewObj V) :: frz, q.1 ≠ I := fun q hq => offI q (by repeat (first | exact hq | refine List.Mem.tail _ ?_))
        have hml2 := hee _ hml
        have hEn2 := hEn.sub (news' := ext ++ (D2, listOf (List.toArray vs) c2) :: (Dv, viewObj V) :: frz) fun q hq _ => hee q hq
        have e1 : @Ne Nat S I := offI (S, _) (by k_mem)
        have e2 : @Ne Nat X I := offI (X, _) (by k_mem)
        have e3 : @Ne Nat V I := offI (V, _) (by k_mem)
        have e4 : @Ne Nat 588 I := offI (588, _) (by k_mem)
        have O2 : Store w (ext ++ (D2, listOf (List.toArray vs) c2) :: (Dv, viewObj V) :: frz) st S X V clk t := O.sub fun q hq _ => hfr q hq
        have hst2 := hfr _ hst
        have hdx2 := hfr _ hdx
        have hck2 := hfr _ hck
        have eR : ∃ R, R = ext ++ (D2, listOf (List.toArray vs) c2) :: (Dv, viewObj V) :: frz := ⟨_, rfl⟩
        obtain ⟨R, eR⟩ := eR
        rw [← eR] at hRR hml2 hEn2 m5 O2 hst2 hdx2 hck2 N₁
        have m1 : ∀ q ∈ R, q.1 ≠ S := fun q hq => (hRR q hq).1
        have m2 : ∀ q ∈ R, q.1 ≠ X := fun q hq => (hRR q hq).2.1
        have m3 : ∀ q ∈ R, q.1 ≠ V := fun q hq => (hRR q hq).2.2.1
        have m4 : ∀ q ∈ R, q.1 ≠ 588 := fun q hq => (hRR q hq).2.2.2
        have em := pin2 (Eq.refl m₁) pself
        rw [em] at F₁
        clear em pself
        revert B F T hk CD N O n1 n2 n3 n4 d4 hS hX hevl hV TB zS zX zV zz ht0 ht hd hu retH hRV hEV z0x1 sx xv lS lX lV h1 h2 h3 h4 nn hst hck hdx z0x2 z0x3 z0x4 KX FG' B' X' T' qk ek tkN l0 l00 c2 tk2 F2 N2 kn kl kv ki kz l1 l2 off9 i tk ps' hoff hof2 hR' hsm hE' hpr TB' offI ltI hks hv F₁ hsome hl hen us un2 hml hEn hoffl hlen hR0 hfr hee e1 e2 e3 e4 R N₁ hck2 hdx2 hst2 O2 m5 hEn2 hml2 hRR eR m1 m2 m3 m4
        exact Hid.out HH3 Dv hv' D2 h2' vs ks m₁ h I oI oV' ext ev' evs' key tk9 l ens
    · rintro m1' nw1 h9 tk9 ⟨pself, oV', ps', ext, ev', evs', rfl, hoff, hof2, hR', hsm, hE', hpr, TB'⟩ F9 N9
      replace hpr := hpr.trans (pruneL_all (evk_none hEV ki) (Nat.le_of_eq kl.symm))
      rw [hpr] at hE'
      clear hpr evs'
      have hRR : ∀ q ∈ ext ++ (D2, listOf (List.toArray vs) c2) :: (Dv, viewObj V) :: frz, q.1 ≠ S ∧ q.1 ≠ X ∧ q.1 ≠ V ∧ q.1 ≠ 588 := fun q hq => by
        rcases List.mem_append.mp hq with h | h
        · exact hoff q h
        · exact off9 q h
      have hfr : ∀ q ∈ frz, q ∈ ext ++ (D2, listOf (List.toArray vs) c2) :: (Dv, viewObj V) :: frz := fun q hq => List.mem_append_right _ (.tail _ (.tail _ hq))
      have O2 : Store w (ext ++ (D2, listOf (List.toArray vs) c2) :: (Dv, viewObj V) :: frz) st S X V clk t := O.sub fun q hq _ => hfr q hq
      have hst2 := hfr _ hst
      have hdx2 := hfr _ hdx
      have hck2 := hfr _ hck
      have eR : ∃ R, R = ext ++ (D2, listOf (List.toArray vs) c2) :: (Dv, viewObj V) :: frz := ⟨_, rfl⟩
      obtain ⟨R, eR⟩ := eR
      rw [← eR] at hRR O2 hst2 hdx2 hck2 N9
      have m1 : ∀ q ∈ R, q.1 ≠ S := fun q hq => (hRR q hq).1
      have m2 : ∀ q ∈ R, q.1 ≠ X := fun q hq => (hRR q hq).2.1
      have m3 : ∀ q ∈ R, q.1 ≠ V := fun q hq => (hRR q hq).2.2.1
      have m4 : ∀ q ∈ R, q.1 ≠ 588 := fun q hq => (hRR q hq).2.2.2
      have em := pin2 (Eq.refl m1') pself
      rw [em] at F9
      clear em pself
      revert B F T hk CD N O n1 n2 n3 n4 d4 hS hX hevl hV TB zS zX zV zz ht0 ht hd hu retH hRV hEV z0x1 sx xv lS lX lV h1 h2 h3 h4 nn hst hck hdx z0x2 z0x3 z0x4 KX FG' B' X' T' qk ek tkN l0 l00 c2 tk2 F2 N2 kn kl kv ki kz l1 l2 off9 tk9 hoff hof2 hR' hsm hE' TB' F9 hfr N9 hck2 hdx2 hst2 O2 hRR eR m1 m2 m3 m4
      exact Hid.out HH4 Dv hv' D2 h2' vs ks m1' h9 oV' ps' ext ev' R
namespace k3
noncomputable def zcv : (Addr) × (Heap) × (Addr) × (Heap) × (List Value) × (List Str) × (Str → Option Value) × (Heap) × (Addr) × (Obj) × (Obj) × (List (Addr × Obj)) × (Str → Option Addr) × (Str → Option (List (Int × Int))) × (Str) × (Tok) × (Addr) × (List (Int × Int)) := pick (neP inferInstance (neP inferInstance (neP inferInstance (neP inferInstance (neP inferInstance (neP inferInstance (neP inferInstance (neP inferInstance (neP inferInstance (neP inferInstance (neP inferInstance (neP inferInstance (neP inferInstance (neP inferInstance (neP inferInstance (neP inferInstance (neP inferInstance inferInstance))))))))))))))))) (fun v : (Addr) × (Heap) × (Addr) × (Heap) × (List Value) × (List Str) × (Str → Option Value) × (Heap) × (Addr) × (Obj) × (Obj) × (List (Addr × Obj)) × (Str → Option Addr) × (Str → Option (List (Int × Int))) × (Str) × (Tok) × (Addr) × (List (Int × Int)) => zst5.1.1 (v.1) (v.2.1) (v.2.2.1) (v.2.2.2.1) (v.2.2.2.2.1) (v.2.2.2.2.2.1) (v.2.2.2.2.2.2.1) (v.2.2.2.2.2.2.2.1) (v.2.2.2.2.2.2.2.2.1) (v.2.2.2.2.2.2.2.2.2.1) (v.2.2.2.2.2.2.2.2.2.2.1) (v.2.2.2.2.2.2.2.2.2.2.2.1) (v.2.2.2.2.2.2.2.2.2.2.2.2.1) (v.2.2.2.2.2.2.2.2.2.2.2.2.2.1) (v.2.2.2.2.2.2.2.2.2.2.2.2.2.2.1) (v.2.2.2.2.2.2.2.2.2.2.2.2.2.2.2.1) (v.2.2.2.2.2.2.2.2.2.2.2.2.2.2.2.2.1) (v.2.2.2.2.2.2.2.2.2.2.2.2.2.2.2.2.2)) 0
theorem zal (h : zst5.1.1 (zcv.1) (zcv.2.1) (zcv.2.2.1) (zcv.2.2.2.1) (zcv.2.2.2.2.1) (zcv.2.2.2.2.2.1) (zcv.2.2.2.2.2.2.1) (zcv.2.2.2.2.2.2.2.1) (zcv.2.2.2.2.2.2.2.2.1) (zcv.2.2.2.2.2.2.2.2.2.1) (zcv.2.2.2.2.2.2.2.2.2.2.1) (zcv.2.2.2.2.2.2.2.2.2.2.2.1) (zcv.2.2.2.2.2.2.2.2.2.2.2.2.1) (zcv.2.2.2.2.2.2.2.2.2.2.2.2.2.1) (zcv.2.2.2.2.2.2.2.2.2.2.2.2.2.2.1) (zcv.2.2.2.2.2.2.2.2.2.2.2.2.2.2.2.1) (zcv.2.2.2.2.2.2.2.2.2.2.2.2.2.2.2.2.1) (zcv.2.2.2.2.2.2.2.2.2.2.2.2.2.2.2.2.2)) : ∀ u : (Addr) × (Heap) × (Addr) × (Heap) × (List Value) × (List Str) × (Str → Option Value) × (Heap) × (Addr) × (Obj) × (Obj) × (List (Addr × Obj)) × (Str → Option Addr) × (Str → Option (List (Int × Int))) × (Str) × (Tok) × (Addr) × (List (Int × Int)), zst5.1.1 (u.1) (u.2.1) (u.2.2.1) (u.2.2.2.1) (u.2.2.2.2.1) (u.2.2.2.2.2.1) (u.2.2.2.2.2.2.1) (u.2.2.2.2.2.2.2.1) (u.2.2.2.2.2.2.2.2.1) (u.2.2.2.2.2.2.2.2.2.1) (u.2.2.2.2.2.2.2.2.2.2.1) (u.2.2.2.2.2.2.2.2.2.2.2.1) (u.2.2.2.2.2.2.2.2.2.2.2.2.1) (u.2.2.2.2.2.2.2.2.2.2.2.2.2.1) (u.2.2.2.2.2.2.2.2.2.2.2.2.2.2.1) (u.2.2.2.2.2.2.2.2.2.2.2.2.2.2.2.1) (u.2.2.2.2.2.2.2.2.2.2.2.2.2.2.2.2.1) (u.2.2.2.2.2.2.2.2.2.2.2.2.2.2.2.2.2) := pick_all (P := fun v : (Addr) × (Heap) × (Addr) × (Heap) × (List Value) × (List Str) × (Str → Option Value) × (Heap) × (Addr) × (Obj) × (Obj) × (List (Addr × Obj)) × (Str → Option Addr) × (Str → Option (List (Int × Int))) × (Str) × (Tok) × (Addr) × (List (Int × Int)) => zst5.1.1 (v.1) (v.2.1) (v.2.2.1) (v.2.2.2.1) (v.2.2.2.2.1) (v.2.2.2.2.2.1) (v.2.2.2.2.2.2.1) (v.2.2.2.2.2.2.2.1) (v.2.2.2.2.2.2.2.2.1) (v.2.2.2.2.2.2.2.2.2.1) (v.2.2.2.2.2.2.2.2.2.2.1) (v.2.2.2.2.2.2.2.2.2.2.2.1) (v.2.2.2.2.2.2.2.2.2.2.2.2.1) (v.2.2.2.2.2.2.2.2.2.2.2.2.2.1) (v.2.2.2.2.2.2.2.2.2.2.2.2.2.2.1) (v.2.2.2.2.2.2.2.2.2.2.2.2.2.2.2.1) (v.2.2.2.2.2.2.2.2.2.2.2.2.2.2.2.2.1) (v.2.2.2.2.2.2.2.2.2.2.2.2.2.2.2.2.2)) h
noncomputable def Dv : Addr := zcv.1
noncomputable def hv' : Heap := zcv.2.1
noncomputable def D2 : Addr := zcv.2.2.1
noncomputable def h2' : Heap := zcv.2.2.2.1
noncomputable def vs : List Value := zcv.2.2.2.2.1
noncomputable def ks : List Str := zcv.2.2.2.2.2.1
noncomputable def m₁ : Str → Option Value := zcv.2.2.2.2.2.2.1
noncomputable def h : Heap := zcv.2.2.2.2.2.2.2.1
noncomputable def I : Addr := zcv.2.2.2.2.2.2.2.2.1
noncomputable def oI : Obj := zcv.2.2.2.2.2.2.2.2.2.1
noncomputable def oV' : Obj := zcv.2.2.2.2.2.2.2.2.2.2.1
noncomputable def ext : List (Addr × Obj) := zcv.2.2.2.2.2.2.2.2.2.2.2.1
noncomputable def ev' : Str → Option Addr := zcv.2.2.2.2.2.2.2.2.2.2.2.2.1
noncomputable def evs' : Str → Option (List (Int × Int)) := zcv.2.2.2.2.2.2.2.2.2.2.2.2.2.1
noncomputable def key : Str := zcv.2.2.2.2.2.2.2.2.2.2.2.2.2.2.1
noncomputable def tk9 : Tok := zcv.2.2.2.2.2.2.2.2.2.2.2.2.2.2.2.1
noncomputable def l : Addr := zcv.2.2.2.2.2.2.2.2.2.2.2.2.2.2.2.2.1
noncomputable def ens : List (Int × Int) := zcv.2.2.2.2.2.2.2.2.2.2.2.2.2.2.2.2.2
theorem walk6 : zst5.1.1 Dv hv' D2 h2' vs ks m₁ h I oI oV' ext ev' evs' key tk9 l ens := by
  intro B F T hk CD N O n1 n2 n3 n4 d4 hS hX hevl hV TB zS zX zV zz ht0 ht hd hu retH hRV hEV z0x1 sx xv lS lX lV h1 h2 h3 h4 nn hst hck hdx z0x2 z0x3 z0x4 KX FG' B' X' T' qk ek tkN l0 l00 c2 tk2 F2 N2 kn kl kv ki kz l1 l2 off9 i tk ps' hoff hof2 hR' hsm hE' hpr TB' offI ltI hks hv F₁ hsome hl hen us un2 hml hEn hoffl hlen hR0 hfr hee e1 e2 e3 e4 R N₁ hck2 hdx2 hst2 O2 m5 hEn2 hml2 hRR eR m1 m2 m3 m4
  have mkp : Mk 155 := trivial
  rcases TB' with rfl | TB'
  · cases us with
    | nil =>
      k_steps
      subst eR
      exact ⟨_, _, _, _, rfl, by assumption, news_of (by assumption) (fun q hq => .tail _ hq), offI, rfl, oV', _, ext, ev', evs', rfl, hoff, hof2, hR', hsm, hE', pruneL_same kn hks hpr (by rw [hen, ents_nil hEn]), .inl rfl⟩
    | cons u us =>
      have hz9 : (List.toArray (u :: us)).size ≤ sizeLine := by rw [List.size_toArray, sizeLine_eq]; omega
      have hb9 := bisF_le (fun i => decide (-((ens[i]?).map (·.2)).getD 0 < -t)) (u :: us).length
      k_steps
      refine Held.in ?_
      refine bis_spec (vs := u :: us) (ks := fun i => -((ens[i]?).map (·.2)).getD 0) (by k_asm) (by k_asm) (by k_asm) (by k_asm) rfl (by k_asm) (by k_mem) (by k_mem) ?_ (by omega) (Nat.le_of_ble_eq_true rfl) (Nat.le_of_ble_eq_true rfl) ?_
      · intro p8 loose8 mean8 mg8 mb8 gd8 cn8 cs8 a8 ccd8 cl8 outer8 A8 base8 h08 L8 m8 s8 Q8 E8 i8 v8 B8 F8 X8 T8 hk8 N8 hv8 ret8
        obtain ⟨en8, hen8, ee, ed, eh1, eh2, et1, et2, eta, etx, eN, rfl, hee9, hed9, eo1, eo2⟩ := hEn2.get hv8
        refine wpAny_call ?_
        refine' kla_code ?k1 ?k2 ?k3 ?k4 ?k5 ?kA ?kF ?kK ?k6 ?k7 ?k8 ?k9 ?kB ?_ ?c2 ?c3 ?c4 ?c5
        case kA => exact rfl
        case kF => exact rfl
        case kK => assumption
        case k1 => exact B8
        case k2 => exact F8
        case k3 => exact X8
        case k4 => exact N8
        case k5 => exact T8
        case k6 => exact .head _
        case k7 => exact codeRec_news N8 (.tail _ (.head _)) (by assumption) (by assumption)
        case k8 => first | exact Nat.le_of_ble_eq_true rfl | k_room
        case k9 => exact rfl
        case c5 => decide
        case kB => exact locs rfl
        case c2 => exact rfl
        case c3 => exact rfl
        case c4 => exact rfl
        intro g' L' h' FG' F' N' B' X' T'
        (try dsimp only)
        (try k_fold)
        k_steps
        rw [show -en8.2 = -((ens[i8]?).map (·.2)).getD 0 by rw [hen8]; rfl]
        exact ret8 _ _ _ (by assumption) (by assumption)
      · intro r9 h9 tk9' F9 N9
        k_steps
        refine (fun (RR : RefD PySem.Challenge.rw_ji0060_02.row.prog w _ (upd ev' key (some _)) nV) (dd1 : _ = Data.fields _) => ?_) (by assumption) (by assumption)
        obtain ⟨N8, o8⟩ := exp_turn (by assumption) eR (by walk_at "m al") (by walk_at "m al") hof2
        refine ⟨_, _, _, _, rfl, by assumption, N8, ?_, rfl, _, _, _ :: _ :: ext, upd ev' key (some _), upd evs' key (some (ens.take (bisF (fun i => decide (-((ens[i]?).map (·.2)).getD 0 < -t)) (u :: us).length))), rfl, ?_, o8, RR, ?_, ?_, pruneL_step kn hks hpr hen hEn.len, .inr ⟨_, _, _, _, rfl, .tail _ (.head _), dd1, by assumption⟩⟩
        · intro p hp
          simp only [List.cons_append, List.mem_cons] at hp
          rcases hp with rfl | rfl | rfl | rfl | rfl | rfl | hp
          · exact e1
          · exact e2
          · exact e3
          · exact e4
          · show @Ne Nat _ I; omega
          · show @Ne Nat _ I; omega
          · exact m5 p (by rw [eR]; exact hp)
        · intro q hq
          rcases List.mem_cons.mp hq with rfl | hq
          · exact ⟨by show @Ne Nat _ S; omega, by show @Ne Nat _ X; omega, by show @Ne Nat _ V; omega, by show @Ne Nat _ 588; omega⟩
          rcases List.mem_cons.mp hq with rfl | hq
          · exact ⟨by show @Ne Nat _ S; omega, by show @Ne Nat _ X; omega, by show @Ne Nat _ V; omega, by show @Ne Nat _ 588; omega⟩
          · exact hoff q hq
        · intro k
          by_cases hk9 : k = key
          · subst hk9; rw [upd_same, ← hsm, hl]; rfl
          · rw [upd_other _ _ hk9]; exact hsm k
        · intro k
          by_cases hk9 : k = key
          · subst hk9
            rw [upd_same, upd_same]
            refine ⟨_, _, .head _, (hEn.take _).sub fun q hq _ => .tail _ (.tail _ hq), off_of sx xv (by omega), ?_⟩
            rw [List.length_take]; omega
          · rw [upd_other _ _ hk9, upd_other _ _ hk9]
            exact (hE' k).sub fun q hq _ => .tail _ (.tail _ hq)
  · obtain ⟨c9, oc9, vs9, t9, rfl, hc8, hd9, hv9⟩ := TB'
    have hc9 := hee _ hc8
    rw [← eR] at hc9
    cases us with
    | nil =>
      k_steps
      subst eR
      exact ⟨_, _, _, _, rfl, by assumption, news_of (by assumption) (fun q hq => .tail _ hq), offI, rfl, oV', _, ext, ev', evs', rfl, hoff, hof2, hR', hsm, hE', pruneL_same kn hks hpr (by rw [hen, ents_nil hEn]), .inr ⟨c9, oc9, vs9, t9, rfl, hc8, hd9, hv9⟩⟩
    | cons u us =>
      have hz9 : (List.toArray (u :: us)).size ≤ sizeLine := by rw [List.size_toArray, sizeLine_eq]; omega
      have hb9 := bisF_le (fun i => decide (-((ens[i]?).map (·.2)).getD 0 < -t)) (u :: us).length
      k_steps
      refine Held.in ?_
      refine bis_spec (vs := u :: us) (ks := fun i => -((ens[i]?).map (·.2)).getD 0) (by k_asm) (by k_asm) (by k_asm) (by k_asm) rfl (by k_asm) (by k_mem) (by k_mem) ?_ (by omega) (Nat.le_of_ble_eq_true rfl) (Nat.le_of_ble_eq_true rfl) ?_
      · intro p8 loose8 mean8 mg8 mb8 gd8 cn8 cs8 a8 ccd8 cl8 outer8 A8 base8 h08 L8 m8 s8 Q8 E8 i8 v8 B8 F8 X8 T8 hk8 N8 hv8 ret8
        obtain ⟨en8, hen8, ee, ed, eh1, eh2, et1, et2, eta, etx, eN, rfl, hee9, hed9, eo1, eo2⟩ := hEn2.get hv8
        refine wpAny_call ?_
        refine' kla_code ?k1 ?k2 ?k3 ?k4 ?k5 ?kA ?kF ?kK ?k6 ?k7 ?k8 ?k9 ?kB ?_ ?c2 ?c3 ?c4 ?c5
        case kA => exact rfl
        case kF => exact rfl
        case kK => assumption
        case k1 => exact B8
        case k2 => exact F8
        case k3 => exact X8
        case k4 => exact N8
        case k5 => exact T8
        case k6 => exact .head _
        case k7 => exact codeRec_news N8 (by repeat (first | exact hc9 | refine List.Mem.tail _ ?_)) hd9 hv9
        case k8 => first | exact Nat.le_of_ble_eq_true rfl | k_room
        case k9 => exact rfl
        case c5 => decide
        case kB => exact locs rfl
        case c2 => exact rfl
        case c3 => exact rfl
        case c4 => exact rfl
        intro g' L' h' FG' F' N' B' X' T'
        (try dsimp only)
        (try k_fold)
        k_steps
        rw [show -en8.2 = -((ens[i8]?).map (·.2)).getD 0 by rw [hen8]; rfl]
        exact ret8 _ _ _ (by assumption) (by assumption)
      · intro r9 h9 tk9' F9 N9
        k_steps
        refine (fun (RR : RefD PySem.Challenge.rw_ji0060_02.row.prog w _ (upd ev' key (some _)) nV) => ?_) (by assumption)
        obtain ⟨N8, o8⟩ := exp_turn2 (by assumption) eR (by walk_at "m al") hof2
        refine ⟨_, _, _, _, rfl, by assumption, N8, ?_, rfl, _, _, _ :: ext, upd ev' key (some _), upd evs' key (some (ens.take (bisF (fun i => decide (-((ens[i]?).map (·.2)).getD 0 < -t)) (u :: us).length))), rfl, ?_, o8, RR, ?_, ?_, pruneL_step kn hks hpr hen hEn.len, .inr ⟨c9, oc9, vs9, t9, rfl, .tail _ hc8, hd9, hv9⟩⟩
        · intro p hp
          simp only [List.cons_append, List.mem_cons] at hp
          rcases hp with rfl | rfl | rfl | rfl | rfl | hp
          · exact e1
          · exact e2
          · exact e3
          · exact e4
          · show @Ne Nat _ I; omega
          · exact m5 p (by rw [eR]; exact hp)
        · intro q hq
          rcases List.mem_cons.mp hq with rfl | hq
          · exact ⟨by show @Ne Nat _ S; omega, by show @Ne Nat _ X; omega, by show @Ne Nat _ V; omega, by show @Ne Nat _ 588; omega⟩
          · exact hoff q hq
        · intro k
          by_cases hk9 : k = key
          · subst hk9; rw [upd_same, ← hsm, hl]; rfl
          · rw [upd_other _ _ hk9]; exact hsm k
        · intro k
          by_cases hk9 : k = key
          · subst hk9
            rw [upd_same, upd_same]
            refine ⟨_, _, .head _, (hEn.take _).sub fun q hq _ => .tail _ hq, off_of sx xv (by omega), ?_⟩
            rw [List.length_take]; omega
          · rw [upd_other _ _ hk9, upd_other _ _ hk9]
            exact (hE' k).sub fun q hq _ => .tail _ hq
end k3
namespace k4
noncomputable def zcv : (Addr) × (Heap) × (Addr) × (Heap) × (List Value) × (List Str) × (Str → Option Value) × (Heap) × (Obj) × (Array Value) × (List (Addr × Obj)) × (Str → Option Addr) × (List (Addr × Obj)) := pick (neP inferInstance (neP inferInstance (neP inferInstance (neP inferInstance (neP inferInstance (neP inferInstance (neP inferInstance (neP inferInstance (neP inferInstance (neP inferInstance (neP inferInstance (neP inferInstance inferInstance)))))))))))) (fun v : (Addr) × (Heap) × (Addr) × (Heap) × (List Value) × (List Str) × (Str → Option Value) × (Heap) × (Obj) × (Array Value) × (List (Addr × Obj)) × (Str → Option Addr) × (List (Addr × Obj)) => zst5.1.2 (v.1) (v.2.1) (v.2.2.1) (v.2.2.2.1) (v.2.2.2.2.1) (v.2.2.2.2.2.1) (v.2.2.2.2.2.2.1) (v.2.2.2.2.2.2.2.1) (v.2.2.2.2.2.2.2.2.1) (v.2.2.2.2.2.2.2.2.2.1) (v.2.2.2.2.2.2.2.2.2.2.1) (v.2.2.2.2.2.2.2.2.2.2.2.1) (v.2.2.2.2.2.2.2.2.2.2.2.2)) 0
theorem zal (h : zst5.1.2 (zcv.1) (zcv.2.1) (zcv.2.2.1) (zcv.2.2.2.1) (zcv.2.2.2.2.1) (zcv.2.2.2.2.2.1) (zcv.2.2.2.2.2.2.1) (zcv.2.2.2.2.2.2.2.1) (zcv.2.2.2.2.2.2.2.2.1) (zcv.2.2.2.2.2.2.2.2.2.1) (zcv.2.2.2.2.2.2.2.2.2.2.1) (zcv.2.2.2.2.2.2.2.2.2.2.2.1) (zcv.2.2.2.2.2.2.2.2.2.2.2.2)) : ∀ u : (Addr) × (Heap) × (Addr) × (Heap) × (List Value) × (List Str) × (Str → Option Value) × (Heap) × (Obj) × (Array Value) × (List (Addr × Obj)) × (Str → Option Addr) × (List (Addr × Obj)), zst5.1.2 (u.1) (u.2.1) (u.2.2.1) (u.2.2.2.1) (u.2.2.2.2.1) (u.2.2.2.2.2.1) (u.2.2.2.2.2.2.1) (u.2.2.2.2.2.2.2.1) (u.2.2.2.2.2.2.2.2.1) (u.2.2.2.2.2.2.2.2.2.1) (u.2.2.2.2.2.2.2.2.2.2.1) (u.2.2.2.2.2.2.2.2.2.2.2.1) (u.2.2.2.2.2.2.2.2.2.2.2.2) := pick_all (P := fun v : (Addr) × (Heap) × (Addr) × (Heap) × (List Value) × (List Str) × (Str → Option Value) × (Heap) × (Obj) × (Array Value) × (List (Addr × Obj)) × (Str → Option Addr) × (List (Addr × Obj)) => zst5.1.2 (v.1) (v.2.1) (v.2.2.1) (v.2.2.2.1) (v.2.2.2.2.1) (v.2.2.2.2.2.1) (v.2.2.2.2.2.2.1) (v.2.2.2.2.2.2.2.1) (v.2.2.2.2.2.2.2.2.1) (v.2.2.2.2.2.2.2.2.2.1) (v.2.2.2.2.2.2.2.2.2.2.1) (v.2.2.2.2.2.2.2.2.2.2.2.1) (v.2.2.2.2.2.2.2.2.2.2.2.2)) h
noncomputable def Dv : Addr := zcv.1
noncomputable def hv' : Heap := zcv.2.1
noncomputable def D2 : Addr := zcv.2.2.1
noncomputable def h2' : Heap := zcv.2.2.2.1
noncomputable def vs : List Value := zcv.2.2.2.2.1
noncomputable def ks : List Str := zcv.2.2.2.2.2.1
noncomputable def m1' : Str → Option Value := zcv.2.2.2.2.2.2.1
noncomputable def h9 : Heap := zcv.2.2.2.2.2.2.2.1
noncomputable def oV' : Obj := zcv.2.2.2.2.2.2.2.2.1
noncomputable def ps' : Array Value := zcv.2.2.2.2.2.2.2.2.2.1
noncomputable def ext : List (Addr × Obj) := zcv.2.2.2.2.2.2.2.2.2.2.1
noncomputable def ev' : Str → Option Addr := zcv.2.2.2.2.2.2.2.2.2.2.2.1
noncomputable def R : List (Addr × Obj) := zcv.2.2.2.2.2.2.2.2.2.2.2.2
theorem walk7 : zst5.1.2 Dv hv' D2 h2' vs ks m1' h9 oV' ps' ext ev' R := by
  intro B F T hk CD N O n1 n2 n3 n4 d4 hS hX hevl hV TB zS zX zV zz ht0 ht hd hu retH hRV hEV z0x1 sx xv lS lX lV h1 h2 h3 h4 nn hst hck hdx z0x2 z0x3 z0x4 KX FG' B' X' T' qk ek tkN l0 l00 c2 tk2 F2 N2 kn kl kv ki kz l1 l2 off9 tk9 hoff hof2 hR' hsm hE' TB' F9 hfr N9 hck2 hdx2 hst2 O2 hRR eR m1 m2 m3 m4
  have mkp : Mk 155 := trivial
  k_steps
  rename_i Ev hv8 j0 j00 E2 e2' h8' tk8 us ks2 F8 N8 gn gl gv gi gz
  refine Held.in ?_
  refine iter_list (l := E2) (vs := us) (k := e2') (fun i m' nw => m' (Str.ofString "self") = some (.ref st) ∧ ∃ (oS' oX' : Obj), nw = (S, oS') :: (X, oX') :: (V, oV') :: (588, tabObj ps') :: (E2, listOf (List.toArray us) e2') :: (Ev, viewObj X) :: R ∧ IntD PySem.Challenge.rw_ji0060_02.row.prog w oS' (purgeL x t (ks2.take i) f) nS ∧ IntD PySem.Challenge.rw_ji0060_02.row.prog w oX' (purgeL x t (ks2.take i) x) nX) rfl (by assumption) (exp_order (by assumption)) ?_ ?_ ?_ ?_
  · rintro i m' nw ⟨_, oS', oX', rfl, _⟩
    exact .tail _ (.tail _ (.tail _ (.tail _ (.head _))))
  · refine ⟨rfl, oS, oX, rfl, ?_, ?_⟩
    · rw [List.take_zero, purgeL_nil]; exact hS
    · rw [List.take_zero, purgeL_nil]; exact hX
  · rintro i v m₁ news₁ h tk I oI hv ⟨pself, oS', oX', rfl, hS', hX'⟩ offI ltI F₁ N₁
    obtain ⟨key, tk7, hks, rfl⟩ := gv i v hv
    have hni : key ∉ ks2.take i := not_take gn hks
    have hxk : (x key).isSome = true := by rw [← gi]; exact List.mem_of_getElem? hks
    obtain ⟨y, hy⟩ := Option.isSome_iff_exists.mp hxk
    have hpx : purgeL x t (ks2.take i) x key = x key := by unfold purgeL; rw [if_neg (fun q => hni q.1)]
    have htk : ks2.take (i + 1) = ks2.take i ++ [key] := by rw [List.take_add_one, hks]; rfl
    have hsm9 : (purgeL x t (ks2.take i) x key).isSome = true := by rw [hpx]; exact hxk
    have e1 : @Ne Nat S I := offI (S, _) (by k_mem)
    have e2 : @Ne Nat X I := offI (X, _) (by k_mem)
    have e3 : @Ne Nat V I := offI (V, _) (by k_mem)
    have e4 : @Ne Nat 588 I := offI (588, _) (by k_mem)
    have e5 : @Ne Nat E2 I := offI (E2, _) (by k_mem)
    have e6 : @Ne Nat Ev I := offI (Ev, _) (by k_mem)
    have m5 : ∀ q ∈ R, q.1 ≠ I := fun q hq => offI q (by repeat (first | exact hq | refine List.Mem.tail _ ?_))
    have em := pin2 (Eq.refl m₁) pself
    rw [em] at F₁
    clear em pself
    have hzS9 : nS ≤ sizeLine := by rw [sizeLine_eq]; omega
    have hzX9 : nX ≤ sizeLine := by rw [sizeLine_eq]; omega
    have hof : ∀ (o1 o2 : Obj), ∀ p ∈ (S, o1) :: (X, o2) :: (V, oV') :: (588, tabObj ps') :: (E2, listOf (List.toArray us) e2') :: (Ev, viewObj X) :: R, p.1 ≠ I := fun o1 o2 p hp => by
      simp only [List.mem_cons] at hp
      rcases hp with rfl | rfl | rfl | rfl | rfl | rfl | hp
      · exact e1
      · exact e2
      · exact e3
      · exact e4
      · exact e5
      · exact e6
      · exact m5 p hp
    k_steps
    · refine (fun (c9 : (purgeL x t (ks2.take i) x key).getD 0 ≤ t) => ?_) (by assumption)
      rw [hpx] at c9
      exact ⟨_, _, _, _, rfl, by assumption, news_of (by assumption) (fun q hq => hq), hof _ _, rfl, _, _, rfl, by rw [htk, purgeL_step x t _ key f c9]; assumption, by rw [htk, purgeL_step x t _ key x c9]; assumption⟩
    · refine (fun (c9 : ¬ (purgeL x t (ks2.take i) x key).getD 0 ≤ t) => ?_) (by assumption)
      rw [hpx] at c9
      exact ⟨_, _, _, _, rfl, by assumption, news_of (by assumption) (fun q hq => hq), hof _ _, rfl, _, _, rfl, by rw [htk, purgeL_skip x t _ key f c9]; assumption, by rw [htk, purgeL_skip x t _ key x c9]; assumption⟩
  · rintro m' nw h tk ⟨pself, oS', oX', rfl, hS', hX'⟩ F₁ N₁
    rw [List.take_of_length_le (Nat.le_of_eq gl.symm), purgeL_all x t ks2 _ gi] at hS' hX'
    have al1 : AllLt E2 R := by walk_at "m al"
    have al2 : AllLt Ev R := by walk_at "m al"
    have al3 : AllLt D2 frz := by walk_at "m al"
    have al4 : AllLt Dv frz := by walk_at "m al"
    have hfR : ∀ q ∈ frz, q ∈ R := fun q hq => by rw [eR]; exact hfr q hq
    k_steps
    refine retH ((E2, listOf (List.toArray us) e2') :: (Ev, viewObj X) :: (ext ++ [(D2, listOf (List.toArray vs) c2), (Dv, viewObj V)])) oS' oX' oV' ps' _ _ (by assumption) (news_of (by assumption) ?_) ?_ ?_ hS' hX' ⟨ev', hR', fun k => (hE' k).sub fun q hq _ => ?_⟩ (TB'.sub fun q hq => ?_)
    · intro q hq
      rw [eR]
      simp only [List.cons_append, List.append_assoc, List.nil_append, List.mem_cons, List.mem_append] at hq ⊢
      rcases hq with h | h | h | h | h | h | h | h | h | h <;> simp [h]
    · intro p hp
      simp only [List.mem_cons, List.mem_append, List.not_mem_nil, or_false] at hp
      rcases hp with rfl | rfl | hp | rfl | rfl
      · exact ⟨by show @Ne Nat E2 S; omega, by show @Ne Nat E2 X; omega, by show @Ne Nat E2 V; omega, by show @Ne Nat E2 588; omega⟩
      · exact ⟨by show @Ne Nat Ev S; omega, by show @Ne Nat Ev X; omega, by show @Ne Nat Ev V; omega, by show @Ne Nat Ev 588; omega⟩
      · exact hoff p hp
      · exact off9 _ (.head _)
      · exact off9 _ (.tail _ (.head _))
    · intro p hp q hq
      simp only [List.mem_cons, List.mem_append, List.not_mem_nil, or_false] at hp
      rcases hp with rfl | rfl | hp | rfl | rfl
      · exact Nat.ne_of_gt (allLt_mem al1 q (hfR q hq))
      · exact Nat.ne_of_gt (allLt_mem al2 q (hfR q hq))
      · exact hof2 p hp q (.tail _ (.tail _ hq))
      · exact Nat.ne_of_gt (allLt_mem al3 q hq)
      · exact Nat.ne_of_gt (allLt_mem al4 q hq)
    · rcases List.mem_append.mp hq with h | h
      · exact List.mem_append_left _ (.tail _ (.tail _ (List.mem_append_left _ h)))
      · exact List.mem_append_right _ h
    · rcases List.mem_append.mp hq with h | h
      · exact List.mem_append_left _ (.tail _ (.tail _ (List.mem_append_left _ h)))
      · exact List.mem_append_right _ h
end k4
theorem up8 : zst2.1 ev dx t1 t2 t3 t4 oc od fd sl g' L' h' := zst5.2 (fun Dv hv' D2 h2' vs ks m₁ h I oI oV' ext ev' evs' key tk9 l ens => k3.zal k3.walk6 (Dv, hv', D2, h2', vs, ks, m₁, h, I, oI, oV', ext, ev', evs', key, tk9, l, ens)) (fun Dv hv' D2 h2' vs ks m1' h9 oV' ps' ext ev' R => k4.zal k4.walk7 (Dv, hv', D2, h2', vs, ks, m1', h9, oV', ps', ext, ev', R))
end k1
theorem up9 : exp_spec_St w p loose mean mg mb dp un gd cn cs a ccd cl outer A₀ base h₀ L m s Q E frz evl oS oX oV ps f x evs nS nX nV z st S X V clk t := zst2.2 (fun ev dx t1 t2 t3 t4 oc od fd sl g' L' h' => k1.zal k1.up8 (ev, dx, t1, t2, t3, t4, oc, od, fd, sl, g', L', h'))
end c_exp_spec
theorem exp_spec {w : World} {p : Program} {loose : List Str} {mean : ExcName → Option Value} {mg : Str → Option Value} {mb : Str → Option Value} {dp : Nat} {un : Nat} {gd : Option (List Code)} {cn : Str} {cs : Scope} {a : Addr} {ccd : Value} {cl : List (Str × Addr)} {outer : List Env} {A₀ : Around} {base : Heap} {h₀ : Heap} {L : Addr} {m : Str → Option Value} {s : Shared} {Q : Value → Shared → Prop} {E : Value → Shared → Prop} (B : Below A₀ base outer h₀) (F : Fr h₀ L s.heap m) (KX : (Mine.hd1.heap_39 w.params).In h₀) (T : Top p loose mean mg mb h₀) (hk : cs.kind = .function) {frz : List (Addr × Obj)} {evl : List (Addr × Obj)} {oS : Obj} {oX : Obj} {oV : Obj} {ps : Array Value} {f : Str → Option Int} {x : Str → Option Int} {evs : Str → Option (List (Int × Int))} {nS : Nat} {nX : Nat} {nV : Nat} {z : Nat} {st : Addr} {S : Addr} {X : Addr} {V : Addr} {clk : Addr} {t : Int} (CD : CodeHd base 592 588) (N : News h₀ L s.heap ((S, oS) :: (X, oX) :: (V, oV) :: (588, tabObj ps) :: frz)) (O : Store w frz st S X V clk t) (n1 : ∀ q ∈ frz, q.1 ≠ S) (n2 : ∀ q ∈ frz, q.1 ≠ X) (n3 : ∀ q ∈ frz, q.1 ≠ V) (n4 : ∀ q ∈ frz, q.1 ≠ 588) (d4 : @LT.lt Nat _ 588 S) (hS : IntD PySem.Challenge.rw_ji0060_02.row.prog w oS f nS) (hX : IntD PySem.Challenge.rw_ji0060_02.row.prog w oX x nX) (hevl : ∀ q ∈ evl, q ∈ frz) (hV : EvD PySem.Challenge.rw_ji0060_02.row.prog w evl S X V oV evs nV z) (TB : Tab588 evl ps) (zS : nS ≤ 1000000) (zX : nX ≤ 1000000) (zV : nV ≤ 1000000) (zz : z ≤ 1000000) (ht0 : 0 ≤ t) (ht : t < 1000000000000) (hd : dp ≤ 840) (hu : un ≤ 8400) (retH : ∀ ext oS' oX' oV' ps' h' tk', Fr h₀ L h' m → News h₀ L h' ((S, oS') :: (X, oX') :: (V, oV') :: (588, tabObj ps') :: (ext ++ frz)) → (∀ p ∈ ext, p.1 ≠ S ∧ p.1 ≠ X ∧ p.1 ≠ V ∧ p.1 ≠ 588) → (∀ p ∈ ext, ∀ q ∈ frz, p.1 ≠ q.1) → IntD PySem.Challenge.rw_ji0060_02.row.prog w oS' (purge x t f) nS → IntD PySem.Challenge.rw_ji0060_02.row.prog w oX' (purge x t x) nX → EvD PySem.Challenge.rw_ji0060_02.row.prog w (ext ++ evl) S X V oV' (prune t evs) nV z → Tab588 (ext ++ evl) ps' → Q .none { s with heap := h', toks := tk' }) :
    wpAny (model PySem.Challenge.rw_ji0060_02.row.prog w) (ktrTop dp un gd cn cs L a ccd cl outer) (call (.ref 593) [.ref st]) Q E s :=
  c_exp_spec.zal c_exp_spec.up9 (w, p, loose, mean, mg, mb, dp, un, gd, cn, cs, a, ccd, cl, outer, A₀, base, h₀, L, m, s, Q, E, frz, evl, oS, oX, oV, ps, f, x, evs, nS, nX, nV, z, st, S, X, V, clk, t) B F KX T hk CD N O n1 n2 n3 n4 d4 hS hX hevl hV TB zS zX zV zz ht0 ht hd hu retH
section
variable {w : World} {p : Program} {loose : List Str} {mean : ExcName → Option Value} {mg mb : Str → Option Value} {dp un : Nat} {gd : Option (List Code)} {cn : Str} {cs : Scope} {a : Addr} {ccd : Value} {cl : List (Str × Addr)} {outer : List Env} {A₀ : Around} {base h₀ : Heap} {L : Addr} {m : Str → Option Value} {s : Shared} {Q E : Value → Shared → Prop}
  (B : Below A₀ base outer h₀) (F : Fr h₀ L s.heap m) (KX : (Mine.hd1.heap_39 w.params).In h₀) (T : Top p loose mean mg mb h₀) (hk : cs.kind = .function)
include B F KX T hk
end

end
section
-- only 2
theorem said_p_gmw : True := by
  k_with "m al2" => first | walk_at "m al" | (refine allLt_up (by assumption) ?_; walk_at "m al")
  k_with "truthy ref" => (k_here; (fail_if_success (fail_if_success (have := (by with_reducible assumption : Mk 156)))); k_dflt (first
      | (refine' truthy_nil ?zyN ?zyl ?_; (case zyN => k_asm); (case zyl => k_mem); k_whole)
      | (refine' truthy_cons ?zyN ?zyl ?zyn ?_; (case zyN => k_asm); (case zyl => k_mem); (case zyn => omega); k_whole)); (intro tk'; (try dsimp only)))
  k_with "call builtin:dict.get" => (k_here; (fail_if_success (fail_if_success (have := (by with_reducible assumption : Mk 156)))); k_dflt (refine' rv_get ?zyN ?zyhp ?zyhd ?zylo ?zyhk ?_; (case zyN => k_asm); (case zyhp => k_mem); (case zyhd => assumption); (case zylo => assumption); (case zyhk => assumption); k_whole); (try dsimp only))
  k_with "call ref" => (k_here; (fail_if_success (fail_if_success (have := (by with_reducible assumption : Mk 156)))); (with_reducible show wpAny _ _ (call (Value.ref 551) _ _) _ _ _); refine Held.out ?_)
  k_with "call builtin:dict.get" => (k_here; (fail_if_success (fail_if_success (have := (by with_reducible assumption : Mk 156)))); k_dflt (refine' rv_get0 ?zyN ?zyhp ?zyhd ?zylo ?zyhk ?_; (case zyN => k_asm); (case zyhp => k_mem); (case zyhd => assumption); (case zylo => assumption); (case zyhk => assumption); k_whole); (try dsimp only))
  k_with "getItem ref int" => (k_here; (fail_if_success (fail_if_success (have := (by with_reducible assumption : Mk 156)))); k_dflt (refine' last_or ?zyN ?zyhl ?zyhn ?zyhz ?zyhv ?_; (case zyN => k_asm); (case zyhl => k_mem); (case zyhn => assumption); (case zyhz => assumption); (case zyhv => assumption); k_whole))
  k_with "m al" => first | assumption | exact And.right (by assumption) | exact And.right (And.right (by assumption)) | exact And.right (And.right (And.right (by assumption))) | exact And.right (And.right (And.right (And.right (by assumption)))) | exact And.right (And.right (And.right (And.right (And.right (by assumption))))) | exact And.right (And.right (And.right (And.right (And.right (And.right (by assumption)))))) | exact And.right (And.right (And.right (And.right (And.right (And.right (And.right (by assumption))))))) | exact And.right (And.right (And.right (And.right (And.right (And.right (And.right (And.right (by assumption))))))))
  trivial
theorem rv_get0 {prog : Program} {w : World} {A : Around} {E : Value → Shared → Prop} {s : Shared} {h₀ : Heap} {L d : Addr} {news : List (Addr × Obj)} {o : Obj} {f : Str → Option Addr} {n : Nat} {k : Str} {tk : Tok} {dflt : Value} {Q : Value → Shared → Prop} (N : News h₀ L s.heap news) (hp : (d, o) ∈ news) (hd : RefD prog w o f n) (lo : (d == sysModules) = false) (hk : f k = none)
    (h : Q dflt { s with toks := s.toks + 1 }) : wpAny (model prog w) A (call (.builtin "dict.get") [.ref d, .str k tk, dflt]) Q E s := by
  refine dv_get N hp hd lo fun v _ h1 => ?_
  rw [show v = dflt from h1 hk]
  exact h
theorem last_or {prog : Program} {w : World} {A : Around} {E : Value → Shared → Prop} {s : Shared} {h₀ : Heap} {L l : Addr} {k n : Nat} {news : List (Addr × Obj)} {us : List Value} {t : Tok} {v : Value} {Q : Value → Shared → Prop} (N : News h₀ L s.heap news) (hl : (l, listOf us.toArray k) ∈ news) (hn : n ≤ us.length) (hz : us.length ≤ 1000000)
    (hv : us[if n = 0 then us.length - 1 else n - 1]? = some v) (h : Q v s) : wpAny (model prog w) A (getItem (.ref l) (.int ((n : Int) - 1) t)) Q E s := by
  have hp : 0 < us.length := by
    obtain ⟨q, _⟩ := List.getElem?_eq_some_iff.mp hv
    omega
  by_cases h0 : n = 0
  · rw [if_pos h0] at hv
    refine wpAny_getItem_list_neg (News.isList N hl) (by omega) (by rw [List.size_toArray]; omega) (by omega) ?_ h
    rw [List.size_toArray, List.getElem?_toArray, ← hv]
    congr 1
    omega
  · rw [if_neg h0] at hv
    refine wpAny_getItem_list (News.isList N hl) (by omega) (by omega) ?_ h
    rw [List.getElem?_toArray, ← hv]
    congr 1
    omega
/-- how many events the moving window holds, and which is its oldest -/
noncomputable def mwN (ens : List (Int × Int)) (t e : Int) : Nat := bisF (fun i => decide (-((ens[i]?).map (·.1)).getD 0 < -(t - e))) ens.length
noncomputable def mwI (ens : List (Int × Int)) (t e : Int) : Nat := if mwN ens t e = 0 then ens.length - 1 else mwN ens t e - 1
noncomputable def MwP (o : Option (List (Int × Int))) (t e a n : Int) : Prop :=
  (o = none ∧ a = t ∧ n = 0) ∨ (o = some [] ∧ a = t ∧ n = 0) ∨ ∃ ens en, o = some ens ∧ ens ≠ [] ∧ ens[mwI ens t e]? = some en ∧ a = en.1 ∧ n = (mwN ens t e : Int)
noncomputable def Tab640 (news : List (Addr × Obj)) (ps : Array Value) : Prop :=
  ps = #[] ∨ ∃ c' oc vs t, ps = #[rawInt 502, rawInt 68, .ref c'] ∧ (c', oc) ∈ news ∧ oc.data = .fields vs ∧ vs[1]? = some (.str (Str.ofString "MemoryStorage.get_moving_window" ++ ".<locals>." ++ Str.ofString "<lambda>") t)
theorem Tab640.sub {news news' : List (Addr × Obj)} {ps : Array Value} (h : Tab640 news ps) (hs : ∀ q ∈ news, q ∈ news') : Tab640 news' ps := by
  rcases h with rfl | ⟨c', oc, vs, t, e, a, r⟩
  · exact .inl rfl
  · exact .inr ⟨c', oc, vs, t, e, hs _ a, r⟩
theorem ext_ne {x : Addr × Obj} {ext frz : List (Addr × Obj)} (h : AllLt x.1 frz) (g : ∀ p ∈ ext, ∀ q ∈ frz, p.1 ≠ q.1) : ∀ p ∈ x :: ext, ∀ q ∈ frz, p.1 ≠ q.1 := fun p hp q hq => by
  rcases List.mem_cons.mp hp with rfl | hp
  · exact Nat.ne_of_gt (allLt_mem h q hq)
  · exact g p hp q hq
theorem ext_off {x : Addr × Obj} {ext : List (Addr × Obj)} {V W : Addr} (h1 : @LT.lt Nat _ V x.1) (h2 : @LT.lt Nat _ W x.1) (g : ∀ p ∈ ext, @LT.lt Nat _ V p.1 ∧ @LT.lt Nat _ W p.1) : ∀ p ∈ x :: ext, @LT.lt Nat _ V p.1 ∧ @LT.lt Nat _ W p.1 := fun p hp => by
  rcases List.mem_cons.mp hp with rfl | hp
  · exact ⟨h1, h2⟩
  · exact g p hp
section
variable {w : World} {p : Program} {loose : List Str} {mean : ExcName → Option Value} {mg mb : Str → Option Value} {dp un : Nat} {gd : Option (List Code)} {cn : Str} {cs : Scope} {a : Addr} {ccd : Value} {cl : List (Str × Addr)} {outer : List Env} {A₀ : Around} {base h₀ : Heap} {L : Addr} {m : Str → Option Value} {s : Shared} {Q E : Value → Shared → Prop}
  (B : Below A₀ base outer h₀) (F : Fr h₀ L s.heap m) (KX : (Mine.hd1.heap_39 w.params).In h₀) (T : Top p loose mean mg mb h₀) (hk : cs.kind = .function)
include B F KX T hk

end
noncomputable def gmw_spec_St (w : World) (p : Program) (loose : List Str) (mean : ExcName → Option Value) (mg : Str → Option Value) (mb : Str → Option Value) (dp : Nat) (un : Nat) (gd : Option (List Code)) (cn : Str) (cs : Scope) (a : Addr) (ccd : Value) (cl : List (Str × Addr)) (outer : List Env) (A₀ : Around) (base : Heap) (h₀ : Heap) (L : Addr) (m : Str → Option Value) (s : Shared) (Q : Value → Shared → Prop) (E : Value → Shared → Prop) (frz : List (Addr × Obj)) (evl : List (Addr × Obj)) (oV : Obj) (evs : Str → Option (List (Int × Int))) (nV : Nat) (z : Nat) (st : Addr) (S : Addr) (X : Addr) (V : Addr) (clk : Addr) (t : Int) (e : Int) (limit : Int) (key : Str) (tp : Tok) (tl : Tok) (te : Tok) : Prop := ∀ (ps : Array Value) (B : Below A₀ base outer h₀) (F : Fr h₀ L s.heap m) (KX : (Mine.hd1.heap_39 w.params).In h₀) (T : Top p loose mean mg mb h₀) (hk : cs.kind = .function) (CD : CodeHd base 644 640) (N : News h₀ L s.heap ((V, oV) :: (640, tabObj ps) :: frz)) (O : Store w frz st S X V clk t) (n1 : ∀ q ∈ frz, q.1 ≠ V) (n2 : ∀ q ∈ frz, q.1 ≠ 640) (d4 : @LT.lt Nat _ 640 S) (hevl : ∀ q ∈ evl, q ∈ frz) (hV : EvD PySem.Challenge.rw_ji0060_02.row.prog w evl S X V oV evs nV z) (zV : nV ≤ 1000000) (zz : z ≤ 1000000) (he : 0 < e) (he2 : e < 1000000) (ht0 : 0 ≤ t) (ht : t < 1000000000000) (hd : dp ≤ 840) (hu : un ≤ 8400) (TB : Tab640 evl ps) (retH : ∀ a n q r1 r2 ext ps' h' tk', MwP (evs key) t e a n → Fr h₀ L h' m → News h₀ L h' ((q, { cls := .type "tuple", data := .seq #[.int a r1, .int n r2] }) :: (V, oV) :: (640, tabObj ps') :: (ext ++ frz)) → (∀ p ∈ ext, @LT.lt Nat _ V p.1 ∧ @LT.lt Nat _ 640 p.1) → (∀ p ∈ ext, ∀ q ∈ frz, p.1 ≠ q.1) → @LT.lt Nat _ V q → @LT.lt Nat _ 640 q → AllLt q frz → Tab640 (ext ++ evl) ps' → Q (.ref q) { s with heap := h', toks := tk' }), wpAny (model PySem.Challenge.rw_ji0060_02.row.prog w) (ktrTop dp un gd cn cs L a ccd cl outer) (call (.ref 645) [.ref st, .str key tp, .int limit tl, .int e te]) Q E s
namespace c_gmw_spec
noncomputable def zcv : (World) × (Program) × (List Str) × (ExcName → Option Value) × (Str → Option Value) × (Str → Option Value) × (Nat) × (Nat) × (Option (List Code)) × (Str) × (Scope) × (Addr) × (Value) × (List (Str × Addr)) × (List Env) × (Around) × (Heap) × (Heap) × (Addr) × (Str → Option Value) × (Shared) × (Value → Shared → Prop) × (Value → Shared → Prop) × (List (Addr × Obj)) × (List (Addr × Obj)) × (Obj) × (Str → Option (List (Int × Int))) × (Nat) × (Nat) × (Addr) × (Addr) × (Addr) × (Addr) × (Addr) × (Int) × (Int) × (Int) × (Str) × (Tok) × (Tok) × (Tok) := pick (neP neW (neP inferInstance (neP inferInstance (neP inferInstance (neP inferInstance (neP inferInstance (neP inferInstance (neP inferInstance (neP inferInstance (neP inferInstance (neP inferInstance (neP inferInstance (neP inferInstance (neP inferInstance (neP inferInstance (neP neA (neP inferInstance (neP inferInstance (neP inferInstance (neP inferInstance (neP neS (neP inferInstance (neP inferInstance (neP inferInstance (neP inferInstance (neP inferInstance (neP inferInstance (neP inferInstance (neP inferInstance (neP inferInstance (neP inferInstance (neP inferInstance (neP inferInstance (neP inferInstance (neP inferInstance (neP inferInstance (neP inferInstance (neP inferInstance (neP inferInstance (neP inferInstance inferInstance)))))))))))))))))))))))))))))))))))))))) (fun v : (World) × (Program) × (List Str) × (ExcName → Option Value) × (Str → Option Value) × (Str → Option Value) × (Nat) × (Nat) × (Option (List Code)) × (Str) × (Scope) × (Addr) × (Value) × (List (Str × Addr)) × (List Env) × (Around) × (Heap) × (Heap) × (Addr) × (Str → Option Value) × (Shared) × (Value → Shared → Prop) × (Value → Shared → Prop) × (List (Addr × Obj)) × (List (Addr × Obj)) × (Obj) × (Str → Option (List (Int × Int))) × (Nat) × (Nat) × (Addr) × (Addr) × (Addr) × (Addr) × (Addr) × (Int) × (Int) × (Int) × (Str) × (Tok) × (Tok) × (Tok) => gmw_spec_St (v.1) (v.2.1) (v.2.2.1) (v.2.2.2.1) (v.2.2.2.2.1) (v.2.2.2.2.2.1) (v.2.2.2.2.2.2.1) (v.2.2.2.2.2.2.2.1) (v.2.2.2.2.2.2.2.2.1) (v.2.2.2.2.2.2.2.2.2.1) (v.2.2.2.2.2.2.2.2.2.2.1) (v.2.2.2.2.2.2.2.2.2.2.2.1) (v.2.2.2.2.2.2.2.2.2.2.2.2.1) (v.2.2.2.2.2.2.2.2.2.2.2.2.2.1) (v.2.2.2.2.2.2.2.2.2.2.2.2.2.2.1) (v.2.2.2.2.2.2.2.2.2.2.2.2.2.2.2.1) (v.2.2.2.2.2.2.2.2.2.2.2.2.2.2.2.2.1) (v.2.2.2.2.2.2.2.2.2.2.2.2.2.2.2.2.2.1) (v.2.2.2.2.2.2.2.2.2.2.2.2.2.2.2.2.2.2.1) (v.2.2.2.2.2.2.2.2.2.2.2.2.2.2.2.2.2.2.2.1) (v.2.2.2.2.2.2.2.2.2.2.2.2.2.2.2.2.2.2.2.2.1) (v.2.2.2.2.2.2.2.2.2.2.2.2.2.2.2.2.2.2.2.2.2.1) (v.2.2.2.2.2.2.2.2.2.2.2.2.2.2.2.2.2.2.2.2.2.2.1) (v.2.2.2.2.2.2.2.2.2.2.2.2.2.2.2.2.2.2.2.2.2.2.2.1) (v.2.2.2.2.2.2.2.2.2.2.2.2.2.2.2.2.2.2.2.2.2.2.2.2.1) (v.2.2.2.2.2.2.2.2.2.2.2.2.2.2.2.2.2.2.2.2.2.2.2.2.2.1) (v.2.2.2.2.2.2.2.2.2.2.2.2.2.2.2.2.2.2.2.2.2.2.2.2.2.2.1) (v.2.2.2.2.2.2.2.2.2.2.2.2.2.2.2.2.2.2.2.2.2.2.2.2.2.2.2.1) (v.2.2.2.2.2.2.2.2.2.2.2.2.2.2.2.2.2.2.2.2.2.2.2.2.2.2.2.2.1) (v.2.2.2.2.2.2.2.2.2.2.2.2.2.2.2.2.2.2.2.2.2.2.2.2.2.2.2.2.2.1) (v.2.2.2.2.2.2.2.2.2.2.2.2.2.2.2.2.2.2.2.2.2.2.2.2.2.2.2.2.2.2.1) (v.2.2.2.2.2.2.2.2.2.2.2.2.2.2.2.2.2.2.2.2.2.2.2.2.2.2.2.2.2.2.2.1) (v.2.2.2.2.2.2.2.2.2.2.2.2.2.2.2.2.2.2.2.2.2.2.2.2.2.2.2.2.2.2.2.2.1) (v.2.2.2.2.2.2.2.2.2.2.2.2.2.2.2.2.2.2.2.2.2.2.2.2.2.2.2.2.2.2.2.2.2.1) (v.2.2.2.2.2.2.2.2.2.2.2.2.2.2.2.2.2.2.2.2.2.2.2.2.2.2.2.2.2.2.2.2.2.2.1) (v.2.2.2.2.2.2.2.2.2.2.2.2.2.2.2.2.2.2.2.2.2.2.2.2.2.2.2.2.2.2.2.2.2.2.2.1) (v.2.2.2.2.2.2.2.2.2.2.2.2.2.2.2.2.2.2.2.2.2.2.2.2.2.2.2.2.2.2.2.2.2.2.2.2.1) (v.2.2.2.2.2.2.2.2.2.2.2.2.2.2.2.2.2.2.2.2.2.2.2.2.2.2.2.2.2.2.2.2.2.2.2.2.2.1) (v.2.2.2.2.2.2.2.2.2.2.2.2.2.2.2.2.2.2.2.2.2.2.2.2.2.2.2.2.2.2.2.2.2.2.2.2.2.2.1) (v.2.2.2.2.2.2.2.2.2.2.2.2.2.2.2.2.2.2.2.2.2.2.2.2.2.2.2.2.2.2.2.2.2.2.2.2.2.2.2.1) (v.2.2.2.2.2.2.2.2.2.2.2.2.2.2.2.2.2.2.2.2.2.2.2.2.2.2.2.2.2.2.2.2.2.2.2.2.2.2.2.2)) 0
theorem zal (h : gmw_spec_St (zcv.1) (zcv.2.1) (zcv.2.2.1) (zcv.2.2.2.1) (zcv.2.2.2.2.1) (zcv.2.2.2.2.2.1) (zcv.2.2.2.2.2.2.1) (zcv.2.2.2.2.2.2.2.1) (zcv.2.2.2.2.2.2.2.2.1) (zcv.2.2.2.2.2.2.2.2.2.1) (zcv.2.2.2.2.2.2.2.2.2.2.1) (zcv.2.2.2.2.2.2.2.2.2.2.2.1) (zcv.2.2.2.2.2.2.2.2.2.2.2.2.1) (zcv.2.2.2.2.2.2.2.2.2.2.2.2.2.1) (zcv.2.2.2.2.2.2.2.2.2.2.2.2.2.2.1) (zcv.2.2.2.2.2.2.2.2.2.2.2.2.2.2.2.1) (zcv.2.2.2.2.2.2.2.2.2.2.2.2.2.2.2.2.1) (zcv.2.2.2.2.2.2.2.2.2.2.2.2.2.2.2.2.2.1) (zcv.2.2.2.2.2.2.2.2.2.2.2.2.2.2.2.2.2.2.1) (zcv.2.2.2.2.2.2.2.2.2.2.2.2.2.2.2.2.2.2.2.1) (zcv.2.2.2.2.2.2.2.2.2.2.2.2.2.2.2.2.2.2.2.2.1) (zcv.2.2.2.2.2.2.2.2.2.2.2.2.2.2.2.2.2.2.2.2.2.1) (zcv.2.2.2.2.2.2.2.2.2.2.2.2.2.2.2.2.2.2.2.2.2.2.1) (zcv.2.2.2.2.2.2.2.2.2.2.2.2.2.2.2.2.2.2.2.2.2.2.2.1) (zcv.2.2.2.2.2.2.2.2.2.2.2.2.2.2.2.2.2.2.2.2.2.2.2.2.1) (zcv.2.2.2.2.2.2.2.2.2.2.2.2.2.2.2.2.2.2.2.2.2.2.2.2.2.1) (zcv.2.2.2.2.2.2.2.2.2.2.2.2.2.2.2.2.2.2.2.2.2.2.2.2.2.2.1) (zcv.2.2.2.2.2.2.2.2.2.2.2.2.2.2.2.2.2.2.2.2.2.2.2.2.2.2.2.1) (zcv.2.2.2.2.2.2.2.2.2.2.2.2.2.2.2.2.2.2.2.2.2.2.2.2.2.2.2.2.1) (zcv.2.2.2.2.2.2.2.2.2.2.2.2.2.2.2.2.2.2.2.2.2.2.2.2.2.2.2.2.2.1) (zcv.2.2.2.2.2.2.2.2.2.2.2.2.2.2.2.2.2.2.2.2.2.2.2.2.2.2.2.2.2.2.1) (zcv.2.2.2.2.2.2.2.2.2.2.2.2.2.2.2.2.2.2.2.2.2.2.2.2.2.2.2.2.2.2.2.1) (zcv.2.2.2.2.2.2.2.2.2.2.2.2.2.2.2.2.2.2.2.2.2.2.2.2.2.2.2.2.2.2.2.2.1) (zcv.2.2.2.2.2.2.2.2.2.2.2.2.2.2.2.2.2.2.2.2.2.2.2.2.2.2.2.2.2.2.2.2.2.1) (zcv.2.2.2.2.2.2.2.2.2.2.2.2.2.2.2.2.2.2.2.2.2.2.2.2.2.2.2.2.2.2.2.2.2.2.1) (zcv.2.2.2.2.2.2.2.2.2.2.2.2.2.2.2.2.2.2.2.2.2.2.2.2.2.2.2.2.2.2.2.2.2.2.2.1) (zcv.2.2.2.2.2.2.2.2.2.2.2.2.2.2.2.2.2.2.2.2.2.2.2.2.2.2.2.2.2.2.2.2.2.2.2.2.1) (zcv.2.2.2.2.2.2.2.2.2.2.2.2.2.2.2.2.2.2.2.2.2.2.2.2.2.2.2.2.2.2.2.2.2.2.2.2.2.1) (zcv.2.2.2.2.2.2.2.2.2.2.2.2.2.2.2.2.2.2.2.2.2.2.2.2.2.2.2.2.2.2.2.2.2.2.2.2.2.2.1) (zcv.2.2.2.2.2.2.2.2.2.2.2.2.2.2.2.2.2.2.2.2.2.2.2.2.2.2.2.2.2.2.2.2.2.2.2.2.2.2.2.1) (zcv.2.2.2.2.2.2.2.2.2.2.2.2.2.2.2.2.2.2.2.2.2.2.2.2.2.2.2.2.2.2.2.2.2.2.2.2.2.2.2.2)) : ∀ u : (World) × (Program) × (List Str) × (ExcName → Option Value) × (Str → Option Value) × (Str → Option Value) × (Nat) × (Nat) × (Option (List Code)) × (Str) × (Scope) × (Addr) × (Value) × (List (Str × Addr)) × (List Env) × (Around) × (Heap) × (Heap) × (Addr) × (Str → Option Value) × (Shared) × (Value → Shared → Prop) × (Value → Shared → Prop) × (List (Addr × Obj)) × (List (Addr × Obj)) × (Obj) × (Str → Option (List (Int × Int))) × (Nat) × (Nat) × (Addr) × (Addr) × (Addr) × (Addr) × (Addr) × (Int) × (Int) × (Int) × (Str) × (Tok) × (Tok) × (Tok), gmw_spec_St (u.1) (u.2.1) (u.2.2.1) (u.2.2.2.1) (u.2.2.2.2.1) (u.2.2.2.2.2.1) (u.2.2.2.2.2.2.1) (u.2.2.2.2.2.2.2.1) (u.2.2.2.2.2.2.2.2.1) (u.2.2.2.2.2.2.2.2.2.1) (u.2.2.2.2.2.2.2.2.2.2.1) (u.2.2.2.2.2.2.2.2.2.2.2.1) (u.2.2.2.2.2.2.2.2.2.2.2.2.1) (u.2.2.2.2.2.2.2.2.2.2.2.2.2.1) (u.2.2.2.2.2.2.2.2.2.2.2.2.2.2.1) (u.2.2.2.2.2.2.2.2.2.2.2.2.2.2.2.1) (u.2.2.2.2.2.2.2.2.2.2.2.2.2.2.2.2.1) (u.2.2.2.2.2.2.2.2.2.2.2.2.2.2.2.2.2.1) (u.2.2.2.2.2.2.2.2.2.2.2.2.2.2.2.2.2.2.1) (u.2.2.2.2.2.2.2.2.2.2.2.2.2.2.2.2.2.2.2.1) (u.2.2.2.2.2.2.2.2.2.2.2.2.2.2.2.2.2.2.2.2.1) (u.2.2.2.2.2.2.2.2.2.2.2.2.2.2.2.2.2.2.2.2.2.1) (u.2.2.2.2.2.2.2.2.2.2.2.2.2.2.2.2.2.2.2.2.2.2.1) (u.2.2.2.2.2.2.2.2.2.2.2.2.2.2.2.2.2.2.2.2.2.2.2.1) (u.2.2.2.2.2.2.2.2.2.2.2.2.2.2.2.2.2.2.2.2.2.2.2.2.1) (u.2.2.2.2.2.2.2.2.2.2.2.2.2.2.2.2.2.2.2.2.2.2.2.2.2.1) (u.2.2.2.2.2.2.2.2.2.2.2.2.2.2.2.2.2.2.2.2.2.2.2.2.2.2.1) (u.2.2.2.2.2.2.2.2.2.2.2.2.2.2.2.2.2.2.2.2.2.2.2.2.2.2.2.1) (u.2.2.2.2.2.2.2.2.2.2.2.2.2.2.2.2.2.2.2.2.2.2.2.2.2.2.2.2.1) (u.2.2.2.2.2.2.2.2.2.2.2.2.2.2.2.2.2.2.2.2.2.2.2.2.2.2.2.2.2.1) (u.2.2.2.2.2.2.2.2.2.2.2.2.2.2.2.2.2.2.2.2.2.2.2.2.2.2.2.2.2.2.1) (u.2.2.2.2.2.2.2.2.2.2.2.2.2.2.2.2.2.2.2.2.2.2.2.2.2.2.2.2.2.2.2.1) (u.2.2.2.2.2.2.2.2.2.2.2.2.2.2.2.2.2.2.2.2.2.2.2.2.2.2.2.2.2.2.2.2.1) (u.2.2.2.2.2.2.2.2.2.2.2.2.2.2.2.2.2.2.2.2.2.2.2.2.2.2.2.2.2.2.2.2.2.1) (u.2.2.2.2.2.2.2.2.2.2.2.2.2.2.2.2.2.2.2.2.2.2.2.2.2.2.2.2.2.2.2.2.2.2.1) (u.2.2.2.2.2.2.2.2.2.2.2.2.2.2.2.2.2.2.2.2.2.2.2.2.2.2.2.2.2.2.2.2.2.2.2.1) (u.2.2.2.2.2.2.2.2.2.2.2.2.2.2.2.2.2.2.2.2.2.2.2.2.2.2.2.2.2.2.2.2.2.2.2.2.1) (u.2.2.2.2.2.2.2.2.2.2.2.2.2.2.2.2.2.2.2.2.2.2.2.2.2.2.2.2.2.2.2.2.2.2.2.2.2.1) (u.2.2.2.2.2.2.2.2.2.2.2.2.2.2.2.2.2.2.2.2.2.2.2.2.2.2.2.2.2.2.2.2.2.2.2.2.2.2.1) (u.2.2.2.2.2.2.2.2.2.2.2.2.2.2.2.2.2.2.2.2.2.2.2.2.2.2.2.2.2.2.2.2.2.2.2.2.2.2.2.1) (u.2.2.2.2.2.2.2.2.2.2.2.2.2.2.2.2.2.2.2.2.2.2.2.2.2.2.2.2.2.2.2.2.2.2.2.2.2.2.2.2) := pick_all (P := fun v : (World) × (Program) × (List Str) × (ExcName → Option Value) × (Str → Option Value) × (Str → Option Value) × (Nat) × (Nat) × (Option (List Code)) × (Str) × (Scope) × (Addr) × (Value) × (List (Str × Addr)) × (List Env) × (Around) × (Heap) × (Heap) × (Addr) × (Str → Option Value) × (Shared) × (Value → Shared → Prop) × (Value → Shared → Prop) × (List (Addr × Obj)) × (List (Addr × Obj)) × (Obj) × (Str → Option (List (Int × Int))) × (Nat) × (Nat) × (Addr) × (Addr) × (Addr) × (Addr) × (Addr) × (Int) × (Int) × (Int) × (Str) × (Tok) × (Tok) × (Tok) => gmw_spec_St (v.1) (v.2.1) (v.2.2.1) (v.2.2.2.1) (v.2.2.2.2.1) (v.2.2.2.2.2.1) (v.2.2.2.2.2.2.1) (v.2.2.2.2.2.2.2.1) (v.2.2.2.2.2.2.2.2.1) (v.2.2.2.2.2.2.2.2.2.1) (v.2.2.2.2.2.2.2.2.2.2.1) (v.2.2.2.2.2.2.2.2.2.2.2.1) (v.2.2.2.2.2.2.2.2.2.2.2.2.1) (v.2.2.2.2.2.2.2.2.2.2.2.2.2.1) (v.2.2.2.2.2.2.2.2.2.2.2.2.2.2.1) (v.2.2.2.2.2.2.2.2.2.2.2.2.2.2.2.1) (v.2.2.2.2.2.2.2.2.2.2.2.2.2.2.2.2.1) (v.2.2.2.2.2.2.2.2.2.2.2.2.2.2.2.2.2.1) (v.2.2.2.2.2.2.2.2.2.2.2.2.2.2.2.2.2.2.1) (v.2.2.2.2.2.2.2.2.2.2.2.2.2.2.2.2.2.2.2.1) (v.2.2.2.2.2.2.2.2.2.2.2.2.2.2.2.2.2.2.2.2.1) (v.2.2.2.2.2.2.2.2.2.2.2.2.2.2.2.2.2.2.2.2.2.1) (v.2.2.2.2.2.2.2.2.2.2.2.2.2.2.2.2.2.2.2.2.2.2.1) (v.2.2.2.2.2.2.2.2.2.2.2.2.2.2.2.2.2.2.2.2.2.2.2.1) (v.2.2.2.2.2.2.2.2.2.2.2.2.2.2.2.2.2.2.2.2.2.2.2.2.1) (v.2.2.2.2.2.2.2.2.2.2.2.2.2.2.2.2.2.2.2.2.2.2.2.2.2.1) (v.2.2.2.2.2.2.2.2.2.2.2.2.2.2.2.2.2.2.2.2.2.2.2.2.2.2.1) (v.2.2.2.2.2.2.2.2.2.2.2.2.2.2.2.2.2.2.2.2.2.2.2.2.2.2.2.1) (v.2.2.2.2.2.2.2.2.2.2.2.2.2.2.2.2.2.2.2.2.2.2.2.2.2.2.2.2.1) (v.2.2.2.2.2.2.2.2.2.2.2.2.2.2.2.2.2.2.2.2.2.2.2.2.2.2.2.2.2.1) (v.2.2.2.2.2.2.2.2.2.2.2.2.2.2.2.2.2.2.2.2.2.2.2.2.2.2.2.2.2.2.1) (v.2.2.2.2.2.2.2.2.2.2.2.2.2.2.2.2.2.2.2.2.2.2.2.2.2.2.2.2.2.2.2.1) (v.2.2.2.2.2.2.2.2.2.2.2.2.2.2.2.2.2.2.2.2.2.2.2.2.2.2.2.2.2.2.2.2.1) (v.2.2.2.2.2.2.2.2.2.2.2.2.2.2.2.2.2.2.2.2.2.2.2.2.2.2.2.2.2.2.2.2.2.1) (v.2.2.2.2.2.2.2.2.2.2.2.2.2.2.2.2.2.2.2.2.2.2.2.2.2.2.2.2.2.2.2.2.2.2.1) (v.2.2.2.2.2.2.2.2.2.2.2.2.2.2.2.2.2.2.2.2.2.2.2.2.2.2.2.2.2.2.2.2.2.2.2.1) (v.2.2.2.2.2.2.2.2.2.2.2.2.2.2.2.2.2.2.2.2.2.2.2.2.2.2.2.2.2.2.2.2.2.2.2.2.1) (v.2.2.2.2.2.2.2.2.2.2.2.2.2.2.2.2.2.2.2.2.2.2.2.2.2.2.2.2.2.2.2.2.2.2.2.2.2.1) (v.2.2.2.2.2.2.2.2.2.2.2.2.2.2.2.2.2.2.2.2.2.2.2.2.2.2.2.2.2.2.2.2.2.2.2.2.2.2.1) (v.2.2.2.2.2.2.2.2.2.2.2.2.2.2.2.2.2.2.2.2.2.2.2.2.2.2.2.2.2.2.2.2.2.2.2.2.2.2.2.1) (v.2.2.2.2.2.2.2.2.2.2.2.2.2.2.2.2.2.2.2.2.2.2.2.2.2.2.2.2.2.2.2.2.2.2.2.2.2.2.2.2)) h
noncomputable def w : World := zcv.1
noncomputable def p : Program := zcv.2.1
noncomputable def loose : List Str := zcv.2.2.1
noncomputable def mean : ExcName → Option Value := zcv.2.2.2.1
noncomputable def mg : Str → Option Value := zcv.2.2.2.2.1
noncomputable def mb : Str → Option Value := zcv.2.2.2.2.2.1
noncomputable def dp : Nat := zcv.2.2.2.2.2.2.1
noncomputable def un : Nat := zcv.2.2.2.2.2.2.2.1
noncomputable def gd : Option (List Code) := zcv.2.2.2.2.2.2.2.2.1
noncomputable def cn : Str := zcv.2.2.2.2.2.2.2.2.2.1
noncomputable def cs : Scope := zcv.2.2.2.2.2.2.2.2.2.2.1
noncomputable def a : Addr := zcv.2.2.2.2.2.2.2.2.2.2.2.1
noncomputable def ccd : Value := zcv.2.2.2.2.2.2.2.2.2.2.2.2.1
noncomputable def cl : List (Str × Addr) := zcv.2.2.2.2.2.2.2.2.2.2.2.2.2.1
noncomputable def outer : List Env := zcv.2.2.2.2.2.2.2.2.2.2.2.2.2.2.1
noncomputable def A₀ : Around := zcv.2.2.2.2.2.2.2.2.2.2.2.2.2.2.2.1
noncomputable def base : Heap := zcv.2.2.2.2.2.2.2.2.2.2.2.2.2.2.2.2.1
noncomputable def h₀ : Heap := zcv.2.2.2.2.2.2.2.2.2.2.2.2.2.2.2.2.2.1
noncomputable def L : Addr := zcv.2.2.2.2.2.2.2.2.2.2.2.2.2.2.2.2.2.2.1
noncomputable def m : Str → Option Value := zcv.2.2.2.2.2.2.2.2.2.2.2.2.2.2.2.2.2.2.2.1
noncomputable def s : Shared := zcv.2.2.2.2.2.2.2.2.2.2.2.2.2.2.2.2.2.2.2.2.1
noncomputable def Q : Value → Shared → Prop := zcv.2.2.2.2.2.2.2.2.2.2.2.2.2.2.2.2.2.2.2.2.2.1
noncomputable def E : Value → Shared → Prop := zcv.2.2.2.2.2.2.2.2.2.2.2.2.2.2.2.2.2.2.2.2.2.2.1
noncomputable def frz : List (Addr × Obj) := zcv.2.2.2.2.2.2.2.2.2.2.2.2.2.2.2.2.2.2.2.2.2.2.2.1
noncomputable def evl : List (Addr × Obj) := zcv.2.2.2.2.2.2.2.2.2.2.2.2.2.2.2.2.2.2.2.2.2.2.2.2.1
noncomputable def oV : Obj := zcv.2.2.2.2.2.2.2.2.2.2.2.2.2.2.2.2.2.2.2.2.2.2.2.2.2.1
noncomputable def evs : Str → Option (List (Int × Int)) := zcv.2.2.2.2.2.2.2.2.2.2.2.2.2.2.2.2.2.2.2.2.2.2.2.2.2.2.1
noncomputable def nV : Nat := zcv.2.2.2.2.2.2.2.2.2.2.2.2.2.2.2.2.2.2.2.2.2.2.2.2.2.2.2.1
noncomputable def z : Nat := zcv.2.2.2.2.2.2.2.2.2.2.2.2.2.2.2.2.2.2.2.2.2.2.2.2.2.2.2.2.1
noncomputable def st : Addr := zcv.2.2.2.2.2.2.2.2.2.2.2.2.2.2.2.2.2.2.2.2.2.2.2.2.2.2.2.2.2.1
noncomputable def S : Addr := zcv.2.2.2.2.2.2.2.2.2.2.2.2.2.2.2.2.2.2.2.2.2.2.2.2.2.2.2.2.2.2.1
noncomputable def X : Addr := zcv.2.2.2.2.2.2.2.2.2.2.2.2.2.2.2.2.2.2.2.2.2.2.2.2.2.2.2.2.2.2.2.1
noncomputable def V : Addr := zcv.2.2.2.2.2.2.2.2.2.2.2.2.2.2.2.2.2.2.2.2.2.2.2.2.2.2.2.2.2.2.2.2.1
noncomputable def clk : Addr := zcv.2.2.2.2.2.2.2.2.2.2.2.2.2.2.2.2.2.2.2.2.2.2.2.2.2.2.2.2.2.2.2.2.2.1
noncomputable def t : Int := zcv.2.2.2.2.2.2.2.2.2.2.2.2.2.2.2.2.2.2.2.2.2.2.2.2.2.2.2.2.2.2.2.2.2.2.1
noncomputable def e : Int := zcv.2.2.2.2.2.2.2.2.2.2.2.2.2.2.2.2.2.2.2.2.2.2.2.2.2.2.2.2.2.2.2.2.2.2.2.1
noncomputable def limit : Int := zcv.2.2.2.2.2.2.2.2.2.2.2.2.2.2.2.2.2.2.2.2.2.2.2.2.2.2.2.2.2.2.2.2.2.2.2.2.1
noncomputable def key : Str := zcv.2.2.2.2.2.2.2.2.2.2.2.2.2.2.2.2.2.2.2.2.2.2.2.2.2.2.2.2.2.2.2.2.2.2.2.2.2.1
noncomputable def tp : Tok := zcv.2.2.2.2.2.2.2.2.2.2.2.2.2.2.2.2.2.2.2.2.2.2.2.2.2.2.2.2.2.2.2.2.2.2.2.2.2.2.1
noncomputable def tl : Tok := zcv.2.2.2.2.2.2.2.2.2.2.2.2.2.2.2.2.2.2.2.2.2.2.2.2.2.2.2.2.2.2.2.2.2.2.2.2.2.2.2.1
noncomputable def te : Tok := zcv.2.2.2.2.2.2.2.2.2.2.2.2.2.2.2.2.2.2.2.2.2.2.2.2.2.2.2.2.2.2.2.2.2.2.2.2.2.2.2.2
theorem walk1 : gmw_spec_St w p loose mean mg mb dp un gd cn cs a ccd cl outer A₀ base h₀ L m s Q E frz evl oV evs nV z st S X V clk t e limit key tp tl te := by
  intro ps B F KX T hk CD N O n1 n2 d4 hevl hV zV zz he he2 ht0 ht hd hu TB retH
  have mkp : Mk 156 := trivial
  refine lower ?_ hd hu
  obtain ⟨ev, hRV, hEV⟩ := id hV
  have O'' := O
  obtain ⟨⟨dx, h1, h2, h3, h4, t1, t2, t3, t4, nn, oc, od, fd, sl, hst, hck, hdx, _, _, _⟩, _, sx, xv, lS, lX, lV⟩ := O''
  have hk0 := hEV key
  revert KX; k_fill; intro KX
  cases hek : ev key with
  | none =>
    refine wpAny_call ?_
    walk_at "m enter"
    have hen : evs key = none := by
      cases q : evs key with
      | none => rfl
      | some y => rw [hek, q] at hk0; exact hk0.elim
    k_steps
    exact retH _ _ _ _ _ [_] _ _ _ (.inl ⟨hen, rfl, rfl⟩) (by assumption) (news_of (by assumption) (subCons (List.mem_cons_self ..) (subCons (by k_mem) (subCons (by k_mem) (subCons (by k_mem) fun q hq => by repeat (first | exact hq | refine List.Mem.tail _ ?_)))))) (ext_off (by walk_at "m lt") (by walk_at "m lt") fun p hp => nomatch hp) (ext_ne (by walk_at "m al") fun p hp => nomatch hp) (by walk_at "m lt") (by walk_at "m lt") (by walk_at "m al") (TB.sub fun q hq => .tail _ hq)
  | some l =>
    rw [hek] at hk0
    cases hen : evs key with
    | none => rw [hen] at hk0; exact hk0.elim
    | some ens =>
      rw [hen] at hk0
      obtain ⟨us, vn, hml0, hEn, hoff, hlen⟩ := hk0
      have hml := hevl _ hml0
      cases us with
      | nil =>
        refine wpAny_call ?_
        walk_at "m enter"
        have hen0 : ens = [] := List.eq_nil_of_length_eq_zero (by rw [← hEn.len]; rfl)
        k_steps
        exact retH _ _ _ _ _ [_] _ _ _ (.inr (.inl ⟨by rw [hen, hen0], rfl, rfl⟩)) (by assumption) (news_of (by assumption) (subCons (List.mem_cons_self ..) (subCons (by k_mem) (subCons (by k_mem) (subCons (by k_mem) fun q hq => by repeat (first | exact hq | refine List.Mem.tail _ ?_)))))) (ext_off (by walk_at "m lt") (by walk_at "m lt") fun p hp => nomatch hp) (ext_ne (by walk_at "m al") fun p hp => nomatch hp) (by walk_at "m lt") (by walk_at "m lt") (by walk_at "m al") (TB.sub fun q hq => .tail _ hq)
      | cons u us =>
        have hz9 : (List.toArray (u :: us)).size ≤ sizeLine := by rw [List.size_toArray, sizeLine_eq]; omega
        have hb9 := bisF_le (fun i => decide (-((ens[i]?).map (·.1)).getD 0 < -(t - e))) (u :: us).length
        have hEn2 := hEn.sub (news' := frz) fun q hq _ => hevl q hq
        have hlen9 : (u :: us).length = ens.length := hEn.len
        rcases TB with rfl | ⟨c9, oc9, vs9, t9, rfl, hc8, hd9, hv9⟩
        · refine wpAny_call ?_
          walk_at "m enter"
          k_steps
          refine Held.in ?_
          refine bis_spec (vs := u :: us) (ks := fun i => -((ens[i]?).map (·.1)).getD 0) (by k_asm) (by k_asm) (by k_asm) (by k_asm) rfl (by k_asm) (by k_mem) (by k_mem) ?_ (by omega) (Nat.le_of_ble_eq_true rfl) (Nat.le_of_ble_eq_true rfl) ?_
          · intro p8 loose8 mean8 mg8 mb8 gd8 cn8 cs8 a8 ccd8 cl8 outer8 A8 base8 h08 L8 m8 s8 Q8 E8 i8 v8 B8 F8 X8 T8 hk8 N8 hv8 ret8
            obtain ⟨en8, hen8, ee, ed, eh1, eh2, et1, et2, eta, etx, eN, rfl, hee9, hed9, eo1, eo2⟩ := hEn2.get hv8
            refine wpAny_call ?_
            refine' kla_code ?k1 ?k2 ?k3 ?k4 ?k5 ?kA ?kF ?kK ?k6 ?k7 ?k8 ?k9 ?kB ?_ ?c2 ?c3 ?c4 ?c5
            case kA => exact rfl
            case kF => exact rfl
            case kK => assumption
            case k1 => exact B8
            case k2 => exact F8
            case k3 => exact X8
            case k4 => exact N8
            case k5 => exact T8
            case k6 => exact .head _
            case k7 => exact codeRec_news N8 (.tail _ (.head _)) (by assumption) (by assumption)
            case k8 => first | exact Nat.le_of_ble_eq_true rfl | k_room
            case k9 => exact rfl
            case c5 => decide
            case kB => exact locs rfl
            case c2 => exact rfl
            case c3 => exact rfl
            case c4 => exact rfl
            intro g' L' h' FG' F' N' B' X' T'
            (try dsimp only)
            (try k_fold)
            k_steps
            rw [show -en8.1 = -((ens[i8]?).map (·.1)).getD 0 by rw [hen8]; rfl]
            exact ret8 _ _ _ (by assumption) (by assumption)
          · intro r9 h9 tk9' F9 N9
            have hz8 : (u :: us).length ≤ 1000000 := by omega
            obtain ⟨v, hv⟩ : ∃ v, (u :: us)[if bisF (fun i => decide (-((ens[i]?).map (·.1)).getD 0 < -(t - e))) (u :: us).length = 0 then (u :: us).length - 1 else bisF (fun i => decide (-((ens[i]?).map (·.1)).getD 0 < -(t - e))) (u :: us).length - 1]? = some v :=
              ⟨_, List.getElem?_eq_getElem (by rw [List.length_cons] at hb9 ⊢; split <;> omega)⟩
            obtain ⟨en8, hen8, ee, ed, eh1, eh2, et1, et2, eta, etx, eN, rfl, hee9, hed9, eo1, eo2⟩ := hEn2.get hv
            k_steps
            refine (fun (dd1 : _ = Data.fields _) => ?_) (by assumption)
            exact retH _ _ _ _ _ [_, _, _] _ _ _ (.inr (.inr ⟨ens, en8, hen, (fun h => by rw [h] at hlen9; exact absurd hlen9 (by simp)), (by unfold mwI mwN; rw [← hlen9]; exact hen8), rfl, (by unfold mwN; rw [← hlen9])⟩)) (by assumption) (news_of (by assumption) (subCons (List.mem_cons_self ..) (subCons (by k_mem) (subCons (by k_mem) (subCons (.tail _ (.head _)) (subCons (.tail _ (.tail _ (.head _))) (subCons (.tail _ (.tail _ (.tail _ (.head _)))) fun q hq => by repeat (first | exact hq | refine List.Mem.tail _ ?_))))))))
              (ext_off (by walk_at "m lt") (by walk_at "m lt") (ext_off (by walk_at "m lt") (by walk_at "m lt") (ext_off (by walk_at "m lt") (by walk_at "m lt") fun p hp => nomatch hp)))
              (ext_ne (by walk_at "m al2") (ext_ne (by walk_at "m al") (ext_ne (by walk_at "m al") fun p hp => nomatch hp))) (by walk_at "m lt") (by walk_at "m lt") (by walk_at "m al") (.inr ⟨_, _, _, _, rfl, .tail _ (.head _), dd1, by assumption⟩)
        · have hc9 := hevl _ hc8
          refine wpAny_call ?_
          walk_at "m enter"
          k_steps
          refine Held.in ?_
          refine bis_spec (vs := u :: us) (ks := fun i => -((ens[i]?).map (·.1)).getD 0) (by k_asm) (by k_asm) (by k_asm) (by k_asm) rfl (by k_asm) (by k_mem) (by k_mem) ?_ (by omega) (Nat.le_of_ble_eq_true rfl) (Nat.le_of_ble_eq_true rfl) ?_
          · intro p8 loose8 mean8 mg8 mb8 gd8 cn8 cs8 a8 ccd8 cl8 outer8 A8 base8 h08 L8 m8 s8 Q8 E8 i8 v8 B8 F8 X8 T8 hk8 N8 hv8 ret8
            obtain ⟨en8, hen8, ee, ed, eh1, eh2, et1, et2, eta, etx, eN, rfl, hee9, hed9, eo1, eo2⟩ := hEn2.get hv8
            refine wpAny_call ?_
            refine' kla_code ?k1 ?k2 ?k3 ?k4 ?k5 ?kA ?kF ?kK ?k6 ?k7 ?k8 ?k9 ?kB ?_ ?c2 ?c3 ?c4 ?c5
            case kA => exact rfl
            case kF => exact rfl
            case kK => assumption
            case k1 => exact B8
            case k2 => exact F8
            case k3 => exact X8
            case k4 => exact N8
            case k5 => exact T8
            case k6 => exact .head _
            case k7 => exact codeRec_news N8 (by repeat (first | exact hc9 | refine List.Mem.tail _ ?_)) hd9 hv9
            case k8 => first | exact Nat.le_of_ble_eq_true rfl | k_room
            case k9 => exact rfl
            case c5 => decide
            case kB => exact locs rfl
            case c2 => exact rfl
            case c3 => exact rfl
            case c4 => exact rfl
            intro g' L' h' FG' F' N' B' X' T'
            (try dsimp only)
            (try k_fold)
            k_steps
            rw [show -en8.1 = -((ens[i8]?).map (·.1)).getD 0 by rw [hen8]; rfl]
            exact ret8 _ _ _ (by assumption) (by assumption)
          · intro r9 h9 tk9' F9 N9
            have hz8 : (u :: us).length ≤ 1000000 := by omega
            obtain ⟨v, hv⟩ : ∃ v, (u :: us)[if bisF (fun i => decide (-((ens[i]?).map (·.1)).getD 0 < -(t - e))) (u :: us).length = 0 then (u :: us).length - 1 else bisF (fun i => decide (-((ens[i]?).map (·.1)).getD 0 < -(t - e))) (u :: us).length - 1]? = some v :=
              ⟨_, List.getElem?_eq_getElem (by rw [List.length_cons] at hb9 ⊢; split <;> omega)⟩
            obtain ⟨en8, hen8, ee, ed, eh1, eh2, et1, et2, eta, etx, eN, rfl, hee9, hed9, eo1, eo2⟩ := hEn2.get hv
            k_steps
            exact retH _ _ _ _ _ [_, _] _ _ _ (.inr (.inr ⟨ens, en8, hen, (fun h => by rw [h] at hlen9; exact absurd hlen9 (by simp)), (by unfold mwI mwN; rw [← hlen9]; exact hen8), rfl, (by unfold mwN; rw [← hlen9])⟩)) (by assumption) (news_of (by assumption) (subCons (List.mem_cons_self ..) (subCons (by k_mem) (subCons (by k_mem) (subCons (.tail _ (.head _)) (subCons (.tail _ (.tail _ (.head _))) fun q hq => by repeat (first | exact hq | refine List.Mem.tail _ ?_)))))))
              (ext_off (by walk_at "m lt") (by walk_at "m lt") (ext_off (by walk_at "m lt") (by walk_at "m lt") fun p hp => nomatch hp))
              (ext_ne (by walk_at "m al") (ext_ne (by walk_at "m al") fun p hp => nomatch hp)) (by walk_at "m lt") (by walk_at "m lt") (by walk_at "m al") (.inr ⟨c9, oc9, vs9, t9, rfl, .tail _ (.tail _ hc8), hd9, hv9⟩)
end c_gmw_spec
theorem gmw_spec {w : World} {p : Program} {loose : List Str} {mean : ExcName → Option Value} {mg : Str → Option Value} {mb : Str → Option Value} {dp : Nat} {un : Nat} {gd : Option (List Code)} {cn : Str} {cs : Scope} {a : Addr} {ccd : Value} {cl : List (Str × Addr)} {outer : List Env} {A₀ : Around} {base : Heap} {h₀ : Heap} {L : Addr} {m : Str → Option Value} {s : Shared} {Q : Value → Shared → Prop} {E : Value → Shared → Prop} (B : Below A₀ base outer h₀) (F : Fr h₀ L s.heap m) (KX : (Mine.hd1.heap_39 w.params).In h₀) (T : Top p loose mean mg mb h₀) (hk : cs.kind = .function) {frz : List (Addr × Obj)} {evl : List (Addr × Obj)} {oV : Obj} {ps : Array Value} {evs : Str → Option (List (Int × Int))} {nV : Nat} {z : Nat} {st : Addr} {S : Addr} {X : Addr} {V : Addr} {clk : Addr} {t : Int} {e : Int} {limit : Int} {key : Str} {tp : Tok} {tl : Tok} {te : Tok} (CD : CodeHd base 644 640) (N : News h₀ L s.heap ((V, oV) :: (640, tabObj ps) :: frz)) (O : Store w frz st S X V clk t) (n1 : ∀ q ∈ frz, q.1 ≠ V) (n2 : ∀ q ∈ frz, q.1 ≠ 640) (d4 : @LT.lt Nat _ 640 S) (hevl : ∀ q ∈ evl, q ∈ frz) (hV : EvD PySem.Challenge.rw_ji0060_02.row.prog w evl S X V oV evs nV z) (zV : nV ≤ 1000000) (zz : z ≤ 1000000) (he : 0 < e) (he2 : e < 1000000) (ht0 : 0 ≤ t) (ht : t < 1000000000000) (hd : dp ≤ 840) (hu : un ≤ 8400) (TB : Tab640 evl ps) (retH : ∀ a n q r1 r2 ext ps' h' tk', MwP (evs key) t e a n → Fr h₀ L h' m → News h₀ L h' ((q, { cls := .type "tuple", data := .seq #[.int a r1, .int n r2] }) :: (V, oV) :: (640, tabObj ps') :: (ext ++ frz)) → (∀ p ∈ ext, @LT.lt Nat _ V p.1 ∧ @LT.lt Nat _ 640 p.1) → (∀ p ∈ ext, ∀ q ∈ frz, p.1 ≠ q.1) → @LT.lt Nat _ V q → @LT.lt Nat _ 640 q → AllLt q frz → Tab640 (ext ++ evl) ps' → Q (.ref q) { s with heap := h', toks := tk' }) :
    wpAny (model PySem.Challenge.rw_ji0060_02.row.prog w) (ktrTop dp un gd cn cs L a ccd cl outer) (call (.ref 645) [.ref st, .str key tp, .int limit tl, .int e te]) Q E s :=
  c_gmw_spec.zal c_gmw_spec.walk1 (w, p, loose, mean, mg, mb, dp, un, gd, cn, cs, a, ccd, cl, outer, A₀, base, h₀, L, m, s, Q, E, frz, evl, oV, evs, nV, z, st, S, X, V, clk, t, e, limit, key, tp, tl, te) _ B F KX T hk CD N O n1 n2 d4 hevl hV zV zz he he2 ht0 ht hd hu TB retH
section
variable {w : World} {p : Program} {loose : List Str} {mean : ExcName → Option Value} {mg mb : Str → Option Value} {dp un : Nat} {gd : Option (List Code)} {cn : Str} {cs : Scope} {a : Addr} {ccd : Value} {cl : List (Str × Addr)} {outer : List Env} {A₀ : Around} {base h₀ : Heap} {L : Addr} {m : Str → Option Value} {s : Shared} {Q E : Value → Shared → Prop}
  (B : Below A₀ base outer h₀) (F : Fr h₀ L s.heap m) (KX : (Mine.hd1.heap_39 w.params).In h₀) (T : Top p loose mean mg mb h₀) (hk : cs.kind = .function)
include B F KX T hk
end

end

theorem said_gmw : True := by
  k_with "call ref" => (k_here; (with_reducible show wpAny _ _ (call (Value.ref 645) _) _ _ _); k_dflt (refine' gmw_spec ?zyB ?zyF ?zyX ?zyT ?zyk ?zyCD ?zyN ?zyO ?zyn1 ?zyn2 ?zyd4 ?zyhevl ?zyhV ?zyzV ?zyzz ?zyhe ?zyhe2 ?zyht0 ?zyht ?zyd ?zyu ?zyTB ?_; (case zyB => k_asm); (case zyF => k_asm); (case zyX => k_asm); (case zyT => k_asm); (case zyk => first | exact rfl | assumption); (case zyN => k_asm); (case zyCD => assumption); (case zyO => assumption); (case zyn1 => assumption); (case zyn2 => assumption); (case zyd4 => assumption); (case zyhevl => assumption); (case zyhV => assumption); (case zyzV => assumption); (case zyzz => assumption); (case zyhe => walk_at "m om"); (case zyhe2 => walk_at "m om"); (case zyht0 => walk_at "m om"); (case zyht => walk_at "m om"); (case zyTB => assumption); (case zyd => exact Nat.le_of_ble_eq_true rfl); (case zyu => exact Nat.le_of_ble_eq_true rfl); k_whole); (intro a' n' q' r1' r2' ext' ps' h' tk' mw' F' N' eo' en' lv' lw' al' tb'; (try dsimp only at N'); (try dsimp only); (try k_sweep)))
  trivial
section
-- only 2
section
variable {w : World} {p : Program} {loose : List Str} {mean : ExcName → Option Value} {mg mb : Str → Option Value} {dp un : Nat} {gd : Option (List Code)} {cn : Str} {cs : Scope} {a : Addr} {ccd : Value} {cl : List (Str × Addr)} {outer : List Env} {A₀ : Around} {base h₀ : Heap} {L : Addr} {m : Str → Option Value} {s : Shared} {Q E : Value → Shared → Prop}
  (B : Below A₀ base outer h₀) (F : Fr h₀ L s.heap m) (KX : (Mine.hd1.heap_39 w.params).In h₀) (T : Top p loose mean mg mb h₀) (hk : cs.kind = .function)
include B F KX T hk

theorem mtestk_spec {frz evl : List (Addr × Obj)} {oV : Obj} {ps : Array Value} {evs : Str → Option (List (Int × Int))} {nV z : Nat} {st S X V clk lim it nt : Addr} {sec : Bool} {ns key : Str} {names : List Str} {am mu t e cost : Int} {tc : Tok}
    (CD : CodeHd base 644 640) (N : News h₀ L s.heap ((V, oV) :: (640, tabObj ps) :: frz)) (O : Store w frz st S X V clk t) (Li : LimAt frz S X V 202 lim st) (I : ItemAt frz S X V it sec ns am mu) (J : NamesAt frz S X V nt names) (n1 : ∀ q ∈ frz, q.1 ≠ V) (n2 : ∀ q ∈ frz, q.1 ≠ 640) (d4 : @LT.lt Nat _ 640 S)
    (hevl : ∀ q ∈ evl, q ∈ frz) (hV : EvD PySem.Challenge.rw_ji0060_02.row.prog w evl S X V oV evs nV z) (zV : nV ≤ 1000000) (zz : z ≤ 1000000) (ee : e = unitOf sec * mu) (ek : key = keyOf sec ns names am mu) (he : 0 < e) (he2 : e < 1000000) (ht0 : 0 ≤ t) (ht : t < 1000000000000) (hc : -1000000 ≤ cost ∧ cost ≤ 1000000) (hd : dp ≤ 820) (hu : un ≤ 8200)
    (TB : Tab640 evl ps)
    (ret : ∀ a n ext ps' h' tk', MwP (evs key) t e a n → Fr h₀ L h' m → News h₀ L h' ((V, oV) :: (640, tabObj ps') :: (ext ++ frz)) → (∀ p ∈ ext, @LT.lt Nat _ V p.1 ∧ @LT.lt Nat _ 640 p.1) → (∀ p ∈ ext, ∀ q ∈ frz, p.1 ≠ q.1) → Tab640 (ext ++ evl) ps' → Q (.bool (decide (n ≤ am - cost))) { s with heap := h', toks := tk' }) :
    wpAny (model PySem.Challenge.rw_ji0060_02.row.prog w) (ktrTop dp un gd cn cs L a ccd cl outer) (call (.ref 190) [.ref lim, .ref it, .ref nt] [(Str.ofString "cost", .int cost tc)]) Q E s := by
  subst ee ek
  refine lower ?_ hd hu
  have hkl := keyOf_len I J
  obtain ⟨ldx, lh, lt, ln, hlim, hldx, _, _⟩ := Li
  have O'' := O
  obtain ⟨⟨dx, h1, h2, h3, h4, t1, t2, t3, t4, nn, oc, od, fd, sl, hst, hck, hdx, _, _, _⟩, _, sx, xv, lS, lX, lV⟩ := O''
  revert KX; k_fill; intro KX
  refine wpAny_call ?_
  walk_at "m enter"
  k_steps
  have I2 := I.sub (news' := ext' ++ frz) fun q hq _ => List.mem_append_right _ hq
  obtain ⟨R, hR⟩ : ∃ R, R = ext' ++ frz := ⟨_, rfl⟩
  rw [← hR] at N' I2
  k_steps
  subst hR
  all_goals exact ret _ _ ((q', _) :: ext') _ _ _ mw' (by assumption) (news_of (by assumption) (subCons (by k_mem) (subCons (by k_mem) (subCons (by k_mem) fun q hq => by repeat (first | exact hq | refine List.Mem.tail _ ?_))))) (ext_off lv' lw' eo') (ext_ne al' en') (tb'.sub fun q hq => .tail _ hq)
end

end
section
-- only 2
theorem said_p_mstat : True := by
  k_with "eval Call Attribute nil nil" => (k_here; (fail_if_success (fail_if_success (have := (by with_reducible assumption : Mk 158)))); (with_reducible rename MwP _ _ _ _ _ => mw'); (fail_if_success (have := (by assumption : Mk 2))); with_reducible refine holdW ?_)
  trivial
/-- a goal held back, that no rule looks into -/
structure Hold (P : Prop) : Prop where
  out : P
theorem holdW {α : Type} {M : Model} {A : Around} {t : Sem α} {Q : α → Shared → Prop} {E : Value → Shared → Prop} {s : Shared} (h : Hold (wpAny M A t Q E s)) : wpAny M A t Q E s := h.out
section
variable {w : World} {p : Program} {loose : List Str} {mean : ExcName → Option Value} {mg mb : Str → Option Value} {dp un : Nat} {gd : Option (List Code)} {cn : Str} {cs : Scope} {a : Addr} {ccd : Value} {cl : List (Str × Addr)} {outer : List Env} {A₀ : Around} {base h₀ : Heap} {L : Addr} {m : Str → Option Value} {s : Shared} {Q E : Value → Shared → Prop}
  (B : Below A₀ base outer h₀) (F : Fr h₀ L s.heap m) (KX : (Mine.hd1.heap_39 w.params).In h₀) (T : Top p loose mean mg mb h₀) (hk : cs.kind = .function)
include B F KX T hk

end
noncomputable def mstat_spec_St (w : World) (p : Program) (loose : List Str) (mean : ExcName → Option Value) (mg : Str → Option Value) (mb : Str → Option Value) (dp : Nat) (un : Nat) (gd : Option (List Code)) (cn : Str) (cs : Scope) (a : Addr) (ccd : Value) (cl : List (Str × Addr)) (outer : List Env) (A₀ : Around) (base : Heap) (h₀ : Heap) (L : Addr) (m : Str → Option Value) (s : Shared) (Q : Value → Shared → Prop) (E : Value → Shared → Prop) (frz : List (Addr × Obj)) (evl : List (Addr × Obj)) (oV : Obj) (ps : Array Value) (evs : Str → Option (List (Int × Int))) (nV : Nat) (z : Nat) (st : Addr) (S : Addr) (X : Addr) (V : Addr) (clk : Addr) (lim : Addr) (it : Addr) (nt : Addr) (sec : Bool) (ns : Str) (names : List Str) (am : Int) (mu : Int) (t : Int) : Prop := ∀ (key : Str) (e : Int) (B : Below A₀ base outer h₀) (F : Fr h₀ L s.heap m) (KX : (Mine.hd1.heap_39 w.params).In h₀) (T : Top p loose mean mg mb h₀) (hk : cs.kind = .function) (CD : CodeHd base 644 640) (N : News h₀ L s.heap ((V, oV) :: (640, tabObj ps) :: frz)) (O : Store w frz st S X V clk t) (Li : LimAt frz S X V 202 lim st) (I : ItemAt frz S X V it sec ns am mu) (J : NamesAt frz S X V nt names) (n1 : ∀ q ∈ frz, q.1 ≠ V) (n2 : ∀ q ∈ frz, q.1 ≠ 640) (d4 : @LT.lt Nat _ 640 S) (hevl : ∀ q ∈ evl, q ∈ frz) (hV : EvD PySem.Challenge.rw_ji0060_02.row.prog w evl S X V oV evs nV z) (zV : nV ≤ 1000000) (zz : z ≤ 1000000) (ee : e = unitOf sec * mu) (ek : key = keyOf sec ns names am mu) (he : 0 < e) (he2 : e < 1000000) (ht0 : 0 ≤ t) (ht : t < 1000000000000) (hd : dp ≤ 820) (hu : un ≤ 8200) (TB : Tab640 evl ps) (retH : ∀ a n y d r1 r2 ext ps' h' tk', MwP (evs key) t e a n → Fr h₀ L h' m → News h₀ L h' ((V, oV) :: (640, tabObj ps') :: (ext ++ frz)) → (∀ p ∈ ext, @LT.lt Nat _ V p.1 ∧ @LT.lt Nat _ 640 p.1) → (∀ p ∈ ext, ∀ q ∈ frz, p.1 ≠ q.1) → Tab640 (ext ++ evl) ps' → (y, tupObj d [.int (a + e) r1, .int (am - n) r2]) ∈ ext → (d, emptyDict) ∈ ext → Q (.ref y) { s with heap := h', toks := tk' }), wpAny (model PySem.Challenge.rw_ji0060_02.row.prog w) (ktrTop dp un gd cn cs L a ccd cl outer) (call (.ref 199) [.ref lim, .ref it, .ref nt]) Q E s
namespace c_mstat_spec
noncomputable def zcv : (World) × (Program) × (List Str) × (ExcName → Option Value) × (Str → Option Value) × (Str → Option Value) × (Nat) × (Nat) × (Option (List Code)) × (Str) × (Scope) × (Addr) × (Value) × (List (Str × Addr)) × (List Env) × (Around) × (Heap) × (Heap) × (Addr) × (Str → Option Value) × (Shared) × (Value → Shared → Prop) × (Value → Shared → Prop) × (List (Addr × Obj)) × (List (Addr × Obj)) × (Obj) × (Array Value) × (Str → Option (List (Int × Int))) × (Nat) × (Nat) × (Addr) × (Addr) × (Addr) × (Addr) × (Addr) × (Addr) × (Addr) × (Addr) × (Bool) × (Str) × (List Str) × (Int) × (Int) × (Int) := pick (neP neW (neP inferInstance (neP inferInstance (neP inferInstance (neP inferInstance (neP inferInstance (neP inferInstance (neP inferInstance (neP inferInstance (neP inferInstance (neP inferInstance (neP inferInstance (neP inferInstance (neP inferInstance (neP inferInstance (neP neA (neP inferInstance (neP inferInstance (neP inferInstance (neP inferInstance (neP neS (neP inferInstance (neP inferInstance (neP inferInstance (neP inferInstance (neP inferInstance (neP inferInstance (neP inferInstance (neP inferInstance (neP inferInstance (neP inferInstance (neP inferInstance (neP inferInstance (neP inferInstance (neP inferInstance (neP inferInstance (neP inferInstance (neP inferInstance (neP inferInstance (neP inferInstance (neP inferInstance (neP inferInstance (neP inferInstance inferInstance))))))))))))))))))))))))))))))))))))))))))) (fun v : (World) × (Program) × (List Str) × (ExcName → Option Value) × (Str → Option Value) × (Str → Option Value) × (Nat) × (Nat) × (Option (List Code)) × (Str) × (Scope) × (Addr) × (Value) × (List (Str × Addr)) × (List Env) × (Around) × (Heap) × (Heap) × (Addr) × (Str → Option Value) × (Shared) × (Value → Shared → Prop) × (Value → Shared → Prop) × (List (Addr × Obj)) × (List (Addr × Obj)) × (Obj) × (Array Value) × (Str → Option (List (Int × Int))) × (Nat) × (Nat) × (Addr) × (Addr) × (Addr) × (Addr) × (Addr) × (Addr) × (Addr) × (Addr) × (Bool) × (Str) × (List Str) × (Int) × (Int) × (Int) => mstat_spec_St (v.1) (v.2.1) (v.2.2.1) (v.2.2.2.1) (v.2.2.2.2.1) (v.2.2.2.2.2.1) (v.2.2.2.2.2.2.1) (v.2.2.2.2.2.2.2.1) (v.2.2.2.2.2.2.2.2.1) (v.2.2.2.2.2.2.2.2.2.1) (v.2.2.2.2.2.2.2.2.2.2.1) (v.2.2.2.2.2.2.2.2.2.2.2.1) (v.2.2.2.2.2.2.2.2.2.2.2.2.1) (v.2.2.2.2.2.2.2.2.2.2.2.2.2.1) (v.2.2.2.2.2.2.2.2.2.2.2.2.2.2.1) (v.2.2.2.2.2.2.2.2.2.2.2.2.2.2.2.1) (v.2.2.2.2.2.2.2.2.2.2.2.2.2.2.2.2.1) (v.2.2.2.2.2.2.2.2.2.2.2.2.2.2.2.2.2.1) (v.2.2.2.2.2.2.2.2.2.2.2.2.2.2.2.2.2.2.1) (v.2.2.2.2.2.2.2.2.2.2.2.2.2.2.2.2.2.2.2.1) (v.2.2.2.2.2.2.2.2.2.2.2.2.2.2.2.2.2.2.2.2.1) (v.2.2.2.2.2.2.2.2.2.2.2.2.2.2.2.2.2.2.2.2.2.1) (v.2.2.2.2.2.2.2.2.2.2.2.2.2.2.2.2.2.2.2.2.2.2.1) (v.2.2.2.2.2.2.2.2.2.2.2.2.2.2.2.2.2.2.2.2.2.2.2.1) (v.2.2.2.2.2.2.2.2.2.2.2.2.2.2.2.2.2.2.2.2.2.2.2.2.1) (v.2.2.2.2.2.2.2.2.2.2.2.2.2.2.2.2.2.2.2.2.2.2.2.2.2.1) (v.2.2.2.2.2.2.2.2.2.2.2.2.2.2.2.2.2.2.2.2.2.2.2.2.2.2.1) (v.2.2.2.2.2.2.2.2.2.2.2.2.2.2.2.2.2.2.2.2.2.2.2.2.2.2.2.1) (v.2.2.2.2.2.2.2.2.2.2.2.2.2.2.2.2.2.2.2.2.2.2.2.2.2.2.2.2.1) (v.2.2.2.2.2.2.2.2.2.2.2.2.2.2.2.2.2.2.2.2.2.2.2.2.2.2.2.2.2.1) (v.2.2.2.2.2.2.2.2.2.2.2.2.2.2.2.2.2.2.2.2.2.2.2.2.2.2.2.2.2.2.1) (v.2.2.2.2.2.2.2.2.2.2.2.2.2.2.2.2.2.2.2.2.2.2.2.2.2.2.2.2.2.2.2.1) (v.2.2.2.2.2.2.2.2.2.2.2.2.2.2.2.2.2.2.2.2.2.2.2.2.2.2.2.2.2.2.2.2.1) (v.2.2.2.2.2.2.2.2.2.2.2.2.2.2.2.2.2.2.2.2.2.2.2.2.2.2.2.2.2.2.2.2.2.1) (v.2.2.2.2.2.2.2.2.2.2.2.2.2.2.2.2.2.2.2.2.2.2.2.2.2.2.2.2.2.2.2.2.2.2.1) (v.2.2.2.2.2.2.2.2.2.2.2.2.2.2.2.2.2.2.2.2.2.2.2.2.2.2.2.2.2.2.2.2.2.2.2.1) (v.2.2.2.2.2.2.2.2.2.2.2.2.2.2.2.2.2.2.2.2.2.2.2.2.2.2.2.2.2.2.2.2.2.2.2.2.1) (v.2.2.2.2.2.2.2.2.2.2.2.2.2.2.2.2.2.2.2.2.2.2.2.2.2.2.2.2.2.2.2.2.2.2.2.2.2.1) (v.2.2.2.2.2.2.2.2.2.2.2.2.2.2.2.2.2.2.2.2.2.2.2.2.2.2.2.2.2.2.2.2.2.2.2.2.2.2.1) (v.2.2.2.2.2.2.2.2.2.2.2.2.2.2.2.2.2.2.2.2.2.2.2.2.2.2.2.2.2.2.2.2.2.2.2.2.2.2.2.1) (v.2.2.2.2.2.2.2.2.2.2.2.2.2.2.2.2.2.2.2.2.2.2.2.2.2.2.2.2.2.2.2.2.2.2.2.2.2.2.2.2.1) (v.2.2.2.2.2.2.2.2.2.2.2.2.2.2.2.2.2.2.2.2.2.2.2.2.2.2.2.2.2.2.2.2.2.2.2.2.2.2.2.2.2.1) (v.2.2.2.2.2.2.2.2.2.2.2.2.2.2.2.2.2.2.2.2.2.2.2.2.2.2.2.2.2.2.2.2.2.2.2.2.2.2.2.2.2.2.1) (v.2.2.2.2.2.2.2.2.2.2.2.2.2.2.2.2.2.2.2.2.2.2.2.2.2.2.2.2.2.2.2.2.2.2.2.2.2.2.2.2.2.2.2)) 0
theorem zal (h : mstat_spec_St (zcv.1) (zcv.2.1) (zcv.2.2.1) (zcv.2.2.2.1) (zcv.2.2.2.2.1) (zcv.2.2.2.2.2.1) (zcv.2.2.2.2.2.2.1) (zcv.2.2.2.2.2.2.2.1) (zcv.2.2.2.2.2.2.2.2.1) (zcv.2.2.2.2.2.2.2.2.2.1) (zcv.2.2.2.2.2.2.2.2.2.2.1) (zcv.2.2.2.2.2.2.2.2.2.2.2.1) (zcv.2.2.2.2.2.2.2.2.2.2.2.2.1) (zcv.2.2.2.2.2.2.2.2.2.2.2.2.2.1) (zcv.2.2.2.2.2.2.2.2.2.2.2.2.2.2.1) (zcv.2.2.2.2.2.2.2.2.2.2.2.2.2.2.2.1) (zcv.2.2.2.2.2.2.2.2.2.2.2.2.2.2.2.2.1) (zcv.2.2.2.2.2.2.2.2.2.2.2.2.2.2.2.2.2.1) (zcv.2.2.2.2.2.2.2.2.2.2.2.2.2.2.2.2.2.2.1) (zcv.2.2.2.2.2.2.2.2.2.2.2.2.2.2.2.2.2.2.2.1) (zcv.2.2.2.2.2.2.2.2.2.2.2.2.2.2.2.2.2.2.2.2.1) (zcv.2.2.2.2.2.2.2.2.2.2.2.2.2.2.2.2.2.2.2.2.2.1) (zcv.2.2.2.2.2.2.2.2.2.2.2.2.2.2.2.2.2.2.2.2.2.2.1) (zcv.2.2.2.2.2.2.2.2.2.2.2.2.2.2.2.2.2.2.2.2.2.2.2.1) (zcv.2.2.2.2.2.2.2.2.2.2.2.2.2.2.2.2.2.2.2.2.2.2.2.2.1) (zcv.2.2.2.2.2.2.2.2.2.2.2.2.2.2.2.2.2.2.2.2.2.2.2.2.2.1) (zcv.2.2.2.2.2.2.2.2.2.2.2.2.2.2.2.2.2.2.2.2.2.2.2.2.2.2.1) (zcv.2.2.2.2.2.2.2.2.2.2.2.2.2.2.2.2.2.2.2.2.2.2.2.2.2.2.2.1) (zcv.2.2.2.2.2.2.2.2.2.2.2.2.2.2.2.2.2.2.2.2.2.2.2.2.2.2.2.2.1) (zcv.2.2.2.2.2.2.2.2.2.2.2.2.2.2.2.2.2.2.2.2.2.2.2.2.2.2.2.2.2.1) (zcv.2.2.2.2.2.2.2.2.2.2.2.2.2.2.2.2.2.2.2.2.2.2.2.2.2.2.2.2.2.2.1) (zcv.2.2.2.2.2.2.2.2.2.2.2.2.2.2.2.2.2.2.2.2.2.2.2.2.2.2.2.2.2.2.2.1) (zcv.2.2.2.2.2.2.2.2.2.2.2.2.2.2.2.2.2.2.2.2.2.2.2.2.2.2.2.2.2.2.2.2.1) (zcv.2.2.2.2.2.2.2.2.2.2.2.2.2.2.2.2.2.2.2.2.2.2.2.2.2.2.2.2.2.2.2.2.2.1) (zcv.2.2.2.2.2.2.2.2.2.2.2.2.2.2.2.2.2.2.2.2.2.2.2.2.2.2.2.2.2.2.2.2.2.2.1) (zcv.2.2.2.2.2.2.2.2.2.2.2.2.2.2.2.2.2.2.2.2.2.2.2.2.2.2.2.2.2.2.2.2.2.2.2.1) (zcv.2.2.2.2.2.2.2.2.2.2.2.2.2.2.2.2.2.2.2.2.2.2.2.2.2.2.2.2.2.2.2.2.2.2.2.2.1) (zcv.2.2.2.2.2.2.2.2.2.2.2.2.2.2.2.2.2.2.2.2.2.2.2.2.2.2.2.2.2.2.2.2.2.2.2.2.2.1) (zcv.2.2.2.2.2.2.2.2.2.2.2.2.2.2.2.2.2.2.2.2.2.2.2.2.2.2.2.2.2.2.2.2.2.2.2.2.2.2.1) (zcv.2.2.2.2.2.2.2.2.2.2.2.2.2.2.2.2.2.2.2.2.2.2.2.2.2.2.2.2.2.2.2.2.2.2.2.2.2.2.2.1) (zcv.2.2.2.2.2.2.2.2.2.2.2.2.2.2.2.2.2.2.2.2.2.2.2.2.2.2.2.2.2.2.2.2.2.2.2.2.2.2.2.2.1) (zcv.2.2.2.2.2.2.2.2.2.2.2.2.2.2.2.2.2.2.2.2.2.2.2.2.2.2.2.2.2.2.2.2.2.2.2.2.2.2.2.2.2.1) (zcv.2.2.2.2.2.2.2.2.2.2.2.2.2.2.2.2.2.2.2.2.2.2.2.2.2.2.2.2.2.2.2.2.2.2.2.2.2.2.2.2.2.2.1) (zcv.2.2.2.2.2.2.2.2.2.2.2.2.2.2.2.2.2.2.2.2.2.2.2.2.2.2.2.2.2.2.2.2.2.2.2.2.2.2.2.2.2.2.2)) : ∀ u : (World) × (Program) × (List Str) × (ExcName → Option Value) × (Str → Option Value) × (Str → Option Value) × (Nat) × (Nat) × (Option (List Code)) × (Str) × (Scope) × (Addr) × (Value) × (List (Str × Addr)) × (List Env) × (Around) × (Heap) × (Heap) × (Addr) × (Str → Option Value) × (Shared) × (Value → Shared → Prop) × (Value → Shared → Prop) × (List (Addr × Obj)) × (List (Addr × Obj)) × (Obj) × (Array Value) × (Str → Option (List (Int × Int))) × (Nat) × (Nat) × (Addr) × (Addr) × (Addr) × (Addr) × (Addr) × (Addr) × (Addr) × (Addr) × (Bool) × (Str) × (List Str) × (Int) × (Int) × (Int), mstat_spec_St (u.1) (u.2.1) (u.2.2.1) (u.2.2.2.1) (u.2.2.2.2.1) (u.2.2.2.2.2.1) (u.2.2.2.2.2.2.1) (u.2.2.2.2.2.2.2.1) (u.2.2.2.2.2.2.2.2.1) (u.2.2.2.2.2.2.2.2.2.1) (u.2.2.2.2.2.2.2.2.2.2.1) (u.2.2.2.2.2.2.2.2.2.2.2.1) (u.2.2.2.2.2.2.2.2.2.2.2.2.1) (u.2.2.2.2.2.2.2.2.2.2.2.2.2.1) (u.2.2.2.2.2.2.2.2.2.2.2.2.2.2.1) (u.2.2.2.2.2.2.2.2.2.2.2.2.2.2.2.1) (u.2.2.2.2.2.2.2.2.2.2.2.2.2.2.2.2.1) (u.2.2.2.2.2.2.2.2.2.2.2.2.2.2.2.2.2.1) (u.2.2.2.2.2.2.2.2.2.2.2.2.2.2.2.2.2.2.1) (u.2.2.2.2.2.2.2.2.2.2.2.2.2.2.2.2.2.2.2.1) (u.2.2.2.2.2.2.2.2.2.2.2.2.2.2.2.2.2.2.2.2.1) (u.2.2.2.2.2.2.2.2.2.2.2.2.2.2.2.2.2.2.2.2.2.1) (u.2.2.2.2.2.2.2.2.2.2.2.2.2.2.2.2.2.2.2.2.2.2.1) (u.2.2.2.2.2.2.2.2.2.2.2.2.2.2.2.2.2.2.2.2.2.2.2.1) (u.2.2.2.2.2.2.2.2.2.2.2.2.2.2.2.2.2.2.2.2.2.2.2.2.1) (u.2.2.2.2.2.2.2.2.2.2.2.2.2.2.2.2.2.2.2.2.2.2.2.2.2.1) (u.2.2.2.2.2.2.2.2.2.2.2.2.2.2.2.2.2.2.2.2.2.2.2.2.2.2.1) (u.2.2.2.2.2.2.2.2.2.2.2.2.2.2.2.2.2.2.2.2.2.2.2.2.2.2.2.1) (u.2.2.2.2.2.2.2.2.2.2.2.2.2.2.2.2.2.2.2.2.2.2.2.2.2.2.2.2.1) (u.2.2.2.2.2.2.2.2.2.2.2.2.2.2.2.2.2.2.2.2.2.2.2.2.2.2.2.2.2.1) (u.2.2.2.2.2.2.2.2.2.2.2.2.2.2.2.2.2.2.2.2.2.2.2.2.2.2.2.2.2.2.1) (u.2.2.2.2.2.2.2.2.2.2.2.2.2.2.2.2.2.2.2.2.2.2.2.2.2.2.2.2.2.2.2.1) (u.2.2.2.2.2.2.2.2.2.2.2.2.2.2.2.2.2.2.2.2.2.2.2.2.2.2.2.2.2.2.2.2.1) (u.2.2.2.2.2.2.2.2.2.2.2.2.2.2.2.2.2.2.2.2.2.2.2.2.2.2.2.2.2.2.2.2.2.1) (u.2.2.2.2.2.2.2.2.2.2.2.2.2.2.2.2.2.2.2.2.2.2.2.2.2.2.2.2.2.2.2.2.2.2.1) (u.2.2.2.2.2.2.2.2.2.2.2.2.2.2.2.2.2.2.2.2.2.2.2.2.2.2.2.2.2.2.2.2.2.2.2.1) (u.2.2.2.2.2.2.2.2.2.2.2.2.2.2.2.2.2.2.2.2.2.2.2.2.2.2.2.2.2.2.2.2.2.2.2.2.1) (u.2.2.2.2.2.2.2.2.2.2.2.2.2.2.2.2.2.2.2.2.2.2.2.2.2.2.2.2.2.2.2.2.2.2.2.2.2.1) (u.2.2.2.2.2.2.2.2.2.2.2.2.2.2.2.2.2.2.2.2.2.2.2.2.2.2.2.2.2.2.2.2.2.2.2.2.2.2.1) (u.2.2.2.2.2.2.2.2.2.2.2.2.2.2.2.2.2.2.2.2.2.2.2.2.2.2.2.2.2.2.2.2.2.2.2.2.2.2.2.1) (u.2.2.2.2.2.2.2.2.2.2.2.2.2.2.2.2.2.2.2.2.2.2.2.2.2.2.2.2.2.2.2.2.2.2.2.2.2.2.2.2.1) (u.2.2.2.2.2.2.2.2.2.2.2.2.2.2.2.2.2.2.2.2.2.2.2.2.2.2.2.2.2.2.2.2.2.2.2.2.2.2.2.2.2.1) (u.2.2.2.2.2.2.2.2.2.2.2.2.2.2.2.2.2.2.2.2.2.2.2.2.2.2.2.2.2.2.2.2.2.2.2.2.2.2.2.2.2.2.1) (u.2.2.2.2.2.2.2.2.2.2.2.2.2.2.2.2.2.2.2.2.2.2.2.2.2.2.2.2.2.2.2.2.2.2.2.2.2.2.2.2.2.2.2) := pick_all (P := fun v : (World) × (Program) × (List Str) × (ExcName → Option Value) × (Str → Option Value) × (Str → Option Value) × (Nat) × (Nat) × (Option (List Code)) × (Str) × (Scope) × (Addr) × (Value) × (List (Str × Addr)) × (List Env) × (Around) × (Heap) × (Heap) × (Addr) × (Str → Option Value) × (Shared) × (Value → Shared → Prop) × (Value → Shared → Prop) × (List (Addr × Obj)) × (List (Addr × Obj)) × (Obj) × (Array Value) × (Str → Option (List (Int × Int))) × (Nat) × (Nat) × (Addr) × (Addr) × (Addr) × (Addr) × (Addr) × (Addr) × (Addr) × (Addr) × (Bool) × (Str) × (List Str) × (Int) × (Int) × (Int) => mstat_spec_St (v.1) (v.2.1) (v.2.2.1) (v.2.2.2.1) (v.2.2.2.2.1) (v.2.2.2.2.2.1) (v.2.2.2.2.2.2.1) (v.2.2.2.2.2.2.2.1) (v.2.2.2.2.2.2.2.2.1) (v.2.2.2.2.2.2.2.2.2.1) (v.2.2.2.2.2.2.2.2.2.2.1) (v.2.2.2.2.2.2.2.2.2.2.2.1) (v.2.2.2.2.2.2.2.2.2.2.2.2.1) (v.2.2.2.2.2.2.2.2.2.2.2.2.2.1) (v.2.2.2.2.2.2.2.2.2.2.2.2.2.2.1) (v.2.2.2.2.2.2.2.2.2.2.2.2.2.2.2.1) (v.2.2.2.2.2.2.2.2.2.2.2.2.2.2.2.2.1) (v.2.2.2.2.2.2.2.2.2.2.2.2.2.2.2.2.2.1) (v.2.2.2.2.2.2.2.2.2.2.2.2.2.2.2.2.2.2.1) (v.2.2.2.2.2.2.2.2.2.2.2.2.2.2.2.2.2.2.2.1) (v.2.2.2.2.2.2.2.2.2.2.2.2.2.2.2.2.2.2.2.2.1) (v.2.2.2.2.2.2.2.2.2.2.2.2.2.2.2.2.2.2.2.2.2.1) (v.2.2.2.2.2.2.2.2.2.2.2.2.2.2.2.2.2.2.2.2.2.2.1) (v.2.2.2.2.2.2.2.2.2.2.2.2.2.2.2.2.2.2.2.2.2.2.2.1) (v.2.2.2.2.2.2.2.2.2.2.2.2.2.2.2.2.2.2.2.2.2.2.2.2.1) (v.2.2.2.2.2.2.2.2.2.2.2.2.2.2.2.2.2.2.2.2.2.2.2.2.2.1) (v.2.2.2.2.2.2.2.2.2.2.2.2.2.2.2.2.2.2.2.2.2.2.2.2.2.2.1) (v.2.2.2.2.2.2.2.2.2.2.2.2.2.2.2.2.2.2.2.2.2.2.2.2.2.2.2.1) (v.2.2.2.2.2.2.2.2.2.2.2.2.2.2.2.2.2.2.2.2.2.2.2.2.2.2.2.2.1) (v.2.2.2.2.2.2.2.2.2.2.2.2.2.2.2.2.2.2.2.2.2.2.2.2.2.2.2.2.2.1) (v.2.2.2.2.2.2.2.2.2.2.2.2.2.2.2.2.2.2.2.2.2.2.2.2.2.2.2.2.2.2.1) (v.2.2.2.2.2.2.2.2.2.2.2.2.2.2.2.2.2.2.2.2.2.2.2.2.2.2.2.2.2.2.2.1) (v.2.2.2.2.2.2.2.2.2.2.2.2.2.2.2.2.2.2.2.2.2.2.2.2.2.2.2.2.2.2.2.2.1) (v.2.2.2.2.2.2.2.2.2.2.2.2.2.2.2.2.2.2.2.2.2.2.2.2.2.2.2.2.2.2.2.2.2.1) (v.2.2.2.2.2.2.2.2.2.2.2.2.2.2.2.2.2.2.2.2.2.2.2.2.2.2.2.2.2.2.2.2.2.2.1) (v.2.2.2.2.2.2.2.2.2.2.2.2.2.2.2.2.2.2.2.2.2.2.2.2.2.2.2.2.2.2.2.2.2.2.2.1) (v.2.2.2.2.2.2.2.2.2.2.2.2.2.2.2.2.2.2.2.2.2.2.2.2.2.2.2.2.2.2.2.2.2.2.2.2.1) (v.2.2.2.2.2.2.2.2.2.2.2.2.2.2.2.2.2.2.2.2.2.2.2.2.2.2.2.2.2.2.2.2.2.2.2.2.2.1) (v.2.2.2.2.2.2.2.2.2.2.2.2.2.2.2.2.2.2.2.2.2.2.2.2.2.2.2.2.2.2.2.2.2.2.2.2.2.2.1) (v.2.2.2.2.2.2.2.2.2.2.2.2.2.2.2.2.2.2.2.2.2.2.2.2.2.2.2.2.2.2.2.2.2.2.2.2.2.2.2.1) (v.2.2.2.2.2.2.2.2.2.2.2.2.2.2.2.2.2.2.2.2.2.2.2.2.2.2.2.2.2.2.2.2.2.2.2.2.2.2.2.2.1) (v.2.2.2.2.2.2.2.2.2.2.2.2.2.2.2.2.2.2.2.2.2.2.2.2.2.2.2.2.2.2.2.2.2.2.2.2.2.2.2.2.2.1) (v.2.2.2.2.2.2.2.2.2.2.2.2.2.2.2.2.2.2.2.2.2.2.2.2.2.2.2.2.2.2.2.2.2.2.2.2.2.2.2.2.2.2.1) (v.2.2.2.2.2.2.2.2.2.2.2.2.2.2.2.2.2.2.2.2.2.2.2.2.2.2.2.2.2.2.2.2.2.2.2.2.2.2.2.2.2.2.2)) h
noncomputable def w : World := zcv.1
noncomputable def p : Program := zcv.2.1
noncomputable def loose : List Str := zcv.2.2.1
noncomputable def mean : ExcName → Option Value := zcv.2.2.2.1
noncomputable def mg : Str → Option Value := zcv.2.2.2.2.1
noncomputable def mb : Str → Option Value := zcv.2.2.2.2.2.1
noncomputable def dp : Nat := zcv.2.2.2.2.2.2.1
noncomputable def un : Nat := zcv.2.2.2.2.2.2.2.1
noncomputable def gd : Option (List Code) := zcv.2.2.2.2.2.2.2.2.1
noncomputable def cn : Str := zcv.2.2.2.2.2.2.2.2.2.1
noncomputable def cs : Scope := zcv.2.2.2.2.2.2.2.2.2.2.1
noncomputable def a : Addr := zcv.2.2.2.2.2.2.2.2.2.2.2.1
noncomputable def ccd : Value := zcv.2.2.2.2.2.2.2.2.2.2.2.2.1
noncomputable def cl : List (Str × Addr) := zcv.2.2.2.2.2.2.2.2.2.2.2.2.2.1
noncomputable def outer : List Env := zcv.2.2.2.2.2.2.2.2.2.2.2.2.2.2.1
noncomputable def A₀ : Around := zcv.2.2.2.2.2.2.2.2.2.2.2.2.2.2.2.1
noncomputable def base : Heap := zcv.2.2.2.2.2.2.2.2.2.2.2.2.2.2.2.2.1
noncomputable def h₀ : Heap := zcv.2.2.2.2.2.2.2.2.2.2.2.2.2.2.2.2.2.1
noncomputable def L : Addr := zcv.2.2.2.2.2.2.2.2.2.2.2.2.2.2.2.2.2.2.1
noncomputable def m : Str → Option Value := zcv.2.2.2.2.2.2.2.2.2.2.2.2.2.2.2.2.2.2.2.1
noncomputable def s : Shared := zcv.2.2.2.2.2.2.2.2.2.2.2.2.2.2.2.2.2.2.2.2.1
noncomputable def Q : Value → Shared → Prop := zcv.2.2.2.2.2.2.2.2.2.2.2.2.2.2.2.2.2.2.2.2.2.1
noncomputable def E : Value → Shared → Prop := zcv.2.2.2.2.2.2.2.2.2.2.2.2.2.2.2.2.2.2.2.2.2.2.1
noncomputable def frz : List (Addr × Obj) := zcv.2.2.2.2.2.2.2.2.2.2.2.2.2.2.2.2.2.2.2.2.2.2.2.1
noncomputable def evl : List (Addr × Obj) := zcv.2.2.2.2.2.2.2.2.2.2.2.2.2.2.2.2.2.2.2.2.2.2.2.2.1
noncomputable def oV : Obj := zcv.2.2.2.2.2.2.2.2.2.2.2.2.2.2.2.2.2.2.2.2.2.2.2.2.2.1
noncomputable def ps : Array Value := zcv.2.2.2.2.2.2.2.2.2.2.2.2.2.2.2.2.2.2.2.2.2.2.2.2.2.2.1
noncomputable def evs : Str → Option (List (Int × Int)) := zcv.2.2.2.2.2.2.2.2.2.2.2.2.2.2.2.2.2.2.2.2.2.2.2.2.2.2.2.1
noncomputable def nV : Nat := zcv.2.2.2.2.2.2.2.2.2.2.2.2.2.2.2.2.2.2.2.2.2.2.2.2.2.2.2.2.1
noncomputable def z : Nat := zcv.2.2.2.2.2.2.2.2.2.2.2.2.2.2.2.2.2.2.2.2.2.2.2.2.2.2.2.2.2.1
noncomputable def st : Addr := zcv.2.2.2.2.2.2.2.2.2.2.2.2.2.2.2.2.2.2.2.2.2.2.2.2.2.2.2.2.2.2.1
noncomputable def S : Addr := zcv.2.2.2.2.2.2.2.2.2.2.2.2.2.2.2.2.2.2.2.2.2.2.2.2.2.2.2.2.2.2.2.1
noncomputable def X : Addr := zcv.2.2.2.2.2.2.2.2.2.2.2.2.2.2.2.2.2.2.2.2.2.2.2.2.2.2.2.2.2.2.2.2.1
noncomputable def V : Addr := zcv.2.2.2.2.2.2.2.2.2.2.2.2.2.2.2.2.2.2.2.2.2.2.2.2.2.2.2.2.2.2.2.2.2.1
noncomputable def clk : Addr := zcv.2.2.2.2.2.2.2.2.2.2.2.2.2.2.2.2.2.2.2.2.2.2.2.2.2.2.2.2.2.2.2.2.2.2.1
noncomputable def lim : Addr := zcv.2.2.2.2.2.2.2.2.2.2.2.2.2.2.2.2.2.2.2.2.2.2.2.2.2.2.2.2.2.2.2.2.2.2.2.1
noncomputable def it : Addr := zcv.2.2.2.2.2.2.2.2.2.2.2.2.2.2.2.2.2.2.2.2.2.2.2.2.2.2.2.2.2.2.2.2.2.2.2.2.1
noncomputable def nt : Addr := zcv.2.2.2.2.2.2.2.2.2.2.2.2.2.2.2.2.2.2.2.2.2.2.2.2.2.2.2.2.2.2.2.2.2.2.2.2.2.1
noncomputable def sec : Bool := zcv.2.2.2.2.2.2.2.2.2.2.2.2.2.2.2.2.2.2.2.2.2.2.2.2.2.2.2.2.2.2.2.2.2.2.2.2.2.2.1
noncomputable def ns : Str := zcv.2.2.2.2.2.2.2.2.2.2.2.2.2.2.2.2.2.2.2.2.2.2.2.2.2.2.2.2.2.2.2.2.2.2.2.2.2.2.2.1
noncomputable def names : List Str := zcv.2.2.2.2.2.2.2.2.2.2.2.2.2.2.2.2.2.2.2.2.2.2.2.2.2.2.2.2.2.2.2.2.2.2.2.2.2.2.2.2.1
noncomputable def am : Int := zcv.2.2.2.2.2.2.2.2.2.2.2.2.2.2.2.2.2.2.2.2.2.2.2.2.2.2.2.2.2.2.2.2.2.2.2.2.2.2.2.2.2.1
noncomputable def mu : Int := zcv.2.2.2.2.2.2.2.2.2.2.2.2.2.2.2.2.2.2.2.2.2.2.2.2.2.2.2.2.2.2.2.2.2.2.2.2.2.2.2.2.2.2.1
noncomputable def t : Int := zcv.2.2.2.2.2.2.2.2.2.2.2.2.2.2.2.2.2.2.2.2.2.2.2.2.2.2.2.2.2.2.2.2.2.2.2.2.2.2.2.2.2.2.2
theorem walk1 : mstat_spec_St w p loose mean mg mb dp un gd cn cs a ccd cl outer A₀ base h₀ L m s Q E frz evl oV ps evs nV z st S X V clk lim it nt sec ns names am mu t := by
  intro key e B F KX T hk CD N O Li I J n1 n2 d4 hevl hV zV zz ee ek he he2 ht0 ht hd hu TB retH
  have mkp : Mk 158 := trivial
  subst ee ek
  refine lower ?_ hd hu
  have hkl := keyOf_len I J
  obtain ⟨ldx, lh, lt, ln, hlim, hldx, _, _⟩ := Li
  have O'' := O
  obtain ⟨⟨dx, h1, h2, h3, h4, t1, t2, t3, t4, nn, oc, od, fd, sl, hst, hck, hdx, _, _, _⟩, _, sx, xv, lS, lX, lV⟩ := O''
  revert KX; k_fill; intro KX
  refine wpAny_call ?_
  walk_at "m enter"
  k_steps
  refine Hold.mk ?_
  have mk2 : Mk 2 := trivial
  rename News g' L' _ _ => NN
  have I2 := I.sub (news' := ext' ++ frz) fun q hq _ => List.mem_append_right _ hq
  obtain ⟨R, hR⟩ : ∃ R, R = ext' ++ frz := ⟨_, rfl⟩
  rw [← hR] at NN I2
  k_steps
  subst hR
  obtain ⟨-, c1, c2, c3⟩ := l3
  have c4 : AllLt d' frz := allLt_sub (fun q hq => List.mem_append_right _ hq) (allLt_mem c3)
  exact retH _ _ _ _ _ _ ((x', _) :: (d', _) :: (q', _) :: ext') _ _ _ mw' (by assumption) (news_of (by assumption) (subCons (by k_mem) (subCons (by k_mem) (subCons (by k_mem) (subCons (by k_mem) (subCons (by k_mem) fun q hq => by repeat (first | exact hq | refine List.Mem.tail _ ?_)))))))
    (ext_off (Nat.lt_trans c1 l2) (Nat.lt_trans c2 l2) (ext_off c1 c2 (ext_off lv' lw' eo'))) (ext_ne (allLt_up l2 c4) (ext_ne c4 (ext_ne al' en'))) (tb'.sub fun q hq => .tail _ (.tail _ (.tail _ hq))) (.head _) (.tail _ (.head _))
end c_mstat_spec
theorem mstat_spec {w : World} {p : Program} {loose : List Str} {mean : ExcName → Option Value} {mg : Str → Option Value} {mb : Str → Option Value} {dp : Nat} {un : Nat} {gd : Option (List Code)} {cn : Str} {cs : Scope} {a : Addr} {ccd : Value} {cl : List (Str × Addr)} {outer : List Env} {A₀ : Around} {base : Heap} {h₀ : Heap} {L : Addr} {m : Str → Option Value} {s : Shared} {Q : Value → Shared → Prop} {E : Value → Shared → Prop} (B : Below A₀ base outer h₀) (F : Fr h₀ L s.heap m) (KX : (Mine.hd1.heap_39 w.params).In h₀) (T : Top p loose mean mg mb h₀) (hk : cs.kind = .function) {frz : List (Addr × Obj)} {evl : List (Addr × Obj)} {oV : Obj} {ps : Array Value} {evs : Str → Option (List (Int × Int))} {nV : Nat} {z : Nat} {st : Addr} {S : Addr} {X : Addr} {V : Addr} {clk : Addr} {lim : Addr} {it : Addr} {nt : Addr} {sec : Bool} {ns : Str} {key : Str} {names : List Str} {am : Int} {mu : Int} {t : Int} {e : Int} (CD : CodeHd base 644 640) (N : News h₀ L s.heap ((V, oV) :: (640, tabObj ps) :: frz)) (O : Store w frz st S X V clk t) (Li : LimAt frz S X V 202 lim st) (I : ItemAt frz S X V it sec ns am mu) (J : NamesAt frz S X V nt names) (n1 : ∀ q ∈ frz, q.1 ≠ V) (n2 : ∀ q ∈ frz, q.1 ≠ 640) (d4 : @LT.lt Nat _ 640 S) (hevl : ∀ q ∈ evl, q ∈ frz) (hV : EvD PySem.Challenge.rw_ji0060_02.row.prog w evl S X V oV evs nV z) (zV : nV ≤ 1000000) (zz : z ≤ 1000000) (ee : e = unitOf sec * mu) (ek : key = keyOf sec ns names am mu) (he : 0 < e) (he2 : e < 1000000) (ht0 : 0 ≤ t) (ht : t < 1000000000000) (hd : dp ≤ 820) (hu : un ≤ 8200) (TB : Tab640 evl ps) (retH : ∀ a n y d r1 r2 ext ps' h' tk', MwP (evs key) t e a n → Fr h₀ L h' m → News h₀ L h' ((V, oV) :: (640, tabObj ps') :: (ext ++ frz)) → (∀ p ∈ ext, @LT.lt Nat _ V p.1 ∧ @LT.lt Nat _ 640 p.1) → (∀ p ∈ ext, ∀ q ∈ frz, p.1 ≠ q.1) → Tab640 (ext ++ evl) ps' → (y, tupObj d [.int (a + e) r1, .int (am - n) r2]) ∈ ext → (d, emptyDict) ∈ ext → Q (.ref y) { s with heap := h', toks := tk' }) :
    wpAny (model PySem.Challenge.rw_ji0060_02.row.prog w) (ktrTop dp un gd cn cs L a ccd cl outer) (call (.ref 199) [.ref lim, .ref it, .ref nt]) Q E s :=
  c_mstat_spec.zal c_mstat_spec.walk1 (w, p, loose, mean, mg, mb, dp, un, gd, cn, cs, a, ccd, cl, outer, A₀, base, h₀, L, m, s, Q, E, frz, evl, oV, ps, evs, nV, z, st, S, X, V, clk, lim, it, nt, sec, ns, names, am, mu, t) _ _ B F KX T hk CD N O Li I J n1 n2 d4 hevl hV zV zz ee ek he he2 ht0 ht hd hu TB retH
section
variable {w : World} {p : Program} {loose : List Str} {mean : ExcName → Option Value} {mg mb : Str → Option Value} {dp un : Nat} {gd : Option (List Code)} {cn : Str} {cs : Scope} {a : Addr} {ccd : Value} {cl : List (Str × Addr)} {outer : List Env} {A₀ : Around} {base h₀ : Heap} {L : Addr} {m : Str → Option Value} {s : Shared} {Q E : Value → Shared → Prop}
  (B : Below A₀ base outer h₀) (F : Fr h₀ L s.heap m) (KX : (Mine.hd1.heap_39 w.params).In h₀) (T : Top p loose mean mg mb h₀) (hk : cs.kind = .function)
include B F KX T hk
end

end
section
-- only 2
/-- what a store holds -/
structure Wld where
  f : Str → Option Int
  x : Str → Option Int
  ev : Str → Option (List (Int × Int))
noncomputable abbrev pkOf (key : Str) (t e : Int) : Str := wkey key ((t - e).fdiv e)
noncomputable abbrev ckOf (key : Str) (t e : Int) : Str := wkey key (t.fdiv e)
/-- a hit: the kind of limiter, what the store held, the answer, what it holds -/
inductive HitR (key : Str) (t e am cost k : Int) (W : Wld) (b : Bool) (W' : Wld) : Prop
  | fix : k = 0 → b = decide ((swept W.x key t W.f key).getD 0 + cost ≤ am) → W' = ⟨incF W.f W.x key t cost, incX W.f W.x key t e cost, W.ev⟩ → HitR key t e am cost k W b W'
  | mov (ev' : Str → Option (List (Int × Int))) : k = 1 → AenPost W.ev key t e am cost b ev' → W' = ⟨W.f, W.x, ev'⟩ → HitR key t e am cost k W b W'
  | sld (f' x' : Str → Option Int) : k = 2 → AcqPost W.f W.x (pkOf key t e) (ckOf key t e) t e am cost b f' x' → W' = ⟨f', x', W.ev⟩ → HitR key t e am cost k W b W'
/-- what a look leaves -/
noncomputable def lookW (key : Str) (t : Int) (W : Wld) : Wld := ⟨swept W.x key t W.f, swept W.x key t W.x, W.ev⟩
noncomputable def look2 (key : Str) (t e : Int) (W : Wld) : Wld := ⟨F2 W.f W.x (pkOf key t e) (ckOf key t e) t, F2 W.x W.x (pkOf key t e) (ckOf key t e) t, W.ev⟩
noncomputable def dropW (key : Str) (W : Wld) : Wld := ⟨upd W.f key none, upd W.x key none, upd W.ev key none⟩
inductive TestR (key : Str) (t e am cost k : Int) (W : Wld) (b : Bool) (W' : Wld) : Prop
  | fix : k = 0 → b = decide ((swept W.x key t W.f key).getD 0 < am - cost + 1) → W' = lookW key t W → TestR key t e am cost k W b W'
  | mov (a n : Int) : k = 1 → MwP (W.ev key) t e a n → b = decide (n ≤ am - cost) → W' = W → TestR key t e am cost k W b W'
  | sld : k = 2 → b = decide (wF W.f W.x (pkOf key t e) (ckOf key t e) t e < am - cost + 1) → W' = look2 key t e W → TestR key t e am cost k W b W'
noncomputable def clrW (key : Str) (t e k : Int) (W : Wld) : Wld := if k = 2 then dropW (ckOf key t e) (dropW (pkOf key t e) W) else dropW key W
/-- the stats: the told reset as a number over a number, what is left -/
inductive StatR (key : Str) (t e am k : Int) (W : Wld) (num den left : Int) (W' : Wld) : Prop
  | fix : k = 0 → num = (swept W.x key t W.x key).getD t → den = 1 → left = remF am ((swept W.x key t W.f key).getD 0) → W' = lookW key t W → StatR key t e am k W num den left W'
  | mov (a n : Int) : k = 1 → MwP (W.ev key) t e a n → num = a + e → den = 1 → left = am - n → W' = W → StatR key t e am k W num den left W'
  | sld (pc ttl cc : Int) : k = 2 → pc = pcF W.f W.x (pkOf key t e) t → ttl = ttlF pc t e → cc = ccF W.f W.x (pkOf key t e) (ckOf key t e) t → StatP pc ttl cc (e - t.fmod e + e) t e num den → left = remF am ((pc * ttl).fdiv e + cc) → W' = look2 key t e W → StatR key t e am k W num den left W'
noncomputable def ExpW (t : Int) (W : Wld) : Wld := ⟨purge W.x t W.f, purge W.x t W.x, prune t W.ev⟩
/-- a limiter of the k-th kind over the store -/
inductive LimK (news : List (Addr × Obj)) (S X V : Addr) (lim st : Addr) (k : Int) : Prop
  | fix : k = 0 → LimAt news S X V 241 lim st → LimK news S X V lim st k
  | mov : k = 1 → LimAt news S X V 202 lim st → LimK news S X V lim st k
  | sld : k = 2 → LimAt news S X V 296 lim st → LimK news S X V lim st k
noncomputable def hitFn (k : Int) : Addr := if k = 0 then 220 else if k = 1 then 181 else 266
noncomputable def testFn (k : Int) : Addr := if k = 0 then 229 else if k = 1 then 190 else 275
noncomputable def statFn (k : Int) : Addr := if k = 0 then 238 else if k = 1 then 199 else 284
noncomputable def clrFn (k : Int) : Addr := if k = 0 then 158 else if k = 1 then 158 else 293
/-- a store's tables in a ledger: M tells all addresses that may turn, R what never turns, frz the store's own parts -/
inductive WTabs (w : World) (news R : List (Addr × Obj)) (S X V : Addr) (W : Wld) (n z : Nat) : Prop
  | mk (oS oX oV : Obj) (p1 p2 : Array Value) (mS : (S, oS) ∈ news) (mX : (X, oX) ∈ news) (mV : (V, oV) ∈ news) (m1 : (588, tabObj p1) ∈ news) (m2 : (640, tabObj p2) ∈ news)
    (dS : IntD PySem.Challenge.rw_ji0060_02.row.prog w oS W.f n) (dX : IntD PySem.Challenge.rw_ji0060_02.row.prog w oX W.x n) (dV : EvD PySem.Challenge.rw_ji0060_02.row.prog w R S X V oV W.ev n z) (t1 : Tab588 R p1) (t2 : Tab640 R p2) : WTabs w news R S X V W n z
structure WIn (w : World) (M : List Addr) (news R frz : List (Addr × Obj)) (st S X V clk : Addr) (t : Int) (W : Wld) (n z : Nat) : Prop where
  sub : ∀ q ∈ R, q ∈ news
  off : ∀ q ∈ R, q.1 ∉ M
  has : ∀ a ∈ M, ∃ o, (a, o) ∈ news
  ms : S ∈ M ∧ X ∈ M ∧ V ∈ M ∧ (588 : Addr) ∈ M ∧ (640 : Addr) ∈ M
  fz : ∀ q ∈ frz, q ∈ news ∧ Off S X V q.1 ∧ q.1 ≠ 588 ∧ q.1 ≠ 640
  st : Store w frz st S X V clk t
  d4 : @LT.lt Nat _ 640 S
  tabs : WTabs w news R S X V W n z
/-- off the five tables -/
noncomputable def Off5 (S X V : Addr) (q : Addr × Obj) : Prop := Off S X V q.1 ∧ q.1 ≠ 588 ∧ q.1 ≠ 640
structure Post (w : World) (M : List Addr) (news R frz : List (Addr × Obj)) (st S X V clk : Addr) (t : Int) (W : Wld) (n z : Nat) (news' R' : List (Addr × Obj)) : Prop where
  keep : ∀ q ∈ news, Off5 S X V q → q ∈ news'
  up : ∀ q ∈ R, q ∈ R'
  wi : WIn w M news' R' frz st S X V clk t W n z
section
variable {w : World} {M : List Addr} {news R frz rest : List (Addr × Obj)} {st S X V clk : Addr} {t : Int} {W : Wld} {n z : Nat} {h₀ h : Heap} {L : Addr}
theorem off5_not {q : Addr × Obj} {a : Addr} (h : Off5 S X V q) (ha : q.1 = a) : a ≠ S ∧ a ≠ X ∧ a ≠ V ∧ a ≠ 588 ∧ a ≠ 640 := by
  subst ha; exact ⟨h.1.1, h.1.2.1, h.1.2.2, h.2.1, h.2.2⟩
theorem WIn.split (I : WIn w M news R frz st S X V clk t W n z) (N : News h₀ L h news) :
    ∃ oS oX oV p1 p2 rest, News h₀ L h ((S, oS) :: (X, oX) :: (V, oV) :: (588, tabObj p1) :: (640, tabObj p2) :: rest) ∧ (∀ q ∈ rest, Off5 S X V q) ∧ (∀ q ∈ news, Off5 S X V q → q ∈ rest) ∧
      (∀ q ∈ R, q ∈ rest) ∧ (∀ q ∈ frz, q ∈ rest) ∧ IntD PySem.Challenge.rw_ji0060_02.row.prog w oS W.f n ∧ IntD PySem.Challenge.rw_ji0060_02.row.prog w oX W.x n ∧ EvD PySem.Challenge.rw_ji0060_02.row.prog w R S X V oV W.ev n z ∧ Tab588 R p1 ∧ Tab640 R p2 := by
  classical
  obtain ⟨oS, oX, oV, p1, p2, mS, mX, mV, m1, m2, dS, dX, dV, t1, t2⟩ := I.tabs
  obtain ⟨i1, i2, i3, i4, i5⟩ := I.ms
  refine ⟨oS, oX, oV, p1, p2, news.filter fun q => decide (Off5 S X V q), fun q hq => ?_, fun q hq => of_decide_eq_true (List.mem_filter.mp hq).2, fun q hq ho => List.mem_filter.mpr ⟨hq, decide_eq_true ho⟩, fun q hq => ?_, fun q hq => ?_, dS, dX, dV, t1, t2⟩
  · simp only [List.mem_cons] at hq
    rcases hq with rfl | rfl | rfl | rfl | rfl | hq
    · exact N _ mS
    · exact N _ mX
    · exact N _ mV
    · exact N _ m1
    · exact N _ m2
    · exact N q (List.mem_filter.mp hq).1
  · have k := I.off q hq
    exact List.mem_filter.mpr ⟨I.sub q hq, decide_eq_true ⟨⟨fun e => k (e ▸ i1), fun e => k (e ▸ i2), fun e => k (e ▸ i3)⟩, fun e => k (e ▸ i4), fun e => k (e ▸ i5)⟩⟩
  · exact List.mem_filter.mpr ⟨(I.fz q hq).1, decide_eq_true (I.fz q hq).2⟩
/-- the tables after a call, what is new besides -/
theorem WIn.join (I : WIn w M news R frz st S X V clk t W n z) {W' : Wld} {n' z' : Nat} {oS oX oV : Obj} {p1 p2 : Array Value} {ext : List (Addr × Obj)}
    (ho : ∀ q ∈ rest, Off5 S X V q) (hk : ∀ q ∈ news, Off5 S X V q → q ∈ rest) (hx : ∀ q ∈ ext, Off5 S X V q) (hn : ∀ p ∈ ext, ∀ q ∈ rest, p.1 ≠ q.1)
    (dS : IntD PySem.Challenge.rw_ji0060_02.row.prog w oS W'.f n') (dX : IntD PySem.Challenge.rw_ji0060_02.row.prog w oX W'.x n') (dV : EvD PySem.Challenge.rw_ji0060_02.row.prog w (ext ++ R) S X V oV W'.ev n' z') (t1 : Tab588 (ext ++ R) p1) (t2 : Tab640 (ext ++ R) p2) :
    Post w M news R frz st S X V clk t W' n' z' ((S, oS) :: (X, oX) :: (V, oV) :: (588, tabObj p1) :: (640, tabObj p2) :: (ext ++ rest)) (ext ++ R) := by
  obtain ⟨i1, i2, i3, i4, i5⟩ := I.ms
  have up : ∀ q ∈ ext ++ rest, q ∈ (S, oS) :: (X, oX) :: (V, oV) :: (588, tabObj p1) :: (640, tabObj p2) :: (ext ++ rest) := fun q hq => .tail _ (.tail _ (.tail _ (.tail _ (.tail _ hq))))
  have kp : ∀ q ∈ news, Off5 S X V q → q ∈ (S, oS) :: (X, oX) :: (V, oV) :: (588, tabObj p1) :: (640, tabObj p2) :: (ext ++ rest) := fun q hq h => up q (List.mem_append_right _ (hk q hq h))
  have hR : ∀ q ∈ R, Off5 S X V q := fun q hq => by
    have k := I.off q hq
    exact ⟨⟨fun e => k (e ▸ i1), fun e => k (e ▸ i2), fun e => k (e ▸ i3)⟩, fun e => k (e ▸ i4), fun e => k (e ▸ i5)⟩
  have has : ∀ a ∈ M, a = S ∨ a = X ∨ a = V ∨ a = 588 ∨ a = 640 ∨ ∃ o, (a, o) ∈ rest := fun a ha => by
    obtain ⟨o, hm⟩ := I.has a ha
    by_cases h : Off5 S X V (a, o)
    · exact .inr (.inr (.inr (.inr (.inr ⟨o, hk _ hm h⟩))))
    · unfold Off5 Off at h
      dsimp only at h
      by_cases h1 : a = S
      · exact .inl h1
      by_cases h2 : a = X
      · exact .inr (.inl h2)
      by_cases h3 : a = V
      · exact .inr (.inr (.inl h3))
      by_cases h4 : a = 588
      · exact .inr (.inr (.inr (.inl h4)))
      by_cases h5 : a = 640
      · exact .inr (.inr (.inr (.inr (.inl h5))))
      · exact absurd ⟨⟨h1, h2, h3⟩, h4, h5⟩ h
  refine ⟨kp, fun q hq => List.mem_append_right _ hq, ⟨fun q hq => ?_, fun q hq => ?_, fun a ha => ?_, ⟨i1, i2, i3, i4, i5⟩, fun q hq => ⟨kp q (I.fz q hq).1 (I.fz q hq).2, (I.fz q hq).2⟩, I.st, I.d4, ⟨oS, oX, oV, p1, p2, .head _, .tail _ (.head _), .tail _ (.tail _ (.head _)), .tail _ (.tail _ (.tail _ (.head _))), .tail _ (.tail _ (.tail _ (.tail _ (.head _)))), dS, dX, dV, t1, t2⟩⟩⟩
  · rcases List.mem_append.mp hq with h | h
    · exact up q (List.mem_append_left _ h)
    · exact kp q (I.sub q h) (hR q h)
  · rcases List.mem_append.mp hq with h | h
    · intro hm
      have o5 := off5_not (hx q h) rfl
      rcases has _ hm with e | e | e | e | e | ⟨o, e⟩
      · exact o5.1 e
      · exact o5.2.1 e
      · exact o5.2.2.1 e
      · exact o5.2.2.2.1 e
      · exact o5.2.2.2.2 e
      · exact hn q h _ e rfl
    · exact I.off q h
  · rcases has a ha with rfl | rfl | rfl | rfl | rfl | ⟨o, e⟩
    · exact ⟨_, .head _⟩
    · exact ⟨_, .tail _ (.head _)⟩
    · exact ⟨_, .tail _ (.tail _ (.head _))⟩
    · exact ⟨_, .tail _ (.tail _ (.tail _ (.head _)))⟩
    · exact ⟨_, .tail _ (.tail _ (.tail _ (.tail _ (.head _))))⟩
    · exact ⟨o, up _ (List.mem_append_right _ e)⟩
/-- the other store's tables stay -/
theorem WIn.other {st2 S2 X2 V2 clk2 : Addr} {t2 : Int} {W2 : Wld} {n2 z2 n' z' : Nat} {frz2 news' R' : List (Addr × Obj)} {W' : Wld} (J : WIn w M news R frz2 st2 S2 X2 V2 clk2 t2 W2 n2 z2)
    (P : Post w M news R frz st S X V clk t W' n' z' news' R') (hf : ∀ q ∈ frz2, Off S X V q.1) (d1 : Off S X V S2) (d2 : Off S X V X2) (d3 : Off S X V V2) : WIn w M news' R' frz2 st2 S2 X2 V2 clk2 t2 W2 n2 z2 := by
  obtain ⟨oS, oX, oV, p1, p2, mS, mX, mV, m1, m2, dS, dX, dV, u1, u2⟩ := J.tabs
  obtain ⟨_, _, _, q1, q2, _, _, _, l1, l2, _, _, _, v1, v2⟩ := P.wi.tabs
  have g : ∀ {a : Nat}, a = S2 ∨ a = X2 ∨ a = V2 → a ≠ 588 ∧ a ≠ 640 := fun {a} h => by
    have d4 := J.d4
    have sx := J.st.sx
    have xv := J.st.xv
    have e : @LT.lt Nat _ 640 a := by
      rcases h with rfl | rfl | rfl
      · exact d4
      · exact Nat.lt_trans d4 sx
      · exact Nat.lt_trans d4 (Nat.lt_trans sx xv)
    exact ⟨Nat.ne_of_gt (Nat.lt_trans (by decide) e), Nat.ne_of_gt e⟩
  refine ⟨P.wi.sub, P.wi.off, P.wi.has, J.ms, fun q hq => ⟨P.keep q (J.fz q hq).1 ⟨hf q hq, (J.fz q hq).2.2⟩, (J.fz q hq).2⟩, J.st, J.d4, ⟨oS, oX, oV, q1, q2, P.keep _ mS ⟨d1, g (.inl rfl)⟩, P.keep _ mX ⟨d2, g (.inr (.inl rfl))⟩, P.keep _ mV ⟨d3, g (.inr (.inr rfl))⟩, l1, l2, dS, dX, ?_, v1, v2⟩⟩
  obtain ⟨ev, h1, h2⟩ := dV
  exact ⟨ev, h1, fun k => (h2 k).sub fun q hq _ => P.up q hq⟩
end
/-- the grounds of a call that may raise inside -/
structure XTurn (w : World) (p : Program) (loose : List Str) (mean : ExcName → Option Value) (mg mb : Str → Option Value) (A₀ : Around) (base : Heap) (outer : List Env) (h₀ h₀' : Heap) : Prop where
  tT : KtsTurn (outer.filterMap (·.frame)) h₀ h₀'
  B : Below A₀ base outer h₀'
  X : (Mine.hd1.heap_39 w.params).In h₀'
  T : Top p loose mean mg mb h₀'
  D : KtsDicts (outer.filterMap (·.frame)) h₀'
/-- numbers that the methods need -/
structure Num (W : Wld) (n z : Nat) (t e cost : Int) : Prop where
  he : 0 < e
  he2 : e < 1000000
  het : e ≤ t
  ht : t < 1000000000000
  hc : 0 ≤ cost ∧ cost ≤ 100
  hf : ∀ j, 0 ≤ (W.f j).getD 0 ∧ (W.f j).getD 0 ≤ 1000000
  hn : n ≤ 1000
  hz : z ≤ 900000
theorem Num.line {W : Wld} {n z : Nat} {t e cost : Int} (h : Num W n z t e cost) : n + 1 ≤ sizeLine := by
  have := h.hn
  rw [sizeLine_eq]; omega

end
section
-- only 2
theorem EvD.more {prog : Program} {w : World} {led : List (Addr × Obj)} {S X V : Addr} {oV : Obj} {evs : Str → Option (List (Int × Int))} {n z n' z' : Nat} (h : EvD prog w led S X V oV evs n z) (hn : n ≤ n') (hz : z ≤ z') : EvD prog w led S X V oV evs n' z' := by
  obtain ⟨ev, a, b⟩ := h
  exact ⟨ev, a.mono hn, fun k => (b k).mono hz⟩
theorem EvD.drop {prog : Program} {w : World} {led : List (Addr × Obj)} {S X V : Addr} {oV' : Obj} {ev : Str → Option Addr} {evs : Str → Option (List (Int × Int))} {n z : Nat} {key : Str} (hE : ∀ k, EvK led S X V z (ev k) (evs k)) (h : RefD prog w oV' (upd ev key none) n) : EvD prog w led S X V oV' (upd evs key none) n z := by
  refine ⟨_, h, fun k => ?_⟩
  unfold upd
  split
  · trivial
  · exact hE k
theorem EvD.drop2 {prog : Program} {w : World} {led : List (Addr × Obj)} {S X V : Addr} {oV' : Obj} {ev : Str → Option Addr} {evs : Str → Option (List (Int × Int))} {n z : Nat} {key key' : Str} (hE : ∀ k, EvK led S X V z (ev k) (evs k)) (h : RefD prog w oV' (upd (upd ev key none) key' none) n) : EvD prog w led S X V oV' (upd (upd evs key none) key' none) n z := by
  refine ⟨_, h, fun k => ?_⟩
  unfold upd
  split
  · trivial
  · split
    · trivial
    · exact hE k
section
variable {w : World} {st S X V clk : Addr} {t : Int} {frz rest : List (Addr × Obj)} {oS oX oV : Obj} {p1 p2 : Array Value}
theorem five_ne (O : Store w frz st S X V clk t) (d4 : @LT.lt Nat _ 640 S) : @Ne Nat X S ∧ @Ne Nat V S ∧ @Ne Nat V X ∧ @Ne Nat 588 S ∧ @Ne Nat 588 X ∧ @Ne Nat 588 V ∧ @Ne Nat 640 S ∧ @Ne Nat 640 X ∧ @Ne Nat 640 V := by
  have sx := O.sx
  have xv := O.xv
  have e : @LT.lt Nat _ 588 S := Nat.lt_trans (by decide) d4
  have sv : @LT.lt Nat _ S V := Nat.lt_trans sx xv
  exact ⟨Nat.ne_of_gt sx, Nat.ne_of_gt sv, Nat.ne_of_gt xv, Nat.ne_of_lt e, Nat.ne_of_lt (Nat.lt_trans e sx), Nat.ne_of_lt (Nat.lt_trans e sv), Nat.ne_of_lt d4, Nat.ne_of_lt (Nat.lt_trans d4 sx), Nat.ne_of_lt (Nat.lt_trans d4 sv)⟩
theorem five_upd (O : Store w frz st S X V clk t) (d4 : @LT.lt Nat _ 640 S) (ho : ∀ q ∈ rest, Off5 S X V q) :
    UpdF S oS ((S, oS) :: (X, oX) :: (V, oV) :: (588, tabObj p1) :: (640, tabObj p2) :: rest) (fun a => (S, a) :: (X, oX) :: (V, oV) :: (588, tabObj p1) :: (640, tabObj p2) :: rest) ∧
    (∀ a, UpdF X oX ((S, a) :: (X, oX) :: (V, oV) :: (588, tabObj p1) :: (640, tabObj p2) :: rest) (fun b => (S, a) :: (X, b) :: (V, oV) :: (588, tabObj p1) :: (640, tabObj p2) :: rest)) ∧
    (∀ a b, UpdF V oV ((S, a) :: (X, b) :: (V, oV) :: (588, tabObj p1) :: (640, tabObj p2) :: rest) (fun c => (S, a) :: (X, b) :: (V, c) :: (588, tabObj p1) :: (640, tabObj p2) :: rest)) := by
  obtain ⟨xs, vs, vx, a1, a2, a3, b1, b2, b3⟩ := five_ne O d4
  refine ⟨.head fun q hq => ?_, fun a => .tail (Ne.symm xs) (.head fun q hq => ?_), fun a b => .tail (Ne.symm vs) (.tail (Ne.symm vx) (.head fun q hq => ?_))⟩
  · simp only [List.mem_cons] at hq
    rcases hq with rfl | rfl | rfl | rfl | hq
    · exact xs
    · exact vs
    · exact a1
    · exact b1
    · exact (ho q hq).1.1
  · simp only [List.mem_cons] at hq
    rcases hq with rfl | rfl | rfl | hq
    · exact vx
    · exact a2
    · exact b2
    · exact (ho q hq).1.2.1
  · simp only [List.mem_cons] at hq
    rcases hq with rfl | rfl | hq
    · exact a3
    · exact b3
    · exact (ho q hq).1.2.2
theorem five_sub {q : Addr × Obj} (h : q ∈ rest) : q ∈ (S, oS) :: (X, oX) :: (V, oV) :: (588, tabObj p1) :: (640, tabObj p2) :: rest := .tail _ (.tail _ (.tail _ (.tail _ (.tail _ h))))
/-- the table of events ahead -/
theorem five_v {h₀ h : Heap} {L : Addr} (N : News h₀ L h ((S, oS) :: (X, oX) :: (V, oV) :: (588, tabObj p1) :: (640, tabObj p2) :: rest)) : News h₀ L h ((V, oV) :: (640, tabObj p2) :: (S, oS) :: (X, oX) :: (588, tabObj p1) :: rest) :=
  news_of N (subCons (.tail _ (.tail _ (.head _))) (subCons (.tail _ (.tail _ (.tail _ (.tail _ (.head _))))) (subCons (.head _) (subCons (.tail _ (.head _)) (subCons (.tail _ (.tail _ (.tail _ (.head _)))) fun q h => five_sub h)))))
theorem five_e {h₀ h : Heap} {L : Addr} {ext : List (Addr × Obj)} (N : News h₀ L h ((V, oV) :: (640, tabObj p2) :: (S, oS) :: (X, oX) :: (588, tabObj p1) :: rest ++ ext)) : News h₀ L h ((S, oS) :: (X, oX) :: (V, oV) :: (588, tabObj p1) :: (640, tabObj p2) :: (ext ++ rest)) :=
  news_of N (subCons (.tail _ (.tail _ (.head _))) (subCons (.tail _ (.tail _ (.tail _ (.head _)))) (subCons (.head _) (subCons (.tail _ (.tail _ (.tail _ (.tail _ (.head _))))) (subCons (.tail _ (.head _)) fun q h => List.mem_append.mpr ((List.mem_append.mp h).symm.imp (fun h => .tail _ (.tail _ (.tail _ (.tail _ (.tail _ h))))) id))))))
theorem five_m {h₀ h : Heap} {L : Addr} {ext : List (Addr × Obj)} (N : News h₀ L h ((V, oV) :: (640, tabObj p2) :: (ext ++ (S, oS) :: (X, oX) :: (588, tabObj p1) :: rest))) : News h₀ L h ((S, oS) :: (X, oX) :: (V, oV) :: (588, tabObj p1) :: (640, tabObj p2) :: (ext ++ rest)) :=
  news_of N (subCons (.tail _ (.tail _ (List.mem_append_right _ (.head _)))) (subCons (.tail _ (.tail _ (List.mem_append_right _ (.tail _ (.head _))))) (subCons (.head _) (subCons (.tail _ (.tail _ (List.mem_append_right _ (.tail _ (.tail _ (.head _)))))) (subCons (.tail _ (.head _)) fun q h => .tail _ (.tail _ (List.mem_append.mpr ((List.mem_append.mp h).imp id fun h => .tail _ (.tail _ (.tail _ h))))))))))
/-- what is new is off the five -/
theorem five_off {ext : List (Addr × Obj)} (hx : ∀ p ∈ ext, @LT.lt Nat _ V p.1 ∧ @LT.lt Nat _ 640 p.1) (hn : ∀ p ∈ ext, ∀ q ∈ (S, oS) :: (X, oX) :: (588, tabObj p1) :: rest, p.1 ≠ q.1) : (∀ p ∈ ext, Off5 S X V p) ∧ ∀ p ∈ ext, ∀ q ∈ rest, p.1 ≠ q.1 :=
  ⟨fun p hp => ⟨⟨hn p hp _ (.head _), hn p hp _ (.tail _ (.head _)), Nat.ne_of_gt (hx p hp).1⟩, hn p hp _ (.tail _ (.tail _ (.head _))), Nat.ne_of_gt (hx p hp).2⟩, fun p hp q hq => hn p hp q (.tail _ (.tail _ (.tail _ hq)))⟩
theorem five_off1 {ext : List (Addr × Obj)} (hn : ∀ p ∈ ext, ∀ q ∈ (V, oV) :: (640, tabObj p2) :: (S, oS) :: (X, oX) :: (588, tabObj p1) :: rest, p.1 ≠ q.1) : (∀ p ∈ ext, Off5 S X V p) ∧ ∀ p ∈ ext, ∀ q ∈ rest, p.1 ≠ q.1 :=
  ⟨fun p hp => ⟨⟨hn p hp _ (.tail _ (.tail _ (.head _))), hn p hp _ (.tail _ (.tail _ (.tail _ (.head _)))), hn p hp _ (.head _)⟩, hn p hp _ (.tail _ (.tail _ (.tail _ (.tail _ (.head _))))), hn p hp _ (.tail _ (.head _))⟩, fun p hp q hq => hn p hp q (.tail _ (.tail _ (.tail _ (.tail _ (.tail _ hq)))))⟩
theorem five_ot (O : Store w frz st S X V clk t) (d4 : @LT.lt Nat _ 640 S) (ho : ∀ q ∈ rest, Off5 S X V q) : (∀ q ∈ (S, oS) :: (X, oX) :: (588, tabObj p1) :: rest, q.1 ≠ V) ∧ ∀ q ∈ (S, oS) :: (X, oX) :: (588, tabObj p1) :: rest, q.1 ≠ 640 := by
  obtain ⟨xs, vs, vx, a1, a2, a3, b1, b2, b3⟩ := five_ne O d4
  refine ⟨fun q hq => ?_, fun q hq => ?_⟩
  · simp only [List.mem_cons] at hq
    rcases hq with rfl | rfl | rfl | hq
    · exact Ne.symm vs
    · exact Ne.symm vx
    · exact a3
    · exact (ho q hq).1.2.2
  · simp only [List.mem_cons] at hq
    rcases hq with rfl | rfl | rfl | hq
    · exact Ne.symm b1
    · exact Ne.symm b2
    · exact Nat.ne_of_lt (show (588 : Nat) < 640 by decide)
    · exact (ho q hq).2.2
theorem five_new {a d : Addr} {o : Obj} (al : AllLt d ((S, oS) :: (X, oX) :: (V, oV) :: (588, tabObj p1) :: (640, tabObj p2) :: rest)) (h : @LE.le Nat _ d a) : Off5 S X V (a, o) ∧ ∀ q ∈ rest, a ≠ q.1 := by
  have k : ∀ q ∈ (S, oS) :: (X, oX) :: (V, oV) :: (588, tabObj p1) :: (640, tabObj p2) :: rest, @Ne Nat a q.1 := fun q hq => Nat.ne_of_gt (Nat.lt_of_lt_of_le (allLt_mem al q hq) h)
  exact ⟨⟨⟨k _ (.head _), k _ (.tail _ (.head _)), k _ (.tail _ (.tail _ (.head _)))⟩, k _ (.tail _ (.tail _ (.tail _ (.head _)))), k _ (.tail _ (.tail _ (.tail _ (.tail _ (.head _)))))⟩, fun q hq => k q (five_sub hq)⟩
theorem five_2 {h₀ h : Heap} {L : Addr} {a b : Addr × Obj} (N : News h₀ L h (a :: b :: (S, oS) :: (X, oX) :: (V, oV) :: (588, tabObj p1) :: (640, tabObj p2) :: rest)) : News h₀ L h ((S, oS) :: (X, oX) :: (V, oV) :: (588, tabObj p1) :: (640, tabObj p2) :: ([a, b] ++ rest)) :=
  news_of N (subCons (.tail _ (.tail _ (.head _))) (subCons (.tail _ (.tail _ (.tail _ (.head _)))) (subCons (.tail _ (.tail _ (.tail _ (.tail _ (.head _))))) (subCons (.tail _ (.tail _ (.tail _ (.tail _ (.tail _ (.head _)))))) (subCons (.tail _ (.tail _ (.tail _ (.tail _ (.tail _ (.tail _ (.head _))))))) (cons_sub (cons_sub fun q h => five_sub h)))))))
theorem five_3 {h₀ h : Heap} {L : Addr} {a b c : Addr × Obj} (N : News h₀ L h (a :: b :: c :: (S, oS) :: (X, oX) :: (V, oV) :: (588, tabObj p1) :: (640, tabObj p2) :: rest)) : News h₀ L h ((S, oS) :: (X, oX) :: (V, oV) :: (588, tabObj p1) :: (640, tabObj p2) :: ([a, b, c] ++ rest)) :=
  news_of N (subCons (.tail _ (.tail _ (.tail _ (.head _)))) (subCons (.tail _ (.tail _ (.tail _ (.tail _ (.head _))))) (subCons (.tail _ (.tail _ (.tail _ (.tail _ (.tail _ (.head _)))))) (subCons (.tail _ (.tail _ (.tail _ (.tail _ (.tail _ (.tail _ (.head _))))))) (subCons (.tail _ (.tail _ (.tail _ (.tail _ (.tail _ (.tail _ (.tail _ (.head _)))))))) (cons_sub (cons_sub (cons_sub fun q h => five_sub h))))))))
theorem all2 {α : Type} {P : α → Prop} {a b : α} (ha : P a) (hb : P b) : ∀ q ∈ [a, b], P q := fun q hq => by
  rcases List.mem_cons.mp hq with rfl | hq
  · exact ha
  · rw [List.mem_singleton.mp hq]; exact hb
theorem all3 {α : Type} {P : α → Prop} {a b c : α} (ha : P a) (hb : P b) (hc : P c) : ∀ q ∈ [a, b, c], P q := fun q hq => by
  rcases List.mem_cons.mp hq with rfl | hq
  · exact ha
  · exact all2 hb hc q hq
end
/-- the stats' own tuple -/
inductive Told (R : List (Addr × Obj)) (y : Addr) (num den left k : Int) : Prop
  | num (d : Addr) (r1 r2 : Tok) (hk : k ≠ 2) (m1 : (y, tupObj d [.int num r1, .int left r2]) ∈ R) (m2 : (d, emptyDict) ∈ R) (e : den = 1) : Told R y num den left k
  | tup (d q : Addr) (r r1 r2 : Tok) (hk : k = 2) (m1 : (y, tupObj d [.ref q, .int left r]) ∈ R) (m2 : (d, emptyDict) ∈ R) (m3 : (q, ({ cls := .type "tuple", data := .seq #[.int num r1, .int den r2] } : Obj)) ∈ R) : Told R y num den left k
theorem Tab588.up {ext R : List (Addr × Obj)} {ps : Array Value} (h : Tab588 R ps) : Tab588 (ext ++ R) ps := h.sub fun q hq => List.mem_append_right _ hq
theorem Tab640.up {ext R : List (Addr × Obj)} {ps : Array Value} (h : Tab640 R ps) : Tab640 (ext ++ R) ps := h.sub fun q hq => List.mem_append_right _ hq
theorem EvD.up {prog : Program} {w : World} {ext R : List (Addr × Obj)} {S X V : Addr} {oV : Obj} {evs : Str → Option (List (Int × Int))} {n z : Nat} (h : EvD prog w R S X V oV evs n z) : EvD prog w (ext ++ R) S X V oV evs n z := h.sub fun q hq _ => List.mem_append_right _ hq
theorem EvD.flip {prog : Program} {w : World} {ext R : List (Addr × Obj)} {S X V : Addr} {oV : Obj} {evs : Str → Option (List (Int × Int))} {n z : Nat} (h : EvD prog w (R ++ ext) S X V oV evs n z) : EvD prog w (ext ++ R) S X V oV evs n z := h.sub fun q hq _ => List.mem_append.mpr (List.mem_append.mp hq).symm
theorem size1 {n : Nat} (h : n ≤ 1000) : n + 1 ≤ sizeLine ∧ n ≤ 1000000 := by rw [sizeLine_eq]; omega
theorem size2 {z : Nat} (h : z ≤ 900000) : z + 1000 ≤ 1000000 ∧ z ≤ 1000000 := by omega
theorem nat2 (n : Nat) : n ≤ n + 2 ∧ n + 1 ≤ n + 2 := by omega
theorem cost2 {c : Int} (h : 0 ≤ c ∧ c ≤ 100) : -1000000 ≤ c ∧ c ≤ 1000000 := by omega
section
variable {w : World} {p : Program} {loose : List Str} {mean : ExcName → Option Value} {mg mb : Str → Option Value} {dp un : Nat} {gd : Option (List Code)} {cn : Str} {cs : Scope} {a : Addr} {ccd : Value} {cl : List (Str × Addr)} {outer : List Env} {A₀ : Around} {base h₀ : Heap} {L : Addr} {m : Str → Option Value} {s : Shared} {Q E : Value → Shared → Prop}
  (B : Below A₀ base outer h₀) (F : Fr h₀ L s.heap m) (KX : (Mine.hd1.heap_39 w.params).In h₀) (T : Top p loose mean mg mb h₀) (hk : cs.kind = .function)
include B F KX T hk

theorem xturn0 (XB : (Mine.hd1.heap_39 w.params).In base) (TB : Top p loose mean mg mb base) (D : KtsDicts (outer.filterMap (·.frame)) h₀) : XTurn w p loose mean mg mb A₀ base outer h₀ h₀ := ⟨KtsTurn.refl, B, KX, T, D⟩
theorem uhit {M : List Addr} {news R frz : List (Addr × Obj)} {st S X V clk lim it nt : Addr} {sec : Bool} {ns key : Str} {names : List Str} {am mu t e cost k : Int} {tc : Tok} {W : Wld} {n z : Nat}
    (XB : (Mine.hd1.heap_39 w.params).In base) (TB : Top p loose mean mg mb base) (D : KtsDicts (outer.filterMap (·.frame)) h₀)
    (N : News h₀ L s.heap news) (I : WIn w M news R frz st S X V clk t W n z) (Li : LimK frz S X V lim st k) (It : ItemAt frz S X V it sec ns am mu) (Nm : NamesAt frz S X V nt names) (G : Num W n z t e cost) (ee : e = unitOf sec * mu) (ek : key = keyOf sec ns names am mu) (hd : dp ≤ 820) (hu : un ≤ 8200)
    (ret : ∀ b W' news' R' h₀' h' tk', HitR key t e am cost k W b W' → XTurn w p loose mean mg mb A₀ base outer h₀ h₀' → Fr h₀' L h' m → News h₀' L h' news' → Post w M news R frz st S X V clk t W' (n + 2) (z + 1000) news' R' → Q (.bool b) { s with heap := h', toks := tk' }) :
    wpAny (model PySem.Challenge.rw_ji0060_02.row.prog w) (ktrTop dp un gd cn cs L a ccd cl outer) (call (.ref (hitFn k)) [.ref lim, .ref it, .ref nt] [(Str.ofString "cost", .int cost tc)]) Q E s := by
  obtain ⟨oS, oX, oV, p1, p2, rest, N5, ho, hkp, hR, hfz, dS, dX, dV, t1, t2⟩ := I.split N
  obtain ⟨U1, U2, U3⟩ := five_upd (oS := oS) (oX := oX) (oV := oV) (p1 := p1) (p2 := p2) I.st I.d4 ho
  have O := I.st.sub (news' := (S, oS) :: (X, oX) :: (V, oV) :: (588, tabObj p1) :: (640, tabObj p2) :: rest) fun q hq _ => five_sub (hfz q hq)
  have It' := It.sub (news' := (S, oS) :: (X, oX) :: (V, oV) :: (588, tabObj p1) :: (640, tabObj p2) :: rest) fun q hq _ => five_sub (hfz q hq)
  have Nm' := Nm.sub (news' := (S, oS) :: (X, oX) :: (V, oV) :: (588, tabObj p1) :: (640, tabObj p2) :: rest) fun q hq _ => five_sub (hfz q hq)
  obtain ⟨he, he2, het, ht, hc, hf, hn, hz⟩ := G
  obtain ⟨f, x, ev⟩ := W
  cases Li with
  | fix hk0 l =>
    subst hk0
    refine fhitk_spec B F KX T hk N5 O (l.sub fun q hq _ => five_sub (hfz q hq)) It' Nm' U1 U2 dS dX (size1 hn).1 (size1 hn).1 ee ek he he2 het ht hd hu ?_
    intro oS' oX' h' tk' F' N' hS' hX'
    exact ret _ _ _ _ _ _ _ (.fix rfl rfl rfl) (xturn0 B F KX T hk XB TB D) F' N' (I.join (ext := []) ho hkp (fun _ h => nomatch h) (fun _ h => nomatch h) (hS'.mono (nat2 n).2) (hX'.mono (nat2 n).2) (dV.more (nat2 n).1 (Nat.le_add_right _ _)) t1 t2)
  | sld hk0 l =>
    subst hk0
    refine shitk_spec B F KX T hk N5 O (l.sub fun q hq _ => five_sub (hfz q hq)) It' Nm' U1 U2 dS dX (size1 hn).1 (size1 hn).1 ee ek he he2 het ht rfl rfl hf hd hu ?_
    intro b f' x' oS' oX' h' tk' ap F' N' hS' hX'
    exact ret _ _ _ _ _ _ _ (.sld f' x' rfl ap rfl) (xturn0 B F KX T hk XB TB D) F' N' (I.join (W' := ⟨f', x', ev⟩) (ext := []) ho hkp (fun _ h => nomatch h) (fun _ h => nomatch h) (hS'.mono (nat2 n).2) (hX'.mono (nat2 n).2) (dV.more (nat2 n).1 (Nat.le_add_right _ _)) t1 t2)
  | mov hk0 l =>
    subst hk0
    have hs5 : ∀ q ∈ frz, q ∈ (V, oV) :: (640, tabObj p2) :: (S, oS) :: (X, oX) :: (588, tabObj p1) :: rest := fun q hq => .tail _ (.tail _ (.tail _ (.tail _ (.tail _ (hfz q hq)))))
    obtain ⟨xs, vs, vx, a1, a2, a3, b1, b2, b3⟩ := five_ne I.st I.d4
    have oth : ∀ q ∈ (640, tabObj p2) :: (S, oS) :: (X, oX) :: (588, tabObj p1) :: rest, q.1 ≠ V := fun q hq => by
      simp only [List.mem_cons] at hq
      rcases hq with rfl | rfl | rfl | rfl | hq
      · exact b3
      · exact Ne.symm vs
      · exact Ne.symm vx
      · exact a3
      · exact (ho q hq).1.2.2
    refine mhitk_spec B F KX T hk XB TB D (five_v N5) (I.st.sub fun q hq _ => hs5 q hq) (l.sub fun q hq _ => hs5 q hq) (It.sub fun q hq _ => hs5 q hq) (Nm.sub fun q hq _ => hs5 q hq) (.head oth)
      (fun q hq => ⟨.tail _ (.tail _ (.tail _ (.tail _ (.tail _ (hR q hq))))), (ho q (hR q hq)).1.2.2⟩) dV (size1 hn).1 (size2 hz).1 ee ek hc he he2 (Int.le_trans (Int.le_of_lt he) het) ht hd hu ?_
    intro h₀' b evs' ext oV' h' tk' tT B' X' T' D' ap F' N' hne hV'
    obtain ⟨hx, hn2⟩ := five_off1 hne
    exact ret _ _ _ _ _ _ _ (.mov evs' rfl ap rfl) ⟨tT, B', X', T', D'⟩ F' (five_e N') (I.join (W' := ⟨f, x, evs'⟩) ho hkp hx hn2 (dS.mono (nat2 n).1) (dX.mono (nat2 n).1) hV'.flip t1.up t2.up)
theorem utest {M : List Addr} {news R frz : List (Addr × Obj)} {st S X V clk lim it nt : Addr} {sec : Bool} {ns key : Str} {names : List Str} {am mu t e cost k : Int} {tc : Tok} {W : Wld} {n z : Nat}
    (CD : CodeHd base 644 640) (N : News h₀ L s.heap news) (I : WIn w M news R frz st S X V clk t W n z) (Li : LimK frz S X V lim st k) (It : ItemAt frz S X V it sec ns am mu) (Nm : NamesAt frz S X V nt names) (G : Num W n z t e cost) (ee : e = unitOf sec * mu) (ek : key = keyOf sec ns names am mu) (hd : dp ≤ 820) (hu : un ≤ 8200)
    (ret : ∀ b W' news' R' h' tk', TestR key t e am cost k W b W' → Fr h₀ L h' m → News h₀ L h' news' → Post w M news R frz st S X V clk t W' (n + 2) (z + 1000) news' R' → Q (.bool b) { s with heap := h', toks := tk' }) :
    wpAny (model PySem.Challenge.rw_ji0060_02.row.prog w) (ktrTop dp un gd cn cs L a ccd cl outer) (call (.ref (testFn k)) [.ref lim, .ref it, .ref nt] [(Str.ofString "cost", .int cost tc)]) Q E s := by
  obtain ⟨oS, oX, oV, p1, p2, rest, N5, ho, hkp, hR, hfz, dS, dX, dV, t1, t2⟩ := I.split N
  obtain ⟨U1, U2, U3⟩ := five_upd (oS := oS) (oX := oX) (oV := oV) (p1 := p1) (p2 := p2) I.st I.d4 ho
  have O := I.st.sub (news' := (S, oS) :: (X, oX) :: (V, oV) :: (588, tabObj p1) :: (640, tabObj p2) :: rest) fun q hq _ => five_sub (hfz q hq)
  have It' := It.sub (news' := (S, oS) :: (X, oX) :: (V, oV) :: (588, tabObj p1) :: (640, tabObj p2) :: rest) fun q hq _ => five_sub (hfz q hq)
  have Nm' := Nm.sub (news' := (S, oS) :: (X, oX) :: (V, oV) :: (588, tabObj p1) :: (640, tabObj p2) :: rest) fun q hq _ => five_sub (hfz q hq)
  obtain ⟨he, he2, het, ht, hc, hf, hn, hz⟩ := G
  obtain ⟨f, x, ev⟩ := W
  cases Li with
  | fix hk0 l =>
    subst hk0
    refine ftestk_spec B F KX T hk N5 O (l.sub fun q hq _ => five_sub (hfz q hq)) It' Nm' U1 U2 dS dX (size1 hn).1 (size1 hn).1 ee ek he he2 het ht (cost2 hc) hd hu ?_
    intro oS' oX' h' tk' F' N' hS' hX'
    exact ret _ _ _ _ _ _ (.fix rfl rfl rfl) F' N' (I.join (ext := []) ho hkp (fun _ h => nomatch h) (fun _ h => nomatch h) (hS'.mono (nat2 n).1) (hX'.mono (nat2 n).1) (dV.more (nat2 n).1 (Nat.le_add_right _ _)) t1 t2)
  | sld hk0 l =>
    subst hk0
    refine stestk_spec B F KX T hk N5 O (l.sub fun q hq _ => five_sub (hfz q hq)) It' Nm' U1 U2 dS dX (size1 hn).1 (size1 hn).1 ee ek he he2 het ht rfl rfl hf (cost2 hc) hd hu ?_
    intro oS' oX' h' tk' F' N' hS' hX'
    exact ret _ _ _ _ _ _ (.sld rfl rfl rfl) F' N' (I.join (ext := []) ho hkp (fun _ h => nomatch h) (fun _ h => nomatch h) (hS'.mono (nat2 n).2) (hX'.mono (nat2 n).2) (dV.more (nat2 n).1 (Nat.le_add_right _ _)) t1 t2)
  | mov hk0 l =>
    subst hk0
    have hs5 : ∀ q ∈ rest, q ∈ (S, oS) :: (X, oX) :: (588, tabObj p1) :: rest := fun q hq => .tail _ (.tail _ (.tail _ hq))
    obtain ⟨o1, o2⟩ := five_ot (oS := oS) (oX := oX) (p1 := p1) I.st I.d4 ho
    refine mtestk_spec B F KX T hk CD (five_v N5) (I.st.sub fun q hq _ => hs5 q (hfz q hq)) (l.sub fun q hq _ => hs5 q (hfz q hq)) (It.sub fun q hq _ => hs5 q (hfz q hq)) (Nm.sub fun q hq _ => hs5 q (hfz q hq)) o1 o2 I.d4
      (fun q hq => hs5 q (hR q hq)) dV (size1 hn).2 (size2 hz).2 ee ek he he2 (Int.le_trans (Int.le_of_lt he) het) ht (cost2 hc) hd hu t2 ?_
    intro a n' ext ps' h' tk' mw F' N' hx hne tb
    obtain ⟨hx, hn2⟩ := five_off hx hne
    exact ret _ _ _ _ _ _ (.mov _ _ rfl mw rfl rfl) F' (five_m N') (I.join ho hkp hx hn2 (dS.mono (nat2 n).1) (dX.mono (nat2 n).1) (dV.up.more (nat2 n).1 (Nat.le_add_right _ _)) t1.up tb)
theorem uclear {M : List Addr} {news R frz : List (Addr × Obj)} {st S X V clk lim it nt : Addr} {sec : Bool} {ns key : Str} {names : List Str} {am mu t e k : Int} {W : Wld} {n z : Nat}
    (N : News h₀ L s.heap news) (I : WIn w M news R frz st S X V clk t W n z) (Li : LimK frz S X V lim st k) (It : ItemAt frz S X V it sec ns am mu) (Nm : NamesAt frz S X V nt names) (G : Num W n z t e 0) (ee : e = unitOf sec * mu) (ek : key = keyOf sec ns names am mu) (hd : dp ≤ 820) (hu : un ≤ 8200)
    (ret : ∀ news' R' h' tk', Fr h₀ L h' m → News h₀ L h' news' → Post w M news R frz st S X V clk t (clrW key t e k W) (n + 2) (z + 1000) news' R' → Q .none { s with heap := h', toks := tk' }) :
    wpAny (model PySem.Challenge.rw_ji0060_02.row.prog w) (ktrTop dp un gd cn cs L a ccd cl outer) (call (.ref (clrFn k)) [.ref lim, .ref it, .ref nt]) Q E s := by
  obtain ⟨oS, oX, oV, p1, p2, rest, N5, ho, hkp, hR, hfz, dS, dX, dV, t1, t2⟩ := I.split N
  obtain ⟨U1, U2, U3⟩ := five_upd (oS := oS) (oX := oX) (oV := oV) (p1 := p1) (p2 := p2) I.st I.d4 ho
  have O := I.st.sub (news' := (S, oS) :: (X, oX) :: (V, oV) :: (588, tabObj p1) :: (640, tabObj p2) :: rest) fun q hq _ => five_sub (hfz q hq)
  have It' := It.sub (news' := (S, oS) :: (X, oX) :: (V, oV) :: (588, tabObj p1) :: (640, tabObj p2) :: rest) fun q hq _ => five_sub (hfz q hq)
  have Nm' := Nm.sub (news' := (S, oS) :: (X, oX) :: (V, oV) :: (588, tabObj p1) :: (640, tabObj p2) :: rest) fun q hq _ => five_sub (hfz q hq)
  obtain ⟨he, he2, het, ht, hc, hf, hn, hz⟩ := G
  obtain ⟨f, x, ev⟩ := W
  obtain ⟨evr, hRV, hEV⟩ := dV
  cases Li with
  | fix hk0 l =>
    subst hk0
    refine fclear_spec B F KX T hk N5 O (l.sub fun q hq _ => five_sub (hfz q hq)) It' Nm' U1 U2 U3 dS dX hRV (size1 hn).1 (size1 hn).1 (size1 hn).1 ee ek hd hu ?_
    intro oS' oX' oV' h' tk' F' N' hS' hX' hV'
    exact ret _ _ _ _ F' N' (I.join (ext := []) ho hkp (fun _ h => nomatch h) (fun _ h => nomatch h) (hS'.mono (nat2 n).1) (hX'.mono (nat2 n).1) ((EvD.drop hEV hV').more (nat2 n).1 (Nat.le_add_right _ _)) t1 t2)
  | mov hk0 l =>
    subst hk0
    refine mclear_spec B F KX T hk N5 O (l.sub fun q hq _ => five_sub (hfz q hq)) It' Nm' U1 U2 U3 dS dX hRV (size1 hn).1 (size1 hn).1 (size1 hn).1 ee ek hd hu ?_
    intro oS' oX' oV' h' tk' F' N' hS' hX' hV'
    exact ret _ _ _ _ F' N' (I.join (ext := []) ho hkp (fun _ h => nomatch h) (fun _ h => nomatch h) (hS'.mono (nat2 n).1) (hX'.mono (nat2 n).1) ((EvD.drop hEV hV').more (nat2 n).1 (Nat.le_add_right _ _)) t1 t2)
  | sld hk0 l =>
    subst hk0
    subst ek
    refine sclear_spec B F KX T hk N5 O (l.sub fun q hq _ => five_sub (hfz q hq)) It' Nm' U1 U2 U3 dS dX hRV (size1 hn).1 (size1 hn).1 (size1 hn).1 ee rfl he he2 het ht hd hu ?_
    intro oS' oX' oV' h' tk' F' N' hS' hX' hV'
    exact ret _ _ _ _ F' N' (I.join (ext := []) ho hkp (fun _ h => nomatch h) (fun _ h => nomatch h) (hS'.mono (nat2 n).1) (hX'.mono (nat2 n).1) ((EvD.drop2 hEV hV').more (nat2 n).1 (Nat.le_add_right _ _)) t1 t2)
theorem uexp {M : List Addr} {news R frz : List (Addr × Obj)} {st S X V clk : Addr} {t e : Int} {W : Wld} {n z : Nat}
    (CD : CodeHd base 592 588) (N : News h₀ L s.heap news) (I : WIn w M news R frz st S X V clk t W n z) (G : Num W n z t e 0) (hd : dp ≤ 840) (hu : un ≤ 8400)
    (ret : ∀ news' R' h' tk', Fr h₀ L h' m → News h₀ L h' news' → Post w M news R frz st S X V clk t (ExpW t W) (n + 2) (z + 1000) news' R' → Q .none { s with heap := h', toks := tk' }) :
    wpAny (model PySem.Challenge.rw_ji0060_02.row.prog w) (ktrTop dp un gd cn cs L a ccd cl outer) (call (.ref 593) [.ref st]) Q E s := by
  obtain ⟨oS, oX, oV, p1, p2, rest, N5, ho, hkp, hR, hfz, dS, dX, dV, t1, t2⟩ := I.split N
  obtain ⟨he, he2, het, ht, hc, hf, hn, hz⟩ := G
  obtain ⟨xs, vs, vx, a1, a2, a3, b1, b2, b3⟩ := five_ne I.st I.d4
  have o : ∀ q ∈ (640, tabObj p2) :: rest, q.1 ≠ S ∧ q.1 ≠ X ∧ q.1 ≠ V ∧ q.1 ≠ 588 := fun q hq => by
    rcases List.mem_cons.mp hq with rfl | hq
    · exact ⟨b1, b2, b3, Nat.ne_of_gt (show (588 : Nat) < 640 by decide)⟩
    · exact ⟨(ho q hq).1.1, (ho q hq).1.2.1, (ho q hq).1.2.2, (ho q hq).2.1⟩
  refine exp_spec B F KX T hk CD N5 (I.st.sub fun q hq _ => .tail _ (hfz q hq)) (fun q hq => (o q hq).1) (fun q hq => (o q hq).2.1) (fun q hq => (o q hq).2.2.1) (fun q hq => (o q hq).2.2.2) (Nat.lt_trans (by decide) I.d4)
    dS dX (fun q hq => .tail _ (hR q hq)) dV t1 (size1 hn).2 (size1 hn).2 (size1 hn).2 (size2 hz).2 (Int.le_trans (Int.le_of_lt he) het) ht hd hu ?_
  intro ext oS' oX' oV' ps' h' tk' F' N' hx hne hS' hX' hV' tb
  refine ret _ _ _ _ F' (news_of N' (subCons (.head _) (subCons (.tail _ (.head _)) (subCons (.tail _ (.tail _ (.head _))) (subCons (.tail _ (.tail _ (.tail _ (.head _)))) (subCons (.tail _ (.tail _ (.tail _ (.tail _ (List.mem_append_right _ (.head _)))))) fun q h => .tail _ (.tail _ (.tail _ (.tail _ (List.mem_append.mpr ((List.mem_append.mp h).imp id (.tail _))))))))))))
    (I.join (W' := ExpW t W) ho hkp (fun q hq => ⟨⟨(hx q hq).1, (hx q hq).2.1, (hx q hq).2.2.1⟩, (hx q hq).2.2.2, hne q hq _ (.head _)⟩) (fun p hp q hq => hne p hp q (.tail _ hq)) (hS'.mono (nat2 n).1) (hX'.mono (nat2 n).1) (hV'.more (nat2 n).1 (Nat.le_add_right _ _)) tb t2.up)
theorem ustat {M : List Addr} {news R frz : List (Addr × Obj)} {st S X V clk lim it nt : Addr} {sec : Bool} {ns key : Str} {names : List Str} {am mu t e k : Int} {W : Wld} {n z : Nat}
    (CD : CodeHd base 644 640) (N : News h₀ L s.heap news) (I : WIn w M news R frz st S X V clk t W n z) (Li : LimK frz S X V lim st k) (It : ItemAt frz S X V it sec ns am mu) (Nm : NamesAt frz S X V nt names) (G : Num W n z t e 0) (ee : e = unitOf sec * mu) (ek : key = keyOf sec ns names am mu) (hd : dp ≤ 820) (hu : un ≤ 8200)
    (ret : ∀ y num den left W' news' R' h' tk', StatR key t e am k W num den left W' → Told R' y num den left k → Fr h₀ L h' m → News h₀ L h' news' → Post w M news R frz st S X V clk t W' (n + 2) (z + 1000) news' R' → Q (.ref y) { s with heap := h', toks := tk' }) :
    wpAny (model PySem.Challenge.rw_ji0060_02.row.prog w) (ktrTop dp un gd cn cs L a ccd cl outer) (call (.ref (statFn k)) [.ref lim, .ref it, .ref nt]) Q E s := by
  obtain ⟨oS, oX, oV, p1, p2, rest, N5, ho, hkp, hR, hfz, dS, dX, dV, t1, t2⟩ := I.split N
  obtain ⟨U1, U2, U3⟩ := five_upd (oS := oS) (oX := oX) (oV := oV) (p1 := p1) (p2 := p2) I.st I.d4 ho
  have O := I.st.sub (news' := (S, oS) :: (X, oX) :: (V, oV) :: (588, tabObj p1) :: (640, tabObj p2) :: rest) fun q hq _ => five_sub (hfz q hq)
  have It' := It.sub (news' := (S, oS) :: (X, oX) :: (V, oV) :: (588, tabObj p1) :: (640, tabObj p2) :: rest) fun q hq _ => five_sub (hfz q hq)
  have Nm' := Nm.sub (news' := (S, oS) :: (X, oX) :: (V, oV) :: (588, tabObj p1) :: (640, tabObj p2) :: rest) fun q hq _ => five_sub (hfz q hq)
  obtain ⟨he, he2, het, ht, hc, hf, hn, hz⟩ := G
  obtain ⟨f, x, ev⟩ := W
  cases Li with
  | fix hk0 l =>
    subst hk0
    refine fstat_spec B F KX T hk N5 O (l.sub fun q hq _ => five_sub (hfz q hq)) It' Nm' U1 U2 dS dX (size1 hn).1 (size1 hn).1 ee ek he he2 het ht hd hu ?_
    intro y d r1 r2 oS' oX' h' tk' F' N' al dy hS' hX'
    have q1 := fun (o : Obj) => five_new (o := o) al (Nat.le_refl d)
    have q2 := fun (o : Obj) => five_new (o := o) al (Nat.le_of_lt dy)
    exact ret _ _ _ _ _ _ _ _ _ (.fix rfl rfl rfl rfl rfl) (.num d r1 r2 (by decide) (.head _) (.tail _ (.head _)) rfl) F' (five_2 N') (I.join (ext := [_, _]) ho hkp (all2 (q2 _).1 (q1 _).1) (all2 (q2 default).2 (q1 default).2) (hS'.mono (nat2 n).1) (hX'.mono (nat2 n).1) (dV.up.more (nat2 n).1 (Nat.le_add_right _ _)) t1.up t2.up)
  | sld hk0 l =>
    subst hk0
    refine sstat_spec B F KX T hk N5 O (l.sub fun q hq _ => five_sub (hfz q hq)) It' Nm' U1 U2 dS dX (size1 hn).1 (size1 hn).1 ee ek he he2 het ht rfl rfl hf hd hu ?_
    intro pc ttl cc num den y d q r r1 r2 oS' oX' h' tk' e1 e2 e3 sp F' N' al qd dy hS' hX'
    have q1 := fun (o : Obj) => five_new (o := o) al (Nat.le_refl q)
    have q2 := fun (o : Obj) => five_new (o := o) al (Nat.le_of_lt qd)
    have q3 := fun (o : Obj) => five_new (o := o) al (Nat.le_of_lt (Nat.lt_trans qd dy))
    exact ret _ _ _ _ _ _ _ _ _ (.sld _ _ _ rfl e1 e2 e3 sp rfl rfl) (.tup d q r r1 r2 rfl (.head _) (.tail _ (.head _)) (.tail _ (.tail _ (.head _)))) F' (five_3 N') (I.join (W' := ⟨_, _, ev⟩) (ext := [_, _, _]) ho hkp (all3 (q3 _).1 (q2 _).1 (q1 _).1) (all3 (q3 default).2 (q2 default).2 (q1 default).2) (hS'.mono (nat2 n).2) (hX'.mono (nat2 n).2) (dV.up.more (nat2 n).1 (Nat.le_add_right _ _)) t1.up t2.up)
  | mov hk0 l =>
    subst hk0
    have hs5 : ∀ q ∈ rest, q ∈ (S, oS) :: (X, oX) :: (588, tabObj p1) :: rest := fun q hq => .tail _ (.tail _ (.tail _ hq))
    obtain ⟨o1, o2⟩ := five_ot (oS := oS) (oX := oX) (p1 := p1) I.st I.d4 ho
    refine mstat_spec B F KX T hk CD (five_v N5) (I.st.sub fun q hq _ => hs5 q (hfz q hq)) (l.sub fun q hq _ => hs5 q (hfz q hq)) (It.sub fun q hq _ => hs5 q (hfz q hq)) (Nm.sub fun q hq _ => hs5 q (hfz q hq)) o1 o2 I.d4
      (fun q hq => hs5 q (hR q hq)) dV (size1 hn).2 (size2 hz).2 ee ek he he2 (Int.le_trans (Int.le_of_lt he) het) ht hd hu t2 ?_
    intro a n' y d r1 r2 ext ps' h' tk' mw F' N' hx hne tb my md
    obtain ⟨hx, hn2⟩ := five_off hx hne
    exact ret _ _ _ _ _ _ _ _ _ (.mov _ _ rfl mw rfl rfl rfl rfl) (.num d r1 r2 (by decide) (List.mem_append_left _ my) (List.mem_append_left _ md) rfl) F' (five_m N') (I.join ho hkp hx hn2 (dS.mono (nat2 n).1) (dX.mono (nat2 n).1) (dV.up.more (nat2 n).1 (Nat.le_add_right _ _)) t1.up tb)
end
theorem WTabs.to {w : World} {news R news' R' : List (Addr × Obj)} {S X V : Addr} {W : Wld} {n z n' z' : Nat} (h : WTabs w news R S X V W n z) (hs : ∀ q ∈ news, q.1 = S ∨ q.1 = X ∨ q.1 = V ∨ q.1 = 588 ∨ q.1 = 640 → q ∈ news') (hr : ∀ q ∈ R, q ∈ R') (hn : n ≤ n') (hz : z ≤ z') : WTabs w news' R' S X V W n' z' := by
  obtain ⟨oS, oX, oV, p1, p2, mS, mX, mV, m1, m2, dS, dX, dV, t1, t2⟩ := h
  exact ⟨oS, oX, oV, p1, p2, hs _ mS (.inl rfl), hs _ mX (.inr (.inl rfl)), hs _ mV (.inr (.inr (.inl rfl))), hs _ m1 (.inr (.inr (.inr (.inl rfl)))), hs _ m2 (.inr (.inr (.inr (.inr rfl)))), dS.mono hn, dX.mono hn, (dV.sub fun q hq _ => hr q hq).more hn hz, t1.sub hr, t2.sub hr⟩
theorem WTabs.rows {w : World} {news R : List (Addr × Obj)} {S X V : Addr} {W : Wld} {n z : Nat} (h : WTabs w news R S X V W n z) {b : Addr} (hb : b = S ∨ b = X ∨ b = V ∨ b = 588 ∨ b = 640) : ∃ o, (b, o) ∈ news := by
  obtain ⟨oS, oX, oV, p1, p2, mS, mX, mV, m1, m2, _⟩ := h
  rcases hb with rfl | rfl | rfl | rfl | rfl
  · exact ⟨_, mS⟩
  · exact ⟨_, mX⟩
  · exact ⟨_, mV⟩
  · exact ⟨_, m1⟩
  · exact ⟨_, m2⟩

end

theorem said_ops : True := by
  k_with "call ref" => (k_here; (with_reducible show wpAny _ _ (call (Value.ref (hitFn _)) _ _) _ _ _); k_dflt (refine' uhit ?zyB ?zyF ?zyX ?zyT ?zyk ?zyXB ?zyTB ?zyD ?zyN ?zyI ?zyLi ?zyIt ?zyNm ?zyG ?zyee ?zyek ?zyd ?zyu ?_; (case zyB => k_asm); (case zyF => k_asm); (case zyX => k_asm); (case zyT => k_asm); (case zyk => first | exact rfl | assumption); (case zyN => k_asm); (case zyXB => assumption); (case zyTB => assumption); (case zyD => assumption); (case zyI => assumption); (case zyLi => assumption); (case zyIt => assumption); (case zyNm => assumption); (case zyG => assumption); (case zyee => assumption); (case zyek => assumption); (case zyd => exact Nat.le_of_ble_eq_true rfl); (case zyu => exact Nat.le_of_ble_eq_true rfl); k_whole); (intro b' W' news' R' h0' h' tk' hr' xt' F' N' po'; obtain ⟨tT', B', X', T', D'⟩ := xt'; (try dsimp only at N'); (try dsimp only); (try k_sweep)))
  k_with "call ref" => (k_here; (with_reducible show wpAny _ _ (call (Value.ref (testFn _)) _ _) _ _ _); k_dflt (refine' utest ?zyB ?zyF ?zyX ?zyT ?zyk ?zyCD ?zyN ?zyI ?zyLi ?zyIt ?zyNm ?zyG ?zyee ?zyek ?zyd ?zyu ?_; (case zyB => k_asm); (case zyF => k_asm); (case zyX => k_asm); (case zyT => k_asm); (case zyk => first | exact rfl | assumption); (case zyN => k_asm); (case zyCD => assumption); (case zyI => assumption); (case zyLi => assumption); (case zyIt => assumption); (case zyNm => assumption); (case zyG => assumption); (case zyee => assumption); (case zyek => assumption); (case zyd => exact Nat.le_of_ble_eq_true rfl); (case zyu => exact Nat.le_of_ble_eq_true rfl); k_whole); (intro b' W' news' R' h' tk' hr' F' N' po'; (try dsimp only at N'); (try dsimp only); (try k_sweep)))
  k_with "call ref" => (k_here; (with_reducible show wpAny _ _ (call (Value.ref (clrFn _)) _) _ _ _); k_dflt (refine' uclear ?zyB ?zyF ?zyX ?zyT ?zyk ?zyN ?zyI ?zyLi ?zyIt ?zyNm ?zyG ?zyee ?zyek ?zyd ?zyu ?_; (case zyB => k_asm); (case zyF => k_asm); (case zyX => k_asm); (case zyT => k_asm); (case zyk => first | exact rfl | assumption); (case zyN => k_asm); (case zyI => assumption); (case zyLi => assumption); (case zyIt => assumption); (case zyNm => assumption); (case zyG => assumption); (case zyee => assumption); (case zyek => assumption); (case zyd => exact Nat.le_of_ble_eq_true rfl); (case zyu => exact Nat.le_of_ble_eq_true rfl); k_whole); (intro news' R' h' tk' F' N' po'; (try dsimp only at N'); (try dsimp only); (try k_sweep)))
  k_with "call ref" => (k_here; (with_reducible show wpAny _ _ (call (Value.ref (statFn _)) _) _ _ _); k_dflt (refine' ustat ?zyB ?zyF ?zyX ?zyT ?zyk ?zyCD ?zyN ?zyI ?zyLi ?zyIt ?zyNm ?zyG ?zyee ?zyek ?zyd ?zyu ?_; (case zyB => k_asm); (case zyF => k_asm); (case zyX => k_asm); (case zyT => k_asm); (case zyk => first | exact rfl | assumption); (case zyN => k_asm); (case zyCD => assumption); (case zyI => assumption); (case zyLi => assumption); (case zyIt => assumption); (case zyNm => assumption); (case zyG => assumption); (case zyee => assumption); (case zyek => assumption); (case zyd => exact Nat.le_of_ble_eq_true rfl); (case zyu => exact Nat.le_of_ble_eq_true rfl); k_whole); (intro y' num' den' left' W' news' R' h' tk' hr' to' F' N' po'; (try dsimp only at N'); (try dsimp only); (try k_sweep)))
  k_with "call ref" => (k_here; (with_reducible show wpAny _ _ (call (Value.ref 593) _) _ _ _); k_dflt (refine' uexp ?zyB ?zyF ?zyX ?zyT ?zyk ?zyCD ?zyN ?zyI ?zyG ?zyd ?zyu ?_; (case zyB => k_asm); (case zyF => k_asm); (case zyX => k_asm); (case zyT => k_asm); (case zyk => first | exact rfl | assumption); (case zyN => k_asm); (case zyCD => assumption); (case zyI => assumption); (case zyG => assumption); (case zyd => exact Nat.le_of_ble_eq_true rfl); (case zyu => exact Nat.le_of_ble_eq_true rfl); k_whole); (intro news' R' h' tk' F' N' po'; (try dsimp only at N'); (try dsimp only); (try k_sweep)))
  trivial
section
-- only 2
noncomputable abbrev sc (A v : Int) : Int := 60 * v + A
noncomputable def scE (A : Int) (ens : List (Int × Int)) : List (Int × Int) := ens.map fun e => (sc A e.1, sc A e.2)
/-- two tables tell the same of paired keys -/
noncomputable def RG {ι α β : Type} (K1 K2 : ι → Str) (g : α → β) (f1 : Str → Option α) (f2 : Str → Option β) : Prop := ∀ i, f2 (K2 i) = (f1 (K1 i)).map g
/-- the second world's measure of time, and its keys -/
structure Sc {ι : Type} (K1 K2 : ι → Str) (A t e c T E : Int) : Prop where
  hT : T = sc A t
  hE : E = 60 * e
  hA : A = 60 * e * c
  hc : 0 ≤ c
  he : 0 < e
  het : e ≤ t
  i1 : ∀ i j, K1 i = K1 j → i = j
  i2 : ∀ i j, K2 i = K2 j → i = j
theorem fmod60 {a e : Int} (he : 0 < e) : (60 * a).fmod (60 * e) = 60 * a.fmod e := by
  rw [Int.fmod_eq_emod_of_nonneg _ (by omega), Int.fmod_eq_emod_of_nonneg _ (Int.le_of_lt he)]
  exact Int.mul_emod_mul_of_pos _ _ (by decide)
theorem fdiv60 {a e : Int} (he : 0 < e) : (60 * a).fdiv (60 * e) = a.fdiv e := by
  rw [Int.fdiv_eq_ediv_of_nonneg _ (by omega), Int.fdiv_eq_ediv_of_nonneg _ (Int.le_of_lt he)]
  exact Int.mul_ediv_mul_of_pos _ _ (by decide)
theorem fmodc {a e c : Int} (he : 0 < e) : (a + e * c).fmod e = a.fmod e := by
  rw [Int.fmod_eq_emod_of_nonneg _ (Int.le_of_lt he), Int.fmod_eq_emod_of_nonneg _ (Int.le_of_lt he)]
  exact Int.add_mul_emod_self_left _ _ _
theorem fdivc {a e c : Int} (he : 0 < e) : (a + e * c).fdiv e = a.fdiv e + c := by
  rw [Int.fdiv_eq_ediv_of_nonneg _ (Int.le_of_lt he), Int.fdiv_eq_ediv_of_nonneg _ (Int.le_of_lt he)]
  exact Int.add_mul_ediv_left _ _ (Int.ne_of_gt he)
section
variable {ι α β : Type} {K1 K2 : ι → Str} {A t e c T E : Int} {g : α → β} {f1 : Str → Option α} {f2 : Str → Option β} {x1 x2 : Str → Option Int}
theorem sc_eq (H : Sc K1 K2 A t e c T E) (y : Int) : sc A y = 60 * (y + e * c) := by
  show 60 * y + A = _
  rw [H.hA, Int.mul_add, Int.mul_assoc]
theorem sc_mod (H : Sc K1 K2 A t e c T E) (y : Int) : (sc A y).fmod E = 60 * y.fmod e := by
  rw [sc_eq H, H.hE, fmod60 H.he, fmodc H.he]
theorem sc_div (H : Sc K1 K2 A t e c T E) (y : Int) : (sc A y).fdiv E = y.fdiv e + c := by
  rw [sc_eq H, H.hE, fdiv60 H.he, fdivc H.he]
theorem sc_A (H : Sc K1 K2 A t e c T E) : 0 ≤ A := by
  rw [H.hA]
  exact Int.mul_nonneg (Int.mul_nonneg (by decide) (Int.le_of_lt H.he)) H.hc
theorem sc_t (H : Sc K1 K2 A t e c T E) : 0 ≤ t ∧ 0 ≤ T ∧ E ≤ T ∧ 0 < E := by
  have a := sc_A H
  have b : T = 60 * t + A := H.hT
  have d := H.hE
  have e1 := H.he
  have e2 := H.het
  omega
theorem sc_pk (H : Sc K1 K2 A t e c T E) : (T - E).fdiv E = (t - e).fdiv e + c := by
  rw [show T - E = sc A (t - e) by rw [H.hT, H.hE]; show 60 * t + A - 60 * e = 60 * (t - e) + A; omega]
  exact sc_div H _
theorem sc_ck (H : Sc K1 K2 A t e c T E) : T.fdiv E = t.fdiv e + c := by
  rw [H.hT]
  exact sc_div H _
theorem RG.upd (H : Sc K1 K2 A t e c T E) (h : RG K1 K2 g f1 f2) (i : ι) {v1 : Option α} {v2 : Option β} (hv : v2 = v1.map g) : RG K1 K2 g (upd f1 (K1 i) v1) (upd f2 (K2 i) v2) := fun j => by
  unfold Mine.upd
  by_cases q : j = i
  · subst q; rw [if_pos rfl, if_pos rfl, hv]
  · rw [if_neg (fun z => q (H.i1 _ _ z)), if_neg (fun z => q (H.i2 _ _ z))]
    exact h j
theorem over_iff (H : Sc K1 K2 A t e c T E) (hx : RG K1 K2 (sc A) x1 x2) (i : ι) : (x2 (K2 i)).getD 0 ≤ T ↔ (x1 (K1 i)).getD 0 ≤ t := by
  have := sc_t H
  have b : T = 60 * t + A := H.hT
  rw [hx i]
  cases x1 (K1 i) with
  | none => show 0 ≤ T ↔ 0 ≤ t; omega
  | some v => show 60 * v + A ≤ T ↔ v ≤ t; omega
theorem RG.swept (H : Sc K1 K2 A t e c T E) (hx : RG K1 K2 (sc A) x1 x2) (h : RG K1 K2 g f1 f2) (i : ι) : RG K1 K2 g (swept x1 (K1 i) t f1) (swept x2 (K2 i) T f2) := by
  unfold Mine.swept
  by_cases q : (x1 (K1 i)).getD 0 ≤ t
  · rw [if_pos q, if_pos ((over_iff H hx i).mpr q)]
    exact h.upd H i rfl
  · rw [if_neg q, if_neg (fun z => q ((over_iff H hx i).mp z))]
    exact h
theorem RG.purge (H : Sc K1 K2 A t e c T E) (hx : RG K1 K2 (sc A) x1 x2) (h : RG K1 K2 g f1 f2) : RG K1 K2 g (purge x1 t f1) (purge x2 T f2) := fun i => by
  have b : T = 60 * t + A := H.hT
  unfold Mine.purge
  rw [hx i]
  cases x1 (K1 i) with
  | none => exact h i
  | some v =>
    dsimp only [Option.map]
    by_cases q : v ≤ t
    · rw [if_pos q, if_pos (show 60 * v + A ≤ T by omega)]
    · rw [if_neg q, if_neg (fun z : 60 * v + A ≤ T => q (by omega))]
      exact h i
theorem RG.get {f1 f2 : Str → Option Int} (h : RG K1 K2 id f1 f2) (i : ι) : (f2 (K2 i)).getD 0 = (f1 (K1 i)).getD 0 := by
  rw [h i, Option.map_id]; rfl
end
section
variable {ι : Type} {K1 K2 : ι → Str} {A t e c T E : Int} {f1 f2 x1 x2 : Str → Option Int}
theorem RG.incF (H : Sc K1 K2 A t e c T E) (hx : RG K1 K2 (sc A) x1 x2) (h : RG K1 K2 id f1 f2) (i : ι) (am : Int) : RG K1 K2 id (incF f1 x1 (K1 i) t am) (incF f2 x2 (K2 i) T am) := by
  have q := RG.swept H hx h i
  unfold Mine.incF
  exact q.upd H i (by rw [q.get i]; rfl)
theorem RG.incX (H : Sc K1 K2 A t e c T E) (hx : RG K1 K2 (sc A) x1 x2) (h : RG K1 K2 id f1 f2) (i : ι) (am : Int) {e' E' : Int} (hE' : E' = 60 * e') : RG K1 K2 (sc A) (incX f1 x1 (K1 i) t e' am) (incX f2 x2 (K2 i) T E' am) := by
  have q := RG.swept H hx h i
  have q2 := RG.swept H hx hx i
  unfold Mine.incX
  rw [q.get i]
  split
  · exact q2.upd H i (by rw [H.hT, hE']; show some (60 * t + A + 60 * e') = some (60 * (t + e') + A); congr 1; omega)
  · exact q2
variable {p q : ι}
theorem RG.F2 {α β : Type} {g : α → β} {y1 : Str → Option α} {y2 : Str → Option β} (H : Sc K1 K2 A t e c T E) (hx : RG K1 K2 (sc A) x1 x2) (h : RG K1 K2 g y1 y2) : RG K1 K2 g (F2 y1 x1 (K1 p) (K1 q) t) (F2 y2 x2 (K2 p) (K2 q) T) :=
  RG.swept H (RG.swept H hx hx p) (RG.swept H hx h p) q
theorem pcF_eq (H : Sc K1 K2 A t e c T E) (hx : RG K1 K2 (sc A) x1 x2) (h : RG K1 K2 id f1 f2) : pcF f2 x2 (K2 p) T = pcF f1 x1 (K1 p) t := (RG.swept H hx h p).get p
theorem ccF_eq (H : Sc K1 K2 A t e c T E) (hx : RG K1 K2 (sc A) x1 x2) (h : RG K1 K2 id f1 f2) : ccF f2 x2 (K2 p) (K2 q) T = ccF f1 x1 (K1 p) (K1 q) t := (RG.F2 (p := p) (q := q) H hx h).get q
theorem ttlF_eq (H : Sc K1 K2 A t e c T E) (pc : Int) : ttlF pc T E = 60 * ttlF pc t e := by
  unfold ttlF
  split
  · rfl
  · rw [show T - E = sc A (t - e) by rw [H.hT, H.hE]; show 60 * t + A - 60 * e = 60 * (t - e) + A; omega, sc_mod H, H.hE]; omega
theorem mul60 (a b : Int) : a * (60 * b) = 60 * (a * b) := by rw [← Int.mul_assoc, Int.mul_comm a 60, Int.mul_assoc]
theorem wF_eq (H : Sc K1 K2 A t e c T E) (hx : RG K1 K2 (sc A) x1 x2) (h : RG K1 K2 id f1 f2) : wF f2 x2 (K2 p) (K2 q) T E = wF f1 x1 (K1 p) (K1 q) t e := by
  unfold wF
  rw [pcF_eq H hx h, ccF_eq H hx h, ttlF_eq H, mul60, H.hE, fdiv60 H.he]
theorem acq_sim (H : Sc K1 K2 A t e c T E) (hx : RG K1 K2 (sc A) x1 x2) (h : RG K1 K2 id f1 f2) {limit am : Int} {b1 b2 : Bool} {f1' x1' f2' x2' : Str → Option Int} (P1 : AcqPost f1 x1 (K1 p) (K1 q) t e limit am b1 f1' x1') (P2 : AcqPost f2 x2 (K2 p) (K2 q) T E limit am b2 f2' x2') :
    b2 = b1 ∧ RG K1 K2 id f1' f2' ∧ RG K1 K2 (sc A) x1' x2' := by
  have hw := wF_eq (p := p) (q := q) H hx h
  have g1 := RG.F2 (p := p) (q := q) H hx h
  have g2 := RG.F2 (p := p) (q := q) H hx hx
  unfold AcqPost at P1 P2
  rw [hw] at P2
  rcases P1 with ⟨a1, rfl, rfl, rfl⟩ | ⟨a1, a2, rfl, rfl, rfl⟩ | ⟨a1, a2, rfl, rfl, rfl⟩ <;> rcases P2 with ⟨d1, rfl, rfl, rfl⟩ | ⟨d1, d2, rfl, rfl, rfl⟩ | ⟨d1, d2, rfl, rfl, rfl⟩ <;> first
    | (exfalso; omega)
    | exact ⟨rfl, h, hx⟩
    | exact ⟨rfl, g1, g2⟩
    | exact ⟨rfl, RG.incF H g2 g1 q am, RG.incX H g2 g1 q am (by rw [H.hE]; omega)⟩
end
section
variable {ι : Type} {K1 K2 : ι → Str} {A t e c T E : Int} {v1 v2 : Str → Option (List (Int × Int))}
theorem scE_get (ens : List (Int × Int)) (i : Nat) : (scE A ens)[i]? = (ens[i]?).map fun e => (sc A e.1, sc A e.2) := List.getElem?_map
theorem cutE_eq (H : Sc K1 K2 A t e c T E) (ens : List (Int × Int)) : cutE T (scE A ens) = scE A (cutE t ens) := by
  have b : T = 60 * t + A := H.hT
  have z := sc_t H
  unfold cutE
  have hp : (fun i : Nat => decide (-(((scE A ens)[i]?).map (fun y : Int × Int => y.2)).getD 0 < -T)) = fun i : Nat => decide (-((ens[i]?).map (fun y : Int × Int => y.2)).getD 0 < -t) := by
    funext i
    rw [scE_get ens i]
    cases ens[i]? with
    | none => show decide (-(0 : Int) < -T) = decide (-(0 : Int) < -t); congr 1; exact propext ⟨fun _ => by omega, fun _ => by omega⟩
    | some y => show decide (-(60 * y.2 + A) < -T) = decide (-y.2 < -t); congr 1; exact propext ⟨fun _ => by omega, fun _ => by omega⟩
  rw [hp, show (scE A ens).length = ens.length from List.length_map ..]
  exact (List.map_take ..).symm
theorem prune_sim (H : Sc K1 K2 A t e c T E) (h : RG K1 K2 (scE A) v1 v2) : RG K1 K2 (scE A) (prune t v1) (prune T v2) := fun i => by
  unfold prune
  rw [h i]
  cases v1 (K1 i) with
  | none => rfl
  | some ens => exact congrArg some (cutE_eq H ens)
theorem mwN_eq (H : Sc K1 K2 A t e c T E) (ens : List (Int × Int)) : mwN (scE A ens) T E = mwN ens t e ∧ mwI (scE A ens) T E = mwI ens t e := by
  have b : T = 60 * t + A := H.hT
  have d := H.hE
  have e2 := H.het
  have z := sc_t H
  have hl : (scE A ens).length = ens.length := List.length_map ..
  have hn : mwN (scE A ens) T E = mwN ens t e := by
    unfold mwN
    rw [hl]
    congr 1
    funext i
    rw [scE_get]
    cases ens[i]? with
    | none => show decide (-(0 : Int) < -(T - E)) = decide (-(0 : Int) < -(t - e)); congr 1; exact propext ⟨fun _ => by omega, fun _ => by omega⟩
    | some y => show decide (-(60 * y.1 + A) < -(T - E)) = decide (-y.1 < -(t - e)); congr 1; exact propext ⟨fun _ => by omega, fun _ => by omega⟩
  refine ⟨hn, ?_⟩
  unfold mwI
  rw [hn, hl]
theorem mw_sim (H : Sc K1 K2 A t e c T E) {o1 o2 : Option (List (Int × Int))} (h : o2 = o1.map (scE A)) {a1 n1 a2 n2 : Int} (P1 : MwP o1 t e a1 n1) (P2 : MwP o2 T E a2 n2) : a2 = sc A a1 ∧ n2 = n1 := by
  subst h
  rcases P1 with ⟨rfl, rfl, rfl⟩ | ⟨rfl, rfl, rfl⟩ | ⟨ens, en, rfl, h0, h1, rfl, rfl⟩ <;> rcases P2 with ⟨q, rfl, rfl⟩ | ⟨q, rfl, rfl⟩ | ⟨ens2, en2, q, g0, g1, rfl, rfl⟩
  · exact ⟨H.hT, rfl⟩
  · cases q
  · cases q
  · cases q
  · exact ⟨H.hT, rfl⟩
  · obtain rfl : ([] : List (Int × Int)) = ens2 := Option.some.inj q
    exact absurd rfl g0
  · cases q
  · have : scE A ens = [] := Option.some.inj q
    exact absurd (List.map_eq_nil_iff.mp this) h0
  · obtain rfl : scE A ens = ens2 := Option.some.inj q
    obtain ⟨m1, m2⟩ := mwN_eq H ens
    rw [m2, scE_get, h1] at g1
    obtain rfl := Option.some.inj g1
    exact ⟨rfl, by rw [m1]⟩
theorem scE_nil : ∀ o : Option (List (Int × Int)), (o.map (scE A)).getD [] = scE A (o.getD [])
  | none => rfl
  | some _ => rfl
theorem aen_sim (H : Sc K1 K2 A t e c T E) (h : RG K1 K2 (scE A) v1 v2) {i : ι} {limit am : Int} {b1 b2 : Bool} {v1' v2' : Str → Option (List (Int × Int))} (P1 : AenPost v1 (K1 i) t e limit am b1 v1') (P2 : AenPost v2 (K2 i) T E limit am b2 v2') :
    b2 = b1 ∧ RG K1 K2 (scE A) v1' v2' := by
  have b : T = 60 * t + A := H.hT
  have d := H.hE
  unfold AenPost at P1 P2
  rw [h i, scE_nil] at P2
  have k1 : RG K1 K2 (scE A) (upd v1 (K1 i) (some ((v1 (K1 i)).getD []))) (upd v2 (K2 i) (some (scE A ((v1 (K1 i)).getD [])))) := h.upd H i rfl
  have k2 : RG K1 K2 (scE A) (upd v1 (K1 i) (some (List.replicate am.toNat (t, t + e) ++ (v1 (K1 i)).getD []))) (upd v2 (K2 i) (some (List.replicate am.toNat (T, T + E) ++ scE A ((v1 (K1 i)).getD [])))) := h.upd H i (by
    show some _ = some _
    congr 1
    unfold scE
    rw [List.map_append, List.map_replicate, show T + E = sc A (t + e) by show T + E = 60 * (t + e) + A; omega, show T = sc A t from b])
  rcases P1 with ⟨a1, rfl, rfl⟩ | ⟨a1, ⟨en, a2, a3⟩, rfl, rfl⟩ | ⟨a1, a2, rfl, rfl⟩ <;> rcases P2 with ⟨d1, rfl, rfl⟩ | ⟨d1, ⟨en', d2, d3⟩, rfl, rfl⟩ | ⟨d1, d2, rfl, rfl⟩ <;> try (exfalso; omega)
  · exact ⟨rfl, h⟩
  · exact ⟨rfl, k1⟩
  · have q := d2 (sc A en.1, sc A en.2) (by rw [scE_get, a2]; rfl)
    replace q : 60 * en.1 + A < T - E := q
    exfalso; omega
  · rw [scE_get] at d2
    cases hx : ((v1 (K1 i)).getD [])[(limit - am).toNat]? with
    | none => rw [hx] at d2; cases d2
    | some y =>
      rw [hx] at d2
      obtain rfl := Option.some.inj d2
      have q := a2 y hx
      replace d3 : T - E ≤ 60 * y.1 + A := d3
      exfalso; omega
  · exact ⟨rfl, k2⟩
end

end
section
-- only 2
section
variable {w : World} {A : Around} {E : Value → Shared → Prop} {s : Shared} {h₀ : Heap} {L : Addr} {m : Str → Option Value} {frz news : List (Addr × Obj)} {S X V lim st : Addr} {k : Int} {pl : Sem Bool} {Q : Value × List Value → Shared → Prop}
theorem lim_hit (F : Fr h₀ L s.heap m) (KX : (Mine.hd1.heap_39 w.params).In h₀) (N : News h₀ L s.heap news) (Li : LimK frz S X V lim st k) (hs : ∀ q ∈ frz, q ∈ news)
    (h : Q (.ref (hitFn k), [.ref lim]) s) : wpAny (model PySem.Challenge.rw_ji0060_02.row.prog w) A (getMethod (.ref lim) (Str.ofString "hit") pl) Q E s := by
  revert KX; k_fill; intro KX
  rcases Li with ⟨rfl, dx, h1, t1, n, a, b, _, _⟩ | ⟨rfl, dx, h1, t1, n, a, b, _, _⟩ | ⟨rfl, dx, h1, t1, n, a, b, _, _⟩
  · refine' method_inst (f := 220) F KX (inst_N (C := 241) N (hs _ a) (hs _ b)) ?k4 ?k5 ?k6 ?k7 h
    (case k4 => k_is)
    (case k5 => k_is)
    (case k6 => k_is)
    (case k7 => k_get)
  · refine' method_inst (f := 181) F KX (inst_N (C := 202) N (hs _ a) (hs _ b)) ?k4 ?k5 ?k6 ?k7 h
    (case k4 => k_is)
    (case k5 => k_is)
    (case k6 => k_is)
    (case k7 => k_get)
  · refine' method_inst (f := 266) F KX (inst_N (C := 296) N (hs _ a) (hs _ b)) ?k4 ?k5 ?k6 ?k7 h
    (case k4 => k_is)
    (case k5 => k_is)
    (case k6 => k_is)
    (case k7 => k_get)
theorem lim_test (F : Fr h₀ L s.heap m) (KX : (Mine.hd1.heap_39 w.params).In h₀) (N : News h₀ L s.heap news) (Li : LimK frz S X V lim st k) (hs : ∀ q ∈ frz, q ∈ news)
    (h : Q (.ref (testFn k), [.ref lim]) s) : wpAny (model PySem.Challenge.rw_ji0060_02.row.prog w) A (getMethod (.ref lim) (Str.ofString "test") pl) Q E s := by
  revert KX; k_fill; intro KX
  rcases Li with ⟨rfl, dx, h1, t1, n, a, b, _, _⟩ | ⟨rfl, dx, h1, t1, n, a, b, _, _⟩ | ⟨rfl, dx, h1, t1, n, a, b, _, _⟩
  · refine' method_inst (f := 229) F KX (inst_N (C := 241) N (hs _ a) (hs _ b)) ?k4 ?k5 ?k6 ?k7 h
    (case k4 => k_is)
    (case k5 => k_is)
    (case k6 => k_is)
    (case k7 => k_get)
  · refine' method_inst (f := 190) F KX (inst_N (C := 202) N (hs _ a) (hs _ b)) ?k4 ?k5 ?k6 ?k7 h
    (case k4 => k_is)
    (case k5 => k_is)
    (case k6 => k_is)
    (case k7 => k_get)
  · refine' method_inst (f := 275) F KX (inst_N (C := 296) N (hs _ a) (hs _ b)) ?k4 ?k5 ?k6 ?k7 h
    (case k4 => k_is)
    (case k5 => k_is)
    (case k6 => k_is)
    (case k7 => k_get)
theorem lim_stat (F : Fr h₀ L s.heap m) (KX : (Mine.hd1.heap_39 w.params).In h₀) (N : News h₀ L s.heap news) (Li : LimK frz S X V lim st k) (hs : ∀ q ∈ frz, q ∈ news)
    (h : Q (.ref (statFn k), [.ref lim]) s) : wpAny (model PySem.Challenge.rw_ji0060_02.row.prog w) A (getMethod (.ref lim) (Str.ofString "get_window_stats") pl) Q E s := by
  revert KX; k_fill; intro KX
  rcases Li with ⟨rfl, dx, h1, t1, n, a, b, _, _⟩ | ⟨rfl, dx, h1, t1, n, a, b, _, _⟩ | ⟨rfl, dx, h1, t1, n, a, b, _, _⟩
  · refine' method_inst (f := 238) F KX (inst_N (C := 241) N (hs _ a) (hs _ b)) ?k4 ?k5 ?k6 ?k7 h
    (case k4 => k_is)
    (case k5 => k_is)
    (case k6 => k_is)
    (case k7 => k_get)
  · refine' method_inst (f := 199) F KX (inst_N (C := 202) N (hs _ a) (hs _ b)) ?k4 ?k5 ?k6 ?k7 h
    (case k4 => k_is)
    (case k5 => k_is)
    (case k6 => k_is)
    (case k7 => k_get)
  · refine' method_inst (f := 284) F KX (inst_N (C := 296) N (hs _ a) (hs _ b)) ?k4 ?k5 ?k6 ?k7 h
    (case k4 => k_is)
    (case k5 => k_is)
    (case k6 => k_is)
    (case k7 => k_get)
theorem lim_clr (F : Fr h₀ L s.heap m) (KX : (Mine.hd1.heap_39 w.params).In h₀) (N : News h₀ L s.heap news) (Li : LimK frz S X V lim st k) (hs : ∀ q ∈ frz, q ∈ news)
    (h : Q (.ref (clrFn k), [.ref lim]) s) : wpAny (model PySem.Challenge.rw_ji0060_02.row.prog w) A (getMethod (.ref lim) (Str.ofString "clear") pl) Q E s := by
  revert KX; k_fill; intro KX
  rcases Li with ⟨rfl, dx, h1, t1, n, a, b, _, _⟩ | ⟨rfl, dx, h1, t1, n, a, b, _, _⟩ | ⟨rfl, dx, h1, t1, n, a, b, _, _⟩
  · refine' method_inst (f := 158) F KX (inst_N (C := 241) N (hs _ a) (hs _ b)) ?k4 ?k5 ?k6 ?k7 h
    (case k4 => k_is)
    (case k5 => k_is)
    (case k6 => k_is)
    (case k7 => k_get)
  · refine' method_inst (f := 158) F KX (inst_N (C := 202) N (hs _ a) (hs _ b)) ?k4 ?k5 ?k6 ?k7 h
    (case k4 => k_is)
    (case k5 => k_is)
    (case k6 => k_is)
    (case k7 => k_get)
  · refine' method_inst (f := 293) F KX (inst_N (C := 296) N (hs _ a) (hs _ b)) ?k4 ?k5 ?k6 ?k7 h
    (case k4 => k_is)
    (case k5 => k_is)
    (case k6 => k_is)
    (case k7 => k_get)
theorem keep_hit (KX : (Mine.hd1.heap_39 w.params).In h₀) : keepIn (Mine.hd1.heap_39 w.params) (.ref (hitFn k)) = true := by
  revert KX; k_fill; intro KX
  unfold hitFn
  split
  · k_is
  · split
    · k_is
    · k_is
theorem keep_test (KX : (Mine.hd1.heap_39 w.params).In h₀) : keepIn (Mine.hd1.heap_39 w.params) (.ref (testFn k)) = true := by
  revert KX; k_fill; intro KX
  unfold testFn
  split
  · k_is
  · split
    · k_is
    · k_is
theorem keep_stat (KX : (Mine.hd1.heap_39 w.params).In h₀) : keepIn (Mine.hd1.heap_39 w.params) (.ref (statFn k)) = true := by
  revert KX; k_fill; intro KX
  unfold statFn
  split
  · k_is
  · split
    · k_is
    · k_is
theorem keep_clr (KX : (Mine.hd1.heap_39 w.params).In h₀) : keepIn (Mine.hd1.heap_39 w.params) (.ref (clrFn k)) = true := by
  revert KX; k_fill; intro KX
  unfold clrFn
  split
  · k_is
  · split
    · k_is
    · k_is
end
/-- the three limiters in a list -/
noncomputable def LimsAt (frz : List (Addr × Obj)) (S X V lims st : Addr) : Prop := ∃ fx mv sl n, (lims, listOf #[.ref fx, .ref mv, .ref sl] n) ∈ frz ∧ LimAt frz S X V 241 fx st ∧ LimAt frz S X V 202 mv st ∧ LimAt frz S X V 296 sl st
theorem lims_tail {prog : Program} {w : World} {A : Around} {E : Value → Shared → Prop} {Q : Value → Shared → Prop} {s : Shared} {h₀ : Heap} {L lims S X V st : Addr} {news frz : List (Addr × Obj)} {k : Int} {tk : Tok} {value slice : PySem.Expr}
    (N : News h₀ L s.heap news) (LS : LimsAt frz S X V lims st) (hs : ∀ q ∈ frz, q ∈ news) (hk : 0 ≤ k ∧ k < 3) (h : ∀ lim, LimK frz S X V lim st k → Q (.ref lim) s)
    (ho : subscripted slice false (.ref lims) (.int k tk) = operate [.ref lims, .int k tk] (getItem (.ref lims) (.int k tk)) := by with_unfolding_all rfl) : wpAny (model prog w) A (subscriptTail value slice (.ref lims) (.int k tk)) Q E s := by
  obtain ⟨fx, mv, sl, n, hl, a, b, c⟩ := LS
  have hk3 : k = 0 ∨ k = 1 ∨ k = 2 := by omega
  have IL := News.isList (items := #[.ref fx, .ref mv, .ref sl]) N (hs _ hl)
  rcases hk3 with rfl | rfl | rfl
  · exact list_tail IL (getItem_listL (l := [.ref fx, .ref mv, .ref sl]) IL (by decide) (by decide) rfl (h _ (.fix rfl a))) ho
  · exact list_tail IL (getItem_listL (l := [.ref fx, .ref mv, .ref sl]) IL (by decide) (by decide) rfl (h _ (.mov rfl b))) ho
  · exact list_tail IL (getItem_listL (l := [.ref fx, .ref mv, .ref sl]) IL (by decide) (by decide) rfl (h _ (.sld rfl c))) ho
/-- one step of a world: what it answers, what it leaves -/
inductive StepR (key : Str) (t e am cost k deed : Int) (W : Wld) (r : Value) (W' : Wld) : Prop
  | test (b : Bool) : deed = 0 → r = .bool b → TestR key t e am cost k W b W' → StepR key t e am cost k deed W r W'
  | clr : deed = 1 → r = .none → W' = clrW key t e k W → StepR key t e am cost k deed W r W'
  | exp : deed = 2 → r = .none → W' = ExpW t W → StepR key t e am cost k deed W r W'
  | hit (b : Bool) : deed ≠ 0 → deed ≠ 1 → deed ≠ 2 → r = .bool b → HitR key t e am cost k W b W' → StepR key t e am cost k deed W r W'

end

theorem said_lims : True := by
  k_with "subscriptTail Name Name ref int" => (k_here; k_dflt (refine' lims_tail ?zyN ?zyLS ?zyhs ?zyhk ?_; (case zyN => k_asm); (case zyLS => assumption); (case zyhs => first | assumption | (intro q' hq'; (have hz' := (by assumption : ∀ q ∈ _, q ∈ _) q' hq'); repeat (first | exact hz' | refine List.Mem.tail _ ?_))); (case zyhk => assumption); k_whole); (intro lim' Li'))
  k_with "getMethod ref" => (k_here; k_dflt (first
      | ((with_reducible show wpAny _ _ (getMethod (Value.ref _) (Str.ofString "hit") _) _ _ _); refine' lim_hit ?zyF ?zyX ?zyN ?zyLi ?zyhs ?_; (case zyF => k_asm); (case zyX => k_asm); (case zyN => k_asm); (case zyLi => assumption); (case zyhs => first | assumption | (intro q' hq'; (have hz' := (by assumption : ∀ q ∈ _, q ∈ _) q' hq'); repeat (first | exact hz' | refine List.Mem.tail _ ?_))); k_whole)
      | ((with_reducible show wpAny _ _ (getMethod (Value.ref _) (Str.ofString "test") _) _ _ _); refine' lim_test ?zyF ?zyX ?zyN ?zyLi ?zyhs ?_; (case zyF => k_asm); (case zyX => k_asm); (case zyN => k_asm); (case zyLi => assumption); (case zyhs => first | assumption | (intro q' hq'; (have hz' := (by assumption : ∀ q ∈ _, q ∈ _) q' hq'); repeat (first | exact hz' | refine List.Mem.tail _ ?_))); k_whole)
      | ((with_reducible show wpAny _ _ (getMethod (Value.ref _) (Str.ofString "get_window_stats") _) _ _ _); refine' lim_stat ?zyF ?zyX ?zyN ?zyLi ?zyhs ?_; (case zyF => k_asm); (case zyX => k_asm); (case zyN => k_asm); (case zyLi => assumption); (case zyhs => first | assumption | (intro q' hq'; (have hz' := (by assumption : ∀ q ∈ _, q ∈ _) q' hq'); repeat (first | exact hz' | refine List.Mem.tail _ ?_))); k_whole)
      | ((with_reducible show wpAny _ _ (getMethod (Value.ref _) (Str.ofString "clear") _) _ _ _); refine' lim_clr ?zyF ?zyX ?zyN ?zyLi ?zyhs ?_; (case zyF => k_asm); (case zyX => k_asm); (case zyN => k_asm); (case zyLi => assumption); (case zyhs => first | assumption | (intro q' hq'; (have hz' := (by assumption : ∀ q ∈ _, q ∈ _) q' hq'); repeat (first | exact hz' | refine List.Mem.tail _ ?_))); k_whole)))
  k_with "callWith ref" => (k_here; k_dflt (first
      | (refine' callWith_KW ?zyk1 ?zyk2 ?zyk3 ?_; (case zyk1 => k_asm); (case zyk2 => with_reducible first | exact keep_hit (by assumption) | exact keep_test (by assumption)); (case zyk3 => exact rfl); k_whole)
      | (refine' callWith_K ?zyk1 ?zyk2 ?_; (case zyk1 => k_asm); (case zyk2 => with_reducible first | exact keep_stat (by assumption) | exact keep_clr (by assumption)); k_whole)))
  trivial
section
-- only 2
section
variable {w : World} {p : Program} {loose : List Str} {mean : ExcName → Option Value} {mg mb : Str → Option Value} {dp un : Nat} {gd : Option (List Code)} {cn : Str} {cs : Scope} {a : Addr} {ccd : Value} {cl : List (Str × Addr)} {outer : List Env} {A₀ : Around} {base h₀ : Heap} {L : Addr} {m : Str → Option Value} {s : Shared} {Q E : Value → Shared → Prop}
  (B : Below A₀ base outer h₀) (F : Fr h₀ L s.heap m) (KX : (Mine.hd1.heap_39 w.params).In h₀) (T : Top p loose mean mg mb h₀) (hk : cs.kind = .function)
include B F KX T hk

theorem lstep_spec {M : List Addr} {news R frz : List (Addr × Obj)} {st S X V clk lims it nt : Addr} {sec : Bool} {ns key : Str} {names : List Str} {am mu t e cost k deed : Int} {tc tk td : Tok} {W : Wld} {n z : Nat}
    (XB : (Mine.hd1.heap_39 w.params).In base) (TB : Top p loose mean mg mb base) (D : KtsDicts (outer.filterMap (·.frame)) h₀) (CD : CodeHd base 592 588) (CD2 : CodeHd base 644 640)
    (N : News h₀ L s.heap news) (I : WIn w M news R frz st S X V clk t W n z) (LS : LimsAt frz S X V lims st) (It : ItemAt frz S X V it sec ns am mu) (Nm : NamesAt frz S X V nt names) (G : Num W n z t e cost) (hk3 : 0 ≤ k ∧ k < 3) (ee : e = unitOf sec * mu) (ek : key = keyOf sec ns names am mu) (hd : dp ≤ 800) (hu : un ≤ 8000)
    (ret : ∀ r W' news' R' h₀' h' tk', StepR key t e am cost k deed W r W' → XTurn w p loose mean mg mb A₀ base outer h₀ h₀' → Fr h₀' L h' m → News h₀' L h' news' → Post w M news R frz st S X V clk t W' (n + 2) (z + 1000) news' R' → Q r { s with heap := h', toks := tk' }) :
    wpAny (model PySem.Challenge.rw_ji0060_02.row.prog w) (ktrTop dp un gd cn cs L a ccd cl outer) (call (.ref 721) [.ref lims, .ref st, .int deed td, .int k tk, .ref it, .ref nt, .int cost tc]) Q E s := by
  refine lower ?_ hd hu
  have hfz : ∀ q ∈ frz, q ∈ news := fun q hq => (I.fz q hq).1
  have G0 : Num W n z t e 0 := ⟨G.he, G.he2, G.het, G.ht, ⟨by decide, by decide⟩, G.hf, G.hn, G.hz⟩
  obtain ⟨dx, h1, h2, h3, h4, t1, t2, t3, t4, nn, oc, od, fd, sl, hst, hck, hdx, _, _, _⟩ := I.st.parts
  replace hst := hfz _ hst
  replace hdx := hfz _ hdx
  clear hck
  revert KX; k_fill; intro KX
  refine wpAny_call ?_
  walk_at "m enterX"
  k_steps
  · exact ret _ _ _ _ _ _ _ (.test _ (by assumption) rfl (by assumption)) ⟨by assumption, by assumption, by assumption, by assumption, by assumption⟩ (by assumption) (by assumption) (by assumption)
  · exact ret _ _ _ _ _ _ _ (.clr (by assumption) rfl rfl) ⟨by assumption, by assumption, by assumption, by assumption, by assumption⟩ (by assumption) (by assumption) (by assumption)
  · exact ret _ _ _ _ _ _ _ (.exp (by assumption) rfl rfl) ⟨by assumption, by assumption, by assumption, by assumption, by assumption⟩ (by assumption) (by assumption) (by assumption)
  · exact ret _ _ _ _ _ _ _ (.hit _ (by assumption) (by assumption) (by assumption) rfl (by assumption)) ⟨by assumption, by assumption, by assumption, by assumption, by assumption⟩ (by assumption) (by assumption) (by assumption)
end

end

theorem said_lstep : True := by
  k_with "call ref" => (k_here; (with_reducible show wpAny _ _ (call (Value.ref 721) _) _ _ _); with_reducible refine heldW ?_)
  trivial
section
-- only 2
theorem said_p_trst : True := by
  k_with "call type:type" => (k_here; (fail_if_success (fail_if_success (have := (by with_reducible assumption : Mk 164)))); k_dflt (refine' kto_own ?zyI ?_; (case zyI => (refine' inst_T ?zyNN ?zyh1 ?zyh2; (case zyNN => k_asm); (case zyh1 => k_mem); (case zyh2 => k_mem))); k_whole))
  trivial
section
variable {w : World} {p : Program} {loose : List Str} {mean : ExcName → Option Value} {mg mb : Str → Option Value} {dp un : Nat} {gd : Option (List Code)} {cn : Str} {cs : Scope} {a : Addr} {ccd : Value} {cl : List (Str × Addr)} {outer : List Env} {A₀ : Around} {base h₀ : Heap} {L : Addr} {m : Str → Option Value} {s : Shared} {Q E : Value → Shared → Prop}
  (B : Below A₀ base outer h₀) (F : Fr h₀ L s.heap m) (KX : (Mine.hd1.heap_39 w.params).In h₀) (T : Top p loose mean mg mb h₀) (hk : cs.kind = .function)
include B F KX T hk

theorem trst_spec {news : List (Addr × Obj)} {x d : Addr} {q : Value} {i : Int} {r : Tok} (N : News h₀ L s.heap news) (hx : (x, tupObj d [q, .int i r]) ∈ news) (hd1 : (d, emptyDict) ∈ news) (hd : dp ≤ 860) (hu : un ≤ 8600)
    (ret : ∀ h' tk', Fr h₀ L h' m → News h₀ L h' news → Q q { s with heap := h', toks := tk' }) :
    wpAny (model PySem.Challenge.rw_ji0060_02.row.prog w) (ktrTop dp un gd cn cs L a ccd cl outer) (call (.ref 43) [.ref 124, .ref x, .ref 132]) Q E s := by
  have mkp : Mk 164 := trivial
  refine lower ?_ hd hu
  revert KX; k_fill; intro KX
  refine wpAny_call ?_
  walk_at "m enter"
  k_steps
  exact ret _ _ (by assumption) (by assumption)
end

end

theorem said_trst : True := by
  k_with "getAttr ref" => (k_here; (with_reducible show wpAny _ _ (getAttr (Value.ref _) (Str.ofString "reset_time") _) _ _ _); k_dflt (refine' get_descr ?zygF ?zygX ?zygI ?zyga ?zyg2 ?zyg3 ?zygb ?zygc ?zygd ?zyge ?_; (case zygF => k_asm); (case zygX => k_asm); (case zygI => (refine' inst_T ?zyNN ?zyh1 ?zyh2; (case zyNN => k_asm); (case zyh1 => k_mem); (case zyh2 => k_mem))); (case zyga => k_is); (case zyg2 => k_is); (case zyg3 => k_is); (case zygb => k_is); (case zygc => k_is); (case zygd => k_is); (case zyge => k_is)); k_dflt (refine' trst_spec ?zyB ?zyF ?zyX ?zyT ?zyk ?zyN ?zyhx ?zyh1 ?zyd ?zyu ?_; (case zyB => k_asm); (case zyF => k_asm); (case zyX => k_asm); (case zyT => k_asm); (case zyk => first | exact rfl | assumption); (case zyN => k_asm); (case zyhx => k_mem); (case zyh1 => k_mem); (case zyd => exact Nat.le_of_ble_eq_true rfl); (case zyu => exact Nat.le_of_ble_eq_true rfl); k_whole); (intro h' tk' F' N'; refine handed_on rfl ?_; (try dsimp only at N'); (try dsimp only); (try k_sweep)))
  trivial
section
-- only 2
theorem Post.add {w : World} {M : List Addr} {news R frz news' R' : List (Addr × Obj)} {st S X V clk : Addr} {t : Int} {W : Wld} {n z : Nat} {p : Addr × Obj} (P : Post w M news R frz st S X V clk t W n z news' R') (al : AllLt p.1 news') : Post w M news R frz st S X V clk t W n z (p :: news') (p :: R') :=
  ⟨fun q hq h => .tail _ (P.keep q hq h), fun q hq => .tail _ (P.up q hq), ⟨cons_sub P.wi.sub, fun q hq hm => by
    rcases List.mem_cons.mp hq with rfl | hq
    · obtain ⟨o, ho⟩ := P.wi.has _ hm
      exact Nat.lt_irrefl _ (allLt_mem al (q.1, o) ho)
    · exact P.wi.off q hq hm, fun a ha => (P.wi.has a ha).imp fun _ h => .tail _ h, P.wi.ms, fun q hq => ⟨.tail _ (P.wi.fz q hq).1, (P.wi.fz q hq).2⟩, P.wi.st, P.wi.d4, P.wi.tabs.to (fun q hq _ => .tail _ hq) (fun q hq => .tail _ hq) (Nat.le_refl _) (Nat.le_refl _)⟩⟩
section
variable {w : World} {p : Program} {loose : List Str} {mean : ExcName → Option Value} {mg mb : Str → Option Value} {dp un : Nat} {gd : Option (List Code)} {cn : Str} {cs : Scope} {a : Addr} {ccd : Value} {cl : List (Str × Addr)} {outer : List Env} {A₀ : Around} {base h₀ : Heap} {L : Addr} {m : Str → Option Value} {s : Shared} {Q E : Value → Shared → Prop}
  (B : Below A₀ base outer h₀) (F : Fr h₀ L s.heap m) (KX : (Mine.hd1.heap_39 w.params).In h₀) (T : Top p loose mean mg mb h₀) (hk : cs.kind = .function)
include B F KX T hk

theorem lstat_spec {M : List Addr} {news R frz : List (Addr × Obj)} {st S X V clk lims it nt : Addr} {sec : Bool} {ns key : Str} {names : List Str} {am mu t e k : Int} {tk : Tok} {W : Wld} {n z : Nat}
    (CD2 : CodeHd base 644 640)
    (N : News h₀ L s.heap news) (I : WIn w M news R frz st S X V clk t W n z) (LS : LimsAt frz S X V lims st) (It : ItemAt frz S X V it sec ns am mu) (Nm : NamesAt frz S X V nt names) (G0 : Num W n z t e 0) (hk3 : 0 ≤ k ∧ k < 3) (ee : e = unitOf sec * mu) (ek : key = keyOf sec ns names am mu) (hd : dp ≤ 800) (hu : un ≤ 8000)
    (ret : ∀ y q num den left r r1 r2 W' news' R' h' tk', StatR key t e am k W num den left W' → Fr h₀ L h' m → News h₀ L h' news' → (y, ({ cls := .type "tuple", data := .seq #[.ref q, .int left r] } : Obj)) ∈ R' → (q, ({ cls := .type "tuple", data := .seq #[.int num r1, .int den r2] } : Obj)) ∈ R' → Post w M news R frz st S X V clk t W' (n + 2) (z + 1000) news' R' → Q (.ref y) { s with heap := h', toks := tk' }) :
    wpAny (model PySem.Challenge.rw_ji0060_02.row.prog w) (ktrTop dp un gd cn cs L a ccd cl outer) (call (.ref 714) [.ref lims, .int k tk, .ref it, .ref nt]) Q E s := by
  refine lower ?_ hd hu
  have hfz : ∀ q ∈ frz, q ∈ news := fun q hq => (I.fz q hq).1
  revert KX; k_fill; intro KX
  refine wpAny_call ?_
  walk_at "m enter"
  k_steps
  all_goals
    rcases to' with ⟨d, r1, r2, hk2, m1, m2, rfl⟩ | ⟨d, q, r, r1, r2, hk2, m1, m2, m3⟩ <;> try contradiction
  · have m4 := po'.wi.sub _ m1
    have m5 := po'.wi.sub _ m2
    have m6 := po'.wi.sub _ m3
    k_steps
    exact ret _ _ _ _ _ _ _ _ _ _ _ _ _ (by assumption) (by assumption) (by assumption) (.head _) (.tail _ m3) (po'.add (by assumption))
  · have m4 := po'.wi.sub _ m1
    have m5 := po'.wi.sub _ m2
    k_steps
    exact ret _ _ _ _ _ _ _ _ _ _ _ _ _ (by assumption) (by assumption) (by assumption) (.head _) (.tail _ (.head _)) ((po'.add (by assumption)).add (by assumption))
end

end

theorem said_lstat : True := by
  k_with "call ref" => (k_here; (with_reducible show wpAny _ _ (call (Value.ref 714) _) _ _ _); with_reducible refine heldW ?_)
  trivial
section
-- only 2
theorem said_p_lnext : True := by
  k_with "call builtin:len" => (k_here; (fail_if_success (fail_if_success (have := (by with_reducible assumption : Mk 166)))); k_dflt (refine' len_base ?zyN ?zyn ?_; (case zyN => exact base_list (by k_asm) (by k_asm) (by assumption)); (case zyn => with_reducible assumption); k_whole); (intro r' tk'; (try dsimp only)))
  k_with "setItem ref int" => (k_here; (fail_if_success (fail_if_success (have := (by with_reducible assumption : Mk 166)))); k_dflt (refine' two_set ?zyF ?zyN ?zyU ?_; (case zyF => k_asm); (case zyN => k_asm); (case zyU => k_updF); k_whole); (intro h' F' N'; (try dsimp only at N'); (try dsimp only); (try k_sweep)))
  k_with "subscriptTail Name BinOp ref int" => (k_here; (fail_if_success (fail_if_success (have := (by with_reducible assumption : Mk 166)))); k_dflt (refine' int_base ?zyN ?zya ?zyb ?zyc ?_; (case zyN => exact base_list (by k_asm) (by k_asm) (by assumption)); (case zya => assumption); (case zyb => assumption); (case zyc => assumption); k_whole))
  trivial
theorem two_set {prog : Program} {w : World} {A : Around} {E : Value → Shared → Prop} {s : Shared} {h₀ : Heap} {L l : Addr} {m : Str → Option Value} {news : List (Addr × Obj)} {g : Obj → List (Addr × Obj)} {x v v' : Value} {n : Nat} {u : Tok} {Q : Unit → Shared → Prop} (F : Fr h₀ L s.heap m) (N : News h₀ L s.heap news) (U : UpdF l (listOf #[x, v] n) news g)
    (h : ∀ h', Fr h₀ L h' m → News h₀ L h' (g (listOf #[x, v'] n)) → Q () { s with heap := h' }) : wpAny (model prog w) A (setItem (.ref l) (.int 1 u) v') Q E s := by
  obtain ⟨pre, post, rfl, hg, a, b⟩ := U.split
  have z := N (l, listOf #[x, v] n) (List.mem_append.mpr (.inr (.head _)))
  refine ki_setAt z.1 (by decide) (by decide) (by simp) (h _ (F.change (Heap.SameBut.update ..) z.2.1 z.2.2) ?_)
  rw [hg]
  exact ki_turn _ N a b rfl rfl
theorem ints_at {rv : List Value} {rs : List Int} (h : IntsAre rv rs) : ∀ {j : Nat}, j < rv.length → ∃ x u, rv[j]? = some (.int x u) := by
  induction h with
  | nil => intro j e; simp at e
  | cons n t _ ih => intro j e; cases j with
    | zero => exact ⟨_, _, rfl⟩
    | succ j => exact ih (by simpa using e)
theorem hand_at {rv : List Value} {rs : List Int} {j : Nat} (h : IntsAre rv rs) (hl : rv.length ≤ 63) (h0 : ¬ (rv.length : Int) = 0) : 0 ≤ (j : Int).fmod rv.length ∧ (j : Int).fmod rv.length < 2 ^ 63 ∧ ∃ x u, rv[((j : Int).fmod rv.length).toNat]? = some (.int x u) := by
  have hb := fmod_bounds (t := (j : Int)) (e := (rv.length : Int)) (by omega)
  refine ⟨hb.1, by omega, ints_at h (by omega)⟩
theorem base_list {A₀ : Around} {base h₀ h : Heap} {outer : List Env} {L scr : Addr} {m : Str → Option Value} {its : Array Value} (B : Below A₀ base outer h₀) (F : Fr h₀ L h m) (hb : base.IsList scr its) : h.IsList scr its := hb.at fun o e => F.keep _ _ (B.stays _ _ e)
theorem len_base {prog : Program} {w : World} {A : Around} {E : Value → Shared → Prop} {s : Shared} {l : Addr} {vs : List Value} {Q : Value → Shared → Prop} (hl : s.heap.IsList l vs.toArray) (hn : vs.length ≤ 1000000)
    (h : ∀ t tk, Q (.int vs.length t) { s with toks := tk }) : wpAny (model prog w) A (call (.builtin "len") [.ref l]) Q E s := by
  refine Calls.call_len_list (items := vs.toArray) hl (by simp; omega) ?_
  rw [List.size_toArray]
  exact h _ _
theorem int_base {prog : Program} {w : World} {A : Around} {E : Value → Shared → Prop} {s : Shared} {l : Addr} {vs : List Value} {k : Int} {u : Tok} {v : Value} {value slice : PySem.Expr} {Q : Value → Shared → Prop} (hl : s.heap.IsList l vs.toArray) (h0 : 0 ≤ k) (hf : k < 2 ^ 63) (hx : vs[k.toNat]? = some v) (h : Q v s)
    (hs : subscripted slice false (.ref l) (.int k u) = operate [.ref l, .int k u] (getItem (.ref l) (.int k u)) := by with_unfolding_all rfl) : wpAny (model prog w) A (subscriptTail value slice (.ref l) (.int k u)) Q E s :=
  list_tail hl (getItem_listL hl h0 hf hx h) hs
section
variable {w : World} {p : Program} {loose : List Str} {mean : ExcName → Option Value} {mg mb : Str → Option Value} {dp un : Nat} {gd : Option (List Code)} {cn : Str} {cs : Scope} {a : Addr} {ccd : Value} {cl : List (Str × Addr)} {outer : List Env} {A₀ : Around} {base h₀ : Heap} {L : Addr} {m : Str → Option Value} {s : Shared} {Q E : Value → Shared → Prop}
  (B : Below A₀ base outer h₀) (F : Fr h₀ L s.heap m) (KX : (Mine.hd1.heap_39 w.params).In h₀) (T : Top p loose mean mg mb h₀) (hk : cs.kind = .function)
include B F KX T hk

end
noncomputable def lnext_spec_St (w : World) (p : Program) (loose : List Str) (mean : ExcName → Option Value) (mg : Str → Option Value) (mb : Str → Option Value) (dp : Nat) (un : Nat) (gd : Option (List Code)) (cn : Str) (cs : Scope) (a : Addr) (ccd : Value) (cl : List (Str × Addr)) (outer : List Env) (A₀ : Around) (base : Heap) (h₀ : Heap) (L : Addr) (m : Str → Option Value) (s : Shared) (Q : Value → Shared → Prop) (E : Value → Shared → Prop) (news : List (Addr × Obj)) (hand : Addr) (scr : Addr) (g : Obj → List (Addr × Obj)) (rv : List Value) (rs : List Int) (nh : Nat) (j : Nat) (many : Int) (tj : Tok) (tm : Tok) : Prop := ∀ (B : Below A₀ base outer h₀) (F : Fr h₀ L s.heap m) (KX : (Mine.hd1.heap_39 w.params).In h₀) (T : Top p loose mean mg mb h₀) (hk : cs.kind = .function) (N : News h₀ L s.heap news) (U : UpdF hand (listOf #[.ref scr, .int j tj] nh) news g) (hb : base.IsList scr rv.toArray) (hr : IntsAre rv rs) (hl : rv.length ≤ 63) (hj : j ≤ 100) (hm : 1 ≤ many ∧ many ≤ 100) (hd : dp ≤ 860) (hu : un ≤ 8600) (retH : ∀ v r t' h' tk', 0 ≤ v ∧ v < many → Fr h₀ L h' m → News h₀ L h' (g (listOf #[.ref scr, .int ((j + 1 : Nat) : Int) t'] nh)) → Q (.int v r) { s with heap := h', toks := tk' }), wpAny (model PySem.Challenge.rw_ji0060_02.row.prog w) (ktrTop dp un gd cn cs L a ccd cl outer) (call (.ref 700) [.ref hand, .int many tm]) Q E s
namespace c_lnext_spec
noncomputable def zcv : (World) × (Program) × (List Str) × (ExcName → Option Value) × (Str → Option Value) × (Str → Option Value) × (Nat) × (Nat) × (Option (List Code)) × (Str) × (Scope) × (Addr) × (Value) × (List (Str × Addr)) × (List Env) × (Around) × (Heap) × (Heap) × (Addr) × (Str → Option Value) × (Shared) × (Value → Shared → Prop) × (Value → Shared → Prop) × (List (Addr × Obj)) × (Addr) × (Addr) × (Obj → List (Addr × Obj)) × (List Value) × (List Int) × (Nat) × (Nat) × (Int) × (Tok) × (Tok) := pick (neP neW (neP inferInstance (neP inferInstance (neP inferInstance (neP inferInstance (neP inferInstance (neP inferInstance (neP inferInstance (neP inferInstance (neP inferInstance (neP inferInstance (neP inferInstance (neP inferInstance (neP inferInstance (neP inferInstance (neP neA (neP inferInstance (neP inferInstance (neP inferInstance (neP inferInstance (neP neS (neP inferInstance (neP inferInstance (neP inferInstance (neP inferInstance (neP inferInstance (neP inferInstance (neP inferInstance (neP inferInstance (neP inferInstance (neP inferInstance (neP inferInstance (neP inferInstance inferInstance))))))))))))))))))))))))))))))))) (fun v : (World) × (Program) × (List Str) × (ExcName → Option Value) × (Str → Option Value) × (Str → Option Value) × (Nat) × (Nat) × (Option (List Code)) × (Str) × (Scope) × (Addr) × (Value) × (List (Str × Addr)) × (List Env) × (Around) × (Heap) × (Heap) × (Addr) × (Str → Option Value) × (Shared) × (Value → Shared → Prop) × (Value → Shared → Prop) × (List (Addr × Obj)) × (Addr) × (Addr) × (Obj → List (Addr × Obj)) × (List Value) × (List Int) × (Nat) × (Nat) × (Int) × (Tok) × (Tok) => lnext_spec_St (v.1) (v.2.1) (v.2.2.1) (v.2.2.2.1) (v.2.2.2.2.1) (v.2.2.2.2.2.1) (v.2.2.2.2.2.2.1) (v.2.2.2.2.2.2.2.1) (v.2.2.2.2.2.2.2.2.1) (v.2.2.2.2.2.2.2.2.2.1) (v.2.2.2.2.2.2.2.2.2.2.1) (v.2.2.2.2.2.2.2.2.2.2.2.1) (v.2.2.2.2.2.2.2.2.2.2.2.2.1) (v.2.2.2.2.2.2.2.2.2.2.2.2.2.1) (v.2.2.2.2.2.2.2.2.2.2.2.2.2.2.1) (v.2.2.2.2.2.2.2.2.2.2.2.2.2.2.2.1) (v.2.2.2.2.2.2.2.2.2.2.2.2.2.2.2.2.1) (v.2.2.2.2.2.2.2.2.2.2.2.2.2.2.2.2.2.1) (v.2.2.2.2.2.2.2.2.2.2.2.2.2.2.2.2.2.2.1) (v.2.2.2.2.2.2.2.2.2.2.2.2.2.2.2.2.2.2.2.1) (v.2.2.2.2.2.2.2.2.2.2.2.2.2.2.2.2.2.2.2.2.1) (v.2.2.2.2.2.2.2.2.2.2.2.2.2.2.2.2.2.2.2.2.2.1) (v.2.2.2.2.2.2.2.2.2.2.2.2.2.2.2.2.2.2.2.2.2.2.1) (v.2.2.2.2.2.2.2.2.2.2.2.2.2.2.2.2.2.2.2.2.2.2.2.1) (v.2.2.2.2.2.2.2.2.2.2.2.2.2.2.2.2.2.2.2.2.2.2.2.2.1) (v.2.2.2.2.2.2.2.2.2.2.2.2.2.2.2.2.2.2.2.2.2.2.2.2.2.1) (v.2.2.2.2.2.2.2.2.2.2.2.2.2.2.2.2.2.2.2.2.2.2.2.2.2.2.1) (v.2.2.2.2.2.2.2.2.2.2.2.2.2.2.2.2.2.2.2.2.2.2.2.2.2.2.2.1) (v.2.2.2.2.2.2.2.2.2.2.2.2.2.2.2.2.2.2.2.2.2.2.2.2.2.2.2.2.1) (v.2.2.2.2.2.2.2.2.2.2.2.2.2.2.2.2.2.2.2.2.2.2.2.2.2.2.2.2.2.1) (v.2.2.2.2.2.2.2.2.2.2.2.2.2.2.2.2.2.2.2.2.2.2.2.2.2.2.2.2.2.2.1) (v.2.2.2.2.2.2.2.2.2.2.2.2.2.2.2.2.2.2.2.2.2.2.2.2.2.2.2.2.2.2.2.1) (v.2.2.2.2.2.2.2.2.2.2.2.2.2.2.2.2.2.2.2.2.2.2.2.2.2.2.2.2.2.2.2.2.1) (v.2.2.2.2.2.2.2.2.2.2.2.2.2.2.2.2.2.2.2.2.2.2.2.2.2.2.2.2.2.2.2.2.2)) 0
theorem zal (h : lnext_spec_St (zcv.1) (zcv.2.1) (zcv.2.2.1) (zcv.2.2.2.1) (zcv.2.2.2.2.1) (zcv.2.2.2.2.2.1) (zcv.2.2.2.2.2.2.1) (zcv.2.2.2.2.2.2.2.1) (zcv.2.2.2.2.2.2.2.2.1) (zcv.2.2.2.2.2.2.2.2.2.1) (zcv.2.2.2.2.2.2.2.2.2.2.1) (zcv.2.2.2.2.2.2.2.2.2.2.2.1) (zcv.2.2.2.2.2.2.2.2.2.2.2.2.1) (zcv.2.2.2.2.2.2.2.2.2.2.2.2.2.1) (zcv.2.2.2.2.2.2.2.2.2.2.2.2.2.2.1) (zcv.2.2.2.2.2.2.2.2.2.2.2.2.2.2.2.1) (zcv.2.2.2.2.2.2.2.2.2.2.2.2.2.2.2.2.1) (zcv.2.2.2.2.2.2.2.2.2.2.2.2.2.2.2.2.2.1) (zcv.2.2.2.2.2.2.2.2.2.2.2.2.2.2.2.2.2.2.1) (zcv.2.2.2.2.2.2.2.2.2.2.2.2.2.2.2.2.2.2.2.1) (zcv.2.2.2.2.2.2.2.2.2.2.2.2.2.2.2.2.2.2.2.2.1) (zcv.2.2.2.2.2.2.2.2.2.2.2.2.2.2.2.2.2.2.2.2.2.1) (zcv.2.2.2.2.2.2.2.2.2.2.2.2.2.2.2.2.2.2.2.2.2.2.1) (zcv.2.2.2.2.2.2.2.2.2.2.2.2.2.2.2.2.2.2.2.2.2.2.2.1) (zcv.2.2.2.2.2.2.2.2.2.2.2.2.2.2.2.2.2.2.2.2.2.2.2.2.1) (zcv.2.2.2.2.2.2.2.2.2.2.2.2.2.2.2.2.2.2.2.2.2.2.2.2.2.1) (zcv.2.2.2.2.2.2.2.2.2.2.2.2.2.2.2.2.2.2.2.2.2.2.2.2.2.2.1) (zcv.2.2.2.2.2.2.2.2.2.2.2.2.2.2.2.2.2.2.2.2.2.2.2.2.2.2.2.1) (zcv.2.2.2.2.2.2.2.2.2.2.2.2.2.2.2.2.2.2.2.2.2.2.2.2.2.2.2.2.1) (zcv.2.2.2.2.2.2.2.2.2.2.2.2.2.2.2.2.2.2.2.2.2.2.2.2.2.2.2.2.2.1) (zcv.2.2.2.2.2.2.2.2.2.2.2.2.2.2.2.2.2.2.2.2.2.2.2.2.2.2.2.2.2.2.1) (zcv.2.2.2.2.2.2.2.2.2.2.2.2.2.2.2.2.2.2.2.2.2.2.2.2.2.2.2.2.2.2.2.1) (zcv.2.2.2.2.2.2.2.2.2.2.2.2.2.2.2.2.2.2.2.2.2.2.2.2.2.2.2.2.2.2.2.2.1) (zcv.2.2.2.2.2.2.2.2.2.2.2.2.2.2.2.2.2.2.2.2.2.2.2.2.2.2.2.2.2.2.2.2.2)) : ∀ u : (World) × (Program) × (List Str) × (ExcName → Option Value) × (Str → Option Value) × (Str → Option Value) × (Nat) × (Nat) × (Option (List Code)) × (Str) × (Scope) × (Addr) × (Value) × (List (Str × Addr)) × (List Env) × (Around) × (Heap) × (Heap) × (Addr) × (Str → Option Value) × (Shared) × (Value → Shared → Prop) × (Value → Shared → Prop) × (List (Addr × Obj)) × (Addr) × (Addr) × (Obj → List (Addr × Obj)) × (List Value) × (List Int) × (Nat) × (Nat) × (Int) × (Tok) × (Tok), lnext_spec_St (u.1) (u.2.1) (u.2.2.1) (u.2.2.2.1) (u.2.2.2.2.1) (u.2.2.2.2.2.1) (u.2.2.2.2.2.2.1) (u.2.2.2.2.2.2.2.1) (u.2.2.2.2.2.2.2.2.1) (u.2.2.2.2.2.2.2.2.2.1) (u.2.2.2.2.2.2.2.2.2.2.1) (u.2.2.2.2.2.2.2.2.2.2.2.1) (u.2.2.2.2.2.2.2.2.2.2.2.2.1) (u.2.2.2.2.2.2.2.2.2.2.2.2.2.1) (u.2.2.2.2.2.2.2.2.2.2.2.2.2.2.1) (u.2.2.2.2.2.2.2.2.2.2.2.2.2.2.2.1) (u.2.2.2.2.2.2.2.2.2.2.2.2.2.2.2.2.1) (u.2.2.2.2.2.2.2.2.2.2.2.2.2.2.2.2.2.1) (u.2.2.2.2.2.2.2.2.2.2.2.2.2.2.2.2.2.2.1) (u.2.2.2.2.2.2.2.2.2.2.2.2.2.2.2.2.2.2.2.1) (u.2.2.2.2.2.2.2.2.2.2.2.2.2.2.2.2.2.2.2.2.1) (u.2.2.2.2.2.2.2.2.2.2.2.2.2.2.2.2.2.2.2.2.2.1) (u.2.2.2.2.2.2.2.2.2.2.2.2.2.2.2.2.2.2.2.2.2.2.1) (u.2.2.2.2.2.2.2.2.2.2.2.2.2.2.2.2.2.2.2.2.2.2.2.1) (u.2.2.2.2.2.2.2.2.2.2.2.2.2.2.2.2.2.2.2.2.2.2.2.2.1) (u.2.2.2.2.2.2.2.2.2.2.2.2.2.2.2.2.2.2.2.2.2.2.2.2.2.1) (u.2.2.2.2.2.2.2.2.2.2.2.2.2.2.2.2.2.2.2.2.2.2.2.2.2.2.1) (u.2.2.2.2.2.2.2.2.2.2.2.2.2.2.2.2.2.2.2.2.2.2.2.2.2.2.2.1) (u.2.2.2.2.2.2.2.2.2.2.2.2.2.2.2.2.2.2.2.2.2.2.2.2.2.2.2.2.1) (u.2.2.2.2.2.2.2.2.2.2.2.2.2.2.2.2.2.2.2.2.2.2.2.2.2.2.2.2.2.1) (u.2.2.2.2.2.2.2.2.2.2.2.2.2.2.2.2.2.2.2.2.2.2.2.2.2.2.2.2.2.2.1) (u.2.2.2.2.2.2.2.2.2.2.2.2.2.2.2.2.2.2.2.2.2.2.2.2.2.2.2.2.2.2.2.1) (u.2.2.2.2.2.2.2.2.2.2.2.2.2.2.2.2.2.2.2.2.2.2.2.2.2.2.2.2.2.2.2.2.1) (u.2.2.2.2.2.2.2.2.2.2.2.2.2.2.2.2.2.2.2.2.2.2.2.2.2.2.2.2.2.2.2.2.2) := pick_all (P := fun v : (World) × (Program) × (List Str) × (ExcName → Option Value) × (Str → Option Value) × (Str → Option Value) × (Nat) × (Nat) × (Option (List Code)) × (Str) × (Scope) × (Addr) × (Value) × (List (Str × Addr)) × (List Env) × (Around) × (Heap) × (Heap) × (Addr) × (Str → Option Value) × (Shared) × (Value → Shared → Prop) × (Value → Shared → Prop) × (List (Addr × Obj)) × (Addr) × (Addr) × (Obj → List (Addr × Obj)) × (List Value) × (List Int) × (Nat) × (Nat) × (Int) × (Tok) × (Tok) => lnext_spec_St (v.1) (v.2.1) (v.2.2.1) (v.2.2.2.1) (v.2.2.2.2.1) (v.2.2.2.2.2.1) (v.2.2.2.2.2.2.1) (v.2.2.2.2.2.2.2.1) (v.2.2.2.2.2.2.2.2.1) (v.2.2.2.2.2.2.2.2.2.1) (v.2.2.2.2.2.2.2.2.2.2.1) (v.2.2.2.2.2.2.2.2.2.2.2.1) (v.2.2.2.2.2.2.2.2.2.2.2.2.1) (v.2.2.2.2.2.2.2.2.2.2.2.2.2.1) (v.2.2.2.2.2.2.2.2.2.2.2.2.2.2.1) (v.2.2.2.2.2.2.2.2.2.2.2.2.2.2.2.1) (v.2.2.2.2.2.2.2.2.2.2.2.2.2.2.2.2.1) (v.2.2.2.2.2.2.2.2.2.2.2.2.2.2.2.2.2.1) (v.2.2.2.2.2.2.2.2.2.2.2.2.2.2.2.2.2.2.1) (v.2.2.2.2.2.2.2.2.2.2.2.2.2.2.2.2.2.2.2.1) (v.2.2.2.2.2.2.2.2.2.2.2.2.2.2.2.2.2.2.2.2.1) (v.2.2.2.2.2.2.2.2.2.2.2.2.2.2.2.2.2.2.2.2.2.1) (v.2.2.2.2.2.2.2.2.2.2.2.2.2.2.2.2.2.2.2.2.2.2.1) (v.2.2.2.2.2.2.2.2.2.2.2.2.2.2.2.2.2.2.2.2.2.2.2.1) (v.2.2.2.2.2.2.2.2.2.2.2.2.2.2.2.2.2.2.2.2.2.2.2.2.1) (v.2.2.2.2.2.2.2.2.2.2.2.2.2.2.2.2.2.2.2.2.2.2.2.2.2.1) (v.2.2.2.2.2.2.2.2.2.2.2.2.2.2.2.2.2.2.2.2.2.2.2.2.2.2.1) (v.2.2.2.2.2.2.2.2.2.2.2.2.2.2.2.2.2.2.2.2.2.2.2.2.2.2.2.1) (v.2.2.2.2.2.2.2.2.2.2.2.2.2.2.2.2.2.2.2.2.2.2.2.2.2.2.2.2.1) (v.2.2.2.2.2.2.2.2.2.2.2.2.2.2.2.2.2.2.2.2.2.2.2.2.2.2.2.2.2.1) (v.2.2.2.2.2.2.2.2.2.2.2.2.2.2.2.2.2.2.2.2.2.2.2.2.2.2.2.2.2.2.1) (v.2.2.2.2.2.2.2.2.2.2.2.2.2.2.2.2.2.2.2.2.2.2.2.2.2.2.2.2.2.2.2.1) (v.2.2.2.2.2.2.2.2.2.2.2.2.2.2.2.2.2.2.2.2.2.2.2.2.2.2.2.2.2.2.2.2.1) (v.2.2.2.2.2.2.2.2.2.2.2.2.2.2.2.2.2.2.2.2.2.2.2.2.2.2.2.2.2.2.2.2.2)) h
noncomputable def w : World := zcv.1
noncomputable def p : Program := zcv.2.1
noncomputable def loose : List Str := zcv.2.2.1
noncomputable def mean : ExcName → Option Value := zcv.2.2.2.1
noncomputable def mg : Str → Option Value := zcv.2.2.2.2.1
noncomputable def mb : Str → Option Value := zcv.2.2.2.2.2.1
noncomputable def dp : Nat := zcv.2.2.2.2.2.2.1
noncomputable def un : Nat := zcv.2.2.2.2.2.2.2.1
noncomputable def gd : Option (List Code) := zcv.2.2.2.2.2.2.2.2.1
noncomputable def cn : Str := zcv.2.2.2.2.2.2.2.2.2.1
noncomputable def cs : Scope := zcv.2.2.2.2.2.2.2.2.2.2.1
noncomputable def a : Addr := zcv.2.2.2.2.2.2.2.2.2.2.2.1
noncomputable def ccd : Value := zcv.2.2.2.2.2.2.2.2.2.2.2.2.1
noncomputable def cl : List (Str × Addr) := zcv.2.2.2.2.2.2.2.2.2.2.2.2.2.1
noncomputable def outer : List Env := zcv.2.2.2.2.2.2.2.2.2.2.2.2.2.2.1
noncomputable def A₀ : Around := zcv.2.2.2.2.2.2.2.2.2.2.2.2.2.2.2.1
noncomputable def base : Heap := zcv.2.2.2.2.2.2.2.2.2.2.2.2.2.2.2.2.1
noncomputable def h₀ : Heap := zcv.2.2.2.2.2.2.2.2.2.2.2.2.2.2.2.2.2.1
noncomputable def L : Addr := zcv.2.2.2.2.2.2.2.2.2.2.2.2.2.2.2.2.2.2.1
noncomputable def m : Str → Option Value := zcv.2.2.2.2.2.2.2.2.2.2.2.2.2.2.2.2.2.2.2.1
noncomputable def s : Shared := zcv.2.2.2.2.2.2.2.2.2.2.2.2.2.2.2.2.2.2.2.2.1
noncomputable def Q : Value → Shared → Prop := zcv.2.2.2.2.2.2.2.2.2.2.2.2.2.2.2.2.2.2.2.2.2.1
noncomputable def E : Value → Shared → Prop := zcv.2.2.2.2.2.2.2.2.2.2.2.2.2.2.2.2.2.2.2.2.2.2.1
noncomputable def news : List (Addr × Obj) := zcv.2.2.2.2.2.2.2.2.2.2.2.2.2.2.2.2.2.2.2.2.2.2.2.1
noncomputable def hand : Addr := zcv.2.2.2.2.2.2.2.2.2.2.2.2.2.2.2.2.2.2.2.2.2.2.2.2.1
noncomputable def scr : Addr := zcv.2.2.2.2.2.2.2.2.2.2.2.2.2.2.2.2.2.2.2.2.2.2.2.2.2.1
noncomputable def g : Obj → List (Addr × Obj) := zcv.2.2.2.2.2.2.2.2.2.2.2.2.2.2.2.2.2.2.2.2.2.2.2.2.2.2.1
noncomputable def rv : List Value := zcv.2.2.2.2.2.2.2.2.2.2.2.2.2.2.2.2.2.2.2.2.2.2.2.2.2.2.2.1
noncomputable def rs : List Int := zcv.2.2.2.2.2.2.2.2.2.2.2.2.2.2.2.2.2.2.2.2.2.2.2.2.2.2.2.2.1
noncomputable def nh : Nat := zcv.2.2.2.2.2.2.2.2.2.2.2.2.2.2.2.2.2.2.2.2.2.2.2.2.2.2.2.2.2.1
noncomputable def j : Nat := zcv.2.2.2.2.2.2.2.2.2.2.2.2.2.2.2.2.2.2.2.2.2.2.2.2.2.2.2.2.2.2.1
noncomputable def many : Int := zcv.2.2.2.2.2.2.2.2.2.2.2.2.2.2.2.2.2.2.2.2.2.2.2.2.2.2.2.2.2.2.2.1
noncomputable def tj : Tok := zcv.2.2.2.2.2.2.2.2.2.2.2.2.2.2.2.2.2.2.2.2.2.2.2.2.2.2.2.2.2.2.2.2.1
noncomputable def tm : Tok := zcv.2.2.2.2.2.2.2.2.2.2.2.2.2.2.2.2.2.2.2.2.2.2.2.2.2.2.2.2.2.2.2.2.2
theorem walk1 : lnext_spec_St w p loose mean mg mb dp un gd cn cs a ccd cl outer A₀ base h₀ L m s Q E news hand scr g rv rs nh j many tj tm := by
  intro B F KX T hk N U hb hr hl hj hm hd hu retH
  have mkp : Mk 166 := trivial
  refine lower ?_ hd hu
  obtain ⟨frz, n1, N', sub, mem⟩ := split1 U N
  clear N U sub
  have hl6 : rv.length ≤ 1000000 := Nat.le_trans hl (by decide)
  have hmp : 0 < many := Int.lt_of_lt_of_le (by decide) hm.1
  have e1 : ((j : Int) + 1) = ((j + 1 : Nat) : Int) := rfl
  revert KX; k_fill; intro KX
  by_cases h0 : (rv.length : Int) = 0
  · refine wpAny_call ?_
    walk_at "m enter"
    k_steps
    all_goals (try contradiction)
    exact retH _ _ _ _ _ (fmod_bounds hmp) (by assumption) (news_of (l := (hand, listOf #[.ref scr, .int ((j + 1 : Nat) : Int) _] nh) :: frz) (by assumption) (mem _))
  · obtain ⟨c1, c2, x, u, c3⟩ := hand_at (j := j) hr hl h0
    have hlp : 0 < (rv.length : Int) := by omega
    have hjf := fdiv_bounds (t := (j : Int)) (e := (rv.length : Int)) hlp (Int.natCast_nonneg j)
    refine wpAny_call ?_
    walk_at "m enter"
    k_steps
    all_goals (try contradiction)
    exact retH _ _ _ _ _ (fmod_bounds hmp) (by assumption) (news_of (l := (hand, listOf #[.ref scr, .int ((j + 1 : Nat) : Int) _] nh) :: frz) (by assumption) (mem _))
end c_lnext_spec
theorem lnext_spec {w : World} {p : Program} {loose : List Str} {mean : ExcName → Option Value} {mg : Str → Option Value} {mb : Str → Option Value} {dp : Nat} {un : Nat} {gd : Option (List Code)} {cn : Str} {cs : Scope} {a : Addr} {ccd : Value} {cl : List (Str × Addr)} {outer : List Env} {A₀ : Around} {base : Heap} {h₀ : Heap} {L : Addr} {m : Str → Option Value} {s : Shared} {Q : Value → Shared → Prop} {E : Value → Shared → Prop} (B : Below A₀ base outer h₀) (F : Fr h₀ L s.heap m) (KX : (Mine.hd1.heap_39 w.params).In h₀) (T : Top p loose mean mg mb h₀) (hk : cs.kind = .function) {news : List (Addr × Obj)} {hand : Addr} {scr : Addr} {g : Obj → List (Addr × Obj)} {rv : List Value} {rs : List Int} {nh : Nat} {j : Nat} {many : Int} {tj : Tok} {tm : Tok} (N : News h₀ L s.heap news) (U : UpdF hand (listOf #[.ref scr, .int j tj] nh) news g) (hb : base.IsList scr rv.toArray) (hr : IntsAre rv rs) (hl : rv.length ≤ 63) (hj : j ≤ 100) (hm : 1 ≤ many ∧ many ≤ 100) (hd : dp ≤ 860) (hu : un ≤ 8600) (retH : ∀ v r t' h' tk', 0 ≤ v ∧ v < many → Fr h₀ L h' m → News h₀ L h' (g (listOf #[.ref scr, .int ((j + 1 : Nat) : Int) t'] nh)) → Q (.int v r) { s with heap := h', toks := tk' }) :
    wpAny (model PySem.Challenge.rw_ji0060_02.row.prog w) (ktrTop dp un gd cn cs L a ccd cl outer) (call (.ref 700) [.ref hand, .int many tm]) Q E s :=
  c_lnext_spec.zal c_lnext_spec.walk1 (w, p, loose, mean, mg, mb, dp, un, gd, cn, cs, a, ccd, cl, outer, A₀, base, h₀, L, m, s, Q, E, news, hand, scr, g, rv, rs, nh, j, many, tj, tm) B F KX T hk N U hb hr hl hj hm hd hu retH
section
variable {w : World} {p : Program} {loose : List Str} {mean : ExcName → Option Value} {mg mb : Str → Option Value} {dp un : Nat} {gd : Option (List Code)} {cn : Str} {cs : Scope} {a : Addr} {ccd : Value} {cl : List (Str × Addr)} {outer : List Env} {A₀ : Around} {base h₀ : Heap} {L : Addr} {m : Str → Option Value} {s : Shared} {Q E : Value → Shared → Prop}
  (B : Below A₀ base outer h₀) (F : Fr h₀ L s.heap m) (KX : (Mine.hd1.heap_39 w.params).In h₀) (T : Top p loose mean mg mb h₀) (hk : cs.kind = .function)
include B F KX T hk
end

end

theorem said_lnext : True := by
  k_with "call ref" => (k_here; (with_reducible show wpAny _ _ (call (Value.ref 700) _) _ _ _); k_dflt (refine' lnext_spec ?zyB ?zyF ?zyX ?zyT ?zyk ?zyN ?zyU ?zyhb ?zyhr ?zyhl ?zyhj ?zyhm ?zyd ?zyu ?_; (case zyB => k_asm); (case zyF => k_asm); (case zyX => k_asm); (case zyT => k_asm); (case zyk => first | exact rfl | assumption); (case zyN => k_asm); (case zyU => k_updF); (case zyhb => assumption); (case zyhr => assumption); (case zyhl => assumption); (case zyhj => first | exact Nat.le_trans (by with_reducible assumption) (by decide) | exact Nat.le_trans (Nat.add_le_add_right (by with_reducible assumption) _) (by decide) | exact Nat.le_trans (Nat.add_le_add_right (Nat.add_le_add_right (by with_reducible assumption) _) _) (by decide) | exact Nat.le_trans (Nat.add_le_add_right (Nat.add_le_add_right (Nat.add_le_add_right (by with_reducible assumption) _) _) _) (by decide) | exact Nat.le_trans (Nat.add_le_add_right (Nat.add_le_add_right (Nat.add_le_add_right (Nat.add_le_add_right (by with_reducible assumption) _) _) _) _) (by decide) | walk_at "m om"); (case zyhm => exact ⟨by decide, by decide⟩); (case zyd => exact Nat.le_of_ble_eq_true rfl); (case zyu => exact Nat.le_of_ble_eq_true rfl); k_whole); (intro v' r' t' h' tk' hv' F' N'; (try dsimp only at N'); (try dsimp only); (try k_sweep)))
  trivial
section
-- only 2
theorem said_p_make : True := by
  k_with "m cls" => (refine' call_cls ?zyk1 ?zyk2 ?zyk3 ?zyk4 ?zyk5 ?zyk6 ?_; (case zyk1 => k_asm); (case zyk2 => k_asm); (case zyk3 => k_asm); (case zyk4 => k_is); (case zyk5 => k_is); (case zyk6 => k_is); k_whole; intro x' d' h' F' N' l1 l2; (replace l1 := allLt_of l1); (have l3 := l1); (try simp only [AllLt, and_true] at l3); (try k_sweep))
  k_with "m enterd" => (refine' code_def ?zyk1 ?zyk2 ?zyk3 ?zyk4 ?zyk5 ?zykA ?zykF ?zykK ?zyk6 ?zyk7 ?zyk8 ?zyk9 ?zykB ?_ ?zyc2 ?zyc3 ?zyc4 ?zyc5; (case zykA => exact rfl); (case zykF => exact rfl); (case zykK => assumption); (case zyk1 => k_asm); (case zyk2 => k_asm); (case zyk3 => k_asm); (case zyk4 => k_asm); (case zyk5 => k_asm); (case zyk6 => k_is); (case zyk7 => k_is); (case zyk8 => first | exact Nat.le_of_ble_eq_true rfl | k_room); (case zyk9 => exact binds_K (by k_in) rfl (by k_is) rfl rfl rfl); (case zyc5 => decide); (case zykB => exact locs rfl); (case zyc2 => exact rfl); (case zyc3 => exact rfl); (case zyc4 => exact rfl); k_whole; intro g' L' h' FG' F' N' B' X' T'; (try dsimp only); (try k_fold))
  trivial
section
variable {w : World} {p : Program} {loose : List Str} {mean : ExcName → Option Value} {mg mb : Str → Option Value} {dp un : Nat} {gd : Option (List Code)} {cn : Str} {cs : Scope} {a : Addr} {ccd : Value} {cl : List (Str × Addr)} {outer : List Env} {A₀ : Around} {base h₀ : Heap} {L : Addr} {m : Str → Option Value} {s : Shared} {Q E : Value → Shared → Prop}
  (B : Below A₀ base outer h₀) (F : Fr h₀ L s.heap m) (KX : (Mine.hd1.heap_39 w.params).In h₀) (T : Top p loose mean mg mb h₀) (hk : cs.kind = .function)
include B F KX T hk

theorem item_ms {am mu : Int} {ta tm : Tok} {news : List (Addr × Obj)} (N : News h₀ L s.heap news) (hm : 1 ≤ mu) (hd : dp ≤ 860) (hu : un ≤ 8600)
    (ret : ∀ x d e1 e2 e3 t1 t2 t3 t4 t5 t6 n h' tk', Fr h₀ L h' m → News h₀ L h' ((x, instObj 518 d) :: (d, itemDict e1 e2 e3 t1 t2 t3 t4 t5 t6 (Str.ofString "LIMITER") am mu n) :: news) → AllLt d news → @LT.lt Nat _ d x → Q (.ref x) { s with heap := h', toks := tk' }) :
    wpAny (model PySem.Challenge.rw_ji0060_02.row.prog w) (ktrTop dp un gd cn cs L a ccd cl outer) (call (.ref 518) [.int am ta, .int mu tm]) Q E s := by
  have mkp : Mk 167 := trivial
  refine lower ?_ hd hu
  revert KX; k_fill; intro KX
  walk_at "m cls"
  walk_at "m enterd"
  k_steps
  all_goals (try (exfalso; omega))
  refine' ret x' d' _ _ _ _ _ _ _ _ _ _ _ _ ?a ?b l1 l2
  case b => assumption
  case a => assumption
theorem item_mm {am mu : Int} {ta tm tn : Tok} {ns : Str} {news : List (Addr × Obj)} (N : News h₀ L s.heap news) (hm : 1 ≤ mu) (hd : dp ≤ 860) (hu : un ≤ 8600)
    (ret : ∀ x d e1 e2 e3 t1 t2 t3 t4 t5 t6 n h' tk', Fr h₀ L h' m → News h₀ L h' ((x, instObj 501 d) :: (d, itemDict e1 e2 e3 t1 t2 t3 t4 t5 t6 ns am mu n) :: news) → AllLt d news → @LT.lt Nat _ d x → Q (.ref x) { s with heap := h', toks := tk' }) :
    wpAny (model PySem.Challenge.rw_ji0060_02.row.prog w) (ktrTop dp un gd cn cs L a ccd cl outer) (call (.ref 501) [.int am ta, .int mu tm, .str ns tn]) Q E s := by
  have mkp : Mk 167 := trivial
  refine lower ?_ hd hu
  revert KX; k_fill; intro KX
  walk_at "m cls"
  walk_at "m enterd"
  k_steps
  all_goals (try (exfalso; omega))
  refine' ret x' d' _ _ _ _ _ _ _ _ _ _ _ _ ?a ?b l1 l2
  case b => assumption
  case a => assumption
theorem lims_make {st : Addr} {news : List (Addr × Obj)} (N : News h₀ L s.heap news) (hd : dp ≤ 860) (hu : un ≤ 8600)
    (ret : ∀ l x1 x2 x3 d1 d2 d3 e1 e2 e3 t1 t2 t3 n1 n2 n3 k h' tk', Fr h₀ L h' m → News h₀ L h' ((l, listOf #[.ref x1, .ref x2, .ref x3] k) :: (x3, instObj 296 d3) :: (d3, dictOf [⟨e3, .str (Str.ofString "storage") t3, .ref st⟩] n3) :: (x2, instObj 202 d2) :: (d2, dictOf [⟨e2, .str (Str.ofString "storage") t2, .ref st⟩] n2) :: (x1, instObj 241 d1) :: (d1, dictOf [⟨e1, .str (Str.ofString "storage") t1, .ref st⟩] n1) :: news) →
      AllLt d1 news → @LT.lt Nat _ d1 x1 → @LT.lt Nat _ d1 d2 → @LT.lt Nat _ d2 x2 → @LT.lt Nat _ d2 d3 → @LT.lt Nat _ d3 x3 → @LT.lt Nat _ d3 l → Q (.ref l) { s with heap := h', toks := tk' }) :
    wpAny (model PySem.Challenge.rw_ji0060_02.row.prog w) (ktrTop dp un gd cn cs L a ccd cl outer) (call (.ref 707) [.ref st]) Q E s := by
  have mkp : Mk 167 := trivial
  refine lower ?_ hd hu
  revert KX; k_fill; intro KX
  refine wpAny_call ?_
  walk_at "m enter"
  k_steps
  refine' ret _ _ _ _ _ _ _ _ _ _ _ _ _ _ _ _ _ _ _ ?a ?b ?c ?o1 ?o2 ?o3 ?o4 ?o5 ?o6
  case b => assumption
  case a => assumption
  case c => assumption
  case o1 => walk_at "m lt"
  case o2 => walk_at "m lt"
  case o3 => walk_at "m lt"
  case o4 => walk_at "m lt"
  case o5 => walk_at "m lt"
  case o6 => walk_at "m lt"
theorem store_make {clk : Addr} {news : List (Addr × Obj)} (N : News h₀ L s.heap news) (hd : dp ≤ 860) (hu : un ≤ 8600)
    (ret : ∀ V X S st dx oV oX oS e1 e2 e3 e4 t1 t2 t3 t4 n h' tk', Fr h₀ L h' m → News h₀ L h' ((V, oV) :: (X, oX) :: (S, oS) :: (st, instObj 691 dx) :: (dx, dictOf [⟨e1, .str (Str.ofString "clock") t1, .ref clk⟩, ⟨e2, .str (Str.ofString "storage") t2, .ref S⟩, ⟨e3, .str (Str.ofString "expirations") t3, .ref X⟩, ⟨e4, .str (Str.ofString "events") t4, .ref V⟩] n) :: news) →
      AllLt dx news → @LT.lt Nat _ dx st → @LT.lt Nat _ st S → @LT.lt Nat _ S X → @LT.lt Nat _ X V → oS.IsDictOf (PySem.strKind PySem.Challenge.rw_ji0060_02.row.prog w) [] → oX.IsDictOf (PySem.strKind PySem.Challenge.rw_ji0060_02.row.prog w) [] → oV.IsDictOf (PySem.strKind PySem.Challenge.rw_ji0060_02.row.prog w) [] →
      (S == sysModules) = false → (X == sysModules) = false → (V == sysModules) = false → Q (.ref st) { s with heap := h', toks := tk' }) :
    wpAny (model PySem.Challenge.rw_ji0060_02.row.prog w) (ktrTop dp un gd cn cs L a ccd cl outer) (call (.ref 691) [.ref clk]) Q E s := by
  have mkp : Mk 167 := trivial
  refine lower ?_ hd hu
  revert KX; k_fill; intro KX
  walk_at "m cls"
  walk_at "m enter"
  k_steps
  refine' ret _ _ _ _ _ _ _ _ _ _ _ _ _ _ _ _ _ _ _ ?a ?b l1 ?o1 ?o2 ?o3 ?o4 ?s1 ?s2 ?s3 ?z1 ?z2 ?z3
  case b => assumption
  case a => assumption
  case o1 => walk_at "m lt"
  case o2 => walk_at "m lt"
  case o3 => walk_at "m lt"
  case o4 => walk_at "m lt"
  case s1 => assumption
  case s2 => assumption
  case s3 => assumption
  case z1 => assumption
  case z2 => assumption
  case z3 => assumption
end

end

theorem said_make : True := by
  k_with "call ref" => (k_here; (with_reducible show wpAny _ _ (call (Value.ref 518) [_, _]) _ _ _); k_dflt (refine' item_ms ?zyB ?zyF ?zyX ?zyT ?zyk ?zyN ?zyhm ?zyd ?zyu ?_; (case zyB => k_asm); (case zyF => k_asm); (case zyX => k_asm); (case zyT => k_asm); (case zyk => first | exact rfl | assumption); (case zyN => k_asm); (case zyhm => walk_at "m om"); (case zyd => exact Nat.le_of_ble_eq_true rfl); (case zyu => exact Nat.le_of_ble_eq_true rfl); k_whole); (intro _ _ _ _ _ _ _ _ _ _ _ _ h' tk' F' N' la' _; (try simp only [AllLt, and_true] at la'); (try dsimp only at N'); (try dsimp only); (try k_sweep)))
  k_with "call ref" => (k_here; (with_reducible show wpAny _ _ (call (Value.ref 501) [_, _, _]) _ _ _); k_dflt (refine' item_mm ?zyB ?zyF ?zyX ?zyT ?zyk ?zyN ?zyhm ?zyd ?zyu ?_; (case zyB => k_asm); (case zyF => k_asm); (case zyX => k_asm); (case zyT => k_asm); (case zyk => first | exact rfl | assumption); (case zyN => k_asm); (case zyhm => walk_at "m om"); (case zyd => exact Nat.le_of_ble_eq_true rfl); (case zyu => exact Nat.le_of_ble_eq_true rfl); k_whole); (intro _ _ _ _ _ _ _ _ _ _ _ _ h' tk' F' N' la' _; (try simp only [AllLt, and_true] at la'); (try dsimp only at N'); (try dsimp only); (try k_sweep)))
  k_with "call ref" => (k_here; (with_reducible show wpAny _ _ (call (Value.ref 707) [_]) _ _ _); k_dflt (refine' lims_make ?zyB ?zyF ?zyX ?zyT ?zyk ?zyN ?zyd ?zyu ?_; (case zyB => k_asm); (case zyF => k_asm); (case zyX => k_asm); (case zyT => k_asm); (case zyk => first | exact rfl | assumption); (case zyN => k_asm); (case zyd => exact Nat.le_of_ble_eq_true rfl); (case zyu => exact Nat.le_of_ble_eq_true rfl); k_whole); (intro _ _ _ _ _ _ _ _ _ _ _ _ _ _ _ _ _ h' tk' F' N' la' _ _ _ _ _ _; (try simp only [AllLt, and_true] at la'); (try dsimp only at N'); (try dsimp only); (try k_sweep)))
  k_with "call ref" => (k_here; (with_reducible show wpAny _ _ (call (Value.ref 691) [_]) _ _ _); k_dflt (refine' store_make ?zyB ?zyF ?zyX ?zyT ?zyk ?zyN ?zyd ?zyu ?_; (case zyB => k_asm); (case zyF => k_asm); (case zyX => k_asm); (case zyT => k_asm); (case zyk => first | exact rfl | assumption); (case zyN => k_asm); (case zyd => exact Nat.le_of_ble_eq_true rfl); (case zyu => exact Nat.le_of_ble_eq_true rfl); k_whole); (intro _ _ _ _ _ _ _ _ _ _ _ _ _ _ _ _ _ h' tk' F' N' la' _ _ _ _ _ _ _ _ _ _; (try simp only [AllLt, and_true] at la'); (try dsimp only at N'); (try dsimp only); (try k_sweep)))
  trivial
section
-- only 2
/-- the law's own addresses that turn, and its stores' -/
structure Ad where
  nowl : Addr
  st1 : Addr
  S1 : Addr
  X1 : Addr
  V1 : Addr
  k1 : Addr
  st2 : Addr
  S2 : Addr
  X2 : Addr
  V2 : Addr
  k2 : Addr
noncomputable def Ad.T (a : Ad) : List Addr := [a.S1, a.X1, a.V1, a.S2, a.X2, a.V2, 588, 640]
noncomputable abbrev nowE (a : Ad) (t : Int) (tt : Tok) : Addr × Obj := (a.nowl, listOf #[.int t tt] 0)
structure Ord (a : Ad) : Prop where
  o1 : @LT.lt Nat _ 640 a.nowl
  o2 : @LT.lt Nat _ a.nowl a.S1
  o3 : @LT.lt Nat _ a.S1 a.X1
  o4 : @LT.lt Nat _ a.X1 a.V1
  o5 : @LT.lt Nat _ a.V1 a.S2
  o6 : @LT.lt Nat _ a.S2 a.X2
  o7 : @LT.lt Nat _ a.X2 a.V2
/-- both worlds in the law's ledger: xs tells what else turns there, rest holds all but these, R what never turns -/
structure Two (w : World) (a : Ad) (A : Int) (xs : List Addr) (rest R : List (Addr × Obj)) (W1 W2 : Wld) (n z : Nat) : Prop where
  sub : ∀ q ∈ R, q ∈ rest
  off : ∀ q ∈ R, q.1 ∉ a.T
  on : ∀ q ∈ rest, q.1 ∉ xs
  ow : ∀ x ∈ xs, x ∉ a.T
  tabs1 : WTabs w rest R a.S1 a.X1 a.V1 W1 n z
  tabs2 : WTabs w rest R a.S2 a.X2 a.V2 W2 n z
  sp1 : ∀ t tt, Store w (nowE a t tt :: R) a.st1 a.S1 a.X1 a.V1 a.k1 t
  sp2 : ∀ t tt, Store w (nowE a t tt :: R) a.st2 a.S2 a.X2 a.V2 a.k2 (60 * t + A)
  od : Ord a
theorem Ord.all {a : Ad} (h : Ord a) : @LT.lt Nat _ a.nowl a.S2 ∧ @LT.lt Nat _ a.S1 a.V1 ∧ @LT.lt Nat _ a.S2 a.V2 ∧ @LT.lt Nat _ 640 a.S1 ∧ @LT.lt Nat _ 640 a.S2 ∧ @LT.lt Nat _ 588 a.nowl := by
  obtain ⟨o1, o2, o3, o4, o5, o6, o7⟩ := h
  have x2 := Nat.lt_trans o3 o4
  have x3 := Nat.lt_trans (Nat.lt_trans o2 x2) o5
  exact ⟨x3, x2, Nat.lt_trans o6 o7, Nat.lt_trans o1 o2, Nat.lt_trans o1 x3, Nat.lt_trans (by decide) o1⟩
theorem not_T {a : Ad} {b : Addr} (h : b ∉ a.T) : (Off a.S1 a.X1 a.V1 b ∧ Off a.S2 a.X2 a.V2 b) ∧ b ≠ 588 ∧ b ≠ 640 := by
  unfold Ad.T at h
  simp only [List.mem_cons, List.not_mem_nil, or_false, not_or] at h
  obtain ⟨h1, h2, h3, h4, h5, h6, h7, h8⟩ := h
  exact ⟨⟨⟨h1, h2, h3⟩, h4, h5, h6⟩, h7, h8⟩
section
variable {w : World} {a : Ad} {A : Int} {xs : List Addr} {own rest R news news' R' : List (Addr × Obj)} {W1 W2 W' : Wld} {n z n' z' : Nat} {t : Int} {tt : Tok} {h₀ h : Heap} {L : Addr}
theorem Ad.mem (a : Ad) : (a.S1 ∈ a.T ∧ a.X1 ∈ a.T ∧ a.V1 ∈ a.T ∧ (588 : Addr) ∈ a.T ∧ (640 : Addr) ∈ a.T) ∧ a.S2 ∈ a.T ∧ a.X2 ∈ a.T ∧ a.V2 ∈ a.T := by
  unfold Ad.T
  simp
theorem Two.rows (Z : Two w a A xs rest R W1 W2 n z) : ∀ b ∈ a.T, ∃ o, (b, o) ∈ rest := fun b hb => by
  unfold Ad.T at hb
  simp only [List.mem_cons, List.not_mem_nil, or_false] at hb
  rcases hb with rfl | rfl | rfl | rfl | rfl | rfl | rfl | rfl
  · exact Z.tabs1.rows (.inl rfl)
  · exact Z.tabs1.rows (.inr (.inl rfl))
  · exact Z.tabs1.rows (.inr (.inr (.inl rfl)))
  · exact Z.tabs2.rows (.inl rfl)
  · exact Z.tabs2.rows (.inr (.inl rfl))
  · exact Z.tabs2.rows (.inr (.inr (.inl rfl)))
  · exact Z.tabs1.rows (.inr (.inr (.inr (.inl rfl))))
  · exact Z.tabs1.rows (.inr (.inr (.inr (.inr rfl))))
theorem Two.o5 (Z : Two w a A xs rest R W1 W2 n z) : Off5 a.S1 a.X1 a.V1 (nowE a t tt) ∧ Off5 a.S2 a.X2 a.V2 (nowE a t tt) := by
  obtain ⟨b3, b4, b5, _, _, b8⟩ := Z.od.all
  obtain ⟨o1, o2, o3, o4, o5, o6, o7⟩ := Z.od
  exact ⟨⟨⟨Nat.ne_of_lt o2, Nat.ne_of_lt (Nat.lt_trans o2 o3), Nat.ne_of_lt (Nat.lt_trans o2 b4)⟩, Nat.ne_of_gt b8, Nat.ne_of_gt o1⟩, ⟨⟨Nat.ne_of_lt b3, Nat.ne_of_lt (Nat.lt_trans b3 o6), Nat.ne_of_lt (Nat.lt_trans b3 b5)⟩, Nat.ne_of_gt b8, Nat.ne_of_gt o1⟩⟩
theorem off5_1 {q : Addr × Obj} (h : q.1 ∉ a.T) : Off5 a.S1 a.X1 a.V1 q := ⟨(not_T h).1.1, (not_T h).2⟩
theorem off5_2 {q : Addr × Obj} (h : q.1 ∉ a.T) : Off5 a.S2 a.X2 a.V2 q := ⟨(not_T h).1.2, (not_T h).2⟩
/-- all that may turn -/
noncomputable abbrev allM (own : List (Addr × Obj)) (a : Ad) : List Addr := own.map (·.1) ++ a.T
theorem Two.has (Z : Two w a A (own.map (·.1)) rest R W1 W2 n z) : ∀ b ∈ allM own a, ∃ o, (b, o) ∈ own ++ rest := fun b hb => by
  rcases List.mem_append.mp hb with h | h
  · obtain ⟨q, hq, rfl⟩ := List.mem_map.mp h
    exact ⟨q.2, List.mem_append_left _ hq⟩
  · exact (Z.rows b h).imp fun _ h => List.mem_append_right _ h
theorem Two.offM (Z : Two w a A (own.map (·.1)) rest R W1 W2 n z) : ∀ q ∈ R, q.1 ∉ allM own a := fun q hq h => by
  rcases List.mem_append.mp h with h | h
  · exact Z.on q (Z.sub q hq) h
  · exact Z.off q hq h
theorem Two.w1 (Z : Two w a A (own.map (·.1)) rest R W1 W2 n z) (hn : nowE a t tt ∈ own) : WIn w (allM own a) (own ++ rest) R (nowE a t tt :: R) a.st1 a.S1 a.X1 a.V1 a.k1 t W1 n z := by
  obtain ⟨⟨m1, m2, m3, m4, m5⟩, _⟩ := a.mem
  have hs : ∀ q ∈ rest, q ∈ own ++ rest := fun q hq => List.mem_append_right _ hq
  refine ⟨fun q hq => hs q (Z.sub q hq), Z.offM, Z.has, ⟨List.mem_append_right _ m1, List.mem_append_right _ m2, List.mem_append_right _ m3, List.mem_append_right _ m4, List.mem_append_right _ m5⟩, fun q hq => ?_, Z.sp1 t tt, Z.od.all.2.2.2.1, Z.tabs1.to (fun q hq _ => hs q hq) (fun _ h => h) (Nat.le_refl _) (Nat.le_refl _)⟩
  rcases List.mem_cons.mp hq with rfl | hq
  · exact ⟨List.mem_append_left _ hn, Z.o5.1⟩
  · exact ⟨hs q (Z.sub q hq), off5_1 (Z.off q hq)⟩
theorem Two.w2 (Z : Two w a A (own.map (·.1)) rest R W1 W2 n z) (hn : nowE a t tt ∈ own) : WIn w (allM own a) (own ++ rest) R (nowE a t tt :: R) a.st2 a.S2 a.X2 a.V2 a.k2 (60 * t + A) W2 n z := by
  obtain ⟨⟨_, _, _, m4, m5⟩, m1, m2, m3⟩ := a.mem
  have hs : ∀ q ∈ rest, q ∈ own ++ rest := fun q hq => List.mem_append_right _ hq
  refine ⟨fun q hq => hs q (Z.sub q hq), Z.offM, Z.has, ⟨List.mem_append_right _ m1, List.mem_append_right _ m2, List.mem_append_right _ m3, List.mem_append_right _ m4, List.mem_append_right _ m5⟩, fun q hq => ?_, Z.sp2 t tt, Z.od.all.2.2.2.2.1, Z.tabs2.to (fun q hq _ => hs q hq) (fun _ h => h) (Nat.le_refl _) (Nat.le_refl _)⟩
  rcases List.mem_cons.mp hq with rfl | hq
  · exact ⟨List.mem_append_left _ hn, Z.o5.2⟩
  · exact ⟨hs q (Z.sub q hq), off5_2 (Z.off q hq)⟩
/-- the ledger behind a call, put in order -/
structure Next (w : World) (a : Ad) (A : Int) (own R R' : List (Addr × Obj)) (W1 W2 : Wld) (n z : Nat) (h₀ h : Heap) (L : Addr) (rest' : List (Addr × Obj)) : Prop where
  N : News h₀ L h (own ++ rest')
  Z : Two w a A (own.map (·.1)) rest' R' W1 W2 n z
  up : ∀ q ∈ R, q ∈ R'
theorem two_cut (Z : Two w a A (own.map (·.1)) rest R W1 W2 n z) {W1' W2' : Wld} (N : News h₀ L h news') (ho : ∀ q ∈ own, q ∈ news') (off : ∀ q ∈ R', q.1 ∉ allM own a) (sub : ∀ q ∈ R', q ∈ news') (up : ∀ q ∈ R, q ∈ R')
    (t1 : WTabs w news' R' a.S1 a.X1 a.V1 W1' n' z') (t2 : WTabs w news' R' a.S2 a.X2 a.V2 W2' n' z') : ∃ rest', Next w a A own R R' W1' W2' n' z' h₀ h L rest' := by
  classical
  obtain ⟨⟨m1, m2, m3, m4, m5⟩, m6, m7, m8⟩ := a.mem
  have k : ∀ q ∈ news', q.1 ∈ a.T → q ∈ news'.filter fun q => decide (q.1 ∉ own.map (·.1)) := fun q hq e => List.mem_filter.mpr ⟨hq, decide_eq_true fun h => Z.ow _ h e⟩
  refine ⟨news'.filter fun q => decide (q.1 ∉ own.map (·.1)), fun q hq => ?_, ⟨fun q hq => List.mem_filter.mpr ⟨sub q hq, decide_eq_true fun h => off q hq (List.mem_append_left _ h)⟩, fun q hq h => off q hq (List.mem_append_right _ h), fun q hq => of_decide_eq_true (List.mem_filter.mp hq).2, Z.ow,
    t1.to (fun q hq e => k q hq ?_) (fun _ h => h) (Nat.le_refl _) (Nat.le_refl _), t2.to (fun q hq e => k q hq ?_) (fun _ h => h) (Nat.le_refl _) (Nat.le_refl _), fun t tt => (Z.sp1 t tt).sub fun q hq _ => cons_sub up q hq, fun t tt => (Z.sp2 t tt).sub fun q hq _ => cons_sub up q hq, Z.od⟩, up⟩
  · rcases List.mem_append.mp hq with h | h
    · exact N q (ho q h)
    · exact N q (List.mem_filter.mp h).1
  · rcases e with e | e | e | e | e <;> rw [e] <;> assumption
  · rcases e with e | e | e | e | e <;> rw [e] <;> assumption
theorem Two.own1 (Z : Two w a A (own.map (·.1)) rest R W1 W2 n z) : ∀ q ∈ own, Off5 a.S1 a.X1 a.V1 q ∧ Off5 a.S2 a.X2 a.V2 q := fun q hq => by
  have h := Z.ow q.1 (List.mem_map.mpr ⟨q, hq, rfl⟩)
  exact ⟨off5_1 h, off5_2 h⟩
theorem Two.p1 (Z : Two w a A (own.map (·.1)) rest R W1 W2 n z) (hn : nowE a t tt ∈ own) (P : Post w (allM own a) (own ++ rest) R (nowE a t tt :: R) a.st1 a.S1 a.X1 a.V1 a.k1 t W' n' z' news' R') (N' : News h₀ L h news') (h1 : n ≤ n') (h2 : z ≤ z') : ∃ rest', Next w a A own R R' W' W2 n' z' h₀ h L rest' := by
  obtain ⟨b3, b4, b5, b6, b7, b8⟩ := Z.od.all
  have J := (Z.w2 hn).other P (fun q hq => ?_) ⟨Nat.ne_of_gt (Nat.lt_trans b4 Z.od.o5), Nat.ne_of_gt (Nat.lt_trans Z.od.o4 Z.od.o5), Nat.ne_of_gt Z.od.o5⟩ ?_ ?_
  · exact two_cut Z N' (fun q hq => P.keep _ (List.mem_append_left _ hq) (Z.own1 q hq).1) P.wi.off P.wi.sub P.up P.wi.tabs (J.tabs.to (fun _ h _ => h) (fun _ h => h) h1 h2)
  · rcases List.mem_cons.mp hq with rfl | hq
    · exact Z.o5.1.1
    · exact (off5_1 (Z.off q hq)).1
  · exact ⟨Nat.ne_of_gt (Nat.lt_trans (Nat.lt_trans b4 Z.od.o5) Z.od.o6), Nat.ne_of_gt (Nat.lt_trans (Nat.lt_trans Z.od.o4 Z.od.o5) Z.od.o6), Nat.ne_of_gt (Nat.lt_trans Z.od.o5 Z.od.o6)⟩
  · exact ⟨Nat.ne_of_gt (Nat.lt_trans (Nat.lt_trans b4 Z.od.o5) b5), Nat.ne_of_gt (Nat.lt_trans (Nat.lt_trans Z.od.o4 Z.od.o5) b5), Nat.ne_of_gt (Nat.lt_trans Z.od.o5 b5)⟩
theorem Two.p2 (Z : Two w a A (own.map (·.1)) rest R W1 W2 n z) (hn : nowE a t tt ∈ own) (P : Post w (allM own a) (own ++ rest) R (nowE a t tt :: R) a.st2 a.S2 a.X2 a.V2 a.k2 (60 * t + A) W' n' z' news' R') (N' : News h₀ L h news') (h1 : n ≤ n') (h2 : z ≤ z') : ∃ rest', Next w a A own R R' W1 W' n' z' h₀ h L rest' := by
  obtain ⟨b3, b4, b5, b6, b7, b8⟩ := Z.od.all
  have J := (Z.w1 hn).other P (fun q hq => ?_) ⟨Nat.ne_of_lt (Nat.lt_trans b4 Z.od.o5), Nat.ne_of_lt (Nat.lt_trans (Nat.lt_trans b4 Z.od.o5) Z.od.o6), Nat.ne_of_lt (Nat.lt_trans (Nat.lt_trans b4 Z.od.o5) b5)⟩ ?_ ?_
  · exact two_cut Z N' (fun q hq => P.keep _ (List.mem_append_left _ hq) (Z.own1 q hq).2) P.wi.off P.wi.sub P.up (J.tabs.to (fun _ h _ => h) (fun _ h => h) h1 h2) P.wi.tabs
  · rcases List.mem_cons.mp hq with rfl | hq
    · exact Z.o5.2.1
    · exact (off5_2 (Z.off q hq)).1
  · exact ⟨Nat.ne_of_lt (Nat.lt_trans Z.od.o4 Z.od.o5), Nat.ne_of_lt (Nat.lt_trans (Nat.lt_trans Z.od.o4 Z.od.o5) Z.od.o6), Nat.ne_of_lt (Nat.lt_trans (Nat.lt_trans Z.od.o4 Z.od.o5) b5)⟩
  · exact ⟨Nat.ne_of_lt Z.od.o5, Nat.ne_of_lt (Nat.lt_trans Z.od.o5 Z.od.o6), Nat.ne_of_lt (Nat.lt_trans Z.od.o5 b5)⟩
/-- a thing made beside, that never turns -/
theorem Two.add (Z : Two w a A xs rest R W1 W2 n z) {q : Addr × Obj} (hq : q.1 ∉ xs ++ a.T) : Two w a A xs (q :: rest) (q :: R) W1 W2 n z :=
  ⟨cons_sub Z.sub, fun p hp => by
    rcases List.mem_cons.mp hp with rfl | hp
    · exact fun h => hq (List.mem_append_right _ h)
    · exact Z.off p hp, fun p hp => by
    rcases List.mem_cons.mp hp with rfl | hp
    · exact fun h => hq (List.mem_append_left _ h)
    · exact Z.on p hp, Z.ow, Z.tabs1.to (fun _ h _ => .tail _ h) (fun _ h => .tail _ h) (Nat.le_refl _) (Nat.le_refl _), Z.tabs2.to (fun _ h _ => .tail _ h) (fun _ h => .tail _ h) (Nat.le_refl _) (Nat.le_refl _),
    fun t tt => (Z.sp1 t tt).sub fun q hq _ => cons_sub (fun _ h => .tail _ h) q hq, fun t tt => (Z.sp2 t tt).sub fun q hq _ => cons_sub (fun _ h => .tail _ h) q hq, Z.od⟩
/-- newer than the ledger: none of the law's -/
theorem Two.fresh (Z : Two w a A (own.map (·.1)) rest R W1 W2 n z) {b : Addr} (al : AllLt b (own ++ rest)) : b ∉ own.map (·.1) ++ a.T := fun hb => by
  obtain ⟨o, ho⟩ := Z.has b hb
  exact Nat.lt_irrefl _ (allLt_mem al _ ho)
/-- one more, or one fewer, that turns -/
theorem Two.more (Z : Two w a A xs rest R W1 W2 n z) {x : Addr} (h1 : ∀ q ∈ rest, q.1 ≠ x) : Two w a A (x :: xs) rest R W1 W2 n z :=
  ⟨Z.sub, Z.off, fun q hq h => by
    rcases List.mem_cons.mp h with e | h
    · exact h1 q hq e
    · exact Z.on q hq h, fun y hy ht => by
    rcases List.mem_cons.mp hy with rfl | hy
    · obtain ⟨o, ho⟩ := Z.rows _ ht
      exact h1 _ ho rfl
    · exact Z.ow y hy ht, Z.tabs1, Z.tabs2, Z.sp1, Z.sp2, Z.od⟩
theorem Two.less {x : Addr} (Z : Two w a A (x :: xs) rest R W1 W2 n z) : Two w a A xs rest R W1 W2 n z :=
  ⟨Z.sub, Z.off, fun q hq h => Z.on q hq (.tail _ h), fun y hy => Z.ow y (.tail _ hy), Z.tabs1, Z.tabs2, Z.sp1, Z.sp2, Z.od⟩
theorem Two.grow (Z : Two w a A xs rest R W1 W2 n z) (h1 : n ≤ n') (h2 : z ≤ z') : Two w a A xs rest R W1 W2 n' z' :=
  ⟨Z.sub, Z.off, Z.on, Z.ow, Z.tabs1.to (fun _ h _ => h) (fun _ h => h) h1 h2, Z.tabs2.to (fun _ h _ => h) (fun _ h => h) h1 h2, Z.sp1, Z.sp2, Z.od⟩
end

end
section
-- only 2
/-- the two worlds tell the same of paired keys -/
structure Rel {ι : Type} (K1 K2 : ι → Str) (A : Int) (W1 W2 : Wld) : Prop where
  f : RG K1 K2 id W1.f W2.f
  x : RG K1 K2 (sc A) W1.x W2.x
  ev : RG K1 K2 (scE A) W1.ev W2.ev
/-- a key and its two windows, paired -/
inductive KP {ι : Type} (K1 K2 : ι → Str) (key1 key2 : Str) (t e T E : Int) : Prop
  | mk (p q r : ι) (a1 : key1 = K1 p) (a2 : key2 = K2 p) (b1 : pkOf key1 t e = K1 q) (b2 : pkOf key2 T E = K2 q) (c1 : ckOf key1 t e = K1 r) (c2 : ckOf key2 T E = K2 r) : KP K1 K2 key1 key2 t e T E
/-- a key and its windows that are none of the pairs' -/
structure KN {ι : Type} (K2 : ι → Str) (key : Str) (T E : Int) : Prop where
  a : ∀ i, K2 i ≠ key
  b : ∀ i, K2 i ≠ pkOf key T E
  c : ∀ i, K2 i ≠ ckOf key T E
section
variable {ι : Type} {K1 K2 : ι → Str} {A t e c T E : Int} {key1 key2 : Str} {am cost k : Int} {W1 W2 W1' W2' : Wld}
theorem Rel.look (H : Sc K1 K2 A t e c T E) (P : KP K1 K2 key1 key2 t e T E) (Z : Rel K1 K2 A W1 W2) : Rel K1 K2 A (lookW key1 t W1) (lookW key2 T W2) := by
  obtain ⟨p, q, r, rfl, rfl, _⟩ := P
  exact ⟨RG.swept H Z.x Z.f p, RG.swept H Z.x Z.x p, Z.ev⟩
theorem Rel.look2 (H : Sc K1 K2 A t e c T E) (P : KP K1 K2 key1 key2 t e T E) (Z : Rel K1 K2 A W1 W2) : Rel K1 K2 A (look2 key1 t e W1) (look2 key2 T E W2) := by
  obtain ⟨p, q, r, _, _, b1, b2, c1, c2⟩ := P
  unfold Mine.look2
  rw [b1, b2, c1, c2]
  exact ⟨RG.F2 H Z.x Z.f, RG.F2 H Z.x Z.x, Z.ev⟩
theorem Rel.drop (H : Sc K1 K2 A t e c T E) (p : ι) (Z : Rel K1 K2 A W1 W2) : Rel K1 K2 A (dropW (K1 p) W1) (dropW (K2 p) W2) :=
  ⟨Z.f.upd H p rfl, Z.x.upd H p rfl, Z.ev.upd H p rfl⟩
theorem Rel.clr (H : Sc K1 K2 A t e c T E) (P : KP K1 K2 key1 key2 t e T E) (Z : Rel K1 K2 A W1 W2) (k : Int) : Rel K1 K2 A (clrW key1 t e k W1) (clrW key2 T E k W2) := by
  obtain ⟨p, q, r, a1, a2, b1, b2, c1, c2⟩ := P
  unfold clrW
  split
  · rw [b1, b2, c1, c2]
    exact (Z.drop H q).drop H r
  · rw [a1, a2]
    exact Z.drop H p
theorem Rel.exp (H : Sc K1 K2 A t e c T E) (Z : Rel K1 K2 A W1 W2) : Rel K1 K2 A (ExpW t W1) (ExpW T W2) :=
  ⟨RG.purge H Z.x Z.f, RG.purge H Z.x Z.x, prune_sim H Z.ev⟩
theorem hit_sim (H : Sc K1 K2 A t e c T E) (P : KP K1 K2 key1 key2 t e T E) (Z : Rel K1 K2 A W1 W2) {b1 b2 : Bool} (h1 : HitR key1 t e am cost k W1 b1 W1') (h2 : HitR key2 T E am cost k W2 b2 W2') : b2 = b1 ∧ Rel K1 K2 A W1' W2' := by
  obtain ⟨p, q, r, a1, a2, d1, d2, c1, c2⟩ := P
  rcases h1 with ⟨k1, rfl, rfl⟩ | ⟨ev1, k1, g1, rfl⟩ | ⟨f1, x1, k1, g1, rfl⟩ <;> rcases h2 with ⟨k2, rfl, rfl⟩ | ⟨ev2, k2, g2, rfl⟩ | ⟨f2, x2, k2, g2, rfl⟩ <;> (try (exfalso; omega))
  · subst a1 a2
    rw [(RG.swept H Z.x Z.f p).get p]
    exact ⟨rfl, RG.incF H Z.x Z.f p cost, RG.incX H Z.x Z.f p cost H.hE, Z.ev⟩
  · subst a1 a2
    obtain ⟨hb, hv⟩ := aen_sim H Z.ev g1 g2
    exact ⟨hb, Z.f, Z.x, hv⟩
  · rw [d1, c1] at g1
    rw [d2, c2] at g2
    obtain ⟨hb, hf, hx⟩ := acq_sim H Z.x Z.f g1 g2
    exact ⟨hb, hf, hx, Z.ev⟩
theorem test_sim (H : Sc K1 K2 A t e c T E) (P : KP K1 K2 key1 key2 t e T E) (Z : Rel K1 K2 A W1 W2) {b1 b2 : Bool} (h1 : TestR key1 t e am cost k W1 b1 W1') (h2 : TestR key2 T E am cost k W2 b2 W2') : b2 = b1 ∧ Rel K1 K2 A W1' W2' := by
  have z1 := Z.look H P
  have z2 := Z.look2 H P
  obtain ⟨p, q, r, a1, a2, d1, d2, c1, c2⟩ := P
  rcases h1 with ⟨k1, rfl, rfl⟩ | ⟨n1, m1, k1, g1, rfl, rfl⟩ | ⟨k1, rfl, rfl⟩ <;> rcases h2 with ⟨k2, rfl, rfl⟩ | ⟨n2, m2, k2, g2, rfl, rfl⟩ | ⟨k2, rfl, rfl⟩ <;> (try (exfalso; omega))
  · subst a1 a2
    rw [(RG.swept H Z.x Z.f p).get p]
    exact ⟨rfl, z1⟩
  · subst a1 a2
    obtain ⟨_, rfl⟩ := mw_sim H (Z.ev p) g1 g2
    exact ⟨rfl, Z⟩
  · rw [d1, c1, d2, c2, wF_eq H Z.x Z.f]
    exact ⟨rfl, z2⟩
theorem step_sim (H : Sc K1 K2 A t e c T E) (P : KP K1 K2 key1 key2 t e T E) (Z : Rel K1 K2 A W1 W2) {deed : Int} {r1 r2 : Value} (h1 : StepR key1 t e am cost k deed W1 r1 W1') (h2 : StepR key2 T E am cost k deed W2 r2 W2') :
    r2 = r1 ∧ ((∃ b, r1 = .bool b) ∨ r1 = .none) ∧ Rel K1 K2 A W1' W2' := by
  rcases h1 with ⟨b1, k1, rfl, g1⟩ | ⟨k1, rfl, rfl⟩ | ⟨k1, rfl, rfl⟩ | ⟨b1, k1, j1, i1, rfl, g1⟩ <;> rcases h2 with ⟨b2, k2, rfl, g2⟩ | ⟨k2, rfl, rfl⟩ | ⟨k2, rfl, rfl⟩ | ⟨b2, k2, j2, i2, rfl, g2⟩ <;> (try (exfalso; omega))
  · obtain ⟨rfl, z⟩ := test_sim H P Z g1 g2
    exact ⟨rfl, .inl ⟨_, rfl⟩, z⟩
  · exact ⟨rfl, .inr rfl, Z.clr H P k⟩
  · exact ⟨rfl, .inr rfl, Z.exp H⟩
  · obtain ⟨rfl, z⟩ := hit_sim H P Z g1 g2
    exact ⟨rfl, .inl ⟨_, rfl⟩, z⟩
theorem statP_sim (H : Sc K1 K2 A t e c T E) {pc ttl cc cx n1 d1 n2 d2 : Int} (h1 : StatP pc ttl cc cx t e n1 d1) (h2 : StatP pc (60 * ttl) cc (60 * cx) T E n2 d2) : n2 * d1 = (60 * n1 + A * d1) * d2 := by
  have b : T = 60 * t + A := H.hT
  have m1 : (60 * cx).fmod E = 60 * cx.fmod e := by rw [H.hE, fmod60 H.he]
  have m2 : (60 * ttl * pc).fmod E = 60 * (ttl * pc).fmod e := by rw [H.hE, Int.mul_assoc, fmod60 H.he]
  unfold StatP at h1 h2
  rw [m1, m2] at h2
  have k : ∀ u : Int, T * pc + 60 * u = 60 * (t * pc + u) + A * pc := fun u => by rw [b, Int.add_mul, Int.mul_add, Int.mul_assoc]; omega
  rcases h1 with ⟨x1, y1, e1, f1⟩ | ⟨x1, y1, e1, f1⟩ | ⟨x1, y1, e1, f1⟩ | ⟨x1, y1, e1, f1⟩ <;> rcases h2 with ⟨x2, y2, e2, f2⟩ | ⟨x2, y2, e2, f2⟩ | ⟨x2, y2, e2, f2⟩ | ⟨x2, y2, e2, f2⟩ <;> first | contradiction | rw [e1, f1, e2, f2]
  · omega
  · omega
  · rw [k]
  · have e1 : (if 60 * cx.fmod e * pc < 60 * (ttl * pc).fmod e then 60 * cx.fmod e * pc else 60 * (ttl * pc).fmod e) = 60 * (if cx.fmod e * pc < (ttl * pc).fmod e then cx.fmod e * pc else (ttl * pc).fmod e) := by
      rw [Int.mul_assoc]
      by_cases q : cx.fmod e * pc < (ttl * pc).fmod e
      · rw [if_pos q, if_pos (by omega)]
      · rw [if_neg q, if_neg (by omega)]
    rw [e1, k]
theorem stat_sim (H : Sc K1 K2 A t e c T E) (P : KP K1 K2 key1 key2 t e T E) (Z : Rel K1 K2 A W1 W2) {n1 d1 l1 n2 d2 l2 : Int} (h1 : StatR key1 t e am k W1 n1 d1 l1 W1') (h2 : StatR key2 T E am k W2 n2 d2 l2 W2') :
    l2 = l1 ∧ n2 * d1 = (60 * n1 + A * d1) * d2 ∧ Rel K1 K2 A W1' W2' := by
  have z1 := Z.look H P
  have z2 := Z.look2 H P
  obtain ⟨p, q, r, a1, a2, b1, b2, c1, c2⟩ := P
  rcases h1 with ⟨k1, rfl, rfl, rfl, rfl⟩ | ⟨u1, m1, k1, g1, rfl, rfl, rfl, rfl⟩ | ⟨pc1, tl1, cc1, k1, e1, e2, e3, g1, rfl, rfl⟩ <;> rcases h2 with ⟨k2, rfl, rfl, rfl, rfl⟩ | ⟨u2, m2, k2, g2, rfl, rfl, rfl, rfl⟩ | ⟨pc2, tl2, cc2, k2, e4, e5, e6, g2, rfl, rfl⟩ <;> (try (exfalso; omega))
  · subst a1 a2
    rw [(RG.swept H Z.x Z.f p).get p]
    refine ⟨rfl, ?_, z1⟩
    rw [RG.swept H Z.x Z.x p p]
    cases Mine.swept W1.x (K1 p) t W1.x (K1 p) with
    | none => show T * 1 = (60 * t + A * 1) * 1; rw [H.hT]; show (60 * t + A) * 1 = _; omega
    | some v => show (60 * v + A) * 1 = (60 * v + A * 1) * 1; omega
  · subst a1 a2
    obtain ⟨rfl, rfl⟩ := mw_sim H (Z.ev p) g1 g2
    refine ⟨rfl, ?_, Z⟩
    show (60 * u1 + A + E) * 1 = (60 * (u1 + e) + A * 1) * 1
    have := H.hE
    omega
  · rw [b1] at e1
    rw [b2, pcF_eq H Z.x Z.f] at e4
    rw [b1, c1] at e3
    rw [b2, c2, ccF_eq H Z.x Z.f] at e6
    obtain rfl : pc2 = pc1 := e4.trans e1.symm
    obtain rfl : cc2 = cc1 := e6.trans e3.symm
    rw [ttlF_eq H, ← e2] at e5
    subst e5
    have hx : E - T.fmod E + E = 60 * (e - t.fmod e + e) := by rw [show T = sc A t from H.hT, sc_mod H, H.hE]; omega
    rw [hx] at g2
    refine ⟨?_, statP_sim H g1 g2, z2⟩
    rw [mul60, H.hE, fdiv60 H.he]
end
/-- strangers turn no pair -/
theorem swept_off {α : Type} {x : Str → Option Int} {f : Str → Option α} {k j : Str} {t : Int} (h : j ≠ k) : swept x k t f j = f j := by
  unfold swept
  split
  · exact upd_other _ _ h
  · rfl
theorem incF_off {f x : Str → Option Int} {k j : Str} {t am : Int} (h : j ≠ k) : incF f x k t am j = f j := by
  unfold incF
  rw [upd_other _ _ h, swept_off h]
theorem incX_off {f x : Str → Option Int} {k j : Str} {t e am : Int} (h : j ≠ k) : incX f x k t e am j = x j := by
  unfold incX
  split
  · rw [upd_other _ _ h, swept_off h]
  · exact swept_off h
theorem F2_off {α : Type} {f : Str → Option α} {x : Str → Option Int} {p q j : Str} {t : Int} (h : j ≠ p) (g : j ≠ q) : F2 f x p q t j = f j := by
  unfold F2
  rw [swept_off g, swept_off h]
section
variable {ι : Type} {K1 K2 : ι → Str} {A T E : Int} {key : Str} {am cost k : Int} {W1 W2 W2' : Wld}
theorem Rel.off (Z : Rel K1 K2 A W1 W2) (hf : ∀ i, W2'.f (K2 i) = W2.f (K2 i)) (hx : ∀ i, W2'.x (K2 i) = W2.x (K2 i)) (he : ∀ i, W2'.ev (K2 i) = W2.ev (K2 i)) : Rel K1 K2 A W1 W2' :=
  ⟨fun i => (hf i).trans (Z.f i), fun i => (hx i).trans (Z.x i), fun i => (he i).trans (Z.ev i)⟩
theorem Rel.hit (Z : Rel K1 K2 A W1 W2) (N : KN K2 key T E) {b : Bool} (h : HitR key T E am cost k W2 b W2') : Rel K1 K2 A W1 W2' := by
  rcases h with ⟨_, _, rfl⟩ | ⟨ev', _, g, rfl⟩ | ⟨f', x', _, g, rfl⟩
  · exact Z.off (fun i => incF_off (N.a i)) (fun i => incX_off (N.a i)) (fun _ => rfl)
  · refine Z.off (fun _ => rfl) (fun _ => rfl) (fun i => ?_)
    rcases g with ⟨_, _, rfl⟩ | ⟨_, _, _, rfl⟩ | ⟨_, _, _, rfl⟩
    · rfl
    · exact upd_other _ _ (N.a i)
    · exact upd_other _ _ (N.a i)
  · rcases g with ⟨_, _, rfl, rfl⟩ | ⟨_, _, _, rfl, rfl⟩ | ⟨_, _, _, rfl, rfl⟩
    · exact Z
    · exact Z.off (fun i => F2_off (N.b i) (N.c i)) (fun i => F2_off (N.b i) (N.c i)) (fun _ => rfl)
    · exact Z.off (fun i => (incF_off (N.c i)).trans (F2_off (N.b i) (N.c i))) (fun i => (incX_off (N.c i)).trans (F2_off (N.b i) (N.c i))) (fun _ => rfl)
theorem Rel.drop2 (Z : Rel K1 K2 A W1 W2) (N : ∀ i, K2 i ≠ key) : Rel K1 K2 A W1 (dropW key W2) :=
  Z.off (fun i => upd_other _ _ (N i)) (fun i => upd_other _ _ (N i)) (fun i => upd_other _ _ (N i))
theorem Rel.clr2 (Z : Rel K1 K2 A W1 W2) (N : KN K2 key T E) : Rel K1 K2 A W1 (clrW key T E k W2) := by
  unfold clrW
  split
  · exact (Z.drop2 N.b).drop2 N.c
  · exact Z.drop2 N.a
end
/-- counts are small -/
noncomputable def Bd (f : Str → Option Int) (b : Int) : Prop := ∀ j, 0 ≤ (f j).getD 0 ∧ (f j).getD 0 ≤ b
section
variable {f x : Str → Option Int} {b t am : Int} {key p q : Str}
theorem Bd.le {b' : Int} (h : Bd f b) (hb : b ≤ b') : Bd f b' := fun j => ⟨(h j).1, Int.le_trans (h j).2 hb⟩
theorem Bd.b0 (h : Bd f b) : 0 ≤ b := Int.le_trans (h Str.empty).1 (h Str.empty).2
theorem Bd.none (h : Bd f b) : Bd (upd f key none) b := fun j => by
  have := h.b0
  unfold upd
  split
  · exact ⟨Int.le_refl _, this⟩
  · exact h j
theorem Bd.swept (h : Bd f b) : Bd (swept x key t f) b := by
  unfold Mine.swept
  split
  · exact h.none
  · exact h
theorem Bd.F2 (h : Bd f b) : Bd (F2 f x p q t) b := h.swept.swept
theorem Bd.incF (h : Bd f b) (ha : 0 ≤ am) : Bd (incF f x key t am) (b + am) := fun j => by
  have s := h.swept (x := x) (key := key) (t := t)
  unfold Mine.incF upd
  split
  · have := s key
    show 0 ≤ _ ∧ _ ≤ _
    rw [Option.getD_some]
    omega
  · have := s j; omega
theorem Bd.purge (h : Bd f b) : Bd (purge x t f) b := fun j => by
  have := h.b0
  unfold Mine.purge
  split
  · split
    · exact ⟨Int.le_refl _, this⟩
    · exact h j
  · exact h j
end
section
variable {key : Str} {t e am cost k : Int} {W W' : Wld} {b : Int}
theorem hit_bd {r : Bool} (h : HitR key t e am cost k W r W') (hb : Bd W.f b) (hc : 0 ≤ cost) : Bd W'.f (b + cost) := by
  have hb' : Bd W.f (b + cost) := hb.le (by omega)
  rcases h with ⟨_, _, rfl⟩ | ⟨ev', _, g, rfl⟩ | ⟨f', x', _, g, rfl⟩
  · exact hb.incF hc
  · exact hb'
  · rcases g with ⟨_, _, rfl, rfl⟩ | ⟨_, _, _, rfl, rfl⟩ | ⟨_, _, _, rfl, rfl⟩
    · exact hb'
    · exact hb'.F2
    · exact hb.F2.incF hc
theorem clr_bd (hb : Bd W.f b) : Bd (clrW key t e k W).f b := by
  unfold clrW
  split
  · exact hb.none.none
  · exact hb.none
theorem step_bd {deed : Int} {r : Value} (h : StepR key t e am cost k deed W r W') (hb : Bd W.f b) (hc : 0 ≤ cost) : Bd W'.f (b + cost) := by
  have hb' : Bd W.f (b + cost) := hb.le (by omega)
  rcases h with ⟨_, _, _, g⟩ | ⟨_, _, rfl⟩ | ⟨_, _, rfl⟩ | ⟨_, _, _, _, _, g⟩
  · rcases g with ⟨_, _, rfl⟩ | ⟨_, _, _, _, _, rfl⟩ | ⟨_, _, rfl⟩
    · exact hb'.swept
    · exact hb'
    · exact hb'.F2
  · exact clr_bd hb'
  · exact hb'.purge
  · exact hit_bd g hb hc
theorem stat_bd {n d l : Int} (h : StatR key t e am k W n d l W') (hb : Bd W.f b) : Bd W'.f b := by
  rcases h with ⟨_, _, _, _, rfl⟩ | ⟨_, _, _, _, _, _, _, rfl⟩ | ⟨_, _, _, _, _, _, _, _, _, rfl⟩
  · exact hb.swept
  · exact hb
  · exact hb.F2
end

end
section
theorem repr_inj' {n m : Nat} (h : Nat.repr n = Nat.repr m) : n = m := by
  have h1 := congrArg String.toList h
  rw [Nat.toList_repr, Nat.toList_repr] at h1
  have h2 : Nat.ofDigitChars 10 (Nat.toDigits 10 n) 0 = Nat.ofDigitChars 10 (Nat.toDigits 10 m) 0 := by rw [h1]
  rwa [Nat.ofDigitChars_toDigits (by decide) (by decide), Nat.ofDigitChars_toDigits (by decide) (by decide)] at h2
theorem text_inj {n m : Int} (hn : 0 ≤ n) (hm : 0 ≤ m) (h : (toString n : String) = toString m) : n = m := by
  obtain ⟨a, rfl⟩ := Int.eq_ofNat_of_zero_le hn
  obtain ⟨b, rfl⟩ := Int.eq_ofNat_of_zero_le hm
  exact congrArg _ (repr_inj' h)
theorem chars_inj : ∀ {a b : List Char}, a.map Char.toNat = b.map Char.toNat → a = b
  | [], [], _ => rfl
  | [], _ :: _, h => by simp at h
  | _ :: _, [], h => by simp at h
  | x :: a, y :: b, h => by
    rw [List.map_cons, List.map_cons, List.cons.injEq] at h
    rw [chars_inj h.2, Char.ext (UInt32.toNat_inj.mp h.1)]
theorem ofString_inj {a b : String} (h : Str.ofString a = Str.ofString b) : a = b := by
  rw [Str.ofString_eq_toList, Str.ofString_eq_toList] at h
  have h1 : a.toList.map Char.toNat = b.toList.map Char.toNat := by
    have := congrArg (fun s : Str => s.cps.toList) h
    simpa using this
  have h2 := chars_inj h1
  rw [← String.ofList_toList (s := a), h2, String.ofList_toList]
theorem last_split {c : Nat} : ∀ {a a' d d' : List Nat}, c ∉ d → c ∉ d' → a ++ c :: d = a' ++ c :: d' → a = a' ∧ d = d'
  | [], [], _, _, _, _, h => ⟨rfl, (List.cons.inj h).2⟩
  | [], x :: a', d, d', h1, _, h => by
    rw [List.nil_append, List.cons_append] at h
    have := (List.cons.inj h).2
    exact absurd (by rw [this]; exact List.mem_append_right _ (.head _)) h1
  | x :: a, [], d, d', _, h2, h => by
    rw [List.nil_append, List.cons_append] at h
    have := (List.cons.inj h).2
    exact absurd (by rw [← this]; exact List.mem_append_right _ (.head _)) h2
  | x :: a, y :: a', d, d', h1, h2, h => by
    rw [List.cons_append, List.cons_append] at h
    obtain ⟨e1, e2⟩ := List.cons.inj h
    obtain ⟨e3, e4⟩ := last_split h1 h2 e2
    exact ⟨by rw [e1, e3], e4⟩
theorem cps_app (a b : Str) : (a ++ b).cps.toList = a.cps.toList ++ b.cps.toList := by
  show (a.cps ++ b.cps).toList = _
  simp
theorem slash : (Str.ofString "/").cps.toList = [47] := by decide +kernel
theorem wkey_cps (k : Str) (n : Int) : (wkey k n).cps.toList = k.cps.toList ++ 47 :: (Str.ofString (toString n)).cps.toList := by
  unfold wkey
  rw [cps_app, cps_app, cps_app, slash]
  show ([] ++ _) ++ _ ++ _ = _
  simp
theorem cps_inj {a b : Str} (h : a.cps.toList = b.cps.toList) : a = b := by
  cases a; cases b
  congr 1
  exact Array.toList_inj.mp h
theorem wkey_inj {k k' : Str} {n n' : Int} (hn : 0 ≤ n) (hn' : 0 ≤ n') (h : wkey k n = wkey k' n') : k = k' ∧ n = n' := by
  have h1 := congrArg (fun s : Str => s.cps.toList) h
  (try dsimp only at h1)
  rw [wkey_cps, wkey_cps] at h1
  obtain ⟨e1, e2⟩ := last_split (PyProof.Rows.int_text_free 47 (by decide) n) (PyProof.Rows.int_text_free 47 (by decide) n') h1
  exact ⟨cps_inj e1, text_inj hn hn' (ofString_inj (cps_inj e2))⟩

end
section
-- only 2
/-- what ends a key of a limit -/
noncomputable def tailOf (sec : Bool) (am mu : Int) : List Nat := (itx am).cps.toList ++ 47 :: ((itx mu).cps.toList ++ 47 :: (granOf sec).cps.toList)
noncomputable def Form (k : Str) (H : List Nat) (sec : Bool) (am mu : Int) : Prop := k.cps.toList = H ++ 47 :: tailOf sec am mu
theorem form1 (sec : Bool) (ns a : Str) (am mu : Int) : Form (keyOf sec ns [a] am mu) (ns.cps.toList ++ 47 :: a.cps.toList) sec am mu := by
  show (Str.empty ++ ns ++ Str.ofString "/" ++ (a ++ Str.ofString "/" ++ itx am ++ Str.ofString "/" ++ itx mu ++ Str.ofString "/" ++ granOf sec)).cps.toList = _
  unfold tailOf
  simp only [cps_app, slash, List.append_assoc, List.cons_append, List.nil_append]
  rfl
theorem form2 (sec : Bool) (ns a b : Str) (am mu : Int) : Form (keyOf sec ns [a, b] am mu) (ns.cps.toList ++ 47 :: (a.cps.toList ++ 47 :: b.cps.toList)) sec am mu := by
  show (Str.empty ++ ns ++ Str.ofString "/" ++ (a ++ Str.ofString "/" ++ b ++ Str.ofString "/" ++ itx am ++ Str.ofString "/" ++ itx mu ++ Str.ofString "/" ++ granOf sec)).cps.toList = _
  unfold tailOf
  simp only [cps_app, slash, List.append_assoc, List.cons_append, List.nil_append]
  rfl
theorem form_inj {k k' : Str} {H H' : List Nat} {sec : Bool} {am mu : Int} (h : Form k H sec am mu) (h' : Form k' H' sec am mu) (e : k = k') : H = H' := by
  subst e
  exact List.append_cancel_right (h.symm.trans h')
theorem form_wkey {k k' : Str} {H : List Nat} {sec : Bool} {am mu n : Int} (h : Form k H sec am mu) : wkey k' n ≠ k := fun e => by
  have h1 := congrArg (fun s : Str => s.cps.toList) e
  (try dsimp only at h1)
  rw [wkey_cps, show k.cps.toList = _ from h] at h1
  have hg : 47 ∉ (granOf sec).cps.toList := by cases sec <;> decide +kernel
  have h2 : k'.cps.toList ++ 47 :: (Str.ofString (toString n)).cps.toList = (H ++ 47 :: ((itx am).cps.toList ++ 47 :: (itx mu).cps.toList)) ++ 47 :: (granOf sec).cps.toList := by
    rw [h1]; unfold tailOf; simp only [List.append_assoc, List.cons_append]
  obtain ⟨_, e2⟩ := last_split (PyProof.Rows.int_text_free 47 (by decide) n) hg h2
  have hm : ∃ c, c ∈ (granOf sec).cps.toList ∧ 101 = c := ⟨101, by cases sec <;> decide +kernel, rfl⟩
  obtain ⟨c, hc, rfl⟩ := hm
  rw [← e2] at hc
  rw [Str.ofString_eq_toList] at hc
  simp only [List.mem_map] at hc
  obtain ⟨ch, h3, h4⟩ := hc
  rcases PyProof.Rows.int_sign n ch h3 with h5 | h5
  · have := PyProof.Rows.digit_range h5; omega
  · subst h5; revert h4; decide
/-- the names in either world -/
noncomputable def nm1 (b : Bool) : List Str := if b then [Str.ofString "a", Str.ofString "b"] else [Str.ofString "a"]
noncomputable def nm2 (b : Bool) : List Str := if b then [Str.ofString "y"] else [Str.ofString "zz", Str.ofString "q"]
noncomputable def base1 (am len : Int) (b : Bool) : Str := keyOf true (Str.ofString "LIMITER") (nm1 b) am len
noncomputable def base2 (am len : Int) (b : Bool) : Str := keyOf false (Str.ofString "other") (nm2 b) am len
noncomputable def K1 (am len : Int) : Bool × Option Nat → Str
  | (b, none) => base1 am len b
  | (b, some n) => wkey (base1 am len b) n
noncomputable def K2 (am len c : Int) : Bool × Option Nat → Str
  | (b, none) => base2 am len b
  | (b, some n) => wkey (base2 am len b) ((n : Int) + c)
noncomputable def hd1s (b : Bool) : List Nat := if b then (Str.ofString "LIMITER").cps.toList ++ 47 :: ((Str.ofString "a").cps.toList ++ 47 :: (Str.ofString "b").cps.toList) else (Str.ofString "LIMITER").cps.toList ++ 47 :: (Str.ofString "a").cps.toList
noncomputable def hdn (ns : Str) (b : Bool) : List Nat := if b then ns.cps.toList ++ 47 :: (Str.ofString "y").cps.toList else ns.cps.toList ++ 47 :: ((Str.ofString "zz").cps.toList ++ 47 :: (Str.ofString "q").cps.toList)
theorem base1_form (am len : Int) (b : Bool) : Form (base1 am len b) (hd1s b) true am len := by
  cases b
  · exact form1 ..
  · exact form2 ..
theorem names2_form (ns : Str) (am len : Int) (b : Bool) : Form (keyOf false ns (nm2 b) am len) (hdn ns b) false am len := by
  cases b
  · exact form2 ..
  · exact form1 ..
section
variable {am len c : Int}
theorem K1_inj (i j : Bool × Option Nat) (h : K1 am len i = K1 am len j) : i = j := by
  have kb : ∀ {b b' : Bool}, base1 am len b = base1 am len b' → b = b' := fun {b b'} e => by
    have := form_inj (base1_form am len b) (base1_form am len b') e
    cases b <;> cases b' <;> first | rfl | (exfalso; revert this; decide +kernel)
  obtain ⟨b, o⟩ := i
  obtain ⟨b', o'⟩ := j
  cases o <;> cases o'
  · rw [kb h]
  · exact absurd h.symm (form_wkey (base1_form am len b))
  · exact absurd h (form_wkey (base1_form am len b'))
  · obtain ⟨e1, e2⟩ := wkey_inj (Int.natCast_nonneg _) (Int.natCast_nonneg _) h
    rw [kb e1, Int.ofNat.inj e2]
theorem K2_inj (hc : 0 ≤ c) (i j : Bool × Option Nat) (h : K2 am len c i = K2 am len c j) : i = j := by
  have kb : ∀ {b b' : Bool}, base2 am len b = base2 am len b' → b = b' := fun {b b'} e => by
    have := form_inj (names2_form _ am len b) (names2_form _ am len b') e
    cases b <;> cases b' <;> first | rfl | (exfalso; revert this; decide +kernel)
  obtain ⟨b, o⟩ := i
  obtain ⟨b', o'⟩ := j
  cases o <;> cases o'
  · rw [kb h]
  · exact absurd h.symm (form_wkey (names2_form _ am len b))
  · exact absurd h (form_wkey (names2_form _ am len b'))
  · rename_i n n'
    obtain ⟨e1, e2⟩ := wkey_inj (Int.add_nonneg (Int.natCast_nonneg _) hc) (Int.add_nonneg (Int.natCast_nonneg _) hc) h
    have e3 : n = n' := by omega
    rw [kb e1, e3]
/-- keys of another head are none of the pairs' -/
theorem K2_off (hc : 0 ≤ c) {key : Str} {H : List Nat} {T E : Int} (hF : Form key H false am len) (h0 : ∀ b, hdn (Str.ofString "other") b ≠ H) (hE : 0 < E) (hT : E ≤ T) : KN (K2 am len c) key T E := by
  have ne : ∀ b, base2 am len b ≠ key := fun b e => h0 b (form_inj (names2_form _ am len b) hF e)
  have nw : ∀ m : Int, 0 ≤ m → ∀ i, K2 am len c i ≠ wkey key m := fun m hm i => by
    obtain ⟨b, o⟩ := i
    cases o with
    | none => exact fun e => form_wkey (names2_form _ am len b) e.symm
    | some n => exact fun e => ne b (wkey_inj (Int.add_nonneg (Int.natCast_nonneg _) hc) hm e).1
  refine ⟨fun i => ?_, nw _ (fdiv_bounds hE (by omega)).1, nw _ (fdiv_bounds hE (by omega)).1⟩
  obtain ⟨b, o⟩ := i
  cases o with
  | none => exact ne b
  | some n => exact form_wkey hF
theorem law_sc {A t T E : Int} (hl : 0 < len) (ht : len ≤ t) (hc : 0 ≤ c) (hA : A = 60 * len * c) (hT : T = 60 * t + A) (hE : E = 60 * len) : Sc (K1 am len) (K2 am len c) A t len c T E :=
  ⟨hT, hE, hA, hc, hl, ht, K1_inj, K2_inj hc⟩
theorem law_kp {A t T E : Int} (H : Sc (K1 am len) (K2 am len c) A t len c T E) (b : Bool) : KP (K1 am len) (K2 am len c) (base1 am len b) (base2 am len b) t len T E := by
  have z := sc_t H
  have he := H.he
  have het := H.het
  have g1 : ((((t - len).fdiv len).toNat : Nat) : Int) = (t - len).fdiv len := Int.toNat_of_nonneg (fdiv_bounds he (by omega)).1
  have g2 : (((t.fdiv len).toNat : Nat) : Int) = t.fdiv len := Int.toNat_of_nonneg (fdiv_bounds he z.1).1
  refine ⟨(b, none), (b, some ((t - len).fdiv len).toNat), (b, some (t.fdiv len).toNat), rfl, rfl, ?_, ?_, ?_, ?_⟩
  · show wkey _ _ = wkey _ _; rw [g1]
  · show wkey _ _ = wkey _ _; rw [g1, sc_pk H]
  · show wkey _ _ = wkey _ _; rw [g2]
  · show wkey _ _ = wkey _ _; rw [g2, sc_ck H]
theorem stranger_off (hc : 0 ≤ c) {T E : Int} (hE : 0 < E) (hT : E ≤ T) : KN (K2 am len c) (keyOf false (Str.ofString "other") [Str.ofString "stranger"] am len) T E :=
  K2_off hc (form1 ..) (fun b => by cases b <;> decide +kernel) hE hT
theorem third_off (hc : 0 ≤ c) (b : Bool) {T E : Int} (hE : 0 < E) (hT : E ≤ T) : KN (K2 am len c) (keyOf false (Str.ofString "third") (nm2 b) am len) T E :=
  K2_off hc (names2_form _ am len b) (fun b' => by cases b <;> cases b' <;> decide +kernel) hE hT
end

end
section
-- only 2
noncomputable def lawDef : Stmt := (PySem.Challenge.pw_ji0060_02.main.body.getLast?).getD (.Pass ⟨0, 0, 0, 0⟩)
noncomputable def lawBody : List Stmt := match lawDef with | .FunctionDef _ _ b _ _ _ _ _ _ _ => b | _ => []
noncomputable def lawScope : Scope := match lawDef with | .FunctionDef _ _ _ _ _ _ sc _ _ _ => sc | _ => { kind := .function, names := [], isGenerator := false, isCoroutine := false }
noncomputable def forBody : Stmt → List Stmt | .For _ _ b _ _ => b | _ => []
noncomputable def isFor : Stmt → Bool | .For .. => true | _ => false
noncomputable def firstFor (l : List Stmt) : Stmt := (l.find? isFor).getD (.Pass ⟨0, 0, 0, 0⟩)
noncomputable def for1 : Stmt := firstFor lawBody
noncomputable def turnBody : List Stmt := forBody for1
noncomputable def for2 : Stmt := firstFor turnBody
noncomputable def innerBody : List Stmt := forBody for2
/-- the law's own things that stay -/
structure Ob where
  hand : Addr
  lims1 : Addr
  lims2 : Addr
  it1 : Addr
  it2 : Addr
  scr : Addr
structure Cst (a : Ad) (o : Ob) (L : Addr) (R : List (Addr × Obj)) (rv : List Value) (kr : Nat) (am len A : Int) : Prop where
  l1 : LimsAt R a.S1 a.X1 a.V1 o.lims1 a.st1
  l2 : LimsAt R a.S2 a.X2 a.V2 o.lims2 a.st2
  i1 : ItemAt R a.S1 a.X1 a.V1 o.it1 true (Str.ofString "LIMITER") am len
  i2 : ItemAt R a.S2 a.X2 a.V2 o.it2 false (Str.ofString "other") am len
  cA : ∃ oc tA, (L + 1, oc) ∈ R ∧ oc.data = .cell (some (.int A tA))
  cN : ∃ oc, (L + 1 + 1, oc) ∈ R ∧ oc.data = .cell (some (.ref a.nowl))
  tb : ∃ ps, (723, tabObj ps) ∈ R
  hn : @Ne Nat o.hand a.nowl
theorem LimsAt.up {R R' : List (Addr × Obj)} {S X V lims st : Addr} (h : LimsAt R S X V lims st) (hs : ∀ q ∈ R, q ∈ R') : LimsAt R' S X V lims st := by
  obtain ⟨fx, mv, sl, n, m, a, b, c⟩ := h
  exact ⟨fx, mv, sl, n, hs _ m, a.sub fun q hq _ => hs q hq, b.sub fun q hq _ => hs q hq, c.sub fun q hq _ => hs q hq⟩
theorem Cst.up {a : Ad} {o : Ob} {L : Addr} {R R' : List (Addr × Obj)} {rv : List Value} {kr : Nat} {am len A : Int} (h : Cst a o L R rv kr am len A) (hs : ∀ q ∈ R, q ∈ R') : Cst a o L R' rv kr am len A := by
  obtain ⟨l1, l2, i1, i2, ⟨oc, tA, c1, c2⟩, ⟨od, c3, c4⟩, ⟨ps, c5⟩, c6⟩ := h
  exact ⟨l1.up hs, l2.up hs, i1.sub fun q hq _ => hs q hq, i2.sub fun q hq _ => hs q hq, ⟨oc, tA, hs _ c1, c2⟩, ⟨od, hs _ c3, c4⟩, ⟨ps, hs _ c5⟩, c6⟩
structure Pin2 (m : Str → Option Value) (a : Ad) (o : Ob) (am len : Int) : Prop where
  p1 : m (Str.ofString "hand") = some (.ref o.hand)
  p2 : ∃ t, m (Str.ofString "amount") = some (.int am t)
  p3 : ∃ t, m (Str.ofString "length") = some (.int len t)
  p4 : m (Str.ofString "seconds") = some (.ref o.lims1)
  p5 : m (Str.ofString "minutes") = some (.ref o.lims2)
  p6 : m (Str.ofString "item") = some (.ref o.it1)
  p7 : m (Str.ofString "other") = some (.ref o.it2)
  p8 : m (Str.ofString "small") = some (.ref a.st1)
  p9 : m (Str.ofString "great") = some (.ref a.st2)
/-- the two worlds, and how large their counts are -/
structure Pair (am len c A : Int) (W1 W2 : Wld) (b : Int) : Prop where
  rel : Rel (K1 am len) (K2 am len c) A W1 W2
  b1 : Bd W1.f b
  b2 : Bd W2.f b
/-- between the turns of the inner loop -/
noncomputable def InAt (w : World) (a : Ad) (o : Ob) (am len c A t : Int) (own R₀ : List (Addr × Obj)) (nt1 nt2 : Addr) (b : Int) (n z : Nat) (i : Nat) (m : Str → Option Value) (nw : List (Addr × Obj)) : Prop :=
  ∃ rest R W1 W2, nw = own ++ rest ∧ Two w a A (own.map (·.1)) rest R W1 W2 (n + 4 * i) (z + 2000 * i) ∧ (∀ q ∈ R₀, q ∈ R) ∧ Pair am len c A W1 W2 b ∧ Pin2 m a o am len ∧
    m (Str.ofString "mine") = some (.ref nt1) ∧ m (Str.ofString "yours") = some (.ref nt2)
/-- the law's numbers -/
structure Law (am len c A t : Int) : Prop where
  ham : 0 ≤ am ∧ am ≤ 5
  hlen : 1 ≤ len ∧ len ≤ 7
  hc : 1 ≤ c ∧ c ≤ 9
  hA : A = 60 * len * c
  ht0 : len ≤ t
  ht1 : t ≤ 1000
theorem Law.big {am len c A t : Int} (h : Law am len c A t) : 0 ≤ A ∧ A ≤ 3780 ∧ 60 * len ≤ A := by
  obtain ⟨_, hl, hc, rfl, _, _⟩ := h
  have h1 : 0 ≤ 60 * len := by omega
  have h2 := Int.mul_le_mul_of_nonneg_left hc.2 h1
  have h3 := Int.mul_le_mul_of_nonneg_left hc.1 h1
  omega
theorem Law.sc {am len c A t : Int} (h : Law am len c A t) : Sc (K1 am len) (K2 am len c) A t len c (60 * t + A) (60 * len) :=
  law_sc (Int.lt_of_lt_of_le (by decide) h.hlen.1) h.ht0 (Int.le_trans (by decide) h.hc.1) h.hA rfl rfl
theorem Law.num1 {am len c A t cost b : Int} {W : Wld} {n z : Nat} (h : Law am len c A t) (hb : Bd W.f b) (hb2 : b ≤ 1000) (hc : 0 ≤ cost ∧ cost ≤ 100) (hn : n ≤ 1000) (hz : z ≤ 900000) : Num W n z t len cost := by
  obtain ⟨_, hl, _, _, h0, h1⟩ := h
  exact ⟨by omega, by omega, h0, by omega, hc, fun j => ⟨(hb j).1, by have := (hb j).2; omega⟩, hn, hz⟩
theorem Law.num2 {am len c A t cost b : Int} {W : Wld} {n z : Nat} (h : Law am len c A t) (hb : Bd W.f b) (hb2 : b ≤ 1000) (hc : 0 ≤ cost ∧ cost ≤ 100) (hn : n ≤ 1000) (hz : z ≤ 900000) : Num W n z (60 * t + A) (60 * len) cost := by
  have q := h.big
  obtain ⟨_, hl, _, _, h0, h1⟩ := h
  exact ⟨by omega, by omega, by omega, by omega, hc, fun j => ⟨(hb j).1, by have := (hb j).2; omega⟩, hn, hz⟩

end
section
-- only 2
theorem said_p_inner : True := by
  k_with "execs nil" => (k_here; (fail_if_success (fail_if_success (have := (by with_reducible assumption : Mk 173)))); (with_reducible show wpAny _ _ (execs _ (envX (Str.ofString "law") _ _ _ _ _)) _ _ _); with_reducible refine heldW ?_)
  k_with "compareOp NotEq int int" => (k_here; (fail_if_success (fail_if_success (have := (by with_reducible assumption : Mk 173)))); k_dflt (refine' ne_same ?zye ?_; (case zye => with_reducible first | exact rfl | assumption); k_whole))
  trivial
theorem stat_den {key : Str} {t e am k num den left b : Int} {W W' : Wld} (h : StatR key t e am k W num den left W') (hb : Bd W.f b) (h1 : b ≤ 1000) : 0 ≤ den ∧ den ≤ 1000 := by
  rcases h with ⟨_, _, rfl, _, _⟩ | ⟨_, _, _, _, _, rfl, _, _⟩ | ⟨pc, _, _, _, e1, _, _, g, _, _⟩
  · exact ⟨by decide, by decide⟩
  · exact ⟨by decide, by decide⟩
  · have q := hb.swept (x := W.x) (key := pkOf key t e) (t := t) (pkOf key t e)
    unfold pcF at e1
    rcases g with ⟨_, _, _, rfl⟩ | ⟨_, _, _, rfl⟩ | ⟨_, _, _, rfl⟩ | ⟨_, _, _, rfl⟩
    · exact ⟨by decide, by decide⟩
    · exact ⟨by decide, by decide⟩
    · omega
    · omega
theorem ne_same {prog : Program} {w : World} {A : Around} {E : Value → Shared → Prop} {s : Shared} {a b : Int} {t u : Tok} {Q : Value → Shared → Prop} (e : a = b) (h : Q (.bool false) s) : wpAny (model prog w) A (compareOp .NotEq (.int a t) (.int b u)) Q E s := by
  subst e
  refine ne_int ?_
  rw [bne_self_eq_false]
  exact h
section
variable {w : World} {p : Program} {loose : List Str} {mean : ExcName → Option Value} {mg mb : Str → Option Value} {dp un : Nat} {gd : Option (List Code)} {fa : Addr} {A₀ : Around} {base h₀ : Heap} {L : Addr} {m : Str → Option Value} {s : Shared} {Q : Flow → Shared → Prop} {E : Value → Shared → Prop}
  (B : Below A₀ base [] h₀) (KX : (Mine.hd1.heap_39 w.params).In h₀) (T : Top p loose mean mg mb h₀) (CD2 : CodeHd base 644 640)
include B KX T CD2
end
noncomputable def inner_spec_St (w : World) (p : Program) (loose : List Str) (mean : ExcName → Option Value) (mg : Str → Option Value) (mb : Str → Option Value) (dp : Nat) (un : Nat) (gd : Option (List Code)) (fa : Addr) (A₀ : Around) (base : Heap) (h₀ : Heap) (L : Addr) (s : Shared) (Q : Flow → Shared → Prop) (E : Value → Shared → Prop) (a : Ad) (o : Ob) (am : Int) (len : Int) (c : Int) (A : Int) (t : Int) (tt : Tok) (tw : Tok) (own : List (Addr × Obj)) (R₀ : List (Addr × Obj)) (I : Addr) (nt1 : Addr) (nt2 : Addr) (oI : Obj) (nb : Bool) (bd : Int) (n : Nat) (z : Nat) (i : Nat) (kr : Nat) (rv : List Value) (m₁ : Str → Option Value) : Prop := ∀ (nw : List (Addr × Obj)) (B : Below A₀ base [] h₀) (KX : (Mine.hd1.heap_39 w.params).In h₀) (T : Top p loose mean mg mb h₀) (CD2 : CodeHd base 644 640) (J : InAt w a o am len c A t own R₀ nt1 nt2 bd n z i m₁ nw) (off : ∀ p ∈ nw, p.1 ≠ I) (F : Fr h₀ L s.heap (fun y => if y = Str.ofString "which" then some (.int (i : Int) tw) else m₁ y)) (N : News h₀ L s.heap ((I, oI) :: nw)) (hi : i < 3) (LW : Law am len c A t) (C : Cst a o L R₀ rv kr am len A) (NM1 : NamesAt R₀ a.S1 a.X1 a.V1 nt1 (nm1 nb)) (NM2 : NamesAt R₀ a.S2 a.X2 a.V2 nt2 (nm2 nb)) (hn : nowE a t tt ∈ own) (hbd : bd ≤ 1000) (hnn : n + 12 ≤ 1000) (hzz : z + 6000 ≤ 900000) (hd : dp ≤ 780) (hu : un ≤ 7800), wpAny (model PySem.Challenge.rw_ji0060_02.row.prog w) (ktrTop dp un gd (Str.ofString "law") lawScope L fa (.ref 727) (cellsFrom (L + 1) lawScope.names []) []) (execs innerBody (envX (Str.ofString "law") lawScope L fa (.ref 727) (cellsFrom (L + 1) lawScope.names [])))
      (TurnPost h₀ L (InAt w a o am len c A t own R₀ nt1 nt2 bd n z (i + 1)) I oI s Q) E s
namespace c_inner_spec
noncomputable def zcv : (World) × (Program) × (List Str) × (ExcName → Option Value) × (Str → Option Value) × (Str → Option Value) × (Nat) × (Nat) × (Option (List Code)) × (Addr) × (Around) × (Heap) × (Heap) × (Addr) × (Shared) × (Flow → Shared → Prop) × (Value → Shared → Prop) × (Ad) × (Ob) × (Int) × (Int) × (Int) × (Int) × (Int) × (Tok) × (Tok) × (List (Addr × Obj)) × (List (Addr × Obj)) × (Addr) × (Addr) × (Addr) × (Obj) × (Bool) × (Int) × (Nat) × (Nat) × (Nat) × (Nat) × (List Value) × (Str → Option Value) := pick (neP neW (neP inferInstance (neP inferInstance (neP inferInstance (neP inferInstance (neP inferInstance (neP inferInstance (neP inferInstance (neP inferInstance (neP inferInstance (neP neA (neP inferInstance (neP inferInstance (neP inferInstance (neP neS (neP inferInstance (neP inferInstance (neP (⟨⟨0, 0, 0, 0, 0, 0, 0, 0, 0, 0, 0⟩⟩ : Nonempty Ad) (neP (⟨⟨0, 0, 0, 0, 0, 0⟩⟩ : Nonempty Ob) (neP inferInstance (neP inferInstance (neP inferInstance (neP inferInstance (neP inferInstance (neP inferInstance (neP inferInstance (neP inferInstance (neP inferInstance (neP inferInstance (neP inferInstance (neP inferInstance (neP inferInstance (neP inferInstance (neP inferInstance (neP inferInstance (neP inferInstance (neP inferInstance (neP inferInstance (neP inferInstance inferInstance))))))))))))))))))))))))))))))))))))))) (fun v : (World) × (Program) × (List Str) × (ExcName → Option Value) × (Str → Option Value) × (Str → Option Value) × (Nat) × (Nat) × (Option (List Code)) × (Addr) × (Around) × (Heap) × (Heap) × (Addr) × (Shared) × (Flow → Shared → Prop) × (Value → Shared → Prop) × (Ad) × (Ob) × (Int) × (Int) × (Int) × (Int) × (Int) × (Tok) × (Tok) × (List (Addr × Obj)) × (List (Addr × Obj)) × (Addr) × (Addr) × (Addr) × (Obj) × (Bool) × (Int) × (Nat) × (Nat) × (Nat) × (Nat) × (List Value) × (Str → Option Value) => inner_spec_St (v.1) (v.2.1) (v.2.2.1) (v.2.2.2.1) (v.2.2.2.2.1) (v.2.2.2.2.2.1) (v.2.2.2.2.2.2.1) (v.2.2.2.2.2.2.2.1) (v.2.2.2.2.2.2.2.2.1) (v.2.2.2.2.2.2.2.2.2.1) (v.2.2.2.2.2.2.2.2.2.2.1) (v.2.2.2.2.2.2.2.2.2.2.2.1) (v.2.2.2.2.2.2.2.2.2.2.2.2.1) (v.2.2.2.2.2.2.2.2.2.2.2.2.2.1) (v.2.2.2.2.2.2.2.2.2.2.2.2.2.2.1) (v.2.2.2.2.2.2.2.2.2.2.2.2.2.2.2.1) (v.2.2.2.2.2.2.2.2.2.2.2.2.2.2.2.2.1) (v.2.2.2.2.2.2.2.2.2.2.2.2.2.2.2.2.2.1) (v.2.2.2.2.2.2.2.2.2.2.2.2.2.2.2.2.2.2.1) (v.2.2.2.2.2.2.2.2.2.2.2.2.2.2.2.2.2.2.2.1) (v.2.2.2.2.2.2.2.2.2.2.2.2.2.2.2.2.2.2.2.2.1) (v.2.2.2.2.2.2.2.2.2.2.2.2.2.2.2.2.2.2.2.2.2.1) (v.2.2.2.2.2.2.2.2.2.2.2.2.2.2.2.2.2.2.2.2.2.2.1) (v.2.2.2.2.2.2.2.2.2.2.2.2.2.2.2.2.2.2.2.2.2.2.2.1) (v.2.2.2.2.2.2.2.2.2.2.2.2.2.2.2.2.2.2.2.2.2.2.2.2.1) (v.2.2.2.2.2.2.2.2.2.2.2.2.2.2.2.2.2.2.2.2.2.2.2.2.2.1) (v.2.2.2.2.2.2.2.2.2.2.2.2.2.2.2.2.2.2.2.2.2.2.2.2.2.2.1) (v.2.2.2.2.2.2.2.2.2.2.2.2.2.2.2.2.2.2.2.2.2.2.2.2.2.2.2.1) (v.2.2.2.2.2.2.2.2.2.2.2.2.2.2.2.2.2.2.2.2.2.2.2.2.2.2.2.2.1) (v.2.2.2.2.2.2.2.2.2.2.2.2.2.2.2.2.2.2.2.2.2.2.2.2.2.2.2.2.2.1) (v.2.2.2.2.2.2.2.2.2.2.2.2.2.2.2.2.2.2.2.2.2.2.2.2.2.2.2.2.2.2.1) (v.2.2.2.2.2.2.2.2.2.2.2.2.2.2.2.2.2.2.2.2.2.2.2.2.2.2.2.2.2.2.2.1) (v.2.2.2.2.2.2.2.2.2.2.2.2.2.2.2.2.2.2.2.2.2.2.2.2.2.2.2.2.2.2.2.2.1) (v.2.2.2.2.2.2.2.2.2.2.2.2.2.2.2.2.2.2.2.2.2.2.2.2.2.2.2.2.2.2.2.2.2.1) (v.2.2.2.2.2.2.2.2.2.2.2.2.2.2.2.2.2.2.2.2.2.2.2.2.2.2.2.2.2.2.2.2.2.2.1) (v.2.2.2.2.2.2.2.2.2.2.2.2.2.2.2.2.2.2.2.2.2.2.2.2.2.2.2.2.2.2.2.2.2.2.2.1) (v.2.2.2.2.2.2.2.2.2.2.2.2.2.2.2.2.2.2.2.2.2.2.2.2.2.2.2.2.2.2.2.2.2.2.2.2.1) (v.2.2.2.2.2.2.2.2.2.2.2.2.2.2.2.2.2.2.2.2.2.2.2.2.2.2.2.2.2.2.2.2.2.2.2.2.2.1) (v.2.2.2.2.2.2.2.2.2.2.2.2.2.2.2.2.2.2.2.2.2.2.2.2.2.2.2.2.2.2.2.2.2.2.2.2.2.2.1) (v.2.2.2.2.2.2.2.2.2.2.2.2.2.2.2.2.2.2.2.2.2.2.2.2.2.2.2.2.2.2.2.2.2.2.2.2.2.2.2)) 0
theorem zal (h : inner_spec_St (zcv.1) (zcv.2.1) (zcv.2.2.1) (zcv.2.2.2.1) (zcv.2.2.2.2.1) (zcv.2.2.2.2.2.1) (zcv.2.2.2.2.2.2.1) (zcv.2.2.2.2.2.2.2.1) (zcv.2.2.2.2.2.2.2.2.1) (zcv.2.2.2.2.2.2.2.2.2.1) (zcv.2.2.2.2.2.2.2.2.2.2.1) (zcv.2.2.2.2.2.2.2.2.2.2.2.1) (zcv.2.2.2.2.2.2.2.2.2.2.2.2.1) (zcv.2.2.2.2.2.2.2.2.2.2.2.2.2.1) (zcv.2.2.2.2.2.2.2.2.2.2.2.2.2.2.1) (zcv.2.2.2.2.2.2.2.2.2.2.2.2.2.2.2.1) (zcv.2.2.2.2.2.2.2.2.2.2.2.2.2.2.2.2.1) (zcv.2.2.2.2.2.2.2.2.2.2.2.2.2.2.2.2.2.1) (zcv.2.2.2.2.2.2.2.2.2.2.2.2.2.2.2.2.2.2.1) (zcv.2.2.2.2.2.2.2.2.2.2.2.2.2.2.2.2.2.2.2.1) (zcv.2.2.2.2.2.2.2.2.2.2.2.2.2.2.2.2.2.2.2.2.1) (zcv.2.2.2.2.2.2.2.2.2.2.2.2.2.2.2.2.2.2.2.2.2.1) (zcv.2.2.2.2.2.2.2.2.2.2.2.2.2.2.2.2.2.2.2.2.2.2.1) (zcv.2.2.2.2.2.2.2.2.2.2.2.2.2.2.2.2.2.2.2.2.2.2.2.1) (zcv.2.2.2.2.2.2.2.2.2.2.2.2.2.2.2.2.2.2.2.2.2.2.2.2.1) (zcv.2.2.2.2.2.2.2.2.2.2.2.2.2.2.2.2.2.2.2.2.2.2.2.2.2.1) (zcv.2.2.2.2.2.2.2.2.2.2.2.2.2.2.2.2.2.2.2.2.2.2.2.2.2.2.1) (zcv.2.2.2.2.2.2.2.2.2.2.2.2.2.2.2.2.2.2.2.2.2.2.2.2.2.2.2.1) (zcv.2.2.2.2.2.2.2.2.2.2.2.2.2.2.2.2.2.2.2.2.2.2.2.2.2.2.2.2.1) (zcv.2.2.2.2.2.2.2.2.2.2.2.2.2.2.2.2.2.2.2.2.2.2.2.2.2.2.2.2.2.1) (zcv.2.2.2.2.2.2.2.2.2.2.2.2.2.2.2.2.2.2.2.2.2.2.2.2.2.2.2.2.2.2.1) (zcv.2.2.2.2.2.2.2.2.2.2.2.2.2.2.2.2.2.2.2.2.2.2.2.2.2.2.2.2.2.2.2.1) (zcv.2.2.2.2.2.2.2.2.2.2.2.2.2.2.2.2.2.2.2.2.2.2.2.2.2.2.2.2.2.2.2.2.1) (zcv.2.2.2.2.2.2.2.2.2.2.2.2.2.2.2.2.2.2.2.2.2.2.2.2.2.2.2.2.2.2.2.2.2.1) (zcv.2.2.2.2.2.2.2.2.2.2.2.2.2.2.2.2.2.2.2.2.2.2.2.2.2.2.2.2.2.2.2.2.2.2.1) (zcv.2.2.2.2.2.2.2.2.2.2.2.2.2.2.2.2.2.2.2.2.2.2.2.2.2.2.2.2.2.2.2.2.2.2.2.1) (zcv.2.2.2.2.2.2.2.2.2.2.2.2.2.2.2.2.2.2.2.2.2.2.2.2.2.2.2.2.2.2.2.2.2.2.2.2.1) (zcv.2.2.2.2.2.2.2.2.2.2.2.2.2.2.2.2.2.2.2.2.2.2.2.2.2.2.2.2.2.2.2.2.2.2.2.2.2.1) (zcv.2.2.2.2.2.2.2.2.2.2.2.2.2.2.2.2.2.2.2.2.2.2.2.2.2.2.2.2.2.2.2.2.2.2.2.2.2.2.1) (zcv.2.2.2.2.2.2.2.2.2.2.2.2.2.2.2.2.2.2.2.2.2.2.2.2.2.2.2.2.2.2.2.2.2.2.2.2.2.2.2)) : ∀ u : (World) × (Program) × (List Str) × (ExcName → Option Value) × (Str → Option Value) × (Str → Option Value) × (Nat) × (Nat) × (Option (List Code)) × (Addr) × (Around) × (Heap) × (Heap) × (Addr) × (Shared) × (Flow → Shared → Prop) × (Value → Shared → Prop) × (Ad) × (Ob) × (Int) × (Int) × (Int) × (Int) × (Int) × (Tok) × (Tok) × (List (Addr × Obj)) × (List (Addr × Obj)) × (Addr) × (Addr) × (Addr) × (Obj) × (Bool) × (Int) × (Nat) × (Nat) × (Nat) × (Nat) × (List Value) × (Str → Option Value), inner_spec_St (u.1) (u.2.1) (u.2.2.1) (u.2.2.2.1) (u.2.2.2.2.1) (u.2.2.2.2.2.1) (u.2.2.2.2.2.2.1) (u.2.2.2.2.2.2.2.1) (u.2.2.2.2.2.2.2.2.1) (u.2.2.2.2.2.2.2.2.2.1) (u.2.2.2.2.2.2.2.2.2.2.1) (u.2.2.2.2.2.2.2.2.2.2.2.1) (u.2.2.2.2.2.2.2.2.2.2.2.2.1) (u.2.2.2.2.2.2.2.2.2.2.2.2.2.1) (u.2.2.2.2.2.2.2.2.2.2.2.2.2.2.1) (u.2.2.2.2.2.2.2.2.2.2.2.2.2.2.2.1) (u.2.2.2.2.2.2.2.2.2.2.2.2.2.2.2.2.1) (u.2.2.2.2.2.2.2.2.2.2.2.2.2.2.2.2.2.1) (u.2.2.2.2.2.2.2.2.2.2.2.2.2.2.2.2.2.2.1) (u.2.2.2.2.2.2.2.2.2.2.2.2.2.2.2.2.2.2.2.1) (u.2.2.2.2.2.2.2.2.2.2.2.2.2.2.2.2.2.2.2.2.1) (u.2.2.2.2.2.2.2.2.2.2.2.2.2.2.2.2.2.2.2.2.2.1) (u.2.2.2.2.2.2.2.2.2.2.2.2.2.2.2.2.2.2.2.2.2.2.1) (u.2.2.2.2.2.2.2.2.2.2.2.2.2.2.2.2.2.2.2.2.2.2.2.1) (u.2.2.2.2.2.2.2.2.2.2.2.2.2.2.2.2.2.2.2.2.2.2.2.2.1) (u.2.2.2.2.2.2.2.2.2.2.2.2.2.2.2.2.2.2.2.2.2.2.2.2.2.1) (u.2.2.2.2.2.2.2.2.2.2.2.2.2.2.2.2.2.2.2.2.2.2.2.2.2.2.1) (u.2.2.2.2.2.2.2.2.2.2.2.2.2.2.2.2.2.2.2.2.2.2.2.2.2.2.2.1) (u.2.2.2.2.2.2.2.2.2.2.2.2.2.2.2.2.2.2.2.2.2.2.2.2.2.2.2.2.1) (u.2.2.2.2.2.2.2.2.2.2.2.2.2.2.2.2.2.2.2.2.2.2.2.2.2.2.2.2.2.1) (u.2.2.2.2.2.2.2.2.2.2.2.2.2.2.2.2.2.2.2.2.2.2.2.2.2.2.2.2.2.2.1) (u.2.2.2.2.2.2.2.2.2.2.2.2.2.2.2.2.2.2.2.2.2.2.2.2.2.2.2.2.2.2.2.1) (u.2.2.2.2.2.2.2.2.2.2.2.2.2.2.2.2.2.2.2.2.2.2.2.2.2.2.2.2.2.2.2.2.1) (u.2.2.2.2.2.2.2.2.2.2.2.2.2.2.2.2.2.2.2.2.2.2.2.2.2.2.2.2.2.2.2.2.2.1) (u.2.2.2.2.2.2.2.2.2.2.2.2.2.2.2.2.2.2.2.2.2.2.2.2.2.2.2.2.2.2.2.2.2.2.1) (u.2.2.2.2.2.2.2.2.2.2.2.2.2.2.2.2.2.2.2.2.2.2.2.2.2.2.2.2.2.2.2.2.2.2.2.1) (u.2.2.2.2.2.2.2.2.2.2.2.2.2.2.2.2.2.2.2.2.2.2.2.2.2.2.2.2.2.2.2.2.2.2.2.2.1) (u.2.2.2.2.2.2.2.2.2.2.2.2.2.2.2.2.2.2.2.2.2.2.2.2.2.2.2.2.2.2.2.2.2.2.2.2.2.1) (u.2.2.2.2.2.2.2.2.2.2.2.2.2.2.2.2.2.2.2.2.2.2.2.2.2.2.2.2.2.2.2.2.2.2.2.2.2.2.1) (u.2.2.2.2.2.2.2.2.2.2.2.2.2.2.2.2.2.2.2.2.2.2.2.2.2.2.2.2.2.2.2.2.2.2.2.2.2.2.2) := pick_all (P := fun v : (World) × (Program) × (List Str) × (ExcName → Option Value) × (Str → Option Value) × (Str → Option Value) × (Nat) × (Nat) × (Option (List Code)) × (Addr) × (Around) × (Heap) × (Heap) × (Addr) × (Shared) × (Flow → Shared → Prop) × (Value → Shared → Prop) × (Ad) × (Ob) × (Int) × (Int) × (Int) × (Int) × (Int) × (Tok) × (Tok) × (List (Addr × Obj)) × (List (Addr × Obj)) × (Addr) × (Addr) × (Addr) × (Obj) × (Bool) × (Int) × (Nat) × (Nat) × (Nat) × (Nat) × (List Value) × (Str → Option Value) => inner_spec_St (v.1) (v.2.1) (v.2.2.1) (v.2.2.2.1) (v.2.2.2.2.1) (v.2.2.2.2.2.1) (v.2.2.2.2.2.2.1) (v.2.2.2.2.2.2.2.1) (v.2.2.2.2.2.2.2.2.1) (v.2.2.2.2.2.2.2.2.2.1) (v.2.2.2.2.2.2.2.2.2.2.1) (v.2.2.2.2.2.2.2.2.2.2.2.1) (v.2.2.2.2.2.2.2.2.2.2.2.2.1) (v.2.2.2.2.2.2.2.2.2.2.2.2.2.1) (v.2.2.2.2.2.2.2.2.2.2.2.2.2.2.1) (v.2.2.2.2.2.2.2.2.2.2.2.2.2.2.2.1) (v.2.2.2.2.2.2.2.2.2.2.2.2.2.2.2.2.1) (v.2.2.2.2.2.2.2.2.2.2.2.2.2.2.2.2.2.1) (v.2.2.2.2.2.2.2.2.2.2.2.2.2.2.2.2.2.2.1) (v.2.2.2.2.2.2.2.2.2.2.2.2.2.2.2.2.2.2.2.1) (v.2.2.2.2.2.2.2.2.2.2.2.2.2.2.2.2.2.2.2.2.1) (v.2.2.2.2.2.2.2.2.2.2.2.2.2.2.2.2.2.2.2.2.2.1) (v.2.2.2.2.2.2.2.2.2.2.2.2.2.2.2.2.2.2.2.2.2.2.1) (v.2.2.2.2.2.2.2.2.2.2.2.2.2.2.2.2.2.2.2.2.2.2.2.1) (v.2.2.2.2.2.2.2.2.2.2.2.2.2.2.2.2.2.2.2.2.2.2.2.2.1) (v.2.2.2.2.2.2.2.2.2.2.2.2.2.2.2.2.2.2.2.2.2.2.2.2.2.1) (v.2.2.2.2.2.2.2.2.2.2.2.2.2.2.2.2.2.2.2.2.2.2.2.2.2.2.1) (v.2.2.2.2.2.2.2.2.2.2.2.2.2.2.2.2.2.2.2.2.2.2.2.2.2.2.2.1) (v.2.2.2.2.2.2.2.2.2.2.2.2.2.2.2.2.2.2.2.2.2.2.2.2.2.2.2.2.1) (v.2.2.2.2.2.2.2.2.2.2.2.2.2.2.2.2.2.2.2.2.2.2.2.2.2.2.2.2.2.1) (v.2.2.2.2.2.2.2.2.2.2.2.2.2.2.2.2.2.2.2.2.2.2.2.2.2.2.2.2.2.2.1) (v.2.2.2.2.2.2.2.2.2.2.2.2.2.2.2.2.2.2.2.2.2.2.2.2.2.2.2.2.2.2.2.1) (v.2.2.2.2.2.2.2.2.2.2.2.2.2.2.2.2.2.2.2.2.2.2.2.2.2.2.2.2.2.2.2.2.1) (v.2.2.2.2.2.2.2.2.2.2.2.2.2.2.2.2.2.2.2.2.2.2.2.2.2.2.2.2.2.2.2.2.2.1) (v.2.2.2.2.2.2.2.2.2.2.2.2.2.2.2.2.2.2.2.2.2.2.2.2.2.2.2.2.2.2.2.2.2.2.1) (v.2.2.2.2.2.2.2.2.2.2.2.2.2.2.2.2.2.2.2.2.2.2.2.2.2.2.2.2.2.2.2.2.2.2.2.1) (v.2.2.2.2.2.2.2.2.2.2.2.2.2.2.2.2.2.2.2.2.2.2.2.2.2.2.2.2.2.2.2.2.2.2.2.2.1) (v.2.2.2.2.2.2.2.2.2.2.2.2.2.2.2.2.2.2.2.2.2.2.2.2.2.2.2.2.2.2.2.2.2.2.2.2.2.1) (v.2.2.2.2.2.2.2.2.2.2.2.2.2.2.2.2.2.2.2.2.2.2.2.2.2.2.2.2.2.2.2.2.2.2.2.2.2.2.1) (v.2.2.2.2.2.2.2.2.2.2.2.2.2.2.2.2.2.2.2.2.2.2.2.2.2.2.2.2.2.2.2.2.2.2.2.2.2.2.2)) h
noncomputable def w : World := zcv.1
noncomputable def p : Program := zcv.2.1
noncomputable def loose : List Str := zcv.2.2.1
noncomputable def mean : ExcName → Option Value := zcv.2.2.2.1
noncomputable def mg : Str → Option Value := zcv.2.2.2.2.1
noncomputable def mb : Str → Option Value := zcv.2.2.2.2.2.1
noncomputable def dp : Nat := zcv.2.2.2.2.2.2.1
noncomputable def un : Nat := zcv.2.2.2.2.2.2.2.1
noncomputable def gd : Option (List Code) := zcv.2.2.2.2.2.2.2.2.1
noncomputable def fa : Addr := zcv.2.2.2.2.2.2.2.2.2.1
noncomputable def A₀ : Around := zcv.2.2.2.2.2.2.2.2.2.2.1
noncomputable def base : Heap := zcv.2.2.2.2.2.2.2.2.2.2.2.1
noncomputable def h₀ : Heap := zcv.2.2.2.2.2.2.2.2.2.2.2.2.1
noncomputable def L : Addr := zcv.2.2.2.2.2.2.2.2.2.2.2.2.2.1
noncomputable def s : Shared := zcv.2.2.2.2.2.2.2.2.2.2.2.2.2.2.1
noncomputable def Q : Flow → Shared → Prop := zcv.2.2.2.2.2.2.2.2.2.2.2.2.2.2.2.1
noncomputable def E : Value → Shared → Prop := zcv.2.2.2.2.2.2.2.2.2.2.2.2.2.2.2.2.1
noncomputable def a : Ad := zcv.2.2.2.2.2.2.2.2.2.2.2.2.2.2.2.2.2.1
noncomputable def o : Ob := zcv.2.2.2.2.2.2.2.2.2.2.2.2.2.2.2.2.2.2.1
noncomputable def am : Int := zcv.2.2.2.2.2.2.2.2.2.2.2.2.2.2.2.2.2.2.2.1
noncomputable def len : Int := zcv.2.2.2.2.2.2.2.2.2.2.2.2.2.2.2.2.2.2.2.2.1
noncomputable def c : Int := zcv.2.2.2.2.2.2.2.2.2.2.2.2.2.2.2.2.2.2.2.2.2.1
noncomputable def A : Int := zcv.2.2.2.2.2.2.2.2.2.2.2.2.2.2.2.2.2.2.2.2.2.2.1
noncomputable def t : Int := zcv.2.2.2.2.2.2.2.2.2.2.2.2.2.2.2.2.2.2.2.2.2.2.2.1
noncomputable def tt : Tok := zcv.2.2.2.2.2.2.2.2.2.2.2.2.2.2.2.2.2.2.2.2.2.2.2.2.1
noncomputable def tw : Tok := zcv.2.2.2.2.2.2.2.2.2.2.2.2.2.2.2.2.2.2.2.2.2.2.2.2.2.1
noncomputable def own : List (Addr × Obj) := zcv.2.2.2.2.2.2.2.2.2.2.2.2.2.2.2.2.2.2.2.2.2.2.2.2.2.2.1
noncomputable def R₀ : List (Addr × Obj) := zcv.2.2.2.2.2.2.2.2.2.2.2.2.2.2.2.2.2.2.2.2.2.2.2.2.2.2.2.1
noncomputable def I : Addr := zcv.2.2.2.2.2.2.2.2.2.2.2.2.2.2.2.2.2.2.2.2.2.2.2.2.2.2.2.2.1
noncomputable def nt1 : Addr := zcv.2.2.2.2.2.2.2.2.2.2.2.2.2.2.2.2.2.2.2.2.2.2.2.2.2.2.2.2.2.1
noncomputable def nt2 : Addr := zcv.2.2.2.2.2.2.2.2.2.2.2.2.2.2.2.2.2.2.2.2.2.2.2.2.2.2.2.2.2.2.1
noncomputable def oI : Obj := zcv.2.2.2.2.2.2.2.2.2.2.2.2.2.2.2.2.2.2.2.2.2.2.2.2.2.2.2.2.2.2.2.1
noncomputable def nb : Bool := zcv.2.2.2.2.2.2.2.2.2.2.2.2.2.2.2.2.2.2.2.2.2.2.2.2.2.2.2.2.2.2.2.2.1
noncomputable def bd : Int := zcv.2.2.2.2.2.2.2.2.2.2.2.2.2.2.2.2.2.2.2.2.2.2.2.2.2.2.2.2.2.2.2.2.2.1
noncomputable def n : Nat := zcv.2.2.2.2.2.2.2.2.2.2.2.2.2.2.2.2.2.2.2.2.2.2.2.2.2.2.2.2.2.2.2.2.2.2.1
noncomputable def z : Nat := zcv.2.2.2.2.2.2.2.2.2.2.2.2.2.2.2.2.2.2.2.2.2.2.2.2.2.2.2.2.2.2.2.2.2.2.2.1
noncomputable def i : Nat := zcv.2.2.2.2.2.2.2.2.2.2.2.2.2.2.2.2.2.2.2.2.2.2.2.2.2.2.2.2.2.2.2.2.2.2.2.2.1
noncomputable def kr : Nat := zcv.2.2.2.2.2.2.2.2.2.2.2.2.2.2.2.2.2.2.2.2.2.2.2.2.2.2.2.2.2.2.2.2.2.2.2.2.2.1
noncomputable def rv : List Value := zcv.2.2.2.2.2.2.2.2.2.2.2.2.2.2.2.2.2.2.2.2.2.2.2.2.2.2.2.2.2.2.2.2.2.2.2.2.2.2.1
noncomputable def m₁ : Str → Option Value := zcv.2.2.2.2.2.2.2.2.2.2.2.2.2.2.2.2.2.2.2.2.2.2.2.2.2.2.2.2.2.2.2.2.2.2.2.2.2.2.2
theorem walk1 : inner_spec_St w p loose mean mg mb dp un gd fa A₀ base h₀ L s Q E a o am len c A t tt tw own R₀ I nt1 nt2 oI nb bd n z i kr rv m₁ := by
  intro nw B KX T CD2 J off F N hi LW C NM1 NM2 hn hbd hnn hzz hd hu
  have mkp : Mk 173 := trivial
  obtain ⟨rest, R, W1, W2, rfl, Z, up, P, PN, p10, p11⟩ := J
  have e1 : innerBody = innerBody := rfl
  conv at e1 => rhs; whnf
  have e2 : lawScope = lawScope := rfl
  conv at e2 => rhs; whnf
  rw [e1, e2]
  clear e1 e2
  obtain ⟨p1, ⟨ta, p2⟩, ⟨tl, p3⟩, p4, p5, p6, p7, p8, p9⟩ := PN
  have em := pin2 (pin2 (pin2 (pin2 (pin2 (pin2 (pin2 (pin2 (pin2 (pin2 (pin2 (Eq.refl m₁) p1) p2) p3) p4) p5) p6) p7) p8) p9) p10) p11
  rw [em] at F
  clear em p1 p2 p3 p4 p5 p6 p7 p8 p9 p10 p11
  have Z' : Two w a A (((I, oI) :: own).map (·.1)) rest R W1 W2 (n + 4 * i) (z + 2000 * i) := Z.more fun q hq => off q (List.mem_append_right _ hq)
  have hk3 : 0 ≤ (i : Int) ∧ (i : Int) < 3 := ⟨Int.natCast_nonneg i, Int.ofNat_lt.mpr hi⟩
  have C1 := C.up up
  obtain ⟨G0, hG0⟩ : ∃ G, G = own ++ rest := ⟨_, rfl⟩
  rw [← hG0] at N
  obtain ⟨PP, hPP⟩ : ∃ PP, PP = TurnPost h₀ L (InAt w a o am len c A t own R₀ nt1 nt2 bd n z (i + 1)) I oI s Q := ⟨_, rfl⟩
  rw [← hPP]
  refine lower ?_ hd hu
  revert KX; k_fill; intro KX
  k_steps
  refine heldI ?_
  subst hG0
  refine lstat_spec B (by k_asm) KX T rfl CD2 N (Z'.w1 (.tail _ hn)) (C1.l1.up fun q hq => .tail _ hq) (C1.i1.sub fun q hq _ => .tail _ hq) (NM1.sub fun q hq _ => .tail _ (up q hq)) (LW.num1 P.b1 hbd (by decide) (by omega) (by omega)) hk3 (by show len = 1 * len; omega) (rfl : base1 am len nb = _) (by decide) (by decide) ?_
  intro y q num den left r r1 r2 W1' news' R' h' tk' SR F' N' my mq P'
  obtain ⟨rest', N2, Z2, up2⟩ := Z'.p1 (.tail _ hn) P' N' (by omega) (by omega)
  obtain ⟨ocA, tA, cA1, cA2⟩ := C1.cA
  have g1 : ∀ q ∈ R', q ∈ own ++ rest' := fun q hq => List.mem_append_right _ (Z2.sub q hq)
  have my2 := g1 _ my
  have mq2 := g1 _ mq
  obtain ⟨G1, hG1⟩ : ∃ G, G = own ++ rest' := ⟨_, rfl⟩
  replace N2 : News h₀ L h' ((I, oI) :: G1) := by rw [hG1]; exact N2
  rw [← hG1] at my2 mq2 g1
  clear N' N F P' my
  k_steps
  refine heldI ?_
  rename News h₀ L _ ((I, oI) :: _) => NN
  subst hG1
  have up3 : ∀ q ∈ R₀, q ∈ R' := fun q hq => up2 q (up q hq)
  have C2 := C.up up3
  refine lstat_spec B (by k_asm) KX T rfl CD2 NN (Z2.w2 (.tail _ hn)) (C2.l2.up fun q hq => .tail _ hq) (C2.i2.sub fun q hq _ => .tail _ hq) (NM2.sub fun q hq _ => .tail _ (up3 q hq)) (LW.num2 P.b2 hbd (by decide) (by omega) (by omega)) hk3 (by show 60 * len = 60 * len; rfl) (rfl : base2 am len nb = _) (by decide) (by decide) ?_
  intro y2 q2 num2 den2 left2 u u1 u2 W2' news'' R'' h'' tk'' SR2 F'' N'' my3 mq3 P''
  obtain ⟨rest'', N3, Z3, up4⟩ := Z2.p2 (.tail _ hn) P'' N'' (by omega) (by omega)
  obtain ⟨rfl, hcmp, rel'⟩ := stat_sim LW.sc (law_kp LW.sc nb) P.rel SR SR2
  have hd1 := stat_den SR P.b1 hbd
  have hd2 := stat_den SR2 P.b2 hbd
  have g3 : ∀ q ∈ R'', q ∈ own ++ rest'' := fun q hq => List.mem_append_right _ (Z3.sub q hq)
  have mq4 := g3 _ (up4 _ mq)
  have my4 := g3 _ my3
  have mq5 := g3 _ mq3
  have cA3 := g3 _ (up4 _ (up2 _ cA1))
  obtain ⟨G2, hG2⟩ : ∃ G, G = own ++ rest'' := ⟨_, rfl⟩
  replace N3 : News h₀ L h'' ((I, oI) :: G2) := by rw [hG2]; exact N3
  rw [← hG2] at mq4 my4 mq5 cA3
  clear N'' NN P'' my2 mq2 g1 my3 mq3 cA1 mq
  k_steps
  refine heldI ?_
  refine wpAny_execs_nil ?_
  dsimp only
  k_steps
  refine heldI ?_
  refine wpAny_execs_nil ?_
  rename News h₀ L _ ((I, oI) :: _) => NN
  subst hG2
  rw [hPP]
  refine ⟨_, _, _, _, rfl, by assumption, NN, fun p hp => ?_, rest'', R'', W1', W2', rfl, Z3.less.grow (by omega) (by omega), fun q hq => up4 q (up3 q hq), ⟨rel', stat_bd SR P.b1, stat_bd SR2 P.b2⟩, ⟨rfl, ⟨_, rfl⟩, ⟨_, rfl⟩, rfl, rfl, rfl, rfl, rfl, rfl⟩, rfl, rfl⟩
  rcases List.mem_append.mp hp with h | h
  · exact off p (List.mem_append_left _ h)
  · exact fun e => Z3.on p h (e ▸ List.Mem.head _)
end c_inner_spec
theorem inner_spec {w : World} {p : Program} {loose : List Str} {mean : ExcName → Option Value} {mg : Str → Option Value} {mb : Str → Option Value} {dp : Nat} {un : Nat} {gd : Option (List Code)} {fa : Addr} {A₀ : Around} {base : Heap} {h₀ : Heap} {L : Addr}  {s : Shared} {Q : Flow → Shared → Prop} {E : Value → Shared → Prop} (B : Below A₀ base [] h₀) (KX : (Mine.hd1.heap_39 w.params).In h₀) (T : Top p loose mean mg mb h₀) (CD2 : CodeHd base 644 640) {a : Ad} {o : Ob} {am : Int} {len : Int} {c : Int} {A : Int} {t : Int} {tt : Tok} {tw : Tok} {own : List (Addr × Obj)} {R₀ : List (Addr × Obj)} {nw : List (Addr × Obj)} {I : Addr} {nt1 : Addr} {nt2 : Addr} {oI : Obj} {nb : Bool} {bd : Int} {n : Nat} {z : Nat} {i : Nat} {kr : Nat} {rv : List Value} {m₁ : Str → Option Value} (J : InAt w a o am len c A t own R₀ nt1 nt2 bd n z i m₁ nw) (off : ∀ p ∈ nw, p.1 ≠ I) (F : Fr h₀ L s.heap (fun y => if y = Str.ofString "which" then some (.int (i : Int) tw) else m₁ y)) (N : News h₀ L s.heap ((I, oI) :: nw)) (hi : i < 3) (LW : Law am len c A t) (C : Cst a o L R₀ rv kr am len A) (NM1 : NamesAt R₀ a.S1 a.X1 a.V1 nt1 (nm1 nb)) (NM2 : NamesAt R₀ a.S2 a.X2 a.V2 nt2 (nm2 nb)) (hn : nowE a t tt ∈ own) (hbd : bd ≤ 1000) (hnn : n + 12 ≤ 1000) (hzz : z + 6000 ≤ 900000) (hd : dp ≤ 780) (hu : un ≤ 7800) :
    wpAny (model PySem.Challenge.rw_ji0060_02.row.prog w) (ktrTop dp un gd (Str.ofString "law") lawScope L fa (.ref 727) (cellsFrom (L + 1) lawScope.names []) []) (execs innerBody (envX (Str.ofString "law") lawScope L fa (.ref 727) (cellsFrom (L + 1) lawScope.names [])))
      (TurnPost h₀ L (InAt w a o am len c A t own R₀ nt1 nt2 bd n z (i + 1)) I oI s Q) E s :=
  c_inner_spec.zal c_inner_spec.walk1 (w, p, loose, mean, mg, mb, dp, un, gd, fa, A₀, base, h₀, L, s, Q, E, a, o, am, len, c, A, t, tt, tw, own, R₀, I, nt1, nt2, oI, nb, bd, n, z, i, kr, rv, m₁) _ B KX T CD2 J off F N hi LW C NM1 NM2 hn hbd hnn hzz hd hu
section
variable {w : World} {p : Program} {loose : List Str} {mean : ExcName → Option Value} {mg mb : Str → Option Value} {dp un : Nat} {gd : Option (List Code)} {fa : Addr} {A₀ : Around} {base h₀ : Heap} {L : Addr} {m : Str → Option Value} {s : Shared} {Q : Flow → Shared → Prop} {E : Value → Shared → Prop}
  (B : Below A₀ base [] h₀) (KX : (Mine.hd1.heap_39 w.params).In h₀) (T : Top p loose mean mg mb h₀) (CD2 : CodeHd base 644 640)
include B KX T CD2
end

end
section
-- only 2
theorem said_p_lawturn : True := by
  k_with "compareOp NotEq" => (k_here; (fail_if_success (fail_if_success (have := (by with_reducible assumption : Mk 174)))); k_dflt (refine' ne_val ?zye ?_; (case zye => assumption); k_whole))
  k_with "exec For Name Call cons nil" => (k_here; (fail_if_success (fail_if_success (have := (by with_reducible assumption : Mk 174)))); with_reducible refine holdW ?_)
  k_with "execs nil" => (k_here; (fail_if_success (fail_if_success (have := (by with_reducible assumption : Mk 174)))); (with_reducible show wpAny _ _ (execs _ (envX (Str.ofString "law") _ _ _ _ _)) _ _ _); with_reducible refine holdW ?_)
  k_with "subscriptTail Name Constant ref int" => (k_here; (fail_if_success (fail_if_success (have := (by with_reducible assumption : Mk 174)))); (with_reducible show wpAny _ _ (subscriptTail _ _ (Value.ref _) (Value.int 0 _)) _ _ _); k_dflt (refine' one_item ?zyN ?zyhl ?_; (case zyN => k_asm); (case zyhl => k_mem); k_whole))
  k_with "setItem ref int" => (k_here; (fail_if_success (fail_if_success (have := (by with_reducible assumption : Mk 174)))); k_dflt (refine' one_set ?zyF ?zyN ?zyU ?_; (case zyF => k_asm); (case zyN => k_asm); (case zyU => k_updF); k_whole); (intro h' F' N'; (try dsimp only at N'); (try dsimp only); (try k_sweep)))
  k_with "subscriptTail List cons Name ref int" => (k_here; (fail_if_success (fail_if_success (have := (by with_reducible assumption : Mk 174)))); k_dflt (refine' pick_ref ?zyN ?zyhl ?zyhk ?_; (case zyN => k_asm); (case zyhl => k_mem); (case zyhk => assumption); k_whole); (intro y' hy'))
  k_with "call ref" => (k_here; (fail_if_success (fail_if_success (have := (by with_reducible assumption : Mk 174)))); (with_reducible show wpAny _ _ (call (Value.ref (hitFn _)) _ _) _ _ _); with_reducible refine holdW ?_)
  k_with "call ref" => (k_here; (fail_if_success (fail_if_success (have := (by with_reducible assumption : Mk 174)))); (with_reducible show wpAny _ _ (call (Value.ref (clrFn _)) _) _ _ _); with_reducible refine holdW ?_)
  k_with "pyIter ref" => (k_here; (fail_if_success (fail_if_success (have := (by with_reducible assumption : Mk 174)))); with_reducible refine holdW ?_)
  k_with "m q" => (first | exact Nat.le_add_right _ _ | exact Nat.le_trans (by with_reducible assumption) (by decide) | exact Nat.le_trans (Nat.add_le_add_right (by with_reducible assumption) _) (by decide) | exact Nat.le_trans (Nat.add_le_add_right (Nat.add_le_add_right (by with_reducible assumption) _) _) (by decide) | exact Nat.le_trans (Nat.add_le_add_right (Nat.add_le_add_right (Nat.add_le_add_right (by with_reducible assumption) _) _) _) (by decide) | exact Nat.le_trans (Nat.add_le_add_right (Nat.add_le_add_right (Nat.add_le_add_right (Nat.add_le_add_right (by with_reducible assumption) _) _) _) _) (by decide) | exact Int.le_trans (by with_reducible assumption) (by decide) | exact Int.le_trans (Int.add_le_add_right (by with_reducible assumption) _) (by decide) | exact Int.le_trans (Int.add_le_add (by with_reducible assumption) (And.right (by with_reducible assumption))) (by decide) | exact Int.le_trans (Int.add_le_add (Int.add_le_add_right (by with_reducible assumption) _) (And.right (by with_reducible assumption))) (by decide) | omega)
  trivial
/-- between the turns of the law's loop -/
noncomputable def LawAt (w : World) (a : Ad) (o : Ob) (L : Addr) (am len c A : Int) (rv : List Value) (kr : Nat) (i : Nat) (m : Str → Option Value) (nw : List (Addr × Obj)) : Prop :=
  ∃ j tj nh t tt rest R W1 W2, nw = (o.hand, listOf #[.ref o.scr, .int ((j : Nat) : Int) tj] nh) :: nowE a t tt :: rest ∧ Two w a A [o.hand, a.nowl] rest R W1 W2 (20 * i) (10000 * i) ∧ Cst a o L R rv kr am len A ∧ Pair am len c A W1 W2 (20 * i) ∧ Pin2 m a o am len ∧
    Law am len c A t ∧ t ≤ 14 + 14 * i ∧ j ≤ 4 + 5 * i
theorem ne_val {prog : Program} {w : World} {A : Around} {E : Value → Shared → Prop} {s : Shared} {v : Value} {Q : Value → Shared → Prop} (hv : (∃ b, v = .bool b) ∨ v = .none) (h : Q (.bool false) s) : wpAny (model prog w) A (compareOp .NotEq v v) Q E s := by
  rcases hv with ⟨b, rfl⟩ | rfl
  · refine ne_bool ?_
    rw [bne_self_eq_false]
    exact h
  · exact EqNone.ne_none_none h
theorem LimK.up {R R' : List (Addr × Obj)} {S X V lim st : Addr} {k : Int} (h : LimK R S X V lim st k) (hs : ∀ q ∈ R, q ∈ R') : LimK R' S X V lim st k := by
  rcases h with ⟨e, l⟩ | ⟨e, l⟩ | ⟨e, l⟩
  · exact .fix e (l.sub fun q hq _ => hs q hq)
  · exact .mov e (l.sub fun q hq _ => hs q hq)
  · exact .sld e (l.sub fun q hq _ => hs q hq)
theorem five_get {len v : Int} (hl : 1 ≤ len ∧ len ≤ 7) (hv : 0 ≤ v ∧ v < 5) : 0 ≤ ([0, 1, len, len - 1, 2 * len] : List Int).getD v.toNat 0 ∧ ([0, 1, len, len - 1, 2 * len] : List Int).getD v.toNat 0 ≤ 14 := by
  have h5 : v = 0 ∨ v = 1 ∨ v = 2 ∨ v = 3 ∨ v = 4 := by omega
  rcases h5 with rfl | rfl | rfl | rfl | rfl
  · show 0 ≤ (0 : Int) ∧ (0 : Int) ≤ 14; omega
  · show 0 ≤ (1 : Int) ∧ (1 : Int) ≤ 14; omega
  · show 0 ≤ len ∧ len ≤ 14; omega
  · show 0 ≤ len - 1 ∧ len - 1 ≤ 14; omega
  · show 0 ≤ 2 * len ∧ 2 * len ≤ 14; omega
theorem six_get {am v : Int} (hl : 0 ≤ am ∧ am ≤ 5) (hv : 0 ≤ v ∧ v < 6) : 0 ≤ ([1, 1, 2, 0, am, am + 1] : List Int).getD v.toNat 0 ∧ ([1, 1, 2, 0, am, am + 1] : List Int).getD v.toNat 0 ≤ 6 := by
  have h5 : v = 0 ∨ v = 1 ∨ v = 2 ∨ v = 3 ∨ v = 4 ∨ v = 5 := by omega
  rcases h5 with rfl | rfl | rfl | rfl | rfl | rfl
  · show 0 ≤ (1 : Int) ∧ (1 : Int) ≤ 6; omega
  · show 0 ≤ (1 : Int) ∧ (1 : Int) ≤ 6; omega
  · show 0 ≤ (2 : Int) ∧ (2 : Int) ≤ 6; omega
  · show 0 ≤ (0 : Int) ∧ (0 : Int) ≤ 6; omega
  · show 0 ≤ am ∧ am ≤ 6; omega
  · show 0 ≤ am + 1 ∧ am + 1 ≤ 6; omega
/-- the tuples that a turn makes are none of what turns -/
theorem turn_mid {w : World} {a : Ad} {A : Int} {W1 W2 : Wld} {n z : Nat} {h₀ h : Heap} {L : Addr} {sg l5 l4 u2 u1 l3 q2 q1 l1 Iq hd nw : Addr × Obj} {rest R : List (Addr × Obj)} (Z : Two w a A ([Iq, hd, nw].map (·.1)) rest R W1 W2 n z)
    (N : News h₀ L h (sg :: l5 :: l4 :: u2 :: u1 :: l3 :: q2 :: q1 :: l1 :: Iq :: hd :: nw :: rest)) (al : AllLt q1.1 (l1 :: Iq :: hd :: nw :: rest)) (h2 : @LT.lt Nat _ q1.1 q2.1) (h3 : @LT.lt Nat _ q1.1 u1.1) (h4 : @LT.lt Nat _ q1.1 u2.1) (h5 : @LT.lt Nat _ q1.1 sg.1) :
    ∃ rest' R', News h₀ L h ([Iq, hd, nw] ++ rest') ∧ Two w a A ([Iq, hd, nw].map (·.1)) rest' R' W1 W2 n z ∧ (∀ q ∈ R, q ∈ R') ∧ sg ∈ R' ∧ u2 ∈ R' ∧ u1 ∈ R' ∧ q2 ∈ R' ∧ q1 ∈ R' := by
  have f : ∀ {b : Addr}, @LE.le Nat _ q1.1 b → b ∉ [Iq, hd, nw].map (·.1) ++ a.T := fun {b} hb => Z.fresh (allLt_of fun p hp => Nat.lt_of_lt_of_le (allLt_mem al p (.tail _ hp)) hb)
  refine ⟨_, _, news_of N ?_, ((((Z.add (f (Nat.le_refl _))).add (f (Nat.le_of_lt h2))).add (f (Nat.le_of_lt h3))).add (f (Nat.le_of_lt h4))).add (f (Nat.le_of_lt h5)), fun q hq => .tail _ (.tail _ (.tail _ (.tail _ (.tail _ hq)))), .head _, .tail _ (.head _), .tail _ (.tail _ (.head _)), .tail _ (.tail _ (.tail _ (.head _))), .tail _ (.tail _ (.tail _ (.tail _ (.head _))))⟩
  iterate 8 (refine subCons (by repeat (first | exact List.Mem.head _ | refine List.Mem.tail _ ?_)) ?_)
  exact fun q hq => by repeat (first | exact hq | refine List.Mem.tail _ ?_)
theorem third_mid {w : World} {a : Ad} {A : Int} {W1 W2 : Wld} {n z : Nat} {h₀ h : Heap} {L : Addr} {i1 i2 Iq hd nw : Addr × Obj} {rest R : List (Addr × Obj)} (Z : Two w a A ([Iq, hd, nw].map (·.1)) rest R W1 W2 n z)
    (N : News h₀ L h (i1 :: i2 :: Iq :: hd :: nw :: rest)) (al : AllLt i2.1 (Iq :: hd :: nw :: rest)) (h2 : @LT.lt Nat _ i2.1 i1.1) :
    ∃ rest' R', News h₀ L h ([Iq, hd, nw] ++ rest') ∧ Two w a A ([Iq, hd, nw].map (·.1)) rest' R' W1 W2 n z ∧ (∀ q ∈ R, q ∈ R') ∧ i1 ∈ R' ∧ i2 ∈ R' := by
  have f : ∀ {b : Addr}, @LE.le Nat _ i2.1 b → b ∉ [Iq, hd, nw].map (·.1) ++ a.T := fun {b} hb => Z.fresh (allLt_of fun p hp => Nat.lt_of_lt_of_le (allLt_mem al p hp) hb)
  refine ⟨_, _, news_of N ?_, (Z.add (f (Nat.le_refl _))).add (f (Nat.le_of_lt h2)), fun q hq => .tail _ (.tail _ hq), .head _, .tail _ (.head _)⟩
  iterate 5 (refine subCons (by repeat (first | exact List.Mem.head _ | refine List.Mem.tail _ ?_)) ?_)
  exact fun q hq => by repeat (first | exact hq | refine List.Mem.tail _ ?_)
theorem mine_at {R : List (Addr × Obj)} {S X V y q1 q2 : Addr} {v : Int} {t1 t2 t3 : Tok} (h : (v = 0 ∧ y = q1) ∨ (v = 1 ∧ y = q2)) (m1 : (q1, ({ cls := .type "tuple", data := .seq #[.str (Str.ofString "a") t1] } : Obj)) ∈ R) (m2 : (q2, ({ cls := .type "tuple", data := .seq #[.str (Str.ofString "a") t2, .str (Str.ofString "b") t3] } : Obj)) ∈ R)
    (ho : ∀ q ∈ R, Off S X V q.1) : NamesAt R S X V y (nm1 (decide (v = 1))) := by
  rcases h with ⟨rfl, rfl⟩ | ⟨rfl, rfl⟩
  · exact ⟨ho _ m1, .inl ⟨_, _, rfl, by decide, m1⟩⟩
  · exact ⟨ho _ m2, .inr ⟨_, _, _, _, rfl, by decide, by decide, m2⟩⟩
theorem yours_at {R : List (Addr × Obj)} {S X V y q1 q2 : Addr} {v : Int} {t1 t2 t3 : Tok} (h : (v = 0 ∧ y = q1) ∨ (v = 1 ∧ y = q2)) (m1 : (q1, ({ cls := .type "tuple", data := .seq #[.str (Str.ofString "zz") t1, .str (Str.ofString "q") t2] } : Obj)) ∈ R) (m2 : (q2, ({ cls := .type "tuple", data := .seq #[.str (Str.ofString "y") t3] } : Obj)) ∈ R)
    (ho : ∀ q ∈ R, Off S X V q.1) : NamesAt R S X V y (nm2 (decide (v = 1))) := by
  rcases h with ⟨rfl, rfl⟩ | ⟨rfl, rfl⟩
  · exact ⟨ho _ m1, .inr ⟨_, _, _, _, rfl, by decide, by decide, m1⟩⟩
  · exact ⟨ho _ m2, .inl ⟨_, _, rfl, by decide, m2⟩⟩
theorem Two.off1 {w : World} {a : Ad} {A : Int} {xs : List Addr} {rest R : List (Addr × Obj)} {W1 W2 : Wld} {n z : Nat} (Z : Two w a A xs rest R W1 W2 n z) : (∀ q ∈ R, Off a.S1 a.X1 a.V1 q.1) ∧ ∀ q ∈ R, Off a.S2 a.X2 a.V2 q.1 :=
  ⟨fun q hq => (not_T (Z.off q hq)).1.1, fun q hq => (not_T (Z.off q hq)).1.2⟩
section
variable {prog : Program} {w : World} {A : Around} {E : Value → Shared → Prop} {s : Shared} {h₀ : Heap} {L l : Addr} {news : List (Addr × Obj)} {vs : List Value} {k : Int} {n : Nat} {u : Tok} {value slice : PySem.Expr} {Q : Value → Shared → Prop}
theorem pick_ref {x0 x1 : Addr} (N : News h₀ L s.heap news) (hl : (l, listOf #[.ref x0, .ref x1] n) ∈ news) (hk : 0 ≤ k ∧ k < 2) (h : ∀ y, (k = 0 ∧ y = x0) ∨ (k = 1 ∧ y = x1) → Q (.ref y) s)
    (hs : subscripted slice false (.ref l) (.int k u) = operate [.ref l, .int k u] (getItem (.ref l) (.int k u)) := by with_unfolding_all rfl) : wpAny (model prog w) A (subscriptTail value slice (.ref l) (.int k u)) Q E s := by
  have IL := News.isList (items := #[.ref x0, .ref x1]) N hl
  have hk2 : k = 0 ∨ k = 1 := by omega
  rcases hk2 with rfl | rfl
  · exact list_tail IL (getItem_listL (l := [.ref x0, .ref x1]) IL (by decide) (by decide) rfl (h _ (.inl ⟨rfl, rfl⟩))) hs
  · exact list_tail IL (getItem_listL (l := [.ref x0, .ref x1]) IL (by decide) (by decide) rfl (h _ (.inr ⟨rfl, rfl⟩))) hs
end
theorem turn_t {len t t1 d : Int} {i : Nat} (h0 : len ≤ t) (ht : t ≤ 14 + 14 * (i : Int)) (hi : i < 10) (hd : 0 ≤ d ∧ d ≤ 14) (e : t1 = t + d) : len ≤ t1 ∧ t1 ≤ 1000 ∧ t1 ≤ 14 + 14 * ((i + 1 : Nat) : Int) := by omega
theorem q_20 {i : Nat} (h : i < 10) : 20 * i ≤ 180 ∧ 10000 * i ≤ 90000 ∧ 20 * (i : Int) ≤ 180 := by omega
section
variable {w : World} {p : Program} {loose : List Str} {mean : ExcName → Option Value} {mg mb : Str → Option Value} {dp un : Nat} {gd : Option (List Code)} {fa : Addr} {A₀ : Around} {base h₀ : Heap} {L : Addr} {m : Str → Option Value} {s : Shared} {Q : Flow → Shared → Prop} {E : Value → Shared → Prop}
  (B : Below A₀ base [] h₀) (KX : (Mine.hd1.heap_39 w.params).In h₀) (T : Top p loose mean mg mb h₀) (XB : (Mine.hd1.heap_39 w.params).In base) (TB : Top p loose mean mg mb base) (CD : CodeHd base 592 588) (CD2 : CodeHd base 644 640)
include B KX T XB TB CD CD2
theorem turn_spec {a : Ad} {o : Ob} {am len c A : Int} {tk0 : Tok} {nw : List (Addr × Obj)} {I : Addr} {oI : Obj} {i kr : Nat} {rv : List Value} {rs : List Int} {kv : Int} {m₁ : Str → Option Value}
    (J : LawAt w a o L am len c A rv kr i m₁ nw) (off : ∀ p ∈ nw, p.1 ≠ I)
    (F : Fr h₀ L s.heap (fun y => if y = Str.ofString "k" then some (.int kv tk0) else m₁ y)) (N : News h₀ L s.heap ((I, oI) :: nw)) (hi : i < 10) (HS : base.IsList o.scr rv.toArray) (hr : IntsAre rv rs) (hl : rv.length ≤ 63) (hd : dp ≤ 780) (hu : un ≤ 7800) :
    wpAny (model PySem.Challenge.rw_ji0060_02.row.prog w) (ktrTop dp un gd (Str.ofString "law") lawScope L fa (.ref 727) (cellsFrom (L + 1) lawScope.names []) []) (execs turnBody (envX (Str.ofString "law") lawScope L fa (.ref 727) (cellsFrom (L + 1) lawScope.names [])))
      (TurnPost h₀ L (LawAt w a o L am len c A rv kr (i + 1)) I oI s Q) E s := by
  have mkp : Mk 174 := trivial
  obtain ⟨j, tj, nh, t, tt, rest, R, W1, W2, rfl, Z, C, P, PN, LW, ht, hj⟩ := J
  have e1 : turnBody = turnBody := rfl
  conv at e1 => rhs; whnf
  have e2 : lawScope = lawScope := rfl
  conv at e2 => rhs; whnf
  have e3 : innerBody = innerBody := rfl
  conv at e3 => rhs; whnf
  rw [e1, e2]
  clear e1
  obtain ⟨p1, ⟨ta, p2⟩, ⟨tl, p3⟩, p4, p5, p6, p7, p8, p9⟩ := PN
  have em := pin2 (pin2 (pin2 (pin2 (pin2 (pin2 (pin2 (pin2 (pin2 (Eq.refl m₁) p1) p2) p3) p4) p5) p6) p7) p8) p9
  rw [em] at F
  clear em p1 p2 p3 p4 p5 p6 p7 p8 p9
  obtain ⟨PP, hPP⟩ : ∃ PP, PP = TurnPost h₀ L (LawAt w a o L am len c A rv kr (i + 1)) I oI s Q := ⟨_, rfl⟩
  rw [← hPP]
  have x1 : @Ne Nat o.hand I := off (o.hand, _) (.head _)
  have x2 : @Ne Nat a.nowl I := off (nowE a t tt) (.tail _ (.head _))
  have x3 : ∀ q ∈ rest, q.1 ≠ I := fun q hq => off q (.tail _ (.tail _ hq))
  have x4 : ∀ q ∈ rest, q.1 ≠ o.hand := fun q hq e => Z.on q hq (e ▸ .head _)
  have x5 : ∀ q ∈ rest, q.1 ≠ a.nowl := fun q hq e => Z.on q hq (e ▸ .tail _ (.head _))
  obtain ⟨ham, hlen, hc, hA, ht0, ht1⟩ := id LW
  have hj2 : j ≤ 50 := by omega
  obtain ⟨q20, q10, qi⟩ := q_20 hi
  obtain ⟨ocA, tA, cA1, cA2⟩ := C.cA
  obtain ⟨ocN, cN1, cN2⟩ := C.cN
  have cA3 := Z.sub _ cA1
  have cN3 := Z.sub _ cN1
  have l2 := C.l2
  have x6 : @Ne Nat a.nowl o.hand := Ne.symm C.hn
  have x7 := C.hn
  have x8 : @Ne Nat I o.hand := Ne.symm x1
  have x9 : @Ne Nat I a.nowl := Ne.symm x2
  replace N : News h₀ L s.heap ((I, oI) :: (o.hand, listOf #[.ref o.scr, .int ((j : Nat) : Int) tj] nh) :: (a.nowl, listOf #[.int t tt] 0) :: rest) := N
  have hRr := Z.sub
  refine wpAny_mono (E := fun _ _ => False) (lower ?_ hd hu) (fun _ _ x => x) (fun _ _ e => e.elim)
  revert KX; k_fill; intro KX
  k_steps
  refine Hold.mk ?_
  rename_i v1 z66 z65 z64 z63 hv1 z61 z60 z59 kd rk z56 z55 z54 hk3 z52 z51 nmv rn z48 z47 z46 hnm z44 z43 q1 z41 alq1 lq1 q2 z37 alq2 lq2 lst2 z33 z32 nt1 hy1 z29 z28 u1 z26 alu1 lu1 u2 z22 alu2 lu2 z19 z18 z17 z16 z15 dd rd z12 z11 z10 hdd z8 z7 z6 z5 z4 z3 tc z1
  have hstep := five_get hlen hv1
  have hcost := six_get ham hv'
  obtain ⟨t1, et1⟩ : ∃ x, x = t + ([0, 1, len, len - 1, 2 * len] : List Int).getD v1.toNat 0 := ⟨_, rfl⟩
  obtain ⟨cost, ecost⟩ : ∃ x, x = ([1, 1, 2, 0, am, am + 1] : List Int).getD v'.toNat 0 := ⟨_, rfl⟩
  rw [← et1] at N'
  rw [← ecost] at F' hcost
  obtain ⟨qt1, qt2, htt⟩ := turn_t ht0 ht hi hstep et1
  have LW1 : Law am len c A t1 := ⟨ham, hlen, hc, hA, qt1, qt2⟩
  clear et1 ecost hstep hv1 LW ht ht0 ht1 qt1 qt2
  obtain ⟨rest0, R0, NN, Z1, up1, ms, mu2, mu1, mq2, mq1⟩ := turn_mid (Z.more x3) N' alq1 (by walk_at "m lt") (by walk_at "m lt") (by walk_at "m lt") (by walk_at "m lt")
  have off1 := Z1.off1
  have NM1 := mine_at (S := a.S1) (X := a.X1) (V := a.V1) hy1 mq1 mq2 off1.1
  have NM2 := yours_at (S := a.S2) (X := a.X2) (V := a.V2) hy' mu1 mu2 off1.2
  have NMs : NamesAt R0 a.S2 a.X2 a.V2 q' [Str.ofString "stranger"] := ⟨off1.2 _ ms, .inl ⟨_, _, rfl, by decide, ms⟩⟩
  have C1 := C.up up1
  have hn : ∀ {x y : Addr × Obj} {tt : Tok}, nowE a t1 tt ∈ [x, y, nowE a t1 tt] := .tail _ (.tail _ (.head _))
  refine uhit (cost := 1) B (by k_asm) KX T rfl XB TB ktsDicts_nil NN (Z1.w2 hn) (Li'.up fun q hq => .tail _ (up1 q hq)) (C1.i2.sub fun q hq _ => .tail _ hq) (NMs.sub fun q hq _ => .tail _ hq) (LW1.num2 P.b2 (by walk_at "m q") (by decide) (by walk_at "m q") (by walk_at "m q")) (by show 60 * len = 60 * len; rfl) rfl (by decide) (by decide) ?_
  intro bb W2a news1 R1' h0' h1 tk1 HR XT F1 N1 P1
  obtain ⟨tT, -, -, -, -⟩ := XT
  replace F1 := turn_none tT F1
  replace N1 := turn_news tT N1
  obtain ⟨rest1, N2, Z2, up2⟩ := Z1.p2 hn P1 N1 (by walk_at "m q") (by walk_at "m q")
  replace N2 : News h₀ L h1 ((I, oI) :: (o.hand, listOf #[.ref o.scr, .int ((j + 1 + 1 + 1 + 1 + 1 : Nat) : Int) _] nh) :: (a.nowl, listOf #[.int t1 _] 0) :: rest1) := N2
  have rel1 := P.rel.hit (stranger_off (am := am) (len := len) (c := c) (Int.le_trans (by decide) hc.1) (sc_t LW1.sc).2.2.2 (sc_t LW1.sc).2.2.1) HR
  have bd2 := hit_bd HR P.b2 (by decide)
  clear N' N1 P1 NN F' HR lq1 alq1 lq2 alq2 lu1 alu1 lu2 alu2 hy1 hy' mu2 mu1 mq2 mq1 ms NMs Li' l1 l2 z4 z17 z32 off1 hRr
  k_steps
  refine heldI ?_
  rename News h₀ L _ ((I, oI) :: _) => N3
  have C2 := C1.up up2
  refine lstep_spec B (by k_asm) KX T rfl XB TB ktsDicts_nil CD CD2 N3 (Z2.w1 hn) (C2.l1.up fun q hq => .tail _ hq) (C2.i1.sub fun q hq _ => .tail _ hq) (NM1.sub fun q hq _ => .tail _ (up2 q hq)) (LW1.num1 P.b1 (by walk_at "m q") ⟨hcost.1, by omega⟩ (by walk_at "m q") (by walk_at "m q")) hk3 (by show len = 1 * len; omega) (rfl : base1 am len (decide (nmv = 1)) = _) (by decide) (by decide) ?_
  intro r1 W1b news2 R2' h0'' h2 tk2 SR1 XT2 F2 N4 P2
  obtain ⟨tT2, -, -, -, -⟩ := XT2
  replace F2 := turn_none tT2 F2
  replace N4 := turn_news tT2 N4
  obtain ⟨rest2, N5, Z3, up3⟩ := Z2.p1 hn P2 N4 (by walk_at "m q") (by walk_at "m q")
  replace N5 : News h₀ L h2 ((I, oI) :: (o.hand, listOf #[.ref o.scr, .int ((j + 1 + 1 + 1 + 1 + 1 : Nat) : Int) _] nh) :: (a.nowl, listOf #[.int t1 _] 0) :: rest2) := N5
  clear N3 N4 P2
  k_steps
  refine heldI ?_
  have up4 : ∀ q ∈ R0, q ∈ R2' := fun q hq => up3 q (up2 q hq)
  have C3 := C1.up up4
  refine lstep_spec B (by k_asm) KX T rfl XB TB ktsDicts_nil CD CD2 N5 (Z3.w2 hn) (C3.l2.up fun q hq => .tail _ hq) (C3.i2.sub fun q hq _ => .tail _ hq) (NM2.sub fun q hq _ => .tail _ (up4 q hq)) (LW1.num2 bd2 (by walk_at "m q") ⟨hcost.1, by omega⟩ (by walk_at "m q") (by walk_at "m q")) hk3 (by show 60 * len = 60 * len; rfl) (rfl : base2 am len (decide (nmv = 1)) = _) (by decide) (by decide) ?_
  intro r2 W2b news3 R3' h03 h3 tk3 SR2 XT3 F3 N6 P3
  obtain ⟨tT3, -, -, -, -⟩ := XT3
  replace F3 := turn_none tT3 F3
  replace N6 := turn_news tT3 N6
  obtain ⟨rest3, N7, Z4, up5⟩ := Z3.p2 hn P3 N6 (by walk_at "m q") (by walk_at "m q")
  replace N7 : News h₀ L h3 ((I, oI) :: (o.hand, listOf #[.ref o.scr, .int ((j + 1 + 1 + 1 + 1 + 1 : Nat) : Int) _] nh) :: (a.nowl, listOf #[.int t1 _] 0) :: rest3) := N7
  obtain ⟨rfl, hr1, rel2⟩ := step_sim LW1.sc (law_kp LW1.sc (decide (nmv = 1))) rel1 SR1 SR2
  have bd1' := step_bd SR1 P.b1 hcost.1
  have bd2' := step_bd SR2 bd2 hcost.1
  have C4 := C3.up up5
  have l2 := C4.l2
  have hRr := Z4.sub
  clear N5 N6 P3 SR1 SR2
  k_steps
  refine Hold.mk ?_
  refine wpAny_execs_nil ?_
  dsimp only
  k_steps
  all_goals (try (exfalso; omega))
  refine Hold.mk ?_
  rename News h₀ L _ _ => N8
  rename I < _ ∧ o.hand < _ ∧ a.nowl < _ ∧ AllLt _ rest3 => al3
  obtain ⟨rest4, R4, N9, Z5, up6, mi, md⟩ := third_mid Z4 N8 al3 (by walk_at "m lt")
  have It3 : ItemAt R4 a.S2 a.X2 a.V2 _ false (Str.ofString "third") am len := ⟨⟨_, _, _, _, _, _, _, _, _, _, _, mi, md, Z5.off1.2 _ mi, Z5.off1.2 _ md⟩, ⟨by omega, by omega⟩, ⟨by omega, by omega⟩, by decide⟩
  refine uclear B (by k_asm) KX T rfl N9 (Z5.w2 hn) (Li'.up fun q hq => .tail _ (up6 q hq)) (It3.sub fun q hq _ => .tail _ hq) (NM2.sub fun q hq _ => .tail _ (up6 q (up5 q (up4 q hq)))) (LW1.num2 bd2' (by walk_at "m q") (by decide) (by walk_at "m q") (by walk_at "m q")) (by show 60 * len = 60 * len; rfl) rfl (by decide) (by decide) ?_
  intro news4 R4' h4 tk4 F4 N10 P4
  obtain ⟨rest5, N11, Z6, up7⟩ := Z5.p2 hn P4 N10 (by walk_at "m q") (by walk_at "m q")
  replace N11 : News h₀ L h4 ((I, oI) :: (o.hand, listOf #[.ref o.scr, .int ((j + 1 + 1 + 1 + 1 + 1 : Nat) : Int) _] nh) :: (a.nowl, listOf #[.int t1 _] 0) :: rest5) := N11
  have rel3 := rel2.clr2 (k := kd) (third_off (am := am) (len := len) (c := c) (Int.le_trans (by decide) hc.1) (decide (nmv = 1)) (sc_t LW1.sc).2.2.2 (sc_t LW1.sc).2.2.1)
  have bd2'' := clr_bd (key := keyOf false (Str.ofString "third") (nm2 (decide (nmv = 1))) am len) (t := 60 * t1 + A) (e := 60 * len) (k := kd) bd2'
  clear N8 N9 N10 P4 It3 mi md al3 Li' l2 hRr
  k_steps
  refine Hold.mk ?_
  refine For_invV h₀ (by rfl) (by rfl) ?_
  k_steps
  refine Hold.mk ?_
  have C5 := (C4.up up6).up up7
  have NM1' := NM1.sub (news' := R4') fun q hq _ => up7 q (up6 q (up5 q (up4 q hq)))
  have NM2' := NM2.sub (news' := R4') fun q hq _ => up7 q (up6 q (up5 q (up4 q hq)))
  refine iter_range (n := 3) (fun i' m' nw' => InAt w a o am len c A t1 [(I, oI), (o.hand, listOf #[.ref o.scr, .int ((j + 1 + 1 + 1 + 1 + 1 : Nat) : Int) t'] nh), nowE a t1 z63] R4' nt1 y' (20 * i + 20) (20 * i + 8) (10000 * i + 4000) i' m' nw') rfl (by assumption) (by decide) (by decide) (by k_asm) (by k_asm) ?_ ?_ ?_
  · exact ⟨rest5, R4', W1b, _, rfl, Z6.grow (by walk_at "m q") (by walk_at "m q"), fun q h => h, ⟨rel3, bd1'.le (by walk_at "m q"), bd2''.le (by walk_at "m q")⟩, ⟨rfl, ⟨_, rfl⟩, ⟨_, rfl⟩, rfl, rfl, rfl, rfl, rfl, rfl⟩, rfl, rfl⟩
  · intro i' t9 m9 news9 h9 tk9 I2 oI2 hi3 hJ off9 lt9 F9 N9
    have q := fun (Q9 : Flow → Shared → Prop) => inner_spec (p := p) (loose := loose) (mean := mean) (mg := mg) (mb := mb) (dp := 780) (un := 7800) (gd := gd) (fa := fa) (Q := Q9) (E := fun _ _ => False) (tw := t9) B (by assumption) T CD2 (s := { s with heap := h9, toks := tk9 }) hJ off9 (by rw [show (0 + (i' : Int) * 1) = (i' : Int) by omega] at F9; exact F9) N9 hi3 LW1 C5 NM1' NM2' (.tail _ (.tail _ (.head _))) (by walk_at "m q") (by walk_at "m q") (by walk_at "m q") (Nat.le_refl _) (Nat.le_refl _)
    rw [e3, e2] at q
    exact q _
  · intro m9 nw9 h9 tk9 hJ F9 N9
    obtain ⟨rest6, R6, W1e, W2e, rfl, Z7, up8, P7, PN7, pm9, py9⟩ := hJ
    k_steps
    refine Hold.mk ?_
    refine wpAny_execs_nil ?_
    (try dsimp only)
    rw [hPP]
    refine ⟨_, _, _, _, rfl, F9, N9, fun q hq => ?_, j + 1 + 1 + 1 + 1 + 1, t', nh, t1, z63, rest6, R6, W1e, W2e, rfl, Z7.less.grow (by walk_at "m q") (by walk_at "m q"), C5.up up8, ⟨P7.rel, P7.b1.le (by walk_at "m q"), P7.b2.le (by walk_at "m q")⟩, PN7, LW1, htt, by omega⟩
    rcases List.mem_cons.mp hq with rfl | hq
    · exact x1
    rcases List.mem_cons.mp hq with rfl | hq
    · exact x2
    · exact fun e => Z7.on q hq (e ▸ List.Mem.head _)
end

end
section
-- only 2
theorem said_p_law2loop : True := by
  k_with "pyIter ref" => (k_here; (fail_if_success (fail_if_success (have := (by with_reducible assumption : Mk 175)))); with_reducible refine holdW ?_)
  trivial
theorem range_one {n : Nat} (h : n ≤ 10) : Builtin.Range.small 0 (n : Int) 1 = true ∧ Builtin.Range.rangeSize 0 (n : Int) 1 = (n : Int) := by
  have q : ∀ k : Fin 11, Builtin.Range.small 0 ((k.val : Nat) : Int) 1 = true ∧ Builtin.Range.rangeSize 0 ((k.val : Nat) : Int) 1 = ((k.val : Nat) : Int) := by decide
  exact q ⟨n, by omega⟩
theorem range_hi {h : Heap} {r : Addr} {a b b' c : Int} {t u v : Tok} (H : IsRange h r a b c t u v) (e : b = b') : IsRange h r a b' c t u v := e ▸ H
section
variable {w : World} {p : Program} {loose : List Str} {mean : ExcName → Option Value} {mg mb : Str → Option Value} {dp un : Nat} {gd : Option (List Code)} {fa : Addr} {A₀ : Around} {base h₀ : Heap} {L : Addr} {m : Str → Option Value} {s : Shared} {Q : Flow → Shared → Prop} {E : Value → Shared → Prop}
  (B : Below A₀ base [] h₀) (KX : (Mine.hd1.heap_39 w.params).In h₀) (T : Top p loose mean mg mb h₀) (XB : (Mine.hd1.heap_39 w.params).In base) (TB : Top p loose mean mg mb base) (CD : CodeHd base 592 588) (CD2 : CodeHd base 644 640)
include B KX T XB TB CD CD2
theorem loop_spec {a : Ad} {o : Ob} {am len c A t : Int} {tj tt : Tok} {nh kr : Nat} {rest R : List (Addr × Obj)} {W1 W2 : Wld} {rv : List Value} {rs : List Int}
    (Z : Two w a A [o.hand, a.nowl] rest R W1 W2 0 0) (C : Cst a o L R rv kr am len A) (P : Pair am len c A W1 W2 0) (PN : Pin2 m a o am len) (LW : Law am len c A t) (ht : t ≤ 14)
    (F : Fr h₀ L s.heap m) (N : News h₀ L s.heap ((o.hand, listOf #[.ref o.scr, .int ((3 : Nat) : Int) tj] nh) :: nowE a t tt :: rest)) (HS : base.IsList o.scr rv.toArray) (hr : IntsAre rv rs) (hl : rv.length ≤ 63) (hd : dp ≤ 780) (hu : un ≤ 7800)
    (done : ∀ m' h' tk' p1 p2 p3, Fr h₀ L h' m' → News h₀ L h' [(588, tabObj p1), (640, tabObj p2), (723, tabObj p3)] → Q .next { s with heap := h', toks := tk' }) :
    wpAny (model PySem.Challenge.rw_ji0060_02.row.prog w) (ktrTop dp un gd (Str.ofString "law") lawScope L fa (.ref 727) (cellsFrom (L + 1) lawScope.names []) []) (exec for1 (envX (Str.ofString "law") lawScope L fa (.ref 727) (cellsFrom (L + 1) lawScope.names []))) Q E s := by
  have mkp : Mk 175 := trivial
  refine wpAny_mono (E := fun _ _ => False) (lower ?_ hd hu) (fun _ _ x => x) (fun _ _ e => e.elim)
  have e1 : for1 = for1 := rfl
  conv at e1 => rhs; whnf
  have e2 : turnBody = turnBody := rfl
  conv at e2 => rhs; whnf
  have e4 : lawScope = lawScope := rfl
  conv at e4 => rhs; whnf
  rw [e1]
  obtain ⟨p1, ⟨ta, p2⟩, ⟨tl, p3⟩, p4, p5, p6, p7, p8, p9⟩ := PN
  have em := pin2 (pin2 (pin2 (pin2 (pin2 (pin2 (pin2 (pin2 (pin2 (Eq.refl m) p1) p2) p3) p4) p5) p6) p7) p8) p9
  rw [em] at F
  clear em p1 p2 p3 p4 p5 p6 p7 p8 p9
  have x4 : ∀ q ∈ rest, q.1 ≠ o.hand := fun q hq e => Z.on q hq (e ▸ .head _)
  have x6 : @Ne Nat a.nowl o.hand := Ne.symm C.hn
  replace N : News h₀ L s.heap ((o.hand, listOf #[.ref o.scr, .int ((3 : Nat) : Int) tj] nh) :: (a.nowl, listOf #[.int t tt] 0) :: rest) := N
  rw [e4]
  refine For_invV h₀ (by rfl) (by rfl) ?_
  revert KX; k_fill; intro KX
  k_steps
  refine Hold.mk ?_
  obtain ⟨n, hn⟩ : ∃ n : Nat, (n : Int) = 1 + v' := ⟨(1 + v').toNat, Int.toNat_of_nonneg (by omega)⟩
  have hn10 : n ≤ 10 := by omega
  refine iter_range (n := n) (fun i m' nw' => LawAt w a o L am len c A rv kr i m' nw') rfl (range_hi (by assumption) hn.symm) (range_one hn10).1 (range_one hn10).2 (by k_asm) (by k_asm) ?_ ?_ ?_
  · exact ⟨3 + 1, _, _, t, _, rest, R, W1, W2, rfl, Z, C, P, ⟨rfl, ⟨_, rfl⟩, ⟨_, rfl⟩, rfl, rfl, rfl, rfl, rfl, rfl⟩, LW, by omega, by omega⟩
  · intro i t9 m9 news9 h9 tk9 I oI hi hJ off9 lt9 F9 N9
    have q := fun (Q9 : Flow → Shared → Prop) => turn_spec (p := p) (loose := loose) (mean := mean) (mg := mg) (mb := mb) (dp := 780) (un := 7800) (gd := gd) (fa := fa) (Q := Q9) (E := fun _ _ => False) (tk0 := t9) B KX T XB TB CD CD2 (s := { s with heap := h9, toks := tk9 }) hJ off9 F9 N9 (by omega) HS hr hl (Nat.le_refl _) (Nat.le_refl _)
    rw [e2, e4] at q
    exact q _
  · intro m9 nw9 h9 tk9 hJ F9 N9
    obtain ⟨j9, tj9, nh9, t9, tt9, rest9, R9, W1e, W2e, rfl, Z9, C9, _⟩ := hJ
    obtain ⟨_, _, _, q1, q2, _, _, _, l1, l2, _⟩ := Z9.tabs1
    obtain ⟨q3, l3⟩ := C9.tb
    refine done m9 h9 tk9 q1 q2 q3 F9 fun q hq => N9 q ?_
    rcases List.mem_cons.mp hq with rfl | hq
    · exact .tail _ (.tail _ l1)
    rcases List.mem_cons.mp hq with rfl | hq
    · exact .tail _ (.tail _ l2)
    rw [List.mem_singleton.mp hq]
    exact .tail _ (.tail _ (Z9.sub _ l3))
theorem law_go2 {A0 : Around} {fs : Stmt} {env : Env} {a : Ad} {o : Ob} {am len c A t : Int} {tj tt : Tok} {nh kr : Nat} {rest R : List (Addr × Obj)} {W1 W2 : Wld} {rv : List Value} {rs : List Int}
    (eA : A0 = ktrTop dp un gd (Str.ofString "law") lawScope L fa (.ref 727) (cellsFrom (L + 1) lawScope.names []) []) (ee : env = envX (Str.ofString "law") lawScope L fa (.ref 727) (cellsFrom (L + 1) lawScope.names [])) (ef : fs = for1)
    (Z : Two w a A [o.hand, a.nowl] rest R W1 W2 0 0) (C : Cst a o L R rv kr am len A) (P : Pair am len c A W1 W2 0) (PN : Pin2 m a o am len) (LW : Law am len c A t) (ht : t ≤ 14)
    (F : Fr h₀ L s.heap m) (N : News h₀ L s.heap ((o.hand, listOf #[.ref o.scr, .int ((3 : Nat) : Int) tj] nh) :: nowE a t tt :: rest)) (HS : base.IsList o.scr rv.toArray) (hr : IntsAre rv rs) (hl : rv.length ≤ 63) (hd : dp ≤ 780) (hu : un ≤ 7800)
    (done : ∀ m' h' tk' p1 p2 p3, Fr h₀ L h' m' → News h₀ L h' [(588, tabObj p1), (640, tabObj p2), (723, tabObj p3)] → Q .next { s with heap := h', toks := tk' }) :
    wpAny (model PySem.Challenge.rw_ji0060_02.row.prog w) A0 (exec fs env) Q E s := by
  subst eA ee ef
  exact loop_spec B KX T XB TB CD CD2 Z C P PN LW ht F N HS hr hl hd hu done
end

end
section
-- only 2
theorem said_p_clocks2 : True := by
  k_with "subscriptTail Name Constant ref int" => (k_here; (fail_if_success (fail_if_success (have := (by with_reducible assumption : Mk 176)))); (with_reducible show wpAny _ _ (subscriptTail _ _ (Value.ref _) (Value.int 0 _)) _ _ _); k_dflt (refine' one_item ?zyN ?zyhl ?_; (case zyN => k_asm); (case zyhl => with_reducible assumption); k_whole))
  k_with "eval Name" => (k_here; (fail_if_success (fail_if_success (have := (by with_reducible assumption : Mk 176)))); k_dflt (refine' nameX_F ?zyN ?zyc ?zym ?zyd ?_ ?zya ?zyb; (case zya => rfl); (case zyb => rfl); (case zyN => k_asm); (case zyc => rfl); (case zym => with_reducible assumption); (case zyd => with_reducible assumption); k_whole))
  trivial
/-- the code record that a made lambda hangs on -/
noncomputable def CodeIn (news : List (Addr × Obj)) (c' : Addr) (qual : Str) : Prop := ∃ oc vs t, (c', oc) ∈ news ∧ oc.data = .fields vs ∧ vs[1]? = some (.str qual t)
section
theorem clock_of {w : World} {nowl clk c' a : Addr} {pm ctv : Value} {oc ocn : Obj} {vs : Array Value} {t : Int} {tt tq : Tok} {qual : Str} {ps : Arguments} {bd : PySem.Expr} {sc : Scope}
    (eps : ps = { posonlyargs := [], args := [], vararg := none, kwonlyargs := [], kw_defaults := [], kwarg := none, defaults := [] })
    (ebd : bd = ((PySem.Expr.Name (Str.ofString "now") { line := 582, col := 34, endLine := 582, endCol := 37 }).Subscript (PySem.Expr.Constant (Const.int 0) 0 { line := 582, col := 38, endLine := 582, endCol := 39 }) { line := 582, col := 34, endLine := 582, endCol := 40 }))
    (esc : sc = { kind := ScopeKind.function, names := [(Str.ofString "now", NameKind.free)], isGenerator := false, isCoroutine := false })
    (hd : oc.data = .fields vs) (hv : vs[1]? = some (.str qual tq)) (hcn : ocn.data = .cell (some (.ref nowl))) :
    ClockOf w [(clk, kla_obj (Str.ofString "<lambda>") qual ps bd sc [(Str.ofString "now", a)] pm c' ctv), (c', oc), (a, ocn), (nowl, listOf #[.int t tt] 0)] clk t := by
  have mkp : Mk 176 := trivial
  subst eps ebd esc
  intro p loose mean mg mb gd cn cs a0 ccd cl outer A₀ base h₀ L0 m s Q E news B F KX T hk N hs ret
  have h1 := hs _ (.head _)
  have h2 := hs _ (.tail _ (.head _))
  have h3 := hs _ (.tail _ (.tail _ (.head _)))
  have h4 := hs _ (.tail _ (.tail _ (.tail _ (.head _))))
  clear hs
  revert KX; k_fill; intro KX
  refine wpAny_call ?_
  refine' kla_code ?k1 ?k2 ?k3 ?k4 ?k5 ?kA ?kF ?kK ?k6 ?k7 ?k8 ?k9 ?kB ?_ ?c2 ?c3 ?c4 ?c5
  case kA => exact rfl
  case kF => exact rfl
  case kK => assumption
  case k1 => k_asm
  case k2 => k_asm
  case k3 => k_asm
  case k4 => k_asm
  case k5 => k_asm
  case k6 => exact h1
  case k7 => exact codeRec_news N h2 hd hv
  case k8 => first | exact Nat.le_of_ble_eq_true rfl | k_room
  case k9 => exact rfl
  case c5 => decide
  case kB => exact locs rfl
  case c2 => exact rfl
  case c3 => exact rfl
  case c4 => exact rfl
  intro g' L' h' FG' F' N' B' X' T'
  (try dsimp only)
  (try k_fold)
  k_steps
  exact ret _ _ _ (by assumption) (by assumption)
theorem clock2_of {w : World} {nowl clk c' a b : Addr} {pm ctv : Value} {oc ocn oca : Obj} {vs : Array Value} {t A : Int} {tt tq tA : Tok} {qual : Str} {ps : Arguments} {bd : PySem.Expr} {sc : Scope}
    (eps : ps = { posonlyargs := [], args := [], vararg := none, kwonlyargs := [], kw_defaults := [], kwarg := none, defaults := [] })
    (ebd : bd = (((PySem.Expr.Constant (Const.int 60) 0 { line := 583, col := 34, endLine := 583, endCol := 36 }).BinOp Operator.Mult ((PySem.Expr.Name (Str.ofString "now") { line := 583, col := 39, endLine := 583, endCol := 42 }).Subscript (PySem.Expr.Constant (Const.int 0) 0 { line := 583, col := 43, endLine := 583, endCol := 44 }) { line := 583, col := 39, endLine := 583, endCol := 45 }) { line := 583, col := 34, endLine := 583, endCol := 45 }).BinOp Operator.Add (PySem.Expr.Name (Str.ofString "ahead") { line := 583, col := 48, endLine := 583, endCol := 53 }) { line := 583, col := 34, endLine := 583, endCol := 53 }))
    (esc : sc = { kind := ScopeKind.function, names := [(Str.ofString "ahead", NameKind.free), (Str.ofString "now", NameKind.free)], isGenerator := false, isCoroutine := false })
    (hd : oc.data = .fields vs) (hv : vs[1]? = some (.str qual tq)) (hcn : ocn.data = .cell (some (.ref nowl))) (hca : oca.data = .cell (some (.int A tA))) :
    ClockOf w [(clk, kla_obj (Str.ofString "<lambda>") qual ps bd sc [(Str.ofString "now", a), (Str.ofString "ahead", b)] pm c' ctv), (c', oc), (a, ocn), (nowl, listOf #[.int t tt] 0), (b, oca)] clk (60 * t + A) := by
  have mkp : Mk 176 := trivial
  subst eps ebd esc
  intro p loose mean mg mb gd cn cs a0 ccd cl outer A₀ base h₀ L0 m s Q E news B F KX T hk N hs ret
  have h1 := hs _ (.head _)
  have h2 := hs _ (.tail _ (.head _))
  have h3 := hs _ (.tail _ (.tail _ (.head _)))
  have h4 := hs _ (.tail _ (.tail _ (.tail _ (.head _))))
  have h5 := hs _ (.tail _ (.tail _ (.tail _ (.tail _ (.head _)))))
  clear hs
  revert KX; k_fill; intro KX
  refine wpAny_call ?_
  refine' kla_code ?k1 ?k2 ?k3 ?k4 ?k5 ?kA ?kF ?kK ?k6 ?k7 ?k8 ?k9 ?kB ?_ ?c2 ?c3 ?c4 ?c5
  case kA => exact rfl
  case kF => exact rfl
  case kK => assumption
  case k1 => k_asm
  case k2 => k_asm
  case k3 => k_asm
  case k4 => k_asm
  case k5 => k_asm
  case k6 => exact h1
  case k7 => exact codeRec_news N h2 hd hv
  case k8 => first | exact Nat.le_of_ble_eq_true rfl | k_room
  case k9 => exact rfl
  case c5 => decide
  case kB => exact locs rfl
  case c2 => exact rfl
  case c3 => exact rfl
  case c4 => exact rfl
  intro g' L' h' FG' F' N' B' X' T'
  (try dsimp only)
  (try k_fold)
  k_steps
  exact ret _ _ _ (by assumption) (by assumption)
end

end
section
-- only 2
theorem empty_int {prog : Program} {w : World} {o : Obj} (h : o.IsDictOf (PySem.strKind prog w) []) : IntD prog w o (fun _ => none) 0 := ⟨[], h, Nat.le_refl _, fun _ => trivial⟩
theorem empty_ev {prog : Program} {w : World} {o : Obj} {S X V : Addr} {news : List (Addr × Obj)} (h : o.IsDictOf (PySem.strKind prog w) []) : EvD prog w news S X V o (fun _ => none) 0 0 := ⟨fun _ => none, ⟨[], h, Nat.le_refl _, fun _ => trivial⟩, fun _ => trivial⟩
noncomputable abbrev noW : Wld := ⟨fun _ => none, fun _ => none, fun _ => none⟩
section
variable {a : Ad} (od : Ord a) {x : Addr}
include od
theorem off_low (h : @LT.lt Nat _ x a.S1) (h5 : @Ne Nat x 588) (h6 : @Ne Nat x 640) : x ∉ a.T := by
  obtain ⟨o1, o2, o3, o4, o5, o6, o7⟩ := od
  have k1 := Nat.lt_trans h o3
  have k2 := Nat.lt_trans k1 o4
  have k3 := Nat.lt_trans k2 o5
  have k4 := Nat.lt_trans k3 o6
  unfold Ad.T
  simp only [List.mem_cons, List.not_mem_nil, or_false, not_or]
  exact ⟨Nat.ne_of_lt h, Nat.ne_of_lt k1, Nat.ne_of_lt k2, Nat.ne_of_lt k3, Nat.ne_of_lt k4, Nat.ne_of_lt (Nat.lt_trans k4 o7), h5, h6⟩
theorem off_mid (g : @LT.lt Nat _ a.V1 x) (h : @LT.lt Nat _ x a.S2) : x ∉ a.T := by
  obtain ⟨o1, o2, o3, o4, o5, o6, o7⟩ := od
  have k1 := Nat.lt_trans o4 g
  have k2 := Nat.lt_trans o3 k1
  have k3 := Nat.lt_trans o1 (Nat.lt_trans o2 k2)
  have k4 := Nat.lt_trans h o6
  unfold Ad.T
  simp only [List.mem_cons, List.not_mem_nil, or_false, not_or]
  exact ⟨Nat.ne_of_gt k2, Nat.ne_of_gt k1, Nat.ne_of_gt g, Nat.ne_of_lt h, Nat.ne_of_lt k4, Nat.ne_of_lt (Nat.lt_trans k4 o7), Nat.ne_of_gt (Nat.lt_trans (by decide) k3), Nat.ne_of_gt k3⟩
end
theorem off_two {x y z : Addr} (h : @LT.lt Nat _ x y ∨ @LT.lt Nat _ z x) (g : @LT.lt Nat _ y z) : x ∉ [y, z] := by
  simp only [List.mem_cons, List.not_mem_nil, or_false, not_or]
  rcases h with h | h
  · exact ⟨Nat.ne_of_lt h, Nat.ne_of_lt (Nat.lt_trans h g)⟩
  · exact ⟨Nat.ne_of_gt (Nat.lt_trans g h), Nat.ne_of_gt h⟩
theorem start_two {w : World} {h₀ h : Heap} {L V2 X2 S2 st2 dx2 k2 cr2 V1 X1 S1 st1 dx1 k1 cr1 nowl hand : Addr} {oV2 oX2 oS2 kb2 oc2 oV1 oX1 oS1 kb1 oc1 oh oN oA do1 do2 : Obj} {ps : Array Value} {t A : Int} {tt : Tok}
    {h11 h12 h13 h14 h21 h22 h23 h24 : Int} {t11 t12 t13 t14 t21 t22 t23 t24 : Tok} {n1 n2 : Nat}
    (N : News h₀ L h [(V2, oV2), (X2, oX2), (S2, oS2), (st2, instObj 691 dx2), (dx2, do2), (k2, kb2), (cr2, oc2),
      (V1, oV1), (X1, oX1), (S1, oS1), (st1, instObj 691 dx1), (dx1, do1), (k1, kb1), (cr1, oc1),
      (nowl, listOf #[.int t tt] 0), (hand, oh), (L + 1 + 1, oN), (L + 1, oA), (640, tabObj #[]), (588, tabObj #[]), (723, tabObj ps)])
    (g1 : do1 = dictOf [⟨h11, .str (Str.ofString "clock") t11, .ref k1⟩, ⟨h12, .str (Str.ofString "storage") t12, .ref S1⟩, ⟨h13, .str (Str.ofString "expirations") t13, .ref X1⟩, ⟨h14, .str (Str.ofString "events") t14, .ref V1⟩] n1) (g2 : do2 = dictOf [⟨h21, .str (Str.ofString "clock") t21, .ref k2⟩, ⟨h22, .str (Str.ofString "storage") t22, .ref S2⟩, ⟨h23, .str (Str.ofString "expirations") t23, .ref X2⟩, ⟨h24, .str (Str.ofString "events") t24, .ref V2⟩] n2)
    (f1 : ∃ oc od fd sl, kb1 = (⟨oc, od, .func fd, sl⟩ : Obj)) (f2 : ∃ oc od fd sl, kb2 = (⟨oc, od, .func fd, sl⟩ : Obj))
    (C1 : ∀ t tt, ClockOf w [(k1, kb1), (cr1, oc1), (L + 1 + 1, oN), (nowl, listOf #[.int t tt] 0)] k1 t) (C2 : ∀ t tt, ClockOf w [(k2, kb2), (cr2, oc2), (L + 1 + 1, oN), (nowl, listOf #[.int t tt] 0), (L + 1, oA)] k2 (60 * t + A))
    (dS1 : oS1.IsDictOf (PySem.strKind PySem.Challenge.rw_ji0060_02.row.prog w) []) (dX1 : oX1.IsDictOf (PySem.strKind PySem.Challenge.rw_ji0060_02.row.prog w) []) (dV1 : oV1.IsDictOf (PySem.strKind PySem.Challenge.rw_ji0060_02.row.prog w) []) (dS2 : oS2.IsDictOf (PySem.strKind PySem.Challenge.rw_ji0060_02.row.prog w) []) (dX2 : oX2.IsDictOf (PySem.strKind PySem.Challenge.rw_ji0060_02.row.prog w) []) (dV2 : oV2.IsDictOf (PySem.strKind PySem.Challenge.rw_ji0060_02.row.prog w) [])
    (lS1 : (S1 == sysModules) = false) (lX1 : (X1 == sysModules) = false) (lV1 : (V1 == sysModules) = false) (lS2 : (S2 == sysModules) = false) (lX2 : (X2 == sysModules) = false) (lV2 : (V2 == sysModules) = false)
    (e0 : @LT.lt Nat _ 723 (L + 1)) (e1 : @LT.lt Nat _ (L + 1 + 1) hand) (e2 : @LT.lt Nat _ hand nowl) (e3 : @LT.lt Nat _ nowl cr1) (e4 : @LT.lt Nat _ cr1 k1) (e5 : @LT.lt Nat _ k1 dx1) (e6 : @LT.lt Nat _ dx1 st1) (e7 : @LT.lt Nat _ st1 S1) (e8 : @LT.lt Nat _ S1 X1) (e9 : @LT.lt Nat _ X1 V1)
    (e10 : @LT.lt Nat _ V1 cr2) (e11 : @LT.lt Nat _ cr2 k2) (e12 : @LT.lt Nat _ k2 dx2) (e13 : @LT.lt Nat _ dx2 st2) (e14 : @LT.lt Nat _ st2 S2) (e15 : @LT.lt Nat _ S2 X2) (e16 : @LT.lt Nat _ X2 V2) :
    ∃ rest R, News h₀ L h ((hand, oh) :: nowE ⟨nowl, st1, S1, X1, V1, k1, st2, S2, X2, V2, k2⟩ t tt :: rest) ∧ Two w ⟨nowl, st1, S1, X1, V1, k1, st2, S2, X2, V2, k2⟩ A [hand, nowl] rest R noW noW 0 0 ∧ (L + 1 + 1, oN) ∈ R ∧ (L + 1, oA) ∈ R ∧ (723, tabObj ps) ∈ R := by
  have u0 : @LT.lt Nat _ (L + 1) hand := Nat.lt_trans (Nat.lt_succ_self _) e1
  have u1 : @LT.lt Nat _ 723 hand := Nat.lt_trans e0 u0
  have u2 : @LT.lt Nat _ 640 hand := Nat.lt_trans (by decide) u1
  have u3 : @LT.lt Nat _ 588 hand := Nat.lt_trans (by decide) u1
  have s1 : @LT.lt Nat _ dx1 S1 := Nat.lt_trans e6 e7
  have s2 : @LT.lt Nat _ k1 S1 := Nat.lt_trans e5 s1
  have s3 : @LT.lt Nat _ cr1 S1 := Nat.lt_trans e4 s2
  have s4 : @LT.lt Nat _ nowl S1 := Nat.lt_trans e3 s3
  have s5 : @LT.lt Nat _ hand S1 := Nat.lt_trans e2 s4
  have m1 : @LT.lt Nat _ dx2 S2 := Nat.lt_trans e13 e14
  have m2 : @LT.lt Nat _ k2 S2 := Nat.lt_trans e12 m1
  have m3 : @LT.lt Nat _ cr2 S2 := Nat.lt_trans e11 m2
  have v1 : @LT.lt Nat _ V1 k2 := Nat.lt_trans e10 e11
  have v2 : @LT.lt Nat _ V1 dx2 := Nat.lt_trans v1 e12
  have v3 : @LT.lt Nat _ V1 st2 := Nat.lt_trans v2 e13
  have od : Ord ⟨nowl, st1, S1, X1, V1, k1, st2, S2, X2, V2, k2⟩ := ⟨Nat.lt_trans u2 e2, s4, e8, e9, Nat.lt_trans e10 m3, e15, e16⟩
  have big : ∀ {x : Nat}, @LT.lt Nat _ nowl x → x ≠ 588 ∧ x ≠ 640 := fun g => ⟨Nat.ne_of_gt (Nat.lt_trans (Nat.lt_trans u3 e2) g), Nat.ne_of_gt (Nat.lt_trans (Nat.lt_trans u2 e2) g)⟩
  have n1' : @LT.lt Nat _ nowl k1 := Nat.lt_trans e3 e4
  have n2' : @LT.lt Nat _ nowl dx1 := Nat.lt_trans n1' e5
  have n3' : @LT.lt Nat _ nowl st1 := Nat.lt_trans n2' e6
  have n4 : @LT.lt Nat _ nowl V1 := Nat.lt_trans s4 (Nat.lt_trans e8 e9)
  have w1 : @LT.lt Nat _ V1 S2 := Nat.lt_trans e10 m3
  have wx : @LT.lt Nat _ V1 V2 := Nat.lt_trans w1 (Nat.lt_trans e15 e16)
  have cA0 : (L + 1 : Addr) ∉ _ := off_low od (Nat.lt_trans u0 s5) (Nat.ne_of_gt (Nat.lt_trans (by decide) e0)) (Nat.ne_of_gt (Nat.lt_trans (by decide) e0))
  have cN0 : (L + 1 + 1 : Addr) ∉ _ := off_low od (Nat.lt_trans e1 s5) (Nat.ne_of_gt (Nat.lt_trans (Nat.lt_trans (by decide) e0) (Nat.lt_succ_self _))) (Nat.ne_of_gt (Nat.lt_trans (Nat.lt_trans (by decide) e0) (Nat.lt_succ_self _)))
  refine ⟨(S1, oS1) :: (X1, oX1) :: (V1, oV1) :: (S2, oS2) :: (X2, oX2) :: (V2, oV2) :: (588, tabObj #[]) :: (640, tabObj #[]) :: [(st1, instObj 691 dx1), (dx1, do1), (k1, kb1), (cr1, oc1), (st2, instObj 691 dx2), (dx2, do2), (k2, kb2), (cr2, oc2), (L + 1 + 1, oN), (L + 1, oA), (723, tabObj ps)], _, news_of N ?_, ⟨fun q hq => .tail _ (.tail _ (.tail _ (.tail _ (.tail _ (.tail _ (.tail _ (.tail _ hq))))))), ?_, ?_, ?_, ⟨oS1, oX1, oV1, #[], #[], .head _, .tail _ (.head _), .tail _ (.tail _ (.head _)), by repeat (first | exact List.Mem.head _ | refine List.Mem.tail _ ?_), by repeat (first | exact List.Mem.head _ | refine List.Mem.tail _ ?_), empty_int dS1, empty_int dX1, empty_ev dV1, .inl rfl, .inl rfl⟩, ⟨oS2, oX2, oV2, #[], #[], by repeat (first | exact List.Mem.head _ | refine List.Mem.tail _ ?_), by repeat (first | exact List.Mem.head _ | refine List.Mem.tail _ ?_), by repeat (first | exact List.Mem.head _ | refine List.Mem.tail _ ?_), by repeat (first | exact List.Mem.head _ | refine List.Mem.tail _ ?_), by repeat (first | exact List.Mem.head _ | refine List.Mem.tail _ ?_), empty_int dS2, empty_int dX2, empty_ev dV2, .inl rfl, .inl rfl⟩, ?_, ?_, od⟩, by repeat (first | exact List.Mem.head _ | refine List.Mem.tail _ ?_), by repeat (first | exact List.Mem.head _ | refine List.Mem.tail _ ?_), by repeat (first | exact List.Mem.head _ | refine List.Mem.tail _ ?_)⟩
  · iterate 21 (refine subCons (by repeat (first | exact List.Mem.head _ | refine List.Mem.tail _ ?_)) ?_)
    exact fun q hq => nomatch hq
  · intro q hq
    simp only [List.mem_cons, List.not_mem_nil, or_false] at hq
    rcases hq with rfl | rfl | rfl | rfl | rfl | rfl | rfl | rfl | rfl | rfl | rfl
    · exact off_low od e7 (big n3').1 (big n3').2
    · exact off_low od s1 (big n2').1 (big n2').2
    · exact off_low od s2 (big n1').1 (big n1').2
    · exact off_low od s3 (big e3).1 (big e3).2
    · exact off_mid od v3 e14
    · exact off_mid od v2 m1
    · exact off_mid od v1 m2
    · exact off_mid od e10 m3
    · exact cN0
    · exact cA0
    · exact off_low od (Nat.lt_trans u1 s5) (show (723 : Nat) ≠ 588 by decide) (show (723 : Nat) ≠ 640 by decide)
  · intro q hq
    simp only [List.mem_cons, List.not_mem_nil, or_false] at hq
    rcases hq with rfl | rfl | rfl | rfl | rfl | rfl | rfl | rfl | rfl | rfl | rfl | rfl | rfl | rfl | rfl | rfl | rfl | rfl | rfl
    · exact off_two (.inr s4) e2
    · exact off_two (.inr (Nat.lt_trans s4 e8)) e2
    · exact off_two (.inr n4) e2
    · exact off_two (.inr (Nat.lt_trans n4 w1)) e2
    · exact off_two (.inr (Nat.lt_trans n4 (Nat.lt_trans w1 e15))) e2
    · exact off_two (.inr (Nat.lt_trans n4 wx)) e2
    · exact off_two (.inl u3) e2
    · exact off_two (.inl u2) e2
    · exact off_two (.inr n3') e2
    · exact off_two (.inr n2') e2
    · exact off_two (.inr n1') e2
    · exact off_two (.inr e3) e2
    · exact off_two (.inr (Nat.lt_trans n4 v3)) e2
    · exact off_two (.inr (Nat.lt_trans n4 v2)) e2
    · exact off_two (.inr (Nat.lt_trans n4 v1)) e2
    · exact off_two (.inr (Nat.lt_trans n4 e10)) e2
    · exact off_two (.inl e1) e2
    · exact off_two (.inl u0) e2
    · exact off_two (.inl u1) e2
  · intro x hx
    simp only [List.mem_cons, List.not_mem_nil, or_false] at hx
    rcases hx with rfl | rfl
    · exact off_low od s5 (Nat.ne_of_gt u3) (Nat.ne_of_gt u2)
    · exact off_low od s4 (Nat.ne_of_gt (Nat.lt_trans u3 e2)) (Nat.ne_of_gt (Nat.lt_trans u2 e2))
  · intro t tt
    obtain ⟨oc, odd, fd, sl, rfl⟩ := f1
    subst g1
    refine ⟨⟨dx1, h11, h12, h13, h14, t11, t12, t13, t14, n1, oc, odd, fd, sl, by k_mem, by k_mem, by k_mem, s1, e7, s2⟩, ⟨_, C1 t tt, fun q hq => ?_, fun q hq => ?_⟩, e8, e9, lS1, lX1, lV1⟩
    · exact subCons (by k_mem) (subCons (by k_mem) (subCons (by k_mem) (subCons (by k_mem) fun _ h => by cases h))) q hq
    · simp only [List.mem_cons, List.not_mem_nil, or_false] at hq
      rcases hq with rfl | rfl | rfl | rfl
      · exact (not_T (off_low od s2 (big n1').1 (big n1').2)).1.1
      · exact (not_T (off_low od s3 (big e3).1 (big e3).2)).1.1
      · exact (not_T cN0).1.1
      · exact (not_T (off_low od s4 (Nat.ne_of_gt (Nat.lt_trans u3 e2)) (Nat.ne_of_gt (Nat.lt_trans u2 e2)))).1.1
  · intro t tt
    obtain ⟨oc, odd, fd, sl, rfl⟩ := f2
    subst g2
    refine ⟨⟨dx2, h21, h22, h23, h24, t21, t22, t23, t24, n2, oc, odd, fd, sl, by k_mem, by k_mem, by k_mem, m1, e14, m2⟩, ⟨_, C2 t tt, fun q hq => ?_, fun q hq => ?_⟩, e15, e16, lS2, lX2, lV2⟩
    · exact subCons (by k_mem) (subCons (by k_mem) (subCons (by k_mem) (subCons (by k_mem) (subCons (by k_mem) fun _ h => by cases h)))) q hq
    · simp only [List.mem_cons, List.not_mem_nil, or_false] at hq
      rcases hq with rfl | rfl | rfl | rfl | rfl
      · exact (not_T (off_mid od v1 m2)).1.2
      · exact (not_T (off_mid od e10 m3)).1.2
      · exact (not_T cN0).1.2
      · exact (not_T (off_low od s4 (Nat.ne_of_gt (Nat.lt_trans u3 e2)) (Nat.ne_of_gt (Nat.lt_trans u2 e2)))).1.2
      · exact (not_T cA0).1.2
theorem lims_two {w : World} {a : Ad} {A : Int} {W1 W2 : Wld} {n z k n1 n2 n3 : Nat} {h₀ h : Heap} {L l x1 x2 x3 d1 d2 d3 st : Addr} {hd nw : Addr × Obj} {rest R : List (Addr × Obj)} {h1 h2 h3 : Int} {t1 t2 t3 : Tok} (Z : Two w a A ([hd, nw].map (·.1)) rest R W1 W2 n z)
    (N : News h₀ L h ((l, listOf #[.ref x1, .ref x2, .ref x3] k) :: (x3, instObj 296 d3) :: (d3, dictOf [⟨h3, .str (Str.ofString "storage") t3, .ref st⟩] n3) :: (x2, instObj 202 d2) :: (d2, dictOf [⟨h2, .str (Str.ofString "storage") t2, .ref st⟩] n2) :: (x1, instObj 241 d1) :: (d1, dictOf [⟨h1, .str (Str.ofString "storage") t1, .ref st⟩] n1) :: hd :: nw :: rest))
    (al : AllLt d1 (hd :: nw :: rest)) (o1 : @LT.lt Nat _ d1 x1) (o2 : @LT.lt Nat _ d1 d2) (o3 : @LT.lt Nat _ d2 x2) (o4 : @LT.lt Nat _ d2 d3) (o5 : @LT.lt Nat _ d3 x3) (o6 : @LT.lt Nat _ d3 l) :
    ∃ rest' R', News h₀ L h (hd :: nw :: rest') ∧ Two w a A ([hd, nw].map (·.1)) rest' R' W1 W2 n z ∧ (∀ q ∈ R, q ∈ R') ∧ ∀ S X V, (∀ q ∈ R', Off S X V q.1) → LimsAt R' S X V l st := by
  have f : ∀ {b : Addr}, @LE.le Nat _ d1 b → b ∉ [hd, nw].map (·.1) ++ a.T := fun {b} hb => Z.fresh (own := [hd, nw]) (allLt_of fun p hp => Nat.lt_of_lt_of_le (allLt_mem al p hp) hb)
  have o7 := Nat.lt_trans o2 o4
  refine ⟨_, _, news_of N ?_, ((((((Z.add (q := (d1, dictOf [⟨h1, .str (Str.ofString "storage") t1, .ref st⟩] n1)) (f (Nat.le_refl _))).add (q := (x1, instObj 241 d1)) (f (Nat.le_of_lt o1))).add (q := (d2, dictOf [⟨h2, .str (Str.ofString "storage") t2, .ref st⟩] n2)) (f (Nat.le_of_lt o2))).add (q := (x2, instObj 202 d2)) (f (Nat.le_of_lt (Nat.lt_trans o2 o3)))).add (q := (d3, dictOf [⟨h3, .str (Str.ofString "storage") t3, .ref st⟩] n3)) (f (Nat.le_of_lt o7))).add (q := (x3, instObj 296 d3)) (f (Nat.le_of_lt (Nat.lt_trans o7 o5)))).add (q := (l, listOf #[.ref x1, .ref x2, .ref x3] k)) (f (Nat.le_of_lt (Nat.lt_trans o7 o6))), fun q hq => ?_, fun S X V ho => ?_⟩
  · iterate 9 (refine subCons (by repeat (first | exact List.Mem.head _ | refine List.Mem.tail _ ?_)) ?_)
    exact fun q hq => by repeat (first | exact hq | refine List.Mem.tail _ ?_)
  · repeat (first | exact hq | refine List.Mem.tail _ ?_)
  · refine ⟨x1, x2, x3, k, by k_mem, ⟨d1, h1, t1, n1, by k_mem, by k_mem, ho (x1, instObj 241 d1) (by k_mem), ho (d1, dictOf _ _) (by k_mem)⟩, ⟨d2, h2, t2, n2, by k_mem, by k_mem, ho (x2, instObj 202 d2) (by k_mem), ho (d2, dictOf _ _) (by k_mem)⟩, ⟨d3, h3, t3, n3, by k_mem, by k_mem, ho (x3, instObj 296 d3) (by k_mem), ho (d3, dictOf _ _) (by k_mem)⟩⟩
theorem item_two {w : World} {a : Ad} {A : Int} {W1 W2 : Wld} {n z : Nat} {h₀ h : Heap} {L : Addr} {i1 i2 hd nw : Addr × Obj} {rest R : List (Addr × Obj)} (Z : Two w a A ([hd, nw].map (·.1)) rest R W1 W2 n z)
    (N : News h₀ L h (i1 :: i2 :: hd :: nw :: rest)) (al : AllLt i2.1 (hd :: nw :: rest)) (h2 : @LT.lt Nat _ i2.1 i1.1) :
    ∃ rest' R', News h₀ L h (hd :: nw :: rest') ∧ Two w a A ([hd, nw].map (·.1)) rest' R' W1 W2 n z ∧ (∀ q ∈ R, q ∈ R') ∧ i1 ∈ R' ∧ i2 ∈ R' := by
  have f : ∀ {b : Addr}, @LE.le Nat _ i2.1 b → b ∉ [hd, nw].map (·.1) ++ a.T := fun {b} hb => Z.fresh (own := [hd, nw]) (allLt_of fun p hp => Nat.lt_of_lt_of_le (allLt_mem al p hp) hb)
  refine ⟨_, _, news_of N ?_, (Z.add (f (Nat.le_refl _))).add (f (Nat.le_of_lt h2)), fun q hq => .tail _ (.tail _ hq), .head _, .tail _ (.head _)⟩
  iterate 4 (refine subCons (by repeat (first | exact List.Mem.head _ | refine List.Mem.tail _ ?_)) ?_)
  exact fun q hq => by repeat (first | exact hq | refine List.Mem.tail _ ?_)

end
section
-- only 2
theorem said_p_law2main : True := by
  k_with "exec For Name Call cons nil" => (k_here; (fail_if_success (fail_if_success (have := (by with_reducible assumption : Mk 178)))); with_reducible refine holdW ?_)
  k_with "call ref" => (k_here; (fail_if_success (fail_if_success (have := (by with_reducible assumption : Mk 178)))); (with_reducible show wpAny _ _ (call (Value.ref 700) _) _ _ _); (fail_if_success (have := (by assumption : Mk 1))); with_reducible refine holdW ?_)
  k_with "exec Assign" => (k_here; (fail_if_success (fail_if_success (have := (by with_reducible assumption : Mk 178)))); first
      | ((with_reducible show wpAny _ _ (exec (.Assign [.Name (Str.ofString "small") _] _ _) _) _ _ _); (fail_if_success (have := (by assumption : Mk 11))); with_reducible refine holdW ?_)
      | ((with_reducible show wpAny _ _ (exec (.Assign [.Name (Str.ofString "great") _] _ _) _) _ _ _); (fail_if_success (have := (by assumption : Mk 12))); with_reducible refine holdW ?_)
      | ((with_reducible show wpAny _ _ (exec (.Assign [.Name (Str.ofString "seconds") _] _ _) _) _ _ _); (fail_if_success (have := (by assumption : Mk 13))); with_reducible refine holdW ?_)
      | ((with_reducible show wpAny _ _ (exec (.Assign [.Name (Str.ofString "minutes") _] _ _) _) _ _ _); (fail_if_success (have := (by assumption : Mk 14))); with_reducible refine holdW ?_)
      | ((with_reducible show wpAny _ _ (exec (.Assign [.Name (Str.ofString "item") _] _ _) _) _ _ _); (fail_if_success (have := (by assumption : Mk 15))); with_reducible refine holdW ?_)
      | ((with_reducible show wpAny _ _ (exec (.Assign [.Name (Str.ofString "other") _] _ _) _) _ _ _); (fail_if_success (have := (by assumption : Mk 16))); with_reducible refine holdW ?_))
  trivial
theorem small7 {v : Int} (h : 0 ≤ v ∧ v < 7) : 0 ≤ 1 + v ∧ 1 + v < 1000 := ⟨by omega, by omega⟩
theorem small6 {v : Int} (h : 0 ≤ v ∧ v < 6) : 0 ≤ v ∧ v < 1000 := ⟨h.1, by omega⟩
theorem law_zero {am v v' : Int} (ham : 0 ≤ am ∧ am < 6) (h7 : 0 ≤ v ∧ v < 7) (h9 : 0 ≤ v' ∧ v' < 9) : Law am (1 + v) (1 + v') (60 * (1 + v) * (1 + v')) (1 + v + 1) := ⟨⟨ham.1, by omega⟩, ⟨by omega, by omega⟩, ⟨by omega, by omega⟩, rfl, by omega, by omega⟩
theorem t0_le {v : Int} (h : 0 ≤ v ∧ v < 7) : 1 + v + 1 ≤ 14 := by omega
theorem law_main : PySem.Challenge.rw_ji0060_02.Holds := by
  have mkp : Mk 178 := trivial
  refine Mine.hd1 ?_
  k_go0
  (all_goals try k_fold)
  k_steps
  refine Hold.mk ?_
  rename_i w s0 s1 mg mb G Y fd od pm doc ho hg XX VV TT BB TE TW hcd rs hs hlay0 hL0 hr0 hl2 w33 w32 scr rv w29 hL ra w1 r0 hI hr1 hcond hc2 hD g1 tk1 ocN ocA lN lA X0 KXg TTg BBg cd1 cd2 l0 hand g6 l1 g3 F' N'
  have hl6 : rv.length ≤ 63 := by
    have := hI.length
    omega
  have mk1 : Mk 1 := trivial
  replace N' : News _ _ _ ((hand, listOf #[.ref scr, .int ((0 : Nat) : Int) _] 0) :: _) := N'
  clear G Y hcd hL ra w1 r0 hr1 hD X0 TE TW BB XX VV TT hT8 ho
  k_steps
  refine Hold.mk ?_
  rename_i z29 am ram z26 z25 z24 ham z22 z21 v7 r7 z18 z17 z16 h7 z14 z13 z12 oA dA z9 nowl z7 lnow z5 oN F' N' dN
  have mk11 : Mk 11 := trivial
  k_steps
  refine Hold.mk ?_
  rename_i clk1 cr1 oc1 vs1 tq1 ct1 z36 z35 dc1 dv1 o1 o2 V1 X1 S1 st1 dx1 oV1 oX1 oS1 z22 z21 z20 z19 z18b z17b z16b z15 z14b o3 o4 o5 o6 dS1 dX1 dV1 lS1 lX1 lV1 z3 F2 N2
  have y1 : @LT.lt Nat _ 723 dx1 := by walk_at "m lt"
  have y2 : @LT.lt Nat _ 723 cr1 := by walk_at "m lt"
  have y7 : @LT.lt Nat _ 723 clk1 := Nat.lt_trans y2 o2
  have y3 : @LT.lt Nat _ 723 st1 := Nat.lt_trans y1 o3
  have y4 : @LT.lt Nat _ 723 S1 := Nat.lt_trans y3 o4
  have y5 : @LT.lt Nat _ 723 X1 := Nat.lt_trans y4 o5
  have y6 : @LT.lt Nat _ 723 V1 := Nat.lt_trans y5 o6
  have mk12 : Mk 12 := trivial
  k_steps
  refine Hold.mk ?_
  rename_i clk2 cr2 oc2 vs2 tq2 ct2 y36 y35 dc2 dv2 q1 q2 V2 X2 S2 st2 dx2 oV2 oX2 oS2 y22 y21 y20 y19 y18 y17 y16 y15 y14 q3 q4 q5 q6 dS2 dX2 dV2 lS2 lX2 lV2 y3 F3 N3
  obtain ⟨rest, R, N4, Z, mN, mA, mT⟩ := start_two (A := 60 * (1 + v7) * (1 + v')) N3 rfl rfl ⟨_, _, _, _, rfl⟩ ⟨_, _, _, _, rfl⟩ (fun t tt => clock_of rfl rfl rfl dc1 dv1 dN) (fun t tt => clock2_of rfl rfl rfl dc2 dv2 dN dA) dS1 dX1 dV1 dS2 dX2 dV2 lS1 lX1 lV1 lS2 lX2 lV2
    (Nat.lt_succ_of_lt l0.2.2.1) (by walk_at "m lt") (by walk_at "m lt") (by walk_at "m lt") (by walk_at "m lt") (by walk_at "m lt") (by walk_at "m lt") (by walk_at "m lt") (by walk_at "m lt") (by walk_at "m lt") (by walk_at "m lt") (by walk_at "m lt") (by walk_at "m lt") (by walk_at "m lt") (by walk_at "m lt") (by walk_at "m lt") (by walk_at "m lt")
  have mk13 : Mk 13 := trivial
  clear N3 la' o1 o2 o3 o4 o5 o6 q1 q2 q3 q4 q5 q6 dc1 dc2 dv1 dv2 dS1 dX1 dV1 dS2 dX2 dV2 lS1 lX1 lV1 lS2 lX2 lV2
  k_steps
  refine Hold.mk ?_
  rename_i lims1 a1 a2 a3 b1 b2 b3 w17 w16 w15 w14 w13 w12 w11 w10 w9 w8 p1 p2 p3 p4 p5 p6 w3 F4 N5
  obtain ⟨rest2, R2, N6, Z2, up2, LA1⟩ := lims_two Z N5 la' p1 p2 p3 p4 p5 p6
  have LS1 := LA1 _ _ _ Z2.off1.1
  have mk14 : Mk 14 := trivial
  clear N5 la' p1 p2 p3 p4 p5 p6 LA1
  k_steps
  refine Hold.mk ?_
  rename_i lims2 a1 a2 a3 b1 b2 b3 x17 x16 x15 x14 x13 x12 x11 x10 x9 x8 p1 p2 p3 p4 p5 p6 x3 F5 N7
  obtain ⟨rest3, R3, N8, Z3, up3, LA2⟩ := lims_two Z2 N7 la' p1 p2 p3 p4 p5 p6
  have LS2 := LA2 _ _ _ Z3.off1.2
  have mk15 : Mk 15 := trivial
  clear N7 la' p1 p2 p3 p4 p5 p6 LA2
  k_steps
  refine Hold.mk ?_
  rename_i it1 ix1 u10 u9 u8 u7 u6 u5 u4 u3 u2 u1 lt1 u0 F6 N9
  obtain ⟨rest4, R4, N10, Z4, up4, mi1, md1⟩ := item_two Z3 N9 la' lt1
  have IT1 : ItemAt R4 S1 X1 V1 it1 true (Str.ofString "LIMITER") am (1 + v7) := ⟨⟨_, _, _, _, _, _, _, _, _, _, _, mi1, md1, Z4.off1.1 _ mi1, Z4.off1.1 _ md1⟩, small7 h7, small6 ham, by decide⟩
  have mk16 : Mk 16 := trivial
  clear N9 la' lt1 mi1 md1
  k_steps
  refine Hold.mk ?_
  rename_i it2 ix2 v10 v9 v8 v7b v6 v5 v4 v3 v2 v1 lt2 v0 F7 N11
  obtain ⟨rest5, R5, N12, Z5, up5, mi2, md2⟩ := item_two Z4 N11 la' lt2
  have IT2 : ItemAt R5 S2 X2 V2 it2 false (Str.ofString "other") am (1 + v7) := ⟨⟨_, _, _, _, _, _, _, _, _, _, _, mi2, md2, Z5.off1.2 _ mi2, Z5.off1.2 _ md2⟩, small7 h7, small6 ham, by decide⟩
  have upA : ∀ q ∈ R, q ∈ R5 := fun q hq => up5 q (up4 q (up3 q (up2 q hq)))
  have HN : @Ne Nat hand nowl := Nat.ne_of_lt (by walk_at "m lt")
  have CST : Cst ⟨nowl, st1, S1, X1, V1, clk1, st2, S2, X2, V2, clk2⟩ ⟨hand, lims1, lims2, it1, it2, scr⟩ s1.heap.objs.size R5 rv 0 am (1 + v7) (60 * (1 + v7) * (1 + v')) := ⟨LS1.up fun q hq => up5 q (up4 q (up3 q hq)), LS2.up fun q hq => up5 q (up4 q hq), IT1.sub fun q hq _ => up5 q hq, IT2, ⟨oA, _, upA _ mA, dA⟩, ⟨oN, upA _ mN, dN⟩, ⟨_, upA _ mT⟩, HN⟩
  refine' law_go2 (o := ⟨hand, lims1, lims2, it1, it2, scr⟩) (c := 1 + v') BBg KXg TTg KXg TTg cd2 cd1 ?eA ?ee ?ef Z5 CST ⟨⟨fun _ => rfl, fun _ => rfl, fun _ => rfl⟩, fun _ => ⟨Int.le_refl _, Int.le_refl _⟩, fun _ => ⟨Int.le_refl _, Int.le_refl _⟩⟩ ⟨rfl, ⟨_, rfl⟩, ⟨_, rfl⟩, rfl, rfl, rfl, rfl, rfl, rfl⟩ (law_zero ham h7 hv') (t0_le h7) (by k_asm) N12 (by assumption) hI hl6 ?hd ?hu ?_
  case eA => exact rfl
  case ee => exact rfl
  case ef => exact rfl
  case hd => exact Nat.le_of_ble_eq_true rfl
  case hu => exact Nat.le_of_ble_eq_true rfl
  intro m9 h9 tk9 p1 p2 p3 F9 N9
  k_steps

end
end Mine
theorem PySem.Challenge.cw_ji0060_02_holds : PySem.Challenge.rw_ji0060_02.Holds :=
  Mine.law_main
