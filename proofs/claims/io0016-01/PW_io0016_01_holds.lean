import PyProof.Rows.All
import Wide.All
import OpenK.AllK
import Wide.FinOn
import PySem.Challenge.RW_io0016_01
open PySem PySem.W PyProof.Rows PySem.Calls
set_option Elab.async false
set_option maxRecDepth 100000
set_option maxHeartbeats 0
set_option linter.all false
set_option compiler.extract_closed false
namespace Mine
theorem keepH {P Q : Prop} (_h : P) (x : Q) : Q := x
theorem hd0.tw1375262684347379207 : True := trivial
theorem hd0.tw10303764507067713899 : True := trivial
theorem hd0.tw2872812170981058569 : True := trivial
theorem hd0.tw10723922006311710736 : True := trivial
theorem hd0.tw14021055141070710606 : True := trivial
theorem hd0.tw14487139744964632365 : True := trivial
theorem hd0.tw10149802362480845029 : True := trivial
theorem hd0.tw1518506674936647977 : True := trivial
theorem hd0.tw13217684995027032630 : True := trivial
theorem hd0.tw9350189047948982526 : True := trivial
theorem hd0.tw16750043228204490200 : True := trivial
theorem hd0.tw10814769371655772984 : True := trivial
theorem hd0.tw6735293684138622227 : True := trivial
theorem hd0.tw12147996589184577172 : True := trivial
theorem hd0.tw9196747448967708440 : True := trivial
theorem hd0.tw7411486192677902461 : True := trivial
theorem hd0.tw2784943137000400733 : True := trivial
theorem hd0.tw3661234270040251926 : True := trivial
theorem hd0.tw3747712849314805408 : True := trivial
theorem hd0.tw16774408987274448967 : True := trivial
theorem hd0.tw15869973408931263635 : True := trivial
theorem hd0.tw2016827443154740309 : True := trivial
theorem hd0.tw10491469646288767803 : True := trivial
theorem hd0.tw15831171743623682919 : True := trivial
theorem hd0.tw2383729879048398324 : True := trivial
theorem hd0.tw8594871938598894968 : True := trivial
theorem hd0.tw10132351994881325283 : True := trivial
theorem hd0.tw12782906062734576069 : True := trivial
theorem hd0.tw12597194962154828235 : True := trivial
theorem hd0.tw15268960279962314127 : True := trivial
theorem hd0.tw15619024319541896215 : True := trivial
theorem hd0.tw18223762902024039872 : True := trivial
theorem hd0.tw9009024434928177708 : True := trivial
theorem hd0.tw10503709371940017752 : True := trivial
theorem hd0.tw7813299164717161171 : True := trivial
theorem hd0.tw11820883447104548043 : True := trivial
theorem hd0.tw16630439451458259600 : True := trivial
theorem hd0.tw17829553409135483565 : True := trivial
theorem hd0.tw4863585562482331352 : True := trivial
theorem hd0.tw4844681147772692240 : True := trivial
theorem hd0.tw5335961001239398031 : True := trivial
theorem hd0.tw10744449192263019384 : True := trivial
theorem hd0.tw331628784947812702 : True := trivial
theorem hd0.tw1365180102177621444 : True := trivial
theorem hd0.tw15448165089001381462 : True := trivial
theorem hd0.tw13211415182599559299 : True := trivial
theorem hd0.tw7100211628138823865 : True := trivial
theorem hd0.tw1183779124595401389 : True := trivial
theorem hd0.tw9969131603278301885 : True := trivial
theorem hd0.tw4837166207565515596 : True := trivial
theorem hd0.tw8875511319396079678 : True := trivial
theorem hd0.tw8960613956666872510 : True := trivial
theorem hd0.tw11365379638830884646 : True := trivial
theorem hd0.tw15518956914886057447 : True := trivial
theorem hd0.tw11430031101063040698 : True := trivial
theorem hd0.tw1590961693508897318 : True := trivial
theorem hd0.tw17722053733499128653 : True := trivial
theorem hd0.tw12373861993414759923 : True := trivial
theorem hd0.tw18181358873663476161 : True := trivial
theorem hd0.tw14639105927490317803 : True := trivial
theorem hd0.tw7647748658271166302 : True := trivial
theorem hd0.tw8554302084972870007 : True := trivial
theorem hd0.tw18002561261500444404 : True := trivial
theorem hd0.tw3656915063133553796 : True := trivial
theorem hd0.tw7901374918944302208 : True := trivial
theorem hd0.tw13603292732706185467 : True := trivial
theorem hd0.tw7624967707302685171 : True := trivial
theorem hd0.tw9676609535516023104 : True := trivial
theorem hd0.tw853118346427990164 : True := trivial
theorem hd0.tw23555547936787307 : True := trivial
theorem hd0.tw11308042944084757285 : True := trivial
theorem hd0.tw18132021507681513943 : True := trivial
theorem hd0.tw13466156092764711330 : True := trivial
theorem hd0.tw13448030069886874203 : True := trivial
theorem hd0.tw10393908993143055013 : True := trivial
theorem hd0.tw18014109133797036802 : True := trivial
theorem hd0.tw15088191589645053677 : True := trivial
theorem hd0.tw7025202256138144187 : True := trivial
theorem hd0.tw8754009953660106693 : True := trivial
theorem hd0.tw14235792093778891091 : True := trivial
theorem hd0.tw7661634995068771937 : True := trivial
theorem hd0.tw1551963560406537267 : True := trivial
theorem hd0.tw14861641958691549802 : True := trivial
theorem hd0.tw6335202090338327541 : True := trivial
theorem hd0.tw13623760402569946697 : True := trivial
theorem hd0.tw2231969134011142429 : True := trivial
theorem hd0.tw4550181199752876123 : True := trivial
theorem hd0.tw17867009037997991098 : True := trivial
theorem hd0.tw604634377279489869 : True := trivial
theorem hd0.tw3013714066238648074 : True := trivial
theorem hd0.tw18193715791570402502 : True := trivial
theorem hd0.tw16571551117051735531 : True := trivial
theorem hd0.tw2501708249136197585 : True := trivial
theorem hd0.tw128765862766309159 : True := trivial
theorem hd0.tw15591993113856920609 : True := trivial
theorem hd0.tw17082410690507665343 : True := trivial
theorem hd0.tw7459739197677115627 : True := trivial
theorem hd0.tw17623544462552871726 : True := trivial
theorem hd0.tw11181648368897815373 : True := trivial
theorem hd0.tw16028455820238573312 : True := trivial
theorem hd0.tw3989645197831550810 : True := trivial
theorem hd0.tw4565971540986283311 : True := trivial
theorem hd0.tw531734861581133725 : True := trivial
theorem hd0.tw18187125663206723280 : True := trivial
theorem hd0.tw17737160182414235685 : True := trivial
theorem hd0.tw7813472547110621908 : True := trivial
theorem hd0.tw15527896381196283274 : True := trivial
theorem hd0.tw5002959108212278837 : True := trivial
theorem hd0.tw6643238626148955698 : True := trivial
theorem hd0.tw3386342240895103898 : True := trivial
theorem hd0.tw10618068727600506003 : True := trivial
theorem hd0.tw8074124866582550336 : True := trivial
theorem hd0.tw15641321228830284218 : True := trivial
theorem hd0.tw9727904158323639587 : True := trivial
theorem hd0.tw17086850646899830195 : True := trivial
theorem hd0.tw15123178936667157329 : True := trivial
theorem hd0.tw6970413240147211071 : True := trivial
theorem hd0.tw14075824556423491468 : True := trivial
theorem hd0.tw3029492749742214423 : True := trivial
theorem hd0.tw2338661219346607142 : True := trivial
theorem hd0.tw1475304349973669663 : True := trivial
theorem hd0.tw9335733902276054739 : True := trivial
theorem hd0.tw10492566004769852446 : True := trivial
theorem hd0.tw16755963035389361365 : True := trivial
theorem hd0.tw12228551606532871243 : True := trivial
theorem hd0.tw8949706268969921140 : True := trivial
theorem hd0.tw16767606746175080794 : True := trivial
theorem hd0.tw13928960187139052358 : True := trivial
theorem hd0.tw2687646008576725615 : True := trivial
theorem hd0.tw7392214267524079753 : True := trivial
theorem hd0.tw5873444610005042059 : True := trivial
theorem hd0.tw1834425513380289542 : True := trivial
theorem hd0.tw10580850443520354565 : True := trivial
theorem hd0.tw18417533104591915399 : True := trivial
theorem hd0.tw10887947264185391600 : True := trivial
theorem hd0.tw813979678902712761 : True := trivial
theorem hd0.tw9782851373565495654 : True := trivial
theorem hd0.tw12444961275141217708 : True := trivial
theorem hd0.tw1144143789490447932 : True := trivial
theorem hd0.tw16198484163126875267 : True := trivial
theorem hd0.tw8153864810656952390 : True := trivial
theorem hd0.tw8927253377167602814 : True := trivial
theorem hd0.tw8599271267433743130 : True := trivial
theorem hd0.tw18029647058404251565 : True := trivial
theorem hd0.tw2209311243530579885 : True := trivial
theorem hd0.tw9000519810538458664 : True := trivial
theorem hd0.tw13659286822101904703 : True := trivial
theorem hd0.tw8337394261731467649 : True := trivial
theorem hd0.tw16895728874936864520 : True := trivial
theorem hd0.tw11296317026604976579 : True := trivial
theorem hd0.tw16301574502956040306 : True := trivial
theorem hd0.tw7509024013427846876 : True := trivial
theorem hd0.tw5733938324154558625 : True := trivial
theorem hd0.tw5126221845415556243 : True := trivial
theorem hd0.tw14093157216104440008 : True := trivial
theorem hd0.tw10002533553193398105 : True := trivial
theorem hd0.tw16365566390013637118 : True := trivial
theorem hd0.tw3563615170915498410 : True := trivial
theorem hd0.tw6377699006081744717 : True := trivial
theorem hd0.tw13577277159168887395 : True := trivial
theorem hd0.tw650764759088172349 : True := trivial
theorem hd0.tw3675030493021107539 : True := trivial
theorem hd0.tw10292908023762794824 : True := trivial
theorem hd0.tw6373082451131381598 : True := trivial
theorem hd0.tw3312010497218140350 : True := trivial
theorem hd0.tw17786910188799959598 : True := trivial
theorem hd0.tw11576775778545172285 : True := trivial
theorem hd0.tw11755975431427394800 : True := trivial
theorem hd0.tw14603959579512878001 : True := trivial
theorem hd0.tw3621700684448570726 : True := trivial
theorem hd0.tw2165592391872466872 : True := trivial
theorem hd0.tw6649401386675659039 : True := trivial
theorem hd0.tw6037395191439753478 : True := trivial
theorem hd0.tw6356469969929041508 : True := trivial
theorem hd0.tw1488204691477743588 : True := trivial
theorem hd0.tw13922637015292102071 : True := trivial
theorem hd0.tw10503024840860351546 : True := trivial
theorem hd0.tw9876571047126209693 : True := trivial
theorem hd0.tw15285732915602563119 : True := trivial
theorem hd0.tw2608932476726398850 : True := trivial
theorem hd0.tw10933576030941136536 : True := trivial
theorem hd0.tw11029836979957672374 : True := trivial
theorem hd0.tw6865537962405302380 : True := trivial
theorem hd0.tw11412956714562609128 : True := trivial
theorem hd0.tw7813450891554970480 : True := trivial
theorem hd0.tw16431498593632110859 : True := trivial
theorem hd0.tw7231820041922958907 : True := trivial
theorem hd0.tw10830089992145084977 : True := trivial
theorem hd0.tw17859833425057896437 : True := trivial
theorem hd0.tw13678276268131879810 : True := trivial
theorem hd0.tw5114147670152069268 : True := trivial
theorem hd0.tw6666407121477314294 : True := trivial
theorem hd0.tw14340105699337645606 : True := trivial
theorem hd0.tw866052350247734544 : True := trivial
theorem hd0.tw3916845027228922920 : True := trivial
theorem hd0.tw12409467009147787687 : True := trivial
theorem hd0.tw15443381266786982907 : True := trivial
theorem hd0.tw7390645474658143844 : True := trivial
theorem hd0.tw16525260533316701726 : True := trivial
theorem hd0.tw7229917578151477948 : True := trivial
theorem hd0.tw12873391810297473985 : True := trivial
theorem hd0.tw8598425793388345247 : True := trivial
theorem hd0.tw9725568354258827058 : True := trivial
theorem hd0.tw11948391863121829680 : True := trivial
theorem hd0.tw3722228432912915475 : True := trivial
theorem hd0.tw15731151768614366534 : True := trivial
theorem hd0.tw4391692523707318633 : True := trivial
theorem hd0.tw3690656114607147001 : True := trivial
theorem hd0.tw12268223691021370271 : True := trivial
theorem hd0.tw13446547845216387538 : True := trivial
theorem hd0.tw4318188650942476724 : True := trivial
theorem hd0.tw3621430464401106250 : True := trivial
theorem hd0.tw8763371873546927140 : True := trivial
theorem hd0.tw362716802203217655 : True := trivial
theorem hd0.tw2565971739659675712 : True := trivial
theorem hd0.tw11390192599005771527 : True := trivial
theorem hd0.tw1205914566481716006 : True := trivial
theorem hd0.tw3600587698864076106 : True := trivial
theorem hd0.tw1362819319302978360 : True := trivial
theorem hd0.tw6340052408291781255 : True := trivial
theorem hd0.tw8186241904821500230 : True := trivial
theorem hd0.tw8305778741693176855 : True := trivial
theorem hd0.tw8233745572026064868 : True := trivial
theorem hd0.tw7985119057070621366 : True := trivial
theorem hd0.tw343811383156613609 : True := trivial
theorem hd0.tw11491946714360432499 : True := trivial
theorem hd0.tw14579534617364241135 : True := trivial
theorem hd0.tw10634596171566202634 : True := trivial
theorem hd0.tw718166983513594776 : True := trivial
theorem hd0.tw12694689462161943342 : True := trivial
theorem hd0.tw1187999500153498103 : True := trivial
theorem hd0.tw9470423725204521648 : True := trivial
theorem hd0.tw1603665911064783636 : True := trivial
theorem hd0.tw15609325245917951174 : True := trivial
theorem hd0.tw906593335335552129 : True := trivial
theorem hd0.tw13756218869800782745 : True := trivial
theorem hd0.tw2554540431761452033 : True := trivial
theorem hd0.tw8112656997159571559 : True := trivial
theorem hd0.tw10379799592565830532 : True := trivial
theorem hd0.tw2514137268827183933 : True := trivial
theorem hd0.tw9580547132216693907 : True := trivial
theorem hd0.tw18335252773586929734 : True := trivial
theorem hd0.tw9352963086853801191 : True := trivial
theorem hd0.tw4226760713681485768 : True := trivial
theorem hd0.tw12407471169438301300 : True := trivial
theorem hd0.tw17361713521701135883 : True := trivial
theorem hd0.tw8058073264152491270 : True := trivial
theorem hd0.tw583002641797312913 : True := trivial
theorem hd0.tw6188963704207134637 : True := trivial
theorem hd0.tw7457500138489984130 : True := trivial
theorem hd0.tw12587505142821247206 : True := trivial
theorem hd0.tw8876909655073085720 : True := trivial
theorem hd0.tw13889109113421725663 : True := trivial
theorem hd0.tw17790787992206791954 : True := trivial
theorem hd0.tw9075254118826134266 : True := trivial
theorem hd0.tw14364967241312749879 : True := trivial
theorem hd0.tw12153063788742462072 : True := trivial
theorem hd0.tw8992254012652228504 : True := trivial
theorem hd0.tw14388155910466875917 : True := trivial
theorem hd0.tw12614890276569999364 : True := trivial
theorem hd0.tw2695544995388774674 : True := trivial
theorem hd0.tw3782258482573799087 : True := trivial
theorem hd0.tw4710665264319983320 : True := trivial
theorem hd0.tw17218366304099391327 : True := trivial
theorem hd0.tw14499517151562117323 : True := trivial
theorem hd0.tw10777955909626053307 : True := trivial
theorem hd0.tw12782592981888142045 : True := trivial
theorem hd0.tw11566703737896327347 : True := trivial
theorem hd0.tw13121733766356741656 : True := trivial
theorem hd0.tw13078831570623857938 : True := trivial
theorem hd0.tw6459672860993969013 : True := trivial
theorem hd0.tw15982602473184270418 : True := trivial
theorem hd0.tw15712487307307744256 : True := trivial
theorem hd0.tw4847302631466409233 : True := trivial
theorem hd0.tw14685729338545223751 : True := trivial
theorem hd0.tw6329106405573565223 : True := trivial
theorem hd0.tw598268545142792837 : True := trivial
theorem hd0.tw11573459230172034977 : True := trivial
theorem hd0.tw10252399226219595473 : True := trivial
theorem hd0.tw2518371160217320815 : True := trivial
theorem hd0.tw1971320624210952568 : True := trivial
theorem hd0.tw15995804067636364527 : True := trivial
theorem hd0.tw4623815408198608848 : True := trivial
theorem hd0.tw10709187572524286211 : True := trivial
theorem hd0.tw14957154841320539777 : True := trivial
theorem hd0.tw433790907486475696 : True := trivial
theorem hd0.tw312371768022596753 : True := trivial
theorem hd0.tw17139231938077118010 : True := trivial
theorem hd0.tw961968547571948100 : True := trivial
theorem hd0.tw1662191003187496389 : True := trivial
theorem hd0.tw8544571164491496067 : True := trivial
theorem hd0.tw254051294966590691 : True := trivial
theorem hd0.tw958475153200841342 : True := trivial
theorem hd0.tw4669896520831272649 : True := trivial
theorem hd0.tw14920233826124440266 : True := trivial
theorem hd0.tw12012829099087328478 : True := trivial
theorem hd0.tw7097733212673936463 : True := trivial
theorem hd0.tw9337144710171572284 : True := trivial
theorem hd0.tw3279502238933771309 : True := trivial
theorem hd0.tw1601430817000102872 : True := trivial
theorem hd0.tw13489637132011790312 : True := trivial
theorem hd0.tw8369154821587375052 : True := trivial
theorem hd0.tw5401610893095072657 : True := trivial
theorem hd0.tw4926286797892500696 : True := trivial
theorem hd0.tw10386147554455777393 : True := trivial
theorem hd0.tw17499519199778731725 : True := trivial
theorem hd0.tw17510890250615633438 : True := trivial
theorem hd0.tw15182848642470654576 : True := trivial
theorem hd0.tw5638641829980379199 : True := trivial
theorem hd0.tw14559225878366983222 : True := trivial
theorem hd0.tw13008693350213662659 : True := trivial
theorem hd0.tw370199300451833306 : True := trivial
theorem hd0.tw14204211841389465748 : True := trivial
theorem hd0.tw13562509470405568383 : True := trivial
theorem hd0.tw3510588101882443079 : True := trivial
theorem hd0.tw2908441613584817654 : True := trivial
theorem hd0.tw17320220327905432538 : True := trivial
theorem hd0.tw14854072064573716536 : True := trivial
theorem hd0.tw15960652031959596643 : True := trivial
theorem hd0.tw9379764213424600613 : True := trivial
theorem hd0.tw16061034663161859022 : True := trivial
theorem hd0.tw15059791807460991329 : True := trivial
theorem hd0.tw8744799855244363821 : True := trivial
theorem hd0.tw8591475099102576827 : True := trivial
theorem hd0.tw5653807250422141390 : True := trivial
theorem hd0.tw3640104315449746964 : True := trivial
theorem hd0.tw2943644995398673874 : True := trivial
theorem hd0.tw14113450025970647078 : True := trivial
theorem hd0.tw5183287317551438745 : True := trivial
theorem hd0.tw187174214298805549 : True := trivial
theorem hd0.tw4398250310069599871 : True := trivial
theorem hd0.tw5695787204287215908 : True := trivial
theorem hd0.tw16403410677777138306 : True := trivial
theorem hd0.tw11969740264975297851 : True := trivial
theorem hd0.tw16359068667507567149 : True := trivial
theorem hd0.tw11398778492500726211 : True := trivial
theorem hd0.tw3771890792122485445 : True := trivial
theorem hd0.tw16542910159113106095 : True := trivial
theorem hd0.tw11189643158513258524 : True := trivial
theorem hd0.tw9535579791041092117 : True := trivial
theorem hd0.tw10333060912094001937 : True := trivial
theorem hd0.tw5159250559465167043 : True := trivial
theorem hd0.tw18109592980269106479 : True := trivial
theorem hd0.tw12479874498104903323 : True := trivial
theorem hd0.tw7354701167313793869 : True := trivial
theorem hd0.tw652282752084844376 : True := trivial
theorem hd0.tw16829682469530786736 : True := trivial
theorem hd0.tw10542246809792872130 : True := trivial
theorem hd0.tw16442005441021435058 : True := trivial
theorem hd0.tw4659159844527763520 : True := trivial
theorem hd0.tw14505353133654077292 : True := trivial
theorem hd0.tw17043531303389682065 : True := trivial
theorem hd0.tw12933712334415985070 : True := trivial
theorem hd0.tw16912591420726631485 : True := trivial
theorem hd0.tw18257746293795929508 : True := trivial
theorem hd0.tw11100464626540323511 : True := trivial
theorem hd0.tw7472137731604914006 : True := trivial
theorem hd0.tw4380569165643285772 : True := trivial
theorem hd0.tw11430185815697050131 : True := trivial
theorem hd0.tw15629531751774008224 : True := trivial
theorem hd0.tw15883065056585263411 : True := trivial
theorem hd0.tw13530247089617748910 : True := trivial
theorem hd0.tw6482578442403105137 : True := trivial
theorem hd0.tw720144712482884487 : True := trivial
theorem hd0.tw8335297777619938666 : True := trivial
theorem hd0.tw9174830237209291011 : True := trivial
theorem hd0.tw5992422269020609900 : True := trivial
theorem hd0.tw2919583234286436895 : True := trivial
theorem hd0.tw782809770003755201 : True := trivial
theorem hd0.tw10950088903173055764 : True := trivial
theorem hd0.tw14001474741366258810 : True := trivial
theorem hd0.tw12908725893522906783 : True := trivial
theorem hd0.tw6893306119399275700 : True := trivial
theorem hd0.tw15160129412462929350 : True := trivial
theorem hd0.tw9563851893216371074 : True := trivial
theorem hd0.tw14854373489104356302 : True := trivial
theorem hd0.tw3083394402557924843 : True := trivial
theorem hd0.tw8278581870786564039 : True := trivial
theorem hd0.tw4726919971947161 : True := trivial
theorem hd0.tw12011038524497350756 : True := trivial
theorem hd0.tw1302171585857531649 : True := trivial
theorem hd0.tw614094300208715662 : True := trivial
theorem hd0.tw1450596053491749582 : True := trivial
theorem hd0.tw4133938949911012748 : True := trivial
theorem hd0.tw18347429910245329892 : True := trivial
theorem hd0.tw4330852514070324034 : True := trivial
theorem hd0.tw13531452231456164135 : True := trivial
theorem hd0.tw16922700325854837569 : True := trivial
theorem hd0.tw3198289665323921157 : True := trivial
theorem hd0.tw14956264674194579905 : True := trivial
theorem hd0.tw17454578955422546274 : True := trivial
theorem hd0.tw12426995690151026997 : True := trivial
theorem hd0.tw2169023958597150018 : True := trivial
theorem hd0.tw1002946482901063065 : True := trivial
theorem hd0.tw8542354487490436656 : True := trivial
theorem hd0.tw12042970921518469988 : True := trivial
theorem hd0.tw16033258774272306181 : True := trivial
theorem hd0.tw15861985616469923494 : True := trivial
theorem hd0.tw14335459579210409948 : True := trivial
theorem hd0.tw4487346933534810664 : True := trivial
theorem hd0.tw11618916784774250480 : True := trivial
theorem hd0.tw2997000762272396559 : True := trivial
theorem hd0.tw3968613266054771741 : True := trivial
theorem hd0.tw17509813333448208162 : True := trivial
theorem hd0.tw10858891250968531624 : True := trivial
theorem hd0.tw4335605965721399508 : True := trivial
theorem hd0.tw10216848812171568771 : True := trivial
theorem hd0.tw18220541459941064227 : True := trivial
theorem hd0.tw10992540420993761691 : True := trivial
theorem hd0.tw193424155066682497 : True := trivial
theorem hd0.tw17312371794062739880 : True := trivial
theorem hd0.tw2863537065255238847 : True := trivial
theorem hd0.tw2510589942101626497 : True := trivial
theorem hd0.tw1280484567907817961 : True := trivial
theorem hd0.tw4582842965409387306 : True := trivial
theorem hd0.tw17781076316100833504 : True := trivial
theorem hd0.tw6518245875282815045 : True := trivial
theorem hd0.tw12607126878928665686 : True := trivial
theorem hd0.tw1347409029562170106 : True := trivial
theorem hd0.tw12753557443971426460 : True := trivial
theorem hd0.tw1958745321591857818 : True := trivial
theorem hd0.tw5721069425725921740 : True := trivial
theorem hd0.tw474916242839058 : True := trivial
theorem hd0.tw8412496611741829076 : True := trivial
theorem hd0.tw13407135678810255579 : True := trivial
theorem hd0.tw16613889504466272002 : True := trivial
theorem hd0.tw1830908064365640755 : True := trivial
theorem hd0.tw10950015098503667 : True := trivial
theorem hd0.tw7609028302745033977 : True := trivial
theorem hd0.tw1673108226327096836 : True := trivial
theorem hd0.tw12322794258418571040 : True := trivial
theorem hd0.tw11237116216057311745 : True := trivial
theorem hd0.tw2329996539569397640 : True := trivial
theorem hd0.tw18078784917974338621 : True := trivial
theorem hd0.tw5145303074121384310 : True := trivial
theorem hd0.tw9915369828831269134 : True := trivial
theorem hd0.tw10763176690372330244 : True := trivial
theorem hd0.tw3466419429004618768 : True := trivial
theorem hd0.tw7493280530175958909 : True := trivial
theorem hd0.tw11064160589316715639 : True := trivial
theorem hd0.tw15248397019474160181 : True := trivial
theorem hd0.tw13969635912206726010 : True := trivial
theorem hd0.tw8464541185895156213 : True := trivial
theorem hd0.tw7237386881181516464 : True := trivial
theorem hd0.tw14943190808241422403 : True := trivial
theorem hd0.tw11342738394816991558 : True := trivial
theorem hd0.tw3687058039446345037 : True := trivial
theorem hd0.tw7614193382627860833 : True := trivial
theorem hd0.tw3149825195295114616 : True := trivial
theorem hd0.tw16799398214865156367 : True := trivial
theorem hd0.tw2860899101727606338 : True := trivial
theorem hd0.tw5487660210450000937 : True := trivial
theorem hd0.tw10702419455615826468 : True := trivial
theorem hd0.tw3361144743427637995 : True := trivial
theorem hd0.tw7970355855660570498 : True := trivial
theorem hd0.tw15389241651499710389 : True := trivial
theorem hd0.tw1277909223561221377 : True := trivial
theorem hd0.tw10121685255857489051 : True := trivial
theorem hd0.tw16871336801076393977 : True := trivial
theorem hd0.tw13396925332426190305 : True := trivial
theorem hd0.tw8913561755670897571 : True := trivial
theorem hd0.tw18353199073579788961 : True := trivial
theorem hd0.tw10299701338536963064 : True := trivial
theorem hd0.tw5428070130070536091 : True := trivial
theorem hd0.tw2827288076518157466 : True := trivial
theorem hd0.tw4964845553990846222 : True := trivial
theorem hd0.tw17011805984709885637 : True := trivial
theorem hd0.tw2735401655943086511 : True := trivial
theorem hd0.tw9126222054196385890 : True := trivial
theorem hd0.tw7079748053240274874 : True := trivial
theorem hd0.tw16463593755247147200 : True := trivial
theorem hd0.tw14693713190999327560 : True := trivial
theorem hd0.tw11249123509674406191 : True := trivial
theorem hd0.tw545614883460498859 : True := trivial
theorem hd0.tw13333579491729134397 : True := trivial
theorem hd0.tw15129630465062437422 : True := trivial
theorem hd0.tw8907265306392417265 : True := trivial
theorem hd0.tw12003068471920674386 : True := trivial
theorem hd0.tw17327177587765197472 : True := trivial
theorem hd0.tw16427158468746511654 : True := trivial
theorem hd0.tw2431039718480141022 : True := trivial
theorem hd0.tw1825929278167054478 : True := trivial
theorem hd0.tw15764005096722370900 : True := trivial
theorem hd0.tw9001251600818444179 : True := trivial
theorem hd0.tw14751195016474515691 : True := trivial
theorem hd0.tw1500556042865797202 : True := trivial
theorem hd0.tw17564057355376757762 : True := trivial
theorem hd0.tw16594580601805772844 : True := trivial
theorem hd0.tw15005460686244068168 : True := trivial
theorem hd0.tw8437564595239901655 : True := trivial
theorem hd0.tw11119462899506271795 : True := trivial
theorem hd0.tw13568120283695954765 : True := trivial
theorem hd0.tw7359261033328424013 : True := trivial
theorem hd0.tw18134629352650391119 : True := trivial
theorem hd0.tw18098247460298835536 : True := trivial
theorem hd0.tw5366906053448781924 : True := trivial
theorem hd0.tw8472709252117196360 : True := trivial
theorem hd0.tw463379757040502600 : True := trivial
theorem hd0.tw5353220722972676460 : True := trivial
theorem hd0.tw901327545473398541 : True := trivial
theorem hd0.tw5244145174254350547 : True := trivial
theorem hd0.tw8016032594811649588 : True := trivial
theorem hd0.tw3233326631691786436 : True := trivial
theorem hd0.tw15429971745270200749 : True := trivial
theorem hd0.tw7288751869163876638 : True := trivial
theorem hd0.tw5364393782896679965 : True := trivial
theorem hd0.tw1597637715128213681 : True := trivial
theorem hd0.tw11856145978303915523 : True := trivial
theorem hd0.tw10831172887324590962 : True := trivial
theorem hd0.tw3153493263474777528 : True := trivial
theorem hd0.tw4747281084397564757 : True := trivial
theorem hd0.tw17763732069537761205 : True := trivial
theorem hd0.tw2808911380250203912 : True := trivial
theorem hd0.tw10260036693505685281 : True := trivial
theorem hd0.tw11837375871785574032 : True := trivial
theorem hd0.tw1087435185961119440 : True := trivial
theorem hd0.tw12056577157831287533 : True := trivial
theorem hd0.tw891186494875849158 : True := trivial
theorem hd0.tw2008372144067494435 : True := trivial
theorem hd0.tw208745692366851961 : True := trivial
theorem hd0.tw8575195297261919627 : True := trivial
theorem hd0.tw13155985672576599351 : True := trivial
theorem hd0.tw8753875272357604297 : True := trivial
theorem hd0.tw8708807820475274586 : True := trivial
theorem hd0.tw6663726501131112074 : True := trivial
theorem hd0.tw13774004877433310113 : True := trivial
theorem hd0.tw17087212701041150630 : True := trivial
theorem hd0.tw2128425038151221735 : True := trivial
theorem hd0.tw1405133032699174042 : True := trivial
theorem hd0.tw444321031296666723 : True := trivial
theorem hd0.tw12457655390460550545 : True := trivial
theorem hd0.tw12949994812025541312 : True := trivial
theorem hd0.tw5099789754451425677 : True := trivial
theorem hd0.tw8239782323564299538 : True := trivial
theorem hd0.tw48920468559051274 : True := trivial
theorem hd0.tw15549164469732841750 : True := trivial
theorem hd0.tw15233396900245208191 : True := trivial
theorem hd0.tw201601121702685456 : True := trivial
theorem hd0.tw14139502865228493775 : True := trivial
theorem hd0.tw3465554795787012971 : True := trivial
theorem hd0.tw539940733940218950 : True := trivial
theorem hd0.tw12171479601555845635 : True := trivial
theorem hd0.tw14198383729236097778 : True := trivial
theorem hd0.tw9777354187630944624 : True := trivial
theorem hd0.tw4192044030403024501 : True := trivial
theorem hd0.tw2080979622161356455 : True := trivial
theorem hd0.tw14469414521783600489 : True := trivial
theorem hd0.tw7579484373256523769 : True := trivial
theorem hd0.tw12933303735471307315 : True := trivial
theorem hd0.tw12118671535382520970 : True := trivial
theorem hd0.tw4505414625599408467 : True := trivial
theorem hd0.tw16112012934339231772 : True := trivial
theorem hd0.tw5795620790108031851 : True := trivial
theorem hd0.tw11759931035086368862 : True := trivial
theorem hd0.tw1817164187568313849 : True := trivial
theorem hd0.tw17557899024913747603 : True := trivial
theorem hd0.tw7236157760442490695 : True := trivial
theorem hd0.tw5429866549726478036 : True := trivial
theorem hd0.tw13545224959385804456 : True := trivial
theorem hd0.tw15726108546692610502 : True := trivial
theorem hd0.tw7937780131228529215 : True := trivial
theorem hd0.tw6070584094110415979 : True := trivial
theorem hd0.tw12665113834384165610 : True := trivial
theorem hd0.tw1078058097833363317 : True := trivial
theorem hd0.tw14397348241044380734 : True := trivial
theorem hd0.tw11510660921149772417 : True := trivial
theorem hd0.tw10046214379172474726 : True := trivial
theorem hd0.tw17828249871568911703 : True := trivial
theorem hd0.tw7746724291664459861 : True := trivial
theorem hd0.tw15621366761432239028 : True := trivial
theorem hd0.tw3801730876566874525 : True := trivial
theorem hd0.tw14210159926740337751 : True := trivial
theorem hd0.tw12784123285358203314 : True := trivial
theorem hd0.tw1700567991170962110 : True := trivial
theorem hd0.tw10893015288667660014 : True := trivial
theorem hd0.tw5009392681941405746 : True := trivial
theorem hd0.tw17132104802792603634 : True := trivial
theorem hd0.tw3949515639412079851 : True := trivial
theorem hd0.tw16577491470658047865 : True := trivial
theorem hd0.tw9526941815458186415 : True := trivial
theorem hd0.tw7826759426205029736 : True := trivial
theorem hd0.tw14574581053450234351 : True := trivial
theorem hd0.tw15478791486184338690 : True := trivial
theorem hd0.tw839443794188527141 : True := trivial
theorem hd0.tw4597174426631724057 : True := trivial
theorem hd0.tw13860332498241106628 : True := trivial
theorem hd0.tw5223386943819690705 : True := trivial
theorem hd0.tw241197298611353260 : True := trivial
theorem hd0.tw8284464484006228044 : True := trivial
theorem hd0.tw14727694407236729852 : True := trivial
theorem hd0.tw309277354587492579 : True := trivial
theorem hd0.tw8021989280010895897 : True := trivial
theorem hd0.tw9454721371543059285 : True := trivial
theorem hd0.tw10297934492154968163 : True := trivial
theorem hd0.tw12482913051474129847 : True := trivial
theorem hd0.tw179991387133551241 : True := trivial
theorem hd0.tw2202114373748815983 : True := trivial
theorem hd0.tw4301605040222552612 : True := trivial
theorem hd0.tw17788234752527007362 : True := trivial
theorem hd0.tw8503028519756171898 : True := trivial
theorem hd0.tw16057218211864961754 : True := trivial
theorem hd0.tw5677135109947497480 : True := trivial
theorem hd0.tw14502001302391087502 : True := trivial
theorem hd0.tw4539016668912386218 : True := trivial
theorem hd0.tw6326191274288118561 : True := trivial
theorem hd0.tw3178646243906574223 : True := trivial
theorem hd0.tw4864754268065981865 : True := trivial
theorem hd0.tw13143500989680652158 : True := trivial
theorem hd0.tw16866877141584463672 : True := trivial
theorem hd0.tw17965875459906211518 : True := trivial
theorem hd0.tw15231096910501823895 : True := trivial
theorem hd0.tw18310740603297040469 : True := trivial
theorem hd0.tw1779554380871787090 : True := trivial
theorem hd0.tw12267492742709321793 : True := trivial
theorem hd0.tw666637029103987267 : True := trivial
theorem hd0.tw8413799840646086991 : True := trivial
theorem hd0.tw2280702184356970510 : True := trivial
theorem hd0.tw7808699968346434859 : True := trivial
theorem hd0.tw2093440984422149139 : True := trivial
theorem hd0.tw15543821095186356926 : True := trivial
theorem hd0.tw3478441296818514767 : True := trivial
theorem hd0.tw5476550517563732157 : True := trivial
theorem hd0.tw5336939312866089149 : True := trivial
theorem hd0.tw16255563409837272293 : True := trivial
theorem hd0.tw1191622958437496830 : True := trivial
theorem hd0.tw14341870401148061235 : True := trivial
theorem hd0.tw17998732546299578792 : True := trivial
theorem hd0.tw11614672710775262937 : True := trivial
theorem hd0.tw15675528710725479212 : True := trivial
theorem hd0.tw3525650266765315696 : True := trivial
theorem hd0.tw1359104647744391194 : True := trivial
theorem hd0.tw15783581761236437582 : True := trivial
theorem hd0.tw10176971302787931466 : True := trivial
theorem hd0.tw18430945745249023057 : True := trivial
theorem hd0.tw1237551924186500246 : True := trivial
theorem hd0.tw9385747698160950831 : True := trivial
theorem hd0.tw7731734453053413589 : True := trivial
theorem hd0.tw8053029068741257462 : True := trivial
theorem hd0.tw5583339228994031707 : True := trivial
theorem hd0.tw3832096840286635077 : True := trivial
theorem hd0.tw3352384854717104398 : True := trivial
theorem hd0.tw10069731379804114837 : True := trivial
theorem hd0.tw2834553128231939821 : True := trivial
theorem hd0.tw1562688426800042800 : True := trivial
theorem hd0.tw5341192815897622196 : True := trivial
theorem hd0.tw15200775214083542848 : True := trivial
theorem hd0.tw4909664616505572318 : True := trivial
theorem hd0.tw9188398823286509360 : True := trivial
theorem hd0.tw447684426723917565 : True := trivial
theorem hd0.tw14707159364453948219 : True := trivial
theorem hd0.tw13198788859858803882 : True := trivial
theorem hd0.tw113680085351987624 : True := trivial
theorem hd0.tw9636976457204810352 : True := trivial
theorem hd0.tw12158446373679332284 : True := trivial
theorem hd0.tw12276703297741760479 : True := trivial
theorem hd0.tw15617416376691679683 : True := trivial
theorem hd0.tw16426948963021806353 : True := trivial
theorem hd0.tw4691257246625332865 : True := trivial
theorem hd0.tw4061320783067801059 : True := trivial
theorem hd0.tw15598781321256940172 : True := trivial
theorem hd0.tw17705790862779081903 : True := trivial
theorem hd0.tw2510654449352665463 : True := trivial
theorem hd0.tw8077860469154291183 : True := trivial
theorem hd0.tw2846630024949705071 : True := trivial
theorem hd0.tw6134885170197741980 : True := trivial
theorem hd0.tw12274314036958901727 : True := trivial
theorem hd0.tw17984987178924691041 : True := trivial
theorem hd0.tw1690223966290365743 : True := trivial
theorem hd0.tw10131604004383188290 : True := trivial
theorem hd0.tw13012256603424907846 : True := trivial
theorem hd0.tw2089478843488583011 : True := trivial
theorem hd0.tw16136509226700455639 : True := trivial
theorem hd0.tw3093808528041796494 : True := trivial
theorem hd0.tw5814328120849822248 : True := trivial
theorem hd0.tw16690107442442495926 : True := trivial
theorem hd0.tw16664977806865809019 : True := trivial
theorem hd0.tw6269040581006461771 : True := trivial
theorem hd0.tw8829411451785746636 : True := trivial
theorem hd0.tw14778368771875113021 : True := trivial
theorem hd0.tw543060588611493414 : True := trivial
theorem hd0.tw4319935590431654399 : True := trivial
theorem hd0.tw10402865154986503972 : True := trivial
theorem hd0.tw475519468955650494 : True := trivial
theorem hd0.tw9589788102987637898 : True := trivial
theorem hd0.tw13253873054810628565 : True := trivial
theorem hd0.tw11772256920040780592 : True := trivial
theorem hd0.tw4496683107371181865 : True := trivial
theorem hd0.tw13601029301931556805 : True := trivial
theorem hd0.tw3783854939261827151 : True := trivial
theorem hd0.tw1344525240475726329 : True := trivial
theorem hd0.tw16921087693971489108 : True := trivial
theorem hd0.tw9025043858014030743 : True := trivial
theorem hd0.tw5393086615926188543 : True := trivial
theorem hd0.tw7762228098215924476 : True := trivial
theorem hd0.tw14595221640817416183 : True := trivial
theorem hd0.tw5328798070617476075 : True := trivial
theorem hd0.tw15134839469752433495 : True := trivial
theorem hd0.tw17996456997027125405 : True := trivial
theorem hd0.tw14800764121473040398 : True := trivial
theorem hd0.tw12244509886447296242 : True := trivial
theorem hd0.tw9622248605331731502 : True := trivial
theorem hd0.tw1862731975049639359 : True := trivial
theorem hd0.tw12276868589851284407 : True := trivial
theorem hd0.tw7639661606733977184 : True := trivial
theorem hd0.tw14784936291350405178 : True := trivial
theorem hd0.tw17751538270359655562 : True := trivial
theorem hd0.tw16389596510190857529 : True := trivial
theorem hd0.tw7026590804218146370 : True := trivial
theorem hd0.tw15746713401997345701 : True := trivial
theorem hd0.tw1659871116806467821 : True := trivial
theorem hd0.tw12805207464963118493 : True := trivial
theorem hd0.tw7971345679002030817 : True := trivial
theorem hd0.tw9632985906301461538 : True := trivial
theorem hd0.tw5354866172724995518 : True := trivial
theorem hd0.tw6610721040928539861 : True := trivial
theorem hd0.tw16538306262251643217 : True := trivial
theorem hd0.tw7252911797259916394 : True := trivial
theorem hd0.tw1963438426913184167 : True := trivial
theorem hd0.tw3687841886611527418 : True := trivial
theorem hd0.tw13398391709312642032 : True := trivial
theorem hd0.tw13105775301183761922 : True := trivial
theorem hd0.tw14219380631129882139 : True := trivial
theorem hd0.tw11797003534878959301 : True := trivial
theorem hd0.tw6175420903726235015 : True := trivial
theorem hd0.tw18186319125245921542 : True := trivial
theorem hd0.tw6893331240596464896 : True := trivial
theorem hd0.tw7754451475289968488 : True := trivial
theorem hd0.tw16844770772499615110 : True := trivial
theorem hd0.tw1512869562912987329 : True := trivial
theorem hd0.tw16269486087580614188 : True := trivial
theorem hd0.tw10171905155036859849 : True := trivial
theorem hd0.tw8335639332613301527 : True := trivial
theorem hd0.tw13893897624538738667 : True := trivial
theorem hd0.tw9059920523635683277 : True := trivial
theorem hd0.tw11623040055089417287 : True := trivial
theorem hd0.tw1824040809486260883 : True := trivial
theorem hd0.tw18135268618719461282 : True := trivial
theorem hd0.tw8799922735631600174 : True := trivial
theorem hd0.tw11497454159474323877 : True := trivial
theorem hd0.tw15662963303021941862 : True := trivial
theorem hd0.tw5057337168837947518 : True := trivial
theorem hd0.tw5271022457499508285 : True := trivial
theorem hd0.tw6998471644465347158 : True := trivial
theorem hd0.tw5677194259293420247 : True := trivial
theorem hd0.tw10282353163112612276 : True := trivial
theorem hd0.tw12205703568204840568 : True := trivial
theorem hd0.tw7604119010897642556 : True := trivial
theorem hd0.tw1301209152814809411 : True := trivial
theorem hd0.tw8989800094379352571 : True := trivial
theorem hd0.tw4504473542979724961 : True := trivial
theorem hd0.tw744657077029961169 : True := trivial
theorem hd0.tw994453967162580088 : True := trivial
theorem hd0.tw16178185886527317852 : True := trivial
theorem hd0.tw15490979449997167053 : True := trivial
theorem hd0.tw14891386369280825845 : True := trivial
theorem hd0.tw13742105315037027404 : True := trivial
theorem hd0.tw159360540141897952 : True := trivial
theorem hd0.tw13451678851320754741 : True := trivial
theorem hd0.tw4449064183696094736 : True := trivial
theorem hd0.tw14997161635575945179 : True := trivial
theorem hd0.tw3540153769243320697 : True := trivial
theorem hd0.tw14392666273103455515 : True := trivial
theorem hd0.tw14530719843544073062 : True := trivial
theorem hd0.tw8445946584241079207 : True := trivial
theorem hd0.tw1190472648562434886 : True := trivial
theorem hd0.tw5461055050941286108 : True := trivial
theorem hd0.tw12075269703002163213 : True := trivial
theorem hd0.tw12846747447118687680 : True := trivial
theorem hd0.tw11520006908099386746 : True := trivial
theorem hd0.tw3614440592705372375 : True := trivial
theorem hd0.tw6538509518478292348 : True := trivial
theorem hd0.tw3794367142867343539 : True := trivial
theorem hd0.tw14603430072732904927 : True := trivial
theorem hd0.tw16367954908017057810 : True := trivial
theorem hd0.tw5447685084907291095 : True := trivial
theorem hd0.tw17444978098136114977 : True := trivial
theorem hd0.tw3406311059433270224 : True := trivial
theorem hd0.tw2514418997314332413 : True := trivial
theorem hd0.tw10990117588895114390 : True := trivial
theorem hd0.tw9158488875951367014 : True := trivial
theorem hd0.tw16748173589141266553 : True := trivial
theorem hd0.tw14069131116232622754 : True := trivial
theorem hd0.tw3394719057209654559 : True := trivial
theorem hd0.tw12051904425446288284 : True := trivial
theorem hd0.tw9115860346242966872 : True := trivial
theorem hd0.tw8125271861009673391 : True := trivial
theorem hd0.tw14876873880408228765 : True := trivial
theorem hd0.tw4320476126873396096 : True := trivial
theorem hd0.tw3179202085876152303 : True := trivial
theorem hd0.tw12408544009092005060 : True := trivial
theorem hd0.tw4835004971785622705 : True := trivial
theorem hd0.tw10833352333336119249 : True := trivial
theorem hd0.tw12151319272224551882 : True := trivial
theorem hd0.tw6062643184621189875 : True := trivial
theorem hd0.tw8860506098235749104 : True := trivial
theorem hd0.tw2872236389525822384 : True := trivial
theorem hd0.tw9263301239724254889 : True := trivial
theorem hd0.tw17636036072376682784 : True := trivial
theorem hd0.tw16353760942946646146 : True := trivial
theorem hd0.tw15553139450688975919 : True := trivial
theorem hd0.tw17165560880091878914 : True := trivial
theorem hd0.tw7535352132141763260 : True := trivial
theorem hd0.tw16305315067834280204 : True := trivial
theorem hd0.tw6414887533649200790 : True := trivial
theorem hd0.tw3333271112219793377 : True := trivial
theorem hd0.tw6568540664440534053 : True := trivial
theorem hd0.tw11138249019705727585 : True := trivial
theorem hd0.tw11580911146225420957 : True := trivial
theorem hd0.tw16271690622389391696 : True := trivial
theorem hd0.tw12291059427910704922 : True := trivial
theorem hd0.tw5215330951671769291 : True := trivial
theorem hd0.tw13528136040738991083 : True := trivial
theorem hd0.tw13934678020478736222 : True := trivial
theorem hd0.tw14508254801004028759 : True := trivial
theorem hd0.tw8785302206795578915 : True := trivial
theorem hd0.tw18143976691941029074 : True := trivial
theorem hd0.tw15651294698572667320 : True := trivial
theorem hd0.tw9402539598613710537 : True := trivial
theorem hd0.tw9834784931133436917 : True := trivial
theorem hd0.tw17690893716680240463 : True := trivial
theorem hd0.tw12921619473888229003 : True := trivial
theorem hd0.tw16112030641436606340 : True := trivial
theorem hd0.tw1903914753097239244 : True := trivial
theorem hd0.tw11569332292355274217 : True := trivial
theorem hd0.tw3033483415405381561 : True := trivial
theorem hd0.tw17529906274252830889 : True := trivial
theorem hd0.tw13540748790817394469 : True := trivial
theorem hd0.tw14667944589569409166 : True := trivial
theorem hd0.tw9949846813906436267 : True := trivial
theorem hd0.tw10999217049103145239 : True := trivial
theorem hd0.tw585297023151507021 : True := trivial
theorem hd0.tw10759000945844983178 : True := trivial
theorem hd0.tw9920712778304440653 : True := trivial
theorem hd0.tw8074934102184914911 : True := trivial
theorem hd0.tw10211360609913916499 : True := trivial
theorem hd0.tw16983820468018708842 : True := trivial
theorem hd0.tw13130983519766148356 : True := trivial
theorem hd0.tw1538813021119263245 : True := trivial
theorem hd0.tw243666046294145252 : True := trivial
theorem hd0.tw2350088028635606421 : True := trivial
theorem hd0.tw5641299431439701213 : True := trivial
theorem hd0.tw13662678775740407664 : True := trivial
theorem hd0.tw4130853821130465106 : True := trivial
theorem hd0.tw1486104822300770100 : True := trivial
theorem hd0.tw15921446404595158815 : True := trivial
theorem hd0.tw17443584081481348451 : True := trivial
theorem hd0.tw9588568164011065487 : True := trivial
theorem hd0.tw4983706646000405154 : True := trivial
theorem hd0.tw2219251433370212802 : True := trivial
theorem hd0.tw11115630303567131559 : True := trivial
theorem hd0.tw6253368036500149347 : True := trivial
theorem hd0.tw4366586776664963993 : True := trivial
theorem hd0.tw12445168859298407736 : True := trivial
theorem hd0.tw14266310162678413827 : True := trivial
theorem hd0.tw10312334943385684113 : True := trivial
theorem hd0.tw5093094753107941602 : True := trivial
theorem hd0.tw14885392324379421255 : True := trivial
theorem hd0.tw3563376653281826072 : True := trivial
theorem hd0.tw8630921456870516999 : True := trivial
theorem hd0.tw9387283391072121096 : True := trivial
theorem hd0.tw1881863556942964538 : True := trivial
theorem hd0.tw5094363740755177244 : True := trivial
theorem hd0.tw9802666196054454208 : True := trivial
theorem hd0.tw3097689098446119803 : True := trivial
theorem hd0.tw16946435295296715926 : True := trivial
theorem hd0.tw18429324449565333914 : True := trivial
theorem hd0.tw3186221082092428893 : True := trivial
theorem hd0.tw1206084808893199565 : True := trivial
theorem hd0.tw6663342589294648794 : True := trivial
theorem hd0.tw10810385065285312349 : True := trivial
theorem hd0.tw10060115396404291046 : True := trivial
theorem hd0.tw16034952089515472046 : True := trivial
theorem hd0.tw7005178408466318249 : True := trivial
theorem hd0.tw6302951332473218875 : True := trivial
theorem hd0.tw7274435628105354247 : True := trivial
theorem hd0.tw8196393364371573391 : True := trivial
theorem hd0.tw10498964822654063026 : True := trivial
theorem hd0.tw13674825878566736871 : True := trivial
theorem hd0.tw13514211720703212713 : True := trivial
theorem hd0.tw7849129040761613689 : True := trivial
theorem hd0.tw5151245016333330754 : True := trivial
theorem hd0.tw17150494515759998069 : True := trivial
theorem hd0.tw15631703557454890568 : True := trivial
theorem hd0.tw6958545755987672987 : True := trivial
theorem hd0.tw7895234915340226546 : True := trivial
theorem hd0.tw14602483098564173615 : True := trivial
theorem hd0.tw12579981767310751444 : True := trivial
theorem hd0.tw7868138818950617825 : True := trivial
theorem hd0.tw9745709091790514047 : True := trivial
theorem hd0.tw16227330568274277125 : True := trivial
theorem hd0.tw12489974410676362506 : True := trivial
theorem hd0.tw1104153614263761704 : True := trivial
theorem hd0.tw10314495095132462600 : True := trivial
theorem hd0.tw16146168302681751184 : True := trivial
theorem hd0.tw9022554804500196224 : True := trivial
theorem hd0.tw11017282251955597146 : True := trivial
theorem hd0.tw14736164837976249918 : True := trivial
theorem hd0.tw11049174899164315458 : True := trivial
theorem hd0.tw5049636077015095027 : True := trivial
theorem hd0.tw5932400532023938697 : True := trivial
theorem hd0.tw17651327042114731174 : True := trivial
theorem hd0.tw15175115603890962481 : True := trivial
theorem hd0.tw3278175577387793967 : True := trivial
theorem hd0.tw5573079312679747698 : True := trivial
theorem hd0.tw10736319592168794464 : True := trivial
theorem hd0.tw4972683947323451530 : True := trivial
theorem hd0.tw9056650140919055547 : True := trivial
theorem hd0.tw18344095453417198420 : True := trivial
theorem hd0.tw18253309430737647335 : True := trivial
theorem hd0.tw13988911812552584791 : True := trivial
theorem hd0.tw1417947228256288561 : True := trivial
theorem hd0.tw6487651796703802930 : True := trivial
theorem hd0.tw529858205858471961 : True := trivial
theorem hd0.tw11185450218303098929 : True := trivial
theorem hd0.tw13778493272816522149 : True := trivial
theorem hd0.tw3649991183435880112 : True := trivial
theorem hd0.tw719600226111957162 : True := trivial
theorem hd0.tw5484117130419629514 : True := trivial
theorem hd0.tw2276499456352293219 : True := trivial
theorem hd0.tw1943803618969230435 : True := trivial
theorem hd0.tw1514256528096401698 : True := trivial
theorem hd0.tw12319278043188072571 : True := trivial
theorem hd0.tw10084470103006088933 : True := trivial
theorem hd0.tw10765925126889504240 : True := trivial
theorem hd0.tw14553179797840557467 : True := trivial
theorem hd0.tw11329978527411681000 : True := trivial
theorem hd0.tw8935835073043769850 : True := trivial
theorem hd0.tw14547275812638254195 : True := trivial
theorem hd0.tw17524989057665669244 : True := trivial
theorem hd0.tw14494657868452557277 : True := trivial
theorem hd0.tw12777931453158178941 : True := trivial
theorem hd0.tw4215313949165501139 : True := trivial
theorem hd0.tw264976644112034604 : True := trivial
theorem hd0.tw2025992563494124259 : True := trivial
theorem hd0.tw2630645244069355918 : True := trivial
theorem hd0.tw14581190615617361256 : True := trivial
theorem hd0.tw3752284228027186358 : True := trivial
theorem hd0.tw17154914396850454422 : True := trivial
theorem hd0.tw12413647210551461848 : True := trivial
theorem hd0.tw13555123127346715575 : True := trivial
theorem hd0.tw13707264763525615022 : True := trivial
theorem hd0.tw7132760851028116863 : True := trivial
theorem hd0.tw16788234594190417584 : True := trivial
theorem hd0.tw13486330257028493506 : True := trivial
theorem hd0.tw12205544625469342409 : True := trivial
theorem hd0.tw5123671803952530491 : True := trivial
theorem hd0.tw13386569130190815585 : True := trivial
theorem hd0.tw2302055443720114960 : True := trivial
theorem hd0.tw14254699458681805449 : True := trivial
theorem hd0.tw773914070166202923 : True := trivial
theorem hd0.tw6304940225609730636 : True := trivial
theorem hd0.tw6731150079252952819 : True := trivial
theorem hd0.tw14317292564540358215 : True := trivial
theorem hd0.tw346728946608962706 : True := trivial
theorem hd0.tw3044469308762748692 : True := trivial
theorem hd0.tw6271287328366208365 : True := trivial
theorem hd0.tw7542354998850790293 : True := trivial
theorem hd0.tw10472887827112669461 : True := trivial
theorem hd0.tw3682416365666891632 : True := trivial
theorem hd0.tw9059464732126916848 : True := trivial
theorem hd0.tw1698854317287570069 : True := trivial
theorem hd0.tw8428931017558521197 : True := trivial
theorem hd0.tw11264621231335647038 : True := trivial
theorem hd0.tw5886135802988145460 : True := trivial
theorem hd0.tw10051225828250784925 : True := trivial
theorem hd0.tw12751726420226901460 : True := trivial
theorem hd0.tw1821098575492082715 : True := trivial
theorem hd0.tw2489025533102696113 : True := trivial
theorem hd0.tw612490874915578456 : True := trivial
theorem hd0.tw17297856964557519182 : True := trivial
theorem hd0.tw2395880578221408459 : True := trivial
theorem hd0.tw7318283407661637438 : True := trivial
theorem hd0.tw15728283652489511788 : True := trivial
theorem hd0.tw16621426456839085515 : True := trivial
theorem hd0.tw3990100346840067004 : True := trivial
theorem hd0.tw13826388099692679067 : True := trivial
theorem hd0.tw7662431337288749014 : True := trivial
theorem hd0.tw13314375886522361641 : True := trivial
theorem hd0.tw14531314831857924074 : True := trivial
theorem hd0.tw9773060922126450176 : True := trivial
theorem hd0.tw17910583106863524117 : True := trivial
theorem hd0.tw12075429309070946594 : True := trivial
theorem hd0.tw17111967392191881361 : True := trivial
theorem hd0.tw2920931838809075660 : True := trivial
theorem hd0.tw414315201535598294 : True := trivial
theorem hd0.tw14332817513447026307 : True := trivial
theorem hd0.tw1174218808468287412 : True := trivial
theorem hd0.tw3203689360760453423 : True := trivial
theorem hd0.tw12531005905967446356 : True := trivial
theorem hd0.tw6425220609725761449 : True := trivial
theorem hd0.tw17819310920826306093 : True := trivial
theorem hd0.tw77255158522707574 : True := trivial
theorem hd0.tw5144168574050735280 : True := trivial
theorem hd0.tw17781500546642245381 : True := trivial
theorem hd0.tw14897994757615397246 : True := trivial
theorem hd0.tw17614214558043839244 : True := trivial
theorem hd0.tw17161414228395185700 : True := trivial
theorem hd0.tw5099975578641171906 : True := trivial
theorem hd0.tw5381195712251870386 : True := trivial
theorem hd0.tw12323965438945104229 : True := trivial
theorem hd0.tw147192801218679358 : True := trivial
theorem hd0.tw4276791122523266205 : True := trivial
theorem hd0.tw17823266487745473820 : True := trivial
theorem hd0.tw16518725849791831052 : True := trivial
theorem hd0.tw9846644877726163059 : True := trivial
theorem hd0.tw9732216286042656328 : True := trivial
theorem hd0.tw1033846637145908505 : True := trivial
theorem hd0.tw3280791499721090808 : True := trivial
theorem hd0.tw5125984077138792351 : True := trivial
theorem hd0.tw4246812479124471808 : True := trivial
theorem hd0.tw83355183581604759 : True := trivial
theorem hd0.tw97161497214354009 : True := trivial
theorem hd0.tw13990672569431220391 : True := trivial
theorem hd0.tw3692216064368290878 : True := trivial
theorem hd0.tw12297212177519175542 : True := trivial
theorem hd0.tw8066634004926191738 : True := trivial
theorem hd0.tw16611413978080045876 : True := trivial
theorem hd0.tw5241754053254526420 : True := trivial
theorem hd0.tw295419916050123564 : True := trivial
theorem hd0.tw10780423286290277794 : True := trivial
theorem hd0.tw11971303437334320129 : True := trivial
theorem hd0.tw870125979508588301 : True := trivial
theorem hd0.tw12584882590044025211 : True := trivial
theorem hd0.tw1658824891121474949 : True := trivial
theorem hd0.tw12603814732637365840 : True := trivial
theorem hd0.tw9799908990197425402 : True := trivial
theorem hd0.tw13800483763300068865 : True := trivial
theorem hd0.tw11948003583001340954 : True := trivial
theorem hd0.tw12665424717540478268 : True := trivial
theorem hd0.tw3374477748439934669 : True := trivial
theorem hd0.tw7352300727901408656 : True := trivial
theorem hd0.tw1409594657495654067 : True := trivial
theorem hd0.tw18128571658164433924 : True := trivial
theorem hd0.tw13960838486111706346 : True := trivial
theorem hd0.tw13487184783045432306 : True := trivial
theorem hd0.tw13291091997398420451 : True := trivial
theorem hd0.tw14019422052369805898 : True := trivial
theorem hd0.tw11532703464391966607 : True := trivial
theorem hd0.tw11239748424757995403 : True := trivial
theorem hd0.tw13553586316924007284 : True := trivial
theorem hd0.tw17259225582567307977 : True := trivial
theorem hd0.tw13399666736263258950 : True := trivial
theorem hd0.tw16703394668816812204 : True := trivial
theorem hd0.tw17702789791935442930 : True := trivial
theorem hd0.tw13681048869030573423 : True := trivial
theorem hd0.tw4992598812696569949 : True := trivial
theorem hd0.tw12776546938699652369 : True := trivial
theorem hd0.tw11235671498635311869 : True := trivial
theorem hd0.tw14859510367324771804 : True := trivial
theorem hd0.tw835703830586665043 : True := trivial
theorem hd0.tw3317334220728377626 : True := trivial
theorem hd0.tw11055183035642229788 : True := trivial
theorem hd0.tw6686488626606641068 : True := trivial
theorem hd0.tw5900601929854858263 : True := trivial
theorem hd0.tw4909836705566933740 : True := trivial
theorem hd0.tw4798827951396624206 : True := trivial
theorem hd0.tw16235700515608074891 : True := trivial
theorem hd0.tw7967449625968389043 : True := trivial
theorem hd0.tw7302656184531018288 : True := trivial
theorem hd0.tw7623283449146697146 : True := trivial
theorem hd0.tw7754574992301268747 : True := trivial
theorem hd0.tw189931430836679332 : True := trivial
theorem hd0.tw6988502431003423887 : True := trivial
theorem hd0.tw9198760036051492388 : True := trivial
theorem hd0.tw5026567979408028989 : True := trivial
theorem hd0.tw8433178389996576230 : True := trivial
theorem hd0.tw5293605420637987274 : True := trivial
theorem hd0.tw12675668120839034084 : True := trivial
theorem hd0.tw8685259877602558530 : True := trivial
theorem hd0.tw13507686799319203751 : True := trivial
theorem hd0.tw13218809760150993585 : True := trivial
theorem hd0.tw12664211946483082244 : True := trivial
theorem hd0.tw15432619435547704047 : True := trivial
theorem hd0.tw6370926679442433380 : True := trivial
theorem hd0.tw10295704408819858588 : True := trivial
theorem hd0.tw8977896322151119144 : True := trivial
theorem hd0.tw3817695977128046484 : True := trivial
theorem hd0.tw344392765522465607 : True := trivial
theorem hd0.tw12183904389932337105 : True := trivial
theorem hd0.tw3407487215004703030 : True := trivial
theorem hd0.tw8511555726976259291 : True := trivial
theorem hd0.tw17939917016985635099 : True := trivial
theorem hd0.tw13458251385435879135 : True := trivial
theorem hd0.tw12760839115024893943 : True := trivial
theorem hd0.tw11487138076739958397 : True := trivial
theorem hd0.tw18112031189588308069 : True := trivial
theorem hd0.tw14910549516028445164 : True := trivial
theorem hd0.tw5890942443033146247 : True := trivial
theorem hd0.tw6968693266975517553 : True := trivial
theorem hd0.tw16763015023445361833 : True := trivial
theorem hd0.tw8475788313178198593 : True := trivial
theorem hd0.tw5712925796022227859 : True := trivial
theorem hd0.tw17517931720181830703 : True := trivial
theorem hd0.tw9957591292199686767 : True := trivial
theorem hd0.tw11758758586359927915 : True := trivial
theorem hd0.tw10909967093416965196 : True := trivial
theorem hd0.tw12221645744011716122 : True := trivial
theorem hd0.tw3742632825282854878 : True := trivial
theorem hd0.tw11713894155979806921 : True := trivial
theorem hd0.tw14777606180430403221 : True := trivial
theorem hd0.tw10085328584745137873 : True := trivial
theorem hd0.tw18146432252387701884 : True := trivial
theorem hd0.tw16148604249999490175 : True := trivial
theorem hd0.tw6097230029259139074 : True := trivial
theorem hd0.tw9636773541000906454 : True := trivial
theorem hd0.tw15558302549524438974 : True := trivial
theorem hd0.tw14528840667550511398 : True := trivial
theorem hd0.tw6371508206912872073 : True := trivial
theorem hd0.tw17058962927632970581 : True := trivial
theorem hd0.tw1666546761208262739 : True := trivial
theorem hd0.tw11590068575368498478 : True := trivial
theorem hd0.tw9307621412662132602 : True := trivial
theorem hd0.tw1615392291730545924 : True := trivial
theorem hd0.tw12341762187451597905 : True := trivial
theorem hd0.tw16683429243250885502 : True := trivial
theorem hd0.tw9217374109600900450 : True := trivial
theorem hd0.tw1914565142353105173 : True := trivial
theorem hd0.tw4045271052188277880 : True := trivial
theorem hd0.tw15897564236780334493 : True := trivial
theorem hd0.tw12125414563568543498 : True := trivial
theorem hd0.tw12281760368372384568 : True := trivial
theorem hd0.tw14331177511243548136 : True := trivial
theorem hd0.tw6607671939436325396 : True := trivial
theorem hd0.tw540056177587193571 : True := trivial
theorem hd0.tw9208621619424456504 : True := trivial
theorem hd0.tw17749686616707534322 : True := trivial
theorem hd0.tw12530935914870690474 : True := trivial
theorem hd0.tw18404732335237923469 : True := trivial
theorem hd0.tw17974293710500619716 : True := trivial
theorem hd0.tw7457606185915767809 : True := trivial
theorem hd0.tw15392901522555353865 : True := trivial
theorem hd0.tw12607805650522343386 : True := trivial
theorem hd0.tw9044287334524040262 : True := trivial
theorem hd0.tw11464049996061684425 : True := trivial
theorem hd0.tw6821811203807404624 : True := trivial
theorem hd0.tw8922296282117307497 : True := trivial
theorem hd0.tw17029817810433668922 : True := trivial
theorem hd0.tw7952332637410452714 : True := trivial
theorem hd0.tw10152017227990887 : True := trivial
theorem hd0.tw83646314498529949 : True := trivial
theorem hd0.tw17635323563970671914 : True := trivial
theorem hd0.tw4345986799964169788 : True := trivial
theorem hd0.tw10480709929324776058 : True := trivial
theorem hd0.tw11905857966463721479 : True := trivial
theorem hd0.tw8712901905228093983 : True := trivial
theorem hd0.tw11209417819914858648 : True := trivial
theorem hd0.tw10166313427839102320 : True := trivial
theorem hd0.tw6253094907828130436 : True := trivial
theorem hd0.tw688828823437750791 : True := trivial
theorem hd0.tw16662378271934689912 : True := trivial
theorem hd0.tw5227927476374808225 : True := trivial
theorem hd0.tw7155036883876415804 : True := trivial
theorem hd0.tw17018938808108061734 : True := trivial
theorem hd0.tw14778656697541326664 : True := trivial
theorem hd0.tw18420998251840198522 : True := trivial
theorem hd0.tw16006921245622344120 : True := trivial
theorem hd0.tw3554350828834625405 : True := trivial
theorem hd0.tw17382596995774678195 : True := trivial
theorem hd0.tw3007629937349422009 : True := trivial
theorem hd0.tw1583550394756367889 : True := trivial
theorem hd0.tw2269698272032114375 : True := trivial
theorem hd0.tw10479903290389848577 : True := trivial
theorem hd0.tw14328710668666350486 : True := trivial
theorem hd0.tw10783142842391291914 : True := trivial
theorem hd0.tw6722993110540896104 : True := trivial
theorem hd0.tw4293956158198360292 : True := trivial
theorem hd0.tw13486121167695320897 : True := trivial
theorem hd0.tw6216716555824703157 : True := trivial
theorem hd0.tw17799653794501550956 : True := trivial
theorem hd0.tw9740100366455527222 : True := trivial
theorem hd0.tw718053819043276435 : True := trivial
theorem hd0.tw3636784710085223629 : True := trivial
theorem hd0.tw2567645585348688240 : True := trivial
theorem hd0.tw786878263436558006 : True := trivial
theorem hd0.tw3801753739915242578 : True := trivial
theorem hd0.tw9388335957572368535 : True := trivial
theorem hd0.tw2919757332036839602 : True := trivial
theorem hd0.tw15708396593767681311 : True := trivial
theorem hd0.tw1620126074186010344 : True := trivial
theorem hd0.tw14138087792870203033 : True := trivial
theorem hd0.tw15337782927610645224 : True := trivial
theorem hd0.tw10909315360916394055 : True := trivial
theorem hd0.tw8149415083255429251 : True := trivial
theorem hd0.tw11026486295013966518 : True := trivial
theorem hd0.tw2086391661770912289 : True := trivial
theorem hd0.tw1967676767884184963 : True := trivial
theorem hd0.tw9434859531356249349 : True := trivial
theorem hd0.tw13501401027206036181 : True := trivial
theorem hd0.tw5919555130196494173 : True := trivial
theorem hd0.tw12695835249075673045 : True := trivial
theorem hd0.tw10185181354086419921 : True := trivial
theorem hd0.tw9803436305062202834 : True := trivial
theorem hd0.tw17802035005380678489 : True := trivial
theorem hd0.tw14133583787211923317 : True := trivial
theorem hd0.tw6375798301859803279 : True := trivial
theorem hd0.tw15052271651671182152 : True := trivial
theorem hd0.tw10633096317045499573 : True := trivial
theorem hd0.tw431026168101918202 : True := trivial
theorem hd0.tw9080105692282731909 : True := trivial
theorem hd0.tw12184131508180231664 : True := trivial
theorem hd0.tw1279382041781947874 : True := trivial
theorem hd0.tw7559926824441668727 : True := trivial
theorem hd0.tw2279048098370029463 : True := trivial
theorem hd0.tw7612192508385221680 : True := trivial
theorem hd0.tw6595308224653121280 : True := trivial
theorem hd0.tw6153177072203027764 : True := trivial
theorem hd0.tw16207682911842231639 : True := trivial
theorem hd0.tw9992339767240248334 : True := trivial
theorem hd0.tw17999331479389911039 : True := trivial
theorem hd0.tw1504204294172609614 : True := trivial
theorem hd0.tw16062972565245636470 : True := trivial
theorem hd0.tw8963353318676827327 : True := trivial
theorem hd0.tw1709210180606924487 : True := trivial
theorem hd0.tw9968712100473050260 : True := trivial
theorem hd0.tw9868554250175670909 : True := trivial
theorem hd0.tw14905831658627392255 : True := trivial
theorem hd0.tw11410764383098395518 : True := trivial
theorem hd0.tw5197900807607466816 : True := trivial
theorem hd0.tw15045443233904524747 : True := trivial
theorem hd0.tw9465273896325461306 : True := trivial
theorem hd0.tw3944039368285254568 : True := trivial
theorem hd0.tw8354509943563097290 : True := trivial
theorem hd0.tw14121631786743394682 : True := trivial
theorem hd0.tw7627782468862693122 : True := trivial
theorem hd0.tw10438117937427453855 : True := trivial
theorem hd0.tw12811182750334812892 : True := trivial
theorem hd0.tw16356745440860276358 : True := trivial
theorem hd0.tw5678683414253756879 : True := trivial
theorem hd0.tw4811950357705277855 : True := trivial
theorem hd0.tw11516571322753785192 : True := trivial
theorem hd0.tw15241830911469038058 : True := trivial
theorem hd0.tw16515443852020450149 : True := trivial
theorem hd0.tw12125297460876857625 : True := trivial
theorem hd0.tw6010904734696160415 : True := trivial
theorem hd0.tw3280980840489870503 : True := trivial
theorem hd0.tw11740412729871391202 : True := trivial
theorem hd0.tw11848102090158128257 : True := trivial
theorem hd0.tw8052174542758884176 : True := trivial
theorem hd0.tw2111161538753118399 : True := trivial
theorem hd0.tw4411578341931642484 : True := trivial
theorem hd0.tw2422402594990137954 : True := trivial
theorem hd0.tw2866456211011120296 : True := trivial
theorem hd0.tw3131816203584385818 : True := trivial
theorem hd0.tw10772186234203762711 : True := trivial
theorem hd0.tw10489119255883692186 : True := trivial
theorem hd0.tw14979114777504437510 : True := trivial
theorem hd0.tw7991909593210329993 : True := trivial
theorem hd0.tw12930014736447163072 : True := trivial
theorem hd0.tw10834066803405267298 : True := trivial
theorem hd0.tw6183120491695088230 : True := trivial
theorem hd0.tw4555895379888349021 : True := trivial
theorem hd0.tw4987535958156353634 : True := trivial
theorem hd0.tw285409939761729178 : True := trivial
theorem hd0.tw10903471857910945069 : True := trivial
theorem hd0.tw10773844845998861764 : True := trivial
theorem hd0.tw1768399298894652534 : True := trivial
theorem hd0.tw7176470844057165572 : True := trivial
theorem hd0.tw7237670856507232917 : True := trivial
theorem hd0.tw7237317505938381274 : True := trivial
theorem hd0.tw18416291653570748741 : True := trivial
theorem hd0.tw9522112233863853564 : True := trivial
theorem hd0.tw2247373890791798066 : True := trivial
theorem hd0.tw12924575299923291297 : True := trivial
theorem hd0.tw15940909185135639649 : True := trivial
theorem hd0.tw14219448248548531282 : True := trivial
theorem hd0.tw12768785653317968777 : True := trivial
theorem hd0.tw9378394674077912682 : True := trivial
theorem hd0.tw1189054894648436682 : True := trivial
theorem hd0.tw419963875581501482 : True := trivial
theorem hd0.tw3058397995776145548 : True := trivial
theorem hd0.tw6839909468861985676 : True := trivial
theorem hd0.tw871678882521403253 : True := trivial
theorem hd0.tw17907988552475923192 : True := trivial
theorem hd0.tw3088865509360517100 : True := trivial
theorem hd0.tw15999666987502149288 : True := trivial
theorem hd0.tw7497817076541519161 : True := trivial
theorem hd0.tw8902892978450788103 : True := trivial
theorem hd0.tw8095258482803843332 : True := trivial
theorem hd0.tw4632445285567490079 : True := trivial
theorem hd0.tw3641892403643897047 : True := trivial
theorem hd0.tw14167108369320857440 : True := trivial
theorem hd0.tw25232476388250417 : True := trivial
theorem hd0.tw1109088162481611305 : True := trivial
theorem hd0.tw6850414330514109229 : True := trivial
theorem hd0.tw3125186119814743606 : True := trivial
theorem hd0.tw13419625080015116340 : True := trivial
theorem hd0.tw8711081920576686620 : True := trivial
theorem hd0.tw15301365194902035051 : True := trivial
theorem hd0.tw7789468118146603455 : True := trivial
theorem hd0.tw8917721397437927376 : True := trivial
theorem hd0.tw4376314174295092662 : True := trivial
theorem hd0.tw10821725748964873812 : True := trivial
theorem hd0.tw11484987269118722534 : True := trivial
theorem hd0.tw17025978168235457102 : True := trivial
theorem hd0.tw2480887037145193138 : True := trivial
theorem hd0.tw977508400217022454 : True := trivial
theorem hd0.tw1524175561518189570 : True := trivial
theorem hd0.tw1347483783648969020 : True := trivial
theorem hd0.tw6488441977991612085 : True := trivial
theorem hd0.tw176264672890044361 : True := trivial
theorem hd0.tw4211294207157064120 : True := trivial
theorem hd0.tw13750114499461011686 : True := trivial
theorem hd0.tw12180966574342244065 : True := trivial
theorem hd0.tw5420187189068457087 : True := trivial
theorem hd0.tw14499639631837134455 : True := trivial
theorem hd0.tw3294201258891595621 : True := trivial
theorem hd0.tw14412295631021696756 : True := trivial
theorem hd0.tw15923938941949243446 : True := trivial
theorem hd0.tw18372859486657466350 : True := trivial
theorem hd0.tw4811584157561432087 : True := trivial
theorem hd0.tw4933578214171246930 : True := trivial
theorem hd0.tw8913439535725042291 : True := trivial
theorem hd0.tw1812576726479678316 : True := trivial
theorem hd0.tw6749512703897907384 : True := trivial
theorem hd0.tw9719331562215435487 : True := trivial
theorem hd0.tw5713701893796213256 : True := trivial
theorem hd0.tw15551132765490609778 : True := trivial
theorem hd0.tw4363521745418615004 : True := trivial
theorem hd0.tw15970134453590440252 : True := trivial
theorem hd0.tw9765562497606509859 : True := trivial
theorem hd0.tw10613898399442415682 : True := trivial
theorem hd0.tw745446809999195178 : True := trivial
theorem hd0.tw1411559547121888325 : True := trivial
theorem hd0.tw11000119374481399607 : True := trivial
theorem hd0.tw3888028599277405664 : True := trivial
theorem hd0.tw14728289979417860650 : True := trivial
theorem hd0.tw15275938649999269209 : True := trivial
theorem hd0.tw1412904844245590325 : True := trivial
theorem hd0.tw13011165504919998742 : True := trivial
theorem hd0.tw1476395874162318357 : True := trivial
theorem hd0.tw15499897975847195668 : True := trivial
theorem hd0.tw13753187848017152117 : True := trivial
theorem hd0.tw600856686581883592 : True := trivial
theorem hd0.tw11413825586327683529 : True := trivial
theorem hd0.tw5603961820519116346 : True := trivial
theorem hd0.tw10642962340398304249 : True := trivial
theorem hd0.tw2788084877741506761 : True := trivial
theorem hd0.tw64645468881862972 : True := trivial
theorem hd0.tw14195043647379640245 : True := trivial
set_option Elab.async true in
theorem hd0 : True := by
  clear hd0
  rcases (keepH ?walk (by as_aux_lemma => (w_on; o_law; as_aux_lemma => (k_head; (case hw => w_witness2); exact ?walk))) : PySem.Challenge.rw_io0016_01.Holds) with key
  clear key
  exact True.intro
section
/-- a post under a name: `K` takes whatever `Q` takes -/
noncomputable def Leads {α : Type} (Q K : α → Shared → Prop) : Prop := ∀ f s, Q f s → K f s
theorem Leads.go {α : Type} {Q K : α → Shared → Prop} (h : Leads Q K) {f : α} {s : Shared} (x : Q f s) : K f s := h f s x
section
variable {M : Model} {A : Around} {E : Value → Shared → Prop} {s : Shared} {env : Env} {st : Stmt} {rest : List Stmt} {Q : Flow → Shared → Prop}
theorem execs_named (h : ∀ K, Leads (fun f s' => match f with | .next => wpAny M A (execs rest env) Q E s' | f => Q f s') K → wpAny M A (exec st env) K E s) : wpAny M A (execs (st :: rest) env) Q E s :=
  wpAny_execs_cons (h _ fun _ _ x => x)
theorem post_named {α : Type} {c : Sem α} {Q : α → Shared → Prop} (h : ∀ K : α → Shared → Prop, Leads Q K → wpAny M A c K E s) : wpAny M A c Q E s := h Q fun _ _ x => x
theorem body_named {c : Sem Flow} (h : ∀ K, Leads Q K → wpAny M A c K E s) : wpAny M A c Q E s := h Q fun _ _ x => x
theorem execs_single (h : wpAny M A (exec st env) Q E s) : wpAny M A (execs [st] env) Q E s :=
  wpAny_execs_cons (wpAny_mono h (fun f s' h => by cases f <;> first | exact h | exact wpAny_execs_nil h) fun _ _ x => x)
end
theorem sub_nil {α : Type} {l : List α} : ∀ p ∈ ([] : List α), p ∈ l := fun _ h => nomatch h
theorem sub_same {α : Type} {l : List α} : ∀ p ∈ l, p ∈ l := fun _ h => h
theorem sub_more {α : Type} {a : α} {l l' : List α} (h : ∀ p ∈ l', p ∈ l) : ∀ p ∈ l', p ∈ a :: l := fun p hp => .tail _ (h p hp)
theorem sub_cons {α : Type} {a : α} {l l' : List α} (h : a ∈ l) (t : ∀ p ∈ l', p ∈ l) : ∀ p ∈ a :: l', p ∈ l := by
  intro p hp
  cases hp with
  | head => exact h
  | tail _ q => exact t p q
/-- a test that tells b and turns nothing but the count of tokens -/
noncomputable def tstP (b : Bool) (s : Shared) (b' : Bool) (s' : Shared) : Prop := b' = b ∧ ∃ tk, s' = { s with toks := tk }
theorem test_cut {M : Model} {A : Around} {E : Value → Shared → Prop} {s : Shared} {c : Sem Bool} {Q : Bool → Shared → Prop} (b : Bool) (h1 : wpAny M A c (tstP b s) E s) (h2 : ∀ tk, Q b { s with toks := tk }) : wpAny M A c Q E s :=
  wpAny_mono h1 (fun b' s' h => by obtain ⟨e, tk, e'⟩ := h; subst e e'; exact h2 tk) (fun _ _ x => x)
/-- the count of tokens under a name -/
theorem toks_named {M : Model} {A : Around} {E : Value → Shared → Prop} {α : Type} {c : Sem α} {Q : α → Shared → Prop} {h : Heap} {g : Array GenState} {d : Drawn} {o : OsState} {tk : Nat} (k : ∀ tk', wpAny M A c Q E ⟨h, g, d, tk', o⟩) : wpAny M A c Q E ⟨h, g, d, tk, o⟩ := k tk
end
section
open PySem.Builtin PySem.Builtin.Str
noncomputable def tx (l : List Nat) : Str := ⟨l.toArray⟩
theorem tx_length (l : List Nat) : (tx l).length = l.length := by simp [tx, Str.length]
theorem tx_cps (l : List Nat) : (tx l).cps.toList = l := by simp [tx]
theorem tx_append (a b : List Nat) : tx a ++ tx b = tx (a ++ b) := Str.ext' (by rw [Str.cps_append]; simp [tx])
theorem str_eq_tx (x : Str) : x = tx x.cps.toList := Str.ext' (by simp [tx])

theorem slice_plain (x : Str) {a b : Nat} (hab : a ≤ b) (hb : b ≤ x.length) : Txt.slice x (some (a : Int)) (some (b : Int)) = tx ((x.cps.toList.drop a).take (b - a)) := by
  unfold Txt.slice
  split
  · rename_i h
    rw [StrLaws.strSliceIndices_plain hab hb] at h
    simp only [List.length_map, List.length_range, Bool.and_eq_true, beq_iff_eq] at h
    have h2 : a = 0 := by omega
    have h3 : b = x.length := by omega
    subst h2 h3
    refine Str.ext' ?_
    have e2 : List.take x.cps.size x.cps.toList = x.cps.toList := List.take_of_length_le (by simp)
    simp [tx, Str.length, e2]
  · rw [StrLaws.sliced_plain x hab hb]; rfl

theorem idx_to_neg1 (n : Nat) : strSliceIndices none (some (-1)) 1 (n + 1) = strSliceIndices (some ((0 : Nat) : Int)) (some ((n : Nat) : Int)) 1 (n + 1) := by
  unfold strSliceIndices sliceRange
  have e1 : (max (0 : Int) (min ((0 : Nat) : Int) ((n + 1 : Nat) : Int))) = 0 := by omega
  have e2 : (max (0 : Int) (min (-1 + ((n + 1 : Nat) : Int)) ((n + 1 : Nat) : Int))) = (n : Int) := by omega
  have e3 : (max (0 : Int) (min ((n : Nat) : Int) ((n + 1 : Nat) : Int))) = (n : Int) := by omega
  have e4 : ¬ (((0 : Nat) : Int) < 0) := by omega
  have e5 : ¬ (((n : Nat) : Int) < 0) := by omega
  simp only [show (1 : Int) > 0 by decide, if_true, show (-1 : Int) < 0 by decide, e4, e5, if_false]
  simp only [e1, e2, e3]

theorem slice_chop (y : Str) (c : Nat) : Txt.slice (y ++ ⟨#[c]⟩) none (some (-1)) = y := by
  have hl : (y ++ (⟨#[c]⟩ : Str)).length = y.length + 1 := by rw [Str.length_append]; rfl
  have e : Txt.slice (y ++ ⟨#[c]⟩) none (some (-1)) = Txt.slice (y ++ ⟨#[c]⟩) (some ((0 : Nat) : Int)) (some ((y.length : Nat) : Int)) := by
    unfold Txt.slice
    rw [hl, idx_to_neg1]
  rw [e, slice_plain _ (Nat.zero_le _) (by omega)]
  refine Str.ext' ?_
  simp [tx, Str.cps_append, Str.length]

theorem read_val (cs : List Nat) {a b : Nat} (hab : a ≤ b) (hb : b ≤ cs.length) :
    Txt.slice (Txt.slice (tx cs) (some (a : Int)) (some (b : Int)) ++ Str.ofString " ") none (some (-1)) = tx ((cs.drop a).take (b - a)) := by
  have h1 : Str.ofString " " = ⟨#[32]⟩ := by decide +kernel
  rw [h1, slice_chop, slice_plain _ hab (by rw [tx_length]; exact hb), tx_cps]
end
section
open PySem.Builtin PySem.Builtin.Str
noncomputable def lineLen : List Nat → Nat
  | [] => 0
  | c :: t => if c = 10 then 1 else 1 + lineLen t

theorem lineLen_le : ∀ l : List Nat, lineLen l ≤ l.length
  | [] => Nat.le_refl _
  | c :: t => by unfold lineLen; split <;> simp <;> (have := lineLen_le t; omega)

theorem lineLen_none : ∀ l : List Nat, (∀ v, v < l.length → l.getD v 0 ≠ 10) → lineLen l = l.length
  | [], _ => rfl
  | c :: t, h => by
    unfold lineLen
    have h0 : c ≠ 10 := by have := h 0 (by simp); simpa using this
    rw [if_neg h0, lineLen_none t (fun v hv => by have := h (v + 1) (by simp; omega); simpa using this)]
    simp; omega

theorem lineLen_at : ∀ (l : List Nat) (k : Nat), k < l.length → l.getD k 0 = 10 → (∀ v, v < k → l.getD v 0 ≠ 10) → lineLen l = k + 1
  | [], k, h, _, _ => by simp at h
  | c :: t, 0, _, h, _ => by unfold lineLen; rw [if_pos (by simpa using h)]
  | c :: t, k + 1, hk, h, hn => by
    unfold lineLen
    have h0 : c ≠ 10 := by have := hn 0 (by omega); simpa using this
    rw [if_neg h0, lineLen_at t k (by simp at hk; omega) (by simpa using h) (fun v hv => by have := hn (v + 1) (by omega); simpa using this)]
    omega

theorem fromIndex_nat (n : Nat) (k : Nat) : fromIndex n (k : Int) = k := by
  unfold fromIndex
  have : ¬ ((k : Int) < 0) := by omega
  rw [if_neg this]; omega

theorem getD_drop (l : List Nat) (a v : Nat) : (l.drop a).getD v 0 = l.getD (a + v) 0 := by
  simp [List.getD, List.getElem?_drop]

theorem find_line (cs : List Nat) (pos : Nat) (hp : pos ≤ cs.length) :
    (Txt.find3 (tx cs) ⟨#[10]⟩ (pos : Int) = -1 ∧ pos + lineLen (cs.drop pos) = cs.length) ∨
    (0 ≤ Txt.find3 (tx cs) ⟨#[10]⟩ (pos : Int) ∧ Txt.find3 (tx cs) ⟨#[10]⟩ (pos : Int) + 1 = ((pos + lineLen (cs.drop pos) : Nat) : Int)) := by
  have e : ∀ v, (tx cs).cps.getD v 0 = cs.getD v 0 := fun v => by
    simp only [tx, Array.getD, List.getD, List.size_toArray]
    by_cases h : v < cs.length
    · simp [h]
    · simp [h, List.getElem?_eq_none (Nat.le_of_not_lt h)]
  rcases StrLaws.find3_spec (tx cs) 10 (pos : Int) with ⟨h, hn⟩ | ⟨k, h, hlo, hlt, hk, hn⟩
  · left
    refine ⟨h, ?_⟩
    rw [fromIndex_nat, tx_length] at hn
    rw [lineLen_none (cs.drop pos) fun v hv => ?_]
    · simp; omega
    · rw [getD_drop, ← e]; simp at hv; exact hn _ (by omega) (by omega)
  · right
    rw [fromIndex_nat] at hlo hn
    rw [tx_length] at hlt
    rw [lineLen_at (cs.drop pos) (k - pos) (by simp; omega) (by rw [getD_drop, show pos + (k - pos) = k by omega, ← e]; exact hk) fun v hv => by rw [getD_drop, ← e]; exact hn _ (by omega) (by omega)]
    rw [h]; omega

section
variable {prog : Program} {w : World} {A : Around} {E : Value → Shared → Prop} {s : Shared} {x y : Str} {t u v z : Tok} {i j : Int} {Q : Value → Shared → Prop}
theorem args_find4 (a b c d : Value) : argsOk "str.find" ⟨[a, b, c, d], []⟩ := by unfold argsOk; kernel_rfl
theorem gives_find4 (x y : Str) (i j : Int) (hj : j = x.length) (t u v z : Tok) : PySem.Gives («str.find» ⟨[.str x t, .str y u, .int i v, .int j z], []⟩) (.int (Txt.find3 x y i)) := by
  have e : min ((max 0 (if j < 0 then j + x.length else j)) : Int).toNat x.length = x.length := by subst hj; rw [if_neg (by omega)]; omega
  show PySem.Gives (match occurrences x y (fromIndex x.length i) (min ((max 0 (if j < 0 then j + x.length else j)) : Int).toNat x.length) 1 with | k :: _ => retInt k | [] => (do rule "str.find.not-found"; retInt (-1))) _
  rw [e]
  unfold Txt.find3
  cases occurrences x y (fromIndex x.length i) x.length 1 with
  | nil => exact .rule (.of_eq rfl)
  | cons k _ => exact .of_eq rfl
theorem find4 (hj : j = x.length) (hq : Q (.int (Txt.find3 x y i) s.toks) { s with toks := s.toks + 1 }) : wpAny (model prog w) A (call (.builtin "str.find") [.str x t, .str y u, .int i v, .int j z]) Q E s :=
  call_gives F.slot_str_find (typeIs_str _ _ _) F.entry_str_find (args_find4 _ _ _ _) (gives_find4 x y i j hj t u v z) hq
end
end
section
open PySem.Builtin PySem.Builtin.Str
/-- the lexer's sets, and whether it splits by white alone -/
structure Sets where
  ws : List Nat
  cm : List Nat
  wc : List Nat
  qs : List Nat
  whole : Bool

noncomputable def nl (r : List Nat) : Int := if r.head? = some 10 then 1 else 0

/-- what one reading of a token leaves: the token, the state, what is left of the text, the line's number, the sign laid back -/
inductive Res where
  | tok (t : List Nat) (st : Option Nat) (rest : List Nat) (ln : Int) (push : Option Nat)
  | err (rest : List Nat) (ln : Int)

inductive Run (P : Sets) : Option Nat → List Nat → List Nat → Int → Res → Prop where
  | eof {tok ln} : Run P none tok [] ln (.tok [] none [] ln none)
  | b_end {ln} : Run P (some 32) [] [] ln (.tok [] none [] ln none)
  | b_ws {c r ln R} (h1 : c ∈ P.ws) : Run P (some 32) [] r (ln + nl (c :: r)) R → Run P (some 32) [] (c :: r) ln R
  | b_cm {c r ln R} (h1 : c ∉ P.ws) (h2 : c ∈ P.cm) : Run P (some 32) [] (r.drop (lineLen r)) (ln + nl (c :: r) + 1) R → Run P (some 32) [] (c :: r) ln R
  | b_wc {c r ln R} (h1 : c ∉ P.ws) (h2 : c ∉ P.cm) (h3 : c ∈ P.wc) : Run P (some 97) [c] r (ln + nl (c :: r)) R → Run P (some 32) [] (c :: r) ln R
  | b_qs {c r ln R} (h1 : c ∉ P.ws) (h2 : c ∉ P.cm) (h3 : c ∉ P.wc) (h4 : c ∈ P.qs) : Run P (some c) [c] r (ln + nl (c :: r)) R → Run P (some 32) [] (c :: r) ln R
  | b_all {c r ln R} (h1 : c ∉ P.ws) (h2 : c ∉ P.cm) (h3 : c ∉ P.wc) (h4 : c ∉ P.qs) (h5 : P.whole = true) : Run P (some 97) [c] r (ln + nl (c :: r)) R → Run P (some 32) [] (c :: r) ln R
  | b_one {c r ln} (h1 : c ∉ P.ws) (h2 : c ∉ P.cm) (h3 : c ∉ P.wc) (h4 : c ∉ P.qs) (h5 : P.whole = false) : Run P (some 32) [] (c :: r) ln (.tok [c] (some 32) r (ln + nl (c :: r)) none)
  | q_end {q tok ln} (h1 : q ∈ P.qs) (h2 : q ≠ 32) : Run P (some q) tok [] ln (.err [] ln)
  | q_shut {q tok r ln} (h1 : q ∈ P.qs) (h2 : q ≠ 32) : Run P (some q) tok (q :: r) ln (.tok (tok ++ [q]) (some 32) r (ln + nl (q :: r)) none)
  | q_on {q tok c r ln R} (h1 : q ∈ P.qs) (h2 : q ≠ 32) (h3 : c ≠ q) : Run P (some q) (tok ++ [c]) r (ln + nl (c :: r)) R → Run P (some q) tok (c :: r) ln R
  | a_end {tok ln} (h0 : tok ≠ []) : Run P (some 97) tok [] ln (.tok tok none [] ln none)
  | a_ws {tok c r ln} (h0 : tok ≠ []) (h1 : c ∈ P.ws) : Run P (some 97) tok (c :: r) ln (.tok tok (some 32) r (ln + nl (c :: r)) none)
  | a_cm {tok c r ln R} (h0 : tok ≠ []) (h1 : c ∉ P.ws) (h2 : c ∈ P.cm) : Run P (some 97) tok (r.drop (lineLen r)) (ln + nl (c :: r) + 1) R → Run P (some 97) tok (c :: r) ln R
  | a_wc {tok c r ln R} (h0 : tok ≠ []) (h1 : c ∉ P.ws) (h2 : c ∉ P.cm) (h3 : c ∈ P.wc) : Run P (some 97) (tok ++ [c]) r (ln + nl (c :: r)) R → Run P (some 97) tok (c :: r) ln R
  | a_qs {tok c r ln R} (h0 : tok ≠ []) (h1 : c ∉ P.ws) (h2 : c ∉ P.cm) (h3 : c ∉ P.wc) (h4 : c ∈ P.qs) : Run P (some 97) (tok ++ [c]) r (ln + nl (c :: r)) R → Run P (some 97) tok (c :: r) ln R
  | a_all {tok c r ln R} (h0 : tok ≠ []) (h1 : c ∉ P.ws) (h2 : c ∉ P.cm) (h3 : c ∉ P.wc) (h4 : c ∉ P.qs) (h5 : P.whole = true) : Run P (some 97) (tok ++ [c]) r (ln + nl (c :: r)) R → Run P (some 97) tok (c :: r) ln R
  | a_one {tok c r ln} (h0 : tok ≠ []) (h1 : c ∉ P.ws) (h2 : c ∉ P.cm) (h3 : c ∉ P.wc) (h4 : c ∉ P.qs) (h5 : P.whole = false) : Run P (some 97) tok (c :: r) ln (.tok tok (some 32) r (ln + nl (c :: r)) (some c))

/-! rules for texts of this kind -/
section
variable {prog : Program} {w : World} {A : Around} {E : Value → Shared → Prop} {s : Shared} {x y : Str} {t u : Tok} {c : Nat} {l : List Nat} {Q : Value → Shared → Prop}
theorem in_yes (h : c ∈ l) (hq : Q (.bool true) s) : wpAny (model prog w) A (compareOp .In (.str (tx [c]) u) (.str (tx l) t)) Q E s := by
  refine PyProof.Rows.in_str ?_
  have e := StrLaws.found_one (tx l) c
  rw [show (tx [c]) = (⟨#[c]⟩ : Str) from rfl, e, tx_cps, decide_eq_true h]
  exact hq
theorem in_no (h : c ∉ l) (hq : Q (.bool false) s) : wpAny (model prog w) A (compareOp .In (.str (tx [c]) u) (.str (tx l) t)) Q E s := by
  refine PyProof.Rows.in_str ?_
  have e := StrLaws.found_one (tx l) c
  rw [show (tx [c]) = (⟨#[c]⟩ : Str) from rfl, e, tx_cps, decide_eq_false h]
  exact hq
theorem eq_at {b : Bool} (h : (x == y) = b) (hq : Q (.bool b) s) : wpAny (model prog w) A (compareOp .Eq (.str x t) (.str y u)) Q E s :=
  PyProof.Rows.eq_str (by rw [h]; exact hq)
end
theorem tx_eq_iff (a b : List Nat) : (tx a == tx b) = decide (a = b) := by
  rw [Bool.eq_iff_iff]
  simp [tx]
theorem lit_tx (x : Str) (l : List Nat) (h : x = tx l) : x = tx l := h
end
section
open PySem.Builtin
noncomputable abbrev deqObj (xs : List Value) (n : Int) : Obj := { cls := .type "collections.deque", data := .fields (#[.none, .int n 0] ++ xs.toArray) }

theorem plainAttrs_deque : PlainAttrs "collections.deque" :=
  ⟨⟨"collections.deque.__getattribute__", by rw [typeLookup_type, builtinLookup_eq_fast]; kernel_rfl, by decide +kernel⟩, by rw [typeLookup_type, builtinLookup_eq_fast]; kernel_rfl⟩
theorem slot_deque_appendleft : Slot "collections.deque" "appendleft" "collections.deque.appendleft" :=
  .of (owner := "collections.deque") (n := "appendleft") (by rw [typeLookup_type, builtinLookup_eq_fast]; kernel_rfl) (by decide +kernel) (by decide +kernel) (by decide +kernel)
    (by first | exact .inl (by decide +kernel) | exact .inr (by decide +kernel)) (by rw [isSubtype_type]; kernel_rfl)
theorem type_deque_appendleft : typeOf (.builtin "collections.deque.appendleft") = pure (.type "method_descriptor") := by show builtinType _ = _; rw [builtinType_eq_fast]; kernel_rfl
theorem entry_deque_appendleft : entryFor table "collections.deque.appendleft" = some Builtin.«collections.deque.appendleft» := entryFor_of_tree (by kernel_rfl)
theorem args_deque_appendleft (a b : Value) : argsOk "collections.deque.appendleft" ⟨[a, b], []⟩ := by unfold argsOk; kernel_rfl
theorem slot_deque_popleft : Slot "collections.deque" "popleft" "collections.deque.popleft" :=
  .of (owner := "collections.deque") (n := "popleft") (by rw [typeLookup_type, builtinLookup_eq_fast]; kernel_rfl) (by decide +kernel) (by decide +kernel) (by decide +kernel)
    (by first | exact .inl (by decide +kernel) | exact .inr (by decide +kernel)) (by rw [isSubtype_type]; kernel_rfl)
theorem type_deque_popleft : typeOf (.builtin "collections.deque.popleft") = pure (.type "method_descriptor") := by show builtinType _ = _; rw [builtinType_eq_fast]; kernel_rfl
theorem entry_deque_popleft : entryFor table "collections.deque.popleft" = some Builtin.«collections.deque.popleft» := entryFor_of_tree (by kernel_rfl)
theorem args_deque_popleft (a : Value) : argsOk "collections.deque.popleft" ⟨[a], []⟩ := by unfold argsOk; kernel_rfl
theorem slot_deque_len : Slot "collections.deque" "__len__" "collections.deque.__len__" :=
  .of (owner := "collections.deque") (n := "__len__") (by rw [typeLookup_type, builtinLookup_eq_fast]; kernel_rfl) (by decide +kernel) (by decide +kernel) (by decide +kernel)
    (by first | exact .inl (by decide +kernel) | exact .inr (by decide +kernel)) (by rw [isSubtype_type]; kernel_rfl)
theorem entry_deque_len : entryFor table "collections.deque.__len__" = some Builtin.«collections.deque.__len__» := entryFor_of_tree (by kernel_rfl)
theorem args_deque_len (a : Value) : argsOk "collections.deque.__len__" ⟨[a], []⟩ := by unfold argsOk; kernel_rfl
theorem noBool_deque : typeLookup (.type "collections.deque") "__bool__" = pure none := by rw [typeLookup_type, builtinLookup_eq_fast]; kernel_rfl

section
variable {prog : Program} {w : World} {A : Around} {E : Value → Shared → Prop} {s : Shared} {h₀ : Heap} {L : Addr} {m : Str → Option Value} {news news' : List (Addr × Obj)} {D : Addr} {xs : List Value} {n : Int} {v : Value}

theorem deqMethod {name : Str} {id : String} {pl : Sem Bool} {Q : Value × List Value → Shared → Prop} (N : News h₀ L s.heap news) (hm : (D, deqObj xs n) ∈ news) (slot : Slot "collections.deque" name id) (hty : typeOf (.builtin id) = pure (.type "method_descriptor"))
    (h : Q (.builtin id, [.ref D]) s) : wpAny (model prog w) A (getMethod (.ref D) name pl) Q E s :=
  getMethod_builtin ⟨_, (N _ hm).1, rfl⟩ plainAttrs_deque slot hty (fun a e => by cases e; exact ⟨_, (N _ hm).1, rfl⟩) h

theorem deq_state {Q : Int → Shared → Prop} (ho : s.heap.get? D = some (deqObj xs n)) (h : Q n s) : wpAny (model prog w) A (Deque.state (.ref D)) Q E s := by
  unfold Deque.state
  refine wpAny_bind (wpAny_field (i := 1) (x := .int n 0) ho rfl (by simp) ?_)
  exact wpAny_pure h
theorem deq_maxlen {Q : Option Nat → Shared → Prop} (ho : s.heap.get? D = some (deqObj xs n)) (h : Q none s) : wpAny (model prog w) A (Deque.maxlen (.ref D)) Q E s := by
  unfold Deque.maxlen
  refine wpAny_bind (wpAny_field (i := 0) (x := .none) ho rfl (by simp) ?_)
  exact wpAny_pure h
theorem deq_items {Q : Array Value → Shared → Prop} (ho : s.heap.get? D = some (deqObj xs n)) (h : Q xs.toArray s) : wpAny (model prog w) A (Deque.items (.ref D)) Q E s := by
  unfold Deque.items
  refine wpAny_bind (wpAny_fieldsOf ho rfl ?_)
  refine wpAny_pure ?_
  have e : (#[Value.none, Value.int n 0] ++ xs.toArray).extract 2 (#[Value.none, Value.int n 0] ++ xs.toArray).size = xs.toArray := by
    apply Array.ext'
    simp
  rw [e]; exact h
theorem deq_change {f : Array Value → Array Value} {ys : List Value} {Q : Unit → Shared → Prop} (ho : s.heap.get? D = some (deqObj xs n)) (hf : f xs.toArray = ys.toArray) (hz : ys.length ≤ 1000)
    (h : ∀ h', Heap.SameBut D s.heap h' → h'.get? D = some (deqObj ys (n + 1)) → Q () { s with heap := h' }) :
    wpAny (model prog w) A (Deque.change (.ref D) f) Q E s := by
  unfold Deque.change
  dsimp only
  refine wpAny_bind (deq_state ho ?_)
  have e : (#[Value.none, Value.int n 0] ++ xs.toArray).extract 2 (#[Value.none, Value.int n 0] ++ xs.toArray).size = xs.toArray := by
    apply Array.ext'
    simp
  have e2 : (fun vs : Array Value => #[vs.getD 0 .none, rawInt (if true = true then n + 1 else n)] ++ f (vs.extract 2 vs.size)) (#[Value.none, Value.int n 0] ++ xs.toArray) = #[Value.none, Value.int (n + 1) 0] ++ ys.toArray := by
    dsimp only
    rw [e, hf]
    simp [rawInt]
  refine wpAny_updateFields ho rfl (h _ (Heap.SameBut.update ..) ?_) ?_
  · have e3 : Obj.mapFields (fun vs : Array Value => #[vs.getD 0 .none, rawInt (if true = true then n + 1 else n)] ++ f (vs.extract 2 vs.size)) (deqObj xs n) = deqObj ys (n + 1) := by
      show (⟨_, _, .fields _, _⟩ : Obj) = _
      rw [e2]
    rw [Heap.get?_update_self _ ho (by rw [e3]; rfl), e3]
  · have e4 := congrArg Array.size e2
    dsimp only at e4
    rw [e4]
    simp [sizeLine]
    omega

theorem appendleft_K {Q : Value → Shared → Prop} (F : Fr h₀ L s.heap m) (N : News h₀ L s.heap news) (U : Upd D (deqObj xs n) (deqObj (v :: xs) (n + 1)) news news') (hz : xs.length ≤ 100)
    (h : ∀ h', Fr h₀ L h' m → News h₀ L h' news' → Q .none { s with heap := h' }) : wpAny (model prog w) A (call (.builtin "collections.deque.appendleft") [.ref D, v]) Q E s := by
  obtain ⟨pre, post, rfl, rfl, a, b⟩ := U.split
  have z := N (D, deqObj xs n) (List.mem_append.mpr (.inr (.head _)))
  refine wpAny_call_entry slot_deque_appendleft ⟨_, z.1, rfl⟩ entry_deque_appendleft ?_ (args_deque_appendleft _ _)
  show wpAny _ _ (Deque.pushLeft (.ref D) v >>= fun _ => ret .none) _ _ s
  unfold Deque.pushLeft
  refine wpAny_bind (wpAny_bind (deq_change (ys := v :: xs) z.1 (by simp) (by simp; omega) fun h' hs ho' => ?_))
  refine wpAny_bind (deq_maxlen (n := n + 1) (xs := v :: xs) ho' ?_)
  exact wpAny_pure (wpAny_pure ⟨.none, rfl, h h' (F.change hs z.2.1 z.2.2) (news_set N a b hs ho')⟩)

theorem popleft_K {Q : Value → Shared → Prop} (F : Fr h₀ L s.heap m) (N : News h₀ L s.heap news) (U : Upd D (deqObj (v :: xs) n) (deqObj xs (n + 1)) news news') (hz : xs.length ≤ 100)
    (h : ∀ h', Fr h₀ L h' m → News h₀ L h' news' → Q v { s with heap := h' }) : wpAny (model prog w) A (call (.builtin "collections.deque.popleft") [.ref D]) Q E s := by
  obtain ⟨pre, post, rfl, rfl, a, b⟩ := U.split
  have z := N (D, deqObj (v :: xs) n) (List.mem_append.mpr (.inr (.head _)))
  refine wpAny_call_entry slot_deque_popleft ⟨_, z.1, rfl⟩ entry_deque_popleft ?_ (args_deque_popleft _)
  unfold Builtin.«collections.deque.popleft»
  refine wpAny_bind (m := selfOnly "deque.popleft" _) (wpAny_pure ?_)
  refine wpAny_bind (deq_items z.1 ?_)
  rw [show (v :: xs).toArray[0]? = some v by simp]
  dsimp only
  refine wpAny_bind (deq_change (ys := xs) z.1 (by simp [Array.eraseIdxIfInBounds]) (by omega) fun h' hs ho' => ?_)
  exact wpAny_pure ⟨v, rfl, h h' (F.change hs z.2.1 z.2.2) (news_set N a b hs ho')⟩

theorem deq_len_body {Q : Value → Shared → Prop} (ho : s.heap.get? D = some (deqObj xs n)) (hz : xs.length ≤ 1000)
    (h : Q (.int xs.length (s.toks + 1)) { s with toks := s.toks + 1 + 1 }) : wpAny (model prog w) A (Builtin.«len» ⟨[.ref D], []⟩) (fun fin s' => ∃ r, fin = .done (.ret r) ∧ Q r s') E s := by
  have hT : s.TypeIs (.ref D) "collections.deque" := ⟨_, ho, rfl⟩
  unfold Builtin.«len»
  refine wpAny_bind (m := oneArg "len" _) (wpAny_pure ?_)
  refine wpAny_bind (m := callSpecial? (.ref D) (Str.ofString "__len__")) (wpAny_callSpecial?_slot (name := Str.ofString "__len__") hT slot_deque_len
    (wpAny_call_entry slot_deque_len hT entry_deque_len ?_ (args_deque_len _)))
  show wpAny _ _ (do retInt (← Deque.size (.ref D))) _ _ s
  unfold Deque.size
  refine wpAny_bind (wpAny_bind (wpAny_fieldsOf ho rfl ?_))
  refine wpAny_pure (wpAny_bind (wpAny_mkInt (wpAny_pure ⟨_, rfl, ?_⟩)))
  refine wpAny_bind (wpAny_holding (wpAny_pure ?_))
  refine wpAny_bind (wpAny_letGo ?_)
  have e : (((#[Value.none, Value.int n 0] ++ xs.toArray).size - 2 : Nat) : Int) = (xs.length : Int) := by simp
  rw [e]
  show wpAny _ _ (if ((xs.length : Nat) : Int) < 0 then _ else _) _ _ _
  rw [if_neg (by omega)]
  show wpAny _ _ (if ((xs.length : Nat) : Int) ≥ 2 ^ 63 then _ else _) _ _ _
  rw [if_neg (by omega)]
  exact wpAny_bind (wpAny_mkInt (wpAny_pure ⟨_, rfl, h⟩))

theorem deq_truthy {Q : Bool → Shared → Prop} (N : News h₀ L s.heap news) (hm : (D, deqObj xs n) ∈ news) (hz : xs.length ≤ 1000)
    (h : Q (!xs.isEmpty) { s with toks := s.toks + 1 + 1 }) : wpAny (model prog w) A (truthy (.ref D)) Q E s := by
  have ho := (N _ hm).1
  have hT : s.TypeIs (.ref D) "collections.deque" := ⟨_, ho, rfl⟩
  have hne : ((xs.length : Int) != 0) = !xs.isEmpty := by
    cases xs with
    | nil => rfl
    | cons a r =>
      have h1 : (((a :: r).length : Int) != 0) = true := bne_iff_ne.mpr (by simp only [List.length_cons]; omega)
      rw [h1]; rfl
  have key : wpAny (model prog w) A (runValue (.builtin "len" ⟨[.ref D], []⟩)) (fun r s' => r = .int xs.length (s.toks + 1) ∧ Q (!xs.isEmpty) s') E s := by
    refine wpAny_runValue (codeAny_builtin entry_len ?_)
    rw [Around.under_plainId plain_len _]
    exact wpAny_mono (deq_len_body (Q := fun r s' => r = .int xs.length (s.toks + 1) ∧ Q (!xs.isEmpty) s') ho hz ⟨rfl, h⟩)
      (fun fin s' h' => by obtain ⟨r, rfl, hq⟩ := h'; exact hq) fun _ _ e => e
  unfold truthy
  first
    | refine wpAny_bind (wpAny_callSpecial?_none (name := Str.ofString "__bool__") hT noBool_deque ?_)
    | refine wpAny_bind (wpAny_pure (wpAny_bind (wpAny_callSpecial?_none (name := Str.ofString "__bool__") hT noBool_deque ?_)))
  first
    | refine wpAny_bind (wpAny_specialOf (name := Str.ofString "__len__") hT slot_deque_len.lookup ?_)
    | refine wpAny_bind (wpAny_pure (wpAny_bind (wpAny_specialOf (name := Str.ofString "__len__") hT slot_deque_len.lookup ?_)))
  refine wpAny_bind (wpAny_mono key (fun r s' h' => ?_) fun _ _ e => e)
  obtain ⟨rfl, hq⟩ := h'
  rw [← hne] at hq
  exact wpAny_pure hq
end
end
local macro_rules | `(tactic| k_room) => `(tactic| ((try simp only [depth_under_make, depth_under_kw, depth_in1, depth_deeper, depth_caller]); (try unfold recursionLimit); omega))

local macro_rules | `(tactic| k_all) => `(tactic| first | assumption | (refine' List.forall_mem_cons.mpr ⟨?a, ?b⟩; (case a => k_ne); (case b => k_all)))

local macro_rules | `(tactic| walk_at "subscriptTail Attribute") => `(tactic| (refine kba_turn (value' := PySem.Expr.Name (PySem.Str.ofString "_") ⟨0, 0, 0, 0⟩) (fun _ => rfl) ?_))
local macro_rules | `(tactic| walk_at "subscriptTail BinOp") => `(tactic| (refine kba_turn (value' := PySem.Expr.Name (PySem.Str.ofString "_") ⟨0, 0, 0, 0⟩) (fun _ => rfl) ?_))

noncomputable abbrev sioEs (P : Params) (kt : Nat → Tok) (nl buf : Str) (tn tb : Tok) (vpos : Value) : List DictEntry :=
  [⟨PyData.keyHash P "_StringIO__newline", .str "_StringIO__newline" (kt 0), .str nl tn⟩,
   ⟨PyData.keyHash P "_StringIO__buf", .str "_StringIO__buf" (kt 1), .str buf tb⟩,
   ⟨PyData.keyHash P "_StringIO__pos", .str "_StringIO__pos" (kt 2), vpos⟩]

section
variable {prog : Program} {w : World} {A₀ : Around} {base h₀ : Heap} {outer : List Env} {L : Addr} {m mg mb : Str → Option Value} {env : Env} {news : List (Addr × Obj)} {p : Program} {loose : List Str} {mean : ExcName → Option Value}
  {R : Result → Shared → Prop} {s : Shared} {hh : Option Value} {d u : Nat} {gs : Option (List Code)}

theorem index_spec {i : Int} {t t2 : Tok} {what : Str} (B : Below A₀ base outer h₀) (F : Fr h₀ L s.heap m) (N : News h₀ L s.heap news) (X : (hd0.heap_1_39 w.params).In h₀) (T : Top p loose mean mg mb h₀)
    (hf : env.frame = some L) (hke : env.scope.kind = .function) (hd : d ≤ 500) (hu : u ≤ 100) (hi1 : -1000000 ≤ i) (hi2 : i ≤ 1000000)
    (k : ∀ h' tk t', Fr h₀ L h' m → News h₀ L h' news → R (.ok (.ret (.int i t'))) { s with heap := h', toks := tk }) :
    codeAny (model prog w) ⟨hh, d, some (env :: outer), gs, u⟩ (.call (.ref 53) ⟨[.int i t, .str what t2], []⟩) R s := by
  refine' code_def (env := env) ?k1 ?k2 ?k3 ?k4 ?k5 ?kA ?kF ?kK ?k6 ?k7 ?k8 ?k9 ?kB ?_ ?c2 ?c3 ?c4 ?c5; (case kA => exact rfl); (case kF => exact hf); (case kK => exact hke); (case k1 => k_asm); (case k2 => k_asm); (case k3 => k_asm); (case k4 => k_asm); (case k5 => k_asm); (case k6 => k_is); (case k7 => k_is); (case k8 => k_room); (case k9 => first | exact BindsTo.of_eq rfl | exact binds_K (by k_in) rfl (by k_is) rfl rfl rfl | fail "k_enter: no rule for these arguments"); (case c5 => decide); (case kB => exact locs rfl); (case c2 => exact rfl); (case c3 => exact rfl); (case c4 => exact rfl); k_whole; intro g' L' h' FG' F' N' B' X' T'; (try dsimp only); (try k_lift B'); (try k_fold); (try (refine toks_named ?_; intro tkE))
  k_steps
  exact k _ _ _ (by assumption) (by assumption)

theorem read_spec {t : Tok} {x dx : Addr} {kt : Nat → Tok} {cs : List Nat} {tn tb tp : Tok} {pos : Nat}
    (B : Below A₀ base outer h₀) (F : Fr h₀ L s.heap m) (N : News h₀ L s.heap ((dx, dictOf (sioEs w.params kt "\n" (tx cs) tn tb (.int (pos : Int) tp)) 3) :: (x, instObj 587 dx) :: news)) (X : (hd0.heap_1_39 w.params).In h₀) (T : Top p loose mean mg mb h₀)
    (hf : env.frame = some L) (hke : env.scope.kind = .function) (hd : d ≤ 490) (hu : u ≤ 90) (hb : cs.length ≤ 1000) (hp : pos ≤ cs.length) (hdx : @Ne Nat dx x) (hnx : ∀ q ∈ news, q.1 ≠ dx)
    (k : ∀ h' tk t1 t2, Fr h₀ L h' m → News h₀ L h' ((dx, dictOf (sioEs w.params kt "\n" (tx cs) tn tb (.int ((pos + ((cs.drop pos).take 1).length : Nat) : Int) t1)) 3) :: (x, instObj 587 dx) :: news) → R (.ok (.ret (.str (tx ((cs.drop pos).take 1)) t2))) { s with heap := h', toks := tk }) :
    codeAny (model prog w) ⟨hh, d, some (env :: outer), gs, u⟩ (.call (.ref 533) ⟨[.ref x, .int 1 t], []⟩) R s := by
  have hl : (tx cs).length = cs.length := tx_length cs
  refine' code_def (env := env) ?k1 ?k2 ?k3 ?k4 ?k5 ?kA ?kF ?kK ?k6 ?k7 ?k8 ?k9 ?kB ?_ ?c2 ?c3 ?c4 ?c5; (case kA => exact rfl); (case kF => exact hf); (case kK => exact hke); (case k1 => k_asm); (case k2 => k_asm); (case k3 => k_asm); (case k4 => k_asm); (case k5 => k_asm); (case k6 => k_is); (case k7 => k_is); (case k8 => k_room); (case k9 => first | exact BindsTo.of_eq rfl | exact binds_K (by k_in) rfl (by k_is) rfl rfl rfl | fail "k_enter: no rule for these arguments"); (case c5 => decide); (case kB => exact locs rfl); (case c2 => exact rfl); (case c3 => exact rfl); (case c4 => exact rfl); k_whole; intro g' L' h' FG' F' N' B' X' T'; (try dsimp only); (try k_lift B'); (try k_fold); (try (refine toks_named ?_; intro tkE))
  k_steps
  · have e : (cs.drop pos).take 1 = [] := by rw [List.drop_eq_nil_of_le (by omega)]; rfl
    rw [e] at k
    exact k _ _ _ _ (by assumption) (by assumption)
  · have hlt : pos + 1 ≤ cs.length := by omega
    have e : ((cs.drop pos).take 1).length = 1 := by simp; omega
    have e3 : (some ((pos : Int) + 1)) = some (((pos + 1 : Nat)) : Int) := rfl
    rw [e3, read_val cs (Nat.le_succ pos) hlt, show pos + 1 - pos = 1 by omega]
    rw [e, show ((pos + 1 : Nat) : Int) = (pos : Int) + 1 from rfl] at k
    exact k _ _ _ _ (by assumption) (by assumption)
  · have hlt : pos + 1 = cs.length := by omega
    have e : ((cs.drop pos).take 1).length = 1 := by simp; omega
    rw [hl, read_val cs (Nat.le_of_lt (by omega)) (Nat.le_refl _), show cs.length - pos = 1 by omega]
    rw [e, hlt, ← hl] at k
    exact k _ _ _ _ (by assumption) (by assumption)

local macro_rules | `(tactic| walk_at "call builtin:str.find") => `(tactic| refine find4 (by omega) ?_)

theorem readline_spec {x dx : Addr} {kt : Nat → Tok} {cs : List Nat} {tn tb tp : Tok} {pos : Nat}
    (B : Below A₀ base outer h₀) (F : Fr h₀ L s.heap m) (N : News h₀ L s.heap ((dx, dictOf (sioEs w.params kt "\n" (tx cs) tn tb (.int (pos : Int) tp)) 3) :: (x, instObj 587 dx) :: news)) (X : (hd0.heap_1_39 w.params).In h₀) (T : Top p loose mean mg mb h₀)
    (hf : env.frame = some L) (hke : env.scope.kind = .function) (hd : d ≤ 490) (hu : u ≤ 90) (hb : cs.length ≤ 1000) (hp : pos ≤ cs.length) (hdx : @Ne Nat dx x) (hnx : ∀ q ∈ news, q.1 ≠ dx)
    (k : ∀ h' tk t1 v2 t2, Fr h₀ L h' m → News h₀ L h' ((dx, dictOf (sioEs w.params kt "\n" (tx cs) tn tb (.int ((pos + lineLen (cs.drop pos) : Nat) : Int) t1)) 3) :: (x, instObj 587 dx) :: news) → R (.ok (.ret (.str v2 t2))) { s with heap := h', toks := tk }) :
    codeAny (model prog w) ⟨hh, d, some (env :: outer), gs, u⟩ (.call (.ref 541) ⟨[.ref x], []⟩) R s := by
  have hl : (tx cs).length = cs.length := tx_length cs
  have hfd := find_line cs pos hp
  have hnl : (⟨#[10]⟩ : Str) = Str.ofString "\n" := by decide +kernel
  rw [hnl] at hfd
  refine' code_def (env := env) ?k1 ?k2 ?k3 ?k4 ?k5 ?kA ?kF ?kK ?k6 ?k7 ?k8 ?k9 ?kB ?_ ?c2 ?c3 ?c4 ?c5; (case kA => exact rfl); (case kF => exact hf); (case kK => exact hke); (case k1 => k_asm); (case k2 => k_asm); (case k3 => k_asm); (case k4 => k_asm); (case k5 => k_asm); (case k6 => k_is); (case k7 => k_is); (case k8 => k_room); (case k9 => first | exact BindsTo.of_eq rfl | exact binds_K (by k_in) rfl (by k_is) rfl rfl rfl | fail "k_enter: no rule for these arguments"); (case c5 => decide); (case kB => exact locs rfl); (case c2 => exact rfl); (case c3 => exact rfl); (case c4 => exact rfl); k_whole; intro g' L' h' FG' F' N' B' X' T'; (try dsimp only); (try k_lift B'); (try k_fold); (try (refine toks_named ?_; intro tkE))
  k_steps
  · have e : lineLen (cs.drop pos) = 0 := by rw [List.drop_eq_nil_of_le (by omega)]; rfl
    rw [e] at k
    exact k _ _ _ _ _ (by assumption) (by assumption)
  · rcases hfd with ⟨h1, h2⟩ | ⟨h1, h2⟩
    · exfalso; omega
    · rw [← h2] at k
      exact k _ _ _ _ _ (by assumption) (by assumption)
  · rcases hfd with ⟨h1, h2⟩ | ⟨h1, h2⟩
    · rw [h2, ← hl] at k
      exact k _ _ _ _ _ (by assumption) (by assumption)
    · exfalso; omega
end
section
variable {prog : Program} {w : World} {A : Around} {E : Value → Shared → Prop} {s : Shared} {t u : Tok} {c : Nat} {l : List Nat} {Q : Value → Shared → Prop}
theorem in_empty (hq : Q (.bool false) s) : wpAny (model prog w) A (compareOp .In (.str (tx [c]) u) (.str (tx []) t)) Q E s := by
  exact in_no (by simp) hq
theorem notin_empty (hq : Q (.bool true) s) : wpAny (model prog w) A (compareOp .NotIn (.str (tx [c]) u) (.str (tx []) t)) Q E s := by
  refine PyProof.Rows.notIn_str ?_
  have e := StrLaws.found_one (tx []) c
  rw [show (tx [c]) = (⟨#[c]⟩ : Str) from rfl, e, tx_cps]
  exact hq
theorem truthy_no {Q : Bool → Shared → Prop} (hq : Q false { s with toks := s.toks + 1 + 1 }) : wpAny (model prog w) A (truthy (.str (tx []) t)) Q E s :=
  P.truthy_str (by decide) (by rw [tx_length]; exact hq)
theorem truthy_yes {Q : Bool → Shared → Prop} (h : l ≠ []) (hz : l.length ≤ 1000) (hq : Q true { s with toks := s.toks + 1 + 1 }) : wpAny (model prog w) A (truthy (.str (tx l) t)) Q E s :=
  P.truthy_str (by rw [tx_length]; omega) (by
    rw [tx_length]
    have h1 : ((l.length : Int) != 0) = true := bne_iff_ne.mpr (by have := List.length_pos_iff.mpr h; omega)
    rw [h1]; exact hq)
theorem iadd_tx {a b : List Nat} {Q : Value → Shared → Prop} (hz : a.length + b.length ≤ 100000) (h : ∀ t' k, Q (.str (tx (a ++ b)) t') { s with toks := k }) : wpAny (model prog w) A (inplaceOp .Add (.str (tx a) t) (.str (tx b) u)) Q E s :=
  SB.iadd (fun t' k => by rw [tx_append]; exact h t' k) (by rw [tx_length, tx_length]; unfold sizeLine; omega)
end

section
variable {prog : Program} {w : World} {A : Around} {E : Value → Shared → Prop} {s : Shared} {env : Env} {Q : Flow → Shared → Prop}
theorem raise_VE {np cpos pos cp : Pos} {k0 : Nat} {msg : Str} (hh : A.handled = none)
    (hx : wpAny (model prog w) A (eval (.Name "ValueError" np) env) (fun v s₁ => v = .type "ValueError" ∧ s₁ = s) E s)
    (h : ∀ h' e, Heap.MadeExcOf s.heap h' e (.type "ValueError") [.str msg s.toks] → E (.ref e) { s with heap := h', toks := s.toks + 1 }) :
    wpAny (model prog w) A (exec (.Raise (some (.Call (.Name "ValueError" np) [.Constant (.str msg) k0 cp] [] cpos)) none pos) env) Q E s := by
  refine Raise_madeB PySem.F.excCall_ValueError PySem.F.excRaise_ValueError hh (wpAny_mono hx (fun f s₁ h₁ => ?_) fun _ _ z => z)
  obtain ⟨rfl, rfl⟩ := h₁
  refine ⟨rfl, ?_⟩
  iterate 3 walk1
  exact ⟨Nat.le_of_ble_eq_true rfl, fun h' e hm => h h' e (Heap.MadeExc.of hm)⟩
end

section
variable {prog : Program} {w : World} {A : Around} {E : Value → Shared → Prop} {s : Shared} {h₀ : Heap} {L : Addr} {news : List (Addr × Obj)} {D : Addr} {xs : List Value} {n : Int} {v : Value} {Q : Bool → Shared → Prop}
theorem deq_truthy0 (N : News h₀ L s.heap news) (hm : (D, deqObj [] n) ∈ news) (h : Q false { s with toks := s.toks + 1 + 1 }) : wpAny (model prog w) A (truthy (.ref D)) Q E s := deq_truthy N hm (Nat.zero_le _) h
theorem deq_truthy1 (N : News h₀ L s.heap news) (hm : (D, deqObj [v] n) ∈ news) (h : Q true { s with toks := s.toks + 1 + 1 }) : wpAny (model prog w) A (truthy (.ref D)) Q E s := deq_truthy N hm (Nat.le_of_ble_eq_true rfl) h
end
noncomputable abbrev lexEs (P : Params) (kt tv : Nat → Tok) (S : Sets) (sx pb fs : Addr) (vst vln vtok : Value) : List DictEntry :=
  [⟨PyData.keyHash P "instream", .str "instream" (kt 0), .ref sx⟩,
   ⟨PyData.keyHash P "infile", .str "infile" (kt 1), .none⟩,
   ⟨PyData.keyHash P "posix", .str "posix" (kt 2), .bool false⟩,
   ⟨PyData.keyHash P "eof", .str "eof" (kt 3), .str (tx []) (tv 3)⟩,
   ⟨PyData.keyHash P "commenters", .str "commenters" (kt 4), .str (tx S.cm) (tv 4)⟩,
   ⟨PyData.keyHash P "wordchars", .str "wordchars" (kt 5), .str (tx S.wc) (tv 5)⟩,
   ⟨PyData.keyHash P "whitespace", .str "whitespace" (kt 6), .str (tx S.ws) (tv 6)⟩,
   ⟨PyData.keyHash P "whitespace_split", .str "whitespace_split" (kt 7), .bool S.whole⟩,
   ⟨PyData.keyHash P "quotes", .str "quotes" (kt 8), .str (tx S.qs) (tv 8)⟩,
   ⟨PyData.keyHash P "escape", .str "escape" (kt 9), .str (tx [92]) (tv 9)⟩,
   ⟨PyData.keyHash P "escapedquotes", .str "escapedquotes" (kt 10), .str "\"" (tv 10)⟩,
   ⟨PyData.keyHash P "state", .str "state" (kt 11), vst⟩,
   ⟨PyData.keyHash P "pushback", .str "pushback" (kt 12), .ref pb⟩,
   ⟨PyData.keyHash P "lineno", .str "lineno" (kt 13), vln⟩,
   ⟨PyData.keyHash P "debug", .str "debug" (kt 14), .int 0 (tv 14)⟩,
   ⟨PyData.keyHash P "token", .str "token" (kt 15), vtok⟩,
   ⟨PyData.keyHash P "filestack", .str "filestack" (kt 16), .ref fs⟩,
   ⟨PyData.keyHash P "source", .str "source" (kt 17), .none⟩,
   ⟨PyData.keyHash P "_punctuation_chars", .str "_punctuation_chars" (kt 18), .str (tx []) (tv 18)⟩]

noncomputable def stV : Option Nat → Tok → Value
  | none, _ => .none
  | some c, t => .str (tx [c]) t

/-- the ledger of a lexer -/
noncomputable abbrev lexL (P : Params) (kt tv kt2 : Nat → Tok) (S : Sets) (x dx sx dsx pb fs : Addr) (cs : List Nat) (tn tb : Tok) (vst vln vtok vpos : Value) (dq : Obj) (news : List (Addr × Obj)) : List (Addr × Obj) :=
  (dx, dictOf (lexEs P kt tv S sx pb fs vst vln vtok) 19) :: (x, instObj 722 dx) :: (dsx, dictOf (sioEs P kt2 "\n" (tx cs) tn tb vpos) 3) :: (sx, instObj 587 dsx) :: (pb, dq) :: news

theorem news_sub {h₀ h : Heap} {L : Addr} {l l' : List (Addr × Obj)} (N : News h₀ L h l) (i : ∀ p ∈ l', p ∈ l) : News h₀ L h l' := fun p hp => N p (i p hp)
theorem news_tail {h₀ h : Heap} {L : Addr} {q : Addr × Obj} {l : List (Addr × Obj)} (N : News h₀ L h (q :: l)) : News h₀ L h l := fun p hp => N p (.tail _ hp)
theorem fr_at {h₀ h : Heap} {L : Addr} {m : Str → Option Value} {x : Str} {v : Value} (F : Fr h₀ L h m) (e : m x = some v) : Fr h₀ L h (fun y => if y = x then some v else m y) := by
  have : (fun y => if y = x then some v else m y) = m := by
    funext y
    by_cases q : y = x
    · rw [if_pos q, q, e]
    · rw [if_neg q]
  rw [this]; exact F
theorem cut_stmt {M : Model} {A : Around} {env : Env} {st : Stmt} {rest : List Stmt} {Q : Flow → Shared → Prop} {E : Value → Shared → Prop} {s : Shared} (P : Shared → Prop)
    (h1 : wpAny M A (exec st env) (fun f s' => match f with | .next => P s' | _ => False) E s) (h2 : ∀ s', P s' → wpAny M A (execs rest env) Q E s') : wpAny M A (execs (st :: rest) env) Q E s :=
  wpAny_execs_cons (wpAny_mono h1 (fun f s' hp => by cases f <;> first | exact h2 s' hp | exact hp.elim) (fun _ _ x => x))
section
variable {prog : Program} {w : World} {A : Around} {E : Value → Shared → Prop} {s : Shared}
theorem app_head {lt : Addr} {vals : List Value} {v : Value} {c : Nat} {rest : List (Addr × Obj)} {g : Heap} {L : Addr} {m : Str → Option Value} {Q : Value → Shared → Prop} (F : Fr g L s.heap m) (N : News g L s.heap ((lt, listOf vals.toArray c) :: rest)) (nn : ∀ q ∈ rest, q.1 ≠ lt) (hz : vals.length ≤ 2000)
    (k : ∀ h', Fr g L h' m → News g L h' ((lt, listOf (vals ++ [v]).toArray (c + 1)) :: rest) → Q .none { s with heap := h' }) :
    wpAny (model prog w) A (call (.builtin "list.append") [.ref lt, v]) Q E s := by
  have z : s.heap.get? lt = some (listOf vals.toArray c) := (N (lt, listOf vals.toArray c) (by simp)).1
  have z2 := (N (lt, listOf vals.toArray c) (by simp)).2
  refine append_at (hsz := by simp [sizeLine]; omega) z fun h' hs ho' => k h' (F.change hs z2.1 z2.2) ?_
  intro q hq
  by_cases e : q = (lt, listOf (vals ++ [v]).toArray (c + 1))
  · subst e
    refine ⟨?_, z2⟩
    rw [ho']; simp
  · have hq2 : q ∈ rest := by
      simp only [List.mem_cons] at hq
      rcases hq with h | h
      · exact absurd h e
      · exact h
    have z3 := N q (List.mem_cons_of_mem _ hq2)
    exact ⟨(hs.2 _ (nn q hq2)).trans z3.1, z3.2⟩
end
local macro_rules | `(tactic| walk_at "compareOp In str str") => `(tactic| first | (refine in_yes (by assumption) ?_) | (refine in_no (by assumption) ?_))
local macro_rules | `(tactic| walk_at "compareOp Eq str str") => `(tactic| (refine eq_at (by assumption) ?_))
local macro_rules | `(tactic| walk_at "getMethod ref") => `(tactic| (k_here; (with_reducible show wpAny _ _ (getMethod (Value.ref _) (PySem.Str.ofString "appendleft") _) _ _ _); k_dflt (refine' deqMethod ?N ?m slot_deque_appendleft type_deque_appendleft ?_; (case N => k_asm); (case m => k_mem))))
local macro_rules | `(tactic| walk_at "getMethod ref") => `(tactic| (k_here; (with_reducible show wpAny _ _ (getMethod (Value.ref _) (PySem.Str.ofString "popleft") _) _ _ _); k_dflt (refine' deqMethod ?N ?m slot_deque_popleft type_deque_popleft ?_; (case N => k_asm); (case m => k_mem))))
local macro_rules | `(tactic| walk_at "call builtin:collections.deque.appendleft") => `(tactic| (k_here; k_dflt (refine' appendleft_K ?F ?N ?U ?z ?_; (case F => k_asm); (case N => k_asm); (case U => k_upd); (case z => exact Nat.le_of_ble_eq_true rfl); k_whole); intro h' F' N'; (try k_sweep)))
local macro_rules | `(tactic| walk_at "call builtin:collections.deque.popleft") => `(tactic| (k_here; k_dflt (refine' popleft_K ?F ?N ?U ?z ?_; (case F => k_asm); (case N => k_asm); (case U => k_upd); (case z => exact Nat.le_of_ble_eq_true rfl); k_whole); intro h' F' N'; (try k_sweep)))
local macro_rules | `(tactic| walk_at "truthy ref") => `(tactic| (k_here; k_dflt (first | (refine' deq_truthy0 ?N ?m ?_; (case N => k_asm); (case m => k_mem); k_whole) | (refine' deq_truthy1 ?N ?m ?_; (case N => k_asm); (case m => k_mem); k_whole))))
local macro_rules | `(tactic| walk_at "compareOp In str str") => `(tactic| (refine in_empty ?_))
local macro_rules | `(tactic| walk_at "compareOp NotIn str str") => `(tactic| (refine notin_empty ?_))
local macro_rules | `(tactic| walk_at "truthy str") => `(tactic| first | (refine truthy_no ?_) | (refine truthy_yes (by first | assumption | exact List.cons_ne_nil _ _) (by first | omega | (simp only [List.length_cons, List.length_nil] at *; omega)) ?_))
local macro_rules | `(tactic| walk_at "ite") => `(tactic| first | (with_reducible refine ite_pos (by assumption) ?_) | (with_reducible refine ite_neg (by assumption) ?_))
local macro_rules | `(tactic| walk_at "inplaceOp Add str str") => `(tactic| (refine iadd_tx (by first | omega | (simp only [List.length_cons, List.length_nil, List.length_append] at *; omega)) ?_; intro _ _))
local macro_rules | `(tactic| walk_at "exec Raise some none") => `(tactic| (k_here; (with_reducible show wpAny _ _ (exec (Stmt.Raise (some (Expr.Call (Expr.Name ("ValueError" : Str) _) [Expr.Constant _ _ _] [] _)) none _) _) _ _ _); (with_reducible rename Fr _ _ _ _ => kF); k_dflt (refine' raise_VE ?hh ?hx ?_; (case hh => rfl); (case hx => (refine' name_B kF ?k1 ?k2 ?k3 ?k4 ?k5 ?_; (case k1 => k_asm); (case k2 => k_asm); (case k3 => k_is); (case k4 => boot_by_name); (case k5 => decide); exact ⟨rfl, rfl⟩))); intro h' e' hm'))
local macro_rules | `(tactic| walk_at "execs cons") => `(tactic| ((with_reducible refine execs_named ?_); intro kK kL))
local macro_rules | `(tactic| walk_at "execs cons") => `(tactic| ((with_reducible refine execs_single ?_); (try dsimp only)))
local macro_rules | `(tactic| walk1) => `(tactic| ((fail_if_success (with_reducible show wpAny _ _ _ _ _ _)); (with_reducible rename Leads _ _ => kL); (refine kL _ _ ?_); clear kL; (try dsimp only)))
local macro_rules | `(tactic| k_ne) => `(tactic| (refine neN ?_; (try dsimp only); first | (with_reducible assumption) | (refine Ne.symm ?_; with_reducible assumption) | omega))

/-- how two parts of a lexer's ledger lie apart -/
structure Apart (dx x dsx sx pb : Addr) (news : List (Addr × Obj)) : Prop where
  a1 : @Ne Nat dx x
  a2 : @Ne Nat dx dsx
  a3 : @Ne Nat dx sx
  a4 : @Ne Nat dx pb
  a5 : @Ne Nat dsx x
  a6 : @Ne Nat dsx sx
  a7 : @Ne Nat dsx pb
  a8 : @Ne Nat pb x
  a9 : @Ne Nat pb sx
  n1 : ∀ q ∈ news, q.1 ≠ dx
  n2 : ∀ q ∈ news, q.1 ≠ dsx
  n3 : ∀ q ∈ news, q.1 ≠ pb

section
variable {prog : Program} {w : World} {A₀ : Around} {base h₀ : Heap} {outer : List Env} {L : Addr} {m mg mb : Str → Option Value} {env : Env} {news : List (Addr × Obj)} {p : Program} {loose : List Str} {mean : ExcName → Option Value}
  {R : Result → Shared → Prop} {s : Shared} {d u : Nat} {gs : Option (List Code)} {hh : Option Value}
theorem read_lex {t : Tok} {kt tv kt2 : Nat → Tok} {S : Sets} {x dx sx dsx pb fs : Addr} {cs : List Nat} {tn tb tp : Tok} {pos : Nat} {vst vln vtok : Value} {dq : Obj}
    (B : Below A₀ base outer h₀) (F : Fr h₀ L s.heap m) (N : News h₀ L s.heap (lexL w.params kt tv kt2 S x dx sx dsx pb fs cs tn tb vst vln vtok (.int (pos : Int) tp) dq news)) (X : (hd0.heap_1_39 w.params).In h₀) (T : Top p loose mean mg mb h₀) (Z : Apart dx x dsx sx pb news)
    (hb : cs.length ≤ 900) (hp : pos ≤ cs.length) (hf : env.frame = some L) (hke : env.scope.kind = .function) (hd : d ≤ 490) (hu : u ≤ 90)
    (k : ∀ h' tk t1 t2, Fr h₀ L h' m → News h₀ L h' (lexL w.params kt tv kt2 S x dx sx dsx pb fs cs tn tb vst vln vtok (.int ((pos + ((cs.drop pos).take 1).length : Nat) : Int) t1) dq news) → R (.ok (.ret (.str (tx ((cs.drop pos).take 1)) t2))) { s with heap := h', toks := tk }) :
    codeAny (model prog w) ⟨hh, d, some (env :: outer), gs, u⟩ (.call (.ref 533) ⟨[.ref sx, .int 1 t], []⟩) R s := by
  refine read_spec (kt := kt2) (tn := tn) (tb := tb) (tp := tp) (news := (dx, dictOf (lexEs w.params kt tv S sx pb fs vst vln vtok) 19) :: (x, instObj 722 dx) :: (pb, dq) :: news) B F (news_sub N (by repeat' (first | exact sub_nil | (with_reducible exact sub_same) | (with_reducible refine sub_cons ?_ ?_) | (with_reducible exact List.mem_cons_self) | (with_reducible refine List.mem_cons_of_mem _ ?_) | (with_reducible refine sub_more ?_)))) X T hf hke hd hu (by omega) hp Z.a6 ?_ (fun h' tk t1 t2 F' N' => k h' tk t1 t2 F' (news_sub N' (by repeat' (first | exact sub_nil | (with_reducible exact sub_same) | (with_reducible refine sub_cons ?_ ?_) | (with_reducible exact List.mem_cons_self) | (with_reducible refine List.mem_cons_of_mem _ ?_) | (with_reducible refine sub_more ?_)))))
  exact List.forall_mem_cons.mpr ⟨Z.a2, List.forall_mem_cons.mpr ⟨fun z => Z.a5 z.symm, List.forall_mem_cons.mpr ⟨fun z => Z.a7 z.symm, Z.n2⟩⟩⟩
theorem readline_lex {kt tv kt2 : Nat → Tok} {S : Sets} {x dx sx dsx pb fs : Addr} {cs : List Nat} {tn tb tp : Tok} {pos : Nat} {vst vln vtok : Value} {dq : Obj}
    (B : Below A₀ base outer h₀) (F : Fr h₀ L s.heap m) (N : News h₀ L s.heap (lexL w.params kt tv kt2 S x dx sx dsx pb fs cs tn tb vst vln vtok (.int (pos : Int) tp) dq news)) (X : (hd0.heap_1_39 w.params).In h₀) (T : Top p loose mean mg mb h₀) (Z : Apart dx x dsx sx pb news)
    (hb : cs.length ≤ 900) (hp : pos ≤ cs.length) (hf : env.frame = some L) (hke : env.scope.kind = .function) (hd : d ≤ 490) (hu : u ≤ 90)
    (k : ∀ h' tk t1 v2 t2, Fr h₀ L h' m → News h₀ L h' (lexL w.params kt tv kt2 S x dx sx dsx pb fs cs tn tb vst vln vtok (.int ((pos + lineLen (cs.drop pos) : Nat) : Int) t1) dq news) → R (.ok (.ret (.str v2 t2))) { s with heap := h', toks := tk }) :
    codeAny (model prog w) ⟨hh, d, some (env :: outer), gs, u⟩ (.call (.ref 541) ⟨[.ref sx], []⟩) R s := by
  refine readline_spec (kt := kt2) (tn := tn) (tb := tb) (tp := tp) (news := (dx, dictOf (lexEs w.params kt tv S sx pb fs vst vln vtok) 19) :: (x, instObj 722 dx) :: (pb, dq) :: news) B F (news_sub N (by repeat' (first | exact sub_nil | (with_reducible exact sub_same) | (with_reducible refine sub_cons ?_ ?_) | (with_reducible exact List.mem_cons_self) | (with_reducible refine List.mem_cons_of_mem _ ?_) | (with_reducible refine sub_more ?_)))) X T hf hke hd hu (by omega) hp Z.a6 ?_ (fun h' tk t1 v2 t2 F' N' => k h' tk t1 v2 t2 F' (news_sub N' (by repeat' (first | exact sub_nil | (with_reducible exact sub_same) | (with_reducible refine sub_cons ?_ ?_) | (with_reducible exact List.mem_cons_self) | (with_reducible refine List.mem_cons_of_mem _ ?_) | (with_reducible refine sub_more ?_)))))
  exact List.forall_mem_cons.mpr ⟨Z.a2, List.forall_mem_cons.mpr ⟨fun z => Z.a5 z.symm, List.forall_mem_cons.mpr ⟨fun z => Z.a7 z.symm, Z.n2⟩⟩⟩
end

local macro_rules | `(tactic| walk_at "call ref") => `(tactic| (k_here; (with_reducible show wpAny _ _ (call (Value.ref 533) _ _) _ _ _); k_dflt (refine wpAny_call (read_lex (by assumption) (by assumption) (by assumption) (by assumption) (by assumption) (by assumption) (by assumption) (by assumption) rfl rfl (by (try dsimp only); omega) (by (try dsimp only); omega) ?_)); intro h' tk' t1' t2' F' N'; (try k_sweep)))
local macro_rules | `(tactic| walk_at "call ref") => `(tactic| (k_here; (with_reducible show wpAny _ _ (call (Value.ref 541) _ _) _ _ _); k_dflt (refine wpAny_call (readline_lex (by assumption) (by assumption) (by first | assumption | exact news_tail (by assumption)) (by assumption) (by assumption) (by assumption) (by assumption) (by assumption) rfl rfl (by (try dsimp only); omega) (by (try dsimp only); omega) ?_)); intro h' tk' t1' v2' t2' F' N'; (try k_sweep)))

theorem drop_one {cs r : List Nat} {c pos : Nat} (h : cs.drop pos = c :: r) : cs.drop (pos + 1) = r ∧ pos + 1 ≤ cs.length := by
  constructor
  · rw [← List.drop_drop, h]; rfl
  · have := congrArg List.length h
    simp at this; omega
theorem nl_nil : nl [] = 0 := rfl
theorem nl_yes {r : List Nat} (h : r.head? = some 10) : (tx (r.take 1) == Str.ofString "\n") = true := by
  have e : Str.ofString "\n" = tx [10] := by decide +kernel
  rw [e, tx_eq_iff]
  cases r with
  | nil => cases h
  | cons c r => simp at h; simp [h]
theorem nl_no {r : List Nat} (h : ¬ r.head? = some 10) : (tx (r.take 1) == Str.ofString "\n") = false := by
  have e : Str.ofString "\n" = tx [10] := by decide +kernel
  rw [e, tx_eq_iff]
  cases r with
  | nil => simp
  | cons c r => simp at h; simp [h]

noncomputable def rtJ (P : Params) (kt tv kt2 : Nat → Tok) (S : Sets) (x dx sx dsx pb fs : Addr) (cs : List Nat) (tn tb : Tok) (news : List (Addr × Obj)) (res : Res) (n : Nat) (m : Str → Option Value) (nx : List (Addr × Obj)) : Prop :=
  ∃ st tok ln pos ts tl tt tp n', nx = lexL P kt tv kt2 S x dx sx dsx pb fs cs tn tb (stV st ts) (.int ln tl) (.str (tx tok) tt) (.int ((pos : Nat) : Int) tp) (deqObj [] n') news ∧
    m "self" = some (.ref x) ∧ pos ≤ cs.length ∧ Run S st tok (cs.drop pos) ln res ∧ tok.length + (cs.drop pos).length ≤ 900 ∧ n = (cs.drop pos).length

noncomputable def rtP1 (P : Params) (kt tv kt2 : Nat → Tok) (S : Sets) (x dx sx dsx pb fs : Addr) (cs : List Nat) (tn tb : Tok) (news : List (Addr × Obj)) (g : Heap) (L : Addr) (s : Shared) (m₁ : Str → Option Value) (vst : Value) (ln : Int) (tok : List Nat) (tt : Tok) (pos : Nat) (n' : Int) (s' : Shared) : Prop :=
  ∃ h' tk tl tp tc, s' = { s with heap := h', toks := tk } ∧ Fr g L h' (fun y => if y = "nextchar" then some (.str (tx ((cs.drop pos).take 1)) tc) else if y = "self" then some (.ref x) else m₁ y) ∧
    News g L h' (lexL P kt tv kt2 S x dx sx dsx pb fs cs tn tb vst (.int ln tl) (.str (tx tok) tt) (.int ((pos + ((cs.drop pos).take 1).length : Nat) : Int) tp) (deqObj [] n') news)

noncomputable def rtEnd (P : Params) (kt tv kt2 : Nat → Tok) (S : Sets) (x dx sx dsx pb fs : Addr) (cs : List Nat) (tn tb : Tok) (news : List (Addr × Obj)) (res : Res) (g : Heap) (L : Addr) (s : Shared) (f : Flow) (s' : Shared) : Prop :=
  f = .next ∧ ∃ t st' rest' ln' push h' tk m' ts tl tt tp tu n' pos', res = .tok t st' rest' ln' push ∧ s' = { s with heap := h', toks := tk } ∧ cs.drop pos' = rest' ∧ pos' ≤ cs.length ∧ t.length ≤ 900 ∧
    Fr g L h' m' ∧ m' "self" = some (.ref x) ∧ News g L h' (lexL P kt tv kt2 S x dx sx dsx pb fs cs tn tb (stV st' ts) (.int ln' tl) (.str (tx t) tt) (.int ((pos' : Nat) : Int) tp) (deqObj ((push : Option Nat).toList.map fun c => .str (tx [c]) tu) n') news)

section
variable {P : Params} {kt tv kt2 : Nat → Tok} {S : Sets} {x dx sx dsx pb fs : Addr} {cs : List Nat} {tn tb : Tok} {news : List (Addr × Obj)} {res : Res} {g : Heap} {L : Addr} {s s₃ : Shared} {h' : Heap} {tk : Nat}
theorem rt_on {n : Nat} {m₂ : Str → Option Value} (st : Option Nat) (tok : List Nat) (pos : Nat) {ln k' : Int} {ts tl tt tp : Tok} (e : s₃ = { s with heap := h', toks := tk }) (hF : Fr g L h' m₂)
    (hN : News g L h' (lexL P kt tv kt2 S x dx sx dsx pb fs cs tn tb (stV st ts) (.int ln tl) (.str (tx tok) tt) (.int (pos : Int) tp) (deqObj [] k') news)) (hself : m₂ "self" = some (.ref x))
    (hlt : (cs.drop pos).length < n) (hp : pos ≤ cs.length) (hrun : Run S st tok (cs.drop pos) ln res) (hl : tok.length + (cs.drop pos).length ≤ 900) :
    ∃ h' tk m₂ news₂ n', s₃ = { s with heap := h', toks := tk } ∧ Fr g L h' m₂ ∧ News g L h' news₂ ∧ n' < n ∧ rtJ P kt tv kt2 S x dx sx dsx pb fs cs tn tb news res n' m₂ news₂ :=
  ⟨_, _, _, _, _, e, hF, hN, hlt, st, tok, _, pos, _, _, _, _, _, rfl, hself, hp, hrun, hl, rfl⟩
theorem rtJ_elim {C : Prop} {n : Nat} {m₁ : Str → Option Value} {nx : List (Addr × Obj)} {h₁ : Heap} (hJ : rtJ P kt tv kt2 S x dx sx dsx pb fs cs tn tb news res n m₁ nx) (N : News g L h₁ nx)
    (k : ∀ st tok ln pos ts tl tt tp n', News g L h₁ (lexL P kt tv kt2 S x dx sx dsx pb fs cs tn tb (stV st ts) (.int ln tl) (.str (tx tok) tt) (.int ((pos : Nat) : Int) tp) (deqObj [] n') news) →
      m₁ "self" = some (.ref x) → pos ≤ cs.length → Run S st tok (cs.drop pos) ln res → tok.length + (cs.drop pos).length ≤ 900 → n = (cs.drop pos).length → C) : C := by
  obtain ⟨st, tok, ln, pos, ts, tl, tt, tp, n', rfl, hself, hp, hrun, hlen, e⟩ := hJ
  exact k _ _ _ _ _ _ _ _ _ N hself hp hrun hlen e
theorem rtP1_on {m₁ : Str → Option Value} {vst : Value} {ln : Int} {tok : List Nat} {tt : Tok} {pos : Nat} {n' : Int} {tl tp tc : Tok} (e : s₃ = { s with heap := h', toks := tk })
    (hF : Fr g L h' (fun y => if y = "nextchar" then some (.str (tx ((cs.drop pos).take 1)) tc) else if y = "self" then some (.ref x) else m₁ y))
    (hN : News g L h' (lexL P kt tv kt2 S x dx sx dsx pb fs cs tn tb vst (.int ln tl) (.str (tx tok) tt) (.int ((pos + ((cs.drop pos).take 1).length : Nat) : Int) tp) (deqObj [] n') news)) :
    rtP1 P kt tv kt2 S x dx sx dsx pb fs cs tn tb news g L s m₁ vst ln tok tt pos n' s₃ := ⟨_, _, _, _, _, e, hF, hN⟩
theorem rtP1_elim {C : Prop} {m₁ : Str → Option Value} {vst : Value} {ln : Int} {tok : List Nat} {tt : Tok} {pos : Nat} {n' : Int} (h : rtP1 P kt tv kt2 S x dx sx dsx pb fs cs tn tb news g L s m₁ vst ln tok tt pos n' s₃)
    (k : ∀ h' tk tl tp tc, Fr g L h' (fun y => if y = "nextchar" then some (.str (tx ((cs.drop pos).take 1)) tc) else if y = "self" then some (.ref x) else m₁ y) →
      News g L h' (lexL P kt tv kt2 S x dx sx dsx pb fs cs tn tb vst (.int ln tl) (.str (tx tok) tt) (.int ((pos + ((cs.drop pos).take 1).length : Nat) : Int) tp) (deqObj [] n') news) → s₃ = { s with heap := h', toks := tk } → C) : C := by
  obtain ⟨h', tk, tl, tp, tc, e, F, N⟩ := h
  exact k _ _ _ _ _ F N e
theorem rt_end (t : List Nat) (st' : Option Nat) (push : Option Nat) (pos' : Nat) {rest' : List Nat} {ln' n' : Int} {m' : Str → Option Value} {ts tl tt tp tu : Tok} (e : s₃ = { s with heap := h', toks := tk }) (hres : res = .tok t st' rest' ln' push)
    (h1 : cs.drop pos' = rest') (h2 : pos' ≤ cs.length) (hF : Fr g L h' m') (hself : m' "self" = some (.ref x))
    (hN : News g L h' (lexL P kt tv kt2 S x dx sx dsx pb fs cs tn tb (stV st' ts) (.int ln' tl) (.str (tx t) tt) (.int (pos' : Int) tp) (deqObj ((push : Option Nat).toList.map fun c => .str (tx [c]) tu) n') news)) (h3 : t.length ≤ 900) :
    rtEnd P kt tv kt2 S x dx sx dsx pb fs cs tn tb news res g L s .next s₃ := ⟨rfl, t, st', _, _, push, _, _, _, _, _, _, _, _, _, pos', hres, e, h1, h2, h3, hF, hself, hN⟩
theorem rtEnd_elim {C : Prop} {f : Flow} (h : rtEnd P kt tv kt2 S x dx sx dsx pb fs cs tn tb news res g L s f s₃)
    (k : ∀ t st' rest' ln' push h' tk m' ts tl tt tp tu n' pos', res = .tok t st' rest' ln' push → cs.drop pos' = rest' → pos' ≤ cs.length → t.length ≤ 900 → Fr g L h' m' → m' "self" = some (.ref x) →
      News g L h' (lexL P kt tv kt2 S x dx sx dsx pb fs cs tn tb (stV st' ts) (.int ln' tl) (.str (tx t) tt) (.int ((pos' : Nat) : Int) tp) (deqObj ((push : Option Nat).toList.map fun c => .str (tx [c]) tu) n') news) → f = .next → s₃ = { s with heap := h', toks := tk } → C) : C := by
  obtain ⟨e1, t, st', rest', ln', push, h', tk, m', ts, tl, tt, tp, tu, n', pos', hres, e2, hd1, hd2, hd3, F, hself, N⟩ := h
  exact k _ _ _ _ _ _ _ _ _ _ _ _ _ _ _ hres hd1 hd2 hd3 F hself N e1 e2
end
section
variable {prog : Program} {w : World} {A₀ : Around} {base h₀ : Heap} {outer : List Env} {L : Addr} {m mg mb : Str → Option Value} {env : Env} {news : List (Addr × Obj)} {p : Program} {loose : List Str} {mean : ExcName → Option Value}
  {R : Result → Shared → Prop} {s : Shared} {d u : Nat} {gs : Option (List Code)}

theorem rt_spec {kt tv kt2 : Nat → Tok} {S : Sets} {x dx sx dsx pb fs : Addr} {cs : List Nat} {tn tb ts tl tt tp : Tok} {st : Option Nat} {ln : Int} {pos : Nat} {res : Res} {n : Int}
    (B : Below A₀ base outer h₀) (F : Fr h₀ L s.heap m) (N : News h₀ L s.heap (lexL w.params kt tv kt2 S x dx sx dsx pb fs cs tn tb (stV st ts) (.int ln tl) (.str (tx []) tt) (.int (pos : Int) tp) (deqObj [] n) news))
    (X : (hd0.heap_1_39 w.params).In h₀) (T : Top p loose mean mg mb h₀) (Z : Apart dx x dsx sx pb news)
    (hb : cs.length ≤ 900) (hp : pos ≤ cs.length) (hf : env.frame = some L) (hke : env.scope.kind = .function) (hd : d ≤ 480) (hu : u ≤ 80)
    (hq1 : 32 ∉ S.qs) (hq2 : 97 ∉ S.qs) (hq3 : 99 ∉ S.qs) (hs1 : S.ws.length ≤ 100) (hs2 : S.cm.length ≤ 100) (hs3 : S.wc.length ≤ 100) (hs4 : S.qs.length ≤ 100)
    (hrun : Run S st [] (cs.drop pos) ln res)
    (k1 : ∀ t st' rest' ln' push h' tk ts tl tt tp tr tu n' pos', res = .tok t st' rest' ln' push → cs.drop pos' = rest' → pos' ≤ cs.length → Fr h₀ L h' m →
          News h₀ L h' (lexL w.params kt tv kt2 S x dx sx dsx pb fs cs tn tb (stV st' ts) (.int ln' tl) (.str (tx []) tt) (.int ((pos' : Nat) : Int) tp) (deqObj ((push : Option Nat).toList.map fun c => .str (tx [c]) tu) n') news) →
          R (.ok (.ret (.str (tx t) tr))) { s with heap := h', toks := tk })
    (k2 : ∀ rest' ln' g h' tk e te ts tl tt tp tm n' tok pos' st', res = .err rest' ln' → Fr h₀ L g m → g.UpToSlots h' →
          RaisedK base (env :: outer) e (.type "ValueError") te [.str "No closing quotation" tm]
            (lexL w.params kt tv kt2 S x dx sx dsx pb fs cs tn tb (stV st' ts) (.int ln' tl) (.str (tx tok) tt) (.int ((pos' : Nat) : Int) tp) (deqObj [] n') news) h' →
          R (.error (.ref e)) { s with heap := h', toks := tk }) :
    codeAny (model prog w) ⟨none, d, some (env :: outer), gs, u⟩ (.call (.ref 690) ⟨[.ref x], []⟩) R s := by
  have hlen : (cs.drop pos).length ≤ 900 := by simp; omega
  have a1 := Z.a1
  have a2 := Z.a2
  have a3 := Z.a3
  have a4 := Z.a4
  have a5 := Z.a5
  have a6 := Z.a6
  have a7 := Z.a7
  have a8 := Z.a8
  have a9 := Z.a9
  have n1 := Z.n1
  have n2 := Z.n2
  have n3 := Z.n3
  have l1 : Str.ofString " " = tx [32] := by decide +kernel
  have l2 : Str.ofString "a" = tx [97] := by decide +kernel
  have l3 : Str.ofString "c" = tx [99] := by decide +kernel
  have s1 : (tx [32] == Str.ofString " ") = true := by decide +kernel
  have s2 : (tx [97] == Str.ofString " ") = false := by decide +kernel
  have s3 : (tx [97] == Str.ofString "c") = false := by decide +kernel
  have s4 : 97 ∉ [92] := by decide
  refine' code_def (env := env) ?k1 ?k2 ?k3 ?k4 ?k5 ?kA ?kF ?kK ?k6 ?k7 ?k8 ?k9 ?kB ?_ ?c2 ?c3 ?c4 ?c5; (case kA => exact rfl); (case kF => exact hf); (case kK => exact hke); (case k1 => k_asm); (case k2 => k_asm); (case k3 => k_asm); (case k4 => k_asm); (case k5 => k_asm); (case k6 => k_is); (case k7 => k_is); (case k8 => k_room); (case k9 => first | exact BindsTo.of_eq rfl | exact binds_K (by k_in) rfl (by k_is) rfl rfl rfl | fail "k_enter: no rule for these arguments"); (case c5 => decide); (case kB => exact locs rfl); (case c2 => exact rfl); (case c3 => exact rfl); (case c4 => exact rfl); k_whole; intro g' L' h' FG' F' N' B' X' T'; (try dsimp only); (try k_lift B'); (try k_fold); (try (refine toks_named ?_; intro tkE))
  iterate 11 (first | (k_unfold; (try dsimp only)) | walk1 | (dsimp only; walk1))
  refine wpAny_mono (Q := rtEnd w.params kt tv kt2 S x dx sx dsx pb fs cs tn tb news res g' L' s) ?_ ?_ (fun _ _ z => z)
  · refine While_inv2 (rtJ w.params kt tv kt2 S x dx sx dsx pb fs cs tn tb news res) (by assumption) (by assumption) ⟨st, [], ln, pos, ts, tl, tt, tp, n, rfl, rfl, hp, hrun, by simpa using hlen, rfl⟩ ?_
    clear hrun hp hlen
    intro n m₁ nx h₁ tk₁ F₁ N₁ hJ
    refine rtJ_elim hJ N₁ ?_
    clear hJ N₁ nx
    intro st tok ln pos ts tl tt tp n' N₁ hself hp hrun hlen hn
    subst hn
    have F₂ := fr_at F₁ hself
    clear F₁
    iterate 3 walk1
    rw [if_pos rfl]
    refine body_named ?_
    intro kK kL
    refine cut_stmt (rtP1 w.params kt tv kt2 S x dx sx dsx pb fs cs tn tb news g' L' s m₁ (stV st ts) ln tok tt pos n') ?_ ?_
    · k_steps
      exact rtP1_on rfl (by assumption) (by assumption)
    · clear F₂ N₁
      intro s' hs
      refine rtP1_elim hs ?_
      clear hs
      intro h' tk tl tp tc F₃ N₃ e
      subst e
      refine cut_stmt (rtP1 w.params kt tv kt2 S x dx sx dsx pb fs cs tn tb news g' L' s m₁ (stV st ts) (ln + nl (cs.drop pos)) tok tt pos n') ?_ ?_
      · by_cases hnl : (cs.drop pos).head? = some 10
        · have e1 : (tx ((cs.drop pos).take 1) == Str.ofString "
") = true := nl_yes hnl
          have e2 : nl (cs.drop pos) = 1 := by unfold nl; rw [if_pos hnl]
          rw [e2]
          k_steps
          exact rtP1_on rfl (by assumption) (by assumption)
        · have e1 : (tx ((cs.drop pos).take 1) == Str.ofString "
") = false := nl_no hnl
          have e2 : nl (cs.drop pos) = 0 := by unfold nl; rw [if_neg hnl]
          rw [e2, Int.add_zero]
          k_steps
          exact rtP1_on rfl (by assumption) (by assumption)
      · clear F₃ N₃
        intro s' hs
        refine rtP1_elim hs ?_
        clear hs
        intro h' tk tl tp tc F₃ N₃ e
        subst e
        generalize hrest : cs.drop pos = rest at hrun hlen F₃ N₃ kL ⊢
        cases hrun with
        | @eof _ _ =>
          simp only [stV, List.take_succ_cons, List.take_zero, List.take_nil, List.length_cons, List.length_nil, Nat.zero_add, Nat.add_zero, nl_nil, Int.add_zero] at F₃ N₃
          repeat' (first | (k_unfold; (try dsimp only)) | walk1 | (dsimp only; walk1))
          refine rt_end ([]) (none) (none) (pos) (ts := ?_) (tu := ?_) rfl rfl (by first | assumption | exact hrest) (by assumption) (by assumption) rfl (by first | assumption | exact news_tail (by assumption)) ?_
          all_goals first | exact (0 : Nat) | (simp only [List.length_append, List.length_cons, List.length_nil] at *; omega)
        | @b_end _ =>
          simp only [stV, List.take_succ_cons, List.take_zero, List.take_nil, List.length_cons, List.length_nil, Nat.zero_add, Nat.add_zero, nl_nil, Int.add_zero] at F₃ N₃
          repeat' (first | (k_unfold; (try dsimp only)) | walk1 | (dsimp only; walk1))
          refine rt_end ([]) (none) (none) (pos) (ts := ?_) (tu := ?_) rfl rfl (by first | assumption | exact hrest) (by assumption) (by assumption) rfl (by first | assumption | exact news_tail (by assumption)) ?_
          all_goals first | exact (0 : Nat) | (simp only [List.length_append, List.length_cons, List.length_nil] at *; omega)
        | @b_ws c r _ _ h1 hr =>
          simp only [stV, List.take_succ_cons, List.take_zero, List.take_nil, List.length_cons, List.length_nil, Nat.zero_add, Nat.add_zero, nl_nil, Int.add_zero] at F₃ N₃
          obtain ⟨hd1, hd2⟩ := drop_one hrest
          repeat' (first | (k_unfold; (try dsimp only)) | walk1 | (dsimp only; walk1))
          refine rt_on (some 32) ([]) (pos + 1) rfl (by assumption) (by first | assumption | exact news_tail (by assumption)) rfl ?_ ?_ ?_ ?_
          all_goals first | assumption | (rw [hd1]; done) | (rw [hd1]; assumption) | (rw [hd1]; simp only [List.length_append, List.length_cons, List.length_nil, List.length_drop] at *; omega) | (simp only [List.length_append, List.length_cons, List.length_nil, List.length_drop] at *; omega) | skip
        | @b_cm c r _ _ h1 h2 hr =>
          simp only [stV, List.take_succ_cons, List.take_zero, List.take_nil, List.length_cons, List.length_nil, Nat.zero_add, Nat.add_zero, nl_nil, Int.add_zero] at F₃ N₃
          obtain ⟨hd1, hd2⟩ := drop_one hrest
          repeat' (first | (k_unfold; (try dsimp only)) | walk1 | (dsimp only; walk1))
          have hd3 : cs.drop (pos + 1 + lineLen r) = r.drop (lineLen r) := by rw [← List.drop_drop, hd1]
          have hd4 := lineLen_le r
          have hd5 : r.length + (pos + 1) = cs.length := by have h := congrArg List.length hd1; rw [List.length_drop] at h; omega
          simp only [hd1] at *
          refine rt_on (some 32) ([]) (pos + 1 + lineLen r) rfl (by assumption) (by first | assumption | exact news_tail (by assumption)) rfl ?_ ?_ ?_ ?_
          all_goals first | assumption | (rw [hd3]; done) | (rw [hd3]; assumption) | (rw [hd3]; simp only [List.length_append, List.length_cons, List.length_nil, List.length_drop] at *; omega) | (simp only [List.length_append, List.length_cons, List.length_nil, List.length_drop] at *; omega) | skip
        | @b_wc c r _ _ h1 h2 h3 hr =>
          simp only [stV, List.take_succ_cons, List.take_zero, List.take_nil, List.length_cons, List.length_nil, Nat.zero_add, Nat.add_zero, nl_nil, Int.add_zero] at F₃ N₃
          obtain ⟨hd1, hd2⟩ := drop_one hrest
          repeat' (first | (k_unfold; (try dsimp only)) | walk1 | (dsimp only; walk1))
          refine rt_on (some 97) ([c]) (pos + 1) rfl (by assumption) (by first | assumption | exact news_tail (by assumption)) rfl ?_ ?_ ?_ ?_
          all_goals first | assumption | (rw [hd1]; done) | (rw [hd1]; assumption) | (rw [hd1]; simp only [List.length_append, List.length_cons, List.length_nil, List.length_drop] at *; omega) | (simp only [List.length_append, List.length_cons, List.length_nil, List.length_drop] at *; omega) | skip
        | @b_qs c r _ _ h1 h2 h3 h4 hr =>
          simp only [stV, List.take_succ_cons, List.take_zero, List.take_nil, List.length_cons, List.length_nil, Nat.zero_add, Nat.add_zero, nl_nil, Int.add_zero] at F₃ N₃
          obtain ⟨hd1, hd2⟩ := drop_one hrest
          repeat' (first | (k_unfold; (try dsimp only)) | walk1 | (dsimp only; walk1))
          refine rt_on (some c) ([c]) (pos + 1) rfl (by assumption) (by first | assumption | exact news_tail (by assumption)) rfl ?_ ?_ ?_ ?_
          all_goals first | assumption | (rw [hd1]; done) | (rw [hd1]; assumption) | (rw [hd1]; simp only [List.length_append, List.length_cons, List.length_nil, List.length_drop] at *; omega) | (simp only [List.length_append, List.length_cons, List.length_nil, List.length_drop] at *; omega) | skip
        | @b_all c r _ _ h1 h2 h3 h4 h5 hr =>
          simp only [stV, List.take_succ_cons, List.take_zero, List.take_nil, List.length_cons, List.length_nil, Nat.zero_add, Nat.add_zero, nl_nil, Int.add_zero] at F₃ N₃
          obtain ⟨hd1, hd2⟩ := drop_one hrest
          repeat' (first | (k_unfold; (try dsimp only)) | walk1 | (dsimp only; walk1))
          refine rt_on (some 97) ([c]) (pos + 1) rfl (by assumption) (by first | assumption | exact news_tail (by assumption)) rfl ?_ ?_ ?_ ?_
          all_goals first | assumption | (rw [hd1]; done) | (rw [hd1]; assumption) | (rw [hd1]; simp only [List.length_append, List.length_cons, List.length_nil, List.length_drop] at *; omega) | (simp only [List.length_append, List.length_cons, List.length_nil, List.length_drop] at *; omega) | skip
        | @b_one c r _ h1 h2 h3 h4 h5 =>
          simp only [stV, List.take_succ_cons, List.take_zero, List.take_nil, List.length_cons, List.length_nil, Nat.zero_add, Nat.add_zero, nl_nil, Int.add_zero] at F₃ N₃
          obtain ⟨hd1, hd2⟩ := drop_one hrest
          have h6 : ¬ S.whole = true := by rw [h5]; decide
          repeat' (first | (k_unfold; (try dsimp only)) | walk1 | (dsimp only; walk1))
          refine rt_end ([c]) (some 32) (none) (pos + 1) (ts := ?_) (tu := ?_) rfl rfl (by first | assumption | exact hrest) (by assumption) (by assumption) rfl (by first | assumption | exact news_tail (by assumption)) ?_
          all_goals first | exact (0 : Nat) | (simp only [List.length_append, List.length_cons, List.length_nil] at *; omega)
        | @q_end q _ _ h1 h2 =>
          simp only [stV, List.take_succ_cons, List.take_zero, List.take_nil, List.length_cons, List.length_nil, Nat.zero_add, Nat.add_zero, nl_nil, Int.add_zero] at F₃ N₃
          have e1 : (tx [q] == Str.ofString " ") = false := by rw [l1, tx_eq_iff, decide_eq_false (by simpa using h2)]
          repeat' (first | (k_unfold; (try dsimp only)) | walk1 | (dsimp only; walk1))
          exact k2 _ _ _ _ _ _ _ _ _ _ _ _ _ _ pos (some q) rfl (by assumption) (by assumption) (by assumption)
        | @q_shut q _ r _ h1 h2 =>
          simp only [stV, List.take_succ_cons, List.take_zero, List.take_nil, List.length_cons, List.length_nil, Nat.zero_add, Nat.add_zero, nl_nil, Int.add_zero] at F₃ N₃
          obtain ⟨hd1, hd2⟩ := drop_one hrest
          have e1 : (tx [q] == Str.ofString " ") = false := by rw [l1, tx_eq_iff, decide_eq_false (by simpa using h2)]
          have e2 : (tx [q] == tx [q]) = true := by rw [tx_eq_iff, decide_eq_true rfl]
          repeat' (first | (k_unfold; (try dsimp only)) | walk1 | (dsimp only; walk1))
          refine rt_end (tok ++ [q]) (some 32) (none) (pos + 1) (ts := ?_) (tu := ?_) rfl rfl (by first | assumption | exact hrest) (by assumption) (by assumption) rfl (by first | assumption | exact news_tail (by assumption)) ?_
          all_goals first | exact (0 : Nat) | (simp only [List.length_append, List.length_cons, List.length_nil] at *; omega)
        | @q_on q _ c r _ _ h1 h2 h3 hr =>
          simp only [stV, List.take_succ_cons, List.take_zero, List.take_nil, List.length_cons, List.length_nil, Nat.zero_add, Nat.add_zero, nl_nil, Int.add_zero] at F₃ N₃
          obtain ⟨hd1, hd2⟩ := drop_one hrest
          have e1 : (tx [q] == Str.ofString " ") = false := by rw [l1, tx_eq_iff, decide_eq_false (by simpa using h2)]
          have e2 : (tx [c] == tx [q]) = false := by rw [tx_eq_iff, decide_eq_false (by simpa using h3)]
          repeat' (first | (k_unfold; (try dsimp only)) | walk1 | (dsimp only; walk1))
          refine rt_on (some q) (tok ++ [c]) (pos + 1) rfl (by assumption) (by first | assumption | exact news_tail (by assumption)) rfl ?_ ?_ ?_ ?_
          all_goals first | assumption | (rw [hd1]; done) | (rw [hd1]; assumption) | (rw [hd1]; simp only [List.length_append, List.length_cons, List.length_nil, List.length_drop] at *; omega) | (simp only [List.length_append, List.length_cons, List.length_nil, List.length_drop] at *; omega) | skip
        | @a_end _ _ h0 =>
          simp only [stV, List.take_succ_cons, List.take_zero, List.take_nil, List.length_cons, List.length_nil, Nat.zero_add, Nat.add_zero, nl_nil, Int.add_zero] at F₃ N₃
          repeat' (first | (k_unfold; (try dsimp only)) | walk1 | (dsimp only; walk1))
          refine rt_end (tok) (none) (none) (pos) (ts := ?_) (tu := ?_) rfl rfl (by first | assumption | exact hrest) (by assumption) (by assumption) rfl (by first | assumption | exact news_tail (by assumption)) ?_
          all_goals first | exact (0 : Nat) | (simp only [List.length_append, List.length_cons, List.length_nil] at *; omega)
        | @a_ws _ c r _ h0 h1 =>
          simp only [stV, List.take_succ_cons, List.take_zero, List.take_nil, List.length_cons, List.length_nil, Nat.zero_add, Nat.add_zero, nl_nil, Int.add_zero] at F₃ N₃
          obtain ⟨hd1, hd2⟩ := drop_one hrest
          repeat' (first | (k_unfold; (try dsimp only)) | walk1 | (dsimp only; walk1))
          refine rt_end (tok) (some 32) (none) (pos + 1) (ts := ?_) (tu := ?_) rfl rfl (by first | assumption | exact hrest) (by assumption) (by assumption) rfl (by first | assumption | exact news_tail (by assumption)) ?_
          all_goals first | exact (0 : Nat) | (simp only [List.length_append, List.length_cons, List.length_nil] at *; omega)
        | @a_cm _ c r _ _ h0 h1 h2 hr =>
          simp only [stV, List.take_succ_cons, List.take_zero, List.take_nil, List.length_cons, List.length_nil, Nat.zero_add, Nat.add_zero, nl_nil, Int.add_zero] at F₃ N₃
          obtain ⟨hd1, hd2⟩ := drop_one hrest
          repeat' (first | (k_unfold; (try dsimp only)) | walk1 | (dsimp only; walk1))
          have hd3 : cs.drop (pos + 1 + lineLen r) = r.drop (lineLen r) := by rw [← List.drop_drop, hd1]
          have hd4 := lineLen_le r
          have hd5 : r.length + (pos + 1) = cs.length := by have h := congrArg List.length hd1; rw [List.length_drop] at h; omega
          simp only [hd1] at *
          refine rt_on (some 97) (tok) (pos + 1 + lineLen r) rfl (by assumption) (by first | assumption | exact news_tail (by assumption)) rfl ?_ ?_ ?_ ?_
          all_goals first | assumption | (rw [hd3]; done) | (rw [hd3]; assumption) | (rw [hd3]; simp only [List.length_append, List.length_cons, List.length_nil, List.length_drop] at *; omega) | (simp only [List.length_append, List.length_cons, List.length_nil, List.length_drop] at *; omega) | skip
        | @a_wc _ c r _ _ h0 h1 h2 h3 hr =>
          simp only [stV, List.take_succ_cons, List.take_zero, List.take_nil, List.length_cons, List.length_nil, Nat.zero_add, Nat.add_zero, nl_nil, Int.add_zero] at F₃ N₃
          obtain ⟨hd1, hd2⟩ := drop_one hrest
          repeat' (first | (k_unfold; (try dsimp only)) | walk1 | (dsimp only; walk1))
          refine rt_on (some 97) (tok ++ [c]) (pos + 1) rfl (by assumption) (by first | assumption | exact news_tail (by assumption)) rfl ?_ ?_ ?_ ?_
          all_goals first | assumption | (rw [hd1]; done) | (rw [hd1]; assumption) | (rw [hd1]; simp only [List.length_append, List.length_cons, List.length_nil, List.length_drop] at *; omega) | (simp only [List.length_append, List.length_cons, List.length_nil, List.length_drop] at *; omega) | skip
        | @a_qs _ c r _ _ h0 h1 h2 h3 h4 hr =>
          simp only [stV, List.take_succ_cons, List.take_zero, List.take_nil, List.length_cons, List.length_nil, Nat.zero_add, Nat.add_zero, nl_nil, Int.add_zero] at F₃ N₃
          obtain ⟨hd1, hd2⟩ := drop_one hrest
          repeat' (first | (k_unfold; (try dsimp only)) | walk1 | (dsimp only; walk1))
          refine rt_on (some 97) (tok ++ [c]) (pos + 1) rfl (by assumption) (by first | assumption | exact news_tail (by assumption)) rfl ?_ ?_ ?_ ?_
          all_goals first | assumption | (rw [hd1]; done) | (rw [hd1]; assumption) | (rw [hd1]; simp only [List.length_append, List.length_cons, List.length_nil, List.length_drop] at *; omega) | (simp only [List.length_append, List.length_cons, List.length_nil, List.length_drop] at *; omega) | skip
        | @a_all _ c r _ _ h0 h1 h2 h3 h4 h5 hr =>
          simp only [stV, List.take_succ_cons, List.take_zero, List.take_nil, List.length_cons, List.length_nil, Nat.zero_add, Nat.add_zero, nl_nil, Int.add_zero] at F₃ N₃
          obtain ⟨hd1, hd2⟩ := drop_one hrest
          repeat' (first | (k_unfold; (try dsimp only)) | walk1 | (dsimp only; walk1))
          refine rt_on (some 97) (tok ++ [c]) (pos + 1) rfl (by assumption) (by first | assumption | exact news_tail (by assumption)) rfl ?_ ?_ ?_ ?_
          all_goals first | assumption | (rw [hd1]; done) | (rw [hd1]; assumption) | (rw [hd1]; simp only [List.length_append, List.length_cons, List.length_nil, List.length_drop] at *; omega) | (simp only [List.length_append, List.length_cons, List.length_nil, List.length_drop] at *; omega) | skip
        | @a_one _ c r _ h0 h1 h2 h3 h4 h5 =>
          simp only [stV, List.take_succ_cons, List.take_zero, List.take_nil, List.length_cons, List.length_nil, Nat.zero_add, Nat.add_zero, nl_nil, Int.add_zero] at F₃ N₃
          obtain ⟨hd1, hd2⟩ := drop_one hrest
          have h6 : ¬ S.whole = true := by rw [h5]; decide
          repeat' (first | (k_unfold; (try dsimp only)) | walk1 | (dsimp only; walk1))
          refine rt_end (tok) (some 32) ((some c)) (pos + 1) (ts := ?_) (tu := ?_) rfl rfl (by first | assumption | exact hrest) (by assumption) (by assumption) rfl (by first | assumption | exact news_tail (by assumption)) ?_
          all_goals first | exact (0 : Nat) | (simp only [List.length_append, List.length_cons, List.length_nil] at *; omega)
  · intro f s' hs
    refine rtEnd_elim hs ?_
    clear hs
    intro t st' rest' ln' push h' tk m' ts tl tt tp tu n' pos' hres hd1 hd2 hd3 F₃ hself N₃ e1 e2
    subst e1 e2 hd1
    have F₄ := fr_at F₃ hself
    clear F₃
    have l0 : Str.ofString "" = tx [] := by decide +kernel
    repeat' (first | (k_unfold; (try dsimp only)) | walk1 | (dsimp only; walk1))
    simp only [l0] at *
    exact k1 _ _ _ _ _ _ _ _ _ _ _ _ _ _ _ hres rfl hd2 (by assumption) (by assumption)
end
section
section
variable {prog : Program} {w : World} {A₀ : Around} {base h₀ : Heap} {outer : List Env} {L : Addr} {m mg mb : Str → Option Value} {env : Env} {news : List (Addr × Obj)} {p : Program} {loose : List Str} {mean : ExcName → Option Value}
  {R : Result → Shared → Prop} {s : Shared} {d u : Nat} {gs : Option (List Code)}

theorem gt_push {kt tv kt2 : Nat → Tok} {S : Sets} {x dx sx dsx pb fs : Addr} {cs : List Nat} {tn tb tu : Tok} {vst vln vtok vpos : Value} {n nf : Int} {c : Nat}
    (B : Below A₀ base outer h₀) (F : Fr h₀ L s.heap m) (N : News h₀ L s.heap (lexL w.params kt tv kt2 S x dx sx dsx pb fs cs tn tb vst vln vtok vpos (deqObj [.str (tx [c]) tu] n) ((fs, deqObj [] nf) :: news)))
    (X : (hd0.heap_1_39 w.params).In h₀) (T : Top p loose mean mg mb h₀) (Z : Apart dx x dsx sx pb ((fs, deqObj [] nf) :: news))
    (hf : env.frame = some L) (hke : env.scope.kind = .function) (hd : d ≤ 470) (hu : u ≤ 70)
    (k : ∀ h' tk, Fr h₀ L h' m → News h₀ L h' (lexL w.params kt tv kt2 S x dx sx dsx pb fs cs tn tb vst vln vtok vpos (deqObj [] (n + 1)) ((fs, deqObj [] nf) :: news)) → R (.ok (.ret (.str (tx [c]) tu))) { s with heap := h', toks := tk }) :
    codeAny (model prog w) ⟨none, d, some (env :: outer), gs, u⟩ (.call (.ref 683) ⟨[.ref x], []⟩) R s := by
  have a1 := Z.a1
  have a2 := Z.a2
  have a3 := Z.a3
  have a4 := Z.a4
  have a5 := Z.a5
  have a6 := Z.a6
  have a7 := Z.a7
  have a8 := Z.a8
  have a9 := Z.a9
  have n1 := Z.n1
  have n2 := Z.n2
  have n3 := Z.n3
  refine' code_def (env := env) ?k1 ?k2 ?k3 ?k4 ?k5 ?kA ?kF ?kK ?k6 ?k7 ?k8 ?k9 ?kB ?_ ?c2 ?c3 ?c4 ?c5; (case kA => exact rfl); (case kF => exact hf); (case kK => exact hke); (case k1 => k_asm); (case k2 => k_asm); (case k3 => k_asm); (case k4 => k_asm); (case k5 => k_asm); (case k6 => k_is); (case k7 => k_is); (case k8 => k_room); (case k9 => first | exact BindsTo.of_eq rfl | exact binds_K (by k_in) rfl (by k_is) rfl rfl rfl | fail "k_enter: no rule for these arguments"); (case c5 => decide); (case kB => exact locs rfl); (case c2 => exact rfl); (case c3 => exact rfl); (case c4 => exact rfl); k_whole; intro g' L' h' FG' F' N' B' X' T'; (try dsimp only); (try k_lift B'); (try k_fold); (try (refine toks_named ?_; intro tkE))
  repeat' (first | (k_unfold; (try dsimp only)) | walk1 | (dsimp only; walk1))
  exact k _ _ (by assumption) (by assumption)

theorem gt_read {kt tv kt2 : Nat → Tok} {S : Sets} {x dx sx dsx pb fs : Addr} {cs : List Nat} {tn tb ts tl tt tp : Tok} {st : Option Nat} {ln : Int} {pos : Nat} {res : Res} {n nf : Int}
    (B : Below A₀ base outer h₀) (F : Fr h₀ L s.heap m) (N : News h₀ L s.heap (lexL w.params kt tv kt2 S x dx sx dsx pb fs cs tn tb (stV st ts) (.int ln tl) (.str (tx []) tt) (.int (pos : Int) tp) (deqObj [] n) ((fs, deqObj [] nf) :: news)))
    (X : (hd0.heap_1_39 w.params).In h₀) (T : Top p loose mean mg mb h₀) (Z : Apart dx x dsx sx pb ((fs, deqObj [] nf) :: news))
    (hb : cs.length ≤ 900) (hp : pos ≤ cs.length) (hf : env.frame = some L) (hke : env.scope.kind = .function) (hd : d ≤ 470) (hu : u ≤ 70)
    (hq1 : 32 ∉ S.qs) (hq2 : 97 ∉ S.qs) (hq3 : 99 ∉ S.qs) (hs1 : S.ws.length ≤ 100) (hs2 : S.cm.length ≤ 100) (hs3 : S.wc.length ≤ 100) (hs4 : S.qs.length ≤ 100)
    (hrun : Run S st [] (cs.drop pos) ln res)
    (k1 : ∀ t st' rest' ln' push h' tk ts tl tt tp tr tu n' pos', res = .tok t st' rest' ln' push → cs.drop pos' = rest' → pos' ≤ cs.length → Fr h₀ L h' m →
          News h₀ L h' (lexL w.params kt tv kt2 S x dx sx dsx pb fs cs tn tb (stV st' ts) (.int ln' tl) (.str (tx []) tt) (.int ((pos' : Nat) : Int) tp) (deqObj ((push : Option Nat).toList.map fun c => .str (tx [c]) tu) n') ((fs, deqObj [] nf) :: news)) →
          R (.ok (.ret (.str (tx t) tr))) { s with heap := h', toks := tk })
    (k2 : ∀ rest' ln' g h' tk e te ts tl tt tp tm n' tok pos' st', res = .err rest' ln' → Fr h₀ L g m → g.UpToSlots h' →
          RaisedK base (env :: outer) e (.type "ValueError") te [.str "No closing quotation" tm]
            (lexL w.params kt tv kt2 S x dx sx dsx pb fs cs tn tb (stV st' ts) (.int ln' tl) (.str (tx tok) tt) (.int ((pos' : Nat) : Int) tp) (deqObj [] n') ((fs, deqObj [] nf) :: news)) h' →
          R (.error (.ref e)) { s with heap := h', toks := tk }) :
    codeAny (model prog w) ⟨none, d, some (env :: outer), gs, u⟩ (.call (.ref 683) ⟨[.ref x], []⟩) R s := by
  have a1 := Z.a1
  have a2 := Z.a2
  have a3 := Z.a3
  have a4 := Z.a4
  have a5 := Z.a5
  have a6 := Z.a6
  have a7 := Z.a7
  have a8 := Z.a8
  have a9 := Z.a9
  have n1 := Z.n1
  have n2 := Z.n2
  have n3 := Z.n3
  refine' code_def (env := env) ?k1 ?k2 ?k3 ?k4 ?k5 ?kA ?kF ?kK ?k6 ?k7 ?k8 ?k9 ?kB ?_ ?c2 ?c3 ?c4 ?c5; (case kA => exact rfl); (case kF => exact hf); (case kK => exact hke); (case k1 => k_asm); (case k2 => k_asm); (case k3 => k_asm); (case k4 => k_asm); (case k5 => k_asm); (case k6 => k_is); (case k7 => k_is); (case k8 => k_room); (case k9 => first | exact BindsTo.of_eq rfl | exact binds_K (by k_in) rfl (by k_is) rfl rfl rfl | fail "k_enter: no rule for these arguments"); (case c5 => decide); (case kB => exact locs rfl); (case c2 => exact rfl); (case c3 => exact rfl); (case c4 => exact rfl); k_whole; intro g' L' h' FG' F' N' B' X' T'; (try dsimp only); (try k_lift B'); (try k_fold); (try (refine toks_named ?_; intro tkE))
  iterate 17 (first | (k_unfold; (try dsimp only)) | walk1 | (dsimp only; walk1))
  refine wpAny_call (rt_spec (by assumption) (by assumption) (by assumption) (by assumption) (by assumption) Z hb hp rfl rfl (by (try dsimp only); omega) (by (try dsimp only); omega) hq1 hq2 hq3 hs1 hs2 hs3 hs4 hrun ?_ ?_)
  · intro t st' rest' ln' push h₂ tk ts tl tt tp tr tu n' pos' hres hd1 hd2 F₂ N₂
    have k1' := fun h' tk => k1 t st' rest' ln' push h' tk ts tl tt tp tr tu n' pos' hres hd1 hd2
    by_cases ht : t = []
    · have e1 : (tx t == tx []) = true := by rw [ht]; rfl
      repeat' (first | (k_unfold; (try dsimp only)) | walk1 | (dsimp only; walk1))
      subst ht
      exact k1 _ _ _ _ _ _ _ _ _ _ _ _ _ _ _ hres hd1 hd2 (by assumption) (by assumption)
    · have e1 : (tx t == tx []) = false := by rw [tx_eq_iff, decide_eq_false ht]
      repeat' (first | (k_unfold; (try dsimp only)) | walk1 | (dsimp only; walk1))
      exact k1 _ _ _ _ _ _ _ _ _ _ _ _ _ _ _ hres hd1 hd2 (by assumption) (by assumption)
  · intro rest' ln' g₂ h₂ tk e te ts tl tt tp tm n' tok pos' st' hres F₂ U₂ R₂
    repeat' (first | (k_unfold; (try dsimp only)) | walk1 | (dsimp only; walk1))
    exact k2 _ _ _ _ _ _ _ _ _ _ _ _ _ _ _ _ hres (by assumption) (by assumption) (by assumption)
end
end
section
open PySem.Spec
section
variable {prog : Program} {w : World} {A : Around} {E : Value → Shared → Prop} {s : Shared} {env : Env}
theorem own_for {v : Str} {px pos : Pos} {iter : Expr} {body : List Stmt} {Q : Flow → Shared → Prop} {I : Addr} (J : Nat → Shared → Prop) (n₀ : Nat)
    (h : wpAny (model prog w) A (eval iter env) (fun xv s₁ => wpAny (model prog w) A (pyIter xv) (fun it s₂ => it = .ref I ∧ J n₀ s₂) E s₁) E s)
    (turn : ∀ k s', J k s' → wpAny (model prog w) A (pyNext (.ref I)) (fun r s₁ => match r with
      | none => Q .next s₁
      | some y => wpAny (model prog w) A (storeName env v y) (fun _ s₂ => wpAny (model prog w) A (execs body env) (fun f s₃ => match f with
          | .next | .cont => ∃ m, m < k ∧ J m s₃
          | .brk => Q .next s₃
          | .ret v => Q (.ret v) s₃) E s₂) E s₁) E s')
    (hs : ∀ x, foldedSetIterable iter env x = pure x := by intro _; rfl) (hE : PassesOwn (model prog w) A env E := by passes_own) :
    wpAny (model prog w) A (exec (.For (.Name v px) iter body [] pos) env) Q E s := by
  refine wpAny_For (wpAny_mono h (fun xv s₁ h₁ => wpAny_mono h₁ (fun it s₂ h₂ => ?_) fun _ _ z => z) fun _ _ z => z) hs
  obtain ⟨rfl, h₂⟩ := h₂
  refine codeAny_forLoop (R := fun r s' => match r with | .ok f => Q f s' | .error e => cameBackBy (model prog w) A env E e s') J ?_ n₀ h₂
  intro k s' hk
  refine wpAny_passesOwn hE (wpAny_mono (turn k s' hk) (fun r s₁ hr => ?_) fun _ _ z => z)
  cases r with
  | none => exact wpAny_execs_nil hr
  | some y =>
    refine wpAny_passesOwn hE (wpAny_assign_Name (wpAny_mono hr (fun _ s₂ h₂ => ?_) fun _ _ z => z))
    refine wpAny_passesOwn hE (wpAny_mono h₂ (fun f s₃ h₃ => ?_) fun _ _ z => z)
    cases f <;> exact h₃
end

section
variable {M : Model} {A : Around} {E : Value → Shared → Prop} {s : Shared} {h₀ : Heap} {m : Str → Option Value} {env : Env}
/-- behind an exception that came up into this frame: the frame and the ledger stand -/
theorem raised_here {outer : List Env} {L e t : Addr} {g : Heap} {X : String} {vs : List Value} {news : List (Addr × Obj)}
    (R : RaisedK h₀ (env :: outer) e (.type X) t vs news s.heap) (hsm : g.UpToSlots s.heap) (F : Fr h₀ L g m) (hf : env.frame = some L) :
    Fr h₀ L s.heap m ∧ News h₀ L s.heap news ∧ s.TypeIs (.ref e) X := by
  obtain ⟨⟨B, hB, hl, hfl, _⟩, _⟩ := R
  have hL : B.get? L = none := by
    obtain ⟨_, ⟨L', _, hf', hn', _⟩, _⟩ := hfl.2.2.1
    rw [hf] at hf'
    obtain rfl : L = L' := Option.some.inj hf'
    exact hn'
  have hf' := flyingW_base hB hfl
  obtain ⟨ob, hob, hobc⟩ := hf'.there
  exact ⟨F.of_stays hf'.1 hsm, fun q hq => ⟨hfl.1 _ _ (hl q hq).1, (fun z => by have := (hl q hq).1; rw [z, hL] at this; cases this), (hl q hq).2⟩, ⟨ob, hob, hobc⟩⟩
theorem stop_yes {Q : Option Value → Shared → Prop} {e : Addr} {X : String} (hT : s.TypeIs (.ref e) X) (hsub : isSubtype (.type X) (.type "StopIteration") = pure true) (h : Q none s) : OwitStop M A Q E (.ref e) s := by
  unfold OwitStop
  refine wpAny_isInstance hT hsub ?_
  rw [if_pos rfl]; exact h
theorem stop_no {Q : Option Value → Shared → Prop} {e : Addr} {X : String} (hT : s.TypeIs (.ref e) X) (hsub : isSubtype (.type X) (.type "StopIteration") = pure false) (h : E (.ref e) s) : OwitStop M A Q E (.ref e) s := by
  unfold OwitStop
  refine wpAny_isInstance hT hsub ?_
  rw [if_neg (by decide)]; exact h
end

section
variable {prog : Program} {w : World} {A₀ : Around} {E : Value → Shared → Prop} {s' : Shared} {h₀ h : Heap} {outer : List Env} {L a e t : Addr} {m : Str → Option Value} {cn : Str} {cs : Scope} {ccd : Value} {cl : List (Str × Addr)}
  {vs : List Value} {n : Str} {b₀ : Stmt} {suite : List Stmt} {pos np : Pos} {rest : List ExceptHandler} {Q : Flow → Shared → Prop} {news : List (Addr × Obj)} {KF : Frag}
  {p : Program} {loose : List Str} {mg mb : Str → Option Value} {x : Str} {X T' : String}
theorem caught_X (K : Below A₀ h₀ outer h₀) (F : Fr h₀ L h m) (hsm : h.UpToSlots s'.heap) (R : RaisedK h₀ (envX cn cs L a ccd cl :: outer) e (.type X) t vs news s'.heap)
    (XK : KF.In h₀) (T : TopRead p loose mg mb h₀) (ex : nsIn KF mainGlobals x = some none) (hv : bootBuiltins x = some (.type T')) (hn : x ≠ "__name__")
    (hexc : isSubtype (.type T') (.type "BaseException") = pure true) (hnt : isSubtype (.type ((Manifest.find? T').elim "type" fun y => y.metatype)) (.type "tuple") = pure false) (hsub : isSubtype (.type X) (.type T') = pure true)
    (k : ∀ h' news₂ tk, Fr h₀ L h' (fun y => if y = n then some (.ref e) else m y) → News h₀ L h' news₂ → Got news₂ e t (.type X) vs → News h₀ L h' news →
      wpAny (model prog w) ((A₀.deeper (envX cn cs L a ccd cl)).mark (some (.ref e))) (execs (b₀ :: suite) (envX cn cs L a ccd cl))
        (fun f s₄ => wpAny (model prog w) (A₀.deeper (envX cn cs L a ccd cl)) (do bindName (envX cn cs L a ccd cl) n .none; unbindBehindTheSuite (envX cn cs L a ccd cl) n pos) (fun _ s₅ => Q f s₅) E s₄)
        (fun _ _ => False) { s' with heap := h', toks := tk })
    (hk : cs.kind = .function := by rfl) (hlo : (envX cn cs L a ccd cl).kindOf n = some .local := by rfl) (hx : (envX cn cs L a ccd cl).kindOf x = some .globalImplicit := by rfl) (hd : (x == ("__debug__" : Str)) = false := by decide) :
    wpAny (model prog w) (A₀.deeper (envX cn cs L a ccd cl)) (noteFrame (.ref e) (envX cn cs L a ccd cl))
      (fun _ s₂ => wpAny (model prog w) (A₀.deeper (envX cn cs L a ccd cl)) (setFlight (.ref e) none) (fun _ s₃ =>
        wpAny (model prog w) (A₀.deeper (envX cn cs L a ccd cl)) (handleBy (.ref e) (envX cn cs L a ccd cl) (.ExceptHandler (some (.Name x np)) (some n) (b₀ :: suite) pos :: rest)) Q E s₃) E s₂) E s' := by
  obtain ⟨⟨B, hB, hl, hfl, hnew⟩, htup⟩ := R
  have hL : B.get? L = none := by
    obtain ⟨_, ⟨L', _, hf, hn', _⟩, _⟩ := hfl.2.2.1
    obtain rfl : L = L' := Option.some.inj hf
    exact hn'
  refine wpAny_looks_onW (Around.frames_deeper K.stack) rfl hfl fun h₄ hheld₄ hsm₄ => ?_
  refine wpAny_landsW hheld₄ fun h₅ hheld hsm₅' => ?_
  have hsm₅ := hsm₄.trans hsm₅'
  have hheld' := flyingW_base hB hheld
  have F₅ := F.of_stays hheld'.1 (hsm.trans hsm₅)
  obtain ⟨ob, hob, hobc⟩ := hheld'.there
  refine wpAny_handleBy_builtin_as (X := X) (T := T') (b := true) hexc hnt hsub (nameX_B F₅ XK T ex hv hn ⟨rfl, ⟨ob, hob, hobc⟩, ?_⟩ hk hx hd)
  refine lands_againW hheld fun h₆ hfl₆ hsm₆ => ?_
  have hfl₆' := flyingW_base hB hfl₆
  have F₆ := F.of_stays hfl₆'.1 ((hsm.trans hsm₅).trans hsm₆)
  obtain ⟨oe, ws, hoe, hoec, hoed, hoe0⟩ := hfl₆'.first
  obtain ⟨ot, nt, hot, hotc, hotd⟩ := (htup.of_slots hsm₅).of_slots hsm₆
  have N₆ := News.more F₆ (News.more F₆ News.nil hot (fun es n q => by rw [hotd] at q; cases q) (fresh_of_stays hB hnew)) hoe (fun es n q => by rw [hoed] at q; cases q) hfl₆'.2.1
  have Nl : News h₀ L h₆ news := fun q hq => ⟨hfl₆.1 _ _ (hl q hq).1, (fun z => by have := (hl q hq).1; rw [z, hL] at this; cases this), (hl q hq).2⟩
  refine storeX_L F₆ (news := _ ++ news) (fun q hq => (List.mem_append.mp hq).elim (N₆ q) (Nl q)) (fun h₇ F₇ N₇ => ?_) hk hlo
  exact wpAny_noRaise (k h₇ _ _ F₇ (fun q hq => N₇ q (List.mem_append_left _ hq)) ⟨oe, ot, ws, nt, .head _, .tail _ (.head _), hoec, hoed, hoe0, hotc, hotd⟩ fun q hq => N₇ q (List.mem_append_right _ hq))
end
end
section
section
variable {prog : Program} {w : World} {A₀ : Around} {base h₀ : Heap} {outer : List Env} {L : Addr} {m mg mb : Str → Option Value} {env : Env} {news : List (Addr × Obj)} {p : Program} {loose : List Str} {mean : ExcName → Option Value}
  {R : Result → Shared → Prop} {s : Shared} {d u : Nat} {gs : Option (List Code)}

theorem nx_push {kt tv kt2 : Nat → Tok} {S : Sets} {x dx sx dsx pb fs : Addr} {cs : List Nat} {tn tb tu : Tok} {vst vln vtok vpos : Value} {n nf : Int} {c : Nat}
    (B : Below A₀ base outer h₀) (F : Fr h₀ L s.heap m) (N : News h₀ L s.heap (lexL w.params kt tv kt2 S x dx sx dsx pb fs cs tn tb vst vln vtok vpos (deqObj [.str (tx [c]) tu] n) ((fs, deqObj [] nf) :: news)))
    (X : (hd0.heap_1_39 w.params).In h₀) (T : Top p loose mean mg mb h₀) (Z : Apart dx x dsx sx pb ((fs, deqObj [] nf) :: news))
    (hf : env.frame = some L) (hke : env.scope.kind = .function) (hd : d ≤ 460) (hu : u ≤ 60)
    (k : ∀ h' tk, Fr h₀ L h' m → News h₀ L h' (lexL w.params kt tv kt2 S x dx sx dsx pb fs cs tn tb vst vln vtok vpos (deqObj [] (n + 1)) ((fs, deqObj [] nf) :: news)) → R (.ok (.ret (.str (tx [c]) tu))) { s with heap := h', toks := tk }) :
    codeAny (model prog w) ⟨none, d, some (env :: outer), gs, u⟩ (.call (.ref 719) ⟨[.ref x], []⟩) R s := by
  have a1 := Z.a1
  have a2 := Z.a2
  have a3 := Z.a3
  have a4 := Z.a4
  have a5 := Z.a5
  have a6 := Z.a6
  have a7 := Z.a7
  have a8 := Z.a8
  have a9 := Z.a9
  have n1 := Z.n1
  have n2 := Z.n2
  have n3 := Z.n3
  refine' code_def (env := env) ?k1 ?k2 ?k3 ?k4 ?k5 ?kA ?kF ?kK ?k6 ?k7 ?k8 ?k9 ?kB ?_ ?c2 ?c3 ?c4 ?c5; (case kA => exact rfl); (case kF => exact hf); (case kK => exact hke); (case k1 => k_asm); (case k2 => k_asm); (case k3 => k_asm); (case k4 => k_asm); (case k5 => k_asm); (case k6 => k_is); (case k7 => k_is); (case k8 => k_room); (case k9 => first | exact BindsTo.of_eq rfl | exact binds_K (by k_in) rfl (by k_is) rfl rfl rfl | fail "k_enter: no rule for these arguments"); (case c5 => decide); (case kB => exact locs rfl); (case c2 => exact rfl); (case c3 => exact rfl); (case c4 => exact rfl); k_whole; intro g' L' h' FG' F' N' B' X' T'; (try dsimp only); (try k_lift B'); (try k_fold); (try (refine toks_named ?_; intro tkE))
  iterate 6 (first | (k_unfold; (try dsimp only)) | walk1 | (dsimp only; walk1))
  refine wpAny_call (gt_push (by assumption) (by assumption) (by assumption) (by assumption) (by assumption) Z rfl rfl (by (try dsimp only); omega) (by (try dsimp only); omega) ?_)
  intro h₂ tk F₂ N₂
  have e1 : (tx [c] == tx []) = false := by rw [tx_eq_iff, decide_eq_false (by simp)]
  repeat' (first | (k_unfold; (try dsimp only)) | walk1 | (dsimp only; walk1))
  exact k _ _ (by assumption) (by assumption)

theorem nx_read {kt tv kt2 : Nat → Tok} {S : Sets} {x dx sx dsx pb fs : Addr} {cs : List Nat} {tn tb ts tl tt tp : Tok} {st : Option Nat} {ln : Int} {pos : Nat} {res : Res} {n nf : Int}
    (B : Below A₀ base outer h₀) (F : Fr h₀ L s.heap m) (N : News h₀ L s.heap (lexL w.params kt tv kt2 S x dx sx dsx pb fs cs tn tb (stV st ts) (.int ln tl) (.str (tx []) tt) (.int (pos : Int) tp) (deqObj [] n) ((fs, deqObj [] nf) :: news)))
    (X : (hd0.heap_1_39 w.params).In h₀) (T : Top p loose mean mg mb h₀) (Z : Apart dx x dsx sx pb ((fs, deqObj [] nf) :: news))
    (hb : cs.length ≤ 900) (hp : pos ≤ cs.length) (hf : env.frame = some L) (hke : env.scope.kind = .function) (hd : d ≤ 460) (hu : u ≤ 60)
    (hq1 : 32 ∉ S.qs) (hq2 : 97 ∉ S.qs) (hq3 : 99 ∉ S.qs) (hs1 : S.ws.length ≤ 100) (hs2 : S.cm.length ≤ 100) (hs3 : S.wc.length ≤ 100) (hs4 : S.qs.length ≤ 100)
    (hrun : Run S st [] (cs.drop pos) ln res)
    (k1 : ∀ t st' rest' ln' push h' tk ts tl tt tp tr tu n' pos', res = .tok t st' rest' ln' push → t ≠ [] → cs.drop pos' = rest' → pos' ≤ cs.length → Fr h₀ L h' m →
          News h₀ L h' (lexL w.params kt tv kt2 S x dx sx dsx pb fs cs tn tb (stV st' ts) (.int ln' tl) (.str (tx []) tt) (.int ((pos' : Nat) : Int) tp) (deqObj ((push : Option Nat).toList.map fun c => .str (tx [c]) tu) n') ((fs, deqObj [] nf) :: news)) →
          R (.ok (.ret (.str (tx t) tr))) { s with heap := h', toks := tk })
    (k2 : ∀ rest' ln' g h' tk e te ts tl tt tp tm n' tok pos' st', res = .err rest' ln' → Fr h₀ L g m → g.UpToSlots h' →
          RaisedK base (env :: outer) e (.type "ValueError") te [.str "No closing quotation" tm]
            (lexL w.params kt tv kt2 S x dx sx dsx pb fs cs tn tb (stV st' ts) (.int ln' tl) (.str (tx tok) tt) (.int ((pos' : Nat) : Int) tp) (deqObj [] n') ((fs, deqObj [] nf) :: news)) h' →
          R (.error (.ref e)) { s with heap := h', toks := tk })
    (k3 : ∀ st' rest' ln' push g h' tk e te ts tl tt tp tu n' pos', res = .tok [] st' rest' ln' push → Fr h₀ L g m → g.UpToSlots h' →
          RaisedK base (env :: outer) e (.type "StopIteration") te []
            (lexL w.params kt tv kt2 S x dx sx dsx pb fs cs tn tb (stV st' ts) (.int ln' tl) (.str (tx []) tt) (.int ((pos' : Nat) : Int) tp) (deqObj ((push : Option Nat).toList.map fun c => .str (tx [c]) tu) n') ((fs, deqObj [] nf) :: news)) h' →
          R (.error (.ref e)) { s with heap := h', toks := tk }) :
    codeAny (model prog w) ⟨none, d, some (env :: outer), gs, u⟩ (.call (.ref 719) ⟨[.ref x], []⟩) R s := by
  have a1 := Z.a1
  have a2 := Z.a2
  have a3 := Z.a3
  have a4 := Z.a4
  have a5 := Z.a5
  have a6 := Z.a6
  have a7 := Z.a7
  have a8 := Z.a8
  have a9 := Z.a9
  have n1 := Z.n1
  have n2 := Z.n2
  have n3 := Z.n3
  refine' code_def (env := env) ?k1 ?k2 ?k3 ?k4 ?k5 ?kA ?kF ?kK ?k6 ?k7 ?k8 ?k9 ?kB ?_ ?c2 ?c3 ?c4 ?c5; (case kA => exact rfl); (case kF => exact hf); (case kK => exact hke); (case k1 => k_asm); (case k2 => k_asm); (case k3 => k_asm); (case k4 => k_asm); (case k5 => k_asm); (case k6 => k_is); (case k7 => k_is); (case k8 => k_room); (case k9 => first | exact BindsTo.of_eq rfl | exact binds_K (by k_in) rfl (by k_is) rfl rfl rfl | fail "k_enter: no rule for these arguments"); (case c5 => decide); (case kB => exact locs rfl); (case c2 => exact rfl); (case c3 => exact rfl); (case c4 => exact rfl); k_whole; intro g' L' h' FG' F' N' B' X' T'; (try dsimp only); (try k_lift B'); (try k_fold); (try (refine toks_named ?_; intro tkE))
  iterate 6 (first | (k_unfold; (try dsimp only)) | walk1 | (dsimp only; walk1))
  refine wpAny_call (gt_read (by assumption) (by assumption) (by assumption) (by assumption) (by assumption) Z hb hp rfl rfl (by (try dsimp only); omega) (by (try dsimp only); omega) hq1 hq2 hq3 hs1 hs2 hs3 hs4 hrun ?_ ?_)
  · intro t st' rest' ln' push h₂ tk ts tl tt tp tr tu n' pos' hres hd1 hd2 F₂ N₂
    by_cases ht : t = []
    · have e1 : (tx t == tx []) = true := by rw [ht]; rfl
      repeat' (first | (k_unfold; (try dsimp only)) | walk1 | (dsimp only; walk1))
      subst ht
      exact k3 _ _ _ _ _ _ _ _ _ _ _ _ _ _ _ _ hres (by assumption) (by assumption) (by assumption)
    · have e1 : (tx t == tx []) = false := by rw [tx_eq_iff, decide_eq_false ht]
      repeat' (first | (k_unfold; (try dsimp only)) | walk1 | (dsimp only; walk1))
      exact k1 _ _ _ _ _ _ _ _ _ _ _ _ _ _ _ hres ht hd1 hd2 (by assumption) (by assumption)
  · intro rest' ln' g₂ h₂ tk e te ts tl tt tp tm n' tok pos' st' hres F₂ U₂ R₂
    repeat' (first | (k_unfold; (try dsimp only)) | walk1 | (dsimp only; walk1))
    exact k2 _ _ _ _ _ _ _ _ _ _ _ _ _ _ _ _ hres (by assumption) (by assumption) (by assumption)

theorem it_spec {x : Addr} (B : Below A₀ base outer h₀) (F : Fr h₀ L s.heap m) (N : News h₀ L s.heap news) (X : (hd0.heap_1_39 w.params).In h₀) (T : Top p loose mean mg mb h₀)
    (hf : env.frame = some L) (hke : env.scope.kind = .function) (hd : d ≤ 460) (hu : u ≤ 60)
    (k : ∀ h' tk, Fr h₀ L h' m → News h₀ L h' news → R (.ok (.ret (.ref x))) { s with heap := h', toks := tk }) :
    codeAny (model prog w) ⟨none, d, some (env :: outer), gs, u⟩ (.call (.ref 712) ⟨[.ref x], []⟩) R s := by
  refine' code_def (env := env) ?k1 ?k2 ?k3 ?k4 ?k5 ?kA ?kF ?kK ?k6 ?k7 ?k8 ?k9 ?kB ?_ ?c2 ?c3 ?c4 ?c5; (case kA => exact rfl); (case kF => exact hf); (case kK => exact hke); (case k1 => k_asm); (case k2 => k_asm); (case k3 => k_asm); (case k4 => k_asm); (case k5 => k_asm); (case k6 => k_is); (case k7 => k_is); (case k8 => k_room); (case k9 => first | exact BindsTo.of_eq rfl | exact binds_K (by k_in) rfl (by k_is) rfl rfl rfl | fail "k_enter: no rule for these arguments"); (case c5 => decide); (case kB => exact locs rfl); (case c2 => exact rfl); (case c3 => exact rfl); (case c4 => exact rfl); k_whole; intro g' L' h' FG' F' N' B' X' T'; (try dsimp only); (try k_lift B'); (try k_fold); (try (refine toks_named ?_; intro tkE))
  repeat' (first | (k_unfold; (try dsimp only)) | walk1 | (dsimp only; walk1))
  exact k _ _ (by assumption) (by assumption)
end
end
section
/-- what the loop over a lexer tells: the tokens, whether it is refused, the line's number behind it -/
inductive Toks (S : Sets) : Option Nat → List Nat → Int → Option Nat → List (List Nat) → Bool → Int → Prop where
  | push {st rest ln c ts e lf} : Toks S st rest ln none ts e lf → Toks S st rest ln (some c) ([c] :: ts) e lf
  | tok {st rest ln t st' rest' ln' p ts e lf} : Run S st [] rest ln (.tok t st' rest' ln' p) → t ≠ [] → Toks S st' rest' ln' p ts e lf → Toks S st rest ln none (t :: ts) e lf
  | stop {st rest ln st' rest' ln' p} : Run S st [] rest ln (.tok [] st' rest' ln' p) → Toks S st rest ln none [] false ln'
  | err {st rest ln rest' ln'} : Run S st [] rest ln (.err rest' ln') → Toks S st rest ln none [] true ln'

noncomputable def fnBody : Stmt → List Stmt
  | .FunctionDef _ _ b _ _ _ _ _ _ _ => b
  | _ => []
noncomputable def fnScope : Stmt → Scope
  | .FunctionDef _ _ _ _ _ _ sc _ _ _ => sc
  | _ => default
noncomputable def lawDef : Stmt := PySem.Challenge.pw_io0016_01.main.body.getD 24 (.Pass ⟨0, 0, 0, 0⟩)
noncomputable def lawTry : Stmt := (fnBody lawDef).getD 17 (.Pass ⟨0, 0, 0, 0⟩)
noncomputable def tryBody : Stmt → List Stmt
  | .Try b _ _ _ _ => b
  | _ => []
noncomputable def forBody : Stmt → List Stmt
  | .For _ _ b _ _ => b
  | _ => []
noncomputable def lawForBody : List Stmt := forBody ((tryBody lawTry).getD 0 (.Pass ⟨0, 0, 0, 0⟩))

section
variable {prog : Program} {w : World} {A₀ : Around} {base h₀ : Heap} {outer : List Env} {L : Addr} {m mg mb : Str → Option Value} {env : Env} {news : List (Addr × Obj)} {p : Program} {loose : List Str} {mean : ExcName → Option Value}
  {R : Result → Shared → Prop} {s : Shared} {d u : Nat} {gs : Option (List Code)}

noncomputable abbrev lawE (L fa : Addr) (cd : Value) (cl : List (Str × Addr)) : Env := envX "law" (fnScope lawDef) L fa cd cl

/-- between the turns of the loop over the lexer -/
noncomputable def lpJ (P : Params) (kt tv kt2 : Nat → Tok) (S : Sets) (x dx sx dsx pb fs lt : Addr) (cs : List Nat) (tn tb : Tok) (nf : Int) (news : List (Addr × Obj)) (all : List (List Nat)) (e : Bool) (lf : Int) (h₀ : Heap) (L : Addr) (m₀ : Str → Option Value) (s : Shared) (k : Nat) (s' : Shared) : Prop :=
  ∃ h' tk m' st ln pos push done vals ts tl tt tp tu n c rest, s' = { s with heap := h', toks := tk } ∧ Fr h₀ L h' m' ∧ (∀ y : Str, y ≠ "token" → m' y = m₀ y) ∧
    News h₀ L h' (lexL P kt tv kt2 S x dx sx dsx pb fs cs tn tb (stV st ts) (.int ln tl) (.str (tx []) tt) (.int ((pos : Nat) : Int) tp) (deqObj ((push : Option Nat).toList.map fun c => .str (tx [c]) tu) n) ((fs, deqObj [] nf) :: (lt, listOf (List.toArray vals) c) :: news)) ∧
    StrsAre vals (done.map tx) ∧ pos ≤ cs.length ∧ Toks S st (cs.drop pos) ln push rest e lf ∧ done ++ rest = all ∧ k = rest.length

noncomputable def lpE (P : Params) (kt tv kt2 : Nat → Tok) (S : Sets) (x dx sx dsx pb fs lt : Addr) (cs : List Nat) (tn tb : Tok) (nf : Int) (news : List (Addr × Obj)) (all : List (List Nat)) (lf : Int) (h₀ : Heap) (L : Addr) (m₀ : Str → Option Value) (s s' : Shared) : Prop :=
  ∃ h' tk m' vals vst vtok vpos dq tl c, s' = { s with heap := h', toks := tk } ∧ Fr h₀ L h' m' ∧ (∀ y : Str, y ≠ "token" → m' y = m₀ y) ∧
    News h₀ L h' (lexL P kt tv kt2 S x dx sx dsx pb fs cs tn tb vst (.int lf tl) vtok vpos dq ((fs, deqObj [] nf) :: (lt, listOf (List.toArray vals) c) :: news)) ∧ StrsAre vals (all.map tx)

theorem told_append {A : Around} {E : Value → Shared → Prop} {Q : Value → Shared → Prop} {kt tv kt2 : Nat → Tok} {S : Sets} {P : Params} {x dx sx dsx pb fs lt : Addr} {cs : List Nat} {tn tb : Tok} {vst vln vtok vpos v : Value} {dq : Obj} {nf : Int} {vals : List Value} {c : Nat}
    (F : Fr h₀ L s.heap m) (N : News h₀ L s.heap (lexL P kt tv kt2 S x dx sx dsx pb fs cs tn tb vst vln vtok vpos dq ((fs, deqObj [] nf) :: (lt, listOf vals.toArray c) :: news)))
    (ne : ∀ q ∈ lexL P kt tv kt2 S x dx sx dsx pb fs cs tn tb vst vln vtok vpos dq [(fs, deqObj [] nf)], q.1 ≠ lt) (nn : ∀ q ∈ news, q.1 ≠ lt) (hz : vals.length ≤ 2000)
    (k : ∀ h', Fr h₀ L h' m → News h₀ L h' (lexL P kt tv kt2 S x dx sx dsx pb fs cs tn tb vst vln vtok vpos dq ((fs, deqObj [] nf) :: (lt, listOf (vals ++ [v]).toArray (c + 1)) :: news)) → Q .none { s with heap := h' }) :
    wpAny (model prog w) A (call (.builtin "list.append") [.ref lt, v]) Q E s := by
  have nl : ∀ q ∈ lexL P kt tv kt2 S x dx sx dsx pb fs cs tn tb vst vln vtok vpos dq ((fs, deqObj [] nf) :: news), q.1 ≠ lt := by
    repeat' (first | exact nn | (refine List.forall_mem_cons.mpr ⟨ne _ ?_, ?_⟩) | (with_reducible exact List.mem_cons_self) | (with_reducible refine List.mem_cons_of_mem _ ?_))
  refine app_head (rest := lexL P kt tv kt2 S x dx sx dsx pb fs cs tn tb vst vln vtok vpos dq ((fs, deqObj [] nf) :: news)) F (news_sub N (by repeat' (first | exact sub_nil | (with_reducible exact sub_same) | (with_reducible refine sub_cons ?_ ?_) | (with_reducible exact List.mem_cons_self) | (with_reducible refine List.mem_cons_of_mem _ ?_) | (with_reducible refine sub_more ?_)))) nl hz (fun h' F' N' => k h' F' (news_sub N' (by repeat' (first | exact sub_nil | (with_reducible exact sub_same) | (with_reducible refine sub_cons ?_ ?_) | (with_reducible exact List.mem_cons_self) | (with_reducible refine List.mem_cons_of_mem _ ?_) | (with_reducible refine sub_more ?_)))))

local macro_rules | `(tactic| walk_at "eval Name") => `(tactic| (k_dflt (refine nameX_L (by assumption) rfl ?_)))
local macro_rules | `(tactic| walk_at "eval Name") => `(tactic| (k_dflt (refine' nameX_B ?F ?X ?T ?e ?v ?n ?_; (case F => k_asm); (case X => k_asm); (case T => k_asm); (case e => k_is); (case v => boot_by_name); (case n => decide))))
theorem turn_spec {E : Value → Shared → Prop} {Q : Flow → Shared → Prop} {kt tv kt2 : Nat → Tok} {S : Sets} {P : Params} {x dx sx dsx pb fs lt fa : Addr} {cs : List Nat} {tn tb : Tok} {vst vln vtok vpos v : Value} {dq : Obj} {nf : Int} {vals : List Value} {c : Nat} {cd : Value} {cl : List (Str × Addr)}
    (F : Fr h₀ L s.heap m) (X : (hd0.heap_1_39 w.params).In h₀) (hl1 : m "told" = some (.ref lt)) (N : News h₀ L s.heap (lexL P kt tv kt2 S x dx sx dsx pb fs cs tn tb vst vln vtok vpos dq ((fs, deqObj [] nf) :: (lt, listOf vals.toArray c) :: news)))
    (ne : ∀ q ∈ lexL P kt tv kt2 S x dx sx dsx pb fs cs tn tb vst vln vtok vpos dq [(fs, deqObj [] nf)], q.1 ≠ lt) (nn : ∀ q ∈ news, q.1 ≠ lt) (hz : vals.length ≤ 2000)
    (k : ∀ h' tk m', Fr h₀ L h' m' → (∀ y : Str, y ≠ "token" → m' y = m y) → News h₀ L h' (lexL P kt tv kt2 S x dx sx dsx pb fs cs tn tb vst vln vtok vpos dq ((fs, deqObj [] nf) :: (lt, listOf (vals ++ [v]).toArray (c + 1)) :: news)) → Q .next { s with heap := h', toks := tk }) :
    wpAny (model prog w) (Around.deeper ⟨none, d, some outer, gs, u⟩ (lawE L fa cd cl)) (storeName (lawE L fa cd cl) "token" v) (fun _ s₂ => wpAny (model prog w) (Around.deeper ⟨none, d, some outer, gs, u⟩ (lawE L fa cd cl)) (execs lawForBody (lawE L fa cd cl)) Q E s₂) E s := by
  refine storeX_L F N ?_
  intro h' F' N'
  have F₂ := fr_at (x := "told") (v := .ref lt) F' (by show (if (Str.ofString "told") = "token" then some v else m "told") = _; rw [if_neg (by decide +kernel)]; exact hl1)
  show wpAny _ _ (execs [Stmt.Expr _ _] _) _ _ _
  iterate 9 walk1
  refine told_append F₂ N' ne nn hz (fun h₃ F₃ N₃ => k _ _ _ F₃ (fun y hy => ?_) N₃)
  by_cases e : y = "told"
  · rw [if_pos e, e, hl1]
  · rw [if_neg e, if_neg hy]

theorem try_spec {kt tv kt2 : Nat → Tok} {S : Sets} {x dx sx dsx pb fs lt fa : Addr} {cs : List Nat} {tn tb ts tl tt tp : Tok} {st : Option Nat} {ln lf : Int} {pos : Nat} {n nf : Int} {cd : Value} {cl : List (Str × Addr)} {Q : Flow → Shared → Prop} {all : List (List Nat)} {e : Bool}
    (B : Below ⟨none, d, some outer, gs, u⟩ h₀ outer h₀) (F : Fr h₀ L s.heap m)
    (hl1 : m "told" = some (.ref lt)) (hl2 : m "lex" = some (.ref x)) (hl3 : m "trouble" = some .none)
    (N : News h₀ L s.heap (lexL w.params kt tv kt2 S x dx sx dsx pb fs cs tn tb (stV st ts) (.int ln tl) (.str (tx []) tt) (.int (pos : Int) tp) (deqObj [] n) ((fs, deqObj [] nf) :: (lt, listOf #[] 0) :: news)))
    (X : (hd0.heap_1_39 w.params).In h₀) (T : Top p loose mean mg mb h₀)
    (Z : ∀ vals c, Apart dx x dsx sx pb ((fs, deqObj [] nf) :: (lt, listOf (List.toArray vals) c) :: news))
    (ne : ∀ P vst vln vtok vpos dq, ∀ q ∈ lexL P kt tv kt2 S x dx sx dsx pb fs cs tn tb vst vln vtok vpos dq [(fs, deqObj [] nf)], q.1 ≠ lt) (nn : ∀ q ∈ news, q.1 ≠ lt)
    (hb : cs.length ≤ 900) (hp : pos ≤ cs.length) (hd : d ≤ 450) (hu : u ≤ 50)
    (hq1 : 32 ∉ S.qs) (hq2 : 97 ∉ S.qs) (hq3 : 99 ∉ S.qs) (hs1 : S.ws.length ≤ 100) (hs2 : S.cm.length ≤ 100) (hs3 : S.wc.length ≤ 100) (hs4 : S.qs.length ≤ 100)
    (hall : all.length ≤ 1000) (htoks : Toks S st (cs.drop pos) ln none all e lf)
    (k : ∀ h' tk m' vals vst vtok vpos dq tl c, Fr h₀ L h' m' → (∀ y : Str, y ≠ "token" → y ≠ "error" → y ≠ "trouble" → m' y = m y) →
      (e = false → m' "trouble" = some .none) → (e = true → ∃ t, m' "trouble" = some (.str "No closing quotation" t)) →
      News h₀ L h' (lexL w.params kt tv kt2 S x dx sx dsx pb fs cs tn tb vst (.int lf tl) vtok vpos dq ((fs, deqObj [] nf) :: (lt, listOf (List.toArray vals) c) :: news)) → StrsAre vals (all.map tx) → Q .next { s with heap := h', toks := tk }) :
    wpAny (model prog w) (Around.deeper ⟨none, d, some outer, gs, u⟩ (lawE L fa cd cl)) (exec lawTry (lawE L fa cd cl)) Q (fun _ _ => False) s := by
  show wpAny _ _ (exec (Stmt.Try _ (_ :: _) _ [] _) _) _ _ _
  refine wpAny_Try_except ?_
  refine wpAny_execs_cons (wpAny_mono (Q := fun f s' => f = .next ∧ e = false ∧ lpE w.params kt tv kt2 S x dx sx dsx pb fs lt cs tn tb nf news all lf h₀ L m s s') ?_ ?_ (fun _ _ z => z))
  · refine own_for (I := x) (lpJ w.params kt tv kt2 S x dx sx dsx pb fs lt cs tn tb nf news all e lf h₀ L m s) all.length ?_ ?_
    · refine nameX_L F hl2 ?_
      refine owit_iter F X (InstAt.of_news N (by k_mem) (by k_mem)) (by k_is) (by k_is) (wpAny_call (it_spec B F N X T rfl rfl (by (try dsimp only); omega) (by (try dsimp only); omega) ?_))
      intro h' tk F' N'
      refine owit_it F' X (InstAt.of_news N' (by k_mem) (by k_mem)) (by k_is) ?_
      exact ⟨rfl, h', tk, m, st, ln, pos, none, [], [], ts, tl, tt, tp, tl, n, 0, all, rfl, F', fun _ _ => rfl, N', .nil, hp, htoks, rfl, rfl⟩
    · rintro k' s' ⟨h', tk, m', st, ln, pos, push, done, vals, ts, tl, tt, tp, tu, n, c, rest, rfl, F', hm', N', hvals, hp, htoks, hall', rfl⟩
      have hlen : done.length + rest.length ≤ 1000 := by rw [← List.length_append, hall']; exact hall
      have hvl : vals.length = done.length := by rw [hvals.length]; simp
      refine owit_next F' X (InstAt.of_news N' (by k_mem) (by k_mem)) (by k_is) (by k_is) ?_
      have hto : m' "told" = some (.ref lt) := by rw [hm' _ (by decide), hl1]
      have hsz : vals.length ≤ 2000 := by omega
      cases htoks with
      | @push _ _ _ c₀ ts₂ _ _ ht =>
        refine wpAny_call (nx_push B F' N' X T (Z _ _) rfl rfl (by (try dsimp only); omega) (by (try dsimp only); omega) ?_)
        intro h₂ tk₂ F₂ N₂
        refine turn_spec F₂ X hto N₂ (ne _ _ _ _ _ _) nn hsz ?_
        intro h₃ tk₃ m₃ F₃ hm₃ N₃
        refine ⟨_, Nat.lt_succ_self _, h₃, tk₃, m₃, st, ln, pos, none, done ++ [[c₀]], vals ++ [Value.str (tx [c₀]) tu], ts, tl, tt, tp, tu, n + 1, c + 1, ts₂, rfl, F₃, fun y hy => (hm₃ y hy).trans (hm' y hy), N₃, ?_, hp, ht, ?_, rfl⟩
        · rw [List.map_append]; exact StrsAre.append' hvals (.cons _ _ .nil)
        · rw [← hall']; simp
      | @tok _ _ _ t₀ st₂ rest₂ ln₂ p₂ ts₂ _ _ hrun hne ht =>
        refine wpAny_call (nx_read B F' N' X T (Z _ _) hb hp rfl rfl (by (try dsimp only); omega) (by (try dsimp only); omega) hq1 hq2 hq3 hs1 hs2 hs3 hs4 hrun ?_ ?_ ?_)
        · intro t st' rest' ln' push h₂ tk₂ ts₃ tl₃ tt₃ tp₃ tr₃ tu₃ n₃ pos₃ hres _ hd1 hd2 F₂ N₂
          cases hres
          refine turn_spec F₂ X hto N₂ (ne _ _ _ _ _ _) nn hsz ?_
          intro h₃ tk₃ m₃ F₃ hm₃ N₃
          refine ⟨_, Nat.lt_succ_self _, h₃, tk₃, m₃, st₂, ln₂, pos₃, p₂, done ++ [t₀], vals ++ [Value.str (tx t₀) tr₃], ts₃, tl₃, tt₃, tp₃, tu₃, n₃, c + 1, ts₂, rfl, F₃, fun y hy => (hm₃ y hy).trans (hm' y hy), N₃, ?_, hd2, by rw [hd1]; exact ht, ?_, rfl⟩
          · rw [List.map_append]; exact StrsAre.append' hvals (.cons _ _ .nil)
          · rw [← hall']; simp
        · intro rest' ln' g₂ h₂ tk₂ e₂ te₂ ts₃ tl₃ tt₃ tp₃ tm₃ n₃ tok₃ pos₃ st₃ hres
          cases hres
        · intro st' rest' ln' push g₂ h₂ tk₂ e₂ te₂ ts₃ tl₃ tt₃ tp₃ tu₃ n₃ pos₃ hres
          cases hres
          exact absurd rfl hne
      | @stop _ _ _ st₂ rest₂ ln₂ p₂ hrun =>
        refine wpAny_call (nx_read B F' N' X T (Z _ _) hb hp rfl rfl (by (try dsimp only); omega) (by (try dsimp only); omega) hq1 hq2 hq3 hs1 hs2 hs3 hs4 hrun ?_ ?_ ?_)
        · intro t st' rest' ln' push h₂ tk₂ ts₃ tl₃ tt₃ tp₃ tr₃ tu₃ n₃ pos₃ hres hne
          cases hres
          exact absurd rfl hne
        · intro rest' ln' g₂ h₂ tk₂ e₂ te₂ ts₃ tl₃ tt₃ tp₃ tm₃ n₃ tok₃ pos₃ st₃ hres
          cases hres
        · intro st' rest' ln' push g₂ h₂ tk₂ e₂ te₂ ts₃ tl₃ tt₃ tp₃ tu₃ n₃ pos₃ hres F₂ U₂ R₂
          cases hres
          obtain ⟨F₃, N₃, hT⟩ := raised_here (s := { s with heap := h₂, toks := tk₂ }) R₂ U₂ F₂ rfl
          refine stop_yes hT (by rw [isSubtype_type]; kernel_rfl) ?_
          rw [List.append_nil] at hall'
          subst hall'
          exact ⟨rfl, rfl, h₂, tk₂, m', vals, _, _, _, _, _, _, rfl, F₃, hm', N₃, hvals⟩
      | @err _ _ _ rest₂ ln₂ hrun =>
        refine wpAny_call (nx_read B F' N' X T (Z _ _) hb hp rfl rfl (by (try dsimp only); omega) (by (try dsimp only); omega) hq1 hq2 hq3 hs1 hs2 hs3 hs4 hrun ?_ ?_ ?_)
        · intro t st' rest' ln' push h₂ tk₂ ts₃ tl₃ tt₃ tp₃ tr₃ tu₃ n₃ pos₃ hres hne
          cases hres
        · intro rest' ln' g₂ h₂ tk₂ e₂ te₂ ts₃ tl₃ tt₃ tp₃ tm₃ n₃ tok₃ pos₃ st₃ hres F₂ U₂ R₂
          cases hres
          obtain ⟨F₃, N₃, hT⟩ := raised_here (s := { s with heap := h₂, toks := tk₂ }) R₂ U₂ F₂ rfl
          refine stop_no hT (by rw [isSubtype_type]; kernel_rfl) ?_
          rw [List.append_nil] at hall'
          subst hall'
          refine caught_X (T' := "ValueError") B F₂ U₂ R₂ X (by k_asm) (by k_is) (by boot_by_name) (by decide) PySem.F.isExc_ValueError PySem.F.notTuple_ValueError (by rw [isSubtype_type]; kernel_rfl) ?_
          intro h₄ news₄ tk₄ F₄ N₄ G₄ N₅
          iterate 9 walk1
          refine storeX_L F₄ N₅ ?_
          intro h₅ F₅ N₆
          refine wpAny_nameGoes_keeps (env := lawE L fa cd cl) rfl F₅.ns rfl ?_
          intro h₆ v hn hs
          have F₆ := F₅.set hn hs
          have N₇ := N₆.set hs
          refine k h₆ _ _ vals _ _ _ _ _ _ F₆ (fun y h1 h2 h3 => ?_) (fun z => by cases z) (fun _ => ⟨tm₃, ?_⟩) N₇ hvals
          · show (if y = "error" then v else if y = "trouble" then some _ else if y = "error" then some _ else m' y) = m y
            rw [if_neg h2, if_neg h3, if_neg h2]; exact hm' y h1
          · show (if Str.ofString "trouble" = "error" then v else if Str.ofString "trouble" = "trouble" then some _ else _) = _
            rw [if_neg (by decide +kernel), if_pos rfl]
        · intro st' rest' ln' push g₂ h₂ tk₂ e₂ te₂ ts₃ tl₃ tt₃ tp₃ tu₃ n₃ pos₃ hres
          cases hres
  · rintro f s' ⟨rfl, he, h', tk, m', vals, vst, vtok, vpos, dq, tl, c, rfl, F', hm', N', hvals⟩
    refine wpAny_execs_nil (wpAny_execs_nil ?_)
    exact k _ _ _ _ _ _ _ _ _ _ F' (fun y h1 _ _ => hm' y h1) (fun _ => by rw [hm' _ (by decide), hl3]) (fun z => by rw [he] at z; cases z) N' hvals
end
end
section
/-- the number of signs ahead of the first c -/
noncomputable def upto (c : Nat) (l : List Nat) : Nat := (l.takeWhile (fun x => decide (x ≠ c))).length
theorem upto_le (c : Nat) (l : List Nat) : upto c l ≤ l.length := by
  induction l with
  | nil => exact Nat.le_refl _
  | cons a l ih =>
    unfold upto at ih ⊢
    rw [List.takeWhile_cons]
    split
    · simp only [List.length_cons]; omega
    · exact Nat.zero_le _
theorem upto_cases (c : Nat) (l : List Nat) (i : Nat) (hi : i ≤ upto c l) :
    (i < upto c l ∧ ∃ c' r', l.drop i = c' :: r' ∧ c' ≠ c) ∨ (i = upto c l ∧ i = l.length) ∨ (i = upto c l ∧ ∃ r', l.drop i = c :: r') := by
  induction l generalizing i with
  | nil =>
    have h1 : upto c [] = 0 := rfl
    rw [h1] at hi
    exact .inr (.inl ⟨by rw [h1]; omega, by simp only [List.length_nil]; omega⟩)
  | cons a l ih =>
    by_cases e : a = c
    · have h1 : upto c (a :: l) = 0 := by unfold upto; rw [List.takeWhile_cons]; simp [e]
      rw [h1] at hi ⊢
      have : i = 0 := by omega
      subst this
      exact .inr (.inr ⟨rfl, l, by rw [e]; rfl⟩)
    · have h1 : upto c (a :: l) = upto c l + 1 := by unfold upto; rw [List.takeWhile_cons]; simp [e]
      rw [h1] at hi ⊢
      cases i with
      | zero => exact .inl ⟨by omega, a, l, rfl, e⟩
      | succ i =>
        rcases ih i (by omega) with ⟨a1, c', r', a2, a3⟩ | ⟨a1, a2⟩ | ⟨a1, r', a2⟩
        · exact .inl ⟨by omega, c', r', a2, a3⟩
        · exact .inr (.inl ⟨by omega, by simp only [List.length_cons]; omega⟩)
        · exact .inr (.inr ⟨by omega, r', a2⟩)

inductive Word (kd : Nat → Nat) (whole : Bool) (cs : List Nat) : Nat → List Nat → Nat → List Nat → Prop where
  | fin {k t} (h : cs.length ≤ k) : Word kd whole cs k t k t
  | white {k t c r} (h : cs.drop k = c :: r) (h1 : kd c = 1) : Word kd whole cs k t k t
  | one {k t c r} (h : cs.drop k = c :: r) (h1 : kd c = 0) (h2 : whole = false) : Word kd whole cs k t k t
  | com {k t c r k' t'} (h : cs.drop k = c :: r) (h1 : kd c = 2) : Word kd whole cs (k + 1 + upto 10 r + 1) t k' t' → Word kd whole cs k t k' t'
  | add4 {k t c r k' t'} (h : cs.drop k = c :: r) (h1 : kd c = 4) : Word kd whole cs (k + 1) (t ++ [c]) k' t' → Word kd whole cs k t k' t'
  | add8 {k t c r k' t'} (h : cs.drop k = c :: r) (h1 : kd c = 8) : Word kd whole cs (k + 1) (t ++ [c]) k' t' → Word kd whole cs k t k' t'
  | add0 {k t c r k' t'} (h : cs.drop k = c :: r) (h1 : kd c = 0) (h2 : whole = true) : Word kd whole cs (k + 1) (t ++ [c]) k' t' → Word kd whole cs k t k' t'

inductive Reads (kd : Nat → Nat) (whole : Bool) (cs : List Nat) : Nat → List (List Nat) → Bool → Nat → Prop where
  | fin {k} (h : cs.length ≤ k) : Reads kd whole cs k [] false k
  | com {k c r ts e f} (h : cs.drop k = c :: r) (h1 : kd c = 2) : Reads kd whole cs (k + 1 + upto 10 r + 1) ts e f → Reads kd whole cs k ts e f
  | unshut {k c r} (h : cs.drop k = c :: r) (h1 : kd c = 8) (h2 : upto c r = r.length) : Reads kd whole cs k [] true cs.length
  | quote {k c r ts e f} (h : cs.drop k = c :: r) (h1 : kd c = 8) (h2 : upto c r < r.length) : Reads kd whole cs (k + 1 + upto c r + 1) ts e f → Reads kd whole cs k ((c :: r.take (upto c r + 1)) :: ts) e f
  | one {k c r ts e f} (h : cs.drop k = c :: r) (h1 : kd c = 0) (h2 : whole = false) : Reads kd whole cs (k + 1) ts e f → Reads kd whole cs k ([c] :: ts) e f
  | white {k c r ts e f} (h : cs.drop k = c :: r) (h1 : kd c = 1) : Reads kd whole cs (k + 1) ts e f → Reads kd whole cs k ts e f
  | word4 {k c r k' t' ts e f} (h : cs.drop k = c :: r) (h1 : kd c = 4) :
      Word kd whole cs (k + 1) [c] k' t' → k < k' → k' ≤ cs.length + 1 → t'.length ≤ cs.length + 1 → Reads kd whole cs k' ts e f → Reads kd whole cs k (t' :: ts) e f
  | word0 {k c r k' t' ts e f} (h : cs.drop k = c :: r) (h1 : kd c = 0) (h2 : whole = true) :
      Word kd whole cs (k + 1) [c] k' t' → k < k' → k' ≤ cs.length + 1 → t'.length ≤ cs.length + 1 → Reads kd whole cs k' ts e f → Reads kd whole cs k (t' :: ts) e f
theorem lt_of_drop {cs r : List Nat} {k c : Nat} (h : cs.drop k = c :: r) : k < cs.length := by
  refine Nat.lt_of_not_le fun z => ?_
  rw [List.drop_eq_nil_of_le z] at h; cases h
theorem drop_next {cs r : List Nat} {k c : Nat} (h : cs.drop k = c :: r) : cs.drop (k + 1) = r := by
  rw [← List.drop_drop, h]; rfl
theorem len_of_drop {cs r : List Nat} {k c : Nat} (h : cs.drop k = c :: r) : cs.length = k + 1 + r.length := by
  have h1 := congrArg List.length h
  have h2 := lt_of_drop h
  simp only [List.length_drop, List.length_cons] at h1
  omega
section
variable {prog : Program} {w : World} {A : Around} {E : Value → Shared → Prop} {s : Shared}
theorem fits_nat {n : Nat} (h : n ≤ 1000000) : fitsSsize ((n : Nat) : Int) = true := by
  unfold fitsSsize; simp; omega
theorem char_at {value slice : PySem.Expr} {cs r : List Nat} {c k : Nat} {t u : Tok} {Q : Value → Shared → Prop} (h : cs.drop k = c :: r) (hz : cs.length ≤ 100000) (hq : ∀ t, Q (.str (tx [c]) t) { s with toks := s.toks + 1 })
    (hs : subscripted slice false (.str (tx cs) t) (.int ((k : Nat) : Int) u) = operate [.str (tx cs) t, .int ((k : Nat) : Int) u] (getItem (.str (tx cs) t) (.int ((k : Nat) : Int) u)) := by with_unfolding_all rfl)
    (ht : ∀ r, letTemporaryGo value (.str (tx cs) t) r = pure () := by intro _; with_unfolding_all rfl) :
    wpAny (model prog w) A (subscriptTail value slice (.str (tx cs) t) (.int ((k : Nat) : Int) u)) Q E s := by
  have hk := lt_of_drop h
  have hc : (tx cs).cps[((k : Nat) : Int).toNat]? = some c := by
    have := congrArg List.head? h
    rw [List.head?_drop] at this
    simpa [tx] using this
  refine item_str (fits_nat (by omega)) (by omega) (by rw [tx_length]; omega) (fun _ => ?_) hs ht
  rw [item_meets (Int.natCast_nonneg _) hc]
  exact hq _
theorem ne_at {x y : Str} {t u : Tok} {b : Bool} {Q : Value → Shared → Prop} (h : (x == y) = b) (hq : Q (.bool (!b)) s) : wpAny (model prog w) A (compareOp .NotEq (.str x t) (.str y u)) Q E s :=
  PyProof.Rows.ne_str (by rw [← h] at hq; exact hq)

/-- one loop that steps k forward -/
noncomputable def stepP (g : Heap) (L : Addr) (s : Shared) (m : Str → Option Value) (nx : List (Addr × Obj)) (b : Nat) (f : Flow) (s' : Shared) : Prop :=
  f = .next ∧ ∃ h' tk m' t, s' = { s with heap := h', toks := tk } ∧ Fr g L h' m' ∧ m' "k" = some (.int ((b : Nat) : Int) t) ∧ (∀ y : Str, y ≠ "k" → m' y = m y) ∧ News g L h' nx
noncomputable def offP (g : Heap) (L : Addr) (s : Shared) (m : Str → Option Value) (nx : List (Addr × Obj)) (b : Nat) (s' : Shared) : Prop :=
  ∃ h' tk t, s' = { s with heap := h', toks := tk } ∧ Fr g L h' (fun y => if y = "k" then some (.int ((b : Nat) : Int) t) else m y) ∧ News g L h' nx
noncomputable def scanJ (b M : Nat) (m₀ : Str → Option Value) (nx₀ : List (Addr × Obj)) (n : Nat) (m : Str → Option Value) (nx : List (Addr × Obj)) : Prop :=
  ∃ i tk, nx = nx₀ ∧ m "k" = some (.int ((b + i : Nat) : Int) tk) ∧ (∀ y : Str, y ≠ "k" → m y = m₀ y) ∧ i ≤ M ∧ n = M - i

theorem fr_k {h₀ h : Heap} {L : Addr} {m m₀ : Str → Option Value} {x : Str} {v : Value} (F : Fr h₀ L h m) (e : m x = some v) (hm : ∀ y : Str, y ≠ x → m y = m₀ y) : Fr h₀ L h (fun y => if y = x then some v else m₀ y) := by
  have : (fun y => if y = x then some v else m₀ y) = m := by
    funext y
    by_cases q : y = x
    · rw [if_pos q, q, e]
    · rw [if_neg q, hm y q]
  rw [this]; exact F

theorem scan_rule {test : PySem.Expr} {body : List Stmt} {pos : Pos} {env : Env} {m : Str → Option Value} {nx : List (Addr × Obj)} {g : Heap} {L : Addr} {b : Nat} (M : Nat) {tk₀ : Tok} {Q : Flow → Shared → Prop}
    (F : Fr g L s.heap m) (N : News g L s.heap nx) (hk : m "k" = some (.int ((b : Nat) : Int) tk₀))
    (on : ∀ i t h₁ tk₁, i < M → Fr g L h₁ (fun y => if y = "k" then some (.int ((b + i : Nat) : Int) t) else m y) → News g L h₁ nx →
      wpAny (model prog w) A (isTrue test env (eval test env)) (fun b' s₂ => if b' = true then wpAny (model prog w) A (execs body env) (stepP g L s m nx (b + i + 1)) E s₂ else False) E { s with heap := h₁, toks := tk₁ })
    (off : ∀ t h₁ tk₁, Fr g L h₁ (fun y => if y = "k" then some (.int ((b + M : Nat) : Int) t) else m y) → News g L h₁ nx →
      wpAny (model prog w) A (isTrue test env (eval test env)) (fun b' s₂ => if b' = true then False else offP g L s m nx (b + M) s₂) E { s with heap := h₁, toks := tk₁ })
    (k : ∀ t h₁ tk₁, Fr g L h₁ (fun y => if y = "k" then some (.int ((b + M : Nat) : Int) t) else m y) → News g L h₁ nx → Q .next { s with heap := h₁, toks := tk₁ })
    (hE : PassesOwn (model prog w) A env E := by passes_own) :
    wpAny (model prog w) A (exec (.While test body [] pos) env) Q E s := by
  refine While_inv2 (scanJ b M m nx) F N ⟨0, tk₀, rfl, hk, fun _ _ => rfl, Nat.zero_le _, rfl⟩ ?_ hE
  rintro n m₁ nx₁ h₁ tk₁ F₁ N₁ ⟨i, t, rfl, h1, h2, h3, rfl⟩
  have F₂ := fr_k F₁ h1 h2
  by_cases hi : i = M
  · subst hi
    refine wpAny_mono (off t h₁ tk₁ F₂ N₁) (fun b' s₂ h => ?_) (fun _ _ z => z)
    cases b' with
    | true => exact absurd h (by simp)
    | false =>
      simp only [Bool.false_eq_true, if_false] at h ⊢
      obtain ⟨h', tk, t', rfl, F₃, N₃⟩ := h
      exact k _ _ _ F₃ N₃
  · refine wpAny_mono (on i t h₁ tk₁ (by omega) F₂ N₁) (fun b' s₂ h => ?_) (fun _ _ z => z)
    cases b' with
    | false => exact absurd h (by simp)
    | true =>
      simp only [if_true] at h ⊢
      refine wpAny_mono h (fun f s₃ h => ?_) (fun _ _ z => z)
      obtain ⟨rfl, h', tk, m', t', rfl, F₃, h4, h5, N₃⟩ := h
      exact ⟨h', tk, m', _, M - (i + 1), rfl, F₃, N₃, by omega, i + 1, t', rfl, h4, h5, by omega, rfl⟩
end
theorem fr_k2 {h₀ h : Heap} {L : Addr} {m m₀ : Str → Option Value} {x x' : Str} {v v' : Value} (F : Fr h₀ L h m) (e : m x = some v) (e' : m x' = some v') (hm : ∀ y : Str, y ≠ x → y ≠ x' → m y = m₀ y) : Fr h₀ L h (fun y => if y = x then some v else if y = x' then some v' else m₀ y) := by
  have : (fun y => if y = x then some v else if y = x' then some v' else m₀ y) = m := by
    funext y
    by_cases q : y = x
    · rw [if_pos q, q, e]
    · rw [if_neg q]
      by_cases q' : y = x'
      · rw [if_pos q', q', e']
      · rw [if_neg q', hm y q q']
  rw [this]; exact F
noncomputable def wstep (kd : Nat → Nat) (whole : Bool) (cs : List Nat) (k' : Nat) (t' : List Nat) (g : Heap) (L : Addr) (s : Shared) (m : Str → Option Value) (nx : List (Addr × Obj)) (i : Nat) (f : Flow) (s' : Shared) : Prop :=
  f = .next ∧ ∃ i' tok' h' tk m' ti tt, s' = { s with heap := h', toks := tk } ∧ Fr g L h' m' ∧ m' "k" = some (.int ((i' : Nat) : Int) ti) ∧ m' "token" = some (.str (tx tok') tt) ∧ (∀ y : Str, y ≠ "k" → y ≠ "token" → m' y = m y) ∧ News g L h' nx ∧
    i < i' ∧ i' ≤ cs.length + 1 ∧ tok'.length ≤ i' ∧ Word kd whole cs i' tok' k' t'
noncomputable def woff (g : Heap) (L : Addr) (s : Shared) (m : Str → Option Value) (nx : List (Addr × Obj)) (k' : Nat) (t' : List Nat) (s' : Shared) : Prop :=
  ∃ h' tk ti tt, s' = { s with heap := h', toks := tk } ∧ Fr g L h' (fun y => if y = "k" then some (.int ((k' : Nat) : Int) ti) else if y = "token" then some (.str (tx t') tt) else m y) ∧ News g L h' nx
noncomputable def wordJ (kd : Nat → Nat) (whole : Bool) (cs : List Nat) (k' : Nat) (t' : List Nat) (m₀ : Str → Option Value) (nx₀ : List (Addr × Obj)) (n : Nat) (m : Str → Option Value) (nx : List (Addr × Obj)) : Prop :=
  ∃ i tok ti tt, nx = nx₀ ∧ m "k" = some (.int ((i : Nat) : Int) ti) ∧ m "token" = some (.str (tx tok) tt) ∧ (∀ y : Str, y ≠ "k" → y ≠ "token" → m y = m₀ y) ∧ i ≤ cs.length + 1 ∧ tok.length ≤ i ∧ Word kd whole cs i tok k' t' ∧ n = cs.length + 1 - i
section
variable {prog : Program} {w : World} {A : Around} {E : Value → Shared → Prop} {s : Shared}
theorem word_rule {test : PySem.Expr} {body : List Stmt} {pos : Pos} {env : Env} {m : Str → Option Value} {nx : List (Addr × Obj)} {g : Heap} {L : Addr} {b : Nat} {tok₀ : List Nat} {tk₀ tt₀ : Tok} {Q : Flow → Shared → Prop} {kd : Nat → Nat} {whole : Bool} {cs : List Nat} {k' : Nat} {t' : List Nat}
    (F : Fr g L s.heap m) (N : News g L s.heap nx) (hk : m "k" = some (.int ((b : Nat) : Int) tk₀)) (ht : m "token" = some (.str (tx tok₀) tt₀)) (hb : b ≤ cs.length + 1) (htl : tok₀.length ≤ b) (hW : Word kd whole cs b tok₀ k' t')
    (on : ∀ i tok ti tt h₁ tk₁, i ≤ cs.length + 1 → tok.length ≤ i → Word kd whole cs i tok k' t' → Fr g L h₁ (fun y => if y = "k" then some (.int ((i : Nat) : Int) ti) else if y = "token" then some (.str (tx tok) tt) else m y) → News g L h₁ nx →
      wpAny (model prog w) A (isTrue test env (eval test env)) (fun b' s₂ => if b' = true then wpAny (model prog w) A (execs body env) (wstep kd whole cs k' t' g L s m nx i) E s₂ else woff g L s m nx k' t' s₂) E { s with heap := h₁, toks := tk₁ })
    (k : ∀ ti tt h₁ tk₁, Fr g L h₁ (fun y => if y = "k" then some (.int ((k' : Nat) : Int) ti) else if y = "token" then some (.str (tx t') tt) else m y) → News g L h₁ nx → Q .next { s with heap := h₁, toks := tk₁ })
    (hE : PassesOwn (model prog w) A env E := by passes_own) :
    wpAny (model prog w) A (exec (.While test body [] pos) env) Q E s := by
  refine While_inv2 (wordJ kd whole cs k' t' m nx) F N ⟨b, tok₀, tk₀, tt₀, rfl, hk, ht, fun _ _ _ => rfl, hb, htl, hW, rfl⟩ ?_ hE
  rintro n m₁ nx₁ h₁ tk₁ F₁ N₁ ⟨i, tok, ti, tt, rfl, h1, h2, h3, h4, h5, h6, rfl⟩
  have F₂ := fr_k2 F₁ h1 h2 h3
  refine wpAny_mono (on i tok ti tt h₁ tk₁ h4 h5 h6 F₂ N₁) (fun b' s₂ h => ?_) (fun _ _ z => z)
  cases b' with
  | true =>
    simp only [if_true] at h ⊢
    refine wpAny_mono h (fun f s₃ h => ?_) (fun _ _ z => z)
    obtain ⟨rfl, i', tok', h', tk, m', ti', tt', rfl, F₃, a1, a2, a3, N₃, a4, a5, a6, a7⟩ := h
    exact ⟨h', tk, m', _, cs.length + 1 - i', rfl, F₃, N₃, by omega, i', tok', ti', tt', rfl, a1, a2, a3, a5, a6, a7, rfl⟩
  | false =>
    simp only [Bool.false_eq_true, if_false] at h ⊢
    obtain ⟨h', tk, ti', tt', rfl, F₃, N₃⟩ := h
    exact k _ _ _ _ F₃ N₃
end
theorem fr_at5 {h₀ h : Heap} {L : Addr} {m : Str → Option Value} {x₁ x₂ x₃ x₄ x₅ : Str} {v₁ v₂ v₃ v₄ v₅ : Value} (F : Fr h₀ L h m) (e₁ : m x₁ = some v₁) (e₂ : m x₂ = some v₂) (e₃ : m x₃ = some v₃) (e₄ : m x₄ = some v₄) (e₅ : m x₅ = some v₅) :
    Fr h₀ L h (fun y => if y = x₁ then some v₁ else if y = x₂ then some v₂ else if y = x₃ then some v₃ else if y = x₄ then some v₄ else if y = x₅ then some v₅ else m y) := by
  have : (fun y => if y = x₁ then some v₁ else if y = x₂ then some v₂ else if y = x₃ then some v₃ else if y = x₄ then some v₄ else if y = x₅ then some v₅ else m y) = m := by
    funext y
    split
    · next q => rw [q, e₁]
    · split
      · next q => rw [q, e₂]
      · split
        · next q => rw [q, e₃]
        · split
          · next q => rw [q, e₄]
          · split
            · next q => rw [q, e₅]
            · rfl
  rw [this]; exact F
noncomputable def lrEnd (whole : Bool) (cs : List Nat) (lt K : Addr) (oK : Obj) (t : Tok) (news : List (Addr × Obj)) (all : List (List Nat)) (e : Bool) (f : Nat) (g : Heap) (L : Addr) (s : Shared) (fl : Flow) (s' : Shared) : Prop :=
  (fl = .next ∧ e = false ∧ ∃ h' tk m' vals c t1, s' = { s with heap := h', toks := tk } ∧ Fr g L h' m' ∧ m' "k" = some (.int ((f : Nat) : Int) t1) ∧ m' "tokens" = some (.ref lt) ∧ m' "text" = some (.str (tx cs) t) ∧ News g L h' ((lt, listOf (List.toArray vals) c) :: (K, oK) :: news) ∧ StrsAre vals (all.map tx)) ∨
  (e = true ∧ ∃ tp h' tk m' vals c t1 t2, fl = .ret (.ref tp) ∧ s' = { s with heap := h', toks := tk } ∧ Fr g L h' m' ∧ News g L h' ((tp, { cls := .type "tuple", data := .seq #[.ref lt, .str "No closing quotation" t1, .int (1 + Txt.count (tx cs) "\n") t2] }) :: (lt, listOf (List.toArray vals) c) :: (K, oK) :: news) ∧ StrsAre vals (all.map tx))
noncomputable def lrJ (kd : Nat → Nat) (whole : Bool) (cs : List Nat) (lt K : Addr) (oK : Obj) (t : Tok) (news : List (Addr × Obj)) (all : List (List Nat)) (e : Bool) (f : Nat) (n : Nat) (m : Str → Option Value) (nx : List (Addr × Obj)) : Prop :=
  ∃ k done vals c rest tk, nx = (lt, listOf (List.toArray vals) c) :: (K, oK) :: news ∧ m "k" = some (.int ((k : Nat) : Int) tk) ∧ m "tokens" = some (.ref lt) ∧ m "text" = some (.str (tx cs) t) ∧ m "kinds" = some (.ref K) ∧ m "whole" = some (.bool whole) ∧
    StrsAre vals (done.map tx) ∧ Reads kd whole cs k rest e f ∧ done ++ rest = all ∧ k ≤ cs.length + 1 ∧ n = cs.length + 2 - k

section
variable {g : Heap} {L : Addr} {s s' : Shared} {m : Str → Option Value} {nx : List (Addr × Obj)} {h' : Heap} {tk : Nat}
theorem stepP_on {b : Nat} {m' : Str → Option Value} {t : Tok} (e : s' = { s with heap := h', toks := tk }) (F : Fr g L h' m') (h1 : m' "k" = some (.int ((b : Nat) : Int) t)) (h2 : ∀ y : Str, y ≠ "k" → m' y = m y) (N : News g L h' nx) : stepP g L s m nx b .next s' :=
  ⟨rfl, _, _, _, _, e, F, h1, h2, N⟩
theorem offP_on {b : Nat} {t : Tok} (e : s' = { s with heap := h', toks := tk }) (F : Fr g L h' (fun y => if y = "k" then some (.int ((b : Nat) : Int) t) else m y)) (N : News g L h' nx) : offP g L s m nx b s' := ⟨_, _, _, e, F, N⟩
theorem wstep_on {kd : Nat → Nat} {whole : Bool} {cs : List Nat} {k' : Nat} {t' : List Nat} {i : Nat} (i' : Nat) (tok' : List Nat) {m' : Str → Option Value} {ti tt : Tok} (e : s' = { s with heap := h', toks := tk }) (F : Fr g L h' m') (h1 : m' "k" = some (.int ((i' : Nat) : Int) ti)) (h2 : m' "token" = some (.str (tx tok') tt)) (h3 : ∀ y : Str, y ≠ "k" → y ≠ "token" → m' y = m y) (N : News g L h' nx)
    (h4 : i < i') (h5 : i' ≤ cs.length + 1) (h6 : tok'.length ≤ i') (h7 : Word kd whole cs i' tok' k' t') : wstep kd whole cs k' t' g L s m nx i .next s' := ⟨rfl, i', tok', _, _, _, _, _, e, F, h1, h2, h3, N, h4, h5, h6, h7⟩
theorem woff_on {k' : Nat} {t' : List Nat} {ti tt : Tok} (e : s' = { s with heap := h', toks := tk }) (F : Fr g L h' (fun y => if y = "k" then some (.int ((k' : Nat) : Int) ti) else if y = "token" then some (.str (tx t') tt) else m y)) (N : News g L h' nx) : woff g L s m nx k' t' s' := ⟨_, _, _, _, e, F, N⟩
theorem lrJ_on {kd : Nat → Nat} {whole : Bool} {cs : List Nat} {lt K : Addr} {oK : Obj} {t : Tok} {news : List (Addr × Obj)} {all : List (List Nat)} {e : Bool} {f n : Nat} {m₂ : Str → Option Value} (k : Nat) (done : List (List Nat)) (vals : List Value) {c : Nat} {rest : List (List Nat)} {ti : Tok}
    (es : s' = { s with heap := h', toks := tk }) (F : Fr g L h' m₂) (N : News g L h' ((lt, listOf (List.toArray vals) c) :: (K, oK) :: news)) (hlt : cs.length + 2 - k < n) (h1 : m₂ "k" = some (.int ((k : Nat) : Int) ti)) (h2 : m₂ "tokens" = some (.ref lt)) (h3 : m₂ "text" = some (.str (tx cs) t)) (h4 : m₂ "kinds" = some (.ref K)) (h5 : m₂ "whole" = some (.bool whole))
    (hv : StrsAre vals (done.map tx)) (hr : Reads kd whole cs k rest e f) (hall : done ++ rest = all) (hk : k ≤ cs.length + 1) :
    ∃ h' tk m₂ news₂ n', s' = { s with heap := h', toks := tk } ∧ Fr g L h' m₂ ∧ News g L h' news₂ ∧ n' < n ∧ lrJ kd whole cs lt K oK t news all e f n' m₂ news₂ :=
  ⟨_, _, _, _, _, es, F, N, hlt, k, done, vals, _, _, _, rfl, h1, h2, h3, h4, h5, hv, hr, hall, hk, rfl⟩
end

theorem slice_tok {cs r : List Nat} {k c n : Nat} (h : cs.drop k = c :: r) (hn : n ≤ r.length) : Txt.slice (tx cs) (some ((k : Nat) : Int)) (some ((k + 1 + n : Nat) : Int)) = tx (c :: r.take n) := by
  have hl := len_of_drop h
  rw [slice_plain _ (by omega) (by rw [tx_length]; omega), tx_cps, h, show k + 1 + n - k = n + 1 by omega]
  rfl
end
section
open PySem.Spec
theorem if_ne {x y : Str} {a b c : Option Value} (h : y ≠ x) (e : b = c) : (if y = x then a else b) = c := by rw [if_neg h, e]
noncomputable def TurnEnd (h₀ : Heap) (L I : Addr) (own : List (Addr × Obj)) (Jn : (Str → Option Value) → List (Addr × Obj) → Prop) (s : Shared) (f : Flow) (s' : Shared) : Prop :=
  f = .next ∧ ∃ h' tk m' nx', s' = { s with heap := h', toks := tk } ∧ Fr h₀ L h' m' ∧ News h₀ L h' (nx' ++ own) ∧ (∀ p ∈ nx', p.1 ≠ I) ∧ Jn m' nx'
section
variable {prog : Program} {w : World} {A : Around} {E : Value → Shared → Prop} {s : Shared} {env : Env} {h₀ : Heap} {x : Str} {body : List Stmt} {Q : Flow → Shared → Prop} {m : Str → Option Value} {nx₀ : List (Addr × Obj)}
theorem loop_W {I : Addr} {fp : List Addr} {n : Nat} {P : Nat → Value → Prop} {St : Nat → Heap → Prop} (W : Walks prog w A I fp [I] n P St) (hIo : ∀ i h, St i h → ∃ o, h.get? I = some o) (hI : h₀.get? I = none) (hL : env.locals ∉ fp) (hoff : ∀ p ∈ nx₀, p.1 ≠ I) (st : St 0 s.heap)
    (F : Fr h₀ env.locals s.heap m) (N : News h₀ env.locals s.heap nx₀) (J : Nat → (Str → Option Value) → List (Addr × Obj) → Prop) (h0 : J 0 m nx₀)
    (turn : ∀ i v m₁ nx h tk own, i < n → P i v → J i m₁ nx → (∀ p ∈ nx, p.1 ≠ I) → (∀ p ∈ own, p.1 ∈ fp) → (∃ oI, (I, oI) ∈ own) → Fr h₀ env.locals h (fun y => if y = x then some v else m₁ y) → News h₀ env.locals h (nx ++ own) →
      wpAny (model prog w) A (execs body env) (TurnEnd h₀ env.locals I own (J (i + 1)) s) E { s with heap := h, toks := tk })
    (done : ∀ m₁ nx h tk, J n m₁ nx → Fr h₀ env.locals h m₁ → News h₀ env.locals h nx → Q .next { s with heap := h, toks := tk }) :
    LoopAtV prog w A h₀ env x body Q E (.ref I) s := by
  refine ⟨I, fp, [I], n, P, St, m, nx₀, J, rfl, W, hL, ?_, ?_, st, F, N, h0, ?_, ?_⟩
  · intro b hb; rw [List.mem_singleton.mp hb]; exact hI
  · intro p hp hq; exact hoff p hp (List.mem_singleton.mp hq)
  · rintro i v m₁ nx s₁ own ⟨h, tk, rfl⟩ hi hP hJ hnw hown _ hin hSt F₁ N₁
    obtain ⟨oI, hoI⟩ := hIo _ _ hSt
    have hIn : ∃ oI, (I, oI) ∈ own := ⟨oI, hin I (W.sub I (List.mem_singleton.mpr rfl)) hI oI hoI⟩
    refine wpAny_mono (turn i v m₁ nx h tk own hi hP hJ (fun p hp e => hnw p hp (List.mem_singleton.mpr e)) hown hIn F₁ (fun p hp => N₁ p ?_)) (fun f s₂ h₂ => ?_) fun _ _ e => e
    · rcases List.mem_append.mp hp with hp | hp
      · exact List.mem_append_right _ hp
      · exact List.mem_append_left _ hp
    · obtain ⟨rfl, h', tk', m', nx', rfl, F', N', ho, hJ'⟩ := h₂
      refine .next ⟨rfl, h', tk', m', nx', rfl, F', (fun p hp => N' p ?_), (fun p hp e => ho p hp (List.mem_singleton.mp e)), hJ'⟩
      rcases List.mem_append.mp hp with hp | hp
      · exact List.mem_append_right _ hp
      · exact List.mem_append_left _ hp
  · intro h' tk m' nx F' N' _ hJ
    exact done m' nx h' tk hJ F' N'

theorem loop_list {sl : Addr} {items : Array Value} (hh : A.handled = none) (hl : s.heap.IsList sl items)
    (F : Fr h₀ env.locals s.heap m) (N : News h₀ env.locals s.heap nx₀) (hsl : sl ≠ env.locals) (J : Nat → (Str → Option Value) → List (Addr × Obj) → Prop) (h0 : J 0 m nx₀)
    (turn : ∀ I i v m₁ nx h tk own, items[i]? = some v → J i m₁ nx → (∀ p ∈ nx, p.1 ≠ I) → (∀ p ∈ own, p.1 = I ∨ p.1 = sl) → (∃ oI, (I, oI) ∈ own) → Fr h₀ env.locals h (fun y => if y = x then some v else m₁ y) → News h₀ env.locals h (nx ++ own) →
      wpAny (model prog w) A (execs body env) (TurnEnd h₀ env.locals I own (J (i + 1)) s) E { s with heap := h, toks := tk })
    (done : ∀ m₁ nx h tk, J items.size m₁ nx → Fr h₀ env.locals h m₁ → News h₀ env.locals h nx → Q .next { s with heap := h, toks := tk }) :
    wpAny (model prog w) A (pyIter (.ref sl)) (fun it s₂ => LoopAtV prog w A h₀ env x body Q E it s₂) E s := by
  obtain ⟨ol, hol, _⟩ := id hl
  have hlt : sl < s.heap.objs.size := Heap.lt_size hol
  have hne : sl ≠ s.heap.objs.size := Nat.ne_of_lt hlt
  refine wpAny_pyIter_list hl ?_
  have W := Walks.list (prog := prog) (w := w) hh s.heap.objs.size sl hne items
  refine loop_W (nx₀ := nx₀) W (fun i h st => by obtain ⟨o, e, _⟩ := st.1; exact ⟨o, e⟩) (next_is_new F) ?_ ?_ ⟨⟨_, Heap.get?_push_size _ rfl, rfl, rfl⟩, hl.at fun o e => Heap.get?_push_of_some _ e⟩ (F.push _) (fun p hp => ⟨Heap.get?_push_of_some _ (N p hp).1, (N p hp).2⟩) J h0 ?_ ?_
  · intro hm
    rcases List.mem_cons.mp hm with e | hm
    · exact absurd F.ns.lt (e ▸ Nat.lt_irrefl _)
    · exact hsl (List.mem_singleton.mp hm).symm
  · intro p hp
    exact Nat.ne_of_lt (Heap.lt_size (N p hp).1)
  · intro i v m₁ nx h tk own hi hP hJ hno hown hIn F₁ N₁
    exact turn _ i v m₁ nx h tk own hP hJ hno (fun p hp => by have := hown p hp; simpa using this) hIn F₁ N₁
  · exact fun m₁ nx h tk hJ F₁ N₁ => done m₁ nx h tk hJ F₁ N₁

theorem loop_keys {K : Type} [DecidableEq K] {knd : KeyKind prog w K} {dl ep : Nat} {kvs : List (K × Value)} (hh : A.handled = none) (hl : s.heap.DictAt knd dl kvs ep) (hsm : (dl == sysModules) = false)
    (F : Fr h₀ env.locals s.heap m) (N : News h₀ env.locals s.heap nx₀) (hsl : dl ≠ env.locals) (J : Nat → (Str → Option Value) → List (Addr × Obj) → Prop) (h0 : J 0 m nx₀)
    (turn : ∀ I i k y v m₁ nx h tk own, kvs[i]? = some (k, y) → knd.is k v = true → J i m₁ nx → (∀ p ∈ nx, p.1 ≠ I) → (∀ p ∈ own, p.1 = I ∨ p.1 = dl) → (∃ oI, (I, oI) ∈ own) → Fr h₀ env.locals h (fun y => if y = x then some v else m₁ y) → News h₀ env.locals h (nx ++ own) →
      wpAny (model prog w) A (execs body env) (TurnEnd h₀ env.locals I own (J (i + 1)) s) E { s with heap := h, toks := tk })
    (done : ∀ m₁ nx h tk, J kvs.length m₁ nx → Fr h₀ env.locals h m₁ → News h₀ env.locals h nx → Q .next { s with heap := h, toks := tk }) :
    wpAny (model prog w) A (pyIter (.ref dl)) (fun it s₂ => LoopAtV prog w A h₀ env x body Q E it s₂) E s := by
  have hlt : dl < s.heap.objs.size := hl.lt_size
  have hne : dl ≠ s.heap.objs.size := Nat.ne_of_lt hlt
  refine wpAny_pyIter_dict hsm hl ?_
  have W := Walks.dictKeys (prog := prog) (w := w) (knd := knd) hh s.heap.objs.size dl hne kvs ep
  refine loop_W (nx₀ := nx₀) W (fun i h st => by obtain ⟨o, e, _⟩ := st.1; exact ⟨o, e⟩) (next_is_new F) ?_ ?_ ⟨⟨_, Heap.get?_push_size _ rfl, rfl, rfl⟩, hl.push _⟩ (F.push _) (fun p hp => ⟨Heap.get?_push_of_some _ (N p hp).1, (N p hp).2⟩) J h0 ?_ ?_
  · intro hm
    rcases List.mem_cons.mp hm with e | hm
    · exact absurd F.ns.lt (e ▸ Nat.lt_irrefl _)
    · exact hsl (List.mem_singleton.mp hm).symm
  · intro p hp
    exact Nat.ne_of_lt (Heap.lt_size (N p hp).1)
  · rintro i v m₁ nx h tk own hi ⟨k, y, e1, e2⟩ hJ hno hown hIn F₁ N₁
    exact turn _ i k y v m₁ nx h tk own e1 e2 hJ hno (fun p hp => by have := hown p hp; simpa using this) hIn F₁ N₁
  · exact fun m₁ nx h tk hJ F₁ N₁ => done m₁ nx h tk hJ F₁ N₁
end
end
section
open PySem.Spec
section
variable {prog : Program} {w : World} {A : Around} {E : Value → Shared → Prop} {s : Shared} {env : Env} {h₀ : Heap} {x : Str} {body : List Stmt} {m : Str → Option Value} {nx₀ : List (Addr × Obj)}
theorem loop_range {Q : Flow → Shared → Prop} {r : Addr} {n : Nat} {t u v : Tok} (hh : A.handled = none) (hr : IsRange s.heap r 0 (n : Int) 1 t u v) (hsm : Builtin.Range.small 0 (n : Int) 1 = true) (hn : Builtin.Range.rangeSize 0 (n : Int) 1 = (n : Int))
    (F : Fr h₀ env.locals s.heap m) (N : News h₀ env.locals s.heap nx₀) (J : Nat → (Str → Option Value) → List (Addr × Obj) → Prop) (h0 : J 0 m nx₀)
    (turn : ∀ I i t m₁ nx h tk own, i < n → J i m₁ nx → (∀ p ∈ nx, p.1 ≠ I) → (∀ p ∈ own, p.1 = I) → (∃ oI, (I, oI) ∈ own) → Fr h₀ env.locals h (fun y => if y = x then some (.int ((i : Nat) : Int) t) else m₁ y) → News h₀ env.locals h (nx ++ own) →
      wpAny (model prog w) A (execs body env) (TurnEnd h₀ env.locals I own (J (i + 1)) s) E { s with heap := h, toks := tk })
    (done : ∀ m₁ nx h tk, J n m₁ nx → Fr h₀ env.locals h m₁ → News h₀ env.locals h nx → Q .next { s with heap := h, toks := tk }) :
    wpAny (model prog w) A (pyIter (.ref r)) (fun it s₂ => LoopAtV prog w A h₀ env x body Q E it s₂) E s := by
  refine wpAny_pyIter_range hr hsm ?_
  have W := LCg.range_walks (prog := prog) (w := w) (A := A) (I := s.heap.objs.size) hh 0 n
  refine loop_W (nx₀ := nx₀) W (fun i h st => ⟨_, st⟩) (next_is_new F) ?_ ?_ (by show IsRangeIter _ _ _ _ _; rw [hn]; simpa using Heap.get?_push_size _ rfl) (F.push _) (fun p hp => ⟨Heap.get?_push_of_some _ (N p hp).1, (N p hp).2⟩) J h0 ?_ ?_
  · intro hm
    exact absurd F.ns.lt ((List.mem_singleton.mp hm) ▸ Nat.lt_irrefl _)
  · intro p hp
    exact Nat.ne_of_lt (Heap.lt_size (N p hp).1)
  · rintro i v m₁ nx h tk own hi ⟨t, rfl⟩ hJ hno hown hIn F₁ N₁
    rw [Int.zero_add] at F₁
    exact turn _ i t m₁ nx h tk own hi hJ hno (fun p hp => by have := hown p hp; simpa using this) hIn F₁ N₁
  · exact fun m₁ nx h tk hJ F₁ N₁ => done m₁ nx h tk hJ F₁ N₁

/-- a comprehension's source -/
noncomputable def SrcQ (prog : Program) (w : World) (A : Around) (env : Env) (scope : Scope) (cl : List (Str × Addr)) (x : Str) (ifs : List PySem.Expr) (elt : PySem.Expr) (p : Value → Bool) (G : Value → Value → Prop) (Q : Value → Shared → Prop) (it : Value) (s₂ : Shared) : Prop :=
  ∃ I' fp wr n P St, it = .ref I' ∧ Walks prog w A I' fp wr n P St ∧ n ≤ sizeLine ∧ St 0 s₂.heap ∧ (∀ b ∈ fp, b < s₂.heap.objs.size) ∧
      QuietOnC prog w A env scope cl x ifs elt wr P p G s₂ ∧
      (∀ D h' tk ys (vs : List Value), s₂.heap.get? D = none → h'.IsList D ys → h'.PlainList D ys → vs.length = n → (∀ j v, vs[j]? = some v → P j v) → Paired G (vs.filter p) ys.toList →
        (∀ b o, b ∉ wr → s₂.heap.get? b = some o → h'.get? b = some o) → Q (.ref D) { s₂ with heap := h', toks := tk })
theorem ListComp_Q {elt iter : PySem.Expr} {px : Pos} {ifs : List PySem.Expr} {scope : Scope} {cl : List (Str × Addr)} {pos : Pos} {Q : Value → Shared → Prop} (p : Value → Bool) (G : Value → Value → Prop)
    (hclos : closureFor scope env = pure cl) (hcell : ∀ y ∈ scope.names, y.2 ≠ .cell) (hkind : scope.kind = .function)
    (hnames : ∀ y ∈ scope.names, y.2 = .local → scope.names.lookup y.1 = some .local) (hx : scope.names.lookup x = some .local)
    (h : wpAny (model prog w) A (eval iter env) (fun xv s₁ => wpAny (model prog w) A (pyIter xv) (fun it s₂ => SrcQ prog w A env scope cl x ifs elt p G Q it s₂) E s₁) E s)
    (hs : ∀ x, foldedSetIterable iter env x = pure x := by intro _; rfl) :
    wpAny (model prog w) A (eval (.ListComp elt [⟨.Name x px, iter, ifs, 0⟩] scope pos) env) Q E s :=
  wpAny_ListComp_free p G hclos hcell hkind hnames hx h hs
/-- a comprehension's source with a pure test and element -/
theorem lc_W {L : Addr} {news : List (Addr × Obj)} {scope : Scope} {cl : List (Str × Addr)} {ifs : List PySem.Expr} {elt : PySem.Expr} {Q : Value → Shared → Prop} {I : Addr} {fp : List Addr} {n : Nat} {P : Nat → Value → Prop} {St : Nat → Heap → Prop}
    (p : Value → Bool) (G : Value → Value → Prop) (W : Walks prog w A I fp [I] n P St) (hn : n ≤ sizeLine) (st : St 0 s.heap) (hfp : ∀ b ∈ fp, b < s.heap.objs.size)
    (F : Fr h₀ L s.heap m) (N : News h₀ L s.heap news) (hI : h₀.get? I = none) (hIL : L ≠ I) (hoff : ∀ q ∈ news, q.1 ≠ I)
    (tests : ∀ C i v s₃ m₃ E', P i v → s₃.heap.Ns C m₃ → m₃ x = some v → Fr h₀ L s₃.heap m → News h₀ L s₃.heap news →
      wpAny (model prog w) A (forIn ifs true fun c r => if r = true then do let ok ← isTrue c (compEnvC scope cl C env) (eval c (compEnvC scope cl C env)); pure (ForInStep.yield ok) else pure (ForInStep.yield r))
      (fun ok s₄ => ok = p v ∧ Keeps s₃ s₄) E' s₃)
    (elts : ∀ C i v s₃ m₃ E', P i v → p v = true → s₃.heap.Ns C m₃ → m₃ x = some v → Fr h₀ L s₃.heap m → News h₀ L s₃.heap news →
      wpAny (model prog w) A (eval elt (compEnvC scope cl C env)) (fun y s₄ => G v y ∧ Keeps s₃ s₄) E' s₃)
    (fin : ∀ D h' tk (ys vs : List Value) c, Fr h₀ L h' m → News h₀ L h' ((D, listOf ys.toArray c) :: news) → (∀ q ∈ news, q.1 ≠ D) → vs.length = n → (∀ j v, vs[j]? = some v → P j v) → Paired G (vs.filter p) ys → Q (.ref D) { s with heap := h', toks := tk }) :
    ∃ I' fp wr n P St, Value.ref I = .ref I' ∧ Walks prog w A I' fp wr n P St ∧ n ≤ sizeLine ∧ St 0 s.heap ∧ (∀ b ∈ fp, b < s.heap.objs.size) ∧
      QuietOnC prog w A env scope cl x ifs elt wr P p G s ∧
      (∀ D h' tk ys (vs : List Value), s.heap.get? D = none → h'.IsList D ys → h'.PlainList D ys → vs.length = n → (∀ j v, vs[j]? = some v → P j v) → Paired G (vs.filter p) ys.toList →
        (∀ b o, b ∉ wr → s.heap.get? b = some o → h'.get? b = some o) → Q (.ref D) { s with heap := h', toks := tk }) := by
  have up : ∀ h' : Heap, (∀ b o, b ∉ [I] → s.heap.get? b = some o → h'.get? b = some o) → Fr h₀ L h' m ∧ News h₀ L h' news := fun h' hk => ⟨LCg.fr_but F hk hIL hI, LCg.news_but N hk hoff⟩
  refine ⟨I, fp, [I], n, P, St, rfl, W, hn, st, hfp, ⟨?_, ?_⟩, ?_⟩
  · intro C i v s₃ m₃ E' _ hP hns hx hk _
    obtain ⟨F₃, N₃⟩ := up _ hk
    exact tests C i v s₃ m₃ E' hP hns hx F₃ N₃
  · intro C i v s₃ m₃ E' _ hP hp hns hx hk _
    obtain ⟨F₃, N₃⟩ := up _ hk
    exact elts C i v s₃ m₃ E' hP hp hns hx F₃ N₃
  · intro D h' tk ys vs hD _ hpl hl hP hG hk
    obtain ⟨F₃, N₃⟩ := up _ hk
    obtain ⟨c, hc⟩ := hpl
    refine fin D h' tk ys.toList vs c F₃ (fun q hq => ?_) (fun q hq e => ?_) hl hP hG
    · rcases List.mem_cons.mp hq with h | h
      · subst h
        refine ⟨by simpa using hc, fun e => ?_, ?_⟩
        · obtain ⟨o, _, _, ho, _⟩ := F.ns
          rw [show L = D from e.symm, hD] at ho; cases ho
        · cases e : h₀.get? D with
          | none => rfl
          | some o => have := F.keep D o e; rw [hD] at this; cases this
      · exact N₃ q h
    · have := (N q hq).1; rw [e, hD] at this; cases this

theorem lc_tuple {L : Addr} {news : List (Addr × Obj)} {scope : Scope} {cl : List (Str × Addr)} {ifs : List PySem.Expr} {elt : PySem.Expr} {Q : Value → Shared → Prop} {ax : Addr} {items : List Value}
    (p : Value → Bool) (G : Value → Value → Prop) (hh : A.handled = none) (hl : s.heap.IsTuple ax items.toArray) (hn : items.length ≤ 1000)
    (F : Fr h₀ L s.heap m) (N : News h₀ L s.heap news)
    (tests : ∀ (C : Addr) (i : Nat) (v : Value) (s₃ : Shared) (m₃ : Str → Option Value) (E' : Value → Shared → Prop), items[i]? = some v → s₃.heap.Ns C m₃ → m₃ x = some v → Fr h₀ L s₃.heap m → News h₀ L s₃.heap news →
      wpAny (model prog w) A (forIn ifs true fun c r => if r = true then do let ok ← isTrue c (compEnvC scope cl C env) (eval c (compEnvC scope cl C env)); pure (ForInStep.yield ok) else pure (ForInStep.yield r))
      (fun ok s₄ => ok = p v ∧ Keeps s₃ s₄) E' s₃)
    (elts : ∀ (C : Addr) (i : Nat) (v : Value) (s₃ : Shared) (m₃ : Str → Option Value) (E' : Value → Shared → Prop), items[i]? = some v → p v = true → s₃.heap.Ns C m₃ → m₃ x = some v → Fr h₀ L s₃.heap m → News h₀ L s₃.heap news →
      wpAny (model prog w) A (eval elt (compEnvC scope cl C env)) (fun y s₄ => G v y ∧ Keeps s₃ s₄) E' s₃)
    (fin : ∀ D h' tk (ys : List Value) c, Fr h₀ L h' m → News h₀ L h' ((D, listOf ys.toArray c) :: news) → (∀ q ∈ news, q.1 ≠ D) → Paired G (items.filter p) ys → Q (.ref D) { s with heap := h', toks := tk }) :
    wpAny (model prog w) A (pyIter (.ref ax)) (fun it s₂ => SrcQ prog w A env scope cl x ifs elt p G Q it s₂) E s := by
  obtain ⟨ol, hol, _⟩ := id hl
  have hlt : ax < s.heap.objs.size := Heap.lt_size hol
  refine wpAny_pyIter_tuple hl ?_
  refine lc_W (news := news) (L := L) (h₀ := h₀) (m := m) p G (Walks.tuple (prog := prog) (w := w) hh s.heap.objs.size ax (Nat.ne_of_lt hlt) items.toArray) (by rw [List.size_toArray, PySem.sizeLine_eq]; omega) ⟨⟨_, Heap.get?_push_size _ rfl, rfl, rfl⟩, hl.at fun o e => Heap.get?_push_of_some _ e⟩ ?_ (F.push _) (fun q hq => ⟨Heap.get?_push_of_some _ (N q hq).1, (N q hq).2⟩) (next_is_new F) (Nat.ne_of_lt F.ns.lt) (fun q hq => Nat.ne_of_lt (Heap.lt_size (N q hq).1)) ?_ ?_ ?_
  · intro b hb
    show b < (s.heap.push _).objs.size
    rw [Heap.size_push]
    rcases List.mem_cons.mp hb with rfl | hb
    · exact Nat.lt_succ_self _
    · rw [List.mem_singleton.mp hb]; exact Nat.lt_succ_of_lt hlt
  · exact fun C i v s₃ m₃ E' hP => tests C i v s₃ m₃ E' (by simpa using hP)
  · exact fun C i v s₃ m₃ E' hP => elts C i v s₃ m₃ E' (by simpa using hP)
  · intro D h' tk ys vs c F' N' hD hl' hP hG
    have e : vs = items := by
      apply List.ext_getElem? 
      intro j
      by_cases hj : j < vs.length
      · have h1 : vs[j]? = some vs[j] := by simp [hj]
        have := hP j _ h1
        rw [h1]; simpa using this.symm
      · rw [List.getElem?_eq_none (by omega), List.getElem?_eq_none (by rw [List.size_toArray] at hl'; omega)]
    subst e
    exact fin D h' tk ys c F' N' hD hG
theorem lc_list {L : Addr} {news : List (Addr × Obj)} {scope : Scope} {cl : List (Str × Addr)} {ifs : List PySem.Expr} {elt : PySem.Expr} {Q : Value → Shared → Prop} {ax : Addr} {items : List Value}
    (p : Value → Bool) (G : Value → Value → Prop) (hh : A.handled = none) (hl : s.heap.IsList ax items.toArray) (hn : items.length ≤ 1000)
    (F : Fr h₀ L s.heap m) (N : News h₀ L s.heap news)
    (tests : ∀ (C : Addr) (i : Nat) (v : Value) (s₃ : Shared) (m₃ : Str → Option Value) (E' : Value → Shared → Prop), items[i]? = some v → s₃.heap.Ns C m₃ → m₃ x = some v → Fr h₀ L s₃.heap m → News h₀ L s₃.heap news →
      wpAny (model prog w) A (forIn ifs true fun c r => if r = true then do let ok ← isTrue c (compEnvC scope cl C env) (eval c (compEnvC scope cl C env)); pure (ForInStep.yield ok) else pure (ForInStep.yield r))
      (fun ok s₄ => ok = p v ∧ Keeps s₃ s₄) E' s₃)
    (elts : ∀ (C : Addr) (i : Nat) (v : Value) (s₃ : Shared) (m₃ : Str → Option Value) (E' : Value → Shared → Prop), items[i]? = some v → p v = true → s₃.heap.Ns C m₃ → m₃ x = some v → Fr h₀ L s₃.heap m → News h₀ L s₃.heap news →
      wpAny (model prog w) A (eval elt (compEnvC scope cl C env)) (fun y s₄ => G v y ∧ Keeps s₃ s₄) E' s₃)
    (fin : ∀ D h' tk (ys : List Value) c, Fr h₀ L h' m → News h₀ L h' ((D, listOf ys.toArray c) :: news) → (∀ q ∈ news, q.1 ≠ D) → Paired G (items.filter p) ys → Q (.ref D) { s with heap := h', toks := tk }) :
    wpAny (model prog w) A (pyIter (.ref ax)) (fun it s₂ => SrcQ prog w A env scope cl x ifs elt p G Q it s₂) E s := by
  obtain ⟨ol, hol, _⟩ := id hl
  have hlt : ax < s.heap.objs.size := Heap.lt_size hol
  refine wpAny_pyIter_list hl ?_
  refine lc_W (news := news) (L := L) (h₀ := h₀) (m := m) p G (Walks.list (prog := prog) (w := w) hh s.heap.objs.size ax (Nat.ne_of_lt hlt) items.toArray) (by rw [List.size_toArray, PySem.sizeLine_eq]; omega) ⟨⟨_, Heap.get?_push_size _ rfl, rfl, rfl⟩, hl.at fun o e => Heap.get?_push_of_some _ e⟩ ?_ (F.push _) (fun q hq => ⟨Heap.get?_push_of_some _ (N q hq).1, (N q hq).2⟩) (next_is_new F) (Nat.ne_of_lt F.ns.lt) (fun q hq => Nat.ne_of_lt (Heap.lt_size (N q hq).1)) ?_ ?_ ?_
  · intro b hb
    show b < (s.heap.push _).objs.size
    rw [Heap.size_push]
    rcases List.mem_cons.mp hb with rfl | hb
    · exact Nat.lt_succ_self _
    · rw [List.mem_singleton.mp hb]; exact Nat.lt_succ_of_lt hlt
  · exact fun C i v s₃ m₃ E' hP => tests C i v s₃ m₃ E' (by simpa using hP)
  · exact fun C i v s₃ m₃ E' hP => elts C i v s₃ m₃ E' (by simpa using hP)
  · intro D h' tk ys vs c F' N' hD hl' hP hG
    have e : vs = items := by
      apply List.ext_getElem? 
      intro j
      by_cases hj : j < vs.length
      · have h1 : vs[j]? = some vs[j] := by simp [hj]
        have := hP j _ h1
        rw [h1]; simpa using this.symm
      · rw [List.getElem?_eq_none (by omega), List.getElem?_eq_none (by rw [List.size_toArray] at hl'; omega)]
    subst e
    exact fin D h' tk ys c F' N' hD hG
theorem lc_keys {L : Addr} {news : List (Addr × Obj)} {scope : Scope} {cl : List (Str × Addr)} {ifs : List PySem.Expr} {elt : PySem.Expr} {Q : Value → Shared → Prop} {ax ep : Nat} {K : Type} [DecidableEq K] {knd : KeyKind prog w K} {kvs : List (K × Value)}
    (p : Value → Bool) (G : Value → Value → Prop) (hh : A.handled = none) (hl : s.heap.DictAt knd ax kvs ep) (hsm : (ax == sysModules) = false) (hn : kvs.length ≤ 1000)
    (F : Fr h₀ L s.heap m) (N : News h₀ L s.heap news)
    (tests : ∀ (C : Addr) (i : Nat) (v : Value) (k : K) (y : Value) (s₃ : Shared) (m₃ : Str → Option Value) (E' : Value → Shared → Prop), kvs[i]? = some (k, y) → knd.is k v = true → s₃.heap.Ns C m₃ → m₃ x = some v → Fr h₀ L s₃.heap m → News h₀ L s₃.heap news →
      wpAny (model prog w) A (forIn ifs true fun c r => if r = true then do let ok ← isTrue c (compEnvC scope cl C env) (eval c (compEnvC scope cl C env)); pure (ForInStep.yield ok) else pure (ForInStep.yield r))
      (fun ok s₄ => ok = p v ∧ Keeps s₃ s₄) E' s₃)
    (elts : ∀ (C : Addr) (i : Nat) (v : Value) (k : K) (y : Value) (s₃ : Shared) (m₃ : Str → Option Value) (E' : Value → Shared → Prop), kvs[i]? = some (k, y) → knd.is k v = true → p v = true → s₃.heap.Ns C m₃ → m₃ x = some v → Fr h₀ L s₃.heap m → News h₀ L s₃.heap news →
      wpAny (model prog w) A (eval elt (compEnvC scope cl C env)) (fun y s₄ => G v y ∧ Keeps s₃ s₄) E' s₃)
    (fin : ∀ D h' tk (ys vs : List Value) c, Fr h₀ L h' m → News h₀ L h' ((D, listOf ys.toArray c) :: news) → (∀ q ∈ news, q.1 ≠ D) → vs.length = kvs.length → (∀ (j : Nat) (v : Value), vs[j]? = some v → ∃ k y, kvs[j]? = some (k, y) ∧ knd.is k v = true) → Paired G (vs.filter p) ys → Q (.ref D) { s with heap := h', toks := tk }) :
    wpAny (model prog w) A (pyIter (.ref ax)) (fun it s₂ => SrcQ prog w A env scope cl x ifs elt p G Q it s₂) E s := by
  have hlt : ax < s.heap.objs.size := hl.lt_size
  refine wpAny_pyIter_dict hsm hl ?_
  refine lc_W (news := news) (L := L) (h₀ := h₀) (m := m) p G (Walks.dictKeys (prog := prog) (w := w) (knd := knd) hh s.heap.objs.size ax (Nat.ne_of_lt hlt) kvs ep) (by rw [PySem.sizeLine_eq]; omega) ⟨⟨_, Heap.get?_push_size _ rfl, rfl, rfl⟩, hl.push _⟩ ?_ (F.push _) (fun q hq => ⟨Heap.get?_push_of_some _ (N q hq).1, (N q hq).2⟩) (next_is_new F) (Nat.ne_of_lt F.ns.lt) (fun q hq => Nat.ne_of_lt (Heap.lt_size (N q hq).1)) ?_ ?_ ?_
  · intro b hb
    show b < (s.heap.push _).objs.size
    rw [Heap.size_push]
    rcases List.mem_cons.mp hb with rfl | hb
    · exact Nat.lt_succ_self _
    · rw [List.mem_singleton.mp hb]; exact Nat.lt_succ_of_lt hlt
  · rintro C i v s₃ m₃ E' ⟨k, y, e1, e2⟩
    exact tests C i v k y s₃ m₃ E' e1 e2
  · rintro C i v s₃ m₃ E' ⟨k, y, e1, e2⟩
    exact elts C i v k y s₃ m₃ E' e1 e2
  · exact fun D h' tk ys vs c F' N' hD hl' hP hG => fin D h' tk ys vs c F' N' hD hl' hP hG
end
section
variable {prog : Program} {w : World} {K : Type} [DecidableEq K] {knd : KeyKind prog w K} {A : Around} {E : Value → Shared → Prop} {s : Shared} {h₀ : Heap} {L d : Addr} {m : Str → Option Value} {rest : List (Addr × Obj)} {o : Obj} {kvs : List (K × Value)} {k : K} {key v : Value}
theorem set_head {Q : Unit → Shared → Prop} (F : Fr h₀ L s.heap m) (N : News h₀ L s.heap ((d, o) :: rest)) (nn : ∀ q ∈ rest, q.1 ≠ d) (hd : o.IsDictOf knd kvs) (hkey : knd.is k key = true) (hsz : kvs.length ≤ 1000)
    (h : ∀ h' o', Fr h₀ L h' m → News h₀ L h' ((d, o') :: rest) → o'.IsDictOf knd (stored kvs k v) → Q () { s with heap := h', toks := s.toks + 1 }) : wpAny (model prog w) A (setItem (.ref d) key v) Q E s := by
  have hm := N (d, o) (.head _)
  refine wpAny_setItem_pairs (hsz := by rw [PySem.sizeLine_eq]; omega) hkey (Heap.dictOf_iff.mpr ⟨o, hm.1, hd⟩) fun h' hmm hs => ?_
  obtain ⟨o', ho', hd'⟩ := Heap.dictOf_iff.mp hmm
  refine h h' o' (F.change hs hm.2.1 hm.2.2) (fun q hq => ?_) hd'
  rcases List.mem_cons.mp hq with e | hq
  · subst e; exact ⟨ho', hm.2⟩
  · have z := N q (.tail _ hq)
    exact ⟨(hs.2 _ (nn q hq)).trans z.1, z.2⟩
end
theorem paired_eq : ∀ {a b : List Value}, Paired (fun v y => y = v) a b → b = a
  | _, _, .nil => rfl
  | _, _, .cons h r => by rw [h, paired_eq r]
theorem ints_filter {p : Value → Bool} {q : Int → Bool} (h : ∀ n t, p (.int n t) = q n) : ∀ {vs : List Value} {ns : List Int}, IntsAre vs ns → IntsAre (vs.filter p) (ns.filter q)
  | _, _, .nil => .nil
  | _, _, .cons n t r => by
    have ih := ints_filter h r
    simp only [List.filter_cons, h]
    split
    · exact .cons n t ih
    · exact ih
end
section
local macro_rules | `(tactic| walk_at "compareOp NotEq str str") => `(tactic| (refine ne_at (by assumption) ?_))
local macro_rules | `(tactic| walk_at "subscriptTail Name Name str int") => `(tactic| (refine char_at (by assumption) (by omega) ?_; intro _))
local macro_rules | `(tactic| walk_at "subscriptTail") => `(tactic| (k_here; (with_reducible show wpAny _ _ (subscriptTail _ _ (Value.ref _) (Value.str _ _)) _ _ _); refine kda_item (knd := PySem.strKind _ _) (by k_asm) (by k_mem) (by assumption) (strKind_is _ _ _ _) (by assumption) ?_))
local macro_rules | `(tactic| walk_at "call builtin:list.append") => `(tactic| (k_here; k_dflt (refine app_head (by assumption) (by assumption) (by assumption) (by omega) ?_); intro _ _ _))
section
variable {prog : Program} {w : World} {A₀ : Around} {base h₀ : Heap} {outer : List Env} {L : Addr} {m mg mb : Str → Option Value} {env : Env} {news : List (Addr × Obj)} {p : Program} {loose : List Str} {mean : ExcName → Option Value}
  {R : Result → Shared → Prop} {s : Shared} {d u : Nat} {gs : Option (List Code)}

theorem lr_spec {kd : Nat → Nat} {whole : Bool} {K : Addr} {oK : Obj} {kvs : List (Str × Value)} {cs : List Nat} {t : Tok} {all : List (List Nat)} {e : Bool} {f : Nat}
    (B : Below A₀ base outer h₀) (F : Fr h₀ L s.heap m) (N : News h₀ L s.heap ((K, oK) :: news))
    (X : (hd0.heap_1_39 w.params).In h₀) (T : Top p loose mean mg mb h₀)
    (hf : env.frame = some L) (hke : env.scope.kind = .function) (hd : d ≤ 470) (hu : u ≤ 70) (hK : oK.IsDictOf (PySem.strKind prog w) kvs) (hV : ∀ c ∈ cs, ∃ t, valueAt kvs (tx [c]) = some (.int ((kd c : Nat) : Int) t))
    (hb : cs.length ≤ 900) (hall0 : all.length ≤ 1000) (hr : Reads kd whole cs 0 all e f)
    (k : ∀ h' tk tp lt vals c v2 v3, Fr h₀ L h' m → News h₀ L h' ((tp, { cls := .type "tuple", data := .seq #[.ref lt, v2, v3] }) :: (lt, listOf (List.toArray vals) c) :: (K, oK) :: news) → (∀ q ∈ (K, oK) :: news, q.1 ≠ lt) → StrsAre vals (all.map tx) →
      ((e = false ∧ v2 = .none ∧ ∃ t, v3 = .int (1 + Txt.count (tx cs) "\n" + ((f : Nat) : Int) - ((cs.length : Nat) : Int)) t) ∨ (e = true ∧ (∃ t, v2 = .str "No closing quotation" t) ∧ ∃ t, v3 = .int (1 + Txt.count (tx cs) "\n") t)) → R (.ok (.ret (.ref tp))) { s with heap := h', toks := tk }) :
    codeAny (model prog w) ⟨none, d, some (env :: outer), gs, u⟩ (.call (.ref 745) ⟨[.str (tx cs) t, .ref K, .bool whole], []⟩) R s := by
  have nlS : Str.ofString "\n" = tx [10] := by decide +kernel
  refine' code_def (env := env) ?k1 ?k2 ?k3 ?k4 ?k5 ?kA ?kF ?kK ?k6 ?k7 ?k8 ?k9 ?kB ?_ ?c2 ?c3 ?c4 ?c5; (case kA => exact rfl); (case kF => exact hf); (case kK => exact hke); (case k1 => k_asm); (case k2 => k_asm); (case k3 => k_asm); (case k4 => k_asm); (case k5 => k_asm); (case k6 => k_is); (case k7 => k_is); (case k8 => k_room); (case k9 => first | exact BindsTo.of_eq rfl | exact binds_K (by k_in) rfl (by k_is) rfl rfl rfl | fail "k_enter: no rule for these arguments"); (case c5 => decide); (case kB => exact locs rfl); (case c2 => exact rfl); (case c3 => exact rfl); (case c4 => exact rfl); k_whole; intro g' L' h' FG' F' N' B' X' T'; (try dsimp only); (try k_lift B'); (try k_fold); (try (refine toks_named ?_; intro tkE))
  iterate 13 (first | (k_unfold; (try dsimp only)) | walk1 | (dsimp only; walk1))
  rename_i lt _ hlt0 _ _ _ F₀₀ N₀₀ _ _
  have nn : ∀ q ∈ (K, oK) :: news, q.1 ≠ lt := by
    intro q hq
    rcases List.mem_cons.mp hq with h | h
    · subst h; exact Nat.ne_of_lt hlt0.1
    · exact Nat.ne_of_lt (tb_ltOf hlt0.2 q h)
  refine wpAny_mono (Q := lrEnd whole cs lt K oK t news all e f g' L' s) ?_ ?_ (fun _ _ z => z)
  · refine While_inv2 (lrJ kd whole cs _ K oK t news all e f) (by assumption) (by assumption) ⟨0, [], [], 0, all, _, rfl, rfl, rfl, rfl, rfl, rfl, .nil, hr, rfl, Nat.zero_le _, rfl⟩ ?_
    clear hr
    intro n m₁ nx h₁ tk₁ F₁ N₁ hJ
    refine post_named ?_
    intro kK kL
    revert N₁
    obtain ⟨j, done, vals, cc, rest, tk, rfl, hj, hto, hte, hki, hwh, hvals, hr, hall, hjl, rfl⟩ := hJ
    intro N₁
    have F₂ := fr_at5 F₁ hj hte hki hwh hto
    clear F₁
    have hvl : vals.length ≤ 2000 := by
      have a1 := hvals.length
      have a2 := congrArg List.length hall
      simp only [List.length_map, List.length_append] at a1 a2
      omega
    have hl : (tx cs).length = cs.length := tx_length cs
    cases hr with
    | @com _ c r _ _ _ hd1 h1 hr2 =>
      obtain ⟨tc, hv⟩ := hV c (List.mem_of_mem_drop (hd1 ▸ List.mem_cons_self))
      rw [h1] at hv
      have hlt := lt_of_drop hd1
      have hln := len_of_drop hd1
      have hnx := drop_next hd1
      have hup := upto_le 10 r
      repeat' (first | ((fail_if_success (with_reducible show wpAny _ _ (exec (PySem.Stmt.While _ _ _ _) _) _ _ _)); first | (k_unfold; (try dsimp only)) | walk1 | (dsimp only; walk1)))
      rename Fr g' L' _ _ => FF
      rename News g' L' _ _ => NN
      refine scan_rule (b := (j + 1)) (upto 10 r) FF NN rfl ?_ ?_ ?_
      · intro i₇ t₅ h₅ tk₅ hi F₅ N₅
        clear FF NN
        refine post_named ?_
        intro kK kL
        rcases upto_cases 10 r i₇ (Nat.le_of_lt hi) with ⟨_, c', r', hd5, hne⟩ | ⟨q, _⟩ | ⟨q, _⟩
        · have hd6 : cs.drop ((j + 1) + i₇) = c' :: r' := by rw [← List.drop_drop, hnx]; exact hd5
          have hlt6 := lt_of_drop hd6
          have e1 : (tx [c'] == Str.ofString "\n") = false := by rw [nlS, tx_eq_iff]; simp [hne]
          repeat' (first | ((fail_if_success (with_reducible show wpAny _ _ (exec (PySem.Stmt.While _ _ _ _) _) _ _ _)); first | (k_unfold; (try dsimp only)) | walk1 | (dsimp only; walk1)))
          all_goals exact stepP_on rfl (by assumption) rfl (fun y hy => by first | exact if_neg hy | exact (if_neg hy).trans (if_neg hy) | simp [hy]) (by assumption)
        · omega
        · omega
      · intro t₅ h₅ tk₅ F₅ N₅
        clear FF NN
        refine post_named ?_
        intro kK kL
        rcases upto_cases 10 r (upto 10 r) (Nat.le_refl _) with ⟨q, _⟩ | ⟨_, q⟩ | ⟨_, r', hd5⟩
        · omega
        · have hlt6 : ¬ (j + 1) + upto 10 r < cs.length := by omega
          repeat' (first | ((fail_if_success (with_reducible show wpAny _ _ (exec (PySem.Stmt.While _ _ _ _) _) _ _ _)); first | (k_unfold; (try dsimp only)) | walk1 | (dsimp only; walk1)))
          all_goals exact offP_on rfl (by assumption) (by assumption)
        · have hd6 : cs.drop ((j + 1) + upto 10 r) = 10 :: r' := by rw [← List.drop_drop, hnx]; exact hd5
          have hlt6 := lt_of_drop hd6
          have e1 : (tx [10] == Str.ofString "\n") = true := by rw [nlS]; decide +kernel
          repeat' (first | ((fail_if_success (with_reducible show wpAny _ _ (exec (PySem.Stmt.While _ _ _ _) _) _ _ _)); first | (k_unfold; (try dsimp only)) | walk1 | (dsimp only; walk1)))
          all_goals exact offP_on rfl (by assumption) (by assumption)
      clear FF NN
      intro t₅ h₅ tk₅ F₅ N₅
      repeat' (first | ((fail_if_success (with_reducible show wpAny _ _ (exec (PySem.Stmt.While _ _ _ _) _) _ _ _)); first | (k_unfold; (try dsimp only)) | walk1 | (dsimp only; walk1)))
      exact lrJ_on (j + 1 + upto 10 r + 1) (done) (vals) rfl (by assumption) (by assumption) (by omega) rfl rfl rfl rfl rfl (hvals) (hr2) (hall) (by omega)
    | @white _ c r _ _ _ hd1 h1 hr2 =>
      obtain ⟨tc, hv⟩ := hV c (List.mem_of_mem_drop (hd1 ▸ List.mem_cons_self))
      rw [h1] at hv
      have hlt := lt_of_drop hd1
      have hln := len_of_drop hd1
      have hnx := drop_next hd1
      repeat' (first | ((fail_if_success (with_reducible show wpAny _ _ (exec (PySem.Stmt.While _ _ _ _) _) _ _ _)); first | (k_unfold; (try dsimp only)) | walk1 | (dsimp only; walk1)))
      exact lrJ_on (j + 1) (done) (vals) rfl (by assumption) (by assumption) (by omega) rfl rfl rfl rfl rfl (hvals) (hr2) (hall) (by omega)
    | @one _ c r _ _ _ hd1 h1 hw hr2 =>
      obtain ⟨tc, hv⟩ := hV c (List.mem_of_mem_drop (hd1 ▸ List.mem_cons_self))
      rw [h1] at hv
      have hlt := lt_of_drop hd1
      have hln := len_of_drop hd1
      have hnx := drop_next hd1
      subst hw
      repeat' (first | ((fail_if_success (with_reducible show wpAny _ _ (exec (PySem.Stmt.While _ _ _ _) _) _ _ _)); first | (k_unfold; (try dsimp only)) | walk1 | (dsimp only; walk1)))
      exact lrJ_on (j + 1) (done ++ [[c]]) (vals ++ [_]) rfl (by assumption) (by assumption) (by omega) rfl rfl rfl rfl rfl (by rw [List.map_append]; exact StrsAre.append' hvals (.cons _ _ .nil)) (hr2) (by rw [← hall]; simp) (by omega)
    | @unshut _ c r hd1 h1 h2 =>
      obtain ⟨tc, hv⟩ := hV c (List.mem_of_mem_drop (hd1 ▸ List.mem_cons_self))
      rw [h1] at hv
      have hlt := lt_of_drop hd1
      have hln := len_of_drop hd1
      have hnx := drop_next hd1
      have hup := upto_le c r
      have hkl : j + 1 + upto c r = cs.length := by omega
      repeat' (first | ((fail_if_success (with_reducible show wpAny _ _ (exec (PySem.Stmt.While _ _ _ _) _) _ _ _)); first | (k_unfold; (try dsimp only)) | walk1 | (dsimp only; walk1)))
      rename Fr g' L' _ _ => FF
      rename News g' L' _ _ => NN
      refine scan_rule (b := (j + 1)) (upto c r) FF NN rfl ?_ ?_ ?_
      · intro i₇ t₅ h₅ tk₅ hi F₅ N₅
        clear FF NN
        refine post_named ?_
        intro kK kL
        rcases upto_cases c r i₇ (Nat.le_of_lt hi) with ⟨_, c', r', hd5, hne⟩ | ⟨q, _⟩ | ⟨q, _⟩
        · have hd6 : cs.drop ((j + 1) + i₇) = c' :: r' := by rw [← List.drop_drop, hnx]; exact hd5
          have hlt6 := lt_of_drop hd6
          have e1 : (tx [c'] == tx [c]) = false := by rw [tx_eq_iff]; simp [hne]
          repeat' (first | ((fail_if_success (with_reducible show wpAny _ _ (exec (PySem.Stmt.While _ _ _ _) _) _ _ _)); first | (k_unfold; (try dsimp only)) | walk1 | (dsimp only; walk1)))
          all_goals exact stepP_on rfl (by assumption) rfl (fun y hy => by first | exact if_neg hy | exact (if_neg hy).trans (if_neg hy) | simp [hy]) (by assumption)
        · omega
        · omega
      · intro t₅ h₅ tk₅ F₅ N₅
        clear FF NN
        refine post_named ?_
        intro kK kL
        rcases upto_cases c r (upto c r) (Nat.le_refl _) with ⟨q, _⟩ | ⟨_, q⟩ | ⟨_, r', hd5⟩
        · omega
        · have hlt6 : ¬ (j + 1) + upto c r < cs.length := by omega
          repeat' (first | ((fail_if_success (with_reducible show wpAny _ _ (exec (PySem.Stmt.While _ _ _ _) _) _ _ _)); first | (k_unfold; (try dsimp only)) | walk1 | (dsimp only; walk1)))
          all_goals exact offP_on rfl (by assumption) (by assumption)
        · have hd6 : cs.drop ((j + 1) + upto c r) = c :: r' := by rw [← List.drop_drop, hnx]; exact hd5
          have hlt6 := lt_of_drop hd6
          have e1 : (tx [c] == tx [c]) = true := by rw [tx_eq_iff]; simp
          repeat' (first | ((fail_if_success (with_reducible show wpAny _ _ (exec (PySem.Stmt.While _ _ _ _) _) _ _ _)); first | (k_unfold; (try dsimp only)) | walk1 | (dsimp only; walk1)))
          all_goals exact offP_on rfl (by assumption) (by assumption)
      clear FF NN
      intro t₅ h₅ tk₅ F₅ N₅
      repeat' (first | ((fail_if_success (with_reducible show wpAny _ _ (exec (PySem.Stmt.While _ _ _ _) _) _ _ _)); first | (k_unfold; (try dsimp only)) | walk1 | (dsimp only; walk1)))
      any_goals (exfalso; omega)
      rw [List.append_nil] at hall
      subst hall
      exact .inr ⟨rfl, _, _, _, _, _, _, _, _, rfl, rfl, by assumption, by assumption, hvals⟩
    | @quote _ c r _ _ _ hd1 h1 h2 hr2 =>
      obtain ⟨tc, hv⟩ := hV c (List.mem_of_mem_drop (hd1 ▸ List.mem_cons_self))
      rw [h1] at hv
      have hlt := lt_of_drop hd1
      have hln := len_of_drop hd1
      have hnx := drop_next hd1
      have hup := upto_le c r
      have hkl : j + 1 + upto c r < cs.length := by omega
      repeat' (first | ((fail_if_success (with_reducible show wpAny _ _ (exec (PySem.Stmt.While _ _ _ _) _) _ _ _)); first | (k_unfold; (try dsimp only)) | walk1 | (dsimp only; walk1)))
      rename Fr g' L' _ _ => FF
      rename News g' L' _ _ => NN
      refine scan_rule (b := (j + 1)) (upto c r) FF NN rfl ?_ ?_ ?_
      · intro i₇ t₅ h₅ tk₅ hi F₅ N₅
        clear FF NN
        refine post_named ?_
        intro kK kL
        rcases upto_cases c r i₇ (Nat.le_of_lt hi) with ⟨_, c', r', hd5, hne⟩ | ⟨q, _⟩ | ⟨q, _⟩
        · have hd6 : cs.drop ((j + 1) + i₇) = c' :: r' := by rw [← List.drop_drop, hnx]; exact hd5
          have hlt6 := lt_of_drop hd6
          have e1 : (tx [c'] == tx [c]) = false := by rw [tx_eq_iff]; simp [hne]
          repeat' (first | ((fail_if_success (with_reducible show wpAny _ _ (exec (PySem.Stmt.While _ _ _ _) _) _ _ _)); first | (k_unfold; (try dsimp only)) | walk1 | (dsimp only; walk1)))
          all_goals exact stepP_on rfl (by assumption) rfl (fun y hy => by first | exact if_neg hy | exact (if_neg hy).trans (if_neg hy) | simp [hy]) (by assumption)
        · omega
        · omega
      · intro t₅ h₅ tk₅ F₅ N₅
        clear FF NN
        refine post_named ?_
        intro kK kL
        rcases upto_cases c r (upto c r) (Nat.le_refl _) with ⟨q, _⟩ | ⟨_, q⟩ | ⟨_, r', hd5⟩
        · omega
        · have hlt6 : ¬ (j + 1) + upto c r < cs.length := by omega
          repeat' (first | ((fail_if_success (with_reducible show wpAny _ _ (exec (PySem.Stmt.While _ _ _ _) _) _ _ _)); first | (k_unfold; (try dsimp only)) | walk1 | (dsimp only; walk1)))
          all_goals exact offP_on rfl (by assumption) (by assumption)
        · have hd6 : cs.drop ((j + 1) + upto c r) = c :: r' := by rw [← List.drop_drop, hnx]; exact hd5
          have hlt6 := lt_of_drop hd6
          have e1 : (tx [c] == tx [c]) = true := by rw [tx_eq_iff]; simp
          repeat' (first | ((fail_if_success (with_reducible show wpAny _ _ (exec (PySem.Stmt.While _ _ _ _) _) _ _ _)); first | (k_unfold; (try dsimp only)) | walk1 | (dsimp only; walk1)))
          all_goals exact offP_on rfl (by assumption) (by assumption)
      clear FF NN
      intro t₅ h₅ tk₅ F₅ N₅
      repeat' (first | ((fail_if_success (with_reducible show wpAny _ _ (exec (PySem.Stmt.While _ _ _ _) _) _ _ _)); first | (k_unfold; (try dsimp only)) | walk1 | (dsimp only; walk1)))
      any_goals (exfalso; omega)
      have hsl := slice_tok (n := upto c r + 1) hd1 (by omega)
      rw [show ((j + 1 + (upto c r + 1) : Nat) : Int) = ((j + 1 + upto c r : Nat) : Int) + 1 by omega] at hsl
      rename News g' L' _ _ => NN
      rw [hsl] at NN
      exact lrJ_on (j + 1 + upto c r + 1) (done ++ [c :: r.take (upto c r + 1)]) (vals ++ [_]) rfl (by assumption) (by assumption) (by omega) rfl rfl rfl rfl rfl (by rw [List.map_append]; exact StrsAre.append' hvals (.cons _ _ .nil)) (hr2) (by rw [← hall]; simp) (by omega)
    | @word4 _ c r k₂ t₂ _ _ _ hd1 h1 hW hk1 hk2 hk3 hr2 =>
      obtain ⟨tc, hv⟩ := hV c (List.mem_of_mem_drop (hd1 ▸ List.mem_cons_self))
      rw [h1] at hv
      have hlt := lt_of_drop hd1
      have hln := len_of_drop hd1
      have hnx := drop_next hd1
      repeat' (first | ((fail_if_success (with_reducible show wpAny _ _ (exec (PySem.Stmt.While _ _ _ _) _) _ _ _)); first | (k_unfold; (try dsimp only)) | walk1 | (dsimp only; walk1)))
      rename Fr g' L' _ _ => FF
      rename News g' L' _ _ => NN
      refine word_rule (b := j + 1) (tok₀ := [c]) FF NN rfl rfl (by omega) (by simp) hW ?_ ?_
      · clear hW
        intro i tok ti tt h₅ tk₅ hi htl hW F₅ N₅
        clear FF NN
        refine post_named ?_
        intro kK kL
        cases hW with
        | fin h₂ =>
          repeat' (first | ((fail_if_success (with_reducible show wpAny _ _ (exec (PySem.Stmt.While _ _ _ _) _) _ _ _)); first | (k_unfold; (try dsimp only)) | walk1 | (dsimp only; walk1)))
          exact woff_on rfl (by assumption) (by assumption)
        | @white _ _ c₂ r₂ hd₂ h₂ =>
          obtain ⟨tc₂, hv₂⟩ := hV c₂ (List.mem_of_mem_drop (hd₂ ▸ List.mem_cons_self))
          rw [h₂] at hv₂
          have hlt₂ := lt_of_drop hd₂
          have hln₂ := len_of_drop hd₂
          have hnx₂ := drop_next hd₂
          cases whole
          all_goals (repeat' (first | ((fail_if_success (with_reducible show wpAny _ _ (exec (PySem.Stmt.While _ _ _ _) _) _ _ _)); first | (k_unfold; (try dsimp only)) | walk1 | (dsimp only; walk1))))
          all_goals exact woff_on rfl (by assumption) (by assumption)
        | @one _ _ c₂ r₂ hd₂ h₂ hw₂ =>
          obtain ⟨tc₂, hv₂⟩ := hV c₂ (List.mem_of_mem_drop (hd₂ ▸ List.mem_cons_self))
          rw [h₂] at hv₂
          have hlt₂ := lt_of_drop hd₂
          have hln₂ := len_of_drop hd₂
          have hnx₂ := drop_next hd₂
          subst hw₂
          repeat' (first | ((fail_if_success (with_reducible show wpAny _ _ (exec (PySem.Stmt.While _ _ _ _) _) _ _ _)); first | (k_unfold; (try dsimp only)) | walk1 | (dsimp only; walk1)))
          exact woff_on rfl (by assumption) (by assumption)
        | @add4 _ _ c₂ r₂ _ _ hd₂ h₂ hW₂ =>
          obtain ⟨tc₂, hv₂⟩ := hV c₂ (List.mem_of_mem_drop (hd₂ ▸ List.mem_cons_self))
          rw [h₂] at hv₂
          have hlt₂ := lt_of_drop hd₂
          have hln₂ := len_of_drop hd₂
          have hnx₂ := drop_next hd₂
          cases whole
          all_goals (repeat' (first | ((fail_if_success (with_reducible show wpAny _ _ (exec (PySem.Stmt.While _ _ _ _) _) _ _ _)); first | (k_unfold; (try dsimp only)) | walk1 | (dsimp only; walk1))))
          all_goals exact wstep_on (i + 1) (tok ++ [c₂]) rfl (by assumption) rfl rfl (fun y h1 h2 => by first | exact (if_neg h1).trans (if_neg h2) | exact (if_neg h2).trans ((if_neg h1).trans (if_neg h2)) | exact (if_neg h1).trans ((if_neg h2).trans ((if_neg h1).trans (if_neg h2))) | exact (if_neg h2).trans ((if_neg h1).trans ((if_neg h1).trans (if_neg h2))) | exact (if_neg h1).trans ((if_neg h1).trans (if_neg h2)) | simp [h1, h2]) (by assumption) (by omega) (by omega) (by (try simp only [List.length_append, List.length_cons, List.length_nil]); omega) hW₂
        | @add8 _ _ c₂ r₂ _ _ hd₂ h₂ hW₂ =>
          obtain ⟨tc₂, hv₂⟩ := hV c₂ (List.mem_of_mem_drop (hd₂ ▸ List.mem_cons_self))
          rw [h₂] at hv₂
          have hlt₂ := lt_of_drop hd₂
          have hln₂ := len_of_drop hd₂
          have hnx₂ := drop_next hd₂
          cases whole
          all_goals (repeat' (first | ((fail_if_success (with_reducible show wpAny _ _ (exec (PySem.Stmt.While _ _ _ _) _) _ _ _)); first | (k_unfold; (try dsimp only)) | walk1 | (dsimp only; walk1))))
          all_goals exact wstep_on (i + 1) (tok ++ [c₂]) rfl (by assumption) rfl rfl (fun y h1 h2 => by first | exact (if_neg h1).trans (if_neg h2) | exact (if_neg h2).trans ((if_neg h1).trans (if_neg h2)) | exact (if_neg h1).trans ((if_neg h2).trans ((if_neg h1).trans (if_neg h2))) | exact (if_neg h2).trans ((if_neg h1).trans ((if_neg h1).trans (if_neg h2))) | exact (if_neg h1).trans ((if_neg h1).trans (if_neg h2)) | simp [h1, h2]) (by assumption) (by omega) (by omega) (by (try simp only [List.length_append, List.length_cons, List.length_nil]); omega) hW₂
        | @add0 _ _ c₂ r₂ _ _ hd₂ h₂ hw₂ hW₂ =>
          obtain ⟨tc₂, hv₂⟩ := hV c₂ (List.mem_of_mem_drop (hd₂ ▸ List.mem_cons_self))
          rw [h₂] at hv₂
          have hlt₂ := lt_of_drop hd₂
          have hln₂ := len_of_drop hd₂
          have hnx₂ := drop_next hd₂
          subst hw₂
          repeat' (first | ((fail_if_success (with_reducible show wpAny _ _ (exec (PySem.Stmt.While _ _ _ _) _) _ _ _)); first | (k_unfold; (try dsimp only)) | walk1 | (dsimp only; walk1)))
          exact wstep_on (i + 1) (tok ++ [c₂]) rfl (by assumption) rfl rfl (fun y h1 h2 => by first | exact (if_neg h1).trans (if_neg h2) | exact (if_neg h2).trans ((if_neg h1).trans (if_neg h2)) | exact (if_neg h1).trans ((if_neg h2).trans ((if_neg h1).trans (if_neg h2))) | exact (if_neg h2).trans ((if_neg h1).trans ((if_neg h1).trans (if_neg h2))) | exact (if_neg h1).trans ((if_neg h1).trans (if_neg h2)) | simp [h1, h2]) (by assumption) (by omega) (by omega) (by (try simp only [List.length_append, List.length_cons, List.length_nil]); omega) hW₂
        | @com _ _ c₂ r₂ _ _ hd₂ h₂ hW₂ =>
          obtain ⟨tc₂, hv₂⟩ := hV c₂ (List.mem_of_mem_drop (hd₂ ▸ List.mem_cons_self))
          rw [h₂] at hv₂
          have hlt₂ := lt_of_drop hd₂
          have hln₂ := len_of_drop hd₂
          have hnx₂ := drop_next hd₂
          cases whole
          · have hup₂ := upto_le 10 r₂
            repeat' (first | ((fail_if_success (with_reducible show wpAny _ _ (exec (PySem.Stmt.While _ _ _ _) _) _ _ _)); first | (k_unfold; (try dsimp only)) | walk1 | (dsimp only; walk1)))
            rename Fr g' L' _ _ => FF
            rename News g' L' _ _ => NN
            refine scan_rule (b := (i + 1)) (upto 10 r₂) FF NN rfl ?_ ?_ ?_
            · intro i₇ t₅ h₅ tk₅ hi F₅ N₅
              clear FF NN
              refine post_named ?_
              intro kK kL
              rcases upto_cases 10 r₂ i₇ (Nat.le_of_lt hi) with ⟨_, c', r', hd5, hne⟩ | ⟨q, _⟩ | ⟨q, _⟩
              · have hd6 : cs.drop ((i + 1) + i₇) = c' :: r' := by rw [← List.drop_drop, hnx₂]; exact hd5
                have hlt6 := lt_of_drop hd6
                have e1 : (tx [c'] == Str.ofString "\n") = false := by rw [nlS, tx_eq_iff]; simp [hne]
                repeat' (first | ((fail_if_success (with_reducible show wpAny _ _ (exec (PySem.Stmt.While _ _ _ _) _) _ _ _)); first | (k_unfold; (try dsimp only)) | walk1 | (dsimp only; walk1)))
                all_goals exact stepP_on rfl (by assumption) rfl (fun y hy => by first | exact if_neg hy | exact (if_neg hy).trans (if_neg hy) | simp [hy]) (by assumption)
              · omega
              · omega
            · intro t₅ h₅ tk₅ F₅ N₅
              clear FF NN
              refine post_named ?_
              intro kK kL
              rcases upto_cases 10 r₂ (upto 10 r₂) (Nat.le_refl _) with ⟨q, _⟩ | ⟨_, q⟩ | ⟨_, r', hd5⟩
              · omega
              · have hlt6 : ¬ (i + 1) + upto 10 r₂ < cs.length := by omega
                repeat' (first | ((fail_if_success (with_reducible show wpAny _ _ (exec (PySem.Stmt.While _ _ _ _) _) _ _ _)); first | (k_unfold; (try dsimp only)) | walk1 | (dsimp only; walk1)))
                all_goals exact offP_on rfl (by assumption) (by assumption)
              · have hd6 : cs.drop ((i + 1) + upto 10 r₂) = 10 :: r' := by rw [← List.drop_drop, hnx₂]; exact hd5
                have hlt6 := lt_of_drop hd6
                have e1 : (tx [10] == Str.ofString "\n") = true := by rw [nlS]; decide +kernel
                repeat' (first | ((fail_if_success (with_reducible show wpAny _ _ (exec (PySem.Stmt.While _ _ _ _) _) _ _ _)); first | (k_unfold; (try dsimp only)) | walk1 | (dsimp only; walk1)))
                all_goals exact offP_on rfl (by assumption) (by assumption)
            clear FF NN
            intro t₅ h₅ tk₅ F₅ N₅
            repeat' (first | ((fail_if_success (with_reducible show wpAny _ _ (exec (PySem.Stmt.While _ _ _ _) _) _ _ _)); first | (k_unfold; (try dsimp only)) | walk1 | (dsimp only; walk1)))
            exact wstep_on (i + 1 + upto 10 r₂ + 1) (tok) rfl (by assumption) rfl rfl (fun y h1 h2 => by first | exact (if_neg h1).trans (if_neg h2) | exact (if_neg h2).trans ((if_neg h1).trans (if_neg h2)) | exact (if_neg h1).trans ((if_neg h2).trans ((if_neg h1).trans (if_neg h2))) | exact (if_neg h2).trans ((if_neg h1).trans ((if_neg h1).trans (if_neg h2))) | exact (if_neg h1).trans ((if_neg h1).trans (if_neg h2)) | simp [h1, h2]) (by assumption) (by omega) (by omega) (by (try simp only [List.length_append, List.length_cons, List.length_nil]); omega) hW₂
          · have hup₂ := upto_le 10 r₂
            repeat' (first | ((fail_if_success (with_reducible show wpAny _ _ (exec (PySem.Stmt.While _ _ _ _) _) _ _ _)); first | (k_unfold; (try dsimp only)) | walk1 | (dsimp only; walk1)))
            rename Fr g' L' _ _ => FF
            rename News g' L' _ _ => NN
            refine scan_rule (b := (i + 1)) (upto 10 r₂) FF NN rfl ?_ ?_ ?_
            · intro i₇ t₅ h₅ tk₅ hi F₅ N₅
              clear FF NN
              refine post_named ?_
              intro kK kL
              rcases upto_cases 10 r₂ i₇ (Nat.le_of_lt hi) with ⟨_, c', r', hd5, hne⟩ | ⟨q, _⟩ | ⟨q, _⟩
              · have hd6 : cs.drop ((i + 1) + i₇) = c' :: r' := by rw [← List.drop_drop, hnx₂]; exact hd5
                have hlt6 := lt_of_drop hd6
                have e1 : (tx [c'] == Str.ofString "\n") = false := by rw [nlS, tx_eq_iff]; simp [hne]
                repeat' (first | ((fail_if_success (with_reducible show wpAny _ _ (exec (PySem.Stmt.While _ _ _ _) _) _ _ _)); first | (k_unfold; (try dsimp only)) | walk1 | (dsimp only; walk1)))
                all_goals exact stepP_on rfl (by assumption) rfl (fun y hy => by first | exact if_neg hy | exact (if_neg hy).trans (if_neg hy) | simp [hy]) (by assumption)
              · omega
              · omega
            · intro t₅ h₅ tk₅ F₅ N₅
              clear FF NN
              refine post_named ?_
              intro kK kL
              rcases upto_cases 10 r₂ (upto 10 r₂) (Nat.le_refl _) with ⟨q, _⟩ | ⟨_, q⟩ | ⟨_, r', hd5⟩
              · omega
              · have hlt6 : ¬ (i + 1) + upto 10 r₂ < cs.length := by omega
                repeat' (first | ((fail_if_success (with_reducible show wpAny _ _ (exec (PySem.Stmt.While _ _ _ _) _) _ _ _)); first | (k_unfold; (try dsimp only)) | walk1 | (dsimp only; walk1)))
                all_goals exact offP_on rfl (by assumption) (by assumption)
              · have hd6 : cs.drop ((i + 1) + upto 10 r₂) = 10 :: r' := by rw [← List.drop_drop, hnx₂]; exact hd5
                have hlt6 := lt_of_drop hd6
                have e1 : (tx [10] == Str.ofString "\n") = true := by rw [nlS]; decide +kernel
                repeat' (first | ((fail_if_success (with_reducible show wpAny _ _ (exec (PySem.Stmt.While _ _ _ _) _) _ _ _)); first | (k_unfold; (try dsimp only)) | walk1 | (dsimp only; walk1)))
                all_goals exact offP_on rfl (by assumption) (by assumption)
            clear FF NN
            intro t₅ h₅ tk₅ F₅ N₅
            repeat' (first | ((fail_if_success (with_reducible show wpAny _ _ (exec (PySem.Stmt.While _ _ _ _) _) _ _ _)); first | (k_unfold; (try dsimp only)) | walk1 | (dsimp only; walk1)))
            exact wstep_on (i + 1 + upto 10 r₂ + 1) (tok) rfl (by assumption) rfl rfl (fun y h1 h2 => by first | exact (if_neg h1).trans (if_neg h2) | exact (if_neg h2).trans ((if_neg h1).trans (if_neg h2)) | exact (if_neg h1).trans ((if_neg h2).trans ((if_neg h1).trans (if_neg h2))) | exact (if_neg h2).trans ((if_neg h1).trans ((if_neg h1).trans (if_neg h2))) | exact (if_neg h1).trans ((if_neg h1).trans (if_neg h2)) | simp [h1, h2]) (by assumption) (by omega) (by omega) (by (try simp only [List.length_append, List.length_cons, List.length_nil]); omega) hW₂
      clear FF NN
      intro ti tt h₅ tk₅ F₅ N₅
      repeat' (first | ((fail_if_success (with_reducible show wpAny _ _ (exec (PySem.Stmt.While _ _ _ _) _) _ _ _)); first | (k_unfold; (try dsimp only)) | walk1 | (dsimp only; walk1)))
      exact lrJ_on (k₂) (done ++ [t₂]) (vals ++ [_]) rfl (by assumption) (by assumption) (by omega) rfl rfl rfl rfl rfl (by rw [List.map_append]; exact StrsAre.append' hvals (.cons _ _ .nil)) (hr2) (by rw [← hall]; simp) (by omega)
    | @word0 _ c r k₂ t₂ _ _ _ hd1 h1 hw hW hk1 hk2 hk3 hr2 =>
      obtain ⟨tc, hv⟩ := hV c (List.mem_of_mem_drop (hd1 ▸ List.mem_cons_self))
      rw [h1] at hv
      have hlt := lt_of_drop hd1
      have hln := len_of_drop hd1
      have hnx := drop_next hd1
      subst hw
      repeat' (first | ((fail_if_success (with_reducible show wpAny _ _ (exec (PySem.Stmt.While _ _ _ _) _) _ _ _)); first | (k_unfold; (try dsimp only)) | walk1 | (dsimp only; walk1)))
      rename Fr g' L' _ _ => FF
      rename News g' L' _ _ => NN
      refine word_rule (b := j + 1) (tok₀ := [c]) FF NN rfl rfl (by omega) (by simp) hW ?_ ?_
      · clear hW
        intro i tok ti tt h₅ tk₅ hi htl hW F₅ N₅
        clear FF NN
        refine post_named ?_
        intro kK kL
        cases hW with
        | fin h₂ =>
          repeat' (first | ((fail_if_success (with_reducible show wpAny _ _ (exec (PySem.Stmt.While _ _ _ _) _) _ _ _)); first | (k_unfold; (try dsimp only)) | walk1 | (dsimp only; walk1)))
          exact woff_on rfl (by assumption) (by assumption)
        | @white _ _ c₂ r₂ hd₂ h₂ =>
          obtain ⟨tc₂, hv₂⟩ := hV c₂ (List.mem_of_mem_drop (hd₂ ▸ List.mem_cons_self))
          rw [h₂] at hv₂
          have hlt₂ := lt_of_drop hd₂
          have hln₂ := len_of_drop hd₂
          have hnx₂ := drop_next hd₂
          all_goals (repeat' (first | ((fail_if_success (with_reducible show wpAny _ _ (exec (PySem.Stmt.While _ _ _ _) _) _ _ _)); first | (k_unfold; (try dsimp only)) | walk1 | (dsimp only; walk1))))
          all_goals exact woff_on rfl (by assumption) (by assumption)
        | one hd₂ h₂ hw₂ => cases hw₂
        | @add4 _ _ c₂ r₂ _ _ hd₂ h₂ hW₂ =>
          obtain ⟨tc₂, hv₂⟩ := hV c₂ (List.mem_of_mem_drop (hd₂ ▸ List.mem_cons_self))
          rw [h₂] at hv₂
          have hlt₂ := lt_of_drop hd₂
          have hln₂ := len_of_drop hd₂
          have hnx₂ := drop_next hd₂
          all_goals (repeat' (first | ((fail_if_success (with_reducible show wpAny _ _ (exec (PySem.Stmt.While _ _ _ _) _) _ _ _)); first | (k_unfold; (try dsimp only)) | walk1 | (dsimp only; walk1))))
          all_goals exact wstep_on (i + 1) (tok ++ [c₂]) rfl (by assumption) rfl rfl (fun y h1 h2 => by first | exact (if_neg h1).trans (if_neg h2) | exact (if_neg h2).trans ((if_neg h1).trans (if_neg h2)) | exact (if_neg h1).trans ((if_neg h2).trans ((if_neg h1).trans (if_neg h2))) | exact (if_neg h2).trans ((if_neg h1).trans ((if_neg h1).trans (if_neg h2))) | exact (if_neg h1).trans ((if_neg h1).trans (if_neg h2)) | simp [h1, h2]) (by assumption) (by omega) (by omega) (by (try simp only [List.length_append, List.length_cons, List.length_nil]); omega) hW₂
        | @add8 _ _ c₂ r₂ _ _ hd₂ h₂ hW₂ =>
          obtain ⟨tc₂, hv₂⟩ := hV c₂ (List.mem_of_mem_drop (hd₂ ▸ List.mem_cons_self))
          rw [h₂] at hv₂
          have hlt₂ := lt_of_drop hd₂
          have hln₂ := len_of_drop hd₂
          have hnx₂ := drop_next hd₂
          all_goals (repeat' (first | ((fail_if_success (with_reducible show wpAny _ _ (exec (PySem.Stmt.While _ _ _ _) _) _ _ _)); first | (k_unfold; (try dsimp only)) | walk1 | (dsimp only; walk1))))
          all_goals exact wstep_on (i + 1) (tok ++ [c₂]) rfl (by assumption) rfl rfl (fun y h1 h2 => by first | exact (if_neg h1).trans (if_neg h2) | exact (if_neg h2).trans ((if_neg h1).trans (if_neg h2)) | exact (if_neg h1).trans ((if_neg h2).trans ((if_neg h1).trans (if_neg h2))) | exact (if_neg h2).trans ((if_neg h1).trans ((if_neg h1).trans (if_neg h2))) | exact (if_neg h1).trans ((if_neg h1).trans (if_neg h2)) | simp [h1, h2]) (by assumption) (by omega) (by omega) (by (try simp only [List.length_append, List.length_cons, List.length_nil]); omega) hW₂
        | @add0 _ _ c₂ r₂ _ _ hd₂ h₂ hw₂ hW₂ =>
          obtain ⟨tc₂, hv₂⟩ := hV c₂ (List.mem_of_mem_drop (hd₂ ▸ List.mem_cons_self))
          rw [h₂] at hv₂
          have hlt₂ := lt_of_drop hd₂
          have hln₂ := len_of_drop hd₂
          have hnx₂ := drop_next hd₂
          repeat' (first | ((fail_if_success (with_reducible show wpAny _ _ (exec (PySem.Stmt.While _ _ _ _) _) _ _ _)); first | (k_unfold; (try dsimp only)) | walk1 | (dsimp only; walk1)))
          exact wstep_on (i + 1) (tok ++ [c₂]) rfl (by assumption) rfl rfl (fun y h1 h2 => by first | exact (if_neg h1).trans (if_neg h2) | exact (if_neg h2).trans ((if_neg h1).trans (if_neg h2)) | exact (if_neg h1).trans ((if_neg h2).trans ((if_neg h1).trans (if_neg h2))) | exact (if_neg h2).trans ((if_neg h1).trans ((if_neg h1).trans (if_neg h2))) | exact (if_neg h1).trans ((if_neg h1).trans (if_neg h2)) | simp [h1, h2]) (by assumption) (by omega) (by omega) (by (try simp only [List.length_append, List.length_cons, List.length_nil]); omega) hW₂
        | @com _ _ c₂ r₂ _ _ hd₂ h₂ hW₂ =>
          obtain ⟨tc₂, hv₂⟩ := hV c₂ (List.mem_of_mem_drop (hd₂ ▸ List.mem_cons_self))
          rw [h₂] at hv₂
          have hlt₂ := lt_of_drop hd₂
          have hln₂ := len_of_drop hd₂
          have hnx₂ := drop_next hd₂
          have hup₂ := upto_le 10 r₂
          repeat' (first | ((fail_if_success (with_reducible show wpAny _ _ (exec (PySem.Stmt.While _ _ _ _) _) _ _ _)); first | (k_unfold; (try dsimp only)) | walk1 | (dsimp only; walk1)))
          rename Fr g' L' _ _ => FF
          rename News g' L' _ _ => NN
          refine scan_rule (b := (i + 1)) (upto 10 r₂) FF NN rfl ?_ ?_ ?_
          · intro i₇ t₅ h₅ tk₅ hi F₅ N₅
            clear FF NN
            refine post_named ?_
            intro kK kL
            rcases upto_cases 10 r₂ i₇ (Nat.le_of_lt hi) with ⟨_, c', r', hd5, hne⟩ | ⟨q, _⟩ | ⟨q, _⟩
            · have hd6 : cs.drop ((i + 1) + i₇) = c' :: r' := by rw [← List.drop_drop, hnx₂]; exact hd5
              have hlt6 := lt_of_drop hd6
              have e1 : (tx [c'] == Str.ofString "\n") = false := by rw [nlS, tx_eq_iff]; simp [hne]
              repeat' (first | ((fail_if_success (with_reducible show wpAny _ _ (exec (PySem.Stmt.While _ _ _ _) _) _ _ _)); first | (k_unfold; (try dsimp only)) | walk1 | (dsimp only; walk1)))
              all_goals exact stepP_on rfl (by assumption) rfl (fun y hy => by first | exact if_neg hy | exact (if_neg hy).trans (if_neg hy) | simp [hy]) (by assumption)
            · omega
            · omega
          · intro t₅ h₅ tk₅ F₅ N₅
            clear FF NN
            refine post_named ?_
            intro kK kL
            rcases upto_cases 10 r₂ (upto 10 r₂) (Nat.le_refl _) with ⟨q, _⟩ | ⟨_, q⟩ | ⟨_, r', hd5⟩
            · omega
            · have hlt6 : ¬ (i + 1) + upto 10 r₂ < cs.length := by omega
              repeat' (first | ((fail_if_success (with_reducible show wpAny _ _ (exec (PySem.Stmt.While _ _ _ _) _) _ _ _)); first | (k_unfold; (try dsimp only)) | walk1 | (dsimp only; walk1)))
              all_goals exact offP_on rfl (by assumption) (by assumption)
            · have hd6 : cs.drop ((i + 1) + upto 10 r₂) = 10 :: r' := by rw [← List.drop_drop, hnx₂]; exact hd5
              have hlt6 := lt_of_drop hd6
              have e1 : (tx [10] == Str.ofString "\n") = true := by rw [nlS]; decide +kernel
              repeat' (first | ((fail_if_success (with_reducible show wpAny _ _ (exec (PySem.Stmt.While _ _ _ _) _) _ _ _)); first | (k_unfold; (try dsimp only)) | walk1 | (dsimp only; walk1)))
              all_goals exact offP_on rfl (by assumption) (by assumption)
          clear FF NN
          intro t₅ h₅ tk₅ F₅ N₅
          repeat' (first | ((fail_if_success (with_reducible show wpAny _ _ (exec (PySem.Stmt.While _ _ _ _) _) _ _ _)); first | (k_unfold; (try dsimp only)) | walk1 | (dsimp only; walk1)))
          exact wstep_on (i + 1 + upto 10 r₂ + 1) (tok) rfl (by assumption) rfl rfl (fun y h1 h2 => by first | exact (if_neg h1).trans (if_neg h2) | exact (if_neg h2).trans ((if_neg h1).trans (if_neg h2)) | exact (if_neg h1).trans ((if_neg h2).trans ((if_neg h1).trans (if_neg h2))) | exact (if_neg h2).trans ((if_neg h1).trans ((if_neg h1).trans (if_neg h2))) | exact (if_neg h1).trans ((if_neg h1).trans (if_neg h2)) | simp [h1, h2]) (by assumption) (by omega) (by omega) (by (try simp only [List.length_append, List.length_cons, List.length_nil]); omega) hW₂
      clear FF NN
      intro ti tt h₅ tk₅ F₅ N₅
      repeat' (first | ((fail_if_success (with_reducible show wpAny _ _ (exec (PySem.Stmt.While _ _ _ _) _) _ _ _)); first | (k_unfold; (try dsimp only)) | walk1 | (dsimp only; walk1)))
      exact lrJ_on (k₂) (done ++ [t₂]) (vals ++ [_]) rfl (by assumption) (by assumption) (by omega) rfl rfl rfl rfl rfl (by rw [List.map_append]; exact StrsAre.append' hvals (.cons _ _ .nil)) (hr2) (by rw [← hall]; simp) (by omega)
    | fin hd1 =>
      repeat' (first | ((fail_if_success (with_reducible show wpAny _ _ (exec (PySem.Stmt.While _ _ _ _) _) _ _ _)); first | (k_unfold; (try dsimp only)) | walk1 | (dsimp only; walk1)))
      rw [List.append_nil] at hall
      subst hall
      exact .inl ⟨rfl, rfl, _, _, _, _, _, _, rfl, by assumption, rfl, rfl, rfl, by assumption, hvals⟩
  · rintro fl s' (⟨rfl, he, h', tk, m', vals, c, t1, rfl, F₈, h1, h2, h3, N₈, hv⟩ | ⟨he, tp, h', tk, m', vals, c, t1, t2, rfl, rfl, F₈, N₈, hv⟩)
    · have hl : (tx cs).length = cs.length := tx_length cs
      have F₉ := fr_at5 F₈ h1 h2 h3 h1 h1
      clear F₈
      repeat' (first | ((fail_if_success (with_reducible show wpAny _ _ (exec (PySem.Stmt.While _ _ _ _) _) _ _ _)); first | (k_unfold; (try dsimp only)) | walk1 | (dsimp only; walk1)))
      refine k _ _ _ _ _ _ _ _ (by assumption) (by assumption) nn hv (.inl ⟨he, rfl, ?_⟩)
      exact ⟨_, by rw [tx_length]⟩
    · repeat' (first | ((fail_if_success (with_reducible show wpAny _ _ (exec (PySem.Stmt.While _ _ _ _) _) _ _ _)); first | (k_unfold; (try dsimp only)) | walk1 | (dsimp only; walk1)))
      refine k _ _ _ _ _ _ _ _ (by assumption) (by assumption) nn hv (.inr ⟨he, ⟨_, rfl⟩, ?_⟩)
      exact ⟨_, rfl⟩
end
end
section
/-- the line's number when the first k signs are read (a comment's missing line end counts) -/
noncomputable def lnAt (cs : List Nat) (k : Nat) : Int := 1 + (((cs.take k).count 10 : Nat) : Int) + ((k - cs.length : Nat) : Int)

structure Kinds (S : Sets) (kd : Nat → Nat) (cs : List Nat) : Prop where
  of : ∀ c ∈ cs, (kd c = 1 ∧ c ∈ S.ws) ∨ (kd c = 2 ∧ c ∉ S.ws ∧ c ∈ S.cm) ∨ (kd c = 4 ∧ c ∉ S.ws ∧ c ∉ S.cm ∧ c ∈ S.wc) ∨
    (kd c = 8 ∧ c ∉ S.ws ∧ c ∉ S.cm ∧ c ∉ S.wc ∧ c ∈ S.qs) ∨ (kd c = 0 ∧ c ∉ S.ws ∧ c ∉ S.cm ∧ c ∉ S.wc ∧ c ∉ S.qs)
  n1 : 32 ∉ S.qs

theorem mem_of_drop {cs r : List Nat} {k c : Nat} (h : cs.drop k = c :: r) : c ∈ cs := List.mem_of_mem_drop (h ▸ List.mem_cons_self)
theorem ln_next {cs r : List Nat} {k c : Nat} (h : cs.drop k = c :: r) : lnAt cs (k + 1) = lnAt cs k + nl (c :: r) := by
  have h1 := lt_of_drop h
  have h2 : cs.take (k + 1) = cs.take k ++ [c] := by
    rw [List.take_add_one, ← List.head?_drop, h]; rfl
  unfold lnAt nl
  rw [h2, List.count_append]
  simp only [List.head?_cons, Option.some.injEq, List.count_singleton]
  have e1 : k + 1 - cs.length = 0 := by omega
  have e2 : k - cs.length = 0 := by omega
  rw [e1, e2]
  by_cases q : c = 10
  · simp [q]; omega
  · simp [q]
theorem ln_end {cs : List Nat} {k : Nat} (h : cs.length ≤ k) : lnAt cs (k + 1) = lnAt cs k + 1 := by
  unfold lnAt
  rw [List.take_of_length_le h, List.take_of_length_le (Nat.le_succ_of_le h)]
  omega

theorem line_upto : ∀ r : List Nat, lineLen r = if upto 10 r < r.length then upto 10 r + 1 else upto 10 r
  | [] => rfl
  | c :: t => by
    unfold lineLen
    by_cases q : c = 10
    · have h1 : upto 10 (c :: t) = 0 := by unfold upto; rw [List.takeWhile_cons]; simp [q]
      rw [if_pos q, h1]; simp
    · have h1 : upto 10 (c :: t) = upto 10 t + 1 := by unfold upto; rw [List.takeWhile_cons]; simp [q]
      rw [if_neg q, h1, line_upto t]
      simp only [List.length_cons]
      split <;> split <;> omega

/-- a run over the first n signs of which none is a line's end -/
theorem ln_comment {cs : List Nat} : ∀ (r : List Nat) (k : Nat), cs.drop k = r → k ≤ cs.length → lnAt cs (k + upto 10 r + 1) = lnAt cs k + 1
  | [], k, h, hk => by
    have h1 : cs.length ≤ k := by have := congrArg List.length h; simp at this; omega
    have h2 : upto 10 ([] : List Nat) = 0 := rfl
    rw [h2, Nat.add_zero]
    exact ln_end h1
  | c :: t, k, h, hk => by
    by_cases q : c = 10
    · have h1 : upto 10 (c :: t) = 0 := by unfold upto; rw [List.takeWhile_cons]; simp [q]
      rw [h1, Nat.add_zero, ln_next h]
      simp [nl, q]
    · have h1 : upto 10 (c :: t) = upto 10 t + 1 := by unfold upto; rw [List.takeWhile_cons]; simp [q]
      have h2 := ln_next h
      have h3 : nl (c :: t) = 0 := by simp [nl, q]
      have h4 := ln_comment t (k + 1) (drop_next h) (lt_of_drop h)
      rw [h1, show k + (upto 10 t + 1) + 1 = k + 1 + upto 10 t + 1 by omega, h4, h2, h3]
      omega

theorem drop_comment {cs r : List Nat} {k c : Nat} (h : cs.drop k = c :: r) : cs.drop (k + 1 + upto 10 r + 1) = r.drop (lineLen r) := by
  have h1 := drop_next h
  rw [show k + 1 + upto 10 r + 1 = k + 1 + (upto 10 r + 1) by omega, ← List.drop_drop, h1, line_upto]
  split
  · rfl
  · have := upto_le 10 r
    rw [List.drop_of_length_le (by omega), List.drop_of_length_le (by omega)]

theorem quote_run {S : Sets} {cs : List Nat} {q : Nat} (hq : q ∈ S.qs) (hn : q ≠ 32) : ∀ (r : List Nat) (k : Nat) (tok : List Nat), cs.drop k = r → upto q r < r.length →
    Run S (some q) tok r (lnAt cs k) (.tok (tok ++ r.take (upto q r + 1)) (some 32) (r.drop (upto q r + 1)) (lnAt cs (k + upto q r + 1)) none)
  | [], k, tok, h, hk => absurd hk (Nat.not_lt_zero _)
  | c :: t, k, tok, h, hk => by
    by_cases e : c = q
    · subst e
      have h1 : upto c (c :: t) = 0 := by unfold upto; rw [List.takeWhile_cons]; simp
      rw [h1, Nat.add_zero, ln_next h]
      exact .q_shut hq hn
    · have h1 : upto q (c :: t) = upto q t + 1 := by unfold upto; rw [List.takeWhile_cons]; simp [e]
      rw [h1] at hk ⊢
      have h2 := quote_run hq hn t (k + 1) (tok ++ [c]) (drop_next h) (by simp only [List.length_cons] at hk; omega)
      refine .q_on hq hn e ?_
      rw [← ln_next h]
      rw [List.append_assoc, show k + 1 + upto q t + 1 = k + (upto q t + 1) + 1 by omega] at h2
      exact h2

theorem quote_err {S : Sets} {cs : List Nat} {q : Nat} (hq : q ∈ S.qs) (hn : q ≠ 32) : ∀ (r : List Nat) (k : Nat) (tok : List Nat), cs.drop k = r → k ≤ cs.length → upto q r = r.length →
    Run S (some q) tok r (lnAt cs k) (.err [] (lnAt cs cs.length))
  | [], k, tok, h, hk, _ => by
    have h1 : cs.length ≤ k := by have := congrArg List.length h; simp at this; omega
    rw [show k = cs.length by omega]
    exact .q_end hq hn
  | c :: t, k, tok, h, hk, hu => by
    by_cases e : c = q
    · have h1 : upto q (c :: t) = 0 := by unfold upto; rw [List.takeWhile_cons]; simp [e]
      rw [h1] at hu; cases hu
    · have h1 : upto q (c :: t) = upto q t + 1 := by unfold upto; rw [List.takeWhile_cons]; simp [e]
      rw [h1] at hu
      refine .q_on hq hn e ?_
      rw [← ln_next h]
      exact quote_err hq hn t (k + 1) _ (drop_next h) (lt_of_drop h) (by simp only [List.length_cons] at hu; omega)

noncomputable def WEnd (kd : Nat → Nat) (whole : Bool) (cs : List Nat) (k' : Nat) (t' : List Nat) (R : Res) : Prop :=
  (R = .tok t' none [] (lnAt cs k') none ∧ cs.length ≤ k') ∨ (∃ c r, cs.drop k' = c :: r ∧ kd c = 1 ∧ R = .tok t' (some 32) r (lnAt cs (k' + 1)) none) ∨
  (∃ c r, cs.drop k' = c :: r ∧ kd c = 0 ∧ whole = false ∧ R = .tok t' (some 32) r (lnAt cs (k' + 1)) (some c))

theorem word_run {S : Sets} {kd : Nat → Nat} {cs : List Nat} (Z : Kinds S kd cs) : ∀ (n k : Nat) (t : List Nat), n = cs.length + 1 - k → k ≤ cs.length + 1 → t ≠ [] →
    ∃ k' t' R, Word kd S.whole cs k t k' t' ∧ Run S (some 97) t (cs.drop k) (lnAt cs k) R ∧ WEnd kd S.whole cs k' t' R ∧ t' ≠ [] ∧ k ≤ k' ∧ k' ≤ cs.length + 1 ∧ t'.length + k ≤ t.length + k' := by
  intro n
  induction n using Nat.strongRecOn with
  | ind n ih =>
    intro k t hn hk ht
    cases hd : cs.drop k with
    | nil =>
      have h1 : cs.length ≤ k := by have := congrArg List.length hd; simp at this; omega
      exact ⟨k, t, _, .fin h1, .a_end ht, .inl ⟨rfl, h1⟩, ht, Nat.le_refl _, hk, Nat.le_refl _⟩
    | cons c r =>
      have hlt := lt_of_drop hd
      have hln := len_of_drop hd
      have hnx := drop_next hd
      have hl1 := ln_next hd
      have dec : ∀ j, k < j → cs.length + 1 - j < n := fun j hj => by rw [hn]; exact Nat.sub_lt_sub_left (Nat.lt_of_lt_of_le hlt (Nat.le_succ _)) hj
      have step : ∀ (_ : kd c = 4 ∨ kd c = 8 ∨ (kd c = 0 ∧ S.whole = true)) , (∀ R, Run S (some 97) (t ++ [c]) r (lnAt cs k + nl (c :: r)) R → Run S (some 97) t (c :: r) (lnAt cs k) R) →
          ∃ k' t' R, Word kd S.whole cs k t k' t' ∧ Run S (some 97) t (c :: r) (lnAt cs k) R ∧ WEnd kd S.whole cs k' t' R ∧ t' ≠ [] ∧ k ≤ k' ∧ k' ≤ cs.length + 1 ∧ t'.length + k ≤ t.length + k' := by
        intro hkd hr
        obtain ⟨k', t', R, a1, a2, a3, a4, a5, a6, a7⟩ := ih _ (dec _ (Nat.lt_succ_self k)) (k + 1) (t ++ [c]) rfl (Nat.succ_le_succ (Nat.le_of_lt hlt)) (by simp)
        rw [hnx, hl1] at a2
        refine ⟨k', t', R, ?_, hr R a2, a3, a4, by omega, a6, by simp only [List.length_append, List.length_cons, List.length_nil] at a7; omega⟩
        rcases hkd with h | h | ⟨h, hw⟩
        · exact .add4 hd h a1
        · exact .add8 hd h a1
        · exact .add0 hd h hw a1
      rcases Z.of c (mem_of_drop hd) with ⟨h0, h1⟩ | ⟨h0, h1, h2⟩ | ⟨h0, h1, h2, h3⟩ | ⟨h0, h1, h2, h3, h4⟩ | ⟨h0, h1, h2, h3, h4⟩
      · exact ⟨k, t, _, .white hd h0, .a_ws ht h1, .inr (.inl ⟨c, r, hd, h0, by rw [hl1]⟩), ht, Nat.le_refl _, hk, Nat.le_refl _⟩
      · have hup := upto_le 10 r
        obtain ⟨k', t', R, a1, a2, a3, a4, a5, a6, a7⟩ := ih _ (dec _ (by clear hn ih hl1 hnx hln hlt hk; omega)) (k + 1 + upto 10 r + 1) t rfl (by omega) ht
        have hc := ln_comment r (k + 1) hnx (by omega)
        rw [drop_comment hd, hc, hl1] at a2
        exact ⟨k', t', R, .com hd h0 a1, .a_cm ht h1 h2 a2, a3, a4, by omega, a6, by omega⟩
      · exact step (.inl h0) (fun R => .a_wc ht h1 h2 h3)
      · exact step (.inr (.inl h0)) (fun R => .a_qs ht h1 h2 h3 h4)
      · cases hw : S.whole with
        | true => rw [← hw]; exact step (.inr (.inr ⟨h0, hw⟩)) (fun R => .a_all ht h1 h2 h3 h4 hw)
        | false => exact ⟨k, t, _, .one hd h0 rfl, .a_one ht h1 h2 h3 h4 hw, .inr (.inr ⟨c, r, hd, h0, rfl, by rw [hl1]⟩), ht, Nat.le_refl _, hk, Nat.le_refl _⟩

theorem toks_pre {S : Sets} {r r' : List Nat} {ln ln' lf : Int} {ts : List (List Nat)} {e : Bool} (hr : ∀ R, Run S (some 32) [] r ln R → Run S (some 32) [] r' ln' R)
    (h : Toks S (some 32) r ln none ts e lf) : Toks S (some 32) r' ln' none ts e lf := by
  cases h with
  | tok h1 h2 h3 => exact .tok (hr _ h1) h2 h3
  | stop h1 => exact .stop (hr _ h1)
  | err h1 => exact .err (hr _ h1)

/-- what is told from the position k on -/
structure Told (S : Sets) (kd : Nat → Nat) (cs : List Nat) (k : Nat) (ts : List (List Nat)) (e : Bool) (f : Nat) : Prop where
  reads : Reads kd S.whole cs k ts e f
  toks : Toks S (some 32) (cs.drop k) (lnAt cs k) none ts e (lnAt cs f)
  over : cs.length ≤ k → Toks S none [] (lnAt cs k) none ts e (lnAt cs f)
  white : ∀ c r, cs.drop k = c :: r → kd c = 1 → Toks S (some 32) r (lnAt cs (k + 1)) none ts e (lnAt cs f)
  single : ∀ c r, cs.drop k = c :: r → kd c = 0 → S.whole = false → Toks S (some 32) r (lnAt cs (k + 1)) (some c) ts e (lnAt cs f)
  len : ts.length + k ≤ cs.length + 1
  last : f ≤ cs.length + 1
  fin : e = false → cs.length ≤ f
  bad : e = true → f = cs.length

theorem told_all {S : Sets} {kd : Nat → Nat} {cs : List Nat} (Z : Kinds S kd cs) : ∀ (n k : Nat), n = cs.length + 1 - k → k ≤ cs.length + 1 → ∃ ts e f, Told S kd cs k ts e f := by
  intro n
  induction n using Nat.strongRecOn with
  | ind n ih =>
    intro k hn hk
    cases hd : cs.drop k with
    | nil =>
      have h1 : cs.length ≤ k := by have := congrArg List.length hd; simp at this; omega
      exact ⟨[], false, k, .fin h1, by rw [hd]; exact .stop .b_end, fun _ => .stop .eof, fun c r q => (by rw [hd] at q; cases q), fun c r q => (by rw [hd] at q; cases q), by simpa using hk, hk, fun _ => h1, fun q => (by cases q)⟩
    | cons c r =>
      have hlt := lt_of_drop hd
      have hln := len_of_drop hd
      have hnx := drop_next hd
      have hl1 := ln_next hd
      have dec : ∀ j, k < j → cs.length + 1 - j < n := fun j hj => by rw [hn]; exact Nat.sub_lt_sub_left (Nat.lt_of_lt_of_le hlt (Nat.le_succ _)) hj
      have nov : ∀ {P : Prop}, cs.length ≤ k → P := fun q => absurd q (by omega)
      have same : ∀ {c' : Nat} {r' : List Nat}, cs.drop k = c' :: r' → c' = c ∧ r' = r := fun q => by
        rw [hd] at q; injection q with q1 q2; exact ⟨q1.symm, q2.symm⟩
      have nw : ∀ {P : Nat → List Nat → Prop}, kd c ≠ 1 → ∀ c' r', cs.drop k = c' :: r' → kd c' = 1 → P c' r' := fun q c' r' z z' => by
        obtain ⟨rfl, rfl⟩ := same z; exact absurd z' q
      have ns : ∀ {P : Nat → List Nat → Prop}, kd c ≠ 0 → ∀ c' r', cs.drop k = c' :: r' → kd c' = 0 → S.whole = false → P c' r' := fun q c' r' z z' => by
        obtain ⟨rfl, rfl⟩ := same z; exact absurd z' q
      have nt : ∀ {P : Nat → List Nat → Prop}, S.whole = true → ∀ c' r', cs.drop k = c' :: r' → kd c' = 0 → S.whole = false → P c' r' := fun q c' r' z _ z' => by
        rw [q] at z'; cases z'
      have word : (kd c = 4 ∨ (kd c = 0 ∧ S.whole = true)) → (∀ R, Run S (some 97) [c] r (lnAt cs k + nl (c :: r)) R → Run S (some 32) [] (c :: r) (lnAt cs k) R) → ∃ ts e f, Told S kd cs k ts e f := by
        intro hkd hr
        obtain ⟨k', t', R, a1, a2, a3, a4, a5, a6, a7⟩ := word_run Z _ (k + 1) [c] rfl (by omega) (by simp)
        obtain ⟨ts, e, f, T⟩ := ih _ (dec _ a5) k' rfl a6
        rw [hnx, hl1] at a2
        have hr2 := hr R a2
        simp only [List.length_cons, List.length_nil] at a7
        have htk : Toks S (some 32) (c :: r) (lnAt cs k) none (t' :: ts) e (lnAt cs f) := by
          rcases a3 with ⟨rfl, b1⟩ | ⟨c', r', b1, b2, rfl⟩ | ⟨c', r', b1, b2, b3, rfl⟩
          · exact .tok hr2 a4 (T.over b1)
          · exact .tok hr2 a4 (T.white c' r' b1 b2)
          · exact .tok hr2 a4 (T.single c' r' b1 b2 b3)
        have hlen : (t' :: ts).length + k ≤ cs.length + 1 := by have := T.len; simp only [List.length_cons]; omega
        have hkk : k < k' := a5
        have hkt : t'.length ≤ cs.length + 1 := by clear hlen htk hr2 hr hl1 hnx hln hlt ih hn; omega
        rcases hkd with h | ⟨h, hw⟩
        · exact ⟨t' :: ts, e, f, .word4 hd h a1 hkk a6 hkt T.reads, by rw [hd]; exact htk, nov, nw (by rw [h]; decide), ns (by rw [h]; decide), hlen, T.last, T.fin, T.bad⟩
        · exact ⟨t' :: ts, e, f, .word0 hd h hw a1 hkk a6 hkt T.reads, by rw [hd]; exact htk, nov, nw (by rw [h]; decide), nt hw, hlen, T.last, T.fin, T.bad⟩
      rcases Z.of c (mem_of_drop hd) with ⟨h0, h1⟩ | ⟨h0, h1, h2⟩ | ⟨h0, h1, h2, h3⟩ | ⟨h0, h1, h2, h3, h4⟩ | ⟨h0, h1, h2, h3, h4⟩
      · obtain ⟨ts, e, f, T⟩ := ih _ (dec _ (Nat.lt_succ_self k)) (k + 1) rfl (Nat.succ_le_succ (Nat.le_of_lt hlt))
        have t1 := T.toks
        rw [hnx] at t1
        refine ⟨ts, e, f, .white hd h0 T.reads, ?_, nov, ?_, ns (by rw [h0]; decide), by have := T.len; omega, T.last, T.fin, T.bad⟩
        · rw [hd]; rw [hl1] at t1; exact toks_pre (fun R => .b_ws h1) t1
        · intro c' r' z _; obtain ⟨rfl, rfl⟩ := same z; exact t1
      · have hup := upto_le 10 r
        obtain ⟨ts, e, f, T⟩ := ih _ (dec _ (by clear hn ih hl1 hnx hln hlt hk; omega)) (k + 1 + upto 10 r + 1) rfl (by omega)
        have t1 := T.toks
        have hc := ln_comment r (k + 1) hnx (by omega)
        rw [drop_comment hd, hc, hl1] at t1
        refine ⟨ts, e, f, .com hd h0 T.reads, ?_, nov, nw (by rw [h0]; decide), ns (by rw [h0]; decide), by have := T.len; omega, T.last, T.fin, T.bad⟩
        rw [hd]; exact toks_pre (fun R => .b_cm h1 h2) t1
      · exact word (.inl h0) (fun R => .b_wc h1 h2 h3)
      · have hq : c ≠ 32 := fun z => Z.n1 (z ▸ h4)
        have hup := upto_le c r
        by_cases hu : upto c r < r.length
        · obtain ⟨ts, e, f, T⟩ := ih _ (dec _ (by clear hn ih hl1 hnx hln hlt hk; omega)) (k + 1 + upto c r + 1) rfl (by omega)
          have hr := quote_run h4 hq r (k + 1) [c] hnx hu
          have t1 := T.toks
          rw [show k + 1 + upto c r + 1 = k + 1 + (upto c r + 1) by omega, ← List.drop_drop, hnx] at t1
          rw [hl1] at hr
          refine ⟨(c :: r.take (upto c r + 1)) :: ts, e, f, .quote hd h0 hu T.reads, ?_, nov, nw (by rw [h0]; decide), ns (by rw [h0]; decide), by have := T.len; simp only [List.length_cons]; omega, T.last, T.fin, T.bad⟩
          rw [hd]
          exact .tok (.b_qs h1 h2 h3 h4 hr) (by simp) t1
        · have hr := quote_err h4 hq r (k + 1) [c] hnx (by omega) (by omega)
          rw [hl1] at hr
          refine ⟨[], true, cs.length, .unshut hd h0 (by omega), ?_, nov, nw (by rw [h0]; decide), ns (by rw [h0]; decide), by simpa using hk, by omega, fun q => (by cases q), fun _ => rfl⟩
          rw [hd]
          exact .err (.b_qs h1 h2 h3 h4 hr)
      · cases hw : S.whole with
        | true => exact word (.inr ⟨h0, hw⟩) (fun R => .b_all h1 h2 h3 h4 hw)
        | false =>
          obtain ⟨ts, e, f, T⟩ := ih _ (dec _ (Nat.lt_succ_self k)) (k + 1) rfl (Nat.succ_le_succ (Nat.le_of_lt hlt))
          have t1 := T.toks
          rw [hnx] at t1
          refine ⟨[c] :: ts, e, f, .one hd h0 hw T.reads, ?_, nov, nw (by rw [h0]; decide), ?_, by have := T.len; simp only [List.length_cons]; omega, T.last, T.fin, T.bad⟩
          · rw [hd]; rw [hl1] at t1; exact .tok (.b_one h1 h2 h3 h4 hw) (by simp) t1
          · intro c' r' z _ _; obtain ⟨rfl, rfl⟩ := same z; exact .push t1
end
section
open PySem.Builtin
theorem mro_deque : mroOf (.type "collections.deque") = pure [.type "collections.deque", .type "object"] := by rw [mroOf_type]; kernel_rfl
theorem lookup_deque_new : typeLookup (.type "collections.deque") "__new__" = pure (some (.builtin "collections.deque.__new__")) := by rw [typeLookup_type, builtinLookup_eq_fast]; kernel_rfl
theorem slot_deque_init : Slot "collections.deque" "__init__" "collections.deque.__init__" :=
  .of (owner := "collections.deque") (n := "__init__") (by rw [typeLookup_type, builtinLookup_eq_fast]; kernel_rfl) (by decide +kernel) (by decide +kernel) (by decide +kernel)
    (by first | exact .inl (by decide +kernel) | exact .inr (by decide +kernel)) (by rw [isSubtype_type]; kernel_rfl)
theorem called_deque : TypeCalled "collections.deque" "collections.deque.__new__" "collections.deque.__init__" :=
  ⟨by decide +kernel, by decide +kernel, ⟨_, _, mro_deque⟩, madeBy_type mro_deque lookup_deque_new (by decide +kernel), by decide +kernel, by rw [isSubtype_type]; kernel_rfl, slot_deque_init⟩
theorem typeCall_deque : checkTypeCall "collections.deque" ⟨[], []⟩ = pure () := by kernel_rfl
theorem newCall_deque : checkBuiltinCall "collections.deque.__new__" ⟨[.type "collections.deque"], []⟩ = pure () := by kernel_rfl
theorem entry_deque_new : entryFor table "collections.deque.__new__" = some Builtin.«collections.deque.__new__» := entryFor_of_tree (by kernel_rfl)
theorem entry_deque_init : entryFor table "collections.deque.__init__" = some Builtin.«collections.deque.__init__» := entryFor_of_tree (by kernel_rfl)
theorem plain_deque_new : plainId "collections.deque.__new__" = true := by decide +kernel
theorem sub_deque : isSubtype (.type "collections.deque") (.type "collections.deque") = pure true := by rw [isSubtype_type]; kernel_rfl
theorem args_deque_init (a : Value) : argsOk "collections.deque.__init__" ⟨[a], []⟩ := by unfold argsOk; kernel_rfl
theorem hasDict_deque : typeHasDict (.type "collections.deque") = false := by decide +kernel
section
variable {prog : Program} {w : World} {A : Around} {E : Value → Shared → Prop} {s : Shared} {h₀ : Heap} {L : Addr} {m : Str → Option Value} {news : List (Addr × Obj)}
theorem code_deque_new {Q₁ : Value → Shared → Prop} (h : Q₁ (.ref s.heap.objs.size) { s with heap := s.heap.push (deqObj [] 0) }) :
    codeAny (model prog w) A (.call (.builtin "collections.deque.__new__") ⟨[.type "collections.deque"], []⟩) (wants Q₁ E) s := by
  refine codeAny_call_builtin plain_deque_new entry_deque_new (wpAny_of_eq newCall_deque ?_)
  have hsub := sub_deque
  have hmro := mro_deque
  obtain ⟨hp, g, d, tk, os⟩ := s
  unfold Builtin.«collections.deque.__new__» Deque.newArgs Deque.new
  wp_walk
  refine wpAny_of_eq sub_deque (wpAny_pure ?_)
  simp only [Bool.not_true, Bool.false_eq_true, if_false]
  wp_walk
  exact h
theorem deque_call {Q : Value → Shared → Prop} (F : Fr h₀ L s.heap m) (N : News h₀ L s.heap news)
    (h : ∀ D h', Fr h₀ L h' m → News h₀ L h' ((D, deqObj [] 0) :: news) → (∀ p ∈ news, p.1 < D) → Q (.ref D) { s with heap := h' }) :
    wpAny (model prog w) A (call (.type "collections.deque") []) Q E s := by
  refine callType_codes (Q₁ := fun obj s₁ => obj = .ref s.heap.objs.size ∧ s₁ = { s with heap := s.heap.push (deqObj [] 0) }) called_deque typeCall_deque entry_deque_init (code_deque_new ⟨rfl, rfl⟩) ?_
  rintro obj s₁ ⟨rfl, rfl⟩
  have ho : (s.heap.push (deqObj [] 0)).get? s.heap.objs.size = some (deqObj [] 0) := by heap_get
  refine ⟨⟨_, ho, rfl⟩, args_deque_init _, ?_⟩
  have F' := F.push (deqObj [] 0)
  have N' := N.push F (deqObj [] 0)
  have k := h s.heap.objs.size _ F' N' (fun p hp => Heap.lt_size (N p hp).1)
  unfold Builtin.«collections.deque.__init__»
  dsimp only
  rw [if_neg (by decide)]
  simp only [List.length_nil, List.take_zero, List.zipIdx_nil, List.forIn_nil]
  refine wpAny_bind (wpAny_pure ?_)
  refine wpAny_bind (wpAny_pure ?_)
  show wpAny _ _ (pure Value.none >>= _) _ _ _
  refine wpAny_bind (wpAny_pure ?_)
  refine wpAny_bind (wpAny_setField_rec ho (by decide) fun h' ho' hs => ?_)
  have ho2 : h'.get? s.heap.objs.size = some (deqObj [] 0) := ho'
  have F'' := F'.change hs (N' _ (.head _)).2.1 (N' _ (.head _)).2.2
  have N'' := news_set (pre := []) (post := news) N' (fun _ q => nomatch q) (fun p hp => Nat.ne_of_lt (Heap.lt_size (N p hp).1)) hs ho2
  have k := h s.heap.objs.size _ F'' N'' (fun p hp => Heap.lt_size (N p hp).1)
  refine wpAny_bind ?_
  unfold Deque.clear
  refine wpAny_bind (deq_items ho2 ?_)
  rw [if_neg (by decide)]
  refine wpAny_pure ?_
  exact wpAny_pure ⟨rfl, k⟩
end
end
section
open PySem.Builtin
section
variable {prog : Program} {w : World} {h : Heap}
theorem k587_made (X : (hd0.heap_1_39 w.params).In h) : Looks (model prog w) h (Bind.madeBy (.ref 587)) none := Looks.of_peek X (by with_unfolding_all rfl)
theorem k587_here (X : (hd0.heap_1_39 w.params).In h) : Looks (model prog w) h (Bind.madeHere "object.__new__" (.ref 587)) () := Looks.of_peek X (by with_unfolding_all rfl)
theorem k587_self (X : (hd0.heap_1_39 w.params).In h) : Looks (model prog w) h (isSubtype (.ref 587) (.ref 587)) true := Looks.of_peek X (by with_unfolding_all rfl)
theorem k587_call (X : (hd0.heap_1_39 w.params).In h) : Looks (model prog w) h (specialOf (.ref 587) "__call__") (some (.builtin "type.__call__")) := looks_specialIn X (by with_unfolding_all rfl)
theorem k587_typ (X : (hd0.heap_1_39 w.params).In h) : Looks (model prog w) h (isInstance (.ref 587) (.type "type")) true := looks_instIn X (by with_unfolding_all rfl)
theorem k587_init (X : (hd0.heap_1_39 w.params).In h) : Looks (model prog w) h (typeLookup (.ref 587) "__init__") (some (.ref 357)) := looks_findIn X (by with_unfolding_all rfl)
theorem k587_mro (X : (hd0.heap_1_39 w.params).In h) : Looks (model prog w) h (mroOf (.ref 587)) [.ref 587, .ref 110, .ref 83, .type "object"] := Looks.of_peek X (by with_unfolding_all rfl)
theorem k587_top {h : Heap} (X : (hd0.heap_1_39 w.params).In h) : Looks (model prog w) h (isSubtype (.ref 587) (.type "object")) true := Looks.of_peek X (by with_unfolding_all rfl)
theorem k587_base {h : Heap} (X : (hd0.heap_1_39 w.params).In h) : Looks (model prog w) h (Bind.staticBase (.ref 587)) (.type "object") := Looks.of_peek X (by with_unfolding_all rfl)
theorem kobj_made {h : Heap} (X : (hd0.heap_1_39 w.params).In h) : Looks (model prog w) h (Bind.madeBy (.type "object")) (some "object.__new__") := Looks.of_peek X (by with_unfolding_all rfl)
theorem k357_fn : typeIn (hd0.heap_1_39 w.params) (.ref 357) = some (.type "function") := by with_unfolding_all rfl
theorem k587_cls : ∃ cd, clsIn (hd0.heap_1_39 w.params) 587 = some cd := ⟨_, by with_unfolding_all rfl⟩
end
section
variable {prog : Program} {w : World} {A : Around} {s : Shared} {h₀ : Heap} {L : Addr} {m : Str → Option Value} {news : List (Addr × Obj)} {R : Result → Shared → Prop} {rest : List Value} {kw : List (Str × Value)}
noncomputable def OwnBack (prog : Program) (w : World) (A : Around) (rest : List Value) (kw : List (Str × Value)) (R : Result → Shared → Prop) (r : Result) (s' : Shared) : Prop := match r with
  | .ok (.ret v) => ∃ x dx, v = .ref x ∧ s'.heap.get? x = some (instObj 587 dx) ∧ (hd0.heap_1_39 w.params).In s'.heap ∧ codeAny (model prog w) A (.call (.ref 357) ⟨.ref x :: rest, kw⟩) (InitBack x R) s'
  | .ok _ => False
  | .error e => R (.error e) s'

theorem own_make (F : Fr h₀ L s.heap m) (X₀ : (hd0.heap_1_39 w.params).In h₀) (hcls : ∃ o cd, s.heap.get? 587 = some o ∧ o.data = .cls cd)
    (h : codeAny (model prog w) (A.under (.builtin "type.__call__" ⟨.ref 587 :: rest, kw⟩)) (.call (.ref 80) ⟨.ref 587 :: rest, kw⟩) (OwnBack prog w (A.under (.builtin "type.__call__" ⟨.ref 587 :: rest, kw⟩)) rest kw R) { s with toks := s.toks + 1 }) :
    codeAny (model prog w) A (.call (.ref 587) ⟨rest, kw⟩) R s := by
  have X := X₀.keeps F.keep
  obtain ⟨⟨oc, od, da, sl⟩, cd, hC, hcd⟩ := hcls
  dsimp only at hcd
  subst hcd
  have made := k587_made (prog := prog) X
  have self := k587_self (prog := prog) X
  have call' := k587_call (prog := prog) X
  have typ := k587_typ (prog := prog) X
  have hi := k587_init (prog := prog) X
  have hm := k587_mro (prog := prog) X
  refine codeAny_of_tree ?_
  show wpAny _ _ (callAny (.ref 587) _) _ _ _
  refine nd_load hC ?_
  show wpAny _ _ (callAny.viaDunder (.ref 587) _) _ _ _
  unfold callAny.viaDunder
  refine wpAny_bind (call'.here ?_)
  dsimp only
  rw [tc_bind]
  refine wpAny_bind (wpAny_pure (wpAny_bind (wpAny_pure ?_)))
  refine wpAny_pure (a := Fin.again (.call (.builtin "type.__call__") ⟨.ref 587 :: rest, kw⟩)) (And.intro rfl ?_)
  refine codeAny_call_builtin_at (Code.quiet_builtin _ (by decide +kernel)) entry_typeCall (check_slot tc_kind tc_split typ (tc_args _ _ _) ?_)
  unfold Builtin.«type.__call__»
  repeat (first | ((fail_if_success (with_reducible show wpAny _ _ (getAttr _ _ _) _ _ _)); first | simp only [Bool.false_eq_true, if_false, List.isEmpty_cons] | lk))
  refine cls_sm (mc := .type "type") (p := 84) (f := .ref 80) (rest := []) F X₀ (by with_unfolding_all rfl) (by with_unfolding_all rfl) (by with_unfolding_all rfl) (by with_unfolding_all rfl) rfl ?_
  refine wpAny_bind (wpAny_holding (wpAny_call (codeAny_mono h fun r s' z => ?_)))
  rcases r with e | (v | _ | _ | _) <;> first | exact z | exact z.elim | skip
  obtain ⟨x, dx, rfl, hx, X', hq⟩ := z
  have t1 : Looks (model prog w) s'.heap (typeOf (.ref x)) (.ref 587) := (Looks.ld hx).andThen .now
  have s1 := k587_self (prog := prog) X'
  have i1 := k587_init (prog := prog) X'
  have b1 : Looks (model prog w) s'.heap (bindSpecial (.ref 357) (.ref x)) (.ref 357, [.ref x]) := bind_fn X' _ k357_fn
  clear made self call' typ hi hm
  unfold isInstance callSpecial? specialOf
  repeat (first | with_reducible refine wpAny_call ?_ | lk)
  refine codeAny_mono hq fun r s₃ z => ?_
  rcases r with e | (v | _ | _ | _) <;> first | exact z | exact z.elim | skip
  obtain ⟨rfl, z⟩ := z
  exact wpAny_pure (wpAny_pure z)
theorem own_new (F : Fr h₀ L s.heap m) (N : News h₀ L s.heap news) (X₀ : (hd0.heap_1_39 w.params).In h₀)
    (hcls : ∃ oc od cd sl, s.heap.get? 587 = some ⟨oc, od, .cls cd, sl⟩ ∧ cd.abstract = false ∧ cd.hasDel = false)
    (h : ∀ x dx h', Fr h₀ L h' m → News h₀ L h' ((x, instObj 587 dx) :: (dx, dictOf [] 0) :: news) → (∀ p ∈ news, p.1 < dx) → dx < x → R (.ok (.ret (.ref x))) { s with heap := h' }) :
    codeAny (model prog w) A (.call (.builtin "object.__new__") ⟨[.ref 587], []⟩) R s := by
  have X := X₀.keeps F.keep
  obtain ⟨hh, g, d, t, os⟩ := s
  obtain ⟨oc, od, cd, sl, hC, e1, e2⟩ := hcls
  have here := k587_here (prog := prog) X
  have typ := k587_typ (prog := prog) X
  have made := k587_made (prog := prog) X
  have top := k587_top (prog := prog) X
  have base := k587_base (prog := prog) X
  have madeO := kobj_made (prog := prog) X
  have FN := PySem.F.objNew
  have N' := (N.push F emptyDict).push (F.push _) (instObj 587 hh.objs.size)
  rw [Heap.size_push] at N'
  have hq := h (hh.objs.size + 1) hh.objs.size _ ((F.push _).push _) N' (fun p hp => Heap.lt_size (N p hp).1) (Nat.lt_succ_self _)
  refine codeAny_call_builtin_code (Code.quiet_builtin _ FN.quiet) ?_
  simp only [checkBuiltinCall, FN.kind, FN.split, FN.row]
  have args : Bind.checkArgs "object.__new__" ⟨.hand, "object.__new__", "__new__", .cls, []⟩ ⟨[.ref 587], []⟩ = pure () := by kernel_rfl
  rw [args]
  repeat (first | simp only [bne_self_eq_false, Bool.false_eq_true, if_false] | lk)
  refine codeAny_builtin FN.entry ?_
  unfold Builtin.«object.__new__»
  have fin : ∀ A', wpAny (model prog w) A' (do
      let d ← if typeHasDict (.ref 587) then some <$> alloc { cls := .type "dict", data := .dict #[] } else pure none
      ret (← newObj (.ref 587) .plain d)) (fun fin s' => match fin with | .done f => R (.ok f) s' | .again c' => c'.quiet = true ∧ codeAny (model prog w) A c' R s') (fun e s' => R (.error e) s') ⟨hh, g, d, t, os⟩ := by
    intro A'
    show wpAny _ _ ((alloc emptyDict >>= fun x => pure (some x)) >>= _) _ _ _
    refine wpAny_bind (wpAny_bind (wpAny_alloc (wpAny_pure (wpAny_bind ?_))))
    show wpAny _ _ (newObjAsIs _ _ _) _ _ _
    unfold newObjAsIs classHasDel
    refine wpAny_bind (wpAny_alloc (wpAny_bind (wpAny_bind (wpAny_load (Heap.get?_push_of_some _ (Heap.get?_push_of_some _ hC)) (wpAny_pure ?_)))))
    rw [e2]
    refine wpAny_pure (wpAny_pure ?_)
    show R _ _
    rw [Heap.size_push]
    exact hq
  repeat (first | simp only [e1, Bool.false_eq_true, if_false] | exact fin _ | lk)
end
end
section
section
variable {prog : Program} {w : World} {A₀ : Around} {base h₀ : Heap} {outer : List Env} {L : Addr} {m mg mb : Str → Option Value} {env : Env} {news : List (Addr × Obj)} {p : Program} {loose : List Str} {mean : ExcName → Option Value}
  {R : Result → Shared → Prop} {s : Shared} {d u : Nat} {gs : Option (List Code)}

theorem drop_two {h₀ h : Heap} {L : Addr} {a b c d : Addr × Obj} {news : List (Addr × Obj)} (N : News h₀ L h (a :: b :: c :: d :: news)) : News h₀ L h (a :: b :: news) :=
  news_sub N (by repeat' (first | exact sub_nil | (with_reducible exact sub_same) | (with_reducible refine sub_cons ?_ ?_) | (with_reducible exact List.mem_cons_self) | (with_reducible refine List.mem_cons_of_mem _ ?_) | (with_reducible refine sub_more ?_)))
theorem k587_obj {w : World} : ∃ oc od cd sl, (hd0.heap_1_39 w.params).lookup 587 = some ⟨oc, od, .cls cd, sl⟩ ∧ cd.abstract = false ∧ cd.hasDel = false := ⟨_, _, _, _, by with_unfolding_all rfl, by with_unfolding_all rfl, by with_unfolding_all rfl⟩
theorem k587_obj_at {w : World} {h : Heap} (X : (hd0.heap_1_39 w.params).In h) : ∃ oc od cd sl, h.get? 587 = some ⟨oc, od, .cls cd, sl⟩ ∧ cd.abstract = false ∧ cd.hasDel = false := by
  obtain ⟨oc, od, cd, sl, a, b, c⟩ := k587_obj (w := w)
  exact ⟨oc, od, cd, sl, X _ _ a, b, c⟩
local macro_rules | `(tactic| walk_at "call builtin:object.__new__") => `(tactic| (refine wpAny_call (own_new (by assumption) (by assumption) (by assumption) (k587_obj_at (Frag.In.keeps (by assumption) (Fr.keep (by assumption)))) ?_); intro x1 dx1 h1 F1 N1 l3 l4; (try k_lt l3)))
noncomputable def tok3 (a b c : Tok) : Nat → Tok
  | 0 => a
  | 1 => b
  | _ => c
theorem news_swap {h₀ h : Heap} {L : Addr} {a b : Addr × Obj} {l : List (Addr × Obj)} (N : News h₀ L h (a :: b :: l)) : News h₀ L h (b :: a :: l) :=
  news_sub N (by repeat' (first | exact sub_nil | (with_reducible exact sub_same) | (with_reducible refine sub_cons ?_ ?_) | (with_reducible exact List.mem_cons_self) | (with_reducible refine List.mem_cons_of_mem _ ?_) | (with_reducible refine sub_more ?_)))
theorem sn_spec {cs : List Nat} {t : Tok}
    (B : Below A₀ base outer h₀) (F : Fr h₀ L s.heap m) (N : News h₀ L s.heap news)
    (X : (hd0.heap_1_39 w.params).In h₀) (T : Top p loose mean mg mb h₀)
    (hf : env.frame = some L) (hke : env.scope.kind = .function) (hd : d ≤ 470) (hu : u ≤ 70) (hb : cs.length ≤ 900)
    (k : ∀ x dx h' tk k0 k1 k2 tn tb tp, Fr h₀ L h' m → News h₀ L h' ((dx, dictOf (sioEs w.params (tok3 k0 k1 k2) "
" (tx cs) tn tb (.int ((0 : Nat) : Int) tp)) 3) :: (x, instObj 587 dx) :: news) → @LT.lt Nat _ dx x → (∀ q ∈ news, @LT.lt Nat _ q.1 dx) → R (.ok (.ret (.ref x))) { s with heap := h', toks := tk }) :
    codeAny (model prog w) ⟨none, d, some (env :: outer), gs, u⟩ (.call (.ref 587) ⟨[.str (tx cs) t], []⟩) R s := by
  have hl : (tx cs).length = cs.length := tx_length cs
  refine own_make F X ?_ ?_
  · obtain ⟨oc, od, cd, sl, a, _⟩ := k587_obj_at (X.keeps F.keep)
    exact ⟨_, cd, a, rfl⟩
  · (refine' kpc_both (env := env) ?k1 ?k2 ?k3 ?k4 ?k5 ?kA ?kF ?kK ?k6 ?k7 ?k8 ?kV ?kX ?kQ ?kM ?kN ?kD ?kR ?kP ?kS ?kT ?kB ?_ ?c2 ?c3 ?c4 ?c5; (case kA => exact rfl); (case kF => exact hf); (case kK => exact hke); (case k1 => k_asm); (case k2 => k_asm); (case k3 => k_asm); (case k4 => k_asm); (case k5 => k_asm); (case k6 => k_is); (case k7 => k_is); (case k8 => k_room); (case kV => kp_lit); (case kX => kp_lit); (case kQ => exact rfl); (case kM => exact rfl); (case kN => exact rfl); (case kD => kp_flats); (case kR => exact rfl); (case kP => exact rfl); (case kS => exact fun _ => rfl); (case kT => exact fun _ _ => rfl); (case kB => exact fun _ _ => locs rfl); (case c5 => decide); (case c2 => exact rfl); (case c3 => exact rfl); (case c4 => exact rfl); k_whole; intro C' D' o' g' L' h' tk' l1 l2 lo' hs' fs' FG' F' N' B' X' T'; (try k_lt l1); (try k_lt2 l2); (try dsimp only); (try k_lift B'); (try k_fold))
    iterate 30 (first | (k_unfold; (try dsimp only)) | walk1 | (dsimp only; walk1))
    rename Fr h₀ L _ _ => F5
    rename News h₀ L _ _ => N5
    refine ⟨_, _, rfl, (N5 _ (.head _)).1, X.keeps F5.keep, ?_⟩
    rename _ < _ ∧ _ < _ ∧ AllLt _ _ => l3
    rename _ < _ => l4
    have nn1 := tbn_neAll l3.2.2
    have nn2 := tbn_neAll (tbn_up l4 l3.2.2)
    have l6 : @LT.lt Nat _ _ _ := l4
    replace N5 := drop_two N5
    clear F N B' X' T'
    refine' code_def (env := env) ?k1 ?k2 ?k3 ?k4 ?k5 ?kA ?kF ?kK ?k6 ?k7 ?k8 ?k9 ?kB ?_ ?c2 ?c3 ?c4 ?c5; (case kA => exact rfl); (case kF => exact hf); (case kK => exact hke); (case k1 => k_asm); (case k2 => k_asm); (case k3 => k_asm); (case k4 => k_asm); (case k5 => k_asm); (case k6 => k_is); (case k7 => k_is); (case k8 => k_room); (case k9 => first | exact BindsTo.of_eq rfl | exact binds_K (by k_in) rfl (by k_is) rfl rfl rfl | fail "k_enter: no rule for these arguments"); (case c5 => decide); (case kB => exact locs rfl); (case c2 => exact rfl); (case c3 => exact rfl); (case c4 => exact rfl); k_whole; intro g' L' h' FG' F' N' B' X' T'; (try dsimp only); (try k_lift B'); (try k_fold); (try (refine toks_named ?_; intro tkE))
    repeat' (first | (k_unfold; (try dsimp only)) | walk1 | (dsimp only; walk1))
    rename Fr h₀ L _ _ => kF
    rename News h₀ L _ _ => kN
    exact k _ _ _ _ _ _ _ _ _ _ kF (news_swap kN) l6 (tb_ltOf l3.2.2)
end
end
section
section
variable {prog : Program} {w : World} {A₀ : Around} {base h₀ : Heap} {outer : List Env} {L : Addr} {m mg mb : Str → Option Value} {env : Env} {news : List (Addr × Obj)} {p : Program} {loose : List Str} {mean : ExcName → Option Value}
  {R : Result → Shared → Prop} {s : Shared} {d u : Nat} {gs : Option (List Code)}

noncomputable def tokL (l : List Tok) (i : Nat) : Tok := l.getD i 0
/-- a lexer's attributes, the five that a caller sets as they come -/
noncomputable abbrev lexEs0 (P : Params) (kt tv : Nat → Tok) (vcm vwc vws vsp vqs : Value) (sx pb fs : Addr) (vst vln vtok : Value) : List DictEntry :=
  [⟨PyData.keyHash P "instream", .str "instream" (kt 0), .ref sx⟩,
   ⟨PyData.keyHash P "infile", .str "infile" (kt 1), .none⟩,
   ⟨PyData.keyHash P "posix", .str "posix" (kt 2), .bool false⟩,
   ⟨PyData.keyHash P "eof", .str "eof" (kt 3), .str (tx []) (tv 3)⟩,
   ⟨PyData.keyHash P "commenters", .str "commenters" (kt 4), vcm⟩,
   ⟨PyData.keyHash P "wordchars", .str "wordchars" (kt 5), vwc⟩,
   ⟨PyData.keyHash P "whitespace", .str "whitespace" (kt 6), vws⟩,
   ⟨PyData.keyHash P "whitespace_split", .str "whitespace_split" (kt 7), vsp⟩,
   ⟨PyData.keyHash P "quotes", .str "quotes" (kt 8), vqs⟩,
   ⟨PyData.keyHash P "escape", .str "escape" (kt 9), .str (tx [92]) (tv 9)⟩,
   ⟨PyData.keyHash P "escapedquotes", .str "escapedquotes" (kt 10), .str "\"" (tv 10)⟩,
   ⟨PyData.keyHash P "state", .str "state" (kt 11), vst⟩,
   ⟨PyData.keyHash P "pushback", .str "pushback" (kt 12), .ref pb⟩,
   ⟨PyData.keyHash P "lineno", .str "lineno" (kt 13), vln⟩,
   ⟨PyData.keyHash P "debug", .str "debug" (kt 14), .int 0 (tv 14)⟩,
   ⟨PyData.keyHash P "token", .str "token" (kt 15), vtok⟩,
   ⟨PyData.keyHash P "filestack", .str "filestack" (kt 16), .ref fs⟩,
   ⟨PyData.keyHash P "source", .str "source" (kt 17), .none⟩,
   ⟨PyData.keyHash P "_punctuation_chars", .str "_punctuation_chars" (kt 18), .str (tx []) (tv 18)⟩]
noncomputable abbrev lexL0 (P : Params) (kt tv kt2 : Nat → Tok) (vcm vwc vws vsp vqs : Value) (x dx sx dsx pb fs : Addr) (cs : List Nat) (tn tb : Tok) (vst vln vtok vpos : Value) (dq df : Obj) (news : List (Addr × Obj)) : List (Addr × Obj) :=
  (dx, dictOf (lexEs0 P kt tv vcm vwc vws vsp vqs sx pb fs vst vln vtok) 19) :: (x, instObj 722 dx) :: (dsx, dictOf (sioEs P kt2 "\n" (tx cs) tn tb vpos) 3) :: (sx, instObj 587 dsx) :: (pb, dq) :: (fs, df) :: news
theorem news_turn {h₀ h : Heap} {L : Addr} {a b c d e f : Addr × Obj} {l : List (Addr × Obj)} (N : News h₀ L h (a :: b :: c :: d :: e :: f :: l)) : News h₀ L h (f :: e :: c :: d :: b :: a :: l) :=
  news_sub N (by repeat' (first | exact sub_nil | (with_reducible exact sub_same) | (with_reducible refine sub_cons ?_ ?_) | (with_reducible exact List.mem_cons_self) | (with_reducible refine List.mem_cons_of_mem _ ?_) | (with_reducible refine sub_more ?_)))
local macro_rules | `(tactic| walk_at "call ref") => `(tactic| (k_here; (with_reducible show wpAny _ _ (call (Value.ref 587) _ _) _ _ _); k_dflt (refine wpAny_call (sn_spec (by assumption) (by assumption) (by assumption) (by assumption) (by assumption) rfl rfl (by (try dsimp only); omega) (by (try dsimp only); omega) (by omega) ?_)); intro x' dx' h' tk' k0' k1' k2' tn' tb' tp' F' N' l7 l8; (try k_lt l8)))
local macro_rules | `(tactic| walk_at "call type:collections.deque") => `(tactic| (k_here; k_dflt (refine deque_call (by k_asm) (by k_asm) ?_); intro D' h' F' N' l1; (try k_lt l1)))
theorem si_spec {cs : List Nat} {t : Tok} {x dx : Addr}
    (B : Below A₀ base outer h₀) (F : Fr h₀ L s.heap m) (N : News h₀ L s.heap ((x, instObj 722 dx) :: (dx, dictOf [] 0) :: news))
    (X : (hd0.heap_1_39 w.params).In h₀) (T : Top p loose mean mg mb h₀)
    (hf : env.frame = some L) (hke : env.scope.kind = .function) (hd : d ≤ 460) (hu : u ≤ 60) (hb : cs.length ≤ 900) (hdx : @LT.lt Nat _ dx x) (hnx : ∀ q ∈ news, q.1 ≠ dx) (hnl : ∀ q ∈ news, @LT.lt Nat _ q.1 x)
    (k : ∀ h' tk kt tv kt2 vcm vwc vws vqs sx dsx pb fs tn tb ts tl tt tp, Fr h₀ L h' m →
      News h₀ L h' (lexL0 w.params kt tv kt2 vcm vwc vws (.bool false) vqs x dx sx dsx pb fs cs tn tb (.str (tx [32]) ts) (.int 1 tl) (.str (tx []) tt) (.int ((0 : Nat) : Int) tp) (deqObj [] 0) (deqObj [] 0) news) →
      (@LT.lt Nat _ x dsx ∧ @LT.lt Nat _ dsx sx ∧ @LT.lt Nat _ sx pb ∧ @LT.lt Nat _ pb fs) → R (.ok (.ret .none)) { s with heap := h', toks := tk }) :
    codeAny (model prog w) ⟨none, d, some (env :: outer), gs, u⟩ (.call (.ref 646) ⟨[.ref x, .str (tx cs) t], []⟩) R s := by
  have hl : (tx cs).length = cs.length := tx_length cs
  have e1 : Str.ofString "" = tx [] := by decide +kernel
  have e2 : Str.ofString " " = tx [32] := by decide +kernel
  have e3 : Str.ofString "\\" = tx [92] := by decide +kernel
  refine' code_def (env := env) ?k1 ?k2 ?k3 ?k4 ?k5 ?kA ?kF ?kK ?k6 ?k7 ?k8 ?k9 ?kB ?_ ?c2 ?c3 ?c4 ?c5; (case kA => exact rfl); (case kF => exact hf); (case kK => exact hke); (case k1 => k_asm); (case k2 => k_asm); (case k3 => k_asm); (case k4 => k_asm); (case k5 => k_asm); (case k6 => k_is); (case k7 => k_is); (case k8 => k_room); (case k9 => first | exact BindsTo.of_eq rfl | exact binds_K (by k_in) rfl (by k_is) rfl rfl rfl | fail "k_enter: no rule for these arguments"); (case c5 => decide); (case kB => exact locs rfl); (case c2 => exact rfl); (case c3 => exact rfl); (case c4 => exact rfl); k_whole; intro g' L' h' FG' F' N' B' X' T'; (try dsimp only); (try k_lift B'); (try k_fold); (try (refine toks_named ?_; intro tkE))
  repeat' (first | (k_unfold; (try dsimp only)) | walk1 | (dsimp only; walk1))
  rename Fr h₀ L _ _ => kF
  rename News h₀ L _ _ => kN
  rw [e1, e2, e3] at kN
  refine k _ _ (tokL [_, _, _, _, _, _, _, _, _, _, _, _, _, _, _, _, _, _, _]) (tokL [0, 0, 0, _, 0, 0, 0, 0, 0, _, _, 0, 0, 0, _, 0, 0, 0, _]) _ _ _ _ _ _ _ _ _ _ _ _ _ _ _ kF (news_turn kN) ?_
  refine ⟨?_, ?_, ?_, ?_⟩ <;> omega
end
end
section
section
variable {prog : Program} {w : World} {A₀ : Around} {base h₀ : Heap} {outer : List Env} {L : Addr} {m mg mb : Str → Option Value} {env : Env} {news : List (Addr × Obj)} {p : Program} {loose : List Str} {mean : ExcName → Option Value}
  {R : Result → Shared → Prop} {s : Shared} {d u : Nat} {gs : Option (List Code)}

theorem mk_spec {cs : List Nat} {t : Tok}
    (B : Below A₀ base outer h₀) (F : Fr h₀ L s.heap m) (N : News h₀ L s.heap news)
    (X : (hd0.heap_1_39 w.params).In h₀) (T : Top p loose mean mg mb h₀)
    (hf : env.frame = some L) (hke : env.scope.kind = .function) (hd : d ≤ 450) (hu : u ≤ 50) (hb : cs.length ≤ 900)
    (k : ∀ h' tk kt tv kt2 vcm vwc vws vqs x dx sx dsx pb fs tn tb ts tl tt tp, Fr h₀ L h' m →
      News h₀ L h' (lexL0 w.params kt tv kt2 vcm vwc vws (.bool false) vqs x dx sx dsx pb fs cs tn tb (.str (tx [32]) ts) (.int 1 tl) (.str (tx []) tt) (.int ((0 : Nat) : Int) tp) (deqObj [] 0) (deqObj [] 0) news) →
      (∀ q ∈ news, @LT.lt Nat _ q.1 dx) → @LT.lt Nat _ dx x → (@LT.lt Nat _ x dsx ∧ @LT.lt Nat _ dsx sx ∧ @LT.lt Nat _ sx pb ∧ @LT.lt Nat _ pb fs) → R (.ok (.ret (.ref x))) { s with heap := h', toks := tk }) :
    codeAny (model prog w) ⟨none, d, some (env :: outer), gs, u⟩ (.call (.ref 722) ⟨[.str (tx cs) t], []⟩) R s := by
  refine PySem.W.make_K (K := Mine.hd0.heap_1_39 w.params) (fI := 646) F N (X.keeps F.keep) (by k_is) (by k_is) (by with_unfolding_all rfl) ?_
  intro x dx h' F' N' l1 l2
  have l3 : @LT.lt Nat _ dx x := l2
  have nn1 : ∀ q ∈ news, q.1 ≠ dx := fun q hq => Nat.ne_of_lt (l1 q hq)
  exact si_spec (w := w) B F' N' X T hf hke (by first | omega | (show d + 1 ≤ 460; omega)) (by first | omega | (show u + 1 ≤ 60; omega)) hb l3 nn1 (fun q hq => Nat.lt_trans (l1 q hq) l3) (fun h₂ tk kt tv kt2 vcm vwc vws vqs sx dsx pb fs tn tb ts tl tt tp F₂ N₂ l4 => ⟨rfl, k _ _ _ _ _ _ _ _ _ _ _ _ _ _ _ _ _ _ _ _ _ F₂ N₂ l1 l3 l4⟩)
end
end
section
section
variable {prog : Program} {w : World} {A₀ : Around} {base h₀ : Heap} {outer : List Env} {L : Addr} {m mg mb : Str → Option Value} {env : Env} {news : List (Addr × Obj)} {p : Program} {loose : List Str} {mean : ExcName → Option Value}
  {R : Result → Shared → Prop} {s : Shared} {d u : Nat} {gs : Option (List Code)}

local macro_rules | `(tactic| walk_at "call builtin:list.append") => `(tactic| (k_here; k_dflt (refine app_head (by assumption) (by assumption) (by assumption) (by omega) ?_); intro _ _ _))
noncomputable def dgJ (ld : Addr) (rest : List (Addr × Obj)) (i : Nat) (m : Str → Option Value) (nx : List (Addr × Obj)) : Prop :=
  ∃ dvs ds cc, nx = (ld, listOf (List.toArray dvs) cc) :: rest ∧ m "digits" = some (.ref ld) ∧ IntsAre dvs ds ∧ (∀ d ∈ ds, 0 ≤ d ∧ d < 13) ∧ ds.length ≤ 6 * i ∧ (1 ≤ i → 1 ≤ ds.length)
noncomputable def dgW (ld : Addr) (rest : List (Addr × Obj)) (b : Nat) (n : Nat) (m : Str → Option Value) (nx : List (Addr × Obj)) : Prop :=
  ∃ dvs ds cc xv t j, nx = (ld, listOf (List.toArray dvs) cc) :: rest ∧ m "digits" = some (.ref ld) ∧ m "x" = some (.int xv t) ∧ IntsAre dvs ds ∧ (∀ d ∈ ds, 0 ≤ d ∧ d < 13) ∧ ds.length ≤ b + 1 + j ∧ 1 ≤ ds.length ∧
    j ≤ 5 ∧ 0 ≤ xv ∧ xv < 13 ^ (6 - j) ∧ n = 5 - j
theorem dg_step {xv : Int} {j : Nat} (h0 : 0 ≤ xv) (hj : j ≤ 5) (h : xv < 13 ^ (6 - j)) (h13 : 13 ≤ xv) : j + 1 ≤ 5 ∧ 0 ≤ xv.fdiv 13 ∧ xv.fdiv 13 < 13 ^ (6 - (j + 1)) := by
  rw [Int.fdiv_eq_ediv_of_nonneg _ (by decide)]
  match j, hj with
  | 0, _ => simp only [Nat.sub_zero, Nat.zero_add] at h ⊢; omega
  | 1, _ => simp only [Nat.reduceSub, Nat.reduceAdd] at h ⊢; omega
  | 2, _ => simp only [Nat.reduceSub, Nat.reduceAdd] at h ⊢; omega
  | 3, _ => simp only [Nat.reduceSub, Nat.reduceAdd] at h ⊢; omega
  | 4, _ => simp only [Nat.reduceSub, Nat.reduceAdd] at h ⊢; omega
  | 5, _ => simp only [Nat.reduceSub, Nat.reduceAdd] at h ⊢; omega
theorem dg_mod (xv : Int) : 0 ≤ xv.fmod 13 ∧ xv.fmod 13 < 13 := by
  rw [Int.fmod_eq_emod_of_nonneg _ (by decide)]; omega
theorem dg_mod6 (xv : Int) : 0 ≤ xv.fmod (13 ^ 6) ∧ xv.fmod (13 ^ 6) < 13 ^ (6 - 0) := by
  rw [Int.fmod_eq_emod_of_nonneg _ (by decide)]; omega
theorem ints_snoc {vs : List Value} {ds : List Int} (h : IntsAre vs ds) (x : Int) (t : Tok) : IntsAre (vs ++ [.int x t]) (ds ++ [x]) := IntsAre.append h (.cons x t .nil)
theorem dig_snoc {ds : List Int} (h : ∀ d ∈ ds, 0 ≤ d ∧ d < 13) (x : Int) : ∀ d ∈ ds ++ [x.fmod 13], 0 ≤ d ∧ d < 13 := by
  intro d hd
  rcases List.mem_append.mp hd with hd | hd
  · exact h d hd
  · rw [List.mem_singleton.mp hd]; exact dg_mod x
theorem dg_spec {l : Addr} {vs : List Value} {ns : List Int} {c : Nat}
    (B : Below A₀ base outer h₀) (F : Fr h₀ L s.heap m) (N : News h₀ L s.heap ((l, listOf vs.toArray c) :: news))
    (X : (hd0.heap_1_39 w.params).In h₀) (T : Top p loose mean mg mb h₀)
    (hf : env.frame = some L) (hke : env.scope.kind = .function) (hd : d ≤ 470) (hu : u ≤ 70) (hi : IntsAre vs ns) (hne : ns ≠ []) (hlen : ns.length ≤ 100)
    (k : ∀ h' tk ld dvs ds cc, Fr h₀ L h' m → News h₀ L h' ((ld, listOf (List.toArray dvs) cc) :: (l, listOf vs.toArray c) :: news) → (∀ q ∈ (l, listOf vs.toArray c) :: news, q.1 ≠ ld) → IntsAre dvs ds → (∀ d ∈ ds, 0 ≤ d ∧ d < 13) → 1 ≤ ds.length → ds.length ≤ 240 → R (.ok (.ret (.ref ld))) { s with heap := h', toks := tk }) :
    codeAny (model prog w) ⟨none, d, some (env :: outer), gs, u⟩ (.call (.ref 733) ⟨[.ref l], []⟩) R s := by
  refine' code_def (env := env) ?k1 ?k2 ?k3 ?k4 ?k5 ?kA ?kF ?kK ?k6 ?k7 ?k8 ?k9 ?kB ?_ ?c2 ?c3 ?c4 ?c5; (case kA => exact rfl); (case kF => exact hf); (case kK => exact hke); (case k1 => k_asm); (case k2 => k_asm); (case k3 => k_asm); (case k4 => k_asm); (case k5 => k_asm); (case k6 => k_is); (case k7 => k_is); (case k8 => k_room); (case k9 => first | exact BindsTo.of_eq rfl | exact binds_K (by k_in) rfl (by k_is) rfl rfl rfl | fail "k_enter: no rule for these arguments"); (case c5 => decide); (case kB => exact locs rfl); (case c2 => exact rfl); (case c3 => exact rfl); (case c4 => exact rfl); k_whole; intro g' L' h' FG' F' N' B' X' T'; (try dsimp only); (try k_lift B'); (try k_fold); (try (refine toks_named ?_; intro tkE))
  repeat' (first | ((fail_if_success (with_reducible show wpAny _ _ (exec (PySem.Stmt.For _ _ _ _ _) _) _ _ _)); first | (k_unfold; (try dsimp only)) | walk1 | (dsimp only; walk1)))
  refine For_invV g' (by rfl) (by rfl) ?_
  iterate 8 (first | (k_unfold; (try dsimp only)) | walk1 | (dsimp only; walk1))
  rename_i ld _ hld0 _ _ _ sl svs _ F₁ N₁ hsv hsn hsl hsl0
  have nld : ∀ q ∈ (l, listOf vs.toArray c) :: news, q.1 ≠ ld := by
    intro q hq
    rcases List.mem_cons.mp hq with h | h
    · subst h; exact Nat.ne_of_lt hld0.1
    · exact Nat.ne_of_lt (tb_ltOf hld0.2 q h)
  have nsl : @Ne Nat sl ld := Nat.ne_of_gt hsl0.1
  have hslL : sl ≠ L' := (N₁ (sl, listOf svs.toArray 0) (by simp)).2.1
  have N₂ : News g' L' _ ((ld, listOf (List.toArray []) 0) :: (sl, listOf svs.toArray 0) :: (l, listOf vs.toArray c) :: news) := news_sub N₁ (by repeat' (first | exact sub_nil | (with_reducible exact sub_same) | (with_reducible refine sub_cons ?_ ?_) | (with_reducible exact List.mem_cons_self) | (with_reducible refine List.mem_cons_of_mem _ ?_) | (with_reducible refine sub_more ?_)))
  have nrest : ∀ q ∈ (sl, listOf svs.toArray 0) :: (l, listOf vs.toArray c) :: news, q.1 ≠ ld := by
    intro q hq
    rcases List.mem_cons.mp hq with h | h
    · subst h; exact nsl
    · exact nld q h
  refine loop_list (items := svs.toArray) (by rfl) (News.isList N₁ (List.Mem.head _)) F₁ N₂ hslL (dgJ ld ((sl, listOf svs.toArray 0) :: (l, listOf vs.toArray c) :: news)) ⟨[], [], 0, rfl, rfl, .nil, by simp, by simp, by simp⟩ ?_ ?_
  · rintro I i v m₁ nx h₁ tk₁ own hv ⟨dvs, ds, cc, rfl, hm, hds, hb, hlen1, hlen2⟩ hno hown _ F₃ N₃
    clear F₁ N₁ N₂
    obtain ⟨n, t, rfl, hn⟩ := IntsAre.at hsv i v (by simpa using hv)
    have hidx : i < (ns.take 40).length := (List.getElem?_eq_some_iff.mp hn).1
    have hi40 : i < 40 := by have := hsn; omega
    have F₄ := fr_at (x := "digits") F₃ (by show (if (Str.ofString "digits") = "x" then some _ else m₁ "digits") = some (.ref ld); rw [if_neg (by decide +kernel)]; exact hm)
    clear F₃
    have nn : ∀ q ∈ ((sl, listOf svs.toArray 0) :: (l, listOf vs.toArray c) :: news) ++ own, q.1 ≠ ld := by
      intro q hq
      rcases List.mem_append.mp hq with h | h
      · exact nrest q h
      · rcases hown q h with e | e
        · rw [e]; exact fun z => hno (ld, listOf (List.toArray dvs) cc) (by simp) z.symm
        · rw [e]; exact nsl
    have hvl : dvs.length ≤ 2000 := by have := hds.length; omega
    rw [List.cons_append] at N₃
    repeat' (first | ((fail_if_success (with_reducible show wpAny _ _ (exec (PySem.Stmt.While _ _ _ _) _) _ _ _)); first | (k_unfold; (try dsimp only)) | walk1 | (dsimp only; walk1)))
    rename Fr g' L' _ _ => FF
    rename News g' L' _ _ => NN
    have hx6 := dg_mod6 n
    refine While_inv2 (dgW ld (((sl, listOf svs.toArray 0) :: (l, listOf vs.toArray c) :: news) ++ own) ds.length) FF NN ⟨_, _, _, _, _, 0, rfl, rfl, rfl, ints_snoc hds _ _, dig_snoc hb _, by simp, by simp, by omega, hx6.1, hx6.2, rfl⟩ ?_
    rintro n₁ m₂ nx₂ h₂ tk₂ F₅ N₅ ⟨dvs₂, ds₂, cc₂, xv, t₂, j, rfl, hm2, hx2, hds2, hb2, hl2, hl3, hj, hx0, hx1, rfl⟩
    have hvl2 : dvs₂.length ≤ 2000 := by have := hds2.length; omega
    have F₆ := fr_at (x := "x") (fr_at (x := "digits") F₅ hm2) (by show (if (Str.ofString "x") = "digits" then _ else m₂ "x") = some (.int xv t₂); rw [if_neg (by decide +kernel)]; exact hx2)
    clear FF NN F₅
    repeat' (first | (k_unfold; (try dsimp only)) | walk1 | (dsimp only; walk1))
    · have h13 : 13 ≤ xv := by assumption
      obtain ⟨s1, s2, s3⟩ := dg_step hx0 hj hx1 h13
      exact ⟨_, _, _, _, 5 - (j + 1), rfl, by assumption, by assumption, by omega, _, _, _, _, _, j + 1, rfl, rfl, rfl, ints_snoc hds2 _ _, dig_snoc hb2 _, by simp only [List.length_append, List.length_cons, List.length_nil]; omega, by simp only [List.length_append, List.length_cons, List.length_nil]; omega, s1, s2, s3, rfl⟩
    · refine ⟨rfl, _, _, _, (ld, listOf (List.toArray dvs₂) cc₂) :: (sl, listOf svs.toArray 0) :: (l, listOf vs.toArray c) :: news, rfl, by assumption, by assumption, ?_, dvs₂, ds₂, cc₂, rfl, rfl, hds2, hb2, by omega, fun _ => hl3⟩
      intro p hp
      rcases List.mem_cons.mp hp with h | h
      · subst h; exact hno (ld, listOf (List.toArray dvs) cc) (by simp)
      · exact hno p (List.mem_cons_of_mem _ h)
  · rintro m₁ nx h₁ tk₁ ⟨dvs, ds, cc, rfl, hm, hds, hb, hlen1, hlen2⟩ F₃ N₃
    clear F₁ N₁ N₂
    have hm1 : 1 ≤ svs.toArray.size := by
      have := hsv.length
      have h2 : 1 ≤ ns.length := List.length_pos_iff.mpr hne
      rw [List.size_toArray]; omega
    have hm2 : svs.toArray.size ≤ 40 := by
      have := hsv.length
      rw [List.size_toArray]; omega
    have F₄ := fr_at (x := "digits") F₃ hm
    clear F₃
    have N₄ : News g' L' _ ((ld, listOf (List.toArray dvs) cc) :: (l, listOf vs.toArray c) :: news) := news_sub N₃ (by repeat' (first | exact sub_nil | (with_reducible exact sub_same) | (with_reducible refine sub_cons ?_ ?_) | (with_reducible exact List.mem_cons_self) | (with_reducible refine List.mem_cons_of_mem _ ?_) | (with_reducible refine sub_more ?_)))
    clear N₃
    repeat' (first | (k_unfold; (try dsimp only)) | walk1 | (dsimp only; walk1))
    exact k _ _ _ _ _ _ (by assumption) (by assumption) nld hds hb (hlen2 hm1) (by omega)
end
end
section
section
variable {prog : Program} {w : World} {A₀ : Around} {base h₀ : Heap} {outer : List Env} {L : Addr} {m mg mb : Str → Option Value} {env : Env} {news : List (Addr × Obj)} {p : Program} {loose : List Str} {mean : ExcName → Option Value}
  {R : Result → Shared → Prop} {s : Shared} {d u : Nat} {gs : Option (List Code)}

noncomputable def signs : List Nat := [97, 99, 32, 10, 98, 39, 34, 35, 124, 233, 92, 9, 13]
theorem signs_lit : Str.ofString "ac \nb'\"#|é\\\t\r" = tx signs := by decide +kernel
noncomputable def bitsL (b : Int) : List Int := [1, 2, 4, 8].filter fun c => decide ((b.fdiv c).fmod 2 = 1)
/-- one sign's entry in the sets: the sign, its bits, its list -/
structure Ent where
  c : Nat
  b : Int
  a : Addr
  vs : List Value
  n : Nat
noncomputable def Ent.kv (e : Ent) : Str × Value := (tx [e.c], .ref e.a)
noncomputable def Ent.ob (e : Ent) : Addr × Obj := (e.a, listOf (List.toArray e.vs) e.n)
structure Ent.Ok (e : Ent) : Prop where
  are : IntsAre e.vs (bitsL e.b)
  lo : 0 ≤ e.b
  hi : e.b < 16
  few : e.c = 97 ∨ e.c = 99 ∨ e.c = 32 → e.b < 8
noncomputable def dsJ (prog : Program) (w : World) (D ul cl : Addr) (us : List Value) (news : List (Addr × Obj)) (i : Nat) (m : Str → Option Value) (nx : List (Addr × Obj)) : Prop :=
  ∃ (es : List Ent) (oD ob : Obj) (ov : Option Value) (hv : Int) (th : Tok), nx = (cl, ob) :: (D, oD) :: (ul, listOf (List.toArray us) 0) :: (es.map Ent.ob ++ news) ∧ es.map Ent.c = signs.take i ∧ oD.IsDictOf (PySem.strKind prog w) (es.map Ent.kv) ∧ (∀ e ∈ es, e.Ok) ∧ ob.data = .cell ov ∧
    (∀ e ∈ es, @Ne Nat e.a cl ∧ @Ne Nat e.a D) ∧ (∀ e ∈ es, ∀ q ∈ news, e.a ≠ q.1) ∧ m "head" = some (.int hv th) ∧ m "usual" = some (.ref ul) ∧ m "sets" = some (.ref D)
theorem usual_item {A : Around} {E : Value → Shared → Prop} {value slice : PySem.Expr} {l : Addr} {us : List Value} {i : Nat} {u t : Tok} {x : Int} {Q : Value → Shared → Prop} (hl : s.heap.IsList l us.toArray) (hi : i < 1000) (hx : us[i]? = some (.int x t)) (h : Q (.int x t) s)
    (hs : subscripted slice false (.ref l) (.int ((i : Nat) : Int) u) = operate [.ref l, .int ((i : Nat) : Int) u] (getItem (.ref l) (.int ((i : Nat) : Int) u)) := by with_unfolding_all rfl) :
    wpAny (model prog w) A (subscriptTail value slice (.ref l) (.int ((i : Nat) : Int) u)) Q E s :=
  tail_any hl.typeIs slot_list_getitem.lookup (wpAny_getItem_list hl (Int.natCast_nonneg _) (by omega) (by simpa using hx) h) hs
local macro_rules | `(tactic| walk_at "subscriptTail Name Name ref int") => `(tactic| (k_here; k_dflt (refine usual_item (News.isList (by assumption) (by k_mem)) (by omega) (by assumption) ?_)))
noncomputable def dsP (bv : Int) (v : Value) : Bool := match v with | .int b _ => decide ((bv.fdiv b).fmod 2 = 1) | _ => false
theorem cell_of {o : Obj} {bv : Int} {t : Tok} (C : Int → Prop) (h : o.data = .cell (some (.int bv t))) (hb : C bv) : ∃ bv' t', o.data = .cell (some (.int bv' t')) ∧ C bv' := ⟨bv, t, h, hb⟩
theorem xor_key : ∀ a b : Fin 16, 0 ≤ Builtin.bitXor ((a.val : Nat) : Int) ((b.val : Nat) : Int) ∧ Builtin.bitXor ((a.val : Nat) : Int) ((b.val : Nat) : Int) < 16 := by decide +kernel
theorem xor_bnd {a b : Int} (a0 : 0 ≤ a) (a1 : a < 16) (b0 : 0 ≤ b) (b1 : b < 16) : 0 ≤ Builtin.bitXor a b ∧ Builtin.bitXor a b < 16 := by
  obtain ⟨n, rfl⟩ := Int.eq_ofNat_of_zero_le a0
  obtain ⟨m, rfl⟩ := Int.eq_ofNat_of_zero_le b0
  exact xor_key ⟨n, by omega⟩ ⟨m, by omega⟩
theorem fmod16 (x : Int) : 0 ≤ x.fmod 16 ∧ x.fmod 16 < 16 := by rw [Int.fmod_eq_emod_of_nonneg _ (by decide)]; omega
theorem fmod8 (x : Int) : 0 ≤ x.fmod 8 ∧ x.fmod 8 < 8 := by rw [Int.fmod_eq_emod_of_nonneg _ (by decide)]; omega
theorem signs_nodup : signs.Nodup := by decide
theorem signs_len : signs.length = 13 := rfl
theorem signs_split {i c : Nat} {r : List Nat} (h : signs.drop i = c :: r) : signs.take (i + 1) = signs.take i ++ [c] ∧ c ∉ signs.take i := by
  have e : signs = signs.take i ++ c :: r := by rw [← h, List.take_append_drop]
  constructor
  · rw [List.take_add_one, ← List.head?_drop, h]; rfl
  · have := signs_nodup
    rw [e] at this
    intro hm
    exact (List.nodup_append.mp this).2.2 c hm c (List.mem_cons_self) rfl
theorem signs_few {i c : Nat} {r : List Nat} (h : signs.drop i = c :: r) (hc : c = 97 ∨ c = 99 ∨ c = 32) : i < 3 := by
  have h1 : signs[i]? = some c := by rw [← List.head?_drop, h]; rfl
  have h2 : i < 13 := by rcases Nat.lt_or_ge i 13 with q | q; exact q; rw [List.getElem?_eq_none (by rw [signs_len]; omega)] at h1; cases h1
  match i, h2 with
  | 0, _ | 1, _ | 2, _ => omega
  | 3, _ | 4, _ | 5, _ | 6, _ | 7, _ | 8, _ | 9, _ | 10, _ | 11, _ | 12, _ => exfalso; simp [signs] at h1; omega
theorem kv_absent {es : List Ent} {c : Nat} (h : c ∉ es.map Ent.c) : valueAt (es.map Ent.kv) (tx [c]) = none := by
  refine valueAt_none_of_not_mem fun hm => h ?_
  obtain ⟨q, hq, e⟩ := List.mem_map.mp hm
  obtain ⟨e', he, rfl⟩ := List.mem_map.mp hq
  have : tx [e'.c] = tx [c] := e
  have h2 : [e'.c] = [c] := by have := congrArg (fun x => x.cps.toList) this; simpa [tx] using this
  have h3 : e'.c = c := by simpa using h2
  exact List.mem_map.mpr ⟨e', he, h3⟩
theorem char_lit {A : Around} {E : Value → Shared → Prop} {value slice : PySem.Expr} {x : Str} {cs r : List Nat} {c k : Nat} {t u : Tok} {Q : Value → Shared → Prop} (e : x = tx cs) (h : cs.drop k = c :: r) (hz : cs.length ≤ 100000) (hq : ∀ t, Q (.str (tx [c]) t) { s with toks := s.toks + 1 })
    (hs : subscripted slice false (.str (tx cs) t) (.int ((k : Nat) : Int) u) = operate [.str (tx cs) t, .int ((k : Nat) : Int) u] (getItem (.str (tx cs) t) (.int ((k : Nat) : Int) u)) := by with_unfolding_all rfl)
    (ht : ∀ r, letTemporaryGo value (.str (tx cs) t) r = pure () := by intro _; with_unfolding_all rfl) :
    wpAny (model prog w) A (subscriptTail value slice (.str x t) (.int ((k : Nat) : Int) u)) Q E s := by
  subst e; exact char_at h hz hq hs ht
local macro_rules | `(tactic| walk_at "subscriptTail") => `(tactic| (k_here; (with_reducible show wpAny _ _ (subscriptTail _ _ (Value.str _ _) (Value.int _ _)) _ _ _); k_dflt (refine char_lit signs_lit (by assumption) (by decide) ?_; intro _)))
local macro_rules | `(tactic| walk_at "eval Name") => `(tactic| (k_here; (with_reducible show wpAny _ _ (eval (PySem.Expr.Name _ _) (compEnvC _ _ _ _)) _ _ _); k_dflt (refine ldVarK (by assumption) (by assumption) ?_ (by rfl) (by rfl) (by decide))))
theorem news_third {h₀ h : Heap} {L : Addr} {a b c : Addr × Obj} {l : List (Addr × Obj)} (N : News h₀ L h (a :: b :: c :: l)) : News h₀ L h (c :: a :: b :: l) :=
  news_sub N (by repeat' (first | exact sub_nil | (with_reducible exact sub_same) | (with_reducible refine sub_cons ?_ ?_) | (with_reducible exact List.mem_cons_self) | (with_reducible refine List.mem_cons_of_mem _ ?_) | (with_reducible refine sub_more ?_)))
theorem ds_spec {hv : Int} {th : Tok}
    (B : Below A₀ base outer h₀) (F : Fr h₀ L s.heap m) (N : News h₀ L s.heap news)
    (X : (hd0.heap_1_39 w.params).In h₀) (T : Top p loose mean mg mb h₀)
    (hf : env.frame = some L) (hke : env.scope.kind = .function) (hd : d ≤ 470) (hu : u ≤ 70)
    (k : ∀ h' tk D oD (es : List Ent), Fr h₀ L h' m → News h₀ L h' ((D, oD) :: (es.map Ent.ob ++ news)) → es.map Ent.c = signs → oD.IsDictOf (PySem.strKind prog w) (es.map Ent.kv) → (∀ e ∈ es, e.Ok) → (∀ q ∈ es.map Ent.ob ++ news, q.1 ≠ D) → (∀ e ∈ es, ∀ q ∈ news, e.a ≠ q.1) → (D == sysModules) = false → R (.ok (.ret (.ref D))) { s with heap := h', toks := tk }) :
    codeAny (model prog w) ⟨none, d, some (env :: outer), gs, u⟩ (.call (.ref 738) ⟨[.int hv th], []⟩) R s := by
  refine' code_defC (env := env) ?k1 ?k2 ?k3 ?k4 ?k5 ?kA ?kF ?kK ?k6 ?k7 ?k8 ?k9 ?kB ?kD ?_ ?c2 ?c3 ?c4; (case kA => exact rfl); (case kF => exact hf); (case kK => exact hke); (case k1 => k_asm); (case k2 => k_asm); (case k3 => k_asm); (case k4 => k_asm); (case k5 => k_asm); (case k6 => k_is); (case k7 => k_is); (case k8 => k_room); (case k9 => first | exact BindsTo.of_eq rfl | exact binds_K (by k_in) rfl (by k_is) rfl rfl rfl | fail "k_enter: no rule for these arguments"); (case kB => exact rfl); (case kD => decide +kernel); (case c2 => exact rfl); (case c3 => exact rfl); (case c4 => exact rfl); k_whole; intro g' L' h' tk' cells' FG' F' N' Y' B' X' T' l1; (try k_lt l1); (have hY := CellsAre.one Y'; obtain ⟨o', hE', d1'⟩ := hY; subst hE'; clear Y'); (try simp only [List.cons_append, List.nil_append] at N'); (try dsimp only); (try k_lift B'); (try k_fold)
  repeat' (first | ((fail_if_success (with_reducible show wpAny _ _ (exec (PySem.Stmt.For _ _ _ _ _) _) _ _ _)); first | (k_unfold; (try dsimp only)) | walk1 | (dsimp only; walk1)))
  refine For_invV g' (by rfl) (by rfl) ?_
  iterate 7 (first | (k_unfold; (try dsimp only)) | walk1 | (dsimp only; walk1))
  rename IsRange _ _ _ _ _ _ _ _ => hr
  rename Fr g' L' _ _ => F₁
  rename News g' L' _ _ => N₁
  rename Obj.IsDictOf (PySem.strKind prog w) _ _ => hD₀
  rename _ ∧ _ ∧ AllLt _ _ => l3
  rename_i ul _ _ _ _ D _ oD lo _ _ _ _ _ _ _ _ _ _ _ _ _ _
  have hus : ∀ i, i < 13 → ∃ x t, [Value.int 4 tk', Value.int 4 (tk' + 1), Value.int 1 (tk' + 1 + 1), Value.int 1 (tk' + 1 + 1 + 1), Value.int 4 (tk' + 1 + 1 + 1 + 1), Value.int 8 (tk' + 1 + 1 + 1 + 1 + 1), Value.int 8 (tk' + 1 + 1 + 1 + 1 + 1 + 1), Value.int 2 (tk' + 1 + 1 + 1 + 1 + 1 + 1 + 1), Value.int 0 (tk' + 1 + 1 + 1 + 1 + 1 + 1 + 1 + 1), Value.int 0 (tk' + 1 + 1 + 1 + 1 + 1 + 1 + 1 + 1 + 1), Value.int 0 (tk' + 1 + 1 + 1 + 1 + 1 + 1 + 1 + 1 + 1 + 1), Value.int 1 (tk' + 1 + 1 + 1 + 1 + 1 + 1 + 1 + 1 + 1 + 1 + 1), Value.int 1 (tk' + 1 + 1 + 1 + 1 + 1 + 1 + 1 + 1 + 1 + 1 + 1 + 1)][i]? = some (.int x t) ∧ 0 ≤ x ∧ x < 16 := by
    intro i hi
    match i, hi with
    | 0, _ | 1, _ | 2, _ | 3, _ | 4, _ | 5, _ | 6, _ | 7, _ | 8, _ | 9, _ | 10, _ | 11, _ | 12, _ => exact ⟨_, _, rfl, by decide, by decide⟩
  generalize hul : [Value.int 4 tk', Value.int 4 (tk' + 1), Value.int 1 (tk' + 1 + 1), Value.int 1 (tk' + 1 + 1 + 1), Value.int 4 (tk' + 1 + 1 + 1 + 1), Value.int 8 (tk' + 1 + 1 + 1 + 1 + 1), Value.int 8 (tk' + 1 + 1 + 1 + 1 + 1 + 1), Value.int 2 (tk' + 1 + 1 + 1 + 1 + 1 + 1 + 1), Value.int 0 (tk' + 1 + 1 + 1 + 1 + 1 + 1 + 1 + 1), Value.int 0 (tk' + 1 + 1 + 1 + 1 + 1 + 1 + 1 + 1 + 1), Value.int 0 (tk' + 1 + 1 + 1 + 1 + 1 + 1 + 1 + 1 + 1 + 1), Value.int 1 (tk' + 1 + 1 + 1 + 1 + 1 + 1 + 1 + 1 + 1 + 1 + 1), Value.int 1 (tk' + 1 + 1 + 1 + 1 + 1 + 1 + 1 + 1 + 1 + 1 + 1 + 1)] = us at hus N₁
  have n1 : ∀ q ∈ news, q.1 ≠ L' + 1 := fun q hq => Nat.ne_of_lt (Nat.lt_succ_of_lt (l1 q hq))
  have n2 : ∀ q ∈ news, q.1 ≠ D := fun q hq => Nat.ne_of_lt (tb_ltOf l3.2.2 q hq)
  have n3 : @Ne Nat (L' + 1) D := Nat.ne_of_lt l3.2.1
  have n4 : @Ne Nat ul D := Nat.ne_of_lt l3.1
  have n5 : @Ne Nat ul (L' + 1) := by
    rename _ < _ ∧ AllLt _ news => l0
    exact Nat.ne_of_gt l0.1
  have hr13 : IsRange _ _ 0 ((13 : Nat) : Int) 1 _ _ _ := hr
  have N₂ : News g' L' _ ((L' + 1, o') :: (D, oD) :: (ul, listOf us.toArray 0) :: (([] : List Ent).map Ent.ob ++ news)) := news_sub N₁ (fun q hq => by simp only [List.map_nil, List.nil_append, List.mem_cons] at hq ⊢; rcases hq with h | h | h | h <;> simp [h])
  refine loop_range (n := 13) rfl hr13 (by decide) (by decide) F₁ N₂ (dsJ prog w D ul (L' + 1) us news) ⟨[], oD, o', _, hv, th, rfl, rfl, hD₀, by simp, d1', by simp, by simp, by with_unfolding_all rfl, rfl, rfl⟩ ?_ ?_
  · rintro I i t m₁ nx h₁ tk₁ own hi ⟨es, oD₂, ob, ov, hv₂, th₂, rfl, hes, hD₂, hok, hob, hea, hew, hm1, hm2, hm3⟩ hno hown ⟨oI, hoI⟩ F₃ N₃
    clear F₁ N₁ N₂
    obtain ⟨ux, ut, hux, hu1, hu2⟩ := hus i hi
    obtain ⟨c, r, hc⟩ : ∃ c r, signs.drop i = c :: r := by
      cases h : signs.drop i with
      | nil => have := congrArg List.length h; simp [signs] at this; omega
      | cons c r => exact ⟨c, r, rfl⟩
    have F₄ := fr_at5 F₃ (x₁ := "k") (x₂ := "head") (x₃ := "usual") (x₄ := "sets") (x₅ := "k") (if_pos rfl) (if_ne (by decide +kernel) hm1) (if_ne (by decide +kernel) hm2) (if_ne (by decide +kernel) hm3) (if_pos rfl)
    clear F₃
    have t1 : ∀ q ∈ (es.map Ent.ob ++ news) ++ own, q.1 ≠ L' + 1 := by
      intro q hq
      rcases List.mem_append.mp hq with h | h
      · rcases List.mem_append.mp h with h | h
        · obtain ⟨e, he, rfl⟩ := List.mem_map.mp h; exact (hea e he).1
        · exact n1 q h
      · rw [hown q h]; exact fun z => hno (L' + 1, ob) (by simp) z.symm
    have t2 : ∀ q ∈ (es.map Ent.ob ++ news) ++ own, q.1 ≠ D := by
      intro q hq
      rcases List.mem_append.mp hq with h | h
      · rcases List.mem_append.mp h with h | h
        · obtain ⟨e, he, rfl⟩ := List.mem_map.mp h; exact (hea e he).2
        · exact n2 q h
      · rw [hown q h]; exact fun z => hno (D, oD₂) (by simp) z.symm
    simp only [List.cons_append] at N₃
    generalize htl : (es.map Ent.ob ++ news) ++ own = tl at N₃ t1 t2
    repeat' (first | ((fail_if_success (with_reducible show wpAny _ _ (exec (PySem.Stmt.Assign [PySem.Expr.Subscript _ _ _] (PySem.Expr.ListComp _ _ _ _) _) _) _ _ _)); first | (k_unfold; (try dsimp only)) | walk1 | (dsimp only; walk1)))
    all_goals rename Fr g' L' _ _ => F₅
    all_goals rename News g' L' _ _ => N₅
    all_goals rename Obj.data _ = Data.cell _ => hcl
    all_goals obtain ⟨bv, bt, hbc, hb⟩ := cell_of (fun b => 0 ≤ b ∧ b < 16 ∧ (c = 97 ∨ c = 99 ∨ c = 32 → b < 8)) hcl (by
      have h16 := fmod16 hv₂
      have hx := xor_bnd hu1 hu2 h16.1 h16.2
      have h8 := fmod8 (Builtin.bitXor ux (hv₂.fmod 16))
      have hf := @signs_few i c r hc
      first | exact ⟨h8.1, Int.lt_of_lt_of_le h8.2 (by decide), fun _ => h8.2⟩ | exact ⟨hx.1, hx.2, fun z => absurd (hf z) (by omega)⟩)
    all_goals clear hcl
    all_goals refine wpAny_Assign_Subscript ?_ (by with_unfolding_all rfl)
    all_goals refine ListComp_Q (dsP bv) (fun v y => y = v) (by with_unfolding_all rfl) (by decide) (by rfl) (by decide) (by rfl) ?_
    all_goals repeat' (first | ((fail_if_success (with_reducible show wpAny _ _ (pyIter _) _ _ _)); first | (k_unfold; (try dsimp only)) | walk1 | (dsimp only; walk1)))
    all_goals rename Fr g' L' _ _ => F₆
    all_goals rename News g' L' _ _ => N₆
    all_goals
      have N₇ := news_tail N₆
      refine' lc_tuple (h₀ := g') (L := L') (dsP bv) (fun v y => y = v) ?hh ?hl ?hn ?hF ?hN ?_ ?_ ?_
      (case hh => exact rfl)
      (case hl => exact ⟨_, (N₆ _ (List.Mem.head _)).1, rfl, _, rfl⟩)
      (case hn => exact Nat.le_of_ble_eq_true rfl)
      (case hF => exact F₆)
      (case hN => exact N₇)
      · clear F₆ N₆ N₇
        intro C i' v s₃ m₃ E' hv hns hx F₇ N₇
        have hv4 : ∃ b t, v = Value.int b t ∧ (b = 1 ∨ b = 2 ∨ b = 4 ∨ b = 8) := by
          have := List.mem_of_getElem? hv
          simp only [List.mem_cons, List.not_mem_nil, or_false] at this
          rcases this with h | h | h | h <;> exact ⟨_, _, h, by omega⟩
        obtain ⟨b, t', rfl, h4⟩ := hv4
        refine wpAny_tests_one ?_
        rcases h4 with rfl | rfl | rfl | rfl
        all_goals repeat' (first | (k_unfold; (try dsimp only)) | walk1 | (dsimp only; walk1))
        all_goals exact ⟨_, _, rfl, fun _ _ e => e⟩
      · clear F₆ N₆ N₇
        intro C i' v s₃ m₃ E' hv _ hns hx F₇ N₇
        refine ldVarK hns hx ?_ (by rfl) (by rfl) (by decide)
        exact ⟨rfl, _, _, rfl, fun _ _ e => e⟩
      · intro D' h' tk₈ ys c' F₈ N₈ nD hP
        have hys := paired_eq hP
        have hint : IntsAre ys (bitsL bv) := by
          rw [hys]
          exact ints_filter (q := fun c => decide ((bv.fdiv c).fmod 2 = 1)) (fun _ _ => rfl) (.cons 1 _ (.cons 2 _ (.cons 4 _ (.cons 8 _ .nil))))
        clear F₆ N₆ N₇ hP hys
        have nD1 : @Ne Nat D' (L' + 1) := fun z => nD _ (List.Mem.head _) z.symm
        have nD2 : @Ne Nat D' D := fun z => nD _ (.tail _ (List.Mem.head _)) z.symm
        have N₉ := news_third N₈
        repeat' (first | ((fail_if_success (with_reducible show wpAny _ _ (setItem _ _ _) _ _ _)); first | (k_unfold; (try dsimp only)) | walk1 | (dsimp only; walk1)))
        have hes13 : es.length = i := by
          have := congrArg List.length hes
          rw [List.length_map, List.length_take, signs_len] at this; omega
        obtain ⟨hs1, hs2⟩ := signs_split hc
        have t3 : ∀ ob' : Obj, ∀ q ∈ (D', listOf (List.toArray ys) c') :: (L' + 1, ob') :: (ul, listOf us.toArray 0) :: tl, q.1 ≠ D := by
          intro ob' q hq
          rcases List.mem_cons.mp hq with h | hq
          · subst h; exact nD2
          rcases List.mem_cons.mp hq with h | hq
          · subst h; exact n3
          rcases List.mem_cons.mp hq with h | hq
          · subst h; exact n4
          exact t2 q hq
        refine set_head (knd := PySem.strKind prog w) F₈ N₉ (t3 _) hD₂ (strKind_is _ _ _ _) (by rw [List.length_map]; omega) ?_
        intro h₉ o₉ F₉ N₁₀ hD₉
        rw [stored_absent (kv_absent (by rw [hes]; exact hs2)) _] at hD₉
        clear F₈ N₈ N₉
        repeat' (first | (k_unfold; (try dsimp only)) | walk1 | (dsimp only; walk1))
        refine ⟨rfl, _, _, _, (L' + 1, _) :: (D, o₉) :: (ul, listOf us.toArray 0) :: ((es ++ [Ent.mk c bv D' ys c']).map Ent.ob ++ news), rfl, F₉, ?_, ?_, es ++ [Ent.mk c bv D' ys c'], o₉, _, _, _, _, rfl, ?_, ?_, ?_, hbc, ?_, ?_, rfl, rfl, rfl⟩
        · refine news_sub N₁₀ (fun q hq => ?_)
          rw [← htl]
          simp only [List.map_append, List.map_cons, List.map_nil, List.cons_append, List.append_assoc, List.nil_append, List.mem_cons, List.mem_append, Ent.ob] at hq ⊢
          rcases hq with h | h | h | h | h | h | h <;> simp [h]
        · intro q hq
          simp only [List.map_append, List.map_cons, List.map_nil, List.cons_append, List.append_assoc, List.nil_append, List.mem_cons, List.mem_append, Ent.ob] at hq
          rcases hq with h | h | h | h | h | h
          · exact hno (L' + 1, ob) (by simp) |> (fun z => by rw [h]; exact z)
          · exact hno (D, oD₂) (by simp) |> (fun z => by rw [h]; exact z)
          · exact hno q (by simp [h])
          · exact hno q (by simp [Ent.ob, h])
          · rw [h]; exact fun z => nD (I, oI) (by rw [← htl]; simp [hoI]) z.symm
          · exact hno q (by simp [h])
        · rw [List.map_append, hes, hs1]; rfl
        · rw [List.map_append]; exact hD₉
        · intro e he
          rcases List.mem_append.mp he with h | h
          · exact hok e h
          · rw [List.mem_singleton.mp h]; exact ⟨hint, hb.1, hb.2.1, hb.2.2⟩
        · intro e he
          rcases List.mem_append.mp he with h | h
          · exact hea e h
          · rw [List.mem_singleton.mp h]; exact ⟨nD1, nD2⟩
        · intro e he q hq
          rcases List.mem_append.mp he with h | h
          · exact hew e h q hq
          · rw [List.mem_singleton.mp h]; exact fun z => nD q (by rw [← htl]; simp [hq]) z.symm
  · rintro m₁ nx h₁ tk₁ ⟨es, oD₂, ob, ov, hv₂, th₂, rfl, hes, hD₂, hok, hob, hea, hew, hm1, hm2, hm3⟩ F₃ N₃
    clear F₁ N₁ N₂
    have F₄ := fr_at (x := "sets") F₃ hm3
    have N₄ : News g' L' _ ((D, oD₂) :: (es.map Ent.ob ++ news)) := news_sub N₃ (by repeat' (first | exact sub_nil | (with_reducible exact sub_same) | (with_reducible refine sub_cons ?_ ?_) | (with_reducible exact List.mem_cons_self) | (with_reducible refine List.mem_cons_of_mem _ ?_) | (with_reducible refine sub_more ?_)))
    clear F₃ N₃
    repeat' (first | (k_unfold; (try dsimp only)) | walk1 | (dsimp only; walk1))
    exact k _ _ _ _ _ (by assumption) (by assumption) (by rw [hes]; rfl) hD₂ hok (fun q hq => by
      rcases List.mem_append.mp hq with h | h
      · obtain ⟨e, he, rfl⟩ := List.mem_map.mp h; exact (hea e he).2
      · exact n2 q h) hew lo
end
end
section
section
variable {prog : Program} {w : World} {A₀ : Around} {base h₀ : Heap} {outer : List Env} {L : Addr} {m mg mb : Str → Option Value} {env : Env} {news : List (Addr × Obj)} {p : Program} {loose : List Str} {mean : ExcName → Option Value}
  {R : Result → Shared → Prop} {s : Shared} {d u : Nat} {gs : Option (List Code)}


noncomputable def lawRest (n : Nat) : List Stmt := (fnBody lawDef).drop n
theorem word_chars {kd : Nat → Nat} {whole : Bool} {cs : List Nat} {k k' : Nat} {t t' : List Nat} (h : Word kd whole cs k t k' t') : (∀ c ∈ t, c ∈ cs) → ∀ c ∈ t', c ∈ cs := by
  induction h with
  | fin => exact fun z => z
  | white => exact fun z => z
  | one => exact fun z => z
  | com _ _ _ ih => exact ih
  | add4 h _ _ ih | add8 h _ _ ih | add0 h _ _ _ ih =>
    intro z
    refine ih fun c hc => ?_
    rcases List.mem_append.mp hc with hc | hc
    · exact z c hc
    · rw [List.mem_singleton.mp hc]; exact mem_of_drop h
theorem reads_chars {kd : Nat → Nat} {whole : Bool} {cs : List Nat} {k : Nat} {ts : List (List Nat)} {e : Bool} {f : Nat} (h : Reads kd whole cs k ts e f) : ∀ t ∈ ts, ∀ c ∈ t, c ∈ cs := by
  induction h with
  | fin => intro t ht; cases ht
  | com _ _ _ ih => exact ih
  | unshut => intro t ht; cases ht
  | quote h _ _ _ ih =>
    intro t ht
    rcases List.mem_cons.mp ht with rfl | ht
    · intro c hc
      rcases List.mem_cons.mp hc with rfl | hc
      · exact mem_of_drop h
      · exact List.mem_of_mem_drop (h ▸ List.mem_cons_of_mem _ (List.mem_of_mem_take hc))
    · exact ih t ht
  | one h _ _ _ ih =>
    intro t ht
    rcases List.mem_cons.mp ht with rfl | ht
    · intro c hc; rw [List.mem_singleton.mp hc]; exact mem_of_drop h
    · exact ih t ht
  | white _ _ _ ih => exact ih
  | word4 h _ hw _ _ _ _ ih | word0 h _ _ hw _ _ _ _ ih =>
    intro t ht
    rcases List.mem_cons.mp ht with rfl | ht
    · exact word_chars hw (fun c hc => by rw [List.mem_singleton.mp hc]; exact mem_of_drop h)
    · exact ih t ht
theorem eqv_strs : ∀ ts : List Str, PyData.eqvAll (ts.map PyData.str) (ts.map PyData.str) = true
  | [] => by simp [PyData.eqvAll]
  | a :: r => by simp [PyData.eqvAll, PyData.eqv, eqv_strs r]
theorem lay_strs : ∀ ts : List Str, (∀ t ∈ ts, PyData.strOk t = true) → PyData.canLayAll0 (ts.map PyData.str) = true
  | [], _ => rfl
  | a :: r, h => by
    simp only [List.map_cons, PyData.canLayAll0, PyData.canLay0, Bool.and_eq_true]
    exact ⟨h a (by simp), lay_strs r (fun t ht => h t (by simp [ht]))⟩
theorem depth_strs : ∀ ts : List Str, PyData.depthAll (ts.map PyData.str) = 0
  | [] => rfl
  | a :: r => by simp [PyData.depthAll, PyData.depth, depth_strs r]
theorem tup_eq {A : Around} {E : Value → Shared → Prop} {Q : Value → Shared → Prop} {L : Addr} {news : List (Addr × Obj)} {T1 T2 l1 l2 : Addr} {vs1 vs2 : List Value} {ts : List Str} {c1 c2 : Nat} {v1 v2 v1' v2' : Value} {d1 d2 : PyData}
    (N : News h₀ L s.heap news) (h1 : (T1, ({ cls := .type "tuple", data := .seq #[.ref l1, v1, v2] } : Obj)) ∈ news) (h2 : (T2, ({ cls := .type "tuple", data := .seq #[.ref l2, v1', v2'] } : Obj)) ∈ news)
    (h3 : (l1, listOf (List.toArray vs1) c1) ∈ news) (h4 : (l2, listOf (List.toArray vs2) c2) ∈ news) (a1 : StrsAre vs1 ts) (a2 : StrsAre vs2 ts) (hok : ∀ t ∈ ts, PyData.strOk t = true)
    (r1 : ∀ h, PySem.Reads h v1 d1 []) (r1' : ∀ h, PySem.Reads h v1' d1 []) (r2 : ∀ h, PySem.Reads h v2 d2 []) (r2' : ∀ h, PySem.Reads h v2' d2 []) (e1 : PyData.eqv d1 d1 = true) (e2 : PyData.eqv d2 d2 = true)
    (s1 : d1.canLay0 = true ∧ d1.depth = 0) (s2 : d2.canLay0 = true ∧ d2.depth = 0) (hu : A.units + 64 < cLine) (h : Q (.bool true) s) :
    wpAny (model prog w) A (compareOp .Eq (.ref T1) (.ref T2)) Q E s := by
  have ra : PySem.Reads s.heap (.ref T1) (.tuple [.list (ts.map PyData.str), d1, d2]) _ := reads_tuple_at (N.get h1) rfl rfl (.cons (reads_newData (News.isList N h3) a1.carried) (.cons (r1 _) (.cons (r2 _) .nil)))
  have rb : PySem.Reads s.heap (.ref T2) (.tuple [.list (ts.map PyData.str), d1, d2]) _ := reads_tuple_at (N.get h2) rfl rfl (.cons (reads_newData (News.isList N h4) a2.carried) (.cons (r1' _) (.cons (r2' _) .nil)))
  have hs : SeqAt.shaped (.tuple [.list (ts.map PyData.str), d1, d2]) = true := by
    simp [SeqAt.shaped, PyData.canLay0, PyData.canLayAll0, PyData.depth, PyData.depthAll, lay_strs ts hok, depth_strs, s1, s2]
  refine eq_dataH ra rb hs hs hu ?_
  simp only [PyData.eqv, PyData.eqvAll, eqv_strs, e1, e2, Bool.and_self]
  exact h
theorem cnt_count (c : Nat) : ∀ l : List Nat, cnt c l = ((l.count c : Nat) : Int)
  | [] => rfl
  | a :: r => by
    rw [cnt_cons, cnt_count c r, List.count_cons]
    by_cases h : a = c
    · simp [h]; omega
    · simp [h]
theorem nl_count (cs : List Nat) : Txt.count (tx cs) "\n" = ((cs.count 10 : Nat) : Int) := by
  have e : Str.ofString "\n" = ⟨#[10]⟩ := by decide +kernel
  rw [e, count_cnt, tx_cps, cnt_count]
theorem ln_zero (cs : List Nat) : lnAt cs 0 = 1 := by unfold lnAt; simp
theorem ln_fin {cs : List Nat} {f : Nat} (h : cs.length ≤ f) : lnAt cs f = 1 + ((cs.count 10 : Nat) : Int) + ((f : Nat) : Int) - ((cs.length : Nat) : Int) := by
  unfold lnAt; rw [List.take_of_length_le h]; omega
theorem ln_bad (cs : List Nat) : lnAt cs cs.length = 1 + ((cs.count 10 : Nat) : Int) := by
  unfold lnAt; rw [List.take_length]; omega
theorem news_again {h₀ h : Heap} {L : Addr} {a : Addr × Obj} {l : List (Addr × Obj)} (N : News h₀ L h l) (hm : a ∈ l) : News h₀ L h (a :: l) :=
  news_sub N (fun q hq => (List.mem_cons.mp hq).elim (fun e => e ▸ hm) id)
theorem law15 {kt tv kt2 : Nat → Tok} {S : Sets} {kd : Nat → Nat} {x dx sx dsx pb fs K fa : Addr} {oK : Obj} {kvs : List (Str × Value)} {cs : List Nat} {tn tb ts tl tt tp ttx : Tok} {cd : Value} {cl : List (Str × Addr)} {Q : Flow → Shared → Prop}
    (B : Below ⟨none, d, some outer, gs, u⟩ h₀ outer h₀) (F : Fr h₀ L s.heap m)
    (N : News h₀ L s.heap (lexL w.params kt tv kt2 S x dx sx dsx pb fs cs tn tb (.str (tx [32]) ts) (.int 1 tl) (.str (tx []) tt) (.int ((0 : Nat) : Int) tp) (deqObj [] 0) ((fs, deqObj [] 0) :: (K, oK) :: news)))
    (X : (hd0.heap_1_39 w.params).In h₀) (T : Top p loose mean mg mb h₀)
    (hl1 : m "lex" = some (.ref x)) (hl2 : m "text" = some (.str (tx cs) ttx)) (hl3 : m "kinds" = some (.ref K)) (hl4 : m "whole" = some (.bool S.whole))
    (o1 : @LT.lt Nat _ dx x) (o2 : @LT.lt Nat _ x dsx ∧ @LT.lt Nat _ dsx sx ∧ @LT.lt Nat _ sx pb ∧ @LT.lt Nat _ pb fs) (o3 : ∀ q ∈ (K, oK) :: news, @LT.lt Nat _ q.1 dx)
    (hK : oK.IsDictOf (PySem.strKind prog w) kvs) (hV : ∀ c ∈ cs, ∃ t, valueAt kvs (tx [c]) = some (.int ((kd c : Nat) : Int) t)) (Z : Kinds S kd cs) (hcs : ∀ c ∈ cs, c < 1114112)
    (hb : cs.length ≤ 900) (hq2 : 97 ∉ S.qs) (hq3 : 99 ∉ S.qs) (hs1 : S.ws.length ≤ 100) (hs2 : S.cm.length ≤ 100) (hs3 : S.wc.length ≤ 100) (hs4 : S.qs.length ≤ 100) (hd : d ≤ 440) (hu : u ≤ 40)
    (k : ∀ h' tk m', Fr h₀ L h' m' → Q (.ret (.bool true)) { s with heap := h', toks := tk }) :
    wpAny (model prog w) (Around.deeper ⟨none, d, some outer, gs, u⟩ (lawE L fa cd cl)) (execs (lawRest 15) (lawE L fa cd cl)) Q (fun _ _ => False) s := by
  obtain ⟨all, e, f, TT⟩ := told_all Z _ 0 rfl (Nat.zero_le _)
  have hall : all.length ≤ 1000 := by have := TT.len; omega
  have htk := TT.toks
  rw [ln_zero] at htk
  show wpAny _ _ (execs (Stmt.Assign _ _ _ :: Stmt.Assign _ _ _ :: Stmt.Try _ _ _ _ _ :: [Stmt.Return _ _]) _) _ _ _
  have F₀ := fr_at5 F hl1 hl2 hl3 hl4 hl1
  clear F
  repeat' (first | ((fail_if_success (with_reducible show wpAny _ _ (exec (PySem.Stmt.Try _ _ _ _ _) _) _ _ _)); first | (k_unfold; (try dsimp only)) | walk1 | (dsimp only; walk1)))
  rename Fr h₀ L _ _ => F₁
  rename News h₀ L _ _ => N₁
  rename _ ∧ _ ∧ _ ∧ _ ∧ _ ∧ _ ∧ _ ∧ AllLt _ _ => l3
  rename_i lt _ _ _ _ _ _
  obtain ⟨b1, b2, b3, b4, b5, b6, b7, b8⟩ := l3
  obtain ⟨c1, c2, c3, c4⟩ := o2
  have r1 : ∀ q ∈ (K, oK) :: news, ∀ z, @LE.le Nat _ dx z → q.1 ≠ z := fun q hq z hz => Nat.ne_of_lt (Nat.lt_of_lt_of_le (o3 q hq) hz)
  have N₂ : News h₀ L _ (lexL w.params kt tv kt2 S x dx sx dsx pb fs cs tn tb (.str (tx [32]) ts) (.int 1 tl) (.str (tx []) tt) (.int ((0 : Nat) : Int) tp) (deqObj [] 0) ((fs, deqObj [] 0) :: (lt, listOf #[] 0) :: (K, oK) :: news)) :=
    news_sub N₁ (by repeat' (first | exact sub_nil | (with_reducible exact sub_same) | (with_reducible refine sub_cons ?_ ?_) | (with_reducible exact List.mem_cons_self) | (with_reducible refine List.mem_cons_of_mem _ ?_) | (with_reducible refine sub_more ?_)))
  have ap : ∀ (vals : List Value) (c : Nat), Apart dx x dsx sx pb ((fs, deqObj [] 0) :: (lt, listOf (List.toArray vals) c) :: (K, oK) :: news) := by
    intro vals c
    have rest : ∀ z : Nat, @LE.le Nat _ dx z → @LT.lt Nat _ z fs → ∀ q ∈ (fs, deqObj [] 0) :: (lt, listOf (List.toArray vals) c) :: (K, oK) :: news, q.1 ≠ z := by
      intro z h1 h2 q hq
      rcases List.mem_cons.mp hq with h | hq
      · subst h; exact Nat.ne_of_gt h2
      rcases List.mem_cons.mp hq with h | hq
      · subst h; exact Nat.ne_of_gt (Nat.lt_trans h2 b6)
      · exact r1 q hq z h1
    constructor
    all_goals first | omega | (refine rest _ ?_ ?_ <;> omega)
  have ne : ∀ P vst vln vtok vpos dq, ∀ q ∈ lexL P kt tv kt2 S x dx sx dsx pb fs cs tn tb vst vln vtok vpos dq [(fs, deqObj [] 0)], q.1 ≠ lt := by
    intro P vst vln vtok vpos dq q hq
    simp only [List.mem_cons, List.not_mem_nil, or_false] at hq
    rcases hq with h | h | h | h | h | h <;> subst h <;> exact Nat.ne_of_lt (by assumption)
  refine try_spec (st := some 32) (all := all) (e := e) (lf := lnAt cs f) B F₁ rfl rfl rfl N₂ X T ap ne (fun q hq => r1 q hq lt (Nat.le_of_lt b1)) hb (Nat.zero_le _) (by omega) (by omega) Z.n1 hq2 hq3 hs1 hs2 hs3 hs4 hall htk ?_
  intro h' tk₃ m' vals vst vtok vpos dq tl₃ c F₃ hm' ht1 ht2 N₃ hvals
  have F₄ := fr_at5 F₃ (x₁ := "told") (x₂ := "lex") (x₃ := "text") (x₄ := "kinds") (x₅ := "whole") (by rw [hm' _ (by decide +kernel) (by decide +kernel) (by decide +kernel)]; rfl) (by rw [hm' _ (by decide +kernel) (by decide +kernel) (by decide +kernel)]; rfl) (by rw [hm' _ (by decide +kernel) (by decide +kernel) (by decide +kernel)]; rfl) (by rw [hm' _ (by decide +kernel) (by decide +kernel) (by decide +kernel)]; rfl) (by rw [hm' _ (by decide +kernel) (by decide +kernel) (by decide +kernel)]; rfl)
  have hok : ∀ t ∈ all.map tx, PyData.strOk t = true := by
    intro t ht
    obtain ⟨l, hl, rfl⟩ := List.mem_map.mp ht
    have hc := reads_chars TT.reads l hl
    simp only [PyData.strOk, tx, List.all_toArray, List.all_eq_true, decide_eq_true_eq]
    exact fun c hc' => hcs c (hc c hc')
  clear F₁ N₁ N₂ F₃
  cases e with
  | false =>
    have F₅ := fr_at (x := "trouble") F₄ (if_ne (by decide +kernel) (if_ne (by decide +kernel) (if_ne (by decide +kernel) (if_ne (by decide +kernel) (if_ne (by decide +kernel) (ht1 rfl))))))
    clear F₄
    repeat' (first | ((fail_if_success (with_reducible show wpAny _ _ (call (Value.ref 745) _ _) _ _ _)); first | (k_unfold; (try dsimp only)) | walk1 | (dsimp only; walk1)))
    rename Fr h₀ L _ _ => F₆
    rename News h₀ L _ _ => N₆
    rename_i D₁ _ _
    refine wpAny_call (lr_spec (kd := kd) (whole := S.whole) (K := K) (oK := oK) B F₆ (news_again N₆ (by k_mem)) X T rfl rfl (by (try dsimp only); omega) (by (try dsimp only); omega) hK hV hb hall TT.reads ?_)
    intro h₈ tk₈ tp₂ lt₂ vals₂ c₂ v2 v3 F₈ N₈ nn₈ hvals₂ hres
    rcases hres with ⟨hq, rfl, t₈, rfl⟩ | ⟨hq, ⟨t₇, rfl⟩, t₈, rfl⟩
    · rw [show (1 + Txt.count (tx cs) "\n" + ((f : Nat) : Int) - ((cs.length : Nat) : Int)) = lnAt cs f by rw [nl_count, ln_fin (TT.fin rfl)]] at N₈
      refine tup_eq (l1 := lt) (l2 := lt₂) (ts := all.map tx) (d1 := .none) (d2 := .int (lnAt cs f)) N₈ (by k_mem) (by k_mem) (by k_mem) (by k_mem) hvals hvals₂ hok (fun _ => .none) (fun _ => .none) (fun _ => .int _ _) (fun _ => .int _ _) rfl (by simp [PyData.eqv]) ⟨rfl, rfl⟩ ⟨rfl, rfl⟩ (by first | (show u + 64 < 9900; omega) | (show u + 3 + 64 < 9900; omega)) ?_
      exact k _ _ _ F₈
    · cases hq
  | true =>
    obtain ⟨t₉, ht9⟩ := ht2 rfl
    have F₅ := fr_at (x := "trouble") F₄ (if_ne (by decide +kernel) (if_ne (by decide +kernel) (if_ne (by decide +kernel) (if_ne (by decide +kernel) (if_ne (by decide +kernel) ht9)))))
    clear F₄
    repeat' (first | ((fail_if_success (with_reducible show wpAny _ _ (call (Value.ref 745) _ _) _ _ _)); first | (k_unfold; (try dsimp only)) | walk1 | (dsimp only; walk1)))
    rename Fr h₀ L _ _ => F₆
    rename News h₀ L _ _ => N₆
    rename_i D₁ _ _
    refine wpAny_call (lr_spec (kd := kd) (whole := S.whole) (K := K) (oK := oK) B F₆ (news_again N₆ (by k_mem)) X T rfl rfl (by (try dsimp only); omega) (by (try dsimp only); omega) hK hV hb hall TT.reads ?_)
    intro h₈ tk₈ tp₂ lt₂ vals₂ c₂ v2 v3 F₈ N₈ nn₈ hvals₂ hres
    rcases hres with ⟨hq, rfl, t₈, rfl⟩ | ⟨hq, ⟨t₇, rfl⟩, t₈, rfl⟩
    · cases hq
    · rw [show (1 + Txt.count (tx cs) "\n") = lnAt cs f by rw [nl_count, TT.bad rfl, ln_bad]] at N₈
      refine tup_eq (l1 := lt) (l2 := lt₂) (ts := all.map tx) (d1 := .str "No closing quotation") (d2 := .int (lnAt cs f)) N₈ (by k_mem) (by k_mem) (by k_mem) (by k_mem) hvals hvals₂ hok (fun _ => .str _ _) (fun _ => .str _ _) (fun _ => .int _ _) (fun _ => .int _ _) (by simp [PyData.eqv]) (by simp [PyData.eqv]) ⟨by decide +kernel, rfl⟩ ⟨rfl, rfl⟩ (by first | (show u + 64 < 9900; omega) | (show u + 3 + 64 < 9900; omega)) ?_
      exact k _ _ _ F₈
end
end
section
section
variable {prog : Program} {w : World} {A₀ : Around} {base h₀ : Heap} {outer : List Env} {L : Addr} {m mg mb : Str → Option Value} {env : Env} {news : List (Addr × Obj)} {p : Program} {loose : List Str} {mean : ExcName → Option Value}
  {R : Result → Shared → Prop} {s : Shared} {d u : Nat} {gs : Option (List Code)}

noncomputable def setTx (es : List Ent) (N : Int) : List Nat := (es.filter fun e => (bitsL e.b).any (· == N)).map Ent.c
noncomputable def setP (es : List Ent) (N : Int) (v : Value) : Bool := match v with
  | .str x _ => es.any fun e => decide (tx [e.c] = x) && (bitsL e.b).any (· == N)
  | _ => false
theorem tx_one {a b : Nat} (h : tx [a] = tx [b]) : a = b := by
  have h2 : [a] = [b] := by have := congrArg (fun x => x.cps.toList) h; simpa [tx] using this
  simpa using h2
theorem setP_at {es : List Ent} {N : Int} (hn : (es.map Ent.c).Nodup) {e : Ent} (he : e ∈ es) (t : Tok) : setP es N (.str (tx [e.c]) t) = (bitsL e.b).any (· == N) := by
  show (es.any fun e' => decide (tx [e'.c] = tx [e.c]) && (bitsL e'.b).any (· == N)) = _
  rw [Bool.eq_iff_iff, List.any_eq_true]
  constructor
  · rintro ⟨e', he', h⟩
    rw [Bool.and_eq_true, decide_eq_true_eq] at h
    have hc := tx_one h.1
    have : e' = e := by
      obtain ⟨i, hi, rfl⟩ := List.getElem_of_mem he
      obtain ⟨j, hj, rfl⟩ := List.getElem_of_mem he'
      have h3 : (es.map Ent.c)[j]'(by simpa using hj) = (es.map Ent.c)[i]'(by simpa using hi) := by simpa using hc
      have h4 := (List.getElem_inj hn).mp h3
      subst h4; rfl
    rw [← this]; exact h.2
  · intro h
    exact ⟨e, he, by rw [h]; simp⟩
theorem strs_filter {p : Value → Bool} {q : Str → Bool} (h : ∀ x t, p (.str x t) = q x) : ∀ {vs : List Value} {ts : List Str}, StrsAre vs ts → StrsAre (vs.filter p) (ts.filter q)
  | _, _, .nil => .nil
  | _, _, .cons x t r => by
    have ih := strs_filter h r
    simp only [List.filter_cons, h]
    split
    · exact .cons x t ih
    · exact ih
theorem join_tx : ∀ l : List Nat, Txt.join (Str.ofString "") (l.map fun c => tx [c]) = tx l := by
  intro l
  show Builtin.Str.glued (Str.ofString "") (l.map fun c => tx [c]) = tx l
  rw [StrLaws.glued_eq_join]
  have e : Str.ofString "" = tx [] := by decide +kernel
  rw [e]
  induction l with
  | nil => rfl
  | cons a r ih =>
    cases r with
    | nil => rfl
    | cons b r =>
      show tx [a] ++ tx [] ++ Str.join (tx []) ((b :: r).map fun c => tx [c]) = _
      rw [ih, tx_append, tx_append]; rfl
theorem keys_strs {es : List Ent} {vs : List Value} (hl : vs.length = (es.map Ent.kv).length) (h : ∀ (j : Nat) (v : Value), vs[j]? = some v → ∃ k y, (es.map Ent.kv)[j]? = some (k, y) ∧ (PySem.strKind prog w).is k v = true) :
    StrsAre vs (es.map fun e => tx [e.c]) := by
  induction es generalizing vs with
  | nil =>
    cases vs with
    | nil => exact .nil
    | cons v r => simp at hl
  | cons e es ih =>
    cases vs with
    | nil => simp at hl
    | cons v r =>
      obtain ⟨k, y, h1, h2⟩ := h 0 v rfl
      simp only [List.map_cons, List.getElem?_cons_zero, Option.some.injEq] at h1
      have hk : k = tx [e.c] := (congrArg Prod.fst h1).symm
      subst hk
      have hv : ∃ t, v = .str (tx [e.c]) t := by
        cases v <;> first | cases h2 | skip
        rename_i x t
        have hx : x = tx [e.c] := by simpa [PySem.strKind, Value.isStrOf] using h2
        exact ⟨t, by rw [hx]⟩
      obtain ⟨t, rfl⟩ := hv
      refine .cons _ _ (ih (by simpa using hl) (fun j v hj => ?_))
      exact h (j + 1) v (by simpa using hj)
theorem strs_set {es : List Ent} {N : Int} {vs : List Value} (hn : (es.map Ent.c).Nodup) (h : StrsAre vs (es.map fun e => tx [e.c])) : StrsAre (vs.filter (setP es N)) ((setTx es N).map fun c => tx [c]) := by
  have h2 := strs_filter (p := setP es N) (q := fun x => es.any fun e => decide (tx [e.c] = x) && (bitsL e.b).any (· == N)) (fun _ _ => rfl) h
  have e : (es.map fun e => tx [e.c]).filter (fun x => es.any fun e => decide (tx [e.c] = x) && (bitsL e.b).any (· == N)) = (setTx es N).map fun c => tx [c] := by
    rw [List.filter_map]
    unfold setTx
    rw [List.map_map]
    congr 1
    refine List.filter_congr fun e he => ?_
    exact setP_at hn he 0
  rw [e] at h2; exact h2
local macro_rules | `(tactic| walk_at "subscriptTail") => `(tactic| (k_here; (with_reducible show wpAny _ _ (subscriptTail _ _ (Value.ref _) (Value.str _ _)) _ _ _); refine kda_item (knd := PySem.strKind _ _) (by k_asm) (by k_mem) (by assumption) (strKind_is _ _ _ _) (by assumption) ?_))
local macro_rules | `(tactic| walk_at "compareOp In int ref") => `(tactic| (k_here; k_dflt (refine in_list_ints (News.isList (by assumption) (by assumption)) (by assumption) ?_)))
local macro_rules | `(tactic| walk_at "eval Name") => `(tactic| (k_here; (with_reducible show wpAny _ _ (eval (PySem.Expr.Name _ _) (compEnvC _ _ _ _)) _ _ _); k_dflt (refine ldVarK (by assumption) (by assumption) ?_ (by rfl) (by rfl) (by decide))))
local macro_rules | `(tactic| walk_at "eval Name") => `(tactic| (k_dflt (refine' nameX_C ?N ?c ?m ?d ?_; (case N => k_asm); (case c => rfl); (case m => k_mem); (case d => assumption))))
noncomputable abbrev joinScope : Scope := { kind := .function, names := [(Str.ofString ".0", .local), (Str.ofString "sign", .local), (Str.ofString "sets", .free)], isGenerator := false, isCoroutine := false, more := [] }
theorem nodup_tx : ∀ {l : List Nat}, l.Nodup → (l.map fun c => tx [c]).Nodup
  | [], _ => .nil
  | a :: r, h => by
    rw [List.map_cons, List.nodup_cons] at *
    refine ⟨fun hm => ?_, nodup_tx h.2⟩
    obtain ⟨b, hb, e⟩ := List.mem_map.mp hm
    exact h.1 (tx_one e ▸ hb)
noncomputable abbrev joinLC (N : Int) (k1 : Nat) (p3 p4 p5 p6 p7 p8 p9 p10 p11 : Pos) : PySem.Expr := .ListComp (.Name (Str.ofString "sign") p3) [⟨.Name (Str.ofString "sign") p4, .Name (Str.ofString "sets") p5, [.Compare (.Constant (.int N) k1 p6) [.In] [.Subscript (.Name (Str.ofString "sets") p7) (.Name (Str.ofString "sign") p8) p9] p10], 0⟩] joinScope p11
theorem join_spec {A : Around} {E : Value → Shared → Prop} {Q : Value → Shared → Prop} {N : Int} {k0 : Nat} {p1 p2 p3 p4 p5 p6 p7 p8 p9 p10 p11 p12 : Pos} {fa cA D K : Addr} {cd : Value} {es : List Ent} {oC oD oK : Obj} {tl : List (Addr × Obj)} {k1 : Nat} {pl : Sem Bool}
    (hh : A.handled = none) (F : Fr h₀ L s.heap m) (Nw : News h₀ L s.heap ((cA, oC) :: (D, oD) :: (K, oK) :: tl)) (X : (hd0.heap_1_39 w.params).In h₀) (hC : oC.data = .cell (some (.ref D))) (hD : oD.IsDictOf (PySem.strKind prog w) (es.map Ent.kv)) (hsm : (D == sysModules) = false)
    (hn : es.map Ent.c = signs) (hok : ∀ e ∈ es, e.Ok) (htl : ∀ e ∈ es, e.ob ∈ tl)
    (he : eval (.Call (.Attribute (.Constant (.str (Str.ofString "")) k0 p1) (Str.ofString "join") p2) [joinLC N k1 p3 p4 p5 p6 p7 p8 p9 p10 p11] [] p12) (lawE L fa cd [(Str.ofString "sets", cA)]) = (do
      let ov ← eval (.Constant (.str (Str.ofString "")) k0 p1) (lawE L fa cd [(Str.ofString "sets", cA)])
      standAt p2.atName
      let (f, first) ← holding [ov] (getMethod ov (Str.ofString "join") pl)
      callWith p12 f first (backTo p12 (starEach [joinLC N k1 p3 p4 p5 p6 p7 p8 p9 p10 p11] (lawE L fa cd [(Str.ofString "sets", cA)]))) []))
    (k : ∀ h' tk t', Fr h₀ L h' m → News h₀ L h' ((cA, oC) :: (D, oD) :: (K, oK) :: tl) → Q (.str (tx (setTx es N)) t') { s with heap := h', toks := tk }) :
    wpAny (model prog w) A (eval (.Call (.Attribute (.Constant (.str (Str.ofString "")) k0 p1) (Str.ofString "join") p2) [joinLC N k1 p3 p4 p5 p6 p7 p8 p9 p10 p11] [] p12) (lawE L fa cd [(Str.ofString "sets", cA)])) Q E s := by
  have hnd : (es.map Ent.c).Nodup := by rw [hn]; exact signs_nodup
  have hlen : es.length = 13 := by have := congrArg List.length hn; simpa [signs_len] using this
  have hkn : ((es.map Ent.kv).map (·.1)).Nodup := by
    rw [List.map_map]
    have e : (es.map ((fun x : Str × Value => x.1) ∘ Ent.kv)) = (es.map Ent.c).map (fun c => tx [c]) := by rw [List.map_map]; rfl
    rw [e]
    exact nodup_tx hnd
  refine MethodCall_ ?_ he
  repeat' (first | ((fail_if_success (with_reducible show wpAny _ _ (eval (PySem.Expr.ListComp _ _ _ _) _) _ _ _)); first | (k_unfold; (try dsimp only)) | walk1 | (dsimp only; walk1)))
  refine ListComp_Q (cl := [(Str.ofString "sets", cA)]) (setP es N) (fun v y => y = v) (by with_unfolding_all rfl) (by decide) (by rfl) (by decide) (by rfl) ?_
  refine nameX_C Nw (by rfl) (List.Mem.head _) hC ?_
  obtain ⟨ep, hAt⟩ := (Heap.dictOf_iff.mpr ⟨oD, (Nw (D, oD) (.tail _ (.head _))).1, hD⟩ : s.heap.DictOf (PySem.strKind prog w) D (es.map Ent.kv)).dictAt
  refine' lc_keys (h₀ := h₀) (L := L) (knd := PySem.strKind prog w) (setP es N) (fun v y => y = v) ?hh ?hl ?hs ?hn ?hF ?hN ?_ ?_ ?_
  (case hh => exact hh)
  (case hl => exact hAt)
  (case hs => exact hsm)
  (case hn => rw [List.length_map]; omega)
  (case hF => exact F)
  (case hN => exact Nw)
  · intro C i v k' y s₃ m₃ E' hkv hk hns hx F₃ N₃
    clear F Nw
    obtain ⟨t, rfl⟩ := Value.isStrOf_shape (x := k') (v := v) hk
    have hi : i < es.length := by
      have := (List.getElem?_eq_some_iff.mp hkv).1
      simpa using this
    have he1 : (k', y) = (es[i]).kv := by
      rw [List.getElem?_map, List.getElem?_eq_getElem hi] at hkv
      simpa using hkv.symm
    have hmem : es[i] ∈ es := List.getElem_mem hi
    generalize es[i] = e at he1 hmem
    obtain ⟨rfl, rfl⟩ : k' = tx [e.c] ∧ y = .ref e.a := ⟨congrArg Prod.fst he1, congrArg Prod.snd he1⟩
    have hva := valueAt_of_get hkn hkv
    have hob : (e.a, listOf (List.toArray e.vs) e.n) ∈ (cA, oC) :: (D, oD) :: (K, oK) :: tl := .tail _ (.tail _ (.tail _ (htl e hmem)))
    have hare := (hok e hmem).are
    have hp := setP_at (N := N) hnd hmem t
    refine wpAny_tests_one ?_
    repeat' (first | ((fail_if_success (with_reducible show _ ∧ _)); first | (k_unfold; (try dsimp only)) | walk1 | (dsimp only; walk1)))
    exact ⟨hp.symm, _, _, rfl, fun _ _ e => e⟩
  · intro C i v k' y s₃ m₃ E' hkv hk hp hns hx F₃ N₃
    refine ldVarK hns hx ?_ (by rfl) (by rfl) (by decide)
    exact ⟨rfl, _, _, rfl, fun _ _ e => e⟩
  · intro D' h' tk₈ ys vs c' F₈ N₈ nD hlen' hkeys hP
    have hys := paired_eq hP
    have hst := strs_set (N := N) hnd (keys_strs hlen' hkeys)
    rw [← hys] at hst
    clear F Nw
    repeat' (first | ((fail_if_success (with_reducible show wpAny _ _ (call (Value.builtin "str.join") _ _) _ _ _)); first | (k_unfold; (try dsimp only)) | walk1 | (dsimp only; walk1)))
    have hc := hst.carried
    rw [List.map_map] at hc
    refine KT.join_1 (l := setTx es N) (g := fun c => tx [c]) (News.isList N₈ (.head _)) hc (fun _ _ => rfl) (by unfold setTx; rw [List.length_map]; have := List.length_filter_le (fun e : Ent => (bitsL e.b).any (· == N)) es; omega) ?_
    intro t' k' _
    rw [join_tx]
    exact k _ _ _ F₈ (news_tail N₈)
end
end
section
section
variable {prog : Program} {w : World} {A₀ : Around} {base h₀ : Heap} {outer : List Env} {L : Addr} {m mg mb : Str → Option Value} {env : Env} {news : List (Addr × Obj)} {p : Program} {loose : List Str} {mean : ExcName → Option Value}
  {R : Result → Shared → Prop} {s : Shared} {d u : Nat} {gs : Option (List Code)}

noncomputable def kindOf (es : List Ent) (c : Nat) : Nat := match es.find? (fun e => e.c == c) with
  | some e => ((bitsL e.b).headD 0).toNat
  | none => 0
noncomputable def setsOf (es : List Ent) (whole : Bool) : Sets := ⟨setTx es 1, setTx es 2, setTx es 4, setTx es 8, whole⟩
theorem ent_of {es : List Ent} (hn : es.map Ent.c = signs) {c : Nat} (hc : c ∈ signs) : ∃ e ∈ es, e.c = c ∧ es.find? (fun e => e.c == c) = some e := by
  rw [← hn] at hc
  obtain ⟨e, he, rfl⟩ := List.mem_map.mp hc
  cases h : es.find? (fun e' => e'.c == e.c) with
  | none => have := List.find?_eq_none.mp h e he; simp at this
  | some e' =>
    have h1 := List.find?_some h
    have h2 := List.mem_of_find?_eq_some h
    exact ⟨e', h2, by simpa using h1, rfl⟩
theorem mem_setTx {es : List Ent} {N : Int} (hn : es.map Ent.c = signs) {e : Ent} (he : e ∈ es) : e.c ∈ setTx es N ↔ (bitsL e.b).any (· == N) = true := by
  have hnd : (es.map Ent.c).Nodup := by rw [hn]; exact signs_nodup
  unfold setTx
  constructor
  · intro h
    obtain ⟨e', h', hc⟩ := List.mem_map.mp h
    obtain ⟨h1, h2⟩ := List.mem_filter.mp h'
    have : e' = e := by
      obtain ⟨i, hi, rfl⟩ := List.getElem_of_mem he
      obtain ⟨j, hj, rfl⟩ := List.getElem_of_mem h1
      have h3 : (es.map Ent.c)[j]'(by simpa using hj) = (es.map Ent.c)[i]'(by simpa using hi) := by simpa using hc
      have h4 := (List.getElem_inj hnd).mp h3
      subst h4; rfl
    rw [← this]; exact h2
  · intro h
    exact List.mem_map.mpr ⟨e, List.mem_filter.mpr ⟨he, h⟩, rfl⟩
theorem bits_key : ∀ b : Fin 16, (((bitsL ((b.val : Nat) : Int)).headD 0).toNat = 1 ∧ (bitsL ((b.val : Nat) : Int)).any (· == 1) = true) ∨
    (((bitsL ((b.val : Nat) : Int)).headD 0).toNat = 2 ∧ (bitsL ((b.val : Nat) : Int)).any (· == 1) = false ∧ (bitsL ((b.val : Nat) : Int)).any (· == 2) = true) ∨
    (((bitsL ((b.val : Nat) : Int)).headD 0).toNat = 4 ∧ (bitsL ((b.val : Nat) : Int)).any (· == 1) = false ∧ (bitsL ((b.val : Nat) : Int)).any (· == 2) = false ∧ (bitsL ((b.val : Nat) : Int)).any (· == 4) = true) ∨
    (((bitsL ((b.val : Nat) : Int)).headD 0).toNat = 8 ∧ (bitsL ((b.val : Nat) : Int)).any (· == 1) = false ∧ (bitsL ((b.val : Nat) : Int)).any (· == 2) = false ∧ (bitsL ((b.val : Nat) : Int)).any (· == 4) = false ∧ (bitsL ((b.val : Nat) : Int)).any (· == 8) = true) ∨
    (((bitsL ((b.val : Nat) : Int)).headD 0).toNat = 0 ∧ (bitsL ((b.val : Nat) : Int)).any (· == 1) = false ∧ (bitsL ((b.val : Nat) : Int)).any (· == 2) = false ∧ (bitsL ((b.val : Nat) : Int)).any (· == 4) = false ∧ (bitsL ((b.val : Nat) : Int)).any (· == 8) = false) := by decide +kernel
theorem bits_few : ∀ b : Fin 8, (bitsL ((b.val : Nat) : Int)).any (· == 8) = false := by decide +kernel
theorem few_not {es : List Ent} (hn : es.map Ent.c = signs) (hok : ∀ e ∈ es, e.Ok) {c : Nat} (hc : c = 97 ∨ c = 99 ∨ c = 32) : c ∉ setTx es 8 := by
  have hs : c ∈ signs := by rcases hc with rfl | rfl | rfl <;> decide
  obtain ⟨e, he, rfl, _⟩ := ent_of hn hs
  intro h
  have h1 := (mem_setTx hn he).mp h
  have h2 := (hok e he).few hc
  obtain ⟨n, hb⟩ := Int.eq_ofNat_of_zero_le (hok e he).lo
  have h3 := bits_few ⟨n, by omega⟩
  rw [hb] at h1
  rw [show bitsL ((n : Nat) : Int) = bitsL (((⟨n, by omega⟩ : Fin 8).val : Nat) : Int) from rfl, h3] at h1
  cases h1
theorem kinds_of {es : List Ent} {whole : Bool} (hn : es.map Ent.c = signs) (hok : ∀ e ∈ es, e.Ok) {cs : List Nat} (hcs : ∀ c ∈ cs, c ∈ signs) : Kinds (setsOf es whole) (kindOf es) cs := by
  refine ⟨fun c hc => ?_, few_not hn hok (by omega)⟩
  obtain ⟨e, he, rfl, hf⟩ := ent_of hn (hcs c hc)
  have hk : kindOf es e.c = ((bitsL e.b).headD 0).toNat := by unfold kindOf; rw [hf]
  have m1 := mem_setTx (N := 1) hn he
  have m2 := mem_setTx (N := 2) hn he
  have m4 := mem_setTx (N := 4) hn he
  have m8 := mem_setTx (N := 8) hn he
  obtain ⟨n, hb⟩ := Int.eq_ofNat_of_zero_le (hok e he).lo
  have h16 := (hok e he).hi
  have key := bits_key ⟨n, by omega⟩
  simp only [] at key
  rw [hk]
  rw [← hb] at key
  show (_ ∧ e.c ∈ setTx es 1) ∨ (_ ∧ e.c ∉ setTx es 1 ∧ e.c ∈ setTx es 2) ∨ (_ ∧ e.c ∉ setTx es 1 ∧ e.c ∉ setTx es 2 ∧ e.c ∈ setTx es 4) ∨ (_ ∧ e.c ∉ setTx es 1 ∧ e.c ∉ setTx es 2 ∧ e.c ∉ setTx es 4 ∧ e.c ∈ setTx es 8) ∨ (_ ∧ e.c ∉ setTx es 1 ∧ e.c ∉ setTx es 2 ∧ e.c ∉ setTx es 4 ∧ e.c ∉ setTx es 8)
  rw [m1, m2, m4, m8]
  simp only [Bool.not_eq_true]
  exact key
theorem setTx_len {es : List Ent} {N : Int} (hn : es.map Ent.c = signs) : (setTx es N).length ≤ 100 := by
  have h1 : es.length = 13 := by have := congrArg List.length hn; simpa [signs_len] using this
  unfold setTx; rw [List.length_map]; have := List.length_filter_le (fun e : Ent => (bitsL e.b).any (· == N)) es; omega
end
end
section
section
variable {prog : Program} {w : World} {A₀ : Around} {base h₀ : Heap} {outer : List Env} {L : Addr} {m mg mb : Str → Option Value} {env : Env} {news : List (Addr × Obj)} {p : Program} {loose : List Str} {mean : ExcName → Option Value}
  {R : Result → Shared → Prop} {s : Shared} {d u : Nat} {gs : Option (List Code)}

noncomputable def tv5 (tv : Nat → Tok) (a b c d : Tok) : Nat → Tok
  | 4 => a
  | 5 => b
  | 6 => c
  | 8 => d
  | n => tv n
local macro_rules | `(tactic| walk_at "call ref") => `(tactic| (k_here; (with_reducible show wpAny _ _ (call (Value.ref 722) _ _) _ _ _); k_dflt (refine wpAny_call (mk_spec (by assumption) (by assumption) (by assumption) (by assumption) (by assumption) rfl rfl (by (try dsimp only); omega) (by (try dsimp only); omega) (by assumption) ?_)); intro h' tk' kt' tv' kt2' vcm' vwc' vws' vqs' x' dx' sx' dsx' pb' fs' tn' tb' ts' tl' tt' tp' F' N' l1' l2' l3'))
theorem all6 {es : List Ent} {a b c d e f : Addr × Obj} {l : List (Addr × Obj)} (h : ∀ x ∈ es, Ent.ob x ∈ l) : ∀ x ∈ es, Ent.ob x ∈ a :: b :: c :: d :: e :: f :: l := fun x hx => by simp [h x hx]
local macro_rules | `(tactic| walk_at "eval Call Attribute") => `(tactic| (k_here; (with_reducible show wpAny _ _ (eval (PySem.Expr.Call (PySem.Expr.Attribute (PySem.Expr.Constant _ _ _) _ _) [PySem.Expr.ListComp _ _ _ _] [] _) _) _ _ _); k_dflt (refine join_spec (by rfl) (by assumption) (by assumption) (by assumption) (by assumption) (by assumption) (by assumption) (by assumption) (by assumption) (all6 (by assumption)) (by rfl) ?_); intro h' tk' t' F' N'))
theorem news_lex {h₀ h : Heap} {L : Addr} {a b c d e f g i j : Addr × Obj} {l : List (Addr × Obj)} (N : News h₀ L h (a :: b :: c :: d :: e :: f :: g :: i :: j :: l)) : News h₀ L h (d :: e :: f :: g :: i :: j :: c :: a :: b :: l) :=
  news_sub N (by repeat' (first | exact sub_nil | (with_reducible exact sub_same) | (with_reducible refine sub_cons ?_ ?_) | (with_reducible exact List.mem_cons_self) | (with_reducible refine List.mem_cons_of_mem _ ?_) | (with_reducible refine sub_more ?_)))
theorem signs_lt : ∀ c ∈ signs, c < 1114112 := by decide
theorem law9 {es : List Ent} {whole : Bool} {K cA D fa : Addr} {oC oD oK : Obj} {kvs : List (Str × Value)} {cs : List Nat} {ttx : Tok} {cd : Value} {tl : List (Addr × Obj)} {Q : Flow → Shared → Prop} {E : Value → Shared → Prop}
    (B : Below ⟨none, d, some outer, gs, u⟩ h₀ outer h₀) (F : Fr h₀ L s.heap m) (N : News h₀ L s.heap ((cA, oC) :: (D, oD) :: (K, oK) :: tl))
    (X : (hd0.heap_1_39 w.params).In h₀) (T : Top p loose mean mg mb h₀)
    (hl2 : m "text" = some (.str (tx cs) ttx)) (hl3 : m "kinds" = some (.ref K)) (hl4 : m "whole" = some (.bool whole))
    (hC : oC.data = .cell (some (.ref D))) (hD : oD.IsDictOf (PySem.strKind prog w) (es.map Ent.kv)) (hsm : (D == sysModules) = false) (hn : es.map Ent.c = signs) (hok : ∀ e ∈ es, e.Ok) (htl : ∀ e ∈ es, e.ob ∈ tl)
    (hK : oK.IsDictOf (PySem.strKind prog w) kvs) (hV : ∀ c ∈ signs, ∃ t, valueAt kvs (tx [c]) = some (.int ((kindOf es c : Nat) : Int) t)) (hcs : ∀ c ∈ cs, c ∈ signs)
    (hb : cs.length ≤ 900) (hd : d ≤ 440) (hu : u ≤ 40)
    (k : ∀ h' tk m', Fr h₀ L h' m' → Q (.ret (.bool true)) { s with heap := h', toks := tk }) :
    wpAny (model prog w) (Around.deeper ⟨none, d, some outer, gs, u⟩ (lawE L fa cd [(Str.ofString "sets", cA)])) (execs (lawRest 9) (lawE L fa cd [(Str.ofString "sets", cA)])) Q E s := by
  show wpAny _ _ (execs (Stmt.Assign _ _ _ :: Stmt.Assign _ _ _ :: Stmt.Assign _ _ _ :: Stmt.Assign _ _ _ :: Stmt.Assign _ _ _ :: Stmt.Assign _ _ _ :: lawRest 15) _) _ _ _
  have F₀ := fr_at5 F hl2 hl3 hl4 hl2 hl3
  clear F
  repeat' (first | ((fail_if_success (with_reducible show wpAny _ _ (execs (PySem.Stmt.Assign [PySem.Expr.Attribute _ _ _] _ _ :: _) _) _ _ _)); first | (k_unfold; (try dsimp only)) | walk1 | (dsimp only; walk1)))
  rename_i _ _ kt tv kt2 vcm vwc vws vqs x dx sx dsx pb fs tn tb ts tl₂ tt tp l1 l2 l3 _ F₁ N₁
  have c1 : @LT.lt Nat _ cA dx := l1 (cA, oC) (by simp)
  have c2 : @LT.lt Nat _ D dx := l1 (D, oD) (by simp)
  have c3 : @LT.lt Nat _ K dx := l1 (K, oK) (by simp)
  have nt : ∀ q ∈ tl, q.1 ≠ dx := fun q hq => Nat.ne_of_lt (l1 q (by simp [hq]))
  obtain ⟨c4, c5, c6, c7⟩ := l3
  have N₂ : News h₀ L _ ((cA, oC) :: (D, oD) :: (K, oK) :: (dx, dictOf (lexEs0 w.params kt tv vcm vwc vws (.bool false) vqs sx pb fs (.str (tx [32]) ts) (.int 1 tl₂) (.str (tx []) tt)) 19) :: (x, instObj 722 dx) :: (dsx, dictOf (sioEs w.params kt2 "\n" (tx cs) tn tb (.int ((0 : Nat) : Int) tp)) 3) :: (sx, instObj 587 dsx) :: (pb, deqObj [] 0) :: (fs, deqObj [] 0) :: tl) :=
    news_sub N₁ (by repeat' (first | exact sub_nil | (with_reducible exact sub_same) | (with_reducible refine sub_cons ?_ ?_) | (with_reducible exact List.mem_cons_self) | (with_reducible refine List.mem_cons_of_mem _ ?_) | (with_reducible refine sub_more ?_)))
  clear N₁
  repeat' (first | ((fail_if_success (with_reducible show wpAny _ _ (execs (lawRest _) _) _ _ _)); (fail_if_success (with_reducible show wpAny _ _ (eval (PySem.Expr.ListComp _ _ _ _) _) _ _ _)); first | (k_unfold; (try dsimp only)) | walk1 | (dsimp only; walk1)))
  rename Fr h₀ L _ _ => F₉
  rename News h₀ L _ _ => N₉
  have o3 : ∀ q ∈ (K, oK) :: (cA, oC) :: (D, oD) :: tl, @LT.lt Nat _ q.1 dx := fun q hq => l1 q (by simp only [List.mem_cons] at hq ⊢; rcases hq with h | h | h | h <;> simp [h])
  refine wpAny_mono (law15 (S := setsOf es whole) (kd := kindOf es) (kt := kt) (tv := tv5 tv _ _ _ _) (kt2 := kt2) (K := K) (oK := oK) (news := (cA, oC) :: (D, oD) :: tl) B F₉ (news_lex N₉) X T rfl rfl rfl rfl l2 ⟨c4, c5, c6, c7⟩ o3 hK (fun c hc => hV c (hcs c hc)) (kinds_of hn hok hcs) (fun c hc => signs_lt c (hcs c hc)) hb (few_not hn hok (by omega)) (few_not hn hok (by omega)) (setTx_len hn) (setTx_len hn) (setTx_len hn) (setTx_len hn) hd hu ?_) (fun _ _ z => z) (fun _ _ z => z.elim)
  exact k
end
end
section
section
variable {prog : Program} {w : World} {A₀ : Around} {base h₀ : Heap} {outer : List Env} {L : Addr} {m mg mb : Str → Option Value} {env : Env} {news : List (Addr × Obj)} {p : Program} {loose : List Str} {mean : ExcName → Option Value}
  {R : Result → Shared → Prop} {s : Shared} {d u : Nat} {gs : Option (List Code)}

noncomputable def lits : List Nat := [124, 98, 34, 92, 32, 39, 99, 92, 39, 32, 35, 124, 10, 98, 9, 92, 34, 97]
theorem lits_lit : Str.ofString "|b\"\\ 'c\\' #|\nb\t\\\"a" = tx lits := by decide +kernel
theorem lits_in : ∀ c ∈ lits, c ∈ signs := by decide
noncomputable def sgn (d : Int) : Nat := signs.getD d.toNat 0
theorem sgn_in {d : Int} (h : 0 ≤ d ∧ d < 13) : sgn d ∈ signs := by
  unfold sgn
  have h1 : d.toNat < signs.length := by rw [signs_len]; omega
  rw [List.getD_eq_getElem?_getD, List.getElem?_eq_getElem h1]
  exact List.getElem_mem h1
theorem sgn_drop {n : Nat} (h : n < 13) : ∃ r, signs.drop n = sgn ((n : Nat) : Int) :: r := by
  have h1 : n < signs.length := by rw [signs_len]; omega
  refine ⟨signs.drop (n + 1), ?_⟩
  rw [List.drop_eq_getElem_cons h1]
  unfold sgn
  rw [Int.toNat_natCast, List.getD_eq_getElem?_getD, List.getElem?_eq_getElem h1]
  rfl
theorem dig_strs : ∀ {vs ys : List Value} {ds : List Int}, IntsAre vs ds → Paired (fun v y => ∀ d t, v = Value.int d t → ∃ t', y = .str (tx [sgn d]) t') vs ys → StrsAre ys ((ds.map sgn).map fun c => tx [c])
  | _, _, _, .nil, .nil => .nil
  | _, _, _, .cons n t r, .cons h q => by
    obtain ⟨t', rfl⟩ := h n t rfl
    exact .cons _ _ (dig_strs r q)
theorem iadd_lit {A : Around} {E : Value → Shared → Prop} {a b : List Nat} {x : Str} {t u : Tok} {Q : Value → Shared → Prop} (e : x = tx b) (hz : a.length + b.length ≤ 100000) (h : ∀ t' k, Q (.str (tx (a ++ b)) t') { s with toks := k }) : wpAny (model prog w) A (inplaceOp .Add (.str (tx a) t) (.str x u)) Q E s := by
  subst e; exact iadd_tx hz h
local macro_rules | `(tactic| walk_at "inplaceOp Add str str") => `(tactic| (refine iadd_lit lits_lit (by rw [show lits.length = 18 from rfl]; omega) ?_; intro _ _))
local macro_rules | `(tactic| walk_at "call ref") => `(tactic| (k_here; (with_reducible show wpAny _ _ (call (Value.ref 733) _ _) _ _ _); k_dflt (refine wpAny_call (dg_spec (by assumption) (by assumption) (news_again (by assumption) (by assumption)) (by assumption) (by assumption) rfl rfl (by (try dsimp only); omega) (by (try dsimp only); omega) (by assumption) (by assumption) (by assumption) ?_)); intro h' tk' ld' dvs' ds' cc' F' N' l1' hi' hb' hl1' hl2'))
local macro_rules | `(tactic| walk_at "subscriptTail") => `(tactic| (k_here; (with_reducible show wpAny _ _ (subscriptTail _ _ (Value.str _ _) (Value.int _ _)) _ _ _); k_dflt (refine char_lit signs_lit (by assumption) (by decide) ?_; intro _)))
local macro_rules | `(tactic| walk_at "eval Name") => `(tactic| (k_here; (with_reducible show wpAny _ _ (eval (PySem.Expr.Name _ _) (compEnvC _ _ _ _)) _ _ _); k_dflt (refine ldVarK (by assumption) (by assumption) ?_ (by rfl) (by rfl) (by decide))))
theorem loadX_L {M : Model} {A : Around} {E : Value → Shared → Prop} {cn : Str} {cs : Scope} {a : Addr} {ccd : Value} {cl : List (Str × Addr)} {x : Str} {v : Value} {Q : Value → Shared → Prop} (F : Fr h₀ L s.heap m) (hv : m x = some v) (h : Q v s)
    (hk : cs.kind = .function := by rfl) (hx : (envX cn cs L a ccd cl).kindOf x = some .local := by rfl) : wpAny M A (loadName (envX cn cs L a ccd cl) x) Q E s := wpAny_loadName_local hk hx F.ns hv h
local macro_rules | `(tactic| walk_at "loadName") => `(tactic| (k_dflt (refine loadX_L (by assumption) rfl ?_)))
theorem law6 {es : List Ent} {K cA D fa ln : Addr} {oC oD oK : Obj} {kvs : List (Str × Value)} {hv : Int} {th : Tok} {vs : List Value} {ns : List Int} {c : Nat} {cd : Value} {tl : List (Addr × Obj)} {Q : Flow → Shared → Prop} {E : Value → Shared → Prop}
    (B : Below ⟨none, d, some outer, gs, u⟩ h₀ outer h₀) (F : Fr h₀ L s.heap m) (N : News h₀ L s.heap ((cA, oC) :: (D, oD) :: (K, oK) :: tl))
    (X : (hd0.heap_1_39 w.params).In h₀) (T : Top p loose mean mg mb h₀)
    (hl2 : m "head" = some (.int hv th)) (hl3 : m "kinds" = some (.ref K)) (hl4 : m "numbers" = some (.ref ln)) (hln : (ln, listOf (List.toArray vs) c) ∈ (cA, oC) :: (D, oD) :: (K, oK) :: tl) (hi : IntsAre vs ns) (hne : ns ≠ []) (hnl : ns.length ≤ 100)
    (hC : oC.data = .cell (some (.ref D))) (hD : oD.IsDictOf (PySem.strKind prog w) (es.map Ent.kv)) (hsm : (D == sysModules) = false) (hn : es.map Ent.c = signs) (hok : ∀ e ∈ es, e.Ok) (htl : ∀ e ∈ es, e.ob ∈ tl)
    (hK : oK.IsDictOf (PySem.strKind prog w) kvs) (hV : ∀ c ∈ signs, ∃ t, valueAt kvs (tx [c]) = some (.int ((kindOf es c : Nat) : Int) t))
    (hd : d ≤ 440) (hu : u ≤ 40)
    (k : ∀ h' tk m', Fr h₀ L h' m' → Q (.ret (.bool true)) { s with heap := h', toks := tk }) :
    wpAny (model prog w) (Around.deeper ⟨none, d, some outer, gs, u⟩ (lawE L fa cd [(Str.ofString "sets", cA)])) (execs (lawRest 6) (lawE L fa cd [(Str.ofString "sets", cA)])) Q E s := by
  show wpAny _ _ (execs (Stmt.Assign _ _ _ :: Stmt.Assign _ _ _ :: Stmt.If _ _ _ _ :: lawRest 9) _) _ _ _
  have F₀ := fr_at5 F hl2 hl3 hl4 hl2 hl3
  clear F
  repeat' (first | ((fail_if_success (with_reducible show wpAny _ _ (execs (lawRest _) _) _ _ _)); (fail_if_success (with_reducible show wpAny _ _ (eval (PySem.Expr.ListComp _ _ _ _) _) _ _ _)); first | (k_unfold; (try dsimp only)) | walk1 | (dsimp only; walk1)))
  refine ListComp_Q (cl := []) (fun _ => true) (fun v y => ∀ d t, v = Value.int d t → ∃ t', y = .str (tx [sgn d]) t') (by with_unfolding_all rfl) (by decide) (by rfl) (by decide) (by rfl) ?_
  repeat' (first | ((fail_if_success (with_reducible show wpAny _ _ (pyIter _) _ _ _)); first | (k_unfold; (try dsimp only)) | walk1 | (dsimp only; walk1)))
  rename Fr h₀ L _ _ => F₁
  rename News h₀ L _ _ => N₁
  rename_i ld dvs ds cc _ hds hb hd1 hd2
  have N₂ := news_tail (news_tail N₁)
  refine' lc_list (h₀ := h₀) (L := L) (items := dvs) (fun _ => true) (fun v y => ∀ d t, v = Value.int d t → ∃ t', y = .str (tx [sgn d]) t') ?hh ?hl ?hn ?hF ?hN ?_ ?_ ?_
  (case hh => exact rfl)
  (case hl => exact News.isList N₁ (.head _))
  (case hn => rw [hds.length]; omega)
  (case hF => exact F₁)
  (case hN => exact N₂)
  · intro C i v s₃ m₃ E' hv' hns hx F₃ N₃
    exact wpAny_tests_nil ⟨rfl, s₃.heap, s₃.toks, rfl, fun _ _ e => e⟩
  · intro C i v s₃ m₃ E' hv' _ hns hx F₃ N₃
    clear F₁ N₁ N₂
    obtain ⟨dg, t, rfl, hdg⟩ := IntsAre.at hds i v hv'
    have hmem := List.mem_of_getElem? hdg
    have hbd := hb dg hmem
    obtain ⟨n, rfl⟩ := Int.eq_ofNat_of_zero_le hbd.1
    obtain ⟨r, hdrop⟩ := sgn_drop (n := n) (by omega)
    repeat' (first | ((fail_if_success (with_reducible show _ ∧ _)); first | (k_unfold; (try dsimp only)) | walk1 | (dsimp only; walk1)))
    exact ⟨fun d' t' e => by cases e; exact ⟨_, rfl⟩, _, _, rfl, fun _ _ e => e⟩
  · intro D' h' tk₈ ys c' F₈ N₈ nD hP
    rw [List.filter_eq_self.mpr (fun _ _ => rfl)] at hP
    have hst := dig_strs hds hP
    clear F₁ N₁ N₂
    repeat' (first | ((fail_if_success (with_reducible show wpAny _ _ (call (Value.builtin "str.join") _ _) _ _ _)); first | (k_unfold; (try dsimp only)) | walk1 | (dsimp only; walk1)))
    have hc := hst.carried
    rw [List.map_map] at hc
    refine KT.join_1 (l := ds.map sgn) (g := fun c => tx [c]) (News.isList N₈ (.head _)) hc (fun _ _ => rfl) (by rw [List.length_map]; omega) ?_
    intro t' k' _
    rw [join_tx]
    have hl : (tx (ds.map sgn)).length = ds.length := by rw [tx_length, List.length_map]
    have hl' : (ds.map sgn).length = ds.length := List.length_map ..
    have hin : ∀ c ∈ ds.map sgn, c ∈ signs := by
      intro c hc
      obtain ⟨x, hx, rfl⟩ := List.mem_map.mp hc
      exact sgn_in (hb x hx)
    have N₉ := news_tail N₈
    clear N₈ hP
    repeat' (first | ((fail_if_success (with_reducible show wpAny _ _ (execs (lawRest _) _) _ _ _)); first | (k_unfold; (try dsimp only)) | walk1 | (dsimp only; walk1)))
    all_goals rename Fr h₀ L _ _ => F₉
    all_goals rename News h₀ L _ _ => N₉'
    · refine law9 (cs := ds.map sgn ++ lits) (es := es) (whole := hv.fmod 2 == 1) B F₉ N₉' X T rfl rfl rfl hC hD hsm hn hok htl hK hV (fun c hc => (List.mem_append.mp hc).elim (hin c) (lits_in c)) (by rw [List.length_append, hl', show lits.length = 18 from rfl]; omega) hd hu ?_
      exact k
    · refine law9 (cs := ds.map sgn) (es := es) (whole := hv.fmod 2 == 1) B F₉ N₉' X T rfl rfl rfl hC hD hsm hn hok htl hK hV hin (by omega) hd hu ?_
      exact k
end
end
section
section
variable {prog : Program} {w : World} {A₀ : Around} {base h₀ : Heap} {outer : List Env} {L : Addr} {m mg mb : Str → Option Value} {env : Env} {news : List (Addr × Obj)} {p : Program} {loose : List Str} {mean : ExcName → Option Value}
  {R : Result → Shared → Prop} {s : Shared} {d u : Nat} {gs : Option (List Code)}

theorem bits_head : ∀ b : Fin 16, (bitsL ((b.val : Nat) : Int)).headD 0 = ((((bitsL ((b.val : Nat) : Int)).headD 0).toNat : Nat) : Int) := by decide +kernel
theorem kind_val {es : List Ent} (hn : es.map Ent.c = signs) (hok : ∀ e ∈ es, e.Ok) {e : Ent} (he : e ∈ es) : (bitsL e.b ++ [0]).getD 0 0 = ((kindOf es e.c : Nat) : Int) := by
  have hnd : (es.map Ent.c).Nodup := by rw [hn]; exact signs_nodup
  obtain ⟨e', h', hc, hf⟩ := ent_of hn (c := e.c) (by rw [← hn]; exact List.mem_map.mpr ⟨e, he, rfl⟩)
  have : e' = e := by
    obtain ⟨i, hi, rfl⟩ := List.getElem_of_mem he
    obtain ⟨j, hj, rfl⟩ := List.getElem_of_mem h'
    have h3 : (es.map Ent.c)[j]'(by simpa using hj) = (es.map Ent.c)[i]'(by simpa using hi) := by simpa using hc
    have h4 := (List.getElem_inj hnd).mp h3
    subst h4; rfl
  subst this
  have hk : kindOf es e'.c = ((bitsL e'.b).headD 0).toNat := by unfold kindOf; rw [hf]
  obtain ⟨n, hb⟩ := Int.eq_ofNat_of_zero_le (hok e' he).lo
  have h16 := (hok e' he).hi
  have key := bits_head ⟨n, by omega⟩
  simp only [] at key
  rw [← hb] at key
  rw [hk, ← key]
  cases bitsL e'.b <;> rfl
noncomputable def kdJ (prog : Program) (w : World) (es : List Ent) (K cA D : Addr) (oC oD : Obj) (tl : List (Addr × Obj)) (vh vn : Value) (i : Nat) (m : Str → Option Value) (nx : List (Addr × Obj)) : Prop :=
  ∃ (oK : Obj) (kvs : List (Str × Value)), nx = (K, oK) :: (cA, oC) :: (D, oD) :: tl ∧ oK.IsDictOf (PySem.strKind prog w) kvs ∧ kvs.map (·.1) = (signs.take i).map (fun c => tx [c]) ∧
    (∀ (j : Nat) (c : Nat), j < i → signs[j]? = some c → ∃ t, kvs[j]? = some (tx [c], .int ((kindOf es c : Nat) : Int) t)) ∧ m "head" = some vh ∧ m "numbers" = some vn ∧ m "kinds" = some (.ref K)
local macro_rules | `(tactic| walk_at "subscriptTail") => `(tactic| (k_here; (with_reducible show wpAny _ _ (subscriptTail _ _ (Value.ref _) (Value.str _ _)) _ _ _); refine kda_item (knd := PySem.strKind _ _) (by k_asm) (by k_mem) (by assumption) (strKind_is _ _ _ _) (by assumption) ?_))
theorem bits_size (b : Int) : (bitsL b).length + ([0] : List Int).length ≤ sizeLine := by
  have : (bitsL b).length ≤ 4 := List.length_filter_le ..
  rw [PySem.sizeLine_eq, List.length_singleton]; omega
theorem law4 {es : List Ent} {cA D fa ln : Addr} {oC oD : Obj} {hv : Int} {th : Tok} {vs : List Value} {ns : List Int} {c : Nat} {cd : Value} {tl : List (Addr × Obj)} {Q : Flow → Shared → Prop} {E : Value → Shared → Prop}
    (B : Below ⟨none, d, some outer, gs, u⟩ h₀ outer h₀) (F : Fr h₀ L s.heap m) (N : News h₀ L s.heap ((cA, oC) :: (D, oD) :: tl))
    (X : (hd0.heap_1_39 w.params).In h₀) (T : Top p loose mean mg mb h₀)
    (hl2 : m "head" = some (.int hv th)) (hl4 : m "numbers" = some (.ref ln)) (hln : (ln, listOf (List.toArray vs) c) ∈ tl) (hi : IntsAre vs ns) (hne : ns ≠ []) (hnl : ns.length ≤ 100)
    (hC : oC.data = .cell (some (.ref D))) (hD : oD.IsDictOf (PySem.strKind prog w) (es.map Ent.kv)) (hsm : (D == sysModules) = false) (hn : es.map Ent.c = signs) (hok : ∀ e ∈ es, e.Ok) (htl : ∀ e ∈ es, e.ob ∈ tl)
    (hd : d ≤ 440) (hu : u ≤ 40)
    (hE : PassesOwn (model prog w) (Around.deeper ⟨none, d, some outer, gs, u⟩ (lawE L fa cd [(Str.ofString "sets", cA)])) (lawE L fa cd [(Str.ofString "sets", cA)]) E)
    (k : ∀ h' tk m', Fr h₀ L h' m' → Q (.ret (.bool true)) { s with heap := h', toks := tk }) :
    wpAny (model prog w) (Around.deeper ⟨none, d, some outer, gs, u⟩ (lawE L fa cd [(Str.ofString "sets", cA)])) (execs (lawRest 4) (lawE L fa cd [(Str.ofString "sets", cA)])) Q E s := by
  have hnd : (es.map Ent.c).Nodup := by rw [hn]; exact signs_nodup
  have hlen : es.length = 13 := by have := congrArg List.length hn; simpa [signs_len] using this
  have hkn : ((es.map Ent.kv).map (·.1)).Nodup := by
    rw [List.map_map]
    have e : (es.map ((fun x : Str × Value => x.1) ∘ Ent.kv)) = (es.map Ent.c).map (fun c => tx [c]) := by rw [List.map_map]; rfl
    rw [e]
    exact nodup_tx hnd
  show wpAny _ _ (execs (Stmt.Assign _ _ _ :: Stmt.For _ _ _ _ _ :: lawRest 6) _) _ _ _
  have F₀ := fr_at5 F hl2 hl4 hl2 hl4 hl2
  clear F
  repeat' (first | ((fail_if_success (with_reducible show wpAny _ _ (exec (PySem.Stmt.For _ _ _ _ _) _) _ _ _)); first | (k_unfold; (try dsimp only)) | walk1 | (dsimp only; walk1)))
  rename_i K _ oK _ hK0 _ _ _ l1 _ F₁ N₁ _ _
  obtain ⟨l2, l3, l4⟩ := l1
  have ntl : ∀ q ∈ tl, q.1 ≠ K := fun q hq => Nat.ne_of_lt (tb_ltOf l4 q hq)
  have nDL : D ≠ L := (N₁ (D, oD) (by simp)).2.1
  refine For_invV h₀ (by rfl) (by rfl) ?_ (by intro _; rfl) hE
  refine nameX_C N₁ (by rfl) (.tail _ (.head _)) hC ?_
  obtain ⟨ep, hAt⟩ := (Heap.dictOf_iff.mpr ⟨oD, (N₁ (D, oD) (by simp)).1, hD⟩ : Heap.DictOf (PySem.strKind prog w) _ D (es.map Ent.kv)).dictAt
  refine loop_keys (knd := PySem.strKind prog w) (by rfl) hAt hsm F₁ N₁ nDL (kdJ prog w es K cA D oC oD tl (.int hv th) (.ref ln)) ⟨oK, [], rfl, hK0, rfl, fun j c h => absurd h (Nat.not_lt_zero _), rfl, rfl, rfl⟩ ?_ ?_
  · rintro I i k' y v m₁ nx h₁ tk₁ own hkv hk ⟨oK₂, kvs, rfl, hK₂, hkeys, hvals, hm1, hm2, hm3⟩ hno hown ⟨oI, hoI⟩ F₃ N₃
    clear F₁ N₁
    obtain ⟨t, rfl⟩ := Value.isStrOf_shape (x := k') (v := v) hk
    have hi' : i < es.length := by
      have := (List.getElem?_eq_some_iff.mp hkv).1
      simpa using this
    have he1 : (k', y) = (es[i]).kv := by
      rw [List.getElem?_map, List.getElem?_eq_getElem hi'] at hkv
      simpa using hkv.symm
    have hsc : signs[i]? = some (es[i]).c := by rw [← hn, List.getElem?_map, List.getElem?_eq_getElem hi']; rfl
    have hmem : es[i] ∈ es := List.getElem_mem hi'
    generalize es[i] = e at he1 hmem hsc
    obtain ⟨rfl, rfl⟩ : k' = tx [e.c] ∧ y = .ref e.a := ⟨congrArg Prod.fst he1, congrArg Prod.snd he1⟩
    have hva := valueAt_of_get hkn hkv
    have hare := (hok e hmem).are
    have hob : (e.a, listOf (List.toArray e.vs) e.n) ∈ tl := htl e hmem
    have nK : ∀ q ∈ (cA, oC) :: (D, oD) :: tl ++ own, q.1 ≠ K := by
      intro q hq
      rcases List.mem_append.mp hq with h | h
      · simp only [List.mem_cons] at h
        rcases h with h | h | h
        · subst h; exact Nat.ne_of_lt l2
        · subst h; exact Nat.ne_of_lt l3
        · exact ntl q h
      · rcases hown q h with z | z
        · rw [z]; exact fun z => hno (K, oK₂) (by simp) z.symm
        · rw [z]; exact Nat.ne_of_lt l3
    have neK : e.a ≠ K := ntl _ hob
    have F₄ := fr_at5 F₃ (x₁ := "sign") (x₂ := "head") (x₃ := "numbers") (x₄ := "kinds") (x₅ := "sign") (if_pos rfl) (if_ne (by decide +kernel) hm1) (if_ne (by decide +kernel) hm2) (if_ne (by decide +kernel) hm3) (if_pos rfl)
    simp only [List.cons_append] at N₃ nK
    have N₄ := news_again N₃ (a := (e.a, listOf (List.toArray e.vs) e.n)) (by simp [hob])
    clear F₃ N₃
    repeat' (first | ((fail_if_success (with_reducible show wpAny _ _ (binaryOp _ _ _) _ _ _)); first | (k_unfold; (try dsimp only)) | walk1 | (dsimp only; walk1)))
    rename Fr h₀ L _ _ => F₅
    rename News h₀ L _ _ => N₅
    refine kmk_add_ints F₅ N₅ (News.isList N₅ (.tail _ (.head _))) (News.isList N₅ (.head _)) hare (.cons 0 _ .nil) ?_ (bits_size _)
    intro D₆ us₆ h₆ F₆ N₆ l₆ hI₆
    clear F₅ N₅
    repeat' (first | ((fail_if_success (with_reducible show wpAny _ _ (setItem _ _ _) _ _ _)); first | (k_unfold; (try dsimp only)) | walk1 | (dsimp only; walk1)))
    rename Fr h₀ L _ _ => F₇
    rename News h₀ L _ _ => N₇
    have N₈ : News h₀ L _ ((K, oK₂) :: (cA, oC) :: (D, oD) :: (tl ++ own)) := fun q hq => N₇ q (.tail _ (.tail _ (.tail _ hq)))
    obtain ⟨r, hdrop⟩ : ∃ r, signs.drop i = e.c :: r := by
      have h1 : i < signs.length := by rw [signs_len]; omega
      refine ⟨signs.drop (i + 1), ?_⟩
      rw [List.drop_eq_getElem_cons h1]
      rw [List.getElem?_eq_getElem h1] at hsc
      rw [Option.some.inj hsc]
    obtain ⟨hs1, hs2⟩ := signs_split hdrop
    have hkl : kvs.length = i := by
      have := congrArg List.length hkeys
      rw [List.length_map, List.length_map, List.length_take, signs_len] at this; omega
    have habs : valueAt kvs (tx [e.c]) = none := by
      refine valueAt_none_of_not_mem fun hm => hs2 ?_
      rw [hkeys] at hm
      obtain ⟨b, hb, z⟩ := List.mem_map.mp hm
      exact tx_one z ▸ hb
    refine set_head (knd := PySem.strKind prog w) F₇ N₈ nK hK₂ (strKind_is _ _ _ _) (by omega) ?_
    intro h₉ o₉ F₉ N₉ hD₉
    rw [stored_absent habs, show Int.toNat 0 = 0 from rfl, kind_val hn hok hmem] at hD₉
    clear F₇ N₇ N₈
    repeat' (first | (k_unfold; (try dsimp only)) | walk1 | (dsimp only; walk1))
    refine ⟨rfl, _, _, _, (K, o₉) :: (cA, oC) :: (D, oD) :: tl, rfl, F₉, N₉, ?_, o₉, _, rfl, hD₉, ?_, ?_, rfl, rfl, rfl⟩
    · intro q hq
      rcases List.mem_cons.mp hq with h | h
      · subst h; exact hno (K, oK₂) (by simp)
      · exact hno q (.tail _ h)
    · rw [List.map_append, hkeys, hs1, List.map_append]; rfl
    · intro j c' hj hc'
      rcases Nat.lt_or_ge j i with q | q
      · obtain ⟨t', ht'⟩ := hvals j c' q hc'
        exact ⟨t', by rw [List.getElem?_append_left (by omega)]; exact ht'⟩
      · have : j = i := by omega
        subst this
        rw [hsc] at hc'
        cases hc'
        have key : ∀ (x : Str × Value), (kvs ++ [x])[kvs.length]? = some x := fun x => by simp
        rw [← hkl]
        exact ⟨_, key _⟩
  · rintro m₁ nx h₁ tk₁ ⟨oK₂, kvs, rfl, hK₂, hkeys, hvals, hm1, hm2, hm3⟩ F₃ N₃
    clear F₁ N₁
    rw [List.length_map, hlen] at hkeys hvals
    have hV : ∀ c ∈ signs, ∃ t, valueAt kvs (tx [c]) = some (.int ((kindOf es c : Nat) : Int) t) := by
      intro c hc
      obtain ⟨j, hj, rfl⟩ := List.getElem_of_mem hc
      obtain ⟨t, ht⟩ := hvals j _ (by rw [signs_len] at hj; omega) (List.getElem?_eq_getElem hj)
      refine ⟨t, valueAt_of_get ?_ ht⟩
      rw [hkeys]
      exact nodup_tx signs_nodup
    have N₄ : News h₀ L _ ((cA, oC) :: (D, oD) :: (K, oK₂) :: tl) := news_sub N₃ (by repeat' (first | exact sub_nil | (with_reducible exact sub_same) | (with_reducible refine sub_cons ?_ ?_) | (with_reducible exact List.mem_cons_self) | (with_reducible refine List.mem_cons_of_mem _ ?_) | (with_reducible refine sub_more ?_)))
    walk1
    exact law6 B F₃ N₄ X T hm1 hm3 hm2 (.tail _ (.tail _ (.tail _ hln))) hi hne hnl hC hD hsm hn hok htl hK₂ hV hd hu k
end
end
section
section
variable {prog : Program} {w : World} {A₀ : Around} {base h₀ : Heap} {outer : List Env} {L : Addr} {m mg mb : Str → Option Value} {env : Env} {news : List (Addr × Obj)} {p : Program} {loose : List Str} {mean : ExcName → Option Value}
  {R : Result → Shared → Prop} {s : Shared} {d u : Nat} {gs : Option (List Code)}

theorem law3 {cA fa ln : Addr} {oC : Obj} {ov : Option Value} {hv : Int} {th : Tok} {vs : List Value} {ns : List Int} {c : Nat} {cd : Value} {tl : List (Addr × Obj)} {Q : Flow → Shared → Prop} {E : Value → Shared → Prop}
    (B : Below ⟨none, d, some outer, gs, u⟩ h₀ outer h₀) (F : Fr h₀ L s.heap m) (N : News h₀ L s.heap ((cA, oC) :: tl))
    (X : (hd0.heap_1_39 w.params).In h₀) (T : Top p loose mean mg mb h₀)
    (hl2 : m "head" = some (.int hv th)) (hl4 : m "numbers" = some (.ref ln)) (hln : (ln, listOf (List.toArray vs) c) ∈ tl) (hi : IntsAre vs ns) (hne : ns ≠ []) (hnl : ns.length ≤ 100)
    (hC : oC.data = .cell ov) (ntl : ∀ q ∈ tl, q.1 ≠ cA) (hd : d ≤ 440) (hu : u ≤ 40)
    (hE : PassesOwn (model prog w) (Around.deeper ⟨none, d, some outer, gs, u⟩ (lawE L fa cd [(Str.ofString "sets", cA)])) (lawE L fa cd [(Str.ofString "sets", cA)]) E)
    (k : ∀ h' tk m', Fr h₀ L h' m' → Q (.ret (.bool true)) { s with heap := h', toks := tk }) :
    wpAny (model prog w) (Around.deeper ⟨none, d, some outer, gs, u⟩ (lawE L fa cd [(Str.ofString "sets", cA)])) (execs (lawRest 3) (lawE L fa cd [(Str.ofString "sets", cA)])) Q E s := by
  show wpAny _ _ (execs (Stmt.Assign _ _ _ :: lawRest 4) _) _ _ _
  have F₀ := fr_at5 F hl2 hl4 hl2 hl4 hl2
  clear F
  repeat' (first | ((fail_if_success (with_reducible show wpAny _ _ (call (Value.ref 738) _ _) _ _ _)); first | (k_unfold; (try dsimp only)) | walk1 | (dsimp only; walk1)))
  refine wpAny_call (ds_spec B F₀ N X T rfl rfl (by (try dsimp only); omega) (by (try dsimp only); omega) ?_)
  intro h' tk D oD es F₁ N₁ hn hD hok nD hew lo
  have N₂ : News h₀ L h' ((cA, oC) :: (D, oD) :: (es.map Ent.ob ++ tl)) := news_sub N₁ (fun q hq => by simp only [List.mem_cons, List.mem_append] at hq ⊢; rcases hq with h | h | h | h <;> simp [h])
  have nn : ∀ q ∈ (D, oD) :: (es.map Ent.ob ++ tl), q.1 ≠ cA := by
    intro q hq
    rcases List.mem_cons.mp hq with h | h
    · subst h; exact fun z => nD (cA, oC) (by simp) z.symm
    · rcases List.mem_append.mp h with h | h
      · obtain ⟨e, he, rfl⟩ := List.mem_map.mp h; exact hew e he (cA, oC) (by simp)
      · exact ntl q h
  show wpAny _ _ (storeName (envX _ _ _ _ _ [(Str.ofString "sets", cA)]) (Str.ofString "sets") (.ref D)) _ _ _
  refine storeX_C F₁ N₂ (by rfl) (UpdF.head nn) hC ?_
  intro h₃ oC₃ F₃ N₃ hC₃
  walk1
  show wpAny _ _ (execs (lawRest 4) _) _ _ _
  exact law4 B F₃ N₃ X T rfl rfl (List.mem_append_right _ hln) hi hne hnl hC₃ hD lo hn hok (fun e he => List.mem_append_left _ (List.mem_map.mpr ⟨e, he, rfl⟩)) hd hu hE k
end
theorem news_cell {h₀ h : Heap} {L : Addr} {a b c d e f : Addr × Obj} (N : News h₀ L h [a, b, c, d, e, f]) : News h₀ L h [f, a] :=
  news_sub N (fun q hq => by simp only [List.mem_cons, List.not_mem_nil, or_false] at hq ⊢; rcases hq with h | h <;> simp [h])
theorem law_holds : PySem.Challenge.rw_io0016_01.Holds := Mine.hd0._proof_1_1492 (fun said => Mine.hd0._proof_1_1491 said (by
  k_go0
  all_goals try k_fold
  repeat' (first | ((fail_if_success (with_reducible show wpAny _ _ (execs (PySem.Stmt.Assign [PySem.Expr.Name (Str.ofString "sets") _] _ _ :: _) _) _ _ _)); first | (k_unfold; (try dsimp only)) | walk1 | (dsimp only; walk1)))
  rename Fr _ _ _ _ => FF
  rename News _ _ _ _ => NN
  rename IntsAre _ ([_] ++ _) => hI
  rename Obj.data _ = Data.cell _ => hcl
  rename Below callerA _ _ _ => K0
  rename Frag.In _ _ => KX
  rename Top _ _ _ _ _ _ => TT
  rename ¬ _ < _ => hlen
  rename _ ∧ _ ∧ _ ∧ _ ∧ _ => l5
  refine law3 K0 FF (news_cell NN) KX TT rfl rfl (.head _) hI (by simp) (by simp only [List.length_append, List.length_drop, List.length_cons, List.length_nil]; omega) hcl ?_ (Nat.le_of_ble_eq_true rfl) (Nat.le_of_ble_eq_true rfl) (by passes_own) ?_
  · intro q hq
    rw [List.mem_singleton.mp hq]
    exact Nat.ne_of_gt l5.2.2.2.2
  · intro h₉ tk₉ m₉ F₉
    show GoodW _ _ _ _ _ (.ok (.ret (.bool true))) _
    exact goodW_bool F₉ (by assumption) (raisesW_false (by wrow_none_raised)) (postW_of (X := true) (by first | rfl | wrow_shape) (by first | rfl | wtm_val) rfl) rfl))
end
end Mine
set_option maxHeartbeats 0 in
theorem PySem.Challenge.cw_io0016_01_holds : PySem.Challenge.rw_io0016_01.Holds := by
  exact Mine.law_holds
