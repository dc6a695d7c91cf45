import PyProof.Rows.All
import Wide.All
import OpenK.AllK
import Wide.FinOn
import PySem.Challenge.RW_af0014_01
set_option Elab.async false
set_option maxRecDepth 100000
set_option maxHeartbeats 8000000
set_option linter.unusedSimpArgs false
set_option linter.unusedVariables false
set_option rowWalk.seconds 0
set_option compiler.extract_closed false
set_option pp.maxSteps 600
set_option pp.deepTerms false
section
open PySem PySem.W PyProof.Rows
namespace Mine.H
theorem tw10024117602112712176 : True := trivial
theorem tw10048122536510288276 : True := trivial
theorem tw10189214654799421321 : True := trivial
theorem tw10249814490115622363 : True := trivial
theorem tw1026266498765881889 : True := trivial
theorem tw10303719212126038521 : True := trivial
theorem tw10382355861479666024 : True := trivial
theorem tw1044044533433813465 : True := trivial
theorem tw10468143871477264440 : True := trivial
theorem tw10478236750872731774 : True := trivial
theorem tw10487388238965018219 : True := trivial
theorem tw10519774408298582806 : True := trivial
theorem tw10522124714348958737 : True := trivial
theorem tw10524885614590203937 : True := trivial
theorem tw10564684732634927744 : True := trivial
theorem tw10566543938530697111 : True := trivial
theorem tw10638209073596931254 : True := trivial
theorem tw10672791132772251162 : True := trivial
theorem tw1067809199260065227 : True := trivial
theorem tw1070206939074131632 : True := trivial
theorem tw10712811475541505202 : True := trivial
theorem tw10815900128154462801 : True := trivial
theorem tw1082697553416314732 : True := trivial
theorem tw10829950023255811318 : True := trivial
theorem tw10832117334283490098 : True := trivial
theorem tw10851896423333907079 : True := trivial
theorem tw10856248336321158671 : True := trivial
theorem tw1087542353993971546 : True := trivial
theorem tw10915433473951956121 : True := trivial
theorem tw11002526965876460115 : True := trivial
theorem tw11005626056107566516 : True := trivial
theorem tw11037308700840662653 : True := trivial
theorem tw11093567334052891499 : True := trivial
theorem tw11096710512789683443 : True := trivial
theorem tw11201145967567614530 : True := trivial
theorem tw11216230259113168268 : True := trivial
theorem tw11218937019367048304 : True := trivial
theorem tw11237210163150799107 : True := trivial
theorem tw1126064236021807472 : True := trivial
theorem tw11290828861362121302 : True := trivial
theorem tw11307009238659952010 : True := trivial
theorem tw11369387919631368115 : True := trivial
theorem tw1139015583857507345 : True := trivial
theorem tw11392089341130985141 : True := trivial
theorem tw11394384894297407739 : True := trivial
theorem tw11410545676269044010 : True := trivial
theorem tw11487544959003463004 : True := trivial
theorem tw11489077585534632545 : True := trivial
theorem tw11544833266939001174 : True := trivial
theorem tw1166848645178521890 : True := trivial
theorem tw11680681694609809560 : True := trivial
theorem tw11745828887649897203 : True := trivial
theorem tw11776051994053350551 : True := trivial
theorem tw11849227485020595308 : True := trivial
theorem tw11880089718785681126 : True := trivial
theorem tw11959016415194998927 : True := trivial
theorem tw11976721554538173700 : True := trivial
theorem tw11982557499991947984 : True := trivial
theorem tw11991059961321656093 : True := trivial
theorem tw11991797781371432948 : True := trivial
theorem tw12042388151766740973 : True := trivial
theorem tw12087991990008079065 : True := trivial
theorem tw12166826248012261315 : True := trivial
theorem tw12188098649439029130 : True := trivial
theorem tw12225501172178666677 : True := trivial
theorem tw12232505669723463498 : True := trivial
theorem tw12316623833427048873 : True := trivial
theorem tw12318699986629084970 : True := trivial
theorem tw12341739925653834426 : True := trivial
theorem tw12379396644665652324 : True := trivial
theorem tw1240200423858078810 : True := trivial
theorem tw12404242108655430584 : True := trivial
theorem tw12421324097156365361 : True := trivial
theorem tw12421822056794829879 : True := trivial
theorem tw12469946493616244615 : True := trivial
theorem tw12526017326428209816 : True := trivial
theorem tw12549009706169620511 : True := trivial
theorem tw12564474537325175573 : True := trivial
theorem tw12572612816092253559 : True := trivial
theorem tw12586992360758878756 : True := trivial
theorem tw12706314396460941630 : True := trivial
theorem tw12734979595649344714 : True := trivial
theorem tw12774476197538080614 : True := trivial
theorem tw12817017493615221782 : True := trivial
theorem tw12837193679687171107 : True := trivial
theorem tw12866299203728459746 : True := trivial
theorem tw12889006655198174380 : True := trivial
theorem tw12905634182449364414 : True := trivial
theorem tw12925159398693972155 : True := trivial
theorem tw12945079161057231777 : True := trivial
theorem tw13006973500733042963 : True := trivial
theorem tw13081917050752108697 : True := trivial
theorem tw13137718279688423408 : True := trivial
theorem tw13160279493714077739 : True := trivial
theorem tw13176211995337186993 : True := trivial
theorem tw13234690985978046599 : True := trivial
theorem tw13234731784649470826 : True := trivial
theorem tw13242604541315519725 : True := trivial
theorem tw13245976413636766067 : True := trivial
theorem tw13259304241150633075 : True := trivial
theorem tw13271534035206977766 : True := trivial
theorem tw13291926450000586251 : True := trivial
theorem tw13298497102402028320 : True := trivial
theorem tw13305053473436679664 : True := trivial
theorem tw13357846293662670445 : True := trivial
theorem tw13367093923417790654 : True := trivial
theorem tw13376239339624377408 : True := trivial
theorem tw13385910587031054911 : True := trivial
theorem tw13410667303731949427 : True := trivial
theorem tw13428778572001752133 : True := trivial
theorem tw13449130692115673846 : True := trivial
theorem tw13481891400591574231 : True := trivial
theorem tw13521611238841329915 : True := trivial
theorem tw13568063879666007470 : True := trivial
theorem tw13604946456856591712 : True := trivial
theorem tw13624441318488537770 : True := trivial
theorem tw13685966029777241028 : True := trivial
theorem tw13688026658499735166 : True := trivial
theorem tw13731822829724255905 : True := trivial
theorem tw13733020680151089094 : True := trivial
theorem tw13762293653259554244 : True := trivial
theorem tw13794277211446213541 : True := trivial
theorem tw13799547179023330934 : True := trivial
theorem tw13807882179795296726 : True := trivial
theorem tw13808485830919154019 : True := trivial
theorem tw13856920876259094280 : True := trivial
theorem tw1387100276674717045 : True := trivial
theorem tw13877841108211781239 : True := trivial
theorem tw13927844133288763667 : True := trivial
theorem tw13945563024580883631 : True := trivial
theorem tw1395449932694674122 : True := trivial
theorem tw13966307483644738712 : True := trivial
theorem tw1397065228838608251 : True := trivial
theorem tw13998082439581409076 : True := trivial
theorem tw14014738645529794211 : True := trivial
theorem tw14022055786067370319 : True := trivial
theorem tw14043740802711507215 : True := trivial
theorem tw14065914536894282745 : True := trivial
theorem tw14103638758592599756 : True := trivial
theorem tw14151144549468724973 : True := trivial
theorem tw14181851937149903125 : True := trivial
theorem tw14236616033620897237 : True := trivial
theorem tw14255075166907773859 : True := trivial
theorem tw14328562329439321637 : True := trivial
theorem tw14389109182923934549 : True := trivial
theorem tw14457754673999517566 : True := trivial
theorem tw14500260156771027544 : True := trivial
theorem tw1450965390672281173 : True := trivial
theorem tw14510450912824658880 : True := trivial
theorem tw14576578329387694915 : True := trivial
theorem tw14597590582016632991 : True := trivial
theorem tw14602758140151506874 : True := trivial
theorem tw14629862732667190191 : True := trivial
theorem tw14631057748539045168 : True := trivial
theorem tw14657265034230395566 : True := trivial
theorem tw14684976188556882790 : True := trivial
theorem tw14713755847140046828 : True := trivial
theorem tw14722922928861836746 : True := trivial
theorem tw14729121367585660356 : True := trivial
theorem tw14749394949929219212 : True := trivial
theorem tw1475700431365418462 : True := trivial
theorem tw14770599352852237573 : True := trivial
theorem tw14827046994951191921 : True := trivial
theorem tw14959561501166036581 : True := trivial
theorem tw14960841033975849327 : True := trivial
theorem tw14987115442775412626 : True := trivial
theorem tw1499183596104341959 : True := trivial
theorem tw15169140000527649162 : True := trivial
theorem tw15175974166053407391 : True := trivial
theorem tw15220969451115687236 : True := trivial
theorem tw1526119793680734995 : True := trivial
theorem tw1535305980985658739 : True := trivial
theorem tw15370522044899500232 : True := trivial
theorem tw15380799107387642516 : True := trivial
theorem tw15434289528283814352 : True := trivial
theorem tw15435827245125540159 : True := trivial
theorem tw15457440449735446051 : True := trivial
theorem tw1548292332846825819 : True := trivial
theorem tw15513875988288504268 : True := trivial
theorem tw15519588749245794573 : True := trivial
theorem tw15533398323138463618 : True := trivial
theorem tw15623158590699843437 : True := trivial
theorem tw15679553514116172901 : True := trivial
theorem tw15680256335541229580 : True := trivial
theorem tw15743155762036900284 : True := trivial
theorem tw15786051017130074735 : True := trivial
theorem tw15814823719387290501 : True := trivial
theorem tw15819533247102790034 : True := trivial
theorem tw15964490682682591767 : True := trivial
theorem tw15976001159773064045 : True := trivial
theorem tw16079716203742516872 : True := trivial
theorem tw16106265492901687294 : True := trivial
theorem tw1612568894813006455 : True := trivial
theorem tw16146543820033240956 : True := trivial
theorem tw16221900956993419071 : True := trivial
theorem tw16306167389356464743 : True := trivial
theorem tw16340418450769316477 : True := trivial
theorem tw16341953489406307935 : True := trivial
theorem tw16374255281407925669 : True := trivial
theorem tw16402023634987748470 : True := trivial
theorem tw16413026850378429014 : True := trivial
theorem tw16435335687122780721 : True := trivial
theorem tw1645793453200111461 : True := trivial
theorem tw16484751597554853883 : True := trivial
theorem tw1651612183334447192 : True := trivial
theorem tw16604808599682672125 : True := trivial
theorem tw16630156260061901662 : True := trivial
theorem tw1668536897381735619 : True := trivial
theorem tw16699487657676479277 : True := trivial
theorem tw16700890959679357204 : True := trivial
theorem tw16769145552297941415 : True := trivial
theorem tw16800791966248581899 : True := trivial
theorem tw16801537145884597843 : True := trivial
theorem tw1681685481207032955 : True := trivial
theorem tw16827803472942666909 : True := trivial
theorem tw16830196270657804987 : True := trivial
theorem tw16844970697458064171 : True := trivial
theorem tw16878105778376977937 : True := trivial
theorem tw16878270561938430844 : True := trivial
theorem tw16891662676349481987 : True := trivial
theorem tw17095974768769051027 : True := trivial
theorem tw17130163832665746052 : True := trivial
theorem tw17189533369852061656 : True := trivial
theorem tw17192362575523606165 : True := trivial
theorem tw17210093036115817889 : True := trivial
theorem tw17225790457389372640 : True := trivial
theorem tw17233150297679461645 : True := trivial
theorem tw1724805640590817572 : True := trivial
theorem tw17250244848546958781 : True := trivial
theorem tw17306878821248195432 : True := trivial
theorem tw17335710096922434924 : True := trivial
theorem tw17356084304727052797 : True := trivial
theorem tw17366025025137700835 : True := trivial
theorem tw17373762138401226345 : True := trivial
theorem tw1737963883061089047 : True := trivial
theorem tw1740312871846843248 : True := trivial
theorem tw17423300722351864410 : True := trivial
theorem tw174953626762860791 : True := trivial
theorem tw1749840911650343197 : True := trivial
theorem tw17547757390161430665 : True := trivial
theorem tw17553768826115154290 : True := trivial
theorem tw17741387014534384378 : True := trivial
theorem tw17765929348230534576 : True := trivial
theorem tw17777369619557397158 : True := trivial
theorem tw17787390629429081209 : True := trivial
theorem tw17822220369182670406 : True := trivial
theorem tw17840212096382016268 : True := trivial
theorem tw17871330807004035262 : True := trivial
theorem tw17976802730937135838 : True := trivial
theorem tw18014204318756805781 : True := trivial
theorem tw18027707466267937804 : True := trivial
theorem tw18029208012813788562 : True := trivial
theorem tw1804479662409395139 : True := trivial
theorem tw18134200260987580000 : True := trivial
theorem tw18148110003585895417 : True := trivial
theorem tw1816847163014596620 : True := trivial
theorem tw18191819976793172182 : True := trivial
theorem tw18210552648707970879 : True := trivial
theorem tw18214009485519514757 : True := trivial
theorem tw18222685376090156896 : True := trivial
theorem tw18309394448210347667 : True := trivial
theorem tw1833706500153764274 : True := trivial
theorem tw18344840341311854575 : True := trivial
theorem tw1836811275136236255 : True := trivial
theorem tw18381674736441088145 : True := trivial
theorem tw18393131960589063999 : True := trivial
theorem tw18413081601404557603 : True := trivial
theorem tw18419259934023227594 : True := trivial
theorem tw1868659220700606666 : True := trivial
theorem tw1882726499936142311 : True := trivial
theorem tw188884721064091668 : True := trivial
theorem tw1890797693008075183 : True := trivial
theorem tw1910185610546753406 : True := trivial
theorem tw1917981269243129160 : True := trivial
theorem tw1957291161791280057 : True := trivial
theorem tw2014767188400093185 : True := trivial
theorem tw2026560589202638157 : True := trivial
theorem tw205984049281505755 : True := trivial
theorem tw2062628443987997766 : True := trivial
theorem tw2072882052381833044 : True := trivial
theorem tw2105410466356016901 : True := trivial
theorem tw2150558248190053621 : True := trivial
theorem tw2150981680146345431 : True := trivial
theorem tw2192486537558447727 : True := trivial
theorem tw2206366550142295902 : True := trivial
theorem tw222910124056317107 : True := trivial
theorem tw2233675560511734794 : True := trivial
theorem tw2243978673893574469 : True := trivial
theorem tw2287989465766753757 : True := trivial
theorem tw2375228195670870103 : True := trivial
theorem tw2393548720207411857 : True := trivial
theorem tw2401903642165886233 : True := trivial
theorem tw2423607457601522555 : True := trivial
theorem tw2426337379013280592 : True := trivial
theorem tw2443528792661087899 : True := trivial
theorem tw2473397917894642167 : True := trivial
theorem tw2474325484710284252 : True := trivial
theorem tw2481135157700641057 : True := trivial
theorem tw2507267349748010814 : True := trivial
theorem tw2603844807669345997 : True := trivial
theorem tw2614855576684543005 : True := trivial
theorem tw2759892323229057679 : True := trivial
theorem tw2777972367672539189 : True := trivial
theorem tw2796851340323533664 : True := trivial
theorem tw2809289927189412778 : True := trivial
theorem tw2810043141424870400 : True := trivial
theorem tw2822565422672430247 : True := trivial
theorem tw2829366598313284904 : True := trivial
theorem tw2908334282225118579 : True := trivial
theorem tw2914755398093648931 : True := trivial
theorem tw2949871854256981292 : True := trivial
theorem tw2998030863445767773 : True := trivial
theorem tw3013942900373461616 : True := trivial
theorem tw3053886084007997890 : True := trivial
theorem tw3054360952047996863 : True := trivial
theorem tw3125558753164284821 : True := trivial
theorem tw3238019670676343597 : True := trivial
theorem tw3350355451121204482 : True := trivial
theorem tw3370119476217671264 : True := trivial
theorem tw3388503553575039833 : True := trivial
theorem tw34013167989949568 : True := trivial
theorem tw3445215516601148879 : True := trivial
theorem tw3448517113934973854 : True := trivial
theorem tw3449725589545033547 : True := trivial
theorem tw3506964187071135246 : True := trivial
theorem tw3542641485282386627 : True := trivial
theorem tw3545385432318512718 : True := trivial
theorem tw3634298913330375415 : True := trivial
theorem tw3635110071478047351 : True := trivial
theorem tw3635979649851058076 : True := trivial
theorem tw3649672368314158389 : True := trivial
theorem tw3678723734001695243 : True := trivial
theorem tw3762516758010203146 : True := trivial
theorem tw3796277081326238402 : True := trivial
theorem tw3811418225923320569 : True := trivial
theorem tw3812387606549688138 : True := trivial
theorem tw3832219866261978624 : True := trivial
theorem tw3858568994210759262 : True := trivial
theorem tw386924153796065632 : True := trivial
theorem tw3904663473756116134 : True := trivial
theorem tw3911390728017251810 : True := trivial
theorem tw3944354159746492778 : True := trivial
theorem tw3966208419879214213 : True := trivial
theorem tw4009157736487358521 : True := trivial
theorem tw4039811997339772953 : True := trivial
theorem tw4109217474966504201 : True := trivial
theorem tw4165942271352145321 : True := trivial
theorem tw4189274495739279903 : True := trivial
theorem tw422944018193784601 : True := trivial
theorem tw4344729290741560414 : True := trivial
theorem tw4359934397296361708 : True := trivial
theorem tw4380674551447984130 : True := trivial
theorem tw4380950617516292819 : True := trivial
theorem tw4392222120767704775 : True := trivial
theorem tw4398754479979020027 : True := trivial
theorem tw4400433815284692981 : True := trivial
theorem tw44037615311423795 : True := trivial
theorem tw4416099306220024112 : True := trivial
theorem tw4418551363616599185 : True := trivial
theorem tw4425718971512134474 : True := trivial
theorem tw4430030075741434026 : True := trivial
theorem tw4439152645924687943 : True := trivial
theorem tw4446784571190848074 : True := trivial
theorem tw445125004583134439 : True := trivial
theorem tw4470650231261257126 : True := trivial
theorem tw448019379261652894 : True := trivial
theorem tw4514515705062126531 : True := trivial
theorem tw4529139643604422576 : True := trivial
theorem tw4553489491551871966 : True := trivial
theorem tw4576798378073990950 : True := trivial
theorem tw4577935816884685406 : True := trivial
theorem tw4591842438738979539 : True := trivial
theorem tw4591909349273996201 : True := trivial
theorem tw4648498346024517358 : True := trivial
theorem tw4682546655932666257 : True := trivial
theorem tw4689240671299139811 : True := trivial
theorem tw4789518301381175134 : True := trivial
theorem tw4833116369327591036 : True := trivial
theorem tw4844124109561318984 : True := trivial
theorem tw4896179084054490638 : True := trivial
theorem tw4927995978509099029 : True := trivial
theorem tw4957642948654717256 : True := trivial
theorem tw4957923978440082373 : True := trivial
theorem tw4965089866219602966 : True := trivial
theorem tw4998177834666812178 : True := trivial
theorem tw500676372916200414 : True := trivial
theorem tw5009256615525134353 : True := trivial
theorem tw5059307508516702188 : True := trivial
theorem tw5111211229257774721 : True := trivial
theorem tw5123194171670762632 : True := trivial
theorem tw5134753371953588321 : True := trivial
theorem tw5178817376753315807 : True := trivial
theorem tw5201247527542460659 : True := trivial
theorem tw5288235002585710184 : True := trivial
theorem tw5334734363984775885 : True := trivial
theorem tw535246217094914155 : True := trivial
theorem tw5374583746633732651 : True := trivial
theorem tw5406158299728890491 : True := trivial
theorem tw5430759118430520849 : True := trivial
theorem tw5433642647154119703 : True := trivial
theorem tw547583389742699966 : True := trivial
theorem tw5531827329574808721 : True := trivial
theorem tw5532039235200837506 : True := trivial
theorem tw5533729688661533740 : True := trivial
theorem tw5540582713396490840 : True := trivial
theorem tw5541850275651696957 : True := trivial
theorem tw5558296261523889081 : True := trivial
theorem tw5576924554871416285 : True := trivial
theorem tw5595325941044474145 : True := trivial
theorem tw559729167535289186 : True := trivial
theorem tw5626618001698355002 : True := trivial
theorem tw5793494824932483576 : True := trivial
theorem tw5807915967280751808 : True := trivial
theorem tw5819393207707035189 : True := trivial
theorem tw5824762130544813868 : True := trivial
theorem tw5883468316988900761 : True := trivial
theorem tw5919604751209196607 : True := trivial
theorem tw5965518734529330736 : True := trivial
theorem tw6035398431685006111 : True := trivial
theorem tw6065019746686542162 : True := trivial
theorem tw6110606542698022619 : True := trivial
theorem tw6174661489911415103 : True := trivial
theorem tw6192099682945577520 : True := trivial
theorem tw6230611621580459432 : True := trivial
theorem tw6232139672565394690 : True := trivial
theorem tw6237489157172242952 : True := trivial
theorem tw6248736961503747660 : True := trivial
theorem tw6315057670426424302 : True := trivial
theorem tw6357456044201208740 : True := trivial
theorem tw63935380618062129 : True := trivial
theorem tw641903876572676478 : True := trivial
theorem tw6452264828265343426 : True := trivial
theorem tw6461932545554115580 : True := trivial
theorem tw6486708859206957597 : True := trivial
theorem tw6501721793017320252 : True := trivial
theorem tw6502933516053202070 : True := trivial
theorem tw6537513417555100033 : True := trivial
theorem tw6565936333016611471 : True := trivial
theorem tw6567059909097962615 : True := trivial
theorem tw6599807500183698495 : True := trivial
theorem tw6633740559932759513 : True := trivial
theorem tw672564581196245571 : True := trivial
theorem tw6760111609573002409 : True := trivial
theorem tw6817013052820408683 : True := trivial
theorem tw684626811973280346 : True := trivial
theorem tw688479842616447708 : True := trivial
theorem tw6896857394173393996 : True := trivial
theorem tw6975514098215396894 : True := trivial
theorem tw6986755671809192083 : True := trivial
theorem tw7024805884143406072 : True := trivial
theorem tw7100492515499574399 : True := trivial
theorem tw7222026346244991808 : True := trivial
theorem tw7222762831032768270 : True := trivial
theorem tw7225750762756542299 : True := trivial
theorem tw7259652639621690313 : True := trivial
theorem tw7300229392391318356 : True := trivial
theorem tw7326956904535322537 : True := trivial
theorem tw7373450858443369857 : True := trivial
theorem tw7412916611513079041 : True := trivial
theorem tw747312480422560559 : True := trivial
theorem tw7480065612357750832 : True := trivial
theorem tw750778387730508331 : True := trivial
theorem tw7518264746917845677 : True := trivial
theorem tw7554411656949202465 : True := trivial
theorem tw7588447157297808075 : True := trivial
theorem tw7609332298918836718 : True := trivial
theorem tw7613374028149425748 : True := trivial
theorem tw7629381644451196466 : True := trivial
theorem tw7727380181131428846 : True := trivial
theorem tw7734521377412499259 : True := trivial
theorem tw7781618785662854388 : True := trivial
theorem tw7785592492140651609 : True := trivial
theorem tw7831515605996214751 : True := trivial
theorem tw7863205744393850735 : True := trivial
theorem tw7878817461620281865 : True := trivial
theorem tw7908665920637290272 : True := trivial
theorem tw8144975285727894039 : True := trivial
theorem tw8187173110872566314 : True := trivial
theorem tw8212957383380298022 : True := trivial
theorem tw8217436530241534734 : True := trivial
theorem tw8227246954553335759 : True := trivial
theorem tw8234525282608319187 : True := trivial
theorem tw8260161378051669345 : True := trivial
theorem tw829419987120058918 : True := trivial
theorem tw8302056131155505203 : True := trivial
theorem tw831575597718378968 : True := trivial
theorem tw8327505854992360237 : True := trivial
theorem tw8330586197184200970 : True := trivial
theorem tw8335385896918022271 : True := trivial
theorem tw8362494822095276685 : True := trivial
theorem tw8397743936801048116 : True := trivial
theorem tw8409200407857430651 : True := trivial
theorem tw8440544698117859762 : True := trivial
theorem tw8444269386298471154 : True := trivial
theorem tw8517701266257488670 : True := trivial
theorem tw8557470781069510733 : True := trivial
theorem tw855756237016792454 : True := trivial
theorem tw8591192964448278492 : True := trivial
theorem tw8638114505208569535 : True := trivial
theorem tw8663436601553934437 : True := trivial
theorem tw8705750888731784432 : True := trivial
theorem tw8723848355779283522 : True := trivial
theorem tw8744961294747380838 : True := trivial
theorem tw8783340586996377845 : True := trivial
theorem tw8796117283948993774 : True := trivial
theorem tw8810237374775856755 : True := trivial
theorem tw8813105007354944976 : True := trivial
theorem tw8821342139681595862 : True := trivial
theorem tw8915822658631262296 : True := trivial
theorem tw8947144800589925557 : True := trivial
theorem tw8967080882515684254 : True := trivial
theorem tw9055007901578686335 : True := trivial
theorem tw9074344651565985157 : True := trivial
theorem tw9075064095072918200 : True := trivial
theorem tw9129621213893776497 : True := trivial
theorem tw9136457065886582051 : True := trivial
theorem tw9188830468204997666 : True := trivial
theorem tw9211101420778069755 : True := trivial
theorem tw9220116148720662291 : True := trivial
theorem tw9222977698147617063 : True := trivial
theorem tw9227425764145159251 : True := trivial
theorem tw9251957096642835857 : True := trivial
theorem tw9265099837497792270 : True := trivial
theorem tw9309204987682720588 : True := trivial
theorem tw9378424078966887840 : True := trivial
theorem tw9398534503994663322 : True := trivial
theorem tw9420211086562603435 : True := trivial
theorem tw9454349290322401150 : True := trivial
theorem tw9501849129790420931 : True := trivial
theorem tw9532288425341581767 : True := trivial
theorem tw9565642774043496041 : True := trivial
theorem tw9656928745071316549 : True := trivial
theorem tw9658365749220603870 : True := trivial
theorem tw9664268561001660655 : True := trivial
theorem tw9681699201804679936 : True := trivial
theorem tw9715522667896457060 : True := trivial
theorem tw9788226983724514391 : True := trivial
theorem tw9895693522111524928 : True := trivial
theorem tw9987073611338622612 : True := trivial
end Mine.H
set_option Elab.async true
theorem Mine.H : True := by
  first
  | (have y : True := with_decl_name% Mine.H.hd (have x : ((fun (_ : PySem.Challenge.rw_af0014_01.Holds) => True) (by (set_option Elab.async false in (w_on; o_law; k_head; (case hw => w_witness2))); fail "poison")) := trivial; trivial)
     fail "poison")
  | trivial
set_option Elab.async false
theorem Mine.after : True := trivial
namespace Mine.H
open_top hd for PySem.Challenge.rw_af0014_01
end Mine.H
end
section
namespace Mine
/-- the extended Euclid state of inv -/
def InvS (x n lm hm low high : Int) : Prop :=
  (lm * x - low) % n = 0 ∧ (hm * x - high) % n = 0 ∧ Int.gcd high low = 1 ∧ 1 < high ∧ (0 ≤ lm ∧ hm ≤ 0 ∧ lm * high - hm * low = n ∨ lm ≤ 0 ∧ 0 ≤ hm ∧ hm * low - lm * high = n)

theorem inv_start {x n : Int} (h0 : 0 < x) (hx : x < n) (hg : Int.gcd x n = 1) : InvS x n 1 0 x n := by
  refine ⟨by simp, ?_, by rw [Int.gcd_comm]; exact hg, by omega, .inl ⟨by omega, by omega, by omega⟩⟩
  rw [Int.zero_mul, Int.zero_sub, Int.neg_emod_self]

theorem inv_step {x n lm hm low high r : Int} (h : InvS x n lm hm low high) (hl : 1 < low) (hlt : low < high) (hr : r = high.fdiv low) :
    0 ≤ high - low * r ∧ high - low * r < low ∧ low ≤ n ∧ -n ≤ hm - lm * r ∧ hm - lm * r ≤ n ∧ -n ≤ lm ∧ lm ≤ n ∧ InvS x n (hm - lm * r) lm (high - low * r) low := by
  obtain ⟨h1, h2, h3, h4, h5⟩ := h
  have l0 : 0 ≤ low := by omega
  have l1 : (1 : Int) ≤ low := Int.le_of_lt hl
  have g0 : 0 ≤ high := by omega
  have g1 : (1 : Int) ≤ high := Int.le_of_lt h4
  have hd : r = high / low := by rw [hr]; exact Int.fdiv_eq_ediv_of_nonneg _ l0
  have hm' : high - low * r = high % low := by rw [hd, Int.emod_def]
  have e0 := Int.emod_nonneg high (b := low) (Int.ne_of_gt (Int.lt_trans (by decide) hl))
  have e1 := Int.emod_lt_of_pos high (b := low) (Int.lt_trans (by decide) hl)
  have hr1 : 1 ≤ r := by rw [hd]; exact Int.le_ediv_of_mul_le (Int.lt_trans (by decide) hl) (by omega)
  have r0 : 0 ≤ r := Int.le_trans (by decide) hr1
  have w0 : 0 ≤ high - low * r := hm' ▸ e0
  have g : Int.gcd low (high - low * r) = 1 := by
    rw [Int.gcd_sub_mul_left_right, Int.gcd_comm]; exact h3
  have m1 : ((hm - lm * r) * x - (high - low * r)) % n = 0 := by
    have e : (hm - lm * r) * x - (high - low * r) = (hm * x - high) - (lm * x - low) * r := by grind
    rw [e]
    exact Int.emod_eq_zero_of_dvd (Int.dvd_sub (Int.dvd_of_emod_eq_zero h2) (Int.dvd_trans (Int.dvd_of_emod_eq_zero h1) (Int.dvd_mul_right _ _)))
  rcases h5 with ⟨a, b, c⟩ | ⟨a, b, c⟩
  · have p1 : lm ≤ lm * high := by have := Int.mul_le_mul_of_nonneg_left g1 a; omega
    have p2 : hm * low ≤ 0 := Int.mul_nonpos_of_nonpos_of_nonneg b l0
    have p3 : 0 ≤ lm * r := Int.mul_nonneg a r0
    have c' : lm * (high - low * r) - (hm - lm * r) * low = n := by grind
    have p4 : 0 ≤ lm * (high - low * r) := Int.mul_nonneg a w0
    have p5 : -(hm - lm * r) * 1 ≤ -(hm - lm * r) * low := Int.mul_le_mul_of_nonneg_left l1 (by omega)
    have p6 : -(hm - lm * r) * low = - ((hm - lm * r) * low) := Int.neg_mul _ _
    have p7 : lm * high ≥ lm * low := Int.mul_le_mul_of_nonneg_left (Int.le_of_lt hlt) a
    have hln : low ≤ n := by
      rcases Int.lt_or_eq_of_le a with q | q
      · have : 1 * high ≤ lm * high := Int.mul_le_mul_of_nonneg_right (by omega) g0
        omega
      · have : hm * low = -n := by rw [← q] at c; omega
        rcases Int.lt_or_eq_of_le b with q2 | q2
        · have : low * 1 ≤ low * (-hm) := Int.mul_le_mul_of_nonneg_left (by omega) l0
          have : low * (-hm) = - (hm * low) := by grind
          omega
        · exfalso
          have hn0 : n = 0 := by rw [q2] at this; omega
          rw [hn0, Int.emod_zero, ← q] at h1
          omega
    refine ⟨w0, hm' ▸ e1, hln, by omega, by omega, by omega, by omega, m1, h1, g, by omega, .inr ⟨by omega, a, c'⟩⟩
  · have p1 : -lm * 1 ≤ -lm * high := Int.mul_le_mul_of_nonneg_left g1 (Int.neg_nonneg_of_nonpos a)
    have p1' : -lm * high = -(lm * high) := Int.neg_mul _ _
    have p2 : 0 ≤ hm * low := Int.mul_nonneg b l0
    have p3 : lm * r ≤ 0 := Int.mul_nonpos_of_nonpos_of_nonneg a r0
    have c' : (hm - lm * r) * low - lm * (high - low * r) = n := by grind
    have p4 : lm * (high - low * r) ≤ 0 := Int.mul_nonpos_of_nonpos_of_nonneg a w0
    have p5 : (hm - lm * r) * 1 ≤ (hm - lm * r) * low := Int.mul_le_mul_of_nonneg_left l1 (by omega)
    have hln : low ≤ n := by
      rcases Int.lt_or_eq_of_le a with q | q
      · have : 1 * high ≤ -lm * high := Int.mul_le_mul_of_nonneg_right (by omega) g0
        omega
      · have : hm * low = n := by rw [q] at c; omega
        rcases Int.lt_or_eq_of_le b with q2 | q2
        · have : low * 1 ≤ low * hm := Int.mul_le_mul_of_nonneg_left (by omega) l0
          have : low * hm = hm * low := Int.mul_comm _ _
          omega
        · exfalso
          have hn0 : n = 0 := by rw [← q2] at this; omega
          rw [hn0, Int.emod_zero, q] at h1
          omega
    refine ⟨w0, hm' ▸ e1, hln, by omega, by omega, by omega, by omega, m1, h1, g, by omega, .inl ⟨by omega, a, c'⟩⟩

theorem inv_end {x n lm hm low high y : Int} (h : InvS x n lm hm low high) (hn : 1 < n) (h0 : 0 ≤ low) (hl : low ≤ 1) (hy : y = lm.fmod n) : (y * x) % n = 1 := by
  obtain ⟨h1, h2, h3, h4, h5⟩ := h
  have l1 : low = 1 := by
    rcases Int.lt_or_eq_of_le hl with q | q
    · exfalso
      have : low = 0 := by omega
      rw [this, Int.gcd_zero_right] at h3
      omega
    · exact q
  have e : y = lm % n := by rw [hy]; exact Int.fmod_eq_emod_of_nonneg _ (by omega)
  rw [e, Int.mul_emod, Int.emod_emod_of_dvd _ (Int.dvd_refl n), ← Int.mul_emod]
  rw [l1] at h1
  have q : lm * x = (lm * x - 1) + 1 := by omega
  rw [q, Int.add_emod, h1, Int.zero_add, Int.emod_emod_of_dvd _ (Int.dvd_refl n)]
  exact Int.emod_eq_of_lt (by omega) hn

structure Cv where
  P : Int
  N : Int
  A : Int
  B : Int
  Gx : Int
  Gy : Int
structure Cv.Ok (c : Cv) : Prop where
  p1 : 2 < c.P
  p2 : c.P ≤ 127
  n1 : 5 < c.N
  n2 : c.N ≤ 127
  a1 : 0 ≤ c.A
  a2 : c.A ≤ 6
noncomputable def jdbl (P A x y z : Int) : Int × Int × Int :=
  if y = 0 then (0, 0, 0) else
  let ysq := (y ^ 2).fmod P
  let S := (4 * x * ysq).fmod P
  let M := (3 * x ^ 2 + A * z ^ 4).fmod P
  let nx := (M ^ 2 - 2 * S).fmod P
  let ny := (M * (S - nx) - 8 * ysq ^ 2).fmod P
  let nz := (2 * y * z).fmod P
  (nx, ny, nz)
noncomputable def jadd (P A x1 y1 z1 x2 y2 z2 : Int) : Int × Int × Int :=
  if y1 = 0 then (x2, y2, z2) else
  if y2 = 0 then (x1, y1, z1) else
  let U1 := (x1 * z2 ^ 2).fmod P
  let U2 := (x2 * z1 ^ 2).fmod P
  let S1 := (y1 * z2 ^ 3).fmod P
  let S2 := (y2 * z1 ^ 3).fmod P
  if U1 = U2 then (if S1 ≠ S2 then (0, 0, 1) else jdbl P A x1 y1 z1) else
  let H := U2 - U1
  let R := S2 - S1
  let H2 := (H * H).fmod P
  let H3 := (H * H2).fmod P
  let U1H2 := (U1 * H2).fmod P
  let nx := (R ^ 2 - H3 - 2 * U1H2).fmod P
  let ny := (R * (U1H2 - nx) - S1 * H3).fmod P
  let nz := (H * z1 * z2).fmod P
  (nx, ny, nz)

/-- congruence -/
def Cg (P a b : Int) : Prop := P ∣ a - b
namespace Cg
variable {P a b c d e : Int}
theorem refl : Cg P a a := by unfold Cg; rw [Int.sub_self]; exact Int.dvd_zero _
theorem of_eq (h : a = b) : Cg P a b := h ▸ refl
theorem symm (h : Cg P a b) : Cg P b a := by
  unfold Cg at *
  have : b - a = -(a - b) := by omega
  rw [this]; exact Int.dvd_neg.mpr h
theorem trans (h : Cg P a b) (k : Cg P b c) : Cg P a c := by
  unfold Cg at *
  have : a - c = (a - b) + (b - c) := by omega
  rw [this]; exact Int.dvd_add h k
theorem add (h : Cg P a b) (k : Cg P c d) : Cg P (a + c) (b + d) := by
  unfold Cg at *
  have : a + c - (b + d) = (a - b) + (c - d) := by omega
  rw [this]; exact Int.dvd_add h k
theorem sub (h : Cg P a b) (k : Cg P c d) : Cg P (a - c) (b - d) := by
  unfold Cg at *
  have : a - c - (b - d) = (a - b) - (c - d) := by omega
  rw [this]; exact Int.dvd_sub h k
theorem mul (h : Cg P a b) (k : Cg P c d) : Cg P (a * c) (b * d) := by
  unfold Cg at *
  have : a * c - b * d = (a - b) * c + b * (c - d) := by grind
  rw [this]; exact Int.dvd_add (Int.dvd_trans h (Int.dvd_mul_right _ _)) (Int.dvd_trans k (Int.dvd_mul_left _ _))
theorem pow (h : Cg P a b) : ∀ n : Nat, Cg P (a ^ n) (b ^ n)
  | 0 => by rw [Int.pow_zero, Int.pow_zero]; exact refl
  | n + 1 => by rw [Int.pow_succ, Int.pow_succ]; exact mul (pow h n) h
theorem emod : Cg P (a % P) a := by
  unfold Cg
  have : a % P - a = P * (-(a / P)) := by rw [Int.emod_def, Int.mul_neg]; omega
  rw [this]; exact Int.dvd_mul_right _ _
theorem fmod (h : 0 < P) : Cg P (a.fmod P) a := by
  rw [Int.fmod_eq_emod_of_nonneg _ (by omega)]; exact emod
theorem eq_of (h : Cg P a b) (a0 : 0 ≤ a) (a1 : a < P) (b0 : 0 ≤ b) (b1 : b < P) : a = b := by
  have q := Int.emod_eq_emod_iff_emod_sub_eq_zero.mpr (Int.emod_eq_zero_of_dvd h)
  rw [Int.emod_eq_of_lt a0 a1, Int.emod_eq_of_lt b0 b1] at q
  exact q
theorem emod_eq (h : Cg P a b) : a % P = b % P := Int.emod_eq_emod_iff_emod_sub_eq_zero.mpr (Int.emod_eq_zero_of_dvd h)
theorem of_emod (h : a % P = b % P) : Cg P a b := Int.dvd_of_emod_eq_zero (Int.emod_eq_emod_iff_emod_sub_eq_zero.mp h)
theorem of_dvd (h : (a - b) % P = 0) : Cg P a b := Int.dvd_of_emod_eq_zero h
/-- a factor prime to P goes -/
theorem cancel (g : Int.gcd c P = 1) (h : Cg P (c * a) (c * b)) : Cg P a b := by
  unfold Cg at *
  rw [← Int.mul_sub] at h
  have := Int.dvd_gcd_mul_iff_dvd_mul.mpr h
  rw [Int.gcd_comm, g] at this
  simpa using this
end Cg
theorem fmod_rng {P a : Int} (h : 0 < P) : 0 ≤ a.fmod P ∧ a.fmod P < P := by
  rw [Int.fmod_eq_emod_of_nonneg _ (by omega)]; exact ⟨Int.emod_nonneg _ (by omega), Int.emod_lt_of_pos _ h⟩

abbrev Pr (P : Int) : Prop := ∀ z, 0 < z → z < P → Int.gcd z P = 1
theorem gcd_cg {P a b : Int} (h : Cg P a b) (g : Int.gcd b P = 1) : Int.gcd a P = 1 := by
  obtain ⟨k, hk⟩ := h
  have : a = b + P * k := by omega
  rw [this, Int.gcd_add_mul_left_left]; exact g
theorem gcd_mul {P a b : Int} (g : Int.gcd a P = 1) (k : Int.gcd b P = 1) : Int.gcd (a * b) P = 1 := by
  have h1 : Nat.Coprime a.natAbs P.natAbs := g
  have h2 : Nat.Coprime b.natAbs P.natAbs := k
  show Nat.gcd (a * b).natAbs P.natAbs = 1
  rw [Int.natAbs_mul]
  exact Nat.Coprime.mul_left h1 h2
theorem ne_of_gcd {P a r : Int} (hP : 1 < P) (g : Int.gcd a P = 1) (h : Cg P r a) : r ≠ 0 := by
  intro e
  have := gcd_cg h g
  rw [e, Int.gcd_zero_left] at this
  omega

abbrev pt (T : List (Int × Int)) (i : Int) : Int × Int := T.getD i.toNat (0, 0)

/-- what is asked of a table of multiples -/
structure Good (c : Cv) (T : List (Int × Int)) : Prop where
  ok : c.Ok
  pr : Pr c.P
  prN : Pr c.N
  base : pt T 1 = (c.Gx, c.Gy)
  zero : pt T 0 = (0, 0)
  rng : ∀ i, 0 < i → i < c.N → 0 ≤ (pt T i).1 ∧ (pt T i).1 < c.P ∧ 0 < (pt T i).2 ∧ (pt T i).2 < c.P
  inj : ∀ i j, 0 < i → i < c.N → 0 < j → j < c.N → pt T i = pt T j → i = j
  dbl : ∀ i, 0 < i → i < c.N → 2 * i % c.N ≠ 0 ∧
    Cg c.P ((3 * (pt T i).1 ^ 2 + c.A) ^ 2 - 8 * (pt T i).1 * (pt T i).2 ^ 2) (4 * (pt T i).2 ^ 2 * (pt T (2 * i % c.N)).1) ∧
    Cg c.P ((3 * (pt T i).1 ^ 2 + c.A) * (4 * (pt T i).2 ^ 2 * ((pt T i).1 - (pt T (2 * i % c.N)).1)) - 8 * (pt T i).2 ^ 4) (8 * (pt T i).2 ^ 3 * (pt T (2 * i % c.N)).2)
  add : ∀ i j, 0 < i → i < c.N → 0 < j → j < c.N → (pt T i).1 ≠ (pt T j).1 → (i + j) % c.N ≠ 0 ∧
    Cg c.P (((pt T j).2 - (pt T i).2) ^ 2) (((pt T j).1 - (pt T i).1) ^ 2 * ((pt T j).1 + (pt T i).1 + (pt T ((i + j) % c.N)).1)) ∧
    Cg c.P (((pt T j).2 - (pt T i).2) * ((pt T i).1 - (pt T ((i + j) % c.N)).1)) (((pt T i).2 + (pt T ((i + j) % c.N)).2) * ((pt T j).1 - (pt T i).1))
  opp : ∀ i j, 0 < i → i < c.N → 0 < j → j < c.N → (pt T i).1 = (pt T j).1 → (pt T i).2 ≠ (pt T j).2 → (i + j) % c.N = 0

/-- the Jacobian triple stands for the i-th multiple -/
structure Rep (c : Cv) (T : List (Int × Int)) (i x y z : Int) : Prop where
  i0 : 0 ≤ i
  i1 : i < c.N
  x0 : 0 ≤ x
  x1 : x < c.P
  y0 : 0 ≤ y
  y1 : y < c.P
  z0 : 0 ≤ z
  z1 : z < c.P
  nil : i = 0 → x = 0 ∧ y = 0
  hz : i ≠ 0 → 0 < z
  hx : i ≠ 0 → Cg c.P x ((pt T i).1 * z ^ 2)
  hy : i ≠ 0 → Cg c.P y ((pt T i).2 * z ^ 3)

section
variable {c : Cv} {T : List (Int × Int)}
theorem Rep.y_ne {i x y z : Int} (G : Good c T) (r : Rep c T i x y z) (hi : i ≠ 0) : y ≠ 0 := by
  have hz := r.hz hi
  have gz := G.pr z hz r.z1
  have hr := G.rng i (by have := r.i0; omega) r.i1
  have gy := G.pr _ hr.2.2.1 hr.2.2.2
  have p1 := G.ok.p1
  refine ne_of_gcd (by omega) ?_ (r.hy hi)
  have e : z ^ 3 = z * z * z := by grind
  rw [e]
  exact gcd_mul gy (gcd_mul (gcd_mul gz gz) gz)
theorem Rep.y_iff {i x y z : Int} (G : Good c T) (r : Rep c T i x y z) : y = 0 ↔ i = 0 := by
  constructor
  · intro h
    by_cases q : i = 0
    · exact q
    · exact absurd h (r.y_ne G q)
  · intro h; exact (r.nil h).2

theorem rep_one {i : Int} (G : Good c T) (i0 : 0 ≤ i) (i1 : i < c.N) : Rep c T i (pt T i).1 (pt T i).2 1 := by
  have p1 := G.ok.p1
  by_cases q : i = 0
  · subst q
    have h := G.zero
    rw [h]
    exact ⟨by omega, i1, by decide, by show (0:Int) < _; omega, by decide, by show (0:Int) < _; omega, by omega, by omega, fun _ => ⟨rfl, rfl⟩, fun h => absurd rfl h, fun h => absurd rfl h, fun h => absurd rfl h⟩
  · have hr := G.rng i (by omega) i1
    exact ⟨i0, i1, hr.1, hr.2.1, by omega, hr.2.2.2, by omega, by omega, fun h => absurd h q, fun _ => by omega, fun _ => Cg.of_eq (by grind), fun _ => Cg.of_eq (by grind)⟩
theorem rep_zero (G : Good c T) {z : Int} (z0 : 0 ≤ z) (z1 : z ≤ 1) : Rep c T 0 0 0 z := by
  have p1 := G.ok.p1
  have n1 := G.ok.n1
  exact ⟨by omega, by omega, by omega, by omega, by omega, by omega, by omega, by omega, fun _ => ⟨rfl, rfl⟩, fun h => absurd rfl h, fun h => absurd rfl h, fun h => absurd rfl h⟩

theorem dbl_math {i x y z : Int} (G : Good c T) (r : Rep c T i x y z) :
    Rep c T (2 * i % c.N) (jdbl c.P c.A x y z).1 (jdbl c.P c.A x y z).2.1 (jdbl c.P c.A x y z).2.2 := by
  have p1 := G.ok.p1
  have n1 := G.ok.n1
  by_cases q : i = 0
  · have e := (r.nil q).2
    subst q
    unfold jdbl
    rw [if_pos e]
    exact rep_zero G (by decide) (by decide)
  · have yn := r.y_ne G q
    unfold jdbl
    rw [if_neg yn]
    obtain ⟨d0, d1, d2⟩ := G.dbl i (by have := r.i0; omega) r.i1
    have hr := G.rng i (by have := r.i0; omega) r.i1
    have hx := r.hx q
    have hy := r.hy q
    have hz := r.hz q
    generalize h3 : (pt T (2 * i % c.N)).1 = X3 at d1 d2
    generalize h4 : (pt T (2 * i % c.N)).2 = Y3 at d1 d2
    generalize (pt T i).1 = X at d1 d2 hr hx
    generalize (pt T i).2 = Y at d1 d2 hr hy
    have P0 : 0 < c.P := by omega
    dsimp only
    have f1 : Cg c.P ((y ^ 2).fmod c.P) (Y ^ 2 * z ^ 6) := (Cg.fmod P0).trans ((hy.pow 2).trans (Cg.of_eq (by grind)))
    generalize (y ^ 2).fmod c.P = ysq at *
    have f2 : Cg c.P ((4 * x * ysq).fmod c.P) (4 * X * Y ^ 2 * z ^ 8) := (Cg.fmod P0).trans (((Cg.refl.mul hx).mul f1).trans (Cg.of_eq (by grind)))
    generalize (4 * x * ysq).fmod c.P = S at *
    have f3 : Cg c.P ((3 * x ^ 2 + c.A * z ^ 4).fmod c.P) ((3 * X ^ 2 + c.A) * z ^ 4) := (Cg.fmod P0).trans (((Cg.refl.mul (hx.pow 2)).add Cg.refl).trans (Cg.of_eq (by grind)))
    generalize (3 * x ^ 2 + c.A * z ^ 4).fmod c.P = M at *
    have g4 := fmod_rng (a := M ^ 2 - 2 * S) P0
    have f4 : Cg c.P ((M ^ 2 - 2 * S).fmod c.P) (4 * Y ^ 2 * X3 * z ^ 8) :=
      (Cg.fmod P0).trans (((f3.pow 2).sub (Cg.refl.mul f2)).trans ((Cg.of_eq (by grind)).trans (d1.mul (Cg.refl (a := z ^ 8)))))
    generalize (M ^ 2 - 2 * S).fmod c.P = nx at *
    have g5 := fmod_rng (a := M * (S - nx) - 8 * ysq ^ 2) P0
    have f5 : Cg c.P ((M * (S - nx) - 8 * ysq ^ 2).fmod c.P) (8 * Y ^ 3 * Y3 * z ^ 12) :=
      (Cg.fmod P0).trans (((f3.mul (f2.sub f4)).sub (Cg.refl.mul (f1.pow 2))).trans ((Cg.of_eq (by grind)).trans (d2.mul (Cg.refl (a := z ^ 12)))))
    generalize (M * (S - nx) - 8 * ysq ^ 2).fmod c.P = ny at *
    have g6 := fmod_rng (a := 2 * y * z) P0
    have f6 : Cg c.P ((2 * y * z).fmod c.P) (2 * Y * z ^ 4) := (Cg.fmod P0).trans (((Cg.refl.mul hy).mul Cg.refl).trans (Cg.of_eq (by grind)))
    have n6 : (2 * y * z).fmod c.P ≠ 0 := ne_of_gcd (by omega) (gcd_mul (gcd_mul (G.pr 2 (by omega) (by omega)) (G.pr y (by have := r.y0; omega) r.y1)) (G.pr z hz r.z1)) (Cg.fmod P0)
    generalize (2 * y * z).fmod c.P = nz at *
    refine ⟨Int.emod_nonneg _ (by omega), Int.emod_lt_of_pos _ (by omega), g4.1, g4.2, g5.1, g5.2, g6.1, g6.2, fun h => absurd h d0, fun _ => by omega, fun _ => ?_, fun _ => ?_⟩
    · rw [h3]; exact f4.trans ((Cg.of_eq (by grind)).trans ((Cg.refl (a := X3)).mul (f6.pow 2)).symm)
    · rw [h4]; exact f5.trans ((Cg.of_eq (by grind)).trans ((Cg.refl (a := Y3)).mul (f6.pow 3)).symm)

theorem add_math {i j x1 y1 z1 x2 y2 z2 : Int} (G : Good c T) (r : Rep c T i x1 y1 z1) (k : Rep c T j x2 y2 z2) :
    Rep c T ((i + j) % c.N) (jadd c.P c.A x1 y1 z1 x2 y2 z2).1 (jadd c.P c.A x1 y1 z1 x2 y2 z2).2.1 (jadd c.P c.A x1 y1 z1 x2 y2 z2).2.2 := by
  have p1 := G.ok.p1
  have n1 := G.ok.n1
  have ri0 := r.i0
  have ki0 := k.i0
  unfold jadd
  by_cases qi : i = 0
  · rw [if_pos (r.nil qi).2, qi, Int.zero_add, Int.emod_eq_of_lt k.i0 k.i1]; exact k
  rw [if_neg (r.y_ne G qi)]
  by_cases qj : j = 0
  · rw [if_pos (k.nil qj).2, qj, Int.add_zero, Int.emod_eq_of_lt r.i0 r.i1]; exact r
  rw [if_neg (k.y_ne G qj)]
  have ri := G.rng i (by omega) r.i1
  have rj := G.rng j (by omega) k.i1
  have hx1 := r.hx qi
  have hy1 := r.hy qi
  have hz1 := r.hz qi
  have hx2 := k.hx qj
  have hy2 := k.hy qj
  have hz2 := k.hz qj
  have gz1 := G.pr z1 hz1 r.z1
  have gz2 := G.pr z2 hz2 k.z1
  have P0 : 0 < c.P := by omega
  have f1 : Cg c.P ((x1 * z2 ^ 2).fmod c.P) ((z1 * z2) * (z1 * z2) * (pt T i).1) := (Cg.fmod P0).trans ((hx1.mul Cg.refl).trans (Cg.of_eq (by grind)))
  have f2 : Cg c.P ((x2 * z1 ^ 2).fmod c.P) ((z1 * z2) * (z1 * z2) * (pt T j).1) := (Cg.fmod P0).trans ((hx2.mul Cg.refl).trans (Cg.of_eq (by grind)))
  have f3 : Cg c.P ((y1 * z2 ^ 3).fmod c.P) ((z1 * z2) * (z1 * z2) * (z1 * z2) * (pt T i).2) := (Cg.fmod P0).trans ((hy1.mul Cg.refl).trans (Cg.of_eq (by grind)))
  have f4 : Cg c.P ((y2 * z1 ^ 3).fmod c.P) ((z1 * z2) * (z1 * z2) * (z1 * z2) * (pt T j).2) := (Cg.fmod P0).trans ((hy2.mul Cg.refl).trans (Cg.of_eq (by grind)))
  have g1 := fmod_rng (a := x1 * z2 ^ 2) P0
  have g2 := fmod_rng (a := x2 * z1 ^ 2) P0
  have g3 := fmod_rng (a := y1 * z2 ^ 3) P0
  have g4 := fmod_rng (a := y2 * z1 ^ 3) P0
  have gw2 := gcd_mul (gcd_mul gz1 gz2) (gcd_mul gz1 gz2)
  have gw3 := gcd_mul gw2 (gcd_mul gz1 gz2)
  dsimp only
  generalize (x1 * z2 ^ 2).fmod c.P = U1 at *
  generalize (x2 * z1 ^ 2).fmod c.P = U2 at *
  generalize (y1 * z2 ^ 3).fmod c.P = S1 at *
  generalize (y2 * z1 ^ 3).fmod c.P = S2 at *
  have eX : U1 = U2 ↔ (pt T i).1 = (pt T j).1 := by
    constructor
    · intro h
      exact Cg.eq_of (Cg.cancel gw2 (f1.symm.trans (h ▸ f2))) ri.1 ri.2.1 rj.1 rj.2.1
    · intro h
      exact Cg.eq_of (f1.trans ((Cg.of_eq (by rw [h])).trans f2.symm)) g1.1 g1.2 g2.1 g2.2
  have eY : S1 = S2 ↔ (pt T i).2 = (pt T j).2 := by
    constructor
    · intro h
      exact Cg.eq_of (Cg.cancel gw3 (f3.symm.trans (h ▸ f4))) (by omega) ri.2.2.2 (by omega) rj.2.2.2
    · intro h
      exact Cg.eq_of (f3.trans ((Cg.of_eq (by rw [h])).trans f4.symm)) g3.1 g3.2 g4.1 g4.2
  by_cases qU : U1 = U2
  · rw [if_pos qU]
    have hX := eX.mp qU
    by_cases qS : S1 = S2
    · rw [if_neg (fun h => h qS)]
      have hij := G.inj i j (by omega) r.i1 (by omega) k.i1 (Prod.ext hX (eY.mp qS))
      have e : i + j = 2 * i := by omega
      rw [e]
      exact dbl_math G r
    · rw [if_pos qS, G.opp i j (by omega) r.i1 (by omega) k.i1 hX (fun h => qS (eY.mpr h))]
      exact rep_zero G (by decide) (by decide)
  rw [if_neg qU]
  have qX : (pt T i).1 ≠ (pt T j).1 := fun h => qU (eX.mpr h)
  obtain ⟨d0, d1, d2⟩ := G.add i j (by omega) r.i1 (by omega) k.i1 qX
  generalize h3 : (pt T ((i + j) % c.N)).1 = X3 at d1 d2
  generalize h4 : (pt T ((i + j) % c.N)).2 = Y3 at d1 d2
  have gH : Int.gcd (U2 - U1) c.P = 1 := by
    rcases Int.lt_or_gt_of_ne qU with q | q
    · exact G.pr _ (by omega) (by omega)
    · have := G.pr (U1 - U2) (by omega) (by omega)
      rw [← Int.neg_gcd]
      have e : -(U2 - U1) = U1 - U2 := by omega
      rw [e]; exact this
  generalize (pt T i).1 = X1 at *
  generalize (pt T i).2 = Y1 at *
  generalize (pt T j).1 = X2 at *
  generalize (pt T j).2 = Y2 at *
  have fH : Cg c.P (U2 - U1) ((z1 * z2) ^ 2 * (X2 - X1)) := (f2.sub f1).trans (Cg.of_eq (by grind))
  have fR : Cg c.P (S2 - S1) ((z1 * z2) ^ 3 * (Y2 - Y1)) := (f4.sub f3).trans (Cg.of_eq (by grind))
  generalize U2 - U1 = H at *
  generalize S2 - S1 = R at *
  generalize hw : z1 * z2 = v at *
  clear hx1 hx2 hy1 hy2
  have e2 : Cg c.P ((H * H).fmod c.P) (v ^ 4 * (X2 - X1) ^ 2) := (Cg.fmod P0).trans ((fH.mul fH).trans (Cg.of_eq (by grind)))
  generalize (H * H).fmod c.P = H2 at *
  have e3 : Cg c.P ((H * H2).fmod c.P) (v ^ 6 * (X2 - X1) ^ 3) := (Cg.fmod P0).trans ((fH.mul e2).trans (Cg.of_eq (by grind)))
  generalize (H * H2).fmod c.P = H3 at *
  have e4 : Cg c.P ((U1 * H2).fmod c.P) (v ^ 6 * (X1 * (X2 - X1) ^ 2)) := (Cg.fmod P0).trans ((f1.mul e2).trans (Cg.of_eq (by grind)))
  generalize (U1 * H2).fmod c.P = U1H2 at *
  have b5 := fmod_rng (a := R ^ 2 - H3 - 2 * U1H2) P0
  have e5 : Cg c.P ((R ^ 2 - H3 - 2 * U1H2).fmod c.P) (v ^ 6 * (X3 * (X2 - X1) ^ 2)) := by
    refine (Cg.fmod P0).trans ((((fR.pow 2).sub e3).sub (Cg.refl.mul e4)).trans ?_)
    have h := (Cg.refl (P := c.P) (a := v ^ 6)).mul d1
    have h5 := h.sub (Cg.refl (a := v ^ 6 * ((X2 - X1) ^ 3 + 2 * X1 * (X2 - X1) ^ 2)))
    exact (Cg.of_eq (by grind)).trans (h5.trans (Cg.of_eq (by grind)))
  generalize (R ^ 2 - H3 - 2 * U1H2).fmod c.P = nx at *
  have b6 := fmod_rng (a := R * (U1H2 - nx) - S1 * H3) P0
  have e6 : Cg c.P ((R * (U1H2 - nx) - S1 * H3).fmod c.P) (v ^ 9 * (Y3 * (X2 - X1) ^ 3)) := by
    refine (Cg.fmod P0).trans (((fR.mul (e4.sub e5)).sub (f3.mul e3)).trans ?_)
    have h := (Cg.refl (P := c.P) (a := v ^ 9 * (X2 - X1) ^ 2)).mul d2
    have h5 := h.sub (Cg.refl (a := v ^ 9 * (X2 - X1) ^ 3 * Y1))
    exact (Cg.of_eq (by grind)).trans (h5.trans (Cg.of_eq (by grind)))
  generalize (R * (U1H2 - nx) - S1 * H3).fmod c.P = ny at *
  have b7 := fmod_rng (a := H * z1 * z2) P0
  have e7 : Cg c.P ((H * z1 * z2).fmod c.P) (v ^ 3 * (X2 - X1)) := (Cg.fmod P0).trans ((Cg.of_eq (by rw [Int.mul_assoc, hw])).trans ((fH.mul (Cg.refl (a := v))).trans (Cg.of_eq (by grind))))
  have n7 : (H * z1 * z2).fmod c.P ≠ 0 := ne_of_gcd (by omega) (gcd_mul (gcd_mul gH gz1) gz2) (Cg.fmod P0)
  generalize (H * z1 * z2).fmod c.P = nz at *
  refine ⟨Int.emod_nonneg _ (by omega), Int.emod_lt_of_pos _ (by omega), b5.1, b5.2, b6.1, b6.2, b7.1, b7.2, fun h => absurd h d0, fun _ => Int.lt_iff_le_and_ne.mpr ⟨b7.1, Ne.symm n7⟩, fun _ => ?_, fun _ => ?_⟩
  · rw [h3]; exact e5.trans ((Cg.of_eq (by grind)).trans ((Cg.refl (a := X3)).mul (e7.pow 2)).symm)
  · rw [h4]; exact e6.trans ((Cg.of_eq (by grind)).trans ((Cg.refl (a := Y3)).mul (e7.pow 3)).symm)

theorem same_math {i j x1 y1 z1 x2 y2 z2 : Int} (G : Good c T) (r : Rep c T i x1 y1 z1) (k : Rep c T j x2 y2 z2) (h1 : y1 ≠ 0) (h2 : y2 ≠ 0)
    (hU : (x1 * z2 ^ 2).fmod c.P = (x2 * z1 ^ 2).fmod c.P) (hS : (y1 * z2 ^ 3).fmod c.P = (y2 * z1 ^ 3).fmod c.P) : i = j := by
  have p1 := G.ok.p1
  have ri0 := r.i0
  have ki0 := k.i0
  have qi : i ≠ 0 := fun h => h1 (r.nil h).2
  have qj : j ≠ 0 := fun h => h2 (k.nil h).2
  have ri := G.rng i (by omega) r.i1
  have rj := G.rng j (by omega) k.i1
  have gz1 := G.pr z1 (r.hz qi) r.z1
  have gz2 := G.pr z2 (k.hz qj) k.z1
  have P0 : 0 < c.P := by omega
  have f1 : Cg c.P ((x1 * z2 ^ 2).fmod c.P) ((z1 * z2) * (z1 * z2) * (pt T i).1) := (Cg.fmod P0).trans (((r.hx qi).mul Cg.refl).trans (Cg.of_eq (by grind)))
  have f2 : Cg c.P ((x2 * z1 ^ 2).fmod c.P) ((z1 * z2) * (z1 * z2) * (pt T j).1) := (Cg.fmod P0).trans (((k.hx qj).mul Cg.refl).trans (Cg.of_eq (by grind)))
  have f3 : Cg c.P ((y1 * z2 ^ 3).fmod c.P) ((z1 * z2) * (z1 * z2) * (z1 * z2) * (pt T i).2) := (Cg.fmod P0).trans (((r.hy qi).mul Cg.refl).trans (Cg.of_eq (by grind)))
  have f4 : Cg c.P ((y2 * z1 ^ 3).fmod c.P) ((z1 * z2) * (z1 * z2) * (z1 * z2) * (pt T j).2) := (Cg.fmod P0).trans (((k.hy qj).mul Cg.refl).trans (Cg.of_eq (by grind)))
  have gw2 := gcd_mul (gcd_mul gz1 gz2) (gcd_mul gz1 gz2)
  have gw3 := gcd_mul gw2 (gcd_mul gz1 gz2)
  exact G.inj i j (by omega) r.i1 (by omega) k.i1 (Prod.ext (Cg.eq_of (Cg.cancel gw2 (f1.symm.trans (hU ▸ f2))) ri.1 ri.2.1 rj.1 rj.2.1) (Cg.eq_of (Cg.cancel gw3 (f3.symm.trans (hS ▸ f4))) (by omega) ri.2.2.2 (by omega) rj.2.2.2))

/-- back from a Jacobian triple -/
theorem from_math {i x y z zi : Int} (G : Good c T) (r : Rep c T i x y z) (h : z ≠ 0 → (zi * z) % c.P = 1) :
    (x * zi ^ 2).fmod c.P = (pt T i).1 ∧ (y * zi ^ 3).fmod c.P = (pt T i).2 := by
  have p1 := G.ok.p1
  have P0 : 0 < c.P := by omega
  by_cases q : i = 0
  · obtain ⟨e1, e2⟩ := r.nil q
    rw [e1, e2, q, G.zero, Int.zero_mul, Int.zero_mul, Int.zero_fmod]
    exact ⟨rfl, rfl⟩
  · have hz := r.hz q
    have hr := G.rng i (by have := r.i0; omega) r.i1
    have e : Cg c.P (zi * z) 1 := Cg.of_emod (by rw [h (by omega), Int.emod_eq_of_lt (by decide) (by omega)])
    have g1 := fmod_rng (a := x * zi ^ 2) P0
    have g2 := fmod_rng (a := y * zi ^ 3) P0
    refine ⟨Cg.eq_of ((Cg.fmod P0).trans ?_) g1.1 g1.2 hr.1 hr.2.1, Cg.eq_of ((Cg.fmod P0).trans ?_) g2.1 g2.2 (by omega) hr.2.2.2⟩
    · exact ((r.hx q).mul Cg.refl).trans ((Cg.of_eq (by grind)).trans (((Cg.refl (a := (pt T i).1)).mul (e.pow 2)).trans (Cg.of_eq (by grind))))
    · exact ((r.hy q).mul Cg.refl).trans ((Cg.of_eq (by grind)).trans (((Cg.refl (a := (pt T i).2)).mul (e.pow 3)).trans (Cg.of_eq (by grind))))
end

section
variable {N : Int}
/-- two shares: any two give the secret again -/
theorem lag2 {c0 c1 p q a b y v0 v1 : Int} (prN : Pr N) (hN : 5 < N) (hp0 : 0 < p) (hp1 : p < 6) (hq0 : 0 < q) (hq1 : q < 6) (ne : p ≠ q)
    (ha : Cg N (a * (q - p)) 1) (hb : Cg N (b * (p - q)) 1) (hy : Cg N y (0 + v0 * q * a + v1 * p * b)) : Cg N ((q - p) * y) (v0 * q - v1 * p) := by
  have h1 := (Cg.refl (a := (q - p))).mul hy
  have h2 := (Cg.refl (a := v0 * q)).mul ha
  have h3 := (Cg.refl (a := v1 * p)).mul hb
  exact h1.trans ((Cg.of_eq (by grind)).trans ((h2.sub h3).trans (Cg.of_eq (by grind))))
theorem gcd_sub {p q : Int} (prN : Pr N) (hN : 5 < N) (hp0 : 0 < p) (hp1 : p < 6) (hq0 : 0 < q) (hq1 : q < 6) (ne : p ≠ q) : Int.gcd (q - p) N = 1 := by
  rcases Int.lt_or_gt_of_ne ne with h | h
  · exact prN _ (by omega) (by omega)
  · have := prN (p - q) (by omega) (by omega)
    rw [← Int.neg_gcd, show -(q - p) = p - q by omega]; exact this
theorem lag2_right {c0 c1 p q a b y v0 v1 : Int} (prN : Pr N) (hN : 5 < N) (hp0 : 0 < p) (hp1 : p < 6) (hq0 : 0 < q) (hq1 : q < 6) (ne : p ≠ q)
    (ha : Cg N (a * (q - p)) 1) (hb : Cg N (b * (p - q)) 1) (hy : Cg N y (0 + v0 * q * a + v1 * p * b)) (h0 : Cg N v0 (c1 * p + c0)) (h1 : Cg N v1 (c1 * q + c0)) : Cg N y c0 := by
  refine Cg.cancel (gcd_sub prN hN hp0 hp1 hq0 hq1 ne) ((lag2 (c0 := 0) (c1 := 0) prN hN hp0 hp1 hq0 hq1 ne ha hb hy).trans ?_)
  exact ((h0.mul (Cg.refl (a := q))).sub (h1.mul (Cg.refl (a := p)))).trans (Cg.of_eq (by grind))
/-- one share greater by m: another secret -/
theorem gcd_more {m : Int} (prN : Pr N) (m0 : 0 < m) (m1 : m < N) : Int.gcd m N = 1 := prN m m0 m1
theorem not_cg_zero {a : Int} (hN : 1 < N) (g : Int.gcd a N = 1) : ¬ Cg N a 0 := fun h => by
  have := gcd_cg h.symm g
  rw [Int.gcd_zero_left] at this
  omega
theorem lag3 {p q s a01 a02 a10 a12 a20 a21 y v0 v1 v2 : Int}
    (h01 : Cg N (a01 * (q - p)) 1) (h02 : Cg N (a02 * (s - p)) 1) (h10 : Cg N (a10 * (p - q)) 1) (h12 : Cg N (a12 * (s - q)) 1) (h20 : Cg N (a20 * (p - s)) 1) (h21 : Cg N (a21 * (q - s)) 1)
    (hy : Cg N y (0 + v0 * q * a01 * s * a02 + v1 * p * a10 * s * a12 + v2 * p * a20 * q * a21)) :
    Cg N ((q - p) * (s - p) * (s - q) * y) (v0 * q * s * (s - q) - v1 * p * s * (s - p) + v2 * p * q * (q - p)) := by
  have h1 := (Cg.refl (a := (q - p) * (s - p) * (s - q))).mul hy
  have t0 := (Cg.refl (a := v0 * q * s * (s - q))).mul (h01.mul h02)
  have t1 := (Cg.refl (a := v1 * p * s * (s - p))).mul (h10.mul h12)
  have t2 := (Cg.refl (a := v2 * p * q * (q - p))).mul (h20.mul h21)
  exact h1.trans ((Cg.of_eq (by grind)).trans (((t0.sub t1).add t2).trans (Cg.of_eq (by grind))))

theorem cg_sub_zero {a b : Int} (h : Cg N (a + b) a) : Cg N b 0 := by
  have := h.sub (Cg.refl (a := a))
  exact (Cg.of_eq (by omega)).trans (this.trans (Cg.of_eq (by omega)))
theorem val2 {c0 c1 p : Int} (h0 : 0 < N) : Cg N (((c1 * p).fmod N + c0).fmod N) (c1 * p + c0) := (Cg.fmod h0).trans ((Cg.fmod h0).add Cg.refl)
theorem val3 {c0 c1 c2 p : Int} (h0 : 0 < N) : Cg N (((((c2 * p).fmod N + c1).fmod N * p).fmod N + c0).fmod N) ((c2 * p + c1) * p + c0) :=
  (Cg.fmod h0).trans (((Cg.fmod h0).trans ((val2 h0).mul Cg.refl)).add Cg.refl)
theorem told2 {c0 c1 i0 i1 p V : Int} (h0 : 0 < N) (e0 : Cg N i0 c0) (e1 : Cg N i1 c1) (hV : Cg N V (c1 * p + c0)) :
    1 * V % N = ((0 + i0 * (p ^ 0).fmod N % N) % N + i1 * (p ^ 1).fmod N % N) % N := by
  refine Cg.emod_eq ?_
  have a0 : Cg N (i0 * (p ^ 0).fmod N % N) (c0 * p ^ 0) := Cg.emod.trans (e0.mul (Cg.fmod h0))
  have a1 : Cg N (i1 * (p ^ 1).fmod N % N) (c1 * p ^ 1) := Cg.emod.trans (e1.mul (Cg.fmod h0))
  have b0 : Cg N ((0 + i0 * (p ^ 0).fmod N % N) % N) (c0 * p ^ 0) := Cg.emod.trans ((Cg.refl (a := 0)).add a0 |>.trans (Cg.of_eq (by grind)))
  exact ((Cg.of_eq (by grind)).trans hV).trans ((Cg.of_eq (by grind)).trans (b0.add a1).symm)
theorem told3 {c0 c1 c2 i0 i1 i2 p V : Int} (h0 : 0 < N) (e0 : Cg N i0 c0) (e1 : Cg N i1 c1) (e2 : Cg N i2 c2) (hV : Cg N V ((c2 * p + c1) * p + c0)) :
    1 * V % N = (((0 + i0 * (p ^ 0).fmod N % N) % N + i1 * (p ^ 1).fmod N % N) % N + i2 * (p ^ 2).fmod N % N) % N := by
  refine Cg.emod_eq ?_
  have a0 : Cg N (i0 * (p ^ 0).fmod N % N) (c0 * p ^ 0) := Cg.emod.trans (e0.mul (Cg.fmod h0))
  have a1 : Cg N (i1 * (p ^ 1).fmod N % N) (c1 * p ^ 1) := Cg.emod.trans (e1.mul (Cg.fmod h0))
  have a2 : Cg N (i2 * (p ^ 2).fmod N % N) (c2 * p ^ 2) := Cg.emod.trans (e2.mul (Cg.fmod h0))
  have b0 : Cg N ((0 + i0 * (p ^ 0).fmod N % N) % N) (c0 * p ^ 0) := Cg.emod.trans ((Cg.refl (a := 0)).add a0 |>.trans (Cg.of_eq (by grind)))
  have b1 : Cg N (((0 + i0 * (p ^ 0).fmod N % N) % N + i1 * (p ^ 1).fmod N % N) % N) (c0 * p ^ 0 + c1 * p ^ 1) := Cg.emod.trans (b0.add a1)
  exact ((Cg.of_eq (by grind)).trans hV).trans ((Cg.of_eq (by grind)).trans (b1.add a2).symm)
theorem more_ne {V m X : Int} (prN : Pr N) (hN : 5 < N) (m0 : 0 < m) (m1 : m < N) (hX : 1 * V % N = X) : ¬ 1 * (V + m).fmod N % N = X := by
  intro h
  have e : Cg N ((V + m).fmod N) V := by
    have := Cg.of_emod (h.trans hX.symm)
    exact (Cg.of_eq (by omega)).trans (this.trans (Cg.of_eq (by omega)))
  exact not_cg_zero (by omega) (prN m m0 m1) (cg_sub_zero ((Cg.fmod (by omega)).symm.trans e))
theorem ne_idx {x y : Int} (x0 : 0 ≤ x) (x1 : x < N) (y0 : 0 ≤ y) (y1 : y < N) (h : x ≠ y) : ¬ 1 * x % N = 1 * y % N := by
  rw [Int.one_mul, Int.one_mul, Int.emod_eq_of_lt x0 x1, Int.emod_eq_of_lt y0 y1]; exact h
theorem gcd_small {p : Int} (prN : Pr N) (hN : 5 < N) (hp0 : 0 < p) (hp1 : p < 6) : Int.gcd p N = 1 := prN p hp0 (by omega)

theorem right2 {c0 c1 p q a b y v0 v1 : Int} (prN : Pr N) (hN : 5 < N) (hp0 : 0 < p) (hp1 : p < 6) (hq0 : 0 < q) (hq1 : q < 6) (ne : p ≠ q)
    (ha : Cg N (a * (q - p)) 1) (hb : Cg N (b * (p - q)) 1) (hy : Cg N y (0 + v0 * q * a + v1 * p * b)) (h0 : Cg N v0 (c1 * p + c0)) (h1 : Cg N v1 (c1 * q + c0)) (y0 : 0 ≤ y) (y1 : y < N) (c00 : 0 ≤ c0) (c01 : c0 < N) : y = c0 :=
  (lag2_right prN hN hp0 hp1 hq0 hq1 ne ha hb hy h0 h1).eq_of y0 y1 c00 c01
theorem wrong2 {c0 c1 p q a b y v0 v1 m k0 k1 : Int} (prN : Pr N) (hN : 5 < N) (hp0 : 0 < p) (hp1 : p < 6) (hq0 : 0 < q) (hq1 : q < 6) (ne : p ≠ q)
    (ha : Cg N (a * (q - p)) 1) (hb : Cg N (b * (p - q)) 1) (hy : Cg N y (0 + v0 * q * a + v1 * p * b)) (h0 : Cg N v0 (c1 * p + c0 + k0 * m)) (h1 : Cg N v1 (c1 * q + c0 + k1 * m))
    (m0 : 0 < m) (m1 : m < N) (hk : k0 = 1 ∧ k1 = 0 ∨ k0 = 0 ∧ k1 = 1) : y ≠ c0 := by
  intro e
  subst e
  have l := lag2 (c0 := 0) (c1 := 0) prN hN hp0 hp1 hq0 hq1 ne ha hb hy
  have r := (h0.mul (Cg.refl (a := q))).sub (h1.mul (Cg.refl (a := p)))
  have t := (l.trans r).sub (Cg.refl (a := (q - p) * y))
  have z : Cg N ((k0 * q - k1 * p) * m) 0 := ((Cg.of_eq (by grind)).trans t.symm).trans (Cg.of_eq (by grind))
  have gm := prN m m0 m1
  rcases hk with ⟨rfl, rfl⟩ | ⟨rfl, rfl⟩
  · exact not_cg_zero (by omega) (gcd_mul (gcd_small prN hN hq0 hq1) gm) ((Cg.of_eq (by grind)).trans z)
  · have z' := (Cg.refl (a := (0 : Int))).sub z
    exact not_cg_zero (by omega) (gcd_mul (gcd_small prN hN hp0 hp1) gm) ((Cg.of_eq (by grind)).trans (z'.trans (Cg.of_eq (by grind))))
theorem right3 {c0 c1 c2 p q s a01 a02 a10 a12 a20 a21 y v0 v1 v2 : Int} (prN : Pr N) (hN : 5 < N) (hp0 : 0 < p) (hp1 : p < 6) (hq0 : 0 < q) (hq1 : q < 6) (hs0 : 0 < s) (hs1 : s < 6) (n1 : p ≠ q) (n2 : p ≠ s) (n3 : q ≠ s)
    (h01 : Cg N (a01 * (q - p)) 1) (h02 : Cg N (a02 * (s - p)) 1) (h10 : Cg N (a10 * (p - q)) 1) (h12 : Cg N (a12 * (s - q)) 1) (h20 : Cg N (a20 * (p - s)) 1) (h21 : Cg N (a21 * (q - s)) 1)
    (hy : Cg N y (0 + v0 * q * a01 * s * a02 + v1 * p * a10 * s * a12 + v2 * p * a20 * q * a21))
    (e0 : Cg N v0 ((c2 * p + c1) * p + c0)) (e1 : Cg N v1 ((c2 * q + c1) * q + c0)) (e2 : Cg N v2 ((c2 * s + c1) * s + c0)) (y0 : 0 ≤ y) (y1 : y < N) (c00 : 0 ≤ c0) (c01 : c0 < N) : y = c0 := by
  refine Cg.eq_of ?_ y0 y1 c00 c01
  refine Cg.cancel (gcd_mul (gcd_mul (gcd_sub prN hN hp0 hp1 hq0 hq1 n1) (gcd_sub prN hN hp0 hp1 hs0 hs1 n2)) (gcd_sub prN hN hq0 hq1 hs0 hs1 n3)) ((lag3 h01 h02 h10 h12 h20 h21 hy).trans ?_)
  have t0 := e0.mul (Cg.refl (a := q * s * (s - q)))
  have t1 := e1.mul (Cg.refl (a := p * s * (s - p)))
  have t2 := e2.mul (Cg.refl (a := p * q * (q - p)))
  exact (Cg.of_eq (by grind)).trans (((t0.sub t1).add t2).trans (Cg.of_eq (by grind)))
theorem wrong3 {c0 c1 c2 p q s a01 a02 a10 a12 a20 a21 y v0 v1 v2 m k0 k1 k2 : Int} (prN : Pr N) (hN : 5 < N) (hp0 : 0 < p) (hp1 : p < 6) (hq0 : 0 < q) (hq1 : q < 6) (hs0 : 0 < s) (hs1 : s < 6) (n1 : p ≠ q) (n2 : p ≠ s) (n3 : q ≠ s)
    (h01 : Cg N (a01 * (q - p)) 1) (h02 : Cg N (a02 * (s - p)) 1) (h10 : Cg N (a10 * (p - q)) 1) (h12 : Cg N (a12 * (s - q)) 1) (h20 : Cg N (a20 * (p - s)) 1) (h21 : Cg N (a21 * (q - s)) 1)
    (hy : Cg N y (0 + v0 * q * a01 * s * a02 + v1 * p * a10 * s * a12 + v2 * p * a20 * q * a21))
    (e0 : Cg N v0 ((c2 * p + c1) * p + c0 + k0 * m)) (e1 : Cg N v1 ((c2 * q + c1) * q + c0 + k1 * m)) (e2 : Cg N v2 ((c2 * s + c1) * s + c0 + k2 * m))
    (m0 : 0 < m) (m1 : m < N) (hk : k0 = 1 ∧ k1 = 0 ∧ k2 = 0 ∨ k0 = 0 ∧ k1 = 1 ∧ k2 = 0 ∨ k0 = 0 ∧ k1 = 0 ∧ k2 = 1) : y ≠ c0 := by
  intro e
  subst e
  have l := lag3 h01 h02 h10 h12 h20 h21 hy
  have t0 := e0.mul (Cg.refl (a := q * s * (s - q)))
  have t1 := e1.mul (Cg.refl (a := p * s * (s - p)))
  have t2 := e2.mul (Cg.refl (a := p * q * (q - p)))
  have r := (t0.sub t1).add t2
  have t := (l.trans ((Cg.of_eq (by grind)).trans r)).sub (Cg.refl (a := (q - p) * (s - p) * (s - q) * y))
  have z : Cg N ((k0 * (q * s * (s - q)) - k1 * (p * s * (s - p)) + k2 * (p * q * (q - p))) * m) 0 := ((Cg.of_eq (by grind)).trans t.symm).trans (Cg.of_eq (by grind))
  have gm := prN m m0 m1
  have gp := gcd_small prN hN hp0 hp1
  have gq := gcd_small prN hN hq0 hq1
  have gs := gcd_small prN hN hs0 hs1
  rcases hk with ⟨rfl, rfl, rfl⟩ | ⟨rfl, rfl, rfl⟩ | ⟨rfl, rfl, rfl⟩
  · exact not_cg_zero (by omega) (gcd_mul (gcd_mul (gcd_mul gq gs) (gcd_sub prN hN hq0 hq1 hs0 hs1 n3)) gm) ((Cg.of_eq (by grind)).trans z)
  · have z' := (Cg.refl (a := (0 : Int))).sub z
    exact not_cg_zero (by omega) (gcd_mul (gcd_mul (gcd_mul gp gs) (gcd_sub prN hN hp0 hp1 hs0 hs1 n2)) gm) ((Cg.of_eq (by grind)).trans (z'.trans (Cg.of_eq (by grind))))
  · exact not_cg_zero (by omega) (gcd_mul (gcd_mul (gcd_mul gp gq) (gcd_sub prN hN hp0 hp1 hq0 hq1 n1)) gm) ((Cg.of_eq (by grind)).trans z)
theorem val_more {v m V : Int} (h0 : 0 < N) (h : Cg N v V) : Cg N ((v + m).fmod N) (V + 1 * m) := (Cg.fmod h0).trans ((h.add Cg.refl).trans (Cg.of_eq (by grind)))
theorem val_same {v m V : Int} (h : Cg N v V) : Cg N v (V + 0 * m) := h.trans (Cg.of_eq (by grind))
end

section
variable {N : Int}
theorem inv_ex {x n : Int} (hn : 1 < n) : ∀ (k : Nat) (lm hm low high : Int), low.toNat ≤ k → 0 ≤ low → low < high → InvS x n lm hm low high → ∃ y, (y * x) % n = 1 := by
  intro k
  induction k with
  | zero => exact fun lm hm low high hk h0 hlt h => ⟨_, inv_end h hn h0 (by omega) rfl⟩
  | succ k ih =>
    intro lm hm low high hk h0 hlt h
    rcases Int.lt_or_le 1 low with q | q
    · obtain ⟨a1, a2, -, -, -, -, -, h'⟩ := inv_step h q hlt rfl
      exact ih _ _ _ _ (by omega) a1 a2 h'
    · exact ⟨_, inv_end h hn h0 q rfl⟩
theorem cg_inv_ex {a : Int} (hN : 1 < N) (g : Int.gcd a N = 1) : ∃ b, Cg N (b * a) 1 := by
  have e : Cg N (a % N) a := Cg.emod
  have g' : Int.gcd (a % N) N = 1 := gcd_cg e g
  have r0 := Int.emod_nonneg a (b := N) (by omega)
  have r1 := Int.emod_lt_of_pos a (b := N) (by omega)
  have r2 : a % N ≠ 0 := fun q => by rw [q, Int.gcd_zero_left] at g'; omega
  obtain ⟨y, hy⟩ := inv_ex (x := a % N) hN _ 1 0 (a % N) N (Nat.le_refl _) r0 r1 (inv_start (by omega) r1 g')
  exact ⟨y, ((Cg.refl (a := y)).mul e.symm).trans (Cg.of_emod (by rw [hy, Int.emod_eq_of_lt (by decide) hN]))⟩
/-- an inverse, where there is one -/
noncomputable def iv (N a : Int) : Int := Classical.epsilon (fun b => Cg N (b * a) 1)
theorem iv_mul {a b : Int} (h : Cg N (b * a) 1) : Cg N (iv N a * a) 1 := Classical.epsilon_spec (p := fun b => Cg N (b * a) 1) ⟨b, h⟩
theorem iv_eq {a b : Int} (h : Cg N (b * a) 1) : Cg N b (iv N a) :=
  ((Cg.of_eq (Int.mul_one b).symm).trans ((Cg.refl (a := b)).mul (iv_mul h).symm)).trans ((Cg.of_eq (by rw [← Int.mul_assoc, Int.mul_comm b, Int.mul_assoc])).trans (((Cg.refl (a := iv N a)).mul h).trans (Cg.of_eq (Int.mul_one _))))
noncomputable def inn (N p : Int) : List (Int × Int) → Int → Int
  | [], v => v
  | q :: qs, v => inn N p qs (if q.1 = p then v else v * q.1 * iv N (q.1 - p))
noncomputable def sec (N : Int) (all : List (Int × Int)) : List (Int × Int) → Int
  | [] => 0
  | q :: qs => inn N q.1 all q.2 + sec N all qs
theorem inn_cg {p : Int} : ∀ (qs : List (Int × Int)) {v v' : Int}, Cg N v v' → Cg N (inn N p qs v) (inn N p qs v')
  | [], _, _, h => h
  | q :: qs, v, v', h => by
    show Cg N (inn N p qs (if q.1 = p then v else v * q.1 * iv N (q.1 - p))) (inn N p qs (if q.1 = p then v' else v' * q.1 * iv N (q.1 - p)))
    refine inn_cg qs ?_
    by_cases e : q.1 = p
    · rw [if_pos e, if_pos e]; exact h
    · rw [if_neg e, if_neg e]; exact (h.mul Cg.refl).mul Cg.refl
/-- a polynomial -/
noncomputable def ev : List Int → Int → Int
  | [], _ => 0
  | c :: cs, p => ev cs p * p + c
theorem sec2 {p q a b : Int} (ne : p ≠ q) : sec N [(p, a), (q, b)] [(p, a), (q, b)] = 0 + a * q * iv N (q - p) + b * p * iv N (p - q) := by
  simp only [sec, inn, if_pos, if_neg ne, if_neg ne.symm]
  omega
theorem sec3 {p q s a b c : Int} (n1 : p ≠ q) (n2 : p ≠ s) (n3 : q ≠ s) : sec N [(p, a), (q, b), (s, c)] [(p, a), (q, b), (s, c)] =
    0 + a * q * iv N (q - p) * s * iv N (s - p) + b * p * iv N (p - q) * s * iv N (s - q) + c * p * iv N (p - s) * q * iv N (q - s) := by
  simp only [sec, inn, if_pos, if_neg n1, if_neg n1.symm, if_neg n2, if_neg n2.symm, if_neg n3, if_neg n3.symm]
  omega
theorem iv_sub {p q : Int} (prN : Pr N) (hN : 5 < N) (hp0 : 0 < p) (hp1 : p < 6) (hq0 : 0 < q) (hq1 : q < 6) (ne : p ≠ q) : Cg N (iv N (q - p) * (q - p)) 1 := by
  obtain ⟨b, hb⟩ := cg_inv_ex (by omega : 1 < N) (gcd_sub prN hN hp0 hp1 hq0 hq1 ne)
  exact iv_mul hb
end

/-- one pair of multiples a, b and the multiple r whose number is the sum of theirs -/
noncomputable def pairOk (P A : Nat) (a b r : Nat × Nat) : Bool :=
  if a.2 == 0 then true else if b.2 == 0 then true else
  if a.1 == b.1 then
    (if a.2 == b.2 then
      (r.2 != 0) && ((3 * a.1 * a.1 + A) * (3 * a.1 * a.1 + A) % P == (8 * a.1 * a.2 * a.2 + 4 * a.2 * a.2 * r.1) % P) &&
        ((3 * a.1 * a.1 + A) * (4 * a.2 * a.2 * (a.1 + P - r.1)) % P == (8 * a.2 * a.2 * a.2 * (a.2 + r.2)) % P)
    else r.2 == 0)
  else (r.2 != 0) && ((b.2 + P - a.2) * (b.2 + P - a.2) % P == (b.1 + P - a.1) * (b.1 + P - a.1) * (b.1 + a.1 + r.1) % P) &&
    ((b.2 + P - a.2) * (a.1 + P - r.1) % P == (a.2 + r.2) * (b.1 + P - a.1) % P)
noncomputable def pairF (P A a1 a2 b1 b2 r1 r2 : Nat) : Bool :=
  @Bool.rec (fun _ => Bool) (@Bool.rec (fun _ => Bool)
    (@Bool.rec (fun _ => Bool)
      (@Bool.rec (fun _ => Bool) (@Bool.rec (fun _ => Bool) false (Nat.beq (Nat.mod (Nat.mul (Nat.sub (Nat.add b2 P) a2) (Nat.sub (Nat.add a1 P) r1)) P) (Nat.mod (Nat.mul (Nat.add a2 r2) (Nat.sub (Nat.add b1 P) a1)) P))
           (Nat.beq (Nat.mod (Nat.mul (Nat.sub (Nat.add b2 P) a2) (Nat.sub (Nat.add b2 P) a2)) P) (Nat.mod (Nat.mul (Nat.mul (Nat.sub (Nat.add b1 P) a1) (Nat.sub (Nat.add b1 P) a1)) (Nat.add (Nat.add b1 a1) r1)) P)))
         false (Nat.beq r2 0))
      (@Bool.rec (fun _ => Bool) (Nat.beq r2 0) (@Bool.rec (fun _ => Bool) (@Bool.rec (fun _ => Bool) false (Nat.beq (Nat.mod (Nat.mul (Nat.add (Nat.mul (Nat.mul 3 a1) a1) A) (Nat.mul (Nat.mul (Nat.mul 4 a2) a2) (Nat.sub (Nat.add a1 P) r1))) P) (Nat.mod (Nat.mul (Nat.mul (Nat.mul (Nat.mul 8 a2) a2) a2) (Nat.add a2 r2)) P))
          (Nat.beq (Nat.mod (Nat.mul (Nat.add (Nat.mul (Nat.mul 3 a1) a1) A) (Nat.add (Nat.mul (Nat.mul 3 a1) a1) A)) P) (Nat.mod (Nat.add (Nat.mul (Nat.mul (Nat.mul 8 a1) a2) a2) (Nat.mul (Nat.mul (Nat.mul 4 a2) a2) r1)) P)))
          false (Nat.beq r2 0)) (Nat.beq a2 b2))
      (Nat.beq a1 b1)) true (Nat.beq b2 0)) true (Nat.beq a2 0)
noncomputable def rowF (P A a1 a2 : Nat) (bs : List (Nat × Nat)) : List (Nat × Nat) → Bool :=
  @List.rec (Nat × Nat) (fun _ => List (Nat × Nat) → Bool) (fun _ => true) (fun b _ ih rs => @List.rec (Nat × Nat) (fun _ => Bool) true (fun r rs' _ => @Bool.rec (fun _ => Bool) false (ih rs') (pairF P A a1 a2 b.1 b.2 r.1 r.2)) rs) bs
noncomputable def rowsF (P A : Nat) (T as : List (Nat × Nat)) : List (Nat × Nat) → Bool :=
  @List.rec (Nat × Nat) (fun _ => List (Nat × Nat) → Bool) (fun _ => true) (fun a _ ih rs => @Bool.rec (fun _ => Bool) false (ih rs.tail) (rowF P A a.1 a.2 T rs)) as
noncomputable def rngOk (P : Nat) : List (Nat × Nat) → Bool
  | a :: as => a.1 < P && a.2 < P && a.2 != 0 && rngOk P as
  | [] => true
noncomputable def notIn (a : Nat × Nat) : List (Nat × Nat) → Bool
  | b :: bs => !(a.1 == b.1 && a.2 == b.2) && notIn a bs
  | [] => true
noncomputable def nodupOk : List (Nat × Nat) → Bool
  | a :: as => notIn a as && nodupOk as
  | [] => true
noncomputable def primeOk (P : Nat) : Nat → Bool
  | 0 => true
  | z + 1 => (z == 0 || Nat.gcd z P == 1) && primeOk P z

theorem br (c x y : Bool) : @Bool.rec (fun _ => Bool) x y c = if c = true then y else x := by cases c <;> rfl
theorem br_and {c y : Bool} (h : @Bool.rec (fun _ => Bool) false y c = true) : c = true ∧ y = true := by cases c <;> cases y <;> first | exact ⟨rfl, rfl⟩ | cases h
theorem if_and (c d : Bool) : (if c = true then d else false) = (c && d) := by cases c <;> rfl
theorem if_nand (c d : Bool) : (if c = true then false else d) = (!c && d) := by cases c <;> rfl
theorem nb (x y : Nat) : Nat.beq x y = (x == y) := by rw [Bool.eq_iff_iff, Nat.beq_eq, beq_iff_eq]
theorem pairF_eq (P A : Nat) (a b r : Nat × Nat) : pairF P A a.1 a.2 b.1 b.2 r.1 r.2 = pairOk P A a b r := by
  unfold pairF pairOk
  simp only [br, nb, if_and, if_nand, bne, Bool.and_assoc]
  rfl
theorem rowF_at {P A : Nat} {a : Nat × Nat} : ∀ {bs rs : List (Nat × Nat)}, rowF P A a.1 a.2 bs rs = true → ∀ (j : Nat) (b r : Nat × Nat), bs[j]? = some b → rs[j]? = some r → pairOk P A a b r = true
  | [], _, _, j, b, r, hb, _ => by simp at hb
  | _ :: _, [], _, j, b, r, _, hr => by simp at hr
  | b' :: bs, r' :: rs, h, j, b, r, hb, hr => by
    have h := br_and (c := pairF P A a.1 a.2 b'.1 b'.2 r'.1 r'.2) (y := rowF P A a.1 a.2 bs rs) h
    rw [pairF_eq] at h
    cases j with
    | zero => simp at hb hr; subst hb; subst hr; exact h.1
    | succ j => simp at hb hr; exact rowF_at h.2 j b r hb hr
theorem rowsF_at {P A : Nat} {T : List (Nat × Nat)} : ∀ {as rs : List (Nat × Nat)}, rowsF P A T as rs = true → ∀ (i j : Nat) (a b r : Nat × Nat), as[i]? = some a → T[j]? = some b → rs[i + j]? = some r → pairOk P A a b r = true
  | [], _, _, i, j, a, b, r, ha, _, _ => by simp at ha
  | a' :: as, rs, h, i, j, a, b, r, ha, hb, hr => by
    have h := br_and (c := rowF P A a'.1 a'.2 T rs) (y := rowsF P A T as rs.tail) h
    cases i with
    | zero => simp at ha; subst ha; rw [Nat.zero_add] at hr; exact rowF_at h.1 j b r hb hr
    | succ i =>
      simp at ha
      refine rowsF_at h.2 i j a b r ha hb ?_
      rw [List.getElem?_tail, ← hr]
      congr 1
      omega
theorem rngOk_at {P : Nat} : ∀ {as : List (Nat × Nat)}, rngOk P as = true → ∀ (i : Nat) (a : Nat × Nat), as[i]? = some a → a.1 < P ∧ a.2 < P ∧ a.2 ≠ 0
  | [], _, i, a, ha => by simp at ha
  | a' :: as, h, i, a, ha => by
    unfold rngOk at h
    simp only [Bool.and_eq_true, decide_eq_true_eq, bne_iff_ne] at h
    cases i with
    | zero => simp at ha; subst ha; exact ⟨h.1.1.1, h.1.1.2, h.1.2⟩
    | succ i => simp at ha; exact rngOk_at h.2 i a ha
theorem notIn_at {a : Nat × Nat} : ∀ {bs : List (Nat × Nat)}, notIn a bs = true → ∀ (j : Nat) (b : Nat × Nat), bs[j]? = some b → a ≠ b
  | [], _, j, b, hb => by simp at hb
  | b' :: bs, h, j, b, hb => by
    unfold notIn at h
    rw [Bool.and_eq_true] at h
    cases j with
    | zero =>
      simp at hb; subst hb
      intro e; subst e
      simp at h
    | succ j => simp at hb; exact notIn_at h.2 j b hb
theorem nodupOk_at : ∀ {as : List (Nat × Nat)}, nodupOk as = true → ∀ (i j : Nat) (a : Nat × Nat), as[i]? = some a → as[j]? = some a → i = j
  | [], _, i, j, a, ha, _ => by simp at ha
  | a' :: as, h, i, j, a, ha, hb => by
    unfold nodupOk at h
    rw [Bool.and_eq_true] at h
    cases i with
    | zero =>
      simp at ha; subst ha
      cases j with
      | zero => rfl
      | succ j => simp at hb; exact absurd rfl (notIn_at h.1 j _ hb)
    | succ i =>
      simp at ha
      cases j with
      | zero => simp at hb; subst hb; exact absurd rfl (notIn_at h.1 i _ ha)
      | succ j => simp at hb; rw [nodupOk_at h.2 i j a ha hb]
theorem primeOk_at {P : Nat} : ∀ {n : Nat}, primeOk P n = true → ∀ z, 0 < z → z < n → Nat.gcd z P = 1
  | 0, _, z, _, h => absurd h (Nat.not_lt_zero _)
  | n + 1, h, z, h0, h1 => by
    unfold primeOk at h
    simp only [Bool.and_eq_true, Bool.or_eq_true, beq_iff_eq] at h
    by_cases e : z = n
    · subst e; rcases h.1 with q | q
      · omega
      · exact q
    · exact primeOk_at h.2 z h0 (by omega)
noncomputable def zT (T : List (Nat × Nat)) : List (Int × Int) := T.map fun p => ((p.1 : Int), (p.2 : Int))

structure Chk (P N A B Gx Gy : Nat) (T : List (Nat × Nat)) : Prop where
  num : (2 < P ∧ P ≤ 127) ∧ (5 < N ∧ N ≤ 127) ∧ A ≤ 6
  pr : primeOk P P = true
  prN : primeOk N N = true
  len : T.length = N
  hd : T[0]? = some (0, 0)
  b1 : T[1]? = some (Gx, Gy)
  rng : rngOk P T.tail = true
  nd : nodupOk T = true
  rows : rowsF P A T T (T ++ T) = true

theorem good_of {P N A B Gx Gy : Nat} {T : List (Nat × Nat)} (h : Chk P N A B Gx Gy T) : Good ⟨P, N, A, B, Gx, Gy⟩ (zT T) := by
  have at_ : ∀ i : Int, 0 ≤ i → i < (N : Int) → ∃ a : Nat × Nat, T[i.toNat]? = some a ∧ pt (zT T) i = ((a.1 : Int), (a.2 : Int)) := by
    intro i i0 i1
    have hl : i.toNat < T.length := by rw [h.len]; omega
    refine ⟨T[i.toNat], List.getElem?_eq_getElem hl, ?_⟩
    show (zT T).getD i.toNat (0, 0) = _
    rw [List.getD_eq_getElem?_getD, zT, List.getElem?_map, List.getElem?_eq_getElem hl]
    rfl
  have rg : ∀ (i : Int) (a : Nat × Nat), 0 < i → i < (N : Int) → T[i.toNat]? = some a → a.1 < P ∧ a.2 < P ∧ a.2 ≠ 0 := by
    intro i a i0 i1 ha
    refine rngOk_at h.rng (i.toNat - 1) a ?_
    rw [List.getElem?_tail, ← ha]
    congr 1
    omega
  have sm : ∀ i j : Int, 0 ≤ i → i < (N : Int) → 0 ≤ j → j < (N : Int) → ∃ r : Nat × Nat, (T ++ T)[i.toNat + j.toNat]? = some r ∧ T[((i + j) % (N : Int)).toNat]? = some r ∧ pt (zT T) ((i + j) % (N : Int)) = ((r.1 : Int), (r.2 : Int)) := by
    intro i j i0 i1 j0 j1
    have n0 : (0 : Int) < N := by omega
    obtain ⟨r, hr, hp⟩ := at_ ((i + j) % (N : Int)) (Int.emod_nonneg _ (by omega)) (Int.emod_lt_of_pos _ n0)
    refine ⟨r, ?_, hr, hp⟩
    rw [← hr]
    by_cases q : i + j < (N : Int)
    · rw [Int.emod_eq_of_lt (by omega) q, List.getElem?_append_left (by rw [h.len]; omega)]
      congr 1
      omega
    · have e : (i + j) % (N : Int) = i + j - N := by
        rw [← Int.emod_eq_of_lt (show (0 : Int) ≤ i + j - N by omega) (show i + j - N < (N : Int) by omega), Int.sub_emod_right]
      rw [e, List.getElem?_append_right (by rw [h.len]; omega)]
      congr 1
      rw [h.len]
      omega
  have n1 := h.num.2.1.1
  have p1 := h.num.1.1
  have n0 : (0 : Int) < N := by omega
  have em0 : ∀ k : Int, 0 ≤ k % (N : Int) := fun k => Int.emod_nonneg _ (Int.ne_of_gt n0)
  have em1 : ∀ k : Int, k % (N : Int) < N := fun k => Int.emod_lt_of_pos _ n0
  have em2 : ∀ k : Int, k % (N : Int) ≠ 0 → 0 < k % (N : Int) := fun k q => by have := em0 k; omega
  have z0 : pt (zT T) 0 = (0, 0) := by
    obtain ⟨a, ha, hp⟩ := at_ 0 (by omega) (by omega)
    have : T[(0 : Int).toNat]? = some (0, 0) := h.hd
    rw [this] at ha
    rw [hp, ← Option.some.inj ha]
    rfl
  have pair : ∀ i j : Int, 0 ≤ i → i < (N : Int) → 0 ≤ j → j < (N : Int) → ∀ a b r : Nat × Nat, T[i.toNat]? = some a → T[j.toNat]? = some b → (T ++ T)[i.toNat + j.toNat]? = some r → pairOk P A a b r = true :=
    fun i j _ _ _ _ a b r ha hb hr => rowsF_at h.rows _ _ a b r ha hb hr
  have cg : ∀ x y : Nat, x % P = y % P → Cg (P : Int) x y := fun x y e => Cg.of_emod (by rw [← Int.natCast_emod, ← Int.natCast_emod, e])
  have sb : ∀ x y : Nat, y < P → Cg (P : Int) ((x + P - y : Nat) : Int) ((x : Int) - y) := by
    intro x y hy
    have e : ((x + P - y : Nat) : Int) = (x : Int) + P - y := by omega
    rw [e]
    refine Cg.of_emod ?_
    rw [show (x : Int) + P - y = (x - y) + P by omega, Int.add_emod_right]
  have idx : ∀ (k : Int) (r : Nat × Nat), 0 ≤ k → k < (N : Int) → T[k.toNat]? = some r → r.2 ≠ 0 → k ≠ 0 := by
    intro k r k0 k1 hr hn e
    subst e
    have : T[(0 : Int).toNat]? = some (0, 0) := h.hd
    rw [this] at hr
    exact hn (by rw [← Option.some.inj hr])
  refine ⟨⟨by show (2 : Int) < P; omega, by have := h.num.1.2; show (P : Int) ≤ 127; omega, by show (5 : Int) < N; omega, by have := h.num.2.1.2; show (N : Int) ≤ 127; omega, by show (0 : Int) ≤ A; omega, by have := h.num.2.2; show (A : Int) ≤ 6; omega⟩, ?_, ?_, ?_, z0, ?_, ?_, ?_, ?_, ?_⟩
  · intro z z0 z1
    have := primeOk_at h.pr z.toNat (by omega) (by have : z < (P : Int) := z1; omega)
    show Nat.gcd z.natAbs (P : Int).natAbs = 1
    rw [show z.natAbs = z.toNat by omega]
    exact this
  · intro z z0 z1
    have := primeOk_at h.prN z.toNat (by omega) (by have : z < (N : Int) := z1; omega)
    show Nat.gcd z.natAbs (N : Int).natAbs = 1
    rw [show z.natAbs = z.toNat by omega]
    exact this
  · obtain ⟨a, ha, hp⟩ := at_ 1 (by omega) (by omega)
    have : T[(1 : Int).toNat]? = some (Gx, Gy) := h.b1
    rw [this] at ha
    rw [hp, ← Option.some.inj ha]
  · intro i i0 i1
    obtain ⟨a, ha, hp⟩ := at_ i (Int.le_of_lt i0) i1
    obtain ⟨r1, r2, r3⟩ := rg i a i0 i1 ha
    rw [hp]
    exact ⟨by show (0 : Int) ≤ a.1; omega, by show (a.1 : Int) < P; omega, by show (0 : Int) < a.2; omega, by show (a.2 : Int) < P; omega⟩
  · intro i j i0 i1 j0 j1 e
    obtain ⟨a, ha, hp⟩ := at_ i (Int.le_of_lt i0) i1
    obtain ⟨b, hb, hq⟩ := at_ j (Int.le_of_lt j0) j1
    rw [hp, hq] at e
    have e1 := congrArg Prod.fst e
    have e2 := congrArg Prod.snd e
    have : a = b := Prod.ext (by dsimp only at e1; omega) (by dsimp only at e2; omega)
    subst this
    have := nodupOk_at h.nd _ _ a ha hb
    omega
  · intro i i0 i1
    obtain ⟨a, ha, hp⟩ := at_ i (Int.le_of_lt i0) i1
    obtain ⟨r, hr, hr2, hrp⟩ := sm i i (Int.le_of_lt i0) i1 (Int.le_of_lt i0) i1
    have e2 : i + i = 2 * i := by omega
    rw [e2] at hr2 hrp
    have pk := pair i i (Int.le_of_lt i0) i1 (Int.le_of_lt i0) i1 a a r ha ha hr
    obtain ⟨q1, q2, q3⟩ := rg i a i0 i1 ha
    unfold pairOk at pk
    simp only [beq_iff_eq, q3, if_false, if_true, Bool.and_eq_true, bne_iff_ne, beq_self_eq_true] at pk
    obtain ⟨⟨k1, k2⟩, k3⟩ := pk
    have hk : 2 * i % (N : Int) ≠ 0 := idx _ r (em0 _) (em1 _) hr2 k1
    have q4 : r.1 < P := (rg _ r (em2 _ hk) (em1 _) hr2).1
    rw [hp, hrp]
    dsimp only
    refine ⟨hk, ?_, ?_⟩
    · have c2 := cg _ _ k2
      have c3 := c2.sub (Cg.refl (a := 8 * (a.1 : Int) * a.2 ^ 2))
      refine (Cg.of_eq ?_).trans (c3.trans (Cg.of_eq ?_)) <;> push_cast <;> grind
    · have c2 := cg _ _ k3
      have s1 := sb a.1 r.1 q4
      generalize (a.1 + P - r.1 : Nat) = dd at *
      have c3 := ((Cg.refl (P := (P : Int)) (a := ((3 * a.1 * a.1 + A) * (4 * a.2 * a.2) : Nat))).mul s1).symm.trans ((Cg.of_eq (by push_cast; grind)).trans c2)
      have c4 := c3.sub (Cg.refl (a := 8 * (a.2 : Int) ^ 4))
      refine (Cg.of_eq ?_).trans (c4.trans (Cg.of_eq ?_)) <;> push_cast <;> grind
  · intro i j i0 i1 j0 j1 ne
    obtain ⟨a, ha, hp⟩ := at_ i (Int.le_of_lt i0) i1
    obtain ⟨b, hb, hq⟩ := at_ j (Int.le_of_lt j0) j1
    obtain ⟨r, hr, hr2, hrp⟩ := sm i j (Int.le_of_lt i0) i1 (Int.le_of_lt j0) j1
    have pk := pair i j (Int.le_of_lt i0) i1 (Int.le_of_lt j0) j1 a b r ha hb hr
    obtain ⟨q1, q2, q3⟩ := rg i a i0 i1 ha
    obtain ⟨u1, u2, u3⟩ := rg j b j0 j1 hb
    rw [hp, hq] at ne
    have ne' : ¬ a.1 = b.1 := fun e => ne (by show (a.1 : Int) = b.1; rw [e])
    unfold pairOk at pk
    simp only [beq_iff_eq, q3, u3, ne', if_false, Bool.and_eq_true, bne_iff_ne] at pk
    obtain ⟨⟨k1, k2⟩, k3⟩ := pk
    have hk : (i + j) % (N : Int) ≠ 0 := idx _ r (em0 _) (em1 _) hr2 k1
    have q4 : r.1 < P := (rg _ r (em2 _ hk) (em1 _) hr2).1
    rw [hp, hq, hrp]
    dsimp only
    have sx := sb b.1 a.1 q1
    have sy := sb b.2 a.2 q2
    have s1 := sb a.1 r.1 q4
    have c2 := cg _ _ k2
    have c3 := cg _ _ k3
    generalize (b.1 + P - a.1 : Nat) = dx at *
    generalize (b.2 + P - a.2 : Nat) = dy at *
    generalize (a.1 + P - r.1 : Nat) = dd at *
    refine ⟨hk, ?_, ?_⟩
    · exact (sy.pow 2).symm.trans ((Cg.of_eq (by push_cast; grind)).trans (c2.trans ((Cg.of_eq (by push_cast; grind)).trans ((sx.pow 2).mul (Cg.refl (a := (b.1 : Int) + a.1 + r.1))))))
    · exact (sy.mul s1).symm.trans ((Cg.of_eq (by push_cast; grind)).trans (c3.trans ((Cg.of_eq (by push_cast; grind)).trans ((Cg.refl (a := (a.2 : Int) + r.2)).mul sx))))
  · intro i j i0 i1 j0 j1 ex ny
    obtain ⟨a, ha, hp⟩ := at_ i (Int.le_of_lt i0) i1
    obtain ⟨b, hb, hq⟩ := at_ j (Int.le_of_lt j0) j1
    obtain ⟨r, hr, hr2, hrp⟩ := sm i j (Int.le_of_lt i0) i1 (Int.le_of_lt j0) j1
    have pk := pair i j (Int.le_of_lt i0) i1 (Int.le_of_lt j0) j1 a b r ha hb hr
    obtain ⟨q1, q2, q3⟩ := rg i a i0 i1 ha
    obtain ⟨u1, u2, u3⟩ := rg j b j0 j1 hb
    rw [hp, hq] at ex ny
    have ex' : a.1 = b.1 := by dsimp only at ex; omega
    have ny' : ¬ a.2 = b.2 := fun e => ny (by show (a.2 : Int) = b.2; rw [e])
    unfold pairOk at pk
    simp only [beq_iff_eq, q3, u3, ny', ex', if_false, if_true] at pk
    by_cases hk : (i + j) % (N : Int) = 0
    · exact hk
    · exact absurd pk (rg _ r (em2 _ hk) (em1 _) hr2).2.2

noncomputable def curveL : List Cv := [⟨11, 13, 1, 6, 2, 4⟩, ⟨11, 17, 6, 5, 1, 1⟩, ⟨19, 13, 0, 2, 4, 16⟩, ⟨19, 13, 0, 3, 1, 17⟩, ⟨31, 43, 0, 3, 1, 2⟩, ⟨43, 31, 0, 7, 2, 31⟩, ⟨43, 37, 6, 5, 2, 38⟩, ⟨67, 79, 0, 7, 2, 22⟩, ⟨67, 73, 0, 2, 2, 55⟩, ⟨79, 67, 0, 7, 1, 18⟩, ⟨79, 97, 0, 3, 1, 2⟩, ⟨127, 127, 0, 7, 1, 32⟩, ⟨127, 127, 0, 3, 1, 2⟩]
noncomputable def curveAt (k : Nat) : Cv := curveL.getD k ⟨11, 13, 1, 6, 2, 4⟩
noncomputable def tab0 : List (Nat × Nat) := [(0, 0), (2, 4), (5, 9), (8, 8), (10, 9), (3, 5), (7, 2), (7, 9), (3, 6), (10, 2), (8, 3), (5, 2), (2, 7)]
theorem chk0 : Chk 11 13 1 6 2 4 tab0 := ⟨by decide, by decide +kernel, by decide +kernel, by decide +kernel, by decide +kernel, by decide +kernel, by decide +kernel, by decide +kernel, by decide +kernel⟩
noncomputable def tab1 : List (Nat × Nat) := [(0, 0), (1, 1), (10, 8), (4, 4), (7, 4), (6, 2), (8, 2), (0, 7), (2, 5), (2, 6), (0, 4), (8, 9), (6, 9), (7, 7), (4, 7), (10, 3), (1, 10)]
theorem chk1 : Chk 11 17 6 5 1 1 tab1 := ⟨by decide, by decide +kernel, by decide +kernel, by decide +kernel, by decide +kernel, by decide +kernel, by decide +kernel, by decide +kernel, by decide +kernel⟩
noncomputable def tab2 : List (Nat × Nat) := [(0, 0), (4, 16), (18, 1), (6, 16), (9, 3), (12, 1), (8, 1), (8, 18), (12, 18), (9, 16), (6, 3), (18, 18), (4, 3)]
theorem chk2 : Chk 19 13 0 2 4 16 tab2 := ⟨by decide, by decide +kernel, by decide +kernel, by decide +kernel, by decide +kernel, by decide +kernel, by decide +kernel, by decide +kernel, by decide +kernel⟩
noncomputable def tab3 : List (Nat × Nat) := [(0, 0), (1, 17), (14, 7), (11, 17), (7, 2), (3, 7), (2, 7), (2, 12), (3, 12), (7, 17), (11, 2), (14, 12), (1, 2)]
theorem chk3 : Chk 19 13 0 3 1 17 tab3 := ⟨by decide, by decide +kernel, by decide +kernel, by decide +kernel, by decide +kernel, by decide +kernel, by decide +kernel, by decide +kernel, by decide +kernel⟩
noncomputable def tab4 : List (Nat × Nat) := [(0, 0), (1, 2), (16, 10), (22, 24), (24, 30), (26, 8), (5, 2), (25, 29), (30, 8), (9, 22), (4, 6), (14, 22), (18, 10), (6, 23), (28, 21), (11, 30), (7, 6), (20, 6), (17, 24), (27, 1), (8, 9), (23, 7), (23, 24), (8, 22), (27, 30), (17, 7), (20, 25), (7, 25), (11, 1), (28, 10), (6, 8), (18, 21), (14, 9), (4, 25), (9, 9), (30, 23), (25, 2), (5, 29), (26, 23), (24, 1), (22, 7), (16, 21), (1, 29)]
theorem chk4 : Chk 31 43 0 3 1 2 tab4 := ⟨by decide, by decide +kernel, by decide +kernel, by decide +kernel, by decide +kernel, by decide +kernel, by decide +kernel, by decide +kernel, by decide +kernel⟩
noncomputable def tab5 : List (Nat × Nat) := [(0, 0), (2, 31), (7, 36), (35, 22), (21, 25), (12, 31), (29, 12), (25, 25), (32, 3), (20, 3), (42, 36), (40, 18), (37, 7), (13, 22), (34, 3), (38, 22), (38, 21), (34, 40), (13, 21), (37, 36), (40, 25), (42, 7), (20, 40), (32, 40), (25, 18), (29, 31), (12, 12), (21, 18), (35, 21), (7, 7), (2, 12)]
theorem chk5 : Chk 43 31 0 7 2 31 tab5 := ⟨by decide, by decide +kernel, by decide +kernel, by decide +kernel, by decide +kernel, by decide +kernel, by decide +kernel, by decide +kernel, by decide +kernel⟩
noncomputable def tab6 : List (Nat × Nat) := [(0, 0), (2, 38), (13, 42), (26, 8), (30, 40), (20, 16), (14, 34), (8, 7), (37, 21), (28, 25), (24, 16), (18, 21), (29, 31), (9, 10), (5, 17), (42, 27), (22, 32), (35, 2), (31, 21), (31, 22), (35, 41), (22, 11), (42, 16), (5, 26), (9, 33), (29, 12), (18, 22), (24, 27), (28, 18), (37, 22), (8, 36), (14, 9), (20, 27), (30, 3), (26, 35), (13, 1), (2, 5)]
theorem chk6 : Chk 43 37 6 5 2 38 tab6 := ⟨by decide, by decide +kernel, by decide +kernel, by decide +kernel, by decide +kernel, by decide +kernel, by decide +kernel, by decide +kernel, by decide +kernel⟩
noncomputable def tab7 : List (Nat × Nat) := [(0, 0), (2, 22), (52, 7), (62, 63), (25, 17), (46, 40), (11, 20), (16, 63), (21, 42), (13, 44), (56, 4), (24, 30), (14, 65), (55, 17), (5, 20), (53, 12), (26, 30), (54, 50), (66, 26), (38, 26), (51, 47), (12, 44), (23, 39), (58, 22), (7, 45), (47, 39), (6, 42), (17, 37), (49, 65), (63, 12), (42, 23), (48, 7), (64, 39), (34, 60), (40, 25), (18, 12), (61, 40), (30, 41), (27, 40), (4, 65), (4, 2), (27, 27), (30, 26), (61, 27), (18, 55), (40, 42), (34, 7), (64, 28), (48, 60), (42, 44), (63, 55), (49, 2), (17, 30), (6, 25), (47, 28), (7, 22), (58, 45), (23, 28), (12, 23), (51, 20), (38, 41), (66, 41), (54, 17), (26, 37), (53, 55), (5, 47), (55, 50), (14, 2), (24, 37), (56, 63), (13, 23), (21, 25), (16, 4), (11, 47), (46, 27), (25, 50), (62, 4), (52, 60), (2, 45)]
theorem chk7 : Chk 67 79 0 7 2 22 tab7 := ⟨by decide, by decide +kernel, by decide +kernel, by decide +kernel, by decide +kernel, by decide +kernel, by decide +kernel, by decide +kernel, by decide +kernel⟩
noncomputable def tab8 : List (Nat × Nat) := [(0, 0), (2, 55), (13, 51), (25, 63), (50, 39), (30, 66), (39, 19), (6, 34), (7, 55), (58, 12), (40, 34), (17, 15), (3, 37), (51, 23), (61, 56), (26, 15), (12, 51), (21, 33), (42, 16), (59, 19), (27, 56), (35, 8), (22, 8), (44, 37), (54, 63), (36, 48), (24, 52), (55, 4), (66, 66), (5, 23), (10, 8), (11, 23), (41, 39), (38, 1), (46, 11), (20, 30), (43, 28), (43, 39), (20, 37), (46, 56), (38, 66), (41, 28), (11, 44), (10, 59), (5, 44), (66, 1), (55, 63), (24, 15), (36, 19), (54, 4), (44, 30), (22, 59), (35, 59), (27, 11), (59, 48), (42, 51), (21, 34), (12, 16), (26, 52), (61, 11), (51, 44), (3, 30), (17, 52), (40, 33), (58, 55), (7, 12), (6, 33), (39, 48), (30, 1), (50, 28), (25, 4), (13, 16), (2, 12)]
theorem chk8 : Chk 67 73 0 2 2 55 tab8 := ⟨by decide, by decide +kernel, by decide +kernel, by decide +kernel, by decide +kernel, by decide +kernel, by decide +kernel, by decide +kernel, by decide +kernel⟩
noncomputable def tab9 : List (Nat × Nat) := [(0, 0), (1, 18), (60, 10), (15, 8), (49, 5), (42, 54), (59, 12), (61, 10), (43, 35), (37, 69), (26, 19), (18, 54), (12, 47), (39, 47), (9, 5), (63, 63), (19, 25), (75, 41), (21, 74), (68, 63), (29, 8), (6, 12), (45, 19), (35, 71), (66, 41), (28, 32), (17, 41), (14, 67), (74, 35), (23, 18), (55, 61), (41, 35), (8, 60), (27, 63), (27, 16), (8, 19), (41, 44), (55, 18), (23, 61), (74, 44), (14, 12), (17, 38), (28, 47), (66, 38), (35, 8), (45, 60), (6, 67), (29, 71), (68, 16), (21, 5), (75, 38), (19, 54), (63, 16), (9, 74), (39, 32), (12, 32), (18, 25), (26, 60), (37, 10), (43, 44), (61, 69), (59, 67), (42, 25), (49, 74), (15, 71), (60, 69), (1, 61)]
theorem chk9 : Chk 79 67 0 7 1 18 tab9 := ⟨by decide, by decide +kernel, by decide +kernel, by decide +kernel, by decide +kernel, by decide +kernel, by decide +kernel, by decide +kernel, by decide +kernel⟩
noncomputable def tab10 : List (Nat × Nat) := [(0, 0), (1, 2), (43, 6), (66, 52), (57, 40), (53, 53), (51, 31), (28, 25), (75, 52), (24, 70), (72, 56), (17, 27), (44, 74), (38, 72), (34, 53), (49, 10), (40, 31), (5, 72), (4, 64), (71, 26), (58, 71), (30, 71), (67, 48), (31, 13), (56, 70), (41, 6), (22, 67), (74, 73), (76, 56), (46, 13), (36, 7), (13, 64), (50, 74), (78, 9), (32, 67), (55, 2), (23, 77), (25, 67), (10, 23), (12, 25), (9, 10), (70, 8), (21, 10), (54, 40), (64, 5), (2, 13), (39, 54), (47, 39), (62, 64), (62, 15), (47, 40), (39, 25), (2, 66), (64, 74), (54, 39), (21, 69), (70, 71), (9, 69), (12, 54), (10, 56), (25, 12), (23, 2), (55, 77), (32, 12), (78, 70), (50, 5), (13, 15), (36, 72), (46, 66), (76, 23), (74, 6), (22, 12), (41, 73), (56, 9), (31, 66), (67, 31), (30, 8), (58, 8), (71, 53), (4, 15), (5, 7), (40, 48), (49, 69), (34, 26), (38, 7), (44, 5), (17, 52), (72, 23), (24, 9), (75, 27), (28, 54), (51, 48), (53, 26), (57, 39), (66, 27), (43, 73), (1, 77)]
theorem chk10 : Chk 79 97 0 3 1 2 tab10 := ⟨by decide, by decide +kernel, by decide +kernel, by decide +kernel, by decide +kernel, by decide +kernel, by decide +kernel, by decide +kernel, by decide +kernel⟩
noncomputable def tab11 : List (Nat × Nat) := [(0, 0), (1, 32), (34, 24), (72, 16), (80, 18), (71, 64), (86, 38), (110, 38), (2, 53), (57, 62), (85, 50), (8, 30), (17, 27), (58, 89), (69, 27), (99, 91), (100, 3), (70, 19), (28, 78), (107, 32), (19, 95), (24, 78), (106, 12), (88, 39), (47, 84), (87, 53), (41, 100), (79, 64), (4, 84), (112, 76), (93, 94), (52, 91), (104, 63), (38, 74), (25, 30), (116, 94), (12, 46), (39, 12), (82, 24), (75, 49), (11, 103), (60, 19), (101, 46), (46, 76), (3, 62), (94, 97), (103, 36), (123, 18), (21, 39), (14, 46), (32, 3), (51, 109), (76, 43), (67, 65), (91, 50), (96, 76), (18, 39), (84, 16), (124, 108), (109, 115), (98, 111), (122, 3), (45, 94), (78, 50), (78, 77), (45, 33), (122, 124), (98, 16), (109, 12), (124, 19), (84, 111), (18, 88), (96, 51), (91, 77), (67, 62), (76, 84), (51, 18), (32, 124), (14, 81), (21, 88), (123, 109), (103, 91), (94, 30), (3, 65), (46, 51), (101, 81), (60, 108), (11, 24), (75, 78), (82, 103), (39, 115), (12, 81), (116, 33), (25, 97), (38, 53), (104, 64), (52, 36), (93, 33), (112, 51), (4, 43), (79, 63), (41, 27), (87, 74), (47, 43), (88, 88), (106, 115), (24, 49), (19, 32), (107, 95), (28, 49), (70, 108), (100, 124), (99, 36), (69, 100), (58, 38), (17, 100), (8, 97), (85, 77), (57, 65), (2, 74), (110, 89), (86, 89), (71, 63), (80, 109), (72, 111), (34, 103), (1, 95)]
theorem chk11 : Chk 127 127 0 7 1 32 tab11 := ⟨by decide, by decide +kernel, by decide +kernel, by decide +kernel, by decide +kernel, by decide +kernel, by decide +kernel, by decide +kernel, by decide +kernel⟩
noncomputable def tab12 : List (Nat × Nat) := [(0, 0), (1, 2), (70, 105), (53, 121), (61, 17), (73, 107), (43, 32), (55, 32), (18, 45), (81, 87), (126, 16), (49, 80), (34, 119), (29, 95), (11, 119), (116, 113), (40, 73), (99, 28), (87, 97), (107, 2), (19, 125), (2, 97), (5, 126), (66, 15), (121, 101), (21, 45), (82, 8), (117, 107), (13, 101), (62, 98), (106, 93), (93, 113), (64, 20), (88, 82), (42, 80), (109, 93), (3, 41), (27, 126), (124, 105), (38, 30), (60, 22), (103, 28), (57, 41), (30, 98), (31, 87), (36, 47), (45, 14), (16, 17), (111, 15), (67, 41), (89, 73), (50, 110), (120, 26), (15, 40), (108, 16), (35, 98), (77, 15), (83, 121), (52, 99), (95, 1), (118, 6), (125, 73), (39, 93), (20, 16), (20, 111), (39, 34), (125, 54), (118, 121), (95, 126), (52, 28), (83, 6), (77, 112), (35, 29), (108, 111), (15, 87), (120, 101), (50, 17), (89, 54), (67, 86), (111, 112), (16, 110), (45, 113), (36, 80), (31, 40), (30, 29), (57, 86), (103, 99), (60, 105), (38, 97), (124, 22), (27, 1), (3, 86), (109, 34), (42, 47), (88, 45), (64, 107), (93, 14), (106, 34), (62, 29), (13, 26), (117, 20), (82, 119), (21, 82), (121, 26), (66, 112), (5, 1), (2, 30), (19, 2), (107, 125), (87, 30), (99, 99), (40, 54), (116, 14), (11, 8), (29, 32), (34, 8), (49, 47), (126, 111), (81, 40), (18, 82), (55, 95), (43, 95), (73, 20), (61, 110), (53, 6), (70, 22), (1, 125)]
theorem chk12 : Chk 127 127 0 3 1 2 tab12 := ⟨by decide, by decide +kernel, by decide +kernel, by decide +kernel, by decide +kernel, by decide +kernel, by decide +kernel, by decide +kernel, by decide +kernel⟩
theorem good_all (k : Nat) (hk : k < 13) : ∃ T, Good (curveAt k) T := by
  rcases Nat.lt_succ_iff_lt_or_eq.mp hk with hk | rfl
  rotate_left
  · exact ⟨_, good_of chk12⟩
  rcases Nat.lt_succ_iff_lt_or_eq.mp hk with hk | rfl
  rotate_left
  · exact ⟨_, good_of chk11⟩
  rcases Nat.lt_succ_iff_lt_or_eq.mp hk with hk | rfl
  rotate_left
  · exact ⟨_, good_of chk10⟩
  rcases Nat.lt_succ_iff_lt_or_eq.mp hk with hk | rfl
  rotate_left
  · exact ⟨_, good_of chk9⟩
  rcases Nat.lt_succ_iff_lt_or_eq.mp hk with hk | rfl
  rotate_left
  · exact ⟨_, good_of chk8⟩
  rcases Nat.lt_succ_iff_lt_or_eq.mp hk with hk | rfl
  rotate_left
  · exact ⟨_, good_of chk7⟩
  rcases Nat.lt_succ_iff_lt_or_eq.mp hk with hk | rfl
  rotate_left
  · exact ⟨_, good_of chk6⟩
  rcases Nat.lt_succ_iff_lt_or_eq.mp hk with hk | rfl
  rotate_left
  · exact ⟨_, good_of chk5⟩
  rcases Nat.lt_succ_iff_lt_or_eq.mp hk with hk | rfl
  rotate_left
  · exact ⟨_, good_of chk4⟩
  rcases Nat.lt_succ_iff_lt_or_eq.mp hk with hk | rfl
  rotate_left
  · exact ⟨_, good_of chk3⟩
  rcases Nat.lt_succ_iff_lt_or_eq.mp hk with hk | rfl
  rotate_left
  · exact ⟨_, good_of chk2⟩
  rcases Nat.lt_succ_iff_lt_or_eq.mp hk with hk | rfl
  rotate_left
  · exact ⟨_, good_of chk1⟩
  rcases Nat.lt_succ_iff_lt_or_eq.mp hk with hk | rfl
  · exact absurd hk (Nat.not_lt_zero _)
  · exact ⟨_, good_of chk0⟩

end Mine
end
open PySem PySem.Spec PySem.W PySem.Calls PyProof.Rows
namespace Mine

abbrev CallC (w : World) (mean : ExcName → Option Value) (mg mb : Str → Option Value) (f : Addr) (vs : List Value) (sz : Nat) (news : List (Addr × Obj))
    (Out : List (Addr × Obj) → Value → Prop) : Prop :=
  ∀ (dp un : Nat) (gd : Option (List Code)) (cn : Str) (cs : Scope) (a : Addr) (ccd : Value) (cl : List (Str × Addr)) (outer : List Env) (A₀ : Around) (base h₀ : Heap) (L : Addr) (m : Str → Option Value) (s : Shared) (Q E : Value → Shared → Prop),
    Below A₀ base outer h₀ → Fr h₀ L s.heap m → (Mine.H.hd.heap_39 w.params).In h₀ → News h₀ L s.heap news →
    Top Mine.H.hd.view_39 (looseW Mine.H.hd.view_39 [Str.ofString "FQ", Str.ofString "FQ_field_elements", Str.ofString "FQ_optimized_field_elements"]) mean mg mb h₀ →
    cs.kind = .function → dp + sz < recursionLimit → un + 8 * sz < cLine →
    (∀ r h' tk' news', Fr h₀ L h' m → News h₀ L h' news' → Out news' r → Q r { s with heap := h', toks := tk' }) →
    wpAny (model PySem.Challenge.rw_af0014_01.row.prog w) (ktrTop dp un gd cn cs L a ccd cl outer) (call (.ref f) vs) Q E s

/-- an equation that omega does not read -/
def Eqn (a b : Int) : Prop := a = b
theorem Eqn.eq {a b : Int} (h : Eqn a b) : a = b := h

variable {prog : Program} {w : World} {A : Around} {E : Value → Shared → Prop} {s : Shared} {a b : Int} {t u : Tok} {Q : Value → Shared → Prop}
theorem mod_nm (hb : 0 < b) (h : ∀ r tk', Eqn r (a.fmod b) → 0 ≤ r → r < b → Q (.int r s.toks) { s with toks := tk' }) : wpAny (model prog w) A (binaryOp .Mod (.int a t) (.int b u)) Q E s :=
  mod_int' (by omega) (h _ _ (Eq.refl _) (by rw [Int.fmod_eq_emod_of_nonneg _ (by omega)]; exact Int.emod_nonneg _ (by omega)) (by rw [Int.fmod_eq_emod_of_nonneg _ (by omega)]; exact Int.emod_lt_of_pos _ hb))
theorem div_nm (ha : 0 ≤ a) (hb : 0 < b) (hb2 : b < 2 ^ 30) (ha2 : a < 2 ^ 30) (h : ∀ r tk', Eqn r (a.fdiv b) → 0 ≤ r → r ≤ a → Q (.int r s.toks) { s with toks := tk' }) : wpAny (model prog w) A (binaryOp .FloorDiv (.int a t) (.int b u)) Q E s := by
  have e : a.fdiv b = a / b := Int.fdiv_eq_ediv_of_nonneg _ (by omega)
  refine floordiv_int (by omega) (h _ _ (Eq.refl _) ?_ ?_) (Or.inl (PyProof.noPylong_small (by omega)))
  · rw [e]; exact Int.ediv_nonneg ha (by omega)
  · rw [e]; exact Int.ediv_le_self _ ha
theorem mul_nm (h : ∀ r tk', Eqn r (a * b) → Q (.int r s.toks) { s with toks := tk' }) (hm : IntMulOk a b) : wpAny (model prog w) A (binaryOp .Mult (.int a t) (.int b u)) Q E s :=
  mul_int (h _ _ (Eq.refl _)) hm
theorem mul_okr {x y P : Int} (h0 : 0 ≤ y) (h1 : y < P) (hP : P ≤ 127) : IntMulOk x y := PySem.IntMulOk.of_right (PySem.intBits_le_64 (by omega) (by omega))
theorem mul_okl {x y P : Int} (h0 : 0 ≤ x) (h1 : x < P) (hP : P ≤ 127) : IntMulOk x y := PySem.IntMulOk.of_left (PySem.intBits_le_64 (by omega) (by omega))
theorem pow2_nm (h1 : -1000000 < a) (h2 : a < 1000000) (h : ∀ r tk', Eqn r (a ^ 2) → Q (.int r s.toks) { s with toks := tk' }) : wpAny (model prog w) A (binaryOp .Pow (.int a t) (.int 2 u)) Q E s :=
  pow_int_small (by decide) (by decide) (by omega) (h _ _ (Eq.refl _))
theorem pow3_nm (h1 : -1000000 < a) (h2 : a < 1000000) (h : ∀ r tk', Eqn r (a ^ 3) → Q (.int r s.toks) { s with toks := tk' }) : wpAny (model prog w) A (binaryOp .Pow (.int a t) (.int 3 u)) Q E s :=
  pow_int_small (by decide) (by decide) (by omega) (h _ _ (Eq.refl _))
theorem pow4_nm (h1 : -1000000 < a) (h2 : a < 1000000) (h : ∀ r tk', Eqn r (a ^ 4) → Q (.int r s.toks) { s with toks := tk' }) : wpAny (model prog w) A (binaryOp .Pow (.int a t) (.int 4 u)) Q E s :=
  pow_int_small (by decide) (by decide) (by omega) (h _ _ (Eq.refl _))
theorem pow2_b {P : Int} (h0 : 0 ≤ a) (h1 : a < P) (hP : P ≤ 127) (h : ∀ r tk', Eqn r (a ^ 2) → Q (.int r s.toks) { s with toks := tk' }) : wpAny (model prog w) A (binaryOp .Pow (.int a t) (.int 2 u)) Q E s := pow2_nm (by omega) (by omega) h
theorem pow3_b {P : Int} (h0 : 0 ≤ a) (h1 : a < P) (hP : P ≤ 127) (h : ∀ r tk', Eqn r (a ^ 3) → Q (.int r s.toks) { s with toks := tk' }) : wpAny (model prog w) A (binaryOp .Pow (.int a t) (.int 3 u)) Q E s := pow3_nm (by omega) (by omega) h
theorem pow4_b {P : Int} (h0 : 0 ≤ a) (h1 : a < P) (hP : P ≤ 127) (h : ∀ r tk', Eqn r (a ^ 4) → Q (.int r s.toks) { s with toks := tk' }) : wpAny (model prog w) A (binaryOp .Pow (.int a t) (.int 4 u)) Q E s := pow4_nm (by omega) (by omega) h
/-- an item of a tuple that the call made -/
theorem sub_tup {value slice : Expr} {h₀ : Heap} {L : Addr} {news : List (Addr × Obj)} {p : Addr} {vs : List Value} {k : Int} {j : Nat} {v : Value} (N : News h₀ L s.heap news) (hp : (p, ({ cls := .type "tuple", data := .seq vs.toArray } : Obj)) ∈ news)
    (hlo : 0 ≤ k) (hhi : k < 8) (hj : seqIndex? k vs.length = some j) (hx : vs[j]? = some v) (h : Q v s)
    (hs : subscripted slice false (.ref p) (.int k u) = operate [.ref p, .int k u] (getItem (.ref p) (.int k u))) :
    wpAny (model prog w) A (subscriptTail value slice (.ref p) (.int k u)) Q E s :=
  item_tupleT ⟨_, N.get hp, rfl, _, rfl⟩ (by omega) (by omega) hj hx h hs

theorem mh0 {α : Type} {p  : α} {l : List α} : p ∈ p :: l := List.Mem.head _
theorem mh1 {α : Type} {p a0 : α} {l : List α} : p ∈ a0 :: p :: l := List.Mem.tail _ mh0
theorem mh2 {α : Type} {p a0 a1 : α} {l : List α} : p ∈ a0 :: a1 :: p :: l := List.Mem.tail _ mh1
theorem mh3 {α : Type} {p a0 a1 a2 : α} {l : List α} : p ∈ a0 :: a1 :: a2 :: p :: l := List.Mem.tail _ mh2
theorem mh4 {α : Type} {p a0 a1 a2 a3 : α} {l : List α} : p ∈ a0 :: a1 :: a2 :: a3 :: p :: l := List.Mem.tail _ mh3
theorem mh5 {α : Type} {p a0 a1 a2 a3 a4 : α} {l : List α} : p ∈ a0 :: a1 :: a2 :: a3 :: a4 :: p :: l := List.Mem.tail _ mh4
theorem mh6 {α : Type} {p a0 a1 a2 a3 a4 a5 : α} {l : List α} : p ∈ a0 :: a1 :: a2 :: a3 :: a4 :: a5 :: p :: l := List.Mem.tail _ mh5
theorem mh7 {α : Type} {p a0 a1 a2 a3 a4 a5 a6 : α} {l : List α} : p ∈ a0 :: a1 :: a2 :: a3 :: a4 :: a5 :: a6 :: p :: l := List.Mem.tail _ mh6
theorem mh8 {α : Type} {p a0 a1 a2 a3 a4 a5 a6 a7 : α} {l : List α} : p ∈ a0 :: a1 :: a2 :: a3 :: a4 :: a5 :: a6 :: a7 :: p :: l := List.Mem.tail _ mh7
theorem mh9 {α : Type} {p a0 a1 a2 a3 a4 a5 a6 a7 a8 : α} {l : List α} : p ∈ a0 :: a1 :: a2 :: a3 :: a4 :: a5 :: a6 :: a7 :: a8 :: p :: l := List.Mem.tail _ mh8
theorem mh10 {α : Type} {p a0 a1 a2 a3 a4 a5 a6 a7 a8 a9 : α} {l : List α} : p ∈ a0 :: a1 :: a2 :: a3 :: a4 :: a5 :: a6 :: a7 :: a8 :: a9 :: p :: l := List.Mem.tail _ mh9
theorem mh11 {α : Type} {p a0 a1 a2 a3 a4 a5 a6 a7 a8 a9 a10 : α} {l : List α} : p ∈ a0 :: a1 :: a2 :: a3 :: a4 :: a5 :: a6 :: a7 :: a8 :: a9 :: a10 :: p :: l := List.Mem.tail _ mh10
theorem mh12 {α : Type} {p a0 a1 a2 a3 a4 a5 a6 a7 a8 a9 a10 a11 : α} {l : List α} : p ∈ a0 :: a1 :: a2 :: a3 :: a4 :: a5 :: a6 :: a7 :: a8 :: a9 :: a10 :: a11 :: p :: l := List.Mem.tail _ mh11
theorem mh13 {α : Type} {p a0 a1 a2 a3 a4 a5 a6 a7 a8 a9 a10 a11 a12 : α} {l : List α} : p ∈ a0 :: a1 :: a2 :: a3 :: a4 :: a5 :: a6 :: a7 :: a8 :: a9 :: a10 :: a11 :: a12 :: p :: l := List.Mem.tail _ mh12
theorem mh14 {α : Type} {p a0 a1 a2 a3 a4 a5 a6 a7 a8 a9 a10 a11 a12 a13 : α} {l : List α} : p ∈ a0 :: a1 :: a2 :: a3 :: a4 :: a5 :: a6 :: a7 :: a8 :: a9 :: a10 :: a11 :: a12 :: a13 :: p :: l := List.Mem.tail _ mh13
theorem mh15 {α : Type} {p a0 a1 a2 a3 a4 a5 a6 a7 a8 a9 a10 a11 a12 a13 a14 : α} {l : List α} : p ∈ a0 :: a1 :: a2 :: a3 :: a4 :: a5 :: a6 :: a7 :: a8 :: a9 :: a10 :: a11 :: a12 :: a13 :: a14 :: p :: l := List.Mem.tail _ mh14
theorem mh16 {α : Type} {p a0 a1 a2 a3 a4 a5 a6 a7 a8 a9 a10 a11 a12 a13 a14 a15 : α} {l : List α} : p ∈ a0 :: a1 :: a2 :: a3 :: a4 :: a5 :: a6 :: a7 :: a8 :: a9 :: a10 :: a11 :: a12 :: a13 :: a14 :: a15 :: p :: l := List.Mem.tail _ mh15
theorem mh17 {α : Type} {p a0 a1 a2 a3 a4 a5 a6 a7 a8 a9 a10 a11 a12 a13 a14 a15 a16 : α} {l : List α} : p ∈ a0 :: a1 :: a2 :: a3 :: a4 :: a5 :: a6 :: a7 :: a8 :: a9 :: a10 :: a11 :: a12 :: a13 :: a14 :: a15 :: a16 :: p :: l := List.Mem.tail _ mh16
theorem mh18 {α : Type} {p a0 a1 a2 a3 a4 a5 a6 a7 a8 a9 a10 a11 a12 a13 a14 a15 a16 a17 : α} {l : List α} : p ∈ a0 :: a1 :: a2 :: a3 :: a4 :: a5 :: a6 :: a7 :: a8 :: a9 :: a10 :: a11 :: a12 :: a13 :: a14 :: a15 :: a16 :: a17 :: p :: l := List.Mem.tail _ mh17
theorem mh19 {α : Type} {p a0 a1 a2 a3 a4 a5 a6 a7 a8 a9 a10 a11 a12 a13 a14 a15 a16 a17 a18 : α} {l : List α} : p ∈ a0 :: a1 :: a2 :: a3 :: a4 :: a5 :: a6 :: a7 :: a8 :: a9 :: a10 :: a11 :: a12 :: a13 :: a14 :: a15 :: a16 :: a17 :: a18 :: p :: l := List.Mem.tail _ mh18
theorem mh20 {α : Type} {p a0 a1 a2 a3 a4 a5 a6 a7 a8 a9 a10 a11 a12 a13 a14 a15 a16 a17 a18 a19 : α} {l : List α} : p ∈ a0 :: a1 :: a2 :: a3 :: a4 :: a5 :: a6 :: a7 :: a8 :: a9 :: a10 :: a11 :: a12 :: a13 :: a14 :: a15 :: a16 :: a17 :: a18 :: a19 :: p :: l := List.Mem.tail _ mh19
theorem mh21 {α : Type} {p a0 a1 a2 a3 a4 a5 a6 a7 a8 a9 a10 a11 a12 a13 a14 a15 a16 a17 a18 a19 a20 : α} {l : List α} : p ∈ a0 :: a1 :: a2 :: a3 :: a4 :: a5 :: a6 :: a7 :: a8 :: a9 :: a10 :: a11 :: a12 :: a13 :: a14 :: a15 :: a16 :: a17 :: a18 :: a19 :: a20 :: p :: l := List.Mem.tail _ mh20
theorem mh22 {α : Type} {p a0 a1 a2 a3 a4 a5 a6 a7 a8 a9 a10 a11 a12 a13 a14 a15 a16 a17 a18 a19 a20 a21 : α} {l : List α} : p ∈ a0 :: a1 :: a2 :: a3 :: a4 :: a5 :: a6 :: a7 :: a8 :: a9 :: a10 :: a11 :: a12 :: a13 :: a14 :: a15 :: a16 :: a17 :: a18 :: a19 :: a20 :: a21 :: p :: l := List.Mem.tail _ mh21
theorem mh23 {α : Type} {p a0 a1 a2 a3 a4 a5 a6 a7 a8 a9 a10 a11 a12 a13 a14 a15 a16 a17 a18 a19 a20 a21 a22 : α} {l : List α} : p ∈ a0 :: a1 :: a2 :: a3 :: a4 :: a5 :: a6 :: a7 :: a8 :: a9 :: a10 :: a11 :: a12 :: a13 :: a14 :: a15 :: a16 :: a17 :: a18 :: a19 :: a20 :: a21 :: a22 :: p :: l := List.Mem.tail _ mh22
theorem mh24 {α : Type} {p a0 a1 a2 a3 a4 a5 a6 a7 a8 a9 a10 a11 a12 a13 a14 a15 a16 a17 a18 a19 a20 a21 a22 a23 : α} {l : List α} : p ∈ a0 :: a1 :: a2 :: a3 :: a4 :: a5 :: a6 :: a7 :: a8 :: a9 :: a10 :: a11 :: a12 :: a13 :: a14 :: a15 :: a16 :: a17 :: a18 :: a19 :: a20 :: a21 :: a22 :: a23 :: p :: l := List.Mem.tail _ mh23
theorem mh25 {α : Type} {p a0 a1 a2 a3 a4 a5 a6 a7 a8 a9 a10 a11 a12 a13 a14 a15 a16 a17 a18 a19 a20 a21 a22 a23 a24 : α} {l : List α} : p ∈ a0 :: a1 :: a2 :: a3 :: a4 :: a5 :: a6 :: a7 :: a8 :: a9 :: a10 :: a11 :: a12 :: a13 :: a14 :: a15 :: a16 :: a17 :: a18 :: a19 :: a20 :: a21 :: a22 :: a23 :: a24 :: p :: l := List.Mem.tail _ mh24
theorem mh26 {α : Type} {p a0 a1 a2 a3 a4 a5 a6 a7 a8 a9 a10 a11 a12 a13 a14 a15 a16 a17 a18 a19 a20 a21 a22 a23 a24 a25 : α} {l : List α} : p ∈ a0 :: a1 :: a2 :: a3 :: a4 :: a5 :: a6 :: a7 :: a8 :: a9 :: a10 :: a11 :: a12 :: a13 :: a14 :: a15 :: a16 :: a17 :: a18 :: a19 :: a20 :: a21 :: a22 :: a23 :: a24 :: a25 :: p :: l := List.Mem.tail _ mh25
theorem mh27 {α : Type} {p a0 a1 a2 a3 a4 a5 a6 a7 a8 a9 a10 a11 a12 a13 a14 a15 a16 a17 a18 a19 a20 a21 a22 a23 a24 a25 a26 : α} {l : List α} : p ∈ a0 :: a1 :: a2 :: a3 :: a4 :: a5 :: a6 :: a7 :: a8 :: a9 :: a10 :: a11 :: a12 :: a13 :: a14 :: a15 :: a16 :: a17 :: a18 :: a19 :: a20 :: a21 :: a22 :: a23 :: a24 :: a25 :: a26 :: p :: l := List.Mem.tail _ mh26
theorem mh28 {α : Type} {p a0 a1 a2 a3 a4 a5 a6 a7 a8 a9 a10 a11 a12 a13 a14 a15 a16 a17 a18 a19 a20 a21 a22 a23 a24 a25 a26 a27 : α} {l : List α} : p ∈ a0 :: a1 :: a2 :: a3 :: a4 :: a5 :: a6 :: a7 :: a8 :: a9 :: a10 :: a11 :: a12 :: a13 :: a14 :: a15 :: a16 :: a17 :: a18 :: a19 :: a20 :: a21 :: a22 :: a23 :: a24 :: a25 :: a26 :: a27 :: p :: l := List.Mem.tail _ mh27
theorem mh29 {α : Type} {p a0 a1 a2 a3 a4 a5 a6 a7 a8 a9 a10 a11 a12 a13 a14 a15 a16 a17 a18 a19 a20 a21 a22 a23 a24 a25 a26 a27 a28 : α} {l : List α} : p ∈ a0 :: a1 :: a2 :: a3 :: a4 :: a5 :: a6 :: a7 :: a8 :: a9 :: a10 :: a11 :: a12 :: a13 :: a14 :: a15 :: a16 :: a17 :: a18 :: a19 :: a20 :: a21 :: a22 :: a23 :: a24 :: a25 :: a26 :: a27 :: a28 :: p :: l := List.Mem.tail _ mh28
theorem mh30 {α : Type} {p a0 a1 a2 a3 a4 a5 a6 a7 a8 a9 a10 a11 a12 a13 a14 a15 a16 a17 a18 a19 a20 a21 a22 a23 a24 a25 a26 a27 a28 a29 : α} {l : List α} : p ∈ a0 :: a1 :: a2 :: a3 :: a4 :: a5 :: a6 :: a7 :: a8 :: a9 :: a10 :: a11 :: a12 :: a13 :: a14 :: a15 :: a16 :: a17 :: a18 :: a19 :: a20 :: a21 :: a22 :: a23 :: a24 :: a25 :: a26 :: a27 :: a28 :: a29 :: p :: l := List.Mem.tail _ mh29
theorem mh31 {α : Type} {p a0 a1 a2 a3 a4 a5 a6 a7 a8 a9 a10 a11 a12 a13 a14 a15 a16 a17 a18 a19 a20 a21 a22 a23 a24 a25 a26 a27 a28 a29 a30 : α} {l : List α} : p ∈ a0 :: a1 :: a2 :: a3 :: a4 :: a5 :: a6 :: a7 :: a8 :: a9 :: a10 :: a11 :: a12 :: a13 :: a14 :: a15 :: a16 :: a17 :: a18 :: a19 :: a20 :: a21 :: a22 :: a23 :: a24 :: a25 :: a26 :: a27 :: a28 :: a29 :: a30 :: p :: l := List.Mem.tail _ mh30
theorem mh32 {α : Type} {p a0 a1 a2 a3 a4 a5 a6 a7 a8 a9 a10 a11 a12 a13 a14 a15 a16 a17 a18 a19 a20 a21 a22 a23 a24 a25 a26 a27 a28 a29 a30 a31 : α} {l : List α} : p ∈ a0 :: a1 :: a2 :: a3 :: a4 :: a5 :: a6 :: a7 :: a8 :: a9 :: a10 :: a11 :: a12 :: a13 :: a14 :: a15 :: a16 :: a17 :: a18 :: a19 :: a20 :: a21 :: a22 :: a23 :: a24 :: a25 :: a26 :: a27 :: a28 :: a29 :: a30 :: a31 :: p :: l := List.Mem.tail _ mh31
theorem mh33 {α : Type} {p a0 a1 a2 a3 a4 a5 a6 a7 a8 a9 a10 a11 a12 a13 a14 a15 a16 a17 a18 a19 a20 a21 a22 a23 a24 a25 a26 a27 a28 a29 a30 a31 a32 : α} {l : List α} : p ∈ a0 :: a1 :: a2 :: a3 :: a4 :: a5 :: a6 :: a7 :: a8 :: a9 :: a10 :: a11 :: a12 :: a13 :: a14 :: a15 :: a16 :: a17 :: a18 :: a19 :: a20 :: a21 :: a22 :: a23 :: a24 :: a25 :: a26 :: a27 :: a28 :: a29 :: a30 :: a31 :: a32 :: p :: l := List.Mem.tail _ mh32
theorem mh34 {α : Type} {p a0 a1 a2 a3 a4 a5 a6 a7 a8 a9 a10 a11 a12 a13 a14 a15 a16 a17 a18 a19 a20 a21 a22 a23 a24 a25 a26 a27 a28 a29 a30 a31 a32 a33 : α} {l : List α} : p ∈ a0 :: a1 :: a2 :: a3 :: a4 :: a5 :: a6 :: a7 :: a8 :: a9 :: a10 :: a11 :: a12 :: a13 :: a14 :: a15 :: a16 :: a17 :: a18 :: a19 :: a20 :: a21 :: a22 :: a23 :: a24 :: a25 :: a26 :: a27 :: a28 :: a29 :: a30 :: a31 :: a32 :: a33 :: p :: l := List.Mem.tail _ mh33
theorem mh35 {α : Type} {p a0 a1 a2 a3 a4 a5 a6 a7 a8 a9 a10 a11 a12 a13 a14 a15 a16 a17 a18 a19 a20 a21 a22 a23 a24 a25 a26 a27 a28 a29 a30 a31 a32 a33 a34 : α} {l : List α} : p ∈ a0 :: a1 :: a2 :: a3 :: a4 :: a5 :: a6 :: a7 :: a8 :: a9 :: a10 :: a11 :: a12 :: a13 :: a14 :: a15 :: a16 :: a17 :: a18 :: a19 :: a20 :: a21 :: a22 :: a23 :: a24 :: a25 :: a26 :: a27 :: a28 :: a29 :: a30 :: a31 :: a32 :: a33 :: a34 :: p :: l := List.Mem.tail _ mh34
theorem mh36 {α : Type} {p a0 a1 a2 a3 a4 a5 a6 a7 a8 a9 a10 a11 a12 a13 a14 a15 a16 a17 a18 a19 a20 a21 a22 a23 a24 a25 a26 a27 a28 a29 a30 a31 a32 a33 a34 a35 : α} {l : List α} : p ∈ a0 :: a1 :: a2 :: a3 :: a4 :: a5 :: a6 :: a7 :: a8 :: a9 :: a10 :: a11 :: a12 :: a13 :: a14 :: a15 :: a16 :: a17 :: a18 :: a19 :: a20 :: a21 :: a22 :: a23 :: a24 :: a25 :: a26 :: a27 :: a28 :: a29 :: a30 :: a31 :: a32 :: a33 :: a34 :: a35 :: p :: l := List.Mem.tail _ mh35
theorem mh37 {α : Type} {p a0 a1 a2 a3 a4 a5 a6 a7 a8 a9 a10 a11 a12 a13 a14 a15 a16 a17 a18 a19 a20 a21 a22 a23 a24 a25 a26 a27 a28 a29 a30 a31 a32 a33 a34 a35 a36 : α} {l : List α} : p ∈ a0 :: a1 :: a2 :: a3 :: a4 :: a5 :: a6 :: a7 :: a8 :: a9 :: a10 :: a11 :: a12 :: a13 :: a14 :: a15 :: a16 :: a17 :: a18 :: a19 :: a20 :: a21 :: a22 :: a23 :: a24 :: a25 :: a26 :: a27 :: a28 :: a29 :: a30 :: a31 :: a32 :: a33 :: a34 :: a35 :: a36 :: p :: l := List.Mem.tail _ mh36
theorem mh38 {α : Type} {p a0 a1 a2 a3 a4 a5 a6 a7 a8 a9 a10 a11 a12 a13 a14 a15 a16 a17 a18 a19 a20 a21 a22 a23 a24 a25 a26 a27 a28 a29 a30 a31 a32 a33 a34 a35 a36 a37 : α} {l : List α} : p ∈ a0 :: a1 :: a2 :: a3 :: a4 :: a5 :: a6 :: a7 :: a8 :: a9 :: a10 :: a11 :: a12 :: a13 :: a14 :: a15 :: a16 :: a17 :: a18 :: a19 :: a20 :: a21 :: a22 :: a23 :: a24 :: a25 :: a26 :: a27 :: a28 :: a29 :: a30 :: a31 :: a32 :: a33 :: a34 :: a35 :: a36 :: a37 :: p :: l := List.Mem.tail _ mh37
theorem mh39 {α : Type} {p a0 a1 a2 a3 a4 a5 a6 a7 a8 a9 a10 a11 a12 a13 a14 a15 a16 a17 a18 a19 a20 a21 a22 a23 a24 a25 a26 a27 a28 a29 a30 a31 a32 a33 a34 a35 a36 a37 a38 : α} {l : List α} : p ∈ a0 :: a1 :: a2 :: a3 :: a4 :: a5 :: a6 :: a7 :: a8 :: a9 :: a10 :: a11 :: a12 :: a13 :: a14 :: a15 :: a16 :: a17 :: a18 :: a19 :: a20 :: a21 :: a22 :: a23 :: a24 :: a25 :: a26 :: a27 :: a28 :: a29 :: a30 :: a31 :: a32 :: a33 :: a34 :: a35 :: a36 :: a37 :: a38 :: p :: l := List.Mem.tail _ mh38
theorem mh40 {α : Type} {p a0 a1 a2 a3 a4 a5 a6 a7 a8 a9 a10 a11 a12 a13 a14 a15 a16 a17 a18 a19 a20 a21 a22 a23 a24 a25 a26 a27 a28 a29 a30 a31 a32 a33 a34 a35 a36 a37 a38 a39 : α} {l : List α} : p ∈ a0 :: a1 :: a2 :: a3 :: a4 :: a5 :: a6 :: a7 :: a8 :: a9 :: a10 :: a11 :: a12 :: a13 :: a14 :: a15 :: a16 :: a17 :: a18 :: a19 :: a20 :: a21 :: a22 :: a23 :: a24 :: a25 :: a26 :: a27 :: a28 :: a29 :: a30 :: a31 :: a32 :: a33 :: a34 :: a35 :: a36 :: a37 :: a38 :: a39 :: p :: l := List.Mem.tail _ mh39
theorem mh41 {α : Type} {p a0 a1 a2 a3 a4 a5 a6 a7 a8 a9 a10 a11 a12 a13 a14 a15 a16 a17 a18 a19 a20 a21 a22 a23 a24 a25 a26 a27 a28 a29 a30 a31 a32 a33 a34 a35 a36 a37 a38 a39 a40 : α} {l : List α} : p ∈ a0 :: a1 :: a2 :: a3 :: a4 :: a5 :: a6 :: a7 :: a8 :: a9 :: a10 :: a11 :: a12 :: a13 :: a14 :: a15 :: a16 :: a17 :: a18 :: a19 :: a20 :: a21 :: a22 :: a23 :: a24 :: a25 :: a26 :: a27 :: a28 :: a29 :: a30 :: a31 :: a32 :: a33 :: a34 :: a35 :: a36 :: a37 :: a38 :: a39 :: a40 :: p :: l := List.Mem.tail _ mh40
theorem mh42 {α : Type} {p a0 a1 a2 a3 a4 a5 a6 a7 a8 a9 a10 a11 a12 a13 a14 a15 a16 a17 a18 a19 a20 a21 a22 a23 a24 a25 a26 a27 a28 a29 a30 a31 a32 a33 a34 a35 a36 a37 a38 a39 a40 a41 : α} {l : List α} : p ∈ a0 :: a1 :: a2 :: a3 :: a4 :: a5 :: a6 :: a7 :: a8 :: a9 :: a10 :: a11 :: a12 :: a13 :: a14 :: a15 :: a16 :: a17 :: a18 :: a19 :: a20 :: a21 :: a22 :: a23 :: a24 :: a25 :: a26 :: a27 :: a28 :: a29 :: a30 :: a31 :: a32 :: a33 :: a34 :: a35 :: a36 :: a37 :: a38 :: a39 :: a40 :: a41 :: p :: l := List.Mem.tail _ mh41
theorem mh43 {α : Type} {p a0 a1 a2 a3 a4 a5 a6 a7 a8 a9 a10 a11 a12 a13 a14 a15 a16 a17 a18 a19 a20 a21 a22 a23 a24 a25 a26 a27 a28 a29 a30 a31 a32 a33 a34 a35 a36 a37 a38 a39 a40 a41 a42 : α} {l : List α} : p ∈ a0 :: a1 :: a2 :: a3 :: a4 :: a5 :: a6 :: a7 :: a8 :: a9 :: a10 :: a11 :: a12 :: a13 :: a14 :: a15 :: a16 :: a17 :: a18 :: a19 :: a20 :: a21 :: a22 :: a23 :: a24 :: a25 :: a26 :: a27 :: a28 :: a29 :: a30 :: a31 :: a32 :: a33 :: a34 :: a35 :: a36 :: a37 :: a38 :: a39 :: a40 :: a41 :: a42 :: p :: l := List.Mem.tail _ mh42
theorem mh44 {α : Type} {p a0 a1 a2 a3 a4 a5 a6 a7 a8 a9 a10 a11 a12 a13 a14 a15 a16 a17 a18 a19 a20 a21 a22 a23 a24 a25 a26 a27 a28 a29 a30 a31 a32 a33 a34 a35 a36 a37 a38 a39 a40 a41 a42 a43 : α} {l : List α} : p ∈ a0 :: a1 :: a2 :: a3 :: a4 :: a5 :: a6 :: a7 :: a8 :: a9 :: a10 :: a11 :: a12 :: a13 :: a14 :: a15 :: a16 :: a17 :: a18 :: a19 :: a20 :: a21 :: a22 :: a23 :: a24 :: a25 :: a26 :: a27 :: a28 :: a29 :: a30 :: a31 :: a32 :: a33 :: a34 :: a35 :: a36 :: a37 :: a38 :: a39 :: a40 :: a41 :: a42 :: a43 :: p :: l := List.Mem.tail _ mh43
theorem mh45 {α : Type} {p a0 a1 a2 a3 a4 a5 a6 a7 a8 a9 a10 a11 a12 a13 a14 a15 a16 a17 a18 a19 a20 a21 a22 a23 a24 a25 a26 a27 a28 a29 a30 a31 a32 a33 a34 a35 a36 a37 a38 a39 a40 a41 a42 a43 a44 : α} {l : List α} : p ∈ a0 :: a1 :: a2 :: a3 :: a4 :: a5 :: a6 :: a7 :: a8 :: a9 :: a10 :: a11 :: a12 :: a13 :: a14 :: a15 :: a16 :: a17 :: a18 :: a19 :: a20 :: a21 :: a22 :: a23 :: a24 :: a25 :: a26 :: a27 :: a28 :: a29 :: a30 :: a31 :: a32 :: a33 :: a34 :: a35 :: a36 :: a37 :: a38 :: a39 :: a40 :: a41 :: a42 :: a43 :: a44 :: p :: l := List.Mem.tail _ mh44
theorem mh46 {α : Type} {p a0 a1 a2 a3 a4 a5 a6 a7 a8 a9 a10 a11 a12 a13 a14 a15 a16 a17 a18 a19 a20 a21 a22 a23 a24 a25 a26 a27 a28 a29 a30 a31 a32 a33 a34 a35 a36 a37 a38 a39 a40 a41 a42 a43 a44 a45 : α} {l : List α} : p ∈ a0 :: a1 :: a2 :: a3 :: a4 :: a5 :: a6 :: a7 :: a8 :: a9 :: a10 :: a11 :: a12 :: a13 :: a14 :: a15 :: a16 :: a17 :: a18 :: a19 :: a20 :: a21 :: a22 :: a23 :: a24 :: a25 :: a26 :: a27 :: a28 :: a29 :: a30 :: a31 :: a32 :: a33 :: a34 :: a35 :: a36 :: a37 :: a38 :: a39 :: a40 :: a41 :: a42 :: a43 :: a44 :: a45 :: p :: l := List.Mem.tail _ mh45
theorem mh47 {α : Type} {p a0 a1 a2 a3 a4 a5 a6 a7 a8 a9 a10 a11 a12 a13 a14 a15 a16 a17 a18 a19 a20 a21 a22 a23 a24 a25 a26 a27 a28 a29 a30 a31 a32 a33 a34 a35 a36 a37 a38 a39 a40 a41 a42 a43 a44 a45 a46 : α} {l : List α} : p ∈ a0 :: a1 :: a2 :: a3 :: a4 :: a5 :: a6 :: a7 :: a8 :: a9 :: a10 :: a11 :: a12 :: a13 :: a14 :: a15 :: a16 :: a17 :: a18 :: a19 :: a20 :: a21 :: a22 :: a23 :: a24 :: a25 :: a26 :: a27 :: a28 :: a29 :: a30 :: a31 :: a32 :: a33 :: a34 :: a35 :: a36 :: a37 :: a38 :: a39 :: a40 :: a41 :: a42 :: a43 :: a44 :: a45 :: a46 :: p :: l := List.Mem.tail _ mh46
theorem mem4 {α : Type} {a b c d p : α} {l : List α} (h : p ∈ l) : p ∈ a :: b :: c :: d :: l := .tail _ (.tail _ (.tail _ (.tail _ h)))

local macro_rules | `(tactic| walk_at "binaryOp Mod int int") => `(tactic| (k_here; (with_reducible refine mod_nm ?hb ?_); (case hb => first | with_reducible assumption | omega); intro r tk9 hr hr0 hr1))
local macro_rules | `(tactic| walk_at "binaryOp FloorDiv int int") => `(tactic| (k_here; (with_reducible refine div_nm ?ha ?hb ?hb2 ?ha2 ?_); (case ha => omega); (case hb => omega); (case hb2 => omega); (case ha2 => omega); intro r tk9 hr hr0 hr1))
local macro_rules | `(tactic| walk_at "mem") => `(tactic| with_reducible first | exact mh0 | exact mh1 | exact mh2 | exact mh3 | exact mh4 | exact mh5 | exact mh6 | exact mh7 | exact mh8 | exact mh9 | exact mh10 | exact mh11 | exact mh12 | exact mh13 | exact mh14 | exact mh15)
local macro_rules | `(tactic| walk_at "go") => `(tactic| repeat' (first | (k_unfold; (try dsimp only)) | ((fail_if_success (with_reducible show wpAny _ _ (call (Value.ref _) _) _ _ _)); (fail_if_success (with_reducible show wpAny _ _ (exec (Stmt.While _ _ _ _) _) _ _ _)); (fail_if_success (with_reducible show KswEnd _ _ _ _ _ _ _ _ _ _ _ _)); first | ((with_reducible show wpAny _ _ (binaryOp .FloorDiv _ _) _ _ _); dsimp only; walk1) | walk1 | (dsimp only; walk1))))
local macro_rules | `(tactic| walk_at "enter") => `(tactic| ((case kA => exact rfl); (case kF => exact rfl); (case kK => assumption); (case k1 => k_asm); (case k2 => k_asm); (case k3 => k_asm); (case k4 => k_asm); (case k5 => k_asm); (case k6 => k_is); (case k7 => k_is); (case k8 => ktr_room); (case k9 => exact BindsTo.of_eq rfl); (case c5 => decide); (case kB => exact locs rfl); (case c2 => exact rfl); (case c3 => exact rfl); (case c4 => exact rfl); intro g' L' h' FG' F' N' B' X' T'; (try dsimp only); (try k_fold)))
local macro_rules | `(tactic| ktr_room) => `(tactic| ((simp only [depth_under_make, depth_under_kw, depth_in1, depth_deeper, depth_caller]); decide))

abbrev InvSt := Int × Int × Int × Int × Tok × Tok × Tok × Tok
abbrev invPs (c : InvSt) : List (Str × Value) := [("lm", .int c.1 c.2.2.2.2.1), ("hm", .int c.2.1 c.2.2.2.2.2.1), ("low", .int c.2.2.1 c.2.2.2.2.2.2.1), ("high", .int c.2.2.2.1 c.2.2.2.2.2.2.2)]
abbrev InvP (x n : Int) (c : InvSt) : Prop := 0 ≤ c.2.2.1 ∧ c.2.2.1 < c.2.2.2.1 ∧ c.2.2.2.1 ≤ n ∧ -n ≤ c.1 ∧ c.1 ≤ n ∧ -n ≤ c.2.1 ∧ c.2.1 ≤ n ∧ InvS x n c.1 c.2.1 c.2.2.1 c.2.2.2.1


section
variable {prog : Program} {w : World} {A : Around} {E : Value → Shared → Prop} {Q : Flow → Shared → Prop} {s : Shared} {env : Env} {h₀ : Heap} {L : Addr}
theorem inv_while {test : Expr} {body : List Stmt} {pos : Pos} {m₀ : Str → Option Value} {news nx : List (Addr × Obj)} {x n lm hm low high : Int} {t1 t2 t3 t4 : Tok}
    (F : Fr h₀ L s.heap m₀) (N : News h₀ L s.heap nx) (hs : ∀ p ∈ news, p ∈ nx) (k1 : m₀ "lm" = some (.int lm t1)) (k2 : m₀ "hm" = some (.int hm t2)) (k3 : m₀ "low" = some (.int low t3)) (k4 : m₀ "high" = some (.int high t4)) (hp : InvP x n ⟨lm, hm, low, high, t1, t2, t3, t4⟩)
    (turn : ∀ (lm hm low high : Int) (t1 t2 t3 t4 : Tok) (u : Str → Option Value) h tk, 0 ≤ low → low < high → high ≤ n → -n ≤ lm → lm ≤ n → -n ≤ hm → hm ≤ n → InvS x n lm hm low high →
      Fr h₀ L h (kstB (fun z => if (["r", "nm", "new"] : List Str).contains z then u z else m₀ z) (invPs ⟨lm, hm, low, high, t1, t2, t3, t4⟩)) → News h₀ L h news →
      wpAny (model prog w) A (isTrue test env (eval test env)) (fun b s₂ =>
        if b = true then wpAny (model prog w) A (execs body env) (KswPost h₀ L s (fun _ : InvSt => news) invPs (fun _ => True) ["r", "nm", "new"] m₀ (InvP x n) (fun c => c.2.2.1.toNat) Q ⟨lm, hm, low, high, t1, t2, t3, t4⟩) E s₂ else Q .next s₂) E { s with heap := h, toks := tk })
    (hE : PassesOwn (model prog w) A env E) :
    wpAny (model prog w) A (exec (.While test body [] pos) env) Q E s :=
  ksw_while (σ := InvSt) (fun _ => news) invPs (fun _ => True) ["r", "nm", "new"] (InvP x n) (fun c => c.2.2.1.toNat) ⟨lm, hm, low, high, t1, t2, t3, t4⟩ F (fun p hp => N p (hs p hp)) trivial
    (List.forall_mem_cons.mpr ⟨k1, List.forall_mem_cons.mpr ⟨k2, List.forall_mem_cons.mpr ⟨k3, List.forall_mem_cons.mpr ⟨k4, List.forall_mem_nil _⟩⟩⟩⟩) hp
    (by rintro ⟨lm, hm, low, high, t1, t2, t3, t4⟩ u h tk - ⟨b1, b2, b3, b4, b5, b6, b7, b8⟩ F N; exact turn lm hm low high t1 t2 t3 t4 u h tk b1 b2 b3 b4 b5 b6 b7 b8 F N) hE
theorem inv_kend {m₀ m' : Str → Option Value} {news nx : List (Addr × Obj)} {x n lm hm low high : Int} {t1 t2 t3 t4 : Tok} {c : InvSt} {h' : Heap} {tk : Nat}
    (F : Fr h₀ L h' m') (N : News h₀ L h' nx) (hs : ∀ p ∈ news, p ∈ nx) (k1 : m' "lm" = some (.int lm t1)) (k2 : m' "hm" = some (.int hm t2)) (k3 : m' "low" = some (.int low t3)) (k4 : m' "high" = some (.int high t4))
    (hr : ∀ z, (∀ p ∈ invPs ⟨lm, hm, low, high, t1, t2, t3, t4⟩, z ≠ p.1) → (["r", "nm", "new"] : List Str).contains z = false → m' z = m₀ z) (hp : InvP x n ⟨lm, hm, low, high, t1, t2, t3, t4⟩) (hm : low.toNat < c.2.2.1.toNat) :
    KswEnd h₀ L s (fun _ : InvSt => news) invPs (fun _ => True) ["r", "nm", "new"] m₀ (InvP x n) (fun c => c.2.2.1.toNat) c { s with heap := h', toks := tk } :=
  ksw_end ⟨lm, _, low, high, t1, t2, t3, t4⟩ F N hs trivial (List.forall_mem_cons.mpr ⟨k1, List.forall_mem_cons.mpr ⟨k2, List.forall_mem_cons.mpr ⟨k3, List.forall_mem_cons.mpr ⟨k4, List.forall_mem_nil _⟩⟩⟩⟩) hr hp hm
end
theorem inv_all (w : World) (mean mg mb) (news : List (Addr × Obj)) (x n : Int) (tx tn : Tok) (hz : 0 ≤ x) (hx : x < n) (hn : n ≤ 127) (hgz : ∀ z, 0 < z → z < n → Int.gcd z n = 1) :
    CallC w mean mg mb 28 [.int x tx, .int n tn] 1 news (fun news' r => news' = news ∧ ∃ y t, r = .int y t ∧ 0 ≤ y ∧ y < n ∧ (x ≠ 0 → (y * x) % n = 1)) := by
  unfold CallC
  k_fill
  intro dp un gd cn cs a ccd cl outer A₀ base h₀ L m s Q E B F X N T hk hd hu hret
  refine wpAny_call ?_
  refine' code_def (binds := [("a", .int x tx), ("n", .int n tn)]) ?k1 ?k2 ?k3 ?k4 ?k5 ?kA ?kF ?kK ?k6 ?k7 ?k8 ?k9 ?kB ?_ ?c2 ?c3 ?c4 ?c5
  walk_at "enter"
  walk_at "go"
  · have hx0 : x = 0 := by simp only [beq_iff_eq] at *; assumption
    (rename Fr _ _ _ _ => F); (rename News _ _ _ _ => N)
    exact hret _ _ _ _ F N ⟨rfl, _, _, rfl, Int.le_refl _, by omega, fun q => absurd hx0 q⟩
  have hx0 : x ≠ 0 := by simp only [beq_iff_eq] at *; assumption
  (rename Fr _ _ _ _ => F); (rename News _ _ _ _ => N)
  have h0 : 0 < x := by omega
  have hg := hgz x h0 hx
  refine' inv_while (x := x) (n := n) (news := news) F N ?hs ?k1 ?k2 ?k3 ?k4 ?kp ?turn ?hE
  case hs => exact fun p hp => by simp [hp]
  case k1 => with_unfolding_all rfl
  case k2 => with_unfolding_all rfl
  case k3 => with_unfolding_all rfl
  case k4 => with_unfolding_all rfl
  case hE => passes_own
  case kp =>
    have e : x.fmod n = x := by rw [Int.fmod_eq_emod_of_nonneg _ (by omega)]; exact Int.emod_eq_of_lt (by omega) hx
    simp only [Eqn] at *
    subst_vars
    rw [e]
    have := inv_start h0 hx hg
    simp only [InvP]
    exact ⟨by omega, hx, Int.le_refl _, by omega, by omega, by omega, by omega, this⟩
  clear F N
  intro lm hm low high t1 t2 t3 t4 u h tk b1 b2 b3 b4 b5 b6 b7 b8 F N
  try k_fold
  walk_at "go"
  · (rename Fr _ _ _ _ => F); (rename News _ _ _ _ => N); (rename (Eqn _ (Int.fdiv _ _)) => hr); (rename (1 < low) => hl)
    obtain ⟨q1, q2, q3, q4, q5, q6, q7, q8⟩ := inv_step b8 hl b2 hr
    refine' inv_kend F N ?in1 ?k1 ?k2 ?k3 ?k4 ?same ?kp ?less
    case in1 => exact fun p hp => by simp only [List.mem_cons]; exact .inr (.inr hp)
    case k1 => with_unfolding_all rfl
    case k2 => with_unfolding_all rfl
    case k3 => with_unfolding_all rfl
    case k4 => with_unfolding_all rfl
    case same =>
      intro z h2 h3
      simp only [invPs, List.forall_mem_cons, List.not_mem_nil, false_implies, implies_true, and_true, ne_eq] at h2
      simp only [List.contains_cons, List.contains_nil, Bool.or_false, Bool.or_eq_false_iff, beq_eq_false_iff_ne, ne_eq] at h3
      simp [kstB, invPs, h2, h3]
    case kp => exact ⟨q1, q2, q3, q4, q5, q6, q7, q8⟩
    case less => dsimp only; omega
  · (rename Fr _ _ _ _ => F); (rename News _ _ _ _ => N); (rename (_ < n) => hr1); (rename (0 ≤ _) => hr0); (rename (Eqn _ (Int.fmod _ n)) => hr)
    exact hret _ _ _ _ F N ⟨rfl, _, _, rfl, hr0, hr1, fun _ => inv_end b8 (by omega) b1 (by omega) hr⟩
theorem pfi_all (w : World) (mean mg mb) (news : List (Addr × Obj)) (x n : Int) (tx tn : Tok) (hz : 0 ≤ x) (hx : x < n) (hn : n ≤ 127) (hgz : ∀ z, 0 < z → z < n → Int.gcd z n = 1) :
    CallC w mean mg mb 84 [.int x tx, .int n tn] 1 news (fun news' r => news' = news ∧ ∃ y t, r = .int y t ∧ 0 ≤ y ∧ y < n ∧ (x ≠ 0 → (y * x) % n = 1)) := by
  unfold CallC
  k_fill
  intro dp un gd cn cs a ccd cl outer A₀ base h₀ L m s Q E B F X N T hk hd hu hret
  refine wpAny_call ?_
  refine' code_def (binds := [("a", .int x tx), ("n", .int n tn)]) ?k1 ?k2 ?k3 ?k4 ?k5 ?kA ?kF ?kK ?k6 ?k7 ?k8 ?k9 ?kB ?_ ?c2 ?c3 ?c4 ?c5
  walk_at "enter"
  walk_at "go"
  · have e : x.fmod n = x := by rw [Int.fmod_eq_emod_of_nonneg _ (by omega)]; exact Int.emod_eq_of_lt (by omega) hx
    have hx0 : x = 0 := by simp only [Eqn] at *; subst_vars; omega
    (rename Fr _ _ _ _ => F); (rename News _ _ _ _ => N)
    exact hret _ _ _ _ F N ⟨rfl, _, _, rfl, Int.le_refl _, by omega, fun q => absurd hx0 q⟩
  have hx0 : x ≠ 0 := by
    have e : x.fmod n = x := by rw [Int.fmod_eq_emod_of_nonneg _ (by omega)]; exact Int.emod_eq_of_lt (by omega) hx
    simp only [Eqn] at *; subst_vars; omega
  (rename Fr _ _ _ _ => F); (rename News _ _ _ _ => N)
  have h0 : 0 < x := by omega
  have hg := hgz x h0 hx
  refine' inv_while (x := x) (n := n) (news := news) F N ?hs ?k1 ?k2 ?k3 ?k4 ?kp ?turn ?hE
  case hs => exact fun p hp => by simp [hp]
  case k1 => with_unfolding_all rfl
  case k2 => with_unfolding_all rfl
  case k3 => with_unfolding_all rfl
  case k4 => with_unfolding_all rfl
  case hE => passes_own
  case kp =>
    have e : x.fmod n = x := by rw [Int.fmod_eq_emod_of_nonneg _ (by omega)]; exact Int.emod_eq_of_lt (by omega) hx
    simp only [Eqn] at *
    subst_vars
    rw [e, e]
    have := inv_start h0 hx hg
    simp only [InvP]
    exact ⟨by omega, hx, Int.le_refl _, by omega, by omega, by omega, by omega, this⟩
  clear F N
  intro lm hm low high t1 t2 t3 t4 u h tk b1 b2 b3 b4 b5 b6 b7 b8 F N
  try k_fold
  walk_at "go"
  · (rename Fr _ _ _ _ => F); (rename News _ _ _ _ => N); (rename (Eqn _ (Int.fdiv _ _)) => hr); (rename (1 < low) => hl)
    obtain ⟨q1, q2, q3, q4, q5, q6, q7, q8⟩ := inv_step b8 hl b2 hr
    refine' inv_kend F N ?in1 ?k1 ?k2 ?k3 ?k4 ?same ?kp ?less
    case in1 => exact fun p hp => by simp only [List.mem_cons]; exact .inr (.inr hp)
    case k1 => with_unfolding_all rfl
    case k2 => with_unfolding_all rfl
    case k3 => with_unfolding_all rfl
    case k4 => with_unfolding_all rfl
    case same =>
      intro z h2 h3
      simp only [invPs, List.forall_mem_cons, List.not_mem_nil, false_implies, implies_true, and_true, ne_eq] at h2
      simp only [List.contains_cons, List.contains_nil, Bool.or_false, Bool.or_eq_false_iff, beq_eq_false_iff_ne, ne_eq] at h3
      simp [kstB, invPs, h2, h3]
    case kp => exact ⟨q1, q2, q3, q4, q5, q6, q7, q8⟩
    case less => dsimp only; omega
  · (rename Fr _ _ _ _ => F); (rename News _ _ _ _ => N); (rename (_ < n) => hr1); (rename (0 ≤ _) => hr0); (rename (Eqn _ (Int.fmod _ n)) => hr)
    exact hret _ _ _ _ F N ⟨rfl, _, _, rfl, hr0, hr1, fun _ => inv_end b8 (by omega) b1 (by omega) hr⟩


local macro_rules | `(tactic| walk_at "binaryOp Mult int int") => `(tactic| (k_here; (with_reducible refine mul_nm ?hb ?hm); (case hm => first | exact PySem.IntMulOk.of_left (by decide) | exact mul_okr (by with_reducible assumption) (by with_reducible assumption) (by with_reducible assumption) | exact mul_okl (by with_reducible assumption) (by with_reducible assumption) (by with_reducible assumption) | exact PySem.IntMulOk.of_right (PySem.intBits_le_64 (by omega) (by omega)) | exact PySem.IntMulOk.of_left (PySem.intBits_le_64 (by omega) (by omega))); intro r tk9 hr))
local macro_rules | `(tactic| walk_at "binaryOp Pow int int") => `(tactic| (k_here; (with_reducible first | refine pow2_b (by with_reducible assumption) (by with_reducible assumption) (by with_reducible assumption) ?_ | refine pow3_b (by with_reducible assumption) (by with_reducible assumption) (by with_reducible assumption) ?_ | refine pow4_b (by with_reducible assumption) (by with_reducible assumption) (by with_reducible assumption) ?_ | refine pow2_nm (by omega) (by omega) ?_ | refine pow3_nm (by omega) (by omega) ?_ | refine pow4_nm (by omega) (by omega) ?_); intro r tk9 hr))
local macro_rules | `(tactic| walk_at "subscriptTail Name Constant ref int") => `(tactic| (k_here; (refine' sub_tup ?N ?hp ?hlo ?hhi ?hj ?hx ?_ ?hs; (case N => with_reducible assumption); (case hp => walk_at "mem"); (case hlo => decide); (case hhi => decide); (case hj => with_unfolding_all exact rfl); (case hx => with_unfolding_all exact rfl); (case hs => with_unfolding_all rfl))))
local macro_rules | `(tactic| walk_at "use") => `(tactic| ((case B => first | with_reducible assumption | k_asm); (case F => first | with_reducible assumption | k_asm); (case X => first | with_reducible assumption | k_asm); (case N => with_reducible assumption); (case T => first | with_reducible assumption | k_asm); (case hk => first | exact rfl | assumption); (case hd => ktr_room); (case hu => ktr_units)))

theorem fill0 (w : World) : (Mine.H.hd.heap_39 w.params, PySem.Challenge.rw_af0014_01.foot).2 = 7 := by
  k_fill
  rfl


section
variable {w : World} {mean : ExcName → Option Value} {mg mb : Str → Option Value} {f : Addr} {vs : List Value} {sz : Nat} {news : List (Addr × Obj)} {Out : List (Addr × Obj) → Value → Prop}
theorem CallC.use (C : CallC w mean mg mb f vs sz news Out) {dp un : Nat} {gd : Option (List Code)} {cn : Str} {cs : Scope} {a : Addr} {ccd : Value} {cl : List (Str × Addr)} {outer : List Env} {A₀ : Around} {base h₀ : Heap} {L : Addr} {m : Str → Option Value} {s : Shared} {Q E : Value → Shared → Prop}
    (B : Below A₀ base outer h₀) (F : Fr h₀ L s.heap m) (X : (Mine.H.hd.heap_39 w.params).In h₀) (N : News h₀ L s.heap news)
    (T : Top Mine.H.hd.view_39 (looseW Mine.H.hd.view_39 [Str.ofString "FQ", Str.ofString "FQ_field_elements", Str.ofString "FQ_optimized_field_elements"]) mean mg mb h₀)
    (hk : cs.kind = .function) (hd : dp + sz < recursionLimit) (hu : un + 8 * sz < cLine)
    (ret : ∀ r h' tk' news', Fr h₀ L h' m → News h₀ L h' news' → Out news' r → Q r { s with heap := h', toks := tk' }) :
    wpAny (model PySem.Challenge.rw_af0014_01.row.prog w) (ktrTop dp un gd cn cs L a ccd cl outer) (call (.ref f) vs) Q E s := C _ _ _ _ _ _ _ _ _ _ _ _ _ _ _ _ _ B F X N T hk hd hu ret
end
theorem sub1 {α : Type} {p q : α} {l : List α} (h : p ∈ l) : ∀ x ∈ p :: l, x ∈ l := fun x hx => by rcases List.mem_cons.mp hx with rfl | hx; exact h; exact hx
theorem News.sub {h₀ h : Heap} {L : Addr} {l l' : List (Addr × Obj)} (N : News h₀ L h l) (hs : ∀ p ∈ l', p ∈ l) : News h₀ L h l' := fun p hp => N p (hs p hp)
theorem News.put {h₀ h : Heap} {L : Addr} {l : List (Addr × Obj)} {p : Addr × Obj} (N : News h₀ L h l) (hp : p ∈ l) : News h₀ L h (p :: l) := fun x hx => by rcases List.mem_cons.mp hx with rfl | hx; exact N _ hp; exact N _ hx

abbrev tup (vs : List Value) : Obj := { cls := .type "tuple", data := .seq vs.toArray }

abbrev crv (c : Cv) (t1 t2 t3 t4 t5 t6 : Tok) : Obj := tup [.int c.P t1, .int c.N t2, .int c.A t3, .int c.B t4, .int c.Gx t5, .int c.Gy t6]
/-- an object that is a Jacobian triple for the i-th multiple -/
def RepO (c : Cv) (T : List (Int × Int)) (i : Int) (o : Obj) : Prop := ∃ x y z t t' t'', o = tup [.int x t, .int y t', .int z t''] ∧ Rep c T i x y z
/-- an object that is the i-th multiple itself -/
def PtO (T : List (Int × Int)) (i : Int) (o : Obj) : Prop := ∃ t t', o = tup [.int (pt T i).1 t, .int (pt T i).2 t']

section
variable {c : Cv} {T : List (Int × Int)}
theorem tojac_c (w : World) (mean mg mb) (news : List (Addr × Obj)) (p : Addr) (o : Obj) (i : Int) (hp : (p, o) ∈ news) (G : Good c T) (i0 : 0 ≤ i) (i1 : i < c.N) (ho : PtO T i o) :
    CallC w mean mg mb 35 [.ref p] 1 news (fun news' r => ∃ q o, r = .ref q ∧ news' = (q, o) :: news ∧ RepO c T i o) := by
  intro dp un gd cn cs a ccd cl outer A₀ base h₀ L m s Q E B F X N T hk hd hu hret
  obtain ⟨tx, ty, rfl⟩ := ho
  have N2 := News.put N hp
  refine wpAny_call ?_
  clear N
  refine' code_def (binds := [("p", .ref p)]) ?k1 ?k2 ?k3 ?k4 ?k5 ?kA ?kF ?kK ?k6 ?k7 ?k8 ?k9 ?kB ?_ ?c2 ?c3 ?c4 ?c5
  walk_at "enter"
  walk_at "go"
  (rename Fr _ _ _ _ => F); (rename News _ _ _ _ => N)
  exact hret _ _ _ _ F (News.sub (l' := _ :: news) N (by intro p hp; rcases List.mem_cons.mp hp with rfl | h; exact .head _; exact .tail _ (.tail _ h))) ⟨_, _, rfl, rfl, _, _, _, _, _, _, rfl, rep_one G i0 i1⟩

theorem dbl_c (w : World) (mean mg mb) (news : List (Addr × Obj)) (p ca : Addr) (o : Obj) (i : Int) (t1 t2 t3 t4 t5 t6 : Tok) (hp : (p, o) ∈ news) (hc : (ca, crv c t1 t2 t3 t4 t5 t6) ∈ news) (G : Good c T) (ho : RepO c T i o) :
    CallC w mean mg mb 42 [.ref p, .ref ca] 1 news (fun news' r => ∃ q o, r = .ref q ∧ news' = (q, o) :: news ∧ RepO c T (2 * i % c.N) o) := by
  intro dp un gd cn cs a ccd cl outer A₀ base h₀ L m s Q E B F X N Tp hk hd hu hret
  obtain ⟨x, y, z, tx, ty, tz, rfl, rp⟩ := ho
  have dm := dbl_math G rp
  obtain ⟨-, -, x0, x1, y0, y1, z0, z1, -, -, -, -⟩ := rp
  obtain ⟨p1, p2, n1, n2, a1, a2⟩ := G.ok
  have hP0 : 0 < c.P := by omega
  have N2 := News.put (News.put N hc) (.tail _ hp)
  refine wpAny_call ?_
  clear N hp hc G
  refine' code_def (binds := [("p", .ref p), ("curve", .ref ca)]) ?k1 ?k2 ?k3 ?k4 ?k5 ?kA ?kF ?kK ?k6 ?k7 ?k8 ?k9 ?kB ?_ ?c2 ?c3 ?c4 ?c5
  walk_at "enter"
  walk_at "go"
  · (rename Fr _ _ _ _ => F); (rename News _ _ _ _ => N); (rename ¬ y = 0 => hy)
    refine hret _ _ _ _ F (News.sub (l' := _ :: news) N (by intro p hp; rcases List.mem_cons.mp hp with rfl | h; exact .head _; exact .tail _ (.tail _ (.tail _ h)))) ⟨_, _, rfl, rfl, _, _, _, _, _, _, rfl, ?_⟩
    unfold jdbl at dm
    rw [if_neg hy] at dm
    simp only [Eqn] at *
    subst_vars
    exact dm
  · (rename Fr _ _ _ _ => F); (rename News _ _ _ _ => N); (rename y = 0 => hy)
    refine hret _ _ _ _ F (News.sub (l' := _ :: news) N (by intro p hp; rcases List.mem_cons.mp hp with rfl | h; exact .head _; exact .tail _ (.tail _ (.tail _ h)))) ⟨_, _, rfl, rfl, _, _, _, _, _, _, rfl, ?_⟩
    unfold jdbl at dm
    rw [if_pos hy] at dm
    exact dm
end



section
variable {c : Cv} {T : List (Int × Int)}
theorem add_c (w : World) (mean mg mb) (news : List (Addr × Obj)) (p q ca : Addr) (o1 o2 : Obj) (i j : Int) (t1 t2 t3 t4 t5 t6 : Tok) (hp : (p, o1) ∈ news) (hq : (q, o2) ∈ news) (hc : (ca, crv c t1 t2 t3 t4 t5 t6) ∈ news) (G : Good c T) (ho1 : RepO c T i o1) (ho2 : RepO c T j o2) :
    CallC w mean mg mb 49 [.ref p, .ref q, .ref ca] 2 news (fun news' r => ∃ q o, r = .ref q ∧ news' = (q, o) :: news ∧ RepO c T ((i + j) % c.N) o) := by
  intro dp un gd cn cs a ccd cl outer A₀ base h₀ L m s Q E B F X N Tp hk hd hu hret
  have kp := ho1
  have kq := ho2
  obtain ⟨x1, y1, z1, tx1, ty1, tz1, rfl, rp⟩ := ho1
  obtain ⟨x2, y2, z2, tx2, ty2, tz2, rfl, rq⟩ := ho2
  have am := add_math G rp rq
  have sm := same_math G rp rq
  have dm := dbl_c (c := c) (T := T) w mean mg mb
  obtain ⟨-, -, x10, x11, y10, y11, z10, z11, -, -, -, -⟩ := rp
  obtain ⟨-, -, x20, x21, y20, y21, z20, z21, -, -, -, -⟩ := rq
  have ok := G.ok
  obtain ⟨p1, p2, n1, n2, a1, a2⟩ := ok
  have hP0 : 0 < c.P := by omega
  have N2 := News.put (News.put (News.put N hc) (.tail _ hq)) (.tail _ (.tail _ hp))
  refine wpAny_call ?_
  clear N hp hc hq
  refine' code_def (binds := [("p", .ref p), ("q", .ref q), ("curve", .ref ca)]) ?k1 ?k2 ?k3 ?k4 ?k5 ?kA ?kF ?kK ?k6 ?k7 ?k8 ?k9 ?kB ?_ ?c2 ?c3 ?c4 ?c5
  walk_at "enter"
  walk_at "go"
  · (rename Fr _ _ _ _ => F); (rename News _ _ _ _ => N)
    (rename (_ : Int) = _ => hU); (rename (_ : Int) ≠ _ => hS); (rename y1 ≠ 0 => h1); (rename y2 ≠ 0 => h2)
    refine hret _ _ _ _ F (News.sub (l' := _ :: news) N (by intro p hp; rcases List.mem_cons.mp hp with rfl | h; exact .head _; exact .tail _ (.tail _ (.tail _ (.tail _ h))))) ⟨_, _, rfl, rfl, _, _, _, _, _, _, rfl, ?_⟩
    have hU' : (x1 * z2 ^ 2).fmod c.P = (x2 * z1 ^ 2).fmod c.P := by simp only [Eqn] at *; subst_vars; first | assumption | (symm; assumption) | rfl
    have hS' : (y1 * z2 ^ 3).fmod c.P ≠ (y2 * z1 ^ 3).fmod c.P := by simp only [Eqn] at *; subst_vars; assumption
    unfold jadd at am
    simp only [Eqn] at *
    subst_vars
    rw [if_neg h1, if_neg h2] at am
    try dsimp only at am
    rw [if_pos hU', if_pos hS'] at am
    exact am
  · (rename News _ _ _ _ => N); (rename (_ : Int) = _ => hS); revert hS; (rename (_ : Int) = _ => hU); intro hS; (rename y1 ≠ 0 => h1); (rename y2 ≠ 0 => h2)
    refine' CallC.use (dm _ p ca _ i _ _ _ _ _ _ (.head _) (.tail _ (.tail _ (.head _))) G kp) ?B ?F ?X ?N ?T ?hk ?hd ?hu ?_
    walk_at "use"
    intro r h' tk' news' F N o
    obtain ⟨q', o', rfl, rfl, ro⟩ := o
    try k_fold
    walk_at "go"
    (rename Fr _ _ _ _ => F); (rename News _ _ _ _ => N)
    refine hret _ _ _ _ F (News.sub (l' := _ :: news) N (by intro p hp; rcases List.mem_cons.mp hp with rfl | h; exact .head _; exact .tail _ (.tail _ (.tail _ (.tail _ h))))) ⟨_, _, rfl, rfl, ?_⟩
    have hU' : (x1 * z2 ^ 2).fmod c.P = (x2 * z1 ^ 2).fmod c.P := by simp only [Eqn] at *; subst_vars; first | assumption | (symm; assumption) | rfl
    have hS' : (y1 * z2 ^ 3).fmod c.P = (y2 * z1 ^ 3).fmod c.P := by simp only [Eqn] at *; subst_vars; first | assumption | (symm; assumption) | rfl
    have e : i = j := sm h1 h2 hU' hS'
    rw [← e, show i + i = 2 * i by omega]
    exact ro
  · (rename Fr _ _ _ _ => F); (rename News _ _ _ _ => N)
    (rename (_ : Int) ≠ _ => hU); (rename y1 ≠ 0 => h1); (rename y2 ≠ 0 => h2)
    refine hret _ _ _ _ F (News.sub (l' := _ :: news) N (by intro p hp; rcases List.mem_cons.mp hp with rfl | h; exact .head _; exact .tail _ (.tail _ (.tail _ (.tail _ h))))) ⟨_, _, rfl, rfl, _, _, _, _, _, _, rfl, ?_⟩
    unfold jadd at am
    simp only [Eqn] at *
    subst_vars
    rw [if_neg h1, if_neg h2] at am
    try dsimp only at am
    rw [if_neg hU] at am
    exact am
  · (rename Fr _ _ _ _ => F); (rename News _ _ _ _ => N)
    (rename y1 ≠ 0 => h1); (rename y2 = 0 => h2)
    refine hret _ _ _ _ F (News.sub (l' := _ :: news) N (by intro p hp; rcases List.mem_cons.mp hp with rfl | h; exact .head _; exact .tail _ (.tail _ (.tail _ h)))) ⟨_, _, rfl, rfl, _, _, _, _, _, _, rfl, ?_⟩
    unfold jadd at am
    rw [if_neg h1, if_pos h2] at am
    exact am
  · (rename Fr _ _ _ _ => F); (rename News _ _ _ _ => N)
    (rename y1 = 0 => h1)
    refine hret _ _ _ _ F (News.sub (l' := _ :: news) N (by intro p hp; rcases List.mem_cons.mp hp with rfl | h; exact .tail _ (.head _); exact .tail _ (.tail _ (.tail _ h)))) ⟨_, _, rfl, rfl, _, _, _, _, _, _, rfl, ?_⟩
    unfold jadd at am
    rw [if_pos h1] at am
    exact am
end



section
variable {c : Cv} {T : List (Int × Int)}
theorem fromjac_c (w : World) (mean mg mb) (news : List (Addr × Obj)) (p ca : Addr) (o : Obj) (i : Int) (t1 t2 t3 t4 t5 t6 : Tok) (hp : (p, o) ∈ news) (hc : (ca, crv c t1 t2 t3 t4 t5 t6) ∈ news) (G : Good c T) (ho : RepO c T i o) :
    CallC w mean mg mb 56 [.ref p, .ref ca] 2 news (fun news' r => ∃ q o, r = .ref q ∧ news' = (q, o) :: news ∧ PtO T i o ∧ ∀ p ∈ news, p.1 < q) := by
  intro dp un gd cn cs a ccd cl outer A₀ base h₀ L m s Q E B F X N Tp hk hd hu hret
  obtain ⟨x, y, z, tx, ty, tz, rfl, rp⟩ := ho
  have fm := fun zi => from_math (zi := zi) G rp
  obtain ⟨-, -, x0, x1, y0, y1, z0, z1, -, -, -, -⟩ := rp
  have im := inv_all w mean mg mb
  have pr := G.pr
  obtain ⟨p1, p2, n1, n2, a1, a2⟩ := G.ok
  have hP0 : 0 < c.P := by omega
  have N2 := News.put (News.put N hc) (.tail _ hp)
  refine wpAny_call ?_
  clear N hp hc G
  refine' code_def (binds := [("p", .ref p), ("curve", .ref ca)]) ?k1 ?k2 ?k3 ?k4 ?k5 ?kA ?kF ?kK ?k6 ?k7 ?k8 ?k9 ?kB ?_ ?c2 ?c3 ?c4 ?c5
  walk_at "enter"
  walk_at "go"
  refine' CallC.use (im _ z c.P _ _ z0 z1 p2 pr) ?B ?F ?X ?N ?T ?hk ?hd ?hu ?_
  walk_at "use"
  intro r h' tk' news' F N o
  obtain ⟨rfl, zi, tzi, rfl, zi0, zi1, zie⟩ := o
  have fz := fm zi zie
  try k_fold
  walk_at "go"
  (rename Fr _ _ _ _ => F); (rename News _ _ _ _ => N); (rename _ ∧ _ ∧ AllLt _ _ => hl)
  simp only [Eqn] at *
  subst_vars
  rw [fz.1, fz.2] at N
  exact hret _ _ _ _ F (News.sub (l' := _ :: news) N (by intro p hp; rcases List.mem_cons.mp hp with rfl | h; exact .head _; exact .tail _ (.tail _ (.tail _ h)))) ⟨_, _, rfl, rfl, ⟨_, _, rfl⟩, fun p hp => ktn_ltOf hl.2.2 p hp⟩

theorem jmul_c (w : World) (mean mg mb) (G : Good c T) (t1 t2 t3 t4 t5 t6 : Tok) (ca : Addr) (k : Nat) : ∀ (news : List (Addr × Obj)) (p : Addr) (o : Obj) (i n : Int) (tn : Tok) (hp : (p, o) ∈ news) (hc : (ca, crv c t1 t2 t3 t4 t5 t6) ∈ news) (ho : RepO c T i o) (n0 : 0 ≤ n) (n1 : n < c.N) (nk : n < 2 ^ k),
    CallC w mean mg mb 63 [.ref p, .int n tn, .ref ca] (k + 3) news (fun news' r => ∃ q o, r = .ref q ∧ news' = (q, o) :: news ∧ RepO c T ((i * n) % c.N) o) := by
  have dm := dbl_c (c := c) (T := T) w mean mg mb
  have am := add_c (c := c) (T := T) w mean mg mb
  have ok := G.ok
  obtain ⟨q1, q2, q3, q4, q5, q6⟩ := ok
  have key : ∀ i n : Int, (2 * ((i * (n / 2)) % c.N)) % c.N = (i * (2 * (n / 2))) % c.N := fun i n => Cg.emod_eq (((Cg.refl (a := 2)).mul Cg.emod).trans (Cg.of_eq (by grind)))
  have key2 : ∀ i n : Int, ((2 * ((i * (n / 2)) % c.N)) % c.N + i) % c.N = (i * (2 * (n / 2) + 1)) % c.N := fun i n => Cg.emod_eq (((Cg.emod.trans ((Cg.refl (a := 2)).mul Cg.emod)).add Cg.refl).trans (Cg.of_eq (by grind)))
  induction k with
  | zero =>
    intro news p o i n tn hp hc ho n0 n1 nk dp un gd cn cs a ccd cl outer A₀ base h₀ L m s Q E B F X N Tp hk hd hu hret
    have kp := ho
    obtain ⟨x, y, z, tx, ty, tz, rfl, rp⟩ := ho
    have N2 := News.put (News.put N hc) (.tail _ hp)
    refine wpAny_call ?_
    clear N hp hc
    refine' code_def (binds := [("a", .ref p), ("n", .int n tn), ("curve", .ref ca)]) ?k1 ?k2 ?k3 ?k4 ?k5 ?kA ?kF ?kK ?k6 ?k7 ?k8 ?k9 ?kB ?_ ?c2 ?c3 ?c4 ?c5
    walk_at "enter"
    walk_at "go"
    · (rename Fr _ _ _ _ => F); (rename News _ _ _ _ => N); (rename y = 0 => hy)
      refine hret _ _ _ _ F (News.sub (l' := _ :: news) N (by intro p hp; rcases List.mem_cons.mp hp with rfl | h; exact .head _; exact .tail _ (.tail _ (.tail _ h)))) ⟨_, _, rfl, rfl, _, _, _, _, _, _, rfl, ?_⟩
      rw [(rp.y_iff G).mp hy, Int.zero_mul, Int.zero_emod]
      exact rep_zero G (by decide) (by decide)
    · (rename Fr _ _ _ _ => F); (rename News _ _ _ _ => N); (rename n = 0 => hy)
      refine hret _ _ _ _ F (News.sub (l' := _ :: news) N (by intro p hp; rcases List.mem_cons.mp hp with rfl | h; exact .head _; exact .tail _ (.tail _ (.tail _ h)))) ⟨_, _, rfl, rfl, _, _, _, _, _, _, rfl, ?_⟩
      rw [hy, Int.mul_zero, Int.zero_emod]
      exact rep_zero G (by decide) (by decide)
    · exfalso; simp only [Int.pow_zero] at nk; omega
  | succ k ih =>
    intro news p o i n tn hp hc ho n0 n1 nk dp un gd cn cs a ccd cl outer A₀ base h₀ L m s Q E B F X N Tp hk hd hu hret
    have kp := ho
    obtain ⟨x, y, z, tx, ty, tz, rfl, rp⟩ := ho
    have N2 := News.put (News.put N hc) (.tail _ hp)
    have nk2 : n / 2 < 2 ^ k := by rw [Int.pow_succ] at nk; omega
    refine wpAny_call ?_
    clear N hp hc nk
    refine' code_def (binds := [("a", .ref p), ("n", .int n tn), ("curve", .ref ca)]) ?k1 ?k2 ?k3 ?k4 ?k5 ?kA ?kF ?kK ?k6 ?k7 ?k8 ?k9 ?kB ?_ ?c2 ?c3 ?c4 ?c5
    walk_at "enter"
    walk_at "go"
    · (rename Fr _ _ _ _ => F); (rename News _ _ _ _ => N); (rename y = 0 => hy)
      refine hret _ _ _ _ F (News.sub (l' := _ :: news) N (by intro p hp; rcases List.mem_cons.mp hp with rfl | h; exact .head _; exact .tail _ (.tail _ (.tail _ h)))) ⟨_, _, rfl, rfl, _, _, _, _, _, _, rfl, ?_⟩
      rw [(rp.y_iff G).mp hy, Int.zero_mul, Int.zero_emod]
      exact rep_zero G (by decide) (by decide)
    · (rename Fr _ _ _ _ => F); (rename News _ _ _ _ => N); (rename n = 0 => hy)
      refine hret _ _ _ _ F (News.sub (l' := _ :: news) N (by intro p hp; rcases List.mem_cons.mp hp with rfl | h; exact .head _; exact .tail _ (.tail _ (.tail _ h)))) ⟨_, _, rfl, rfl, _, _, _, _, _, _, rfl, ?_⟩
      rw [hy, Int.mul_zero, Int.zero_emod]
      exact rep_zero G (by decide) (by decide)
    · (rename Fr _ _ _ _ => F); (rename News _ _ _ _ => N); (rename n = 1 => hy)
      refine hret _ _ _ _ F (News.sub (l' := _ :: news) N (by intro p hp; rcases List.mem_cons.mp hp with rfl | h; exact .head _; exact .tail _ (.tail _ h))) ⟨_, _, rfl, rfl, ?_⟩
      rw [hy, Int.mul_one, Int.emod_eq_of_lt rp.i0 rp.i1]
      exact kp
    · (rename News _ _ _ _ => N); (rename Eqn _ (Int.fdiv n 2) => hr); (rename Eqn _ (Int.fmod n 2) => hm); (rename (_ : Int) = 0 => h0)
      have er := hr.eq.trans (Int.fdiv_eq_ediv_of_nonneg n (by decide))
      have em := hm.eq.trans (Int.fmod_eq_emod_of_nonneg n (by decide))
      refine' CallC.use (ih _ p _ i _ _ (.head _) (.tail _ (.head _)) kp (by omega) (by omega) (by omega)) ?B ?F ?X ?N ?T ?hk ?hd ?hu ?_
      walk_at "use"
      intro r h' tk' news' F N o
      obtain ⟨q', o', rfl, rfl, ro⟩ := o
      try k_fold
      walk_at "go"
      refine' CallC.use (dm _ q' ca _ _ _ _ _ _ _ _ (.head _) (.tail _ (.tail _ (.head _))) G ro) ?B ?F ?X ?N ?T ?hk ?hd ?hu ?_
      walk_at "use"
      intro r h' tk' news' F N o
      obtain ⟨q'', o'', rfl, rfl, ro2⟩ := o
      try k_fold
      walk_at "go"
      (rename Fr _ _ _ _ => F); (rename News _ _ _ _ => N)
      refine hret _ _ _ _ F (News.sub (l' := _ :: news) N (by intro p hp; rcases List.mem_cons.mp hp with rfl | h; exact .head _; exact .tail _ (.tail _ (.tail _ (.tail _ h))))) ⟨_, _, rfl, rfl, ?_⟩
      rw [er, key, show 2 * (n / 2) = n by omega] at ro2
      exact ro2
    · (rename News _ _ _ _ => N); (rename Eqn _ (Int.fdiv n 2) => hr); (rename Eqn _ (Int.fmod n 2) => hm); (rename (_ : Int) = 1 => h0)
      have er := hr.eq.trans (Int.fdiv_eq_ediv_of_nonneg n (by decide))
      have em := hm.eq.trans (Int.fmod_eq_emod_of_nonneg n (by decide))
      refine' CallC.use (ih _ p _ i _ _ (.head _) (.tail _ (.head _)) kp (by omega) (by omega) (by omega)) ?B ?F ?X ?N ?T ?hk ?hd ?hu ?_
      walk_at "use"
      intro r h' tk' news' F N o
      obtain ⟨q', o', rfl, rfl, ro⟩ := o
      try k_fold
      walk_at "go"
      refine' CallC.use (dm _ q' ca _ _ _ _ _ _ _ _ (.head _) (.tail _ (.tail _ (.head _))) G ro) ?B ?F ?X ?N ?T ?hk ?hd ?hu ?_
      walk_at "use"
      intro r h' tk' news' F N o
      obtain ⟨q'', o'', rfl, rfl, ro2⟩ := o
      try k_fold
      walk_at "go"
      refine' CallC.use (am _ q'' p ca _ _ _ _ _ _ _ _ _ _ (.head _) (.tail _ (.tail _ (.head _))) (.tail _ (.tail _ (.tail _ (.head _)))) G ro2 kp) ?B ?F ?X ?N ?T ?hk ?hd ?hu ?_
      walk_at "use"
      intro r h' tk' news' F N o
      obtain ⟨q3, o3, rfl, rfl, ro3⟩ := o
      try k_fold
      walk_at "go"
      (rename Fr _ _ _ _ => F); (rename News _ _ _ _ => N)
      refine hret _ _ _ _ F (News.sub (l' := _ :: news) N (by intro p hp; rcases List.mem_cons.mp hp with rfl | h; exact .head _; exact .tail _ (.tail _ (.tail _ (.tail _ (.tail _ h)))))) ⟨_, _, rfl, rfl, ?_⟩
      rw [er, key2, show 2 * (n / 2) + 1 = n by omega] at ro3
      exact ro3
    · exfalso; clear hd hu; simp only [Eqn] at *; omega

theorem mul_c (w : World) (mean mg mb) (news : List (Addr × Obj)) (p ca : Addr) (o : Obj) (i n : Int) (tn t1 t2 t3 t4 t5 t6 : Tok) (hp : (p, o) ∈ news) (hc : (ca, crv c t1 t2 t3 t4 t5 t6) ∈ news) (G : Good c T) (i0 : 0 ≤ i) (i1 : i < c.N) (ho : PtO T i o) (n0 : 0 ≤ n) (n1 : n < c.N) :
    CallC w mean mg mb 70 [.ref p, .int n tn, .ref ca] 11 news (fun news' r => ∃ q o, r = .ref q ∧ news' = (q, o) :: news ∧ PtO T (i * n % c.N) o ∧ ∀ p ∈ news, p.1 < q) := by
  intro dp un gd cn cs a ccd cl outer A₀ base h₀ L m s Q E B F X N Tp hk hd hu hret
  have tm := tojac_c (c := c) (T := T) w mean mg mb
  have jm := jmul_c w mean mg mb G t1 t2 t3 t4 t5 t6 ca 7
  have fm := fromjac_c (c := c) (T := T) w mean mg mb
  have n2 := G.ok.n2
  have N2 := News.put (News.put N hc) (.tail _ hp)
  refine wpAny_call ?_
  clear N
  refine' code_def (binds := [("a", .ref p), ("n", .int n tn), ("curve", .ref ca)]) ?k1 ?k2 ?k3 ?k4 ?k5 ?kA ?kF ?kK ?k6 ?k7 ?k8 ?k9 ?kB ?_ ?c2 ?c3 ?c4 ?c5
  walk_at "enter"
  walk_at "go"
  refine' CallC.use (tm _ p _ i (.head _) G i0 i1 ho) ?B ?F ?X ?N ?T ?hk ?hd ?hu ?_
  walk_at "use"
  intro r h' tk' news' F N o
  obtain ⟨q', o', rfl, rfl, ro⟩ := o
  try k_fold
  walk_at "go"
  refine' CallC.use (jm _ q' _ i n _ (.head _) (.tail _ (.tail _ (.head _))) ro n0 n1 (by omega)) ?B ?F ?X ?N ?T ?hk ?hd ?hu ?_
  walk_at "use"
  intro r h' tk' news' F N o
  obtain ⟨q'', o'', rfl, rfl, ro2⟩ := o
  try k_fold
  walk_at "go"
  refine' CallC.use (fm _ q'' ca _ _ _ _ _ _ _ _ (.head _) (.tail _ (.tail _ (.tail _ (.head _)))) G ro2) ?B ?F ?X ?N ?T ?hk ?hd ?hu ?_
  walk_at "use"
  intro r h' tk' news' F N o
  obtain ⟨q3, o3, rfl, rfl, ro3, lt⟩ := o
  try k_fold
  walk_at "go"
  (rename Fr _ _ _ _ => F); (rename News _ _ _ _ => N)
  exact hret _ _ _ _ F (News.sub (l' := _ :: news) N (by intro p hp; rcases List.mem_cons.mp hp with rfl | h; exact .head _; exact .tail _ (.tail _ (.tail _ (.tail _ (.tail _ h)))))) ⟨_, _, rfl, rfl, ro3, fun p hp => lt p (.tail _ (.tail _ (.tail _ (.tail _ hp))))⟩

theorem padd_c (w : World) (mean mg mb) (news : List (Addr × Obj)) (p q ca : Addr) (o1 o2 : Obj) (i j : Int) (t1 t2 t3 t4 t5 t6 : Tok) (hp : (p, o1) ∈ news) (hq : (q, o2) ∈ news) (hc : (ca, crv c t1 t2 t3 t4 t5 t6) ∈ news) (G : Good c T) (i0 : 0 ≤ i) (i1 : i < c.N) (j0 : 0 ≤ j) (j1 : j < c.N) (ho1 : PtO T i o1) (ho2 : PtO T j o2) :
    CallC w mean mg mb 77 [.ref p, .ref q, .ref ca] 3 news (fun news' r => ∃ q o, r = .ref q ∧ news' = (q, o) :: news ∧ PtO T ((i + j) % c.N) o ∧ ∀ p ∈ news, p.1 < q) := by
  intro dp un gd cn cs a ccd cl outer A₀ base h₀ L m s Q E B F X N Tp hk hd hu hret
  have tm := tojac_c (c := c) (T := T) w mean mg mb
  have am := add_c (c := c) (T := T) w mean mg mb
  have fm := fromjac_c (c := c) (T := T) w mean mg mb
  have N2 := News.put (News.put (News.put N hc) (.tail _ hq)) (.tail _ (.tail _ hp))
  refine wpAny_call ?_
  clear N
  refine' code_def (binds := [("a", .ref p), ("b", .ref q), ("curve", .ref ca)]) ?k1 ?k2 ?k3 ?k4 ?k5 ?kA ?kF ?kK ?k6 ?k7 ?k8 ?k9 ?kB ?_ ?c2 ?c3 ?c4 ?c5
  walk_at "enter"
  walk_at "go"
  refine' CallC.use (tm _ p _ i (.head _) G i0 i1 ho1) ?B ?F ?X ?N ?T ?hk ?hd ?hu ?_
  walk_at "use"
  intro r h' tk' news' F N o
  obtain ⟨q', o', rfl, rfl, ro⟩ := o
  try k_fold
  walk_at "go"
  refine' CallC.use (tm _ q _ j (.tail _ (.tail _ (.head _))) G j0 j1 ho2) ?B ?F ?X ?N ?T ?hk ?hd ?hu ?_
  walk_at "use"
  intro r h' tk' news' F N o
  obtain ⟨q'', o'', rfl, rfl, ro2⟩ := o
  try k_fold
  walk_at "go"
  refine' CallC.use (am _ q' q'' ca _ _ _ _ _ _ _ _ _ _ (.tail _ (.head _)) (.head _) (.tail _ (.tail _ (.tail _ (.tail _ (.head _))))) G ro ro2) ?B ?F ?X ?N ?T ?hk ?hd ?hu ?_
  walk_at "use"
  intro r h' tk' news' F N o
  obtain ⟨q3, o3, rfl, rfl, ro3⟩ := o
  try k_fold
  walk_at "go"
  refine' CallC.use (fm _ q3 ca _ _ _ _ _ _ _ _ (.head _) (.tail _ (.tail _ (.tail _ (.tail _ (.tail _ (.head _)))))) G ro3) ?B ?F ?X ?N ?T ?hk ?hd ?hu ?_
  walk_at "use"
  intro r h' tk' news' F N o
  obtain ⟨q4, o4, rfl, rfl, ro4, lt⟩ := o
  try k_fold
  walk_at "go"
  (rename Fr _ _ _ _ => F); (rename News _ _ _ _ => N)
  exact hret _ _ _ _ F (News.sub (l' := _ :: news) N (by intro p hp; rcases List.mem_cons.mp hp with rfl | h; exact .head _; exact .tail _ (.tail _ (.tail _ (.tail _ (.tail _ (.tail _ (.tail _ h)))))))) ⟨_, _, rfl, rfl, ro4, fun p hp => lt p (.tail _ (.tail _ (.tail _ (.tail _ (.tail _ (.tail _ hp))))))⟩
end



noncomputable def atF (ns : List Int) (k : Int) : Int :=
  let number := if k < ns.length then ns.getD k.toNat 0 else 5 * k + 2
  if -1000000000 < number ∧ number < 1000000000 then number else number.fmod 1000003

theorem at_ret {h₀ h' : Heap} {L : Addr} {m : Str → Option Value} {news : List (Addr × Obj)} {s : Shared} {Q : Value → Shared → Prop} {x y : Int} {t : Tok} {tk' : Nat}
    (hret : ∀ t h' tk', Fr h₀ L h' m → News h₀ L h' news → Q (.int y t) { s with heap := h', toks := tk' }) (e : x = y) (F : Fr h₀ L h' m) (N : News h₀ L h' news) : Q (.int x t) { s with heap := h', toks := tk' } := by
  subst e; exact hret _ _ _ F N
theorem atF_lo (ns : List Int) (k : Int) (h0 : 0 ≤ k) (h1 : k < 20) : -1000000000 < atF ns k ∧ atF ns k < 1000000000 := by
  unfold atF
  dsimp only
  have f := fun a : Int => fmod_rng (P := 1000003) (a := a) (by decide)
  generalize (if k < ↑ns.length then ns.getD k.toNat 0 else 5 * k + 2) = q
  split
  · assumption
  · have := f q; omega

theorem at_c (w : World) (mean mg mb) (news : List (Addr × Obj)) (l : Addr) (vs : List Value) (ns : List Int) (k : Int) (tk : Tok) (hi : IntsAre vs ns) (hl : ns.length ≤ 63) (k0 : 0 ≤ k) (k1 : k < 20) :
    ∀ (dp un : Nat) (gd : Option (List Code)) (cn : Str) (cs : Scope) (a : Addr) (ccd : Value) (cl : List (Str × Addr)) (outer : List Env) (A₀ : Around) (base h₀ : Heap) (L : Addr) (m : Str → Option Value) (s : Shared) (Q E : Value → Shared → Prop),
    h₀.IsList l vs.toArray → Below A₀ base outer h₀ → Fr h₀ L s.heap m → (Mine.H.hd.heap_39 w.params).In h₀ → News h₀ L s.heap news →
    Top Mine.H.hd.view_39 (looseW Mine.H.hd.view_39 [Str.ofString "FQ", Str.ofString "FQ_field_elements", Str.ofString "FQ_optimized_field_elements"]) mean mg mb h₀ →
    cs.kind = .function → dp + 1 < recursionLimit → un + 8 * 1 < cLine →
    (∀ t h' tk', Fr h₀ L h' m → News h₀ L h' news → Q (.int (atF ns k) t) { s with heap := h', toks := tk' }) →
    wpAny (model PySem.Challenge.rw_af0014_01.row.prog w) (ktrTop dp un gd cn cs L a ccd cl outer) (call (.ref 407) [.ref l, .int k tk]) Q E s := by
  intro dp un gd cn cs a ccd cl outer A₀ base h₀ L m s Q E IL B F X N T hk hd hu hret
  refine wpAny_call ?_
  refine' code_def (binds := [("script", .ref l), ("k", .int k tk)]) ?k1 ?k2 ?k3 ?k4 ?k5 ?kA ?kF ?kK ?k6 ?k7 ?k8 ?k9 ?kB ?_ ?c2 ?c3 ?c4 ?c5
  walk_at "enter"
  (rename Fr h₀ L _ m => FG); have IL2 := stays_list (Fr.keep FG) IL
  walk_at "go"
  all_goals (
    (rename Fr _ _ _ _ => F); (rename News _ _ _ _ => N)
    refine at_ret hret ?_ F N
    simp only [Eqn] at *
    subst_vars
    unfold atF
    dsimp only
    (repeat' split) <;> first | rfl | omega)

local macro_rules | `(tactic| k_all) => `(tactic| exact ne_of_lts (by assumption))
local macro_rules | `(tactic| walk_at "compareOp Eq ref") => `(tactic| (k_here; (with_reducible show wpAny _ _ (compareOp CmpOp.Eq (Value.ref _) _) _ _ _); (refine cmp_ofEq ?_); k_dflt (refine' cmp_K ?k1 ?k2 ?k3 ?k4 ?k5 ?k6 ?k7 ?k8 ?_; (case k1 => ktr_units); (case k2 => k_asm); (case k3 => k_asm); (case k4 => k_inst); (case k5 => k_typeOf); (case k6 => k_is); (case k7 => k_is); (case k8 => k_is); k_whole)))
local macro_rules | `(tactic| walk_at "compareOp NotEq ref") => `(tactic| (k_here; (with_reducible show wpAny _ _ (compareOp CmpOp.NotEq (Value.ref _) _) _ _ _); (refine cmp_ofNotEq ?_); k_dflt (refine' cmp_K ?k1 ?k2 ?k3 ?k4 ?k5 ?k6 ?k7 ?k8 ?_; (case k1 => ktr_units); (case k2 => k_asm); (case k3 => k_asm); (case k4 => k_inst); (case k5 => k_typeOf); (case k6 => k_is); (case k7 => k_is); (case k8 => k_is); k_whole)))

theorem ne_of_lts {d : Addr} {l : List (Addr × Obj)} (h : ∀ p ∈ l, p.1 < d) : ∀ p ∈ l, p.1 ≠ d := fun p hp => Nat.ne_of_lt (h p hp)

abbrev fqD (P : Params) (N v : Int) (k1 k2 t1 t2 : Tok) : Obj := dictOf [⟨PyData.keyHash P "field_modulus", .str "field_modulus" k1, .int N t1⟩, ⟨PyData.keyHash P "n", .str "n" k2, .int v t2⟩] 2

def FqNew (w : World) (C : Addr) (N v : Int) (news news' : List (Addr × Obj)) (r : Value) : Prop :=
  ∃ x dx k1 k2 t1 t2, r = .ref x ∧ news' = (x, instObj C dx) :: (dx, fqD w.params N v k1 k2 t1 t2) :: news ∧ (∀ p ∈ news, p.1 < dx) ∧ dx < x
def FqAt (w : World) (C : Addr) (N v : Int) (news : List (Addr × Obj)) (x : Addr) : Prop :=
  ∃ dx k1 k2 t1 t2, (x, instObj C dx) ∈ news ∧ (dx, fqD w.params N v k1 k2 t1 t2) ∈ news
theorem FqNew.of {w : World} {C : Addr} {N v : Int} {news : List (Addr × Obj)} {x dx : Addr} {k1 k2 t1 t2 : Tok} (h : ∀ p ∈ news, p.1 < dx) (k : dx < x) : FqNew w C N v news ((x, instObj C dx) :: (dx, fqD w.params N v k1 k2 t1 t2) :: news) (.ref x) :=
  ⟨x, dx, k1, k2, t1, t2, rfl, rfl, h, k⟩
theorem fmod_id {N v : Int} (h0 : 0 ≤ v) (h1 : v < N) : v.fmod N = v := by rw [Int.fmod_eq_emod_of_nonneg _ (by omega)]; exact Int.emod_eq_of_lt h0 h1
theorem fmod_fmod {N a : Int} (h : 0 < N) : (a.fmod N).fmod N = a.fmod N := fmod_id (fmod_rng h).1 (fmod_rng h).2


theorem new_a (w : World) (mean mg mb) (news : List (Addr × Obj)) (v N : Int) (tv tN : Tok) (h0 : 0 < N) (h1 : N ≤ 127) :
    CallC w mean mg mb 227 [.int v tv, .int N tN] 2 news (FqNew w 227 N (v.fmod N) news) := by
  intro dp un gd cn cs a ccd cl outer A₀ base h₀ L m s Q E B F X Ns Tp hk hd hu hret
  refine' call_cls F X Ns ?k4 ?k5 ?k6 ?_
  case k4 => k_is
  case k5 => k_is
  case k6 => k_is
  intro x' d' h' F' N' l1 l2
  clear F Ns
  refine' code_def (binds := [("self", .ref x'), ("val", .int v tv), ("field_modulus", .int N tN)]) ?k1 ?k2 ?k3 ?k4 ?k5 ?kA ?kF ?kK ?k6 ?k7 ?k8 ?k9 ?kB ?_ ?c2 ?c3 ?c4 ?c5
  walk_at "enter"
  k_lt2 l2
  walk_at "go"
  (rename Fr _ _ _ _ => F); (rename News _ _ _ _ => N)
  simp only [Eqn] at *
  subst_vars
  exact hret _ _ _ _ F N (FqNew.of l1 l2)

theorem made_a (w : World) (mean mg mb) (news : List (Addr × Obj)) (x : Addr) (v u N : Int) (tv : Tok) (h0 : 0 < N) (h1 : N ≤ 127) (hx : FqAt w 227 N u news x) :
    CallC w mean mg mb 210 [.ref x, .int v tv] 3 news (FqNew w 227 N (v.fmod N) news) := by
  intro dp un gd cn cs a ccd cl outer A₀ base h₀ L m s Q E B F X Ns Tp hk hd hu hret
  obtain ⟨dx, k1, k2, t1, t2, m1, m2⟩ := hx
  have N2 := News.put (News.put Ns m2) (.tail _ m1)
  refine wpAny_call ?_
  clear Ns
  refine' code_def (binds := [("self", .ref x), ("val", .int v tv)]) ?k1 ?k2 ?k3 ?k4 ?k5 ?kA ?kF ?kK ?k6 ?k7 ?k8 ?k9 ?kB ?_ ?c2 ?c3 ?c4 ?c5
  walk_at "enter"
  walk_at "go"
  refine' CallC.use (new_a w mean mg mb _ v N _ _ h0 h1) ?B ?F ?X ?N ?T ?hk ?hd ?hu ?_
  walk_at "use"
  intro r h' tk' news' Fx Nx o
  obtain ⟨x', dx', k1', k2', t1', t2', rfl, rfl, l1, l2⟩ := o
  try k_fold
  walk_at "go"
  (rename Fr _ _ _ _ => F); (rename News _ _ _ _ => N)
  refine hret _ _ _ _ F (News.sub (l' := _ :: _ :: news) N (by intro p hp; rcases List.mem_cons.mp hp with rfl | h; exact .head _; rcases List.mem_cons.mp h with rfl | h; exact .tail _ (.head _); exact .tail _ (.tail _ (.tail _ (.tail _ h))))) (FqNew.of (fun p hp => l1 p (.tail _ (.tail _ hp))) l2)

theorem mul_a (w : World) (mean mg mb) (news : List (Addr × Obj)) (x : Addr) (v N : Int) (k : Int) (tk : Tok) (h0 : 0 < N) (h1 : N ≤ 127) (v0 : 0 ≤ v) (v1 : v < N) (hx : FqAt w 227 N v news x) :
    CallC w mean mg mb 112 [.ref x, .int k tk] 4 news (FqNew w 227 N ((v * k).fmod N) news) := by
  intro dp un gd cn cs a ccd cl outer A₀ base h₀ L m s Q E B F X Ns Tp hk hd hu hret
  obtain ⟨dx, k1, k2, t1, t2, m1, m2⟩ := hx
  have N2 := News.put (News.put Ns m2) (.tail _ m1)
  refine wpAny_call ?_
  clear Ns
  refine' code_def (binds := [("self", .ref x), ("other", .int k tk)]) ?k1 ?k2 ?k3 ?k4 ?k5 ?kA ?kF ?kK ?k6 ?k7 ?k8 ?k9 ?kB ?_ ?c2 ?c3 ?c4 ?c5
  walk_at "enter"
  walk_at "go"
  refine' CallC.use (made_a w mean mg mb _ x _ v N _ h0 h1 ⟨dx, k1, k2, t1, t2, .head _, .tail _ (.head _)⟩) ?B ?F ?X ?N ?T ?hk ?hd ?hu ?_
  walk_at "use"
  intro r h' tk' news' Fx Nx o
  obtain ⟨x', dx', k1', k2', t1', t2', rfl, rfl, l1, l2⟩ := o
  try k_fold
  walk_at "go"
  (rename Fr _ _ _ _ => F); (rename News _ _ _ _ => N)
  simp only [Eqn] at *
  subst_vars
  rw [fmod_fmod h0] at N
  refine hret _ _ _ _ F (News.sub (l' := _ :: _ :: news) N (by intro p hp; rcases List.mem_cons.mp hp with rfl | h; exact .head _; rcases List.mem_cons.mp h with rfl | h; exact .tail _ (.head _); exact .tail _ (.tail _ (.tail _ (.tail _ h))))) (FqNew.of (fun p hp => l1 p (.tail _ (.tail _ hp))) l2)

theorem addI_a (w : World) (mean mg mb) (news : List (Addr × Obj)) (x : Addr) (v N : Int) (k : Int) (tk : Tok) (h0 : 0 < N) (h1 : N ≤ 127) (v0 : 0 ≤ v) (v1 : v < N) (hx : FqAt w 227 N v news x) :
    CallC w mean mg mb 105 [.ref x, .int k tk] 4 news (FqNew w 227 N ((v + k).fmod N) news) := by
  intro dp un gd cn cs a ccd cl outer A₀ base h₀ L m s Q E B F X Ns Tp hk hd hu hret
  obtain ⟨dx, k1, k2, t1, t2, m1, m2⟩ := hx
  have N2 := News.put (News.put Ns m2) (.tail _ m1)
  refine wpAny_call ?_
  clear Ns
  refine' code_def (binds := [("self", .ref x), ("other", .int k tk)]) ?k1 ?k2 ?k3 ?k4 ?k5 ?kA ?kF ?kK ?k6 ?k7 ?k8 ?k9 ?kB ?_ ?c2 ?c3 ?c4 ?c5
  walk_at "enter"
  walk_at "go"
  refine' CallC.use (made_a w mean mg mb _ x _ v N _ h0 h1 ⟨dx, k1, k2, t1, t2, .head _, .tail _ (.head _)⟩) ?B ?F ?X ?N ?T ?hk ?hd ?hu ?_
  walk_at "use"
  intro r h' tk' news' Fx Nx o
  obtain ⟨x', dx', k1', k2', t1', t2', rfl, rfl, l1, l2⟩ := o
  try k_fold
  walk_at "go"
  (rename Fr _ _ _ _ => F); (rename News _ _ _ _ => N)
  simp only [Eqn] at *
  subst_vars
  rw [fmod_fmod h0] at N
  refine hret _ _ _ _ F (News.sub (l' := _ :: _ :: news) N (by intro p hp; rcases List.mem_cons.mp hp with rfl | h; exact .head _; rcases List.mem_cons.mp h with rfl | h; exact .tail _ (.head _); exact .tail _ (.tail _ (.tail _ (.tail _ h))))) (FqNew.of (fun p hp => l1 p (.tail _ (.tail _ hp))) l2)

theorem addF_a (w : World) (mean mg mb) (news : List (Addr × Obj)) (x : Addr) (v N : Int) (y : Addr) (k : Int) (h0 : 0 < N) (h1 : N ≤ 127) (v0 : 0 ≤ v) (v1 : v < N) (hx : FqAt w 227 N v news x) (hy : FqAt w 227 N k news y) :
    CallC w mean mg mb 105 [.ref x, .ref y] 4 news (FqNew w 227 N ((v + k).fmod N) news) := by
  intro dp un gd cn cs a ccd cl outer A₀ base h₀ L m s Q E B F X Ns Tp hk hd hu hret
  obtain ⟨dx, k1, k2, t1, t2, m1, m2⟩ := hx
  obtain ⟨dy, j1, j2, i1, i2, m3, m4⟩ := hy
  have N2 := News.put (News.put (News.put (News.put Ns m4) (.tail _ m3)) (.tail _ (.tail _ m2))) (.tail _ (.tail _ (.tail _ m1)))
  refine wpAny_call ?_
  clear Ns
  refine' code_def (binds := [("self", .ref x), ("other", .ref y)]) ?k1 ?k2 ?k3 ?k4 ?k5 ?kA ?kF ?kK ?k6 ?k7 ?k8 ?k9 ?kB ?_ ?c2 ?c3 ?c4 ?c5
  walk_at "enter"
  walk_at "go"
  refine' CallC.use (made_a w mean mg mb _ x _ v N _ h0 h1 ⟨dx, k1, k2, t1, t2, .head _, .tail _ (.head _)⟩) ?B ?F ?X ?N ?T ?hk ?hd ?hu ?_
  walk_at "use"
  intro r h' tk' news' Fx Nx o
  obtain ⟨x', dx', k1', k2', t1', t2', rfl, rfl, l1, l2⟩ := o
  try k_fold
  walk_at "go"
  (rename Fr _ _ _ _ => F); (rename News _ _ _ _ => N)
  simp only [Eqn] at *
  subst_vars
  rw [fmod_fmod h0] at N
  refine hret _ _ _ _ F (News.sub (l' := _ :: _ :: news) N (by intro p hp; rcases List.mem_cons.mp hp with rfl | h; exact .head _; rcases List.mem_cons.mp h with rfl | h; exact .tail _ (.head _); exact .tail _ (.tail _ (.tail _ (.tail _ (.tail _ (.tail _ h))))))) (FqNew.of (fun p hp => l1 p (.tail _ (.tail _ (.tail _ (.tail _ hp))))) l2)

theorem sub_a (w : World) (mean mg mb) (news : List (Addr × Obj)) (x : Addr) (v N : Int) (k : Int) (tk : Tok) (h0 : 0 < N) (h1 : N ≤ 127) (v0 : 0 ≤ v) (v1 : v < N) (hx : FqAt w 227 N v news x) :
    CallC w mean mg mb 140 [.ref x, .int k tk] 4 news (FqNew w 227 N ((v - k).fmod N) news) := by
  intro dp un gd cn cs a ccd cl outer A₀ base h₀ L m s Q E B F X Ns Tp hk hd hu hret
  obtain ⟨dx, k1, k2, t1, t2, m1, m2⟩ := hx
  have N2 := News.put (News.put Ns m2) (.tail _ m1)
  refine wpAny_call ?_
  clear Ns
  refine' code_def (binds := [("self", .ref x), ("other", .int k tk)]) ?k1 ?k2 ?k3 ?k4 ?k5 ?kA ?kF ?kK ?k6 ?k7 ?k8 ?k9 ?kB ?_ ?c2 ?c3 ?c4 ?c5
  walk_at "enter"
  walk_at "go"
  refine' CallC.use (made_a w mean mg mb _ x _ v N _ h0 h1 ⟨dx, k1, k2, t1, t2, .head _, .tail _ (.head _)⟩) ?B ?F ?X ?N ?T ?hk ?hd ?hu ?_
  walk_at "use"
  intro r h' tk' news' Fx Nx o
  obtain ⟨x', dx', k1', k2', t1', t2', rfl, rfl, l1, l2⟩ := o
  try k_fold
  walk_at "go"
  (rename Fr _ _ _ _ => F); (rename News _ _ _ _ => N)
  simp only [Eqn] at *
  subst_vars
  rw [fmod_fmod h0] at N
  refine hret _ _ _ _ F (News.sub (l' := _ :: _ :: news) N (by intro p hp; rcases List.mem_cons.mp hp with rfl | h; exact .head _; rcases List.mem_cons.mp h with rfl | h; exact .tail _ (.head _); exact .tail _ (.tail _ (.tail _ (.tail _ h))))) (FqNew.of (fun p hp => l1 p (.tail _ (.tail _ hp))) l2)

theorem div_a (w : World) (mean mg mb) (news : List (Addr × Obj)) (x : Addr) (v N : Int) (y : Addr) (k : Int) (h0 : 0 < N) (h1 : N ≤ 127) (v0 : 0 ≤ v) (v1 : v < N) (hx : FqAt w 227 N v news x) (hy : FqAt w 227 N k news y) (y0 : 0 < k) (y1 : k < N) (pr : Pr N) :
    CallC w mean mg mb 147 [.ref x, .ref y] 4 news (fun news' r => ∃ i, 0 ≤ i ∧ i < N ∧ (i * k) % N = 1 ∧ FqNew w 227 N ((v * i).fmod N) news news' r) := by
  intro dp un gd cn cs a ccd cl outer A₀ base h₀ L m s Q E B F X Ns Tp hk hd hu hret
  obtain ⟨dx, k1, k2, t1, t2, m1, m2⟩ := hx
  obtain ⟨dy, j1, j2, i1, i2, m3, m4⟩ := hy
  have N2 := News.put (News.put (News.put (News.put Ns m4) (.tail _ m3)) (.tail _ (.tail _ m2))) (.tail _ (.tail _ (.tail _ m1)))
  refine wpAny_call ?_
  clear Ns
  refine' code_def (binds := [("self", .ref x), ("other", .ref y)]) ?k1 ?k2 ?k3 ?k4 ?k5 ?kA ?kF ?kK ?k6 ?k7 ?k8 ?k9 ?kB ?_ ?c2 ?c3 ?c4 ?c5
  walk_at "enter"
  walk_at "go"
  refine' CallC.use (pfi_all w mean mg mb _ k N _ _ (by omega) y1 h1 pr) ?B ?F ?X ?N ?T ?hk ?hd ?hu ?_
  walk_at "use"
  intro r h' tk' news' Fx Nx o
  obtain ⟨rfl, i, ti, rfl, b0, b1, b2⟩ := o
  try k_fold
  walk_at "go"
  refine' CallC.use (made_a w mean mg mb _ x _ v N _ h0 h1 ⟨dx, k1, k2, t1, t2, .head _, .tail _ (.head _)⟩) ?B ?F ?X ?N ?T ?hk ?hd ?hu ?_
  walk_at "use"
  intro r h' tk' news' Fx Nx o
  obtain ⟨x', dx', k1', k2', t1', t2', rfl, rfl, l1, l2⟩ := o
  try k_fold
  walk_at "go"
  (rename Fr _ _ _ _ => F); (rename News _ _ _ _ => N)
  simp only [Eqn] at *
  subst_vars
  rw [fmod_fmod h0] at N
  refine hret _ _ _ _ F (News.sub (l' := _ :: _ :: news) N (by intro p hp; rcases List.mem_cons.mp hp with rfl | h; exact .head _; rcases List.mem_cons.mp h with rfl | h; exact .tail _ (.head _); exact .tail _ (.tail _ (.tail _ (.tail _ (.tail _ (.tail _ h))))))) ⟨i, b0, b1, b2 (by omega), FqNew.of (fun p hp => l1 p (.tail _ (.tail _ (.tail _ (.tail _ hp))))) l2⟩

theorem eq_a (w : World) (mean mg mb) (news : List (Addr × Obj)) (x : Addr) (v N : Int) (y : Addr) (k : Int) (hx : FqAt w 227 N v news x) (hy : FqAt w 227 N k news y) :
    CallC w mean mg mb 168 [.ref x, .ref y] 1 news (fun news' r => news' = news ∧ r = .bool (v == k)) := by
  intro dp un gd cn cs a ccd cl outer A₀ base h₀ L m s Q E B F X Ns Tp hk hd hu hret
  obtain ⟨dx, k1, k2, t1, t2, m1, m2⟩ := hx
  obtain ⟨dy, j1, j2, i1, i2, m3, m4⟩ := hy
  have N2 := News.put (News.put (News.put (News.put Ns m4) (.tail _ m3)) (.tail _ (.tail _ m2))) (.tail _ (.tail _ (.tail _ m1)))
  refine wpAny_call ?_
  clear Ns
  refine' code_def (binds := [("self", .ref x), ("other", .ref y)]) ?k1 ?k2 ?k3 ?k4 ?k5 ?kA ?kF ?kK ?k6 ?k7 ?k8 ?k9 ?kB ?_ ?c2 ?c3 ?c4 ?c5
  walk_at "enter"
  walk_at "go"
  (rename Fr _ _ _ _ => F); (rename News _ _ _ _ => N)
  exact hret _ _ _ _ F (News.sub (l' := news) N (fun p h => .tail _ (.tail _ (.tail _ (.tail _ h))))) ⟨rfl, rfl⟩

theorem ne_a (w : World) (mean mg mb) (news : List (Addr × Obj)) (x : Addr) (v N : Int) (y : Addr) (k : Int) (hx : FqAt w 227 N v news x) (hy : FqAt w 227 N k news y) :
    CallC w mean mg mb 175 [.ref x, .ref y] 3 news (fun news' r => news' = news ∧ r = .bool (!(v == k))) := by
  intro dp un gd cn cs a ccd cl outer A₀ base h₀ L m s Q E B F X Ns Tp hk hd hu hret
  have qx := hx
  have qy := hy
  obtain ⟨dx, k1, k2, t1, t2, m1, m2⟩ := hx
  obtain ⟨dy, j1, j2, i1, i2, m3, m4⟩ := hy
  have N2 := News.put (News.put (News.put (News.put Ns m4) (.tail _ m3)) (.tail _ (.tail _ m2))) (.tail _ (.tail _ (.tail _ m1)))
  refine wpAny_call ?_
  clear Ns
  refine' code_def (binds := [("self", .ref x), ("other", .ref y)]) ?k1 ?k2 ?k3 ?k4 ?k5 ?kA ?kF ?kK ?k6 ?k7 ?k8 ?k9 ?kB ?_ ?c2 ?c3 ?c4 ?c5
  walk_at "enter"
  walk_at "go"
  refine' CallC.use (eq_a w mean mg mb _ x v N y k ⟨dx, k1, k2, t1, t2, .head _, .tail _ (.head _)⟩ ⟨dy, j1, j2, i1, i2, .tail _ (.tail _ (.head _)), .tail _ (.tail _ (.tail _ (.head _)))⟩) ?B ?F ?X ?N ?T ?hk ?hd ?hu ?_
  walk_at "use"
  intro r h' tk' news' Fx Nx o
  obtain ⟨rfl, rfl⟩ := o
  unfold PySem.W.CmpBack
  dsimp only
  try k_fold
  walk_at "go"
  (rename Fr _ _ _ _ => F); (rename News _ _ _ _ => N)
  exact hret _ _ _ _ F (News.sub (l' := news) N (fun p h => .tail _ (.tail _ (.tail _ (.tail _ h))))) ⟨rfl, rfl⟩




theorem new_b (w : World) (mean mg mb) (news : List (Addr × Obj)) (v N : Int) (tv tN : Tok) (h0 : 0 < N) (h1 : N ≤ 127) :
    CallC w mean mg mb 389 [.int v tv, .int N tN] 2 news (FqNew w 389 N (v.fmod N) news) := by
  intro dp un gd cn cs a ccd cl outer A₀ base h₀ L m s Q E B F X Ns Tp hk hd hu hret
  refine' call_cls F X Ns ?k4 ?k5 ?k6 ?_
  case k4 => k_is
  case k5 => k_is
  case k6 => k_is
  intro x' d' h' F' N' l1 l2
  clear F Ns
  refine' code_def (binds := [("self", .ref x'), ("val", .int v tv), ("field_modulus", .int N tN)]) ?k1 ?k2 ?k3 ?k4 ?k5 ?kA ?kF ?kK ?k6 ?k7 ?k8 ?k9 ?kB ?_ ?c2 ?c3 ?c4 ?c5
  walk_at "enter"
  k_lt2 l2
  walk_at "go"
  (rename Fr _ _ _ _ => F); (rename News _ _ _ _ => N)
  simp only [Eqn] at *
  subst_vars
  exact hret _ _ _ _ F N (FqNew.of l1 l2)

theorem made_b (w : World) (mean mg mb) (news : List (Addr × Obj)) (x : Addr) (v u N : Int) (tv : Tok) (h0 : 0 < N) (h1 : N ≤ 127) (hx : FqAt w 389 N u news x) :
    CallC w mean mg mb 372 [.ref x, .int v tv] 3 news (FqNew w 389 N (v.fmod N) news) := by
  intro dp un gd cn cs a ccd cl outer A₀ base h₀ L m s Q E B F X Ns Tp hk hd hu hret
  obtain ⟨dx, k1, k2, t1, t2, m1, m2⟩ := hx
  have N2 := News.put (News.put Ns m2) (.tail _ m1)
  refine wpAny_call ?_
  clear Ns
  refine' code_def (binds := [("self", .ref x), ("val", .int v tv)]) ?k1 ?k2 ?k3 ?k4 ?k5 ?kA ?kF ?kK ?k6 ?k7 ?k8 ?k9 ?kB ?_ ?c2 ?c3 ?c4 ?c5
  walk_at "enter"
  walk_at "go"
  refine' CallC.use (new_b w mean mg mb _ v N _ _ h0 h1) ?B ?F ?X ?N ?T ?hk ?hd ?hu ?_
  walk_at "use"
  intro r h' tk' news' Fx Nx o
  obtain ⟨x', dx', k1', k2', t1', t2', rfl, rfl, l1, l2⟩ := o
  try k_fold
  walk_at "go"
  (rename Fr _ _ _ _ => F); (rename News _ _ _ _ => N)
  refine hret _ _ _ _ F (News.sub (l' := _ :: _ :: news) N (by intro p hp; rcases List.mem_cons.mp hp with rfl | h; exact .head _; rcases List.mem_cons.mp h with rfl | h; exact .tail _ (.head _); exact .tail _ (.tail _ (.tail _ (.tail _ h))))) (FqNew.of (fun p hp => l1 p (.tail _ (.tail _ hp))) l2)

theorem mul_b (w : World) (mean mg mb) (news : List (Addr × Obj)) (x : Addr) (v N : Int) (k : Int) (tk : Tok) (h0 : 0 < N) (h1 : N ≤ 127) (v0 : 0 ≤ v) (v1 : v < N) (hx : FqAt w 389 N v news x) :
    CallC w mean mg mb 259 [.ref x, .int k tk] 4 news (FqNew w 389 N ((v * k).fmod N) news) := by
  intro dp un gd cn cs a ccd cl outer A₀ base h₀ L m s Q E B F X Ns Tp hk hd hu hret
  obtain ⟨dx, k1, k2, t1, t2, m1, m2⟩ := hx
  have N2 := News.put (News.put Ns m2) (.tail _ m1)
  refine wpAny_call ?_
  clear Ns
  refine' code_def (binds := [("self", .ref x), ("other", .int k tk)]) ?k1 ?k2 ?k3 ?k4 ?k5 ?kA ?kF ?kK ?k6 ?k7 ?k8 ?k9 ?kB ?_ ?c2 ?c3 ?c4 ?c5
  walk_at "enter"
  walk_at "go"
  refine' CallC.use (made_b w mean mg mb _ x _ v N _ h0 h1 ⟨dx, k1, k2, t1, t2, .head _, .tail _ (.head _)⟩) ?B ?F ?X ?N ?T ?hk ?hd ?hu ?_
  walk_at "use"
  intro r h' tk' news' Fx Nx o
  obtain ⟨x', dx', k1', k2', t1', t2', rfl, rfl, l1, l2⟩ := o
  try k_fold
  walk_at "go"
  (rename Fr _ _ _ _ => F); (rename News _ _ _ _ => N)
  simp only [Eqn] at *
  subst_vars
  rw [fmod_fmod h0] at N
  refine hret _ _ _ _ F (News.sub (l' := _ :: _ :: news) N (by intro p hp; rcases List.mem_cons.mp hp with rfl | h; exact .head _; rcases List.mem_cons.mp h with rfl | h; exact .tail _ (.head _); exact .tail _ (.tail _ (.tail _ (.tail _ h))))) (FqNew.of (fun p hp => l1 p (.tail _ (.tail _ hp))) l2)

theorem addI_b (w : World) (mean mg mb) (news : List (Addr × Obj)) (x : Addr) (v N : Int) (k : Int) (tk : Tok) (h0 : 0 < N) (h1 : N ≤ 127) (v0 : 0 ≤ v) (v1 : v < N) (hx : FqAt w 389 N v news x) :
    CallC w mean mg mb 252 [.ref x, .int k tk] 4 news (FqNew w 389 N ((v + k).fmod N) news) := by
  intro dp un gd cn cs a ccd cl outer A₀ base h₀ L m s Q E B F X Ns Tp hk hd hu hret
  obtain ⟨dx, k1, k2, t1, t2, m1, m2⟩ := hx
  have N2 := News.put (News.put Ns m2) (.tail _ m1)
  refine wpAny_call ?_
  clear Ns
  refine' code_def (binds := [("self", .ref x), ("other", .int k tk)]) ?k1 ?k2 ?k3 ?k4 ?k5 ?kA ?kF ?kK ?k6 ?k7 ?k8 ?k9 ?kB ?_ ?c2 ?c3 ?c4 ?c5
  walk_at "enter"
  walk_at "go"
  refine' CallC.use (made_b w mean mg mb _ x _ v N _ h0 h1 ⟨dx, k1, k2, t1, t2, .head _, .tail _ (.head _)⟩) ?B ?F ?X ?N ?T ?hk ?hd ?hu ?_
  walk_at "use"
  intro r h' tk' news' Fx Nx o
  obtain ⟨x', dx', k1', k2', t1', t2', rfl, rfl, l1, l2⟩ := o
  try k_fold
  walk_at "go"
  (rename Fr _ _ _ _ => F); (rename News _ _ _ _ => N)
  simp only [Eqn] at *
  subst_vars
  rw [fmod_fmod h0] at N
  refine hret _ _ _ _ F (News.sub (l' := _ :: _ :: news) N (by intro p hp; rcases List.mem_cons.mp hp with rfl | h; exact .head _; rcases List.mem_cons.mp h with rfl | h; exact .tail _ (.head _); exact .tail _ (.tail _ (.tail _ (.tail _ h))))) (FqNew.of (fun p hp => l1 p (.tail _ (.tail _ hp))) l2)

theorem addF_b (w : World) (mean mg mb) (news : List (Addr × Obj)) (x : Addr) (v N : Int) (y : Addr) (k : Int) (h0 : 0 < N) (h1 : N ≤ 127) (v0 : 0 ≤ v) (v1 : v < N) (hx : FqAt w 389 N v news x) (hy : FqAt w 389 N k news y) :
    CallC w mean mg mb 252 [.ref x, .ref y] 4 news (FqNew w 389 N ((v + k).fmod N) news) := by
  intro dp un gd cn cs a ccd cl outer A₀ base h₀ L m s Q E B F X Ns Tp hk hd hu hret
  obtain ⟨dx, k1, k2, t1, t2, m1, m2⟩ := hx
  obtain ⟨dy, j1, j2, i1, i2, m3, m4⟩ := hy
  have N2 := News.put (News.put (News.put (News.put Ns m4) (.tail _ m3)) (.tail _ (.tail _ m2))) (.tail _ (.tail _ (.tail _ m1)))
  refine wpAny_call ?_
  clear Ns
  refine' code_def (binds := [("self", .ref x), ("other", .ref y)]) ?k1 ?k2 ?k3 ?k4 ?k5 ?kA ?kF ?kK ?k6 ?k7 ?k8 ?k9 ?kB ?_ ?c2 ?c3 ?c4 ?c5
  walk_at "enter"
  walk_at "go"
  refine' CallC.use (made_b w mean mg mb _ x _ v N _ h0 h1 ⟨dx, k1, k2, t1, t2, .head _, .tail _ (.head _)⟩) ?B ?F ?X ?N ?T ?hk ?hd ?hu ?_
  walk_at "use"
  intro r h' tk' news' Fx Nx o
  obtain ⟨x', dx', k1', k2', t1', t2', rfl, rfl, l1, l2⟩ := o
  try k_fold
  walk_at "go"
  (rename Fr _ _ _ _ => F); (rename News _ _ _ _ => N)
  simp only [Eqn] at *
  subst_vars
  rw [fmod_fmod h0] at N
  refine hret _ _ _ _ F (News.sub (l' := _ :: _ :: news) N (by intro p hp; rcases List.mem_cons.mp hp with rfl | h; exact .head _; rcases List.mem_cons.mp h with rfl | h; exact .tail _ (.head _); exact .tail _ (.tail _ (.tail _ (.tail _ (.tail _ (.tail _ h))))))) (FqNew.of (fun p hp => l1 p (.tail _ (.tail _ (.tail _ (.tail _ hp))))) l2)

theorem sub_b (w : World) (mean mg mb) (news : List (Addr × Obj)) (x : Addr) (v N : Int) (k : Int) (tk : Tok) (h0 : 0 < N) (h1 : N ≤ 127) (v0 : 0 ≤ v) (v1 : v < N) (hx : FqAt w 389 N v news x) :
    CallC w mean mg mb 287 [.ref x, .int k tk] 4 news (FqNew w 389 N ((v - k).fmod N) news) := by
  intro dp un gd cn cs a ccd cl outer A₀ base h₀ L m s Q E B F X Ns Tp hk hd hu hret
  obtain ⟨dx, k1, k2, t1, t2, m1, m2⟩ := hx
  have N2 := News.put (News.put Ns m2) (.tail _ m1)
  refine wpAny_call ?_
  clear Ns
  refine' code_def (binds := [("self", .ref x), ("other", .int k tk)]) ?k1 ?k2 ?k3 ?k4 ?k5 ?kA ?kF ?kK ?k6 ?k7 ?k8 ?k9 ?kB ?_ ?c2 ?c3 ?c4 ?c5
  walk_at "enter"
  walk_at "go"
  refine' CallC.use (made_b w mean mg mb _ x _ v N _ h0 h1 ⟨dx, k1, k2, t1, t2, .head _, .tail _ (.head _)⟩) ?B ?F ?X ?N ?T ?hk ?hd ?hu ?_
  walk_at "use"
  intro r h' tk' news' Fx Nx o
  obtain ⟨x', dx', k1', k2', t1', t2', rfl, rfl, l1, l2⟩ := o
  try k_fold
  walk_at "go"
  (rename Fr _ _ _ _ => F); (rename News _ _ _ _ => N)
  simp only [Eqn] at *
  subst_vars
  rw [fmod_fmod h0] at N
  refine hret _ _ _ _ F (News.sub (l' := _ :: _ :: news) N (by intro p hp; rcases List.mem_cons.mp hp with rfl | h; exact .head _; rcases List.mem_cons.mp h with rfl | h; exact .tail _ (.head _); exact .tail _ (.tail _ (.tail _ (.tail _ h))))) (FqNew.of (fun p hp => l1 p (.tail _ (.tail _ hp))) l2)

theorem div_b (w : World) (mean mg mb) (news : List (Addr × Obj)) (x : Addr) (v N : Int) (y : Addr) (k : Int) (h0 : 0 < N) (h1 : N ≤ 127) (v0 : 0 ≤ v) (v1 : v < N) (hx : FqAt w 389 N v news x) (hy : FqAt w 389 N k news y) (y0 : 0 < k) (y1 : k < N) (pr : Pr N) :
    CallC w mean mg mb 301 [.ref x, .ref y] 4 news (fun news' r => ∃ i, 0 ≤ i ∧ i < N ∧ (i * k) % N = 1 ∧ FqNew w 389 N ((v * i).fmod N) news news' r) := by
  intro dp un gd cn cs a ccd cl outer A₀ base h₀ L m s Q E B F X Ns Tp hk hd hu hret
  obtain ⟨dx, k1, k2, t1, t2, m1, m2⟩ := hx
  obtain ⟨dy, j1, j2, i1, i2, m3, m4⟩ := hy
  have N2 := News.put (News.put (News.put (News.put Ns m4) (.tail _ m3)) (.tail _ (.tail _ m2))) (.tail _ (.tail _ (.tail _ m1)))
  refine wpAny_call ?_
  clear Ns
  refine' code_def (binds := [("self", .ref x), ("other", .ref y)]) ?k1 ?k2 ?k3 ?k4 ?k5 ?kA ?kF ?kK ?k6 ?k7 ?k8 ?k9 ?kB ?_ ?c2 ?c3 ?c4 ?c5
  walk_at "enter"
  walk_at "go"
  refine' CallC.use (pfi_all w mean mg mb _ k N _ _ (by omega) y1 h1 pr) ?B ?F ?X ?N ?T ?hk ?hd ?hu ?_
  walk_at "use"
  intro r h' tk' news' Fx Nx o
  obtain ⟨rfl, i, ti, rfl, b0, b1, b2⟩ := o
  try k_fold
  walk_at "go"
  refine' CallC.use (made_b w mean mg mb _ x _ v N _ h0 h1 ⟨dx, k1, k2, t1, t2, .head _, .tail _ (.head _)⟩) ?B ?F ?X ?N ?T ?hk ?hd ?hu ?_
  walk_at "use"
  intro r h' tk' news' Fx Nx o
  obtain ⟨x', dx', k1', k2', t1', t2', rfl, rfl, l1, l2⟩ := o
  try k_fold
  walk_at "go"
  (rename Fr _ _ _ _ => F); (rename News _ _ _ _ => N)
  simp only [Eqn] at *
  subst_vars
  rw [fmod_fmod h0] at N
  refine hret _ _ _ _ F (News.sub (l' := _ :: _ :: news) N (by intro p hp; rcases List.mem_cons.mp hp with rfl | h; exact .head _; rcases List.mem_cons.mp h with rfl | h; exact .tail _ (.head _); exact .tail _ (.tail _ (.tail _ (.tail _ (.tail _ (.tail _ h))))))) ⟨i, b0, b1, b2 (by omega), FqNew.of (fun p hp => l1 p (.tail _ (.tail _ (.tail _ (.tail _ hp))))) l2⟩

theorem eq_b (w : World) (mean mg mb) (news : List (Addr × Obj)) (x : Addr) (v N : Int) (y : Addr) (k : Int) (hx : FqAt w 389 N v news x) (hy : FqAt w 389 N k news y) :
    CallC w mean mg mb 322 [.ref x, .ref y] 1 news (fun news' r => news' = news ∧ r = .bool (v == k)) := by
  intro dp un gd cn cs a ccd cl outer A₀ base h₀ L m s Q E B F X Ns Tp hk hd hu hret
  obtain ⟨dx, k1, k2, t1, t2, m1, m2⟩ := hx
  obtain ⟨dy, j1, j2, i1, i2, m3, m4⟩ := hy
  have N2 := News.put (News.put (News.put (News.put Ns m4) (.tail _ m3)) (.tail _ (.tail _ m2))) (.tail _ (.tail _ (.tail _ m1)))
  refine wpAny_call ?_
  clear Ns
  refine' code_def (binds := [("self", .ref x), ("other", .ref y)]) ?k1 ?k2 ?k3 ?k4 ?k5 ?kA ?kF ?kK ?k6 ?k7 ?k8 ?k9 ?kB ?_ ?c2 ?c3 ?c4 ?c5
  walk_at "enter"
  walk_at "go"
  (rename Fr _ _ _ _ => F); (rename News _ _ _ _ => N)
  exact hret _ _ _ _ F (News.sub (l' := news) N (fun p h => .tail _ (.tail _ (.tail _ (.tail _ h))))) ⟨rfl, rfl⟩

theorem ne_b (w : World) (mean mg mb) (news : List (Addr × Obj)) (x : Addr) (v N : Int) (y : Addr) (k : Int) (hx : FqAt w 389 N v news x) (hy : FqAt w 389 N k news y) :
    CallC w mean mg mb 329 [.ref x, .ref y] 3 news (fun news' r => news' = news ∧ r = .bool (!(v == k))) := by
  intro dp un gd cn cs a ccd cl outer A₀ base h₀ L m s Q E B F X Ns Tp hk hd hu hret
  have qx := hx
  have qy := hy
  obtain ⟨dx, k1, k2, t1, t2, m1, m2⟩ := hx
  obtain ⟨dy, j1, j2, i1, i2, m3, m4⟩ := hy
  have N2 := News.put (News.put (News.put (News.put Ns m4) (.tail _ m3)) (.tail _ (.tail _ m2))) (.tail _ (.tail _ (.tail _ m1)))
  refine wpAny_call ?_
  clear Ns
  refine' code_def (binds := [("self", .ref x), ("other", .ref y)]) ?k1 ?k2 ?k3 ?k4 ?k5 ?kA ?kF ?kK ?k6 ?k7 ?k8 ?k9 ?kB ?_ ?c2 ?c3 ?c4 ?c5
  walk_at "enter"
  walk_at "go"
  refine' CallC.use (eq_b w mean mg mb _ x v N y k ⟨dx, k1, k2, t1, t2, .head _, .tail _ (.head _)⟩ ⟨dy, j1, j2, i1, i2, .tail _ (.tail _ (.head _)), .tail _ (.tail _ (.tail _ (.head _)))⟩) ?B ?F ?X ?N ?T ?hk ?hd ?hu ?_
  walk_at "use"
  intro r h' tk' news' Fx Nx o
  obtain ⟨rfl, rfl⟩ := o
  unfold PySem.W.CmpBack
  dsimp only
  try k_fold
  walk_at "go"
  (rename Fr _ _ _ _ => F); (rename News _ _ _ _ => N)
  exact hret _ _ _ _ F (News.sub (l' := news) N (fun p h => .tail _ (.tail _ (.tail _ (.tail _ h))))) ⟨rfl, rfl⟩




abbrev TreeC (w : World) (mean : ExcName → Option Value) (mg mb : Str → Option Value) (t : Sem Value) (sz : Nat) (news : List (Addr × Obj))
    (Out : List (Addr × Obj) → Value → Prop) : Prop :=
  ∀ (dp un : Nat) (gd : Option (List Code)) (cn : Str) (cs : Scope) (a : Addr) (ccd : Value) (cl : List (Str × Addr)) (outer : List Env) (A₀ : Around) (base h₀ : Heap) (L : Addr) (m : Str → Option Value) (s : Shared) (Q E : Value → Shared → Prop),
    Below A₀ base outer h₀ → Fr h₀ L s.heap m → (Mine.H.hd.heap_39 w.params).In h₀ → News h₀ L s.heap news →
    Top Mine.H.hd.view_39 (looseW Mine.H.hd.view_39 [Str.ofString "FQ", Str.ofString "FQ_field_elements", Str.ofString "FQ_optimized_field_elements"]) mean mg mb h₀ →
    cs.kind = .function → dp + sz < recursionLimit → un + 8 * sz < cLine →
    (∀ r h' tk' news', Fr h₀ L h' m → News h₀ L h' news' → Out news' r → Q r { s with heap := h', toks := tk' }) →
    wpAny (model PySem.Challenge.rw_af0014_01.row.prog w) (ktrTop dp un gd cn cs L a ccd cl outer) t Q E s
theorem TreeC.use {w : World} {mean : ExcName → Option Value} {mg mb : Str → Option Value} {tr : Sem Value} {sz : Nat} {news : List (Addr × Obj)} {Out : List (Addr × Obj) → Value → Prop}
    (C : TreeC w mean mg mb tr sz news Out) {dp un : Nat} {gd : Option (List Code)} {cn : Str} {cs : Scope} {a : Addr} {ccd : Value} {cl : List (Str × Addr)} {outer : List Env} {A₀ : Around} {base h₀ : Heap} {L : Addr} {m : Str → Option Value} {s : Shared} {Q E : Value → Shared → Prop}
    (B : Below A₀ base outer h₀) (F : Fr h₀ L s.heap m) (X : (Mine.H.hd.heap_39 w.params).In h₀) (N : News h₀ L s.heap news)
    (T : Top Mine.H.hd.view_39 (looseW Mine.H.hd.view_39 [Str.ofString "FQ", Str.ofString "FQ_field_elements", Str.ofString "FQ_optimized_field_elements"]) mean mg mb h₀)
    (hk : cs.kind = .function) (hd : dp + sz < recursionLimit) (hu : un + 8 * sz < cLine)
    (ret : ∀ r h' tk' news', Fr h₀ L h' m → News h₀ L h' news' → Out news' r → Q r { s with heap := h', toks := tk' }) :
    wpAny (model PySem.Challenge.rw_af0014_01.row.prog w) (ktrTop dp un gd cn cs L a ccd cl outer) tr Q E s := C _ _ _ _ _ _ _ _ _ _ _ _ _ _ _ _ _ B F X N T hk hd hu ret
/-- the class of a form -/
noncomputable def clF (form : Int) : Addr := if form = 0 then 227 else 389

theorem opMul_a (w : World) (mean mg mb) (news : List (Addr × Obj)) (x : Addr) (v N : Int) (k : Int) (tk : Tok) (h0 : 0 < N) (h1 : N ≤ 127) (v0 : 0 ≤ v) (v1 : v < N) (hx : FqAt w 227 N v news x) :
    TreeC w mean mg mb (binaryOp .Mult (.ref x) (.int k tk)) 5 news (FqNew w 227 N ((v * k).fmod N) news) := by
  intro dp un gd cn cs a ccd cl outer A₀ base h₀ L m s Q E B F X Ns Tp hk hd hu hret
  obtain ⟨dx, k1, k2, t1, t2, m1, m2⟩ := hx
  have N2 := News.put (News.put Ns m2) (.tail _ m1)
  clear Ns
  ksp_bin
  refine' CallC.use (mul_a w mean mg mb _ x v N k tk h0 h1 v0 v1 ⟨dx, k1, k2, t1, t2, .head _, .tail _ (.head _)⟩) ?B ?F ?X ?N ?T ?hk ?hd ?hu ?_
  walk_at "use"
  intro r h' tk' news' Fx Nx o
  obtain ⟨x', dx', k1', k2', t1', t2', rfl, rfl, l1, l2⟩ := o
  unfold PySem.W.CmpBack
  dsimp only
  exact hret _ _ _ _ Fx (News.sub (l' := _ :: _ :: news) Nx (by intro p hp; rcases List.mem_cons.mp hp with rfl | h; exact .head _; rcases List.mem_cons.mp h with rfl | h; exact .tail _ (.head _); exact .tail _ (.tail _ (.tail _ (.tail _ h))))) (FqNew.of (fun p h => l1 p (.tail _ (.tail _ h))) l2)

theorem opMul_b (w : World) (mean mg mb) (news : List (Addr × Obj)) (x : Addr) (v N : Int) (k : Int) (tk : Tok) (h0 : 0 < N) (h1 : N ≤ 127) (v0 : 0 ≤ v) (v1 : v < N) (hx : FqAt w 389 N v news x) :
    TreeC w mean mg mb (binaryOp .Mult (.ref x) (.int k tk)) 5 news (FqNew w 389 N ((v * k).fmod N) news) := by
  intro dp un gd cn cs a ccd cl outer A₀ base h₀ L m s Q E B F X Ns Tp hk hd hu hret
  obtain ⟨dx, k1, k2, t1, t2, m1, m2⟩ := hx
  have N2 := News.put (News.put Ns m2) (.tail _ m1)
  clear Ns
  ksp_bin
  refine' CallC.use (mul_b w mean mg mb _ x v N k tk h0 h1 v0 v1 ⟨dx, k1, k2, t1, t2, .head _, .tail _ (.head _)⟩) ?B ?F ?X ?N ?T ?hk ?hd ?hu ?_
  walk_at "use"
  intro r h' tk' news' Fx Nx o
  obtain ⟨x', dx', k1', k2', t1', t2', rfl, rfl, l1, l2⟩ := o
  unfold PySem.W.CmpBack
  dsimp only
  exact hret _ _ _ _ Fx (News.sub (l' := _ :: _ :: news) Nx (by intro p hp; rcases List.mem_cons.mp hp with rfl | h; exact .head _; rcases List.mem_cons.mp h with rfl | h; exact .tail _ (.head _); exact .tail _ (.tail _ (.tail _ (.tail _ h))))) (FqNew.of (fun p h => l1 p (.tail _ (.tail _ h))) l2)

theorem opMul (w : World) (mean mg mb) (news : List (Addr × Obj)) (form : Int) (hform : form = 0 ∨ form = 1) (x : Addr) (v N : Int) (k : Int) (tk : Tok) (h0 : 0 < N) (h1 : N ≤ 127) (v0 : 0 ≤ v) (v1 : v < N) (hx : FqAt w (clF form) N v news x) :
    TreeC w mean mg mb (binaryOp .Mult (.ref x) (.int k tk)) 5 news (FqNew w (clF form) N ((v * k).fmod N) news) := by
  rcases hform with rfl | rfl
  · exact opMul_a w mean mg mb news x v N k tk h0 h1 v0 v1 hx
  · exact opMul_b w mean mg mb news x v N k tk h0 h1 v0 v1 hx

theorem opAddI_a (w : World) (mean mg mb) (news : List (Addr × Obj)) (x : Addr) (v N : Int) (k : Int) (tk : Tok) (h0 : 0 < N) (h1 : N ≤ 127) (v0 : 0 ≤ v) (v1 : v < N) (hx : FqAt w 227 N v news x) :
    TreeC w mean mg mb (binaryOp .Add (.ref x) (.int k tk)) 5 news (FqNew w 227 N ((v + k).fmod N) news) := by
  intro dp un gd cn cs a ccd cl outer A₀ base h₀ L m s Q E B F X Ns Tp hk hd hu hret
  obtain ⟨dx, k1, k2, t1, t2, m1, m2⟩ := hx
  have N2 := News.put (News.put Ns m2) (.tail _ m1)
  clear Ns
  ksp_bin
  refine' CallC.use (addI_a w mean mg mb _ x v N k tk h0 h1 v0 v1 ⟨dx, k1, k2, t1, t2, .head _, .tail _ (.head _)⟩) ?B ?F ?X ?N ?T ?hk ?hd ?hu ?_
  walk_at "use"
  intro r h' tk' news' Fx Nx o
  obtain ⟨x', dx', k1', k2', t1', t2', rfl, rfl, l1, l2⟩ := o
  unfold PySem.W.CmpBack
  dsimp only
  exact hret _ _ _ _ Fx (News.sub (l' := _ :: _ :: news) Nx (by intro p hp; rcases List.mem_cons.mp hp with rfl | h; exact .head _; rcases List.mem_cons.mp h with rfl | h; exact .tail _ (.head _); exact .tail _ (.tail _ (.tail _ (.tail _ h))))) (FqNew.of (fun p h => l1 p (.tail _ (.tail _ h))) l2)

theorem opAddI_b (w : World) (mean mg mb) (news : List (Addr × Obj)) (x : Addr) (v N : Int) (k : Int) (tk : Tok) (h0 : 0 < N) (h1 : N ≤ 127) (v0 : 0 ≤ v) (v1 : v < N) (hx : FqAt w 389 N v news x) :
    TreeC w mean mg mb (binaryOp .Add (.ref x) (.int k tk)) 5 news (FqNew w 389 N ((v + k).fmod N) news) := by
  intro dp un gd cn cs a ccd cl outer A₀ base h₀ L m s Q E B F X Ns Tp hk hd hu hret
  obtain ⟨dx, k1, k2, t1, t2, m1, m2⟩ := hx
  have N2 := News.put (News.put Ns m2) (.tail _ m1)
  clear Ns
  ksp_bin
  refine' CallC.use (addI_b w mean mg mb _ x v N k tk h0 h1 v0 v1 ⟨dx, k1, k2, t1, t2, .head _, .tail _ (.head _)⟩) ?B ?F ?X ?N ?T ?hk ?hd ?hu ?_
  walk_at "use"
  intro r h' tk' news' Fx Nx o
  obtain ⟨x', dx', k1', k2', t1', t2', rfl, rfl, l1, l2⟩ := o
  unfold PySem.W.CmpBack
  dsimp only
  exact hret _ _ _ _ Fx (News.sub (l' := _ :: _ :: news) Nx (by intro p hp; rcases List.mem_cons.mp hp with rfl | h; exact .head _; rcases List.mem_cons.mp h with rfl | h; exact .tail _ (.head _); exact .tail _ (.tail _ (.tail _ (.tail _ h))))) (FqNew.of (fun p h => l1 p (.tail _ (.tail _ h))) l2)

theorem opAddI (w : World) (mean mg mb) (news : List (Addr × Obj)) (form : Int) (hform : form = 0 ∨ form = 1) (x : Addr) (v N : Int) (k : Int) (tk : Tok) (h0 : 0 < N) (h1 : N ≤ 127) (v0 : 0 ≤ v) (v1 : v < N) (hx : FqAt w (clF form) N v news x) :
    TreeC w mean mg mb (binaryOp .Add (.ref x) (.int k tk)) 5 news (FqNew w (clF form) N ((v + k).fmod N) news) := by
  rcases hform with rfl | rfl
  · exact opAddI_a w mean mg mb news x v N k tk h0 h1 v0 v1 hx
  · exact opAddI_b w mean mg mb news x v N k tk h0 h1 v0 v1 hx

theorem opSub_a (w : World) (mean mg mb) (news : List (Addr × Obj)) (x : Addr) (v N : Int) (k : Int) (tk : Tok) (h0 : 0 < N) (h1 : N ≤ 127) (v0 : 0 ≤ v) (v1 : v < N) (hx : FqAt w 227 N v news x) :
    TreeC w mean mg mb (binaryOp .Sub (.ref x) (.int k tk)) 5 news (FqNew w 227 N ((v - k).fmod N) news) := by
  intro dp un gd cn cs a ccd cl outer A₀ base h₀ L m s Q E B F X Ns Tp hk hd hu hret
  obtain ⟨dx, k1, k2, t1, t2, m1, m2⟩ := hx
  have N2 := News.put (News.put Ns m2) (.tail _ m1)
  clear Ns
  ksp_bin
  refine' CallC.use (sub_a w mean mg mb _ x v N k tk h0 h1 v0 v1 ⟨dx, k1, k2, t1, t2, .head _, .tail _ (.head _)⟩) ?B ?F ?X ?N ?T ?hk ?hd ?hu ?_
  walk_at "use"
  intro r h' tk' news' Fx Nx o
  obtain ⟨x', dx', k1', k2', t1', t2', rfl, rfl, l1, l2⟩ := o
  unfold PySem.W.CmpBack
  dsimp only
  exact hret _ _ _ _ Fx (News.sub (l' := _ :: _ :: news) Nx (by intro p hp; rcases List.mem_cons.mp hp with rfl | h; exact .head _; rcases List.mem_cons.mp h with rfl | h; exact .tail _ (.head _); exact .tail _ (.tail _ (.tail _ (.tail _ h))))) (FqNew.of (fun p h => l1 p (.tail _ (.tail _ h))) l2)

theorem opSub_b (w : World) (mean mg mb) (news : List (Addr × Obj)) (x : Addr) (v N : Int) (k : Int) (tk : Tok) (h0 : 0 < N) (h1 : N ≤ 127) (v0 : 0 ≤ v) (v1 : v < N) (hx : FqAt w 389 N v news x) :
    TreeC w mean mg mb (binaryOp .Sub (.ref x) (.int k tk)) 5 news (FqNew w 389 N ((v - k).fmod N) news) := by
  intro dp un gd cn cs a ccd cl outer A₀ base h₀ L m s Q E B F X Ns Tp hk hd hu hret
  obtain ⟨dx, k1, k2, t1, t2, m1, m2⟩ := hx
  have N2 := News.put (News.put Ns m2) (.tail _ m1)
  clear Ns
  ksp_bin
  refine' CallC.use (sub_b w mean mg mb _ x v N k tk h0 h1 v0 v1 ⟨dx, k1, k2, t1, t2, .head _, .tail _ (.head _)⟩) ?B ?F ?X ?N ?T ?hk ?hd ?hu ?_
  walk_at "use"
  intro r h' tk' news' Fx Nx o
  obtain ⟨x', dx', k1', k2', t1', t2', rfl, rfl, l1, l2⟩ := o
  unfold PySem.W.CmpBack
  dsimp only
  exact hret _ _ _ _ Fx (News.sub (l' := _ :: _ :: news) Nx (by intro p hp; rcases List.mem_cons.mp hp with rfl | h; exact .head _; rcases List.mem_cons.mp h with rfl | h; exact .tail _ (.head _); exact .tail _ (.tail _ (.tail _ (.tail _ h))))) (FqNew.of (fun p h => l1 p (.tail _ (.tail _ h))) l2)

theorem opSub (w : World) (mean mg mb) (news : List (Addr × Obj)) (form : Int) (hform : form = 0 ∨ form = 1) (x : Addr) (v N : Int) (k : Int) (tk : Tok) (h0 : 0 < N) (h1 : N ≤ 127) (v0 : 0 ≤ v) (v1 : v < N) (hx : FqAt w (clF form) N v news x) :
    TreeC w mean mg mb (binaryOp .Sub (.ref x) (.int k tk)) 5 news (FqNew w (clF form) N ((v - k).fmod N) news) := by
  rcases hform with rfl | rfl
  · exact opSub_a w mean mg mb news x v N k tk h0 h1 v0 v1 hx
  · exact opSub_b w mean mg mb news x v N k tk h0 h1 v0 v1 hx

theorem opAddF_a (w : World) (mean mg mb) (news : List (Addr × Obj)) (x : Addr) (v N : Int) (y : Addr) (k : Int) (h0 : 0 < N) (h1 : N ≤ 127) (v0 : 0 ≤ v) (v1 : v < N) (hx : FqAt w 227 N v news x) (hy : FqAt w 227 N k news y) :
    TreeC w mean mg mb (binaryOp .Add (.ref x) (.ref y)) 5 news (FqNew w 227 N ((v + k).fmod N) news) := by
  intro dp un gd cn cs a ccd cl outer A₀ base h₀ L m s Q E B F X Ns Tp hk hd hu hret
  obtain ⟨dx, k1, k2, t1, t2, m1, m2⟩ := hx
  obtain ⟨dy, j1, j2, i1, i2, m3, m4⟩ := hy
  have N2 := News.put (News.put (News.put (News.put Ns m4) (.tail _ m3)) (.tail _ (.tail _ m2))) (.tail _ (.tail _ (.tail _ m1)))
  clear Ns
  (k_here; k_dflt (refine' binop_K ?k1 ?k2 ?k3 ?k4 ?k5 ?k6 ?k7 ?_; (case k1 => k_asm); (case k2 => k_asm); (case k3 => k_inst); (case k4 => k_typeOf); (case k5 => k_is); (case k6 => k_is); (case k7 => k_is); k_whole))
  refine' CallC.use (addF_a w mean mg mb _ x v N y k h0 h1 v0 v1 ⟨dx, k1, k2, t1, t2, .head _, .tail _ (.head _)⟩ ⟨dy, j1, j2, i1, i2, .tail _ (.tail _ (.head _)), .tail _ (.tail _ (.tail _ (.head _)))⟩) ?B ?F ?X ?N ?T ?hk ?hd ?hu ?_
  walk_at "use"
  intro r h' tk' news' Fx Nx o
  obtain ⟨x', dx', k1', k2', t1', t2', rfl, rfl, l1, l2⟩ := o
  unfold PySem.W.CmpBack
  dsimp only
  exact hret _ _ _ _ Fx (News.sub (l' := _ :: _ :: news) Nx (by intro p hp; rcases List.mem_cons.mp hp with rfl | h; exact .head _; rcases List.mem_cons.mp h with rfl | h; exact .tail _ (.head _); exact .tail _ (.tail _ (.tail _ (.tail _ (.tail _ (.tail _ h))))))) (FqNew.of (fun p h => l1 p (.tail _ (.tail _ (.tail _ (.tail _ h))))) l2)

theorem opAddF_b (w : World) (mean mg mb) (news : List (Addr × Obj)) (x : Addr) (v N : Int) (y : Addr) (k : Int) (h0 : 0 < N) (h1 : N ≤ 127) (v0 : 0 ≤ v) (v1 : v < N) (hx : FqAt w 389 N v news x) (hy : FqAt w 389 N k news y) :
    TreeC w mean mg mb (binaryOp .Add (.ref x) (.ref y)) 5 news (FqNew w 389 N ((v + k).fmod N) news) := by
  intro dp un gd cn cs a ccd cl outer A₀ base h₀ L m s Q E B F X Ns Tp hk hd hu hret
  obtain ⟨dx, k1, k2, t1, t2, m1, m2⟩ := hx
  obtain ⟨dy, j1, j2, i1, i2, m3, m4⟩ := hy
  have N2 := News.put (News.put (News.put (News.put Ns m4) (.tail _ m3)) (.tail _ (.tail _ m2))) (.tail _ (.tail _ (.tail _ m1)))
  clear Ns
  (k_here; k_dflt (refine' binop_K ?k1 ?k2 ?k3 ?k4 ?k5 ?k6 ?k7 ?_; (case k1 => k_asm); (case k2 => k_asm); (case k3 => k_inst); (case k4 => k_typeOf); (case k5 => k_is); (case k6 => k_is); (case k7 => k_is); k_whole))
  refine' CallC.use (addF_b w mean mg mb _ x v N y k h0 h1 v0 v1 ⟨dx, k1, k2, t1, t2, .head _, .tail _ (.head _)⟩ ⟨dy, j1, j2, i1, i2, .tail _ (.tail _ (.head _)), .tail _ (.tail _ (.tail _ (.head _)))⟩) ?B ?F ?X ?N ?T ?hk ?hd ?hu ?_
  walk_at "use"
  intro r h' tk' news' Fx Nx o
  obtain ⟨x', dx', k1', k2', t1', t2', rfl, rfl, l1, l2⟩ := o
  unfold PySem.W.CmpBack
  dsimp only
  exact hret _ _ _ _ Fx (News.sub (l' := _ :: _ :: news) Nx (by intro p hp; rcases List.mem_cons.mp hp with rfl | h; exact .head _; rcases List.mem_cons.mp h with rfl | h; exact .tail _ (.head _); exact .tail _ (.tail _ (.tail _ (.tail _ (.tail _ (.tail _ h))))))) (FqNew.of (fun p h => l1 p (.tail _ (.tail _ (.tail _ (.tail _ h))))) l2)

theorem opAddF (w : World) (mean mg mb) (news : List (Addr × Obj)) (form : Int) (hform : form = 0 ∨ form = 1) (x : Addr) (v N : Int) (y : Addr) (k : Int) (h0 : 0 < N) (h1 : N ≤ 127) (v0 : 0 ≤ v) (v1 : v < N) (hx : FqAt w (clF form) N v news x) (hy : FqAt w (clF form) N k news y) :
    TreeC w mean mg mb (binaryOp .Add (.ref x) (.ref y)) 5 news (FqNew w (clF form) N ((v + k).fmod N) news) := by
  rcases hform with rfl | rfl
  · exact opAddF_a w mean mg mb news x v N y k h0 h1 v0 v1 hx hy
  · exact opAddF_b w mean mg mb news x v N y k h0 h1 v0 v1 hx hy

theorem opDiv_a (w : World) (mean mg mb) (news : List (Addr × Obj)) (x : Addr) (v N : Int) (y : Addr) (k : Int) (h0 : 0 < N) (h1 : N ≤ 127) (v0 : 0 ≤ v) (v1 : v < N) (hx : FqAt w 227 N v news x) (hy : FqAt w 227 N k news y) (y0 : 0 < k) (y1 : k < N) (pr : Pr N) :
    TreeC w mean mg mb (binaryOp .Div (.ref x) (.ref y)) 5 news (fun news' r => ∃ i, 0 ≤ i ∧ i < N ∧ (i * k) % N = 1 ∧ FqNew w 227 N ((v * i).fmod N) news news' r) := by
  intro dp un gd cn cs a ccd cl outer A₀ base h₀ L m s Q E B F X Ns Tp hk hd hu hret
  obtain ⟨dx, k1, k2, t1, t2, m1, m2⟩ := hx
  obtain ⟨dy, j1, j2, i1, i2, m3, m4⟩ := hy
  have N2 := News.put (News.put (News.put (News.put Ns m4) (.tail _ m3)) (.tail _ (.tail _ m2))) (.tail _ (.tail _ (.tail _ m1)))
  clear Ns
  (k_here; k_dflt (refine' binop_K ?k1 ?k2 ?k3 ?k4 ?k5 ?k6 ?k7 ?_; (case k1 => k_asm); (case k2 => k_asm); (case k3 => k_inst); (case k4 => k_typeOf); (case k5 => k_is); (case k6 => k_is); (case k7 => k_is); k_whole))
  refine' CallC.use (div_a w mean mg mb _ x v N y k h0 h1 v0 v1 ⟨dx, k1, k2, t1, t2, .head _, .tail _ (.head _)⟩ ⟨dy, j1, j2, i1, i2, .tail _ (.tail _ (.head _)), .tail _ (.tail _ (.tail _ (.head _)))⟩ y0 y1 pr) ?B ?F ?X ?N ?T ?hk ?hd ?hu ?_
  walk_at "use"
  intro r h' tk' news' Fx Nx o
  obtain ⟨i, b0, b1, b2, x', dx', k1', k2', t1', t2', rfl, rfl, l1, l2⟩ := o
  unfold PySem.W.CmpBack
  dsimp only
  exact hret _ _ _ _ Fx (News.sub (l' := _ :: _ :: news) Nx (by intro p hp; rcases List.mem_cons.mp hp with rfl | h; exact .head _; rcases List.mem_cons.mp h with rfl | h; exact .tail _ (.head _); exact .tail _ (.tail _ (.tail _ (.tail _ (.tail _ (.tail _ h))))))) ⟨i, b0, b1, b2, (FqNew.of (fun p h => l1 p (.tail _ (.tail _ (.tail _ (.tail _ h))))) l2)⟩

theorem opDiv_b (w : World) (mean mg mb) (news : List (Addr × Obj)) (x : Addr) (v N : Int) (y : Addr) (k : Int) (h0 : 0 < N) (h1 : N ≤ 127) (v0 : 0 ≤ v) (v1 : v < N) (hx : FqAt w 389 N v news x) (hy : FqAt w 389 N k news y) (y0 : 0 < k) (y1 : k < N) (pr : Pr N) :
    TreeC w mean mg mb (binaryOp .Div (.ref x) (.ref y)) 5 news (fun news' r => ∃ i, 0 ≤ i ∧ i < N ∧ (i * k) % N = 1 ∧ FqNew w 389 N ((v * i).fmod N) news news' r) := by
  intro dp un gd cn cs a ccd cl outer A₀ base h₀ L m s Q E B F X Ns Tp hk hd hu hret
  obtain ⟨dx, k1, k2, t1, t2, m1, m2⟩ := hx
  obtain ⟨dy, j1, j2, i1, i2, m3, m4⟩ := hy
  have N2 := News.put (News.put (News.put (News.put Ns m4) (.tail _ m3)) (.tail _ (.tail _ m2))) (.tail _ (.tail _ (.tail _ m1)))
  clear Ns
  (k_here; k_dflt (refine' binop_K ?k1 ?k2 ?k3 ?k4 ?k5 ?k6 ?k7 ?_; (case k1 => k_asm); (case k2 => k_asm); (case k3 => k_inst); (case k4 => k_typeOf); (case k5 => k_is); (case k6 => k_is); (case k7 => k_is); k_whole))
  refine' CallC.use (div_b w mean mg mb _ x v N y k h0 h1 v0 v1 ⟨dx, k1, k2, t1, t2, .head _, .tail _ (.head _)⟩ ⟨dy, j1, j2, i1, i2, .tail _ (.tail _ (.head _)), .tail _ (.tail _ (.tail _ (.head _)))⟩ y0 y1 pr) ?B ?F ?X ?N ?T ?hk ?hd ?hu ?_
  walk_at "use"
  intro r h' tk' news' Fx Nx o
  obtain ⟨i, b0, b1, b2, x', dx', k1', k2', t1', t2', rfl, rfl, l1, l2⟩ := o
  unfold PySem.W.CmpBack
  dsimp only
  exact hret _ _ _ _ Fx (News.sub (l' := _ :: _ :: news) Nx (by intro p hp; rcases List.mem_cons.mp hp with rfl | h; exact .head _; rcases List.mem_cons.mp h with rfl | h; exact .tail _ (.head _); exact .tail _ (.tail _ (.tail _ (.tail _ (.tail _ (.tail _ h))))))) ⟨i, b0, b1, b2, (FqNew.of (fun p h => l1 p (.tail _ (.tail _ (.tail _ (.tail _ h))))) l2)⟩

theorem opDiv (w : World) (mean mg mb) (news : List (Addr × Obj)) (form : Int) (hform : form = 0 ∨ form = 1) (x : Addr) (v N : Int) (y : Addr) (k : Int) (h0 : 0 < N) (h1 : N ≤ 127) (v0 : 0 ≤ v) (v1 : v < N) (hx : FqAt w (clF form) N v news x) (hy : FqAt w (clF form) N k news y) (y0 : 0 < k) (y1 : k < N) (pr : Pr N) :
    TreeC w mean mg mb (binaryOp .Div (.ref x) (.ref y)) 5 news (fun news' r => ∃ i, 0 ≤ i ∧ i < N ∧ (i * k) % N = 1 ∧ FqNew w (clF form) N ((v * i).fmod N) news news' r) := by
  rcases hform with rfl | rfl
  · exact opDiv_a w mean mg mb news x v N y k h0 h1 v0 v1 hx hy y0 y1 pr
  · exact opDiv_b w mean mg mb news x v N y k h0 h1 v0 v1 hx hy y0 y1 pr

theorem opNe_a (w : World) (mean mg mb) (news : List (Addr × Obj)) (x : Addr) (v N : Int) (y : Addr) (k : Int) (hx : FqAt w 227 N v news x) (hy : FqAt w 227 N k news y) :
    TreeC w mean mg mb (compareOp .NotEq (.ref x) (.ref y)) 4 news (fun news' r => news' = news ∧ r = .bool (!(v == k))) := by
  intro dp un gd cn cs a ccd cl outer A₀ base h₀ L m s Q E B F X Ns Tp hk hd hu hret
  obtain ⟨dx, k1, k2, t1, t2, m1, m2⟩ := hx
  obtain ⟨dy, j1, j2, i1, i2, m3, m4⟩ := hy
  have N2 := News.put (News.put (News.put (News.put Ns m4) (.tail _ m3)) (.tail _ (.tail _ m2))) (.tail _ (.tail _ (.tail _ m1)))
  clear Ns
  walk_at "compareOp NotEq ref"
  refine' CallC.use (ne_a w mean mg mb _ x v N y k ⟨dx, k1, k2, t1, t2, .head _, .tail _ (.head _)⟩ ⟨dy, j1, j2, i1, i2, .tail _ (.tail _ (.head _)), .tail _ (.tail _ (.tail _ (.head _)))⟩) ?B ?F ?X ?N ?T ?hk ?hd ?hu ?_
  walk_at "use"
  intro r h' tk' news' Fx Nx o
  obtain ⟨rfl, rfl⟩ := o
  unfold PySem.W.CmpBack
  dsimp only
  exact hret _ _ _ _ Fx (News.sub (l' := news) Nx (fun p h => .tail _ (.tail _ (.tail _ (.tail _ h))))) ⟨rfl, rfl⟩

theorem opNe_b (w : World) (mean mg mb) (news : List (Addr × Obj)) (x : Addr) (v N : Int) (y : Addr) (k : Int) (hx : FqAt w 389 N v news x) (hy : FqAt w 389 N k news y) :
    TreeC w mean mg mb (compareOp .NotEq (.ref x) (.ref y)) 4 news (fun news' r => news' = news ∧ r = .bool (!(v == k))) := by
  intro dp un gd cn cs a ccd cl outer A₀ base h₀ L m s Q E B F X Ns Tp hk hd hu hret
  obtain ⟨dx, k1, k2, t1, t2, m1, m2⟩ := hx
  obtain ⟨dy, j1, j2, i1, i2, m3, m4⟩ := hy
  have N2 := News.put (News.put (News.put (News.put Ns m4) (.tail _ m3)) (.tail _ (.tail _ m2))) (.tail _ (.tail _ (.tail _ m1)))
  clear Ns
  walk_at "compareOp NotEq ref"
  refine' CallC.use (ne_b w mean mg mb _ x v N y k ⟨dx, k1, k2, t1, t2, .head _, .tail _ (.head _)⟩ ⟨dy, j1, j2, i1, i2, .tail _ (.tail _ (.head _)), .tail _ (.tail _ (.tail _ (.head _)))⟩) ?B ?F ?X ?N ?T ?hk ?hd ?hu ?_
  walk_at "use"
  intro r h' tk' news' Fx Nx o
  obtain ⟨rfl, rfl⟩ := o
  unfold PySem.W.CmpBack
  dsimp only
  exact hret _ _ _ _ Fx (News.sub (l' := news) Nx (fun p h => .tail _ (.tail _ (.tail _ (.tail _ h))))) ⟨rfl, rfl⟩

theorem opNe (w : World) (mean mg mb) (news : List (Addr × Obj)) (form : Int) (hform : form = 0 ∨ form = 1) (x : Addr) (v N : Int) (y : Addr) (k : Int) (hx : FqAt w (clF form) N v news x) (hy : FqAt w (clF form) N k news y) :
    TreeC w mean mg mb (compareOp .NotEq (.ref x) (.ref y)) 4 news (fun news' r => news' = news ∧ r = .bool (!(v == k))) := by
  rcases hform with rfl | rfl
  · exact opNe_a w mean mg mb news x v N y k hx hy
  · exact opNe_b w mean mg mb news x v N y k hx hy


theorem lawmade_a (w : World) (mean mg mb) (news : List (Addr × Obj)) (v N : Int) (tf tv tN : Tok) (h0 : 0 < N) (h1 : N ≤ 127) :
    CallC w mean mg mb 414 [.int 0 tf, .int v tv, .int N tN] 3 news (FqNew w 227 N (v.fmod N) news) := by
  intro dp un gd cn cs a ccd cl outer A₀ base h₀ L m s Q E B F X Ns Tp hk hd hu hret
  refine wpAny_call ?_
  refine' code_def (binds := [("form", .int 0 tf), ("number", .int v tv), ("order", .int N tN)]) ?k1 ?k2 ?k3 ?k4 ?k5 ?kA ?kF ?kK ?k6 ?k7 ?k8 ?k9 ?kB ?_ ?c2 ?c3 ?c4 ?c5
  walk_at "enter"
  walk_at "go"
  refine' CallC.use (new_a w mean mg mb _ v N _ _ h0 h1) ?B ?F ?X ?N ?T ?hk ?hd ?hu ?_
  walk_at "use"
  intro r h' tk' news' Fx Nx o
  obtain ⟨x', dx', k1', k2', t1', t2', rfl, rfl, l1, l2⟩ := o
  try k_fold
  walk_at "go"
  (rename Fr _ _ _ _ => F); (rename News _ _ _ _ => N)
  exact hret _ _ _ _ F N (FqNew.of l1 l2)

theorem lawmade_b (w : World) (mean mg mb) (news : List (Addr × Obj)) (v N : Int) (tf tv tN : Tok) (h0 : 0 < N) (h1 : N ≤ 127) :
    CallC w mean mg mb 414 [.int 1 tf, .int v tv, .int N tN] 3 news (FqNew w 389 N (v.fmod N) news) := by
  intro dp un gd cn cs a ccd cl outer A₀ base h₀ L m s Q E B F X Ns Tp hk hd hu hret
  refine wpAny_call ?_
  refine' code_def (binds := [("form", .int 1 tf), ("number", .int v tv), ("order", .int N tN)]) ?k1 ?k2 ?k3 ?k4 ?k5 ?kA ?kF ?kK ?k6 ?k7 ?k8 ?k9 ?kB ?_ ?c2 ?c3 ?c4 ?c5
  walk_at "enter"
  walk_at "go"
  refine' CallC.use (new_b w mean mg mb _ v N _ _ h0 h1) ?B ?F ?X ?N ?T ?hk ?hd ?hu ?_
  walk_at "use"
  intro r h' tk' news' Fx Nx o
  obtain ⟨x', dx', k1', k2', t1', t2', rfl, rfl, l1, l2⟩ := o
  try k_fold
  walk_at "go"
  (rename Fr _ _ _ _ => F); (rename News _ _ _ _ => N)
  exact hret _ _ _ _ F N (FqNew.of l1 l2)

theorem lawmade_c (w : World) (mean mg mb) (news : List (Addr × Obj)) (form v N : Int) (hform : form = 0 ∨ form = 1) (tf tv tN : Tok) (h0 : 0 < N) (h1 : N ≤ 127) :
    CallC w mean mg mb 414 [.int form tf, .int v tv, .int N tN] 3 news (FqNew w (clF form) N (v.fmod N) news) := by
  rcases hform with rfl | rfl
  · exact lawmade_a w mean mg mb news v N tf tv tN h0 h1
  · exact lawmade_b w mean mg mb news v N tf tv tN h0 h1

local macro_rules | `(tactic| walk_at "exec For Name Subscript cons nil") => `(tactic| (k_here; (rename Fr _ _ _ _ => lF'); (with_unfolding_all refine' For_turns lF' ?_; k_whole)))
local macro_rules | `(tactic| walk_at "exec For Tuple Name cons nil") => `(tactic| (k_here; (rename Fr _ _ _ _ => lF'); (with_unfolding_all refine' For_turns lF' ?_; k_whole)))
local macro_rules | `(tactic| walk_at "slc") => `(tactic| (k_dflt (refine' kmk_slice3_lit (lo := some (-2)) (hi := none) (st := some (-1)) (by with_reducible assumption) (by with_reducible assumption) ?zl ?zp ?zq ?zk ?zo ?ze ?_ ?zs ?zt ?zz); (case zl => exact News.isList (by with_reducible assumption) (.head _)); (case zp => kmk_part); (case zq => kmk_part); (case zk => kmk_part); (case zo => decide); (case ze => with_unfolding_all rfl); (case zs => with_unfolding_all rfl); (case zt => kmk_pure); (case zz => size_fits)))
local macro_rules | `(tactic| walk_at "gdB") => `(tactic| ((fail_if_success (with_reducible show wpAny _ _ (exec (Stmt.While _ _ _ _) _) _ _ _)); (fail_if_success (with_reducible show wpAny _ _ (call (Value.ref _) _) _ _ _)); (fail_if_success (with_reducible show wpAny _ _ (binaryOp _ (Value.ref _) _) _ _ _)); (fail_if_success (with_reducible show wpAny _ _ (compareOp CmpOp.NotEq (Value.ref _) (Value.ref _)) _ _ _)); (fail_if_success (with_reducible show wpAny _ _ (pyIter (Value.ref _)) _ _ _)); (fail_if_success (with_reducible show UnrEndW _ _ _ _ _ _)); (fail_if_success (with_reducible show UnrEnd _ _ _ _ _ _ _)); (fail_if_success (with_reducible show wpAny _ _ (subscriptTail _ (PySem.Expr.Slice _ _ (some _) _) (Value.ref _) (Value.ref _)) _ _ _))))
local macro_rules | `(tactic| walk_at "go") => `(tactic| repeat' (first | (k_unfold; (try dsimp only)) | (walk_at "gdB"; (fail_if_success (with_reducible show wpAny _ _ (call (Value.builtin "len") _) _ _ _)); (fail_if_success (with_reducible show wpAny _ _ (subscriptTail _ _ (Value.ref _) (Value.int (_ + _) _)) _ _ _)); first | walk1 | (dsimp only; walk1))))
local macro_rules | `(tactic| k_mem) => `(tactic| with_reducible first | exact mh0 | exact mh1 | exact mh2 | exact mh3 | exact mh4 | exact mh5 | exact mh6 | exact mh7 | exact mh8 | exact mh9 | exact mh10 | exact mh11 | exact mh12 | exact mh13 | exact mh14 | exact mh15)


abbrev lst (vs : List Value) (e : Nat := 0) : Obj := { cls := .type "list", data := .seq vs.toArray e }
theorem FqAt.mono {w : World} {C : Addr} {N v : Int} {l l' : List (Addr × Obj)} {x : Addr} (h : FqAt w C N v l x) (hs : ∀ p ∈ l, p ∈ l') : FqAt w C N v l' x := by
  obtain ⟨dx, k1, k2, t1, t2, m1, m2⟩ := h
  exact ⟨dx, k1, k2, t1, t2, hs _ m1, hs _ m2⟩
section
variable {prog : Program} {w : World} {A : Around} {E : Value → Shared → Prop} {s s₁ : Shared} {h₀ : Heap} {env : Env} {target : Expr} {body : List Stmt} {Q : Flow → Shared → Prop}
/-- over a list of the ledger, item by item -/
theorem iter_lst {ax : Addr} {vs : List Value} {e : Nat} {m₀ : Str → Option Value} {news : List (Addr × Obj)} (hh : A.handled = none) (F : Fr h₀ env.locals s.heap m₀) (N : News h₀ env.locals s.heap news) (hm : (ax, lst vs e) ∈ news)
    (rest₀ : ∀ I : Addr, (∀ p ∈ news, p.1 < I) → ItemsRest prog w A E h₀ env target body Q s [(I, "list_iterator")] [(ax, lst vs e)] (vs.map .val) m₀ news) :
    wpAny (model prog w) A (pyIter (.ref ax)) (fun it s₂ => TurnsAt prog w A h₀ env target body Q E it s₂) E s := iter_listTurns hh F N hm rfl rfl rest₀
theorem items_next {I ax : Addr} {lo : Obj} {v : Value} {r : List Itm} {m : Str → Option Value} {news : List (Addr × Obj)}
    (h : ∀ h tk o, Fr h₀ env.locals h m → News h₀ env.locals h ((I, o) :: news) →
      wpAny (model prog w) A (assign target env v) (fun _ s₂ => wpAny (model prog w) A (execs body env) (UnrPostW h₀ env.locals { s with heap := h, toks := tk } [(I, o)] (fun m' n' => SubL [(ax, lo)] n' ∧ ItemsRest prog w A E h₀ env target body Q s [(I, "list_iterator")] [(ax, lo)] r m' n') Q) E s₂) E { s with heap := h, toks := tk }) :
    ItemsRest prog w A E h₀ env target body Q s [(I, "list_iterator")] [(ax, lo)] (.val v :: r) m news :=
  ItemsRest.val fun h' tk F => AllObj.cons fun o _ => AllObj.nil fun N => h h' tk o F N
theorem items_end {I ax : Addr} {lo o : Obj} {L : Addr} {rest : (Str → Option Value) → List (Addr × Obj) → Prop} {h' : Heap} {tk : Nat} {m' : Str → Option Value} {all n' : List (Addr × Obj)}
    (F : Fr h₀ L h' m') (N : News h₀ L h' all) (hI : (I, o) ∈ all) (hs : ∀ p ∈ n', p ∈ all) (off : ∀ p ∈ n', p.1 ≠ I) (hk : (ax, lo) ∈ n') (r : rest m' n') :
    UnrEndW h₀ L s₁ [(I, o)] (fun m' n' => SubL [(ax, lo)] n' ∧ rest m' n') { s₁ with heap := h', toks := tk } :=
  ⟨h', tk, m', n', rfl, F, fun p hp => by
    rcases List.mem_append.mp hp with hp | hp
    · rw [List.mem_singleton.mp hp]; exact N _ hI
    · exact N p (hs p hp), fun p hp q hq => by rw [List.mem_singleton.mp hq]; exact off p hp, ⟨hk, trivial⟩, r⟩
end

theorem FqNew.fq {w : World} {C : Addr} {N v : Int} {news : List (Addr × Obj)} {x dx : Addr} {k1 k2 t1 t2 : Tok} : FqAt w C N v ((x, instObj C dx) :: (dx, fqD w.params N v k1 k2 t1 t2) :: news) x := ⟨dx, k1, k2, t1, t2, .head _, .tail _ (.head _)⟩
theorem mem1 {α : Type} {a : α} {l : List α} : ∀ p ∈ l, p ∈ a :: l := fun _ h => .tail _ h
theorem mem2 {α : Type} {a b : α} {l : List α} : ∀ p ∈ l, p ∈ a :: b :: l := fun _ h => .tail _ (.tail _ h)
theorem mem3 {α : Type} {a b c : α} {l : List α} : ∀ p ∈ l, p ∈ a :: b :: c :: l := fun _ h => .tail _ (.tail _ (.tail _ h))
theorem lts_cons {d : Addr} {q : Addr × Obj} {l : List (Addr × Obj)} (h : q.1 < d) (k : ∀ p ∈ l, p.1 < d) : ∀ p ∈ q :: l, p.1 < d := fun p hp => by rcases List.mem_cons.mp hp with rfl | hp; exact h; exact k p hp
theorem nes_cons {d : Addr} {q : Addr × Obj} {l : List (Addr × Obj)} (h : q.1 ≠ d) (k : ∀ p ∈ l, p.1 ≠ d) : ∀ p ∈ q :: l, p.1 ≠ d := fun p hp => by rcases List.mem_cons.mp hp with rfl | hp; exact h; exact k p hp
theorem sub_cons {α : Type} {q : α} {l l' : List α} (h : q ∈ l') (k : ∀ p ∈ l, p ∈ l') : ∀ p ∈ q :: l, p ∈ l' := fun p hp => by rcases List.mem_cons.mp hp with rfl | hp; exact h; exact k p hp

theorem value2_c (w : World) (mean mg mb) (news : List (Addr × Obj)) (e : Nat) (form : Int) (hform : form = 0 ∨ form = 1) (lr x0 x1 : Addr) (c0 c1 N p : Int) (tp : Tok) (h0 : 0 < N) (h1 : N ≤ 127)
    (hl : (lr, lst [.ref x0, .ref x1] e) ∈ news) (hx0 : FqAt w (clF form) N c0 news x0) (hx1 : FqAt w (clF form) N c1 news x1) (c00 : 0 ≤ c0) (c01 : c0 < N) (c10 : 0 ≤ c1) (c11 : c1 < N) :
    CallC w mean mg mb 421 [.ref lr, .int p tp] 8 news (FqNew w (clF form) N (((c1 * p).fmod N + c0).fmod N) news) := by
  intro dp un gd cn cs a ccd cl outer A₀ base h₀ L m s Q E B F X Ns Tp hk hd hu hret
  have N2 := News.put Ns hl
  clear Ns
  refine wpAny_call ?_
  refine' code_def (binds := [("rows", .ref lr), ("place", .int p tp)]) ?k1 ?k2 ?k3 ?k4 ?k5 ?kA ?kF ?kK ?k6 ?k7 ?k8 ?k9 ?kB ?_ ?c2 ?c3 ?c4 ?c5
  walk_at "enter"
  walk_at "go"
  walk_at "slc"
  intro D h' Fx Nx lD
  have eS : (slicePick #[Value.ref x0, Value.ref x1] (some (-2)) none (some (-1))).toList = [Value.ref x0] := by with_unfolding_all rfl
  rw [eS] at Nx
  clear eS
  refine iter_lst (vs := [Value.ref x0]) rfl Fx Nx (.head _) ?_
  intro I hI
  clear Fx Nx
  refine items_next ?_
  intro h tk o Fx Nx
  try k_fold
  walk_at "go"
  refine' TreeC.use (opMul w mean mg mb _ form hform x1 _ N p tp h0 h1 c10 c11 (hx1.mono mem3)) ?B ?F ?X ?N ?T ?hk ?hd ?hu ?_
  walk_at "use"
  intro r h' tk' news' Fx Nx o
  obtain ⟨a1, da1, k1', k2', t1', t2', rfl, rfl, la1, ma1⟩ := o
  try k_fold
  walk_at "go"
  refine' TreeC.use (opAddF w mean mg mb _ form hform a1 _ N x0 c0 h0 h1 (fmod_rng h0).1 (fmod_rng h0).2 FqNew.fq (hx0.mono (fun _ h => mem2 _ (mem3 _ h)))) ?B ?F ?X ?N ?T ?hk ?hd ?hu ?_
  walk_at "use"
  intro r h' tk' news' Fx Nx o
  obtain ⟨b1, db1, k1', k2', t1', t2', rfl, rfl, lb1, mb1⟩ := o
  try k_fold
  walk_at "go"
  (rename Fr _ _ _ _ => Fx); (rename News _ _ _ _ => Nx)
  have gI : I < db1 := lb1 _ (.tail _ (.tail _ (.head _)))
  refine items_end (n' := (b1, _) :: (db1, _) :: (D, _) :: (lr, _) :: news) Fx Nx (.tail _ (.tail _ (.tail _ (.tail _ (.head _))))) (sub_cons (.head _) (sub_cons (.tail _ (.head _)) (fun p h => (mem3 _ (mem2 _ h))))) (nes_cons (Nat.ne_of_gt (Nat.lt_trans gI mb1)) (nes_cons (Nat.ne_of_gt gI) (nes_cons (Nat.ne_of_lt (hI _ (.head _))) (nes_cons (Nat.ne_of_lt (hI _ (.tail _ (.head _)))) (fun p hp => Nat.ne_of_lt (hI p (.tail _ (.tail _ hp)))))))) (.tail _ (.tail _ (.head _))) ?_
  clear Fx Nx
  refine ItemsRest.zero ?_
  intro h tk Fx Nx
  walk_at "go"
  (rename Fr _ _ _ _ => Fx); (rename News _ _ _ _ => Nx)
  refine hret _ _ _ _ Fx (News.sub (l' := _ :: _ :: news) Nx (sub_cons (.head _) (sub_cons (.tail _ (.head _)) (fun p h => mem2 _ (mem2 _ h))))) (FqNew.of (fun p hp => ?_) mb1)
  exact Nat.lt_trans (hI p (.tail _ (.tail _ hp))) gI

theorem value3_c (w : World) (mean mg mb) (news : List (Addr × Obj)) (e : Nat) (form : Int) (hform : form = 0 ∨ form = 1) (lr x0 x1 x2 : Addr) (c0 c1 c2 N p : Int) (tp : Tok) (h0 : 0 < N) (h1 : N ≤ 127)
    (hl : (lr, lst [.ref x0, .ref x1, .ref x2] e) ∈ news) (hx0 : FqAt w (clF form) N c0 news x0) (hx1 : FqAt w (clF form) N c1 news x1) (hx2 : FqAt w (clF form) N c2 news x2) (c00 : 0 ≤ c0) (c01 : c0 < N) (c10 : 0 ≤ c1) (c11 : c1 < N) (c20 : 0 ≤ c2) (c21 : c2 < N) :
    CallC w mean mg mb 421 [.ref lr, .int p tp] 8 news (FqNew w (clF form) N (((((c2 * p).fmod N + c1).fmod N * p).fmod N + c0).fmod N) news) := by
  intro dp un gd cn cs a ccd cl outer A₀ base h₀ L m s Q E B F X Ns Tp hk hd hu hret
  have N2 := News.put Ns hl
  clear Ns
  refine wpAny_call ?_
  refine' code_def (binds := [("rows", .ref lr), ("place", .int p tp)]) ?k1 ?k2 ?k3 ?k4 ?k5 ?kA ?kF ?kK ?k6 ?k7 ?k8 ?k9 ?kB ?_ ?c2 ?c3 ?c4 ?c5
  walk_at "enter"
  walk_at "go"
  walk_at "slc"
  intro D h' Fx Nx lD
  have eS : (slicePick #[Value.ref x0, Value.ref x1, Value.ref x2] (some (-2)) none (some (-1))).toList = [Value.ref x1, Value.ref x0] := by with_unfolding_all rfl
  rw [eS] at Nx
  clear eS
  refine iter_lst (vs := [Value.ref x1, Value.ref x0]) rfl Fx Nx (.head _) ?_
  intro I hI
  clear Fx Nx
  refine items_next ?_
  intro h tk o Fx Nx
  try k_fold
  walk_at "go"
  refine' TreeC.use (opMul w mean mg mb _ form hform x2 _ N p tp h0 h1 c20 c21 (hx2.mono mem3)) ?B ?F ?X ?N ?T ?hk ?hd ?hu ?_
  walk_at "use"
  intro r h' tk' news' Fx Nx o
  obtain ⟨a1, da1, k1', k2', t1', t2', rfl, rfl, la1, ma1⟩ := o
  try k_fold
  walk_at "go"
  refine' TreeC.use (opAddF w mean mg mb _ form hform a1 _ N x1 c1 h0 h1 (fmod_rng h0).1 (fmod_rng h0).2 FqNew.fq (hx1.mono (fun _ h => mem2 _ (mem3 _ h)))) ?B ?F ?X ?N ?T ?hk ?hd ?hu ?_
  walk_at "use"
  intro r h' tk' news' Fx Nx o
  obtain ⟨b1, db1, k1', k2', t1', t2', rfl, rfl, lb1, mb1⟩ := o
  try k_fold
  walk_at "go"
  (rename Fr _ _ _ _ => Fx); (rename News _ _ _ _ => Nx)
  have gI : I < db1 := lb1 _ (.tail _ (.tail _ (.head _)))
  refine items_end (n' := (b1, _) :: (db1, _) :: (D, _) :: (lr, _) :: news) Fx Nx (.tail _ (.tail _ (.tail _ (.tail _ (.head _))))) (sub_cons (.head _) (sub_cons (.tail _ (.head _)) (fun p h => (mem3 _ (mem2 _ h))))) (nes_cons (Nat.ne_of_gt (Nat.lt_trans gI mb1)) (nes_cons (Nat.ne_of_gt gI) (nes_cons (Nat.ne_of_lt (hI _ (.head _))) (nes_cons (Nat.ne_of_lt (hI _ (.tail _ (.head _)))) (fun p hp => Nat.ne_of_lt (hI p (.tail _ (.tail _ hp)))))))) (.tail _ (.tail _ (.head _))) ?_
  clear Fx Nx
  refine items_next ?_
  intro h tk o Fx Nx
  try k_fold
  walk_at "go"
  refine' TreeC.use (opMul w mean mg mb _ form hform b1 _ N p tp h0 h1 (fmod_rng h0).1 (fmod_rng h0).2 (FqNew.fq.mono mem1)) ?B ?F ?X ?N ?T ?hk ?hd ?hu ?_
  walk_at "use"
  intro r h' tk' news' Fx Nx o
  obtain ⟨a2, da2, k1', k2', t1', t2', rfl, rfl, la2, ma2⟩ := o
  try k_fold
  walk_at "go"
  refine' TreeC.use (opAddF w mean mg mb _ form hform a2 _ N x0 c0 h0 h1 (fmod_rng h0).1 (fmod_rng h0).2 FqNew.fq (hx0.mono (fun _ h => mem2 _ (mem3 _ (mem2 _ h))))) ?B ?F ?X ?N ?T ?hk ?hd ?hu ?_
  walk_at "use"
  intro r h' tk' news' Fx Nx o
  obtain ⟨b2, db2, k1', k2', t1', t2', rfl, rfl, lb2, mb2⟩ := o
  try k_fold
  walk_at "go"
  (rename Fr _ _ _ _ => Fx); (rename News _ _ _ _ => Nx)
  have gI2 : I < db2 := lb2 _ (.tail _ (.tail _ (.head _)))
  refine items_end (n' := (b2, _) :: (db2, _) :: (D, _) :: (lr, _) :: news) Fx Nx (.tail _ (.tail _ (.tail _ (.tail _ (.head _))))) (sub_cons (.head _) (sub_cons (.tail _ (.head _)) (fun p h => (mem3 _ (mem2 _ (mem2 _ h)))))) (nes_cons (Nat.ne_of_gt (Nat.lt_trans gI2 mb2)) (nes_cons (Nat.ne_of_gt gI2) (nes_cons (Nat.ne_of_lt (hI _ (.head _))) (nes_cons (Nat.ne_of_lt (hI _ (.tail _ (.head _)))) (fun p hp => Nat.ne_of_lt (hI p (.tail _ (.tail _ hp)))))))) (.tail _ (.tail _ (.head _))) ?_
  clear Fx Nx
  refine ItemsRest.zero ?_
  intro h tk Fx Nx
  walk_at "go"
  (rename Fr _ _ _ _ => Fx); (rename News _ _ _ _ => Nx)
  refine hret _ _ _ _ Fx (News.sub (l' := _ :: _ :: news) Nx (sub_cons (.head _) (sub_cons (.tail _ (.head _)) (fun p h => mem2 _ (mem2 _ h))))) (FqNew.of (fun p hp => ?_) mb2)
  exact Nat.lt_trans (hI p (.tail _ (.tail _ hp))) gI2

section
variable {prog : Program} {w : World} {A : Around} {E : Value → Shared → Prop} {h₀ : Heap} {env : Env} {target : Expr} {body : List Stmt} {Q : Flow → Shared → Prop} {s : Shared}
theorem items_ind {I ax : Addr} {lo : Obj} {Inv : List Value → (Str → Option Value) → List (Addr × Obj) → Prop}
    (step : ∀ v r m news, Inv (v :: r) m news → ∀ h tk o, Fr h₀ env.locals h m → News h₀ env.locals h ((I, o) :: news) →
      wpAny (model prog w) A (assign target env v) (fun _ s₂ => wpAny (model prog w) A (execs body env) (UnrPostW h₀ env.locals { s with heap := h, toks := tk } [(I, o)] (fun m' n' => SubL [(ax, lo)] n' ∧ Inv r m' n') Q) E s₂) E { s with heap := h, toks := tk })
    (fin : ∀ m news, Inv [] m news → ∀ h tk, Fr h₀ env.locals h m → News h₀ env.locals h news → Q .next { s with heap := h, toks := tk }) :
    ∀ vs m news, Inv vs m news → ItemsRest prog w A E h₀ env target body Q s [(I, "list_iterator")] [(ax, lo)] (vs.map .val) m news := by
  intro vs
  induction vs with
  | nil => exact fun m news h => ItemsRest.zero (fin m news h)
  | cons v r ih =>
    intro m news h
    refine items_next fun h' tk o F N => wpAny_mono (step v r m news h h' tk o F N) (fun _ s₂ q => wpAny_mono q (fun f s₃ p => ?_) fun _ _ e => e) fun _ _ e => e
    have go : ∀ s₃, UnrEndW h₀ env.locals { s with heap := h', toks := tk } [(I, o)] (fun m' n' => SubL [(ax, lo)] n' ∧ Inv r m' n') s₃ →
        UnrEndW h₀ env.locals { s with heap := h', toks := tk } [(I, o)] (fun m' n' => SubL [(ax, lo)] n' ∧ ItemsRest prog w A E h₀ env target body Q s [(I, "list_iterator")] [(ax, lo)] (r.map .val) m' n') s₃ := by
      rintro s₃ ⟨h', tk, m', n', e, F, N, off, k, i⟩
      exact ⟨h', tk, m', n', e, F, N, off, k, ih m' n' i⟩
    cases f with
    | ret v => exact p
    | brk => exact p
    | next => exact go _ p
    | cont => exact go _ p
theorem iter_ind {ax : Addr} {vs : List Value} {e : Nat} {m₀ : Str → Option Value} {news : List (Addr × Obj)} (hh : A.handled = none) (F : Fr h₀ env.locals s.heap m₀) (N : News h₀ env.locals s.heap news) (hm : (ax, lst vs e) ∈ news)
    (Inv : (Str → Option Value) → Addr → List Value → (Str → Option Value) → List (Addr × Obj) → Prop)
    (start : ∀ I, (∀ p ∈ news, p.1 < I) → Inv m₀ I vs m₀ news)
    (step : ∀ I, (∀ p ∈ news, p.1 < I) → ∀ v r m nw, Inv m₀ I (v :: r) m nw → ∀ h tk o, Fr h₀ env.locals h m → News h₀ env.locals h ((I, o) :: nw) →
      wpAny (model prog w) A (assign target env v) (fun _ s₂ => wpAny (model prog w) A (execs body env) (UnrPostW h₀ env.locals { s with heap := h, toks := tk } [(I, o)] (fun m' n' => SubL [(ax, lst vs e)] n' ∧ Inv m₀ I r m' n') Q) E s₂) E { s with heap := h, toks := tk })
    (fin : ∀ I, (∀ p ∈ news, p.1 < I) → ∀ m nw, Inv m₀ I [] m nw → ∀ h tk, Fr h₀ env.locals h m → News h₀ env.locals h nw → Q .next { s with heap := h, toks := tk }) :
    wpAny (model prog w) A (pyIter (.ref ax)) (fun it s₂ => TurnsAt prog w A h₀ env target body Q E it s₂) E s :=
  iter_lst hh F N hm fun I hI => items_ind (Inv := Inv m₀ I) (step I hI) (fin I hI) vs m₀ news (start I hI)
theorem range_ind {I : Addr} {a : Int} {n : Nat} {x : Str} {Inv : Nat → (Str → Option Value) → List (Addr × Obj) → Prop}
    (step : ∀ i m news, i < n → Inv i m news → ∀ t h tk o, Fr h₀ env.locals h (fun y => if y = x then some (.int (a + (i : Int)) t) else m y) → News h₀ env.locals h ((I, o) :: news) →
      wpAny (model prog w) A (execs body env) (UnrPost h₀ env.locals { s with heap := h, toks := tk } I o (Inv (i + 1)) Q) E { s with heap := h, toks := tk })
    (fin : ∀ m news, Inv n m news → ∀ h tk, Fr h₀ env.locals h m → News h₀ env.locals h news → Q .next { s with heap := h, toks := tk }) :
    ∀ m news, Inv 0 m news → RangeRest prog w A E h₀ env x body Q s I a n n 0 m news := by
  have key : ∀ j i m news, i + j = n → Inv i m news → RangeRest prog w A E h₀ env x body Q s I a n j i m news := by
    intro j
    induction j with
    | zero =>
      intro i m news e h
      obtain rfl : i = n := e
      exact RangeRest.zero (fin m news h)
    | succ j ih =>
      intro i m news e h
      refine RangeRest.succ fun t h' tk F N => wpAny_mono (step i m news (by omega) h t h' tk _ F N) (fun f s₃ p => ?_) fun _ _ e => e
      have go : ∀ s₃, UnrEnd h₀ env.locals { s with heap := h', toks := tk } I (itR (a + ((i + 1 : Nat) : Int)) ((n : Int) - ((i + 1 : Nat) : Int))) (Inv (i + 1)) s₃ →
          UnrEnd h₀ env.locals { s with heap := h', toks := tk } I (itR (a + ((i + 1 : Nat) : Int)) ((n : Int) - ((i + 1 : Nat) : Int))) (RangeRest prog w A E h₀ env x body Q s I a n j (i + 1)) s₃ := by
        rintro s₃ ⟨h', tk, m', n', e', F, N, off, r⟩
        exact ⟨h', tk, m', n', e', F, N, off, ih (i + 1) m' n' (by omega) r⟩
      cases f with
      | ret v => exact p
      | brk => exact p
      | next => exact go _ p
      | cont => exact go _ p
  exact fun m news h => key n 0 m news (by omega) h
end
section
variable {prog : Program} {w : World} {A : Around} {h₀ : Heap} {L : Addr} {m : Str → Option Value} {env : Env} {elt : Expr} {x x₂ : Str} {scope : Scope} {cl : List (Str × Addr)} {s : Shared} {S : List (Addr × Obj) → Prop} {P : Nat → Value → Prop} {Fin : List Value → List (Addr × Obj) → Prop} {news : List (Addr × Obj)} {n : Nat}
theorem comp_ind (Inv : Nat → List Value → List (Addr × Obj) → Prop)
    (step : ∀ i ys nw v, i < n → Inv i ys nw → P i v → ∀ I oI C oC D m₂ h tk (E' : Value → Shared → Prop), LCg.NsObj oC m₂ → m₂ x = some v → Fr h₀ L h m → News h₀ L h ((I, oI) :: (C, oC) :: (D, LCg.lst ys) :: nw) → LCg.Off3 I C D nw → ((@Ne Nat I C) ∧ (@Ne Nat I D) ∧ (@Ne Nat C D)) →
      wpAny (model prog w) A (eval elt (compEnvC scope cl C env)) (LCg.CompEnd h₀ L m { s with heap := h, toks := tk } I oI C oC D (LCg.lst ys) S (fun y nw' => Inv (i + 1) (ys ++ [y]) nw')) E' { s with heap := h, toks := tk })
    (start : Inv 0 [] news) (fin : ∀ ys nw, Inv n ys nw → Fin ys nw) : LCg.CompRest prog w A h₀ L m env elt x scope cl s S P Fin n 0 [] news := by
  have key : ∀ j i ys nw, i + j = n → Inv i ys nw → LCg.CompRest prog w A h₀ L m env elt x scope cl s S P Fin j i ys nw := by
    intro j
    induction j with
    | zero =>
      intro i ys nw e h
      obtain rfl : i = n := e
      exact LCg.CompRest.zero (fin ys nw h)
    | succ j ih =>
      intro i ys nw e h
      refine LCg.CompRest.succ fun v I oI C oC D m₂ h' tk E' hv hC hx F N off ne => wpAny_mono (step i ys nw v (by omega) h hv I oI C oC D m₂ h' tk E' hC hx F N off ne) (fun y s₃ p => ?_) fun _ _ e => e
      obtain ⟨h', tk, n', e', F, N, off, hS, r⟩ := p
      exact ⟨h', tk, n', e', F, N, off, hS, ih (i + 1) _ n' (by omega) r⟩
  exact key n 0 [] news (by omega) start
theorem compP_ind (Inv : Nat → List Value → List (Addr × Obj) → Prop)
    (step : ∀ i ys nw v, i < n → Inv i ys nw → P i v → ∃ (t : Addr) (v₁ v₂ : Value), v = .ref t ∧ (t, tup [v₁, v₂]) ∈ nw ∧
      ∀ I oI C oC D m₂ h tk (E' : Value → Shared → Prop), LCg.NsObj oC m₂ → m₂ x = some v₁ → m₂ x₂ = some v₂ → Fr h₀ L h m → News h₀ L h ((I, oI) :: (C, oC) :: (D, LCg.lst ys) :: nw) → LCg.Off3 I C D nw → ((@Ne Nat I C) ∧ (@Ne Nat I D) ∧ (@Ne Nat C D)) →
      wpAny (model prog w) A (eval elt (compEnvC scope cl C env)) (LCg.CompEnd h₀ L m { s with heap := h, toks := tk } I oI C oC D (LCg.lst ys) S (fun y nw' => Inv (i + 1) (ys ++ [y]) nw')) E' { s with heap := h, toks := tk })
    (start : Inv 0 [] news) (fin : ∀ ys nw, Inv n ys nw → Fin ys nw) : PyProof.Rows.LCp.CompRestP prog w A h₀ L m env elt x x₂ scope cl s S P Fin n 0 [] news := by
  have key : ∀ j i ys nw, i + j = n → Inv i ys nw → PyProof.Rows.LCp.CompRestP prog w A h₀ L m env elt x x₂ scope cl s S P Fin j i ys nw := by
    intro j
    induction j with
    | zero =>
      intro i ys nw e h
      obtain rfl : i = n := e
      exact PyProof.Rows.LCp.CompRestP.zero (fin ys nw h)
    | succ j ih =>
      intro i ys nw e h
      refine PyProof.Rows.LCp.CompRestP.succ fun v hv => ?_
      obtain ⟨t, v₁, v₂, rfl, hm, st⟩ := step i ys nw v (by omega) h hv
      refine ⟨t, _, v₁, v₂, _, rfl, hm, rfl, rfl, fun I oI C oC D m₂ h' tk E' hC hx hx2 F N off ne => wpAny_mono (st I oI C oC D m₂ h' tk E' hC hx hx2 F N off ne) (fun y s₃ p => ?_) fun _ _ e => e⟩
      obtain ⟨h', tk, n', e', F, N, off, hS, r⟩ := p
      exact ⟨h', tk, n', e', F, N, off, hS, ih (i + 1) _ n' (by omega) r⟩
  exact key n 0 [] news (by omega) start
end
abbrev kcan (ks : List (Str × Value)) (junk : List Str) (u m₀ : Str → Option Value) : Str → Option Value := kstB (fun z => if junk.contains z then u z else m₀ z) ks
theorem kcan_of {ks : List (Str × Value)} {junk : List Str} {m₀ m' : Str → Option Value} (h1 : ∀ p ∈ ks, m' p.1 = some p.2) (h2 : ∀ z, (∀ p ∈ ks, z ≠ p.1) → junk.contains z = false → m' z = m₀ z) : m' = kcan ks junk m' m₀ :=
  funext fun z => (kstB_eq h1 fun hz => by
    cases c : junk.contains z with
    | true => simp
    | false => simpa using (h2 z hz c).symm).symm
def IsK (ks : List (Str × Value)) (junk : List Str) (m₀ m : Str → Option Value) : Prop := ∃ u, m = kcan ks junk u m₀
theorem isK_of {ks : List (Str × Value)} {junk : List Str} {m₀ m' : Str → Option Value} (h1 : ∀ p ∈ ks, m' p.1 = some p.2) (h2 : ∀ z, (∀ p ∈ ks, z ≠ p.1) → junk.contains z = false → m' z = m₀ z) : IsK ks junk m₀ m' := ⟨m', kcan_of h1 h2⟩


local macro_rules | `(tactic| walk_at "kcan") => `(tactic| (refine isK_of ?kh1 ?kh2; (case kh1 => first | exact List.forall_mem_cons.mpr ⟨rfl, List.forall_mem_nil _⟩ | exact List.forall_mem_cons.mpr ⟨rfl, List.forall_mem_cons.mpr ⟨rfl, List.forall_mem_nil _⟩⟩); (case kh2 => intro z h2 h3; (simp only [List.forall_mem_cons, List.not_mem_nil, false_implies, implies_true, and_true, ne_eq] at h2); (simp only [List.contains_cons, List.contains_nil, Bool.or_false, Bool.or_eq_false_iff, beq_eq_false_iff_ne, ne_eq] at h3); simp [kstB, h2, h3])))

theorem emod_neg {a N : Int} (h1 : -N < a) (h2 : a < 0) : a % N = a + N := by
  rw [← Int.add_emod_right, Int.emod_eq_of_lt (by omega) (by omega)]
theorem sub_rng {p q N : Int} (hN : 5 < N) (p0 : 0 < p) (p1 : p < 6) (q0 : 0 < q) (q1 : q < 6) (ne : q ≠ p) : 0 < (q.fmod N - p).fmod N ∧ (q.fmod N - p).fmod N < N := by
  rw [fmod_id (by omega) (by omega : q < N), Int.fmod_eq_emod_of_nonneg _ (by omega)]
  rcases Int.lt_or_gt_of_ne ne with h | h
  · rw [emod_neg (by omega) (by omega)]; omega
  · rw [Int.emod_eq_of_lt (by omega) (by omega)]; omega
theorem inv_cg {i p q N : Int} (hN : 5 < N) (h : (i * (q.fmod N - p).fmod N) % N = 1) : Cg N (i * (q - p)) 1 := by
  have h0 : 0 < N := by omega
  have c : Cg N ((q.fmod N - p).fmod N) (q - p) := (Cg.fmod h0).trans ((Cg.fmod h0).sub Cg.refl)
  exact ((Cg.refl (a := i)).mul c.symm).trans (Cg.of_emod (by rw [h, Int.emod_eq_of_lt (by decide) (by omega)]))
theorem step_cg {u U q i N : Int} (h0 : 0 < N) (c : Cg N u U) : Cg N (((u * q).fmod N * i).fmod N) (U * q * i) :=
  (Cg.fmod h0).trans (((Cg.fmod h0).trans (c.mul Cg.refl)).mul Cg.refl)
theorem sum_cg {t T u U N : Int} (h0 : 0 < N) (c : Cg N t T) (d : Cg N u U) : Cg N ((t + u).fmod N) (T + U) := (Cg.fmod h0).trans (c.add d)


noncomputable def SharesAt (w : World) (C : Addr) (N : Int) (news : List (Addr × Obj)) : List Value → List (Int × Int) → Prop
  | [], [] => True
  | v :: vs, q :: qs => (∃ s x t, v = .ref s ∧ (s, tup [.int q.1 t, .ref x]) ∈ news ∧ FqAt w C N q.2 news x ∧ 0 ≤ q.2 ∧ q.2 < N ∧ 0 < q.1 ∧ q.1 < 6) ∧ SharesAt w C N news vs qs
  | _, _ => False
abbrev SecO (w : World) (form N : Int) (news : List (Addr × Obj)) (lr : Addr) (vs : List Value) (e : Nat) (sh : List (Int × Int)) (m₀ : Str → Option Value) (I : Addr) (vs' : List Value) (m : Str → Option Value) (nw : List (Addr × Obj)) : Prop :=
  ∃ qs T t dt k1 k2 t1 t2, SharesAt w (clF form) N news vs' qs ∧ IsK [("told", .ref t)] ["place", "value", "other", "more"] m₀ m ∧ nw = (t, instObj (clF form) dt) :: (dt, fqD w.params N T k1 k2 t1 t2) :: (lr, lst vs e) :: news ∧ 0 ≤ T ∧ T < N ∧ Cg N (T + sec N sh qs) (sec N sh sh) ∧ t ≠ I ∧ dt ≠ I ∧ (∀ p ∈ news, p.1 < dt) ∧ dt < t
abbrev SecI (w : World) (form N : Int) (news base : List (Addr × Obj)) (p G : Int) (m₁ : Str → Option Value) (J : Addr) (vs' : List Value) (m : Str → Option Value) (nw : List (Addr × Obj)) : Prop :=
  ∃ qs' W y dy g1 g2 u1 u2, SharesAt w (clF form) N news vs' qs' ∧ IsK [("value", .ref y)] ["other", "more"] m₁ m ∧ nw = (y, instObj (clF form) dy) :: (dy, fqD w.params N W g1 g2 u1 u2) :: base ∧ 0 ≤ W ∧ W < N ∧ Cg N (inn N p qs' W) G ∧ y ≠ J ∧ dy ≠ J
theorem secret_c (w : World) (mean mg mb) (news : List (Addr × Obj)) (e : Nat) (form : Int) (hform : form = 0 ∨ form = 1) (lr : Addr) (vs : List Value) (sh : List (Int × Int)) (N : Int) (tf tN : Tok) (hN : 5 < N) (h1 : N ≤ 127) (pr : Pr N)
    (hl : (lr, lst vs e) ∈ news) (hs : SharesAt w (clF form) N news vs sh) :
    CallC w mean mg mb 435 [.int form tf, .ref lr, .int N tN] 9 news (fun news' r => ∃ y, Cg N y (sec N sh sh) ∧ 0 ≤ y ∧ y < N ∧ FqNew w (clF form) N y news news' r) := by
  intro dp un gd cn cs a ccd cl outer A₀ base h₀ L m s Q E B F X Ns Tp hk hd hu hret
  have h0 : 0 < N := by omega
  have N2 := News.put Ns hl
  clear Ns
  refine wpAny_call ?_
  refine' code_def (binds := [("form", .int form tf), ("shares", .ref lr), ("order", .int N tN)]) ?k1 ?k2 ?k3 ?k4 ?k5 ?kA ?kF ?kK ?k6 ?k7 ?k8 ?k9 ?kB ?_ ?c2 ?c3 ?c4 ?c5
  walk_at "enter"
  walk_at "go"
  refine' CallC.use (lawmade_c w mean mg mb _ form 0 N hform _ _ _ h0 h1) ?B ?F ?X ?N ?T ?hk ?hd ?hu ?_
  walk_at "use"
  intro r h' tk' news' Fx Nx o
  obtain ⟨t0, dt0, k1', k2', t1', t2', rfl, rfl, lt0, mt0⟩ := o
  try k_fold
  walk_at "go"
  (rename Fr _ _ _ _ => Fx); (rename News _ _ _ _ => Nx)
  refine iter_ind rfl Fx Nx mh2 (SecO w form N news lr vs e sh) ?_ ?_ ?_
  · intro I hI
    refine ⟨sh, _, t0, dt0, _, _, _, _, hs, ?_, rfl, (fmod_rng h0).1, (fmod_rng h0).2, (Cg.fmod h0).add Cg.refl |>.trans (Cg.of_eq (Int.zero_add _)), Nat.ne_of_lt (hI _ mh0), Nat.ne_of_lt (hI _ mh1), fun p hp => lt0 p (mem1 _ hp), mt0⟩
    exact isK_of (List.forall_mem_cons.mpr ⟨rfl, List.forall_mem_nil _⟩) (fun _ _ _ => rfl)
  · intro I hI v r m nw inv h tk o Fx Nx
    have hs' := hs
    obtain ⟨qs, T, t, dt, k1, k2, t1, t2, hsh, ⟨u, rfl⟩, rfl, T0, T1, hc, nt, ndt, lt, mt⟩ := inv
    cases qs with
    | nil => exact hsh.elim
    | cons q qs =>
    obtain ⟨p, V⟩ := q
    obtain ⟨⟨sa, x, tp, rfl, ms, ⟨dx, i1, i2, j1, j2, mx, mdx⟩, V0, V1, p0, p1⟩, hr⟩ := hsh
    dsimp only at ms mdx V0 V1 p0 p1 hc
    have N3 := News.put Nx (mem4 ms)
    clear Nx hs hl N2
    try dsimp only [envOf] at N3
    try k_fold
    walk_at "go"
    (rename Fr _ _ _ _ => Fx); (rename News _ _ _ _ => Nx)
    have N4 := News.sub (l' := (x, _) :: (dx, _) :: (I, o) :: (t, _) :: (dt, _) :: (lr, _) :: news) Nx (sub_cons (mem1 _ (mem4 mx)) (sub_cons (mem1 _ (mem4 mdx)) mem1))
    refine iter_ind rfl Fx N4 mh5 (SecI w form N news ((I, o) :: (t, instObj (clF form) dt) :: (dt, fqD w.params N T k1 k2 t1 t2) :: (lr, lst vs e) :: news) p (inn N p sh V)) ?_ ?_ ?_
    · intro J hJ
      exact ⟨sh, V, x, dx, _, _, _, _, hs', isK_of (List.forall_mem_cons.mpr ⟨rfl, List.forall_mem_nil _⟩) (fun _ _ _ => rfl), rfl, V0, V1, Cg.refl, Nat.ne_of_lt (hJ _ mh0), Nat.ne_of_lt (hJ _ mh1)⟩
    · intro J hJ v' r' m nw inv h tk oJ Fx Nx
      obtain ⟨qs', W, y, dy, g1, g2, u1, u2, hsh', ⟨u', rfl⟩, rfl, W0, W1, hw, ny, ndy⟩ := inv
      cases qs' with
      | nil => exact hsh'.elim
      | cons q' qs' =>
      obtain ⟨p', V'⟩ := q'
      obtain ⟨⟨sb, x', tp', rfl, ms', -, -, -, p0', p1'⟩, hr'⟩ := hsh'
      dsimp only at ms' p0' p1' hw
      have N5 := News.put Nx (mem4 (mem3 _ ms'))
      clear Nx N4
      try dsimp only [envOf] at N5
      try k_fold
      walk_at "go"
      · (rename p' ≠ p => hne)
        refine' TreeC.use (opMul w mean mg mb _ form hform y _ N p' _ h0 h1 W0 W1 ⟨dy, _, _, _, _, mh2, mh3⟩) ?B ?F ?X ?N ?T ?hk ?hd ?hu ?_
        walk_at "use"
        intro r h' tk' news' Fx Nx o
        obtain ⟨b1, db1, k1', k2', t1', t2', rfl, rfl, lb1, mb1⟩ := o
        try k_fold
        walk_at "go"
        refine' CallC.use (lawmade_c w mean mg mb _ form p' N hform _ _ _ h0 h1) ?B ?F ?X ?N ?T ?hk ?hd ?hu ?_
        walk_at "use"
        intro r h' tk' news' Fx Nx o
        obtain ⟨c1, dc1, k1', k2', t1', t2', rfl, rfl, lc1, mc1⟩ := o
        try k_fold
        walk_at "go"
        refine' TreeC.use (opSub w mean mg mb _ form hform c1 _ N p _ h0 h1 (fmod_rng h0).1 (fmod_rng h0).2 FqNew.fq) ?B ?F ?X ?N ?T ?hk ?hd ?hu ?_
        walk_at "use"
        intro r h' tk' news' Fx Nx o
        obtain ⟨e1, de1, k1', k2', t1', t2', rfl, rfl, le1, me1⟩ := o
        try k_fold
        walk_at "go"
        refine' TreeC.use (opDiv w mean mg mb _ form hform b1 _ N e1 _ h0 h1 (fmod_rng h0).1 (fmod_rng h0).2 (FqNew.fq.mono (fun _ h => mem2 _ (mem2 _ h))) FqNew.fq (sub_rng hN p0 p1 p0' p1' hne).1 (sub_rng hN p0 p1 p0' p1' hne).2 pr) ?B ?F ?X ?N ?T ?hk ?hd ?hu ?_
        walk_at "use"
        intro r h' tk' news' Fx Nx o
        obtain ⟨i1, ib0, ib1, ie1, g, dg, k1', k2', t1', t2', rfl, rfl, lg, mg1⟩ := o
        try k_fold
        walk_at "go"
        (rename Fr _ _ _ _ => Fx); (rename News _ _ _ _ => Nx)
        have gJ : J < dg := lg _ mh7
        have hw' : Cg N (inn N p qs' (((W * p').fmod N * i1).fmod N)) (inn N p sh V) :=
          (inn_cg qs' ((step_cg h0 (Cg.refl (a := W))).trans (Cg.refl.mul (iv_eq (inv_cg hN ie1))))).trans ((Cg.of_eq (by simp only [inn, if_neg hne])).trans hw)
        refine items_end (n' := (g, _) :: (dg, _) :: (I, o) :: (t, _) :: (dt, _) :: (lr, _) :: news) Fx Nx mh9 (sub_cons mh0 (sub_cons mh1 (fun p h => mem3 _ (mem3 _ (mem3 _ (mem3 _ h)))))) (nes_cons (Nat.ne_of_gt (Nat.lt_trans gJ mg1)) (nes_cons (Nat.ne_of_gt gJ) (fun p hp => Nat.ne_of_lt (hJ p (mem2 _ hp))))) mh5 ⟨qs', _, g, dg, _, _, _, _, hr', ?_, rfl, (fmod_rng h0).1, (fmod_rng h0).2, hw', Nat.ne_of_gt (Nat.lt_trans gJ mg1), Nat.ne_of_gt gJ⟩
        walk_at "kcan"
      · (rename Fr _ _ _ _ => Fx); (rename News _ _ _ _ => Nx); (rename p' = p => he)
        refine items_end (n' := (y, _) :: (dy, _) :: (I, o) :: (t, _) :: (dt, _) :: (lr, _) :: news) Fx Nx mh1 mem2 (nes_cons ny (nes_cons ndy (fun p hp => Nat.ne_of_lt (hJ p (mem2 _ hp))))) mh5 ⟨qs', W, y, dy, _, _, _, _, hr', ?_, rfl, W0, W1, (Cg.of_eq (by simp only [inn, if_pos he])).trans hw, ny, ndy⟩
        walk_at "kcan"
    · intro J hJ m nw inv h tk Fx Nx
      obtain ⟨qs', W, y, dy, g1, g2, u1, u2, hsh', ⟨u', rfl⟩, rfl, W0, W1, hw, ny, ndy⟩ := inv
      cases qs' with
      | cons q qs => exact hsh'.elim
      | nil =>
      clear N4
      try dsimp only [envOf] at Nx
      walk_at "go"
      refine' TreeC.use (opAddF w mean mg mb _ form hform t _ N y _ h0 h1 T0 T1 ⟨dt, _, _, _, _, mh3, mh4⟩ ⟨dy, _, _, _, _, mh0, mh1⟩) ?B ?F ?X ?N ?T ?hk ?hd ?hu ?_
      walk_at "use"
      intro r h' tk' news' Fx Nx o
      obtain ⟨t1, dt1, k1', k2', t1', t2', rfl, rfl, lt1, mt1⟩ := o
      try k_fold
      walk_at "go"
      (rename Fr _ _ _ _ => Fx); (rename News _ _ _ _ => Nx)
      have gI : I < dt1 := lt1 _ mh2
      refine items_end (n' := (t1, _) :: (dt1, _) :: (lr, _) :: news) Fx Nx mh4 (sub_cons mh0 (sub_cons mh1 (fun p h => mem3 _ (mem3 _ (mem1 _ h))))) (nes_cons (Nat.ne_of_gt (Nat.lt_trans gI mt1)) (nes_cons (Nat.ne_of_gt gI) (fun p hp => Nat.ne_of_lt (hI p (mem2 _ hp))))) mh2 ⟨qs, _, t1, dt1, _, _, _, _, hr, ?_, rfl, (fmod_rng h0).1, (fmod_rng h0).2, ((sum_cg h0 Cg.refl hw).add Cg.refl).trans ((Cg.of_eq (Int.add_assoc _ _ _)).trans hc), Nat.ne_of_gt (Nat.lt_trans gI mt1), Nat.ne_of_gt gI, fun p hp => lt1 p (mem3 _ (mem3 _ hp)), mt1⟩
      walk_at "kcan"
  · intro I hI m nw inv h tk Fx Nx
    obtain ⟨qs, T, t, dt, k1, k2, t1, t2, hsh, ⟨u, rfl⟩, rfl, T0, T1, hc, nt, ndt, lt, mt⟩ := inv
    cases qs with
    | cons q qs => exact hsh.elim
    | nil =>
    walk_at "go"
    (rename Fr _ _ _ _ => Fx); (rename News _ _ _ _ => Nx)
    exact hret _ _ _ _ Fx (News.sub (l' := _ :: _ :: news) Nx (sub_cons mh0 (sub_cons mh1 mem3))) ⟨T, (Cg.of_eq (Int.add_zero T).symm).trans hc, T0, T1, FqNew.of lt mt⟩


theorem sub_lst {prog : Program} {w : World} {A : Around} {E : Value → Shared → Prop} {s : Shared} {value slice : Expr} {h₀ : Heap} {L l : Addr} {news : List (Addr × Obj)} {items : List Value} {e : Nat} {k : Int} {u : Tok} {v : Value} {Q : Value → Shared → Prop} (N : News h₀ L s.heap news) (hm : (l, lst items e) ∈ news)
    (h0 : 0 ≤ k) (hhi : k < 2 ^ 63) (hx : items[k.toNat]? = some v) (h : Q v s)
    (hs : subscripted slice false (.ref l) (.int k u) = operate [.ref l, .int k u] (getItem (.ref l) (.int k u)) := by with_unfolding_all rfl) :
    wpAny (model prog w) A (subscriptTail value slice (.ref l) (.int k u)) Q E s :=
  have hL : s.heap.IsList l items.toArray := ⟨_, N.get hm, rfl, _, rfl⟩
  tail_any hL.typeIs slot_list_getitem.lookup (wpAny_getItem_list hL h0 hhi (by simpa using hx) h) hs

noncomputable def PtsAt (T : List (Int × Int)) (N : Int) (news : List (Addr × Obj)) : List Value → List Int → Prop
  | [], [] => True
  | v :: vs, i :: is => (∃ y o, v = .ref y ∧ (y, o) ∈ news ∧ PtO T i o ∧ 0 ≤ i ∧ i < N) ∧ PtsAt T N news vs is
  | _, _ => False
theorem PtsAt.len {T : List (Int × Int)} {N : Int} {news : List (Addr × Obj)} : ∀ {vs : List Value} {is : List Int}, PtsAt T N news vs is → vs.length = is.length
  | [], [], _ => rfl
  | _ :: vs, _ :: is, h => congrArg (· + 1) (PtsAt.len h.2)
  | [], _ :: _, h => h.elim
  | _ :: _, [], h => h.elim
theorem PtsAt.at {T : List (Int × Int)} {N : Int} {news : List (Addr × Obj)} : ∀ {vs : List Value} {is : List Int} (k : Nat), PtsAt T N news vs is → k < is.length → ∃ y o i, vs[k]? = some (.ref y) ∧ (y, o) ∈ news ∧ PtO T i o ∧ 0 ≤ i ∧ i < N ∧ is.drop k = i :: is.drop (k + 1)
  | [], [], k, _, hk => absurd hk (Nat.not_lt_zero _)
  | _ :: vs, i :: is, 0, h, _ => by
    obtain ⟨⟨y, o, rfl, a, b, c, d⟩, _⟩ := h
    exact ⟨y, o, i, rfl, a, b, c, d, rfl⟩
  | _ :: vs, _ :: is, k + 1, h, hk => PtsAt.at (vs := vs) (is := is) k h.2 (Nat.lt_of_succ_lt_succ hk)
  | [], _ :: _, _, h, _ => h.elim
  | _ :: _, [], _, h, _ => h.elim
theorem allLt_mem {d : Addr} : ∀ {l : List (Addr × Obj)}, AllLt d l → ∀ p ∈ l, p.1 < d
  | [], _, _, h => nomatch h
  | _ :: _, x, p, h => by
    rcases List.mem_cons.mp h with rfl | h
    · exact x.1
    · exact allLt_mem x.2 p h
theorem sh_step {N t i r p E G : Int} {k : Nat} (hr : Cg N r (p ^ k)) (h : Cg N (t + (E * p + i) * p ^ k) G) : Cg N ((t + i * r % N) % N + E * p ^ (k + 1)) G := by
  have a : Cg N ((t + i * r % N) % N) (t + i * p ^ k) := Cg.emod.trans (Cg.refl.add (Cg.emod.trans (Cg.refl.mul hr)))
  exact (a.add Cg.refl).trans ((Cg.of_eq (by rw [Int.pow_succ]; grind)).trans h)
section
variable {c : Cv} {T : List (Int × Int)}
abbrev ShO (T : List (Int × Int)) (N : Int) (news : List (Addr × Obj)) (lr : Addr) (vs : List Value) (e : Nat) (is : List Int) (p : Int) (m₀ : Str → Option Value) (I : Addr) (k : Nat) (m : Str → Option Value) (nw : List (Addr × Obj)) : Prop :=
  ∃ t a o, IsK [("told", .ref a)] ["k"] m₀ m ∧ nw = (a, o) :: (lr, lst vs e) :: news ∧ PtO T t o ∧ 0 ≤ t ∧ t < N ∧ Cg N (t + ev (is.drop k) p * p ^ k) (ev is p) ∧ a ≠ I ∧ (∀ q ∈ news, q.1 < a)
theorem shown_c (w : World) (mean mg mb) (news : List (Addr × Obj)) (e : Nat) (lr ca : Addr) (vs : List Value) (is : List Int) (p : Int) (tp tN t1 t2 t3 t4 t5 t6 : Tok) (G : Good c T) (hlen : is.length ≤ 3)
    (hl : (lr, lst vs e) ∈ news) (hs : PtsAt T c.N news vs is) (hc : (ca, crv c t1 t2 t3 t4 t5 t6) ∈ news) (p0 : 0 < p) (p1 : p < 6) :
    CallC w mean mg mb 428 [.ref lr, .int p tp, .int c.N tN, .ref ca] 15 news (fun news' r => ∃ q o, r = .ref q ∧ news' = (q, o) :: news ∧ PtO T (ev is p % c.N) o ∧ ∀ p ∈ news, p.1 < q) := by
  intro dp un gd cn cs a ccd cl outer A₀ base h₀ L m s Q E B F X Ns Tp hk hd hu hret
  have N2 := News.put Ns hl
  clear Ns
  refine wpAny_call ?_
  refine' code_def (binds := [("shown", .ref lr), ("place", .int p tp), ("order", .int c.N tN), ("curve", .ref ca)]) ?k1 ?k2 ?k3 ?k4 ?k5 ?kA ?kF ?kK ?k6 ?k7 ?k8 ?k9 ?kB ?_ ?c2 ?c3 ?c4 ?c5
  walk_at "enter"
  walk_at "go"
  have hvl := hs.len
  (rename News _ _ _ _ => Nx)
  refine kun_lenL (items := vs.toArray) (k := (vs.length : Int)) (News.isList Nx mh1) (by simp) (by omega) ?_
  try k_fold
  walk_at "go"
  (rename Fr _ _ _ _ => Fx); (rename News _ _ _ _ => Nx); (rename IsRange _ _ _ _ _ _ _ _ => hr); (rename _ ∧ AllLt _ news => hlt)
  refine iter_rangeUnr (n := vs.length) rfl hr (small_one (by omega) (by omega) (by omega) (by omega)) (rangeSize_nat _ _) Fx Nx ?_
  intro I hI
  have hlt' := allLt_mem hlt.2
  refine range_ind (Inv := ShO T c.N news lr vs e is p _ I) ?_ ?_ _ _ ⟨0, _, _, isK_of (List.forall_mem_cons.mpr ⟨rfl, List.forall_mem_nil _⟩) (fun _ _ _ => rfl), rfl, ⟨_, _, by rw [G.zero]⟩, Int.le_refl _, by have := G.ok.n1; omega, Cg.of_eq (by rw [List.drop_zero]; simp), Nat.ne_of_lt (hI _ mh0), hlt'⟩
  · intro k m nw hk3 inv tk' h tk o Fx Nx
    obtain ⟨t, a, oa, ⟨u, rfl⟩, rfl, hpt, t0, t1', hcg, na, la⟩ := inv
    obtain ⟨y, oy, i, hx, my, hpy, i0, i1, hdrop⟩ := hs.at k (by omega)
    have hm : ∀ a : Int, 0 ≤ a % c.N ∧ a % c.N < c.N := fun a => ⟨Int.emod_nonneg _ (by have := G.ok.n1; omega), Int.emod_lt_of_pos _ (by have := G.ok.n1; omega)⟩
    have hpt' := hpt
    obtain ⟨ta, tb, rfl⟩ := hpt'
    try dsimp only [envOf] at Nx
    try k_fold
    walk_at "go"
    (rename News _ _ _ _ => Nx)
    refine sub_lst Nx mh2 (by omega) (by omega) (by rw [Int.zero_add]; exact hx) ?_
    try k_fold
    walk_at "go"
    (rename Eqn _ (Int.fmod _ _) => he0); (rename (0 : Int) ≤ _ => hb0); (rename _ < c.N => hc0)
    have he1 : Cg c.N _ (p ^ k) := (Cg.of_eq he0.eq).trans ((Cg.fmod (by have := G.ok.n1; omega)).trans (Cg.of_eq (by rw [show (0 + (k : Int)).toNat = k by omega])))
    refine' CallC.use (mul_c w mean mg mb _ y ca _ i _ _ _ _ _ _ _ _ (mem3 _ my) (mem3 _ hc) G i0 i1 hpy hb0 hc0) ?B ?F ?X ?N ?T ?hk ?hd ?hu ?_
    walk_at "use"
    intro r h' tk' news' Fx Nx oo
    obtain ⟨q0, v0, rfl, rfl, pm0, lm0⟩ := oo
    try k_fold
    walk_at "go"
    refine' CallC.use (padd_c w mean mg mb _ a q0 ca _ _ t _ _ _ _ _ _ _ mh2 mh0 (mem4 hc) G t0 t1' (hm _).1 (hm _).2 hpt pm0) ?B ?F ?X ?N ?T ?hk ?hd ?hu ?_
    walk_at "use"
    intro r h' tk' news' Fx Nx oo
    obtain ⟨a0, w0, rfl, rfl, pa0, la0⟩ := oo
    have pb := pa0
    obtain ⟨ua, ub, rfl⟩ := pb
    try k_fold
    walk_at "go"
    (rename Fr _ _ _ _ => Fx); (rename News _ _ _ _ => Nx)
    have gI : I < a0 := la0 _ mh1
    have hcg' := sh_step he1 (by rw [hdrop] at hcg; exact hcg)
    refine UnrEnd.intro Fx Nx ((a0, _) :: (lr, _) :: news) (sub_cons mh2 (sub_cons mh0 (fun p h => mem4 h))) (nes_cons (Nat.ne_of_gt gI) (fun p hp => Nat.ne_of_lt (hI p (mem1 _ hp)))) ⟨_, a0, _, ?_, rfl, pa0, (hm _).1, (hm _).2, hcg', Nat.ne_of_gt gI, fun q hq => la0 q (mem4 hq)⟩
    walk_at "kcan"
  · intro m nw inv h tk Fx Nx
    obtain ⟨t, a, oa, ⟨u, rfl⟩, rfl, hpt, t0, t1', hcg, na, la⟩ := inv
    walk_at "go"
    (rename Fr _ _ _ _ => Fx); (rename News _ _ _ _ => Nx)
    refine hret _ _ _ _ Fx (News.sub (l' := _ :: news) Nx (sub_cons mh0 mem2)) ⟨_, _, rfl, rfl, ?_, la⟩
    have e1 : Cg c.N t (ev is p) := (Cg.of_eq (by rw [hvl, List.drop_length]; simp [ev])).trans hcg
    rw [← e1.emod_eq, Int.emod_eq_of_lt t0 t1']
    exact hpt
end



theorem opN_a (w : World) (mean mg mb) (news : List (Addr × Obj)) (x : Addr) (v N : Int) (b : Bool) (hx : FqAt w 227 N v news x) :
    TreeC w mean mg mb (getAttr (.ref x) (PySem.Str.ofString "n") b) 1 news (fun news' r => news' = news ∧ ∃ t, r = .int v t) := by
  intro dp un gd cn cs a ccd cl outer A₀ base h₀ L m s Q E B F X Ns Tp hk hd hu hret
  obtain ⟨dx, k1, k2, t1, t2, m1, m2⟩ := hx
  have N2 := News.put (News.put Ns m2) (.tail _ m1)
  walk_at "getAttr ref"
  exact hret _ _ _ _ F Ns ⟨rfl, _, rfl⟩

theorem opN_b (w : World) (mean mg mb) (news : List (Addr × Obj)) (x : Addr) (v N : Int) (b : Bool) (hx : FqAt w 389 N v news x) :
    TreeC w mean mg mb (getAttr (.ref x) (PySem.Str.ofString "n") b) 1 news (fun news' r => news' = news ∧ ∃ t, r = .int v t) := by
  intro dp un gd cn cs a ccd cl outer A₀ base h₀ L m s Q E B F X Ns Tp hk hd hu hret
  obtain ⟨dx, k1, k2, t1, t2, m1, m2⟩ := hx
  have N2 := News.put (News.put Ns m2) (.tail _ m1)
  walk_at "getAttr ref"
  exact hret _ _ _ _ F Ns ⟨rfl, _, rfl⟩

theorem opN (w : World) (mean mg mb) (news : List (Addr × Obj)) (form : Int) (hform : form = 0 ∨ form = 1) (x : Addr) (v N : Int) (b : Bool) (hx : FqAt w (clF form) N v news x) :
    TreeC w mean mg mb (getAttr (.ref x) (PySem.Str.ofString "n") b) 1 news (fun news' r => news' = news ∧ ∃ t, r = .int v t) := by
  rcases hform with rfl | rfl
  · exact opN_a w mean mg mb news x v N b hx
  · exact opN_b w mean mg mb news x v N b hx

section
variable {c : Cv} {T : List (Int × Int)}
theorem pt_inj (G : Good c T) {i j : Int} (i0 : 0 ≤ i) (i1 : i < c.N) (j0 : 0 ≤ j) (j1 : j < c.N) (h : pt T i = pt T j) : i = j := by
  by_cases qi : i = 0
  · by_cases qj : j = 0
    · omega
    · have r := G.rng j (by omega) j1
      rw [← h, qi, G.zero] at r
      exact absurd r.2.2.1 (by decide)
  · by_cases qj : j = 0
    · have r := G.rng i (by omega) i1
      rw [h, qj, G.zero] at r
      exact absurd r.2.2.1 (by decide)
    · exact G.inj i j (by omega) i1 (by omega) j1 h
theorem eqv_pt (G : Good c T) {i j : Int} (i0 : 0 ≤ i) (i1 : i < c.N) (j0 : 0 ≤ j) (j1 : j < c.N) :
    PyData.eqv (.tuple [.int (pt T i).1, .int (pt T i).2]) (.tuple [.int (pt T j).1, .int (pt T j).2]) = decide (i = j) := by
  simp only [PyData.eqv, PyData.eqvAll, Bool.and_true]
  by_cases h : i = j
  · subst h; simp
  · rw [decide_eq_false h, Bool.and_eq_false_iff]
    by_cases hx : (pt T i).1 = (pt T j).1
    · right
      have : (pt T i).2 ≠ (pt T j).2 := fun hy => h (pt_inj G i0 i1 j0 j1 (Prod.ext hx hy))
      simpa using this
    · left
      simpa using hx
theorem opPtNe (w : World) (mean mg mb) (news : List (Addr × Obj)) (p q : Addr) (o1 o2 : Obj) (i j : Int) (G : Good c T) (hp : (p, o1) ∈ news) (hq : (q, o2) ∈ news) (ho1 : PtO T i o1) (ho2 : PtO T j o2)
    (i0 : 0 ≤ i) (i1 : i < c.N) (j0 : 0 ≤ j) (j1 : j < c.N) :
    TreeC w mean mg mb (compareOp .NotEq (.ref p) (.ref q)) 9 news (fun news' r => news' = news ∧ r = .bool (!decide (i = j))) := by
  intro dp un gd cn cs a ccd cl outer A₀ base h₀ L m s Q E B F X Ns Tp hk hd hu hret
  obtain ⟨a1, a2, rfl⟩ := ho1
  obtain ⟨b1, b2, rfl⟩ := ho2
  refine ne_dataH (reads_tuple_at (Ns.get hp) rfl rfl (ReadsAll.cons (Reads.int _ _) (ReadsAll.cons (Reads.int _ _) ReadsAll.nil))) (reads_tuple_at (Ns.get hq) rfl rfl (ReadsAll.cons (Reads.int _ _) (ReadsAll.cons (Reads.int _ _) ReadsAll.nil))) (by rfl) (by rfl) (by have hcL9 := cLine_is; dsimp only [ktrTop]; omega) ?_
  rw [eqv_pt G i0 i1 j0 j1]
  exact hret _ _ _ _ F Ns ⟨rfl, rfl⟩
theorem opPtEq (w : World) (mean mg mb) (news : List (Addr × Obj)) (p q : Addr) (o1 o2 : Obj) (i j : Int) (G : Good c T) (hp : (p, o1) ∈ news) (hq : (q, o2) ∈ news) (ho1 : PtO T i o1) (ho2 : PtO T j o2)
    (i0 : 0 ≤ i) (i1 : i < c.N) (j0 : 0 ≤ j) (j1 : j < c.N) :
    TreeC w mean mg mb (compareOp .Eq (.ref p) (.ref q)) 9 news (fun news' r => news' = news ∧ r = .bool (decide (i = j))) := by
  intro dp un gd cn cs a ccd cl outer A₀ base h₀ L m s Q E B F X Ns Tp hk hd hu hret
  obtain ⟨a1, a2, rfl⟩ := ho1
  obtain ⟨b1, b2, rfl⟩ := ho2
  refine eq_dataH (reads_tuple_at (Ns.get hp) rfl rfl (ReadsAll.cons (Reads.int _ _) (ReadsAll.cons (Reads.int _ _) ReadsAll.nil))) (reads_tuple_at (Ns.get hq) rfl rfl (ReadsAll.cons (Reads.int _ _) (ReadsAll.cons (Reads.int _ _) ReadsAll.nil))) (by rfl) (by rfl) (by have hcL9 := cLine_is; dsimp only [ktrTop]; omega) ?_
  rw [eqv_pt G i0 i1 j0 j1]
  exact hret _ _ _ _ F Ns ⟨rfl, rfl⟩
end

section
variable {w : World} {mean : ExcName → Option Value} {mg mb : Str → Option Value} {f : Addr} {vs : List Value} {sz : Nat} {news : List (Addr × Obj)} {Out Out' : List (Addr × Obj) → Value → Prop}
theorem CallC.mono (C : CallC w mean mg mb f vs sz news Out) (h : ∀ n r, Out n r → Out' n r) : CallC w mean mg mb f vs sz news Out' :=
  fun _ _ _ _ _ _ _ _ _ _ _ _ _ _ _ _ _ B F X N T hk hd hu ret => C _ _ _ _ _ _ _ _ _ _ _ _ _ _ _ _ _ B F X N T hk hd hu fun r h' tk' n F N o => ret r h' tk' n F N (h _ _ o)
end
theorem lawmade_e (w : World) (mean mg mb) (news : List (Addr × Obj)) (form v N : Int) (hform : form = 0 ∨ form = 1) (tf tv tN : Tok) (h0 : 0 < N) (h1 : N ≤ 127) :
    CallC w mean mg mb 414 [.int form tf, .int v tv, .int N tN] 3 news (fun news' r => ∃ c, 0 ≤ c ∧ c < N ∧ FqNew w (clF form) N c news news' r) :=
  CallC.mono (lawmade_c w mean mg mb news form v N hform tf tv tN h0 h1) fun _ _ o => ⟨_, (fmod_rng h0).1, (fmod_rng h0).2, o⟩
/-- the rows of a polynomial -/
noncomputable def RowsAt (w : World) (C : Addr) (N : Int) (l : List (Addr × Obj)) : List Value → List Int → Prop
  | [], [] => True
  | v :: vs, c :: cs => (∃ x, v = .ref x ∧ FqAt w C N c l x ∧ 0 ≤ c ∧ c < N) ∧ RowsAt w C N l vs cs
  | _, _ => False
theorem RowsAt.mono {w : World} {C : Addr} {N : Int} {l l' : List (Addr × Obj)} (hs : ∀ p ∈ l, p ∈ l') : ∀ {vs : List Value} {cs : List Int}, RowsAt w C N l vs cs → RowsAt w C N l' vs cs
  | [], [], _ => trivial
  | _ :: _, _ :: _, ⟨⟨x, a, b, c⟩, r⟩ => ⟨⟨x, a, b.mono hs, c⟩, RowsAt.mono hs r⟩
  | [], _ :: _, h => h.elim
  | _ :: _, [], h => h.elim
theorem RowsAt.len {w : World} {C : Addr} {N : Int} {l : List (Addr × Obj)} : ∀ {vs : List Value} {cs : List Int}, RowsAt w C N l vs cs → vs.length = cs.length
  | [], [], _ => rfl
  | _ :: _, _ :: _, h => congrArg (· + 1) (RowsAt.len h.2)
  | [], _ :: _, h => h.elim
  | _ :: _, [], h => h.elim
theorem RowsAt.snoc {w : World} {C : Addr} {N : Int} {l : List (Addr × Obj)} {x : Addr} {c : Int} (hx : FqAt w C N c l x) (c0 : 0 ≤ c) (c1 : c < N) : ∀ {vs : List Value} {cs : List Int}, RowsAt w C N l vs cs → RowsAt w C N l (vs ++ [.ref x]) (cs ++ [c])
  | [], [], _ => ⟨⟨x, rfl, hx, c0, c1⟩, trivial⟩
  | _ :: _, _ :: _, ⟨a, r⟩ => ⟨a, RowsAt.snoc hx c0 c1 r⟩
  | [], _ :: _, h => h.elim
  | _ :: _, [], h => h.elim
theorem RowsAt.at {w : World} {C : Addr} {N : Int} {l : List (Addr × Obj)} : ∀ {vs : List Value} {cs : List Int} (k : Nat) {v : Value}, RowsAt w C N l vs cs → vs[k]? = some v → ∃ x c, v = .ref x ∧ FqAt w C N c l x ∧ 0 ≤ c ∧ c < N ∧ cs[k]? = some c
  | _ :: _, c :: _, 0, v, h, e => by
    obtain ⟨⟨x, rfl, a, b, d⟩, _⟩ := h
    obtain rfl : .ref x = v := Option.some.inj e
    exact ⟨x, c, rfl, a, b, d, rfl⟩
  | _ :: vs, _ :: cs, k + 1, v, h, e => RowsAt.at (vs := vs) (cs := cs) k h.2 e
  | [], _, _, _, _, e => nomatch e
  | _ :: _, [], _, _, h, _ => h.elim
theorem value_c (w : World) (mean mg mb) (news : List (Addr × Obj)) (e : Nat) (form : Int) (hform : form = 0 ∨ form = 1) (lr : Addr) (vs : List Value) (cs : List Int) (N p : Int) (tp : Tok) (h0 : 0 < N) (h1 : N ≤ 127) (hn : cs.length = 2 ∨ cs.length = 3)
    (hl : (lr, lst vs e) ∈ news) (hr : RowsAt w (clF form) N news vs cs) :
    CallC w mean mg mb 421 [.ref lr, .int p tp] 8 news (fun news' r => ∃ X, Cg N X (ev cs p) ∧ 0 ≤ X ∧ X < N ∧ FqNew w (clF form) N X news news' r) := by
  match cs, vs, hr, hn with
  | [c0, c1], [v0, v1], ⟨⟨x0, e0, a0, b0, d0⟩, ⟨x1, e1, a1, b1, d1⟩, _⟩, _ =>
    subst e0 e1
    exact CallC.mono (value2_c w mean mg mb news e form hform lr x0 x1 c0 c1 N p tp h0 h1 hl a0 a1 b0 d0 b1 d1) fun _ _ o => ⟨_, (val2 h0).trans (Cg.of_eq (by simp [ev])), (fmod_rng h0).1, (fmod_rng h0).2, o⟩
  | [c0, c1, c2], [v0, v1, v2], ⟨⟨x0, e0, a0, b0, d0⟩, ⟨x1, e1, a1, b1, d1⟩, ⟨x2, e2, a2, b2, d2⟩, _⟩, _ =>
    subst e0 e1 e2
    exact CallC.mono (value3_c w mean mg mb news e form hform lr x0 x1 x2 c0 c1 c2 N p tp h0 h1 hl a0 a1 a2 b0 d0 b1 d1 b2 d2) fun _ _ o => ⟨_, (val3 h0).trans (Cg.of_eq (by simp [ev])), (fmod_rng h0).1, (fmod_rng h0).2, o⟩
  | [], _, _, h => exact absurd h (by simp)
  | [_], _, _, h => exact absurd h (by simp)
  | _ :: _ :: _ :: _ :: _, _, _, h => exact absurd h (by simp)
  | [_, _], [], h, _ => exact h.elim
  | [_, _], [_], h, _ => exact h.2.elim
  | [_, _], _ :: _ :: _ :: _, h, _ => exact h.2.2.elim
  | [_, _, _], [], h, _ => exact h.elim
  | [_, _, _], [_], h, _ => exact h.2.elim
  | [_, _, _], [_, _], h, _ => exact h.2.2.elim
  | [_, _, _], _ :: _ :: _ :: _ :: _, h, _ => exact h.2.2.2.elim
section
variable {w : World} {C : Addr} {N : Int} {l l' : List (Addr × Obj)}
theorem SharesAt.mono (hs : ∀ p ∈ l, p ∈ l') : ∀ {vs : List Value} {sh : List (Int × Int)}, SharesAt w C N l vs sh → SharesAt w C N l' vs sh
  | [], [], _ => trivial
  | _ :: _, _ :: _, ⟨⟨s, x, t, a, b, c, d⟩, r⟩ => ⟨⟨s, x, t, a, hs _ b, c.mono hs, d⟩, SharesAt.mono hs r⟩
  | [], _ :: _, h => h.elim
  | _ :: _, [], h => h.elim
theorem SharesAt.len : ∀ {vs : List Value} {sh : List (Int × Int)}, SharesAt w C N l vs sh → vs.length = sh.length
  | [], [], _ => rfl
  | _ :: _, _ :: _, h => congrArg (· + 1) (SharesAt.len h.2)
  | [], _ :: _, h => h.elim
  | _ :: _, [], h => h.elim
theorem SharesAt.snoc {s x : Addr} {t : Tok} {p X : Int} (hs : (s, tup [.int p t, .ref x]) ∈ l) (hx : FqAt w C N X l x) (X0 : 0 ≤ X) (X1 : X < N) (p0 : 0 < p) (p1 : p < 6) : ∀ {vs : List Value} {sh : List (Int × Int)}, SharesAt w C N l vs sh → SharesAt w C N l (vs ++ [.ref s]) (sh ++ [(p, X)])
  | [], [], _ => ⟨⟨s, x, t, rfl, hs, hx, X0, X1, p0, p1⟩, trivial⟩
  | _ :: _, _ :: _, ⟨a, r⟩ => ⟨a, SharesAt.snoc hs hx X0 X1 p0 p1 r⟩
  | [], _ :: _, h => h.elim
  | _ :: _, [], h => h.elim
theorem SharesAt.at : ∀ {vs : List Value} {sh : List (Int × Int)} (k : Nat), SharesAt w C N l vs sh → k < sh.length → ∃ s x t q, vs[k]? = some (.ref s) ∧ sh[k]? = some q ∧ (s, tup [.int q.1 t, .ref x]) ∈ l ∧ FqAt w C N q.2 l x ∧ 0 ≤ q.2 ∧ q.2 < N ∧ 0 < q.1 ∧ q.1 < 6
  | _ :: _, q :: _, 0, ⟨⟨s, x, t, a, b, c, d⟩, _⟩, _ => ⟨s, x, t, q, by rw [a]; rfl, rfl, b, c, d⟩
  | _ :: vs, _ :: sh, k + 1, h, hk => SharesAt.at (vs := vs) (sh := sh) k h.2 (Nat.lt_of_succ_lt_succ hk)
  | _, [], _, _, hk => absurd hk (Nat.not_lt_zero _)
  | [], _ :: _, _, h, _ => h.elim
theorem PtsAt.mono {T : List (Int × Int)} (hs : ∀ p ∈ l, p ∈ l') : ∀ {vs : List Value} {is : List Int}, PtsAt T N l vs is → PtsAt T N l' vs is
  | [], [], _ => trivial
  | _ :: _, _ :: _, ⟨⟨y, o, a, b, c⟩, r⟩ => ⟨⟨y, o, a, hs _ b, c⟩, PtsAt.mono hs r⟩
  | [], _ :: _, h => h.elim
  | _ :: _, [], h => h.elim
theorem PtsAt.snoc {T : List (Int × Int)} {y : Addr} {o : Obj} {i : Int} (hy : (y, o) ∈ l) (ho : PtO T i o) (i0 : 0 ≤ i) (i1 : i < N) : ∀ {vs : List Value} {is : List Int}, PtsAt T N l vs is → PtsAt T N l (vs ++ [.ref y]) (is ++ [i])
  | [], [], _ => ⟨⟨y, o, rfl, hy, ho, i0, i1⟩, trivial⟩
  | _ :: _, _ :: _, ⟨a, r⟩ => ⟨a, PtsAt.snoc hy ho i0 i1 r⟩
  | [], _ :: _, h => h.elim
  | _ :: _, [], h => h.elim
end
noncomputable def plF (ns : List Int) (i : Int) : Int := 1 + ((atF ns 5).fmod 5 + i * (1 + (atF ns 6).fmod 4)).fmod 5
theorem pl_eq {ns : List Int} {f s i m r : Int} (hf : Eqn f ((atF ns 5).fmod 5)) (hs : Eqn s ((atF ns 6).fmod 4)) (hm : Eqn m (i * (1 + s))) (hr : Eqn r ((f + m).fmod 5)) : 1 + r = plF ns i := by
  simp only [Eqn] at *
  subst hf hs hm hr
  rfl
theorem pl_rng (ns : List Int) (i : Int) : 0 < plF ns i ∧ plF ns i < 6 := by
  have := fmod_rng (P := 5) (a := (atF ns 5).fmod 5 + i * (1 + (atF ns 6).fmod 4)) (by decide)
  unfold plF; omega
theorem pl_ne (ns : List Int) {i j : Int} (i0 : 0 ≤ i) (i1 : i < 3) (j0 : 0 ≤ j) (j1 : j < 3) (h : i ≠ j) : plF ns i ≠ plF ns j := by
  unfold plF
  have f := fmod_rng (P := 5) (a := atF ns 5) (by decide)
  have s := fmod_rng (P := 4) (a := atF ns 6) (by decide)
  generalize (atF ns 5).fmod 5 = a at *
  generalize (atF ns 6).fmod 4 = b at *
  rw [Int.fmod_eq_emod_of_nonneg _ (by decide), Int.fmod_eq_emod_of_nonneg _ (by decide)]
  have hi : i = 0 ∨ i = 1 ∨ i = 2 := by omega
  have hj : j = 0 ∨ j = 1 ∨ j = 2 := by omega
  rcases hi with rfl | rfl | rfl <;> rcases hj with rfl | rfl | rfl <;> omega
/-- the shares stand at their places; the k-th is greater by K k times m -/
def ShOk (ns cs : List Int) (N m : Int) (K : Nat → Int) (sh : List (Int × Int)) : Prop := ∀ (j : Nat) (q : Int × Int), sh[j]? = some q → q.1 = plF ns (0 + (j : Int)) ∧ Cg N q.2 (ev cs q.1 + K j * m)
theorem ShOk.snoc {ns cs : List Int} {N m p X : Int} {K : Nat → Int} {sh : List (Int × Int)} (h : ShOk ns cs N m K sh) (hp : p = plF ns (0 + ((sh.length : Nat) : Int))) (hX : Cg N X (ev cs p + K sh.length * m)) : ShOk ns cs N m K (sh ++ [(p, X)]) := by
  intro j q hq
  rcases Nat.lt_trichotomy j sh.length with h1 | h1 | h1
  · rw [List.getElem?_append_left h1] at hq; exact h j q hq
  · subst h1
    rw [List.getElem?_append_right (Nat.le_refl _), Nat.sub_self] at hq
    obtain rfl : (p, X) = q := Option.some.inj hq
    exact ⟨hp, hX⟩
  · rw [List.getElem?_eq_none (by simp; omega)] at hq; cases hq
theorem right_g {N y : Int} {ns cs : List Int} {c0 : Int} {sh : List (Int × Int)} (prN : Pr N) (hN : 5 < N) (hn : cs.length = 2 ∨ cs.length = 3) (hl : sh.length = cs.length) (h : ShOk ns cs N 0 (fun _ => 0) sh) (hy : Cg N y (sec N sh sh)) (hc : cs[0]? = some c0) (y0 : 0 ≤ y) (y1 : y < N) (c00 : 0 ≤ c0) (c01 : c0 < N) : y = c0 := by
  have n01 := pl_ne ns (i := 0 + ((0 : Nat) : Int)) (j := 0 + ((1 : Nat) : Int)) (by decide) (by decide) (by decide) (by decide) (by decide)
  have n02 := pl_ne ns (i := 0 + ((0 : Nat) : Int)) (j := 0 + ((2 : Nat) : Int)) (by decide) (by decide) (by decide) (by decide) (by decide)
  have n12 := pl_ne ns (i := 0 + ((1 : Nat) : Int)) (j := 0 + ((2 : Nat) : Int)) (by decide) (by decide) (by decide) (by decide) (by decide)
  match cs, sh, hn, hl with
  | [a0, a1], [(p, u), (q, v)], _, _ =>
    obtain rfl : a0 = c0 := Option.some.inj hc
    obtain ⟨e0, h0⟩ := h 0 _ rfl
    obtain ⟨e1, h1⟩ := h 1 _ rfl
    dsimp only at e0 e1 h0 h1
    subst e0 e1
    have r0 := pl_rng ns (0 + ((0 : Nat) : Int))
    have r1 := pl_rng ns (0 + ((1 : Nat) : Int))
    rw [sec2 n01] at hy
    exact right2 (c0 := a0) (c1 := a1) prN hN r0.1 r0.2 r1.1 r1.2 n01 (iv_sub prN hN r0.1 r0.2 r1.1 r1.2 n01) (iv_sub prN hN r1.1 r1.2 r0.1 r0.2 n01.symm) hy (h0.trans (Cg.of_eq (by simp [ev]))) (h1.trans (Cg.of_eq (by simp [ev]))) y0 y1 c00 c01
  | [a0, a1, a2], [(p, u), (q, v), (s, z)], _, _ =>
    obtain rfl : a0 = c0 := Option.some.inj hc
    obtain ⟨e0, h0⟩ := h 0 _ rfl
    obtain ⟨e1, h1⟩ := h 1 _ rfl
    obtain ⟨e2, h2⟩ := h 2 _ rfl
    dsimp only at e0 e1 e2 h0 h1 h2
    subst e0 e1 e2
    have r0 := pl_rng ns (0 + ((0 : Nat) : Int))
    have r1 := pl_rng ns (0 + ((1 : Nat) : Int))
    have r2 := pl_rng ns (0 + ((2 : Nat) : Int))
    rw [sec3 n01 n02 n12] at hy
    exact right3 (c0 := a0) (c1 := a1) (c2 := a2) prN hN r0.1 r0.2 r1.1 r1.2 r2.1 r2.2 n01 n02 n12 (iv_sub prN hN r0.1 r0.2 r1.1 r1.2 n01) (iv_sub prN hN r0.1 r0.2 r2.1 r2.2 n02) (iv_sub prN hN r1.1 r1.2 r0.1 r0.2 n01.symm) (iv_sub prN hN r1.1 r1.2 r2.1 r2.2 n12) (iv_sub prN hN r2.1 r2.2 r0.1 r0.2 n02.symm) (iv_sub prN hN r2.1 r2.2 r1.1 r1.2 n12.symm) hy (h0.trans (Cg.of_eq (by simp [ev]))) (h1.trans (Cg.of_eq (by simp [ev]))) (h2.trans (Cg.of_eq (by simp [ev]))) y0 y1 c00 c01
  | [], _, h, _ => exact absurd h (by simp)
  | [_], _, h, _ => exact absurd h (by simp)
  | _ :: _ :: _ :: _ :: _, _, h, _ => exact absurd h (by simp)
theorem wrong_g {N y m : Int} {ns cs : List Int} {c0 : Int} {k : Nat} {sh : List (Int × Int)} (prN : Pr N) (hN : 5 < N) (hn : cs.length = 2 ∨ cs.length = 3) (hl : sh.length = cs.length) (h : ShOk ns cs N m (fun j => if plF ns (0 + (j : Int)) = plF ns (0 + (k : Int)) then 1 else 0) sh) (hk : k < cs.length) (hy : Cg N y (sec N sh sh)) (hc : cs[0]? = some c0) (m0 : 0 < m) (m1 : m < N) : y ≠ c0 := by
  have n01 := pl_ne ns (i := 0 + ((0 : Nat) : Int)) (j := 0 + ((1 : Nat) : Int)) (by decide) (by decide) (by decide) (by decide) (by decide)
  have n02 := pl_ne ns (i := 0 + ((0 : Nat) : Int)) (j := 0 + ((2 : Nat) : Int)) (by decide) (by decide) (by decide) (by decide) (by decide)
  have n12 := pl_ne ns (i := 0 + ((1 : Nat) : Int)) (j := 0 + ((2 : Nat) : Int)) (by decide) (by decide) (by decide) (by decide) (by decide)
  match cs, sh, hn, hl with
  | [a0, a1], [(p, u), (q, v)], _, _ =>
    obtain rfl : a0 = c0 := Option.some.inj hc
    obtain ⟨e0, h0⟩ := h 0 _ rfl
    obtain ⟨e1, h1⟩ := h 1 _ rfl
    dsimp only at e0 e1 h0 h1
    subst e0 e1
    have r0 := pl_rng ns (0 + ((0 : Nat) : Int))
    have r1 := pl_rng ns (0 + ((1 : Nat) : Int))
    rw [sec2 n01] at hy
    refine wrong2 (c0 := a0) (c1 := a1) (m := m) prN hN r0.1 r0.2 r1.1 r1.2 n01 (iv_sub prN hN r0.1 r0.2 r1.1 r1.2 n01) (iv_sub prN hN r1.1 r1.2 r0.1 r0.2 n01.symm) hy (h0.trans (Cg.of_eq (by simp [ev]; rfl))) (h1.trans (Cg.of_eq (by simp [ev]; rfl))) m0 m1 ?_
    have : k = 0 ∨ k = 1 := by simp at hk; omega
    rcases this with rfl | rfl
    · exact .inl ⟨if_pos rfl, if_neg n01.symm⟩
    · exact .inr ⟨if_neg n01, if_pos rfl⟩
  | [a0, a1, a2], [(p, u), (q, v), (s, z)], _, _ =>
    obtain rfl : a0 = c0 := Option.some.inj hc
    obtain ⟨e0, h0⟩ := h 0 _ rfl
    obtain ⟨e1, h1⟩ := h 1 _ rfl
    obtain ⟨e2, h2⟩ := h 2 _ rfl
    dsimp only at e0 e1 e2 h0 h1 h2
    subst e0 e1 e2
    have r0 := pl_rng ns (0 + ((0 : Nat) : Int))
    have r1 := pl_rng ns (0 + ((1 : Nat) : Int))
    have r2 := pl_rng ns (0 + ((2 : Nat) : Int))
    rw [sec3 n01 n02 n12] at hy
    refine wrong3 (c0 := a0) (c1 := a1) (c2 := a2) (m := m) prN hN r0.1 r0.2 r1.1 r1.2 r2.1 r2.2 n01 n02 n12 (iv_sub prN hN r0.1 r0.2 r1.1 r1.2 n01) (iv_sub prN hN r0.1 r0.2 r2.1 r2.2 n02) (iv_sub prN hN r1.1 r1.2 r0.1 r0.2 n01.symm) (iv_sub prN hN r1.1 r1.2 r2.1 r2.2 n12) (iv_sub prN hN r2.1 r2.2 r0.1 r0.2 n02.symm) (iv_sub prN hN r2.1 r2.2 r1.1 r1.2 n12.symm) hy (h0.trans (Cg.of_eq (by simp [ev]; rfl))) (h1.trans (Cg.of_eq (by simp [ev]; rfl))) (h2.trans (Cg.of_eq (by simp [ev]; rfl))) m0 m1 ?_
    have : k = 0 ∨ k = 1 ∨ k = 2 := by simp at hk; omega
    rcases this with rfl | rfl | rfl
    · exact .inl ⟨if_pos rfl, if_neg n01.symm, if_neg n02.symm⟩
    · exact .inr (.inl ⟨if_neg n01, if_pos rfl, if_neg n12.symm⟩)
    · exact .inr (.inr ⟨if_neg n02, if_neg n12, if_pos rfl⟩)
  | [], _, h, _ => exact absurd h (by simp)
  | [_], _, h, _ => exact absurd h (by simp)
  | _ :: _ :: _ :: _ :: _, _, h, _ => exact absurd h (by simp)
theorem ev_idx {N p : Int} : ∀ (cs : List Int), Cg N (ev (cs.map (fun c => 1 * c % N)) p) (ev cs p)
  | [] => Cg.refl
  | c :: cs => ((ev_idx cs).mul Cg.refl).add (Cg.emod.trans (Cg.of_eq (Int.one_mul c)))

theorem mod_known {prog : Program} {w : World} {A : Around} {E : Value → Shared → Prop} {s : Shared} {a b v : Int} {t u : Tok} {Q : Value → Shared → Prop} (h : a.fmod b = v) (hb : b ≠ 0) (k : Q (.int v s.toks) { s with toks := s.toks + 1 }) : wpAny (model prog w) A (binaryOp .Mod (.int a t) (.int b u)) Q E s := mod_int' hb (h ▸ k)
theorem kc_nine {cm : Str → Option Value} {n₁ n₂ n₃ n₄ n₅ n₆ n₇ n₈ n₉ : Str} {c₁ c₂ c₃ c₄ c₅ c₆ c₇ c₈ c₉ : Addr} {cells : List (Addr × Obj)} (x : CellsAre cm [(n₁, c₁), (n₂, c₂), (n₃, c₃), (n₄, c₄), (n₅, c₅), (n₆, c₆), (n₇, c₇), (n₈, c₈), (n₉, c₉)] cells) :
    ∃ o₁ o₂ o₃ o₄ o₅ o₆ o₇ o₈ o₉, cells = [(c₁, o₁), (c₂, o₂), (c₃, o₃), (c₄, o₄), (c₅, o₅), (c₆, o₆), (c₇, o₇), (c₈, o₈), (c₉, o₉)] ∧ o₁.data = .cell (cm n₁) ∧ o₂.data = .cell (cm n₂) ∧ o₃.data = .cell (cm n₃) ∧ o₄.data = .cell (cm n₄) ∧ o₅.data = .cell (cm n₅) ∧ o₆.data = .cell (cm n₆) ∧ o₇.data = .cell (cm n₇) ∧ o₈.data = .cell (cm n₈) ∧ o₉.data = .cell (cm n₉) := by
  cases x with | cons h r => obtain ⟨o₂, o₃, o₄, o₅, o₆, o₇, o₈, o₉, rfl, h₂, h₃, h₄, h₅, h₆, h₇, h₈, h₉⟩ := PyProof.Rows.kc_eight r; exact ⟨_, o₂, o₃, o₄, o₅, o₆, o₇, o₈, o₉, rfl, h, h₂, h₃, h₄, h₅, h₆, h₇, h₈, h₉⟩
theorem two_of {r : Int} (h0 : 0 ≤ r) (h1 : r < 2) : r = 0 ∨ r = 1 := by omega
theorem newTup {M : Model} {A : Around} {E : Value → Shared → Prop} {s : Shared} {h₀ : Heap} {L : Addr} {m : Str → Option Value} {news : List (Addr × Obj)} {vs : List Value} {Q : Value → Shared → Prop} (F : Fr h₀ L s.heap m) (N : News h₀ L s.heap news) (hsz : vs.length ≤ sizeLine)
    (h : ∀ D h', Fr h₀ L h' m → News h₀ L h' ((D, tup vs) :: news) → (∀ p ∈ news, p.1 < D) → Q (.ref D) { s with heap := h' }) : wpAny M A (newTuple vs) Q E s :=
  newTuple_N F N (fun h' F' N' => h _ h' F' N' fun p hp => Heap.lt_size (N p hp).1) hsz
theorem off1_mem {D : Addr} : ∀ {l : List (Addr × Obj)}, LCg.Off1 D l → ∀ p ∈ l, p.1 ≠ D
  | [], _, _, h => nomatch h
  | _ :: _, x, p, h => by
    rcases List.mem_cons.mp h with rfl | h
    · exact x.1
    · exact off1_mem x.2 p h
def NQ (a b : Int) : Prop := a ≠ b
theorem eq_kt {prog : Program} {w : World} {A : Around} {E : Value → Shared → Prop} {s : Shared} {a : Int} {t u : Tok} {Q : Value → Shared → Prop} (k : Q (.bool true) s) : wpAny (model prog w) A (compareOp .Eq (.int a t) (.int a u)) Q E s := PyProof.Rows.eq_int (by rw [beq_self_eq_true]; exact k)
theorem eq_kf {prog : Program} {w : World} {A : Around} {E : Value → Shared → Prop} {s : Shared} {a b : Int} {t u : Tok} {Q : Value → Shared → Prop} (h : NQ a b) (k : Q (.bool false) s) : wpAny (model prog w) A (compareOp .Eq (.int a t) (.int b u)) Q E s := PyProof.Rows.eq_int (by rw [beq_eq_false_iff_ne.mpr h]; exact k)
theorem mo_rng {r N : Int} (h0 : 0 ≤ r) (h1 : r < N - 1) : 0 < 1 + r ∧ 1 + r < N := by omega
theorem bool_t {i j : Int} {r : Value} (h : r = .bool (!decide (i = j))) (e : i = j) : r = .bool false := by rw [h, decide_eq_true e]; rfl
theorem bool_f {i j : Int} {r : Value} (h : r = .bool (decide (i = j))) (e : ¬ i = j) : r = .bool false := by rw [h, decide_eq_false e]
theorem bool_nt {i j : Int} {r : Value} (h : r = .bool (!decide (i = j))) (e : ¬ i = j) : r = .bool true := by rw [h, decide_eq_false e]; rfl
theorem bool_ee {i : Int} {r : Value} (h : r = .bool (!(i == i))) : r = .bool false := by rw [h, beq_self_eq_true]; rfl
theorem bool_en {i j : Int} {r : Value} (h : r = .bool (!(i == j))) (e : i ≠ j) : r = .bool true := by rw [h, beq_eq_false_iff_ne.mpr e]; rfl

def Out9 (n a : Nat) : Prop := a ≤ n ∨ n + 9 < a
def In9 (n c : Nat) : Prop := n < c ∧ c ≤ n + 9
theorem out_gt {n a : Nat} (h : n + 9 < a) : Out9 n a := .inr h
theorem out_ne {n a c : Nat} (h : Out9 n a) (q : In9 n c) : a ≠ c := by
  unfold Out9 at h; unfold In9 at q; omega
theorem all_ne9 {n c : Addr} {l : List (Addr × Obj)} (h : ∀ p ∈ l, Out9 n p.1) (q : In9 n c) : ∀ p ∈ l, p.1 ≠ c := fun p hp => out_ne (h p hp) q
theorem out_new {n D : Addr} {o1 o2 o3 o4 o5 o6 o7 o8 o9 : Obj} {l : List (Addr × Obj)} (x : LCg.Off1 D ((n + 1 + 1 + 1 + 1 + 1 + 1 + 1 + 1 + 1, o1) :: (n + 1 + 1 + 1 + 1 + 1 + 1 + 1 + 1, o2) :: (n + 1 + 1 + 1 + 1 + 1 + 1 + 1, o3) :: (n + 1 + 1 + 1 + 1 + 1 + 1, o4) :: (n + 1 + 1 + 1 + 1 + 1, o5) :: (n + 1 + 1 + 1 + 1, o6) :: (n + 1 + 1 + 1, o7) :: (n + 1 + 1, o8) :: (n + 1, o9) :: l)) : Out9 n D := by
  obtain ⟨a1, a2, a3, a4, a5, a6, a7, a8, a9, _⟩ := x
  rcases Nat.lt_or_ge n D with h | h
  · exact .inr (Nat.lt_of_le_of_ne (Nat.lt_of_le_of_ne (Nat.lt_of_le_of_ne (Nat.lt_of_le_of_ne (Nat.lt_of_le_of_ne (Nat.lt_of_le_of_ne (Nat.lt_of_le_of_ne (Nat.lt_of_le_of_ne (Nat.lt_of_le_of_ne h a9) a8) a7) a6) a5) a4) a3) a2) a1)
  · exact .inl h
section
variable {h₀ h : Heap} {L n : Addr} {k1 k2 k3 k4 k5 k6 k7 k8 k9 : Addr × Obj} {l : List (Addr × Obj)}
theorem led0 {t b c : Addr × Obj} (N : News h₀ L h (t :: b :: c :: k1 :: k2 :: k3 :: k4 :: k5 :: k6 :: k7 :: k8 :: k9 :: [])) (hb : Out9 n b.1) (hc : Out9 n c.1) : ∃ l, News h₀ L h (k1 :: k2 :: k3 :: k4 :: k5 :: k6 :: k7 :: k8 :: k9 :: l) ∧ b ∈ l ∧ c ∈ l ∧ (∀ p ∈ l, Out9 n p.1) :=
  ⟨[b, c], fun p hp => N p (by simp only [List.mem_cons] at hp ⊢; grind), mh0, mh1, fun p hp => by
    rcases List.mem_cons.mp hp with rfl | hp
    · exact hb
    · rcases List.mem_cons.mp hp with rfl | hp
      · exact hc
      · cases hp⟩
theorem rot1 {q : Addr × Obj} (N : News h₀ L h (q :: k1 :: k2 :: k3 :: k4 :: k5 :: k6 :: k7 :: k8 :: k9 :: l)) (o : Out9 n q.1) (h9 : ∀ p ∈ l, Out9 n p.1) : ∃ l', News h₀ L h (k1 :: k2 :: k3 :: k4 :: k5 :: k6 :: k7 :: k8 :: k9 :: l') ∧ q ∈ l' ∧ (∀ p ∈ l, p ∈ l') ∧ (∀ p ∈ l', Out9 n p.1) :=
  ⟨q :: l, fun p hp => N p (by simp only [List.mem_cons] at hp ⊢; grind), mh0, fun p hp => .tail _ hp, fun p hp => by
    rcases List.mem_cons.mp hp with rfl | hp
    · exact o
    · exact h9 p hp⟩
theorem mem9 {p : Addr × Obj} (hp : p ∈ l) : p ∈ k1 :: k2 :: k3 :: k4 :: k5 :: k6 :: k7 :: k8 :: k9 :: l := .tail _ (.tail _ (.tail _ (.tail _ (.tail _ (.tail _ (.tail _ (.tail _ (.tail _ (hp)))))))))
theorem off_l {I C D : Addr} {q : Addr × Obj} (h : q.1 ≠ I ∧ q.1 ≠ C ∧ q.1 ≠ D) (o : LCg.Off3 I C D (k1 :: k2 :: k3 :: k4 :: k5 :: k6 :: k7 :: k8 :: k9 :: l)) : LCg.Off3 I C D (k1 :: k2 :: k3 :: k4 :: k5 :: k6 :: k7 :: k8 :: k9 :: q :: l) := by
  obtain ⟨a1, a2, a3, a4, a5, a6, a7, a8, a9, r⟩ := o
  exact ⟨a1, a2, a3, a4, a5, a6, a7, a8, a9, h, r⟩
end
theorem two_ex {r : Int} (h0 : 0 ≤ r) (h1 : r < 2) : ∃ f, f = r ∧ (f = 0 ∨ f = 1) := ⟨r, rfl, by omega⟩
theorem many_ex {r : Int} (h0 : 0 ≤ r) (h1 : r < 2) : ∃ n : Nat, 2 + r = (n : Int) ∧ (n = 2 ∨ n = 3) := by
  have : r = 0 ∨ r = 1 := by omega
  rcases this with rfl | rfl
  · exact ⟨2, rfl, .inl rfl⟩
  · exact ⟨3, rfl, .inr rfl⟩
section
variable {h₀ h : Heap} {L n : Addr} {k1 k2 k3 k4 k5 k6 k7 k8 k9 : Addr × Obj} {l : List (Addr × Obj)}
theorem sub_1 {x I C D : Addr × Obj} : ∀ p ∈ I :: C :: D :: k1 :: k2 :: k3 :: k4 :: k5 :: k6 :: k7 :: k8 :: k9 :: x :: l, p ∈ x :: I :: C :: D :: k1 :: k2 :: k3 :: k4 :: k5 :: k6 :: k7 :: k8 :: k9 :: l := fun p hp => by simp only [List.mem_cons] at hp ⊢; grind
theorem sub_2 {x y I C D : Addr × Obj} : ∀ p ∈ I :: C :: D :: k1 :: k2 :: k3 :: k4 :: k5 :: k6 :: k7 :: k8 :: k9 :: x :: y :: l, p ∈ x :: y :: I :: C :: D :: k1 :: k2 :: k3 :: k4 :: k5 :: k6 :: k7 :: k8 :: k9 :: l := fun p hp => by simp only [List.mem_cons] at hp ⊢; grind
theorem sub_3 {x y z I C D : Addr × Obj} : ∀ p ∈ I :: C :: D :: k1 :: k2 :: k3 :: k4 :: k5 :: k6 :: k7 :: k8 :: k9 :: x :: y :: z :: l, p ∈ x :: y :: z :: I :: C :: D :: k1 :: k2 :: k3 :: k4 :: k5 :: k6 :: k7 :: k8 :: k9 :: l := fun p hp => by simp only [List.mem_cons] at hp ⊢; grind
theorem off_1 {x : Addr × Obj} {I C D : Addr} {oI oC oD : Obj} (lx : ∀ p ∈ (I, oI) :: (C, oC) :: (D, oD) :: k1 :: k2 :: k3 :: k4 :: k5 :: k6 :: k7 :: k8 :: k9 :: l, p.1 < x.1) (o : LCg.Off3 I C D (k1 :: k2 :: k3 :: k4 :: k5 :: k6 :: k7 :: k8 :: k9 :: l)) : LCg.Off3 I C D (k1 :: k2 :: k3 :: k4 :: k5 :: k6 :: k7 :: k8 :: k9 :: x :: l) :=
  off_l ⟨Nat.ne_of_gt (lx _ mh0), Nat.ne_of_gt (lx _ mh1), Nat.ne_of_gt (lx _ mh2)⟩ o
theorem off_2 {x y : Addr × Obj} {I C D : Addr} {oI oC oD : Obj} (ly : ∀ p ∈ (I, oI) :: (C, oC) :: (D, oD) :: k1 :: k2 :: k3 :: k4 :: k5 :: k6 :: k7 :: k8 :: k9 :: l, p.1 < y.1) (m : y.1 < x.1) (o : LCg.Off3 I C D (k1 :: k2 :: k3 :: k4 :: k5 :: k6 :: k7 :: k8 :: k9 :: l)) : LCg.Off3 I C D (k1 :: k2 :: k3 :: k4 :: k5 :: k6 :: k7 :: k8 :: k9 :: x :: y :: l) :=
  off_l ⟨Nat.ne_of_gt (Nat.lt_trans (ly _ mh0) m), Nat.ne_of_gt (Nat.lt_trans (ly _ mh1) m), Nat.ne_of_gt (Nat.lt_trans (ly _ mh2) m)⟩ (off_1 ly o)
theorem out_1 {x : Addr × Obj} (hx : n + 9 < x.1) (h9 : ∀ p ∈ l, Out9 n p.1) : ∀ p ∈ x :: l, Out9 n p.1 := fun p hp => by
  rcases List.mem_cons.mp hp with rfl | hp
  · exact .inr hx
  · exact h9 p hp
theorem out_2 {x y : Addr × Obj} (hy : n + 9 < y.1) (m : y.1 < x.1) (h9 : ∀ p ∈ l, Out9 n p.1) : ∀ p ∈ x :: y :: l, Out9 n p.1 := out_1 (Nat.lt_trans hy m) (out_1 hy h9)
end
abbrev RowsI (w : World) (form N : Int) (n : Nat) (k1 k2 k3 k4 k5 k6 k7 k8 k9 : Addr × Obj) (l : List (Addr × Obj)) (i : Nat) (ys : List Value) (nw : List (Addr × Obj)) : Prop :=
  ∃ l' cs, nw = k1 :: k2 :: k3 :: k4 :: k5 :: k6 :: k7 :: k8 :: k9 :: l' ∧ (∀ p ∈ l, p ∈ l') ∧ (∀ p ∈ l', Out9 n p.1) ∧ cs.length = i ∧ RowsAt w (clF form) N l' ys cs
section
variable {n : Addr} {k1 k2 k3 k4 k5 k6 k7 k8 k9 : Addr × Obj} {l : List (Addr × Obj)}
theorem off_3 {x y z : Addr × Obj} {I C D : Addr} {oI oC oD : Obj} (lz : ∀ p ∈ (I, oI) :: (C, oC) :: (D, oD) :: k1 :: k2 :: k3 :: k4 :: k5 :: k6 :: k7 :: k8 :: k9 :: l, p.1 < z.1) (m : z.1 < y.1) (lx : ∀ p ∈ y :: z :: (I, oI) :: (C, oC) :: (D, oD) :: k1 :: k2 :: k3 :: k4 :: k5 :: k6 :: k7 :: k8 :: k9 :: l, p.1 < x.1) (o : LCg.Off3 I C D (k1 :: k2 :: k3 :: k4 :: k5 :: k6 :: k7 :: k8 :: k9 :: l)) : LCg.Off3 I C D (k1 :: k2 :: k3 :: k4 :: k5 :: k6 :: k7 :: k8 :: k9 :: x :: y :: z :: l) :=
  off_l ⟨Nat.ne_of_gt (lx _ mh2), Nat.ne_of_gt (lx _ mh3), Nat.ne_of_gt (lx _ mh4)⟩ (off_2 lz m o)
theorem out_3 {x y z : Addr × Obj} (hz : n + 9 < z.1) (m : z.1 < y.1) (hx : n + 9 < x.1) (h9 : ∀ p ∈ l, Out9 n p.1) : ∀ p ∈ x :: y :: z :: l, Out9 n p.1 := out_1 hx (out_2 hz m h9)
end
abbrev ShownI (T : List (Int × Int)) (N : Int) (n : Nat) (k1 k2 k3 k4 k5 k6 k7 k8 k9 : Addr × Obj) (l : List (Addr × Obj)) (cs : List Int) (i : Nat) (ys : List Value) (nw : List (Addr × Obj)) : Prop :=
  ∃ l', nw = k1 :: k2 :: k3 :: k4 :: k5 :: k6 :: k7 :: k8 :: k9 :: l' ∧ (∀ p ∈ l, p ∈ l') ∧ (∀ p ∈ l', Out9 n p.1) ∧ PtsAt T N l' ys ((cs.take i).map (fun c => 1 * c % N))
abbrev PlacesI (ns : List Int) (k1 k2 k3 k4 k5 k6 k7 k8 k9 : Addr × Obj) (l : List (Addr × Obj)) (i : Nat) (ys : List Value) (nw : List (Addr × Obj)) : Prop :=
  nw = k1 :: k2 :: k3 :: k4 :: k5 :: k6 :: k7 :: k8 :: k9 :: l ∧ ys.length = i ∧ ∀ (j : Nat) v, ys[j]? = some v → ∃ t, v = .int (plF ns (0 + (j : Int))) t
abbrev SharesI (w : World) (form N : Int) (ns cs : List Int) (n : Nat) (k1 k2 k3 k4 k5 k6 k7 k8 k9 : Addr × Obj) (l : List (Addr × Obj)) (i : Nat) (ys : List Value) (nw : List (Addr × Obj)) : Prop :=
  ∃ l' sh, nw = k1 :: k2 :: k3 :: k4 :: k5 :: k6 :: k7 :: k8 :: k9 :: l' ∧ (∀ p ∈ l, p ∈ l') ∧ (∀ p ∈ l', Out9 n p.1) ∧ SharesAt w (clF form) N l' ys sh ∧ sh.length = i ∧ ShOk ns cs N 0 (fun _ => 0) sh
theorem places_snoc {ns : List Int} {ys : List Value} {p : Int} {t : Tok} (h : ∀ (j : Nat) v, ys[j]? = some v → ∃ t, v = .int (plF ns (0 + (j : Int))) t) (hp : p = plF ns (0 + ((ys.length : Nat) : Int))) : ∀ (j : Nat) v, (ys ++ [.int p t])[j]? = some v → ∃ t, v = .int (plF ns (0 + (j : Int))) t := by
  intro j v hv
  rcases Nat.lt_trichotomy j ys.length with h1 | h1 | h1
  · rw [List.getElem?_append_left h1] at hv; exact h j v hv
  · subst h1
    rw [List.getElem?_append_right (Nat.le_refl _), Nat.sub_self] at hv
    obtain rfl : Value.int p t = v := Option.some.inj hv
    exact ⟨t, by rw [hp]⟩
  · rw [List.getElem?_eq_none (by simp; omega)] at hv; cases hv
theorem take_snoc {cs : List Int} {i : Nat} {c N : Int} (h : cs[i]? = some c) : (cs.take (i + 1)).map (fun c => 1 * c % N) = (cs.take i).map (fun c => 1 * c % N) ++ [1 * c % N] := by
  rw [List.take_add_one, h]; simp
theorem take_all {cs : List Int} {k : Nat} (h : cs.length ≤ k) : cs.take k = cs := List.take_of_length_le h
theorem mo_ex {r N : Int} (h0 : 0 ≤ r) (h1 : r < N - 1) : ∃ k, k = r ∧ 0 < 1 + k ∧ 1 + k < N := ⟨r, rfl, mo_rng h0 h1⟩
theorem pick_ex {r : Int} {n : Nat} (h0 : 0 ≤ r) (h1 : r < (n : Int)) : ∃ k : Nat, r = (k : Int) ∧ k < n := ⟨r.toNat, by omega, by omega⟩
theorem eq_or_nq (a b : Int) : a = b ∨ NQ a b := by
  by_cases h : a = b
  · exact .inl h
  · exact .inr h
abbrev WrongI (w : World) (form N m : Int) (k : Nat) (ns cs : List Int) (n : Nat) (k1 k2 k3 k4 k5 k6 k7 k8 k9 : Addr × Obj) (l : List (Addr × Obj)) (i : Nat) (ys : List Value) (nw : List (Addr × Obj)) : Prop :=
  ∃ l' sh, nw = k1 :: k2 :: k3 :: k4 :: k5 :: k6 :: k7 :: k8 :: k9 :: l' ∧ (∀ p ∈ l, p ∈ l') ∧ (∀ p ∈ l', Out9 n p.1) ∧ SharesAt w (clF form) N l' ys sh ∧ sh.length = i ∧ ShOk ns cs N m (fun j => if plF ns (0 + (j : Int)) = plF ns (0 + (k : Int)) then 1 else 0) sh
def ZOut (w : World) (C₀ : Addr) (N : Int) (n : Nat) (h₀ : Heap) (L : Addr) (m : Str → Option Value) (s : Shared) (nw : List (Addr × Obj)) (I C D : Addr) (G : Int → Prop) (v : Value) (s' : Shared) : Prop :=
  ∃ z dz X k1 k2 t1 t2 h' tk', v = .ref z ∧ s' = { s with heap := h', toks := tk' } ∧ Fr h₀ L h' m ∧ News h₀ L h' ((z, instObj C₀ dz) :: (dz, fqD w.params N X k1 k2 t1 t2) :: nw) ∧ (z ≠ I ∧ z ≠ C ∧ z ≠ D) ∧ (dz ≠ I ∧ dz ≠ C ∧ dz ≠ D) ∧ Out9 n z ∧ Out9 n dz ∧ 0 ≤ X ∧ X < N ∧ G X
theorem cutZ {prog : Program} {w : World} {A : Around} {t : Sem Value} {E : Value → Shared → Prop} {s : Shared} {Q : Value → Shared → Prop} {C₀ : Addr} {N : Int} {n : Nat} {h₀ : Heap} {L : Addr} {m : Str → Option Value} {nw : List (Addr × Obj)} {I C D : Addr} (G : Int → Prop)
    (F : Fr h₀ L s.heap m) (Ns : News h₀ L s.heap nw)
    (zb : wpAny (model prog w) A t (ZOut w C₀ N n h₀ L m s nw I C D G) E s)
    (zk : ∀ z dz X k1 k2 t1 t2 h' tk', Fr h₀ L h' m → News h₀ L h' ((z, instObj C₀ dz) :: (dz, fqD w.params N X k1 k2 t1 t2) :: nw) → (z ≠ I ∧ z ≠ C ∧ z ≠ D) → (dz ≠ I ∧ dz ≠ C ∧ dz ≠ D) → Out9 n z → Out9 n dz → 0 ≤ X → X < N → G X → Q (.ref z) { s with heap := h', toks := tk' }) :
    wpAny (model prog w) A t Q E s :=
  wpAny_mono zb (fun v s' h => by
    obtain ⟨z, dz, X, k1, k2, t1, t2, h', tk', rfl, rfl, a, b, c, d, e, f, g, i, j⟩ := h
    exact zk z dz X k1 k2 t1 t2 h' tk' a b c d e f g i j) fun _ _ e => e
section
variable {n : Addr} {k1 k2 k3 k4 k5 k6 k7 k8 k9 : Addr × Obj} {l : List (Addr × Obj)}
theorem off_z {x y z : Addr × Obj} {I C D : Addr} {oI oC oD : Obj} (lx : ∀ p ∈ y :: z :: (I, oI) :: (C, oC) :: (D, oD) :: k1 :: k2 :: k3 :: k4 :: k5 :: k6 :: k7 :: k8 :: k9 :: l, p.1 < x.1) (hy : y.1 ≠ I ∧ y.1 ≠ C ∧ y.1 ≠ D) (hz : z.1 ≠ I ∧ z.1 ≠ C ∧ z.1 ≠ D) (o : LCg.Off3 I C D (k1 :: k2 :: k3 :: k4 :: k5 :: k6 :: k7 :: k8 :: k9 :: l)) : LCg.Off3 I C D (k1 :: k2 :: k3 :: k4 :: k5 :: k6 :: k7 :: k8 :: k9 :: x :: y :: z :: l) :=
  off_l ⟨Nat.ne_of_gt (lx _ mh2), Nat.ne_of_gt (lx _ mh3), Nat.ne_of_gt (lx _ mh4)⟩ (off_l hy (off_l hz o))
theorem out_z {x y z : Addr × Obj} (hx : n + 9 < x.1) (hy : Out9 n y.1) (hz : Out9 n z.1) (h9 : ∀ p ∈ l, Out9 n p.1) : ∀ p ∈ x :: y :: z :: l, Out9 n p.1 := fun p hp => by
  rcases List.mem_cons.mp hp with rfl | hp
  · exact .inr hx
  · rcases List.mem_cons.mp hp with rfl | hp
    · exact hy
    · rcases List.mem_cons.mp hp with rfl | hp
      · exact hz
      · exact h9 p hp
end
theorem told_g {N X p : Int} {cs : List Int} (hX : Cg N X (ev cs p)) : 1 * X % N = ev (cs.map (fun c => 1 * c % N)) p % N := Cg.emod_eq ((Cg.of_eq (Int.one_mul X)).trans (hX.trans (ev_idx cs).symm))
theorem RowsAt.fst {w : World} {C : Addr} {N : Int} {l : List (Addr × Obj)} {vs : List Value} {cs : List Int} (h : RowsAt w C N l vs cs) (hl : 0 < vs.length) : ∃ x c, vs[0]? = some (.ref x) ∧ FqAt w C N c l x ∧ 0 ≤ c ∧ c < N ∧ cs[0]? = some c := by
  obtain ⟨x, c, e, r⟩ := RowsAt.at 0 h (List.getElem?_eq_getElem hl)
  exact ⟨x, c, (List.getElem?_eq_getElem hl).trans (congrArg some e), r⟩
theorem PtsAt.fst {T : List (Int × Int)} {N : Int} {l : List (Addr × Obj)} {vs : List Value} {cs : List Int} {c : Int} (h : PtsAt T N l vs (cs.map (fun c => 1 * c % N))) (hc : cs[0]? = some c) : ∃ y o, vs[0]? = some (.ref y) ∧ (y, o) ∈ l ∧ PtO T (1 * c % N) o := by
  match cs, vs, h, hc with
  | c' :: cs, v :: vs, h, hc =>
    obtain rfl : c' = c := Option.some.inj hc
    obtain ⟨⟨y, o, rfl, a, b, _⟩, _⟩ := h
    exact ⟨y, o, rfl, a, b⟩
  | _ :: _, [], h, _ => exact h.elim
theorem cn1 {n : Nat} : n + 1 ≠ n := by omega
theorem cm1 {n : Nat} : n ≠ n + 1 := by omega
theorem cn2 {n : Nat} : n + 1 + 1 ≠ n := by omega
theorem cm2 {n : Nat} : n ≠ n + 1 + 1 := by omega
theorem cn3 {n : Nat} : n + 1 + 1 + 1 ≠ n := by omega
theorem cm3 {n : Nat} : n ≠ n + 1 + 1 + 1 := by omega
theorem cn4 {n : Nat} : n + 1 + 1 + 1 + 1 ≠ n := by omega
theorem cm4 {n : Nat} : n ≠ n + 1 + 1 + 1 + 1 := by omega
theorem cn5 {n : Nat} : n + 1 + 1 + 1 + 1 + 1 ≠ n := by omega
theorem cm5 {n : Nat} : n ≠ n + 1 + 1 + 1 + 1 + 1 := by omega
theorem cn6 {n : Nat} : n + 1 + 1 + 1 + 1 + 1 + 1 ≠ n := by omega
theorem cm6 {n : Nat} : n ≠ n + 1 + 1 + 1 + 1 + 1 + 1 := by omega
theorem cn7 {n : Nat} : n + 1 + 1 + 1 + 1 + 1 + 1 + 1 ≠ n := by omega
theorem cm7 {n : Nat} : n ≠ n + 1 + 1 + 1 + 1 + 1 + 1 + 1 := by omega
theorem cn8 {n : Nat} : n + 1 + 1 + 1 + 1 + 1 + 1 + 1 + 1 ≠ n := by omega
theorem cm8 {n : Nat} : n ≠ n + 1 + 1 + 1 + 1 + 1 + 1 + 1 + 1 := by omega
theorem cells_mem {k1 k2 k3 k4 k5 k6 k7 k8 k9 : Addr × Obj} {l nw : List (Addr × Obj)} (h : nw = k1 :: k2 :: k3 :: k4 :: k5 :: k6 :: k7 :: k8 :: k9 :: l) : k1 ∈ nw ∧ k2 ∈ nw ∧ k3 ∈ nw ∧ k4 ∈ nw ∧ k5 ∈ nw ∧ k6 ∈ nw ∧ k7 ∈ nw ∧ k8 ∈ nw ∧ k9 ∈ nw ∧ ∀ p ∈ l, p ∈ nw := by
  subst h
  exact ⟨mh0, mh1, mh2, mh3, mh4, mh5, mh6, mh7, mh8, fun p hp => mem9 hp⟩

local macro_rules | `(tactic| walk_at "gdC") => `(tactic| ((fail_if_success (with_reducible show wpAny _ _ (subscriptTail _ (PySem.Expr.BinOp _ _ _ _) (Value.ref _) (Value.int _ _)) _ _ _)); (fail_if_success (with_reducible show wpAny _ _ (subscriptTail (PySem.Expr.Name (Str.ofString "rows") _) _ _ _) _ _ _)); (fail_if_success (with_reducible show wpAny _ _ (subscriptTail (PySem.Expr.Name (Str.ofString "shown") _) _ _ _) _ _ _)); (fail_if_success (with_reducible show wpAny _ _ (getAttr (Value.ref _) _ _) _ _ _)); (fail_if_success (with_reducible show wpAny _ _ (compareOp CmpOp.Eq (Value.ref _) (Value.ref _)) _ _ _)); (fail_if_success (with_reducible show wpAny _ _ (eval (PySem.Expr.ListComp _ _ _ _) _) _ _ _)); (fail_if_success (with_reducible show wpAny _ _ (exec (Stmt.Assign _ (PySem.Expr.ListComp _ _ _ _) _) _) _ _ _)); (fail_if_success (with_reducible show LCg.CompSrc _ _ _ _ _ _ _ _ _ _ _ _ _ _)); (fail_if_success (with_reducible show PyProof.Rows.LCp.SrcLP _ _ _ _ _ _ _ _ _ _ _ _ _ _ _)); (fail_if_success (with_reducible show LCg.CompEnd _ _ _ _ _ _ _ _ _ _ _ _ _ _))))
local macro_rules | `(tactic| walk_at "go") => `(tactic| repeat' (first | (k_unfold; (try dsimp only)) | (walk_at "gdB"; walk_at "gdC"; first | walk1 | (dsimp only; walk1))))
local macro_rules | `(tactic| walk_at "go2") => `(tactic| repeat' (first | (k_unfold; (try dsimp only)) | (walk_at "gdB"; walk_at "gdC"; (fail_if_success (with_reducible show wpAny _ _ (newTuple _) _ _ _)); (fail_if_success (with_reducible show wpAny _ _ (eval (PySem.Expr.IfExp _ _ _ _) _) _ _ _)); first | walk1 | (dsimp only; walk1))))
local macro_rules | `(tactic| ktr_units) => `(tactic| ((simp only [units_in1, units_deeper, Around.mark_units, units_caller]); decide))
local macro_rules | `(tactic| walk_at "binaryOp Mod int int") => `(tactic| (k_here; (with_reducible refine mod_known (by with_reducible assumption) (by decide) ?_)))
local macro_rules | `(tactic| k_all) => `(tactic| exact all_ne9 (by with_reducible assumption) (by with_reducible assumption))
local macro_rules | `(tactic| k_ne) => `(tactic| (refine neN ?_; (try dsimp only); first | with_reducible assumption | exact out_ne (by with_reducible assumption) (by with_reducible assumption) | (with_reducible first | exact cn1 | exact cn2 | exact cn3 | exact cn4 | exact cn5 | exact cn6 | exact cn7 | exact cn8 | exact cm1 | exact cm2 | exact cm3 | exact cm4 | exact cm5 | exact cm6 | exact cm7 | exact cm8) | omega))
local macro_rules | `(tactic| walk_at "compareOp Eq int int") => `(tactic| (k_here; first | (with_reducible refine eq_kt ?_) | (with_reducible refine eq_kf (by with_reducible assumption) ?_)))



def CrvAt (news0 l : List (Addr × Obj)) (ys : List Value) : Prop := ∀ (j : Nat) v, ys[j]? = some v → ∃ a t1 t2 t3 t4 t5 t6, v = .ref a ∧ (a, crv (curveAt j) t1 t2 t3 t4 t5 t6) ∈ l ∧ ∀ p ∈ news0, p.1 < a
theorem crv_step {h₀ h : Heap} {L D : Addr} {news0 l : List (Addr × Obj)} {ys : List Value} {c : Cv} {t1 t2 t3 t4 t5 t6 : Tok} (N : News h₀ L h ((D, crv c t1 t2 t3 t4 t5 t6) :: l)) (hs : ∀ p ∈ news0, p ∈ l) (hC : CrvAt news0 l ys) (lt : ∀ p ∈ l, p.1 < D) (ho : curveAt ys.length = c) :
    ∃ l', News h₀ L h l' ∧ (∀ p ∈ news0, p ∈ l') ∧ CrvAt news0 l' (ys ++ [.ref D]) :=
  ⟨_, N, fun p hp => .tail _ (hs p hp), fun j v hv => by
    rcases Nat.lt_trichotomy j ys.length with h1 | h1 | h1
    · rw [List.getElem?_append_left h1] at hv
      obtain ⟨a, u1, u2, u3, u4, u5, u6, e, m, q⟩ := hC j v hv
      exact ⟨a, u1, u2, u3, u4, u5, u6, e, .tail _ m, q⟩
    · subst h1
      rw [List.getElem?_append_right (Nat.le_refl _), Nat.sub_self] at hv
      obtain rfl : Value.ref D = v := Option.some.inj hv
      exact ⟨D, t1, t2, t3, t4, t5, t6, rfl, by rw [ho]; exact .head _, fun p hp => lt p (hs p hp)⟩
    · rw [List.getElem?_eq_none (by simp; omega)] at hv; cases hv⟩
theorem CrvAt.get {news0 l : List (Addr × Obj)} {q : Addr × Obj} {ys : List Value} (hC : CrvAt news0 l ys) {k : Nat} (hk : k < ys.length) : ∃ a t1 t2 t3 t4 t5 t6, ys[k]? = some (.ref a) ∧ (a, crv (curveAt k) t1 t2 t3 t4 t5 t6) ∈ q :: l ∧ ∀ p ∈ news0, p.1 < a := by
  obtain ⟨a, t1, t2, t3, t4, t5, t6, e, m, r⟩ := hC k _ (List.getElem?_eq_getElem hk)
  exact ⟨a, t1, t2, t3, t4, t5, t6, (List.getElem?_eq_getElem hk).trans (congrArg some e), .tail _ m, r⟩
theorem newTupT {M : Model} {A : Around} {E : Value → Shared → Prop} {s : Shared} {h₀ : Heap} {L : Addr} {m : Str → Option Value} {news : List (Addr × Obj)} {vs : List Value} {Q : Value → Shared → Prop} (F : Fr h₀ L s.heap m) (N : News h₀ L s.heap news) (hsz : vs.length ≤ sizeLine)
    (h : ∀ D h' tk, Fr h₀ L h' m → News h₀ L h' ((D, tup vs) :: news) → (∀ p ∈ news, p.1 < D) → Q (.ref D) { s with heap := h', toks := tk }) : wpAny M A (newTuple vs) Q E s := newTup F N hsz fun D h' => h D h' _
abbrev cvD (c : Cv) : List PyData := [.int c.P, .int c.N, .int c.A, .int c.B, .int c.Gx, .int c.Gy]
theorem are_i {i : Int} {ds : List PyData} {vs : List Value} (h : DataAre vs (.int i :: ds)) : ∃ t vs', vs = .int i t :: vs' ∧ DataAre vs' ds := by
  cases h with
  | cons hv h =>
    obtain ⟨t, rfl⟩ := datum_int hv
    exact ⟨t, _, rfl, h⟩
theorem are_z {vs : List Value} (h : DataAre vs []) : vs = [] := by cases h; rfl
theorem cvD_are {c : Cv} {vs : List Value} (h : DataAre vs (cvD c)) : ∃ t1 t2 t3 t4 t5 t6, vs = [.int c.P t1, .int c.N t2, .int c.A t3, .int c.B t4, .int c.Gx t5, .int c.Gy t6] :=
  let ⟨t1, _, e1, h⟩ := are_i h; let ⟨t2, _, e2, h⟩ := are_i h; let ⟨t3, _, e3, h⟩ := are_i h; let ⟨t4, _, e4, h⟩ := are_i h; let ⟨t5, _, e5, h⟩ := are_i h; let ⟨t6, _, e6, h⟩ := are_i h
  ⟨t1, t2, t3, t4, t5, t6, by rw [e1, e2, e3, e4, e5, e6, are_z h]⟩
noncomputable def CrvEs : Nat → List Expr → Prop
  | _, [] => True
  | k, e :: es => (∃ elts n p, e = .Tuple elts n p ∧ tupLitsOf elts = some (cvD (curveAt k))) ∧ CrvEs (k + 1) es
theorem len_snoc (ys : List Value) (v : Value) : (ys ++ [v]).length = ys.length + 1 := by simp
theorem spliced_crvs {M : Model} {A : Around} {E : Value → Shared → Prop} {env : Env} {pos : Pos} {h₀ : Heap} {L : Addr} {m : Str → Option Value} {news0 : List (Addr × Obj)} :
    ∀ (es : List Expr) (l : List (Addr × Obj)) (ys : List Value) (s : Shared) (Q : List Value → Shared → Prop), CrvEs ys.length es → Fr h₀ L s.heap m → News h₀ L s.heap l → (∀ p ∈ news0, p ∈ l) → CrvAt news0 l ys →
      (∀ vs h' tk l', Fr h₀ L h' m → News h₀ L h' l' → (∀ p ∈ news0, p ∈ l') → CrvAt news0 l' (ys ++ vs) → vs.length = es.length → Q vs { s with heap := h', toks := tk }) →
      wpAny M A (spliced (backTo pos (starEach es env))) Q E s
  | [], l, ys, s, Q, _, F, N, hs, hC, k => spliced_none (k [] s.heap s.toks l F N hs (by rw [List.append_nil]; exact hC) rfl)
  | e :: es, l, ys, s, Q, hE, F, N, hs, hC, k => by
    obtain ⟨⟨elts, n, p, rfl, hl⟩, hE⟩ := hE
    refine spliced_more (Tuple_ (spliced_lits elts _ s _ hl fun vs tk hv => ?_)) rfl
    obtain ⟨t1, t2, t3, t4, t5, t6, rfl⟩ := cvD_are hv
    refine newTupT F N (by size_fits) fun D h' tk' F N lt => ?_
    obtain ⟨l', N, hs, hC⟩ := crv_step N hs hC lt rfl
    refine spliced_crvs es l' (ys ++ [.ref D]) _ _ (by rw [len_snoc]; exact hE) F N hs hC fun vs h'' tk'' l'' F N hs hC hv => ?_
    exact k (.ref D :: vs) h'' tk'' l'' F N hs (by rw [List.append_assoc] at hC; exact hC) (congrArg (· + 1) hv)
theorem curves_c (w : World) (mean mg mb) (news : List (Addr × Obj)) :
    CallC w mean mg mb 400 [] 1 news (fun news' r => ∃ l items, r = .ref l ∧ (l, lst items) ∈ news' ∧ (∀ p ∈ news, p ∈ news') ∧ ∀ k : Nat, k < 13 → ∃ a t1 t2 t3 t4 t5 t6, items[k]? = some (.ref a) ∧ (a, crv (curveAt k) t1 t2 t3 t4 t5 t6) ∈ news' ∧ ∀ p ∈ news, p.1 < a) := by
  intro dp un gd cn cs a ccd cl outer A₀ base h₀ L m s Q E B F X Ns Tp hk hd hu hret
  refine wpAny_call ?_
  refine' code_def (binds := []) ?k1 ?k2 ?k3 ?k4 ?k5 ?kA ?kF ?kK ?k6 ?k7 ?k8 ?k9 ?kB ?_ ?c2 ?c3 ?c4 ?c5
  walk_at "enter"
  repeat' (first | (k_unfold; (try dsimp only)) | ((fail_if_success (with_reducible show wpAny _ _ (eval (PySem.Expr.List _ _) _) _ _ _)); first | walk1 | (dsimp only; walk1)))
  (rename Fr _ _ _ _ => Fx); (rename News _ _ _ _ => Nx)
  with_reducible refine List_ ?_
  have h0 : CrvAt news news [] := fun j v h => by simp at h
  with_reducible refine spliced_crvs _ _ _ _ _ ?hE Fx Nx (fun _ h => h) h0 fun vs h' tk l' Fx Nx hs hC hv => ?_
  case hE => exact ⟨⟨_, _, _, rfl, rfl⟩, ⟨_, _, _, rfl, rfl⟩, ⟨_, _, _, rfl, rfl⟩, ⟨_, _, _, rfl, rfl⟩, ⟨_, _, _, rfl, rfl⟩, ⟨_, _, _, rfl, rfl⟩, ⟨_, _, _, rfl, rfl⟩, ⟨_, _, _, rfl, rfl⟩, ⟨_, _, _, rfl, rfl⟩, ⟨_, _, _, rfl, rfl⟩, ⟨_, _, _, rfl, rfl⟩, ⟨_, _, _, rfl, rfl⟩, ⟨_, _, _, rfl, rfl⟩, trivial⟩
  clear h0
  replace hv : vs.length = 13 := hv
  replace hC : CrvAt news l' vs := hC
  with_reducible refine newList_N Fx Nx (fun h' Fx Nx => ?_) (by rw [hv]; size_fits)
  walk_at "go2"
  (rename Fr _ _ _ _ => Fx); (rename News _ _ _ _ => Nx)
  exact hret _ _ _ _ Fx Nx ⟨_, _, rfl, .head _, fun p hp => .tail _ (hs p hp), fun k hk => hC.get (by rw [hv]; exact hk)⟩



theorem holds : PySem.Challenge.rw_af0014_01.Holds := Mine.H.hd (by
  k_fill
  intro w s₀ s₁ mg mb G Y fa o pm cd doc dV kV ho hd hcd hD hmg hg args vals as hpre hlay hrd hwl hlo
  have KX := kIn_of Y
  have X := (Ground.X G).1
  have V := (Ground.X G).2
  refine Ground.open G ?_
  intro T B D TE TW
  try (refine guard_noD D (by decide +kernel) ?_; clear D)
  obtain ⟨_, _, M⟩ := bmod_of_top T
  have TA := at_of_top T
  try (obtain ⟨_, _, he, B0⟩ := based_of_top T rfl hmg ho hd; have he' : cd = _ := he; subst he'; clear he)
  clear hmg
  wrow_args hpre hlay hrd hwl hlo
  rename_i ns _ _ _ _ _ _ _ sl vs wl IL ra w1 r0 hI hr hlen hc2
  first | refine callC_kw (enter_call ?_) | refine enter_call ?_ | refine callC_kw (enter_callW ?_) | refine enter_callW ?_ | w_how
  w_top on
  try refine codeAny_mono ?_ (fun _ _ g => GoodW.toG g)
  have K0 := below_caller (Top.heap T)
  have he := Dflts.none hD rfl; subst he; have he := Dflts.noKw hD; subst he
  refine call_cellsN (by decide) ho (fd_plain hd) (Top.nolimit T) hcd rfl (kinds_of (by kinds_ok)) (by decide) fun h₁ tk₁ cells F N0 X0 => ?_
  obtain ⟨o1, o2, o3, o4, o5, o6, o7, o8, o9, hcells, d1, d2, d3, d4, d5, d6, d7, d8, d9⟩ := kc_nine X0
  subst hcells
  clear hd TA X0 G Y V B TE TW M hcd hD ho
  clear ra w1 r0 hr hc2
  replace d9 : o9.data = .cell (some (.ref sl)) := d9
  replace d2 : o2.data = .cell none := d2
  replace d3 : o3.data = .cell none := d3
  replace d4 : o4.data = .cell none := d4
  replace d5 : o5.data = .cell none := d5
  replace d6 : o6.data = .cell none := d6
  replace d7 : o7.data = .cell none := d7
  replace d8 : o8.data = .cell none := d8
  replace d1 : o1.data = .cell none := d1
  have hl63 : ns.length ≤ 63 := by omega
  have q1 : In9 s₁.heap.objs.size (s₁.heap.objs.size + 1) := by unfold In9; omega
  have q2 : In9 s₁.heap.objs.size (s₁.heap.objs.size + 1 + 1) := by unfold In9; omega
  have q3 : In9 s₁.heap.objs.size (s₁.heap.objs.size + 1 + 1 + 1) := by unfold In9; omega
  have q4 : In9 s₁.heap.objs.size (s₁.heap.objs.size + 1 + 1 + 1 + 1) := by unfold In9; omega
  have q5 : In9 s₁.heap.objs.size (s₁.heap.objs.size + 1 + 1 + 1 + 1 + 1) := by unfold In9; omega
  have q6 : In9 s₁.heap.objs.size (s₁.heap.objs.size + 1 + 1 + 1 + 1 + 1 + 1) := by unfold In9; omega
  have q7 : In9 s₁.heap.objs.size (s₁.heap.objs.size + 1 + 1 + 1 + 1 + 1 + 1 + 1) := by unfold In9; omega
  have q8 : In9 s₁.heap.objs.size (s₁.heap.objs.size + 1 + 1 + 1 + 1 + 1 + 1 + 1 + 1) := by unfold In9; omega
  have q9 : In9 s₁.heap.objs.size (s₁.heap.objs.size + 1 + 1 + 1 + 1 + 1 + 1 + 1 + 1 + 1) := by unfold In9; omega
  k_drop
  try k_fold
  walk_at "go"
  refine' CallC.use (curves_c w _ _ _ _) ?B ?F ?X ?N ?T ?hk ?hd ?hu ?_
  walk_at "use"
  intro r h' tk' news' Fx Nx oo
  obtain ⟨l, items, rfl, ml, sb, hcv⟩ := oo
  have hk13 : ((atF ns 0).fmod 13).toNat < 13 := by have := fmod_rng (P := 13) (a := atF ns 0) (by decide); omega
  obtain ⟨kk, hkk⟩ : ∃ kk, kk = ((atF ns 0).fmod 13).toNat := ⟨_, rfl⟩
  rw [← hkk] at hk13
  obtain ⟨ca, t1, t2, t3, t4, t5, t6, hit, hca, hfr⟩ := hcv _ hk13
  obtain ⟨Tb, GG⟩ := good_all kk hk13
  obtain ⟨cc, hcc⟩ : ∃ cc, cc = curveAt kk := ⟨_, rfl⟩
  rw [← hcc] at hca GG
  clear hcc
  have Nx := News.sub (l' := (l, lst items) :: (ca, crv cc t1 t2 t3 t4 t5 t6) :: _) Nx (sub_cons ml (sub_cons hca sb))
  clear F N0 hcv ml sb hca
  have hnn := GG.ok.n1
  have hnm := GG.ok.n2
  have hn0 : 0 < cc.N := by omega
  try k_fold
  walk_at "go"
  refine' at_c w _ _ _ _ sl vs ns 0 _ (by assumption) hl63 (by decide) (by decide) _ _ _ _ _ _ _ _ _ _ _ _ _ _ _ _ _ IL ?B ?F ?X ?N ?T ?hk ?hd ?hu ?_
  walk_at "use"
  intro t h' tk' Fx Nx
  try k_fold
  walk_at "go"
  (rename Eqn _ (Int.fmod _ 13) => hr); (rename _ < (13 : Int) => hr1); (rename (0 : Int) ≤ _ => hr0); (rename News _ _ _ _ => Nx)
  refine sub_lst Nx (.head _) hr0 (by omega) (by rw [hr.eq, ← hkk]; exact hit) ?_
  have hfr9 : s₁.heap.objs.size + 9 < ca := hfr (_, o1) (.head _)
  have Nx := News.sub (l' := (ca, crv cc t1 t2 t3 t4 t5 t6) :: _) Nx mem1
  clear hr hr1 hr0 hit hkk hfr hk13
  try k_fold
  walk_at "go"
  refine' at_c w _ _ _ _ sl vs ns 9 _ (by assumption) hl63 (by decide) (by decide) _ _ _ _ _ _ _ _ _ _ _ _ _ _ _ _ _ IL ?B ?F ?X ?N ?T ?hk ?hd ?hu ?_
  walk_at "use"
  intro t h' tk' Fx Nx
  try k_fold
  walk_at "go"
  (rename Eqn _ (Int.fmod _ 2) => hrf); (rename 0 ≤ _ => hf0); (rename _ < (2 : Int) => hf1)
  obtain ⟨form, hfe, hform⟩ := two_ex hf0 hf1
  subst hfe
  clear hrf hf0 hf1
  refine' at_c w _ _ _ _ sl vs ns 1 _ (by assumption) hl63 (by decide) (by decide) _ _ _ _ _ _ _ _ _ _ _ _ _ _ _ _ _ IL ?B ?F ?X ?N ?T ?hk ?hd ?hu ?_
  walk_at "use"
  intro t h' tk' Fx Nx
  try k_fold
  walk_at "go"
  (rename Eqn _ (Int.fmod (atF ns 1) 2) => hm); (rename _ < (2:Int) => hm1); (rename (0 : Int) ≤ _ => hm0)
  obtain ⟨n, hn, hn23⟩ := many_ex hm0 hm1
  (rename Fr _ _ _ _ => Fx); (rename News _ _ _ _ => Nx)
  rw [hn] at Fx
  clear hm hm0 hm1 hn
  obtain ⟨l, Nx, mDb, mca, h9⟩ := led0 (n := s₁.heap.objs.size) Nx (out_gt (by dsimp only; omega)) (out_gt hfr9)
  (rename _ < _ ∧ _ => z1); clear z1; (rename _ < _ ∧ _ => z2); clear z2
  clear hfr9
  have hn3 : n ≤ 3 := by omega
  refine wpAny_Assign_Name ?_
  (rename Fr _ _ _ _ => Fx)
  k_dflt (refine LCg.ListComp_U (F₀ := Fx) (by rfl) (by decide) (by rfl) (by decide) (by rfl) ?_)
  walk_at "go"
  (rename Fr _ _ _ _ => Fx); (rename News _ _ _ _ => Nx)
  (rename IsRange _ _ _ _ _ _ _ _ => hr)
  refine LCg.CompSrc.range (n := n) (by rfl) Fx Nx hr (small_one (by omega) (by omega) (by omega) (by omega)) (rangeSize_nat _ _) (by rw [PySem.sizeLine_eq]; omega) ?_
  intro gh
  clear hr Fx Nx
  refine comp_ind (RowsI w form cc.N s₁.heap.objs.size _ _ _ _ _ _ _ _ _ l) ?_ ⟨l, [], rfl, fun _ h => h, h9, rfl, trivial⟩ ?_
  · intro i ys nw v hi inv hv I oI C oC D m' h tk E' hC hx Fx Nx off ne
    obtain ⟨l', cs, rfl, hs, h9', hlen', hR⟩ := inv
    obtain ⟨tv, rfl⟩ := hv
    have hi3 : i < 3 := by omega
    walk_at "go"
    refine' at_c w _ _ _ _ sl vs ns _ _ (by assumption) hl63 (by omega) (by omega) _ _ _ _ _ _ _ _ _ _ _ _ _ _ _ _ _ IL ?B ?F ?X ?N ?T ?hk ?hd ?hu ?_
    walk_at "use"
    intro t h' tk' Fx Nx
    try k_fold
    walk_at "go"
    refine' CallC.use (lawmade_e w _ _ _ _ _ _ cc.N hform _ _ _ hn0 hnm) ?B ?F ?X ?N ?T ?hk ?hd ?hu ?_
    walk_at "use"
    intro r h' tk' news' Fx Nx oo
    obtain ⟨c, c0, c1, x, dx, k1', k2', t1', t2', rfl, rfl, lx, mx⟩ := oo
    try k_fold
    walk_at "go"
    (rename Fr _ _ _ _ => Fx); (rename News _ _ _ _ => Nx)
    refine LCg.CompEnd.intro Fx Nx _ sub_2 (off_2 lx mx off) trivial ⟨_, cs ++ [c], rfl, fun p hp => mem2 _ (hs p hp), out_2 (lx _ mh3) mx h9', by simp [hlen'], RowsAt.snoc ⟨dx, _, _, _, _, mh0, mh1⟩ c0 c1 (hR.mono mem2)⟩
  intro ys nw inv
  obtain ⟨l2, cs, rfl, hs2, h92, hlc, hR⟩ := inv
  unfold LCg.FinE
  intro Dr h tk Fx Nx oDr
  obtain ⟨l3, Nx, mDr, hsub, h93⟩ := rot1 Nx (out_new (n := s₁.heap.objs.size) oDr) h92
  replace mDb := hsub _ (hs2 _ mDb)
  replace mca := hsub _ (hs2 _ mca)
  replace hR := hR.mono hsub
  clear oDr h9 hs2 h92 hsub
  try dsimp only
  try k_fold
  walk_at "go"
  have hcn : cs.length = 2 ∨ cs.length = 3 := by omega
  have hPb : PtO Tb 1 (tup [.int cc.Gx t5, .int cc.Gy t6]) := ⟨t5, t6, by rw [GG.base]⟩
  have hyl : ys.length = cs.length := hR.len
  have hmN : ∀ a : Int, 0 ≤ a % cc.N ∧ a % cc.N < cc.N := fun a => ⟨Int.emod_nonneg _ (by omega), Int.emod_lt_of_pos _ hn0⟩
  (rename Fr _ _ _ _ => Fx)
  k_dflt (refine LCg.Assign_ListComp_U (F₀ := Fx) (by rfl) (by with_unfolding_all rfl) (by rfl) (by decide) (by rfl) (by decide) (by rfl) (by rfl) (by rfl) ?_)
  walk_at "go"
  (rename Fr _ _ _ _ => Fx); (rename News _ _ _ _ => Nx)
  k_dflt (refine LCg.CompSrc.ledger (by rfl) Fx Nx (mem9 mDr) (by rw [List.size_toArray, PySem.sizeLine_eq]; omega) ?_)
  intro gh
  clear Fx Nx
  refine comp_ind (ShownI Tb cc.N s₁.heap.objs.size _ _ _ _ _ _ _ _ _ l3 cs) ?_ ⟨l3, rfl, fun _ h => h, h93, trivial⟩ ?_
  · intro i qs nw v hi inv hv I oI C oC D m' h tk E' hC hx Fx Nx off ne
    obtain ⟨l', rfl, hs, h9', hP⟩ := inv
    obtain ⟨x, c, rfl, hxa, c0, c1, hci⟩ := RowsAt.at i (hR.mono hs) (by simpa using hv)
    clear hv
    walk_at "go"
    refine' TreeC.use (opN w _ _ _ _ _ hform x c cc.N _ (hxa.mono fun _ h => mem3 _ (mem9 h))) ?B ?F ?X ?N ?T ?hk ?hd ?hu ?_
    walk_at "use"
    intro r h' tk' news' Fx Nx oo
    obtain ⟨rfl, tn, rfl⟩ := oo
    try k_fold
    walk_at "go"
    refine' CallC.use (mul_c w _ _ _ _ _ ca _ 1 _ _ _ _ _ _ _ _ (mem3 _ (mem9 (hs _ mDb))) (mem3 _ (mem9 (hs _ mca))) GG (by decide) (by omega) hPb c0 c1) ?B ?F ?X ?N ?T ?hk ?hd ?hu ?_
    walk_at "use"
    intro r h' tk' news' Fx Nx oo
    obtain ⟨q, oq, rfl, rfl, pq, lq⟩ := oo
    have pp := pq
    obtain ⟨ta, tb, rfl⟩ := pp
    try k_fold
    walk_at "go"
    (rename Fr _ _ _ _ => Fx); (rename News _ _ _ _ => Nx)
    refine LCg.CompEnd.intro Fx Nx _ sub_1 (off_1 lq off) (.inr ⟨_, mem9 (.tail _ (hs _ mDr)), rfl, _, rfl⟩) ⟨_, rfl, fun p hp => .tail _ (hs p hp), out_1 (lq _ mh3) h9', ?_⟩
    rw [take_snoc hci]
    exact PtsAt.snoc mh0 pq (hmN _).1 (hmN _).2 (hP.mono mem1)
  intro qs nw inv
  obtain ⟨l2, rfl, hs2, h92, hP⟩ := inv
  rw [List.size_toArray, take_all (by omega)] at hP
  unfold LCg.FinA
  intro Ds h tk Fx Nx oDs
  obtain ⟨l4, Nx, mDs, hsub, h94⟩ := rot1 Nx (out_new (n := s₁.heap.objs.size) oDs) h92
  replace mDb := hsub _ (hs2 _ mDb)
  replace mca := hsub _ (hs2 _ mca)
  replace mDr := hsub _ (hs2 _ mDr)
  replace hR := hR.mono (fun p h => hsub _ (hs2 _ h))
  replace hP := hP.mono hsub
  clear oDs h93 hs2 h92 hsub
  try dsimp only
  try k_fold
  walk_at "go"
  refine' at_c w _ _ _ _ sl vs ns 5 _ (by assumption) hl63 (by decide) (by decide) _ _ _ _ _ _ _ _ _ _ _ _ _ _ _ _ _ IL ?B ?F ?X ?N ?T ?hk ?hd ?hu ?_
  walk_at "use"
  intro t h' tk' Fx Nx
  try k_fold
  walk_at "go"
  (rename Eqn _ (Int.fmod (atF ns 5) 5) => hf5)
  (rename Fr _ _ _ _ => Fx)
  k_dflt (refine LCg.Assign_ListComp_U (F₀ := Fx) (by rfl) (by with_unfolding_all rfl) (by rfl) (by decide) (by rfl) (by decide) (by rfl) (by rfl) (by rfl) ?_)
  walk_at "go"
  (rename Fr _ _ _ _ => Fx); (rename News _ _ _ _ => Nx)
  (rename IsRange _ _ _ _ _ _ _ _ => hr)
  refine LCg.CompSrc.range (n := n) (by rfl) Fx Nx hr (small_one (by omega) (by omega) (by omega) (by omega)) (rangeSize_nat _ _) (by rw [PySem.sizeLine_eq]; omega) ?_
  intro gh
  clear hr Fx Nx
  refine comp_ind (PlacesI ns _ _ _ _ _ _ _ _ _ l4) ?_ ⟨rfl, rfl, fun j v h => by simp at h⟩ ?_
  · intro i zs nw v hi inv hv I oI C oC D m' h tk E' hC hx Fx Nx off ne
    obtain ⟨rfl, hzl, hPl⟩ := inv
    obtain ⟨tv, rfl⟩ := hv
    walk_at "go"
    refine' at_c w _ _ _ _ sl vs ns 6 _ (by assumption) hl63 (by decide) (by decide) _ _ _ _ _ _ _ _ _ _ _ _ _ _ _ _ _ IL ?B ?F ?X ?N ?T ?hk ?hd ?hu ?_
    walk_at "use"
    intro t h' tk' Fx Nx
    try k_fold
    walk_at "go"
    (rename Eqn _ (Int.fmod (atF ns 6) 4) => hs4); (rename Eqn _ (Int.fmod (_ + _) 5) => hr5)
    (rename Fr _ _ _ _ => Fx); (rename News _ _ _ _ => Nx)
    first | ((rename Eqn _ (_ * (1 + _)) => hmm); rw [pl_eq hf5 hs4 hmm hr5]; clear hmm) | rw [pl_eq hf5 hs4 (Eq.refl _) hr5]
    refine LCg.CompEnd.intro Fx Nx _ (fun p hp => hp) off trivial ⟨rfl, by simp [hzl], places_snoc hPl (by rw [hzl])⟩
  intro zs nw inv
  obtain ⟨rfl, hzl, hPl⟩ := inv
  unfold LCg.FinA
  intro Dp h tk Fx Nx oDp
  obtain ⟨l5, Nx, mDp, hsub, h95⟩ := rot1 Nx (out_new (n := s₁.heap.objs.size) oDp) h94
  replace mDb := hsub _ mDb
  replace mca := hsub _ mca
  replace mDr := hsub _ mDr
  replace mDs := hsub _ mDs
  replace hR := hR.mono hsub
  replace hP := hP.mono hsub
  clear oDp h94 hsub hf5
  try dsimp only
  try k_fold
  walk_at "go"
  (rename Fr _ _ _ _ => Fx)
  k_dflt (refine LCg.Assign_ListComp_U (F₀ := Fx) (by rfl) (by with_unfolding_all rfl) (by rfl) (by decide) (by rfl) (by decide) (by rfl) (by rfl) (by rfl) ?_)
  walk_at "go"
  (rename Fr _ _ _ _ => Fx); (rename News _ _ _ _ => Nx)
  k_dflt (refine LCg.CompSrc.ledger (by rfl) Fx Nx (mem9 mDp) (by rw [List.size_toArray, PySem.sizeLine_eq]; omega) ?_)
  intro gh
  clear Fx Nx
  refine comp_ind (SharesI w form cc.N ns cs s₁.heap.objs.size _ _ _ _ _ _ _ _ _ l5) ?_ ⟨l5, [], rfl, fun _ h => h, h95, trivial, rfl, fun j q h => by simp at h⟩ ?_
  · intro i ss nw v hi inv hv I oI C oC D m' h tk E' hC hx Fx Nx off ne
    obtain ⟨l', sh, rfl, hs, h9', hS, hshl, hOk⟩ := inv
    obtain ⟨tv, rfl⟩ := hPl i v (by simpa using hv)
    clear hv
    have pr := pl_rng ns (0 + (i : Int))
    obtain ⟨pi, hpi⟩ : ∃ p, p = plF ns (0 + (i : Int)) := ⟨_, rfl⟩
    rw [← hpi] at pr hx
    walk_at "go"
    refine' CallC.use (value_c w _ _ _ _ _ form hform Dr _ cs cc.N _ _ hn0 hnm hcn (mem3 _ (mem9 (hs _ mDr))) (hR.mono fun _ h => mem3 _ (mem9 (hs _ h)))) ?B ?F ?X ?N ?T ?hk ?hd ?hu ?_
    walk_at "use"
    intro r h' tk' news' Fx Nx oo
    obtain ⟨X, hX, X0, X1, v, dv, k1', k2', t1', t2', rfl, rfl, lv, mv⟩ := oo
    try k_fold
    walk_at "go2"
    (rename Fr _ _ _ _ => Fx); (rename News _ _ _ _ => Nx)
    refine newTup Fx Nx (by size_fits) ?_
    intro s h' Fx Nx ls
    try k_fold
    walk_at "go"
    (rename Fr _ _ _ _ => Fx); (rename News _ _ _ _ => Nx)
    refine LCg.CompEnd.intro Fx Nx _ sub_3 (off_3 lv mv ls off) (.inr ⟨_, mem9 (mem3 _ (hs _ mDp)), rfl, _, rfl⟩) ⟨_, sh ++ [(pi, X)], rfl, fun p hp => mem3 _ (hs p hp), out_3 (lv _ mh3) mv (ls _ mh5) h9', SharesAt.snoc mh0 ⟨dv, _, _, _, _, mh1, mh2⟩ X0 X1 pr.1 pr.2 (hS.mono mem3), by simp [hshl], hOk.snoc (by rw [hpi, hshl]) (hX.trans (Cg.of_eq (by simp)))⟩
  intro ss nw inv
  obtain ⟨l2, sh, rfl, hs2, h92, hS, hshl, hOk⟩ := inv
  rw [List.size_toArray, hzl] at hshl
  unfold LCg.FinA
  intro Dz h tk Fx Nx oDz
  obtain ⟨l6, Nx, mDz, hsub, h96⟩ := rot1 Nx (out_new (n := s₁.heap.objs.size) oDz) h92
  replace mDb := hsub _ (hs2 _ mDb)
  replace mca := hsub _ (hs2 _ mca)
  replace mDr := hsub _ (hs2 _ mDr)
  replace mDs := hsub _ (hs2 _ mDs)
  replace hR := hR.mono (fun p h => hsub _ (hs2 _ h))
  replace hP := hP.mono (fun p h => hsub _ (hs2 _ h))
  replace hS := hS.mono hsub
  clear oDz h95 hs2 h92 hsub mDp hPl hzl
  try dsimp only
  try k_fold
  walk_at "go"
  refine' at_c w _ _ _ _ sl vs ns 7 _ (by assumption) hl63 (by decide) (by decide) _ _ _ _ _ _ _ _ _ _ _ _ _ _ _ _ _ IL ?B ?F ?X ?N ?T ?hk ?hd ?hu ?_
  walk_at "use"
  intro t h' tk' Fx Nx
  try k_fold
  walk_at "go"
  (rename _ < (n : Int) => h71); (rename (0 : Int) ≤ _ => h70); (rename Eqn _ (Int.fmod (atF ns 7) _) => h7)
  clear h7
  obtain ⟨kk, rfl, hkn⟩ := pick_ex h70 h71
  obtain ⟨sa, vx, tp, pq, hsa, hshk, msa, hvx, X0, X1, p0, p1⟩ := hS.at kk (by omega)
  obtain ⟨pp, X⟩ := pq
  obtain ⟨hpp, hX⟩ := hOk kk _ hshk
  dsimp only at msa hvx X0 X1 p0 p1 hpp hX
  replace hX : Cg cc.N X (ev cs pp) := hX.trans (Cg.of_eq (by simp))
  (rename News _ _ _ _ => Nx)
  refine sub_lst Nx (mem9 mDz) (by omega) (by omega) (by rw [Int.toNat_natCast]; exact hsa) ?_
  have N2 := News.put Nx (mem9 msa)
  have osa : Out9 s₁.heap.objs.size sa := h96 _ msa
  clear Nx h70 h71
  try k_fold
  walk_at "go"
  refine' at_c w _ _ _ _ sl vs ns 8 _ (by assumption) hl63 (by decide) (by decide) _ _ _ _ _ _ _ _ _ _ _ _ _ _ _ _ _ IL ?B ?F ?X ?N ?T ?hk ?hd ?hu ?_
  walk_at "use"
  intro t h' tk' Fx Nx
  try k_fold
  walk_at "go"
  (rename Eqn _ (Int.fmod (atF ns 8) _) => h8); (rename _ < cc.N - 1 => h81); (rename (0 : Int) ≤ _ => h80)
  obtain ⟨mo, hme, hmo⟩ := mo_ex h80 h81
  subst hme
  clear h8 h80 h81
  (rename News _ _ _ _ => Nx)
  have N2 := News.sub Nx mem1
  clear Nx
  refine' CallC.use (shown_c w _ _ _ _ _ Ds ca qs _ pp _ _ _ _ _ _ _ _ GG (by rw [List.length_map]; omega) (mem9 mDs) (hP.mono fun _ h => mem9 h) (mem9 mca) p0 p1) ?B ?F ?X ?N ?T ?hk ?hd ?hu ?_
  walk_at "use"
  intro r h' tk' news' Fx Nx oo
  obtain ⟨td, otd, rfl, rfl, ptd, ltd⟩ := oo
  clear N2
  try k_fold
  walk_at "go"
  refine' TreeC.use (opN w _ _ _ _ _ hform vx X cc.N _ (hvx.mono fun _ h => mem1 _ (mem9 h))) ?B ?F ?X ?N ?T ?hk ?hd ?hu ?_
  walk_at "use"
  intro r h' tk' news' Fx Nx oo
  obtain ⟨rfl, tn, rfl⟩ := oo
  try k_fold
  walk_at "go"
  refine' CallC.use (mul_c w _ _ _ _ _ ca _ 1 _ _ _ _ _ _ _ _ (.tail _ (mem9 mDb)) (.tail _ (mem9 mca)) GG (by decide) (by omega) hPb X0 X1) ?B ?F ?X ?N ?T ?hk ?hd ?hu ?_
  walk_at "use"
  intro r h' tk' news' Fx Nx oo
  obtain ⟨ma, oma, rfl, rfl, pma, lma⟩ := oo
  have pp9 := pma
  obtain ⟨ta, tb, rfl⟩ := pp9
  try k_fold
  walk_at "go"
  refine' TreeC.use (opPtNe w _ _ _ _ ma td _ _ _ _ GG mh0 mh1 pma ptd (hmN _).1 (hmN _).2 (hmN _).1 (hmN _).2) ?B ?F ?X ?N ?T ?hk ?hd ?hu ?_
  walk_at "use"
  intro r h' tk' news' Fx Nx oo
  obtain ⟨rfl, hb⟩ := oo
  have hb := bool_t hb (told_g hX)
  subst hb
  try k_fold
  walk_at "go"
  refine' TreeC.use (opAddI w _ _ _ _ _ hform vx X cc.N _ _ hn0 hnm X0 X1 (hvx.mono fun _ h => mem2 _ (mem9 h))) ?B ?F ?X ?N ?T ?hk ?hd ?hu ?_
  walk_at "use"
  intro r h' tk' news' Fx Nx oo
  obtain ⟨wa, dwa, k1', k2', t1', t2', rfl, rfl, lwa, mwa⟩ := oo
  try k_fold
  walk_at "go"
  refine' TreeC.use (opN w _ _ _ _ _ hform wa _ cc.N _ FqNew.fq) ?B ?F ?X ?N ?T ?hk ?hd ?hu ?_
  walk_at "use"
  intro r h' tk' news' Fx Nx oo
  obtain ⟨rfl, tn, rfl⟩ := oo
  try k_fold
  walk_at "go"
  refine' CallC.use (mul_c w _ _ _ _ _ ca _ 1 _ _ _ _ _ _ _ _ (mem4 (mem9 mDb)) (mem4 (mem9 mca)) GG (by decide) (by omega) hPb (fmod_rng hn0).1 (fmod_rng hn0).2) ?B ?F ?X ?N ?T ?hk ?hd ?hu ?_
  walk_at "use"
  intro r h' tk' news' Fx Nx oo
  obtain ⟨mb, omb, rfl, rfl, pmb, lmb⟩ := oo
  have pp9 := pmb
  obtain ⟨ta, tb, rfl⟩ := pp9
  try k_fold
  walk_at "go"
  refine' TreeC.use (opPtEq w _ _ _ _ mb td _ _ _ _ GG mh0 mh4 pmb ptd (hmN _).1 (hmN _).2 (hmN _).1 (hmN _).2) ?B ?F ?X ?N ?T ?hk ?hd ?hu ?_
  walk_at "use"
  intro r h' tk' news' Fx Nx oo
  obtain ⟨rfl, hb⟩ := oo
  have hb := bool_f hb (more_ne GG.prN hnn hmo.1 hmo.2 (told_g hX))
  subst hb
  try k_fold
  walk_at "go"
  (rename News _ _ _ _ => Nx)
  have N2 := News.sub Nx (fun p hp => mem2 _ (mem3 _ hp))
  clear Nx lma lwa mwa lmb pma pmb ptd ltd
  refine' CallC.use (secret_c w _ _ _ _ _ form hform Dz ss sh cc.N _ _ hnn hnm GG.prN (mem9 mDz) (hS.mono fun _ h => mem9 h)) ?B ?F ?X ?N ?T ?hk ?hd ?hu ?_
  walk_at "use"
  intro r h' tk' news' Fx Nx oo
  obtain ⟨y, hy, y0, y1, xy, dxy, k1', k2', t1', t2', rfl, rfl, lxy, mxy⟩ := oo
  clear N2
  obtain ⟨x0, c0, hx0e, hx0, c00, c01, hc0⟩ := hR.fst (by omega)
  have hyr := right_g GG.prN hnn hcn (by omega) hOk hy hc0 y0 y1 c00 c01
  subst hyr
  try k_fold
  walk_at "go"
  (rename News _ _ _ _ => Nx)
  refine sub_lst Nx (mem2 _ (mem9 mDr)) (by decide) (by decide) hx0e ?_
  try k_fold
  walk_at "go"
  refine' TreeC.use (opNe w _ _ _ _ _ hform xy _ cc.N x0 _ FqNew.fq (hx0.mono fun _ h => mem2 _ (mem9 h))) ?B ?F ?X ?N ?T ?hk ?hd ?hu ?_
  walk_at "use"
  intro r h' tk' news' Fx Nx oo
  obtain ⟨rfl, hb⟩ := oo
  have hb := bool_ee hb
  subst hb
  try k_fold
  walk_at "go"
  (rename Fr _ _ _ _ => Fx)
  k_dflt (refine PyProof.Rows.LCp.ListComp_P (F₀ := Fx) (by with_unfolding_all rfl) (by decide) (by rfl) (by decide) (by rfl) (by rfl) (by decide) ?_)
  walk_at "go"
  (rename Fr _ _ _ _ => Fx); (rename News _ _ _ _ => Nx)
  have N2 := News.sub Nx mem2
  clear Nx lxy mxy
  k_dflt (refine PyProof.Rows.LCp.SrcLP.ledger (by rfl) Fx N2 (mem9 mDz) (by rw [List.size_toArray, PySem.sizeLine_eq, hS.len]; omega) ?_)
  intro gh
  clear Fx N2
  refine compP_ind (WrongI w form cc.N (1 + mo) kk ns cs s₁.heap.objs.size _ _ _ _ _ _ _ _ _ l6) ?_ ⟨l6, [], rfl, fun _ h => h, h96, trivial, rfl, fun j q h => by simp at h⟩ ?_
  · intro i zs nw v hi inv hv
    obtain ⟨l', shw, rfl, hs, h9', hW, hwl, hOw⟩ := inv
    rw [List.size_toArray, hS.len] at hi
    obtain ⟨s, x, tq, q, hse, hqe, ms, ⟨dx, e1, e2, e3, e4, mx, mdx⟩, V0, V1, qp0, qp1⟩ := hS.at i hi
    obtain ⟨p, V⟩ := q
    obtain ⟨hp, hV⟩ := hOk i _ hqe
    dsimp only at ms mdx V0 V1 qp0 qp1 hp hV
    obtain rfl : .ref s = v := Option.some.inj (hse.symm.trans (by simpa using hv))
    refine ⟨s, _, _, rfl, mem9 (hs _ ms), ?_⟩
    intro I oI C oC D m' h tk E' hC hx hx2 Fx Nx off ne
    walk_at "go2"
    (rename Fr _ _ _ _ => Fx); (rename News _ _ _ _ => Nx)
    refine cutZ (w := w) (C₀ := clF form) (N := cc.N) (n := s₁.heap.objs.size) (I := I) (C := C) (D := D) (fun X' => Cg cc.N X' (ev cs p + (if plF ns (0 + (i : Int)) = plF ns (0 + (kk : Int)) then 1 else 0) * (1 + mo))) Fx Nx ?_ ?_
    · rcases eq_or_nq p pp with he | hn
      · have hif : plF ns (0 + (i : Int)) = plF ns (0 + (kk : Int)) := hp.symm.trans (he.trans hpp)
        subst he
        walk_at "go"
        refine' TreeC.use (opAddI w _ _ _ _ _ hform x V cc.N _ _ hn0 hnm V0 V1 ⟨dx, _, _, _, _, mem3 _ (mem9 (hs _ mx)), mem3 _ (mem9 (hs _ mdx))⟩) ?B ?F ?X ?N ?T ?hk ?hd ?hu ?_
        walk_at "use"
        intro r h' tk' news' Fx Nx oo
        obtain ⟨nz, dnz, k1', k2', t1', t2', rfl, rfl, lnz, mnz⟩ := oo
        try k_fold
        walk_at "go"
        (rename Fr _ _ _ _ => Fx); (rename News _ _ _ _ => Nx)
        unfold ZOut
        exact ⟨nz, dnz, _, _, _, _, _, _, _, rfl, rfl, Fx, Nx, ⟨Nat.ne_of_gt (Nat.lt_trans (lnz _ mh0) mnz), Nat.ne_of_gt (Nat.lt_trans (lnz _ mh1) mnz), Nat.ne_of_gt (Nat.lt_trans (lnz _ mh2) mnz)⟩, ⟨Nat.ne_of_gt (lnz _ mh0), Nat.ne_of_gt (lnz _ mh1), Nat.ne_of_gt (lnz _ mh2)⟩, out_gt (Nat.lt_trans (lnz _ mh3) mnz), out_gt (lnz _ mh3), (fmod_rng hn0).1, (fmod_rng hn0).2, by rw [if_pos hif]; exact val_more hn0 (hV.trans (Cg.of_eq (by simp)))⟩
      · walk_at "go"
        (rename Fr _ _ _ _ => Fx); (rename News _ _ _ _ => Nx)
        unfold ZOut
        exact ⟨x, dx, V, e1, e2, e3, e4, _, _, rfl, rfl, Fx, News.put (News.put Nx (mem3 _ (mem9 (hs _ mdx)))) (mem1 _ (mem3 _ (mem9 (hs _ mx)))), off.mem _ (mem9 (hs _ mx)), off.mem _ (mem9 (hs _ mdx)), h9' _ (hs _ mx), h9' _ (hs _ mdx), V0, V1, by rw [if_neg (fun e => hn (hp.trans (e.trans hpp.symm)))]; exact val_same (hV.trans (Cg.of_eq (by simp)))⟩
    · intro z dz X' g1 g2 u1 u2 h' tk' Fx Nx oz odz o9z o9dz X0' X1' hG
      try k_fold
      walk_at "go2"
      (rename Fr _ _ _ _ => Fx); (rename News _ _ _ _ => Nx)
      refine newTup Fx Nx (by size_fits) ?_
      intro zt h' Fx Nx lzt
      try k_fold
      walk_at "go"
      (rename Fr _ _ _ _ => Fx); (rename News _ _ _ _ => Nx)
      refine LCg.CompEnd.intro Fx Nx _ sub_3 (off_z lzt oz odz off) (.inr ⟨_, mem9 (mem3 _ (hs _ mDz)), rfl, _, rfl⟩) ⟨_, shw ++ [(p, X')], rfl, fun p hp => mem3 _ (hs p hp), out_z (lzt _ mh5) o9z o9dz h9', SharesAt.snoc mh0 ⟨dz, _, _, _, _, mh1, mh2⟩ X0' X1' qp0 qp1 (hW.mono mem3), by simp [hwl], hOw.snoc (by rw [hp, hwl]) (by rw [hwl]; exact hG)⟩
  intro zs nw inv
  obtain ⟨l7, shw, rfl, hs2, h97, hW, hwl, hOw⟩ := inv
  rw [List.size_toArray, hS.len] at hwl
  unfold LCg.FinE
  intro Dw h tk Fx Nx oDw
  obtain ⟨l8, Nx, mDw, hsub, h98⟩ := rot1 Nx (out_new (n := s₁.heap.objs.size) oDw) h97
  replace mDb := hsub _ (hs2 _ mDb)
  replace mca := hsub _ (hs2 _ mca)
  replace mDr := hsub _ (hs2 _ mDr)
  replace mDs := hsub _ (hs2 _ mDs)
  replace hx0 := hx0.mono (fun p h => hsub _ (hs2 _ h))
  replace hP := hP.mono (fun p h => hsub _ (hs2 _ h))
  replace hW := hW.mono hsub
  clear oDw h96 hs2 h97 hsub
  try dsimp only
  try k_fold
  walk_at "go"
  refine' CallC.use (secret_c w _ _ _ _ _ form hform Dw zs shw cc.N _ _ hnn hnm GG.prN (mem9 mDw) (hW.mono fun _ h => mem9 h)) ?B ?F ?X ?N ?T ?hk ?hd ?hu ?_
  walk_at "use"
  intro r h' tk' news' Fx Nx oo
  obtain ⟨yw, hyw, yw0, yw1, xyw, dxyw, k1', k2', t1', t2', rfl, rfl, lxyw, mxyw⟩ := oo
  have hwr := wrong_g GG.prN hnn hcn (by omega) hOw (by omega) hyw hc0 hmo.1 hmo.2
  try k_fold
  walk_at "go"
  (rename News _ _ _ _ => Nx)
  refine sub_lst Nx (mem2 _ (mem9 mDr)) (by decide) (by decide) hx0e ?_
  try k_fold
  walk_at "go"
  refine' TreeC.use (opNe w _ _ _ _ _ hform xyw _ cc.N x0 _ FqNew.fq (hx0.mono fun _ h => mem2 _ (mem9 h))) ?B ?F ?X ?N ?T ?hk ?hd ?hu ?_
  walk_at "use"
  intro r h' tk' news' Fx Nx oo
  obtain ⟨rfl, hb⟩ := oo
  have hb := bool_en hb hwr
  subst hb
  try k_fold
  walk_at "go"
  refine' TreeC.use (opN w _ _ _ _ _ hform xyw _ cc.N _ FqNew.fq) ?B ?F ?X ?N ?T ?hk ?hd ?hu ?_
  walk_at "use"
  intro r h' tk' news' Fx Nx oo
  obtain ⟨rfl, tn, rfl⟩ := oo
  try k_fold
  walk_at "go"
  refine' CallC.use (mul_c w _ _ _ _ _ ca _ 1 _ _ _ _ _ _ _ _ (mem2 _ (mem9 mDb)) (mem2 _ (mem9 mca)) GG (by decide) (by omega) hPb yw0 yw1) ?B ?F ?X ?N ?T ?hk ?hd ?hu ?_
  walk_at "use"
  intro r h' tk' news' Fx Nx oo
  obtain ⟨me, ome, rfl, rfl, pme, lme⟩ := oo
  have pp9 := pme
  obtain ⟨ta, tb, rfl⟩ := pp9
  try k_fold
  walk_at "go"
  obtain ⟨q0, oq0, hq0, mq0, pq0⟩ := hP.fst hc0
  (rename News _ _ _ _ => Nx)
  refine sub_lst Nx (mem3 _ (mem9 mDs)) (by decide) (by decide) hq0 ?_
  try k_fold
  walk_at "go"
  refine' TreeC.use (opPtNe w _ _ _ _ me q0 _ _ _ _ GG mh0 (mem3 _ (mem9 mq0)) pme pq0 (hmN _).1 (hmN _).2 (hmN _).1 (hmN _).2) ?B ?F ?X ?N ?T ?hk ?hd ?hu ?_
  walk_at "use"
  intro r h' tk' news' Fx Nx oo
  obtain ⟨rfl, hb⟩ := oo
  have hb := bool_nt hb (ne_idx yw0 yw1 c00 c01 hwr)
  subst hb
  try k_fold
  walk_at "go"
  kc_close
  all_goals (exfalso; omega))

end Mine
theorem PySem.Challenge.cw_af0014_01_holds : PySem.Challenge.rw_af0014_01.Holds := by
  exact Mine.holds
